import JvmDerived
import JvmDerived.Pilot.@@N@@Statement
import JvmDerived.Pilot.@@N@@Code
set_option linter.unusedVariables false
set_option linter.unusedSimpArgs false
namespace Jvm.Pilot.@@N@@
open Jvm Jvm.ClassFile Sem Op Lib Jvm.Free Jvm.Stand Jvm.LawKit Jvm.RoadKit Bundle Jvm.Pilot.@@N@@.Jvm.D
section OwnRun
variable {p : Program} {l : Launch} {e : Env} {R : Room} {s : State} {m : MethodId} {args : Array Value} {below : List Frame} {meth : Method} {c : Code} {T T' : State} {locs : List Loc} {cells slots : Nat}
/-- from here the run ends, as G says -/
def own_Run (p : Program) (e : Env) (below : List Frame) (G : Outcome → State → Prop) (T : State) (g : JFrame) : Prop :=
  ∃ s₂ o, Steps p.tables e below (T.setTop g) s₂ ∧ s₂.status = .running ∧ Ended s₂ below o ∧ G o s₂
theorem own_go {G : Outcome → State → Prop} {g g' : JFrame} (h : ∀ t, Steps p.tables e below (T'.setTop g') t → Steps p.tables e below (T.setTop g) t) (k : own_Run p e below G T' g') : own_Run p e below G T g := by
  obtain ⟨s₂, o, h1, h2, h3, h4⟩ := k
  exact ⟨s₂, o, h _ h1, h2, h3, h4⟩
theorem own_goT {G : Outcome → State → Prop} {g g' : JFrame} (h : Steps p.tables e below (T.setTop g) (T'.setTop g')) (k : own_Run p e below G T' g') : own_Run p e below G T g :=
  own_go (fun _ q => h.trans q) k
theorem own_start {G : Outcome → State → Prop} {f f' : JFrame} (h : f = f') (k : own_Run p e below G T f') : ∃ s₂ o, Steps p.tables e below (T.setTop f) s₂ ∧ s₂.status = .running ∧ Ended s₂ below o ∧ G o s₂ := by
  subst h
  exact k
theorem own_done {Q : Option Value → Heap → List Loc → Prop} {C N : Nat} {g : JFrame} (X : Stand p l e R s m args below meth c T locs cells slots) {v : Option Value} (hv : meth.sig.returnType = none → v = none) (hlocks : meth.locks = false)
    (hstep : ∀ fs, (∀ (f : JFrame) (acts : List Action), f.method = m → f.locked = none → f.entered = [] → (doReturn e (T.setTop f) acts v).1 = T.setFrames fs) → Steps p.tables e below (T.setTop g) (T.setFrames fs))
    (hQ : Q v T.heap locs) (hc : cells ≤ C) (hs : slots ≤ N) :
    own_Run p e below (fun o U' => ∃ v L, o = .returned v ∧ Q v U'.heap L ∧ FrameEnd s o U' L C N) T g := by
  obtain ⟨fs, hr, hrun, hended, hW, hsame⟩ := X.leave hv hlocks
  exact ⟨_, _, hstep fs hr, hrun, hended, _, _, rfl, hQ, ⟨_, rfl⟩, hW, hsame.mono hc hs⟩
theorem own_doneW {vm₁ : Vm} {n : Nat} {Q : Option Value → Heap → List Loc → Prop} {C N : Nat} {g : JFrame} (X : Stand p l e R (s.setVm vm₁) m args below meth c T locs cells slots) (hS : s.Since vm₁ n) (hn : n ≤ T.heap.size) {v : Option Value} (hv : meth.sig.returnType = none → v = none) (hlocks : meth.locks = false)
    (hstep : ∀ fs, (∀ (f : JFrame) (acts : List Action), f.method = m → f.locked = none → f.entered = [] → (doReturn e (T.setTop f) acts v).1 = T.setFrames fs) → Steps p.tables e below (T.setTop g) (T.setFrames fs))
    (hQ : Q v T.heap locs) (hc : cells ≤ C) (hs : slots ≤ N) :
    own_Run p e below (fun o U' => ∃ v L, o = .returned v ∧ Q v U'.heap L ∧ ReturnedEndW s o U' L C N) T g := by
  obtain ⟨fs, hr, hrun, hended, a, b, d, hsame⟩ := X.leaveW hS hn hv hlocks
  exact ⟨_, _, hstep fs hr, hrun, hended, _, _, rfl, hQ, a, b, d, hsame.mono hc hs⟩
theorem own_mono {cells' slots' : Nat} (X : Stand p l e R s m args below meth c T locs cells slots) (hc : cells ≤ cells') (hs : slots ≤ slots') : Stand p l e R s m args below meth c T locs cells' slots' :=
  ⟨X.admits, X.cas, X.clock, X.frames, X.room, X.hears, X.method, X.code, X.here, X.tail, X.warmed, X.limits, X.bytes, X.same.mono hc hs⟩
theorem own_retI (X : Stand p l e R s m args below meth c T locs cells slots) (hx : p.tables.exec = Jvm.exec) {pc : Nat} {Ls : Array Slot} {z : Int32} {rest : List Value} (hret : meth.sig.returnType = some .int) (hd : decode c.code pc = .ok (.ireturn, 1)) {fs : List Frame}
    (hl : ∀ (f : JFrame) (acts : List Action), f.method = m → f.locked = none → f.entered = [] → (doReturn e (T.setTop f) acts (some (.int z))).1 = T.setFrames fs) : Steps p.tables e below (T.setTop (mkF m pc Ls (.int z :: rest))) (T.setFrames fs) :=
  retOut X hx hret rfl (Or.inl ⟨rfl, Or.inl rfl, z, rfl⟩) hd hl
theorem own_retL (X : Stand p l e R s m args below meth c T locs cells slots) (hx : p.tables.exec = Jvm.exec) {pc : Nat} {Ls : Array Slot} {z : Int64} {rest : List Value} (hret : meth.sig.returnType = some .long) (hd : decode c.code pc = .ok (.lreturn, 1)) {fs : List Frame}
    (hl : ∀ (f : JFrame) (acts : List Action), f.method = m → f.locked = none → f.entered = [] → (doReturn e (T.setTop f) acts (some (.long z))).1 = T.setFrames fs) : Steps p.tables e below (T.setTop (mkF m pc Ls (.long z :: rest))) (T.setFrames fs) :=
  retOut X hx hret rfl (Or.inr (Or.inl ⟨rfl, rfl, z, rfl⟩)) hd hl
theorem own_retA {t : FieldType} (X : Stand p l e R s m args below meth c T locs cells slots) (hx : p.tables.exec = Jvm.exec) {pc : Nat} {Ls : Array Slot} {w : Value} {rest : List Value} (hret : meth.sig.returnType = some t) (ht : t.isReference = true) (hn : narrow t w = w) (hw : w.isRef = true) (hd : decode c.code pc = .ok (.areturn, 1)) {fs : List Frame}
    (hl : ∀ (f : JFrame) (acts : List Action), f.method = m → f.locked = none → f.entered = [] → (doReturn e (T.setTop f) acts (some w)).1 = T.setFrames fs) : Steps p.tables e below (T.setTop (mkF m pc Ls (w :: rest))) (T.setFrames fs) :=
  retOut X hx hret hn (Or.inr (Or.inr (Or.inr (Or.inr ⟨rfl, ht, hw⟩)))) hd hl
theorem own_ns {Z : State} {h : Heap} {a : Addr} {C : String} (E : Exa Z h a C) : ∃ c : Cell, h[a]? = some c ∧ c.vm.isStatics = false := by
  obtain ⟨c, k, h1, -, -, h4, -⟩ := E
  exact ⟨c, h1, h4⟩
theorem own_nsV {Z : State} {h : Heap} {a : Addr} {k : ClassId} {ty : FieldType} {n : Int32} {vs : List Value} {d : Value} (V : Arv Z h a k ty n vs d) : ∃ c : Cell, h[a]? = some c ∧ c.vm.isStatics = false := by
  obtain ⟨c, A, -⟩ := V
  exact ⟨c, A.1, A.plain⟩
theorem own_staKeep {Z : State} {h h' : Heap} {ws : List Addr} {C n d : String} {w : Value} (F : Sta Z h C n d w) (K : Keep h h' ws) (q : ∀ x ∈ ws, ∃ c : Cell, h[x]? = some c ∧ c.vm.isStatics = false) : Sta Z h' C n d w := by
  obtain ⟨cf, i, k, f, st, cell, h1, h2, h3, h4, h5, h6, h7⟩ := F
  refine ⟨cf, i, k, f, st, cell, h1, h2, h3, h4, K.2.1 st cell h5 (fun hm => ?_), h6, h7⟩
  obtain ⟨c, e1, e2⟩ := q st hm
  cases h5.symm.trans e1
  rw [h6] at e2; cases e2
theorem own_eqL {args : Array Value} {first s : State} {o : Option Outcome} {idx : List Nat} {t : Term} {n : Int64} (h : (Jvm.Cond.eq t (Term.long n)).value args first o s idx = some true) : t.eval args first o idx s = some (.long n) := by
  cases ht : t.eval args first o idx s with
  | none => simp [Cond.value, ht] at h
  | some x => cases x <;> simp [Cond.value, ht, Term.eval] at h ⊢ <;> exact h
theorem own_eqI {args : Array Value} {first s : State} {o : Option Outcome} {idx : List Nat} {t : Term} {n : Int32} (h : (Jvm.Cond.eq t (Term.int n)).value args first o s idx = some true) : t.eval args first o idx s = some (.int n) := by
  cases ht : t.eval args first o idx s with
  | none => simp [Cond.value, ht] at h
  | some x => cases x <;> simp [Cond.value, ht, Term.eval] at h ⊢ <;> exact h
theorem own_eqR {args : Array Value} {first s : State} {o : Option Outcome} {idx : List Nat} {t u : Term} {x : Addr} (h : (Jvm.Cond.eq t u).value args first o s idx = some true) (hu : u.eval args first o idx s = some (.ref x)) : t.eval args first o idx s = some (.ref x) := by
  cases ht : t.eval args first o idx s with
  | none => simp [Cond.value, ht] at h
  | some y => cases y <;> simp [Cond.value, ht, hu] at h ⊢ <;> exact h
theorem own_nf {s : State} {args : Array Value} {C : String} {y y' : MethodName} (hsel : (Jvm.Cond.selects C y y).before args s = true) (hc : y'.cls = y.cls) : NotFace s y' := fun r0 h0 => by
  obtain ⟨c2, r2, m2, q1, q2, q3, q4, kP, hkP, hkPi⟩ := Cond.selects_spec hsel
  have a := findClass_of_methodNamed q3
  have b := findClass_of_methodNamed h0
  rw [hc] at b
  have e := Option.some.inj (a.symm.trans b)
  exact ⟨kP, by rw [← e]; exact hkP, hkPi⟩
theorem own_selP {s : State} {args args' : Array Value} {C : String} {y y' : MethodName} (hsel : (Jvm.Cond.selects C y' y').before args s = true) (hc : y.cls = y'.cls) (hpriv : s.PrivateAt y) (hinst : (Jvm.Cond.instanceMethod y).before args' s = true) (hy : y.cls ≠ "java/lang/invoke/MethodHandle" ∧ y.cls ≠ "java/lang/invoke/VarHandle") : (Jvm.Cond.selects y.cls y y).before args' s = true := by
  obtain ⟨mk, methM, hnamed, -, -, -⟩ := Cond.instanceMethod_spec hinst
  obtain ⟨k, hk, hni⟩ := own_nf hsel hc mk hnamed
  exact selects_self_of_private (findClass_of_methodNamed hnamed) hk hni hpriv hinst hy
end OwnRun
theorem own_lcLt {x y : Int64} (h : x < y) : lcmpW x y = -1 := by
  have h1 : ¬ (x > y) := by simp only [GT.gt, Int64.lt_iff_toInt_lt] at h ⊢; omega
  have h2 : ¬ (x = y) := by rintro rfl; exact Int64.lt_irrefl h
  simp [lcmpW, h1, h2]
theorem own_lcGt {x y : Int64} (h : y < x) : lcmpW x y = 1 := by
  have h1 : x > y := h
  simp [lcmpW, h1]
theorem own_lcEq {x y : Int64} (h : x = y) : lcmpW x y = 0 := by
  subst h
  have h1 : ¬ (x > x) := Int64.lt_irrefl
  simp [lcmpW, h1]
theorem own_lcNlt {x y : Int64} (h : ¬ x < y) : lcmpW x y = 0 ∨ lcmpW x y = 1 := by
  by_cases q : x = y
  · exact Or.inl (own_lcEq q)
  · refine Or.inr (own_lcGt ?_)
    simp only [Int64.lt_iff_toInt_lt, ← Int64.toInt_inj] at h q ⊢; omega
theorem own_lcNgt {x y : Int64} (h : ¬ y < x) : lcmpW x y = 0 ∨ lcmpW x y = -1 := by
  by_cases q : x = y
  · exact Or.inl (own_lcEq q)
  · refine Or.inr (own_lcLt ?_)
    simp only [Int64.lt_iff_toInt_lt, ← Int64.toInt_inj] at h q ⊢; omega
theorem own_lcNe {x y : Int64} (h : ¬ x = y) : lcmpW x y = 1 ∨ lcmpW x y = -1 := by
  by_cases q : x < y
  · exact Or.inr (own_lcLt q)
  · refine Or.inl (own_lcGt ?_)
    simp only [Int64.lt_iff_toInt_lt, ← Int64.toInt_inj] at h q ⊢; omega
theorem own_lcT {x y : Int64} (h : x < y) : ifCond.holds .lt (lcmpW x y) = true ∧ ifCond.holds .ge (lcmpW x y) = false ∧ ifCond.holds .gt (lcmpW y x) = true ∧ ifCond.holds .le (lcmpW y x) = false := by
  rw [own_lcLt h, own_lcGt h]; decide
theorem own_lcF {x y : Int64} (h : ¬ x < y) : ifCond.holds .lt (lcmpW x y) = false ∧ ifCond.holds .ge (lcmpW x y) = true ∧ ifCond.holds .gt (lcmpW y x) = false ∧ ifCond.holds .le (lcmpW y x) = true := by
  rcases own_lcNlt h with q | q <;> rcases own_lcNgt (x := y) (y := x) h with r | r <;> rw [q, r] <;> decide
theorem own_lcTe {x y : Int64} (h : x = y) : ifCond.holds .eq (lcmpW x y) = true ∧ ifCond.holds .ne (lcmpW x y) = false := by
  rw [own_lcEq h]; decide
theorem own_lcFe {x y : Int64} (h : ¬ x = y) : ifCond.holds .eq (lcmpW x y) = false ∧ ifCond.holds .ne (lcmpW x y) = true := by
  rcases own_lcNe h with q | q <;> rw [q] <;> decide
abbrev own_K0 : String := "com/example/error_to_hazard/errortohazard/analysis/NodeTable"
abbrev own_K1 : String := "com/example/error_to_hazard/errortohazard/analysis/NodeTableReachablePinLaw"
theorem own_maskI (x : Int32) (M : Nat) (hM : M < 2 ^ 31) : (x &&& Int32.ofNat M).toInt = ((x.toBitVec.toNat &&& M : Nat) : Int) := by
  have h1 : (x &&& Int32.ofNat M).toBitVec.toNat = x.toBitVec.toNat &&& M := by
    rw [Int32.toBitVec_and, BitVec.toNat_and]
    congr 1
    show (BitVec.ofNat 32 M).toNat = M
    rw [BitVec.toNat_ofNat]; omega
  have h2 : x.toBitVec.toNat &&& M ≤ M := Nat.and_le_right
  rw [Int32.toInt, BitVec.toInt_eq_toNat_of_lt (by rw [h1]; omega), h1]
theorem own_mask0 (x : Int32) (M : Nat) (hM : M < 2 ^ 31) : 0 ≤ (x &&& Int32.ofNat M).toInt ∧ (x &&& Int32.ofNat M).toInt ≤ M := by
  rw [own_maskI x M hM]
  have h2 : x.toBitVec.toNat &&& M ≤ M := Nat.and_le_right
  omega
theorem own_rem (x : Int32) (k : Int32) (hx : 0 ≤ x.toInt) (hk : 0 < k.toInt) : 0 ≤ (x % k).toInt ∧ (x % k).toInt < k.toInt := by
  rw [Int32.toInt_mod]
  exact ⟨Int.tmod_nonneg _ hx, Int.tmod_lt_of_pos _ hk⟩
theorem own_bm (z : Int) (h1 : -2147483648 ≤ z) (h2 : z < 2147483648) : z.bmod (2 ^ 32) = z := by
  rw [Int.bmod_def]; split <;> omega
theorem own_addI (a b : Int32) (h1 : -2147483648 ≤ a.toInt + b.toInt) (h2 : a.toInt + b.toInt < 2147483648) : (a + b).toInt = a.toInt + b.toInt := by
  rw [Int32.toInt_add, own_bm _ h1 h2]
theorem own_subI (a b : Int32) (h1 : -2147483648 ≤ a.toInt - b.toInt) (h2 : a.toInt - b.toInt < 2147483648) : (a - b).toInt = a.toInt - b.toInt := by
  rw [Int32.toInt_sub, own_bm _ h1 h2]
theorem own_nz (a : Int32) (h : 0 < a.toInt) : a ≠ 0 := by
  rintro rfl; exact absurd h (by decide)
theorem own_ushr (x k : Int32) (n : Nat) (h : ((k &&& 31).toUInt32.toBitVec % 32).toNat = n) (hn : 0 < n) : ((x.toUInt32 >>> (k &&& 31).toUInt32).toInt32).toInt = ((x.toBitVec.toNat >>> n : Nat) : Int) ∧ x.toBitVec.toNat >>> n < 2 ^ (32 - n) := by
  have e : ((x.toUInt32 >>> (k &&& 31).toUInt32).toInt32).toBitVec = x.toBitVec >>> n := by
    show x.toBitVec >>> ((k &&& 31).toUInt32.toBitVec % 32) = _
    rw [BitVec.ushiftRight_eq', h]
  have hx : x.toBitVec.toNat < 2 ^ 32 := x.toBitVec.isLt
  have e2 : x.toBitVec.toNat >>> n < 2 ^ (32 - n) := by
    rw [Nat.shiftRight_eq_div_pow]
    rcases Nat.lt_or_ge n 32 with q | q
    · rw [Nat.div_lt_iff_lt_mul (Nat.two_pow_pos n), ← Nat.pow_add, Nat.sub_add_cancel (by omega)]; exact hx
    · rw [Nat.div_eq_of_lt (Nat.lt_of_lt_of_le hx (Nat.pow_le_pow_right (by decide) q))]; exact Nat.two_pow_pos _
  refine ⟨?_, e2⟩
  have e3 : 2 ^ (32 - n) ≤ 2 ^ 31 := Nat.pow_le_pow_right (by decide) (by omega)
  rw [Int32.toInt, e, BitVec.toInt_eq_toNat_of_lt (by rw [BitVec.toNat_ushiftRight]; omega), BitVec.toNat_ushiftRight]
theorem own_lit (a : Int32) (n : Int) (b : Int32) (h : a.toInt = n) (hb : b.toInt = n) : a = b := Int32.toInt_inj.mp (h.trans hb.symm)
theorem own_four (a : Int32) (h0 : 0 ≤ a.toInt) (h1 : a.toInt < 4) : a = 0 ∨ a = 1 ∨ a = 2 ∨ a = 3 := by
  have q : a.toInt = 0 ∨ a.toInt = 1 ∨ a.toInt = 2 ∨ a.toInt = 3 := by omega
  rcases q with q | q | q | q
  · exact Or.inl (own_lit _ _ _ q rfl)
  · exact Or.inr (Or.inl (own_lit _ _ _ q rfl))
  · exact Or.inr (Or.inr (Or.inl (own_lit _ _ _ q rfl)))
  · exact Or.inr (Or.inr (Or.inr (own_lit _ _ _ q rfl)))
theorem own_byte (a : Int32) (h0 : 0 ≤ a.toInt) (h1 : a.toInt < 128) : a.toInt8.toInt32 = a := by
  apply Int32.toInt_inj.mp
  rw [Int8.toInt_toInt32, Int32.toInt_toInt8, Int.bmod_def]; split <;> omega
theorem own_m2047 (x : Int32) (h0 : 0 ≤ x.toInt) : (x &&& (2047 : Int32)).toInt = x.toInt % 2048 := by
  have e : (x &&& (2047 : Int32)).toInt = ((x.toBitVec.toNat &&& 2047 : Nat) : Int) := own_maskI x 2047 (by decide)
  have e2 : x.toBitVec.toNat &&& 2047 = x.toBitVec.toNat % 2048 := Nat.and_two_pow_sub_one_eq_mod _ 11
  have e3 : x.toInt = (x.toBitVec.toNat : Int) := by
    rw [Int32.toInt] at h0 ⊢
    have l := x.toBitVec.isLt
    rw [BitVec.toInt_eq_toNat_cond] at h0 ⊢
    split at h0 <;> rename_i k
    · rw [if_pos k]
    · omega
  rw [e, e2, e3]; omega
/-- the next slot -/
def own_nx (y : Int32) : Int32 := (y + (1 : Int32)) &&& (2047 : Int32)
theorem own_nxI (y : Int32) (h : 0 ≤ y.toInt ∧ y.toInt < 2048) : (own_nx y).toInt = (y.toInt + 1) % 2048 := by
  have e1 : (1 : Int32).toInt = 1 := rfl
  have q : (y + (1 : Int32)).toInt = y.toInt + 1 := by rw [own_addI _ _ (by omega) (by omega), e1]
  rw [own_nx, own_m2047 _ (by omega), q]
def own_rg (y : Int32) : Prop := 0 ≤ y.toInt ∧ y.toInt < 2048
theorem own_nxR (y : Int32) (h : own_rg y) : own_rg (own_nx y) := by
  have := own_nxI y h
  unfold own_rg; omega
/-- within d steps a slot that none of the three is -/
def own_free (a b c : Int32) : Nat → Int32 → Prop
  | 0, y => y ≠ a ∧ y ≠ b ∧ y ≠ c
  | d + 1, y => (y ≠ a ∧ y ≠ b ∧ y ≠ c) ∨ own_free a b c d (own_nx y)
theorem own_pig (a b c y : Int32) (h : own_rg y) : own_free a b c 3 y := by
  have h1 := own_nxR y h
  have h2 := own_nxR _ h1
  have h3 := own_nxR _ h2
  have e1 := own_nxI y h
  have e2 := own_nxI _ h1
  have e3 := own_nxI _ h2
  unfold own_rg at h h1 h2 h3
  by_cases k0 : y ≠ a ∧ y ≠ b ∧ y ≠ c
  · exact Or.inl k0
  by_cases k1 : own_nx y ≠ a ∧ own_nx y ≠ b ∧ own_nx y ≠ c
  · exact Or.inr (Or.inl k1)
  by_cases k2 : own_nx (own_nx y) ≠ a ∧ own_nx (own_nx y) ≠ b ∧ own_nx (own_nx y) ≠ c
  · exact Or.inr (Or.inr (Or.inl k2))
  refine Or.inr (Or.inr (Or.inr ?_))
  show own_nx (own_nx (own_nx y)) ≠ a ∧ own_nx (own_nx (own_nx y)) ≠ b ∧ own_nx (own_nx (own_nx y)) ≠ c
  generalize own_nx (own_nx (own_nx y)) = y3 at *
  generalize own_nx (own_nx y) = y2 at *
  generalize own_nx y = y1 at *
  simp only [ne_eq, ← Int32.toInt_inj] at k0 k1 k2 ⊢
  omega
theorem own_rgH (x : Int32) : own_rg (x &&& (2047 : Int32)) := by
  have q := own_mask0 x 2047 (by decide)
  have q' : 0 ≤ (x &&& (2047 : Int32)).toInt ∧ (x &&& (2047 : Int32)).toInt ≤ 2047 := q
  unfold own_rg; omega
theorem own_rgIn (y : Int32) (h : own_rg y) : ¬ y < 0 ∧ y < (2048 : Int32) := by
  have e0 : (0 : Int32).toInt = 0 := rfl
  have e1 : (2048 : Int32).toInt = 2048 := rfl
  unfold own_rg at h
  rw [Int32.lt_iff_toInt_lt, Int32.lt_iff_toInt_lt, e0, e1]; omega
/-- what a node adds -/
def own_st (b l h i x : Int32) : Int32 := if ¬ b = 0 ∧ (l = i ∨ h = i) then 1 else x
def own_w (l i x : Int32) : Int32 := if l = i then 1 else x
def own_hit (l h x : Int32) : Int32 := if l = x ∨ h = x then 1 else 0
theorem own_stW (b l h i x : Int32) (hb : ¬ b = 0) : own_w h i (own_w l i x) = own_st b l h i x := by
  unfold own_w own_st
  by_cases h1 : h = i <;> by_cases h2 : l = i <;> simp [h1, h2, hb]
theorem own_st0 (b l h i x : Int32) (hb : b = 0) : own_st b l h i x = x := by simp [own_st, hb]
theorem own_stN (b l h i x : Int32) (hh : own_hit l h i = 0) : own_st b l h i x = x := by
  unfold own_hit at hh
  split at hh
  · exact absurd hh (by decide)
  · rename_i k
    simp [own_st, k]
theorem own_stY (b l h i x : Int32) (hb : ¬ b = 0) (hh : ¬ own_hit l h i = 0) : own_st b l h i x = 1 := by
  unfold own_hit at hh
  split at hh
  · rename_i k
    simp [own_st, k, hb]
  · exact absurd rfl hh
theorem own_st1 (b l h i : Int32) : own_st b l h i 1 = 1 := by simp [own_st]
theorem own_st01 (b l h i x : Int32) (hx : x = 0 ∨ x = 1) : own_st b l h i x = 0 ∨ own_st b l h i x = 1 := by
  unfold own_st
  split
  · exact Or.inr rfl
  · exact hx
theorem own_rt01 (r i : Int32) : (if r = i then (1 : Int32) else 0) = 0 ∨ (if r = i then (1 : Int32) else 0) = 1 := by
  split
  · exact Or.inr rfl
  · exact Or.inl rfl
theorem own_up2 (x : Int32) (n : Nat) (hn : n < 2 ^ 31) (h : 0 ≤ x.toInt ∧ x.toInt < n) : ∃ k : Nat, k < n ∧ x = Int32.ofNat k := by
  refine ⟨x.toInt.toNat, by omega, own_lit _ x.toInt _ rfl ?_⟩
  rw [Int32.toInt_ofNat_of_lt (by omega)]; omega
theorem own_r2 (x : Int32) (h : 0 ≤ x.toInt ∧ x.toInt < 2) : x = (0 : Int32) ∨ x = (1 : Int32) := by
  obtain ⟨k, hk, rfl⟩ := own_up2 x 2 (by decide) h
  match k, hk with
  | 0, _ => exact Or.inl rfl
  | 1, _ => exact Or.inr rfl
theorem own_r3 (x : Int32) (h : 0 ≤ x.toInt ∧ x.toInt < 3) : x = (0 : Int32) ∨ x = (1 : Int32) ∨ x = (2 : Int32) := by
  obtain ⟨k, hk, rfl⟩ := own_up2 x 3 (by decide) h
  match k, hk with
  | 0, _ => exact Or.inl rfl
  | 1, _ => exact Or.inr (Or.inl rfl)
  | 2, _ => exact Or.inr (Or.inr rfl)
theorem own_r4 (x : Int32) (h : 0 ≤ x.toInt ∧ x.toInt < 4) : x = (0 : Int32) ∨ x = (1 : Int32) ∨ x = (2 : Int32) ∨ x = (3 : Int32) := by
  obtain ⟨k, hk, rfl⟩ := own_up2 x 4 (by decide) h
  match k, hk with
  | 0, _ => exact Or.inl rfl
  | 1, _ => exact Or.inr (Or.inl rfl)
  | 2, _ => exact Or.inr (Or.inr (Or.inl rfl))
  | 3, _ => exact Or.inr (Or.inr (Or.inr rfl))
theorem own_r5 (x : Int32) (h : 0 ≤ x.toInt ∧ x.toInt < 5) : x = (0 : Int32) ∨ x = (1 : Int32) ∨ x = (2 : Int32) ∨ x = (3 : Int32) ∨ x = (4 : Int32) := by
  obtain ⟨k, hk, rfl⟩ := own_up2 x 5 (by decide) h
  match k, hk with
  | 0, _ => exact Or.inl rfl
  | 1, _ => exact Or.inr (Or.inl rfl)
  | 2, _ => exact Or.inr (Or.inr (Or.inl rfl))
  | 3, _ => exact Or.inr (Or.inr (Or.inr (Or.inl rfl)))
  | 4, _ => exact Or.inr (Or.inr (Or.inr (Or.inr rfl)))
theorem own_r6 (x : Int32) (h : 0 ≤ x.toInt ∧ x.toInt < 6) : x = (0 : Int32) ∨ x = (1 : Int32) ∨ x = (2 : Int32) ∨ x = (3 : Int32) ∨ x = (4 : Int32) ∨ x = (5 : Int32) := by
  obtain ⟨k, hk, rfl⟩ := own_up2 x 6 (by decide) h
  match k, hk with
  | 0, _ => exact Or.inl rfl
  | 1, _ => exact Or.inr (Or.inl rfl)
  | 2, _ => exact Or.inr (Or.inr (Or.inl rfl))
  | 3, _ => exact Or.inr (Or.inr (Or.inr (Or.inl rfl)))
  | 4, _ => exact Or.inr (Or.inr (Or.inr (Or.inr (Or.inl rfl))))
  | 5, _ => exact Or.inr (Or.inr (Or.inr (Or.inr (Or.inr rfl))))
theorem own_div (x k : Int32) (hx : 0 ≤ x.toInt) (hk : 1 < k.toInt) : 0 ≤ (x / k).toInt := by
  have l := Int32.toInt_lt x
  have q : x.toInt.tdiv k.toInt ≤ x.toInt := Int.tdiv_le_self _ hx
  have q2 : 0 ≤ x.toInt.tdiv k.toInt := Int.tdiv_nonneg hx (by omega)
  rw [Int32.toInt_div, own_bm _ (by omega) (by omega)]; exact q2
theorem own_addNe (x a b : Int32) (h : ¬ a = b) : ¬ (x + a = x + b) := fun k => h (Int32.add_right_inj x |>.mp k)
theorem own_addNe0 (x a : Int32) (h : ¬ a = 0) : ¬ (x + a = x) := fun k => h (by
  have q : x + a = x + 0 := by rw [k, Int32.add_zero]
  exact Int32.add_right_inj x |>.mp q)
def own_g0_6 (r l2 h2 l3 h3 l4 h4 l5 h5 : Int32) : Int32 := if r = (0 : Int32) then 1 else 0
def own_g1_6 (r l2 h2 l3 h3 l4 h4 l5 h5 : Int32) : Int32 := if r = (1 : Int32) then 1 else 0
def own_g2_6 (r l2 h2 l3 h3 l4 h4 l5 h5 : Int32) : Int32 := if r = (2 : Int32) then 1 else 0
def own_g3_6 (r l2 h2 l3 h3 l4 h4 l5 h5 : Int32) : Int32 := if r = (3 : Int32) then 1 else 0
def own_g4_6 (r l2 h2 l3 h3 l4 h4 l5 h5 : Int32) : Int32 := if r = (4 : Int32) then 1 else 0
def own_g5_6 (r l2 h2 l3 h3 l4 h4 l5 h5 : Int32) : Int32 := if r = (5 : Int32) then 1 else 0
def own_g0_5 (r l2 h2 l3 h3 l4 h4 l5 h5 : Int32) : Int32 := own_st (own_g5_6 r l2 h2 l3 h3 l4 h4 l5 h5) l5 h5 (0 : Int32) (own_g0_6 r l2 h2 l3 h3 l4 h4 l5 h5)
def own_g1_5 (r l2 h2 l3 h3 l4 h4 l5 h5 : Int32) : Int32 := own_st (own_g5_6 r l2 h2 l3 h3 l4 h4 l5 h5) l5 h5 (1 : Int32) (own_g1_6 r l2 h2 l3 h3 l4 h4 l5 h5)
def own_g2_5 (r l2 h2 l3 h3 l4 h4 l5 h5 : Int32) : Int32 := own_st (own_g5_6 r l2 h2 l3 h3 l4 h4 l5 h5) l5 h5 (2 : Int32) (own_g2_6 r l2 h2 l3 h3 l4 h4 l5 h5)
def own_g3_5 (r l2 h2 l3 h3 l4 h4 l5 h5 : Int32) : Int32 := own_st (own_g5_6 r l2 h2 l3 h3 l4 h4 l5 h5) l5 h5 (3 : Int32) (own_g3_6 r l2 h2 l3 h3 l4 h4 l5 h5)
def own_g4_5 (r l2 h2 l3 h3 l4 h4 l5 h5 : Int32) : Int32 := own_st (own_g5_6 r l2 h2 l3 h3 l4 h4 l5 h5) l5 h5 (4 : Int32) (own_g4_6 r l2 h2 l3 h3 l4 h4 l5 h5)
def own_g0_4 (r l2 h2 l3 h3 l4 h4 l5 h5 : Int32) : Int32 := own_st (own_g4_5 r l2 h2 l3 h3 l4 h4 l5 h5) l4 h4 (0 : Int32) (own_g0_5 r l2 h2 l3 h3 l4 h4 l5 h5)
def own_g1_4 (r l2 h2 l3 h3 l4 h4 l5 h5 : Int32) : Int32 := own_st (own_g4_5 r l2 h2 l3 h3 l4 h4 l5 h5) l4 h4 (1 : Int32) (own_g1_5 r l2 h2 l3 h3 l4 h4 l5 h5)
def own_g2_4 (r l2 h2 l3 h3 l4 h4 l5 h5 : Int32) : Int32 := own_st (own_g4_5 r l2 h2 l3 h3 l4 h4 l5 h5) l4 h4 (2 : Int32) (own_g2_5 r l2 h2 l3 h3 l4 h4 l5 h5)
def own_g3_4 (r l2 h2 l3 h3 l4 h4 l5 h5 : Int32) : Int32 := own_st (own_g4_5 r l2 h2 l3 h3 l4 h4 l5 h5) l4 h4 (3 : Int32) (own_g3_5 r l2 h2 l3 h3 l4 h4 l5 h5)
def own_g0_3 (r l2 h2 l3 h3 l4 h4 l5 h5 : Int32) : Int32 := own_st (own_g3_4 r l2 h2 l3 h3 l4 h4 l5 h5) l3 h3 (0 : Int32) (own_g0_4 r l2 h2 l3 h3 l4 h4 l5 h5)
def own_g1_3 (r l2 h2 l3 h3 l4 h4 l5 h5 : Int32) : Int32 := own_st (own_g3_4 r l2 h2 l3 h3 l4 h4 l5 h5) l3 h3 (1 : Int32) (own_g1_4 r l2 h2 l3 h3 l4 h4 l5 h5)
def own_g2_3 (r l2 h2 l3 h3 l4 h4 l5 h5 : Int32) : Int32 := own_st (own_g3_4 r l2 h2 l3 h3 l4 h4 l5 h5) l3 h3 (2 : Int32) (own_g2_4 r l2 h2 l3 h3 l4 h4 l5 h5)
def own_g0_2 (r l2 h2 l3 h3 l4 h4 l5 h5 : Int32) : Int32 := own_st (own_g2_3 r l2 h2 l3 h3 l4 h4 l5 h5) l2 h2 (0 : Int32) (own_g0_3 r l2 h2 l3 h3 l4 h4 l5 h5)
def own_g1_2 (r l2 h2 l3 h3 l4 h4 l5 h5 : Int32) : Int32 := own_st (own_g2_3 r l2 h2 l3 h3 l4 h4 l5 h5) l2 h2 (1 : Int32) (own_g1_3 r l2 h2 l3 h3 l4 h4 l5 h5)
theorem own_gb0_6 (r l2 h2 l3 h3 l4 h4 l5 h5 : Int32) : own_g0_6 r l2 h2 l3 h3 l4 h4 l5 h5 = 0 ∨ own_g0_6 r l2 h2 l3 h3 l4 h4 l5 h5 = 1 := own_rt01 r 0
theorem own_gb1_6 (r l2 h2 l3 h3 l4 h4 l5 h5 : Int32) : own_g1_6 r l2 h2 l3 h3 l4 h4 l5 h5 = 0 ∨ own_g1_6 r l2 h2 l3 h3 l4 h4 l5 h5 = 1 := own_rt01 r 1
theorem own_gb2_6 (r l2 h2 l3 h3 l4 h4 l5 h5 : Int32) : own_g2_6 r l2 h2 l3 h3 l4 h4 l5 h5 = 0 ∨ own_g2_6 r l2 h2 l3 h3 l4 h4 l5 h5 = 1 := own_rt01 r 2
theorem own_gb3_6 (r l2 h2 l3 h3 l4 h4 l5 h5 : Int32) : own_g3_6 r l2 h2 l3 h3 l4 h4 l5 h5 = 0 ∨ own_g3_6 r l2 h2 l3 h3 l4 h4 l5 h5 = 1 := own_rt01 r 3
theorem own_gb4_6 (r l2 h2 l3 h3 l4 h4 l5 h5 : Int32) : own_g4_6 r l2 h2 l3 h3 l4 h4 l5 h5 = 0 ∨ own_g4_6 r l2 h2 l3 h3 l4 h4 l5 h5 = 1 := own_rt01 r 4
theorem own_gb5_6 (r l2 h2 l3 h3 l4 h4 l5 h5 : Int32) : own_g5_6 r l2 h2 l3 h3 l4 h4 l5 h5 = 0 ∨ own_g5_6 r l2 h2 l3 h3 l4 h4 l5 h5 = 1 := own_rt01 r 5
theorem own_gb0_5 (r l2 h2 l3 h3 l4 h4 l5 h5 : Int32) : own_g0_5 r l2 h2 l3 h3 l4 h4 l5 h5 = 0 ∨ own_g0_5 r l2 h2 l3 h3 l4 h4 l5 h5 = 1 := own_st01 _ _ _ _ _ (own_gb0_6 r l2 h2 l3 h3 l4 h4 l5 h5)
theorem own_gb1_5 (r l2 h2 l3 h3 l4 h4 l5 h5 : Int32) : own_g1_5 r l2 h2 l3 h3 l4 h4 l5 h5 = 0 ∨ own_g1_5 r l2 h2 l3 h3 l4 h4 l5 h5 = 1 := own_st01 _ _ _ _ _ (own_gb1_6 r l2 h2 l3 h3 l4 h4 l5 h5)
theorem own_gb2_5 (r l2 h2 l3 h3 l4 h4 l5 h5 : Int32) : own_g2_5 r l2 h2 l3 h3 l4 h4 l5 h5 = 0 ∨ own_g2_5 r l2 h2 l3 h3 l4 h4 l5 h5 = 1 := own_st01 _ _ _ _ _ (own_gb2_6 r l2 h2 l3 h3 l4 h4 l5 h5)
theorem own_gb3_5 (r l2 h2 l3 h3 l4 h4 l5 h5 : Int32) : own_g3_5 r l2 h2 l3 h3 l4 h4 l5 h5 = 0 ∨ own_g3_5 r l2 h2 l3 h3 l4 h4 l5 h5 = 1 := own_st01 _ _ _ _ _ (own_gb3_6 r l2 h2 l3 h3 l4 h4 l5 h5)
theorem own_gb4_5 (r l2 h2 l3 h3 l4 h4 l5 h5 : Int32) : own_g4_5 r l2 h2 l3 h3 l4 h4 l5 h5 = 0 ∨ own_g4_5 r l2 h2 l3 h3 l4 h4 l5 h5 = 1 := own_st01 _ _ _ _ _ (own_gb4_6 r l2 h2 l3 h3 l4 h4 l5 h5)
theorem own_gb0_4 (r l2 h2 l3 h3 l4 h4 l5 h5 : Int32) : own_g0_4 r l2 h2 l3 h3 l4 h4 l5 h5 = 0 ∨ own_g0_4 r l2 h2 l3 h3 l4 h4 l5 h5 = 1 := own_st01 _ _ _ _ _ (own_gb0_5 r l2 h2 l3 h3 l4 h4 l5 h5)
theorem own_gb1_4 (r l2 h2 l3 h3 l4 h4 l5 h5 : Int32) : own_g1_4 r l2 h2 l3 h3 l4 h4 l5 h5 = 0 ∨ own_g1_4 r l2 h2 l3 h3 l4 h4 l5 h5 = 1 := own_st01 _ _ _ _ _ (own_gb1_5 r l2 h2 l3 h3 l4 h4 l5 h5)
theorem own_gb2_4 (r l2 h2 l3 h3 l4 h4 l5 h5 : Int32) : own_g2_4 r l2 h2 l3 h3 l4 h4 l5 h5 = 0 ∨ own_g2_4 r l2 h2 l3 h3 l4 h4 l5 h5 = 1 := own_st01 _ _ _ _ _ (own_gb2_5 r l2 h2 l3 h3 l4 h4 l5 h5)
theorem own_gb3_4 (r l2 h2 l3 h3 l4 h4 l5 h5 : Int32) : own_g3_4 r l2 h2 l3 h3 l4 h4 l5 h5 = 0 ∨ own_g3_4 r l2 h2 l3 h3 l4 h4 l5 h5 = 1 := own_st01 _ _ _ _ _ (own_gb3_5 r l2 h2 l3 h3 l4 h4 l5 h5)
theorem own_gb0_3 (r l2 h2 l3 h3 l4 h4 l5 h5 : Int32) : own_g0_3 r l2 h2 l3 h3 l4 h4 l5 h5 = 0 ∨ own_g0_3 r l2 h2 l3 h3 l4 h4 l5 h5 = 1 := own_st01 _ _ _ _ _ (own_gb0_4 r l2 h2 l3 h3 l4 h4 l5 h5)
theorem own_gb1_3 (r l2 h2 l3 h3 l4 h4 l5 h5 : Int32) : own_g1_3 r l2 h2 l3 h3 l4 h4 l5 h5 = 0 ∨ own_g1_3 r l2 h2 l3 h3 l4 h4 l5 h5 = 1 := own_st01 _ _ _ _ _ (own_gb1_4 r l2 h2 l3 h3 l4 h4 l5 h5)
theorem own_gb2_3 (r l2 h2 l3 h3 l4 h4 l5 h5 : Int32) : own_g2_3 r l2 h2 l3 h3 l4 h4 l5 h5 = 0 ∨ own_g2_3 r l2 h2 l3 h3 l4 h4 l5 h5 = 1 := own_st01 _ _ _ _ _ (own_gb2_4 r l2 h2 l3 h3 l4 h4 l5 h5)
theorem own_gb0_2 (r l2 h2 l3 h3 l4 h4 l5 h5 : Int32) : own_g0_2 r l2 h2 l3 h3 l4 h4 l5 h5 = 0 ∨ own_g0_2 r l2 h2 l3 h3 l4 h4 l5 h5 = 1 := own_st01 _ _ _ _ _ (own_gb0_3 r l2 h2 l3 h3 l4 h4 l5 h5)
theorem own_gb1_2 (r l2 h2 l3 h3 l4 h4 l5 h5 : Int32) : own_g1_2 r l2 h2 l3 h3 l4 h4 l5 h5 = 0 ∨ own_g1_2 r l2 h2 l3 h3 l4 h4 l5 h5 = 1 := own_st01 _ _ _ _ _ (own_gb1_3 r l2 h2 l3 h3 l4 h4 l5 h5)
theorem own_v0_0_6 (l2 h2 l3 h3 l4 h4 l5 h5 : Int32) : own_g0_6 (0 : Int32) l2 h2 l3 h3 l4 h4 l5 h5 = (1 : Int32) := if_pos (by decide)
theorem own_v0_1_6 (l2 h2 l3 h3 l4 h4 l5 h5 : Int32) : own_g1_6 (0 : Int32) l2 h2 l3 h3 l4 h4 l5 h5 = (0 : Int32) := if_neg (by decide)
theorem own_v0_2_6 (l2 h2 l3 h3 l4 h4 l5 h5 : Int32) : own_g2_6 (0 : Int32) l2 h2 l3 h3 l4 h4 l5 h5 = (0 : Int32) := if_neg (by decide)
theorem own_v0_3_6 (l2 h2 l3 h3 l4 h4 l5 h5 : Int32) : own_g3_6 (0 : Int32) l2 h2 l3 h3 l4 h4 l5 h5 = (0 : Int32) := if_neg (by decide)
theorem own_v0_4_6 (l2 h2 l3 h3 l4 h4 l5 h5 : Int32) : own_g4_6 (0 : Int32) l2 h2 l3 h3 l4 h4 l5 h5 = (0 : Int32) := if_neg (by decide)
theorem own_v0_5_6 (l2 h2 l3 h3 l4 h4 l5 h5 : Int32) : own_g5_6 (0 : Int32) l2 h2 l3 h3 l4 h4 l5 h5 = (0 : Int32) := if_neg (by decide)
theorem own_v0_0_5 (l2 h2 l3 h3 l4 h4 l5 h5 : Int32) : own_g0_5 (0 : Int32) l2 h2 l3 h3 l4 h4 l5 h5 = (1 : Int32) := (own_st0 _ _ _ _ _ (own_v0_5_6 l2 h2 l3 h3 l4 h4 l5 h5)).trans (own_v0_0_6 l2 h2 l3 h3 l4 h4 l5 h5)
theorem own_v0_1_5 (l2 h2 l3 h3 l4 h4 l5 h5 : Int32) : own_g1_5 (0 : Int32) l2 h2 l3 h3 l4 h4 l5 h5 = (0 : Int32) := (own_st0 _ _ _ _ _ (own_v0_5_6 l2 h2 l3 h3 l4 h4 l5 h5)).trans (own_v0_1_6 l2 h2 l3 h3 l4 h4 l5 h5)
theorem own_v0_2_5 (l2 h2 l3 h3 l4 h4 l5 h5 : Int32) : own_g2_5 (0 : Int32) l2 h2 l3 h3 l4 h4 l5 h5 = (0 : Int32) := (own_st0 _ _ _ _ _ (own_v0_5_6 l2 h2 l3 h3 l4 h4 l5 h5)).trans (own_v0_2_6 l2 h2 l3 h3 l4 h4 l5 h5)
theorem own_v0_3_5 (l2 h2 l3 h3 l4 h4 l5 h5 : Int32) : own_g3_5 (0 : Int32) l2 h2 l3 h3 l4 h4 l5 h5 = (0 : Int32) := (own_st0 _ _ _ _ _ (own_v0_5_6 l2 h2 l3 h3 l4 h4 l5 h5)).trans (own_v0_3_6 l2 h2 l3 h3 l4 h4 l5 h5)
theorem own_v0_4_5 (l2 h2 l3 h3 l4 h4 l5 h5 : Int32) : own_g4_5 (0 : Int32) l2 h2 l3 h3 l4 h4 l5 h5 = (0 : Int32) := (own_st0 _ _ _ _ _ (own_v0_5_6 l2 h2 l3 h3 l4 h4 l5 h5)).trans (own_v0_4_6 l2 h2 l3 h3 l4 h4 l5 h5)
theorem own_v0_0_4 (l2 h2 l3 h3 l4 h4 l5 h5 : Int32) : own_g0_4 (0 : Int32) l2 h2 l3 h3 l4 h4 l5 h5 = (1 : Int32) := (own_st0 _ _ _ _ _ (own_v0_4_5 l2 h2 l3 h3 l4 h4 l5 h5)).trans (own_v0_0_5 l2 h2 l3 h3 l4 h4 l5 h5)
theorem own_v0_1_4 (l2 h2 l3 h3 l4 h4 l5 h5 : Int32) : own_g1_4 (0 : Int32) l2 h2 l3 h3 l4 h4 l5 h5 = (0 : Int32) := (own_st0 _ _ _ _ _ (own_v0_4_5 l2 h2 l3 h3 l4 h4 l5 h5)).trans (own_v0_1_5 l2 h2 l3 h3 l4 h4 l5 h5)
theorem own_v0_2_4 (l2 h2 l3 h3 l4 h4 l5 h5 : Int32) : own_g2_4 (0 : Int32) l2 h2 l3 h3 l4 h4 l5 h5 = (0 : Int32) := (own_st0 _ _ _ _ _ (own_v0_4_5 l2 h2 l3 h3 l4 h4 l5 h5)).trans (own_v0_2_5 l2 h2 l3 h3 l4 h4 l5 h5)
theorem own_v0_3_4 (l2 h2 l3 h3 l4 h4 l5 h5 : Int32) : own_g3_4 (0 : Int32) l2 h2 l3 h3 l4 h4 l5 h5 = (0 : Int32) := (own_st0 _ _ _ _ _ (own_v0_4_5 l2 h2 l3 h3 l4 h4 l5 h5)).trans (own_v0_3_5 l2 h2 l3 h3 l4 h4 l5 h5)
theorem own_v0_0_3 (l2 h2 l3 h3 l4 h4 l5 h5 : Int32) : own_g0_3 (0 : Int32) l2 h2 l3 h3 l4 h4 l5 h5 = (1 : Int32) := (own_st0 _ _ _ _ _ (own_v0_3_4 l2 h2 l3 h3 l4 h4 l5 h5)).trans (own_v0_0_4 l2 h2 l3 h3 l4 h4 l5 h5)
theorem own_v0_1_3 (l2 h2 l3 h3 l4 h4 l5 h5 : Int32) : own_g1_3 (0 : Int32) l2 h2 l3 h3 l4 h4 l5 h5 = (0 : Int32) := (own_st0 _ _ _ _ _ (own_v0_3_4 l2 h2 l3 h3 l4 h4 l5 h5)).trans (own_v0_1_4 l2 h2 l3 h3 l4 h4 l5 h5)
theorem own_v0_2_3 (l2 h2 l3 h3 l4 h4 l5 h5 : Int32) : own_g2_3 (0 : Int32) l2 h2 l3 h3 l4 h4 l5 h5 = (0 : Int32) := (own_st0 _ _ _ _ _ (own_v0_3_4 l2 h2 l3 h3 l4 h4 l5 h5)).trans (own_v0_2_4 l2 h2 l3 h3 l4 h4 l5 h5)
theorem own_v0_0_2 (l2 h2 l3 h3 l4 h4 l5 h5 : Int32) : own_g0_2 (0 : Int32) l2 h2 l3 h3 l4 h4 l5 h5 = (1 : Int32) := (own_st0 _ _ _ _ _ (own_v0_2_3 l2 h2 l3 h3 l4 h4 l5 h5)).trans (own_v0_0_3 l2 h2 l3 h3 l4 h4 l5 h5)
theorem own_v0_1_2 (l2 h2 l3 h3 l4 h4 l5 h5 : Int32) : own_g1_2 (0 : Int32) l2 h2 l3 h3 l4 h4 l5 h5 = (0 : Int32) := (own_st0 _ _ _ _ _ (own_v0_2_3 l2 h2 l3 h3 l4 h4 l5 h5)).trans (own_v0_1_3 l2 h2 l3 h3 l4 h4 l5 h5)
theorem own_v1_0_6 (l2 h2 l3 h3 l4 h4 l5 h5 : Int32) : own_g0_6 (1 : Int32) l2 h2 l3 h3 l4 h4 l5 h5 = (0 : Int32) := if_neg (by decide)
theorem own_v1_1_6 (l2 h2 l3 h3 l4 h4 l5 h5 : Int32) : own_g1_6 (1 : Int32) l2 h2 l3 h3 l4 h4 l5 h5 = (1 : Int32) := if_pos (by decide)
theorem own_v1_2_6 (l2 h2 l3 h3 l4 h4 l5 h5 : Int32) : own_g2_6 (1 : Int32) l2 h2 l3 h3 l4 h4 l5 h5 = (0 : Int32) := if_neg (by decide)
theorem own_v1_3_6 (l2 h2 l3 h3 l4 h4 l5 h5 : Int32) : own_g3_6 (1 : Int32) l2 h2 l3 h3 l4 h4 l5 h5 = (0 : Int32) := if_neg (by decide)
theorem own_v1_4_6 (l2 h2 l3 h3 l4 h4 l5 h5 : Int32) : own_g4_6 (1 : Int32) l2 h2 l3 h3 l4 h4 l5 h5 = (0 : Int32) := if_neg (by decide)
theorem own_v1_5_6 (l2 h2 l3 h3 l4 h4 l5 h5 : Int32) : own_g5_6 (1 : Int32) l2 h2 l3 h3 l4 h4 l5 h5 = (0 : Int32) := if_neg (by decide)
theorem own_v1_0_5 (l2 h2 l3 h3 l4 h4 l5 h5 : Int32) : own_g0_5 (1 : Int32) l2 h2 l3 h3 l4 h4 l5 h5 = (0 : Int32) := (own_st0 _ _ _ _ _ (own_v1_5_6 l2 h2 l3 h3 l4 h4 l5 h5)).trans (own_v1_0_6 l2 h2 l3 h3 l4 h4 l5 h5)
theorem own_v1_1_5 (l2 h2 l3 h3 l4 h4 l5 h5 : Int32) : own_g1_5 (1 : Int32) l2 h2 l3 h3 l4 h4 l5 h5 = (1 : Int32) := (own_st0 _ _ _ _ _ (own_v1_5_6 l2 h2 l3 h3 l4 h4 l5 h5)).trans (own_v1_1_6 l2 h2 l3 h3 l4 h4 l5 h5)
theorem own_v1_2_5 (l2 h2 l3 h3 l4 h4 l5 h5 : Int32) : own_g2_5 (1 : Int32) l2 h2 l3 h3 l4 h4 l5 h5 = (0 : Int32) := (own_st0 _ _ _ _ _ (own_v1_5_6 l2 h2 l3 h3 l4 h4 l5 h5)).trans (own_v1_2_6 l2 h2 l3 h3 l4 h4 l5 h5)
theorem own_v1_3_5 (l2 h2 l3 h3 l4 h4 l5 h5 : Int32) : own_g3_5 (1 : Int32) l2 h2 l3 h3 l4 h4 l5 h5 = (0 : Int32) := (own_st0 _ _ _ _ _ (own_v1_5_6 l2 h2 l3 h3 l4 h4 l5 h5)).trans (own_v1_3_6 l2 h2 l3 h3 l4 h4 l5 h5)
theorem own_v1_4_5 (l2 h2 l3 h3 l4 h4 l5 h5 : Int32) : own_g4_5 (1 : Int32) l2 h2 l3 h3 l4 h4 l5 h5 = (0 : Int32) := (own_st0 _ _ _ _ _ (own_v1_5_6 l2 h2 l3 h3 l4 h4 l5 h5)).trans (own_v1_4_6 l2 h2 l3 h3 l4 h4 l5 h5)
theorem own_v1_0_4 (l2 h2 l3 h3 l4 h4 l5 h5 : Int32) : own_g0_4 (1 : Int32) l2 h2 l3 h3 l4 h4 l5 h5 = (0 : Int32) := (own_st0 _ _ _ _ _ (own_v1_4_5 l2 h2 l3 h3 l4 h4 l5 h5)).trans (own_v1_0_5 l2 h2 l3 h3 l4 h4 l5 h5)
theorem own_v1_1_4 (l2 h2 l3 h3 l4 h4 l5 h5 : Int32) : own_g1_4 (1 : Int32) l2 h2 l3 h3 l4 h4 l5 h5 = (1 : Int32) := (own_st0 _ _ _ _ _ (own_v1_4_5 l2 h2 l3 h3 l4 h4 l5 h5)).trans (own_v1_1_5 l2 h2 l3 h3 l4 h4 l5 h5)
theorem own_v1_2_4 (l2 h2 l3 h3 l4 h4 l5 h5 : Int32) : own_g2_4 (1 : Int32) l2 h2 l3 h3 l4 h4 l5 h5 = (0 : Int32) := (own_st0 _ _ _ _ _ (own_v1_4_5 l2 h2 l3 h3 l4 h4 l5 h5)).trans (own_v1_2_5 l2 h2 l3 h3 l4 h4 l5 h5)
theorem own_v1_3_4 (l2 h2 l3 h3 l4 h4 l5 h5 : Int32) : own_g3_4 (1 : Int32) l2 h2 l3 h3 l4 h4 l5 h5 = (0 : Int32) := (own_st0 _ _ _ _ _ (own_v1_4_5 l2 h2 l3 h3 l4 h4 l5 h5)).trans (own_v1_3_5 l2 h2 l3 h3 l4 h4 l5 h5)
theorem own_v1_0_3 (l2 h2 l3 h3 l4 h4 l5 h5 : Int32) : own_g0_3 (1 : Int32) l2 h2 l3 h3 l4 h4 l5 h5 = (0 : Int32) := (own_st0 _ _ _ _ _ (own_v1_3_4 l2 h2 l3 h3 l4 h4 l5 h5)).trans (own_v1_0_4 l2 h2 l3 h3 l4 h4 l5 h5)
theorem own_v1_1_3 (l2 h2 l3 h3 l4 h4 l5 h5 : Int32) : own_g1_3 (1 : Int32) l2 h2 l3 h3 l4 h4 l5 h5 = (1 : Int32) := (own_st0 _ _ _ _ _ (own_v1_3_4 l2 h2 l3 h3 l4 h4 l5 h5)).trans (own_v1_1_4 l2 h2 l3 h3 l4 h4 l5 h5)
theorem own_v1_2_3 (l2 h2 l3 h3 l4 h4 l5 h5 : Int32) : own_g2_3 (1 : Int32) l2 h2 l3 h3 l4 h4 l5 h5 = (0 : Int32) := (own_st0 _ _ _ _ _ (own_v1_3_4 l2 h2 l3 h3 l4 h4 l5 h5)).trans (own_v1_2_4 l2 h2 l3 h3 l4 h4 l5 h5)
theorem own_v1_0_2 (l2 h2 l3 h3 l4 h4 l5 h5 : Int32) : own_g0_2 (1 : Int32) l2 h2 l3 h3 l4 h4 l5 h5 = (0 : Int32) := (own_st0 _ _ _ _ _ (own_v1_2_3 l2 h2 l3 h3 l4 h4 l5 h5)).trans (own_v1_0_3 l2 h2 l3 h3 l4 h4 l5 h5)
theorem own_v1_1_2 (l2 h2 l3 h3 l4 h4 l5 h5 : Int32) : own_g1_2 (1 : Int32) l2 h2 l3 h3 l4 h4 l5 h5 = (1 : Int32) := (own_st0 _ _ _ _ _ (own_v1_2_3 l2 h2 l3 h3 l4 h4 l5 h5)).trans (own_v1_1_3 l2 h2 l3 h3 l4 h4 l5 h5)
theorem own_v2_0_6 (l2 h2 l3 h3 l4 h4 l5 h5 : Int32) : own_g0_6 (2 : Int32) l2 h2 l3 h3 l4 h4 l5 h5 = (0 : Int32) := if_neg (by decide)
theorem own_v2_1_6 (l2 h2 l3 h3 l4 h4 l5 h5 : Int32) : own_g1_6 (2 : Int32) l2 h2 l3 h3 l4 h4 l5 h5 = (0 : Int32) := if_neg (by decide)
theorem own_v2_2_6 (l2 h2 l3 h3 l4 h4 l5 h5 : Int32) : own_g2_6 (2 : Int32) l2 h2 l3 h3 l4 h4 l5 h5 = (1 : Int32) := if_pos (by decide)
theorem own_v2_3_6 (l2 h2 l3 h3 l4 h4 l5 h5 : Int32) : own_g3_6 (2 : Int32) l2 h2 l3 h3 l4 h4 l5 h5 = (0 : Int32) := if_neg (by decide)
theorem own_v2_4_6 (l2 h2 l3 h3 l4 h4 l5 h5 : Int32) : own_g4_6 (2 : Int32) l2 h2 l3 h3 l4 h4 l5 h5 = (0 : Int32) := if_neg (by decide)
theorem own_v2_5_6 (l2 h2 l3 h3 l4 h4 l5 h5 : Int32) : own_g5_6 (2 : Int32) l2 h2 l3 h3 l4 h4 l5 h5 = (0 : Int32) := if_neg (by decide)
theorem own_v2_0_5 (l2 h2 l3 h3 l4 h4 l5 h5 : Int32) : own_g0_5 (2 : Int32) l2 h2 l3 h3 l4 h4 l5 h5 = (0 : Int32) := (own_st0 _ _ _ _ _ (own_v2_5_6 l2 h2 l3 h3 l4 h4 l5 h5)).trans (own_v2_0_6 l2 h2 l3 h3 l4 h4 l5 h5)
theorem own_v2_1_5 (l2 h2 l3 h3 l4 h4 l5 h5 : Int32) : own_g1_5 (2 : Int32) l2 h2 l3 h3 l4 h4 l5 h5 = (0 : Int32) := (own_st0 _ _ _ _ _ (own_v2_5_6 l2 h2 l3 h3 l4 h4 l5 h5)).trans (own_v2_1_6 l2 h2 l3 h3 l4 h4 l5 h5)
theorem own_v2_2_5 (l2 h2 l3 h3 l4 h4 l5 h5 : Int32) : own_g2_5 (2 : Int32) l2 h2 l3 h3 l4 h4 l5 h5 = (1 : Int32) := (own_st0 _ _ _ _ _ (own_v2_5_6 l2 h2 l3 h3 l4 h4 l5 h5)).trans (own_v2_2_6 l2 h2 l3 h3 l4 h4 l5 h5)
theorem own_v2_3_5 (l2 h2 l3 h3 l4 h4 l5 h5 : Int32) : own_g3_5 (2 : Int32) l2 h2 l3 h3 l4 h4 l5 h5 = (0 : Int32) := (own_st0 _ _ _ _ _ (own_v2_5_6 l2 h2 l3 h3 l4 h4 l5 h5)).trans (own_v2_3_6 l2 h2 l3 h3 l4 h4 l5 h5)
theorem own_v2_4_5 (l2 h2 l3 h3 l4 h4 l5 h5 : Int32) : own_g4_5 (2 : Int32) l2 h2 l3 h3 l4 h4 l5 h5 = (0 : Int32) := (own_st0 _ _ _ _ _ (own_v2_5_6 l2 h2 l3 h3 l4 h4 l5 h5)).trans (own_v2_4_6 l2 h2 l3 h3 l4 h4 l5 h5)
theorem own_v2_0_4 (l2 h2 l3 h3 l4 h4 l5 h5 : Int32) : own_g0_4 (2 : Int32) l2 h2 l3 h3 l4 h4 l5 h5 = (0 : Int32) := (own_st0 _ _ _ _ _ (own_v2_4_5 l2 h2 l3 h3 l4 h4 l5 h5)).trans (own_v2_0_5 l2 h2 l3 h3 l4 h4 l5 h5)
theorem own_v2_1_4 (l2 h2 l3 h3 l4 h4 l5 h5 : Int32) : own_g1_4 (2 : Int32) l2 h2 l3 h3 l4 h4 l5 h5 = (0 : Int32) := (own_st0 _ _ _ _ _ (own_v2_4_5 l2 h2 l3 h3 l4 h4 l5 h5)).trans (own_v2_1_5 l2 h2 l3 h3 l4 h4 l5 h5)
theorem own_v2_2_4 (l2 h2 l3 h3 l4 h4 l5 h5 : Int32) : own_g2_4 (2 : Int32) l2 h2 l3 h3 l4 h4 l5 h5 = (1 : Int32) := (own_st0 _ _ _ _ _ (own_v2_4_5 l2 h2 l3 h3 l4 h4 l5 h5)).trans (own_v2_2_5 l2 h2 l3 h3 l4 h4 l5 h5)
theorem own_v2_3_4 (l2 h2 l3 h3 l4 h4 l5 h5 : Int32) : own_g3_4 (2 : Int32) l2 h2 l3 h3 l4 h4 l5 h5 = (0 : Int32) := (own_st0 _ _ _ _ _ (own_v2_4_5 l2 h2 l3 h3 l4 h4 l5 h5)).trans (own_v2_3_5 l2 h2 l3 h3 l4 h4 l5 h5)
theorem own_v2_0_3 (l2 h2 l3 h3 l4 h4 l5 h5 : Int32) : own_g0_3 (2 : Int32) l2 h2 l3 h3 l4 h4 l5 h5 = (0 : Int32) := (own_st0 _ _ _ _ _ (own_v2_3_4 l2 h2 l3 h3 l4 h4 l5 h5)).trans (own_v2_0_4 l2 h2 l3 h3 l4 h4 l5 h5)
theorem own_v2_1_3 (l2 h2 l3 h3 l4 h4 l5 h5 : Int32) : own_g1_3 (2 : Int32) l2 h2 l3 h3 l4 h4 l5 h5 = (0 : Int32) := (own_st0 _ _ _ _ _ (own_v2_3_4 l2 h2 l3 h3 l4 h4 l5 h5)).trans (own_v2_1_4 l2 h2 l3 h3 l4 h4 l5 h5)
theorem own_v2_2_3 (l2 h2 l3 h3 l4 h4 l5 h5 : Int32) : own_g2_3 (2 : Int32) l2 h2 l3 h3 l4 h4 l5 h5 = (1 : Int32) := (own_st0 _ _ _ _ _ (own_v2_3_4 l2 h2 l3 h3 l4 h4 l5 h5)).trans (own_v2_2_4 l2 h2 l3 h3 l4 h4 l5 h5)
theorem own_v3_0_6 (l2 h2 l3 h3 l4 h4 l5 h5 : Int32) : own_g0_6 (3 : Int32) l2 h2 l3 h3 l4 h4 l5 h5 = (0 : Int32) := if_neg (by decide)
theorem own_v3_1_6 (l2 h2 l3 h3 l4 h4 l5 h5 : Int32) : own_g1_6 (3 : Int32) l2 h2 l3 h3 l4 h4 l5 h5 = (0 : Int32) := if_neg (by decide)
theorem own_v3_2_6 (l2 h2 l3 h3 l4 h4 l5 h5 : Int32) : own_g2_6 (3 : Int32) l2 h2 l3 h3 l4 h4 l5 h5 = (0 : Int32) := if_neg (by decide)
theorem own_v3_3_6 (l2 h2 l3 h3 l4 h4 l5 h5 : Int32) : own_g3_6 (3 : Int32) l2 h2 l3 h3 l4 h4 l5 h5 = (1 : Int32) := if_pos (by decide)
theorem own_v3_4_6 (l2 h2 l3 h3 l4 h4 l5 h5 : Int32) : own_g4_6 (3 : Int32) l2 h2 l3 h3 l4 h4 l5 h5 = (0 : Int32) := if_neg (by decide)
theorem own_v3_5_6 (l2 h2 l3 h3 l4 h4 l5 h5 : Int32) : own_g5_6 (3 : Int32) l2 h2 l3 h3 l4 h4 l5 h5 = (0 : Int32) := if_neg (by decide)
theorem own_v3_0_5 (l2 h2 l3 h3 l4 h4 l5 h5 : Int32) : own_g0_5 (3 : Int32) l2 h2 l3 h3 l4 h4 l5 h5 = (0 : Int32) := (own_st0 _ _ _ _ _ (own_v3_5_6 l2 h2 l3 h3 l4 h4 l5 h5)).trans (own_v3_0_6 l2 h2 l3 h3 l4 h4 l5 h5)
theorem own_v3_1_5 (l2 h2 l3 h3 l4 h4 l5 h5 : Int32) : own_g1_5 (3 : Int32) l2 h2 l3 h3 l4 h4 l5 h5 = (0 : Int32) := (own_st0 _ _ _ _ _ (own_v3_5_6 l2 h2 l3 h3 l4 h4 l5 h5)).trans (own_v3_1_6 l2 h2 l3 h3 l4 h4 l5 h5)
theorem own_v3_2_5 (l2 h2 l3 h3 l4 h4 l5 h5 : Int32) : own_g2_5 (3 : Int32) l2 h2 l3 h3 l4 h4 l5 h5 = (0 : Int32) := (own_st0 _ _ _ _ _ (own_v3_5_6 l2 h2 l3 h3 l4 h4 l5 h5)).trans (own_v3_2_6 l2 h2 l3 h3 l4 h4 l5 h5)
theorem own_v3_3_5 (l2 h2 l3 h3 l4 h4 l5 h5 : Int32) : own_g3_5 (3 : Int32) l2 h2 l3 h3 l4 h4 l5 h5 = (1 : Int32) := (own_st0 _ _ _ _ _ (own_v3_5_6 l2 h2 l3 h3 l4 h4 l5 h5)).trans (own_v3_3_6 l2 h2 l3 h3 l4 h4 l5 h5)
theorem own_v3_4_5 (l2 h2 l3 h3 l4 h4 l5 h5 : Int32) : own_g4_5 (3 : Int32) l2 h2 l3 h3 l4 h4 l5 h5 = (0 : Int32) := (own_st0 _ _ _ _ _ (own_v3_5_6 l2 h2 l3 h3 l4 h4 l5 h5)).trans (own_v3_4_6 l2 h2 l3 h3 l4 h4 l5 h5)
theorem own_v3_0_4 (l2 h2 l3 h3 l4 h4 l5 h5 : Int32) : own_g0_4 (3 : Int32) l2 h2 l3 h3 l4 h4 l5 h5 = (0 : Int32) := (own_st0 _ _ _ _ _ (own_v3_4_5 l2 h2 l3 h3 l4 h4 l5 h5)).trans (own_v3_0_5 l2 h2 l3 h3 l4 h4 l5 h5)
theorem own_v3_1_4 (l2 h2 l3 h3 l4 h4 l5 h5 : Int32) : own_g1_4 (3 : Int32) l2 h2 l3 h3 l4 h4 l5 h5 = (0 : Int32) := (own_st0 _ _ _ _ _ (own_v3_4_5 l2 h2 l3 h3 l4 h4 l5 h5)).trans (own_v3_1_5 l2 h2 l3 h3 l4 h4 l5 h5)
theorem own_v3_2_4 (l2 h2 l3 h3 l4 h4 l5 h5 : Int32) : own_g2_4 (3 : Int32) l2 h2 l3 h3 l4 h4 l5 h5 = (0 : Int32) := (own_st0 _ _ _ _ _ (own_v3_4_5 l2 h2 l3 h3 l4 h4 l5 h5)).trans (own_v3_2_5 l2 h2 l3 h3 l4 h4 l5 h5)
theorem own_v3_3_4 (l2 h2 l3 h3 l4 h4 l5 h5 : Int32) : own_g3_4 (3 : Int32) l2 h2 l3 h3 l4 h4 l5 h5 = (1 : Int32) := (own_st0 _ _ _ _ _ (own_v3_4_5 l2 h2 l3 h3 l4 h4 l5 h5)).trans (own_v3_3_5 l2 h2 l3 h3 l4 h4 l5 h5)
theorem own_v4_0_6 (l2 h2 l3 h3 l4 h4 l5 h5 : Int32) : own_g0_6 (4 : Int32) l2 h2 l3 h3 l4 h4 l5 h5 = (0 : Int32) := if_neg (by decide)
theorem own_v4_1_6 (l2 h2 l3 h3 l4 h4 l5 h5 : Int32) : own_g1_6 (4 : Int32) l2 h2 l3 h3 l4 h4 l5 h5 = (0 : Int32) := if_neg (by decide)
theorem own_v4_2_6 (l2 h2 l3 h3 l4 h4 l5 h5 : Int32) : own_g2_6 (4 : Int32) l2 h2 l3 h3 l4 h4 l5 h5 = (0 : Int32) := if_neg (by decide)
theorem own_v4_3_6 (l2 h2 l3 h3 l4 h4 l5 h5 : Int32) : own_g3_6 (4 : Int32) l2 h2 l3 h3 l4 h4 l5 h5 = (0 : Int32) := if_neg (by decide)
theorem own_v4_4_6 (l2 h2 l3 h3 l4 h4 l5 h5 : Int32) : own_g4_6 (4 : Int32) l2 h2 l3 h3 l4 h4 l5 h5 = (1 : Int32) := if_pos (by decide)
theorem own_v4_5_6 (l2 h2 l3 h3 l4 h4 l5 h5 : Int32) : own_g5_6 (4 : Int32) l2 h2 l3 h3 l4 h4 l5 h5 = (0 : Int32) := if_neg (by decide)
theorem own_v4_0_5 (l2 h2 l3 h3 l4 h4 l5 h5 : Int32) : own_g0_5 (4 : Int32) l2 h2 l3 h3 l4 h4 l5 h5 = (0 : Int32) := (own_st0 _ _ _ _ _ (own_v4_5_6 l2 h2 l3 h3 l4 h4 l5 h5)).trans (own_v4_0_6 l2 h2 l3 h3 l4 h4 l5 h5)
theorem own_v4_1_5 (l2 h2 l3 h3 l4 h4 l5 h5 : Int32) : own_g1_5 (4 : Int32) l2 h2 l3 h3 l4 h4 l5 h5 = (0 : Int32) := (own_st0 _ _ _ _ _ (own_v4_5_6 l2 h2 l3 h3 l4 h4 l5 h5)).trans (own_v4_1_6 l2 h2 l3 h3 l4 h4 l5 h5)
theorem own_v4_2_5 (l2 h2 l3 h3 l4 h4 l5 h5 : Int32) : own_g2_5 (4 : Int32) l2 h2 l3 h3 l4 h4 l5 h5 = (0 : Int32) := (own_st0 _ _ _ _ _ (own_v4_5_6 l2 h2 l3 h3 l4 h4 l5 h5)).trans (own_v4_2_6 l2 h2 l3 h3 l4 h4 l5 h5)
theorem own_v4_3_5 (l2 h2 l3 h3 l4 h4 l5 h5 : Int32) : own_g3_5 (4 : Int32) l2 h2 l3 h3 l4 h4 l5 h5 = (0 : Int32) := (own_st0 _ _ _ _ _ (own_v4_5_6 l2 h2 l3 h3 l4 h4 l5 h5)).trans (own_v4_3_6 l2 h2 l3 h3 l4 h4 l5 h5)
theorem own_v4_4_5 (l2 h2 l3 h3 l4 h4 l5 h5 : Int32) : own_g4_5 (4 : Int32) l2 h2 l3 h3 l4 h4 l5 h5 = (1 : Int32) := (own_st0 _ _ _ _ _ (own_v4_5_6 l2 h2 l3 h3 l4 h4 l5 h5)).trans (own_v4_4_6 l2 h2 l3 h3 l4 h4 l5 h5)
theorem own_v5_0_6 (l2 h2 l3 h3 l4 h4 l5 h5 : Int32) : own_g0_6 (5 : Int32) l2 h2 l3 h3 l4 h4 l5 h5 = (0 : Int32) := if_neg (by decide)
theorem own_v5_1_6 (l2 h2 l3 h3 l4 h4 l5 h5 : Int32) : own_g1_6 (5 : Int32) l2 h2 l3 h3 l4 h4 l5 h5 = (0 : Int32) := if_neg (by decide)
theorem own_v5_2_6 (l2 h2 l3 h3 l4 h4 l5 h5 : Int32) : own_g2_6 (5 : Int32) l2 h2 l3 h3 l4 h4 l5 h5 = (0 : Int32) := if_neg (by decide)
theorem own_v5_3_6 (l2 h2 l3 h3 l4 h4 l5 h5 : Int32) : own_g3_6 (5 : Int32) l2 h2 l3 h3 l4 h4 l5 h5 = (0 : Int32) := if_neg (by decide)
theorem own_v5_4_6 (l2 h2 l3 h3 l4 h4 l5 h5 : Int32) : own_g4_6 (5 : Int32) l2 h2 l3 h3 l4 h4 l5 h5 = (0 : Int32) := if_neg (by decide)
theorem own_v5_5_6 (l2 h2 l3 h3 l4 h4 l5 h5 : Int32) : own_g5_6 (5 : Int32) l2 h2 l3 h3 l4 h4 l5 h5 = (1 : Int32) := if_pos (by decide)
theorem own_set3_2 (x0 x1 x2 l : Int32) (hl : l = (0 : Int32) ∨ l = (1 : Int32)) : ([(.int x0), (.int x1), (.int x2)] : List Value).set l.toNatClampNeg (.int (nar .boolean (1 : Int32))) = [(.int (own_w l (0 : Int32) x0)), (.int (own_w l (1 : Int32) x1)), (.int x2)] := by
  rcases hl with rfl | rfl <;> rfl
theorem own_set4_2 (x0 x1 x2 x3 l : Int32) (hl : l = (0 : Int32) ∨ l = (1 : Int32)) : ([(.int x0), (.int x1), (.int x2), (.int x3)] : List Value).set l.toNatClampNeg (.int (nar .boolean (1 : Int32))) = [(.int (own_w l (0 : Int32) x0)), (.int (own_w l (1 : Int32) x1)), (.int x2), (.int x3)] := by
  rcases hl with rfl | rfl <;> rfl
theorem own_set4_3 (x0 x1 x2 x3 l : Int32) (hl : l = (0 : Int32) ∨ l = (1 : Int32) ∨ l = (2 : Int32)) : ([(.int x0), (.int x1), (.int x2), (.int x3)] : List Value).set l.toNatClampNeg (.int (nar .boolean (1 : Int32))) = [(.int (own_w l (0 : Int32) x0)), (.int (own_w l (1 : Int32) x1)), (.int (own_w l (2 : Int32) x2)), (.int x3)] := by
  rcases hl with rfl | rfl | rfl <;> rfl
theorem own_set5_2 (x0 x1 x2 x3 x4 l : Int32) (hl : l = (0 : Int32) ∨ l = (1 : Int32)) : ([(.int x0), (.int x1), (.int x2), (.int x3), (.int x4)] : List Value).set l.toNatClampNeg (.int (nar .boolean (1 : Int32))) = [(.int (own_w l (0 : Int32) x0)), (.int (own_w l (1 : Int32) x1)), (.int x2), (.int x3), (.int x4)] := by
  rcases hl with rfl | rfl <;> rfl
theorem own_set5_3 (x0 x1 x2 x3 x4 l : Int32) (hl : l = (0 : Int32) ∨ l = (1 : Int32) ∨ l = (2 : Int32)) : ([(.int x0), (.int x1), (.int x2), (.int x3), (.int x4)] : List Value).set l.toNatClampNeg (.int (nar .boolean (1 : Int32))) = [(.int (own_w l (0 : Int32) x0)), (.int (own_w l (1 : Int32) x1)), (.int (own_w l (2 : Int32) x2)), (.int x3), (.int x4)] := by
  rcases hl with rfl | rfl | rfl <;> rfl
theorem own_set5_4 (x0 x1 x2 x3 x4 l : Int32) (hl : l = (0 : Int32) ∨ l = (1 : Int32) ∨ l = (2 : Int32) ∨ l = (3 : Int32)) : ([(.int x0), (.int x1), (.int x2), (.int x3), (.int x4)] : List Value).set l.toNatClampNeg (.int (nar .boolean (1 : Int32))) = [(.int (own_w l (0 : Int32) x0)), (.int (own_w l (1 : Int32) x1)), (.int (own_w l (2 : Int32) x2)), (.int (own_w l (3 : Int32) x3)), (.int x4)] := by
  rcases hl with rfl | rfl | rfl | rfl <;> rfl
theorem own_set6_2 (x0 x1 x2 x3 x4 x5 l : Int32) (hl : l = (0 : Int32) ∨ l = (1 : Int32)) : ([(.int x0), (.int x1), (.int x2), (.int x3), (.int x4), (.int x5)] : List Value).set l.toNatClampNeg (.int (nar .boolean (1 : Int32))) = [(.int (own_w l (0 : Int32) x0)), (.int (own_w l (1 : Int32) x1)), (.int x2), (.int x3), (.int x4), (.int x5)] := by
  rcases hl with rfl | rfl <;> rfl
theorem own_set6_3 (x0 x1 x2 x3 x4 x5 l : Int32) (hl : l = (0 : Int32) ∨ l = (1 : Int32) ∨ l = (2 : Int32)) : ([(.int x0), (.int x1), (.int x2), (.int x3), (.int x4), (.int x5)] : List Value).set l.toNatClampNeg (.int (nar .boolean (1 : Int32))) = [(.int (own_w l (0 : Int32) x0)), (.int (own_w l (1 : Int32) x1)), (.int (own_w l (2 : Int32) x2)), (.int x3), (.int x4), (.int x5)] := by
  rcases hl with rfl | rfl | rfl <;> rfl
theorem own_set6_4 (x0 x1 x2 x3 x4 x5 l : Int32) (hl : l = (0 : Int32) ∨ l = (1 : Int32) ∨ l = (2 : Int32) ∨ l = (3 : Int32)) : ([(.int x0), (.int x1), (.int x2), (.int x3), (.int x4), (.int x5)] : List Value).set l.toNatClampNeg (.int (nar .boolean (1 : Int32))) = [(.int (own_w l (0 : Int32) x0)), (.int (own_w l (1 : Int32) x1)), (.int (own_w l (2 : Int32) x2)), (.int (own_w l (3 : Int32) x3)), (.int x4), (.int x5)] := by
  rcases hl with rfl | rfl | rfl | rfl <;> rfl
theorem own_set6_5 (x0 x1 x2 x3 x4 x5 l : Int32) (hl : l = (0 : Int32) ∨ l = (1 : Int32) ∨ l = (2 : Int32) ∨ l = (3 : Int32) ∨ l = (4 : Int32)) : ([(.int x0), (.int x1), (.int x2), (.int x3), (.int x4), (.int x5)] : List Value).set l.toNatClampNeg (.int (nar .boolean (1 : Int32))) = [(.int (own_w l (0 : Int32) x0)), (.int (own_w l (1 : Int32) x1)), (.int (own_w l (2 : Int32) x2)), (.int (own_w l (3 : Int32) x3)), (.int (own_w l (4 : Int32) x4)), (.int x5)] := by
  rcases hl with rfl | rfl | rfl | rfl | rfl <;> rfl
def own_hash (a b c : Int32) : Int32 := (((a * (-1640531535 : Int32)) + b) * (-1640531535 : Int32) + c) ^^^ (((((a * (-1640531535 : Int32)) + b) * (-1640531535 : Int32) + c).toUInt32 >>> ((15 : Int32) &&& 31).toUInt32).toInt32)
theorem d1_0 : decode prog_20_method_1_code 0 = .ok (.aload_n 0, 1) := by decide +kernel
theorem d1_1 : decode prog_20_method_1_code 1 = .ok (.invokespecial 3, 3) := by decide +kernel
theorem d1_4 : decode prog_20_method_1_code 4 = .ok (.aload_n 0, 1) := by decide +kernel
theorem d1_5 : decode prog_20_method_1_code 5 = .ok (.sipush 1024, 3) := by decide +kernel
theorem d1_8 : decode prog_20_method_1_code 8 = .ok (.newarray .int, 2) := by decide +kernel
theorem d1_10 : decode prog_20_method_1_code 10 = .ok (.putfield 9, 3) := by decide +kernel
theorem d1_13 : decode prog_20_method_1_code 13 = .ok (.aload_n 0, 1) := by decide +kernel
theorem d1_14 : decode prog_20_method_1_code 14 = .ok (.sipush 1024, 3) := by decide +kernel
theorem d1_17 : decode prog_20_method_1_code 17 = .ok (.newarray .int, 2) := by decide +kernel
theorem d1_19 : decode prog_20_method_1_code 19 = .ok (.putfield 15, 3) := by decide +kernel
theorem d1_22 : decode prog_20_method_1_code 22 = .ok (.aload_n 0, 1) := by decide +kernel
theorem d1_23 : decode prog_20_method_1_code 23 = .ok (.sipush 1024, 3) := by decide +kernel
theorem d1_26 : decode prog_20_method_1_code 26 = .ok (.newarray .int, 2) := by decide +kernel
theorem d1_28 : decode prog_20_method_1_code 28 = .ok (.putfield 18, 3) := by decide +kernel
theorem d1_31 : decode prog_20_method_1_code 31 = .ok (.aload_n 0, 1) := by decide +kernel
theorem d1_32 : decode prog_20_method_1_code 32 = .ok (.iconst 2, 1) := by decide +kernel
theorem d1_33 : decode prog_20_method_1_code 33 = .ok (.putfield 21, 3) := by decide +kernel
theorem d1_36 : decode prog_20_method_1_code 36 = .ok (.aload_n 0, 1) := by decide +kernel
theorem d1_37 : decode prog_20_method_1_code 37 = .ok (.sipush 2048, 3) := by decide +kernel
theorem d1_40 : decode prog_20_method_1_code 40 = .ok (.newarray .int, 2) := by decide +kernel
theorem d1_42 : decode prog_20_method_1_code 42 = .ok (.putfield 25, 3) := by decide +kernel
theorem d1_45 : decode prog_20_method_1_code 45 = .ok (.aload_n 0, 1) := by decide +kernel
theorem d1_46 : decode prog_20_method_1_code 46 = .ok (.getfield 9, 3) := by decide +kernel
theorem d1_49 : decode prog_20_method_1_code 49 = .ok (.iconst 0, 1) := by decide +kernel
theorem d1_50 : decode prog_20_method_1_code 50 = .ok (.ldc 28, 2) := by decide +kernel
theorem d1_52 : decode prog_20_method_1_code 52 = .ok (.iastore, 1) := by decide +kernel
theorem d1_53 : decode prog_20_method_1_code 53 = .ok (.aload_n 0, 1) := by decide +kernel
theorem d1_54 : decode prog_20_method_1_code 54 = .ok (.getfield 9, 3) := by decide +kernel
theorem d1_57 : decode prog_20_method_1_code 57 = .ok (.iconst 1, 1) := by decide +kernel
theorem d1_58 : decode prog_20_method_1_code 58 = .ok (.ldc 28, 2) := by decide +kernel
theorem d1_60 : decode prog_20_method_1_code 60 = .ok (.iastore, 1) := by decide +kernel
theorem d1_61 : decode prog_20_method_1_code 61 = .ok (.return_, 1) := by decide +kernel
theorem pn_1 : plainName "com/example/error_to_hazard/errortohazard/analysis/NodeTable" = true := by first | (simp [plainName, overriddenIn]; done) | decide +kernel
theorem ef_1 (m : MethodId) (x0 : Addr) : entryFrame m #[(.ref x0)] 1 = mkF m 0 #[.val (.ref x0)] [] := by first | (simp [entryFrame, mkF, argsToLocals, Value.category]; done) | rfl
def Q1 (Z : State) (a1 : Addr) (u0 : Value) (u1 : Value) (u2 : Value) (u3 : Value) (u4 : Value) (h0 : Heap) (n0 : Nat) (v : Option Value) (h : Heap) (L : List Loc) : Prop := ∃ (b1 : Addr) (b2 : Addr) (b3 : Addr) (b4 : Addr) (k1 : ClassId) (k2 : ClassId) (k3 : ClassId) (k4 : ClassId), v = none ∧ Fr n0 L ∧ Keep h0 h [a1] ∧ Exa Z h a1 own_K0 ∧ Fld Z h a1 own_K0 "variables" "[I" (.ref b1) ∧ Fld Z h a1 own_K0 "lows" "[I" (.ref b2) ∧ Fld Z h a1 own_K0 "highs" "[I" (.ref b3) ∧ Fld Z h a1 own_K0 "slots" "[I" (.ref b4) ∧ Fld Z h a1 own_K0 "size" "I" (.int 2) ∧ Arv Z h b1 k1 .int (1024 : Int32) [(.int 2147483647), (.int 2147483647), (.int 0), (.int 0), (.int 0), (.int 0)] (.int 0) ∧ Arv Z h b2 k2 .int (1024 : Int32) [(.int 0), (.int 0), (.int 0), (.int 0), (.int 0), (.int 0)] (.int 0) ∧ Arv Z h b3 k3 .int (1024 : Int32) [(.int 0), (.int 0), (.int 0), (.int 0), (.int 0), (.int 0)] (.int 0) ∧ Arh Z h b4 k4 .int (2048 : Int32) [] [] (.int 0) ∧ h0.size ≤ b1 ∧ h0.size ≤ b2 ∧ h0.size ≤ b3 ∧ h0.size ≤ b4 ∧ a1 ≠ b1 ∧ a1 ≠ b2 ∧ a1 ≠ b3 ∧ a1 ≠ b4 ∧ b1 ≠ b2 ∧ b1 ≠ b3 ∧ b1 ≠ b4 ∧ b2 ≠ b3 ∧ b2 ≠ b4 ∧ b3 ≠ b4
set_option maxRecDepth 65536 in
set_option maxHeartbeats 40000000 in
theorem rm1 (l : Launch) (Z : State) (a0 : Array Value) (hw : ∀ d ∈ tables_1, d.before a0 Z = true) (ws : List Jvm.Cond) (a1 : Addr) (u0 : Value) (u1 : Value) (u2 : Value) (u3 : Value) (u4 : Value) (h0 : Heap) (n0 : Nat) (Z0 : n0 ≤ h0.size) (E_a1 : Exa Z h0 a1 own_K0) (F_variables_a1 : Fld Z h0 a1 own_K0 "variables" "[I" u0) (F_lows_a1 : Fld Z h0 a1 own_K0 "lows" "[I" u1) (F_highs_a1 : Fld Z h0 a1 own_K0 "highs" "[I" u2) (F_size_a1 : Fld Z h0 a1 own_K0 "size" "I" u3) (F_slots_a1 : Fld Z h0 a1 own_K0 "slots" "[I" u4) (g_a1 : n0 ≤ a1) :
    MetFree l (⟨own_K0, "<init>", "()V"⟩ : MethodName) (head1 (Jvm.Cond.code (⟨own_K0, "<init>", "()V"⟩ : MethodName) prog_20_method_1_code 1 none :: ws) ({ frames := 1, cells := 4, slots := 5120, locals := 12 } : Room)) (fun a U => a = #[(.ref a1)] ∧ Z.Warmed39 U.vm ∧ U.heap = h0) (fun _ _ _ _ _ => True) (fun _ U o U' => ∃ v L, o = .returned v ∧ Q1 Z a1 u0 u1 u2 u3 u4 h0 n0 v U'.heap L ∧ FrameEnd U o U' L ({ frames := 1, cells := 4, slots := 5120, locals := 12 } : Room).cells ({ frames := 1, cells := 4, slots := 5120, locals := 12 } : Room).slots) := by
  refine MetFree.of_bodySF (plainFor_of_name pn_1) hisR ?_
  intro p e s m args below meth c s₁ Bd hml0 hP hK
  obtain ⟨rfl, hZ, hh⟩ := hP
  have hx := Bd.exec
  have hby := Bd.bytes
  have hml : c.maxLocals = 1 := hml0
  have hown : s.vm.findClass own_K0 = some m.cls := findClass_of_methodNamed Bd.named
  have hnm := (name_of_methodNamed Bd.named Bd.method).1
  have hret := Bd.returns
  have hlk : meth.locks = false := BodyLoose.notSynchronized Bd
  have X0 : Stand p l e ({ frames := 1, cells := 4, slots := 5120, locals := 12 } : Room) s m #[(.ref a1)] below meth c s₁ [] 0 0 := Stand.of_body Bd
  have e0 : s₁.heap = h0 := by rw [← hh, Bd.state]; rfl
  have N0 := Fr.nil n0
  have W := fun (k : Nat) {d : Jvm.Cond} (h : tables_1[k]? = some d) => hw d (List.mem_of_getElem? h)
  have K0 : Keep h0 h0 [a1] := Keep.refl _ _
  refine own_start (ef_1 m a1) ?_
  show own_Run p e below _ s₁ (mkF m 0 #[.val (.ref a1)] [])
  refine own_go (fun _ k => XS.aloadN X0.here hx rfl (hb hby d1_0) rfl rfl k) ?_
  obtain ⟨T1, X1, e1, st1⟩ := initO X0 hx hZ hown (W 8 rfl) (W 9 rfl) (W 10 rfl) e0 (g := (mkF m 1 #[.val (.ref a1)] [(.ref a1)])) rfl (by rw [hml]; rfl) rfl (hb hby d1_1) (by decide) (W := 0) (by show 2 * 0 + _ ≤ _; exact Nat.le_of_eq rfl) (by decide)
  refine own_go st1 ?_
  refine own_go (fun _ k => XS.aloadN X1.here hx rfl (hb hby d1_4) rfl rfl k) ?_
  refine own_go (fun _ k => XS.sipush X1.here hx rfl (hb hby d1_5) k) ?_
  obtain ⟨T2, h2, k2, X2, e2, E2, A2, st2⟩ := newP X1 hx hZ (W 11 rfl) e1 (g := (mkF m 8 #[.val (.ref a1)] [(.int 1024), (.ref a1)])) rfl (hb hby d1_8) rfl (by decide) (cap := 1024) (by decide) (by decide) (by decide) (by decide)
  refine own_go st2 ?_
  obtain ⟨b2, g2⟩ : ∃ z, z = h0.size := ⟨_, rfl⟩
  rw [← g2] at A2
  rw [← g2]
  have ne_a1_b2 : a1 ≠ b2 := Nat.ne_of_lt (Nat.lt_of_lt_of_eq E_a1.lt g2.symm)
  have g_b2 : n0 ≤ b2 := Nat.le_trans Z0 (Nat.le_of_eq g2.symm)
  have sz_b2 : h0.size ≤ b2 := Nat.le_trans K0.1 (Nat.le_of_eq g2.symm)
  have Z0_c3 := Nat.le_trans Z0 E2.1
  have K0_c3 := K0.ext E2
  have E_a1_c3 := E_a1.ext E2
  have F_variables_a1_c3 := F_variables_a1.ext E2
  have F_lows_a1_c3 := F_lows_a1.ext E2
  have F_highs_a1_c3 := F_highs_a1.ext E2
  have F_size_a1_c3 := F_size_a1.ext E2
  have F_slots_a1_c3 := F_slots_a1.ext E2
  have V_b2 : Arv Z h2 b2 k2 .int (1024 : Int32) [(.int 0), (.int 0), (.int 0), (.int 0), (.int 0), (.int 0)] (.int 0) := (Arv.new A2 (by decide)).pad (pad_rep [] (.int 0) 6)
  obtain ⟨T4, h4, X4, e4, W4, st4⟩ := putF X2 hx hZ hown (host := "") (Or.inl (W 12 rfl)) Via.refl e2 F_variables_a1_c3 E_a1_c3 (Or.inl (W 13 rfl)) (W 3 rfl) (ty := (.array .int)) (by decide) rfl rfl (g := (mkF m 10 #[.val (.ref a1)] [(.ref b2), (.ref a1)])) rfl rfl (hb hby d1_10)
  refine own_go st4 ?_
  have Z0_c5 := Nat.le_trans Z0_c3 (Keep.of_wr W4).1
  have K0_c5 := K0_c3.wr W4 (Or.inl (List.mem_of_getElem? (i := 0) rfl))
  have E_a1_c5 := E_a1_c3.wr W4
  have F_lows_a1_c5 := F_lows_a1_c3.other W4 (Or.inr (slot_ne (Or.inl (W 15 rfl)) (Or.inl (W 13 rfl)) (by decide) (t := (.array .int)) (t' := (.array .int)) (by decide) (by decide)))
  have F_highs_a1_c5 := F_highs_a1_c3.other W4 (Or.inr (slot_ne (Or.inl (W 17 rfl)) (Or.inl (W 13 rfl)) (by decide) (t := (.array .int)) (t' := (.array .int)) (by decide) (by decide)))
  have F_size_a1_c5 := F_size_a1_c3.other W4 (Or.inr (slot_ne (Or.inl (W 19 rfl)) (Or.inl (W 13 rfl)) (by decide) (t := .int) (t' := (.array .int)) (by decide) (by decide)))
  have F_slots_a1_c5 := F_slots_a1_c3.other W4 (Or.inr (slot_ne (Or.inl (W 21 rfl)) (Or.inl (W 13 rfl)) (by decide) (t := (.array .int)) (t' := (.array .int)) (by decide) (by decide)))
  have V_b2_c5 := V_b2.other W4 (Ne.symm ne_a1_b2)
  have F_variables_a1_c4 : Fld Z h4 a1 own_K0 "variables" "[I" (.ref b2) := F_variables_a1_c3.same W4
  have N4 := Fr.snoc X4 N0 g_a1
  refine own_go (fun _ k => XS.aloadN X4.here hx rfl (hb hby d1_13) rfl rfl k) ?_
  refine own_go (fun _ k => XS.sipush X4.here hx rfl (hb hby d1_14) k) ?_
  show own_Run p e below _ T4 (mkF m 17 #[.val (.ref a1)] [(.int 1024), (.ref a1)])
  obtain ⟨T6, h6, k6, X6, e6, E6, A6, st6⟩ := newP X4 hx hZ (W 11 rfl) e4 (g := (mkF m 17 #[.val (.ref a1)] [(.int 1024), (.ref a1)])) rfl (hb hby d1_17) rfl (by decide) (cap := 1024) (by decide) (by decide) (by decide) (by decide)
  refine own_go st6 ?_
  obtain ⟨b6, g6⟩ : ∃ z, z = h4.size := ⟨_, rfl⟩
  rw [← g6] at A6
  rw [← g6]
  have ne_a1_b6 : a1 ≠ b6 := Nat.ne_of_lt (Nat.lt_of_lt_of_eq E_a1_c5.lt g6.symm)
  have ne_b2_b6 : b2 ≠ b6 := Nat.ne_of_lt (Nat.lt_of_lt_of_eq V_b2_c5.lt g6.symm)
  have g_b6 : n0 ≤ b6 := Nat.le_trans Z0_c5 (Nat.le_of_eq g6.symm)
  have sz_b6 : h0.size ≤ b6 := Nat.le_trans K0_c5.1 (Nat.le_of_eq g6.symm)
  have Z0_c7 := Nat.le_trans Z0_c5 E6.1
  have K0_c7 := K0_c5.ext E6
  have E_a1_c7 := E_a1_c5.ext E6
  have F_lows_a1_c7 := F_lows_a1_c5.ext E6
  have F_highs_a1_c7 := F_highs_a1_c5.ext E6
  have F_size_a1_c7 := F_size_a1_c5.ext E6
  have F_slots_a1_c7 := F_slots_a1_c5.ext E6
  have V_b2_c7 := V_b2_c5.ext E6
  have F_variables_a1_c7 := F_variables_a1_c4.ext E6
  have V_b6 : Arv Z h6 b6 k6 .int (1024 : Int32) [(.int 0), (.int 0), (.int 0), (.int 0), (.int 0), (.int 0)] (.int 0) := (Arv.new A6 (by decide)).pad (pad_rep [] (.int 0) 6)
  obtain ⟨T8, h8, X8, e8, W8, st8⟩ := putF X6 hx hZ hown (host := "") (Or.inl (W 14 rfl)) Via.refl e6 F_lows_a1_c7 E_a1_c7 (Or.inl (W 15 rfl)) (W 3 rfl) (ty := (.array .int)) (by decide) rfl rfl (g := (mkF m 19 #[.val (.ref a1)] [(.ref b6), (.ref a1)])) rfl rfl (hb hby d1_19)
  refine own_go st8 ?_
  have Z0_c9 := Nat.le_trans Z0_c7 (Keep.of_wr W8).1
  have K0_c9 := K0_c7.wr W8 (Or.inl (List.mem_of_getElem? (i := 0) rfl))
  have E_a1_c9 := E_a1_c7.wr W8
  have F_highs_a1_c9 := F_highs_a1_c7.other W8 (Or.inr (slot_ne (Or.inl (W 17 rfl)) (Or.inl (W 15 rfl)) (by decide) (t := (.array .int)) (t' := (.array .int)) (by decide) (by decide)))
  have F_size_a1_c9 := F_size_a1_c7.other W8 (Or.inr (slot_ne (Or.inl (W 19 rfl)) (Or.inl (W 15 rfl)) (by decide) (t := .int) (t' := (.array .int)) (by decide) (by decide)))
  have F_slots_a1_c9 := F_slots_a1_c7.other W8 (Or.inr (slot_ne (Or.inl (W 21 rfl)) (Or.inl (W 15 rfl)) (by decide) (t := (.array .int)) (t' := (.array .int)) (by decide) (by decide)))
  have V_b2_c9 := V_b2_c7.other W8 (Ne.symm ne_a1_b2)
  have F_variables_a1_c9 := F_variables_a1_c7.other W8 (Or.inr (slot_ne (Or.inl (W 13 rfl)) (Or.inl (W 15 rfl)) (by decide) (t := (.array .int)) (t' := (.array .int)) (by decide) (by decide)))
  have V_b6_c9 := V_b6.other W8 (Ne.symm ne_a1_b6)
  have F_lows_a1_c8 : Fld Z h8 a1 own_K0 "lows" "[I" (.ref b6) := F_lows_a1_c7.same W8
  have N8 := Fr.snoc X8 N4 g_a1
  refine own_go (fun _ k => XS.aloadN X8.here hx rfl (hb hby d1_22) rfl rfl k) ?_
  refine own_go (fun _ k => XS.sipush X8.here hx rfl (hb hby d1_23) k) ?_
  obtain ⟨T10, h10, k10, X10, e10, E10, A10, st10⟩ := newP X8 hx hZ (W 11 rfl) e8 (g := (mkF m 26 #[.val (.ref a1)] [(.int 1024), (.ref a1)])) rfl (hb hby d1_26) rfl (by decide) (cap := 1024) (by decide) (by decide) (by decide) (by decide)
  refine own_go st10 ?_
  obtain ⟨b10, g10⟩ : ∃ z, z = h8.size := ⟨_, rfl⟩
  rw [← g10] at A10
  rw [← g10]
  have ne_a1_b10 : a1 ≠ b10 := Nat.ne_of_lt (Nat.lt_of_lt_of_eq E_a1_c9.lt g10.symm)
  have ne_b2_b10 : b2 ≠ b10 := Nat.ne_of_lt (Nat.lt_of_lt_of_eq V_b2_c9.lt g10.symm)
  have ne_b6_b10 : b6 ≠ b10 := Nat.ne_of_lt (Nat.lt_of_lt_of_eq V_b6_c9.lt g10.symm)
  have g_b10 : n0 ≤ b10 := Nat.le_trans Z0_c9 (Nat.le_of_eq g10.symm)
  have sz_b10 : h0.size ≤ b10 := Nat.le_trans K0_c9.1 (Nat.le_of_eq g10.symm)
  have Z0_c11 := Nat.le_trans Z0_c9 E10.1
  have K0_c11 := K0_c9.ext E10
  have E_a1_c11 := E_a1_c9.ext E10
  have F_highs_a1_c11 := F_highs_a1_c9.ext E10
  have F_size_a1_c11 := F_size_a1_c9.ext E10
  have F_slots_a1_c11 := F_slots_a1_c9.ext E10
  have V_b2_c11 := V_b2_c9.ext E10
  have F_variables_a1_c11 := F_variables_a1_c9.ext E10
  have V_b6_c11 := V_b6_c9.ext E10
  have F_lows_a1_c11 := F_lows_a1_c8.ext E10
  have V_b10 : Arv Z h10 b10 k10 .int (1024 : Int32) [(.int 0), (.int 0), (.int 0), (.int 0), (.int 0), (.int 0)] (.int 0) := (Arv.new A10 (by decide)).pad (pad_rep [] (.int 0) 6)
  obtain ⟨T12, h12, X12, e12, W12, st12⟩ := putF X10 hx hZ hown (host := "") (Or.inl (W 16 rfl)) Via.refl e10 F_highs_a1_c11 E_a1_c11 (Or.inl (W 17 rfl)) (W 3 rfl) (ty := (.array .int)) (by decide) rfl rfl (g := (mkF m 28 #[.val (.ref a1)] [(.ref b10), (.ref a1)])) rfl rfl (hb hby d1_28)
  refine own_go st12 ?_
  have Z0_c13 := Nat.le_trans Z0_c11 (Keep.of_wr W12).1
  have K0_c13 := K0_c11.wr W12 (Or.inl (List.mem_of_getElem? (i := 0) rfl))
  have E_a1_c13 := E_a1_c11.wr W12
  have F_size_a1_c13 := F_size_a1_c11.other W12 (Or.inr (slot_ne (Or.inl (W 19 rfl)) (Or.inl (W 17 rfl)) (by decide) (t := .int) (t' := (.array .int)) (by decide) (by decide)))
  have F_slots_a1_c13 := F_slots_a1_c11.other W12 (Or.inr (slot_ne (Or.inl (W 21 rfl)) (Or.inl (W 17 rfl)) (by decide) (t := (.array .int)) (t' := (.array .int)) (by decide) (by decide)))
  have V_b2_c13 := V_b2_c11.other W12 (Ne.symm ne_a1_b2)
  have F_variables_a1_c13 := F_variables_a1_c11.other W12 (Or.inr (slot_ne (Or.inl (W 13 rfl)) (Or.inl (W 17 rfl)) (by decide) (t := (.array .int)) (t' := (.array .int)) (by decide) (by decide)))
  have V_b6_c13 := V_b6_c11.other W12 (Ne.symm ne_a1_b6)
  have F_lows_a1_c13 := F_lows_a1_c11.other W12 (Or.inr (slot_ne (Or.inl (W 15 rfl)) (Or.inl (W 17 rfl)) (by decide) (t := (.array .int)) (t' := (.array .int)) (by decide) (by decide)))
  have V_b10_c13 := V_b10.other W12 (Ne.symm ne_a1_b10)
  have F_highs_a1_c12 : Fld Z h12 a1 own_K0 "highs" "[I" (.ref b10) := F_highs_a1_c11.same W12
  have N12 := Fr.snoc X12 N8 g_a1
  refine own_go (fun _ k => XS.aloadN X12.here hx rfl (hb hby d1_31) rfl rfl k) ?_
  refine own_go (fun _ k => XS.iconst X12.here hx rfl (hb hby d1_32) k) ?_
  show own_Run p e below _ T12 (mkF m 33 #[.val (.ref a1)] [(.int 2), (.ref a1)])
  obtain ⟨T14, h14, X14, e14, W14, st14⟩ := putF X12 hx hZ hown (host := "") (Or.inl (W 18 rfl)) Via.refl e12 F_size_a1_c13 E_a1_c13 (Or.inl (W 19 rfl)) (W 3 rfl) (ty := .int) (by decide) rfl rfl (g := (mkF m 33 #[.val (.ref a1)] [(.int 2), (.ref a1)])) rfl rfl (hb hby d1_33)
  refine own_go st14 ?_
  have Z0_c15 := Nat.le_trans Z0_c13 (Keep.of_wr W14).1
  have K0_c15 := K0_c13.wr W14 (Or.inl (List.mem_of_getElem? (i := 0) rfl))
  have E_a1_c15 := E_a1_c13.wr W14
  have F_slots_a1_c15 := F_slots_a1_c13.other W14 (Or.inr (slot_ne (Or.inl (W 21 rfl)) (Or.inl (W 19 rfl)) (by decide) (t := (.array .int)) (t' := .int) (by decide) (by decide)))
  have V_b2_c15 := V_b2_c13.other W14 (Ne.symm ne_a1_b2)
  have F_variables_a1_c15 := F_variables_a1_c13.other W14 (Or.inr (slot_ne (Or.inl (W 13 rfl)) (Or.inl (W 19 rfl)) (by decide) (t := (.array .int)) (t' := .int) (by decide) (by decide)))
  have V_b6_c15 := V_b6_c13.other W14 (Ne.symm ne_a1_b6)
  have F_lows_a1_c15 := F_lows_a1_c13.other W14 (Or.inr (slot_ne (Or.inl (W 15 rfl)) (Or.inl (W 19 rfl)) (by decide) (t := (.array .int)) (t' := .int) (by decide) (by decide)))
  have V_b10_c15 := V_b10_c13.other W14 (Ne.symm ne_a1_b10)
  have F_highs_a1_c15 := F_highs_a1_c12.other W14 (Or.inr (slot_ne (Or.inl (W 17 rfl)) (Or.inl (W 19 rfl)) (by decide) (t := (.array .int)) (t' := .int) (by decide) (by decide)))
  have F_size_a1_c14 : Fld Z h14 a1 own_K0 "size" "I" (.int 2) := F_size_a1_c13.same W14
  have N14 := Fr.snoc X14 N12 g_a1
  refine own_go (fun _ k => XS.aloadN X14.here hx rfl (hb hby d1_36) rfl rfl k) ?_
  refine own_go (fun _ k => XS.sipush X14.here hx rfl (hb hby d1_37) k) ?_
  obtain ⟨T16, h16, k16, X16, e16, E16, A16, st16⟩ := newP X14 hx hZ (W 11 rfl) e14 (g := (mkF m 40 #[.val (.ref a1)] [(.int 2048), (.ref a1)])) rfl (hb hby d1_40) rfl (by decide) (cap := 2048) (by decide) (by decide) (by decide) (by decide)
  refine own_go st16 ?_
  obtain ⟨b16, g16⟩ : ∃ z, z = h14.size := ⟨_, rfl⟩
  rw [← g16] at A16
  rw [← g16]
  have ne_a1_b16 : a1 ≠ b16 := Nat.ne_of_lt (Nat.lt_of_lt_of_eq E_a1_c15.lt g16.symm)
  have ne_b2_b16 : b2 ≠ b16 := Nat.ne_of_lt (Nat.lt_of_lt_of_eq V_b2_c15.lt g16.symm)
  have ne_b6_b16 : b6 ≠ b16 := Nat.ne_of_lt (Nat.lt_of_lt_of_eq V_b6_c15.lt g16.symm)
  have ne_b10_b16 : b10 ≠ b16 := Nat.ne_of_lt (Nat.lt_of_lt_of_eq V_b10_c15.lt g16.symm)
  have g_b16 : n0 ≤ b16 := Nat.le_trans Z0_c15 (Nat.le_of_eq g16.symm)
  have sz_b16 : h0.size ≤ b16 := Nat.le_trans K0_c15.1 (Nat.le_of_eq g16.symm)
  have Z0_c17 := Nat.le_trans Z0_c15 E16.1
  have K0_c17 := K0_c15.ext E16
  have E_a1_c17 := E_a1_c15.ext E16
  have F_slots_a1_c17 := F_slots_a1_c15.ext E16
  have V_b2_c17 := V_b2_c15.ext E16
  have F_variables_a1_c17 := F_variables_a1_c15.ext E16
  have V_b6_c17 := V_b6_c15.ext E16
  have F_lows_a1_c17 := F_lows_a1_c15.ext E16
  have V_b10_c17 := V_b10_c15.ext E16
  have F_highs_a1_c17 := F_highs_a1_c15.ext E16
  have F_size_a1_c17 := F_size_a1_c14.ext E16
  have V_b16 : Arv Z h16 b16 k16 .int (2048 : Int32) [] (.int 0) := (Arv.new A16 (by decide)).pad (pad_rep [] (.int 0) 0)
  obtain ⟨T18, h18, X18, e18, W18, st18⟩ := putF X16 hx hZ hown (host := "") (Or.inl (W 20 rfl)) Via.refl e16 F_slots_a1_c17 E_a1_c17 (Or.inl (W 21 rfl)) (W 3 rfl) (ty := (.array .int)) (by decide) rfl rfl (g := (mkF m 42 #[.val (.ref a1)] [(.ref b16), (.ref a1)])) rfl rfl (hb hby d1_42)
  refine own_go st18 ?_
  have Z0_c19 := Nat.le_trans Z0_c17 (Keep.of_wr W18).1
  have K0_c19 := K0_c17.wr W18 (Or.inl (List.mem_of_getElem? (i := 0) rfl))
  have E_a1_c19 := E_a1_c17.wr W18
  have V_b2_c19 := V_b2_c17.other W18 (Ne.symm ne_a1_b2)
  have F_variables_a1_c19 := F_variables_a1_c17.other W18 (Or.inr (slot_ne (Or.inl (W 13 rfl)) (Or.inl (W 21 rfl)) (by decide) (t := (.array .int)) (t' := (.array .int)) (by decide) (by decide)))
  have V_b6_c19 := V_b6_c17.other W18 (Ne.symm ne_a1_b6)
  have F_lows_a1_c19 := F_lows_a1_c17.other W18 (Or.inr (slot_ne (Or.inl (W 15 rfl)) (Or.inl (W 21 rfl)) (by decide) (t := (.array .int)) (t' := (.array .int)) (by decide) (by decide)))
  have V_b10_c19 := V_b10_c17.other W18 (Ne.symm ne_a1_b10)
  have F_highs_a1_c19 := F_highs_a1_c17.other W18 (Or.inr (slot_ne (Or.inl (W 17 rfl)) (Or.inl (W 21 rfl)) (by decide) (t := (.array .int)) (t' := (.array .int)) (by decide) (by decide)))
  have F_size_a1_c19 := F_size_a1_c17.other W18 (Or.inr (slot_ne (Or.inl (W 19 rfl)) (Or.inl (W 21 rfl)) (by decide) (t := .int) (t' := (.array .int)) (by decide) (by decide)))
  have V_b16_c19 := V_b16.other W18 (Ne.symm ne_a1_b16)
  have F_slots_a1_c18 : Fld Z h18 a1 own_K0 "slots" "[I" (.ref b16) := F_slots_a1_c17.same W18
  have N18 := Fr.snoc X18 N14 g_a1
  refine own_go (fun _ k => XS.aloadN X18.here hx rfl (hb hby d1_45) rfl rfl k) ?_
  obtain ⟨T20, X20, e20, st20⟩ := getF X18 hx hZ hown (host := "") (Or.inl (W 12 rfl)) Via.refl e18 F_variables_a1_c19 (g := (mkF m 46 #[.val (.ref a1)] [(.ref a1)])) rfl rfl (hb hby d1_46)
  refine own_go st20 ?_
  refine own_go (fun _ k => XS.iconst X20.here hx rfl (hb hby d1_49) k) ?_
  show own_Run p e below _ T20 (mkF m 50 #[.val (.ref a1)] [(.int 0), (.ref b2)])
  refine own_go (X20.ldcInt hx hown (mvT hZ (W 22 rfl)) (g := (mkF m 50 #[.val (.ref a1)] [(.int 0), (.ref b2)])) rfl (hb hby d1_50)) ?_
  obtain ⟨cl21, Ar21, q21, S21, N21, H21, G21⟩ := id V_b2_c19
  have hin21 : ¬ ((0 : Int32) < 0 ∨ cl21.slots.size ≤ ((0 : Int32)).toNatClampNeg) := inb_of S21 ⟨by decide, by decide⟩
  obtain ⟨T22, h22, X22, e22, W22, st22⟩ := stI X20 hx hZ e20 Ar21 (j := (0 : Int32)) hin21 (g := (mkF m 52 #[.val (.ref a1)] [(.int 2147483647), (.int 0), (.ref b2)])) rfl rfl (hb hby d1_52)
  refine own_go st22 ?_
  have Z0_c23 := Nat.le_trans Z0_c19 (Keep.of_wr W22).1
  have K0_c23 := K0_c19.wr W22 (Or.inr sz_b2)
  have E_a1_c23 := E_a1_c19.wr W22
  have F_variables_a1_c23 := F_variables_a1_c19.other W22 (Or.inl ne_a1_b2)
  have V_b6_c23 := V_b6_c19.other W22 (Ne.symm ne_b2_b6)
  have F_lows_a1_c23 := F_lows_a1_c19.other W22 (Or.inl ne_a1_b2)
  have V_b10_c23 := V_b10_c19.other W22 (Ne.symm ne_b2_b10)
  have F_highs_a1_c23 := F_highs_a1_c19.other W22 (Or.inl ne_a1_b2)
  have F_size_a1_c23 := F_size_a1_c19.other W22 (Or.inl ne_a1_b2)
  have V_b16_c23 := V_b16_c19.other W22 (Ne.symm ne_b2_b16)
  have F_slots_a1_c23 := F_slots_a1_c18.other W22 (Or.inl ne_a1_b2)
  have V_b2_c22 : Arv Z h22 b2 k2 .int (1024 : Int32) [(.int 2147483647), (.int 0), (.int 0), (.int 0), (.int 0), (.int 0)] (.int 0) := Arv.set Ar21 q21 S21 N21 H21 G21 rfl W22 0 rfl (Nat.le_of_ble_eq_true rfl)
  have N22 := Fr.snoc X22 N18 g_b2
  refine own_go (fun _ k => XS.aloadN X22.here hx rfl (hb hby d1_53) rfl rfl k) ?_
  obtain ⟨T24, X24, e24, st24⟩ := getF X22 hx hZ hown (host := "") (Or.inl (W 12 rfl)) Via.refl e22 F_variables_a1_c23 (g := (mkF m 54 #[.val (.ref a1)] [(.ref a1)])) rfl rfl (hb hby d1_54)
  refine own_go st24 ?_
  refine own_go (fun _ k => XS.iconst X24.here hx rfl (hb hby d1_57) k) ?_
  refine own_go (X24.ldcInt hx hown (mvT hZ (W 22 rfl)) (g := (mkF m 58 #[.val (.ref a1)] [(.int 1), (.ref b2)])) rfl (hb hby d1_58)) ?_
  obtain ⟨cl25, Ar25, q25, S25, N25, H25, G25⟩ := id V_b2_c22
  have hin25 : ¬ ((1 : Int32) < 0 ∨ cl25.slots.size ≤ ((1 : Int32)).toNatClampNeg) := inb_of S25 ⟨by decide, by decide⟩
  obtain ⟨T26, h26, X26, e26, W26, st26⟩ := stI X24 hx hZ e24 Ar25 (j := (1 : Int32)) hin25 (g := (mkF m 60 #[.val (.ref a1)] [(.int 2147483647), (.int 1), (.ref b2)])) rfl rfl (hb hby d1_60)
  refine own_go st26 ?_
  have Z0_c27 := Nat.le_trans Z0_c23 (Keep.of_wr W26).1
  have K0_c27 := K0_c23.wr W26 (Or.inr sz_b2)
  have E_a1_c27 := E_a1_c23.wr W26
  have F_variables_a1_c27 := F_variables_a1_c23.other W26 (Or.inl ne_a1_b2)
  have V_b6_c27 := V_b6_c23.other W26 (Ne.symm ne_b2_b6)
  have F_lows_a1_c27 := F_lows_a1_c23.other W26 (Or.inl ne_a1_b2)
  have V_b10_c27 := V_b10_c23.other W26 (Ne.symm ne_b2_b10)
  have F_highs_a1_c27 := F_highs_a1_c23.other W26 (Or.inl ne_a1_b2)
  have F_size_a1_c27 := F_size_a1_c23.other W26 (Or.inl ne_a1_b2)
  have V_b16_c27 := V_b16_c23.other W26 (Ne.symm ne_b2_b16)
  have F_slots_a1_c27 := F_slots_a1_c23.other W26 (Or.inl ne_a1_b2)
  have V_b2_c26 : Arv Z h26 b2 k2 .int (1024 : Int32) [(.int 2147483647), (.int 2147483647), (.int 0), (.int 0), (.int 0), (.int 0)] (.int 0) := Arv.set Ar25 q25 S25 N25 H25 G25 rfl W26 1 rfl (Nat.le_of_ble_eq_true rfl)
  have N26 := Fr.snoc X26 N22 g_b2
  have Xs : Arh Z h26 b16 k16 .int (2048 : Int32) [] [] (.int 0) := V_b16_c27.arh
  refine own_done (Q := fun v h L => Q1 Z a1 u0 u1 u2 u3 u4 h0 n0 v h L) (v := none) X26 (fun _ => rfl) hlk (fun fs hr => X26.returnOut hx hret (hb hby d1_61) hr) ?_ (by decide) (by decide)
  show Q1 Z a1 u0 u1 u2 u3 u4 h0 n0 _ T26.heap _
  rw [e26]
  exact ⟨b2, b6, b10, b16, k2, k6, k10, k16, rfl, N26, K0_c27, E_a1_c27, F_variables_a1_c27, F_lows_a1_c27, F_highs_a1_c27, F_slots_a1_c27, F_size_a1_c27, V_b2_c26, V_b6_c27, V_b10_c27, Xs, sz_b2, sz_b6, sz_b10, sz_b16, ne_a1_b2, ne_a1_b6, ne_a1_b10, ne_a1_b16, ne_b2_b6, ne_b2_b10, ne_b2_b16, ne_b6_b10, ne_b6_b16, ne_b10_b16⟩
theorem d4_0 : decode prog_20_method_4_code 0 = .ok (.iload_n 0, 1) := by decide +kernel
theorem d4_1 : decode prog_20_method_4_code 1 = .ok (.ldc 42, 2) := by decide +kernel
theorem d4_3 : decode prog_20_method_4_code 3 = .ok (.imul, 1) := by decide +kernel
theorem d4_4 : decode prog_20_method_4_code 4 = .ok (.iload_n 1, 1) := by decide +kernel
theorem d4_5 : decode prog_20_method_4_code 5 = .ok (.iadd, 1) := by decide +kernel
theorem d4_6 : decode prog_20_method_4_code 6 = .ok (.istore_n 3, 1) := by decide +kernel
theorem d4_7 : decode prog_20_method_4_code 7 = .ok (.iload_n 3, 1) := by decide +kernel
theorem d4_8 : decode prog_20_method_4_code 8 = .ok (.ldc 42, 2) := by decide +kernel
theorem d4_10 : decode prog_20_method_4_code 10 = .ok (.imul, 1) := by decide +kernel
theorem d4_11 : decode prog_20_method_4_code 11 = .ok (.iload_n 2, 1) := by decide +kernel
theorem d4_12 : decode prog_20_method_4_code 12 = .ok (.iadd, 1) := by decide +kernel
theorem d4_13 : decode prog_20_method_4_code 13 = .ok (.istore_n 3, 1) := by decide +kernel
theorem d4_14 : decode prog_20_method_4_code 14 = .ok (.iload_n 3, 1) := by decide +kernel
theorem d4_15 : decode prog_20_method_4_code 15 = .ok (.iload_n 3, 1) := by decide +kernel
theorem d4_16 : decode prog_20_method_4_code 16 = .ok (.bipush 15, 2) := by decide +kernel
theorem d4_18 : decode prog_20_method_4_code 18 = .ok (.iushr, 1) := by decide +kernel
theorem d4_19 : decode prog_20_method_4_code 19 = .ok (.ixor, 1) := by decide +kernel
theorem d4_20 : decode prog_20_method_4_code 20 = .ok (.ireturn, 1) := by decide +kernel
theorem pn_4 : plainName "com/example/error_to_hazard/errortohazard/analysis/NodeTable" = true := by first | (simp [plainName, overriddenIn]; done) | decide +kernel
theorem ef_4 (m : MethodId) (x0 : Int32) (x1 : Int32) (x2 : Int32) : entryFrame m #[(.int x0), (.int x1), (.int x2)] 4 = mkF m 0 #[.val (.int x0), .val (.int x1), .val (.int x2), .unset] [] := by first | (simp [entryFrame, mkF, argsToLocals, Value.category]; done) | rfl
def Q4 (Z : State) (p1 : Int32) (p2 : Int32) (p3 : Int32) (h0 : Heap) (n0 : Nat) (v : Option Value) (h : Heap) (L : List Loc) : Prop := v = some (.int (own_hash p1 p2 p3)) ∧ Fr n0 L ∧ h = h0
set_option maxRecDepth 65536 in
set_option maxHeartbeats 40000000 in
theorem rm4 (l : Launch) (Z : State) (a0 : Array Value) (hw : ∀ d ∈ tables_1, d.before a0 Z = true) (ws : List Jvm.Cond) (p1 : Int32) (p2 : Int32) (p3 : Int32) (h0 : Heap) (n0 : Nat) (Z0 : n0 ≤ h0.size) :
    MetFree l (⟨own_K0, "hash", "(III)I"⟩ : MethodName) (head1 (Jvm.Cond.code (⟨own_K0, "hash", "(III)I"⟩ : MethodName) prog_20_method_4_code 4 (some .int) :: ws) ({ frames := 0, cells := 0, slots := 0, locals := 0 } : Room)) (fun a U => a = #[(.int p1), (.int p2), (.int p3)] ∧ Z.Warmed39 U.vm ∧ U.heap = h0) (fun _ _ _ _ _ => True) (fun _ U o U' => ∃ v L, o = .returned v ∧ Q4 Z p1 p2 p3 h0 n0 v U'.heap L ∧ FrameEnd U o U' L ({ frames := 0, cells := 0, slots := 0, locals := 0 } : Room).cells ({ frames := 0, cells := 0, slots := 0, locals := 0 } : Room).slots) := by
  refine MetFree.of_bodySF (plainFor_of_name pn_4) hisR ?_
  intro p e s m args below meth c s₁ Bd hml0 hP hK
  obtain ⟨rfl, hZ, hh⟩ := hP
  have hx := Bd.exec
  have hby := Bd.bytes
  have hml : c.maxLocals = 4 := hml0
  have hown : s.vm.findClass own_K0 = some m.cls := findClass_of_methodNamed Bd.named
  have hnm := (name_of_methodNamed Bd.named Bd.method).1
  have hret := Bd.returns
  have hlk : meth.locks = false := BodyLoose.notSynchronized Bd
  have X0 : Stand p l e ({ frames := 0, cells := 0, slots := 0, locals := 0 } : Room) s m #[(.int p1), (.int p2), (.int p3)] below meth c s₁ [] 0 0 := Stand.of_body Bd
  have e0 : s₁.heap = h0 := by rw [← hh, Bd.state]; rfl
  have N0 := Fr.nil n0
  have W := fun (k : Nat) {d : Jvm.Cond} (h : tables_1[k]? = some d) => hw d (List.mem_of_getElem? h)
  have K0 : Keep h0 h0 [] := Keep.refl _ _
  refine own_start (ef_4 m p1 p2 p3) ?_
  show own_Run p e below _ s₁ (mkF m 0 #[.val (.int p1), .val (.int p2), .val (.int p3), .unset] [])
  refine own_go (fun _ k => XS.iloadN X0.here hx rfl (hb hby d4_0) rfl k) ?_
  refine own_go (X0.ldcInt hx hown (mvT hZ (W 31 rfl)) (g := (mkF m 1 #[.val (.int p1), .val (.int p2), .val (.int p3), .unset] [(.int p1)])) rfl (hb hby d4_1)) ?_
  refine own_go (fun _ k => XS.imul X0.here hx rfl (hb hby d4_3) rfl k) ?_
  refine own_go (fun _ k => XS.iloadN X0.here hx rfl (hb hby d4_4) rfl k) ?_
  refine own_go (fun _ k => XS.iadd X0.here hx rfl (hb hby d4_5) rfl k) ?_
  refine own_go (fun _ k => XS.istoreN X0.here hx rfl (hb hby d4_6) rfl (l' := #[.val (.int p1), .val (.int p2), .val (.int p3), .val (.int ((p1 * (-1640531535 : Int32)) + p2))]) rfl k) ?_
  refine own_go (fun _ k => XS.iloadN X0.here hx rfl (hb hby d4_7) rfl k) ?_
  refine own_go (X0.ldcInt hx hown (mvT hZ (W 31 rfl)) (g := (mkF m 8 #[.val (.int p1), .val (.int p2), .val (.int p3), .val (.int ((p1 * (-1640531535 : Int32)) + p2))] [(.int ((p1 * (-1640531535 : Int32)) + p2))])) rfl (hb hby d4_8)) ?_
  show own_Run p e below _ s₁ (mkF m 10 #[.val (.int p1), .val (.int p2), .val (.int p3), .val (.int ((p1 * (-1640531535 : Int32)) + p2))] [(.int (-1640531535 : Int32)), (.int ((p1 * (-1640531535 : Int32)) + p2))])
  refine own_go (fun _ k => XS.imul X0.here hx rfl (hb hby d4_10) rfl k) ?_
  refine own_go (fun _ k => XS.iloadN X0.here hx rfl (hb hby d4_11) rfl k) ?_
  refine own_go (fun _ k => XS.iadd X0.here hx rfl (hb hby d4_12) rfl k) ?_
  refine own_go (fun _ k => XS.istoreN X0.here hx rfl (hb hby d4_13) rfl (l' := #[.val (.int p1), .val (.int p2), .val (.int p3), .val (.int ((((p1 * (-1640531535 : Int32)) + p2) * (-1640531535 : Int32)) + p3))]) rfl k) ?_
  refine own_go (fun _ k => XS.iloadN X0.here hx rfl (hb hby d4_14) rfl k) ?_
  refine own_go (fun _ k => XS.iloadN X0.here hx rfl (hb hby d4_15) rfl k) ?_
  refine own_go (fun _ k => XS.bipush X0.here hx rfl (hb hby d4_16) k) ?_
  refine own_go (fun _ k => XS.iushr X0.here hx rfl (hb hby d4_18) rfl k) ?_
  show own_Run p e below _ s₁ (mkF m 19 #[.val (.int p1), .val (.int p2), .val (.int p3), .val (.int ((((p1 * (-1640531535 : Int32)) + p2) * (-1640531535 : Int32)) + p3))] [(.int ((((((p1 * (-1640531535 : Int32)) + p2) * (-1640531535 : Int32)) + p3).toUInt32 >>> ((15 : Int32) &&& 31).toUInt32).toInt32)), (.int ((((p1 * (-1640531535 : Int32)) + p2) * (-1640531535 : Int32)) + p3))])
  refine own_go (fun _ k => XS.ixor X0.here hx rfl (hb hby d4_19) rfl k) ?_
  refine own_done (Q := fun v h L => Q4 Z p1 p2 p3 h0 n0 v h L) (v := (some (.int (((((p1 * (-1640531535 : Int32)) + p2) * (-1640531535 : Int32)) + p3) ^^^ ((((((p1 * (-1640531535 : Int32)) + p2) * (-1640531535 : Int32)) + p3).toUInt32 >>> ((15 : Int32) &&& 31).toUInt32).toInt32))))) X0 (fun h => by rw [hret] at h; cases h) hlk (fun fs hr => own_retI X0 hx hret (hb hby d4_20) hr) ?_ (by decide) (by decide)
  show Q4 Z p1 p2 p3 h0 n0 _ s₁.heap _
  rw [e0]
  exact ⟨rfl, N0, rfl⟩
def Q3c2 (Z : State) (a1 : Addr) (p2 : Int32) (p3 : Int32) (p4 : Int32) (b1 : Addr) (b2 : Addr) (b3 : Addr) (b4 : Addr) (k1 : ClassId) (k2 : ClassId) (k3 : ClassId) (k4 : ClassId) (h0 : Heap) (n0 : Nat) (v : Option Value) (h : Heap) (L : List Loc) : Prop := ∃ (ic : Int32), v = some (.int 2) ∧ Fr n0 L ∧ Keep h0 h [a1, b1, b2, b3, b4] ∧ Exa Z h a1 own_K0 ∧ Fld Z h a1 own_K0 "variables" "[I" (.ref b1) ∧ Fld Z h a1 own_K0 "lows" "[I" (.ref b2) ∧ Fld Z h a1 own_K0 "highs" "[I" (.ref b3) ∧ Fld Z h a1 own_K0 "slots" "[I" (.ref b4) ∧ Fld Z h a1 own_K0 "size" "I" (.int 3) ∧ Arv Z h b1 k1 .int (1024 : Int32) [(.int 2147483647), (.int 2147483647), (.int p2), (.int 0), (.int 0), (.int 0)] (.int 0) ∧ Arv Z h b2 k2 .int (1024 : Int32) [(.int 0), (.int 0), (.int p3), (.int 0), (.int 0), (.int 0)] (.int 0) ∧ Arv Z h b3 k3 .int (1024 : Int32) [(.int 0), (.int 0), (.int p4), (.int 0), (.int 0), (.int 0)] (.int 0) ∧ Arh Z h b4 k4 .int (2048 : Int32) [(ic, (.int 3))] [] (.int 0)
theorem d3_0 : decode prog_20_method_2_code 0 = .ok (.aload_n 0, 1) := by decide +kernel
theorem d3_1 : decode prog_20_method_2_code 1 = .ok (.getfield 25, 3) := by decide +kernel
theorem d3_4 : decode prog_20_method_2_code 4 = .ok (.arraylength, 1) := by decide +kernel
theorem d3_5 : decode prog_20_method_2_code 5 = .ok (.iconst 1, 1) := by decide +kernel
theorem d3_6 : decode prog_20_method_2_code 6 = .ok (.isub, 1) := by decide +kernel
theorem d3_7 : decode prog_20_method_2_code 7 = .ok (.istore 4, 2) := by decide +kernel
theorem d3_9 : decode prog_20_method_2_code 9 = .ok (.iload_n 1, 1) := by decide +kernel
theorem d3_10 : decode prog_20_method_2_code 10 = .ok (.iload_n 2, 1) := by decide +kernel
theorem d3_11 : decode prog_20_method_2_code 11 = .ok (.iload_n 3, 1) := by decide +kernel
theorem d3_12 : decode prog_20_method_2_code 12 = .ok (.invokestatic 29, 3) := by decide +kernel
theorem d3_15 : decode prog_20_method_2_code 15 = .ok (.iload 4, 2) := by decide +kernel
theorem d3_17 : decode prog_20_method_2_code 17 = .ok (.iand, 1) := by decide +kernel
theorem d3_18 : decode prog_20_method_2_code 18 = .ok (.istore 5, 2) := by decide +kernel
theorem d3_20 : decode prog_20_method_2_code 20 = .ok (.aload_n 0, 1) := by decide +kernel
theorem d3_21 : decode prog_20_method_2_code 21 = .ok (.getfield 25, 3) := by decide +kernel
theorem d3_24 : decode prog_20_method_2_code 24 = .ok (.iload 5, 2) := by decide +kernel
theorem d3_26 : decode prog_20_method_2_code 26 = .ok (.iaload, 1) := by decide +kernel
theorem d3_27 : decode prog_20_method_2_code 27 = .ok (.ifCond .eq 62, 3) := by decide +kernel
theorem d3_30 : decode prog_20_method_2_code 30 = .ok (.aload_n 0, 1) := by decide +kernel
theorem d3_31 : decode prog_20_method_2_code 31 = .ok (.getfield 25, 3) := by decide +kernel
theorem d3_34 : decode prog_20_method_2_code 34 = .ok (.iload 5, 2) := by decide +kernel
theorem d3_36 : decode prog_20_method_2_code 36 = .ok (.iaload, 1) := by decide +kernel
theorem d3_37 : decode prog_20_method_2_code 37 = .ok (.iconst 1, 1) := by decide +kernel
theorem d3_38 : decode prog_20_method_2_code 38 = .ok (.isub, 1) := by decide +kernel
theorem d3_39 : decode prog_20_method_2_code 39 = .ok (.istore 6, 2) := by decide +kernel
theorem d3_41 : decode prog_20_method_2_code 41 = .ok (.aload_n 0, 1) := by decide +kernel
theorem d3_42 : decode prog_20_method_2_code 42 = .ok (.getfield 9, 3) := by decide +kernel
theorem d3_45 : decode prog_20_method_2_code 45 = .ok (.iload 6, 2) := by decide +kernel
theorem d3_47 : decode prog_20_method_2_code 47 = .ok (.iaload, 1) := by decide +kernel
theorem d3_48 : decode prog_20_method_2_code 48 = .ok (.iload_n 1, 1) := by decide +kernel
theorem d3_49 : decode prog_20_method_2_code 49 = .ok (.if_icmp .ne 28, 3) := by decide +kernel
theorem d3_52 : decode prog_20_method_2_code 52 = .ok (.aload_n 0, 1) := by decide +kernel
theorem d3_53 : decode prog_20_method_2_code 53 = .ok (.getfield 15, 3) := by decide +kernel
theorem d3_56 : decode prog_20_method_2_code 56 = .ok (.iload 6, 2) := by decide +kernel
theorem d3_58 : decode prog_20_method_2_code 58 = .ok (.iaload, 1) := by decide +kernel
theorem d3_59 : decode prog_20_method_2_code 59 = .ok (.iload_n 2, 1) := by decide +kernel
theorem d3_60 : decode prog_20_method_2_code 60 = .ok (.if_icmp .ne 17, 3) := by decide +kernel
theorem d3_63 : decode prog_20_method_2_code 63 = .ok (.aload_n 0, 1) := by decide +kernel
theorem d3_64 : decode prog_20_method_2_code 64 = .ok (.getfield 18, 3) := by decide +kernel
theorem d3_67 : decode prog_20_method_2_code 67 = .ok (.iload 6, 2) := by decide +kernel
theorem d3_69 : decode prog_20_method_2_code 69 = .ok (.iaload, 1) := by decide +kernel
theorem d3_70 : decode prog_20_method_2_code 70 = .ok (.iload_n 3, 1) := by decide +kernel
theorem d3_71 : decode prog_20_method_2_code 71 = .ok (.if_icmp .ne 6, 3) := by decide +kernel
theorem d3_74 : decode prog_20_method_2_code 74 = .ok (.iload 6, 2) := by decide +kernel
theorem d3_76 : decode prog_20_method_2_code 76 = .ok (.ireturn, 1) := by decide +kernel
theorem d3_77 : decode prog_20_method_2_code 77 = .ok (.iload 5, 2) := by decide +kernel
theorem d3_79 : decode prog_20_method_2_code 79 = .ok (.iconst 1, 1) := by decide +kernel
theorem d3_80 : decode prog_20_method_2_code 80 = .ok (.iadd, 1) := by decide +kernel
theorem d3_81 : decode prog_20_method_2_code 81 = .ok (.iload 4, 2) := by decide +kernel
theorem d3_83 : decode prog_20_method_2_code 83 = .ok (.iand, 1) := by decide +kernel
theorem d3_84 : decode prog_20_method_2_code 84 = .ok (.istore 5, 2) := by decide +kernel
theorem d3_86 : decode prog_20_method_2_code 86 = .ok (.goto (-66), 3) := by decide +kernel
theorem d3_89 : decode prog_20_method_2_code 89 = .ok (.aload_n 0, 1) := by decide +kernel
theorem d3_90 : decode prog_20_method_2_code 90 = .ok (.getfield 21, 3) := by decide +kernel
theorem d3_93 : decode prog_20_method_2_code 93 = .ok (.aload_n 0, 1) := by decide +kernel
theorem d3_94 : decode prog_20_method_2_code 94 = .ok (.getfield 9, 3) := by decide +kernel
theorem d3_97 : decode prog_20_method_2_code 97 = .ok (.arraylength, 1) := by decide +kernel
theorem d3_98 : decode prog_20_method_2_code 98 = .ok (.if_icmp .ne 54, 3) := by decide +kernel
theorem d3_101 : decode prog_20_method_2_code 101 = .ok (.aload_n 0, 1) := by decide +kernel
theorem d3_102 : decode prog_20_method_2_code 102 = .ok (.aload_n 0, 1) := by decide +kernel
theorem d3_103 : decode prog_20_method_2_code 103 = .ok (.getfield 9, 3) := by decide +kernel
theorem d3_106 : decode prog_20_method_2_code 106 = .ok (.iconst 2, 1) := by decide +kernel
theorem d3_107 : decode prog_20_method_2_code 107 = .ok (.aload_n 0, 1) := by decide +kernel
theorem d3_108 : decode prog_20_method_2_code 108 = .ok (.getfield 21, 3) := by decide +kernel
theorem d3_111 : decode prog_20_method_2_code 111 = .ok (.imul, 1) := by decide +kernel
theorem d3_112 : decode prog_20_method_2_code 112 = .ok (.invokestatic 33, 3) := by decide +kernel
theorem d3_115 : decode prog_20_method_2_code 115 = .ok (.putfield 9, 3) := by decide +kernel
theorem d3_118 : decode prog_20_method_2_code 118 = .ok (.aload_n 0, 1) := by decide +kernel
theorem d3_119 : decode prog_20_method_2_code 119 = .ok (.aload_n 0, 1) := by decide +kernel
theorem d3_120 : decode prog_20_method_2_code 120 = .ok (.getfield 15, 3) := by decide +kernel
theorem d3_123 : decode prog_20_method_2_code 123 = .ok (.iconst 2, 1) := by decide +kernel
theorem d3_124 : decode prog_20_method_2_code 124 = .ok (.aload_n 0, 1) := by decide +kernel
theorem d3_125 : decode prog_20_method_2_code 125 = .ok (.getfield 21, 3) := by decide +kernel
theorem d3_128 : decode prog_20_method_2_code 128 = .ok (.imul, 1) := by decide +kernel
theorem d3_129 : decode prog_20_method_2_code 129 = .ok (.invokestatic 33, 3) := by decide +kernel
theorem d3_132 : decode prog_20_method_2_code 132 = .ok (.putfield 15, 3) := by decide +kernel
theorem d3_135 : decode prog_20_method_2_code 135 = .ok (.aload_n 0, 1) := by decide +kernel
theorem d3_136 : decode prog_20_method_2_code 136 = .ok (.aload_n 0, 1) := by decide +kernel
theorem d3_137 : decode prog_20_method_2_code 137 = .ok (.getfield 18, 3) := by decide +kernel
theorem d3_140 : decode prog_20_method_2_code 140 = .ok (.iconst 2, 1) := by decide +kernel
theorem d3_141 : decode prog_20_method_2_code 141 = .ok (.aload_n 0, 1) := by decide +kernel
theorem d3_142 : decode prog_20_method_2_code 142 = .ok (.getfield 21, 3) := by decide +kernel
theorem d3_145 : decode prog_20_method_2_code 145 = .ok (.imul, 1) := by decide +kernel
theorem d3_146 : decode prog_20_method_2_code 146 = .ok (.invokestatic 33, 3) := by decide +kernel
theorem d3_149 : decode prog_20_method_2_code 149 = .ok (.putfield 18, 3) := by decide +kernel
theorem d3_152 : decode prog_20_method_2_code 152 = .ok (.aload_n 0, 1) := by decide +kernel
theorem d3_153 : decode prog_20_method_2_code 153 = .ok (.getfield 21, 3) := by decide +kernel
theorem d3_156 : decode prog_20_method_2_code 156 = .ok (.istore 6, 2) := by decide +kernel
theorem d3_158 : decode prog_20_method_2_code 158 = .ok (.aload_n 0, 1) := by decide +kernel
theorem d3_159 : decode prog_20_method_2_code 159 = .ok (.getfield 9, 3) := by decide +kernel
theorem d3_162 : decode prog_20_method_2_code 162 = .ok (.iload 6, 2) := by decide +kernel
theorem d3_164 : decode prog_20_method_2_code 164 = .ok (.iload_n 1, 1) := by decide +kernel
theorem d3_165 : decode prog_20_method_2_code 165 = .ok (.iastore, 1) := by decide +kernel
theorem d3_166 : decode prog_20_method_2_code 166 = .ok (.aload_n 0, 1) := by decide +kernel
theorem d3_167 : decode prog_20_method_2_code 167 = .ok (.getfield 15, 3) := by decide +kernel
theorem d3_170 : decode prog_20_method_2_code 170 = .ok (.iload 6, 2) := by decide +kernel
theorem d3_172 : decode prog_20_method_2_code 172 = .ok (.iload_n 2, 1) := by decide +kernel
theorem d3_173 : decode prog_20_method_2_code 173 = .ok (.iastore, 1) := by decide +kernel
theorem d3_174 : decode prog_20_method_2_code 174 = .ok (.aload_n 0, 1) := by decide +kernel
theorem d3_175 : decode prog_20_method_2_code 175 = .ok (.getfield 18, 3) := by decide +kernel
theorem d3_178 : decode prog_20_method_2_code 178 = .ok (.iload 6, 2) := by decide +kernel
theorem d3_180 : decode prog_20_method_2_code 180 = .ok (.iload_n 3, 1) := by decide +kernel
theorem d3_181 : decode prog_20_method_2_code 181 = .ok (.iastore, 1) := by decide +kernel
theorem d3_182 : decode prog_20_method_2_code 182 = .ok (.aload_n 0, 1) := by decide +kernel
theorem d3_183 : decode prog_20_method_2_code 183 = .ok (.dup, 1) := by decide +kernel
theorem d3_184 : decode prog_20_method_2_code 184 = .ok (.getfield 21, 3) := by decide +kernel
theorem d3_187 : decode prog_20_method_2_code 187 = .ok (.iconst 1, 1) := by decide +kernel
theorem d3_188 : decode prog_20_method_2_code 188 = .ok (.iadd, 1) := by decide +kernel
theorem d3_189 : decode prog_20_method_2_code 189 = .ok (.putfield 21, 3) := by decide +kernel
theorem d3_192 : decode prog_20_method_2_code 192 = .ok (.aload_n 0, 1) := by decide +kernel
theorem d3_193 : decode prog_20_method_2_code 193 = .ok (.getfield 25, 3) := by decide +kernel
theorem d3_196 : decode prog_20_method_2_code 196 = .ok (.iload 5, 2) := by decide +kernel
theorem d3_198 : decode prog_20_method_2_code 198 = .ok (.iload 6, 2) := by decide +kernel
theorem d3_200 : decode prog_20_method_2_code 200 = .ok (.iconst 1, 1) := by decide +kernel
theorem d3_201 : decode prog_20_method_2_code 201 = .ok (.iadd, 1) := by decide +kernel
theorem d3_202 : decode prog_20_method_2_code 202 = .ok (.iastore, 1) := by decide +kernel
theorem d3_203 : decode prog_20_method_2_code 203 = .ok (.iconst 2, 1) := by decide +kernel
theorem d3_204 : decode prog_20_method_2_code 204 = .ok (.aload_n 0, 1) := by decide +kernel
theorem d3_205 : decode prog_20_method_2_code 205 = .ok (.getfield 21, 3) := by decide +kernel
theorem d3_208 : decode prog_20_method_2_code 208 = .ok (.imul, 1) := by decide +kernel
theorem d3_209 : decode prog_20_method_2_code 209 = .ok (.aload_n 0, 1) := by decide +kernel
theorem d3_210 : decode prog_20_method_2_code 210 = .ok (.getfield 25, 3) := by decide +kernel
theorem d3_213 : decode prog_20_method_2_code 213 = .ok (.arraylength, 1) := by decide +kernel
theorem d3_214 : decode prog_20_method_2_code 214 = .ok (.if_icmp .le 7, 3) := by decide +kernel
theorem d3_217 : decode prog_20_method_2_code 217 = .ok (.aload_n 0, 1) := by decide +kernel
theorem d3_218 : decode prog_20_method_2_code 218 = .ok (.invokevirtual 39, 3) := by decide +kernel
theorem d3_221 : decode prog_20_method_2_code 221 = .ok (.iload 6, 2) := by decide +kernel
theorem d3_223 : decode prog_20_method_2_code 223 = .ok (.ireturn, 1) := by decide +kernel
theorem pn_3 : plainName "com/example/error_to_hazard/errortohazard/analysis/NodeTable" = true := by first | (simp [plainName, overriddenIn]; done) | decide +kernel
set_option maxRecDepth 65536 in
set_option maxHeartbeats 40000000 in
theorem ndx2 {p : Program} {l : Launch} {e : Env} {s : State} {m : MethodId} {args : Array Value} {below : List Frame} {meth : Method} {c : Code} {Z : State} {a0 : Array Value} (a1 : Addr) (p2 : Int32) (p3 : Int32) (p4 : Int32) (b1 : Addr) (b2 : Addr) (b3 : Addr) (b4 : Addr) (k1 : ClassId) (k2 : ClassId) (k3 : ClassId) (k4 : ClassId) (h0 : Heap) (n0 : Nat) (hx : p.tables.exec = Jvm.exec) (hZ : Z.Warmed39 s.vm) (hw : ∀ d ∈ tables_1, d.before a0 Z = true) (hby : c.code = prog_20_method_2_code) (hml : c.maxLocals = 7) (hown : s.vm.findClass own_K0 = some m.cls) (hnm : meth.name = "node") (hret : meth.sig.returnType = some .int) (hlk : meth.locks = false)
    (y5 : Int32) (s6 : Slot) (T0 : State) (hh : Heap) (locs : List Loc) (X0 : Stand p l e ({ frames := 1, cells := 0, slots := 0, locals := 15 } : Room) s m args below meth c T0 locs 0 0) (e0 : T0.heap = hh) (N0 : Fr n0 locs) (Z0 : n0 ≤ hh.size) (K0 : Keep h0 hh [a1, b1, b2, b3, b4]) (E_a1 : Exa Z hh a1 own_K0) (F_variables_a1 : Fld Z hh a1 own_K0 "variables" "[I" (.ref b1)) (F_lows_a1 : Fld Z hh a1 own_K0 "lows" "[I" (.ref b2)) (F_highs_a1 : Fld Z hh a1 own_K0 "highs" "[I" (.ref b3)) (F_slots_a1 : Fld Z hh a1 own_K0 "slots" "[I" (.ref b4)) (F_size_a1 : Fld Z hh a1 own_K0 "size" "I" (.int 2)) (V_b1 : Arv Z hh b1 k1 .int (1024 : Int32) [(.int 2147483647), (.int 2147483647), (.int 0), (.int 0), (.int 0), (.int 0)] (.int 0)) (V_b2 : Arv Z hh b2 k2 .int (1024 : Int32) [(.int 0), (.int 0), (.int 0), (.int 0), (.int 0), (.int 0)] (.int 0)) (V_b3 : Arv Z hh b3 k3 .int (1024 : Int32) [(.int 0), (.int 0), (.int 0), (.int 0), (.int 0), (.int 0)] (.int 0)) (X_Arh_b4 : Arh Z hh b4 k4 .int (2048 : Int32) [] [] (.int 0)) (hrg : own_rg y5) (hs6 : One s6) (g_a1 : n0 ≤ a1) (g_b1 : n0 ≤ b1) (g_b2 : n0 ≤ b2) (g_b3 : n0 ≤ b3) (g_b4 : n0 ≤ b4) (ne_a1_b1 : a1 ≠ b1) (ne_a1_b2 : a1 ≠ b2) (ne_a1_b3 : a1 ≠ b3) (ne_a1_b4 : a1 ≠ b4) (ne_b1_b2 : b1 ≠ b2) (ne_b1_b3 : b1 ≠ b3) (ne_b1_b4 : b1 ≠ b4) (ne_b2_b3 : b2 ≠ b3) (ne_b2_b4 : b2 ≠ b4) (ne_b3_b4 : b3 ≠ b4) :
    own_Run p e below (fun o U' => ∃ v L, o = .returned v ∧ Q3c2 Z a1 p2 p3 p4 b1 b2 b3 b4 k1 k2 k3 k4 h0 n0 v U'.heap L ∧ FrameEnd s o U' L ({ frames := 1, cells := 0, slots := 0, locals := 15 } : Room).cells ({ frames := 1, cells := 0, slots := 0, locals := 15 } : Room).slots) T0 (mkF m 89 #[.val (.ref a1), .val (.int p2), .val (.int p3), .val (.int p4), .val (.int 2047), .val (.int y5), s6] []) := by
  have W := fun (k : Nat) {d : Jvm.Cond} (h : tables_1[k]? = some d) => hw d (List.mem_of_getElem? h)
  show own_Run p e below _ T0 (mkF m 89 #[.val (.ref a1), .val (.int p2), .val (.int p3), .val (.int p4), .val (.int 2047), .val (.int y5), s6] [])
  refine own_go (fun _ k => XS.aloadN X0.here hx rfl (hb hby d3_89) rfl rfl k) ?_
  obtain ⟨T28, X28, e28, st28⟩ := getF X0 hx hZ hown (host := "") (Or.inl (W 18 rfl)) Via.refl e0 F_size_a1 (g := (mkF m 90 #[.val (.ref a1), .val (.int p2), .val (.int p3), .val (.int p4), .val (.int 2047), .val (.int y5), s6] [(.ref a1)])) rfl rfl (hb hby d3_90)
  refine own_go st28 ?_
  refine own_go (fun _ k => XS.aloadN X28.here hx rfl (hb hby d3_93) rfl rfl k) ?_
  obtain ⟨T29, X29, e29, st29⟩ := getF X28 hx hZ hown (host := "") (Or.inl (W 12 rfl)) Via.refl e28 F_variables_a1 (g := (mkF m 94 #[.val (.ref a1), .val (.int p2), .val (.int p3), .val (.int p4), .val (.int 2047), .val (.int y5), s6] [(.ref a1), (.int 2)])) rfl rfl (hb hby d3_94)
  refine own_go st29 ?_
  obtain ⟨cl30, Ar30, q30, S30, N30, H30, G30⟩ := id V_b1
  refine own_go (X29.arraylength hx (by rw [e29]; exact Ar30.1) (State.isArrayOf_alike hZ.alike Ar30.2.1) (g := (mkF m 97 #[.val (.ref a1), .val (.int p2), .val (.int p3), .val (.int p4), .val (.int 2047), .val (.int y5), s6] [(.ref b1), (.int 2)])) rfl rfl (hb hby d3_97)) ?_
  rw [len_of S30 N30]
  refine own_go (fun _ k => XS.icmpYes X29.here hx rfl (pc0 := 98) (pc' := 152) rfl (hb hby d3_98) rfl (feq (by decide : ¬ ((2 : Int32) = (1024 : Int32)))).2 (by decide) (by decide) k) ?_
  refine own_go (fun _ k => XS.aloadN X29.here hx rfl (hb hby d3_152) rfl rfl k) ?_
  obtain ⟨T31, X31, e31, st31⟩ := getF X29 hx hZ hown (host := "") (Or.inl (W 18 rfl)) Via.refl e29 F_size_a1 (g := (mkF m 153 #[.val (.ref a1), .val (.int p2), .val (.int p3), .val (.int p4), .val (.int 2047), .val (.int y5), s6] [(.ref a1)])) rfl rfl (hb hby d3_153)
  refine own_go st31 ?_
  show own_Run p e below _ T31 (mkF m 156 #[.val (.ref a1), .val (.int p2), .val (.int p3), .val (.int p4), .val (.int 2047), .val (.int y5), s6] [(.int 2)])
  refine own_go (fun _ k => XS.istore X31.here hx rfl (hb hby d3_156) rfl (l' := #[.val (.ref a1), .val (.int p2), .val (.int p3), .val (.int p4), .val (.int 2047), .val (.int y5), .val (.int 2)]) ((XS.store1 (o := s6) rfl hs6 rfl).trans rfl) k) ?_
  refine own_go (fun _ k => XS.aloadN X31.here hx rfl (hb hby d3_158) rfl rfl k) ?_
  obtain ⟨T32, X32, e32, st32⟩ := getF X31 hx hZ hown (host := "") (Or.inl (W 12 rfl)) Via.refl e31 F_variables_a1 (g := (mkF m 159 #[.val (.ref a1), .val (.int p2), .val (.int p3), .val (.int p4), .val (.int 2047), .val (.int y5), .val (.int 2)] [(.ref a1)])) rfl rfl (hb hby d3_159)
  refine own_go st32 ?_
  refine own_go (fun _ k => XS.iload X32.here hx rfl (hb hby d3_162) rfl k) ?_
  refine own_go (fun _ k => XS.iloadN X32.here hx rfl (hb hby d3_164) rfl k) ?_
  obtain ⟨cl33, Ar33, q33, S33, N33, H33, G33⟩ := id V_b1
  have hin33 : ¬ ((2 : Int32) < 0 ∨ cl33.slots.size ≤ ((2 : Int32)).toNatClampNeg) := inb_of S33 ⟨by decide, by decide⟩
  obtain ⟨T34, h34, X34, e34, W34, st34⟩ := stI X32 hx hZ e32 Ar33 (j := (2 : Int32)) hin33 (g := (mkF m 165 #[.val (.ref a1), .val (.int p2), .val (.int p3), .val (.int p4), .val (.int 2047), .val (.int y5), .val (.int 2)] [(.int p2), (.int 2), (.ref b1)])) rfl rfl (hb hby d3_165)
  refine own_go st34 ?_
  have Z0_c35 := Nat.le_trans Z0 (Keep.of_wr W34).1
  have K0_c35 := K0.wr W34 (Or.inl (List.mem_of_getElem? (i := 1) rfl))
  have E_a1_c35 := E_a1.wr W34
  have F_variables_a1_c35 := F_variables_a1.other W34 (Or.inl ne_a1_b1)
  have F_lows_a1_c35 := F_lows_a1.other W34 (Or.inl ne_a1_b1)
  have F_highs_a1_c35 := F_highs_a1.other W34 (Or.inl ne_a1_b1)
  have F_slots_a1_c35 := F_slots_a1.other W34 (Or.inl ne_a1_b1)
  have F_size_a1_c35 := F_size_a1.other W34 (Or.inl ne_a1_b1)
  have V_b2_c35 := V_b2.other W34 (Ne.symm ne_b1_b2)
  have V_b3_c35 := V_b3.other W34 (Ne.symm ne_b1_b3)
  have X_Arh_b4_c35 := X_Arh_b4.other W34 (Ne.symm ne_b1_b4)
  have V_b1_c34 : Arv Z h34 b1 k1 .int (1024 : Int32) [(.int 2147483647), (.int 2147483647), (.int p2), (.int 0), (.int 0), (.int 0)] (.int 0) := Arv.set Ar33 q33 S33 N33 H33 G33 rfl W34 2 rfl (Nat.le_of_ble_eq_true rfl)
  have N34 := Fr.snoc X34 N0 g_b1
  refine own_go (fun _ k => XS.aloadN X34.here hx rfl (hb hby d3_166) rfl rfl k) ?_
  obtain ⟨T36, X36, e36, st36⟩ := getF X34 hx hZ hown (host := "") (Or.inl (W 14 rfl)) Via.refl e34 F_lows_a1_c35 (g := (mkF m 167 #[.val (.ref a1), .val (.int p2), .val (.int p3), .val (.int p4), .val (.int 2047), .val (.int y5), .val (.int 2)] [(.ref a1)])) rfl rfl (hb hby d3_167)
  refine own_go st36 ?_
  show own_Run p e below _ T36 (mkF m 170 #[.val (.ref a1), .val (.int p2), .val (.int p3), .val (.int p4), .val (.int 2047), .val (.int y5), .val (.int 2)] [(.ref b2)])
  refine own_go (fun _ k => XS.iload X36.here hx rfl (hb hby d3_170) rfl k) ?_
  refine own_go (fun _ k => XS.iloadN X36.here hx rfl (hb hby d3_172) rfl k) ?_
  obtain ⟨cl37, Ar37, q37, S37, N37, H37, G37⟩ := id V_b2_c35
  have hin37 : ¬ ((2 : Int32) < 0 ∨ cl37.slots.size ≤ ((2 : Int32)).toNatClampNeg) := inb_of S37 ⟨by decide, by decide⟩
  obtain ⟨T38, h38, X38, e38, W38, st38⟩ := stI X36 hx hZ e36 Ar37 (j := (2 : Int32)) hin37 (g := (mkF m 173 #[.val (.ref a1), .val (.int p2), .val (.int p3), .val (.int p4), .val (.int 2047), .val (.int y5), .val (.int 2)] [(.int p3), (.int 2), (.ref b2)])) rfl rfl (hb hby d3_173)
  refine own_go st38 ?_
  have Z0_c39 := Nat.le_trans Z0_c35 (Keep.of_wr W38).1
  have K0_c39 := K0_c35.wr W38 (Or.inl (List.mem_of_getElem? (i := 2) rfl))
  have E_a1_c39 := E_a1_c35.wr W38
  have F_variables_a1_c39 := F_variables_a1_c35.other W38 (Or.inl ne_a1_b2)
  have F_lows_a1_c39 := F_lows_a1_c35.other W38 (Or.inl ne_a1_b2)
  have F_highs_a1_c39 := F_highs_a1_c35.other W38 (Or.inl ne_a1_b2)
  have F_slots_a1_c39 := F_slots_a1_c35.other W38 (Or.inl ne_a1_b2)
  have F_size_a1_c39 := F_size_a1_c35.other W38 (Or.inl ne_a1_b2)
  have V_b3_c39 := V_b3_c35.other W38 (Ne.symm ne_b2_b3)
  have X_Arh_b4_c39 := X_Arh_b4_c35.other W38 (Ne.symm ne_b2_b4)
  have V_b1_c39 := V_b1_c34.other W38 ne_b1_b2
  have V_b2_c38 : Arv Z h38 b2 k2 .int (1024 : Int32) [(.int 0), (.int 0), (.int p3), (.int 0), (.int 0), (.int 0)] (.int 0) := Arv.set Ar37 q37 S37 N37 H37 G37 rfl W38 2 rfl (Nat.le_of_ble_eq_true rfl)
  have N38 := Fr.snoc X38 N34 g_b2
  refine own_go (fun _ k => XS.aloadN X38.here hx rfl (hb hby d3_174) rfl rfl k) ?_
  obtain ⟨T40, X40, e40, st40⟩ := getF X38 hx hZ hown (host := "") (Or.inl (W 16 rfl)) Via.refl e38 F_highs_a1_c39 (g := (mkF m 175 #[.val (.ref a1), .val (.int p2), .val (.int p3), .val (.int p4), .val (.int 2047), .val (.int y5), .val (.int 2)] [(.ref a1)])) rfl rfl (hb hby d3_175)
  refine own_go st40 ?_
  refine own_go (fun _ k => XS.iload X40.here hx rfl (hb hby d3_178) rfl k) ?_
  refine own_go (fun _ k => XS.iloadN X40.here hx rfl (hb hby d3_180) rfl k) ?_
  obtain ⟨cl41, Ar41, q41, S41, N41, H41, G41⟩ := id V_b3_c39
  have hin41 : ¬ ((2 : Int32) < 0 ∨ cl41.slots.size ≤ ((2 : Int32)).toNatClampNeg) := inb_of S41 ⟨by decide, by decide⟩
  obtain ⟨T42, h42, X42, e42, W42, st42⟩ := stI X40 hx hZ e40 Ar41 (j := (2 : Int32)) hin41 (g := (mkF m 181 #[.val (.ref a1), .val (.int p2), .val (.int p3), .val (.int p4), .val (.int 2047), .val (.int y5), .val (.int 2)] [(.int p4), (.int 2), (.ref b3)])) rfl rfl (hb hby d3_181)
  refine own_go st42 ?_
  show own_Run p e below _ T42 (mkF m 182 #[.val (.ref a1), .val (.int p2), .val (.int p3), .val (.int p4), .val (.int 2047), .val (.int y5), .val (.int 2)] [])
  have Z0_c43 := Nat.le_trans Z0_c39 (Keep.of_wr W42).1
  have K0_c43 := K0_c39.wr W42 (Or.inl (List.mem_of_getElem? (i := 3) rfl))
  have E_a1_c43 := E_a1_c39.wr W42
  have F_variables_a1_c43 := F_variables_a1_c39.other W42 (Or.inl ne_a1_b3)
  have F_lows_a1_c43 := F_lows_a1_c39.other W42 (Or.inl ne_a1_b3)
  have F_highs_a1_c43 := F_highs_a1_c39.other W42 (Or.inl ne_a1_b3)
  have F_slots_a1_c43 := F_slots_a1_c39.other W42 (Or.inl ne_a1_b3)
  have F_size_a1_c43 := F_size_a1_c39.other W42 (Or.inl ne_a1_b3)
  have X_Arh_b4_c43 := X_Arh_b4_c39.other W42 (Ne.symm ne_b3_b4)
  have V_b1_c43 := V_b1_c39.other W42 ne_b1_b3
  have V_b2_c43 := V_b2_c38.other W42 ne_b2_b3
  have V_b3_c42 : Arv Z h42 b3 k3 .int (1024 : Int32) [(.int 0), (.int 0), (.int p4), (.int 0), (.int 0), (.int 0)] (.int 0) := Arv.set Ar41 q41 S41 N41 H41 G41 rfl W42 2 rfl (Nat.le_of_ble_eq_true rfl)
  have N42 := Fr.snoc X42 N38 g_b3
  refine own_go (fun _ k => XS.aloadN X42.here hx rfl (hb hby d3_182) rfl rfl k) ?_
  refine own_go (fun _ k => XS.dup X42.here hx rfl (hb hby d3_183) rfl rfl k) ?_
  obtain ⟨T44, X44, e44, st44⟩ := getF X42 hx hZ hown (host := "") (Or.inl (W 18 rfl)) Via.refl e42 F_size_a1_c43 (g := (mkF m 184 #[.val (.ref a1), .val (.int p2), .val (.int p3), .val (.int p4), .val (.int 2047), .val (.int y5), .val (.int 2)] [(.ref a1), (.ref a1)])) rfl rfl (hb hby d3_184)
  refine own_go st44 ?_
  refine own_go (fun _ k => XS.iconst X44.here hx rfl (hb hby d3_187) k) ?_
  refine own_go (fun _ k => XS.iadd X44.here hx rfl (hb hby d3_188) rfl k) ?_
  show own_Run p e below _ T44 (mkF m 189 #[.val (.ref a1), .val (.int p2), .val (.int p3), .val (.int p4), .val (.int 2047), .val (.int y5), .val (.int 2)] [(.int ((2 : Int32) + (1 : Int32))), (.ref a1)])
  rw [show ((2 : Int32) + (1 : Int32)) = (3 : Int32) by decide]
  obtain ⟨T45, h45, X45, e45, W45, st45⟩ := putF X44 hx hZ hown (host := "") (Or.inl (W 18 rfl)) Via.refl e44 F_size_a1_c43 E_a1_c43 (Or.inl (W 19 rfl)) (W 3 rfl) (ty := .int) (by decide) rfl rfl (g := (mkF m 189 #[.val (.ref a1), .val (.int p2), .val (.int p3), .val (.int p4), .val (.int 2047), .val (.int y5), .val (.int 2)] [(.int 3), (.ref a1)])) rfl rfl (hb hby d3_189)
  refine own_go st45 ?_
  have Z0_c46 := Nat.le_trans Z0_c43 (Keep.of_wr W45).1
  have K0_c46 := K0_c43.wr W45 (Or.inl (List.mem_of_getElem? (i := 0) rfl))
  have E_a1_c46 := E_a1_c43.wr W45
  have F_variables_a1_c46 := F_variables_a1_c43.other W45 (Or.inr (slot_ne (Or.inl (W 13 rfl)) (Or.inl (W 19 rfl)) (by decide) (t := (.array .int)) (t' := .int) (by decide) (by decide)))
  have F_lows_a1_c46 := F_lows_a1_c43.other W45 (Or.inr (slot_ne (Or.inl (W 15 rfl)) (Or.inl (W 19 rfl)) (by decide) (t := (.array .int)) (t' := .int) (by decide) (by decide)))
  have F_highs_a1_c46 := F_highs_a1_c43.other W45 (Or.inr (slot_ne (Or.inl (W 17 rfl)) (Or.inl (W 19 rfl)) (by decide) (t := (.array .int)) (t' := .int) (by decide) (by decide)))
  have F_slots_a1_c46 := F_slots_a1_c43.other W45 (Or.inr (slot_ne (Or.inl (W 21 rfl)) (Or.inl (W 19 rfl)) (by decide) (t := (.array .int)) (t' := .int) (by decide) (by decide)))
  have X_Arh_b4_c46 := X_Arh_b4_c43.other W45 (Ne.symm ne_a1_b4)
  have V_b1_c46 := V_b1_c43.other W45 (Ne.symm ne_a1_b1)
  have V_b2_c46 := V_b2_c43.other W45 (Ne.symm ne_a1_b2)
  have V_b3_c46 := V_b3_c42.other W45 (Ne.symm ne_a1_b3)
  have F_size_a1_c45 : Fld Z h45 a1 own_K0 "size" "I" (.int 3) := F_size_a1_c43.same W45
  have N45 := Fr.snoc X45 N42 g_a1
  refine own_go (fun _ k => XS.aloadN X45.here hx rfl (hb hby d3_192) rfl rfl k) ?_
  obtain ⟨T47, X47, e47, st47⟩ := getF X45 hx hZ hown (host := "") (Or.inl (W 20 rfl)) Via.refl e45 F_slots_a1_c46 (g := (mkF m 193 #[.val (.ref a1), .val (.int p2), .val (.int p3), .val (.int p4), .val (.int 2047), .val (.int y5), .val (.int 2)] [(.ref a1)])) rfl rfl (hb hby d3_193)
  refine own_go st47 ?_
  refine own_go (fun _ k => XS.iload X47.here hx rfl (hb hby d3_196) rfl k) ?_
  refine own_go (fun _ k => XS.iload X47.here hx rfl (hb hby d3_198) rfl k) ?_
  refine own_go (fun _ k => XS.iconst X47.here hx rfl (hb hby d3_200) k) ?_
  refine own_go (fun _ k => XS.iadd X47.here hx rfl (hb hby d3_201) rfl k) ?_
  show own_Run p e below _ T47 (mkF m 202 #[.val (.ref a1), .val (.int p2), .val (.int p3), .val (.int p4), .val (.int 2047), .val (.int y5), .val (.int 2)] [(.int ((2 : Int32) + (1 : Int32))), (.int y5), (.ref b4)])
  rw [show ((2 : Int32) + (1 : Int32)) = (3 : Int32) by decide]
  obtain ⟨cl48, Ar48, q48, S48, N48, H48, G48⟩ := id X_Arh_b4_c46
  have hin48 : ¬ (y5 < 0 ∨ cl48.slots.size ≤ (y5).toNatClampNeg) := inb_of S48 (own_rgIn _ hrg)
  obtain ⟨T49, h49, X49, e49, W49, st49⟩ := stI X47 hx hZ e47 Ar48 (j := y5) hin48 (g := (mkF m 202 #[.val (.ref a1), .val (.int p2), .val (.int p3), .val (.int p4), .val (.int 2047), .val (.int y5), .val (.int 2)] [(.int 3), (.int y5), (.ref b4)])) rfl rfl (hb hby d3_202)
  refine own_go st49 ?_
  show own_Run p e below _ T49 (mkF m 203 #[.val (.ref a1), .val (.int p2), .val (.int p3), .val (.int p4), .val (.int 2047), .val (.int y5), .val (.int 2)] [])
  have Z0_c50 := Nat.le_trans Z0_c46 (Keep.of_wr W49).1
  have K0_c50 := K0_c46.wr W49 (Or.inl (List.mem_of_getElem? (i := 4) rfl))
  have E_a1_c50 := E_a1_c46.wr W49
  have F_variables_a1_c50 := F_variables_a1_c46.other W49 (Or.inl ne_a1_b4)
  have F_lows_a1_c50 := F_lows_a1_c46.other W49 (Or.inl ne_a1_b4)
  have F_highs_a1_c50 := F_highs_a1_c46.other W49 (Or.inl ne_a1_b4)
  have F_slots_a1_c50 := F_slots_a1_c46.other W49 (Or.inl ne_a1_b4)
  have V_b1_c50 := V_b1_c46.other W49 ne_b1_b4
  have V_b2_c50 := V_b2_c46.other W49 ne_b2_b4
  have V_b3_c50 := V_b3_c46.other W49 ne_b3_b4
  have F_size_a1_c50 := F_size_a1_c45.other W49 (Or.inl ne_a1_b4)
  have Xn49 : Arh Z h49 b4 k4 .int (2048 : Int32) [(y5, (.int 3))] [] (.int 0) := Arh.push Ar48 q48 S48 N48 H48 G48 rfl W49 hin48
  have N49 := Fr.snoc X49 N45 g_b4
  refine own_go (fun _ k => XS.iconst X49.here hx rfl (hb hby d3_203) k) ?_
  refine own_go (fun _ k => XS.aloadN X49.here hx rfl (hb hby d3_204) rfl rfl k) ?_
  obtain ⟨T51, X51, e51, st51⟩ := getF X49 hx hZ hown (host := "") (Or.inl (W 18 rfl)) Via.refl e49 F_size_a1_c50 (g := (mkF m 205 #[.val (.ref a1), .val (.int p2), .val (.int p3), .val (.int p4), .val (.int 2047), .val (.int y5), .val (.int 2)] [(.ref a1), (.int 2)])) rfl rfl (hb hby d3_205)
  refine own_go st51 ?_
  refine own_go (fun _ k => XS.imul X51.here hx rfl (hb hby d3_208) rfl k) ?_
  show own_Run p e below _ T51 (mkF m 209 #[.val (.ref a1), .val (.int p2), .val (.int p3), .val (.int p4), .val (.int 2047), .val (.int y5), .val (.int 2)] [(.int ((2 : Int32) * (3 : Int32)))])
  rw [show ((2 : Int32) * (3 : Int32)) = (6 : Int32) by decide]
  refine own_go (fun _ k => XS.aloadN X51.here hx rfl (hb hby d3_209) rfl rfl k) ?_
  obtain ⟨T52, X52, e52, st52⟩ := getF X51 hx hZ hown (host := "") (Or.inl (W 20 rfl)) Via.refl e51 F_slots_a1_c50 (g := (mkF m 210 #[.val (.ref a1), .val (.int p2), .val (.int p3), .val (.int p4), .val (.int 2047), .val (.int y5), .val (.int 2)] [(.ref a1), (.int 6)])) rfl rfl (hb hby d3_210)
  refine own_go st52 ?_
  obtain ⟨cl53, Ar53, q53, S53, N53, H53, G53⟩ := id Xn49
  refine own_go (X52.arraylength hx (by rw [e52]; exact Ar53.1) (State.isArrayOf_alike hZ.alike Ar53.2.1) (g := (mkF m 213 #[.val (.ref a1), .val (.int p2), .val (.int p3), .val (.int p4), .val (.int 2047), .val (.int y5), .val (.int 2)] [(.ref b4), (.int 6)])) rfl rfl (hb hby d3_213)) ?_
  rw [len_of S53 N53]
  refine own_go (fun _ k => XS.icmpYes X52.here hx rfl (pc0 := 214) (pc' := 221) rfl (hb hby d3_214) rfl (flt (by decide : ¬ ((2048 : Int32) < (6 : Int32)))).2.2.2 (by decide) (by decide) k) ?_
  refine own_go (fun _ k => XS.iload X52.here hx rfl (hb hby d3_221) rfl k) ?_
  refine own_done (Q := fun v h L => Q3c2 Z a1 p2 p3 p4 b1 b2 b3 b4 k1 k2 k3 k4 h0 n0 v h L) (v := (some (.int 2))) X52 (fun h => by rw [hret] at h; cases h) hlk (fun fs hr => own_retI X52 hx hret (hb hby d3_223) hr) ?_ (by decide) (by decide)
  show Q3c2 Z a1 p2 p3 p4 b1 b2 b3 b4 k1 k2 k3 k4 h0 n0 _ T52.heap _
  rw [e52]
  exact ⟨y5, rfl, N49, K0_c50, E_a1_c50, F_variables_a1_c50, F_lows_a1_c50, F_highs_a1_c50, F_slots_a1_c50, F_size_a1_c50, V_b1_c50, V_b2_c50, V_b3_c50, Xn49⟩
theorem ef_3 (m : MethodId) (x0 : Addr) (x1 : Int32) (x2 : Int32) (x3 : Int32) : entryFrame m #[(.ref x0), (.int x1), (.int x2), (.int x3)] 7 = mkF m 0 #[.val (.ref x0), .val (.int x1), .val (.int x2), .val (.int x3), .unset, .unset, .unset] [] := by first | (simp [entryFrame, mkF, argsToLocals, Value.category]; done) | rfl
theorem pd_1 : parseMethodDescriptor "(III)I" = some ⟨[.int, .int, .int], some .int⟩ := by decide +kernel
set_option maxRecDepth 65536 in
set_option maxHeartbeats 40000000 in
theorem rm3c2 (l : Launch) (Z : State) (a0 : Array Value) (hw : ∀ d ∈ tables_1, d.before a0 Z = true) (ws : List Jvm.Cond) (a1 : Addr) (p2 : Int32) (p3 : Int32) (p4 : Int32) (b1 : Addr) (b2 : Addr) (b3 : Addr) (b4 : Addr) (k1 : ClassId) (k2 : ClassId) (k3 : ClassId) (k4 : ClassId) (h0 : Heap) (n0 : Nat) (Z0 : n0 ≤ h0.size) (E_a1 : Exa Z h0 a1 own_K0) (F_variables_a1 : Fld Z h0 a1 own_K0 "variables" "[I" (.ref b1)) (F_lows_a1 : Fld Z h0 a1 own_K0 "lows" "[I" (.ref b2)) (F_highs_a1 : Fld Z h0 a1 own_K0 "highs" "[I" (.ref b3)) (F_slots_a1 : Fld Z h0 a1 own_K0 "slots" "[I" (.ref b4)) (F_size_a1 : Fld Z h0 a1 own_K0 "size" "I" (.int 2)) (V_b1 : Arv Z h0 b1 k1 .int (1024 : Int32) [(.int 2147483647), (.int 2147483647), (.int 0), (.int 0), (.int 0), (.int 0)] (.int 0)) (V_b2 : Arv Z h0 b2 k2 .int (1024 : Int32) [(.int 0), (.int 0), (.int 0), (.int 0), (.int 0), (.int 0)] (.int 0)) (V_b3 : Arv Z h0 b3 k3 .int (1024 : Int32) [(.int 0), (.int 0), (.int 0), (.int 0), (.int 0), (.int 0)] (.int 0)) (X_Arh_b4 : Arh Z h0 b4 k4 .int (2048 : Int32) [] [] (.int 0)) (g_a1 : n0 ≤ a1) (g_b1 : n0 ≤ b1) (g_b2 : n0 ≤ b2) (g_b3 : n0 ≤ b3) (g_b4 : n0 ≤ b4) (ne_a1_b1 : a1 ≠ b1) (ne_a1_b2 : a1 ≠ b2) (ne_a1_b3 : a1 ≠ b3) (ne_a1_b4 : a1 ≠ b4) (ne_b1_b2 : b1 ≠ b2) (ne_b1_b3 : b1 ≠ b3) (ne_b1_b4 : b1 ≠ b4) (ne_b2_b3 : b2 ≠ b3) (ne_b2_b4 : b2 ≠ b4) (ne_b3_b4 : b3 ≠ b4) :
    MetFree l (⟨own_K0, "node", "(III)I"⟩ : MethodName) (head1 (Jvm.Cond.code (⟨own_K0, "node", "(III)I"⟩ : MethodName) prog_20_method_2_code 7 (some .int) :: ws) ({ frames := 1, cells := 0, slots := 0, locals := 15 } : Room)) (fun a U => a = #[(.ref a1), (.int p2), (.int p3), (.int p4)] ∧ Z.Warmed39 U.vm ∧ U.heap = h0) (fun _ _ _ _ _ => True) (fun _ U o U' => ∃ v L, o = .returned v ∧ Q3c2 Z a1 p2 p3 p4 b1 b2 b3 b4 k1 k2 k3 k4 h0 n0 v U'.heap L ∧ FrameEnd U o U' L ({ frames := 1, cells := 0, slots := 0, locals := 15 } : Room).cells ({ frames := 1, cells := 0, slots := 0, locals := 15 } : Room).slots) := by
  refine MetFree.of_bodySF (plainFor_of_name pn_3) hisR ?_
  intro p e s m args below meth c s₁ Bd hml0 hP hK
  obtain ⟨rfl, hZ, hh⟩ := hP
  have hx := Bd.exec
  have hby := Bd.bytes
  have hml : c.maxLocals = 7 := hml0
  have hown : s.vm.findClass own_K0 = some m.cls := findClass_of_methodNamed Bd.named
  have hnm := (name_of_methodNamed Bd.named Bd.method).1
  have hret := Bd.returns
  have hlk : meth.locks = false := BodyLoose.notSynchronized Bd
  have X0 : Stand p l e ({ frames := 1, cells := 0, slots := 0, locals := 15 } : Room) s m #[(.ref a1), (.int p2), (.int p3), (.int p4)] below meth c s₁ [] 0 0 := Stand.of_body Bd
  have e0 : s₁.heap = h0 := by rw [← hh, Bd.state]; rfl
  have N0 := Fr.nil n0
  have W := fun (k : Nat) {d : Jvm.Cond} (h : tables_1[k]? = some d) => hw d (List.mem_of_getElem? h)
  have K0 : Keep h0 h0 [a1, b1, b2, b3, b4] := Keep.refl _ _
  refine own_start (ef_3 m a1 p2 p3 p4) ?_
  show own_Run p e below _ s₁ (mkF m 0 #[.val (.ref a1), .val (.int p2), .val (.int p3), .val (.int p4), .unset, .unset, .unset] [])
  refine own_go (fun _ k => XS.aloadN X0.here hx rfl (hb hby d3_0) rfl rfl k) ?_
  obtain ⟨T54, X54, e54, st54⟩ := getF X0 hx hZ hown (host := "") (Or.inl (W 20 rfl)) Via.refl e0 F_slots_a1 (g := (mkF m 1 #[.val (.ref a1), .val (.int p2), .val (.int p3), .val (.int p4), .unset, .unset, .unset] [(.ref a1)])) rfl rfl (hb hby d3_1)
  refine own_go st54 ?_
  obtain ⟨cl55, Ar55, q55, S55, N55, H55, G55⟩ := id X_Arh_b4
  refine own_go (X54.arraylength hx (by rw [e54]; exact Ar55.1) (State.isArrayOf_alike hZ.alike Ar55.2.1) (g := (mkF m 4 #[.val (.ref a1), .val (.int p2), .val (.int p3), .val (.int p4), .unset, .unset, .unset] [(.ref b4)])) rfl rfl (hb hby d3_4)) ?_
  rw [len_of S55 N55]
  refine own_go (fun _ k => XS.iconst X54.here hx rfl (hb hby d3_5) k) ?_
  refine own_go (fun _ k => XS.isub X54.here hx rfl (hb hby d3_6) rfl k) ?_
  show own_Run p e below _ T54 (mkF m 7 #[.val (.ref a1), .val (.int p2), .val (.int p3), .val (.int p4), .unset, .unset, .unset] [(.int ((2048 : Int32) - (1 : Int32)))])
  rw [show ((2048 : Int32) - (1 : Int32)) = (2047 : Int32) by decide]
  refine own_go (fun _ k => XS.istore X54.here hx rfl (hb hby d3_7) rfl (l' := #[.val (.ref a1), .val (.int p2), .val (.int p3), .val (.int p4), .val (.int 2047), .unset, .unset]) rfl k) ?_
  refine own_go (fun _ k => XS.iloadN X54.here hx rfl (hb hby d3_9) rfl k) ?_
  refine own_go (fun _ k => XS.iloadN X54.here hx rfl (hb hby d3_10) rfl k) ?_
  refine own_go (fun _ k => XS.iloadN X54.here hx rfl (hb hby d3_11) rfl k) ?_
  obtain ⟨_, _, ⟨T56, L56, k56, n56⟩, -, X56, ⟨Lc56, hQ56, l56, y56, z56⟩, st56⟩ := Jvm.LawKit.callS X54 hx (y := (⟨own_K0, "hash", "(III)I"⟩ : MethodName)) hown (mvT hZ (W 28 rfl)) (mvT hZ (W 29 rfl)) (mvT hZ (W 4 rfl)) (mvT hZ (W 30 rfl)) (by decide) (backOf (W := 0) (rm4 l Z a0 hw [] p2 p3 p4 h0 n0 Z0 ) hZ (W 30 rfl) (W 4 rfl) (by decide) (by decide)) (g := (mkF m 12 #[.val (.ref a1), .val (.int p2), .val (.int p3), .val (.int p4), .val (.int 2047), .unset, .unset] [(.int p4), (.int p3), (.int p2)])) rfl (by rw [hml]; rfl) (argsL := [(.int p2), (.int p3), (.int p4)]) (rest := []) (lenOf pd_1 rfl) rfl (by show 2 * 0 + _ ≤ _; exact Nat.le_of_eq rfl) (hb hby d3_12) (fun _ _ => ⟨rfl, e54, (by decide : 0 + 0 ≤ _), (by decide : 0 + 0 ≤ _)⟩)
  dsimp only [Pt.U, Pt.locs, Pt.cells, Pt.slots] at X56 l56 y56 z56 st56 hQ56
  subst l56 y56 z56
  obtain ⟨rfl, N56q, e56⟩ := hQ56
  have N56 := Fr.app N0 N56q
  refine own_go st56 ?_
  refine own_go (fun _ k => XS.iload X56.here hx rfl (hb hby d3_15) rfl k) ?_
  refine own_go (fun _ k => XS.iand X56.here hx rfl (hb hby d3_17) rfl k) ?_
  show own_Run p e below _ T56 (mkF m 18 #[.val (.ref a1), .val (.int p2), .val (.int p3), .val (.int p4), .val (.int 2047), .unset, .unset] [(.int ((own_hash p2 p3 p4) &&& (2047 : Int32)))])
  obtain ⟨y5, hy5⟩ : ∃ z, z = ((own_hash p2 p3 p4) &&& (2047 : Int32)) := ⟨_, rfl⟩
  rw [← hy5]
  have hrg : own_rg y5 := by rw [hy5]; exact own_rgH _
  refine own_go (fun _ k => XS.istore X56.here hx rfl (hb hby d3_18) rfl (l' := #[.val (.ref a1), .val (.int p2), .val (.int p3), .val (.int p4), .val (.int 2047), .val (.int y5), .unset]) rfl k) ?_
  refine own_go (fun _ k => XS.aloadN X56.here hx rfl (hb hby d3_20) rfl rfl k) ?_
  obtain ⟨T57, X57, e57, st57⟩ := getF X56 hx hZ hown (host := "") (Or.inl (W 20 rfl)) Via.refl e56 F_slots_a1 (g := (mkF m 21 #[.val (.ref a1), .val (.int p2), .val (.int p3), .val (.int p4), .val (.int 2047), .val (.int y5), .unset] [(.ref a1)])) rfl rfl (hb hby d3_21)
  refine own_go st57 ?_
  refine own_go (fun _ k => XS.iload X57.here hx rfl (hb hby d3_24) rfl k) ?_
  obtain ⟨cl58, Ar58, q58, S58, N58, H58, G58⟩ := id X_Arh_b4
  have hin58 : ¬ (y5 < 0 ∨ cl58.slots.size ≤ (y5).toNatClampNeg) := inb_of S58 (own_rgIn _ hrg)
  refine own_go (X57.iaload hx (j := y5) (v := (.int 0)) (by rw [e57]; exact Ar58.1) (State.isArrayOf_alike hZ.alike Ar58.2.1) Ar58.2.2 hin58 (atH H58 hin58 (rfl)) (g := (mkF m 26 #[.val (.ref a1), .val (.int p2), .val (.int p3), .val (.int p4), .val (.int 2047), .val (.int y5), .unset] [(.int y5), (.ref b4)])) rfl rfl (hb hby d3_26)) ?_
  refine own_go (fun _ k => XS.ifYes X57.here hx rfl (pc0 := 27) (pc' := 89) rfl (hb hby d3_27) rfl ((if0 _ _).trans (teq (by decide : (0 : Int32) = (0 : Int32))).1) (by decide) (by decide) k) ?_
  exact ndx2 a1 p2 p3 p4 b1 b2 b3 b4 k1 k2 k3 k4 h0 n0 hx hZ hw hby hml hown hnm hret hlk y5 (.unset) T57 h0 _ X57 e57 N56 Z0 K0 E_a1 F_variables_a1 F_lows_a1 F_highs_a1 F_slots_a1 F_size_a1 V_b1 V_b2 V_b3 X_Arh_b4 (hrg) (One.u) g_a1 g_b1 g_b2 g_b3 g_b4 ne_a1_b1 ne_a1_b2 ne_a1_b3 ne_a1_b4 ne_b1_b2 ne_b1_b3 ne_b1_b4 ne_b2_b3 ne_b2_b4 ne_b3_b4 
def Q3c3 (Z : State) (a1 : Addr) (p2 : Int32) (p3 : Int32) (p4 : Int32) (b1 : Addr) (b2 : Addr) (b3 : Addr) (b4 : Addr) (k1 : ClassId) (k2 : ClassId) (k3 : ClassId) (k4 : ClassId) (va2 : Int32) (la2 : Int32) (ha2 : Int32) (ia2 : Int32) (h0 : Heap) (n0 : Nat) (v : Option Value) (h : Heap) (L : List Loc) : Prop := ∃ (ic : Int32), v = some (.int 3) ∧ Fr n0 L ∧ Keep h0 h [a1, b1, b2, b3, b4] ∧ Exa Z h a1 own_K0 ∧ Fld Z h a1 own_K0 "variables" "[I" (.ref b1) ∧ Fld Z h a1 own_K0 "lows" "[I" (.ref b2) ∧ Fld Z h a1 own_K0 "highs" "[I" (.ref b3) ∧ Fld Z h a1 own_K0 "slots" "[I" (.ref b4) ∧ Fld Z h a1 own_K0 "size" "I" (.int 4) ∧ Arv Z h b1 k1 .int (1024 : Int32) [(.int 2147483647), (.int 2147483647), (.int va2), (.int p2), (.int 0), (.int 0)] (.int 0) ∧ Arv Z h b2 k2 .int (1024 : Int32) [(.int 0), (.int 0), (.int la2), (.int p3), (.int 0), (.int 0)] (.int 0) ∧ Arv Z h b3 k3 .int (1024 : Int32) [(.int 0), (.int 0), (.int ha2), (.int p4), (.int 0), (.int 0)] (.int 0) ∧ Arh Z h b4 k4 .int (2048 : Int32) [(ic, (.int 4)), (ia2, (.int 3))] [] (.int 0)
set_option maxRecDepth 65536 in
set_option maxHeartbeats 40000000 in
theorem ndx3 {p : Program} {l : Launch} {e : Env} {s : State} {m : MethodId} {args : Array Value} {below : List Frame} {meth : Method} {c : Code} {Z : State} {a0 : Array Value} (a1 : Addr) (p2 : Int32) (p3 : Int32) (p4 : Int32) (b1 : Addr) (b2 : Addr) (b3 : Addr) (b4 : Addr) (k1 : ClassId) (k2 : ClassId) (k3 : ClassId) (k4 : ClassId) (va2 : Int32) (la2 : Int32) (ha2 : Int32) (ia2 : Int32) (h0 : Heap) (n0 : Nat) (hx : p.tables.exec = Jvm.exec) (hZ : Z.Warmed39 s.vm) (hw : ∀ d ∈ tables_1, d.before a0 Z = true) (hby : c.code = prog_20_method_2_code) (hml : c.maxLocals = 7) (hown : s.vm.findClass own_K0 = some m.cls) (hnm : meth.name = "node") (hret : meth.sig.returnType = some .int) (hlk : meth.locks = false)
    (y5 : Int32) (s6 : Slot) (T0 : State) (hh : Heap) (locs : List Loc) (X0 : Stand p l e ({ frames := 1, cells := 0, slots := 0, locals := 15 } : Room) s m args below meth c T0 locs 0 0) (e0 : T0.heap = hh) (N0 : Fr n0 locs) (Z0 : n0 ≤ hh.size) (K0 : Keep h0 hh [a1, b1, b2, b3, b4]) (E_a1 : Exa Z hh a1 own_K0) (F_variables_a1 : Fld Z hh a1 own_K0 "variables" "[I" (.ref b1)) (F_lows_a1 : Fld Z hh a1 own_K0 "lows" "[I" (.ref b2)) (F_highs_a1 : Fld Z hh a1 own_K0 "highs" "[I" (.ref b3)) (F_slots_a1 : Fld Z hh a1 own_K0 "slots" "[I" (.ref b4)) (F_size_a1 : Fld Z hh a1 own_K0 "size" "I" (.int 3)) (V_b1 : Arv Z hh b1 k1 .int (1024 : Int32) [(.int 2147483647), (.int 2147483647), (.int va2), (.int 0), (.int 0), (.int 0)] (.int 0)) (V_b2 : Arv Z hh b2 k2 .int (1024 : Int32) [(.int 0), (.int 0), (.int la2), (.int 0), (.int 0), (.int 0)] (.int 0)) (V_b3 : Arv Z hh b3 k3 .int (1024 : Int32) [(.int 0), (.int 0), (.int ha2), (.int 0), (.int 0), (.int 0)] (.int 0)) (X_Arh_b4 : Arh Z hh b4 k4 .int (2048 : Int32) [(ia2, (.int 3))] [] (.int 0)) (hrg : own_rg y5) (hs6 : One s6) (g_a1 : n0 ≤ a1) (g_b1 : n0 ≤ b1) (g_b2 : n0 ≤ b2) (g_b3 : n0 ≤ b3) (g_b4 : n0 ≤ b4) (ne_a1_b1 : a1 ≠ b1) (ne_a1_b2 : a1 ≠ b2) (ne_a1_b3 : a1 ≠ b3) (ne_a1_b4 : a1 ≠ b4) (ne_b1_b2 : b1 ≠ b2) (ne_b1_b3 : b1 ≠ b3) (ne_b1_b4 : b1 ≠ b4) (ne_b2_b3 : b2 ≠ b3) (ne_b2_b4 : b2 ≠ b4) (ne_b3_b4 : b3 ≠ b4) :
    own_Run p e below (fun o U' => ∃ v L, o = .returned v ∧ Q3c3 Z a1 p2 p3 p4 b1 b2 b3 b4 k1 k2 k3 k4 va2 la2 ha2 ia2 h0 n0 v U'.heap L ∧ FrameEnd s o U' L ({ frames := 1, cells := 0, slots := 0, locals := 15 } : Room).cells ({ frames := 1, cells := 0, slots := 0, locals := 15 } : Room).slots) T0 (mkF m 89 #[.val (.ref a1), .val (.int p2), .val (.int p3), .val (.int p4), .val (.int 2047), .val (.int y5), s6] []) := by
  have W := fun (k : Nat) {d : Jvm.Cond} (h : tables_1[k]? = some d) => hw d (List.mem_of_getElem? h)
  show own_Run p e below _ T0 (mkF m 89 #[.val (.ref a1), .val (.int p2), .val (.int p3), .val (.int p4), .val (.int 2047), .val (.int y5), s6] [])
  refine own_go (fun _ k => XS.aloadN X0.here hx rfl (hb hby d3_89) rfl rfl k) ?_
  obtain ⟨T59, X59, e59, st59⟩ := getF X0 hx hZ hown (host := "") (Or.inl (W 18 rfl)) Via.refl e0 F_size_a1 (g := (mkF m 90 #[.val (.ref a1), .val (.int p2), .val (.int p3), .val (.int p4), .val (.int 2047), .val (.int y5), s6] [(.ref a1)])) rfl rfl (hb hby d3_90)
  refine own_go st59 ?_
  refine own_go (fun _ k => XS.aloadN X59.here hx rfl (hb hby d3_93) rfl rfl k) ?_
  obtain ⟨T60, X60, e60, st60⟩ := getF X59 hx hZ hown (host := "") (Or.inl (W 12 rfl)) Via.refl e59 F_variables_a1 (g := (mkF m 94 #[.val (.ref a1), .val (.int p2), .val (.int p3), .val (.int p4), .val (.int 2047), .val (.int y5), s6] [(.ref a1), (.int 3)])) rfl rfl (hb hby d3_94)
  refine own_go st60 ?_
  obtain ⟨cl61, Ar61, q61, S61, N61, H61, G61⟩ := id V_b1
  refine own_go (X60.arraylength hx (by rw [e60]; exact Ar61.1) (State.isArrayOf_alike hZ.alike Ar61.2.1) (g := (mkF m 97 #[.val (.ref a1), .val (.int p2), .val (.int p3), .val (.int p4), .val (.int 2047), .val (.int y5), s6] [(.ref b1), (.int 3)])) rfl rfl (hb hby d3_97)) ?_
  rw [len_of S61 N61]
  refine own_go (fun _ k => XS.icmpYes X60.here hx rfl (pc0 := 98) (pc' := 152) rfl (hb hby d3_98) rfl (feq (by decide : ¬ ((3 : Int32) = (1024 : Int32)))).2 (by decide) (by decide) k) ?_
  refine own_go (fun _ k => XS.aloadN X60.here hx rfl (hb hby d3_152) rfl rfl k) ?_
  obtain ⟨T62, X62, e62, st62⟩ := getF X60 hx hZ hown (host := "") (Or.inl (W 18 rfl)) Via.refl e60 F_size_a1 (g := (mkF m 153 #[.val (.ref a1), .val (.int p2), .val (.int p3), .val (.int p4), .val (.int 2047), .val (.int y5), s6] [(.ref a1)])) rfl rfl (hb hby d3_153)
  refine own_go st62 ?_
  show own_Run p e below _ T62 (mkF m 156 #[.val (.ref a1), .val (.int p2), .val (.int p3), .val (.int p4), .val (.int 2047), .val (.int y5), s6] [(.int 3)])
  refine own_go (fun _ k => XS.istore X62.here hx rfl (hb hby d3_156) rfl (l' := #[.val (.ref a1), .val (.int p2), .val (.int p3), .val (.int p4), .val (.int 2047), .val (.int y5), .val (.int 3)]) ((XS.store1 (o := s6) rfl hs6 rfl).trans rfl) k) ?_
  refine own_go (fun _ k => XS.aloadN X62.here hx rfl (hb hby d3_158) rfl rfl k) ?_
  obtain ⟨T63, X63, e63, st63⟩ := getF X62 hx hZ hown (host := "") (Or.inl (W 12 rfl)) Via.refl e62 F_variables_a1 (g := (mkF m 159 #[.val (.ref a1), .val (.int p2), .val (.int p3), .val (.int p4), .val (.int 2047), .val (.int y5), .val (.int 3)] [(.ref a1)])) rfl rfl (hb hby d3_159)
  refine own_go st63 ?_
  refine own_go (fun _ k => XS.iload X63.here hx rfl (hb hby d3_162) rfl k) ?_
  refine own_go (fun _ k => XS.iloadN X63.here hx rfl (hb hby d3_164) rfl k) ?_
  obtain ⟨cl64, Ar64, q64, S64, N64, H64, G64⟩ := id V_b1
  have hin64 : ¬ ((3 : Int32) < 0 ∨ cl64.slots.size ≤ ((3 : Int32)).toNatClampNeg) := inb_of S64 ⟨by decide, by decide⟩
  obtain ⟨T65, h65, X65, e65, W65, st65⟩ := stI X63 hx hZ e63 Ar64 (j := (3 : Int32)) hin64 (g := (mkF m 165 #[.val (.ref a1), .val (.int p2), .val (.int p3), .val (.int p4), .val (.int 2047), .val (.int y5), .val (.int 3)] [(.int p2), (.int 3), (.ref b1)])) rfl rfl (hb hby d3_165)
  refine own_go st65 ?_
  have Z0_c66 := Nat.le_trans Z0 (Keep.of_wr W65).1
  have K0_c66 := K0.wr W65 (Or.inl (List.mem_of_getElem? (i := 1) rfl))
  have E_a1_c66 := E_a1.wr W65
  have F_variables_a1_c66 := F_variables_a1.other W65 (Or.inl ne_a1_b1)
  have F_lows_a1_c66 := F_lows_a1.other W65 (Or.inl ne_a1_b1)
  have F_highs_a1_c66 := F_highs_a1.other W65 (Or.inl ne_a1_b1)
  have F_slots_a1_c66 := F_slots_a1.other W65 (Or.inl ne_a1_b1)
  have F_size_a1_c66 := F_size_a1.other W65 (Or.inl ne_a1_b1)
  have V_b2_c66 := V_b2.other W65 (Ne.symm ne_b1_b2)
  have V_b3_c66 := V_b3.other W65 (Ne.symm ne_b1_b3)
  have X_Arh_b4_c66 := X_Arh_b4.other W65 (Ne.symm ne_b1_b4)
  have V_b1_c65 : Arv Z h65 b1 k1 .int (1024 : Int32) [(.int 2147483647), (.int 2147483647), (.int va2), (.int p2), (.int 0), (.int 0)] (.int 0) := Arv.set Ar64 q64 S64 N64 H64 G64 rfl W65 3 rfl (Nat.le_of_ble_eq_true rfl)
  have N65 := Fr.snoc X65 N0 g_b1
  refine own_go (fun _ k => XS.aloadN X65.here hx rfl (hb hby d3_166) rfl rfl k) ?_
  obtain ⟨T67, X67, e67, st67⟩ := getF X65 hx hZ hown (host := "") (Or.inl (W 14 rfl)) Via.refl e65 F_lows_a1_c66 (g := (mkF m 167 #[.val (.ref a1), .val (.int p2), .val (.int p3), .val (.int p4), .val (.int 2047), .val (.int y5), .val (.int 3)] [(.ref a1)])) rfl rfl (hb hby d3_167)
  refine own_go st67 ?_
  show own_Run p e below _ T67 (mkF m 170 #[.val (.ref a1), .val (.int p2), .val (.int p3), .val (.int p4), .val (.int 2047), .val (.int y5), .val (.int 3)] [(.ref b2)])
  refine own_go (fun _ k => XS.iload X67.here hx rfl (hb hby d3_170) rfl k) ?_
  refine own_go (fun _ k => XS.iloadN X67.here hx rfl (hb hby d3_172) rfl k) ?_
  obtain ⟨cl68, Ar68, q68, S68, N68, H68, G68⟩ := id V_b2_c66
  have hin68 : ¬ ((3 : Int32) < 0 ∨ cl68.slots.size ≤ ((3 : Int32)).toNatClampNeg) := inb_of S68 ⟨by decide, by decide⟩
  obtain ⟨T69, h69, X69, e69, W69, st69⟩ := stI X67 hx hZ e67 Ar68 (j := (3 : Int32)) hin68 (g := (mkF m 173 #[.val (.ref a1), .val (.int p2), .val (.int p3), .val (.int p4), .val (.int 2047), .val (.int y5), .val (.int 3)] [(.int p3), (.int 3), (.ref b2)])) rfl rfl (hb hby d3_173)
  refine own_go st69 ?_
  have Z0_c70 := Nat.le_trans Z0_c66 (Keep.of_wr W69).1
  have K0_c70 := K0_c66.wr W69 (Or.inl (List.mem_of_getElem? (i := 2) rfl))
  have E_a1_c70 := E_a1_c66.wr W69
  have F_variables_a1_c70 := F_variables_a1_c66.other W69 (Or.inl ne_a1_b2)
  have F_lows_a1_c70 := F_lows_a1_c66.other W69 (Or.inl ne_a1_b2)
  have F_highs_a1_c70 := F_highs_a1_c66.other W69 (Or.inl ne_a1_b2)
  have F_slots_a1_c70 := F_slots_a1_c66.other W69 (Or.inl ne_a1_b2)
  have F_size_a1_c70 := F_size_a1_c66.other W69 (Or.inl ne_a1_b2)
  have V_b3_c70 := V_b3_c66.other W69 (Ne.symm ne_b2_b3)
  have X_Arh_b4_c70 := X_Arh_b4_c66.other W69 (Ne.symm ne_b2_b4)
  have V_b1_c70 := V_b1_c65.other W69 ne_b1_b2
  have V_b2_c69 : Arv Z h69 b2 k2 .int (1024 : Int32) [(.int 0), (.int 0), (.int la2), (.int p3), (.int 0), (.int 0)] (.int 0) := Arv.set Ar68 q68 S68 N68 H68 G68 rfl W69 3 rfl (Nat.le_of_ble_eq_true rfl)
  have N69 := Fr.snoc X69 N65 g_b2
  refine own_go (fun _ k => XS.aloadN X69.here hx rfl (hb hby d3_174) rfl rfl k) ?_
  obtain ⟨T71, X71, e71, st71⟩ := getF X69 hx hZ hown (host := "") (Or.inl (W 16 rfl)) Via.refl e69 F_highs_a1_c70 (g := (mkF m 175 #[.val (.ref a1), .val (.int p2), .val (.int p3), .val (.int p4), .val (.int 2047), .val (.int y5), .val (.int 3)] [(.ref a1)])) rfl rfl (hb hby d3_175)
  refine own_go st71 ?_
  refine own_go (fun _ k => XS.iload X71.here hx rfl (hb hby d3_178) rfl k) ?_
  refine own_go (fun _ k => XS.iloadN X71.here hx rfl (hb hby d3_180) rfl k) ?_
  obtain ⟨cl72, Ar72, q72, S72, N72, H72, G72⟩ := id V_b3_c70
  have hin72 : ¬ ((3 : Int32) < 0 ∨ cl72.slots.size ≤ ((3 : Int32)).toNatClampNeg) := inb_of S72 ⟨by decide, by decide⟩
  obtain ⟨T73, h73, X73, e73, W73, st73⟩ := stI X71 hx hZ e71 Ar72 (j := (3 : Int32)) hin72 (g := (mkF m 181 #[.val (.ref a1), .val (.int p2), .val (.int p3), .val (.int p4), .val (.int 2047), .val (.int y5), .val (.int 3)] [(.int p4), (.int 3), (.ref b3)])) rfl rfl (hb hby d3_181)
  refine own_go st73 ?_
  show own_Run p e below _ T73 (mkF m 182 #[.val (.ref a1), .val (.int p2), .val (.int p3), .val (.int p4), .val (.int 2047), .val (.int y5), .val (.int 3)] [])
  have Z0_c74 := Nat.le_trans Z0_c70 (Keep.of_wr W73).1
  have K0_c74 := K0_c70.wr W73 (Or.inl (List.mem_of_getElem? (i := 3) rfl))
  have E_a1_c74 := E_a1_c70.wr W73
  have F_variables_a1_c74 := F_variables_a1_c70.other W73 (Or.inl ne_a1_b3)
  have F_lows_a1_c74 := F_lows_a1_c70.other W73 (Or.inl ne_a1_b3)
  have F_highs_a1_c74 := F_highs_a1_c70.other W73 (Or.inl ne_a1_b3)
  have F_slots_a1_c74 := F_slots_a1_c70.other W73 (Or.inl ne_a1_b3)
  have F_size_a1_c74 := F_size_a1_c70.other W73 (Or.inl ne_a1_b3)
  have X_Arh_b4_c74 := X_Arh_b4_c70.other W73 (Ne.symm ne_b3_b4)
  have V_b1_c74 := V_b1_c70.other W73 ne_b1_b3
  have V_b2_c74 := V_b2_c69.other W73 ne_b2_b3
  have V_b3_c73 : Arv Z h73 b3 k3 .int (1024 : Int32) [(.int 0), (.int 0), (.int ha2), (.int p4), (.int 0), (.int 0)] (.int 0) := Arv.set Ar72 q72 S72 N72 H72 G72 rfl W73 3 rfl (Nat.le_of_ble_eq_true rfl)
  have N73 := Fr.snoc X73 N69 g_b3
  refine own_go (fun _ k => XS.aloadN X73.here hx rfl (hb hby d3_182) rfl rfl k) ?_
  refine own_go (fun _ k => XS.dup X73.here hx rfl (hb hby d3_183) rfl rfl k) ?_
  obtain ⟨T75, X75, e75, st75⟩ := getF X73 hx hZ hown (host := "") (Or.inl (W 18 rfl)) Via.refl e73 F_size_a1_c74 (g := (mkF m 184 #[.val (.ref a1), .val (.int p2), .val (.int p3), .val (.int p4), .val (.int 2047), .val (.int y5), .val (.int 3)] [(.ref a1), (.ref a1)])) rfl rfl (hb hby d3_184)
  refine own_go st75 ?_
  refine own_go (fun _ k => XS.iconst X75.here hx rfl (hb hby d3_187) k) ?_
  refine own_go (fun _ k => XS.iadd X75.here hx rfl (hb hby d3_188) rfl k) ?_
  show own_Run p e below _ T75 (mkF m 189 #[.val (.ref a1), .val (.int p2), .val (.int p3), .val (.int p4), .val (.int 2047), .val (.int y5), .val (.int 3)] [(.int ((3 : Int32) + (1 : Int32))), (.ref a1)])
  rw [show ((3 : Int32) + (1 : Int32)) = (4 : Int32) by decide]
  obtain ⟨T76, h76, X76, e76, W76, st76⟩ := putF X75 hx hZ hown (host := "") (Or.inl (W 18 rfl)) Via.refl e75 F_size_a1_c74 E_a1_c74 (Or.inl (W 19 rfl)) (W 3 rfl) (ty := .int) (by decide) rfl rfl (g := (mkF m 189 #[.val (.ref a1), .val (.int p2), .val (.int p3), .val (.int p4), .val (.int 2047), .val (.int y5), .val (.int 3)] [(.int 4), (.ref a1)])) rfl rfl (hb hby d3_189)
  refine own_go st76 ?_
  have Z0_c77 := Nat.le_trans Z0_c74 (Keep.of_wr W76).1
  have K0_c77 := K0_c74.wr W76 (Or.inl (List.mem_of_getElem? (i := 0) rfl))
  have E_a1_c77 := E_a1_c74.wr W76
  have F_variables_a1_c77 := F_variables_a1_c74.other W76 (Or.inr (slot_ne (Or.inl (W 13 rfl)) (Or.inl (W 19 rfl)) (by decide) (t := (.array .int)) (t' := .int) (by decide) (by decide)))
  have F_lows_a1_c77 := F_lows_a1_c74.other W76 (Or.inr (slot_ne (Or.inl (W 15 rfl)) (Or.inl (W 19 rfl)) (by decide) (t := (.array .int)) (t' := .int) (by decide) (by decide)))
  have F_highs_a1_c77 := F_highs_a1_c74.other W76 (Or.inr (slot_ne (Or.inl (W 17 rfl)) (Or.inl (W 19 rfl)) (by decide) (t := (.array .int)) (t' := .int) (by decide) (by decide)))
  have F_slots_a1_c77 := F_slots_a1_c74.other W76 (Or.inr (slot_ne (Or.inl (W 21 rfl)) (Or.inl (W 19 rfl)) (by decide) (t := (.array .int)) (t' := .int) (by decide) (by decide)))
  have X_Arh_b4_c77 := X_Arh_b4_c74.other W76 (Ne.symm ne_a1_b4)
  have V_b1_c77 := V_b1_c74.other W76 (Ne.symm ne_a1_b1)
  have V_b2_c77 := V_b2_c74.other W76 (Ne.symm ne_a1_b2)
  have V_b3_c77 := V_b3_c73.other W76 (Ne.symm ne_a1_b3)
  have F_size_a1_c76 : Fld Z h76 a1 own_K0 "size" "I" (.int 4) := F_size_a1_c74.same W76
  have N76 := Fr.snoc X76 N73 g_a1
  refine own_go (fun _ k => XS.aloadN X76.here hx rfl (hb hby d3_192) rfl rfl k) ?_
  obtain ⟨T78, X78, e78, st78⟩ := getF X76 hx hZ hown (host := "") (Or.inl (W 20 rfl)) Via.refl e76 F_slots_a1_c77 (g := (mkF m 193 #[.val (.ref a1), .val (.int p2), .val (.int p3), .val (.int p4), .val (.int 2047), .val (.int y5), .val (.int 3)] [(.ref a1)])) rfl rfl (hb hby d3_193)
  refine own_go st78 ?_
  refine own_go (fun _ k => XS.iload X78.here hx rfl (hb hby d3_196) rfl k) ?_
  refine own_go (fun _ k => XS.iload X78.here hx rfl (hb hby d3_198) rfl k) ?_
  refine own_go (fun _ k => XS.iconst X78.here hx rfl (hb hby d3_200) k) ?_
  refine own_go (fun _ k => XS.iadd X78.here hx rfl (hb hby d3_201) rfl k) ?_
  show own_Run p e below _ T78 (mkF m 202 #[.val (.ref a1), .val (.int p2), .val (.int p3), .val (.int p4), .val (.int 2047), .val (.int y5), .val (.int 3)] [(.int ((3 : Int32) + (1 : Int32))), (.int y5), (.ref b4)])
  rw [show ((3 : Int32) + (1 : Int32)) = (4 : Int32) by decide]
  obtain ⟨cl79, Ar79, q79, S79, N79, H79, G79⟩ := id X_Arh_b4_c77
  have hin79 : ¬ (y5 < 0 ∨ cl79.slots.size ≤ (y5).toNatClampNeg) := inb_of S79 (own_rgIn _ hrg)
  obtain ⟨T80, h80, X80, e80, W80, st80⟩ := stI X78 hx hZ e78 Ar79 (j := y5) hin79 (g := (mkF m 202 #[.val (.ref a1), .val (.int p2), .val (.int p3), .val (.int p4), .val (.int 2047), .val (.int y5), .val (.int 3)] [(.int 4), (.int y5), (.ref b4)])) rfl rfl (hb hby d3_202)
  refine own_go st80 ?_
  show own_Run p e below _ T80 (mkF m 203 #[.val (.ref a1), .val (.int p2), .val (.int p3), .val (.int p4), .val (.int 2047), .val (.int y5), .val (.int 3)] [])
  have Z0_c81 := Nat.le_trans Z0_c77 (Keep.of_wr W80).1
  have K0_c81 := K0_c77.wr W80 (Or.inl (List.mem_of_getElem? (i := 4) rfl))
  have E_a1_c81 := E_a1_c77.wr W80
  have F_variables_a1_c81 := F_variables_a1_c77.other W80 (Or.inl ne_a1_b4)
  have F_lows_a1_c81 := F_lows_a1_c77.other W80 (Or.inl ne_a1_b4)
  have F_highs_a1_c81 := F_highs_a1_c77.other W80 (Or.inl ne_a1_b4)
  have F_slots_a1_c81 := F_slots_a1_c77.other W80 (Or.inl ne_a1_b4)
  have V_b1_c81 := V_b1_c77.other W80 ne_b1_b4
  have V_b2_c81 := V_b2_c77.other W80 ne_b2_b4
  have V_b3_c81 := V_b3_c77.other W80 ne_b3_b4
  have F_size_a1_c81 := F_size_a1_c76.other W80 (Or.inl ne_a1_b4)
  have Xn80 : Arh Z h80 b4 k4 .int (2048 : Int32) [(y5, (.int 4)), (ia2, (.int 3))] [] (.int 0) := Arh.push Ar79 q79 S79 N79 H79 G79 rfl W80 hin79
  have N80 := Fr.snoc X80 N76 g_b4
  refine own_go (fun _ k => XS.iconst X80.here hx rfl (hb hby d3_203) k) ?_
  refine own_go (fun _ k => XS.aloadN X80.here hx rfl (hb hby d3_204) rfl rfl k) ?_
  obtain ⟨T82, X82, e82, st82⟩ := getF X80 hx hZ hown (host := "") (Or.inl (W 18 rfl)) Via.refl e80 F_size_a1_c81 (g := (mkF m 205 #[.val (.ref a1), .val (.int p2), .val (.int p3), .val (.int p4), .val (.int 2047), .val (.int y5), .val (.int 3)] [(.ref a1), (.int 2)])) rfl rfl (hb hby d3_205)
  refine own_go st82 ?_
  refine own_go (fun _ k => XS.imul X82.here hx rfl (hb hby d3_208) rfl k) ?_
  show own_Run p e below _ T82 (mkF m 209 #[.val (.ref a1), .val (.int p2), .val (.int p3), .val (.int p4), .val (.int 2047), .val (.int y5), .val (.int 3)] [(.int ((2 : Int32) * (4 : Int32)))])
  rw [show ((2 : Int32) * (4 : Int32)) = (8 : Int32) by decide]
  refine own_go (fun _ k => XS.aloadN X82.here hx rfl (hb hby d3_209) rfl rfl k) ?_
  obtain ⟨T83, X83, e83, st83⟩ := getF X82 hx hZ hown (host := "") (Or.inl (W 20 rfl)) Via.refl e82 F_slots_a1_c81 (g := (mkF m 210 #[.val (.ref a1), .val (.int p2), .val (.int p3), .val (.int p4), .val (.int 2047), .val (.int y5), .val (.int 3)] [(.ref a1), (.int 8)])) rfl rfl (hb hby d3_210)
  refine own_go st83 ?_
  obtain ⟨cl84, Ar84, q84, S84, N84, H84, G84⟩ := id Xn80
  refine own_go (X83.arraylength hx (by rw [e83]; exact Ar84.1) (State.isArrayOf_alike hZ.alike Ar84.2.1) (g := (mkF m 213 #[.val (.ref a1), .val (.int p2), .val (.int p3), .val (.int p4), .val (.int 2047), .val (.int y5), .val (.int 3)] [(.ref b4), (.int 8)])) rfl rfl (hb hby d3_213)) ?_
  rw [len_of S84 N84]
  refine own_go (fun _ k => XS.icmpYes X83.here hx rfl (pc0 := 214) (pc' := 221) rfl (hb hby d3_214) rfl (flt (by decide : ¬ ((2048 : Int32) < (8 : Int32)))).2.2.2 (by decide) (by decide) k) ?_
  refine own_go (fun _ k => XS.iload X83.here hx rfl (hb hby d3_221) rfl k) ?_
  refine own_done (Q := fun v h L => Q3c3 Z a1 p2 p3 p4 b1 b2 b3 b4 k1 k2 k3 k4 va2 la2 ha2 ia2 h0 n0 v h L) (v := (some (.int 3))) X83 (fun h => by rw [hret] at h; cases h) hlk (fun fs hr => own_retI X83 hx hret (hb hby d3_223) hr) ?_ (by decide) (by decide)
  show Q3c3 Z a1 p2 p3 p4 b1 b2 b3 b4 k1 k2 k3 k4 va2 la2 ha2 ia2 h0 n0 _ T83.heap _
  rw [e83]
  exact ⟨y5, rfl, N80, K0_c81, E_a1_c81, F_variables_a1_c81, F_lows_a1_c81, F_highs_a1_c81, F_slots_a1_c81, F_size_a1_c81, V_b1_c81, V_b2_c81, V_b3_c81, Xn80⟩
set_option maxRecDepth 65536 in
set_option maxHeartbeats 40000000 in
theorem nd3 {p : Program} {l : Launch} {e : Env} {s : State} {m : MethodId} {args : Array Value} {below : List Frame} {meth : Method} {c : Code} {Z : State} {a0 : Array Value} (a1 : Addr) (p2 : Int32) (p3 : Int32) (p4 : Int32) (b1 : Addr) (b2 : Addr) (b3 : Addr) (b4 : Addr) (k1 : ClassId) (k2 : ClassId) (k3 : ClassId) (k4 : ClassId) (va2 : Int32) (la2 : Int32) (ha2 : Int32) (ia2 : Int32) (h0 : Heap) (n0 : Nat) (hx : p.tables.exec = Jvm.exec) (hZ : Z.Warmed39 s.vm) (hw : ∀ d ∈ tables_1, d.before a0 Z = true) (hby : c.code = prog_20_method_2_code) (hml : c.maxLocals = 7) (hown : s.vm.findClass own_K0 = some m.cls) (hnm : meth.name = "node") (hret : meth.sig.returnType = some .int) (hlk : meth.locks = false) :
    ∀ (k : Nat) (y5 : Int32) (s6 : Slot) (T0 : State) (hh : Heap) (locs : List Loc), Stand p l e ({ frames := 1, cells := 0, slots := 0, locals := 15 } : Room) s m args below meth c T0 locs 0 0 → T0.heap = hh → Fr n0 locs → n0 ≤ hh.size → Keep h0 hh [a1, b1, b2, b3, b4] → Exa Z hh a1 own_K0 → Fld Z hh a1 own_K0 "variables" "[I" (.ref b1) → Fld Z hh a1 own_K0 "lows" "[I" (.ref b2) → Fld Z hh a1 own_K0 "highs" "[I" (.ref b3) → Fld Z hh a1 own_K0 "slots" "[I" (.ref b4) → Fld Z hh a1 own_K0 "size" "I" (.int 3) → Arv Z hh b1 k1 .int (1024 : Int32) [(.int 2147483647), (.int 2147483647), (.int va2), (.int 0), (.int 0), (.int 0)] (.int 0) → Arv Z hh b2 k2 .int (1024 : Int32) [(.int 0), (.int 0), (.int la2), (.int 0), (.int 0), (.int 0)] (.int 0) → Arv Z hh b3 k3 .int (1024 : Int32) [(.int 0), (.int 0), (.int ha2), (.int 0), (.int 0), (.int 0)] (.int 0) → Arh Z hh b4 k4 .int (2048 : Int32) [(ia2, (.int 3))] [] (.int 0) → own_rg y5 → One s6 → own_free ia2 ia2 ia2 k y5 → ¬ (va2 = p2) → n0 ≤ a1 → n0 ≤ b1 → n0 ≤ b2 → n0 ≤ b3 → n0 ≤ b4 → a1 ≠ b1 → a1 ≠ b2 → a1 ≠ b3 → a1 ≠ b4 → b1 ≠ b2 → b1 ≠ b3 → b1 ≠ b4 → b2 ≠ b3 → b2 ≠ b4 → b3 ≠ b4 → own_Run p e below (fun o U' => ∃ v L, o = .returned v ∧ Q3c3 Z a1 p2 p3 p4 b1 b2 b3 b4 k1 k2 k3 k4 va2 la2 ha2 ia2 h0 n0 v U'.heap L ∧ FrameEnd s o U' L ({ frames := 1, cells := 0, slots := 0, locals := 15 } : Room).cells ({ frames := 1, cells := 0, slots := 0, locals := 15 } : Room).slots) T0 (mkF m 20 #[.val (.ref a1), .val (.int p2), .val (.int p3), .val (.int p4), .val (.int 2047), .val (.int y5), s6] []) := by
  intro k
  induction k with
  | zero =>
    intro y5 s6 T0 hh locs X0 e0 N0 Z0 K0 E_a1 F_variables_a1 F_lows_a1 F_highs_a1 F_slots_a1 F_size_a1 V_b1 V_b2 V_b3 X_Arh_b4 hrg hs6 hfr hv2 g_a1 g_b1 g_b2 g_b3 g_b4 ne_a1_b1 ne_a1_b2 ne_a1_b3 ne_a1_b4 ne_b1_b2 ne_b1_b3 ne_b1_b4 ne_b2_b3 ne_b2_b4 ne_b3_b4
    have W := fun (k : Nat) {d : Jvm.Cond} (h : tables_1[k]? = some d) => hw d (List.mem_of_getElem? h)
    show own_Run p e below _ T0 (mkF m 20 #[.val (.ref a1), .val (.int p2), .val (.int p3), .val (.int p4), .val (.int 2047), .val (.int y5), s6] [])
    refine own_go (fun _ k => XS.aloadN X0.here hx rfl (hb hby d3_20) rfl rfl k) ?_
    obtain ⟨T85, X85, e85, st85⟩ := getF X0 hx hZ hown (host := "") (Or.inl (W 20 rfl)) Via.refl e0 F_slots_a1 (g := (mkF m 21 #[.val (.ref a1), .val (.int p2), .val (.int p3), .val (.int p4), .val (.int 2047), .val (.int y5), s6] [(.ref a1)])) rfl rfl (hb hby d3_21)
    refine own_go st85 ?_
    refine own_go (fun _ k => XS.iload X85.here hx rfl (hb hby d3_24) rfl k) ?_
    obtain ⟨cl86, Ar86, q86, S86, N86, H86, G86⟩ := id X_Arh_b4
    have hin86 : ¬ (y5 < 0 ∨ cl86.slots.size ≤ (y5).toNatClampNeg) := inb_of S86 (own_rgIn _ hrg)
    refine own_go (X85.iaload hx (j := y5) (v := (.int 0)) (by rw [e85]; exact Ar86.1) (State.isArrayOf_alike hZ.alike Ar86.2.1) Ar86.2.2 hin86 (atH H86 hin86 (getH_miss (own_rgIn _ hrg).1 hfr.1 (rfl))) (g := (mkF m 26 #[.val (.ref a1), .val (.int p2), .val (.int p3), .val (.int p4), .val (.int 2047), .val (.int y5), s6] [(.int y5), (.ref b4)])) rfl rfl (hb hby d3_26)) ?_
    refine own_go (fun _ k => XS.ifYes X85.here hx rfl (pc0 := 27) (pc' := 89) rfl (hb hby d3_27) rfl ((if0 _ _).trans (teq (by decide : (0 : Int32) = (0 : Int32))).1) (by decide) (by decide) k) ?_
    exact ndx3 a1 p2 p3 p4 b1 b2 b3 b4 k1 k2 k3 k4 va2 la2 ha2 ia2 h0 n0 hx hZ hw hby hml hown hnm hret hlk y5 (s6) T85 hh _ X85 e85 N0 Z0 K0 E_a1 F_variables_a1 F_lows_a1 F_highs_a1 F_slots_a1 F_size_a1 V_b1 V_b2 V_b3 X_Arh_b4 (hrg) (hs6) g_a1 g_b1 g_b2 g_b3 g_b4 ne_a1_b1 ne_a1_b2 ne_a1_b3 ne_a1_b4 ne_b1_b2 ne_b1_b3 ne_b1_b4 ne_b2_b3 ne_b2_b4 ne_b3_b4 
  | succ k ih =>
    intro y5 s6 T0 hh locs X0 e0 N0 Z0 K0 E_a1 F_variables_a1 F_lows_a1 F_highs_a1 F_slots_a1 F_size_a1 V_b1 V_b2 V_b3 X_Arh_b4 hrg hs6 hfr hv2 g_a1 g_b1 g_b2 g_b3 g_b4 ne_a1_b1 ne_a1_b2 ne_a1_b3 ne_a1_b4 ne_b1_b2 ne_b1_b3 ne_b1_b4 ne_b2_b3 ne_b2_b4 ne_b3_b4
    have W := fun (k : Nat) {d : Jvm.Cond} (h : tables_1[k]? = some d) => hw d (List.mem_of_getElem? h)
    show own_Run p e below _ T0 (mkF m 20 #[.val (.ref a1), .val (.int p2), .val (.int p3), .val (.int p4), .val (.int 2047), .val (.int y5), s6] [])
    by_cases hk : y5 ≠ ia2 ∧ y5 ≠ ia2 ∧ y5 ≠ ia2
    · refine own_go (fun _ k => XS.aloadN X0.here hx rfl (hb hby d3_20) rfl rfl k) ?_
      obtain ⟨T87, X87, e87, st87⟩ := getF X0 hx hZ hown (host := "") (Or.inl (W 20 rfl)) Via.refl e0 F_slots_a1 (g := (mkF m 21 #[.val (.ref a1), .val (.int p2), .val (.int p3), .val (.int p4), .val (.int 2047), .val (.int y5), s6] [(.ref a1)])) rfl rfl (hb hby d3_21)
      refine own_go st87 ?_
      refine own_go (fun _ k => XS.iload X87.here hx rfl (hb hby d3_24) rfl k) ?_
      obtain ⟨cl88, Ar88, q88, S88, N88, H88, G88⟩ := id X_Arh_b4
      have hin88 : ¬ (y5 < 0 ∨ cl88.slots.size ≤ (y5).toNatClampNeg) := inb_of S88 (own_rgIn _ hrg)
      refine own_go (X87.iaload hx (j := y5) (v := (.int 0)) (by rw [e87]; exact Ar88.1) (State.isArrayOf_alike hZ.alike Ar88.2.1) Ar88.2.2 hin88 (atH H88 hin88 (getH_miss (own_rgIn _ hrg).1 hk.1 (rfl))) (g := (mkF m 26 #[.val (.ref a1), .val (.int p2), .val (.int p3), .val (.int p4), .val (.int 2047), .val (.int y5), s6] [(.int y5), (.ref b4)])) rfl rfl (hb hby d3_26)) ?_
      refine own_go (fun _ k => XS.ifYes X87.here hx rfl (pc0 := 27) (pc' := 89) rfl (hb hby d3_27) rfl ((if0 _ _).trans (teq (by decide : (0 : Int32) = (0 : Int32))).1) (by decide) (by decide) k) ?_
      exact ndx3 a1 p2 p3 p4 b1 b2 b3 b4 k1 k2 k3 k4 va2 la2 ha2 ia2 h0 n0 hx hZ hw hby hml hown hnm hret hlk y5 (s6) T87 hh _ X87 e87 N0 Z0 K0 E_a1 F_variables_a1 F_lows_a1 F_highs_a1 F_slots_a1 F_size_a1 V_b1 V_b2 V_b3 X_Arh_b4 (hrg) (hs6) g_a1 g_b1 g_b2 g_b3 g_b4 ne_a1_b1 ne_a1_b2 ne_a1_b3 ne_a1_b4 ne_b1_b2 ne_b1_b3 ne_b1_b4 ne_b2_b3 ne_b2_b4 ne_b3_b4 
    · have hfr2 := hfr.resolve_left hk
      by_cases hm0 : y5 = ia2
      · refine own_go (fun _ k => XS.aloadN X0.here hx rfl (hb hby d3_20) rfl rfl k) ?_
        obtain ⟨T89, X89, e89, st89⟩ := getF X0 hx hZ hown (host := "") (Or.inl (W 20 rfl)) Via.refl e0 F_slots_a1 (g := (mkF m 21 #[.val (.ref a1), .val (.int p2), .val (.int p3), .val (.int p4), .val (.int 2047), .val (.int y5), s6] [(.ref a1)])) rfl rfl (hb hby d3_21)
        refine own_go st89 ?_
        refine own_go (fun _ k => XS.iload X89.here hx rfl (hb hby d3_24) rfl k) ?_
        obtain ⟨cl90, Ar90, q90, S90, N90, H90, G90⟩ := id X_Arh_b4
        have hin90 : ¬ (y5 < 0 ∨ cl90.slots.size ≤ (y5).toNatClampNeg) := inb_of S90 (own_rgIn _ hrg)
        refine own_go (X89.iaload hx (j := y5) (v := (.int 3)) (by rw [e89]; exact Ar90.1) (State.isArrayOf_alike hZ.alike Ar90.2.1) Ar90.2.2 hin90 (atH H90 hin90 (getH_hit (own_rgIn _ hrg).1 hm0)) (g := (mkF m 26 #[.val (.ref a1), .val (.int p2), .val (.int p3), .val (.int p4), .val (.int 2047), .val (.int y5), s6] [(.int y5), (.ref b4)])) rfl rfl (hb hby d3_26)) ?_
        refine own_go (fun _ k => XS.ifNo X89.here hx rfl (hb hby d3_27) rfl ((if0 _ _).trans (feq (by decide : ¬ ((3 : Int32) = (0 : Int32)))).1) k) ?_
        refine own_go (fun _ k => XS.aloadN X89.here hx rfl (hb hby d3_30) rfl rfl k) ?_
        obtain ⟨T91, X91, e91, st91⟩ := getF X89 hx hZ hown (host := "") (Or.inl (W 20 rfl)) Via.refl e89 F_slots_a1 (g := (mkF m 31 #[.val (.ref a1), .val (.int p2), .val (.int p3), .val (.int p4), .val (.int 2047), .val (.int y5), s6] [(.ref a1)])) rfl rfl (hb hby d3_31)
        refine own_go st91 ?_
        refine own_go (fun _ k => XS.iload X91.here hx rfl (hb hby d3_34) rfl k) ?_
        show own_Run p e below _ T91 (mkF m 36 #[.val (.ref a1), .val (.int p2), .val (.int p3), .val (.int p4), .val (.int 2047), .val (.int y5), s6] [(.int y5), (.ref b4)])
        obtain ⟨cl92, Ar92, q92, S92, N92, H92, G92⟩ := id X_Arh_b4
        have hin92 : ¬ (y5 < 0 ∨ cl92.slots.size ≤ (y5).toNatClampNeg) := inb_of S92 (own_rgIn _ hrg)
        refine own_go (X91.iaload hx (j := y5) (v := (.int 3)) (by rw [e91]; exact Ar92.1) (State.isArrayOf_alike hZ.alike Ar92.2.1) Ar92.2.2 hin92 (atH H92 hin92 (getH_hit (own_rgIn _ hrg).1 hm0)) (g := (mkF m 36 #[.val (.ref a1), .val (.int p2), .val (.int p3), .val (.int p4), .val (.int 2047), .val (.int y5), s6] [(.int y5), (.ref b4)])) rfl rfl (hb hby d3_36)) ?_
        refine own_go (fun _ k => XS.iconst X91.here hx rfl (hb hby d3_37) k) ?_
        refine own_go (fun _ k => XS.isub X91.here hx rfl (hb hby d3_38) rfl k) ?_
        show own_Run p e below _ T91 (mkF m 39 #[.val (.ref a1), .val (.int p2), .val (.int p3), .val (.int p4), .val (.int 2047), .val (.int y5), s6] [(.int ((3 : Int32) - (1 : Int32)))])
        rw [show ((3 : Int32) - (1 : Int32)) = (2 : Int32) by decide]
        refine own_go (fun _ k => XS.istore X91.here hx rfl (hb hby d3_39) rfl (l' := #[.val (.ref a1), .val (.int p2), .val (.int p3), .val (.int p4), .val (.int 2047), .val (.int y5), .val (.int 2)]) ((XS.store1 (o := s6) rfl hs6 rfl).trans rfl) k) ?_
        refine own_go (fun _ k => XS.aloadN X91.here hx rfl (hb hby d3_41) rfl rfl k) ?_
        obtain ⟨T93, X93, e93, st93⟩ := getF X91 hx hZ hown (host := "") (Or.inl (W 12 rfl)) Via.refl e91 F_variables_a1 (g := (mkF m 42 #[.val (.ref a1), .val (.int p2), .val (.int p3), .val (.int p4), .val (.int 2047), .val (.int y5), .val (.int 2)] [(.ref a1)])) rfl rfl (hb hby d3_42)
        refine own_go st93 ?_
        refine own_go (fun _ k => XS.iload X93.here hx rfl (hb hby d3_45) rfl k) ?_
        obtain ⟨cl94, Ar94, q94, S94, N94, H94, G94⟩ := id V_b1
        have hin94 : ¬ ((2 : Int32) < 0 ∨ cl94.slots.size ≤ ((2 : Int32)).toNatClampNeg) := inb_of S94 ⟨by decide, by decide⟩
        refine own_go (X93.iaload hx (j := (2 : Int32)) (v := (.int va2)) (by rw [e93]; exact Ar94.1) (State.isArrayOf_alike hZ.alike Ar94.2.1) Ar94.2.2 hin94 (H94.at hin94 rfl) (g := (mkF m 47 #[.val (.ref a1), .val (.int p2), .val (.int p3), .val (.int p4), .val (.int 2047), .val (.int y5), .val (.int 2)] [(.int 2), (.ref b1)])) rfl rfl (hb hby d3_47)) ?_
        refine own_go (fun _ k => XS.iloadN X93.here hx rfl (hb hby d3_48) rfl k) ?_
        refine own_go (fun _ k => XS.icmpYes X93.here hx rfl (pc0 := 49) (pc' := 77) rfl (hb hby d3_49) rfl (feq hv2).2 (by decide) (by decide) k) ?_
        refine own_go (fun _ k => XS.iload X93.here hx rfl (hb hby d3_77) rfl k) ?_
        show own_Run p e below _ T93 (mkF m 79 #[.val (.ref a1), .val (.int p2), .val (.int p3), .val (.int p4), .val (.int 2047), .val (.int y5), .val (.int 2)] [(.int y5)])
        refine own_go (fun _ k => XS.iconst X93.here hx rfl (hb hby d3_79) k) ?_
        refine own_go (fun _ k => XS.iadd X93.here hx rfl (hb hby d3_80) rfl k) ?_
        refine own_go (fun _ k => XS.iload X93.here hx rfl (hb hby d3_81) rfl k) ?_
        refine own_go (fun _ k => XS.iand X93.here hx rfl (hb hby d3_83) rfl k) ?_
        refine own_go (fun _ k => XS.istore X93.here hx rfl (hb hby d3_84) rfl (l' := #[.val (.ref a1), .val (.int p2), .val (.int p3), .val (.int p4), .val (.int 2047), .val (.int ((y5 + (1 : Int32)) &&& (2047 : Int32))), .val (.int 2)]) rfl k) ?_
        refine own_go (fun _ k => XS.goto X93.here hx rfl (pc0 := 86) (pc' := 20) rfl (hb hby d3_86) (by decide) (by decide) k) ?_
        exact ih ((y5 + (1 : Int32)) &&& (2047 : Int32)) (.val (.int 2)) T93 hh _ X93 e93 N0 Z0 K0 E_a1 F_variables_a1 F_lows_a1 F_highs_a1 F_slots_a1 F_size_a1 V_b1 V_b2 V_b3 X_Arh_b4 (own_nxR y5 hrg) (One.val rfl) (hfr2) (hv2) g_a1 g_b1 g_b2 g_b3 g_b4 ne_a1_b1 ne_a1_b2 ne_a1_b3 ne_a1_b4 ne_b1_b2 ne_b1_b3 ne_b1_b4 ne_b2_b3 ne_b2_b4 ne_b3_b4 
      · exact absurd ⟨hm0, hm0, hm0⟩ hk
set_option maxRecDepth 65536 in
set_option maxHeartbeats 40000000 in
theorem rm3c3 (l : Launch) (Z : State) (a0 : Array Value) (hw : ∀ d ∈ tables_1, d.before a0 Z = true) (ws : List Jvm.Cond) (a1 : Addr) (p2 : Int32) (p3 : Int32) (p4 : Int32) (b1 : Addr) (b2 : Addr) (b3 : Addr) (b4 : Addr) (k1 : ClassId) (k2 : ClassId) (k3 : ClassId) (k4 : ClassId) (va2 : Int32) (la2 : Int32) (ha2 : Int32) (ia2 : Int32) (h0 : Heap) (n0 : Nat) (Z0 : n0 ≤ h0.size) (E_a1 : Exa Z h0 a1 own_K0) (F_variables_a1 : Fld Z h0 a1 own_K0 "variables" "[I" (.ref b1)) (F_lows_a1 : Fld Z h0 a1 own_K0 "lows" "[I" (.ref b2)) (F_highs_a1 : Fld Z h0 a1 own_K0 "highs" "[I" (.ref b3)) (F_slots_a1 : Fld Z h0 a1 own_K0 "slots" "[I" (.ref b4)) (F_size_a1 : Fld Z h0 a1 own_K0 "size" "I" (.int 3)) (V_b1 : Arv Z h0 b1 k1 .int (1024 : Int32) [(.int 2147483647), (.int 2147483647), (.int va2), (.int 0), (.int 0), (.int 0)] (.int 0)) (V_b2 : Arv Z h0 b2 k2 .int (1024 : Int32) [(.int 0), (.int 0), (.int la2), (.int 0), (.int 0), (.int 0)] (.int 0)) (V_b3 : Arv Z h0 b3 k3 .int (1024 : Int32) [(.int 0), (.int 0), (.int ha2), (.int 0), (.int 0), (.int 0)] (.int 0)) (X_Arh_b4 : Arh Z h0 b4 k4 .int (2048 : Int32) [(ia2, (.int 3))] [] (.int 0)) (g_a1 : n0 ≤ a1) (g_b1 : n0 ≤ b1) (g_b2 : n0 ≤ b2) (g_b3 : n0 ≤ b3) (g_b4 : n0 ≤ b4) (ne_a1_b1 : a1 ≠ b1) (ne_a1_b2 : a1 ≠ b2) (ne_a1_b3 : a1 ≠ b3) (ne_a1_b4 : a1 ≠ b4) (ne_b1_b2 : b1 ≠ b2) (ne_b1_b3 : b1 ≠ b3) (ne_b1_b4 : b1 ≠ b4) (ne_b2_b3 : b2 ≠ b3) (ne_b2_b4 : b2 ≠ b4) (ne_b3_b4 : b3 ≠ b4) (hv2 : ¬ (va2 = p2)) :
    MetFree l (⟨own_K0, "node", "(III)I"⟩ : MethodName) (head1 (Jvm.Cond.code (⟨own_K0, "node", "(III)I"⟩ : MethodName) prog_20_method_2_code 7 (some .int) :: ws) ({ frames := 1, cells := 0, slots := 0, locals := 15 } : Room)) (fun a U => a = #[(.ref a1), (.int p2), (.int p3), (.int p4)] ∧ Z.Warmed39 U.vm ∧ U.heap = h0) (fun _ _ _ _ _ => True) (fun _ U o U' => ∃ v L, o = .returned v ∧ Q3c3 Z a1 p2 p3 p4 b1 b2 b3 b4 k1 k2 k3 k4 va2 la2 ha2 ia2 h0 n0 v U'.heap L ∧ FrameEnd U o U' L ({ frames := 1, cells := 0, slots := 0, locals := 15 } : Room).cells ({ frames := 1, cells := 0, slots := 0, locals := 15 } : Room).slots) := by
  refine MetFree.of_bodySF (plainFor_of_name pn_3) hisR ?_
  intro p e s m args below meth c s₁ Bd hml0 hP hK
  obtain ⟨rfl, hZ, hh⟩ := hP
  have hx := Bd.exec
  have hby := Bd.bytes
  have hml : c.maxLocals = 7 := hml0
  have hown : s.vm.findClass own_K0 = some m.cls := findClass_of_methodNamed Bd.named
  have hnm := (name_of_methodNamed Bd.named Bd.method).1
  have hret := Bd.returns
  have hlk : meth.locks = false := BodyLoose.notSynchronized Bd
  have X0 : Stand p l e ({ frames := 1, cells := 0, slots := 0, locals := 15 } : Room) s m #[(.ref a1), (.int p2), (.int p3), (.int p4)] below meth c s₁ [] 0 0 := Stand.of_body Bd
  have e0 : s₁.heap = h0 := by rw [← hh, Bd.state]; rfl
  have N0 := Fr.nil n0
  have W := fun (k : Nat) {d : Jvm.Cond} (h : tables_1[k]? = some d) => hw d (List.mem_of_getElem? h)
  have K0 : Keep h0 h0 [a1, b1, b2, b3, b4] := Keep.refl _ _
  refine own_start (ef_3 m a1 p2 p3 p4) ?_
  show own_Run p e below _ s₁ (mkF m 0 #[.val (.ref a1), .val (.int p2), .val (.int p3), .val (.int p4), .unset, .unset, .unset] [])
  refine own_go (fun _ k => XS.aloadN X0.here hx rfl (hb hby d3_0) rfl rfl k) ?_
  obtain ⟨T95, X95, e95, st95⟩ := getF X0 hx hZ hown (host := "") (Or.inl (W 20 rfl)) Via.refl e0 F_slots_a1 (g := (mkF m 1 #[.val (.ref a1), .val (.int p2), .val (.int p3), .val (.int p4), .unset, .unset, .unset] [(.ref a1)])) rfl rfl (hb hby d3_1)
  refine own_go st95 ?_
  obtain ⟨cl96, Ar96, q96, S96, N96, H96, G96⟩ := id X_Arh_b4
  refine own_go (X95.arraylength hx (by rw [e95]; exact Ar96.1) (State.isArrayOf_alike hZ.alike Ar96.2.1) (g := (mkF m 4 #[.val (.ref a1), .val (.int p2), .val (.int p3), .val (.int p4), .unset, .unset, .unset] [(.ref b4)])) rfl rfl (hb hby d3_4)) ?_
  rw [len_of S96 N96]
  refine own_go (fun _ k => XS.iconst X95.here hx rfl (hb hby d3_5) k) ?_
  refine own_go (fun _ k => XS.isub X95.here hx rfl (hb hby d3_6) rfl k) ?_
  show own_Run p e below _ T95 (mkF m 7 #[.val (.ref a1), .val (.int p2), .val (.int p3), .val (.int p4), .unset, .unset, .unset] [(.int ((2048 : Int32) - (1 : Int32)))])
  rw [show ((2048 : Int32) - (1 : Int32)) = (2047 : Int32) by decide]
  refine own_go (fun _ k => XS.istore X95.here hx rfl (hb hby d3_7) rfl (l' := #[.val (.ref a1), .val (.int p2), .val (.int p3), .val (.int p4), .val (.int 2047), .unset, .unset]) rfl k) ?_
  refine own_go (fun _ k => XS.iloadN X95.here hx rfl (hb hby d3_9) rfl k) ?_
  refine own_go (fun _ k => XS.iloadN X95.here hx rfl (hb hby d3_10) rfl k) ?_
  refine own_go (fun _ k => XS.iloadN X95.here hx rfl (hb hby d3_11) rfl k) ?_
  obtain ⟨_, _, ⟨T97, L97, k97, n97⟩, -, X97, ⟨Lc97, hQ97, l97, y97, z97⟩, st97⟩ := Jvm.LawKit.callS X95 hx (y := (⟨own_K0, "hash", "(III)I"⟩ : MethodName)) hown (mvT hZ (W 28 rfl)) (mvT hZ (W 29 rfl)) (mvT hZ (W 4 rfl)) (mvT hZ (W 30 rfl)) (by decide) (backOf (W := 0) (rm4 l Z a0 hw [] p2 p3 p4 h0 n0 Z0 ) hZ (W 30 rfl) (W 4 rfl) (by decide) (by decide)) (g := (mkF m 12 #[.val (.ref a1), .val (.int p2), .val (.int p3), .val (.int p4), .val (.int 2047), .unset, .unset] [(.int p4), (.int p3), (.int p2)])) rfl (by rw [hml]; rfl) (argsL := [(.int p2), (.int p3), (.int p4)]) (rest := []) (lenOf pd_1 rfl) rfl (by show 2 * 0 + _ ≤ _; exact Nat.le_of_eq rfl) (hb hby d3_12) (fun _ _ => ⟨rfl, e95, (by decide : 0 + 0 ≤ _), (by decide : 0 + 0 ≤ _)⟩)
  dsimp only [Pt.U, Pt.locs, Pt.cells, Pt.slots] at X97 l97 y97 z97 st97 hQ97
  subst l97 y97 z97
  obtain ⟨rfl, N97q, e97⟩ := hQ97
  have N97 := Fr.app N0 N97q
  refine own_go st97 ?_
  refine own_go (fun _ k => XS.iload X97.here hx rfl (hb hby d3_15) rfl k) ?_
  refine own_go (fun _ k => XS.iand X97.here hx rfl (hb hby d3_17) rfl k) ?_
  show own_Run p e below _ T97 (mkF m 18 #[.val (.ref a1), .val (.int p2), .val (.int p3), .val (.int p4), .val (.int 2047), .unset, .unset] [(.int ((own_hash p2 p3 p4) &&& (2047 : Int32)))])
  obtain ⟨y5, hy5⟩ : ∃ z, z = ((own_hash p2 p3 p4) &&& (2047 : Int32)) := ⟨_, rfl⟩
  rw [← hy5]
  have hrg : own_rg y5 := by rw [hy5]; exact own_rgH _
  refine own_go (fun _ k => XS.istore X97.here hx rfl (hb hby d3_18) rfl (l' := #[.val (.ref a1), .val (.int p2), .val (.int p3), .val (.int p4), .val (.int 2047), .val (.int y5), .unset]) rfl k) ?_
  exact nd3 a1 p2 p3 p4 b1 b2 b3 b4 k1 k2 k3 k4 va2 la2 ha2 ia2 h0 n0 hx hZ hw hby hml hown hnm hret hlk 3 y5 (.unset) T97 h0 _ X97 e97 N97 Z0 K0 E_a1 F_variables_a1 F_lows_a1 F_highs_a1 F_slots_a1 F_size_a1 V_b1 V_b2 V_b3 X_Arh_b4 (hrg) (One.u) (own_pig ia2 ia2 ia2 y5 hrg) (hv2) g_a1 g_b1 g_b2 g_b3 g_b4 ne_a1_b1 ne_a1_b2 ne_a1_b3 ne_a1_b4 ne_b1_b2 ne_b1_b3 ne_b1_b4 ne_b2_b3 ne_b2_b4 ne_b3_b4 
def Q3c4 (Z : State) (a1 : Addr) (p2 : Int32) (p3 : Int32) (p4 : Int32) (b1 : Addr) (b2 : Addr) (b3 : Addr) (b4 : Addr) (k1 : ClassId) (k2 : ClassId) (k3 : ClassId) (k4 : ClassId) (va2 : Int32) (va3 : Int32) (la2 : Int32) (la3 : Int32) (ha2 : Int32) (ha3 : Int32) (ia2 : Int32) (ia3 : Int32) (h0 : Heap) (n0 : Nat) (v : Option Value) (h : Heap) (L : List Loc) : Prop := ∃ (ic : Int32), v = some (.int 4) ∧ Fr n0 L ∧ Keep h0 h [a1, b1, b2, b3, b4] ∧ Exa Z h a1 own_K0 ∧ Fld Z h a1 own_K0 "variables" "[I" (.ref b1) ∧ Fld Z h a1 own_K0 "lows" "[I" (.ref b2) ∧ Fld Z h a1 own_K0 "highs" "[I" (.ref b3) ∧ Fld Z h a1 own_K0 "slots" "[I" (.ref b4) ∧ Fld Z h a1 own_K0 "size" "I" (.int 5) ∧ Arv Z h b1 k1 .int (1024 : Int32) [(.int 2147483647), (.int 2147483647), (.int va2), (.int va3), (.int p2), (.int 0)] (.int 0) ∧ Arv Z h b2 k2 .int (1024 : Int32) [(.int 0), (.int 0), (.int la2), (.int la3), (.int p3), (.int 0)] (.int 0) ∧ Arv Z h b3 k3 .int (1024 : Int32) [(.int 0), (.int 0), (.int ha2), (.int ha3), (.int p4), (.int 0)] (.int 0) ∧ Arh Z h b4 k4 .int (2048 : Int32) [(ic, (.int 5)), (ia3, (.int 4)), (ia2, (.int 3))] [] (.int 0)
set_option maxRecDepth 65536 in
set_option maxHeartbeats 40000000 in
theorem ndx4 {p : Program} {l : Launch} {e : Env} {s : State} {m : MethodId} {args : Array Value} {below : List Frame} {meth : Method} {c : Code} {Z : State} {a0 : Array Value} (a1 : Addr) (p2 : Int32) (p3 : Int32) (p4 : Int32) (b1 : Addr) (b2 : Addr) (b3 : Addr) (b4 : Addr) (k1 : ClassId) (k2 : ClassId) (k3 : ClassId) (k4 : ClassId) (va2 : Int32) (va3 : Int32) (la2 : Int32) (la3 : Int32) (ha2 : Int32) (ha3 : Int32) (ia2 : Int32) (ia3 : Int32) (h0 : Heap) (n0 : Nat) (hx : p.tables.exec = Jvm.exec) (hZ : Z.Warmed39 s.vm) (hw : ∀ d ∈ tables_1, d.before a0 Z = true) (hby : c.code = prog_20_method_2_code) (hml : c.maxLocals = 7) (hown : s.vm.findClass own_K0 = some m.cls) (hnm : meth.name = "node") (hret : meth.sig.returnType = some .int) (hlk : meth.locks = false)
    (y5 : Int32) (s6 : Slot) (T0 : State) (hh : Heap) (locs : List Loc) (X0 : Stand p l e ({ frames := 1, cells := 0, slots := 0, locals := 15 } : Room) s m args below meth c T0 locs 0 0) (e0 : T0.heap = hh) (N0 : Fr n0 locs) (Z0 : n0 ≤ hh.size) (K0 : Keep h0 hh [a1, b1, b2, b3, b4]) (E_a1 : Exa Z hh a1 own_K0) (F_variables_a1 : Fld Z hh a1 own_K0 "variables" "[I" (.ref b1)) (F_lows_a1 : Fld Z hh a1 own_K0 "lows" "[I" (.ref b2)) (F_highs_a1 : Fld Z hh a1 own_K0 "highs" "[I" (.ref b3)) (F_slots_a1 : Fld Z hh a1 own_K0 "slots" "[I" (.ref b4)) (F_size_a1 : Fld Z hh a1 own_K0 "size" "I" (.int 4)) (V_b1 : Arv Z hh b1 k1 .int (1024 : Int32) [(.int 2147483647), (.int 2147483647), (.int va2), (.int va3), (.int 0), (.int 0)] (.int 0)) (V_b2 : Arv Z hh b2 k2 .int (1024 : Int32) [(.int 0), (.int 0), (.int la2), (.int la3), (.int 0), (.int 0)] (.int 0)) (V_b3 : Arv Z hh b3 k3 .int (1024 : Int32) [(.int 0), (.int 0), (.int ha2), (.int ha3), (.int 0), (.int 0)] (.int 0)) (X_Arh_b4 : Arh Z hh b4 k4 .int (2048 : Int32) [(ia3, (.int 4)), (ia2, (.int 3))] [] (.int 0)) (hrg : own_rg y5) (hs6 : One s6) (g_a1 : n0 ≤ a1) (g_b1 : n0 ≤ b1) (g_b2 : n0 ≤ b2) (g_b3 : n0 ≤ b3) (g_b4 : n0 ≤ b4) (ne_a1_b1 : a1 ≠ b1) (ne_a1_b2 : a1 ≠ b2) (ne_a1_b3 : a1 ≠ b3) (ne_a1_b4 : a1 ≠ b4) (ne_b1_b2 : b1 ≠ b2) (ne_b1_b3 : b1 ≠ b3) (ne_b1_b4 : b1 ≠ b4) (ne_b2_b3 : b2 ≠ b3) (ne_b2_b4 : b2 ≠ b4) (ne_b3_b4 : b3 ≠ b4) :
    own_Run p e below (fun o U' => ∃ v L, o = .returned v ∧ Q3c4 Z a1 p2 p3 p4 b1 b2 b3 b4 k1 k2 k3 k4 va2 va3 la2 la3 ha2 ha3 ia2 ia3 h0 n0 v U'.heap L ∧ FrameEnd s o U' L ({ frames := 1, cells := 0, slots := 0, locals := 15 } : Room).cells ({ frames := 1, cells := 0, slots := 0, locals := 15 } : Room).slots) T0 (mkF m 89 #[.val (.ref a1), .val (.int p2), .val (.int p3), .val (.int p4), .val (.int 2047), .val (.int y5), s6] []) := by
  have W := fun (k : Nat) {d : Jvm.Cond} (h : tables_1[k]? = some d) => hw d (List.mem_of_getElem? h)
  show own_Run p e below _ T0 (mkF m 89 #[.val (.ref a1), .val (.int p2), .val (.int p3), .val (.int p4), .val (.int 2047), .val (.int y5), s6] [])
  refine own_go (fun _ k => XS.aloadN X0.here hx rfl (hb hby d3_89) rfl rfl k) ?_
  obtain ⟨T98, X98, e98, st98⟩ := getF X0 hx hZ hown (host := "") (Or.inl (W 18 rfl)) Via.refl e0 F_size_a1 (g := (mkF m 90 #[.val (.ref a1), .val (.int p2), .val (.int p3), .val (.int p4), .val (.int 2047), .val (.int y5), s6] [(.ref a1)])) rfl rfl (hb hby d3_90)
  refine own_go st98 ?_
  refine own_go (fun _ k => XS.aloadN X98.here hx rfl (hb hby d3_93) rfl rfl k) ?_
  obtain ⟨T99, X99, e99, st99⟩ := getF X98 hx hZ hown (host := "") (Or.inl (W 12 rfl)) Via.refl e98 F_variables_a1 (g := (mkF m 94 #[.val (.ref a1), .val (.int p2), .val (.int p3), .val (.int p4), .val (.int 2047), .val (.int y5), s6] [(.ref a1), (.int 4)])) rfl rfl (hb hby d3_94)
  refine own_go st99 ?_
  obtain ⟨cl100, Ar100, q100, S100, N100, H100, G100⟩ := id V_b1
  refine own_go (X99.arraylength hx (by rw [e99]; exact Ar100.1) (State.isArrayOf_alike hZ.alike Ar100.2.1) (g := (mkF m 97 #[.val (.ref a1), .val (.int p2), .val (.int p3), .val (.int p4), .val (.int 2047), .val (.int y5), s6] [(.ref b1), (.int 4)])) rfl rfl (hb hby d3_97)) ?_
  rw [len_of S100 N100]
  refine own_go (fun _ k => XS.icmpYes X99.here hx rfl (pc0 := 98) (pc' := 152) rfl (hb hby d3_98) rfl (feq (by decide : ¬ ((4 : Int32) = (1024 : Int32)))).2 (by decide) (by decide) k) ?_
  refine own_go (fun _ k => XS.aloadN X99.here hx rfl (hb hby d3_152) rfl rfl k) ?_
  obtain ⟨T101, X101, e101, st101⟩ := getF X99 hx hZ hown (host := "") (Or.inl (W 18 rfl)) Via.refl e99 F_size_a1 (g := (mkF m 153 #[.val (.ref a1), .val (.int p2), .val (.int p3), .val (.int p4), .val (.int 2047), .val (.int y5), s6] [(.ref a1)])) rfl rfl (hb hby d3_153)
  refine own_go st101 ?_
  show own_Run p e below _ T101 (mkF m 156 #[.val (.ref a1), .val (.int p2), .val (.int p3), .val (.int p4), .val (.int 2047), .val (.int y5), s6] [(.int 4)])
  refine own_go (fun _ k => XS.istore X101.here hx rfl (hb hby d3_156) rfl (l' := #[.val (.ref a1), .val (.int p2), .val (.int p3), .val (.int p4), .val (.int 2047), .val (.int y5), .val (.int 4)]) ((XS.store1 (o := s6) rfl hs6 rfl).trans rfl) k) ?_
  refine own_go (fun _ k => XS.aloadN X101.here hx rfl (hb hby d3_158) rfl rfl k) ?_
  obtain ⟨T102, X102, e102, st102⟩ := getF X101 hx hZ hown (host := "") (Or.inl (W 12 rfl)) Via.refl e101 F_variables_a1 (g := (mkF m 159 #[.val (.ref a1), .val (.int p2), .val (.int p3), .val (.int p4), .val (.int 2047), .val (.int y5), .val (.int 4)] [(.ref a1)])) rfl rfl (hb hby d3_159)
  refine own_go st102 ?_
  refine own_go (fun _ k => XS.iload X102.here hx rfl (hb hby d3_162) rfl k) ?_
  refine own_go (fun _ k => XS.iloadN X102.here hx rfl (hb hby d3_164) rfl k) ?_
  obtain ⟨cl103, Ar103, q103, S103, N103, H103, G103⟩ := id V_b1
  have hin103 : ¬ ((4 : Int32) < 0 ∨ cl103.slots.size ≤ ((4 : Int32)).toNatClampNeg) := inb_of S103 ⟨by decide, by decide⟩
  obtain ⟨T104, h104, X104, e104, W104, st104⟩ := stI X102 hx hZ e102 Ar103 (j := (4 : Int32)) hin103 (g := (mkF m 165 #[.val (.ref a1), .val (.int p2), .val (.int p3), .val (.int p4), .val (.int 2047), .val (.int y5), .val (.int 4)] [(.int p2), (.int 4), (.ref b1)])) rfl rfl (hb hby d3_165)
  refine own_go st104 ?_
  have Z0_c105 := Nat.le_trans Z0 (Keep.of_wr W104).1
  have K0_c105 := K0.wr W104 (Or.inl (List.mem_of_getElem? (i := 1) rfl))
  have E_a1_c105 := E_a1.wr W104
  have F_variables_a1_c105 := F_variables_a1.other W104 (Or.inl ne_a1_b1)
  have F_lows_a1_c105 := F_lows_a1.other W104 (Or.inl ne_a1_b1)
  have F_highs_a1_c105 := F_highs_a1.other W104 (Or.inl ne_a1_b1)
  have F_slots_a1_c105 := F_slots_a1.other W104 (Or.inl ne_a1_b1)
  have F_size_a1_c105 := F_size_a1.other W104 (Or.inl ne_a1_b1)
  have V_b2_c105 := V_b2.other W104 (Ne.symm ne_b1_b2)
  have V_b3_c105 := V_b3.other W104 (Ne.symm ne_b1_b3)
  have X_Arh_b4_c105 := X_Arh_b4.other W104 (Ne.symm ne_b1_b4)
  have V_b1_c104 : Arv Z h104 b1 k1 .int (1024 : Int32) [(.int 2147483647), (.int 2147483647), (.int va2), (.int va3), (.int p2), (.int 0)] (.int 0) := Arv.set Ar103 q103 S103 N103 H103 G103 rfl W104 4 rfl (Nat.le_of_ble_eq_true rfl)
  have N104 := Fr.snoc X104 N0 g_b1
  refine own_go (fun _ k => XS.aloadN X104.here hx rfl (hb hby d3_166) rfl rfl k) ?_
  obtain ⟨T106, X106, e106, st106⟩ := getF X104 hx hZ hown (host := "") (Or.inl (W 14 rfl)) Via.refl e104 F_lows_a1_c105 (g := (mkF m 167 #[.val (.ref a1), .val (.int p2), .val (.int p3), .val (.int p4), .val (.int 2047), .val (.int y5), .val (.int 4)] [(.ref a1)])) rfl rfl (hb hby d3_167)
  refine own_go st106 ?_
  show own_Run p e below _ T106 (mkF m 170 #[.val (.ref a1), .val (.int p2), .val (.int p3), .val (.int p4), .val (.int 2047), .val (.int y5), .val (.int 4)] [(.ref b2)])
  refine own_go (fun _ k => XS.iload X106.here hx rfl (hb hby d3_170) rfl k) ?_
  refine own_go (fun _ k => XS.iloadN X106.here hx rfl (hb hby d3_172) rfl k) ?_
  obtain ⟨cl107, Ar107, q107, S107, N107, H107, G107⟩ := id V_b2_c105
  have hin107 : ¬ ((4 : Int32) < 0 ∨ cl107.slots.size ≤ ((4 : Int32)).toNatClampNeg) := inb_of S107 ⟨by decide, by decide⟩
  obtain ⟨T108, h108, X108, e108, W108, st108⟩ := stI X106 hx hZ e106 Ar107 (j := (4 : Int32)) hin107 (g := (mkF m 173 #[.val (.ref a1), .val (.int p2), .val (.int p3), .val (.int p4), .val (.int 2047), .val (.int y5), .val (.int 4)] [(.int p3), (.int 4), (.ref b2)])) rfl rfl (hb hby d3_173)
  refine own_go st108 ?_
  have Z0_c109 := Nat.le_trans Z0_c105 (Keep.of_wr W108).1
  have K0_c109 := K0_c105.wr W108 (Or.inl (List.mem_of_getElem? (i := 2) rfl))
  have E_a1_c109 := E_a1_c105.wr W108
  have F_variables_a1_c109 := F_variables_a1_c105.other W108 (Or.inl ne_a1_b2)
  have F_lows_a1_c109 := F_lows_a1_c105.other W108 (Or.inl ne_a1_b2)
  have F_highs_a1_c109 := F_highs_a1_c105.other W108 (Or.inl ne_a1_b2)
  have F_slots_a1_c109 := F_slots_a1_c105.other W108 (Or.inl ne_a1_b2)
  have F_size_a1_c109 := F_size_a1_c105.other W108 (Or.inl ne_a1_b2)
  have V_b3_c109 := V_b3_c105.other W108 (Ne.symm ne_b2_b3)
  have X_Arh_b4_c109 := X_Arh_b4_c105.other W108 (Ne.symm ne_b2_b4)
  have V_b1_c109 := V_b1_c104.other W108 ne_b1_b2
  have V_b2_c108 : Arv Z h108 b2 k2 .int (1024 : Int32) [(.int 0), (.int 0), (.int la2), (.int la3), (.int p3), (.int 0)] (.int 0) := Arv.set Ar107 q107 S107 N107 H107 G107 rfl W108 4 rfl (Nat.le_of_ble_eq_true rfl)
  have N108 := Fr.snoc X108 N104 g_b2
  refine own_go (fun _ k => XS.aloadN X108.here hx rfl (hb hby d3_174) rfl rfl k) ?_
  obtain ⟨T110, X110, e110, st110⟩ := getF X108 hx hZ hown (host := "") (Or.inl (W 16 rfl)) Via.refl e108 F_highs_a1_c109 (g := (mkF m 175 #[.val (.ref a1), .val (.int p2), .val (.int p3), .val (.int p4), .val (.int 2047), .val (.int y5), .val (.int 4)] [(.ref a1)])) rfl rfl (hb hby d3_175)
  refine own_go st110 ?_
  refine own_go (fun _ k => XS.iload X110.here hx rfl (hb hby d3_178) rfl k) ?_
  refine own_go (fun _ k => XS.iloadN X110.here hx rfl (hb hby d3_180) rfl k) ?_
  obtain ⟨cl111, Ar111, q111, S111, N111, H111, G111⟩ := id V_b3_c109
  have hin111 : ¬ ((4 : Int32) < 0 ∨ cl111.slots.size ≤ ((4 : Int32)).toNatClampNeg) := inb_of S111 ⟨by decide, by decide⟩
  obtain ⟨T112, h112, X112, e112, W112, st112⟩ := stI X110 hx hZ e110 Ar111 (j := (4 : Int32)) hin111 (g := (mkF m 181 #[.val (.ref a1), .val (.int p2), .val (.int p3), .val (.int p4), .val (.int 2047), .val (.int y5), .val (.int 4)] [(.int p4), (.int 4), (.ref b3)])) rfl rfl (hb hby d3_181)
  refine own_go st112 ?_
  show own_Run p e below _ T112 (mkF m 182 #[.val (.ref a1), .val (.int p2), .val (.int p3), .val (.int p4), .val (.int 2047), .val (.int y5), .val (.int 4)] [])
  have Z0_c113 := Nat.le_trans Z0_c109 (Keep.of_wr W112).1
  have K0_c113 := K0_c109.wr W112 (Or.inl (List.mem_of_getElem? (i := 3) rfl))
  have E_a1_c113 := E_a1_c109.wr W112
  have F_variables_a1_c113 := F_variables_a1_c109.other W112 (Or.inl ne_a1_b3)
  have F_lows_a1_c113 := F_lows_a1_c109.other W112 (Or.inl ne_a1_b3)
  have F_highs_a1_c113 := F_highs_a1_c109.other W112 (Or.inl ne_a1_b3)
  have F_slots_a1_c113 := F_slots_a1_c109.other W112 (Or.inl ne_a1_b3)
  have F_size_a1_c113 := F_size_a1_c109.other W112 (Or.inl ne_a1_b3)
  have X_Arh_b4_c113 := X_Arh_b4_c109.other W112 (Ne.symm ne_b3_b4)
  have V_b1_c113 := V_b1_c109.other W112 ne_b1_b3
  have V_b2_c113 := V_b2_c108.other W112 ne_b2_b3
  have V_b3_c112 : Arv Z h112 b3 k3 .int (1024 : Int32) [(.int 0), (.int 0), (.int ha2), (.int ha3), (.int p4), (.int 0)] (.int 0) := Arv.set Ar111 q111 S111 N111 H111 G111 rfl W112 4 rfl (Nat.le_of_ble_eq_true rfl)
  have N112 := Fr.snoc X112 N108 g_b3
  refine own_go (fun _ k => XS.aloadN X112.here hx rfl (hb hby d3_182) rfl rfl k) ?_
  refine own_go (fun _ k => XS.dup X112.here hx rfl (hb hby d3_183) rfl rfl k) ?_
  obtain ⟨T114, X114, e114, st114⟩ := getF X112 hx hZ hown (host := "") (Or.inl (W 18 rfl)) Via.refl e112 F_size_a1_c113 (g := (mkF m 184 #[.val (.ref a1), .val (.int p2), .val (.int p3), .val (.int p4), .val (.int 2047), .val (.int y5), .val (.int 4)] [(.ref a1), (.ref a1)])) rfl rfl (hb hby d3_184)
  refine own_go st114 ?_
  refine own_go (fun _ k => XS.iconst X114.here hx rfl (hb hby d3_187) k) ?_
  refine own_go (fun _ k => XS.iadd X114.here hx rfl (hb hby d3_188) rfl k) ?_
  show own_Run p e below _ T114 (mkF m 189 #[.val (.ref a1), .val (.int p2), .val (.int p3), .val (.int p4), .val (.int 2047), .val (.int y5), .val (.int 4)] [(.int ((4 : Int32) + (1 : Int32))), (.ref a1)])
  rw [show ((4 : Int32) + (1 : Int32)) = (5 : Int32) by decide]
  obtain ⟨T115, h115, X115, e115, W115, st115⟩ := putF X114 hx hZ hown (host := "") (Or.inl (W 18 rfl)) Via.refl e114 F_size_a1_c113 E_a1_c113 (Or.inl (W 19 rfl)) (W 3 rfl) (ty := .int) (by decide) rfl rfl (g := (mkF m 189 #[.val (.ref a1), .val (.int p2), .val (.int p3), .val (.int p4), .val (.int 2047), .val (.int y5), .val (.int 4)] [(.int 5), (.ref a1)])) rfl rfl (hb hby d3_189)
  refine own_go st115 ?_
  have Z0_c116 := Nat.le_trans Z0_c113 (Keep.of_wr W115).1
  have K0_c116 := K0_c113.wr W115 (Or.inl (List.mem_of_getElem? (i := 0) rfl))
  have E_a1_c116 := E_a1_c113.wr W115
  have F_variables_a1_c116 := F_variables_a1_c113.other W115 (Or.inr (slot_ne (Or.inl (W 13 rfl)) (Or.inl (W 19 rfl)) (by decide) (t := (.array .int)) (t' := .int) (by decide) (by decide)))
  have F_lows_a1_c116 := F_lows_a1_c113.other W115 (Or.inr (slot_ne (Or.inl (W 15 rfl)) (Or.inl (W 19 rfl)) (by decide) (t := (.array .int)) (t' := .int) (by decide) (by decide)))
  have F_highs_a1_c116 := F_highs_a1_c113.other W115 (Or.inr (slot_ne (Or.inl (W 17 rfl)) (Or.inl (W 19 rfl)) (by decide) (t := (.array .int)) (t' := .int) (by decide) (by decide)))
  have F_slots_a1_c116 := F_slots_a1_c113.other W115 (Or.inr (slot_ne (Or.inl (W 21 rfl)) (Or.inl (W 19 rfl)) (by decide) (t := (.array .int)) (t' := .int) (by decide) (by decide)))
  have X_Arh_b4_c116 := X_Arh_b4_c113.other W115 (Ne.symm ne_a1_b4)
  have V_b1_c116 := V_b1_c113.other W115 (Ne.symm ne_a1_b1)
  have V_b2_c116 := V_b2_c113.other W115 (Ne.symm ne_a1_b2)
  have V_b3_c116 := V_b3_c112.other W115 (Ne.symm ne_a1_b3)
  have F_size_a1_c115 : Fld Z h115 a1 own_K0 "size" "I" (.int 5) := F_size_a1_c113.same W115
  have N115 := Fr.snoc X115 N112 g_a1
  refine own_go (fun _ k => XS.aloadN X115.here hx rfl (hb hby d3_192) rfl rfl k) ?_
  obtain ⟨T117, X117, e117, st117⟩ := getF X115 hx hZ hown (host := "") (Or.inl (W 20 rfl)) Via.refl e115 F_slots_a1_c116 (g := (mkF m 193 #[.val (.ref a1), .val (.int p2), .val (.int p3), .val (.int p4), .val (.int 2047), .val (.int y5), .val (.int 4)] [(.ref a1)])) rfl rfl (hb hby d3_193)
  refine own_go st117 ?_
  refine own_go (fun _ k => XS.iload X117.here hx rfl (hb hby d3_196) rfl k) ?_
  refine own_go (fun _ k => XS.iload X117.here hx rfl (hb hby d3_198) rfl k) ?_
  refine own_go (fun _ k => XS.iconst X117.here hx rfl (hb hby d3_200) k) ?_
  refine own_go (fun _ k => XS.iadd X117.here hx rfl (hb hby d3_201) rfl k) ?_
  show own_Run p e below _ T117 (mkF m 202 #[.val (.ref a1), .val (.int p2), .val (.int p3), .val (.int p4), .val (.int 2047), .val (.int y5), .val (.int 4)] [(.int ((4 : Int32) + (1 : Int32))), (.int y5), (.ref b4)])
  rw [show ((4 : Int32) + (1 : Int32)) = (5 : Int32) by decide]
  obtain ⟨cl118, Ar118, q118, S118, N118, H118, G118⟩ := id X_Arh_b4_c116
  have hin118 : ¬ (y5 < 0 ∨ cl118.slots.size ≤ (y5).toNatClampNeg) := inb_of S118 (own_rgIn _ hrg)
  obtain ⟨T119, h119, X119, e119, W119, st119⟩ := stI X117 hx hZ e117 Ar118 (j := y5) hin118 (g := (mkF m 202 #[.val (.ref a1), .val (.int p2), .val (.int p3), .val (.int p4), .val (.int 2047), .val (.int y5), .val (.int 4)] [(.int 5), (.int y5), (.ref b4)])) rfl rfl (hb hby d3_202)
  refine own_go st119 ?_
  show own_Run p e below _ T119 (mkF m 203 #[.val (.ref a1), .val (.int p2), .val (.int p3), .val (.int p4), .val (.int 2047), .val (.int y5), .val (.int 4)] [])
  have Z0_c120 := Nat.le_trans Z0_c116 (Keep.of_wr W119).1
  have K0_c120 := K0_c116.wr W119 (Or.inl (List.mem_of_getElem? (i := 4) rfl))
  have E_a1_c120 := E_a1_c116.wr W119
  have F_variables_a1_c120 := F_variables_a1_c116.other W119 (Or.inl ne_a1_b4)
  have F_lows_a1_c120 := F_lows_a1_c116.other W119 (Or.inl ne_a1_b4)
  have F_highs_a1_c120 := F_highs_a1_c116.other W119 (Or.inl ne_a1_b4)
  have F_slots_a1_c120 := F_slots_a1_c116.other W119 (Or.inl ne_a1_b4)
  have V_b1_c120 := V_b1_c116.other W119 ne_b1_b4
  have V_b2_c120 := V_b2_c116.other W119 ne_b2_b4
  have V_b3_c120 := V_b3_c116.other W119 ne_b3_b4
  have F_size_a1_c120 := F_size_a1_c115.other W119 (Or.inl ne_a1_b4)
  have Xn119 : Arh Z h119 b4 k4 .int (2048 : Int32) [(y5, (.int 5)), (ia3, (.int 4)), (ia2, (.int 3))] [] (.int 0) := Arh.push Ar118 q118 S118 N118 H118 G118 rfl W119 hin118
  have N119 := Fr.snoc X119 N115 g_b4
  refine own_go (fun _ k => XS.iconst X119.here hx rfl (hb hby d3_203) k) ?_
  refine own_go (fun _ k => XS.aloadN X119.here hx rfl (hb hby d3_204) rfl rfl k) ?_
  obtain ⟨T121, X121, e121, st121⟩ := getF X119 hx hZ hown (host := "") (Or.inl (W 18 rfl)) Via.refl e119 F_size_a1_c120 (g := (mkF m 205 #[.val (.ref a1), .val (.int p2), .val (.int p3), .val (.int p4), .val (.int 2047), .val (.int y5), .val (.int 4)] [(.ref a1), (.int 2)])) rfl rfl (hb hby d3_205)
  refine own_go st121 ?_
  refine own_go (fun _ k => XS.imul X121.here hx rfl (hb hby d3_208) rfl k) ?_
  show own_Run p e below _ T121 (mkF m 209 #[.val (.ref a1), .val (.int p2), .val (.int p3), .val (.int p4), .val (.int 2047), .val (.int y5), .val (.int 4)] [(.int ((2 : Int32) * (5 : Int32)))])
  rw [show ((2 : Int32) * (5 : Int32)) = (10 : Int32) by decide]
  refine own_go (fun _ k => XS.aloadN X121.here hx rfl (hb hby d3_209) rfl rfl k) ?_
  obtain ⟨T122, X122, e122, st122⟩ := getF X121 hx hZ hown (host := "") (Or.inl (W 20 rfl)) Via.refl e121 F_slots_a1_c120 (g := (mkF m 210 #[.val (.ref a1), .val (.int p2), .val (.int p3), .val (.int p4), .val (.int 2047), .val (.int y5), .val (.int 4)] [(.ref a1), (.int 10)])) rfl rfl (hb hby d3_210)
  refine own_go st122 ?_
  obtain ⟨cl123, Ar123, q123, S123, N123, H123, G123⟩ := id Xn119
  refine own_go (X122.arraylength hx (by rw [e122]; exact Ar123.1) (State.isArrayOf_alike hZ.alike Ar123.2.1) (g := (mkF m 213 #[.val (.ref a1), .val (.int p2), .val (.int p3), .val (.int p4), .val (.int 2047), .val (.int y5), .val (.int 4)] [(.ref b4), (.int 10)])) rfl rfl (hb hby d3_213)) ?_
  rw [len_of S123 N123]
  refine own_go (fun _ k => XS.icmpYes X122.here hx rfl (pc0 := 214) (pc' := 221) rfl (hb hby d3_214) rfl (flt (by decide : ¬ ((2048 : Int32) < (10 : Int32)))).2.2.2 (by decide) (by decide) k) ?_
  refine own_go (fun _ k => XS.iload X122.here hx rfl (hb hby d3_221) rfl k) ?_
  refine own_done (Q := fun v h L => Q3c4 Z a1 p2 p3 p4 b1 b2 b3 b4 k1 k2 k3 k4 va2 va3 la2 la3 ha2 ha3 ia2 ia3 h0 n0 v h L) (v := (some (.int 4))) X122 (fun h => by rw [hret] at h; cases h) hlk (fun fs hr => own_retI X122 hx hret (hb hby d3_223) hr) ?_ (by decide) (by decide)
  show Q3c4 Z a1 p2 p3 p4 b1 b2 b3 b4 k1 k2 k3 k4 va2 va3 la2 la3 ha2 ha3 ia2 ia3 h0 n0 _ T122.heap _
  rw [e122]
  exact ⟨y5, rfl, N119, K0_c120, E_a1_c120, F_variables_a1_c120, F_lows_a1_c120, F_highs_a1_c120, F_slots_a1_c120, F_size_a1_c120, V_b1_c120, V_b2_c120, V_b3_c120, Xn119⟩
set_option maxRecDepth 65536 in
set_option maxHeartbeats 40000000 in
theorem nd4 {p : Program} {l : Launch} {e : Env} {s : State} {m : MethodId} {args : Array Value} {below : List Frame} {meth : Method} {c : Code} {Z : State} {a0 : Array Value} (a1 : Addr) (p2 : Int32) (p3 : Int32) (p4 : Int32) (b1 : Addr) (b2 : Addr) (b3 : Addr) (b4 : Addr) (k1 : ClassId) (k2 : ClassId) (k3 : ClassId) (k4 : ClassId) (va2 : Int32) (va3 : Int32) (la2 : Int32) (la3 : Int32) (ha2 : Int32) (ha3 : Int32) (ia2 : Int32) (ia3 : Int32) (h0 : Heap) (n0 : Nat) (hx : p.tables.exec = Jvm.exec) (hZ : Z.Warmed39 s.vm) (hw : ∀ d ∈ tables_1, d.before a0 Z = true) (hby : c.code = prog_20_method_2_code) (hml : c.maxLocals = 7) (hown : s.vm.findClass own_K0 = some m.cls) (hnm : meth.name = "node") (hret : meth.sig.returnType = some .int) (hlk : meth.locks = false) :
    ∀ (k : Nat) (y5 : Int32) (s6 : Slot) (T0 : State) (hh : Heap) (locs : List Loc), Stand p l e ({ frames := 1, cells := 0, slots := 0, locals := 15 } : Room) s m args below meth c T0 locs 0 0 → T0.heap = hh → Fr n0 locs → n0 ≤ hh.size → Keep h0 hh [a1, b1, b2, b3, b4] → Exa Z hh a1 own_K0 → Fld Z hh a1 own_K0 "variables" "[I" (.ref b1) → Fld Z hh a1 own_K0 "lows" "[I" (.ref b2) → Fld Z hh a1 own_K0 "highs" "[I" (.ref b3) → Fld Z hh a1 own_K0 "slots" "[I" (.ref b4) → Fld Z hh a1 own_K0 "size" "I" (.int 4) → Arv Z hh b1 k1 .int (1024 : Int32) [(.int 2147483647), (.int 2147483647), (.int va2), (.int va3), (.int 0), (.int 0)] (.int 0) → Arv Z hh b2 k2 .int (1024 : Int32) [(.int 0), (.int 0), (.int la2), (.int la3), (.int 0), (.int 0)] (.int 0) → Arv Z hh b3 k3 .int (1024 : Int32) [(.int 0), (.int 0), (.int ha2), (.int ha3), (.int 0), (.int 0)] (.int 0) → Arh Z hh b4 k4 .int (2048 : Int32) [(ia3, (.int 4)), (ia2, (.int 3))] [] (.int 0) → own_rg y5 → One s6 → own_free ia3 ia2 ia2 k y5 → ¬ (va2 = p2) → ¬ (va3 = p2) → n0 ≤ a1 → n0 ≤ b1 → n0 ≤ b2 → n0 ≤ b3 → n0 ≤ b4 → a1 ≠ b1 → a1 ≠ b2 → a1 ≠ b3 → a1 ≠ b4 → b1 ≠ b2 → b1 ≠ b3 → b1 ≠ b4 → b2 ≠ b3 → b2 ≠ b4 → b3 ≠ b4 → own_Run p e below (fun o U' => ∃ v L, o = .returned v ∧ Q3c4 Z a1 p2 p3 p4 b1 b2 b3 b4 k1 k2 k3 k4 va2 va3 la2 la3 ha2 ha3 ia2 ia3 h0 n0 v U'.heap L ∧ FrameEnd s o U' L ({ frames := 1, cells := 0, slots := 0, locals := 15 } : Room).cells ({ frames := 1, cells := 0, slots := 0, locals := 15 } : Room).slots) T0 (mkF m 20 #[.val (.ref a1), .val (.int p2), .val (.int p3), .val (.int p4), .val (.int 2047), .val (.int y5), s6] []) := by
  intro k
  induction k with
  | zero =>
    intro y5 s6 T0 hh locs X0 e0 N0 Z0 K0 E_a1 F_variables_a1 F_lows_a1 F_highs_a1 F_slots_a1 F_size_a1 V_b1 V_b2 V_b3 X_Arh_b4 hrg hs6 hfr hv2 hv3 g_a1 g_b1 g_b2 g_b3 g_b4 ne_a1_b1 ne_a1_b2 ne_a1_b3 ne_a1_b4 ne_b1_b2 ne_b1_b3 ne_b1_b4 ne_b2_b3 ne_b2_b4 ne_b3_b4
    have W := fun (k : Nat) {d : Jvm.Cond} (h : tables_1[k]? = some d) => hw d (List.mem_of_getElem? h)
    show own_Run p e below _ T0 (mkF m 20 #[.val (.ref a1), .val (.int p2), .val (.int p3), .val (.int p4), .val (.int 2047), .val (.int y5), s6] [])
    refine own_go (fun _ k => XS.aloadN X0.here hx rfl (hb hby d3_20) rfl rfl k) ?_
    obtain ⟨T124, X124, e124, st124⟩ := getF X0 hx hZ hown (host := "") (Or.inl (W 20 rfl)) Via.refl e0 F_slots_a1 (g := (mkF m 21 #[.val (.ref a1), .val (.int p2), .val (.int p3), .val (.int p4), .val (.int 2047), .val (.int y5), s6] [(.ref a1)])) rfl rfl (hb hby d3_21)
    refine own_go st124 ?_
    refine own_go (fun _ k => XS.iload X124.here hx rfl (hb hby d3_24) rfl k) ?_
    obtain ⟨cl125, Ar125, q125, S125, N125, H125, G125⟩ := id X_Arh_b4
    have hin125 : ¬ (y5 < 0 ∨ cl125.slots.size ≤ (y5).toNatClampNeg) := inb_of S125 (own_rgIn _ hrg)
    refine own_go (X124.iaload hx (j := y5) (v := (.int 0)) (by rw [e124]; exact Ar125.1) (State.isArrayOf_alike hZ.alike Ar125.2.1) Ar125.2.2 hin125 (atH H125 hin125 (getH_miss (own_rgIn _ hrg).1 hfr.1 (getH_miss (own_rgIn _ hrg).1 hfr.2.1 (rfl)))) (g := (mkF m 26 #[.val (.ref a1), .val (.int p2), .val (.int p3), .val (.int p4), .val (.int 2047), .val (.int y5), s6] [(.int y5), (.ref b4)])) rfl rfl (hb hby d3_26)) ?_
    refine own_go (fun _ k => XS.ifYes X124.here hx rfl (pc0 := 27) (pc' := 89) rfl (hb hby d3_27) rfl ((if0 _ _).trans (teq (by decide : (0 : Int32) = (0 : Int32))).1) (by decide) (by decide) k) ?_
    exact ndx4 a1 p2 p3 p4 b1 b2 b3 b4 k1 k2 k3 k4 va2 va3 la2 la3 ha2 ha3 ia2 ia3 h0 n0 hx hZ hw hby hml hown hnm hret hlk y5 (s6) T124 hh _ X124 e124 N0 Z0 K0 E_a1 F_variables_a1 F_lows_a1 F_highs_a1 F_slots_a1 F_size_a1 V_b1 V_b2 V_b3 X_Arh_b4 (hrg) (hs6) g_a1 g_b1 g_b2 g_b3 g_b4 ne_a1_b1 ne_a1_b2 ne_a1_b3 ne_a1_b4 ne_b1_b2 ne_b1_b3 ne_b1_b4 ne_b2_b3 ne_b2_b4 ne_b3_b4 
  | succ k ih =>
    intro y5 s6 T0 hh locs X0 e0 N0 Z0 K0 E_a1 F_variables_a1 F_lows_a1 F_highs_a1 F_slots_a1 F_size_a1 V_b1 V_b2 V_b3 X_Arh_b4 hrg hs6 hfr hv2 hv3 g_a1 g_b1 g_b2 g_b3 g_b4 ne_a1_b1 ne_a1_b2 ne_a1_b3 ne_a1_b4 ne_b1_b2 ne_b1_b3 ne_b1_b4 ne_b2_b3 ne_b2_b4 ne_b3_b4
    have W := fun (k : Nat) {d : Jvm.Cond} (h : tables_1[k]? = some d) => hw d (List.mem_of_getElem? h)
    show own_Run p e below _ T0 (mkF m 20 #[.val (.ref a1), .val (.int p2), .val (.int p3), .val (.int p4), .val (.int 2047), .val (.int y5), s6] [])
    by_cases hk : y5 ≠ ia3 ∧ y5 ≠ ia2 ∧ y5 ≠ ia2
    · refine own_go (fun _ k => XS.aloadN X0.here hx rfl (hb hby d3_20) rfl rfl k) ?_
      obtain ⟨T126, X126, e126, st126⟩ := getF X0 hx hZ hown (host := "") (Or.inl (W 20 rfl)) Via.refl e0 F_slots_a1 (g := (mkF m 21 #[.val (.ref a1), .val (.int p2), .val (.int p3), .val (.int p4), .val (.int 2047), .val (.int y5), s6] [(.ref a1)])) rfl rfl (hb hby d3_21)
      refine own_go st126 ?_
      refine own_go (fun _ k => XS.iload X126.here hx rfl (hb hby d3_24) rfl k) ?_
      obtain ⟨cl127, Ar127, q127, S127, N127, H127, G127⟩ := id X_Arh_b4
      have hin127 : ¬ (y5 < 0 ∨ cl127.slots.size ≤ (y5).toNatClampNeg) := inb_of S127 (own_rgIn _ hrg)
      refine own_go (X126.iaload hx (j := y5) (v := (.int 0)) (by rw [e126]; exact Ar127.1) (State.isArrayOf_alike hZ.alike Ar127.2.1) Ar127.2.2 hin127 (atH H127 hin127 (getH_miss (own_rgIn _ hrg).1 hk.1 (getH_miss (own_rgIn _ hrg).1 hk.2.1 (rfl)))) (g := (mkF m 26 #[.val (.ref a1), .val (.int p2), .val (.int p3), .val (.int p4), .val (.int 2047), .val (.int y5), s6] [(.int y5), (.ref b4)])) rfl rfl (hb hby d3_26)) ?_
      refine own_go (fun _ k => XS.ifYes X126.here hx rfl (pc0 := 27) (pc' := 89) rfl (hb hby d3_27) rfl ((if0 _ _).trans (teq (by decide : (0 : Int32) = (0 : Int32))).1) (by decide) (by decide) k) ?_
      exact ndx4 a1 p2 p3 p4 b1 b2 b3 b4 k1 k2 k3 k4 va2 va3 la2 la3 ha2 ha3 ia2 ia3 h0 n0 hx hZ hw hby hml hown hnm hret hlk y5 (s6) T126 hh _ X126 e126 N0 Z0 K0 E_a1 F_variables_a1 F_lows_a1 F_highs_a1 F_slots_a1 F_size_a1 V_b1 V_b2 V_b3 X_Arh_b4 (hrg) (hs6) g_a1 g_b1 g_b2 g_b3 g_b4 ne_a1_b1 ne_a1_b2 ne_a1_b3 ne_a1_b4 ne_b1_b2 ne_b1_b3 ne_b1_b4 ne_b2_b3 ne_b2_b4 ne_b3_b4 
    · have hfr2 := hfr.resolve_left hk
      by_cases hm0 : y5 = ia3
      · refine own_go (fun _ k => XS.aloadN X0.here hx rfl (hb hby d3_20) rfl rfl k) ?_
        obtain ⟨T128, X128, e128, st128⟩ := getF X0 hx hZ hown (host := "") (Or.inl (W 20 rfl)) Via.refl e0 F_slots_a1 (g := (mkF m 21 #[.val (.ref a1), .val (.int p2), .val (.int p3), .val (.int p4), .val (.int 2047), .val (.int y5), s6] [(.ref a1)])) rfl rfl (hb hby d3_21)
        refine own_go st128 ?_
        refine own_go (fun _ k => XS.iload X128.here hx rfl (hb hby d3_24) rfl k) ?_
        obtain ⟨cl129, Ar129, q129, S129, N129, H129, G129⟩ := id X_Arh_b4
        have hin129 : ¬ (y5 < 0 ∨ cl129.slots.size ≤ (y5).toNatClampNeg) := inb_of S129 (own_rgIn _ hrg)
        refine own_go (X128.iaload hx (j := y5) (v := (.int 4)) (by rw [e128]; exact Ar129.1) (State.isArrayOf_alike hZ.alike Ar129.2.1) Ar129.2.2 hin129 (atH H129 hin129 (getH_hit (own_rgIn _ hrg).1 hm0)) (g := (mkF m 26 #[.val (.ref a1), .val (.int p2), .val (.int p3), .val (.int p4), .val (.int 2047), .val (.int y5), s6] [(.int y5), (.ref b4)])) rfl rfl (hb hby d3_26)) ?_
        refine own_go (fun _ k => XS.ifNo X128.here hx rfl (hb hby d3_27) rfl ((if0 _ _).trans (feq (by decide : ¬ ((4 : Int32) = (0 : Int32)))).1) k) ?_
        refine own_go (fun _ k => XS.aloadN X128.here hx rfl (hb hby d3_30) rfl rfl k) ?_
        obtain ⟨T130, X130, e130, st130⟩ := getF X128 hx hZ hown (host := "") (Or.inl (W 20 rfl)) Via.refl e128 F_slots_a1 (g := (mkF m 31 #[.val (.ref a1), .val (.int p2), .val (.int p3), .val (.int p4), .val (.int 2047), .val (.int y5), s6] [(.ref a1)])) rfl rfl (hb hby d3_31)
        refine own_go st130 ?_
        refine own_go (fun _ k => XS.iload X130.here hx rfl (hb hby d3_34) rfl k) ?_
        show own_Run p e below _ T130 (mkF m 36 #[.val (.ref a1), .val (.int p2), .val (.int p3), .val (.int p4), .val (.int 2047), .val (.int y5), s6] [(.int y5), (.ref b4)])
        obtain ⟨cl131, Ar131, q131, S131, N131, H131, G131⟩ := id X_Arh_b4
        have hin131 : ¬ (y5 < 0 ∨ cl131.slots.size ≤ (y5).toNatClampNeg) := inb_of S131 (own_rgIn _ hrg)
        refine own_go (X130.iaload hx (j := y5) (v := (.int 4)) (by rw [e130]; exact Ar131.1) (State.isArrayOf_alike hZ.alike Ar131.2.1) Ar131.2.2 hin131 (atH H131 hin131 (getH_hit (own_rgIn _ hrg).1 hm0)) (g := (mkF m 36 #[.val (.ref a1), .val (.int p2), .val (.int p3), .val (.int p4), .val (.int 2047), .val (.int y5), s6] [(.int y5), (.ref b4)])) rfl rfl (hb hby d3_36)) ?_
        refine own_go (fun _ k => XS.iconst X130.here hx rfl (hb hby d3_37) k) ?_
        refine own_go (fun _ k => XS.isub X130.here hx rfl (hb hby d3_38) rfl k) ?_
        show own_Run p e below _ T130 (mkF m 39 #[.val (.ref a1), .val (.int p2), .val (.int p3), .val (.int p4), .val (.int 2047), .val (.int y5), s6] [(.int ((4 : Int32) - (1 : Int32)))])
        rw [show ((4 : Int32) - (1 : Int32)) = (3 : Int32) by decide]
        refine own_go (fun _ k => XS.istore X130.here hx rfl (hb hby d3_39) rfl (l' := #[.val (.ref a1), .val (.int p2), .val (.int p3), .val (.int p4), .val (.int 2047), .val (.int y5), .val (.int 3)]) ((XS.store1 (o := s6) rfl hs6 rfl).trans rfl) k) ?_
        refine own_go (fun _ k => XS.aloadN X130.here hx rfl (hb hby d3_41) rfl rfl k) ?_
        obtain ⟨T132, X132, e132, st132⟩ := getF X130 hx hZ hown (host := "") (Or.inl (W 12 rfl)) Via.refl e130 F_variables_a1 (g := (mkF m 42 #[.val (.ref a1), .val (.int p2), .val (.int p3), .val (.int p4), .val (.int 2047), .val (.int y5), .val (.int 3)] [(.ref a1)])) rfl rfl (hb hby d3_42)
        refine own_go st132 ?_
        refine own_go (fun _ k => XS.iload X132.here hx rfl (hb hby d3_45) rfl k) ?_
        obtain ⟨cl133, Ar133, q133, S133, N133, H133, G133⟩ := id V_b1
        have hin133 : ¬ ((3 : Int32) < 0 ∨ cl133.slots.size ≤ ((3 : Int32)).toNatClampNeg) := inb_of S133 ⟨by decide, by decide⟩
        refine own_go (X132.iaload hx (j := (3 : Int32)) (v := (.int va3)) (by rw [e132]; exact Ar133.1) (State.isArrayOf_alike hZ.alike Ar133.2.1) Ar133.2.2 hin133 (H133.at hin133 rfl) (g := (mkF m 47 #[.val (.ref a1), .val (.int p2), .val (.int p3), .val (.int p4), .val (.int 2047), .val (.int y5), .val (.int 3)] [(.int 3), (.ref b1)])) rfl rfl (hb hby d3_47)) ?_
        refine own_go (fun _ k => XS.iloadN X132.here hx rfl (hb hby d3_48) rfl k) ?_
        refine own_go (fun _ k => XS.icmpYes X132.here hx rfl (pc0 := 49) (pc' := 77) rfl (hb hby d3_49) rfl (feq hv3).2 (by decide) (by decide) k) ?_
        refine own_go (fun _ k => XS.iload X132.here hx rfl (hb hby d3_77) rfl k) ?_
        show own_Run p e below _ T132 (mkF m 79 #[.val (.ref a1), .val (.int p2), .val (.int p3), .val (.int p4), .val (.int 2047), .val (.int y5), .val (.int 3)] [(.int y5)])
        refine own_go (fun _ k => XS.iconst X132.here hx rfl (hb hby d3_79) k) ?_
        refine own_go (fun _ k => XS.iadd X132.here hx rfl (hb hby d3_80) rfl k) ?_
        refine own_go (fun _ k => XS.iload X132.here hx rfl (hb hby d3_81) rfl k) ?_
        refine own_go (fun _ k => XS.iand X132.here hx rfl (hb hby d3_83) rfl k) ?_
        refine own_go (fun _ k => XS.istore X132.here hx rfl (hb hby d3_84) rfl (l' := #[.val (.ref a1), .val (.int p2), .val (.int p3), .val (.int p4), .val (.int 2047), .val (.int ((y5 + (1 : Int32)) &&& (2047 : Int32))), .val (.int 3)]) rfl k) ?_
        refine own_go (fun _ k => XS.goto X132.here hx rfl (pc0 := 86) (pc' := 20) rfl (hb hby d3_86) (by decide) (by decide) k) ?_
        exact ih ((y5 + (1 : Int32)) &&& (2047 : Int32)) (.val (.int 3)) T132 hh _ X132 e132 N0 Z0 K0 E_a1 F_variables_a1 F_lows_a1 F_highs_a1 F_slots_a1 F_size_a1 V_b1 V_b2 V_b3 X_Arh_b4 (own_nxR y5 hrg) (One.val rfl) (hfr2) (hv2) (hv3) g_a1 g_b1 g_b2 g_b3 g_b4 ne_a1_b1 ne_a1_b2 ne_a1_b3 ne_a1_b4 ne_b1_b2 ne_b1_b3 ne_b1_b4 ne_b2_b3 ne_b2_b4 ne_b3_b4 
      · by_cases hm1 : y5 = ia2
        · refine own_go (fun _ k => XS.aloadN X0.here hx rfl (hb hby d3_20) rfl rfl k) ?_
          obtain ⟨T134, X134, e134, st134⟩ := getF X0 hx hZ hown (host := "") (Or.inl (W 20 rfl)) Via.refl e0 F_slots_a1 (g := (mkF m 21 #[.val (.ref a1), .val (.int p2), .val (.int p3), .val (.int p4), .val (.int 2047), .val (.int y5), s6] [(.ref a1)])) rfl rfl (hb hby d3_21)
          refine own_go st134 ?_
          refine own_go (fun _ k => XS.iload X134.here hx rfl (hb hby d3_24) rfl k) ?_
          obtain ⟨cl135, Ar135, q135, S135, N135, H135, G135⟩ := id X_Arh_b4
          have hin135 : ¬ (y5 < 0 ∨ cl135.slots.size ≤ (y5).toNatClampNeg) := inb_of S135 (own_rgIn _ hrg)
          refine own_go (X134.iaload hx (j := y5) (v := (.int 3)) (by rw [e134]; exact Ar135.1) (State.isArrayOf_alike hZ.alike Ar135.2.1) Ar135.2.2 hin135 (atH H135 hin135 (getH_miss (own_rgIn _ hrg).1 hm0 (getH_hit (own_rgIn _ hrg).1 hm1))) (g := (mkF m 26 #[.val (.ref a1), .val (.int p2), .val (.int p3), .val (.int p4), .val (.int 2047), .val (.int y5), s6] [(.int y5), (.ref b4)])) rfl rfl (hb hby d3_26)) ?_
          refine own_go (fun _ k => XS.ifNo X134.here hx rfl (hb hby d3_27) rfl ((if0 _ _).trans (feq (by decide : ¬ ((3 : Int32) = (0 : Int32)))).1) k) ?_
          refine own_go (fun _ k => XS.aloadN X134.here hx rfl (hb hby d3_30) rfl rfl k) ?_
          obtain ⟨T136, X136, e136, st136⟩ := getF X134 hx hZ hown (host := "") (Or.inl (W 20 rfl)) Via.refl e134 F_slots_a1 (g := (mkF m 31 #[.val (.ref a1), .val (.int p2), .val (.int p3), .val (.int p4), .val (.int 2047), .val (.int y5), s6] [(.ref a1)])) rfl rfl (hb hby d3_31)
          refine own_go st136 ?_
          refine own_go (fun _ k => XS.iload X136.here hx rfl (hb hby d3_34) rfl k) ?_
          show own_Run p e below _ T136 (mkF m 36 #[.val (.ref a1), .val (.int p2), .val (.int p3), .val (.int p4), .val (.int 2047), .val (.int y5), s6] [(.int y5), (.ref b4)])
          obtain ⟨cl137, Ar137, q137, S137, N137, H137, G137⟩ := id X_Arh_b4
          have hin137 : ¬ (y5 < 0 ∨ cl137.slots.size ≤ (y5).toNatClampNeg) := inb_of S137 (own_rgIn _ hrg)
          refine own_go (X136.iaload hx (j := y5) (v := (.int 3)) (by rw [e136]; exact Ar137.1) (State.isArrayOf_alike hZ.alike Ar137.2.1) Ar137.2.2 hin137 (atH H137 hin137 (getH_miss (own_rgIn _ hrg).1 hm0 (getH_hit (own_rgIn _ hrg).1 hm1))) (g := (mkF m 36 #[.val (.ref a1), .val (.int p2), .val (.int p3), .val (.int p4), .val (.int 2047), .val (.int y5), s6] [(.int y5), (.ref b4)])) rfl rfl (hb hby d3_36)) ?_
          refine own_go (fun _ k => XS.iconst X136.here hx rfl (hb hby d3_37) k) ?_
          refine own_go (fun _ k => XS.isub X136.here hx rfl (hb hby d3_38) rfl k) ?_
          show own_Run p e below _ T136 (mkF m 39 #[.val (.ref a1), .val (.int p2), .val (.int p3), .val (.int p4), .val (.int 2047), .val (.int y5), s6] [(.int ((3 : Int32) - (1 : Int32)))])
          rw [show ((3 : Int32) - (1 : Int32)) = (2 : Int32) by decide]
          refine own_go (fun _ k => XS.istore X136.here hx rfl (hb hby d3_39) rfl (l' := #[.val (.ref a1), .val (.int p2), .val (.int p3), .val (.int p4), .val (.int 2047), .val (.int y5), .val (.int 2)]) ((XS.store1 (o := s6) rfl hs6 rfl).trans rfl) k) ?_
          refine own_go (fun _ k => XS.aloadN X136.here hx rfl (hb hby d3_41) rfl rfl k) ?_
          obtain ⟨T138, X138, e138, st138⟩ := getF X136 hx hZ hown (host := "") (Or.inl (W 12 rfl)) Via.refl e136 F_variables_a1 (g := (mkF m 42 #[.val (.ref a1), .val (.int p2), .val (.int p3), .val (.int p4), .val (.int 2047), .val (.int y5), .val (.int 2)] [(.ref a1)])) rfl rfl (hb hby d3_42)
          refine own_go st138 ?_
          refine own_go (fun _ k => XS.iload X138.here hx rfl (hb hby d3_45) rfl k) ?_
          obtain ⟨cl139, Ar139, q139, S139, N139, H139, G139⟩ := id V_b1
          have hin139 : ¬ ((2 : Int32) < 0 ∨ cl139.slots.size ≤ ((2 : Int32)).toNatClampNeg) := inb_of S139 ⟨by decide, by decide⟩
          refine own_go (X138.iaload hx (j := (2 : Int32)) (v := (.int va2)) (by rw [e138]; exact Ar139.1) (State.isArrayOf_alike hZ.alike Ar139.2.1) Ar139.2.2 hin139 (H139.at hin139 rfl) (g := (mkF m 47 #[.val (.ref a1), .val (.int p2), .val (.int p3), .val (.int p4), .val (.int 2047), .val (.int y5), .val (.int 2)] [(.int 2), (.ref b1)])) rfl rfl (hb hby d3_47)) ?_
          refine own_go (fun _ k => XS.iloadN X138.here hx rfl (hb hby d3_48) rfl k) ?_
          refine own_go (fun _ k => XS.icmpYes X138.here hx rfl (pc0 := 49) (pc' := 77) rfl (hb hby d3_49) rfl (feq hv2).2 (by decide) (by decide) k) ?_
          refine own_go (fun _ k => XS.iload X138.here hx rfl (hb hby d3_77) rfl k) ?_
          show own_Run p e below _ T138 (mkF m 79 #[.val (.ref a1), .val (.int p2), .val (.int p3), .val (.int p4), .val (.int 2047), .val (.int y5), .val (.int 2)] [(.int y5)])
          refine own_go (fun _ k => XS.iconst X138.here hx rfl (hb hby d3_79) k) ?_
          refine own_go (fun _ k => XS.iadd X138.here hx rfl (hb hby d3_80) rfl k) ?_
          refine own_go (fun _ k => XS.iload X138.here hx rfl (hb hby d3_81) rfl k) ?_
          refine own_go (fun _ k => XS.iand X138.here hx rfl (hb hby d3_83) rfl k) ?_
          refine own_go (fun _ k => XS.istore X138.here hx rfl (hb hby d3_84) rfl (l' := #[.val (.ref a1), .val (.int p2), .val (.int p3), .val (.int p4), .val (.int 2047), .val (.int ((y5 + (1 : Int32)) &&& (2047 : Int32))), .val (.int 2)]) rfl k) ?_
          refine own_go (fun _ k => XS.goto X138.here hx rfl (pc0 := 86) (pc' := 20) rfl (hb hby d3_86) (by decide) (by decide) k) ?_
          exact ih ((y5 + (1 : Int32)) &&& (2047 : Int32)) (.val (.int 2)) T138 hh _ X138 e138 N0 Z0 K0 E_a1 F_variables_a1 F_lows_a1 F_highs_a1 F_slots_a1 F_size_a1 V_b1 V_b2 V_b3 X_Arh_b4 (own_nxR y5 hrg) (One.val rfl) (hfr2) (hv2) (hv3) g_a1 g_b1 g_b2 g_b3 g_b4 ne_a1_b1 ne_a1_b2 ne_a1_b3 ne_a1_b4 ne_b1_b2 ne_b1_b3 ne_b1_b4 ne_b2_b3 ne_b2_b4 ne_b3_b4 
        · exact absurd ⟨hm0, hm1, hm1⟩ hk
set_option maxRecDepth 65536 in
set_option maxHeartbeats 40000000 in
theorem rm3c4 (l : Launch) (Z : State) (a0 : Array Value) (hw : ∀ d ∈ tables_1, d.before a0 Z = true) (ws : List Jvm.Cond) (a1 : Addr) (p2 : Int32) (p3 : Int32) (p4 : Int32) (b1 : Addr) (b2 : Addr) (b3 : Addr) (b4 : Addr) (k1 : ClassId) (k2 : ClassId) (k3 : ClassId) (k4 : ClassId) (va2 : Int32) (va3 : Int32) (la2 : Int32) (la3 : Int32) (ha2 : Int32) (ha3 : Int32) (ia2 : Int32) (ia3 : Int32) (h0 : Heap) (n0 : Nat) (Z0 : n0 ≤ h0.size) (E_a1 : Exa Z h0 a1 own_K0) (F_variables_a1 : Fld Z h0 a1 own_K0 "variables" "[I" (.ref b1)) (F_lows_a1 : Fld Z h0 a1 own_K0 "lows" "[I" (.ref b2)) (F_highs_a1 : Fld Z h0 a1 own_K0 "highs" "[I" (.ref b3)) (F_slots_a1 : Fld Z h0 a1 own_K0 "slots" "[I" (.ref b4)) (F_size_a1 : Fld Z h0 a1 own_K0 "size" "I" (.int 4)) (V_b1 : Arv Z h0 b1 k1 .int (1024 : Int32) [(.int 2147483647), (.int 2147483647), (.int va2), (.int va3), (.int 0), (.int 0)] (.int 0)) (V_b2 : Arv Z h0 b2 k2 .int (1024 : Int32) [(.int 0), (.int 0), (.int la2), (.int la3), (.int 0), (.int 0)] (.int 0)) (V_b3 : Arv Z h0 b3 k3 .int (1024 : Int32) [(.int 0), (.int 0), (.int ha2), (.int ha3), (.int 0), (.int 0)] (.int 0)) (X_Arh_b4 : Arh Z h0 b4 k4 .int (2048 : Int32) [(ia3, (.int 4)), (ia2, (.int 3))] [] (.int 0)) (g_a1 : n0 ≤ a1) (g_b1 : n0 ≤ b1) (g_b2 : n0 ≤ b2) (g_b3 : n0 ≤ b3) (g_b4 : n0 ≤ b4) (ne_a1_b1 : a1 ≠ b1) (ne_a1_b2 : a1 ≠ b2) (ne_a1_b3 : a1 ≠ b3) (ne_a1_b4 : a1 ≠ b4) (ne_b1_b2 : b1 ≠ b2) (ne_b1_b3 : b1 ≠ b3) (ne_b1_b4 : b1 ≠ b4) (ne_b2_b3 : b2 ≠ b3) (ne_b2_b4 : b2 ≠ b4) (ne_b3_b4 : b3 ≠ b4) (hv2 : ¬ (va2 = p2)) (hv3 : ¬ (va3 = p2)) :
    MetFree l (⟨own_K0, "node", "(III)I"⟩ : MethodName) (head1 (Jvm.Cond.code (⟨own_K0, "node", "(III)I"⟩ : MethodName) prog_20_method_2_code 7 (some .int) :: ws) ({ frames := 1, cells := 0, slots := 0, locals := 15 } : Room)) (fun a U => a = #[(.ref a1), (.int p2), (.int p3), (.int p4)] ∧ Z.Warmed39 U.vm ∧ U.heap = h0) (fun _ _ _ _ _ => True) (fun _ U o U' => ∃ v L, o = .returned v ∧ Q3c4 Z a1 p2 p3 p4 b1 b2 b3 b4 k1 k2 k3 k4 va2 va3 la2 la3 ha2 ha3 ia2 ia3 h0 n0 v U'.heap L ∧ FrameEnd U o U' L ({ frames := 1, cells := 0, slots := 0, locals := 15 } : Room).cells ({ frames := 1, cells := 0, slots := 0, locals := 15 } : Room).slots) := by
  refine MetFree.of_bodySF (plainFor_of_name pn_3) hisR ?_
  intro p e s m args below meth c s₁ Bd hml0 hP hK
  obtain ⟨rfl, hZ, hh⟩ := hP
  have hx := Bd.exec
  have hby := Bd.bytes
  have hml : c.maxLocals = 7 := hml0
  have hown : s.vm.findClass own_K0 = some m.cls := findClass_of_methodNamed Bd.named
  have hnm := (name_of_methodNamed Bd.named Bd.method).1
  have hret := Bd.returns
  have hlk : meth.locks = false := BodyLoose.notSynchronized Bd
  have X0 : Stand p l e ({ frames := 1, cells := 0, slots := 0, locals := 15 } : Room) s m #[(.ref a1), (.int p2), (.int p3), (.int p4)] below meth c s₁ [] 0 0 := Stand.of_body Bd
  have e0 : s₁.heap = h0 := by rw [← hh, Bd.state]; rfl
  have N0 := Fr.nil n0
  have W := fun (k : Nat) {d : Jvm.Cond} (h : tables_1[k]? = some d) => hw d (List.mem_of_getElem? h)
  have K0 : Keep h0 h0 [a1, b1, b2, b3, b4] := Keep.refl _ _
  refine own_start (ef_3 m a1 p2 p3 p4) ?_
  show own_Run p e below _ s₁ (mkF m 0 #[.val (.ref a1), .val (.int p2), .val (.int p3), .val (.int p4), .unset, .unset, .unset] [])
  refine own_go (fun _ k => XS.aloadN X0.here hx rfl (hb hby d3_0) rfl rfl k) ?_
  obtain ⟨T140, X140, e140, st140⟩ := getF X0 hx hZ hown (host := "") (Or.inl (W 20 rfl)) Via.refl e0 F_slots_a1 (g := (mkF m 1 #[.val (.ref a1), .val (.int p2), .val (.int p3), .val (.int p4), .unset, .unset, .unset] [(.ref a1)])) rfl rfl (hb hby d3_1)
  refine own_go st140 ?_
  obtain ⟨cl141, Ar141, q141, S141, N141, H141, G141⟩ := id X_Arh_b4
  refine own_go (X140.arraylength hx (by rw [e140]; exact Ar141.1) (State.isArrayOf_alike hZ.alike Ar141.2.1) (g := (mkF m 4 #[.val (.ref a1), .val (.int p2), .val (.int p3), .val (.int p4), .unset, .unset, .unset] [(.ref b4)])) rfl rfl (hb hby d3_4)) ?_
  rw [len_of S141 N141]
  refine own_go (fun _ k => XS.iconst X140.here hx rfl (hb hby d3_5) k) ?_
  refine own_go (fun _ k => XS.isub X140.here hx rfl (hb hby d3_6) rfl k) ?_
  show own_Run p e below _ T140 (mkF m 7 #[.val (.ref a1), .val (.int p2), .val (.int p3), .val (.int p4), .unset, .unset, .unset] [(.int ((2048 : Int32) - (1 : Int32)))])
  rw [show ((2048 : Int32) - (1 : Int32)) = (2047 : Int32) by decide]
  refine own_go (fun _ k => XS.istore X140.here hx rfl (hb hby d3_7) rfl (l' := #[.val (.ref a1), .val (.int p2), .val (.int p3), .val (.int p4), .val (.int 2047), .unset, .unset]) rfl k) ?_
  refine own_go (fun _ k => XS.iloadN X140.here hx rfl (hb hby d3_9) rfl k) ?_
  refine own_go (fun _ k => XS.iloadN X140.here hx rfl (hb hby d3_10) rfl k) ?_
  refine own_go (fun _ k => XS.iloadN X140.here hx rfl (hb hby d3_11) rfl k) ?_
  obtain ⟨_, _, ⟨T142, L142, k142, n142⟩, -, X142, ⟨Lc142, hQ142, l142, y142, z142⟩, st142⟩ := Jvm.LawKit.callS X140 hx (y := (⟨own_K0, "hash", "(III)I"⟩ : MethodName)) hown (mvT hZ (W 28 rfl)) (mvT hZ (W 29 rfl)) (mvT hZ (W 4 rfl)) (mvT hZ (W 30 rfl)) (by decide) (backOf (W := 0) (rm4 l Z a0 hw [] p2 p3 p4 h0 n0 Z0 ) hZ (W 30 rfl) (W 4 rfl) (by decide) (by decide)) (g := (mkF m 12 #[.val (.ref a1), .val (.int p2), .val (.int p3), .val (.int p4), .val (.int 2047), .unset, .unset] [(.int p4), (.int p3), (.int p2)])) rfl (by rw [hml]; rfl) (argsL := [(.int p2), (.int p3), (.int p4)]) (rest := []) (lenOf pd_1 rfl) rfl (by show 2 * 0 + _ ≤ _; exact Nat.le_of_eq rfl) (hb hby d3_12) (fun _ _ => ⟨rfl, e140, (by decide : 0 + 0 ≤ _), (by decide : 0 + 0 ≤ _)⟩)
  dsimp only [Pt.U, Pt.locs, Pt.cells, Pt.slots] at X142 l142 y142 z142 st142 hQ142
  subst l142 y142 z142
  obtain ⟨rfl, N142q, e142⟩ := hQ142
  have N142 := Fr.app N0 N142q
  refine own_go st142 ?_
  refine own_go (fun _ k => XS.iload X142.here hx rfl (hb hby d3_15) rfl k) ?_
  refine own_go (fun _ k => XS.iand X142.here hx rfl (hb hby d3_17) rfl k) ?_
  show own_Run p e below _ T142 (mkF m 18 #[.val (.ref a1), .val (.int p2), .val (.int p3), .val (.int p4), .val (.int 2047), .unset, .unset] [(.int ((own_hash p2 p3 p4) &&& (2047 : Int32)))])
  obtain ⟨y5, hy5⟩ : ∃ z, z = ((own_hash p2 p3 p4) &&& (2047 : Int32)) := ⟨_, rfl⟩
  rw [← hy5]
  have hrg : own_rg y5 := by rw [hy5]; exact own_rgH _
  refine own_go (fun _ k => XS.istore X142.here hx rfl (hb hby d3_18) rfl (l' := #[.val (.ref a1), .val (.int p2), .val (.int p3), .val (.int p4), .val (.int 2047), .val (.int y5), .unset]) rfl k) ?_
  exact nd4 a1 p2 p3 p4 b1 b2 b3 b4 k1 k2 k3 k4 va2 va3 la2 la3 ha2 ha3 ia2 ia3 h0 n0 hx hZ hw hby hml hown hnm hret hlk 3 y5 (.unset) T142 h0 _ X142 e142 N142 Z0 K0 E_a1 F_variables_a1 F_lows_a1 F_highs_a1 F_slots_a1 F_size_a1 V_b1 V_b2 V_b3 X_Arh_b4 (hrg) (One.u) (own_pig ia3 ia2 ia2 y5 hrg) (hv2) (hv3) g_a1 g_b1 g_b2 g_b3 g_b4 ne_a1_b1 ne_a1_b2 ne_a1_b3 ne_a1_b4 ne_b1_b2 ne_b1_b3 ne_b1_b4 ne_b2_b3 ne_b2_b4 ne_b3_b4 
def Q3c5 (Z : State) (a1 : Addr) (p2 : Int32) (p3 : Int32) (p4 : Int32) (b1 : Addr) (b2 : Addr) (b3 : Addr) (b4 : Addr) (k1 : ClassId) (k2 : ClassId) (k3 : ClassId) (k4 : ClassId) (va2 : Int32) (va3 : Int32) (va4 : Int32) (la2 : Int32) (la3 : Int32) (la4 : Int32) (ha2 : Int32) (ha3 : Int32) (ha4 : Int32) (ia2 : Int32) (ia3 : Int32) (ia4 : Int32) (h0 : Heap) (n0 : Nat) (v : Option Value) (h : Heap) (L : List Loc) : Prop := ∃ (ic : Int32), v = some (.int 5) ∧ Fr n0 L ∧ Keep h0 h [a1, b1, b2, b3, b4] ∧ Exa Z h a1 own_K0 ∧ Fld Z h a1 own_K0 "variables" "[I" (.ref b1) ∧ Fld Z h a1 own_K0 "lows" "[I" (.ref b2) ∧ Fld Z h a1 own_K0 "highs" "[I" (.ref b3) ∧ Fld Z h a1 own_K0 "slots" "[I" (.ref b4) ∧ Fld Z h a1 own_K0 "size" "I" (.int 6) ∧ Arv Z h b1 k1 .int (1024 : Int32) [(.int 2147483647), (.int 2147483647), (.int va2), (.int va3), (.int va4), (.int p2)] (.int 0) ∧ Arv Z h b2 k2 .int (1024 : Int32) [(.int 0), (.int 0), (.int la2), (.int la3), (.int la4), (.int p3)] (.int 0) ∧ Arv Z h b3 k3 .int (1024 : Int32) [(.int 0), (.int 0), (.int ha2), (.int ha3), (.int ha4), (.int p4)] (.int 0) ∧ Arh Z h b4 k4 .int (2048 : Int32) [(ic, (.int 6)), (ia4, (.int 5)), (ia3, (.int 4)), (ia2, (.int 3))] [] (.int 0)
set_option maxRecDepth 65536 in
set_option maxHeartbeats 40000000 in
theorem ndx5 {p : Program} {l : Launch} {e : Env} {s : State} {m : MethodId} {args : Array Value} {below : List Frame} {meth : Method} {c : Code} {Z : State} {a0 : Array Value} (a1 : Addr) (p2 : Int32) (p3 : Int32) (p4 : Int32) (b1 : Addr) (b2 : Addr) (b3 : Addr) (b4 : Addr) (k1 : ClassId) (k2 : ClassId) (k3 : ClassId) (k4 : ClassId) (va2 : Int32) (va3 : Int32) (va4 : Int32) (la2 : Int32) (la3 : Int32) (la4 : Int32) (ha2 : Int32) (ha3 : Int32) (ha4 : Int32) (ia2 : Int32) (ia3 : Int32) (ia4 : Int32) (h0 : Heap) (n0 : Nat) (hx : p.tables.exec = Jvm.exec) (hZ : Z.Warmed39 s.vm) (hw : ∀ d ∈ tables_1, d.before a0 Z = true) (hby : c.code = prog_20_method_2_code) (hml : c.maxLocals = 7) (hown : s.vm.findClass own_K0 = some m.cls) (hnm : meth.name = "node") (hret : meth.sig.returnType = some .int) (hlk : meth.locks = false)
    (y5 : Int32) (s6 : Slot) (T0 : State) (hh : Heap) (locs : List Loc) (X0 : Stand p l e ({ frames := 1, cells := 0, slots := 0, locals := 15 } : Room) s m args below meth c T0 locs 0 0) (e0 : T0.heap = hh) (N0 : Fr n0 locs) (Z0 : n0 ≤ hh.size) (K0 : Keep h0 hh [a1, b1, b2, b3, b4]) (E_a1 : Exa Z hh a1 own_K0) (F_variables_a1 : Fld Z hh a1 own_K0 "variables" "[I" (.ref b1)) (F_lows_a1 : Fld Z hh a1 own_K0 "lows" "[I" (.ref b2)) (F_highs_a1 : Fld Z hh a1 own_K0 "highs" "[I" (.ref b3)) (F_slots_a1 : Fld Z hh a1 own_K0 "slots" "[I" (.ref b4)) (F_size_a1 : Fld Z hh a1 own_K0 "size" "I" (.int 5)) (V_b1 : Arv Z hh b1 k1 .int (1024 : Int32) [(.int 2147483647), (.int 2147483647), (.int va2), (.int va3), (.int va4), (.int 0)] (.int 0)) (V_b2 : Arv Z hh b2 k2 .int (1024 : Int32) [(.int 0), (.int 0), (.int la2), (.int la3), (.int la4), (.int 0)] (.int 0)) (V_b3 : Arv Z hh b3 k3 .int (1024 : Int32) [(.int 0), (.int 0), (.int ha2), (.int ha3), (.int ha4), (.int 0)] (.int 0)) (X_Arh_b4 : Arh Z hh b4 k4 .int (2048 : Int32) [(ia4, (.int 5)), (ia3, (.int 4)), (ia2, (.int 3))] [] (.int 0)) (hrg : own_rg y5) (hs6 : One s6) (g_a1 : n0 ≤ a1) (g_b1 : n0 ≤ b1) (g_b2 : n0 ≤ b2) (g_b3 : n0 ≤ b3) (g_b4 : n0 ≤ b4) (ne_a1_b1 : a1 ≠ b1) (ne_a1_b2 : a1 ≠ b2) (ne_a1_b3 : a1 ≠ b3) (ne_a1_b4 : a1 ≠ b4) (ne_b1_b2 : b1 ≠ b2) (ne_b1_b3 : b1 ≠ b3) (ne_b1_b4 : b1 ≠ b4) (ne_b2_b3 : b2 ≠ b3) (ne_b2_b4 : b2 ≠ b4) (ne_b3_b4 : b3 ≠ b4) :
    own_Run p e below (fun o U' => ∃ v L, o = .returned v ∧ Q3c5 Z a1 p2 p3 p4 b1 b2 b3 b4 k1 k2 k3 k4 va2 va3 va4 la2 la3 la4 ha2 ha3 ha4 ia2 ia3 ia4 h0 n0 v U'.heap L ∧ FrameEnd s o U' L ({ frames := 1, cells := 0, slots := 0, locals := 15 } : Room).cells ({ frames := 1, cells := 0, slots := 0, locals := 15 } : Room).slots) T0 (mkF m 89 #[.val (.ref a1), .val (.int p2), .val (.int p3), .val (.int p4), .val (.int 2047), .val (.int y5), s6] []) := by
  have W := fun (k : Nat) {d : Jvm.Cond} (h : tables_1[k]? = some d) => hw d (List.mem_of_getElem? h)
  show own_Run p e below _ T0 (mkF m 89 #[.val (.ref a1), .val (.int p2), .val (.int p3), .val (.int p4), .val (.int 2047), .val (.int y5), s6] [])
  refine own_go (fun _ k => XS.aloadN X0.here hx rfl (hb hby d3_89) rfl rfl k) ?_
  obtain ⟨T143, X143, e143, st143⟩ := getF X0 hx hZ hown (host := "") (Or.inl (W 18 rfl)) Via.refl e0 F_size_a1 (g := (mkF m 90 #[.val (.ref a1), .val (.int p2), .val (.int p3), .val (.int p4), .val (.int 2047), .val (.int y5), s6] [(.ref a1)])) rfl rfl (hb hby d3_90)
  refine own_go st143 ?_
  refine own_go (fun _ k => XS.aloadN X143.here hx rfl (hb hby d3_93) rfl rfl k) ?_
  obtain ⟨T144, X144, e144, st144⟩ := getF X143 hx hZ hown (host := "") (Or.inl (W 12 rfl)) Via.refl e143 F_variables_a1 (g := (mkF m 94 #[.val (.ref a1), .val (.int p2), .val (.int p3), .val (.int p4), .val (.int 2047), .val (.int y5), s6] [(.ref a1), (.int 5)])) rfl rfl (hb hby d3_94)
  refine own_go st144 ?_
  obtain ⟨cl145, Ar145, q145, S145, N145, H145, G145⟩ := id V_b1
  refine own_go (X144.arraylength hx (by rw [e144]; exact Ar145.1) (State.isArrayOf_alike hZ.alike Ar145.2.1) (g := (mkF m 97 #[.val (.ref a1), .val (.int p2), .val (.int p3), .val (.int p4), .val (.int 2047), .val (.int y5), s6] [(.ref b1), (.int 5)])) rfl rfl (hb hby d3_97)) ?_
  rw [len_of S145 N145]
  refine own_go (fun _ k => XS.icmpYes X144.here hx rfl (pc0 := 98) (pc' := 152) rfl (hb hby d3_98) rfl (feq (by decide : ¬ ((5 : Int32) = (1024 : Int32)))).2 (by decide) (by decide) k) ?_
  refine own_go (fun _ k => XS.aloadN X144.here hx rfl (hb hby d3_152) rfl rfl k) ?_
  obtain ⟨T146, X146, e146, st146⟩ := getF X144 hx hZ hown (host := "") (Or.inl (W 18 rfl)) Via.refl e144 F_size_a1 (g := (mkF m 153 #[.val (.ref a1), .val (.int p2), .val (.int p3), .val (.int p4), .val (.int 2047), .val (.int y5), s6] [(.ref a1)])) rfl rfl (hb hby d3_153)
  refine own_go st146 ?_
  show own_Run p e below _ T146 (mkF m 156 #[.val (.ref a1), .val (.int p2), .val (.int p3), .val (.int p4), .val (.int 2047), .val (.int y5), s6] [(.int 5)])
  refine own_go (fun _ k => XS.istore X146.here hx rfl (hb hby d3_156) rfl (l' := #[.val (.ref a1), .val (.int p2), .val (.int p3), .val (.int p4), .val (.int 2047), .val (.int y5), .val (.int 5)]) ((XS.store1 (o := s6) rfl hs6 rfl).trans rfl) k) ?_
  refine own_go (fun _ k => XS.aloadN X146.here hx rfl (hb hby d3_158) rfl rfl k) ?_
  obtain ⟨T147, X147, e147, st147⟩ := getF X146 hx hZ hown (host := "") (Or.inl (W 12 rfl)) Via.refl e146 F_variables_a1 (g := (mkF m 159 #[.val (.ref a1), .val (.int p2), .val (.int p3), .val (.int p4), .val (.int 2047), .val (.int y5), .val (.int 5)] [(.ref a1)])) rfl rfl (hb hby d3_159)
  refine own_go st147 ?_
  refine own_go (fun _ k => XS.iload X147.here hx rfl (hb hby d3_162) rfl k) ?_
  refine own_go (fun _ k => XS.iloadN X147.here hx rfl (hb hby d3_164) rfl k) ?_
  obtain ⟨cl148, Ar148, q148, S148, N148, H148, G148⟩ := id V_b1
  have hin148 : ¬ ((5 : Int32) < 0 ∨ cl148.slots.size ≤ ((5 : Int32)).toNatClampNeg) := inb_of S148 ⟨by decide, by decide⟩
  obtain ⟨T149, h149, X149, e149, W149, st149⟩ := stI X147 hx hZ e147 Ar148 (j := (5 : Int32)) hin148 (g := (mkF m 165 #[.val (.ref a1), .val (.int p2), .val (.int p3), .val (.int p4), .val (.int 2047), .val (.int y5), .val (.int 5)] [(.int p2), (.int 5), (.ref b1)])) rfl rfl (hb hby d3_165)
  refine own_go st149 ?_
  have Z0_c150 := Nat.le_trans Z0 (Keep.of_wr W149).1
  have K0_c150 := K0.wr W149 (Or.inl (List.mem_of_getElem? (i := 1) rfl))
  have E_a1_c150 := E_a1.wr W149
  have F_variables_a1_c150 := F_variables_a1.other W149 (Or.inl ne_a1_b1)
  have F_lows_a1_c150 := F_lows_a1.other W149 (Or.inl ne_a1_b1)
  have F_highs_a1_c150 := F_highs_a1.other W149 (Or.inl ne_a1_b1)
  have F_slots_a1_c150 := F_slots_a1.other W149 (Or.inl ne_a1_b1)
  have F_size_a1_c150 := F_size_a1.other W149 (Or.inl ne_a1_b1)
  have V_b2_c150 := V_b2.other W149 (Ne.symm ne_b1_b2)
  have V_b3_c150 := V_b3.other W149 (Ne.symm ne_b1_b3)
  have X_Arh_b4_c150 := X_Arh_b4.other W149 (Ne.symm ne_b1_b4)
  have V_b1_c149 : Arv Z h149 b1 k1 .int (1024 : Int32) [(.int 2147483647), (.int 2147483647), (.int va2), (.int va3), (.int va4), (.int p2)] (.int 0) := Arv.set Ar148 q148 S148 N148 H148 G148 rfl W149 5 rfl (Nat.le_of_ble_eq_true rfl)
  have N149 := Fr.snoc X149 N0 g_b1
  refine own_go (fun _ k => XS.aloadN X149.here hx rfl (hb hby d3_166) rfl rfl k) ?_
  obtain ⟨T151, X151, e151, st151⟩ := getF X149 hx hZ hown (host := "") (Or.inl (W 14 rfl)) Via.refl e149 F_lows_a1_c150 (g := (mkF m 167 #[.val (.ref a1), .val (.int p2), .val (.int p3), .val (.int p4), .val (.int 2047), .val (.int y5), .val (.int 5)] [(.ref a1)])) rfl rfl (hb hby d3_167)
  refine own_go st151 ?_
  show own_Run p e below _ T151 (mkF m 170 #[.val (.ref a1), .val (.int p2), .val (.int p3), .val (.int p4), .val (.int 2047), .val (.int y5), .val (.int 5)] [(.ref b2)])
  refine own_go (fun _ k => XS.iload X151.here hx rfl (hb hby d3_170) rfl k) ?_
  refine own_go (fun _ k => XS.iloadN X151.here hx rfl (hb hby d3_172) rfl k) ?_
  obtain ⟨cl152, Ar152, q152, S152, N152, H152, G152⟩ := id V_b2_c150
  have hin152 : ¬ ((5 : Int32) < 0 ∨ cl152.slots.size ≤ ((5 : Int32)).toNatClampNeg) := inb_of S152 ⟨by decide, by decide⟩
  obtain ⟨T153, h153, X153, e153, W153, st153⟩ := stI X151 hx hZ e151 Ar152 (j := (5 : Int32)) hin152 (g := (mkF m 173 #[.val (.ref a1), .val (.int p2), .val (.int p3), .val (.int p4), .val (.int 2047), .val (.int y5), .val (.int 5)] [(.int p3), (.int 5), (.ref b2)])) rfl rfl (hb hby d3_173)
  refine own_go st153 ?_
  have Z0_c154 := Nat.le_trans Z0_c150 (Keep.of_wr W153).1
  have K0_c154 := K0_c150.wr W153 (Or.inl (List.mem_of_getElem? (i := 2) rfl))
  have E_a1_c154 := E_a1_c150.wr W153
  have F_variables_a1_c154 := F_variables_a1_c150.other W153 (Or.inl ne_a1_b2)
  have F_lows_a1_c154 := F_lows_a1_c150.other W153 (Or.inl ne_a1_b2)
  have F_highs_a1_c154 := F_highs_a1_c150.other W153 (Or.inl ne_a1_b2)
  have F_slots_a1_c154 := F_slots_a1_c150.other W153 (Or.inl ne_a1_b2)
  have F_size_a1_c154 := F_size_a1_c150.other W153 (Or.inl ne_a1_b2)
  have V_b3_c154 := V_b3_c150.other W153 (Ne.symm ne_b2_b3)
  have X_Arh_b4_c154 := X_Arh_b4_c150.other W153 (Ne.symm ne_b2_b4)
  have V_b1_c154 := V_b1_c149.other W153 ne_b1_b2
  have V_b2_c153 : Arv Z h153 b2 k2 .int (1024 : Int32) [(.int 0), (.int 0), (.int la2), (.int la3), (.int la4), (.int p3)] (.int 0) := Arv.set Ar152 q152 S152 N152 H152 G152 rfl W153 5 rfl (Nat.le_of_ble_eq_true rfl)
  have N153 := Fr.snoc X153 N149 g_b2
  refine own_go (fun _ k => XS.aloadN X153.here hx rfl (hb hby d3_174) rfl rfl k) ?_
  obtain ⟨T155, X155, e155, st155⟩ := getF X153 hx hZ hown (host := "") (Or.inl (W 16 rfl)) Via.refl e153 F_highs_a1_c154 (g := (mkF m 175 #[.val (.ref a1), .val (.int p2), .val (.int p3), .val (.int p4), .val (.int 2047), .val (.int y5), .val (.int 5)] [(.ref a1)])) rfl rfl (hb hby d3_175)
  refine own_go st155 ?_
  refine own_go (fun _ k => XS.iload X155.here hx rfl (hb hby d3_178) rfl k) ?_
  refine own_go (fun _ k => XS.iloadN X155.here hx rfl (hb hby d3_180) rfl k) ?_
  obtain ⟨cl156, Ar156, q156, S156, N156, H156, G156⟩ := id V_b3_c154
  have hin156 : ¬ ((5 : Int32) < 0 ∨ cl156.slots.size ≤ ((5 : Int32)).toNatClampNeg) := inb_of S156 ⟨by decide, by decide⟩
  obtain ⟨T157, h157, X157, e157, W157, st157⟩ := stI X155 hx hZ e155 Ar156 (j := (5 : Int32)) hin156 (g := (mkF m 181 #[.val (.ref a1), .val (.int p2), .val (.int p3), .val (.int p4), .val (.int 2047), .val (.int y5), .val (.int 5)] [(.int p4), (.int 5), (.ref b3)])) rfl rfl (hb hby d3_181)
  refine own_go st157 ?_
  show own_Run p e below _ T157 (mkF m 182 #[.val (.ref a1), .val (.int p2), .val (.int p3), .val (.int p4), .val (.int 2047), .val (.int y5), .val (.int 5)] [])
  have Z0_c158 := Nat.le_trans Z0_c154 (Keep.of_wr W157).1
  have K0_c158 := K0_c154.wr W157 (Or.inl (List.mem_of_getElem? (i := 3) rfl))
  have E_a1_c158 := E_a1_c154.wr W157
  have F_variables_a1_c158 := F_variables_a1_c154.other W157 (Or.inl ne_a1_b3)
  have F_lows_a1_c158 := F_lows_a1_c154.other W157 (Or.inl ne_a1_b3)
  have F_highs_a1_c158 := F_highs_a1_c154.other W157 (Or.inl ne_a1_b3)
  have F_slots_a1_c158 := F_slots_a1_c154.other W157 (Or.inl ne_a1_b3)
  have F_size_a1_c158 := F_size_a1_c154.other W157 (Or.inl ne_a1_b3)
  have X_Arh_b4_c158 := X_Arh_b4_c154.other W157 (Ne.symm ne_b3_b4)
  have V_b1_c158 := V_b1_c154.other W157 ne_b1_b3
  have V_b2_c158 := V_b2_c153.other W157 ne_b2_b3
  have V_b3_c157 : Arv Z h157 b3 k3 .int (1024 : Int32) [(.int 0), (.int 0), (.int ha2), (.int ha3), (.int ha4), (.int p4)] (.int 0) := Arv.set Ar156 q156 S156 N156 H156 G156 rfl W157 5 rfl (Nat.le_of_ble_eq_true rfl)
  have N157 := Fr.snoc X157 N153 g_b3
  refine own_go (fun _ k => XS.aloadN X157.here hx rfl (hb hby d3_182) rfl rfl k) ?_
  refine own_go (fun _ k => XS.dup X157.here hx rfl (hb hby d3_183) rfl rfl k) ?_
  obtain ⟨T159, X159, e159, st159⟩ := getF X157 hx hZ hown (host := "") (Or.inl (W 18 rfl)) Via.refl e157 F_size_a1_c158 (g := (mkF m 184 #[.val (.ref a1), .val (.int p2), .val (.int p3), .val (.int p4), .val (.int 2047), .val (.int y5), .val (.int 5)] [(.ref a1), (.ref a1)])) rfl rfl (hb hby d3_184)
  refine own_go st159 ?_
  refine own_go (fun _ k => XS.iconst X159.here hx rfl (hb hby d3_187) k) ?_
  refine own_go (fun _ k => XS.iadd X159.here hx rfl (hb hby d3_188) rfl k) ?_
  show own_Run p e below _ T159 (mkF m 189 #[.val (.ref a1), .val (.int p2), .val (.int p3), .val (.int p4), .val (.int 2047), .val (.int y5), .val (.int 5)] [(.int ((5 : Int32) + (1 : Int32))), (.ref a1)])
  rw [show ((5 : Int32) + (1 : Int32)) = (6 : Int32) by decide]
  obtain ⟨T160, h160, X160, e160, W160, st160⟩ := putF X159 hx hZ hown (host := "") (Or.inl (W 18 rfl)) Via.refl e159 F_size_a1_c158 E_a1_c158 (Or.inl (W 19 rfl)) (W 3 rfl) (ty := .int) (by decide) rfl rfl (g := (mkF m 189 #[.val (.ref a1), .val (.int p2), .val (.int p3), .val (.int p4), .val (.int 2047), .val (.int y5), .val (.int 5)] [(.int 6), (.ref a1)])) rfl rfl (hb hby d3_189)
  refine own_go st160 ?_
  have Z0_c161 := Nat.le_trans Z0_c158 (Keep.of_wr W160).1
  have K0_c161 := K0_c158.wr W160 (Or.inl (List.mem_of_getElem? (i := 0) rfl))
  have E_a1_c161 := E_a1_c158.wr W160
  have F_variables_a1_c161 := F_variables_a1_c158.other W160 (Or.inr (slot_ne (Or.inl (W 13 rfl)) (Or.inl (W 19 rfl)) (by decide) (t := (.array .int)) (t' := .int) (by decide) (by decide)))
  have F_lows_a1_c161 := F_lows_a1_c158.other W160 (Or.inr (slot_ne (Or.inl (W 15 rfl)) (Or.inl (W 19 rfl)) (by decide) (t := (.array .int)) (t' := .int) (by decide) (by decide)))
  have F_highs_a1_c161 := F_highs_a1_c158.other W160 (Or.inr (slot_ne (Or.inl (W 17 rfl)) (Or.inl (W 19 rfl)) (by decide) (t := (.array .int)) (t' := .int) (by decide) (by decide)))
  have F_slots_a1_c161 := F_slots_a1_c158.other W160 (Or.inr (slot_ne (Or.inl (W 21 rfl)) (Or.inl (W 19 rfl)) (by decide) (t := (.array .int)) (t' := .int) (by decide) (by decide)))
  have X_Arh_b4_c161 := X_Arh_b4_c158.other W160 (Ne.symm ne_a1_b4)
  have V_b1_c161 := V_b1_c158.other W160 (Ne.symm ne_a1_b1)
  have V_b2_c161 := V_b2_c158.other W160 (Ne.symm ne_a1_b2)
  have V_b3_c161 := V_b3_c157.other W160 (Ne.symm ne_a1_b3)
  have F_size_a1_c160 : Fld Z h160 a1 own_K0 "size" "I" (.int 6) := F_size_a1_c158.same W160
  have N160 := Fr.snoc X160 N157 g_a1
  refine own_go (fun _ k => XS.aloadN X160.here hx rfl (hb hby d3_192) rfl rfl k) ?_
  obtain ⟨T162, X162, e162, st162⟩ := getF X160 hx hZ hown (host := "") (Or.inl (W 20 rfl)) Via.refl e160 F_slots_a1_c161 (g := (mkF m 193 #[.val (.ref a1), .val (.int p2), .val (.int p3), .val (.int p4), .val (.int 2047), .val (.int y5), .val (.int 5)] [(.ref a1)])) rfl rfl (hb hby d3_193)
  refine own_go st162 ?_
  refine own_go (fun _ k => XS.iload X162.here hx rfl (hb hby d3_196) rfl k) ?_
  refine own_go (fun _ k => XS.iload X162.here hx rfl (hb hby d3_198) rfl k) ?_
  refine own_go (fun _ k => XS.iconst X162.here hx rfl (hb hby d3_200) k) ?_
  refine own_go (fun _ k => XS.iadd X162.here hx rfl (hb hby d3_201) rfl k) ?_
  show own_Run p e below _ T162 (mkF m 202 #[.val (.ref a1), .val (.int p2), .val (.int p3), .val (.int p4), .val (.int 2047), .val (.int y5), .val (.int 5)] [(.int ((5 : Int32) + (1 : Int32))), (.int y5), (.ref b4)])
  rw [show ((5 : Int32) + (1 : Int32)) = (6 : Int32) by decide]
  obtain ⟨cl163, Ar163, q163, S163, N163, H163, G163⟩ := id X_Arh_b4_c161
  have hin163 : ¬ (y5 < 0 ∨ cl163.slots.size ≤ (y5).toNatClampNeg) := inb_of S163 (own_rgIn _ hrg)
  obtain ⟨T164, h164, X164, e164, W164, st164⟩ := stI X162 hx hZ e162 Ar163 (j := y5) hin163 (g := (mkF m 202 #[.val (.ref a1), .val (.int p2), .val (.int p3), .val (.int p4), .val (.int 2047), .val (.int y5), .val (.int 5)] [(.int 6), (.int y5), (.ref b4)])) rfl rfl (hb hby d3_202)
  refine own_go st164 ?_
  show own_Run p e below _ T164 (mkF m 203 #[.val (.ref a1), .val (.int p2), .val (.int p3), .val (.int p4), .val (.int 2047), .val (.int y5), .val (.int 5)] [])
  have Z0_c165 := Nat.le_trans Z0_c161 (Keep.of_wr W164).1
  have K0_c165 := K0_c161.wr W164 (Or.inl (List.mem_of_getElem? (i := 4) rfl))
  have E_a1_c165 := E_a1_c161.wr W164
  have F_variables_a1_c165 := F_variables_a1_c161.other W164 (Or.inl ne_a1_b4)
  have F_lows_a1_c165 := F_lows_a1_c161.other W164 (Or.inl ne_a1_b4)
  have F_highs_a1_c165 := F_highs_a1_c161.other W164 (Or.inl ne_a1_b4)
  have F_slots_a1_c165 := F_slots_a1_c161.other W164 (Or.inl ne_a1_b4)
  have V_b1_c165 := V_b1_c161.other W164 ne_b1_b4
  have V_b2_c165 := V_b2_c161.other W164 ne_b2_b4
  have V_b3_c165 := V_b3_c161.other W164 ne_b3_b4
  have F_size_a1_c165 := F_size_a1_c160.other W164 (Or.inl ne_a1_b4)
  have Xn164 : Arh Z h164 b4 k4 .int (2048 : Int32) [(y5, (.int 6)), (ia4, (.int 5)), (ia3, (.int 4)), (ia2, (.int 3))] [] (.int 0) := Arh.push Ar163 q163 S163 N163 H163 G163 rfl W164 hin163
  have N164 := Fr.snoc X164 N160 g_b4
  refine own_go (fun _ k => XS.iconst X164.here hx rfl (hb hby d3_203) k) ?_
  refine own_go (fun _ k => XS.aloadN X164.here hx rfl (hb hby d3_204) rfl rfl k) ?_
  obtain ⟨T166, X166, e166, st166⟩ := getF X164 hx hZ hown (host := "") (Or.inl (W 18 rfl)) Via.refl e164 F_size_a1_c165 (g := (mkF m 205 #[.val (.ref a1), .val (.int p2), .val (.int p3), .val (.int p4), .val (.int 2047), .val (.int y5), .val (.int 5)] [(.ref a1), (.int 2)])) rfl rfl (hb hby d3_205)
  refine own_go st166 ?_
  refine own_go (fun _ k => XS.imul X166.here hx rfl (hb hby d3_208) rfl k) ?_
  show own_Run p e below _ T166 (mkF m 209 #[.val (.ref a1), .val (.int p2), .val (.int p3), .val (.int p4), .val (.int 2047), .val (.int y5), .val (.int 5)] [(.int ((2 : Int32) * (6 : Int32)))])
  rw [show ((2 : Int32) * (6 : Int32)) = (12 : Int32) by decide]
  refine own_go (fun _ k => XS.aloadN X166.here hx rfl (hb hby d3_209) rfl rfl k) ?_
  obtain ⟨T167, X167, e167, st167⟩ := getF X166 hx hZ hown (host := "") (Or.inl (W 20 rfl)) Via.refl e166 F_slots_a1_c165 (g := (mkF m 210 #[.val (.ref a1), .val (.int p2), .val (.int p3), .val (.int p4), .val (.int 2047), .val (.int y5), .val (.int 5)] [(.ref a1), (.int 12)])) rfl rfl (hb hby d3_210)
  refine own_go st167 ?_
  obtain ⟨cl168, Ar168, q168, S168, N168, H168, G168⟩ := id Xn164
  refine own_go (X167.arraylength hx (by rw [e167]; exact Ar168.1) (State.isArrayOf_alike hZ.alike Ar168.2.1) (g := (mkF m 213 #[.val (.ref a1), .val (.int p2), .val (.int p3), .val (.int p4), .val (.int 2047), .val (.int y5), .val (.int 5)] [(.ref b4), (.int 12)])) rfl rfl (hb hby d3_213)) ?_
  rw [len_of S168 N168]
  refine own_go (fun _ k => XS.icmpYes X167.here hx rfl (pc0 := 214) (pc' := 221) rfl (hb hby d3_214) rfl (flt (by decide : ¬ ((2048 : Int32) < (12 : Int32)))).2.2.2 (by decide) (by decide) k) ?_
  refine own_go (fun _ k => XS.iload X167.here hx rfl (hb hby d3_221) rfl k) ?_
  refine own_done (Q := fun v h L => Q3c5 Z a1 p2 p3 p4 b1 b2 b3 b4 k1 k2 k3 k4 va2 va3 va4 la2 la3 la4 ha2 ha3 ha4 ia2 ia3 ia4 h0 n0 v h L) (v := (some (.int 5))) X167 (fun h => by rw [hret] at h; cases h) hlk (fun fs hr => own_retI X167 hx hret (hb hby d3_223) hr) ?_ (by decide) (by decide)
  show Q3c5 Z a1 p2 p3 p4 b1 b2 b3 b4 k1 k2 k3 k4 va2 va3 va4 la2 la3 la4 ha2 ha3 ha4 ia2 ia3 ia4 h0 n0 _ T167.heap _
  rw [e167]
  exact ⟨y5, rfl, N164, K0_c165, E_a1_c165, F_variables_a1_c165, F_lows_a1_c165, F_highs_a1_c165, F_slots_a1_c165, F_size_a1_c165, V_b1_c165, V_b2_c165, V_b3_c165, Xn164⟩
set_option maxRecDepth 65536 in
set_option maxHeartbeats 40000000 in
theorem nd5 {p : Program} {l : Launch} {e : Env} {s : State} {m : MethodId} {args : Array Value} {below : List Frame} {meth : Method} {c : Code} {Z : State} {a0 : Array Value} (a1 : Addr) (p2 : Int32) (p3 : Int32) (p4 : Int32) (b1 : Addr) (b2 : Addr) (b3 : Addr) (b4 : Addr) (k1 : ClassId) (k2 : ClassId) (k3 : ClassId) (k4 : ClassId) (va2 : Int32) (va3 : Int32) (va4 : Int32) (la2 : Int32) (la3 : Int32) (la4 : Int32) (ha2 : Int32) (ha3 : Int32) (ha4 : Int32) (ia2 : Int32) (ia3 : Int32) (ia4 : Int32) (h0 : Heap) (n0 : Nat) (hx : p.tables.exec = Jvm.exec) (hZ : Z.Warmed39 s.vm) (hw : ∀ d ∈ tables_1, d.before a0 Z = true) (hby : c.code = prog_20_method_2_code) (hml : c.maxLocals = 7) (hown : s.vm.findClass own_K0 = some m.cls) (hnm : meth.name = "node") (hret : meth.sig.returnType = some .int) (hlk : meth.locks = false) :
    ∀ (k : Nat) (y5 : Int32) (s6 : Slot) (T0 : State) (hh : Heap) (locs : List Loc), Stand p l e ({ frames := 1, cells := 0, slots := 0, locals := 15 } : Room) s m args below meth c T0 locs 0 0 → T0.heap = hh → Fr n0 locs → n0 ≤ hh.size → Keep h0 hh [a1, b1, b2, b3, b4] → Exa Z hh a1 own_K0 → Fld Z hh a1 own_K0 "variables" "[I" (.ref b1) → Fld Z hh a1 own_K0 "lows" "[I" (.ref b2) → Fld Z hh a1 own_K0 "highs" "[I" (.ref b3) → Fld Z hh a1 own_K0 "slots" "[I" (.ref b4) → Fld Z hh a1 own_K0 "size" "I" (.int 5) → Arv Z hh b1 k1 .int (1024 : Int32) [(.int 2147483647), (.int 2147483647), (.int va2), (.int va3), (.int va4), (.int 0)] (.int 0) → Arv Z hh b2 k2 .int (1024 : Int32) [(.int 0), (.int 0), (.int la2), (.int la3), (.int la4), (.int 0)] (.int 0) → Arv Z hh b3 k3 .int (1024 : Int32) [(.int 0), (.int 0), (.int ha2), (.int ha3), (.int ha4), (.int 0)] (.int 0) → Arh Z hh b4 k4 .int (2048 : Int32) [(ia4, (.int 5)), (ia3, (.int 4)), (ia2, (.int 3))] [] (.int 0) → own_rg y5 → One s6 → own_free ia4 ia3 ia2 k y5 → ¬ (va2 = p2) → ¬ (va3 = p2) → ¬ (va4 = p2) → n0 ≤ a1 → n0 ≤ b1 → n0 ≤ b2 → n0 ≤ b3 → n0 ≤ b4 → a1 ≠ b1 → a1 ≠ b2 → a1 ≠ b3 → a1 ≠ b4 → b1 ≠ b2 → b1 ≠ b3 → b1 ≠ b4 → b2 ≠ b3 → b2 ≠ b4 → b3 ≠ b4 → own_Run p e below (fun o U' => ∃ v L, o = .returned v ∧ Q3c5 Z a1 p2 p3 p4 b1 b2 b3 b4 k1 k2 k3 k4 va2 va3 va4 la2 la3 la4 ha2 ha3 ha4 ia2 ia3 ia4 h0 n0 v U'.heap L ∧ FrameEnd s o U' L ({ frames := 1, cells := 0, slots := 0, locals := 15 } : Room).cells ({ frames := 1, cells := 0, slots := 0, locals := 15 } : Room).slots) T0 (mkF m 20 #[.val (.ref a1), .val (.int p2), .val (.int p3), .val (.int p4), .val (.int 2047), .val (.int y5), s6] []) := by
  intro k
  induction k with
  | zero =>
    intro y5 s6 T0 hh locs X0 e0 N0 Z0 K0 E_a1 F_variables_a1 F_lows_a1 F_highs_a1 F_slots_a1 F_size_a1 V_b1 V_b2 V_b3 X_Arh_b4 hrg hs6 hfr hv2 hv3 hv4 g_a1 g_b1 g_b2 g_b3 g_b4 ne_a1_b1 ne_a1_b2 ne_a1_b3 ne_a1_b4 ne_b1_b2 ne_b1_b3 ne_b1_b4 ne_b2_b3 ne_b2_b4 ne_b3_b4
    have W := fun (k : Nat) {d : Jvm.Cond} (h : tables_1[k]? = some d) => hw d (List.mem_of_getElem? h)
    show own_Run p e below _ T0 (mkF m 20 #[.val (.ref a1), .val (.int p2), .val (.int p3), .val (.int p4), .val (.int 2047), .val (.int y5), s6] [])
    refine own_go (fun _ k => XS.aloadN X0.here hx rfl (hb hby d3_20) rfl rfl k) ?_
    obtain ⟨T169, X169, e169, st169⟩ := getF X0 hx hZ hown (host := "") (Or.inl (W 20 rfl)) Via.refl e0 F_slots_a1 (g := (mkF m 21 #[.val (.ref a1), .val (.int p2), .val (.int p3), .val (.int p4), .val (.int 2047), .val (.int y5), s6] [(.ref a1)])) rfl rfl (hb hby d3_21)
    refine own_go st169 ?_
    refine own_go (fun _ k => XS.iload X169.here hx rfl (hb hby d3_24) rfl k) ?_
    obtain ⟨cl170, Ar170, q170, S170, N170, H170, G170⟩ := id X_Arh_b4
    have hin170 : ¬ (y5 < 0 ∨ cl170.slots.size ≤ (y5).toNatClampNeg) := inb_of S170 (own_rgIn _ hrg)
    refine own_go (X169.iaload hx (j := y5) (v := (.int 0)) (by rw [e169]; exact Ar170.1) (State.isArrayOf_alike hZ.alike Ar170.2.1) Ar170.2.2 hin170 (atH H170 hin170 (getH_miss (own_rgIn _ hrg).1 hfr.1 (getH_miss (own_rgIn _ hrg).1 hfr.2.1 (getH_miss (own_rgIn _ hrg).1 hfr.2.2 (rfl))))) (g := (mkF m 26 #[.val (.ref a1), .val (.int p2), .val (.int p3), .val (.int p4), .val (.int 2047), .val (.int y5), s6] [(.int y5), (.ref b4)])) rfl rfl (hb hby d3_26)) ?_
    refine own_go (fun _ k => XS.ifYes X169.here hx rfl (pc0 := 27) (pc' := 89) rfl (hb hby d3_27) rfl ((if0 _ _).trans (teq (by decide : (0 : Int32) = (0 : Int32))).1) (by decide) (by decide) k) ?_
    exact ndx5 a1 p2 p3 p4 b1 b2 b3 b4 k1 k2 k3 k4 va2 va3 va4 la2 la3 la4 ha2 ha3 ha4 ia2 ia3 ia4 h0 n0 hx hZ hw hby hml hown hnm hret hlk y5 (s6) T169 hh _ X169 e169 N0 Z0 K0 E_a1 F_variables_a1 F_lows_a1 F_highs_a1 F_slots_a1 F_size_a1 V_b1 V_b2 V_b3 X_Arh_b4 (hrg) (hs6) g_a1 g_b1 g_b2 g_b3 g_b4 ne_a1_b1 ne_a1_b2 ne_a1_b3 ne_a1_b4 ne_b1_b2 ne_b1_b3 ne_b1_b4 ne_b2_b3 ne_b2_b4 ne_b3_b4 
  | succ k ih =>
    intro y5 s6 T0 hh locs X0 e0 N0 Z0 K0 E_a1 F_variables_a1 F_lows_a1 F_highs_a1 F_slots_a1 F_size_a1 V_b1 V_b2 V_b3 X_Arh_b4 hrg hs6 hfr hv2 hv3 hv4 g_a1 g_b1 g_b2 g_b3 g_b4 ne_a1_b1 ne_a1_b2 ne_a1_b3 ne_a1_b4 ne_b1_b2 ne_b1_b3 ne_b1_b4 ne_b2_b3 ne_b2_b4 ne_b3_b4
    have W := fun (k : Nat) {d : Jvm.Cond} (h : tables_1[k]? = some d) => hw d (List.mem_of_getElem? h)
    show own_Run p e below _ T0 (mkF m 20 #[.val (.ref a1), .val (.int p2), .val (.int p3), .val (.int p4), .val (.int 2047), .val (.int y5), s6] [])
    by_cases hk : y5 ≠ ia4 ∧ y5 ≠ ia3 ∧ y5 ≠ ia2
    · refine own_go (fun _ k => XS.aloadN X0.here hx rfl (hb hby d3_20) rfl rfl k) ?_
      obtain ⟨T171, X171, e171, st171⟩ := getF X0 hx hZ hown (host := "") (Or.inl (W 20 rfl)) Via.refl e0 F_slots_a1 (g := (mkF m 21 #[.val (.ref a1), .val (.int p2), .val (.int p3), .val (.int p4), .val (.int 2047), .val (.int y5), s6] [(.ref a1)])) rfl rfl (hb hby d3_21)
      refine own_go st171 ?_
      refine own_go (fun _ k => XS.iload X171.here hx rfl (hb hby d3_24) rfl k) ?_
      obtain ⟨cl172, Ar172, q172, S172, N172, H172, G172⟩ := id X_Arh_b4
      have hin172 : ¬ (y5 < 0 ∨ cl172.slots.size ≤ (y5).toNatClampNeg) := inb_of S172 (own_rgIn _ hrg)
      refine own_go (X171.iaload hx (j := y5) (v := (.int 0)) (by rw [e171]; exact Ar172.1) (State.isArrayOf_alike hZ.alike Ar172.2.1) Ar172.2.2 hin172 (atH H172 hin172 (getH_miss (own_rgIn _ hrg).1 hk.1 (getH_miss (own_rgIn _ hrg).1 hk.2.1 (getH_miss (own_rgIn _ hrg).1 hk.2.2 (rfl))))) (g := (mkF m 26 #[.val (.ref a1), .val (.int p2), .val (.int p3), .val (.int p4), .val (.int 2047), .val (.int y5), s6] [(.int y5), (.ref b4)])) rfl rfl (hb hby d3_26)) ?_
      refine own_go (fun _ k => XS.ifYes X171.here hx rfl (pc0 := 27) (pc' := 89) rfl (hb hby d3_27) rfl ((if0 _ _).trans (teq (by decide : (0 : Int32) = (0 : Int32))).1) (by decide) (by decide) k) ?_
      exact ndx5 a1 p2 p3 p4 b1 b2 b3 b4 k1 k2 k3 k4 va2 va3 va4 la2 la3 la4 ha2 ha3 ha4 ia2 ia3 ia4 h0 n0 hx hZ hw hby hml hown hnm hret hlk y5 (s6) T171 hh _ X171 e171 N0 Z0 K0 E_a1 F_variables_a1 F_lows_a1 F_highs_a1 F_slots_a1 F_size_a1 V_b1 V_b2 V_b3 X_Arh_b4 (hrg) (hs6) g_a1 g_b1 g_b2 g_b3 g_b4 ne_a1_b1 ne_a1_b2 ne_a1_b3 ne_a1_b4 ne_b1_b2 ne_b1_b3 ne_b1_b4 ne_b2_b3 ne_b2_b4 ne_b3_b4 
    · have hfr2 := hfr.resolve_left hk
      by_cases hm0 : y5 = ia4
      · refine own_go (fun _ k => XS.aloadN X0.here hx rfl (hb hby d3_20) rfl rfl k) ?_
        obtain ⟨T173, X173, e173, st173⟩ := getF X0 hx hZ hown (host := "") (Or.inl (W 20 rfl)) Via.refl e0 F_slots_a1 (g := (mkF m 21 #[.val (.ref a1), .val (.int p2), .val (.int p3), .val (.int p4), .val (.int 2047), .val (.int y5), s6] [(.ref a1)])) rfl rfl (hb hby d3_21)
        refine own_go st173 ?_
        refine own_go (fun _ k => XS.iload X173.here hx rfl (hb hby d3_24) rfl k) ?_
        obtain ⟨cl174, Ar174, q174, S174, N174, H174, G174⟩ := id X_Arh_b4
        have hin174 : ¬ (y5 < 0 ∨ cl174.slots.size ≤ (y5).toNatClampNeg) := inb_of S174 (own_rgIn _ hrg)
        refine own_go (X173.iaload hx (j := y5) (v := (.int 5)) (by rw [e173]; exact Ar174.1) (State.isArrayOf_alike hZ.alike Ar174.2.1) Ar174.2.2 hin174 (atH H174 hin174 (getH_hit (own_rgIn _ hrg).1 hm0)) (g := (mkF m 26 #[.val (.ref a1), .val (.int p2), .val (.int p3), .val (.int p4), .val (.int 2047), .val (.int y5), s6] [(.int y5), (.ref b4)])) rfl rfl (hb hby d3_26)) ?_
        refine own_go (fun _ k => XS.ifNo X173.here hx rfl (hb hby d3_27) rfl ((if0 _ _).trans (feq (by decide : ¬ ((5 : Int32) = (0 : Int32)))).1) k) ?_
        refine own_go (fun _ k => XS.aloadN X173.here hx rfl (hb hby d3_30) rfl rfl k) ?_
        obtain ⟨T175, X175, e175, st175⟩ := getF X173 hx hZ hown (host := "") (Or.inl (W 20 rfl)) Via.refl e173 F_slots_a1 (g := (mkF m 31 #[.val (.ref a1), .val (.int p2), .val (.int p3), .val (.int p4), .val (.int 2047), .val (.int y5), s6] [(.ref a1)])) rfl rfl (hb hby d3_31)
        refine own_go st175 ?_
        refine own_go (fun _ k => XS.iload X175.here hx rfl (hb hby d3_34) rfl k) ?_
        show own_Run p e below _ T175 (mkF m 36 #[.val (.ref a1), .val (.int p2), .val (.int p3), .val (.int p4), .val (.int 2047), .val (.int y5), s6] [(.int y5), (.ref b4)])
        obtain ⟨cl176, Ar176, q176, S176, N176, H176, G176⟩ := id X_Arh_b4
        have hin176 : ¬ (y5 < 0 ∨ cl176.slots.size ≤ (y5).toNatClampNeg) := inb_of S176 (own_rgIn _ hrg)
        refine own_go (X175.iaload hx (j := y5) (v := (.int 5)) (by rw [e175]; exact Ar176.1) (State.isArrayOf_alike hZ.alike Ar176.2.1) Ar176.2.2 hin176 (atH H176 hin176 (getH_hit (own_rgIn _ hrg).1 hm0)) (g := (mkF m 36 #[.val (.ref a1), .val (.int p2), .val (.int p3), .val (.int p4), .val (.int 2047), .val (.int y5), s6] [(.int y5), (.ref b4)])) rfl rfl (hb hby d3_36)) ?_
        refine own_go (fun _ k => XS.iconst X175.here hx rfl (hb hby d3_37) k) ?_
        refine own_go (fun _ k => XS.isub X175.here hx rfl (hb hby d3_38) rfl k) ?_
        show own_Run p e below _ T175 (mkF m 39 #[.val (.ref a1), .val (.int p2), .val (.int p3), .val (.int p4), .val (.int 2047), .val (.int y5), s6] [(.int ((5 : Int32) - (1 : Int32)))])
        rw [show ((5 : Int32) - (1 : Int32)) = (4 : Int32) by decide]
        refine own_go (fun _ k => XS.istore X175.here hx rfl (hb hby d3_39) rfl (l' := #[.val (.ref a1), .val (.int p2), .val (.int p3), .val (.int p4), .val (.int 2047), .val (.int y5), .val (.int 4)]) ((XS.store1 (o := s6) rfl hs6 rfl).trans rfl) k) ?_
        refine own_go (fun _ k => XS.aloadN X175.here hx rfl (hb hby d3_41) rfl rfl k) ?_
        obtain ⟨T177, X177, e177, st177⟩ := getF X175 hx hZ hown (host := "") (Or.inl (W 12 rfl)) Via.refl e175 F_variables_a1 (g := (mkF m 42 #[.val (.ref a1), .val (.int p2), .val (.int p3), .val (.int p4), .val (.int 2047), .val (.int y5), .val (.int 4)] [(.ref a1)])) rfl rfl (hb hby d3_42)
        refine own_go st177 ?_
        refine own_go (fun _ k => XS.iload X177.here hx rfl (hb hby d3_45) rfl k) ?_
        obtain ⟨cl178, Ar178, q178, S178, N178, H178, G178⟩ := id V_b1
        have hin178 : ¬ ((4 : Int32) < 0 ∨ cl178.slots.size ≤ ((4 : Int32)).toNatClampNeg) := inb_of S178 ⟨by decide, by decide⟩
        refine own_go (X177.iaload hx (j := (4 : Int32)) (v := (.int va4)) (by rw [e177]; exact Ar178.1) (State.isArrayOf_alike hZ.alike Ar178.2.1) Ar178.2.2 hin178 (H178.at hin178 rfl) (g := (mkF m 47 #[.val (.ref a1), .val (.int p2), .val (.int p3), .val (.int p4), .val (.int 2047), .val (.int y5), .val (.int 4)] [(.int 4), (.ref b1)])) rfl rfl (hb hby d3_47)) ?_
        refine own_go (fun _ k => XS.iloadN X177.here hx rfl (hb hby d3_48) rfl k) ?_
        refine own_go (fun _ k => XS.icmpYes X177.here hx rfl (pc0 := 49) (pc' := 77) rfl (hb hby d3_49) rfl (feq hv4).2 (by decide) (by decide) k) ?_
        refine own_go (fun _ k => XS.iload X177.here hx rfl (hb hby d3_77) rfl k) ?_
        show own_Run p e below _ T177 (mkF m 79 #[.val (.ref a1), .val (.int p2), .val (.int p3), .val (.int p4), .val (.int 2047), .val (.int y5), .val (.int 4)] [(.int y5)])
        refine own_go (fun _ k => XS.iconst X177.here hx rfl (hb hby d3_79) k) ?_
        refine own_go (fun _ k => XS.iadd X177.here hx rfl (hb hby d3_80) rfl k) ?_
        refine own_go (fun _ k => XS.iload X177.here hx rfl (hb hby d3_81) rfl k) ?_
        refine own_go (fun _ k => XS.iand X177.here hx rfl (hb hby d3_83) rfl k) ?_
        refine own_go (fun _ k => XS.istore X177.here hx rfl (hb hby d3_84) rfl (l' := #[.val (.ref a1), .val (.int p2), .val (.int p3), .val (.int p4), .val (.int 2047), .val (.int ((y5 + (1 : Int32)) &&& (2047 : Int32))), .val (.int 4)]) rfl k) ?_
        refine own_go (fun _ k => XS.goto X177.here hx rfl (pc0 := 86) (pc' := 20) rfl (hb hby d3_86) (by decide) (by decide) k) ?_
        exact ih ((y5 + (1 : Int32)) &&& (2047 : Int32)) (.val (.int 4)) T177 hh _ X177 e177 N0 Z0 K0 E_a1 F_variables_a1 F_lows_a1 F_highs_a1 F_slots_a1 F_size_a1 V_b1 V_b2 V_b3 X_Arh_b4 (own_nxR y5 hrg) (One.val rfl) (hfr2) (hv2) (hv3) (hv4) g_a1 g_b1 g_b2 g_b3 g_b4 ne_a1_b1 ne_a1_b2 ne_a1_b3 ne_a1_b4 ne_b1_b2 ne_b1_b3 ne_b1_b4 ne_b2_b3 ne_b2_b4 ne_b3_b4 
      · by_cases hm1 : y5 = ia3
        · refine own_go (fun _ k => XS.aloadN X0.here hx rfl (hb hby d3_20) rfl rfl k) ?_
          obtain ⟨T179, X179, e179, st179⟩ := getF X0 hx hZ hown (host := "") (Or.inl (W 20 rfl)) Via.refl e0 F_slots_a1 (g := (mkF m 21 #[.val (.ref a1), .val (.int p2), .val (.int p3), .val (.int p4), .val (.int 2047), .val (.int y5), s6] [(.ref a1)])) rfl rfl (hb hby d3_21)
          refine own_go st179 ?_
          refine own_go (fun _ k => XS.iload X179.here hx rfl (hb hby d3_24) rfl k) ?_
          obtain ⟨cl180, Ar180, q180, S180, N180, H180, G180⟩ := id X_Arh_b4
          have hin180 : ¬ (y5 < 0 ∨ cl180.slots.size ≤ (y5).toNatClampNeg) := inb_of S180 (own_rgIn _ hrg)
          refine own_go (X179.iaload hx (j := y5) (v := (.int 4)) (by rw [e179]; exact Ar180.1) (State.isArrayOf_alike hZ.alike Ar180.2.1) Ar180.2.2 hin180 (atH H180 hin180 (getH_miss (own_rgIn _ hrg).1 hm0 (getH_hit (own_rgIn _ hrg).1 hm1))) (g := (mkF m 26 #[.val (.ref a1), .val (.int p2), .val (.int p3), .val (.int p4), .val (.int 2047), .val (.int y5), s6] [(.int y5), (.ref b4)])) rfl rfl (hb hby d3_26)) ?_
          refine own_go (fun _ k => XS.ifNo X179.here hx rfl (hb hby d3_27) rfl ((if0 _ _).trans (feq (by decide : ¬ ((4 : Int32) = (0 : Int32)))).1) k) ?_
          refine own_go (fun _ k => XS.aloadN X179.here hx rfl (hb hby d3_30) rfl rfl k) ?_
          obtain ⟨T181, X181, e181, st181⟩ := getF X179 hx hZ hown (host := "") (Or.inl (W 20 rfl)) Via.refl e179 F_slots_a1 (g := (mkF m 31 #[.val (.ref a1), .val (.int p2), .val (.int p3), .val (.int p4), .val (.int 2047), .val (.int y5), s6] [(.ref a1)])) rfl rfl (hb hby d3_31)
          refine own_go st181 ?_
          refine own_go (fun _ k => XS.iload X181.here hx rfl (hb hby d3_34) rfl k) ?_
          show own_Run p e below _ T181 (mkF m 36 #[.val (.ref a1), .val (.int p2), .val (.int p3), .val (.int p4), .val (.int 2047), .val (.int y5), s6] [(.int y5), (.ref b4)])
          obtain ⟨cl182, Ar182, q182, S182, N182, H182, G182⟩ := id X_Arh_b4
          have hin182 : ¬ (y5 < 0 ∨ cl182.slots.size ≤ (y5).toNatClampNeg) := inb_of S182 (own_rgIn _ hrg)
          refine own_go (X181.iaload hx (j := y5) (v := (.int 4)) (by rw [e181]; exact Ar182.1) (State.isArrayOf_alike hZ.alike Ar182.2.1) Ar182.2.2 hin182 (atH H182 hin182 (getH_miss (own_rgIn _ hrg).1 hm0 (getH_hit (own_rgIn _ hrg).1 hm1))) (g := (mkF m 36 #[.val (.ref a1), .val (.int p2), .val (.int p3), .val (.int p4), .val (.int 2047), .val (.int y5), s6] [(.int y5), (.ref b4)])) rfl rfl (hb hby d3_36)) ?_
          refine own_go (fun _ k => XS.iconst X181.here hx rfl (hb hby d3_37) k) ?_
          refine own_go (fun _ k => XS.isub X181.here hx rfl (hb hby d3_38) rfl k) ?_
          show own_Run p e below _ T181 (mkF m 39 #[.val (.ref a1), .val (.int p2), .val (.int p3), .val (.int p4), .val (.int 2047), .val (.int y5), s6] [(.int ((4 : Int32) - (1 : Int32)))])
          rw [show ((4 : Int32) - (1 : Int32)) = (3 : Int32) by decide]
          refine own_go (fun _ k => XS.istore X181.here hx rfl (hb hby d3_39) rfl (l' := #[.val (.ref a1), .val (.int p2), .val (.int p3), .val (.int p4), .val (.int 2047), .val (.int y5), .val (.int 3)]) ((XS.store1 (o := s6) rfl hs6 rfl).trans rfl) k) ?_
          refine own_go (fun _ k => XS.aloadN X181.here hx rfl (hb hby d3_41) rfl rfl k) ?_
          obtain ⟨T183, X183, e183, st183⟩ := getF X181 hx hZ hown (host := "") (Or.inl (W 12 rfl)) Via.refl e181 F_variables_a1 (g := (mkF m 42 #[.val (.ref a1), .val (.int p2), .val (.int p3), .val (.int p4), .val (.int 2047), .val (.int y5), .val (.int 3)] [(.ref a1)])) rfl rfl (hb hby d3_42)
          refine own_go st183 ?_
          refine own_go (fun _ k => XS.iload X183.here hx rfl (hb hby d3_45) rfl k) ?_
          obtain ⟨cl184, Ar184, q184, S184, N184, H184, G184⟩ := id V_b1
          have hin184 : ¬ ((3 : Int32) < 0 ∨ cl184.slots.size ≤ ((3 : Int32)).toNatClampNeg) := inb_of S184 ⟨by decide, by decide⟩
          refine own_go (X183.iaload hx (j := (3 : Int32)) (v := (.int va3)) (by rw [e183]; exact Ar184.1) (State.isArrayOf_alike hZ.alike Ar184.2.1) Ar184.2.2 hin184 (H184.at hin184 rfl) (g := (mkF m 47 #[.val (.ref a1), .val (.int p2), .val (.int p3), .val (.int p4), .val (.int 2047), .val (.int y5), .val (.int 3)] [(.int 3), (.ref b1)])) rfl rfl (hb hby d3_47)) ?_
          refine own_go (fun _ k => XS.iloadN X183.here hx rfl (hb hby d3_48) rfl k) ?_
          refine own_go (fun _ k => XS.icmpYes X183.here hx rfl (pc0 := 49) (pc' := 77) rfl (hb hby d3_49) rfl (feq hv3).2 (by decide) (by decide) k) ?_
          refine own_go (fun _ k => XS.iload X183.here hx rfl (hb hby d3_77) rfl k) ?_
          show own_Run p e below _ T183 (mkF m 79 #[.val (.ref a1), .val (.int p2), .val (.int p3), .val (.int p4), .val (.int 2047), .val (.int y5), .val (.int 3)] [(.int y5)])
          refine own_go (fun _ k => XS.iconst X183.here hx rfl (hb hby d3_79) k) ?_
          refine own_go (fun _ k => XS.iadd X183.here hx rfl (hb hby d3_80) rfl k) ?_
          refine own_go (fun _ k => XS.iload X183.here hx rfl (hb hby d3_81) rfl k) ?_
          refine own_go (fun _ k => XS.iand X183.here hx rfl (hb hby d3_83) rfl k) ?_
          refine own_go (fun _ k => XS.istore X183.here hx rfl (hb hby d3_84) rfl (l' := #[.val (.ref a1), .val (.int p2), .val (.int p3), .val (.int p4), .val (.int 2047), .val (.int ((y5 + (1 : Int32)) &&& (2047 : Int32))), .val (.int 3)]) rfl k) ?_
          refine own_go (fun _ k => XS.goto X183.here hx rfl (pc0 := 86) (pc' := 20) rfl (hb hby d3_86) (by decide) (by decide) k) ?_
          exact ih ((y5 + (1 : Int32)) &&& (2047 : Int32)) (.val (.int 3)) T183 hh _ X183 e183 N0 Z0 K0 E_a1 F_variables_a1 F_lows_a1 F_highs_a1 F_slots_a1 F_size_a1 V_b1 V_b2 V_b3 X_Arh_b4 (own_nxR y5 hrg) (One.val rfl) (hfr2) (hv2) (hv3) (hv4) g_a1 g_b1 g_b2 g_b3 g_b4 ne_a1_b1 ne_a1_b2 ne_a1_b3 ne_a1_b4 ne_b1_b2 ne_b1_b3 ne_b1_b4 ne_b2_b3 ne_b2_b4 ne_b3_b4 
        · by_cases hm2 : y5 = ia2
          · refine own_go (fun _ k => XS.aloadN X0.here hx rfl (hb hby d3_20) rfl rfl k) ?_
            obtain ⟨T185, X185, e185, st185⟩ := getF X0 hx hZ hown (host := "") (Or.inl (W 20 rfl)) Via.refl e0 F_slots_a1 (g := (mkF m 21 #[.val (.ref a1), .val (.int p2), .val (.int p3), .val (.int p4), .val (.int 2047), .val (.int y5), s6] [(.ref a1)])) rfl rfl (hb hby d3_21)
            refine own_go st185 ?_
            refine own_go (fun _ k => XS.iload X185.here hx rfl (hb hby d3_24) rfl k) ?_
            obtain ⟨cl186, Ar186, q186, S186, N186, H186, G186⟩ := id X_Arh_b4
            have hin186 : ¬ (y5 < 0 ∨ cl186.slots.size ≤ (y5).toNatClampNeg) := inb_of S186 (own_rgIn _ hrg)
            refine own_go (X185.iaload hx (j := y5) (v := (.int 3)) (by rw [e185]; exact Ar186.1) (State.isArrayOf_alike hZ.alike Ar186.2.1) Ar186.2.2 hin186 (atH H186 hin186 (getH_miss (own_rgIn _ hrg).1 hm0 (getH_miss (own_rgIn _ hrg).1 hm1 (getH_hit (own_rgIn _ hrg).1 hm2)))) (g := (mkF m 26 #[.val (.ref a1), .val (.int p2), .val (.int p3), .val (.int p4), .val (.int 2047), .val (.int y5), s6] [(.int y5), (.ref b4)])) rfl rfl (hb hby d3_26)) ?_
            refine own_go (fun _ k => XS.ifNo X185.here hx rfl (hb hby d3_27) rfl ((if0 _ _).trans (feq (by decide : ¬ ((3 : Int32) = (0 : Int32)))).1) k) ?_
            refine own_go (fun _ k => XS.aloadN X185.here hx rfl (hb hby d3_30) rfl rfl k) ?_
            obtain ⟨T187, X187, e187, st187⟩ := getF X185 hx hZ hown (host := "") (Or.inl (W 20 rfl)) Via.refl e185 F_slots_a1 (g := (mkF m 31 #[.val (.ref a1), .val (.int p2), .val (.int p3), .val (.int p4), .val (.int 2047), .val (.int y5), s6] [(.ref a1)])) rfl rfl (hb hby d3_31)
            refine own_go st187 ?_
            refine own_go (fun _ k => XS.iload X187.here hx rfl (hb hby d3_34) rfl k) ?_
            show own_Run p e below _ T187 (mkF m 36 #[.val (.ref a1), .val (.int p2), .val (.int p3), .val (.int p4), .val (.int 2047), .val (.int y5), s6] [(.int y5), (.ref b4)])
            obtain ⟨cl188, Ar188, q188, S188, N188, H188, G188⟩ := id X_Arh_b4
            have hin188 : ¬ (y5 < 0 ∨ cl188.slots.size ≤ (y5).toNatClampNeg) := inb_of S188 (own_rgIn _ hrg)
            refine own_go (X187.iaload hx (j := y5) (v := (.int 3)) (by rw [e187]; exact Ar188.1) (State.isArrayOf_alike hZ.alike Ar188.2.1) Ar188.2.2 hin188 (atH H188 hin188 (getH_miss (own_rgIn _ hrg).1 hm0 (getH_miss (own_rgIn _ hrg).1 hm1 (getH_hit (own_rgIn _ hrg).1 hm2)))) (g := (mkF m 36 #[.val (.ref a1), .val (.int p2), .val (.int p3), .val (.int p4), .val (.int 2047), .val (.int y5), s6] [(.int y5), (.ref b4)])) rfl rfl (hb hby d3_36)) ?_
            refine own_go (fun _ k => XS.iconst X187.here hx rfl (hb hby d3_37) k) ?_
            refine own_go (fun _ k => XS.isub X187.here hx rfl (hb hby d3_38) rfl k) ?_
            show own_Run p e below _ T187 (mkF m 39 #[.val (.ref a1), .val (.int p2), .val (.int p3), .val (.int p4), .val (.int 2047), .val (.int y5), s6] [(.int ((3 : Int32) - (1 : Int32)))])
            rw [show ((3 : Int32) - (1 : Int32)) = (2 : Int32) by decide]
            refine own_go (fun _ k => XS.istore X187.here hx rfl (hb hby d3_39) rfl (l' := #[.val (.ref a1), .val (.int p2), .val (.int p3), .val (.int p4), .val (.int 2047), .val (.int y5), .val (.int 2)]) ((XS.store1 (o := s6) rfl hs6 rfl).trans rfl) k) ?_
            refine own_go (fun _ k => XS.aloadN X187.here hx rfl (hb hby d3_41) rfl rfl k) ?_
            obtain ⟨T189, X189, e189, st189⟩ := getF X187 hx hZ hown (host := "") (Or.inl (W 12 rfl)) Via.refl e187 F_variables_a1 (g := (mkF m 42 #[.val (.ref a1), .val (.int p2), .val (.int p3), .val (.int p4), .val (.int 2047), .val (.int y5), .val (.int 2)] [(.ref a1)])) rfl rfl (hb hby d3_42)
            refine own_go st189 ?_
            refine own_go (fun _ k => XS.iload X189.here hx rfl (hb hby d3_45) rfl k) ?_
            obtain ⟨cl190, Ar190, q190, S190, N190, H190, G190⟩ := id V_b1
            have hin190 : ¬ ((2 : Int32) < 0 ∨ cl190.slots.size ≤ ((2 : Int32)).toNatClampNeg) := inb_of S190 ⟨by decide, by decide⟩
            refine own_go (X189.iaload hx (j := (2 : Int32)) (v := (.int va2)) (by rw [e189]; exact Ar190.1) (State.isArrayOf_alike hZ.alike Ar190.2.1) Ar190.2.2 hin190 (H190.at hin190 rfl) (g := (mkF m 47 #[.val (.ref a1), .val (.int p2), .val (.int p3), .val (.int p4), .val (.int 2047), .val (.int y5), .val (.int 2)] [(.int 2), (.ref b1)])) rfl rfl (hb hby d3_47)) ?_
            refine own_go (fun _ k => XS.iloadN X189.here hx rfl (hb hby d3_48) rfl k) ?_
            refine own_go (fun _ k => XS.icmpYes X189.here hx rfl (pc0 := 49) (pc' := 77) rfl (hb hby d3_49) rfl (feq hv2).2 (by decide) (by decide) k) ?_
            refine own_go (fun _ k => XS.iload X189.here hx rfl (hb hby d3_77) rfl k) ?_
            show own_Run p e below _ T189 (mkF m 79 #[.val (.ref a1), .val (.int p2), .val (.int p3), .val (.int p4), .val (.int 2047), .val (.int y5), .val (.int 2)] [(.int y5)])
            refine own_go (fun _ k => XS.iconst X189.here hx rfl (hb hby d3_79) k) ?_
            refine own_go (fun _ k => XS.iadd X189.here hx rfl (hb hby d3_80) rfl k) ?_
            refine own_go (fun _ k => XS.iload X189.here hx rfl (hb hby d3_81) rfl k) ?_
            refine own_go (fun _ k => XS.iand X189.here hx rfl (hb hby d3_83) rfl k) ?_
            refine own_go (fun _ k => XS.istore X189.here hx rfl (hb hby d3_84) rfl (l' := #[.val (.ref a1), .val (.int p2), .val (.int p3), .val (.int p4), .val (.int 2047), .val (.int ((y5 + (1 : Int32)) &&& (2047 : Int32))), .val (.int 2)]) rfl k) ?_
            refine own_go (fun _ k => XS.goto X189.here hx rfl (pc0 := 86) (pc' := 20) rfl (hb hby d3_86) (by decide) (by decide) k) ?_
            exact ih ((y5 + (1 : Int32)) &&& (2047 : Int32)) (.val (.int 2)) T189 hh _ X189 e189 N0 Z0 K0 E_a1 F_variables_a1 F_lows_a1 F_highs_a1 F_slots_a1 F_size_a1 V_b1 V_b2 V_b3 X_Arh_b4 (own_nxR y5 hrg) (One.val rfl) (hfr2) (hv2) (hv3) (hv4) g_a1 g_b1 g_b2 g_b3 g_b4 ne_a1_b1 ne_a1_b2 ne_a1_b3 ne_a1_b4 ne_b1_b2 ne_b1_b3 ne_b1_b4 ne_b2_b3 ne_b2_b4 ne_b3_b4 
          · exact absurd ⟨hm0, hm1, hm2⟩ hk
set_option maxRecDepth 65536 in
set_option maxHeartbeats 40000000 in
theorem rm3c5 (l : Launch) (Z : State) (a0 : Array Value) (hw : ∀ d ∈ tables_1, d.before a0 Z = true) (ws : List Jvm.Cond) (a1 : Addr) (p2 : Int32) (p3 : Int32) (p4 : Int32) (b1 : Addr) (b2 : Addr) (b3 : Addr) (b4 : Addr) (k1 : ClassId) (k2 : ClassId) (k3 : ClassId) (k4 : ClassId) (va2 : Int32) (va3 : Int32) (va4 : Int32) (la2 : Int32) (la3 : Int32) (la4 : Int32) (ha2 : Int32) (ha3 : Int32) (ha4 : Int32) (ia2 : Int32) (ia3 : Int32) (ia4 : Int32) (h0 : Heap) (n0 : Nat) (Z0 : n0 ≤ h0.size) (E_a1 : Exa Z h0 a1 own_K0) (F_variables_a1 : Fld Z h0 a1 own_K0 "variables" "[I" (.ref b1)) (F_lows_a1 : Fld Z h0 a1 own_K0 "lows" "[I" (.ref b2)) (F_highs_a1 : Fld Z h0 a1 own_K0 "highs" "[I" (.ref b3)) (F_slots_a1 : Fld Z h0 a1 own_K0 "slots" "[I" (.ref b4)) (F_size_a1 : Fld Z h0 a1 own_K0 "size" "I" (.int 5)) (V_b1 : Arv Z h0 b1 k1 .int (1024 : Int32) [(.int 2147483647), (.int 2147483647), (.int va2), (.int va3), (.int va4), (.int 0)] (.int 0)) (V_b2 : Arv Z h0 b2 k2 .int (1024 : Int32) [(.int 0), (.int 0), (.int la2), (.int la3), (.int la4), (.int 0)] (.int 0)) (V_b3 : Arv Z h0 b3 k3 .int (1024 : Int32) [(.int 0), (.int 0), (.int ha2), (.int ha3), (.int ha4), (.int 0)] (.int 0)) (X_Arh_b4 : Arh Z h0 b4 k4 .int (2048 : Int32) [(ia4, (.int 5)), (ia3, (.int 4)), (ia2, (.int 3))] [] (.int 0)) (g_a1 : n0 ≤ a1) (g_b1 : n0 ≤ b1) (g_b2 : n0 ≤ b2) (g_b3 : n0 ≤ b3) (g_b4 : n0 ≤ b4) (ne_a1_b1 : a1 ≠ b1) (ne_a1_b2 : a1 ≠ b2) (ne_a1_b3 : a1 ≠ b3) (ne_a1_b4 : a1 ≠ b4) (ne_b1_b2 : b1 ≠ b2) (ne_b1_b3 : b1 ≠ b3) (ne_b1_b4 : b1 ≠ b4) (ne_b2_b3 : b2 ≠ b3) (ne_b2_b4 : b2 ≠ b4) (ne_b3_b4 : b3 ≠ b4) (hv2 : ¬ (va2 = p2)) (hv3 : ¬ (va3 = p2)) (hv4 : ¬ (va4 = p2)) :
    MetFree l (⟨own_K0, "node", "(III)I"⟩ : MethodName) (head1 (Jvm.Cond.code (⟨own_K0, "node", "(III)I"⟩ : MethodName) prog_20_method_2_code 7 (some .int) :: ws) ({ frames := 1, cells := 0, slots := 0, locals := 15 } : Room)) (fun a U => a = #[(.ref a1), (.int p2), (.int p3), (.int p4)] ∧ Z.Warmed39 U.vm ∧ U.heap = h0) (fun _ _ _ _ _ => True) (fun _ U o U' => ∃ v L, o = .returned v ∧ Q3c5 Z a1 p2 p3 p4 b1 b2 b3 b4 k1 k2 k3 k4 va2 va3 va4 la2 la3 la4 ha2 ha3 ha4 ia2 ia3 ia4 h0 n0 v U'.heap L ∧ FrameEnd U o U' L ({ frames := 1, cells := 0, slots := 0, locals := 15 } : Room).cells ({ frames := 1, cells := 0, slots := 0, locals := 15 } : Room).slots) := by
  refine MetFree.of_bodySF (plainFor_of_name pn_3) hisR ?_
  intro p e s m args below meth c s₁ Bd hml0 hP hK
  obtain ⟨rfl, hZ, hh⟩ := hP
  have hx := Bd.exec
  have hby := Bd.bytes
  have hml : c.maxLocals = 7 := hml0
  have hown : s.vm.findClass own_K0 = some m.cls := findClass_of_methodNamed Bd.named
  have hnm := (name_of_methodNamed Bd.named Bd.method).1
  have hret := Bd.returns
  have hlk : meth.locks = false := BodyLoose.notSynchronized Bd
  have X0 : Stand p l e ({ frames := 1, cells := 0, slots := 0, locals := 15 } : Room) s m #[(.ref a1), (.int p2), (.int p3), (.int p4)] below meth c s₁ [] 0 0 := Stand.of_body Bd
  have e0 : s₁.heap = h0 := by rw [← hh, Bd.state]; rfl
  have N0 := Fr.nil n0
  have W := fun (k : Nat) {d : Jvm.Cond} (h : tables_1[k]? = some d) => hw d (List.mem_of_getElem? h)
  have K0 : Keep h0 h0 [a1, b1, b2, b3, b4] := Keep.refl _ _
  refine own_start (ef_3 m a1 p2 p3 p4) ?_
  show own_Run p e below _ s₁ (mkF m 0 #[.val (.ref a1), .val (.int p2), .val (.int p3), .val (.int p4), .unset, .unset, .unset] [])
  refine own_go (fun _ k => XS.aloadN X0.here hx rfl (hb hby d3_0) rfl rfl k) ?_
  obtain ⟨T191, X191, e191, st191⟩ := getF X0 hx hZ hown (host := "") (Or.inl (W 20 rfl)) Via.refl e0 F_slots_a1 (g := (mkF m 1 #[.val (.ref a1), .val (.int p2), .val (.int p3), .val (.int p4), .unset, .unset, .unset] [(.ref a1)])) rfl rfl (hb hby d3_1)
  refine own_go st191 ?_
  obtain ⟨cl192, Ar192, q192, S192, N192, H192, G192⟩ := id X_Arh_b4
  refine own_go (X191.arraylength hx (by rw [e191]; exact Ar192.1) (State.isArrayOf_alike hZ.alike Ar192.2.1) (g := (mkF m 4 #[.val (.ref a1), .val (.int p2), .val (.int p3), .val (.int p4), .unset, .unset, .unset] [(.ref b4)])) rfl rfl (hb hby d3_4)) ?_
  rw [len_of S192 N192]
  refine own_go (fun _ k => XS.iconst X191.here hx rfl (hb hby d3_5) k) ?_
  refine own_go (fun _ k => XS.isub X191.here hx rfl (hb hby d3_6) rfl k) ?_
  show own_Run p e below _ T191 (mkF m 7 #[.val (.ref a1), .val (.int p2), .val (.int p3), .val (.int p4), .unset, .unset, .unset] [(.int ((2048 : Int32) - (1 : Int32)))])
  rw [show ((2048 : Int32) - (1 : Int32)) = (2047 : Int32) by decide]
  refine own_go (fun _ k => XS.istore X191.here hx rfl (hb hby d3_7) rfl (l' := #[.val (.ref a1), .val (.int p2), .val (.int p3), .val (.int p4), .val (.int 2047), .unset, .unset]) rfl k) ?_
  refine own_go (fun _ k => XS.iloadN X191.here hx rfl (hb hby d3_9) rfl k) ?_
  refine own_go (fun _ k => XS.iloadN X191.here hx rfl (hb hby d3_10) rfl k) ?_
  refine own_go (fun _ k => XS.iloadN X191.here hx rfl (hb hby d3_11) rfl k) ?_
  obtain ⟨_, _, ⟨T193, L193, k193, n193⟩, -, X193, ⟨Lc193, hQ193, l193, y193, z193⟩, st193⟩ := Jvm.LawKit.callS X191 hx (y := (⟨own_K0, "hash", "(III)I"⟩ : MethodName)) hown (mvT hZ (W 28 rfl)) (mvT hZ (W 29 rfl)) (mvT hZ (W 4 rfl)) (mvT hZ (W 30 rfl)) (by decide) (backOf (W := 0) (rm4 l Z a0 hw [] p2 p3 p4 h0 n0 Z0 ) hZ (W 30 rfl) (W 4 rfl) (by decide) (by decide)) (g := (mkF m 12 #[.val (.ref a1), .val (.int p2), .val (.int p3), .val (.int p4), .val (.int 2047), .unset, .unset] [(.int p4), (.int p3), (.int p2)])) rfl (by rw [hml]; rfl) (argsL := [(.int p2), (.int p3), (.int p4)]) (rest := []) (lenOf pd_1 rfl) rfl (by show 2 * 0 + _ ≤ _; exact Nat.le_of_eq rfl) (hb hby d3_12) (fun _ _ => ⟨rfl, e191, (by decide : 0 + 0 ≤ _), (by decide : 0 + 0 ≤ _)⟩)
  dsimp only [Pt.U, Pt.locs, Pt.cells, Pt.slots] at X193 l193 y193 z193 st193 hQ193
  subst l193 y193 z193
  obtain ⟨rfl, N193q, e193⟩ := hQ193
  have N193 := Fr.app N0 N193q
  refine own_go st193 ?_
  refine own_go (fun _ k => XS.iload X193.here hx rfl (hb hby d3_15) rfl k) ?_
  refine own_go (fun _ k => XS.iand X193.here hx rfl (hb hby d3_17) rfl k) ?_
  show own_Run p e below _ T193 (mkF m 18 #[.val (.ref a1), .val (.int p2), .val (.int p3), .val (.int p4), .val (.int 2047), .unset, .unset] [(.int ((own_hash p2 p3 p4) &&& (2047 : Int32)))])
  obtain ⟨y5, hy5⟩ : ∃ z, z = ((own_hash p2 p3 p4) &&& (2047 : Int32)) := ⟨_, rfl⟩
  rw [← hy5]
  have hrg : own_rg y5 := by rw [hy5]; exact own_rgH _
  refine own_go (fun _ k => XS.istore X193.here hx rfl (hb hby d3_18) rfl (l' := #[.val (.ref a1), .val (.int p2), .val (.int p3), .val (.int p4), .val (.int 2047), .val (.int y5), .unset]) rfl k) ?_
  exact nd5 a1 p2 p3 p4 b1 b2 b3 b4 k1 k2 k3 k4 va2 va3 va4 la2 la3 la4 ha2 ha3 ha4 ia2 ia3 ia4 h0 n0 hx hZ hw hby hml hown hnm hret hlk 3 y5 (.unset) T193 h0 _ X193 e193 N193 Z0 K0 E_a1 F_variables_a1 F_lows_a1 F_highs_a1 F_slots_a1 F_size_a1 V_b1 V_b2 V_b3 X_Arh_b4 (hrg) (One.u) (own_pig ia4 ia3 ia2 y5 hrg) (hv2) (hv3) (hv4) g_a1 g_b1 g_b2 g_b3 g_b4 ne_a1_b1 ne_a1_b2 ne_a1_b3 ne_a1_b4 ne_b1_b2 ne_b1_b3 ne_b1_b4 ne_b2_b3 ne_b2_b4 ne_b3_b4 
def own_HV (r nn : Int32) (vs : List Value) (l2 h2 l3 h3 l4 h4 l5 h5 : Int32) : Prop := (r = (0 : Int32) ∧ nn = (1 : Int32) ∧ vs = [(.int (own_g0_2 (0 : Int32) l2 h2 l3 h3 l4 h4 l5 h5))]) ∨ (r = (1 : Int32) ∧ nn = (2 : Int32) ∧ vs = [(.int (own_g0_2 (1 : Int32) l2 h2 l3 h3 l4 h4 l5 h5)), (.int (own_g1_2 (1 : Int32) l2 h2 l3 h3 l4 h4 l5 h5))]) ∨ (r = (2 : Int32) ∧ nn = (3 : Int32) ∧ vs = [(.int (own_g0_2 (2 : Int32) l2 h2 l3 h3 l4 h4 l5 h5)), (.int (own_g1_2 (2 : Int32) l2 h2 l3 h3 l4 h4 l5 h5)), (.int (own_g2_3 (2 : Int32) l2 h2 l3 h3 l4 h4 l5 h5))]) ∨ (r = (3 : Int32) ∧ nn = (4 : Int32) ∧ vs = [(.int (own_g0_2 (3 : Int32) l2 h2 l3 h3 l4 h4 l5 h5)), (.int (own_g1_2 (3 : Int32) l2 h2 l3 h3 l4 h4 l5 h5)), (.int (own_g2_3 (3 : Int32) l2 h2 l3 h3 l4 h4 l5 h5)), (.int (own_g3_4 (3 : Int32) l2 h2 l3 h3 l4 h4 l5 h5))]) ∨ (r = (4 : Int32) ∧ nn = (5 : Int32) ∧ vs = [(.int (own_g0_2 (4 : Int32) l2 h2 l3 h3 l4 h4 l5 h5)), (.int (own_g1_2 (4 : Int32) l2 h2 l3 h3 l4 h4 l5 h5)), (.int (own_g2_3 (4 : Int32) l2 h2 l3 h3 l4 h4 l5 h5)), (.int (own_g3_4 (4 : Int32) l2 h2 l3 h3 l4 h4 l5 h5)), (.int (own_g4_5 (4 : Int32) l2 h2 l3 h3 l4 h4 l5 h5))]) ∨ (r = (5 : Int32) ∧ nn = (6 : Int32) ∧ vs = [(.int (own_g0_2 (5 : Int32) l2 h2 l3 h3 l4 h4 l5 h5)), (.int (own_g1_2 (5 : Int32) l2 h2 l3 h3 l4 h4 l5 h5)), (.int (own_g2_3 (5 : Int32) l2 h2 l3 h3 l4 h4 l5 h5)), (.int (own_g3_4 (5 : Int32) l2 h2 l3 h3 l4 h4 l5 h5)), (.int (own_g4_5 (5 : Int32) l2 h2 l3 h3 l4 h4 l5 h5)), (.int (own_g5_6 (5 : Int32) l2 h2 l3 h3 l4 h4 l5 h5))])
def Q5 (Z : State) (a1 : Addr) (p2 : Int32) (b2 : Addr) (b3 : Addr) (k2 : ClassId) (k3 : ClassId) (la2 : Int32) (ha2 : Int32) (la3 : Int32) (ha3 : Int32) (la4 : Int32) (ha4 : Int32) (la5 : Int32) (ha5 : Int32) (h0 : Heap) (n0 : Nat) (v : Option Value) (h : Heap) (L : List Loc) : Prop := ∃ (b : Addr) (kb : ClassId) (nn : Int32) (vs : List Value), v = some (.ref b) ∧ Fr n0 L ∧ Keep h0 h [] ∧ Arv Z h b kb .boolean nn vs (.int 0) ∧ h0.size ≤ b ∧ (own_HV p2 nn vs la2 ha2 la3 ha3 la4 ha4 la5 ha5)
theorem d5_0 : decode prog_20_method_9_code 0 = .ok (.iload_n 1, 1) := by decide +kernel
theorem d5_1 : decode prog_20_method_9_code 1 = .ok (.iconst 1, 1) := by decide +kernel
theorem d5_2 : decode prog_20_method_9_code 2 = .ok (.iadd, 1) := by decide +kernel
theorem d5_3 : decode prog_20_method_9_code 3 = .ok (.newarray .boolean, 2) := by decide +kernel
theorem d5_5 : decode prog_20_method_9_code 5 = .ok (.astore_n 2, 1) := by decide +kernel
theorem d5_6 : decode prog_20_method_9_code 6 = .ok (.aload_n 2, 1) := by decide +kernel
theorem d5_7 : decode prog_20_method_9_code 7 = .ok (.iload_n 1, 1) := by decide +kernel
theorem d5_8 : decode prog_20_method_9_code 8 = .ok (.iconst 1, 1) := by decide +kernel
theorem d5_9 : decode prog_20_method_9_code 9 = .ok (.bastore, 1) := by decide +kernel
theorem d5_10 : decode prog_20_method_9_code 10 = .ok (.iload_n 1, 1) := by decide +kernel
theorem d5_11 : decode prog_20_method_9_code 11 = .ok (.istore_n 3, 1) := by decide +kernel
theorem d5_12 : decode prog_20_method_9_code 12 = .ok (.iload_n 3, 1) := by decide +kernel
theorem d5_13 : decode prog_20_method_9_code 13 = .ok (.iconst 2, 1) := by decide +kernel
theorem d5_14 : decode prog_20_method_9_code 14 = .ok (.if_icmp .lt 33, 3) := by decide +kernel
theorem d5_17 : decode prog_20_method_9_code 17 = .ok (.aload_n 2, 1) := by decide +kernel
theorem d5_18 : decode prog_20_method_9_code 18 = .ok (.iload_n 3, 1) := by decide +kernel
theorem d5_19 : decode prog_20_method_9_code 19 = .ok (.baload, 1) := by decide +kernel
theorem d5_20 : decode prog_20_method_9_code 20 = .ok (.ifCond .eq 21, 3) := by decide +kernel
theorem d5_23 : decode prog_20_method_9_code 23 = .ok (.aload_n 2, 1) := by decide +kernel
theorem d5_24 : decode prog_20_method_9_code 24 = .ok (.aload_n 0, 1) := by decide +kernel
theorem d5_25 : decode prog_20_method_9_code 25 = .ok (.getfield 15, 3) := by decide +kernel
theorem d5_28 : decode prog_20_method_9_code 28 = .ok (.iload_n 3, 1) := by decide +kernel
theorem d5_29 : decode prog_20_method_9_code 29 = .ok (.iaload, 1) := by decide +kernel
theorem d5_30 : decode prog_20_method_9_code 30 = .ok (.iconst 1, 1) := by decide +kernel
theorem d5_31 : decode prog_20_method_9_code 31 = .ok (.bastore, 1) := by decide +kernel
theorem d5_32 : decode prog_20_method_9_code 32 = .ok (.aload_n 2, 1) := by decide +kernel
theorem d5_33 : decode prog_20_method_9_code 33 = .ok (.aload_n 0, 1) := by decide +kernel
theorem d5_34 : decode prog_20_method_9_code 34 = .ok (.getfield 18, 3) := by decide +kernel
theorem d5_37 : decode prog_20_method_9_code 37 = .ok (.iload_n 3, 1) := by decide +kernel
theorem d5_38 : decode prog_20_method_9_code 38 = .ok (.iaload, 1) := by decide +kernel
theorem d5_39 : decode prog_20_method_9_code 39 = .ok (.iconst 1, 1) := by decide +kernel
theorem d5_40 : decode prog_20_method_9_code 40 = .ok (.bastore, 1) := by decide +kernel
theorem d5_41 : decode prog_20_method_9_code 41 = .ok (.iinc 3 (-1), 3) := by decide +kernel
theorem d5_44 : decode prog_20_method_9_code 44 = .ok (.goto (-32), 3) := by decide +kernel
theorem d5_47 : decode prog_20_method_9_code 47 = .ok (.aload_n 2, 1) := by decide +kernel
theorem d5_48 : decode prog_20_method_9_code 48 = .ok (.areturn, 1) := by decide +kernel
theorem pn_5 : plainName "com/example/error_to_hazard/errortohazard/analysis/NodeTable" = true := by first | (simp [plainName, overriddenIn]; done) | decide +kernel
set_option maxRecDepth 65536 in
set_option maxHeartbeats 40000000 in
theorem rs2_1 {p : Program} {l : Launch} {e : Env} {s : State} {m : MethodId} {args : Array Value} {below : List Frame} {meth : Method} {c : Code} {Z : State} {a0 : Array Value} (a1 : Addr) (p2 : Int32) (b2 : Addr) (b3 : Addr) (k2 : ClassId) (k3 : ClassId) (la2 : Int32) (ha2 : Int32) (la3 : Int32) (ha3 : Int32) (la4 : Int32) (ha4 : Int32) (la5 : Int32) (ha5 : Int32) (h0 : Heap) (n0 : Nat) (hx : p.tables.exec = Jvm.exec) (hZ : Z.Warmed39 s.vm) (hw : ∀ d ∈ tables_1, d.before a0 Z = true) (hby : c.code = prog_20_method_9_code) (hml : c.maxLocals = 4) (hown : s.vm.findClass own_K0 = some m.cls) (hnm : meth.name = "reachable") (hret : meth.sig.returnType = some (.array .boolean)) (hlk : meth.locks = false)
    (bb : Addr) (kb : ClassId) (T0 : State) (hh : Heap) (locs : List Loc) (X0 : Stand p l e ({ frames := 0, cells := 1, slots := 6, locals := 0 } : Room) s m args below meth c T0 locs 1 6) (e0 : T0.heap = hh) (N0 : Fr n0 locs) (Z0 : n0 ≤ hh.size) (K0 : Keep h0 hh []) (F_lows_a1 : Fld Z hh a1 own_K0 "lows" "[I" (.ref b2)) (F_highs_a1 : Fld Z hh a1 own_K0 "highs" "[I" (.ref b3)) (V_b2 : Arv Z hh b2 k2 .int (1024 : Int32) [(.int 0), (.int 0), (.int la2), (.int la3), (.int la4), (.int la5)] (.int 0)) (V_b3 : Arv Z hh b3 k3 .int (1024 : Int32) [(.int 0), (.int 0), (.int ha2), (.int ha3), (.int ha4), (.int ha5)] (.int 0)) (V_bb : Arv Z hh bb kb .boolean (3 : Int32) [(.int (own_g0_2 (2 : Int32) la2 ha2 la3 ha3 la4 ha4 la5 ha5)), (.int (own_g1_2 (2 : Int32) la2 ha2 la3 ha3 la4 ha4 la5 ha5)), (.int (own_g2_3 (2 : Int32) la2 ha2 la3 ha3 la4 ha4 la5 ha5))] (.int 0)) (hp2 : p2 = (2 : Int32)) (r_la2 : la2 = (0 : Int32) ∨ la2 = (1 : Int32)) (r_ha2 : ha2 = (0 : Int32) ∨ ha2 = (1 : Int32)) (r_la3 : la3 = (0 : Int32) ∨ la3 = (1 : Int32) ∨ la3 = (2 : Int32)) (r_ha3 : ha3 = (0 : Int32) ∨ ha3 = (1 : Int32) ∨ ha3 = (2 : Int32)) (r_la4 : la4 = (0 : Int32) ∨ la4 = (1 : Int32) ∨ la4 = (2 : Int32) ∨ la4 = (3 : Int32)) (r_ha4 : ha4 = (0 : Int32) ∨ ha4 = (1 : Int32) ∨ ha4 = (2 : Int32) ∨ ha4 = (3 : Int32)) (r_la5 : la5 = (0 : Int32) ∨ la5 = (1 : Int32) ∨ la5 = (2 : Int32) ∨ la5 = (3 : Int32) ∨ la5 = (4 : Int32)) (r_ha5 : ha5 = (0 : Int32) ∨ ha5 = (1 : Int32) ∨ ha5 = (2 : Int32) ∨ ha5 = (3 : Int32) ∨ ha5 = (4 : Int32)) (g_bb : n0 ≤ bb) (sz_bb : h0.size ≤ bb) (ne_b2_bb : b2 ≠ bb) (ne_b3_bb : b3 ≠ bb) (ne_a1_bb : a1 ≠ bb) :
    own_Run p e below (fun o U' => ∃ v L, o = .returned v ∧ Q5 Z a1 p2 b2 b3 k2 k3 la2 ha2 la3 ha3 la4 ha4 la5 ha5 h0 n0 v U'.heap L ∧ FrameEnd s o U' L ({ frames := 0, cells := 1, slots := 6, locals := 0 } : Room).cells ({ frames := 0, cells := 1, slots := 6, locals := 0 } : Room).slots) T0 (mkF m 12 #[.val (.ref a1), .val (.int 2), .val (.ref bb), .val (.int 1)] []) := by
  have W := fun (k : Nat) {d : Jvm.Cond} (h : tables_1[k]? = some d) => hw d (List.mem_of_getElem? h)
  show own_Run p e below _ T0 (mkF m 12 #[.val (.ref a1), .val (.int 2), .val (.ref bb), .val (.int 1)] [])
  subst hp2
  show own_Run p e below _ T0 (mkF m 12 #[.val (.ref a1), .val (.int 2), .val (.ref bb), .val (.int 1)] [])
  refine own_go (fun _ k => XS.iloadN X0.here hx rfl (hb hby d5_12) rfl k) ?_
  refine own_go (fun _ k => XS.iconst X0.here hx rfl (hb hby d5_13) k) ?_
  refine own_go (fun _ k => XS.icmpYes X0.here hx rfl (pc0 := 14) (pc' := 47) rfl (hb hby d5_14) rfl (tlt (by decide : (1 : Int32) < (2 : Int32))).1 (by decide) (by decide) k) ?_
  refine own_go (fun _ k => XS.aloadN X0.here hx rfl (hb hby d5_47) rfl rfl k) ?_
  refine own_done (Q := fun v h L => Q5 Z a1 (2 : Int32) b2 b3 k2 k3 la2 ha2 la3 ha3 la4 ha4 la5 ha5 h0 n0 v h L) (v := (some (.ref bb))) X0 (fun h => by rw [hret] at h; cases h) hlk (fun fs hr => own_retA X0 hx hret rfl rfl rfl (hb hby d5_48) hr) ?_ (by decide) (by decide)
  show Q5 Z a1 (2 : Int32) b2 b3 k2 k3 la2 ha2 la3 ha3 la4 ha4 la5 ha5 h0 n0 _ T0.heap _
  rw [e0]
  exact ⟨bb, kb, (3 : Int32), [(.int (own_g0_2 (2 : Int32) la2 ha2 la3 ha3 la4 ha4 la5 ha5)), (.int (own_g1_2 (2 : Int32) la2 ha2 la3 ha3 la4 ha4 la5 ha5)), (.int (own_g2_3 (2 : Int32) la2 ha2 la3 ha3 la4 ha4 la5 ha5))], rfl, N0, K0, V_bb, sz_bb, Or.inr (Or.inr (Or.inl ⟨rfl, rfl, rfl⟩))⟩
set_option maxRecDepth 65536 in
set_option maxHeartbeats 40000000 in
theorem rs2_2 {p : Program} {l : Launch} {e : Env} {s : State} {m : MethodId} {args : Array Value} {below : List Frame} {meth : Method} {c : Code} {Z : State} {a0 : Array Value} (a1 : Addr) (p2 : Int32) (b2 : Addr) (b3 : Addr) (k2 : ClassId) (k3 : ClassId) (la2 : Int32) (ha2 : Int32) (la3 : Int32) (ha3 : Int32) (la4 : Int32) (ha4 : Int32) (la5 : Int32) (ha5 : Int32) (h0 : Heap) (n0 : Nat) (hx : p.tables.exec = Jvm.exec) (hZ : Z.Warmed39 s.vm) (hw : ∀ d ∈ tables_1, d.before a0 Z = true) (hby : c.code = prog_20_method_9_code) (hml : c.maxLocals = 4) (hown : s.vm.findClass own_K0 = some m.cls) (hnm : meth.name = "reachable") (hret : meth.sig.returnType = some (.array .boolean)) (hlk : meth.locks = false)
    (bb : Addr) (kb : ClassId) (T0 : State) (hh : Heap) (locs : List Loc) (X0 : Stand p l e ({ frames := 0, cells := 1, slots := 6, locals := 0 } : Room) s m args below meth c T0 locs 1 6) (e0 : T0.heap = hh) (N0 : Fr n0 locs) (Z0 : n0 ≤ hh.size) (K0 : Keep h0 hh []) (F_lows_a1 : Fld Z hh a1 own_K0 "lows" "[I" (.ref b2)) (F_highs_a1 : Fld Z hh a1 own_K0 "highs" "[I" (.ref b3)) (V_b2 : Arv Z hh b2 k2 .int (1024 : Int32) [(.int 0), (.int 0), (.int la2), (.int la3), (.int la4), (.int la5)] (.int 0)) (V_b3 : Arv Z hh b3 k3 .int (1024 : Int32) [(.int 0), (.int 0), (.int ha2), (.int ha3), (.int ha4), (.int ha5)] (.int 0)) (V_bb : Arv Z hh bb kb .boolean (3 : Int32) [(.int (own_g0_3 (2 : Int32) la2 ha2 la3 ha3 la4 ha4 la5 ha5)), (.int (own_g1_3 (2 : Int32) la2 ha2 la3 ha3 la4 ha4 la5 ha5)), (.int (own_g2_3 (2 : Int32) la2 ha2 la3 ha3 la4 ha4 la5 ha5))] (.int 0)) (hp2 : p2 = (2 : Int32)) (r_la2 : la2 = (0 : Int32) ∨ la2 = (1 : Int32)) (r_ha2 : ha2 = (0 : Int32) ∨ ha2 = (1 : Int32)) (r_la3 : la3 = (0 : Int32) ∨ la3 = (1 : Int32) ∨ la3 = (2 : Int32)) (r_ha3 : ha3 = (0 : Int32) ∨ ha3 = (1 : Int32) ∨ ha3 = (2 : Int32)) (r_la4 : la4 = (0 : Int32) ∨ la4 = (1 : Int32) ∨ la4 = (2 : Int32) ∨ la4 = (3 : Int32)) (r_ha4 : ha4 = (0 : Int32) ∨ ha4 = (1 : Int32) ∨ ha4 = (2 : Int32) ∨ ha4 = (3 : Int32)) (r_la5 : la5 = (0 : Int32) ∨ la5 = (1 : Int32) ∨ la5 = (2 : Int32) ∨ la5 = (3 : Int32) ∨ la5 = (4 : Int32)) (r_ha5 : ha5 = (0 : Int32) ∨ ha5 = (1 : Int32) ∨ ha5 = (2 : Int32) ∨ ha5 = (3 : Int32) ∨ ha5 = (4 : Int32)) (g_bb : n0 ≤ bb) (sz_bb : h0.size ≤ bb) (ne_b2_bb : b2 ≠ bb) (ne_b3_bb : b3 ≠ bb) (ne_a1_bb : a1 ≠ bb) :
    own_Run p e below (fun o U' => ∃ v L, o = .returned v ∧ Q5 Z a1 p2 b2 b3 k2 k3 la2 ha2 la3 ha3 la4 ha4 la5 ha5 h0 n0 v U'.heap L ∧ FrameEnd s o U' L ({ frames := 0, cells := 1, slots := 6, locals := 0 } : Room).cells ({ frames := 0, cells := 1, slots := 6, locals := 0 } : Room).slots) T0 (mkF m 12 #[.val (.ref a1), .val (.int 2), .val (.ref bb), .val (.int 2)] []) := by
  have W := fun (k : Nat) {d : Jvm.Cond} (h : tables_1[k]? = some d) => hw d (List.mem_of_getElem? h)
  show own_Run p e below _ T0 (mkF m 12 #[.val (.ref a1), .val (.int 2), .val (.ref bb), .val (.int 2)] [])
  subst hp2
  show own_Run p e below _ T0 (mkF m 12 #[.val (.ref a1), .val (.int 2), .val (.ref bb), .val (.int 2)] [])
  refine own_go (fun _ k => XS.iloadN X0.here hx rfl (hb hby d5_12) rfl k) ?_
  refine own_go (fun _ k => XS.iconst X0.here hx rfl (hb hby d5_13) k) ?_
  refine own_go (fun _ k => XS.icmpNo X0.here hx rfl (hb hby d5_14) rfl (flt (by decide : ¬ ((2 : Int32) < (2 : Int32)))).1 k) ?_
  refine own_go (fun _ k => XS.aloadN X0.here hx rfl (hb hby d5_17) rfl rfl k) ?_
  refine own_go (fun _ k => XS.iloadN X0.here hx rfl (hb hby d5_18) rfl k) ?_
  obtain ⟨cl194, Ar194, q194, S194, N194, H194, G194⟩ := id V_bb
  have hin194 : ¬ ((2 : Int32) < 0 ∨ cl194.slots.size ≤ ((2 : Int32)).toNatClampNeg) := inb_of S194 ⟨by decide, by decide⟩
  refine own_go (X0.baloadBooleans hx (j := (2 : Int32)) (v := (.int (own_g2_3 (2 : Int32) la2 ha2 la3 ha3 la4 ha4 la5 ha5))) (by rw [e0]; exact Ar194.1) (State.isArrayOf_alike hZ.alike Ar194.2.1) Ar194.2.2 hin194 (H194.at hin194 rfl) (g := (mkF m 19 #[.val (.ref a1), .val (.int 2), .val (.ref bb), .val (.int 2)] [(.int 2), (.ref bb)])) rfl rfl (hb hby d5_19)) ?_
  by_cases hb2 : (own_g2_3 (2 : Int32) la2 ha2 la3 ha3 la4 ha4 la5 ha5) = (0 : Int32)
  · refine own_go (fun _ k => XS.ifYes X0.here hx rfl (pc0 := 20) (pc' := 41) rfl (hb hby d5_20) rfl ((if0 _ _).trans (teq hb2).1) (by decide) (by decide) k) ?_
    have Vq : Arv Z hh bb kb .boolean (3 : Int32) [(.int (own_g0_2 (2 : Int32) la2 ha2 la3 ha3 la4 ha4 la5 ha5)), (.int (own_g1_2 (2 : Int32) la2 ha2 la3 ha3 la4 ha4 la5 ha5)), (.int (own_g2_3 (2 : Int32) la2 ha2 la3 ha3 la4 ha4 la5 ha5))] (.int 0) := by
      rw [show (own_g0_2 (2 : Int32) la2 ha2 la3 ha3 la4 ha4 la5 ha5) = (own_g0_3 (2 : Int32) la2 ha2 la3 ha3 la4 ha4 la5 ha5) from own_st0 _ _ _ _ _ hb2]
      rw [show (own_g1_2 (2 : Int32) la2 ha2 la3 ha3 la4 ha4 la5 ha5) = (own_g1_3 (2 : Int32) la2 ha2 la3 ha3 la4 ha4 la5 ha5) from own_st0 _ _ _ _ _ hb2]
      exact V_bb
    refine own_go (fun _ k => XS.iinc X0.here hx rfl (hb hby d5_41) rfl (l' := #[.val (.ref a1), .val (.int 2), .val (.ref bb), .val (.int ((2 : Int32) + (-1 : Int32)))]) rfl k) ?_
    show own_Run p e below _ T0 (mkF m 44 #[.val (.ref a1), .val (.int 2), .val (.ref bb), .val (.int ((2 : Int32) + (-1 : Int32)))] [])
    rw [show ((2 : Int32) + (-1 : Int32)) = (1 : Int32) by decide]
    refine own_go (fun _ k => XS.goto X0.here hx rfl (pc0 := 44) (pc' := 12) rfl (hb hby d5_44) (by decide) (by decide) k) ?_
    exact rs2_1 a1 (2 : Int32) b2 b3 k2 k3 la2 ha2 la3 ha3 la4 ha4 la5 ha5 h0 n0 hx hZ hw hby hml hown hnm hret hlk bb kb T0 hh _ X0 e0 N0 Z0 K0 F_lows_a1 F_highs_a1 V_b2 V_b3 Vq (rfl) (r_la2) (r_ha2) (r_la3) (r_ha3) (r_la4) (r_ha4) (r_la5) (r_ha5) g_bb sz_bb ne_b2_bb ne_b3_bb ne_a1_bb 
  · refine own_go (fun _ k => XS.ifNo X0.here hx rfl (hb hby d5_20) rfl ((if0 _ _).trans (feq hb2).1) k) ?_
    refine own_go (fun _ k => XS.aloadN X0.here hx rfl (hb hby d5_23) rfl rfl k) ?_
    show own_Run p e below _ T0 (mkF m 24 #[.val (.ref a1), .val (.int 2), .val (.ref bb), .val (.int 2)] [(.ref bb)])
    refine own_go (fun _ k => XS.aloadN X0.here hx rfl (hb hby d5_24) rfl rfl k) ?_
    obtain ⟨T195, X195, e195, st195⟩ := getF X0 hx hZ hown (host := "") (Or.inl (W 14 rfl)) Via.refl e0 F_lows_a1 (g := (mkF m 25 #[.val (.ref a1), .val (.int 2), .val (.ref bb), .val (.int 2)] [(.ref a1), (.ref bb)])) rfl rfl (hb hby d5_25)
    refine own_go st195 ?_
    refine own_go (fun _ k => XS.iloadN X195.here hx rfl (hb hby d5_28) rfl k) ?_
    obtain ⟨cl196, Ar196, q196, S196, N196, H196, G196⟩ := id V_b2
    have hin196 : ¬ ((2 : Int32) < 0 ∨ cl196.slots.size ≤ ((2 : Int32)).toNatClampNeg) := inb_of S196 ⟨by decide, by decide⟩
    refine own_go (X195.iaload hx (j := (2 : Int32)) (v := (.int la2)) (by rw [e195]; exact Ar196.1) (State.isArrayOf_alike hZ.alike Ar196.2.1) Ar196.2.2 hin196 (H196.at hin196 rfl) (g := (mkF m 29 #[.val (.ref a1), .val (.int 2), .val (.ref bb), .val (.int 2)] [(.int 2), (.ref b2), (.ref bb)])) rfl rfl (hb hby d5_29)) ?_
    refine own_go (fun _ k => XS.iconst X195.here hx rfl (hb hby d5_30) k) ?_
    obtain ⟨cl197, Ar197, q197, S197, N197, H197, G197⟩ := id V_bb
    have hin197 : ¬ (la2 < 0 ∨ cl197.slots.size ≤ (la2).toNatClampNeg) := inb_of S197 (by rcases r_la2 with hq | hq <;> rw [hq] <;> exact ⟨by decide, by decide⟩)
    obtain ⟨T198, h198, X198, e198, W198, st198⟩ := stZ X195 hx hZ e195 Ar197 (j := la2) hin197 (g := (mkF m 31 #[.val (.ref a1), .val (.int 2), .val (.ref bb), .val (.int 2)] [(.int 1), (.int la2), (.ref bb)])) rfl rfl (hb hby d5_31)
    refine own_go st198 ?_
    show own_Run p e below _ T198 (mkF m 32 #[.val (.ref a1), .val (.int 2), .val (.ref bb), .val (.int 2)] [])
    have Z0_c199 := Nat.le_trans Z0 (Keep.of_wr W198).1
    have K0_c199 := K0.wr W198 (Or.inr sz_bb)
    have F_lows_a1_c199 := F_lows_a1.other W198 (Or.inl ne_a1_bb)
    have F_highs_a1_c199 := F_highs_a1.other W198 (Or.inl ne_a1_bb)
    have V_b2_c199 := V_b2.other W198 ne_b2_bb
    have V_b3_c199 := V_b3.other W198 ne_b3_bb
    have Vz198 : Arv Z h198 bb kb .boolean (3 : Int32) [(.int (own_w la2 (0 : Int32) (own_g0_3 (2 : Int32) la2 ha2 la3 ha3 la4 ha4 la5 ha5))), (.int (own_w la2 (1 : Int32) (own_g1_3 (2 : Int32) la2 ha2 la3 ha3 la4 ha4 la5 ha5))), (.int (own_g2_3 (2 : Int32) la2 ha2 la3 ha3 la4 ha4 la5 ha5))] (.int 0) := by
      have q := Arv.set Ar197 q197 S197 N197 H197 G197 (fits_nar_bool _) W198 _ rfl (by rcases r_la2 with hq | hq <;> rw [hq] <;> exact Nat.le_of_ble_eq_true rfl)
      rw [own_set3_2 (own_g0_3 (2 : Int32) la2 ha2 la3 ha3 la4 ha4 la5 ha5) (own_g1_3 (2 : Int32) la2 ha2 la3 ha3 la4 ha4 la5 ha5) (own_g2_3 (2 : Int32) la2 ha2 la3 ha3 la4 ha4 la5 ha5) la2 r_la2] at q
      exact q
    have N198 := Fr.snoc X198 N0 g_bb
    refine own_go (fun _ k => XS.aloadN X198.here hx rfl (hb hby d5_32) rfl rfl k) ?_
    refine own_go (fun _ k => XS.aloadN X198.here hx rfl (hb hby d5_33) rfl rfl k) ?_
    obtain ⟨T200, X200, e200, st200⟩ := getF X198 hx hZ hown (host := "") (Or.inl (W 16 rfl)) Via.refl e198 F_highs_a1_c199 (g := (mkF m 34 #[.val (.ref a1), .val (.int 2), .val (.ref bb), .val (.int 2)] [(.ref a1), (.ref bb)])) rfl rfl (hb hby d5_34)
    refine own_go st200 ?_
    refine own_go (fun _ k => XS.iloadN X200.here hx rfl (hb hby d5_37) rfl k) ?_
    obtain ⟨cl201, Ar201, q201, S201, N201, H201, G201⟩ := id V_b3_c199
    have hin201 : ¬ ((2 : Int32) < 0 ∨ cl201.slots.size ≤ ((2 : Int32)).toNatClampNeg) := inb_of S201 ⟨by decide, by decide⟩
    refine own_go (X200.iaload hx (j := (2 : Int32)) (v := (.int ha2)) (by rw [e200]; exact Ar201.1) (State.isArrayOf_alike hZ.alike Ar201.2.1) Ar201.2.2 hin201 (H201.at hin201 rfl) (g := (mkF m 38 #[.val (.ref a1), .val (.int 2), .val (.ref bb), .val (.int 2)] [(.int 2), (.ref b3), (.ref bb)])) rfl rfl (hb hby d5_38)) ?_
    refine own_go (fun _ k => XS.iconst X200.here hx rfl (hb hby d5_39) k) ?_
    obtain ⟨cl202, Ar202, q202, S202, N202, H202, G202⟩ := id Vz198
    have hin202 : ¬ (ha2 < 0 ∨ cl202.slots.size ≤ (ha2).toNatClampNeg) := inb_of S202 (by rcases r_ha2 with hq | hq <;> rw [hq] <;> exact ⟨by decide, by decide⟩)
    obtain ⟨T203, h203, X203, e203, W203, st203⟩ := stZ X200 hx hZ e200 Ar202 (j := ha2) hin202 (g := (mkF m 40 #[.val (.ref a1), .val (.int 2), .val (.ref bb), .val (.int 2)] [(.int 1), (.int ha2), (.ref bb)])) rfl rfl (hb hby d5_40)
    refine own_go st203 ?_
    show own_Run p e below _ T203 (mkF m 41 #[.val (.ref a1), .val (.int 2), .val (.ref bb), .val (.int 2)] [])
    have Z0_c204 := Nat.le_trans Z0_c199 (Keep.of_wr W203).1
    have K0_c204 := K0_c199.wr W203 (Or.inr sz_bb)
    have F_lows_a1_c204 := F_lows_a1_c199.other W203 (Or.inl ne_a1_bb)
    have F_highs_a1_c204 := F_highs_a1_c199.other W203 (Or.inl ne_a1_bb)
    have V_b2_c204 := V_b2_c199.other W203 ne_b2_bb
    have V_b3_c204 := V_b3_c199.other W203 ne_b3_bb
    have Vz203 : Arv Z h203 bb kb .boolean (3 : Int32) [(.int (own_w ha2 (0 : Int32) (own_w la2 (0 : Int32) (own_g0_3 (2 : Int32) la2 ha2 la3 ha3 la4 ha4 la5 ha5)))), (.int (own_w ha2 (1 : Int32) (own_w la2 (1 : Int32) (own_g1_3 (2 : Int32) la2 ha2 la3 ha3 la4 ha4 la5 ha5)))), (.int (own_g2_3 (2 : Int32) la2 ha2 la3 ha3 la4 ha4 la5 ha5))] (.int 0) := by
      have q := Arv.set Ar202 q202 S202 N202 H202 G202 (fits_nar_bool _) W203 _ rfl (by rcases r_ha2 with hq | hq <;> rw [hq] <;> exact Nat.le_of_ble_eq_true rfl)
      rw [own_set3_2 (own_w la2 (0 : Int32) (own_g0_3 (2 : Int32) la2 ha2 la3 ha3 la4 ha4 la5 ha5)) (own_w la2 (1 : Int32) (own_g1_3 (2 : Int32) la2 ha2 la3 ha3 la4 ha4 la5 ha5)) (own_g2_3 (2 : Int32) la2 ha2 la3 ha3 la4 ha4 la5 ha5) ha2 r_ha2] at q
      exact q
    have N203 := Fr.snoc X203 N198 g_bb
    have Vq : Arv Z h203 bb kb .boolean (3 : Int32) [(.int (own_g0_2 (2 : Int32) la2 ha2 la3 ha3 la4 ha4 la5 ha5)), (.int (own_g1_2 (2 : Int32) la2 ha2 la3 ha3 la4 ha4 la5 ha5)), (.int (own_g2_3 (2 : Int32) la2 ha2 la3 ha3 la4 ha4 la5 ha5))] (.int 0) := by
      have q := Vz203
      rw [show (own_w ha2 (0 : Int32) (own_w la2 (0 : Int32) (own_g0_3 (2 : Int32) la2 ha2 la3 ha3 la4 ha4 la5 ha5))) = (own_g0_2 (2 : Int32) la2 ha2 la3 ha3 la4 ha4 la5 ha5) from own_stW _ _ _ _ _ hb2] at q
      rw [show (own_w ha2 (1 : Int32) (own_w la2 (1 : Int32) (own_g1_3 (2 : Int32) la2 ha2 la3 ha3 la4 ha4 la5 ha5))) = (own_g1_2 (2 : Int32) la2 ha2 la3 ha3 la4 ha4 la5 ha5) from own_stW _ _ _ _ _ hb2] at q
      exact q
    refine own_go (fun _ k => XS.iinc X203.here hx rfl (hb hby d5_41) rfl (l' := #[.val (.ref a1), .val (.int 2), .val (.ref bb), .val (.int ((2 : Int32) + (-1 : Int32)))]) rfl k) ?_
    show own_Run p e below _ T203 (mkF m 44 #[.val (.ref a1), .val (.int 2), .val (.ref bb), .val (.int ((2 : Int32) + (-1 : Int32)))] [])
    rw [show ((2 : Int32) + (-1 : Int32)) = (1 : Int32) by decide]
    refine own_go (fun _ k => XS.goto X203.here hx rfl (pc0 := 44) (pc' := 12) rfl (hb hby d5_44) (by decide) (by decide) k) ?_
    exact rs2_1 a1 (2 : Int32) b2 b3 k2 k3 la2 ha2 la3 ha3 la4 ha4 la5 ha5 h0 n0 hx hZ hw hby hml hown hnm hret hlk bb kb T203 h203 _ X203 e203 N203 Z0_c204 K0_c204 F_lows_a1_c204 F_highs_a1_c204 V_b2_c204 V_b3_c204 Vq (rfl) (r_la2) (r_ha2) (r_la3) (r_ha3) (r_la4) (r_ha4) (r_la5) (r_ha5) g_bb sz_bb ne_b2_bb ne_b3_bb ne_a1_bb 
set_option maxRecDepth 65536 in
set_option maxHeartbeats 40000000 in
theorem rs3_1 {p : Program} {l : Launch} {e : Env} {s : State} {m : MethodId} {args : Array Value} {below : List Frame} {meth : Method} {c : Code} {Z : State} {a0 : Array Value} (a1 : Addr) (p2 : Int32) (b2 : Addr) (b3 : Addr) (k2 : ClassId) (k3 : ClassId) (la2 : Int32) (ha2 : Int32) (la3 : Int32) (ha3 : Int32) (la4 : Int32) (ha4 : Int32) (la5 : Int32) (ha5 : Int32) (h0 : Heap) (n0 : Nat) (hx : p.tables.exec = Jvm.exec) (hZ : Z.Warmed39 s.vm) (hw : ∀ d ∈ tables_1, d.before a0 Z = true) (hby : c.code = prog_20_method_9_code) (hml : c.maxLocals = 4) (hown : s.vm.findClass own_K0 = some m.cls) (hnm : meth.name = "reachable") (hret : meth.sig.returnType = some (.array .boolean)) (hlk : meth.locks = false)
    (bb : Addr) (kb : ClassId) (T0 : State) (hh : Heap) (locs : List Loc) (X0 : Stand p l e ({ frames := 0, cells := 1, slots := 6, locals := 0 } : Room) s m args below meth c T0 locs 1 6) (e0 : T0.heap = hh) (N0 : Fr n0 locs) (Z0 : n0 ≤ hh.size) (K0 : Keep h0 hh []) (F_lows_a1 : Fld Z hh a1 own_K0 "lows" "[I" (.ref b2)) (F_highs_a1 : Fld Z hh a1 own_K0 "highs" "[I" (.ref b3)) (V_b2 : Arv Z hh b2 k2 .int (1024 : Int32) [(.int 0), (.int 0), (.int la2), (.int la3), (.int la4), (.int la5)] (.int 0)) (V_b3 : Arv Z hh b3 k3 .int (1024 : Int32) [(.int 0), (.int 0), (.int ha2), (.int ha3), (.int ha4), (.int ha5)] (.int 0)) (V_bb : Arv Z hh bb kb .boolean (4 : Int32) [(.int (own_g0_2 (3 : Int32) la2 ha2 la3 ha3 la4 ha4 la5 ha5)), (.int (own_g1_2 (3 : Int32) la2 ha2 la3 ha3 la4 ha4 la5 ha5)), (.int (own_g2_3 (3 : Int32) la2 ha2 la3 ha3 la4 ha4 la5 ha5)), (.int (own_g3_4 (3 : Int32) la2 ha2 la3 ha3 la4 ha4 la5 ha5))] (.int 0)) (hp2 : p2 = (3 : Int32)) (r_la2 : la2 = (0 : Int32) ∨ la2 = (1 : Int32)) (r_ha2 : ha2 = (0 : Int32) ∨ ha2 = (1 : Int32)) (r_la3 : la3 = (0 : Int32) ∨ la3 = (1 : Int32) ∨ la3 = (2 : Int32)) (r_ha3 : ha3 = (0 : Int32) ∨ ha3 = (1 : Int32) ∨ ha3 = (2 : Int32)) (r_la4 : la4 = (0 : Int32) ∨ la4 = (1 : Int32) ∨ la4 = (2 : Int32) ∨ la4 = (3 : Int32)) (r_ha4 : ha4 = (0 : Int32) ∨ ha4 = (1 : Int32) ∨ ha4 = (2 : Int32) ∨ ha4 = (3 : Int32)) (r_la5 : la5 = (0 : Int32) ∨ la5 = (1 : Int32) ∨ la5 = (2 : Int32) ∨ la5 = (3 : Int32) ∨ la5 = (4 : Int32)) (r_ha5 : ha5 = (0 : Int32) ∨ ha5 = (1 : Int32) ∨ ha5 = (2 : Int32) ∨ ha5 = (3 : Int32) ∨ ha5 = (4 : Int32)) (g_bb : n0 ≤ bb) (sz_bb : h0.size ≤ bb) (ne_b2_bb : b2 ≠ bb) (ne_b3_bb : b3 ≠ bb) (ne_a1_bb : a1 ≠ bb) :
    own_Run p e below (fun o U' => ∃ v L, o = .returned v ∧ Q5 Z a1 p2 b2 b3 k2 k3 la2 ha2 la3 ha3 la4 ha4 la5 ha5 h0 n0 v U'.heap L ∧ FrameEnd s o U' L ({ frames := 0, cells := 1, slots := 6, locals := 0 } : Room).cells ({ frames := 0, cells := 1, slots := 6, locals := 0 } : Room).slots) T0 (mkF m 12 #[.val (.ref a1), .val (.int 3), .val (.ref bb), .val (.int 1)] []) := by
  have W := fun (k : Nat) {d : Jvm.Cond} (h : tables_1[k]? = some d) => hw d (List.mem_of_getElem? h)
  show own_Run p e below _ T0 (mkF m 12 #[.val (.ref a1), .val (.int 3), .val (.ref bb), .val (.int 1)] [])
  subst hp2
  show own_Run p e below _ T0 (mkF m 12 #[.val (.ref a1), .val (.int 3), .val (.ref bb), .val (.int 1)] [])
  refine own_go (fun _ k => XS.iloadN X0.here hx rfl (hb hby d5_12) rfl k) ?_
  refine own_go (fun _ k => XS.iconst X0.here hx rfl (hb hby d5_13) k) ?_
  refine own_go (fun _ k => XS.icmpYes X0.here hx rfl (pc0 := 14) (pc' := 47) rfl (hb hby d5_14) rfl (tlt (by decide : (1 : Int32) < (2 : Int32))).1 (by decide) (by decide) k) ?_
  refine own_go (fun _ k => XS.aloadN X0.here hx rfl (hb hby d5_47) rfl rfl k) ?_
  refine own_done (Q := fun v h L => Q5 Z a1 (3 : Int32) b2 b3 k2 k3 la2 ha2 la3 ha3 la4 ha4 la5 ha5 h0 n0 v h L) (v := (some (.ref bb))) X0 (fun h => by rw [hret] at h; cases h) hlk (fun fs hr => own_retA X0 hx hret rfl rfl rfl (hb hby d5_48) hr) ?_ (by decide) (by decide)
  show Q5 Z a1 (3 : Int32) b2 b3 k2 k3 la2 ha2 la3 ha3 la4 ha4 la5 ha5 h0 n0 _ T0.heap _
  rw [e0]
  exact ⟨bb, kb, (4 : Int32), [(.int (own_g0_2 (3 : Int32) la2 ha2 la3 ha3 la4 ha4 la5 ha5)), (.int (own_g1_2 (3 : Int32) la2 ha2 la3 ha3 la4 ha4 la5 ha5)), (.int (own_g2_3 (3 : Int32) la2 ha2 la3 ha3 la4 ha4 la5 ha5)), (.int (own_g3_4 (3 : Int32) la2 ha2 la3 ha3 la4 ha4 la5 ha5))], rfl, N0, K0, V_bb, sz_bb, Or.inr (Or.inr (Or.inr (Or.inl ⟨rfl, rfl, rfl⟩)))⟩
set_option maxRecDepth 65536 in
set_option maxHeartbeats 40000000 in
theorem rs3_2 {p : Program} {l : Launch} {e : Env} {s : State} {m : MethodId} {args : Array Value} {below : List Frame} {meth : Method} {c : Code} {Z : State} {a0 : Array Value} (a1 : Addr) (p2 : Int32) (b2 : Addr) (b3 : Addr) (k2 : ClassId) (k3 : ClassId) (la2 : Int32) (ha2 : Int32) (la3 : Int32) (ha3 : Int32) (la4 : Int32) (ha4 : Int32) (la5 : Int32) (ha5 : Int32) (h0 : Heap) (n0 : Nat) (hx : p.tables.exec = Jvm.exec) (hZ : Z.Warmed39 s.vm) (hw : ∀ d ∈ tables_1, d.before a0 Z = true) (hby : c.code = prog_20_method_9_code) (hml : c.maxLocals = 4) (hown : s.vm.findClass own_K0 = some m.cls) (hnm : meth.name = "reachable") (hret : meth.sig.returnType = some (.array .boolean)) (hlk : meth.locks = false)
    (bb : Addr) (kb : ClassId) (T0 : State) (hh : Heap) (locs : List Loc) (X0 : Stand p l e ({ frames := 0, cells := 1, slots := 6, locals := 0 } : Room) s m args below meth c T0 locs 1 6) (e0 : T0.heap = hh) (N0 : Fr n0 locs) (Z0 : n0 ≤ hh.size) (K0 : Keep h0 hh []) (F_lows_a1 : Fld Z hh a1 own_K0 "lows" "[I" (.ref b2)) (F_highs_a1 : Fld Z hh a1 own_K0 "highs" "[I" (.ref b3)) (V_b2 : Arv Z hh b2 k2 .int (1024 : Int32) [(.int 0), (.int 0), (.int la2), (.int la3), (.int la4), (.int la5)] (.int 0)) (V_b3 : Arv Z hh b3 k3 .int (1024 : Int32) [(.int 0), (.int 0), (.int ha2), (.int ha3), (.int ha4), (.int ha5)] (.int 0)) (V_bb : Arv Z hh bb kb .boolean (4 : Int32) [(.int (own_g0_3 (3 : Int32) la2 ha2 la3 ha3 la4 ha4 la5 ha5)), (.int (own_g1_3 (3 : Int32) la2 ha2 la3 ha3 la4 ha4 la5 ha5)), (.int (own_g2_3 (3 : Int32) la2 ha2 la3 ha3 la4 ha4 la5 ha5)), (.int (own_g3_4 (3 : Int32) la2 ha2 la3 ha3 la4 ha4 la5 ha5))] (.int 0)) (hp2 : p2 = (3 : Int32)) (r_la2 : la2 = (0 : Int32) ∨ la2 = (1 : Int32)) (r_ha2 : ha2 = (0 : Int32) ∨ ha2 = (1 : Int32)) (r_la3 : la3 = (0 : Int32) ∨ la3 = (1 : Int32) ∨ la3 = (2 : Int32)) (r_ha3 : ha3 = (0 : Int32) ∨ ha3 = (1 : Int32) ∨ ha3 = (2 : Int32)) (r_la4 : la4 = (0 : Int32) ∨ la4 = (1 : Int32) ∨ la4 = (2 : Int32) ∨ la4 = (3 : Int32)) (r_ha4 : ha4 = (0 : Int32) ∨ ha4 = (1 : Int32) ∨ ha4 = (2 : Int32) ∨ ha4 = (3 : Int32)) (r_la5 : la5 = (0 : Int32) ∨ la5 = (1 : Int32) ∨ la5 = (2 : Int32) ∨ la5 = (3 : Int32) ∨ la5 = (4 : Int32)) (r_ha5 : ha5 = (0 : Int32) ∨ ha5 = (1 : Int32) ∨ ha5 = (2 : Int32) ∨ ha5 = (3 : Int32) ∨ ha5 = (4 : Int32)) (g_bb : n0 ≤ bb) (sz_bb : h0.size ≤ bb) (ne_b2_bb : b2 ≠ bb) (ne_b3_bb : b3 ≠ bb) (ne_a1_bb : a1 ≠ bb) :
    own_Run p e below (fun o U' => ∃ v L, o = .returned v ∧ Q5 Z a1 p2 b2 b3 k2 k3 la2 ha2 la3 ha3 la4 ha4 la5 ha5 h0 n0 v U'.heap L ∧ FrameEnd s o U' L ({ frames := 0, cells := 1, slots := 6, locals := 0 } : Room).cells ({ frames := 0, cells := 1, slots := 6, locals := 0 } : Room).slots) T0 (mkF m 12 #[.val (.ref a1), .val (.int 3), .val (.ref bb), .val (.int 2)] []) := by
  have W := fun (k : Nat) {d : Jvm.Cond} (h : tables_1[k]? = some d) => hw d (List.mem_of_getElem? h)
  show own_Run p e below _ T0 (mkF m 12 #[.val (.ref a1), .val (.int 3), .val (.ref bb), .val (.int 2)] [])
  subst hp2
  show own_Run p e below _ T0 (mkF m 12 #[.val (.ref a1), .val (.int 3), .val (.ref bb), .val (.int 2)] [])
  refine own_go (fun _ k => XS.iloadN X0.here hx rfl (hb hby d5_12) rfl k) ?_
  refine own_go (fun _ k => XS.iconst X0.here hx rfl (hb hby d5_13) k) ?_
  refine own_go (fun _ k => XS.icmpNo X0.here hx rfl (hb hby d5_14) rfl (flt (by decide : ¬ ((2 : Int32) < (2 : Int32)))).1 k) ?_
  refine own_go (fun _ k => XS.aloadN X0.here hx rfl (hb hby d5_17) rfl rfl k) ?_
  refine own_go (fun _ k => XS.iloadN X0.here hx rfl (hb hby d5_18) rfl k) ?_
  obtain ⟨cl205, Ar205, q205, S205, N205, H205, G205⟩ := id V_bb
  have hin205 : ¬ ((2 : Int32) < 0 ∨ cl205.slots.size ≤ ((2 : Int32)).toNatClampNeg) := inb_of S205 ⟨by decide, by decide⟩
  refine own_go (X0.baloadBooleans hx (j := (2 : Int32)) (v := (.int (own_g2_3 (3 : Int32) la2 ha2 la3 ha3 la4 ha4 la5 ha5))) (by rw [e0]; exact Ar205.1) (State.isArrayOf_alike hZ.alike Ar205.2.1) Ar205.2.2 hin205 (H205.at hin205 rfl) (g := (mkF m 19 #[.val (.ref a1), .val (.int 3), .val (.ref bb), .val (.int 2)] [(.int 2), (.ref bb)])) rfl rfl (hb hby d5_19)) ?_
  by_cases hb2 : (own_g2_3 (3 : Int32) la2 ha2 la3 ha3 la4 ha4 la5 ha5) = (0 : Int32)
  · refine own_go (fun _ k => XS.ifYes X0.here hx rfl (pc0 := 20) (pc' := 41) rfl (hb hby d5_20) rfl ((if0 _ _).trans (teq hb2).1) (by decide) (by decide) k) ?_
    have Vq : Arv Z hh bb kb .boolean (4 : Int32) [(.int (own_g0_2 (3 : Int32) la2 ha2 la3 ha3 la4 ha4 la5 ha5)), (.int (own_g1_2 (3 : Int32) la2 ha2 la3 ha3 la4 ha4 la5 ha5)), (.int (own_g2_3 (3 : Int32) la2 ha2 la3 ha3 la4 ha4 la5 ha5)), (.int (own_g3_4 (3 : Int32) la2 ha2 la3 ha3 la4 ha4 la5 ha5))] (.int 0) := by
      rw [show (own_g0_2 (3 : Int32) la2 ha2 la3 ha3 la4 ha4 la5 ha5) = (own_g0_3 (3 : Int32) la2 ha2 la3 ha3 la4 ha4 la5 ha5) from own_st0 _ _ _ _ _ hb2]
      rw [show (own_g1_2 (3 : Int32) la2 ha2 la3 ha3 la4 ha4 la5 ha5) = (own_g1_3 (3 : Int32) la2 ha2 la3 ha3 la4 ha4 la5 ha5) from own_st0 _ _ _ _ _ hb2]
      exact V_bb
    refine own_go (fun _ k => XS.iinc X0.here hx rfl (hb hby d5_41) rfl (l' := #[.val (.ref a1), .val (.int 3), .val (.ref bb), .val (.int ((2 : Int32) + (-1 : Int32)))]) rfl k) ?_
    show own_Run p e below _ T0 (mkF m 44 #[.val (.ref a1), .val (.int 3), .val (.ref bb), .val (.int ((2 : Int32) + (-1 : Int32)))] [])
    rw [show ((2 : Int32) + (-1 : Int32)) = (1 : Int32) by decide]
    refine own_go (fun _ k => XS.goto X0.here hx rfl (pc0 := 44) (pc' := 12) rfl (hb hby d5_44) (by decide) (by decide) k) ?_
    exact rs3_1 a1 (3 : Int32) b2 b3 k2 k3 la2 ha2 la3 ha3 la4 ha4 la5 ha5 h0 n0 hx hZ hw hby hml hown hnm hret hlk bb kb T0 hh _ X0 e0 N0 Z0 K0 F_lows_a1 F_highs_a1 V_b2 V_b3 Vq (rfl) (r_la2) (r_ha2) (r_la3) (r_ha3) (r_la4) (r_ha4) (r_la5) (r_ha5) g_bb sz_bb ne_b2_bb ne_b3_bb ne_a1_bb 
  · refine own_go (fun _ k => XS.ifNo X0.here hx rfl (hb hby d5_20) rfl ((if0 _ _).trans (feq hb2).1) k) ?_
    refine own_go (fun _ k => XS.aloadN X0.here hx rfl (hb hby d5_23) rfl rfl k) ?_
    show own_Run p e below _ T0 (mkF m 24 #[.val (.ref a1), .val (.int 3), .val (.ref bb), .val (.int 2)] [(.ref bb)])
    refine own_go (fun _ k => XS.aloadN X0.here hx rfl (hb hby d5_24) rfl rfl k) ?_
    obtain ⟨T206, X206, e206, st206⟩ := getF X0 hx hZ hown (host := "") (Or.inl (W 14 rfl)) Via.refl e0 F_lows_a1 (g := (mkF m 25 #[.val (.ref a1), .val (.int 3), .val (.ref bb), .val (.int 2)] [(.ref a1), (.ref bb)])) rfl rfl (hb hby d5_25)
    refine own_go st206 ?_
    refine own_go (fun _ k => XS.iloadN X206.here hx rfl (hb hby d5_28) rfl k) ?_
    obtain ⟨cl207, Ar207, q207, S207, N207, H207, G207⟩ := id V_b2
    have hin207 : ¬ ((2 : Int32) < 0 ∨ cl207.slots.size ≤ ((2 : Int32)).toNatClampNeg) := inb_of S207 ⟨by decide, by decide⟩
    refine own_go (X206.iaload hx (j := (2 : Int32)) (v := (.int la2)) (by rw [e206]; exact Ar207.1) (State.isArrayOf_alike hZ.alike Ar207.2.1) Ar207.2.2 hin207 (H207.at hin207 rfl) (g := (mkF m 29 #[.val (.ref a1), .val (.int 3), .val (.ref bb), .val (.int 2)] [(.int 2), (.ref b2), (.ref bb)])) rfl rfl (hb hby d5_29)) ?_
    refine own_go (fun _ k => XS.iconst X206.here hx rfl (hb hby d5_30) k) ?_
    obtain ⟨cl208, Ar208, q208, S208, N208, H208, G208⟩ := id V_bb
    have hin208 : ¬ (la2 < 0 ∨ cl208.slots.size ≤ (la2).toNatClampNeg) := inb_of S208 (by rcases r_la2 with hq | hq <;> rw [hq] <;> exact ⟨by decide, by decide⟩)
    obtain ⟨T209, h209, X209, e209, W209, st209⟩ := stZ X206 hx hZ e206 Ar208 (j := la2) hin208 (g := (mkF m 31 #[.val (.ref a1), .val (.int 3), .val (.ref bb), .val (.int 2)] [(.int 1), (.int la2), (.ref bb)])) rfl rfl (hb hby d5_31)
    refine own_go st209 ?_
    show own_Run p e below _ T209 (mkF m 32 #[.val (.ref a1), .val (.int 3), .val (.ref bb), .val (.int 2)] [])
    have Z0_c210 := Nat.le_trans Z0 (Keep.of_wr W209).1
    have K0_c210 := K0.wr W209 (Or.inr sz_bb)
    have F_lows_a1_c210 := F_lows_a1.other W209 (Or.inl ne_a1_bb)
    have F_highs_a1_c210 := F_highs_a1.other W209 (Or.inl ne_a1_bb)
    have V_b2_c210 := V_b2.other W209 ne_b2_bb
    have V_b3_c210 := V_b3.other W209 ne_b3_bb
    have Vz209 : Arv Z h209 bb kb .boolean (4 : Int32) [(.int (own_w la2 (0 : Int32) (own_g0_3 (3 : Int32) la2 ha2 la3 ha3 la4 ha4 la5 ha5))), (.int (own_w la2 (1 : Int32) (own_g1_3 (3 : Int32) la2 ha2 la3 ha3 la4 ha4 la5 ha5))), (.int (own_g2_3 (3 : Int32) la2 ha2 la3 ha3 la4 ha4 la5 ha5)), (.int (own_g3_4 (3 : Int32) la2 ha2 la3 ha3 la4 ha4 la5 ha5))] (.int 0) := by
      have q := Arv.set Ar208 q208 S208 N208 H208 G208 (fits_nar_bool _) W209 _ rfl (by rcases r_la2 with hq | hq <;> rw [hq] <;> exact Nat.le_of_ble_eq_true rfl)
      rw [own_set4_2 (own_g0_3 (3 : Int32) la2 ha2 la3 ha3 la4 ha4 la5 ha5) (own_g1_3 (3 : Int32) la2 ha2 la3 ha3 la4 ha4 la5 ha5) (own_g2_3 (3 : Int32) la2 ha2 la3 ha3 la4 ha4 la5 ha5) (own_g3_4 (3 : Int32) la2 ha2 la3 ha3 la4 ha4 la5 ha5) la2 r_la2] at q
      exact q
    have N209 := Fr.snoc X209 N0 g_bb
    refine own_go (fun _ k => XS.aloadN X209.here hx rfl (hb hby d5_32) rfl rfl k) ?_
    refine own_go (fun _ k => XS.aloadN X209.here hx rfl (hb hby d5_33) rfl rfl k) ?_
    obtain ⟨T211, X211, e211, st211⟩ := getF X209 hx hZ hown (host := "") (Or.inl (W 16 rfl)) Via.refl e209 F_highs_a1_c210 (g := (mkF m 34 #[.val (.ref a1), .val (.int 3), .val (.ref bb), .val (.int 2)] [(.ref a1), (.ref bb)])) rfl rfl (hb hby d5_34)
    refine own_go st211 ?_
    refine own_go (fun _ k => XS.iloadN X211.here hx rfl (hb hby d5_37) rfl k) ?_
    obtain ⟨cl212, Ar212, q212, S212, N212, H212, G212⟩ := id V_b3_c210
    have hin212 : ¬ ((2 : Int32) < 0 ∨ cl212.slots.size ≤ ((2 : Int32)).toNatClampNeg) := inb_of S212 ⟨by decide, by decide⟩
    refine own_go (X211.iaload hx (j := (2 : Int32)) (v := (.int ha2)) (by rw [e211]; exact Ar212.1) (State.isArrayOf_alike hZ.alike Ar212.2.1) Ar212.2.2 hin212 (H212.at hin212 rfl) (g := (mkF m 38 #[.val (.ref a1), .val (.int 3), .val (.ref bb), .val (.int 2)] [(.int 2), (.ref b3), (.ref bb)])) rfl rfl (hb hby d5_38)) ?_
    refine own_go (fun _ k => XS.iconst X211.here hx rfl (hb hby d5_39) k) ?_
    obtain ⟨cl213, Ar213, q213, S213, N213, H213, G213⟩ := id Vz209
    have hin213 : ¬ (ha2 < 0 ∨ cl213.slots.size ≤ (ha2).toNatClampNeg) := inb_of S213 (by rcases r_ha2 with hq | hq <;> rw [hq] <;> exact ⟨by decide, by decide⟩)
    obtain ⟨T214, h214, X214, e214, W214, st214⟩ := stZ X211 hx hZ e211 Ar213 (j := ha2) hin213 (g := (mkF m 40 #[.val (.ref a1), .val (.int 3), .val (.ref bb), .val (.int 2)] [(.int 1), (.int ha2), (.ref bb)])) rfl rfl (hb hby d5_40)
    refine own_go st214 ?_
    show own_Run p e below _ T214 (mkF m 41 #[.val (.ref a1), .val (.int 3), .val (.ref bb), .val (.int 2)] [])
    have Z0_c215 := Nat.le_trans Z0_c210 (Keep.of_wr W214).1
    have K0_c215 := K0_c210.wr W214 (Or.inr sz_bb)
    have F_lows_a1_c215 := F_lows_a1_c210.other W214 (Or.inl ne_a1_bb)
    have F_highs_a1_c215 := F_highs_a1_c210.other W214 (Or.inl ne_a1_bb)
    have V_b2_c215 := V_b2_c210.other W214 ne_b2_bb
    have V_b3_c215 := V_b3_c210.other W214 ne_b3_bb
    have Vz214 : Arv Z h214 bb kb .boolean (4 : Int32) [(.int (own_w ha2 (0 : Int32) (own_w la2 (0 : Int32) (own_g0_3 (3 : Int32) la2 ha2 la3 ha3 la4 ha4 la5 ha5)))), (.int (own_w ha2 (1 : Int32) (own_w la2 (1 : Int32) (own_g1_3 (3 : Int32) la2 ha2 la3 ha3 la4 ha4 la5 ha5)))), (.int (own_g2_3 (3 : Int32) la2 ha2 la3 ha3 la4 ha4 la5 ha5)), (.int (own_g3_4 (3 : Int32) la2 ha2 la3 ha3 la4 ha4 la5 ha5))] (.int 0) := by
      have q := Arv.set Ar213 q213 S213 N213 H213 G213 (fits_nar_bool _) W214 _ rfl (by rcases r_ha2 with hq | hq <;> rw [hq] <;> exact Nat.le_of_ble_eq_true rfl)
      rw [own_set4_2 (own_w la2 (0 : Int32) (own_g0_3 (3 : Int32) la2 ha2 la3 ha3 la4 ha4 la5 ha5)) (own_w la2 (1 : Int32) (own_g1_3 (3 : Int32) la2 ha2 la3 ha3 la4 ha4 la5 ha5)) (own_g2_3 (3 : Int32) la2 ha2 la3 ha3 la4 ha4 la5 ha5) (own_g3_4 (3 : Int32) la2 ha2 la3 ha3 la4 ha4 la5 ha5) ha2 r_ha2] at q
      exact q
    have N214 := Fr.snoc X214 N209 g_bb
    have Vq : Arv Z h214 bb kb .boolean (4 : Int32) [(.int (own_g0_2 (3 : Int32) la2 ha2 la3 ha3 la4 ha4 la5 ha5)), (.int (own_g1_2 (3 : Int32) la2 ha2 la3 ha3 la4 ha4 la5 ha5)), (.int (own_g2_3 (3 : Int32) la2 ha2 la3 ha3 la4 ha4 la5 ha5)), (.int (own_g3_4 (3 : Int32) la2 ha2 la3 ha3 la4 ha4 la5 ha5))] (.int 0) := by
      have q := Vz214
      rw [show (own_w ha2 (0 : Int32) (own_w la2 (0 : Int32) (own_g0_3 (3 : Int32) la2 ha2 la3 ha3 la4 ha4 la5 ha5))) = (own_g0_2 (3 : Int32) la2 ha2 la3 ha3 la4 ha4 la5 ha5) from own_stW _ _ _ _ _ hb2] at q
      rw [show (own_w ha2 (1 : Int32) (own_w la2 (1 : Int32) (own_g1_3 (3 : Int32) la2 ha2 la3 ha3 la4 ha4 la5 ha5))) = (own_g1_2 (3 : Int32) la2 ha2 la3 ha3 la4 ha4 la5 ha5) from own_stW _ _ _ _ _ hb2] at q
      exact q
    refine own_go (fun _ k => XS.iinc X214.here hx rfl (hb hby d5_41) rfl (l' := #[.val (.ref a1), .val (.int 3), .val (.ref bb), .val (.int ((2 : Int32) + (-1 : Int32)))]) rfl k) ?_
    show own_Run p e below _ T214 (mkF m 44 #[.val (.ref a1), .val (.int 3), .val (.ref bb), .val (.int ((2 : Int32) + (-1 : Int32)))] [])
    rw [show ((2 : Int32) + (-1 : Int32)) = (1 : Int32) by decide]
    refine own_go (fun _ k => XS.goto X214.here hx rfl (pc0 := 44) (pc' := 12) rfl (hb hby d5_44) (by decide) (by decide) k) ?_
    exact rs3_1 a1 (3 : Int32) b2 b3 k2 k3 la2 ha2 la3 ha3 la4 ha4 la5 ha5 h0 n0 hx hZ hw hby hml hown hnm hret hlk bb kb T214 h214 _ X214 e214 N214 Z0_c215 K0_c215 F_lows_a1_c215 F_highs_a1_c215 V_b2_c215 V_b3_c215 Vq (rfl) (r_la2) (r_ha2) (r_la3) (r_ha3) (r_la4) (r_ha4) (r_la5) (r_ha5) g_bb sz_bb ne_b2_bb ne_b3_bb ne_a1_bb 
set_option maxRecDepth 65536 in
set_option maxHeartbeats 40000000 in
theorem rs3_3 {p : Program} {l : Launch} {e : Env} {s : State} {m : MethodId} {args : Array Value} {below : List Frame} {meth : Method} {c : Code} {Z : State} {a0 : Array Value} (a1 : Addr) (p2 : Int32) (b2 : Addr) (b3 : Addr) (k2 : ClassId) (k3 : ClassId) (la2 : Int32) (ha2 : Int32) (la3 : Int32) (ha3 : Int32) (la4 : Int32) (ha4 : Int32) (la5 : Int32) (ha5 : Int32) (h0 : Heap) (n0 : Nat) (hx : p.tables.exec = Jvm.exec) (hZ : Z.Warmed39 s.vm) (hw : ∀ d ∈ tables_1, d.before a0 Z = true) (hby : c.code = prog_20_method_9_code) (hml : c.maxLocals = 4) (hown : s.vm.findClass own_K0 = some m.cls) (hnm : meth.name = "reachable") (hret : meth.sig.returnType = some (.array .boolean)) (hlk : meth.locks = false)
    (bb : Addr) (kb : ClassId) (T0 : State) (hh : Heap) (locs : List Loc) (X0 : Stand p l e ({ frames := 0, cells := 1, slots := 6, locals := 0 } : Room) s m args below meth c T0 locs 1 6) (e0 : T0.heap = hh) (N0 : Fr n0 locs) (Z0 : n0 ≤ hh.size) (K0 : Keep h0 hh []) (F_lows_a1 : Fld Z hh a1 own_K0 "lows" "[I" (.ref b2)) (F_highs_a1 : Fld Z hh a1 own_K0 "highs" "[I" (.ref b3)) (V_b2 : Arv Z hh b2 k2 .int (1024 : Int32) [(.int 0), (.int 0), (.int la2), (.int la3), (.int la4), (.int la5)] (.int 0)) (V_b3 : Arv Z hh b3 k3 .int (1024 : Int32) [(.int 0), (.int 0), (.int ha2), (.int ha3), (.int ha4), (.int ha5)] (.int 0)) (V_bb : Arv Z hh bb kb .boolean (4 : Int32) [(.int (own_g0_4 (3 : Int32) la2 ha2 la3 ha3 la4 ha4 la5 ha5)), (.int (own_g1_4 (3 : Int32) la2 ha2 la3 ha3 la4 ha4 la5 ha5)), (.int (own_g2_4 (3 : Int32) la2 ha2 la3 ha3 la4 ha4 la5 ha5)), (.int (own_g3_4 (3 : Int32) la2 ha2 la3 ha3 la4 ha4 la5 ha5))] (.int 0)) (hp2 : p2 = (3 : Int32)) (r_la2 : la2 = (0 : Int32) ∨ la2 = (1 : Int32)) (r_ha2 : ha2 = (0 : Int32) ∨ ha2 = (1 : Int32)) (r_la3 : la3 = (0 : Int32) ∨ la3 = (1 : Int32) ∨ la3 = (2 : Int32)) (r_ha3 : ha3 = (0 : Int32) ∨ ha3 = (1 : Int32) ∨ ha3 = (2 : Int32)) (r_la4 : la4 = (0 : Int32) ∨ la4 = (1 : Int32) ∨ la4 = (2 : Int32) ∨ la4 = (3 : Int32)) (r_ha4 : ha4 = (0 : Int32) ∨ ha4 = (1 : Int32) ∨ ha4 = (2 : Int32) ∨ ha4 = (3 : Int32)) (r_la5 : la5 = (0 : Int32) ∨ la5 = (1 : Int32) ∨ la5 = (2 : Int32) ∨ la5 = (3 : Int32) ∨ la5 = (4 : Int32)) (r_ha5 : ha5 = (0 : Int32) ∨ ha5 = (1 : Int32) ∨ ha5 = (2 : Int32) ∨ ha5 = (3 : Int32) ∨ ha5 = (4 : Int32)) (g_bb : n0 ≤ bb) (sz_bb : h0.size ≤ bb) (ne_b2_bb : b2 ≠ bb) (ne_b3_bb : b3 ≠ bb) (ne_a1_bb : a1 ≠ bb) :
    own_Run p e below (fun o U' => ∃ v L, o = .returned v ∧ Q5 Z a1 p2 b2 b3 k2 k3 la2 ha2 la3 ha3 la4 ha4 la5 ha5 h0 n0 v U'.heap L ∧ FrameEnd s o U' L ({ frames := 0, cells := 1, slots := 6, locals := 0 } : Room).cells ({ frames := 0, cells := 1, slots := 6, locals := 0 } : Room).slots) T0 (mkF m 12 #[.val (.ref a1), .val (.int 3), .val (.ref bb), .val (.int 3)] []) := by
  have W := fun (k : Nat) {d : Jvm.Cond} (h : tables_1[k]? = some d) => hw d (List.mem_of_getElem? h)
  show own_Run p e below _ T0 (mkF m 12 #[.val (.ref a1), .val (.int 3), .val (.ref bb), .val (.int 3)] [])
  subst hp2
  show own_Run p e below _ T0 (mkF m 12 #[.val (.ref a1), .val (.int 3), .val (.ref bb), .val (.int 3)] [])
  refine own_go (fun _ k => XS.iloadN X0.here hx rfl (hb hby d5_12) rfl k) ?_
  refine own_go (fun _ k => XS.iconst X0.here hx rfl (hb hby d5_13) k) ?_
  refine own_go (fun _ k => XS.icmpNo X0.here hx rfl (hb hby d5_14) rfl (flt (by decide : ¬ ((3 : Int32) < (2 : Int32)))).1 k) ?_
  refine own_go (fun _ k => XS.aloadN X0.here hx rfl (hb hby d5_17) rfl rfl k) ?_
  refine own_go (fun _ k => XS.iloadN X0.here hx rfl (hb hby d5_18) rfl k) ?_
  obtain ⟨cl216, Ar216, q216, S216, N216, H216, G216⟩ := id V_bb
  have hin216 : ¬ ((3 : Int32) < 0 ∨ cl216.slots.size ≤ ((3 : Int32)).toNatClampNeg) := inb_of S216 ⟨by decide, by decide⟩
  refine own_go (X0.baloadBooleans hx (j := (3 : Int32)) (v := (.int (own_g3_4 (3 : Int32) la2 ha2 la3 ha3 la4 ha4 la5 ha5))) (by rw [e0]; exact Ar216.1) (State.isArrayOf_alike hZ.alike Ar216.2.1) Ar216.2.2 hin216 (H216.at hin216 rfl) (g := (mkF m 19 #[.val (.ref a1), .val (.int 3), .val (.ref bb), .val (.int 3)] [(.int 3), (.ref bb)])) rfl rfl (hb hby d5_19)) ?_
  by_cases hb3 : (own_g3_4 (3 : Int32) la2 ha2 la3 ha3 la4 ha4 la5 ha5) = (0 : Int32)
  · refine own_go (fun _ k => XS.ifYes X0.here hx rfl (pc0 := 20) (pc' := 41) rfl (hb hby d5_20) rfl ((if0 _ _).trans (teq hb3).1) (by decide) (by decide) k) ?_
    have Vq : Arv Z hh bb kb .boolean (4 : Int32) [(.int (own_g0_3 (3 : Int32) la2 ha2 la3 ha3 la4 ha4 la5 ha5)), (.int (own_g1_3 (3 : Int32) la2 ha2 la3 ha3 la4 ha4 la5 ha5)), (.int (own_g2_3 (3 : Int32) la2 ha2 la3 ha3 la4 ha4 la5 ha5)), (.int (own_g3_4 (3 : Int32) la2 ha2 la3 ha3 la4 ha4 la5 ha5))] (.int 0) := by
      rw [show (own_g0_3 (3 : Int32) la2 ha2 la3 ha3 la4 ha4 la5 ha5) = (own_g0_4 (3 : Int32) la2 ha2 la3 ha3 la4 ha4 la5 ha5) from own_st0 _ _ _ _ _ hb3]
      rw [show (own_g1_3 (3 : Int32) la2 ha2 la3 ha3 la4 ha4 la5 ha5) = (own_g1_4 (3 : Int32) la2 ha2 la3 ha3 la4 ha4 la5 ha5) from own_st0 _ _ _ _ _ hb3]
      rw [show (own_g2_3 (3 : Int32) la2 ha2 la3 ha3 la4 ha4 la5 ha5) = (own_g2_4 (3 : Int32) la2 ha2 la3 ha3 la4 ha4 la5 ha5) from own_st0 _ _ _ _ _ hb3]
      exact V_bb
    refine own_go (fun _ k => XS.iinc X0.here hx rfl (hb hby d5_41) rfl (l' := #[.val (.ref a1), .val (.int 3), .val (.ref bb), .val (.int ((3 : Int32) + (-1 : Int32)))]) rfl k) ?_
    show own_Run p e below _ T0 (mkF m 44 #[.val (.ref a1), .val (.int 3), .val (.ref bb), .val (.int ((3 : Int32) + (-1 : Int32)))] [])
    rw [show ((3 : Int32) + (-1 : Int32)) = (2 : Int32) by decide]
    refine own_go (fun _ k => XS.goto X0.here hx rfl (pc0 := 44) (pc' := 12) rfl (hb hby d5_44) (by decide) (by decide) k) ?_
    exact rs3_2 a1 (3 : Int32) b2 b3 k2 k3 la2 ha2 la3 ha3 la4 ha4 la5 ha5 h0 n0 hx hZ hw hby hml hown hnm hret hlk bb kb T0 hh _ X0 e0 N0 Z0 K0 F_lows_a1 F_highs_a1 V_b2 V_b3 Vq (rfl) (r_la2) (r_ha2) (r_la3) (r_ha3) (r_la4) (r_ha4) (r_la5) (r_ha5) g_bb sz_bb ne_b2_bb ne_b3_bb ne_a1_bb 
  · refine own_go (fun _ k => XS.ifNo X0.here hx rfl (hb hby d5_20) rfl ((if0 _ _).trans (feq hb3).1) k) ?_
    refine own_go (fun _ k => XS.aloadN X0.here hx rfl (hb hby d5_23) rfl rfl k) ?_
    show own_Run p e below _ T0 (mkF m 24 #[.val (.ref a1), .val (.int 3), .val (.ref bb), .val (.int 3)] [(.ref bb)])
    refine own_go (fun _ k => XS.aloadN X0.here hx rfl (hb hby d5_24) rfl rfl k) ?_
    obtain ⟨T217, X217, e217, st217⟩ := getF X0 hx hZ hown (host := "") (Or.inl (W 14 rfl)) Via.refl e0 F_lows_a1 (g := (mkF m 25 #[.val (.ref a1), .val (.int 3), .val (.ref bb), .val (.int 3)] [(.ref a1), (.ref bb)])) rfl rfl (hb hby d5_25)
    refine own_go st217 ?_
    refine own_go (fun _ k => XS.iloadN X217.here hx rfl (hb hby d5_28) rfl k) ?_
    obtain ⟨cl218, Ar218, q218, S218, N218, H218, G218⟩ := id V_b2
    have hin218 : ¬ ((3 : Int32) < 0 ∨ cl218.slots.size ≤ ((3 : Int32)).toNatClampNeg) := inb_of S218 ⟨by decide, by decide⟩
    refine own_go (X217.iaload hx (j := (3 : Int32)) (v := (.int la3)) (by rw [e217]; exact Ar218.1) (State.isArrayOf_alike hZ.alike Ar218.2.1) Ar218.2.2 hin218 (H218.at hin218 rfl) (g := (mkF m 29 #[.val (.ref a1), .val (.int 3), .val (.ref bb), .val (.int 3)] [(.int 3), (.ref b2), (.ref bb)])) rfl rfl (hb hby d5_29)) ?_
    refine own_go (fun _ k => XS.iconst X217.here hx rfl (hb hby d5_30) k) ?_
    obtain ⟨cl219, Ar219, q219, S219, N219, H219, G219⟩ := id V_bb
    have hin219 : ¬ (la3 < 0 ∨ cl219.slots.size ≤ (la3).toNatClampNeg) := inb_of S219 (by rcases r_la3 with hq | hq | hq <;> rw [hq] <;> exact ⟨by decide, by decide⟩)
    obtain ⟨T220, h220, X220, e220, W220, st220⟩ := stZ X217 hx hZ e217 Ar219 (j := la3) hin219 (g := (mkF m 31 #[.val (.ref a1), .val (.int 3), .val (.ref bb), .val (.int 3)] [(.int 1), (.int la3), (.ref bb)])) rfl rfl (hb hby d5_31)
    refine own_go st220 ?_
    show own_Run p e below _ T220 (mkF m 32 #[.val (.ref a1), .val (.int 3), .val (.ref bb), .val (.int 3)] [])
    have Z0_c221 := Nat.le_trans Z0 (Keep.of_wr W220).1
    have K0_c221 := K0.wr W220 (Or.inr sz_bb)
    have F_lows_a1_c221 := F_lows_a1.other W220 (Or.inl ne_a1_bb)
    have F_highs_a1_c221 := F_highs_a1.other W220 (Or.inl ne_a1_bb)
    have V_b2_c221 := V_b2.other W220 ne_b2_bb
    have V_b3_c221 := V_b3.other W220 ne_b3_bb
    have Vz220 : Arv Z h220 bb kb .boolean (4 : Int32) [(.int (own_w la3 (0 : Int32) (own_g0_4 (3 : Int32) la2 ha2 la3 ha3 la4 ha4 la5 ha5))), (.int (own_w la3 (1 : Int32) (own_g1_4 (3 : Int32) la2 ha2 la3 ha3 la4 ha4 la5 ha5))), (.int (own_w la3 (2 : Int32) (own_g2_4 (3 : Int32) la2 ha2 la3 ha3 la4 ha4 la5 ha5))), (.int (own_g3_4 (3 : Int32) la2 ha2 la3 ha3 la4 ha4 la5 ha5))] (.int 0) := by
      have q := Arv.set Ar219 q219 S219 N219 H219 G219 (fits_nar_bool _) W220 _ rfl (by rcases r_la3 with hq | hq | hq <;> rw [hq] <;> exact Nat.le_of_ble_eq_true rfl)
      rw [own_set4_3 (own_g0_4 (3 : Int32) la2 ha2 la3 ha3 la4 ha4 la5 ha5) (own_g1_4 (3 : Int32) la2 ha2 la3 ha3 la4 ha4 la5 ha5) (own_g2_4 (3 : Int32) la2 ha2 la3 ha3 la4 ha4 la5 ha5) (own_g3_4 (3 : Int32) la2 ha2 la3 ha3 la4 ha4 la5 ha5) la3 r_la3] at q
      exact q
    have N220 := Fr.snoc X220 N0 g_bb
    refine own_go (fun _ k => XS.aloadN X220.here hx rfl (hb hby d5_32) rfl rfl k) ?_
    refine own_go (fun _ k => XS.aloadN X220.here hx rfl (hb hby d5_33) rfl rfl k) ?_
    obtain ⟨T222, X222, e222, st222⟩ := getF X220 hx hZ hown (host := "") (Or.inl (W 16 rfl)) Via.refl e220 F_highs_a1_c221 (g := (mkF m 34 #[.val (.ref a1), .val (.int 3), .val (.ref bb), .val (.int 3)] [(.ref a1), (.ref bb)])) rfl rfl (hb hby d5_34)
    refine own_go st222 ?_
    refine own_go (fun _ k => XS.iloadN X222.here hx rfl (hb hby d5_37) rfl k) ?_
    obtain ⟨cl223, Ar223, q223, S223, N223, H223, G223⟩ := id V_b3_c221
    have hin223 : ¬ ((3 : Int32) < 0 ∨ cl223.slots.size ≤ ((3 : Int32)).toNatClampNeg) := inb_of S223 ⟨by decide, by decide⟩
    refine own_go (X222.iaload hx (j := (3 : Int32)) (v := (.int ha3)) (by rw [e222]; exact Ar223.1) (State.isArrayOf_alike hZ.alike Ar223.2.1) Ar223.2.2 hin223 (H223.at hin223 rfl) (g := (mkF m 38 #[.val (.ref a1), .val (.int 3), .val (.ref bb), .val (.int 3)] [(.int 3), (.ref b3), (.ref bb)])) rfl rfl (hb hby d5_38)) ?_
    refine own_go (fun _ k => XS.iconst X222.here hx rfl (hb hby d5_39) k) ?_
    obtain ⟨cl224, Ar224, q224, S224, N224, H224, G224⟩ := id Vz220
    have hin224 : ¬ (ha3 < 0 ∨ cl224.slots.size ≤ (ha3).toNatClampNeg) := inb_of S224 (by rcases r_ha3 with hq | hq | hq <;> rw [hq] <;> exact ⟨by decide, by decide⟩)
    obtain ⟨T225, h225, X225, e225, W225, st225⟩ := stZ X222 hx hZ e222 Ar224 (j := ha3) hin224 (g := (mkF m 40 #[.val (.ref a1), .val (.int 3), .val (.ref bb), .val (.int 3)] [(.int 1), (.int ha3), (.ref bb)])) rfl rfl (hb hby d5_40)
    refine own_go st225 ?_
    show own_Run p e below _ T225 (mkF m 41 #[.val (.ref a1), .val (.int 3), .val (.ref bb), .val (.int 3)] [])
    have Z0_c226 := Nat.le_trans Z0_c221 (Keep.of_wr W225).1
    have K0_c226 := K0_c221.wr W225 (Or.inr sz_bb)
    have F_lows_a1_c226 := F_lows_a1_c221.other W225 (Or.inl ne_a1_bb)
    have F_highs_a1_c226 := F_highs_a1_c221.other W225 (Or.inl ne_a1_bb)
    have V_b2_c226 := V_b2_c221.other W225 ne_b2_bb
    have V_b3_c226 := V_b3_c221.other W225 ne_b3_bb
    have Vz225 : Arv Z h225 bb kb .boolean (4 : Int32) [(.int (own_w ha3 (0 : Int32) (own_w la3 (0 : Int32) (own_g0_4 (3 : Int32) la2 ha2 la3 ha3 la4 ha4 la5 ha5)))), (.int (own_w ha3 (1 : Int32) (own_w la3 (1 : Int32) (own_g1_4 (3 : Int32) la2 ha2 la3 ha3 la4 ha4 la5 ha5)))), (.int (own_w ha3 (2 : Int32) (own_w la3 (2 : Int32) (own_g2_4 (3 : Int32) la2 ha2 la3 ha3 la4 ha4 la5 ha5)))), (.int (own_g3_4 (3 : Int32) la2 ha2 la3 ha3 la4 ha4 la5 ha5))] (.int 0) := by
      have q := Arv.set Ar224 q224 S224 N224 H224 G224 (fits_nar_bool _) W225 _ rfl (by rcases r_ha3 with hq | hq | hq <;> rw [hq] <;> exact Nat.le_of_ble_eq_true rfl)
      rw [own_set4_3 (own_w la3 (0 : Int32) (own_g0_4 (3 : Int32) la2 ha2 la3 ha3 la4 ha4 la5 ha5)) (own_w la3 (1 : Int32) (own_g1_4 (3 : Int32) la2 ha2 la3 ha3 la4 ha4 la5 ha5)) (own_w la3 (2 : Int32) (own_g2_4 (3 : Int32) la2 ha2 la3 ha3 la4 ha4 la5 ha5)) (own_g3_4 (3 : Int32) la2 ha2 la3 ha3 la4 ha4 la5 ha5) ha3 r_ha3] at q
      exact q
    have N225 := Fr.snoc X225 N220 g_bb
    have Vq : Arv Z h225 bb kb .boolean (4 : Int32) [(.int (own_g0_3 (3 : Int32) la2 ha2 la3 ha3 la4 ha4 la5 ha5)), (.int (own_g1_3 (3 : Int32) la2 ha2 la3 ha3 la4 ha4 la5 ha5)), (.int (own_g2_3 (3 : Int32) la2 ha2 la3 ha3 la4 ha4 la5 ha5)), (.int (own_g3_4 (3 : Int32) la2 ha2 la3 ha3 la4 ha4 la5 ha5))] (.int 0) := by
      have q := Vz225
      rw [show (own_w ha3 (0 : Int32) (own_w la3 (0 : Int32) (own_g0_4 (3 : Int32) la2 ha2 la3 ha3 la4 ha4 la5 ha5))) = (own_g0_3 (3 : Int32) la2 ha2 la3 ha3 la4 ha4 la5 ha5) from own_stW _ _ _ _ _ hb3] at q
      rw [show (own_w ha3 (1 : Int32) (own_w la3 (1 : Int32) (own_g1_4 (3 : Int32) la2 ha2 la3 ha3 la4 ha4 la5 ha5))) = (own_g1_3 (3 : Int32) la2 ha2 la3 ha3 la4 ha4 la5 ha5) from own_stW _ _ _ _ _ hb3] at q
      rw [show (own_w ha3 (2 : Int32) (own_w la3 (2 : Int32) (own_g2_4 (3 : Int32) la2 ha2 la3 ha3 la4 ha4 la5 ha5))) = (own_g2_3 (3 : Int32) la2 ha2 la3 ha3 la4 ha4 la5 ha5) from own_stW _ _ _ _ _ hb3] at q
      exact q
    refine own_go (fun _ k => XS.iinc X225.here hx rfl (hb hby d5_41) rfl (l' := #[.val (.ref a1), .val (.int 3), .val (.ref bb), .val (.int ((3 : Int32) + (-1 : Int32)))]) rfl k) ?_
    show own_Run p e below _ T225 (mkF m 44 #[.val (.ref a1), .val (.int 3), .val (.ref bb), .val (.int ((3 : Int32) + (-1 : Int32)))] [])
    rw [show ((3 : Int32) + (-1 : Int32)) = (2 : Int32) by decide]
    refine own_go (fun _ k => XS.goto X225.here hx rfl (pc0 := 44) (pc' := 12) rfl (hb hby d5_44) (by decide) (by decide) k) ?_
    exact rs3_2 a1 (3 : Int32) b2 b3 k2 k3 la2 ha2 la3 ha3 la4 ha4 la5 ha5 h0 n0 hx hZ hw hby hml hown hnm hret hlk bb kb T225 h225 _ X225 e225 N225 Z0_c226 K0_c226 F_lows_a1_c226 F_highs_a1_c226 V_b2_c226 V_b3_c226 Vq (rfl) (r_la2) (r_ha2) (r_la3) (r_ha3) (r_la4) (r_ha4) (r_la5) (r_ha5) g_bb sz_bb ne_b2_bb ne_b3_bb ne_a1_bb 
set_option maxRecDepth 65536 in
set_option maxHeartbeats 40000000 in
theorem rs4_1 {p : Program} {l : Launch} {e : Env} {s : State} {m : MethodId} {args : Array Value} {below : List Frame} {meth : Method} {c : Code} {Z : State} {a0 : Array Value} (a1 : Addr) (p2 : Int32) (b2 : Addr) (b3 : Addr) (k2 : ClassId) (k3 : ClassId) (la2 : Int32) (ha2 : Int32) (la3 : Int32) (ha3 : Int32) (la4 : Int32) (ha4 : Int32) (la5 : Int32) (ha5 : Int32) (h0 : Heap) (n0 : Nat) (hx : p.tables.exec = Jvm.exec) (hZ : Z.Warmed39 s.vm) (hw : ∀ d ∈ tables_1, d.before a0 Z = true) (hby : c.code = prog_20_method_9_code) (hml : c.maxLocals = 4) (hown : s.vm.findClass own_K0 = some m.cls) (hnm : meth.name = "reachable") (hret : meth.sig.returnType = some (.array .boolean)) (hlk : meth.locks = false)
    (bb : Addr) (kb : ClassId) (T0 : State) (hh : Heap) (locs : List Loc) (X0 : Stand p l e ({ frames := 0, cells := 1, slots := 6, locals := 0 } : Room) s m args below meth c T0 locs 1 6) (e0 : T0.heap = hh) (N0 : Fr n0 locs) (Z0 : n0 ≤ hh.size) (K0 : Keep h0 hh []) (F_lows_a1 : Fld Z hh a1 own_K0 "lows" "[I" (.ref b2)) (F_highs_a1 : Fld Z hh a1 own_K0 "highs" "[I" (.ref b3)) (V_b2 : Arv Z hh b2 k2 .int (1024 : Int32) [(.int 0), (.int 0), (.int la2), (.int la3), (.int la4), (.int la5)] (.int 0)) (V_b3 : Arv Z hh b3 k3 .int (1024 : Int32) [(.int 0), (.int 0), (.int ha2), (.int ha3), (.int ha4), (.int ha5)] (.int 0)) (V_bb : Arv Z hh bb kb .boolean (5 : Int32) [(.int (own_g0_2 (4 : Int32) la2 ha2 la3 ha3 la4 ha4 la5 ha5)), (.int (own_g1_2 (4 : Int32) la2 ha2 la3 ha3 la4 ha4 la5 ha5)), (.int (own_g2_3 (4 : Int32) la2 ha2 la3 ha3 la4 ha4 la5 ha5)), (.int (own_g3_4 (4 : Int32) la2 ha2 la3 ha3 la4 ha4 la5 ha5)), (.int (own_g4_5 (4 : Int32) la2 ha2 la3 ha3 la4 ha4 la5 ha5))] (.int 0)) (hp2 : p2 = (4 : Int32)) (r_la2 : la2 = (0 : Int32) ∨ la2 = (1 : Int32)) (r_ha2 : ha2 = (0 : Int32) ∨ ha2 = (1 : Int32)) (r_la3 : la3 = (0 : Int32) ∨ la3 = (1 : Int32) ∨ la3 = (2 : Int32)) (r_ha3 : ha3 = (0 : Int32) ∨ ha3 = (1 : Int32) ∨ ha3 = (2 : Int32)) (r_la4 : la4 = (0 : Int32) ∨ la4 = (1 : Int32) ∨ la4 = (2 : Int32) ∨ la4 = (3 : Int32)) (r_ha4 : ha4 = (0 : Int32) ∨ ha4 = (1 : Int32) ∨ ha4 = (2 : Int32) ∨ ha4 = (3 : Int32)) (r_la5 : la5 = (0 : Int32) ∨ la5 = (1 : Int32) ∨ la5 = (2 : Int32) ∨ la5 = (3 : Int32) ∨ la5 = (4 : Int32)) (r_ha5 : ha5 = (0 : Int32) ∨ ha5 = (1 : Int32) ∨ ha5 = (2 : Int32) ∨ ha5 = (3 : Int32) ∨ ha5 = (4 : Int32)) (g_bb : n0 ≤ bb) (sz_bb : h0.size ≤ bb) (ne_b2_bb : b2 ≠ bb) (ne_b3_bb : b3 ≠ bb) (ne_a1_bb : a1 ≠ bb) :
    own_Run p e below (fun o U' => ∃ v L, o = .returned v ∧ Q5 Z a1 p2 b2 b3 k2 k3 la2 ha2 la3 ha3 la4 ha4 la5 ha5 h0 n0 v U'.heap L ∧ FrameEnd s o U' L ({ frames := 0, cells := 1, slots := 6, locals := 0 } : Room).cells ({ frames := 0, cells := 1, slots := 6, locals := 0 } : Room).slots) T0 (mkF m 12 #[.val (.ref a1), .val (.int 4), .val (.ref bb), .val (.int 1)] []) := by
  have W := fun (k : Nat) {d : Jvm.Cond} (h : tables_1[k]? = some d) => hw d (List.mem_of_getElem? h)
  show own_Run p e below _ T0 (mkF m 12 #[.val (.ref a1), .val (.int 4), .val (.ref bb), .val (.int 1)] [])
  subst hp2
  show own_Run p e below _ T0 (mkF m 12 #[.val (.ref a1), .val (.int 4), .val (.ref bb), .val (.int 1)] [])
  refine own_go (fun _ k => XS.iloadN X0.here hx rfl (hb hby d5_12) rfl k) ?_
  refine own_go (fun _ k => XS.iconst X0.here hx rfl (hb hby d5_13) k) ?_
  refine own_go (fun _ k => XS.icmpYes X0.here hx rfl (pc0 := 14) (pc' := 47) rfl (hb hby d5_14) rfl (tlt (by decide : (1 : Int32) < (2 : Int32))).1 (by decide) (by decide) k) ?_
  refine own_go (fun _ k => XS.aloadN X0.here hx rfl (hb hby d5_47) rfl rfl k) ?_
  refine own_done (Q := fun v h L => Q5 Z a1 (4 : Int32) b2 b3 k2 k3 la2 ha2 la3 ha3 la4 ha4 la5 ha5 h0 n0 v h L) (v := (some (.ref bb))) X0 (fun h => by rw [hret] at h; cases h) hlk (fun fs hr => own_retA X0 hx hret rfl rfl rfl (hb hby d5_48) hr) ?_ (by decide) (by decide)
  show Q5 Z a1 (4 : Int32) b2 b3 k2 k3 la2 ha2 la3 ha3 la4 ha4 la5 ha5 h0 n0 _ T0.heap _
  rw [e0]
  exact ⟨bb, kb, (5 : Int32), [(.int (own_g0_2 (4 : Int32) la2 ha2 la3 ha3 la4 ha4 la5 ha5)), (.int (own_g1_2 (4 : Int32) la2 ha2 la3 ha3 la4 ha4 la5 ha5)), (.int (own_g2_3 (4 : Int32) la2 ha2 la3 ha3 la4 ha4 la5 ha5)), (.int (own_g3_4 (4 : Int32) la2 ha2 la3 ha3 la4 ha4 la5 ha5)), (.int (own_g4_5 (4 : Int32) la2 ha2 la3 ha3 la4 ha4 la5 ha5))], rfl, N0, K0, V_bb, sz_bb, Or.inr (Or.inr (Or.inr (Or.inr (Or.inl ⟨rfl, rfl, rfl⟩))))⟩
set_option maxRecDepth 65536 in
set_option maxHeartbeats 40000000 in
theorem rs4_2 {p : Program} {l : Launch} {e : Env} {s : State} {m : MethodId} {args : Array Value} {below : List Frame} {meth : Method} {c : Code} {Z : State} {a0 : Array Value} (a1 : Addr) (p2 : Int32) (b2 : Addr) (b3 : Addr) (k2 : ClassId) (k3 : ClassId) (la2 : Int32) (ha2 : Int32) (la3 : Int32) (ha3 : Int32) (la4 : Int32) (ha4 : Int32) (la5 : Int32) (ha5 : Int32) (h0 : Heap) (n0 : Nat) (hx : p.tables.exec = Jvm.exec) (hZ : Z.Warmed39 s.vm) (hw : ∀ d ∈ tables_1, d.before a0 Z = true) (hby : c.code = prog_20_method_9_code) (hml : c.maxLocals = 4) (hown : s.vm.findClass own_K0 = some m.cls) (hnm : meth.name = "reachable") (hret : meth.sig.returnType = some (.array .boolean)) (hlk : meth.locks = false)
    (bb : Addr) (kb : ClassId) (T0 : State) (hh : Heap) (locs : List Loc) (X0 : Stand p l e ({ frames := 0, cells := 1, slots := 6, locals := 0 } : Room) s m args below meth c T0 locs 1 6) (e0 : T0.heap = hh) (N0 : Fr n0 locs) (Z0 : n0 ≤ hh.size) (K0 : Keep h0 hh []) (F_lows_a1 : Fld Z hh a1 own_K0 "lows" "[I" (.ref b2)) (F_highs_a1 : Fld Z hh a1 own_K0 "highs" "[I" (.ref b3)) (V_b2 : Arv Z hh b2 k2 .int (1024 : Int32) [(.int 0), (.int 0), (.int la2), (.int la3), (.int la4), (.int la5)] (.int 0)) (V_b3 : Arv Z hh b3 k3 .int (1024 : Int32) [(.int 0), (.int 0), (.int ha2), (.int ha3), (.int ha4), (.int ha5)] (.int 0)) (V_bb : Arv Z hh bb kb .boolean (5 : Int32) [(.int (own_g0_3 (4 : Int32) la2 ha2 la3 ha3 la4 ha4 la5 ha5)), (.int (own_g1_3 (4 : Int32) la2 ha2 la3 ha3 la4 ha4 la5 ha5)), (.int (own_g2_3 (4 : Int32) la2 ha2 la3 ha3 la4 ha4 la5 ha5)), (.int (own_g3_4 (4 : Int32) la2 ha2 la3 ha3 la4 ha4 la5 ha5)), (.int (own_g4_5 (4 : Int32) la2 ha2 la3 ha3 la4 ha4 la5 ha5))] (.int 0)) (hp2 : p2 = (4 : Int32)) (r_la2 : la2 = (0 : Int32) ∨ la2 = (1 : Int32)) (r_ha2 : ha2 = (0 : Int32) ∨ ha2 = (1 : Int32)) (r_la3 : la3 = (0 : Int32) ∨ la3 = (1 : Int32) ∨ la3 = (2 : Int32)) (r_ha3 : ha3 = (0 : Int32) ∨ ha3 = (1 : Int32) ∨ ha3 = (2 : Int32)) (r_la4 : la4 = (0 : Int32) ∨ la4 = (1 : Int32) ∨ la4 = (2 : Int32) ∨ la4 = (3 : Int32)) (r_ha4 : ha4 = (0 : Int32) ∨ ha4 = (1 : Int32) ∨ ha4 = (2 : Int32) ∨ ha4 = (3 : Int32)) (r_la5 : la5 = (0 : Int32) ∨ la5 = (1 : Int32) ∨ la5 = (2 : Int32) ∨ la5 = (3 : Int32) ∨ la5 = (4 : Int32)) (r_ha5 : ha5 = (0 : Int32) ∨ ha5 = (1 : Int32) ∨ ha5 = (2 : Int32) ∨ ha5 = (3 : Int32) ∨ ha5 = (4 : Int32)) (g_bb : n0 ≤ bb) (sz_bb : h0.size ≤ bb) (ne_b2_bb : b2 ≠ bb) (ne_b3_bb : b3 ≠ bb) (ne_a1_bb : a1 ≠ bb) :
    own_Run p e below (fun o U' => ∃ v L, o = .returned v ∧ Q5 Z a1 p2 b2 b3 k2 k3 la2 ha2 la3 ha3 la4 ha4 la5 ha5 h0 n0 v U'.heap L ∧ FrameEnd s o U' L ({ frames := 0, cells := 1, slots := 6, locals := 0 } : Room).cells ({ frames := 0, cells := 1, slots := 6, locals := 0 } : Room).slots) T0 (mkF m 12 #[.val (.ref a1), .val (.int 4), .val (.ref bb), .val (.int 2)] []) := by
  have W := fun (k : Nat) {d : Jvm.Cond} (h : tables_1[k]? = some d) => hw d (List.mem_of_getElem? h)
  show own_Run p e below _ T0 (mkF m 12 #[.val (.ref a1), .val (.int 4), .val (.ref bb), .val (.int 2)] [])
  subst hp2
  show own_Run p e below _ T0 (mkF m 12 #[.val (.ref a1), .val (.int 4), .val (.ref bb), .val (.int 2)] [])
  refine own_go (fun _ k => XS.iloadN X0.here hx rfl (hb hby d5_12) rfl k) ?_
  refine own_go (fun _ k => XS.iconst X0.here hx rfl (hb hby d5_13) k) ?_
  refine own_go (fun _ k => XS.icmpNo X0.here hx rfl (hb hby d5_14) rfl (flt (by decide : ¬ ((2 : Int32) < (2 : Int32)))).1 k) ?_
  refine own_go (fun _ k => XS.aloadN X0.here hx rfl (hb hby d5_17) rfl rfl k) ?_
  refine own_go (fun _ k => XS.iloadN X0.here hx rfl (hb hby d5_18) rfl k) ?_
  obtain ⟨cl227, Ar227, q227, S227, N227, H227, G227⟩ := id V_bb
  have hin227 : ¬ ((2 : Int32) < 0 ∨ cl227.slots.size ≤ ((2 : Int32)).toNatClampNeg) := inb_of S227 ⟨by decide, by decide⟩
  refine own_go (X0.baloadBooleans hx (j := (2 : Int32)) (v := (.int (own_g2_3 (4 : Int32) la2 ha2 la3 ha3 la4 ha4 la5 ha5))) (by rw [e0]; exact Ar227.1) (State.isArrayOf_alike hZ.alike Ar227.2.1) Ar227.2.2 hin227 (H227.at hin227 rfl) (g := (mkF m 19 #[.val (.ref a1), .val (.int 4), .val (.ref bb), .val (.int 2)] [(.int 2), (.ref bb)])) rfl rfl (hb hby d5_19)) ?_
  by_cases hb2 : (own_g2_3 (4 : Int32) la2 ha2 la3 ha3 la4 ha4 la5 ha5) = (0 : Int32)
  · refine own_go (fun _ k => XS.ifYes X0.here hx rfl (pc0 := 20) (pc' := 41) rfl (hb hby d5_20) rfl ((if0 _ _).trans (teq hb2).1) (by decide) (by decide) k) ?_
    have Vq : Arv Z hh bb kb .boolean (5 : Int32) [(.int (own_g0_2 (4 : Int32) la2 ha2 la3 ha3 la4 ha4 la5 ha5)), (.int (own_g1_2 (4 : Int32) la2 ha2 la3 ha3 la4 ha4 la5 ha5)), (.int (own_g2_3 (4 : Int32) la2 ha2 la3 ha3 la4 ha4 la5 ha5)), (.int (own_g3_4 (4 : Int32) la2 ha2 la3 ha3 la4 ha4 la5 ha5)), (.int (own_g4_5 (4 : Int32) la2 ha2 la3 ha3 la4 ha4 la5 ha5))] (.int 0) := by
      rw [show (own_g0_2 (4 : Int32) la2 ha2 la3 ha3 la4 ha4 la5 ha5) = (own_g0_3 (4 : Int32) la2 ha2 la3 ha3 la4 ha4 la5 ha5) from own_st0 _ _ _ _ _ hb2]
      rw [show (own_g1_2 (4 : Int32) la2 ha2 la3 ha3 la4 ha4 la5 ha5) = (own_g1_3 (4 : Int32) la2 ha2 la3 ha3 la4 ha4 la5 ha5) from own_st0 _ _ _ _ _ hb2]
      exact V_bb
    refine own_go (fun _ k => XS.iinc X0.here hx rfl (hb hby d5_41) rfl (l' := #[.val (.ref a1), .val (.int 4), .val (.ref bb), .val (.int ((2 : Int32) + (-1 : Int32)))]) rfl k) ?_
    show own_Run p e below _ T0 (mkF m 44 #[.val (.ref a1), .val (.int 4), .val (.ref bb), .val (.int ((2 : Int32) + (-1 : Int32)))] [])
    rw [show ((2 : Int32) + (-1 : Int32)) = (1 : Int32) by decide]
    refine own_go (fun _ k => XS.goto X0.here hx rfl (pc0 := 44) (pc' := 12) rfl (hb hby d5_44) (by decide) (by decide) k) ?_
    exact rs4_1 a1 (4 : Int32) b2 b3 k2 k3 la2 ha2 la3 ha3 la4 ha4 la5 ha5 h0 n0 hx hZ hw hby hml hown hnm hret hlk bb kb T0 hh _ X0 e0 N0 Z0 K0 F_lows_a1 F_highs_a1 V_b2 V_b3 Vq (rfl) (r_la2) (r_ha2) (r_la3) (r_ha3) (r_la4) (r_ha4) (r_la5) (r_ha5) g_bb sz_bb ne_b2_bb ne_b3_bb ne_a1_bb 
  · refine own_go (fun _ k => XS.ifNo X0.here hx rfl (hb hby d5_20) rfl ((if0 _ _).trans (feq hb2).1) k) ?_
    refine own_go (fun _ k => XS.aloadN X0.here hx rfl (hb hby d5_23) rfl rfl k) ?_
    show own_Run p e below _ T0 (mkF m 24 #[.val (.ref a1), .val (.int 4), .val (.ref bb), .val (.int 2)] [(.ref bb)])
    refine own_go (fun _ k => XS.aloadN X0.here hx rfl (hb hby d5_24) rfl rfl k) ?_
    obtain ⟨T228, X228, e228, st228⟩ := getF X0 hx hZ hown (host := "") (Or.inl (W 14 rfl)) Via.refl e0 F_lows_a1 (g := (mkF m 25 #[.val (.ref a1), .val (.int 4), .val (.ref bb), .val (.int 2)] [(.ref a1), (.ref bb)])) rfl rfl (hb hby d5_25)
    refine own_go st228 ?_
    refine own_go (fun _ k => XS.iloadN X228.here hx rfl (hb hby d5_28) rfl k) ?_
    obtain ⟨cl229, Ar229, q229, S229, N229, H229, G229⟩ := id V_b2
    have hin229 : ¬ ((2 : Int32) < 0 ∨ cl229.slots.size ≤ ((2 : Int32)).toNatClampNeg) := inb_of S229 ⟨by decide, by decide⟩
    refine own_go (X228.iaload hx (j := (2 : Int32)) (v := (.int la2)) (by rw [e228]; exact Ar229.1) (State.isArrayOf_alike hZ.alike Ar229.2.1) Ar229.2.2 hin229 (H229.at hin229 rfl) (g := (mkF m 29 #[.val (.ref a1), .val (.int 4), .val (.ref bb), .val (.int 2)] [(.int 2), (.ref b2), (.ref bb)])) rfl rfl (hb hby d5_29)) ?_
    refine own_go (fun _ k => XS.iconst X228.here hx rfl (hb hby d5_30) k) ?_
    obtain ⟨cl230, Ar230, q230, S230, N230, H230, G230⟩ := id V_bb
    have hin230 : ¬ (la2 < 0 ∨ cl230.slots.size ≤ (la2).toNatClampNeg) := inb_of S230 (by rcases r_la2 with hq | hq <;> rw [hq] <;> exact ⟨by decide, by decide⟩)
    obtain ⟨T231, h231, X231, e231, W231, st231⟩ := stZ X228 hx hZ e228 Ar230 (j := la2) hin230 (g := (mkF m 31 #[.val (.ref a1), .val (.int 4), .val (.ref bb), .val (.int 2)] [(.int 1), (.int la2), (.ref bb)])) rfl rfl (hb hby d5_31)
    refine own_go st231 ?_
    show own_Run p e below _ T231 (mkF m 32 #[.val (.ref a1), .val (.int 4), .val (.ref bb), .val (.int 2)] [])
    have Z0_c232 := Nat.le_trans Z0 (Keep.of_wr W231).1
    have K0_c232 := K0.wr W231 (Or.inr sz_bb)
    have F_lows_a1_c232 := F_lows_a1.other W231 (Or.inl ne_a1_bb)
    have F_highs_a1_c232 := F_highs_a1.other W231 (Or.inl ne_a1_bb)
    have V_b2_c232 := V_b2.other W231 ne_b2_bb
    have V_b3_c232 := V_b3.other W231 ne_b3_bb
    have Vz231 : Arv Z h231 bb kb .boolean (5 : Int32) [(.int (own_w la2 (0 : Int32) (own_g0_3 (4 : Int32) la2 ha2 la3 ha3 la4 ha4 la5 ha5))), (.int (own_w la2 (1 : Int32) (own_g1_3 (4 : Int32) la2 ha2 la3 ha3 la4 ha4 la5 ha5))), (.int (own_g2_3 (4 : Int32) la2 ha2 la3 ha3 la4 ha4 la5 ha5)), (.int (own_g3_4 (4 : Int32) la2 ha2 la3 ha3 la4 ha4 la5 ha5)), (.int (own_g4_5 (4 : Int32) la2 ha2 la3 ha3 la4 ha4 la5 ha5))] (.int 0) := by
      have q := Arv.set Ar230 q230 S230 N230 H230 G230 (fits_nar_bool _) W231 _ rfl (by rcases r_la2 with hq | hq <;> rw [hq] <;> exact Nat.le_of_ble_eq_true rfl)
      rw [own_set5_2 (own_g0_3 (4 : Int32) la2 ha2 la3 ha3 la4 ha4 la5 ha5) (own_g1_3 (4 : Int32) la2 ha2 la3 ha3 la4 ha4 la5 ha5) (own_g2_3 (4 : Int32) la2 ha2 la3 ha3 la4 ha4 la5 ha5) (own_g3_4 (4 : Int32) la2 ha2 la3 ha3 la4 ha4 la5 ha5) (own_g4_5 (4 : Int32) la2 ha2 la3 ha3 la4 ha4 la5 ha5) la2 r_la2] at q
      exact q
    have N231 := Fr.snoc X231 N0 g_bb
    refine own_go (fun _ k => XS.aloadN X231.here hx rfl (hb hby d5_32) rfl rfl k) ?_
    refine own_go (fun _ k => XS.aloadN X231.here hx rfl (hb hby d5_33) rfl rfl k) ?_
    obtain ⟨T233, X233, e233, st233⟩ := getF X231 hx hZ hown (host := "") (Or.inl (W 16 rfl)) Via.refl e231 F_highs_a1_c232 (g := (mkF m 34 #[.val (.ref a1), .val (.int 4), .val (.ref bb), .val (.int 2)] [(.ref a1), (.ref bb)])) rfl rfl (hb hby d5_34)
    refine own_go st233 ?_
    refine own_go (fun _ k => XS.iloadN X233.here hx rfl (hb hby d5_37) rfl k) ?_
    obtain ⟨cl234, Ar234, q234, S234, N234, H234, G234⟩ := id V_b3_c232
    have hin234 : ¬ ((2 : Int32) < 0 ∨ cl234.slots.size ≤ ((2 : Int32)).toNatClampNeg) := inb_of S234 ⟨by decide, by decide⟩
    refine own_go (X233.iaload hx (j := (2 : Int32)) (v := (.int ha2)) (by rw [e233]; exact Ar234.1) (State.isArrayOf_alike hZ.alike Ar234.2.1) Ar234.2.2 hin234 (H234.at hin234 rfl) (g := (mkF m 38 #[.val (.ref a1), .val (.int 4), .val (.ref bb), .val (.int 2)] [(.int 2), (.ref b3), (.ref bb)])) rfl rfl (hb hby d5_38)) ?_
    refine own_go (fun _ k => XS.iconst X233.here hx rfl (hb hby d5_39) k) ?_
    obtain ⟨cl235, Ar235, q235, S235, N235, H235, G235⟩ := id Vz231
    have hin235 : ¬ (ha2 < 0 ∨ cl235.slots.size ≤ (ha2).toNatClampNeg) := inb_of S235 (by rcases r_ha2 with hq | hq <;> rw [hq] <;> exact ⟨by decide, by decide⟩)
    obtain ⟨T236, h236, X236, e236, W236, st236⟩ := stZ X233 hx hZ e233 Ar235 (j := ha2) hin235 (g := (mkF m 40 #[.val (.ref a1), .val (.int 4), .val (.ref bb), .val (.int 2)] [(.int 1), (.int ha2), (.ref bb)])) rfl rfl (hb hby d5_40)
    refine own_go st236 ?_
    show own_Run p e below _ T236 (mkF m 41 #[.val (.ref a1), .val (.int 4), .val (.ref bb), .val (.int 2)] [])
    have Z0_c237 := Nat.le_trans Z0_c232 (Keep.of_wr W236).1
    have K0_c237 := K0_c232.wr W236 (Or.inr sz_bb)
    have F_lows_a1_c237 := F_lows_a1_c232.other W236 (Or.inl ne_a1_bb)
    have F_highs_a1_c237 := F_highs_a1_c232.other W236 (Or.inl ne_a1_bb)
    have V_b2_c237 := V_b2_c232.other W236 ne_b2_bb
    have V_b3_c237 := V_b3_c232.other W236 ne_b3_bb
    have Vz236 : Arv Z h236 bb kb .boolean (5 : Int32) [(.int (own_w ha2 (0 : Int32) (own_w la2 (0 : Int32) (own_g0_3 (4 : Int32) la2 ha2 la3 ha3 la4 ha4 la5 ha5)))), (.int (own_w ha2 (1 : Int32) (own_w la2 (1 : Int32) (own_g1_3 (4 : Int32) la2 ha2 la3 ha3 la4 ha4 la5 ha5)))), (.int (own_g2_3 (4 : Int32) la2 ha2 la3 ha3 la4 ha4 la5 ha5)), (.int (own_g3_4 (4 : Int32) la2 ha2 la3 ha3 la4 ha4 la5 ha5)), (.int (own_g4_5 (4 : Int32) la2 ha2 la3 ha3 la4 ha4 la5 ha5))] (.int 0) := by
      have q := Arv.set Ar235 q235 S235 N235 H235 G235 (fits_nar_bool _) W236 _ rfl (by rcases r_ha2 with hq | hq <;> rw [hq] <;> exact Nat.le_of_ble_eq_true rfl)
      rw [own_set5_2 (own_w la2 (0 : Int32) (own_g0_3 (4 : Int32) la2 ha2 la3 ha3 la4 ha4 la5 ha5)) (own_w la2 (1 : Int32) (own_g1_3 (4 : Int32) la2 ha2 la3 ha3 la4 ha4 la5 ha5)) (own_g2_3 (4 : Int32) la2 ha2 la3 ha3 la4 ha4 la5 ha5) (own_g3_4 (4 : Int32) la2 ha2 la3 ha3 la4 ha4 la5 ha5) (own_g4_5 (4 : Int32) la2 ha2 la3 ha3 la4 ha4 la5 ha5) ha2 r_ha2] at q
      exact q
    have N236 := Fr.snoc X236 N231 g_bb
    have Vq : Arv Z h236 bb kb .boolean (5 : Int32) [(.int (own_g0_2 (4 : Int32) la2 ha2 la3 ha3 la4 ha4 la5 ha5)), (.int (own_g1_2 (4 : Int32) la2 ha2 la3 ha3 la4 ha4 la5 ha5)), (.int (own_g2_3 (4 : Int32) la2 ha2 la3 ha3 la4 ha4 la5 ha5)), (.int (own_g3_4 (4 : Int32) la2 ha2 la3 ha3 la4 ha4 la5 ha5)), (.int (own_g4_5 (4 : Int32) la2 ha2 la3 ha3 la4 ha4 la5 ha5))] (.int 0) := by
      have q := Vz236
      rw [show (own_w ha2 (0 : Int32) (own_w la2 (0 : Int32) (own_g0_3 (4 : Int32) la2 ha2 la3 ha3 la4 ha4 la5 ha5))) = (own_g0_2 (4 : Int32) la2 ha2 la3 ha3 la4 ha4 la5 ha5) from own_stW _ _ _ _ _ hb2] at q
      rw [show (own_w ha2 (1 : Int32) (own_w la2 (1 : Int32) (own_g1_3 (4 : Int32) la2 ha2 la3 ha3 la4 ha4 la5 ha5))) = (own_g1_2 (4 : Int32) la2 ha2 la3 ha3 la4 ha4 la5 ha5) from own_stW _ _ _ _ _ hb2] at q
      exact q
    refine own_go (fun _ k => XS.iinc X236.here hx rfl (hb hby d5_41) rfl (l' := #[.val (.ref a1), .val (.int 4), .val (.ref bb), .val (.int ((2 : Int32) + (-1 : Int32)))]) rfl k) ?_
    show own_Run p e below _ T236 (mkF m 44 #[.val (.ref a1), .val (.int 4), .val (.ref bb), .val (.int ((2 : Int32) + (-1 : Int32)))] [])
    rw [show ((2 : Int32) + (-1 : Int32)) = (1 : Int32) by decide]
    refine own_go (fun _ k => XS.goto X236.here hx rfl (pc0 := 44) (pc' := 12) rfl (hb hby d5_44) (by decide) (by decide) k) ?_
    exact rs4_1 a1 (4 : Int32) b2 b3 k2 k3 la2 ha2 la3 ha3 la4 ha4 la5 ha5 h0 n0 hx hZ hw hby hml hown hnm hret hlk bb kb T236 h236 _ X236 e236 N236 Z0_c237 K0_c237 F_lows_a1_c237 F_highs_a1_c237 V_b2_c237 V_b3_c237 Vq (rfl) (r_la2) (r_ha2) (r_la3) (r_ha3) (r_la4) (r_ha4) (r_la5) (r_ha5) g_bb sz_bb ne_b2_bb ne_b3_bb ne_a1_bb 
set_option maxRecDepth 65536 in
set_option maxHeartbeats 40000000 in
theorem rs4_3 {p : Program} {l : Launch} {e : Env} {s : State} {m : MethodId} {args : Array Value} {below : List Frame} {meth : Method} {c : Code} {Z : State} {a0 : Array Value} (a1 : Addr) (p2 : Int32) (b2 : Addr) (b3 : Addr) (k2 : ClassId) (k3 : ClassId) (la2 : Int32) (ha2 : Int32) (la3 : Int32) (ha3 : Int32) (la4 : Int32) (ha4 : Int32) (la5 : Int32) (ha5 : Int32) (h0 : Heap) (n0 : Nat) (hx : p.tables.exec = Jvm.exec) (hZ : Z.Warmed39 s.vm) (hw : ∀ d ∈ tables_1, d.before a0 Z = true) (hby : c.code = prog_20_method_9_code) (hml : c.maxLocals = 4) (hown : s.vm.findClass own_K0 = some m.cls) (hnm : meth.name = "reachable") (hret : meth.sig.returnType = some (.array .boolean)) (hlk : meth.locks = false)
    (bb : Addr) (kb : ClassId) (T0 : State) (hh : Heap) (locs : List Loc) (X0 : Stand p l e ({ frames := 0, cells := 1, slots := 6, locals := 0 } : Room) s m args below meth c T0 locs 1 6) (e0 : T0.heap = hh) (N0 : Fr n0 locs) (Z0 : n0 ≤ hh.size) (K0 : Keep h0 hh []) (F_lows_a1 : Fld Z hh a1 own_K0 "lows" "[I" (.ref b2)) (F_highs_a1 : Fld Z hh a1 own_K0 "highs" "[I" (.ref b3)) (V_b2 : Arv Z hh b2 k2 .int (1024 : Int32) [(.int 0), (.int 0), (.int la2), (.int la3), (.int la4), (.int la5)] (.int 0)) (V_b3 : Arv Z hh b3 k3 .int (1024 : Int32) [(.int 0), (.int 0), (.int ha2), (.int ha3), (.int ha4), (.int ha5)] (.int 0)) (V_bb : Arv Z hh bb kb .boolean (5 : Int32) [(.int (own_g0_4 (4 : Int32) la2 ha2 la3 ha3 la4 ha4 la5 ha5)), (.int (own_g1_4 (4 : Int32) la2 ha2 la3 ha3 la4 ha4 la5 ha5)), (.int (own_g2_4 (4 : Int32) la2 ha2 la3 ha3 la4 ha4 la5 ha5)), (.int (own_g3_4 (4 : Int32) la2 ha2 la3 ha3 la4 ha4 la5 ha5)), (.int (own_g4_5 (4 : Int32) la2 ha2 la3 ha3 la4 ha4 la5 ha5))] (.int 0)) (hp2 : p2 = (4 : Int32)) (r_la2 : la2 = (0 : Int32) ∨ la2 = (1 : Int32)) (r_ha2 : ha2 = (0 : Int32) ∨ ha2 = (1 : Int32)) (r_la3 : la3 = (0 : Int32) ∨ la3 = (1 : Int32) ∨ la3 = (2 : Int32)) (r_ha3 : ha3 = (0 : Int32) ∨ ha3 = (1 : Int32) ∨ ha3 = (2 : Int32)) (r_la4 : la4 = (0 : Int32) ∨ la4 = (1 : Int32) ∨ la4 = (2 : Int32) ∨ la4 = (3 : Int32)) (r_ha4 : ha4 = (0 : Int32) ∨ ha4 = (1 : Int32) ∨ ha4 = (2 : Int32) ∨ ha4 = (3 : Int32)) (r_la5 : la5 = (0 : Int32) ∨ la5 = (1 : Int32) ∨ la5 = (2 : Int32) ∨ la5 = (3 : Int32) ∨ la5 = (4 : Int32)) (r_ha5 : ha5 = (0 : Int32) ∨ ha5 = (1 : Int32) ∨ ha5 = (2 : Int32) ∨ ha5 = (3 : Int32) ∨ ha5 = (4 : Int32)) (g_bb : n0 ≤ bb) (sz_bb : h0.size ≤ bb) (ne_b2_bb : b2 ≠ bb) (ne_b3_bb : b3 ≠ bb) (ne_a1_bb : a1 ≠ bb) :
    own_Run p e below (fun o U' => ∃ v L, o = .returned v ∧ Q5 Z a1 p2 b2 b3 k2 k3 la2 ha2 la3 ha3 la4 ha4 la5 ha5 h0 n0 v U'.heap L ∧ FrameEnd s o U' L ({ frames := 0, cells := 1, slots := 6, locals := 0 } : Room).cells ({ frames := 0, cells := 1, slots := 6, locals := 0 } : Room).slots) T0 (mkF m 12 #[.val (.ref a1), .val (.int 4), .val (.ref bb), .val (.int 3)] []) := by
  have W := fun (k : Nat) {d : Jvm.Cond} (h : tables_1[k]? = some d) => hw d (List.mem_of_getElem? h)
  show own_Run p e below _ T0 (mkF m 12 #[.val (.ref a1), .val (.int 4), .val (.ref bb), .val (.int 3)] [])
  subst hp2
  show own_Run p e below _ T0 (mkF m 12 #[.val (.ref a1), .val (.int 4), .val (.ref bb), .val (.int 3)] [])
  refine own_go (fun _ k => XS.iloadN X0.here hx rfl (hb hby d5_12) rfl k) ?_
  refine own_go (fun _ k => XS.iconst X0.here hx rfl (hb hby d5_13) k) ?_
  refine own_go (fun _ k => XS.icmpNo X0.here hx rfl (hb hby d5_14) rfl (flt (by decide : ¬ ((3 : Int32) < (2 : Int32)))).1 k) ?_
  refine own_go (fun _ k => XS.aloadN X0.here hx rfl (hb hby d5_17) rfl rfl k) ?_
  refine own_go (fun _ k => XS.iloadN X0.here hx rfl (hb hby d5_18) rfl k) ?_
  obtain ⟨cl238, Ar238, q238, S238, N238, H238, G238⟩ := id V_bb
  have hin238 : ¬ ((3 : Int32) < 0 ∨ cl238.slots.size ≤ ((3 : Int32)).toNatClampNeg) := inb_of S238 ⟨by decide, by decide⟩
  refine own_go (X0.baloadBooleans hx (j := (3 : Int32)) (v := (.int (own_g3_4 (4 : Int32) la2 ha2 la3 ha3 la4 ha4 la5 ha5))) (by rw [e0]; exact Ar238.1) (State.isArrayOf_alike hZ.alike Ar238.2.1) Ar238.2.2 hin238 (H238.at hin238 rfl) (g := (mkF m 19 #[.val (.ref a1), .val (.int 4), .val (.ref bb), .val (.int 3)] [(.int 3), (.ref bb)])) rfl rfl (hb hby d5_19)) ?_
  by_cases hb3 : (own_g3_4 (4 : Int32) la2 ha2 la3 ha3 la4 ha4 la5 ha5) = (0 : Int32)
  · refine own_go (fun _ k => XS.ifYes X0.here hx rfl (pc0 := 20) (pc' := 41) rfl (hb hby d5_20) rfl ((if0 _ _).trans (teq hb3).1) (by decide) (by decide) k) ?_
    have Vq : Arv Z hh bb kb .boolean (5 : Int32) [(.int (own_g0_3 (4 : Int32) la2 ha2 la3 ha3 la4 ha4 la5 ha5)), (.int (own_g1_3 (4 : Int32) la2 ha2 la3 ha3 la4 ha4 la5 ha5)), (.int (own_g2_3 (4 : Int32) la2 ha2 la3 ha3 la4 ha4 la5 ha5)), (.int (own_g3_4 (4 : Int32) la2 ha2 la3 ha3 la4 ha4 la5 ha5)), (.int (own_g4_5 (4 : Int32) la2 ha2 la3 ha3 la4 ha4 la5 ha5))] (.int 0) := by
      rw [show (own_g0_3 (4 : Int32) la2 ha2 la3 ha3 la4 ha4 la5 ha5) = (own_g0_4 (4 : Int32) la2 ha2 la3 ha3 la4 ha4 la5 ha5) from own_st0 _ _ _ _ _ hb3]
      rw [show (own_g1_3 (4 : Int32) la2 ha2 la3 ha3 la4 ha4 la5 ha5) = (own_g1_4 (4 : Int32) la2 ha2 la3 ha3 la4 ha4 la5 ha5) from own_st0 _ _ _ _ _ hb3]
      rw [show (own_g2_3 (4 : Int32) la2 ha2 la3 ha3 la4 ha4 la5 ha5) = (own_g2_4 (4 : Int32) la2 ha2 la3 ha3 la4 ha4 la5 ha5) from own_st0 _ _ _ _ _ hb3]
      exact V_bb
    refine own_go (fun _ k => XS.iinc X0.here hx rfl (hb hby d5_41) rfl (l' := #[.val (.ref a1), .val (.int 4), .val (.ref bb), .val (.int ((3 : Int32) + (-1 : Int32)))]) rfl k) ?_
    show own_Run p e below _ T0 (mkF m 44 #[.val (.ref a1), .val (.int 4), .val (.ref bb), .val (.int ((3 : Int32) + (-1 : Int32)))] [])
    rw [show ((3 : Int32) + (-1 : Int32)) = (2 : Int32) by decide]
    refine own_go (fun _ k => XS.goto X0.here hx rfl (pc0 := 44) (pc' := 12) rfl (hb hby d5_44) (by decide) (by decide) k) ?_
    exact rs4_2 a1 (4 : Int32) b2 b3 k2 k3 la2 ha2 la3 ha3 la4 ha4 la5 ha5 h0 n0 hx hZ hw hby hml hown hnm hret hlk bb kb T0 hh _ X0 e0 N0 Z0 K0 F_lows_a1 F_highs_a1 V_b2 V_b3 Vq (rfl) (r_la2) (r_ha2) (r_la3) (r_ha3) (r_la4) (r_ha4) (r_la5) (r_ha5) g_bb sz_bb ne_b2_bb ne_b3_bb ne_a1_bb 
  · refine own_go (fun _ k => XS.ifNo X0.here hx rfl (hb hby d5_20) rfl ((if0 _ _).trans (feq hb3).1) k) ?_
    refine own_go (fun _ k => XS.aloadN X0.here hx rfl (hb hby d5_23) rfl rfl k) ?_
    show own_Run p e below _ T0 (mkF m 24 #[.val (.ref a1), .val (.int 4), .val (.ref bb), .val (.int 3)] [(.ref bb)])
    refine own_go (fun _ k => XS.aloadN X0.here hx rfl (hb hby d5_24) rfl rfl k) ?_
    obtain ⟨T239, X239, e239, st239⟩ := getF X0 hx hZ hown (host := "") (Or.inl (W 14 rfl)) Via.refl e0 F_lows_a1 (g := (mkF m 25 #[.val (.ref a1), .val (.int 4), .val (.ref bb), .val (.int 3)] [(.ref a1), (.ref bb)])) rfl rfl (hb hby d5_25)
    refine own_go st239 ?_
    refine own_go (fun _ k => XS.iloadN X239.here hx rfl (hb hby d5_28) rfl k) ?_
    obtain ⟨cl240, Ar240, q240, S240, N240, H240, G240⟩ := id V_b2
    have hin240 : ¬ ((3 : Int32) < 0 ∨ cl240.slots.size ≤ ((3 : Int32)).toNatClampNeg) := inb_of S240 ⟨by decide, by decide⟩
    refine own_go (X239.iaload hx (j := (3 : Int32)) (v := (.int la3)) (by rw [e239]; exact Ar240.1) (State.isArrayOf_alike hZ.alike Ar240.2.1) Ar240.2.2 hin240 (H240.at hin240 rfl) (g := (mkF m 29 #[.val (.ref a1), .val (.int 4), .val (.ref bb), .val (.int 3)] [(.int 3), (.ref b2), (.ref bb)])) rfl rfl (hb hby d5_29)) ?_
    refine own_go (fun _ k => XS.iconst X239.here hx rfl (hb hby d5_30) k) ?_
    obtain ⟨cl241, Ar241, q241, S241, N241, H241, G241⟩ := id V_bb
    have hin241 : ¬ (la3 < 0 ∨ cl241.slots.size ≤ (la3).toNatClampNeg) := inb_of S241 (by rcases r_la3 with hq | hq | hq <;> rw [hq] <;> exact ⟨by decide, by decide⟩)
    obtain ⟨T242, h242, X242, e242, W242, st242⟩ := stZ X239 hx hZ e239 Ar241 (j := la3) hin241 (g := (mkF m 31 #[.val (.ref a1), .val (.int 4), .val (.ref bb), .val (.int 3)] [(.int 1), (.int la3), (.ref bb)])) rfl rfl (hb hby d5_31)
    refine own_go st242 ?_
    show own_Run p e below _ T242 (mkF m 32 #[.val (.ref a1), .val (.int 4), .val (.ref bb), .val (.int 3)] [])
    have Z0_c243 := Nat.le_trans Z0 (Keep.of_wr W242).1
    have K0_c243 := K0.wr W242 (Or.inr sz_bb)
    have F_lows_a1_c243 := F_lows_a1.other W242 (Or.inl ne_a1_bb)
    have F_highs_a1_c243 := F_highs_a1.other W242 (Or.inl ne_a1_bb)
    have V_b2_c243 := V_b2.other W242 ne_b2_bb
    have V_b3_c243 := V_b3.other W242 ne_b3_bb
    have Vz242 : Arv Z h242 bb kb .boolean (5 : Int32) [(.int (own_w la3 (0 : Int32) (own_g0_4 (4 : Int32) la2 ha2 la3 ha3 la4 ha4 la5 ha5))), (.int (own_w la3 (1 : Int32) (own_g1_4 (4 : Int32) la2 ha2 la3 ha3 la4 ha4 la5 ha5))), (.int (own_w la3 (2 : Int32) (own_g2_4 (4 : Int32) la2 ha2 la3 ha3 la4 ha4 la5 ha5))), (.int (own_g3_4 (4 : Int32) la2 ha2 la3 ha3 la4 ha4 la5 ha5)), (.int (own_g4_5 (4 : Int32) la2 ha2 la3 ha3 la4 ha4 la5 ha5))] (.int 0) := by
      have q := Arv.set Ar241 q241 S241 N241 H241 G241 (fits_nar_bool _) W242 _ rfl (by rcases r_la3 with hq | hq | hq <;> rw [hq] <;> exact Nat.le_of_ble_eq_true rfl)
      rw [own_set5_3 (own_g0_4 (4 : Int32) la2 ha2 la3 ha3 la4 ha4 la5 ha5) (own_g1_4 (4 : Int32) la2 ha2 la3 ha3 la4 ha4 la5 ha5) (own_g2_4 (4 : Int32) la2 ha2 la3 ha3 la4 ha4 la5 ha5) (own_g3_4 (4 : Int32) la2 ha2 la3 ha3 la4 ha4 la5 ha5) (own_g4_5 (4 : Int32) la2 ha2 la3 ha3 la4 ha4 la5 ha5) la3 r_la3] at q
      exact q
    have N242 := Fr.snoc X242 N0 g_bb
    refine own_go (fun _ k => XS.aloadN X242.here hx rfl (hb hby d5_32) rfl rfl k) ?_
    refine own_go (fun _ k => XS.aloadN X242.here hx rfl (hb hby d5_33) rfl rfl k) ?_
    obtain ⟨T244, X244, e244, st244⟩ := getF X242 hx hZ hown (host := "") (Or.inl (W 16 rfl)) Via.refl e242 F_highs_a1_c243 (g := (mkF m 34 #[.val (.ref a1), .val (.int 4), .val (.ref bb), .val (.int 3)] [(.ref a1), (.ref bb)])) rfl rfl (hb hby d5_34)
    refine own_go st244 ?_
    refine own_go (fun _ k => XS.iloadN X244.here hx rfl (hb hby d5_37) rfl k) ?_
    obtain ⟨cl245, Ar245, q245, S245, N245, H245, G245⟩ := id V_b3_c243
    have hin245 : ¬ ((3 : Int32) < 0 ∨ cl245.slots.size ≤ ((3 : Int32)).toNatClampNeg) := inb_of S245 ⟨by decide, by decide⟩
    refine own_go (X244.iaload hx (j := (3 : Int32)) (v := (.int ha3)) (by rw [e244]; exact Ar245.1) (State.isArrayOf_alike hZ.alike Ar245.2.1) Ar245.2.2 hin245 (H245.at hin245 rfl) (g := (mkF m 38 #[.val (.ref a1), .val (.int 4), .val (.ref bb), .val (.int 3)] [(.int 3), (.ref b3), (.ref bb)])) rfl rfl (hb hby d5_38)) ?_
    refine own_go (fun _ k => XS.iconst X244.here hx rfl (hb hby d5_39) k) ?_
    obtain ⟨cl246, Ar246, q246, S246, N246, H246, G246⟩ := id Vz242
    have hin246 : ¬ (ha3 < 0 ∨ cl246.slots.size ≤ (ha3).toNatClampNeg) := inb_of S246 (by rcases r_ha3 with hq | hq | hq <;> rw [hq] <;> exact ⟨by decide, by decide⟩)
    obtain ⟨T247, h247, X247, e247, W247, st247⟩ := stZ X244 hx hZ e244 Ar246 (j := ha3) hin246 (g := (mkF m 40 #[.val (.ref a1), .val (.int 4), .val (.ref bb), .val (.int 3)] [(.int 1), (.int ha3), (.ref bb)])) rfl rfl (hb hby d5_40)
    refine own_go st247 ?_
    show own_Run p e below _ T247 (mkF m 41 #[.val (.ref a1), .val (.int 4), .val (.ref bb), .val (.int 3)] [])
    have Z0_c248 := Nat.le_trans Z0_c243 (Keep.of_wr W247).1
    have K0_c248 := K0_c243.wr W247 (Or.inr sz_bb)
    have F_lows_a1_c248 := F_lows_a1_c243.other W247 (Or.inl ne_a1_bb)
    have F_highs_a1_c248 := F_highs_a1_c243.other W247 (Or.inl ne_a1_bb)
    have V_b2_c248 := V_b2_c243.other W247 ne_b2_bb
    have V_b3_c248 := V_b3_c243.other W247 ne_b3_bb
    have Vz247 : Arv Z h247 bb kb .boolean (5 : Int32) [(.int (own_w ha3 (0 : Int32) (own_w la3 (0 : Int32) (own_g0_4 (4 : Int32) la2 ha2 la3 ha3 la4 ha4 la5 ha5)))), (.int (own_w ha3 (1 : Int32) (own_w la3 (1 : Int32) (own_g1_4 (4 : Int32) la2 ha2 la3 ha3 la4 ha4 la5 ha5)))), (.int (own_w ha3 (2 : Int32) (own_w la3 (2 : Int32) (own_g2_4 (4 : Int32) la2 ha2 la3 ha3 la4 ha4 la5 ha5)))), (.int (own_g3_4 (4 : Int32) la2 ha2 la3 ha3 la4 ha4 la5 ha5)), (.int (own_g4_5 (4 : Int32) la2 ha2 la3 ha3 la4 ha4 la5 ha5))] (.int 0) := by
      have q := Arv.set Ar246 q246 S246 N246 H246 G246 (fits_nar_bool _) W247 _ rfl (by rcases r_ha3 with hq | hq | hq <;> rw [hq] <;> exact Nat.le_of_ble_eq_true rfl)
      rw [own_set5_3 (own_w la3 (0 : Int32) (own_g0_4 (4 : Int32) la2 ha2 la3 ha3 la4 ha4 la5 ha5)) (own_w la3 (1 : Int32) (own_g1_4 (4 : Int32) la2 ha2 la3 ha3 la4 ha4 la5 ha5)) (own_w la3 (2 : Int32) (own_g2_4 (4 : Int32) la2 ha2 la3 ha3 la4 ha4 la5 ha5)) (own_g3_4 (4 : Int32) la2 ha2 la3 ha3 la4 ha4 la5 ha5) (own_g4_5 (4 : Int32) la2 ha2 la3 ha3 la4 ha4 la5 ha5) ha3 r_ha3] at q
      exact q
    have N247 := Fr.snoc X247 N242 g_bb
    have Vq : Arv Z h247 bb kb .boolean (5 : Int32) [(.int (own_g0_3 (4 : Int32) la2 ha2 la3 ha3 la4 ha4 la5 ha5)), (.int (own_g1_3 (4 : Int32) la2 ha2 la3 ha3 la4 ha4 la5 ha5)), (.int (own_g2_3 (4 : Int32) la2 ha2 la3 ha3 la4 ha4 la5 ha5)), (.int (own_g3_4 (4 : Int32) la2 ha2 la3 ha3 la4 ha4 la5 ha5)), (.int (own_g4_5 (4 : Int32) la2 ha2 la3 ha3 la4 ha4 la5 ha5))] (.int 0) := by
      have q := Vz247
      rw [show (own_w ha3 (0 : Int32) (own_w la3 (0 : Int32) (own_g0_4 (4 : Int32) la2 ha2 la3 ha3 la4 ha4 la5 ha5))) = (own_g0_3 (4 : Int32) la2 ha2 la3 ha3 la4 ha4 la5 ha5) from own_stW _ _ _ _ _ hb3] at q
      rw [show (own_w ha3 (1 : Int32) (own_w la3 (1 : Int32) (own_g1_4 (4 : Int32) la2 ha2 la3 ha3 la4 ha4 la5 ha5))) = (own_g1_3 (4 : Int32) la2 ha2 la3 ha3 la4 ha4 la5 ha5) from own_stW _ _ _ _ _ hb3] at q
      rw [show (own_w ha3 (2 : Int32) (own_w la3 (2 : Int32) (own_g2_4 (4 : Int32) la2 ha2 la3 ha3 la4 ha4 la5 ha5))) = (own_g2_3 (4 : Int32) la2 ha2 la3 ha3 la4 ha4 la5 ha5) from own_stW _ _ _ _ _ hb3] at q
      exact q
    refine own_go (fun _ k => XS.iinc X247.here hx rfl (hb hby d5_41) rfl (l' := #[.val (.ref a1), .val (.int 4), .val (.ref bb), .val (.int ((3 : Int32) + (-1 : Int32)))]) rfl k) ?_
    show own_Run p e below _ T247 (mkF m 44 #[.val (.ref a1), .val (.int 4), .val (.ref bb), .val (.int ((3 : Int32) + (-1 : Int32)))] [])
    rw [show ((3 : Int32) + (-1 : Int32)) = (2 : Int32) by decide]
    refine own_go (fun _ k => XS.goto X247.here hx rfl (pc0 := 44) (pc' := 12) rfl (hb hby d5_44) (by decide) (by decide) k) ?_
    exact rs4_2 a1 (4 : Int32) b2 b3 k2 k3 la2 ha2 la3 ha3 la4 ha4 la5 ha5 h0 n0 hx hZ hw hby hml hown hnm hret hlk bb kb T247 h247 _ X247 e247 N247 Z0_c248 K0_c248 F_lows_a1_c248 F_highs_a1_c248 V_b2_c248 V_b3_c248 Vq (rfl) (r_la2) (r_ha2) (r_la3) (r_ha3) (r_la4) (r_ha4) (r_la5) (r_ha5) g_bb sz_bb ne_b2_bb ne_b3_bb ne_a1_bb 
set_option maxRecDepth 65536 in
set_option maxHeartbeats 40000000 in
theorem rs4_4 {p : Program} {l : Launch} {e : Env} {s : State} {m : MethodId} {args : Array Value} {below : List Frame} {meth : Method} {c : Code} {Z : State} {a0 : Array Value} (a1 : Addr) (p2 : Int32) (b2 : Addr) (b3 : Addr) (k2 : ClassId) (k3 : ClassId) (la2 : Int32) (ha2 : Int32) (la3 : Int32) (ha3 : Int32) (la4 : Int32) (ha4 : Int32) (la5 : Int32) (ha5 : Int32) (h0 : Heap) (n0 : Nat) (hx : p.tables.exec = Jvm.exec) (hZ : Z.Warmed39 s.vm) (hw : ∀ d ∈ tables_1, d.before a0 Z = true) (hby : c.code = prog_20_method_9_code) (hml : c.maxLocals = 4) (hown : s.vm.findClass own_K0 = some m.cls) (hnm : meth.name = "reachable") (hret : meth.sig.returnType = some (.array .boolean)) (hlk : meth.locks = false)
    (bb : Addr) (kb : ClassId) (T0 : State) (hh : Heap) (locs : List Loc) (X0 : Stand p l e ({ frames := 0, cells := 1, slots := 6, locals := 0 } : Room) s m args below meth c T0 locs 1 6) (e0 : T0.heap = hh) (N0 : Fr n0 locs) (Z0 : n0 ≤ hh.size) (K0 : Keep h0 hh []) (F_lows_a1 : Fld Z hh a1 own_K0 "lows" "[I" (.ref b2)) (F_highs_a1 : Fld Z hh a1 own_K0 "highs" "[I" (.ref b3)) (V_b2 : Arv Z hh b2 k2 .int (1024 : Int32) [(.int 0), (.int 0), (.int la2), (.int la3), (.int la4), (.int la5)] (.int 0)) (V_b3 : Arv Z hh b3 k3 .int (1024 : Int32) [(.int 0), (.int 0), (.int ha2), (.int ha3), (.int ha4), (.int ha5)] (.int 0)) (V_bb : Arv Z hh bb kb .boolean (5 : Int32) [(.int (own_g0_5 (4 : Int32) la2 ha2 la3 ha3 la4 ha4 la5 ha5)), (.int (own_g1_5 (4 : Int32) la2 ha2 la3 ha3 la4 ha4 la5 ha5)), (.int (own_g2_5 (4 : Int32) la2 ha2 la3 ha3 la4 ha4 la5 ha5)), (.int (own_g3_5 (4 : Int32) la2 ha2 la3 ha3 la4 ha4 la5 ha5)), (.int (own_g4_5 (4 : Int32) la2 ha2 la3 ha3 la4 ha4 la5 ha5))] (.int 0)) (hp2 : p2 = (4 : Int32)) (r_la2 : la2 = (0 : Int32) ∨ la2 = (1 : Int32)) (r_ha2 : ha2 = (0 : Int32) ∨ ha2 = (1 : Int32)) (r_la3 : la3 = (0 : Int32) ∨ la3 = (1 : Int32) ∨ la3 = (2 : Int32)) (r_ha3 : ha3 = (0 : Int32) ∨ ha3 = (1 : Int32) ∨ ha3 = (2 : Int32)) (r_la4 : la4 = (0 : Int32) ∨ la4 = (1 : Int32) ∨ la4 = (2 : Int32) ∨ la4 = (3 : Int32)) (r_ha4 : ha4 = (0 : Int32) ∨ ha4 = (1 : Int32) ∨ ha4 = (2 : Int32) ∨ ha4 = (3 : Int32)) (r_la5 : la5 = (0 : Int32) ∨ la5 = (1 : Int32) ∨ la5 = (2 : Int32) ∨ la5 = (3 : Int32) ∨ la5 = (4 : Int32)) (r_ha5 : ha5 = (0 : Int32) ∨ ha5 = (1 : Int32) ∨ ha5 = (2 : Int32) ∨ ha5 = (3 : Int32) ∨ ha5 = (4 : Int32)) (g_bb : n0 ≤ bb) (sz_bb : h0.size ≤ bb) (ne_b2_bb : b2 ≠ bb) (ne_b3_bb : b3 ≠ bb) (ne_a1_bb : a1 ≠ bb) :
    own_Run p e below (fun o U' => ∃ v L, o = .returned v ∧ Q5 Z a1 p2 b2 b3 k2 k3 la2 ha2 la3 ha3 la4 ha4 la5 ha5 h0 n0 v U'.heap L ∧ FrameEnd s o U' L ({ frames := 0, cells := 1, slots := 6, locals := 0 } : Room).cells ({ frames := 0, cells := 1, slots := 6, locals := 0 } : Room).slots) T0 (mkF m 12 #[.val (.ref a1), .val (.int 4), .val (.ref bb), .val (.int 4)] []) := by
  have W := fun (k : Nat) {d : Jvm.Cond} (h : tables_1[k]? = some d) => hw d (List.mem_of_getElem? h)
  show own_Run p e below _ T0 (mkF m 12 #[.val (.ref a1), .val (.int 4), .val (.ref bb), .val (.int 4)] [])
  subst hp2
  show own_Run p e below _ T0 (mkF m 12 #[.val (.ref a1), .val (.int 4), .val (.ref bb), .val (.int 4)] [])
  refine own_go (fun _ k => XS.iloadN X0.here hx rfl (hb hby d5_12) rfl k) ?_
  refine own_go (fun _ k => XS.iconst X0.here hx rfl (hb hby d5_13) k) ?_
  refine own_go (fun _ k => XS.icmpNo X0.here hx rfl (hb hby d5_14) rfl (flt (by decide : ¬ ((4 : Int32) < (2 : Int32)))).1 k) ?_
  refine own_go (fun _ k => XS.aloadN X0.here hx rfl (hb hby d5_17) rfl rfl k) ?_
  refine own_go (fun _ k => XS.iloadN X0.here hx rfl (hb hby d5_18) rfl k) ?_
  obtain ⟨cl249, Ar249, q249, S249, N249, H249, G249⟩ := id V_bb
  have hin249 : ¬ ((4 : Int32) < 0 ∨ cl249.slots.size ≤ ((4 : Int32)).toNatClampNeg) := inb_of S249 ⟨by decide, by decide⟩
  refine own_go (X0.baloadBooleans hx (j := (4 : Int32)) (v := (.int (own_g4_5 (4 : Int32) la2 ha2 la3 ha3 la4 ha4 la5 ha5))) (by rw [e0]; exact Ar249.1) (State.isArrayOf_alike hZ.alike Ar249.2.1) Ar249.2.2 hin249 (H249.at hin249 rfl) (g := (mkF m 19 #[.val (.ref a1), .val (.int 4), .val (.ref bb), .val (.int 4)] [(.int 4), (.ref bb)])) rfl rfl (hb hby d5_19)) ?_
  by_cases hb4 : (own_g4_5 (4 : Int32) la2 ha2 la3 ha3 la4 ha4 la5 ha5) = (0 : Int32)
  · refine own_go (fun _ k => XS.ifYes X0.here hx rfl (pc0 := 20) (pc' := 41) rfl (hb hby d5_20) rfl ((if0 _ _).trans (teq hb4).1) (by decide) (by decide) k) ?_
    have Vq : Arv Z hh bb kb .boolean (5 : Int32) [(.int (own_g0_4 (4 : Int32) la2 ha2 la3 ha3 la4 ha4 la5 ha5)), (.int (own_g1_4 (4 : Int32) la2 ha2 la3 ha3 la4 ha4 la5 ha5)), (.int (own_g2_4 (4 : Int32) la2 ha2 la3 ha3 la4 ha4 la5 ha5)), (.int (own_g3_4 (4 : Int32) la2 ha2 la3 ha3 la4 ha4 la5 ha5)), (.int (own_g4_5 (4 : Int32) la2 ha2 la3 ha3 la4 ha4 la5 ha5))] (.int 0) := by
      rw [show (own_g0_4 (4 : Int32) la2 ha2 la3 ha3 la4 ha4 la5 ha5) = (own_g0_5 (4 : Int32) la2 ha2 la3 ha3 la4 ha4 la5 ha5) from own_st0 _ _ _ _ _ hb4]
      rw [show (own_g1_4 (4 : Int32) la2 ha2 la3 ha3 la4 ha4 la5 ha5) = (own_g1_5 (4 : Int32) la2 ha2 la3 ha3 la4 ha4 la5 ha5) from own_st0 _ _ _ _ _ hb4]
      rw [show (own_g2_4 (4 : Int32) la2 ha2 la3 ha3 la4 ha4 la5 ha5) = (own_g2_5 (4 : Int32) la2 ha2 la3 ha3 la4 ha4 la5 ha5) from own_st0 _ _ _ _ _ hb4]
      rw [show (own_g3_4 (4 : Int32) la2 ha2 la3 ha3 la4 ha4 la5 ha5) = (own_g3_5 (4 : Int32) la2 ha2 la3 ha3 la4 ha4 la5 ha5) from own_st0 _ _ _ _ _ hb4]
      exact V_bb
    refine own_go (fun _ k => XS.iinc X0.here hx rfl (hb hby d5_41) rfl (l' := #[.val (.ref a1), .val (.int 4), .val (.ref bb), .val (.int ((4 : Int32) + (-1 : Int32)))]) rfl k) ?_
    show own_Run p e below _ T0 (mkF m 44 #[.val (.ref a1), .val (.int 4), .val (.ref bb), .val (.int ((4 : Int32) + (-1 : Int32)))] [])
    rw [show ((4 : Int32) + (-1 : Int32)) = (3 : Int32) by decide]
    refine own_go (fun _ k => XS.goto X0.here hx rfl (pc0 := 44) (pc' := 12) rfl (hb hby d5_44) (by decide) (by decide) k) ?_
    exact rs4_3 a1 (4 : Int32) b2 b3 k2 k3 la2 ha2 la3 ha3 la4 ha4 la5 ha5 h0 n0 hx hZ hw hby hml hown hnm hret hlk bb kb T0 hh _ X0 e0 N0 Z0 K0 F_lows_a1 F_highs_a1 V_b2 V_b3 Vq (rfl) (r_la2) (r_ha2) (r_la3) (r_ha3) (r_la4) (r_ha4) (r_la5) (r_ha5) g_bb sz_bb ne_b2_bb ne_b3_bb ne_a1_bb 
  · refine own_go (fun _ k => XS.ifNo X0.here hx rfl (hb hby d5_20) rfl ((if0 _ _).trans (feq hb4).1) k) ?_
    refine own_go (fun _ k => XS.aloadN X0.here hx rfl (hb hby d5_23) rfl rfl k) ?_
    show own_Run p e below _ T0 (mkF m 24 #[.val (.ref a1), .val (.int 4), .val (.ref bb), .val (.int 4)] [(.ref bb)])
    refine own_go (fun _ k => XS.aloadN X0.here hx rfl (hb hby d5_24) rfl rfl k) ?_
    obtain ⟨T250, X250, e250, st250⟩ := getF X0 hx hZ hown (host := "") (Or.inl (W 14 rfl)) Via.refl e0 F_lows_a1 (g := (mkF m 25 #[.val (.ref a1), .val (.int 4), .val (.ref bb), .val (.int 4)] [(.ref a1), (.ref bb)])) rfl rfl (hb hby d5_25)
    refine own_go st250 ?_
    refine own_go (fun _ k => XS.iloadN X250.here hx rfl (hb hby d5_28) rfl k) ?_
    obtain ⟨cl251, Ar251, q251, S251, N251, H251, G251⟩ := id V_b2
    have hin251 : ¬ ((4 : Int32) < 0 ∨ cl251.slots.size ≤ ((4 : Int32)).toNatClampNeg) := inb_of S251 ⟨by decide, by decide⟩
    refine own_go (X250.iaload hx (j := (4 : Int32)) (v := (.int la4)) (by rw [e250]; exact Ar251.1) (State.isArrayOf_alike hZ.alike Ar251.2.1) Ar251.2.2 hin251 (H251.at hin251 rfl) (g := (mkF m 29 #[.val (.ref a1), .val (.int 4), .val (.ref bb), .val (.int 4)] [(.int 4), (.ref b2), (.ref bb)])) rfl rfl (hb hby d5_29)) ?_
    refine own_go (fun _ k => XS.iconst X250.here hx rfl (hb hby d5_30) k) ?_
    obtain ⟨cl252, Ar252, q252, S252, N252, H252, G252⟩ := id V_bb
    have hin252 : ¬ (la4 < 0 ∨ cl252.slots.size ≤ (la4).toNatClampNeg) := inb_of S252 (by rcases r_la4 with hq | hq | hq | hq <;> rw [hq] <;> exact ⟨by decide, by decide⟩)
    obtain ⟨T253, h253, X253, e253, W253, st253⟩ := stZ X250 hx hZ e250 Ar252 (j := la4) hin252 (g := (mkF m 31 #[.val (.ref a1), .val (.int 4), .val (.ref bb), .val (.int 4)] [(.int 1), (.int la4), (.ref bb)])) rfl rfl (hb hby d5_31)
    refine own_go st253 ?_
    show own_Run p e below _ T253 (mkF m 32 #[.val (.ref a1), .val (.int 4), .val (.ref bb), .val (.int 4)] [])
    have Z0_c254 := Nat.le_trans Z0 (Keep.of_wr W253).1
    have K0_c254 := K0.wr W253 (Or.inr sz_bb)
    have F_lows_a1_c254 := F_lows_a1.other W253 (Or.inl ne_a1_bb)
    have F_highs_a1_c254 := F_highs_a1.other W253 (Or.inl ne_a1_bb)
    have V_b2_c254 := V_b2.other W253 ne_b2_bb
    have V_b3_c254 := V_b3.other W253 ne_b3_bb
    have Vz253 : Arv Z h253 bb kb .boolean (5 : Int32) [(.int (own_w la4 (0 : Int32) (own_g0_5 (4 : Int32) la2 ha2 la3 ha3 la4 ha4 la5 ha5))), (.int (own_w la4 (1 : Int32) (own_g1_5 (4 : Int32) la2 ha2 la3 ha3 la4 ha4 la5 ha5))), (.int (own_w la4 (2 : Int32) (own_g2_5 (4 : Int32) la2 ha2 la3 ha3 la4 ha4 la5 ha5))), (.int (own_w la4 (3 : Int32) (own_g3_5 (4 : Int32) la2 ha2 la3 ha3 la4 ha4 la5 ha5))), (.int (own_g4_5 (4 : Int32) la2 ha2 la3 ha3 la4 ha4 la5 ha5))] (.int 0) := by
      have q := Arv.set Ar252 q252 S252 N252 H252 G252 (fits_nar_bool _) W253 _ rfl (by rcases r_la4 with hq | hq | hq | hq <;> rw [hq] <;> exact Nat.le_of_ble_eq_true rfl)
      rw [own_set5_4 (own_g0_5 (4 : Int32) la2 ha2 la3 ha3 la4 ha4 la5 ha5) (own_g1_5 (4 : Int32) la2 ha2 la3 ha3 la4 ha4 la5 ha5) (own_g2_5 (4 : Int32) la2 ha2 la3 ha3 la4 ha4 la5 ha5) (own_g3_5 (4 : Int32) la2 ha2 la3 ha3 la4 ha4 la5 ha5) (own_g4_5 (4 : Int32) la2 ha2 la3 ha3 la4 ha4 la5 ha5) la4 r_la4] at q
      exact q
    have N253 := Fr.snoc X253 N0 g_bb
    refine own_go (fun _ k => XS.aloadN X253.here hx rfl (hb hby d5_32) rfl rfl k) ?_
    refine own_go (fun _ k => XS.aloadN X253.here hx rfl (hb hby d5_33) rfl rfl k) ?_
    obtain ⟨T255, X255, e255, st255⟩ := getF X253 hx hZ hown (host := "") (Or.inl (W 16 rfl)) Via.refl e253 F_highs_a1_c254 (g := (mkF m 34 #[.val (.ref a1), .val (.int 4), .val (.ref bb), .val (.int 4)] [(.ref a1), (.ref bb)])) rfl rfl (hb hby d5_34)
    refine own_go st255 ?_
    refine own_go (fun _ k => XS.iloadN X255.here hx rfl (hb hby d5_37) rfl k) ?_
    obtain ⟨cl256, Ar256, q256, S256, N256, H256, G256⟩ := id V_b3_c254
    have hin256 : ¬ ((4 : Int32) < 0 ∨ cl256.slots.size ≤ ((4 : Int32)).toNatClampNeg) := inb_of S256 ⟨by decide, by decide⟩
    refine own_go (X255.iaload hx (j := (4 : Int32)) (v := (.int ha4)) (by rw [e255]; exact Ar256.1) (State.isArrayOf_alike hZ.alike Ar256.2.1) Ar256.2.2 hin256 (H256.at hin256 rfl) (g := (mkF m 38 #[.val (.ref a1), .val (.int 4), .val (.ref bb), .val (.int 4)] [(.int 4), (.ref b3), (.ref bb)])) rfl rfl (hb hby d5_38)) ?_
    refine own_go (fun _ k => XS.iconst X255.here hx rfl (hb hby d5_39) k) ?_
    obtain ⟨cl257, Ar257, q257, S257, N257, H257, G257⟩ := id Vz253
    have hin257 : ¬ (ha4 < 0 ∨ cl257.slots.size ≤ (ha4).toNatClampNeg) := inb_of S257 (by rcases r_ha4 with hq | hq | hq | hq <;> rw [hq] <;> exact ⟨by decide, by decide⟩)
    obtain ⟨T258, h258, X258, e258, W258, st258⟩ := stZ X255 hx hZ e255 Ar257 (j := ha4) hin257 (g := (mkF m 40 #[.val (.ref a1), .val (.int 4), .val (.ref bb), .val (.int 4)] [(.int 1), (.int ha4), (.ref bb)])) rfl rfl (hb hby d5_40)
    refine own_go st258 ?_
    show own_Run p e below _ T258 (mkF m 41 #[.val (.ref a1), .val (.int 4), .val (.ref bb), .val (.int 4)] [])
    have Z0_c259 := Nat.le_trans Z0_c254 (Keep.of_wr W258).1
    have K0_c259 := K0_c254.wr W258 (Or.inr sz_bb)
    have F_lows_a1_c259 := F_lows_a1_c254.other W258 (Or.inl ne_a1_bb)
    have F_highs_a1_c259 := F_highs_a1_c254.other W258 (Or.inl ne_a1_bb)
    have V_b2_c259 := V_b2_c254.other W258 ne_b2_bb
    have V_b3_c259 := V_b3_c254.other W258 ne_b3_bb
    have Vz258 : Arv Z h258 bb kb .boolean (5 : Int32) [(.int (own_w ha4 (0 : Int32) (own_w la4 (0 : Int32) (own_g0_5 (4 : Int32) la2 ha2 la3 ha3 la4 ha4 la5 ha5)))), (.int (own_w ha4 (1 : Int32) (own_w la4 (1 : Int32) (own_g1_5 (4 : Int32) la2 ha2 la3 ha3 la4 ha4 la5 ha5)))), (.int (own_w ha4 (2 : Int32) (own_w la4 (2 : Int32) (own_g2_5 (4 : Int32) la2 ha2 la3 ha3 la4 ha4 la5 ha5)))), (.int (own_w ha4 (3 : Int32) (own_w la4 (3 : Int32) (own_g3_5 (4 : Int32) la2 ha2 la3 ha3 la4 ha4 la5 ha5)))), (.int (own_g4_5 (4 : Int32) la2 ha2 la3 ha3 la4 ha4 la5 ha5))] (.int 0) := by
      have q := Arv.set Ar257 q257 S257 N257 H257 G257 (fits_nar_bool _) W258 _ rfl (by rcases r_ha4 with hq | hq | hq | hq <;> rw [hq] <;> exact Nat.le_of_ble_eq_true rfl)
      rw [own_set5_4 (own_w la4 (0 : Int32) (own_g0_5 (4 : Int32) la2 ha2 la3 ha3 la4 ha4 la5 ha5)) (own_w la4 (1 : Int32) (own_g1_5 (4 : Int32) la2 ha2 la3 ha3 la4 ha4 la5 ha5)) (own_w la4 (2 : Int32) (own_g2_5 (4 : Int32) la2 ha2 la3 ha3 la4 ha4 la5 ha5)) (own_w la4 (3 : Int32) (own_g3_5 (4 : Int32) la2 ha2 la3 ha3 la4 ha4 la5 ha5)) (own_g4_5 (4 : Int32) la2 ha2 la3 ha3 la4 ha4 la5 ha5) ha4 r_ha4] at q
      exact q
    have N258 := Fr.snoc X258 N253 g_bb
    have Vq : Arv Z h258 bb kb .boolean (5 : Int32) [(.int (own_g0_4 (4 : Int32) la2 ha2 la3 ha3 la4 ha4 la5 ha5)), (.int (own_g1_4 (4 : Int32) la2 ha2 la3 ha3 la4 ha4 la5 ha5)), (.int (own_g2_4 (4 : Int32) la2 ha2 la3 ha3 la4 ha4 la5 ha5)), (.int (own_g3_4 (4 : Int32) la2 ha2 la3 ha3 la4 ha4 la5 ha5)), (.int (own_g4_5 (4 : Int32) la2 ha2 la3 ha3 la4 ha4 la5 ha5))] (.int 0) := by
      have q := Vz258
      rw [show (own_w ha4 (0 : Int32) (own_w la4 (0 : Int32) (own_g0_5 (4 : Int32) la2 ha2 la3 ha3 la4 ha4 la5 ha5))) = (own_g0_4 (4 : Int32) la2 ha2 la3 ha3 la4 ha4 la5 ha5) from own_stW _ _ _ _ _ hb4] at q
      rw [show (own_w ha4 (1 : Int32) (own_w la4 (1 : Int32) (own_g1_5 (4 : Int32) la2 ha2 la3 ha3 la4 ha4 la5 ha5))) = (own_g1_4 (4 : Int32) la2 ha2 la3 ha3 la4 ha4 la5 ha5) from own_stW _ _ _ _ _ hb4] at q
      rw [show (own_w ha4 (2 : Int32) (own_w la4 (2 : Int32) (own_g2_5 (4 : Int32) la2 ha2 la3 ha3 la4 ha4 la5 ha5))) = (own_g2_4 (4 : Int32) la2 ha2 la3 ha3 la4 ha4 la5 ha5) from own_stW _ _ _ _ _ hb4] at q
      rw [show (own_w ha4 (3 : Int32) (own_w la4 (3 : Int32) (own_g3_5 (4 : Int32) la2 ha2 la3 ha3 la4 ha4 la5 ha5))) = (own_g3_4 (4 : Int32) la2 ha2 la3 ha3 la4 ha4 la5 ha5) from own_stW _ _ _ _ _ hb4] at q
      exact q
    refine own_go (fun _ k => XS.iinc X258.here hx rfl (hb hby d5_41) rfl (l' := #[.val (.ref a1), .val (.int 4), .val (.ref bb), .val (.int ((4 : Int32) + (-1 : Int32)))]) rfl k) ?_
    show own_Run p e below _ T258 (mkF m 44 #[.val (.ref a1), .val (.int 4), .val (.ref bb), .val (.int ((4 : Int32) + (-1 : Int32)))] [])
    rw [show ((4 : Int32) + (-1 : Int32)) = (3 : Int32) by decide]
    refine own_go (fun _ k => XS.goto X258.here hx rfl (pc0 := 44) (pc' := 12) rfl (hb hby d5_44) (by decide) (by decide) k) ?_
    exact rs4_3 a1 (4 : Int32) b2 b3 k2 k3 la2 ha2 la3 ha3 la4 ha4 la5 ha5 h0 n0 hx hZ hw hby hml hown hnm hret hlk bb kb T258 h258 _ X258 e258 N258 Z0_c259 K0_c259 F_lows_a1_c259 F_highs_a1_c259 V_b2_c259 V_b3_c259 Vq (rfl) (r_la2) (r_ha2) (r_la3) (r_ha3) (r_la4) (r_ha4) (r_la5) (r_ha5) g_bb sz_bb ne_b2_bb ne_b3_bb ne_a1_bb 
set_option maxRecDepth 65536 in
set_option maxHeartbeats 40000000 in
theorem rs5_1 {p : Program} {l : Launch} {e : Env} {s : State} {m : MethodId} {args : Array Value} {below : List Frame} {meth : Method} {c : Code} {Z : State} {a0 : Array Value} (a1 : Addr) (p2 : Int32) (b2 : Addr) (b3 : Addr) (k2 : ClassId) (k3 : ClassId) (la2 : Int32) (ha2 : Int32) (la3 : Int32) (ha3 : Int32) (la4 : Int32) (ha4 : Int32) (la5 : Int32) (ha5 : Int32) (h0 : Heap) (n0 : Nat) (hx : p.tables.exec = Jvm.exec) (hZ : Z.Warmed39 s.vm) (hw : ∀ d ∈ tables_1, d.before a0 Z = true) (hby : c.code = prog_20_method_9_code) (hml : c.maxLocals = 4) (hown : s.vm.findClass own_K0 = some m.cls) (hnm : meth.name = "reachable") (hret : meth.sig.returnType = some (.array .boolean)) (hlk : meth.locks = false)
    (bb : Addr) (kb : ClassId) (T0 : State) (hh : Heap) (locs : List Loc) (X0 : Stand p l e ({ frames := 0, cells := 1, slots := 6, locals := 0 } : Room) s m args below meth c T0 locs 1 6) (e0 : T0.heap = hh) (N0 : Fr n0 locs) (Z0 : n0 ≤ hh.size) (K0 : Keep h0 hh []) (F_lows_a1 : Fld Z hh a1 own_K0 "lows" "[I" (.ref b2)) (F_highs_a1 : Fld Z hh a1 own_K0 "highs" "[I" (.ref b3)) (V_b2 : Arv Z hh b2 k2 .int (1024 : Int32) [(.int 0), (.int 0), (.int la2), (.int la3), (.int la4), (.int la5)] (.int 0)) (V_b3 : Arv Z hh b3 k3 .int (1024 : Int32) [(.int 0), (.int 0), (.int ha2), (.int ha3), (.int ha4), (.int ha5)] (.int 0)) (V_bb : Arv Z hh bb kb .boolean (6 : Int32) [(.int (own_g0_2 (5 : Int32) la2 ha2 la3 ha3 la4 ha4 la5 ha5)), (.int (own_g1_2 (5 : Int32) la2 ha2 la3 ha3 la4 ha4 la5 ha5)), (.int (own_g2_3 (5 : Int32) la2 ha2 la3 ha3 la4 ha4 la5 ha5)), (.int (own_g3_4 (5 : Int32) la2 ha2 la3 ha3 la4 ha4 la5 ha5)), (.int (own_g4_5 (5 : Int32) la2 ha2 la3 ha3 la4 ha4 la5 ha5)), (.int (own_g5_6 (5 : Int32) la2 ha2 la3 ha3 la4 ha4 la5 ha5))] (.int 0)) (hp2 : p2 = (5 : Int32)) (r_la2 : la2 = (0 : Int32) ∨ la2 = (1 : Int32)) (r_ha2 : ha2 = (0 : Int32) ∨ ha2 = (1 : Int32)) (r_la3 : la3 = (0 : Int32) ∨ la3 = (1 : Int32) ∨ la3 = (2 : Int32)) (r_ha3 : ha3 = (0 : Int32) ∨ ha3 = (1 : Int32) ∨ ha3 = (2 : Int32)) (r_la4 : la4 = (0 : Int32) ∨ la4 = (1 : Int32) ∨ la4 = (2 : Int32) ∨ la4 = (3 : Int32)) (r_ha4 : ha4 = (0 : Int32) ∨ ha4 = (1 : Int32) ∨ ha4 = (2 : Int32) ∨ ha4 = (3 : Int32)) (r_la5 : la5 = (0 : Int32) ∨ la5 = (1 : Int32) ∨ la5 = (2 : Int32) ∨ la5 = (3 : Int32) ∨ la5 = (4 : Int32)) (r_ha5 : ha5 = (0 : Int32) ∨ ha5 = (1 : Int32) ∨ ha5 = (2 : Int32) ∨ ha5 = (3 : Int32) ∨ ha5 = (4 : Int32)) (g_bb : n0 ≤ bb) (sz_bb : h0.size ≤ bb) (ne_b2_bb : b2 ≠ bb) (ne_b3_bb : b3 ≠ bb) (ne_a1_bb : a1 ≠ bb) :
    own_Run p e below (fun o U' => ∃ v L, o = .returned v ∧ Q5 Z a1 p2 b2 b3 k2 k3 la2 ha2 la3 ha3 la4 ha4 la5 ha5 h0 n0 v U'.heap L ∧ FrameEnd s o U' L ({ frames := 0, cells := 1, slots := 6, locals := 0 } : Room).cells ({ frames := 0, cells := 1, slots := 6, locals := 0 } : Room).slots) T0 (mkF m 12 #[.val (.ref a1), .val (.int 5), .val (.ref bb), .val (.int 1)] []) := by
  have W := fun (k : Nat) {d : Jvm.Cond} (h : tables_1[k]? = some d) => hw d (List.mem_of_getElem? h)
  show own_Run p e below _ T0 (mkF m 12 #[.val (.ref a1), .val (.int 5), .val (.ref bb), .val (.int 1)] [])
  subst hp2
  show own_Run p e below _ T0 (mkF m 12 #[.val (.ref a1), .val (.int 5), .val (.ref bb), .val (.int 1)] [])
  refine own_go (fun _ k => XS.iloadN X0.here hx rfl (hb hby d5_12) rfl k) ?_
  refine own_go (fun _ k => XS.iconst X0.here hx rfl (hb hby d5_13) k) ?_
  refine own_go (fun _ k => XS.icmpYes X0.here hx rfl (pc0 := 14) (pc' := 47) rfl (hb hby d5_14) rfl (tlt (by decide : (1 : Int32) < (2 : Int32))).1 (by decide) (by decide) k) ?_
  refine own_go (fun _ k => XS.aloadN X0.here hx rfl (hb hby d5_47) rfl rfl k) ?_
  refine own_done (Q := fun v h L => Q5 Z a1 (5 : Int32) b2 b3 k2 k3 la2 ha2 la3 ha3 la4 ha4 la5 ha5 h0 n0 v h L) (v := (some (.ref bb))) X0 (fun h => by rw [hret] at h; cases h) hlk (fun fs hr => own_retA X0 hx hret rfl rfl rfl (hb hby d5_48) hr) ?_ (by decide) (by decide)
  show Q5 Z a1 (5 : Int32) b2 b3 k2 k3 la2 ha2 la3 ha3 la4 ha4 la5 ha5 h0 n0 _ T0.heap _
  rw [e0]
  exact ⟨bb, kb, (6 : Int32), [(.int (own_g0_2 (5 : Int32) la2 ha2 la3 ha3 la4 ha4 la5 ha5)), (.int (own_g1_2 (5 : Int32) la2 ha2 la3 ha3 la4 ha4 la5 ha5)), (.int (own_g2_3 (5 : Int32) la2 ha2 la3 ha3 la4 ha4 la5 ha5)), (.int (own_g3_4 (5 : Int32) la2 ha2 la3 ha3 la4 ha4 la5 ha5)), (.int (own_g4_5 (5 : Int32) la2 ha2 la3 ha3 la4 ha4 la5 ha5)), (.int (own_g5_6 (5 : Int32) la2 ha2 la3 ha3 la4 ha4 la5 ha5))], rfl, N0, K0, V_bb, sz_bb, Or.inr (Or.inr (Or.inr (Or.inr (Or.inr (⟨rfl, rfl, rfl⟩)))))⟩
set_option maxRecDepth 65536 in
set_option maxHeartbeats 40000000 in
theorem rs5_2 {p : Program} {l : Launch} {e : Env} {s : State} {m : MethodId} {args : Array Value} {below : List Frame} {meth : Method} {c : Code} {Z : State} {a0 : Array Value} (a1 : Addr) (p2 : Int32) (b2 : Addr) (b3 : Addr) (k2 : ClassId) (k3 : ClassId) (la2 : Int32) (ha2 : Int32) (la3 : Int32) (ha3 : Int32) (la4 : Int32) (ha4 : Int32) (la5 : Int32) (ha5 : Int32) (h0 : Heap) (n0 : Nat) (hx : p.tables.exec = Jvm.exec) (hZ : Z.Warmed39 s.vm) (hw : ∀ d ∈ tables_1, d.before a0 Z = true) (hby : c.code = prog_20_method_9_code) (hml : c.maxLocals = 4) (hown : s.vm.findClass own_K0 = some m.cls) (hnm : meth.name = "reachable") (hret : meth.sig.returnType = some (.array .boolean)) (hlk : meth.locks = false)
    (bb : Addr) (kb : ClassId) (T0 : State) (hh : Heap) (locs : List Loc) (X0 : Stand p l e ({ frames := 0, cells := 1, slots := 6, locals := 0 } : Room) s m args below meth c T0 locs 1 6) (e0 : T0.heap = hh) (N0 : Fr n0 locs) (Z0 : n0 ≤ hh.size) (K0 : Keep h0 hh []) (F_lows_a1 : Fld Z hh a1 own_K0 "lows" "[I" (.ref b2)) (F_highs_a1 : Fld Z hh a1 own_K0 "highs" "[I" (.ref b3)) (V_b2 : Arv Z hh b2 k2 .int (1024 : Int32) [(.int 0), (.int 0), (.int la2), (.int la3), (.int la4), (.int la5)] (.int 0)) (V_b3 : Arv Z hh b3 k3 .int (1024 : Int32) [(.int 0), (.int 0), (.int ha2), (.int ha3), (.int ha4), (.int ha5)] (.int 0)) (V_bb : Arv Z hh bb kb .boolean (6 : Int32) [(.int (own_g0_3 (5 : Int32) la2 ha2 la3 ha3 la4 ha4 la5 ha5)), (.int (own_g1_3 (5 : Int32) la2 ha2 la3 ha3 la4 ha4 la5 ha5)), (.int (own_g2_3 (5 : Int32) la2 ha2 la3 ha3 la4 ha4 la5 ha5)), (.int (own_g3_4 (5 : Int32) la2 ha2 la3 ha3 la4 ha4 la5 ha5)), (.int (own_g4_5 (5 : Int32) la2 ha2 la3 ha3 la4 ha4 la5 ha5)), (.int (own_g5_6 (5 : Int32) la2 ha2 la3 ha3 la4 ha4 la5 ha5))] (.int 0)) (hp2 : p2 = (5 : Int32)) (r_la2 : la2 = (0 : Int32) ∨ la2 = (1 : Int32)) (r_ha2 : ha2 = (0 : Int32) ∨ ha2 = (1 : Int32)) (r_la3 : la3 = (0 : Int32) ∨ la3 = (1 : Int32) ∨ la3 = (2 : Int32)) (r_ha3 : ha3 = (0 : Int32) ∨ ha3 = (1 : Int32) ∨ ha3 = (2 : Int32)) (r_la4 : la4 = (0 : Int32) ∨ la4 = (1 : Int32) ∨ la4 = (2 : Int32) ∨ la4 = (3 : Int32)) (r_ha4 : ha4 = (0 : Int32) ∨ ha4 = (1 : Int32) ∨ ha4 = (2 : Int32) ∨ ha4 = (3 : Int32)) (r_la5 : la5 = (0 : Int32) ∨ la5 = (1 : Int32) ∨ la5 = (2 : Int32) ∨ la5 = (3 : Int32) ∨ la5 = (4 : Int32)) (r_ha5 : ha5 = (0 : Int32) ∨ ha5 = (1 : Int32) ∨ ha5 = (2 : Int32) ∨ ha5 = (3 : Int32) ∨ ha5 = (4 : Int32)) (g_bb : n0 ≤ bb) (sz_bb : h0.size ≤ bb) (ne_b2_bb : b2 ≠ bb) (ne_b3_bb : b3 ≠ bb) (ne_a1_bb : a1 ≠ bb) :
    own_Run p e below (fun o U' => ∃ v L, o = .returned v ∧ Q5 Z a1 p2 b2 b3 k2 k3 la2 ha2 la3 ha3 la4 ha4 la5 ha5 h0 n0 v U'.heap L ∧ FrameEnd s o U' L ({ frames := 0, cells := 1, slots := 6, locals := 0 } : Room).cells ({ frames := 0, cells := 1, slots := 6, locals := 0 } : Room).slots) T0 (mkF m 12 #[.val (.ref a1), .val (.int 5), .val (.ref bb), .val (.int 2)] []) := by
  have W := fun (k : Nat) {d : Jvm.Cond} (h : tables_1[k]? = some d) => hw d (List.mem_of_getElem? h)
  show own_Run p e below _ T0 (mkF m 12 #[.val (.ref a1), .val (.int 5), .val (.ref bb), .val (.int 2)] [])
  subst hp2
  show own_Run p e below _ T0 (mkF m 12 #[.val (.ref a1), .val (.int 5), .val (.ref bb), .val (.int 2)] [])
  refine own_go (fun _ k => XS.iloadN X0.here hx rfl (hb hby d5_12) rfl k) ?_
  refine own_go (fun _ k => XS.iconst X0.here hx rfl (hb hby d5_13) k) ?_
  refine own_go (fun _ k => XS.icmpNo X0.here hx rfl (hb hby d5_14) rfl (flt (by decide : ¬ ((2 : Int32) < (2 : Int32)))).1 k) ?_
  refine own_go (fun _ k => XS.aloadN X0.here hx rfl (hb hby d5_17) rfl rfl k) ?_
  refine own_go (fun _ k => XS.iloadN X0.here hx rfl (hb hby d5_18) rfl k) ?_
  obtain ⟨cl260, Ar260, q260, S260, N260, H260, G260⟩ := id V_bb
  have hin260 : ¬ ((2 : Int32) < 0 ∨ cl260.slots.size ≤ ((2 : Int32)).toNatClampNeg) := inb_of S260 ⟨by decide, by decide⟩
  refine own_go (X0.baloadBooleans hx (j := (2 : Int32)) (v := (.int (own_g2_3 (5 : Int32) la2 ha2 la3 ha3 la4 ha4 la5 ha5))) (by rw [e0]; exact Ar260.1) (State.isArrayOf_alike hZ.alike Ar260.2.1) Ar260.2.2 hin260 (H260.at hin260 rfl) (g := (mkF m 19 #[.val (.ref a1), .val (.int 5), .val (.ref bb), .val (.int 2)] [(.int 2), (.ref bb)])) rfl rfl (hb hby d5_19)) ?_
  by_cases hb2 : (own_g2_3 (5 : Int32) la2 ha2 la3 ha3 la4 ha4 la5 ha5) = (0 : Int32)
  · refine own_go (fun _ k => XS.ifYes X0.here hx rfl (pc0 := 20) (pc' := 41) rfl (hb hby d5_20) rfl ((if0 _ _).trans (teq hb2).1) (by decide) (by decide) k) ?_
    have Vq : Arv Z hh bb kb .boolean (6 : Int32) [(.int (own_g0_2 (5 : Int32) la2 ha2 la3 ha3 la4 ha4 la5 ha5)), (.int (own_g1_2 (5 : Int32) la2 ha2 la3 ha3 la4 ha4 la5 ha5)), (.int (own_g2_3 (5 : Int32) la2 ha2 la3 ha3 la4 ha4 la5 ha5)), (.int (own_g3_4 (5 : Int32) la2 ha2 la3 ha3 la4 ha4 la5 ha5)), (.int (own_g4_5 (5 : Int32) la2 ha2 la3 ha3 la4 ha4 la5 ha5)), (.int (own_g5_6 (5 : Int32) la2 ha2 la3 ha3 la4 ha4 la5 ha5))] (.int 0) := by
      rw [show (own_g0_2 (5 : Int32) la2 ha2 la3 ha3 la4 ha4 la5 ha5) = (own_g0_3 (5 : Int32) la2 ha2 la3 ha3 la4 ha4 la5 ha5) from own_st0 _ _ _ _ _ hb2]
      rw [show (own_g1_2 (5 : Int32) la2 ha2 la3 ha3 la4 ha4 la5 ha5) = (own_g1_3 (5 : Int32) la2 ha2 la3 ha3 la4 ha4 la5 ha5) from own_st0 _ _ _ _ _ hb2]
      exact V_bb
    refine own_go (fun _ k => XS.iinc X0.here hx rfl (hb hby d5_41) rfl (l' := #[.val (.ref a1), .val (.int 5), .val (.ref bb), .val (.int ((2 : Int32) + (-1 : Int32)))]) rfl k) ?_
    show own_Run p e below _ T0 (mkF m 44 #[.val (.ref a1), .val (.int 5), .val (.ref bb), .val (.int ((2 : Int32) + (-1 : Int32)))] [])
    rw [show ((2 : Int32) + (-1 : Int32)) = (1 : Int32) by decide]
    refine own_go (fun _ k => XS.goto X0.here hx rfl (pc0 := 44) (pc' := 12) rfl (hb hby d5_44) (by decide) (by decide) k) ?_
    exact rs5_1 a1 (5 : Int32) b2 b3 k2 k3 la2 ha2 la3 ha3 la4 ha4 la5 ha5 h0 n0 hx hZ hw hby hml hown hnm hret hlk bb kb T0 hh _ X0 e0 N0 Z0 K0 F_lows_a1 F_highs_a1 V_b2 V_b3 Vq (rfl) (r_la2) (r_ha2) (r_la3) (r_ha3) (r_la4) (r_ha4) (r_la5) (r_ha5) g_bb sz_bb ne_b2_bb ne_b3_bb ne_a1_bb 
  · refine own_go (fun _ k => XS.ifNo X0.here hx rfl (hb hby d5_20) rfl ((if0 _ _).trans (feq hb2).1) k) ?_
    refine own_go (fun _ k => XS.aloadN X0.here hx rfl (hb hby d5_23) rfl rfl k) ?_
    show own_Run p e below _ T0 (mkF m 24 #[.val (.ref a1), .val (.int 5), .val (.ref bb), .val (.int 2)] [(.ref bb)])
    refine own_go (fun _ k => XS.aloadN X0.here hx rfl (hb hby d5_24) rfl rfl k) ?_
    obtain ⟨T261, X261, e261, st261⟩ := getF X0 hx hZ hown (host := "") (Or.inl (W 14 rfl)) Via.refl e0 F_lows_a1 (g := (mkF m 25 #[.val (.ref a1), .val (.int 5), .val (.ref bb), .val (.int 2)] [(.ref a1), (.ref bb)])) rfl rfl (hb hby d5_25)
    refine own_go st261 ?_
    refine own_go (fun _ k => XS.iloadN X261.here hx rfl (hb hby d5_28) rfl k) ?_
    obtain ⟨cl262, Ar262, q262, S262, N262, H262, G262⟩ := id V_b2
    have hin262 : ¬ ((2 : Int32) < 0 ∨ cl262.slots.size ≤ ((2 : Int32)).toNatClampNeg) := inb_of S262 ⟨by decide, by decide⟩
    refine own_go (X261.iaload hx (j := (2 : Int32)) (v := (.int la2)) (by rw [e261]; exact Ar262.1) (State.isArrayOf_alike hZ.alike Ar262.2.1) Ar262.2.2 hin262 (H262.at hin262 rfl) (g := (mkF m 29 #[.val (.ref a1), .val (.int 5), .val (.ref bb), .val (.int 2)] [(.int 2), (.ref b2), (.ref bb)])) rfl rfl (hb hby d5_29)) ?_
    refine own_go (fun _ k => XS.iconst X261.here hx rfl (hb hby d5_30) k) ?_
    obtain ⟨cl263, Ar263, q263, S263, N263, H263, G263⟩ := id V_bb
    have hin263 : ¬ (la2 < 0 ∨ cl263.slots.size ≤ (la2).toNatClampNeg) := inb_of S263 (by rcases r_la2 with hq | hq <;> rw [hq] <;> exact ⟨by decide, by decide⟩)
    obtain ⟨T264, h264, X264, e264, W264, st264⟩ := stZ X261 hx hZ e261 Ar263 (j := la2) hin263 (g := (mkF m 31 #[.val (.ref a1), .val (.int 5), .val (.ref bb), .val (.int 2)] [(.int 1), (.int la2), (.ref bb)])) rfl rfl (hb hby d5_31)
    refine own_go st264 ?_
    show own_Run p e below _ T264 (mkF m 32 #[.val (.ref a1), .val (.int 5), .val (.ref bb), .val (.int 2)] [])
    have Z0_c265 := Nat.le_trans Z0 (Keep.of_wr W264).1
    have K0_c265 := K0.wr W264 (Or.inr sz_bb)
    have F_lows_a1_c265 := F_lows_a1.other W264 (Or.inl ne_a1_bb)
    have F_highs_a1_c265 := F_highs_a1.other W264 (Or.inl ne_a1_bb)
    have V_b2_c265 := V_b2.other W264 ne_b2_bb
    have V_b3_c265 := V_b3.other W264 ne_b3_bb
    have Vz264 : Arv Z h264 bb kb .boolean (6 : Int32) [(.int (own_w la2 (0 : Int32) (own_g0_3 (5 : Int32) la2 ha2 la3 ha3 la4 ha4 la5 ha5))), (.int (own_w la2 (1 : Int32) (own_g1_3 (5 : Int32) la2 ha2 la3 ha3 la4 ha4 la5 ha5))), (.int (own_g2_3 (5 : Int32) la2 ha2 la3 ha3 la4 ha4 la5 ha5)), (.int (own_g3_4 (5 : Int32) la2 ha2 la3 ha3 la4 ha4 la5 ha5)), (.int (own_g4_5 (5 : Int32) la2 ha2 la3 ha3 la4 ha4 la5 ha5)), (.int (own_g5_6 (5 : Int32) la2 ha2 la3 ha3 la4 ha4 la5 ha5))] (.int 0) := by
      have q := Arv.set Ar263 q263 S263 N263 H263 G263 (fits_nar_bool _) W264 _ rfl (by rcases r_la2 with hq | hq <;> rw [hq] <;> exact Nat.le_of_ble_eq_true rfl)
      rw [own_set6_2 (own_g0_3 (5 : Int32) la2 ha2 la3 ha3 la4 ha4 la5 ha5) (own_g1_3 (5 : Int32) la2 ha2 la3 ha3 la4 ha4 la5 ha5) (own_g2_3 (5 : Int32) la2 ha2 la3 ha3 la4 ha4 la5 ha5) (own_g3_4 (5 : Int32) la2 ha2 la3 ha3 la4 ha4 la5 ha5) (own_g4_5 (5 : Int32) la2 ha2 la3 ha3 la4 ha4 la5 ha5) (own_g5_6 (5 : Int32) la2 ha2 la3 ha3 la4 ha4 la5 ha5) la2 r_la2] at q
      exact q
    have N264 := Fr.snoc X264 N0 g_bb
    refine own_go (fun _ k => XS.aloadN X264.here hx rfl (hb hby d5_32) rfl rfl k) ?_
    refine own_go (fun _ k => XS.aloadN X264.here hx rfl (hb hby d5_33) rfl rfl k) ?_
    obtain ⟨T266, X266, e266, st266⟩ := getF X264 hx hZ hown (host := "") (Or.inl (W 16 rfl)) Via.refl e264 F_highs_a1_c265 (g := (mkF m 34 #[.val (.ref a1), .val (.int 5), .val (.ref bb), .val (.int 2)] [(.ref a1), (.ref bb)])) rfl rfl (hb hby d5_34)
    refine own_go st266 ?_
    refine own_go (fun _ k => XS.iloadN X266.here hx rfl (hb hby d5_37) rfl k) ?_
    obtain ⟨cl267, Ar267, q267, S267, N267, H267, G267⟩ := id V_b3_c265
    have hin267 : ¬ ((2 : Int32) < 0 ∨ cl267.slots.size ≤ ((2 : Int32)).toNatClampNeg) := inb_of S267 ⟨by decide, by decide⟩
    refine own_go (X266.iaload hx (j := (2 : Int32)) (v := (.int ha2)) (by rw [e266]; exact Ar267.1) (State.isArrayOf_alike hZ.alike Ar267.2.1) Ar267.2.2 hin267 (H267.at hin267 rfl) (g := (mkF m 38 #[.val (.ref a1), .val (.int 5), .val (.ref bb), .val (.int 2)] [(.int 2), (.ref b3), (.ref bb)])) rfl rfl (hb hby d5_38)) ?_
    refine own_go (fun _ k => XS.iconst X266.here hx rfl (hb hby d5_39) k) ?_
    obtain ⟨cl268, Ar268, q268, S268, N268, H268, G268⟩ := id Vz264
    have hin268 : ¬ (ha2 < 0 ∨ cl268.slots.size ≤ (ha2).toNatClampNeg) := inb_of S268 (by rcases r_ha2 with hq | hq <;> rw [hq] <;> exact ⟨by decide, by decide⟩)
    obtain ⟨T269, h269, X269, e269, W269, st269⟩ := stZ X266 hx hZ e266 Ar268 (j := ha2) hin268 (g := (mkF m 40 #[.val (.ref a1), .val (.int 5), .val (.ref bb), .val (.int 2)] [(.int 1), (.int ha2), (.ref bb)])) rfl rfl (hb hby d5_40)
    refine own_go st269 ?_
    show own_Run p e below _ T269 (mkF m 41 #[.val (.ref a1), .val (.int 5), .val (.ref bb), .val (.int 2)] [])
    have Z0_c270 := Nat.le_trans Z0_c265 (Keep.of_wr W269).1
    have K0_c270 := K0_c265.wr W269 (Or.inr sz_bb)
    have F_lows_a1_c270 := F_lows_a1_c265.other W269 (Or.inl ne_a1_bb)
    have F_highs_a1_c270 := F_highs_a1_c265.other W269 (Or.inl ne_a1_bb)
    have V_b2_c270 := V_b2_c265.other W269 ne_b2_bb
    have V_b3_c270 := V_b3_c265.other W269 ne_b3_bb
    have Vz269 : Arv Z h269 bb kb .boolean (6 : Int32) [(.int (own_w ha2 (0 : Int32) (own_w la2 (0 : Int32) (own_g0_3 (5 : Int32) la2 ha2 la3 ha3 la4 ha4 la5 ha5)))), (.int (own_w ha2 (1 : Int32) (own_w la2 (1 : Int32) (own_g1_3 (5 : Int32) la2 ha2 la3 ha3 la4 ha4 la5 ha5)))), (.int (own_g2_3 (5 : Int32) la2 ha2 la3 ha3 la4 ha4 la5 ha5)), (.int (own_g3_4 (5 : Int32) la2 ha2 la3 ha3 la4 ha4 la5 ha5)), (.int (own_g4_5 (5 : Int32) la2 ha2 la3 ha3 la4 ha4 la5 ha5)), (.int (own_g5_6 (5 : Int32) la2 ha2 la3 ha3 la4 ha4 la5 ha5))] (.int 0) := by
      have q := Arv.set Ar268 q268 S268 N268 H268 G268 (fits_nar_bool _) W269 _ rfl (by rcases r_ha2 with hq | hq <;> rw [hq] <;> exact Nat.le_of_ble_eq_true rfl)
      rw [own_set6_2 (own_w la2 (0 : Int32) (own_g0_3 (5 : Int32) la2 ha2 la3 ha3 la4 ha4 la5 ha5)) (own_w la2 (1 : Int32) (own_g1_3 (5 : Int32) la2 ha2 la3 ha3 la4 ha4 la5 ha5)) (own_g2_3 (5 : Int32) la2 ha2 la3 ha3 la4 ha4 la5 ha5) (own_g3_4 (5 : Int32) la2 ha2 la3 ha3 la4 ha4 la5 ha5) (own_g4_5 (5 : Int32) la2 ha2 la3 ha3 la4 ha4 la5 ha5) (own_g5_6 (5 : Int32) la2 ha2 la3 ha3 la4 ha4 la5 ha5) ha2 r_ha2] at q
      exact q
    have N269 := Fr.snoc X269 N264 g_bb
    have Vq : Arv Z h269 bb kb .boolean (6 : Int32) [(.int (own_g0_2 (5 : Int32) la2 ha2 la3 ha3 la4 ha4 la5 ha5)), (.int (own_g1_2 (5 : Int32) la2 ha2 la3 ha3 la4 ha4 la5 ha5)), (.int (own_g2_3 (5 : Int32) la2 ha2 la3 ha3 la4 ha4 la5 ha5)), (.int (own_g3_4 (5 : Int32) la2 ha2 la3 ha3 la4 ha4 la5 ha5)), (.int (own_g4_5 (5 : Int32) la2 ha2 la3 ha3 la4 ha4 la5 ha5)), (.int (own_g5_6 (5 : Int32) la2 ha2 la3 ha3 la4 ha4 la5 ha5))] (.int 0) := by
      have q := Vz269
      rw [show (own_w ha2 (0 : Int32) (own_w la2 (0 : Int32) (own_g0_3 (5 : Int32) la2 ha2 la3 ha3 la4 ha4 la5 ha5))) = (own_g0_2 (5 : Int32) la2 ha2 la3 ha3 la4 ha4 la5 ha5) from own_stW _ _ _ _ _ hb2] at q
      rw [show (own_w ha2 (1 : Int32) (own_w la2 (1 : Int32) (own_g1_3 (5 : Int32) la2 ha2 la3 ha3 la4 ha4 la5 ha5))) = (own_g1_2 (5 : Int32) la2 ha2 la3 ha3 la4 ha4 la5 ha5) from own_stW _ _ _ _ _ hb2] at q
      exact q
    refine own_go (fun _ k => XS.iinc X269.here hx rfl (hb hby d5_41) rfl (l' := #[.val (.ref a1), .val (.int 5), .val (.ref bb), .val (.int ((2 : Int32) + (-1 : Int32)))]) rfl k) ?_
    show own_Run p e below _ T269 (mkF m 44 #[.val (.ref a1), .val (.int 5), .val (.ref bb), .val (.int ((2 : Int32) + (-1 : Int32)))] [])
    rw [show ((2 : Int32) + (-1 : Int32)) = (1 : Int32) by decide]
    refine own_go (fun _ k => XS.goto X269.here hx rfl (pc0 := 44) (pc' := 12) rfl (hb hby d5_44) (by decide) (by decide) k) ?_
    exact rs5_1 a1 (5 : Int32) b2 b3 k2 k3 la2 ha2 la3 ha3 la4 ha4 la5 ha5 h0 n0 hx hZ hw hby hml hown hnm hret hlk bb kb T269 h269 _ X269 e269 N269 Z0_c270 K0_c270 F_lows_a1_c270 F_highs_a1_c270 V_b2_c270 V_b3_c270 Vq (rfl) (r_la2) (r_ha2) (r_la3) (r_ha3) (r_la4) (r_ha4) (r_la5) (r_ha5) g_bb sz_bb ne_b2_bb ne_b3_bb ne_a1_bb 
set_option maxRecDepth 65536 in
set_option maxHeartbeats 40000000 in
theorem rs5_3 {p : Program} {l : Launch} {e : Env} {s : State} {m : MethodId} {args : Array Value} {below : List Frame} {meth : Method} {c : Code} {Z : State} {a0 : Array Value} (a1 : Addr) (p2 : Int32) (b2 : Addr) (b3 : Addr) (k2 : ClassId) (k3 : ClassId) (la2 : Int32) (ha2 : Int32) (la3 : Int32) (ha3 : Int32) (la4 : Int32) (ha4 : Int32) (la5 : Int32) (ha5 : Int32) (h0 : Heap) (n0 : Nat) (hx : p.tables.exec = Jvm.exec) (hZ : Z.Warmed39 s.vm) (hw : ∀ d ∈ tables_1, d.before a0 Z = true) (hby : c.code = prog_20_method_9_code) (hml : c.maxLocals = 4) (hown : s.vm.findClass own_K0 = some m.cls) (hnm : meth.name = "reachable") (hret : meth.sig.returnType = some (.array .boolean)) (hlk : meth.locks = false)
    (bb : Addr) (kb : ClassId) (T0 : State) (hh : Heap) (locs : List Loc) (X0 : Stand p l e ({ frames := 0, cells := 1, slots := 6, locals := 0 } : Room) s m args below meth c T0 locs 1 6) (e0 : T0.heap = hh) (N0 : Fr n0 locs) (Z0 : n0 ≤ hh.size) (K0 : Keep h0 hh []) (F_lows_a1 : Fld Z hh a1 own_K0 "lows" "[I" (.ref b2)) (F_highs_a1 : Fld Z hh a1 own_K0 "highs" "[I" (.ref b3)) (V_b2 : Arv Z hh b2 k2 .int (1024 : Int32) [(.int 0), (.int 0), (.int la2), (.int la3), (.int la4), (.int la5)] (.int 0)) (V_b3 : Arv Z hh b3 k3 .int (1024 : Int32) [(.int 0), (.int 0), (.int ha2), (.int ha3), (.int ha4), (.int ha5)] (.int 0)) (V_bb : Arv Z hh bb kb .boolean (6 : Int32) [(.int (own_g0_4 (5 : Int32) la2 ha2 la3 ha3 la4 ha4 la5 ha5)), (.int (own_g1_4 (5 : Int32) la2 ha2 la3 ha3 la4 ha4 la5 ha5)), (.int (own_g2_4 (5 : Int32) la2 ha2 la3 ha3 la4 ha4 la5 ha5)), (.int (own_g3_4 (5 : Int32) la2 ha2 la3 ha3 la4 ha4 la5 ha5)), (.int (own_g4_5 (5 : Int32) la2 ha2 la3 ha3 la4 ha4 la5 ha5)), (.int (own_g5_6 (5 : Int32) la2 ha2 la3 ha3 la4 ha4 la5 ha5))] (.int 0)) (hp2 : p2 = (5 : Int32)) (r_la2 : la2 = (0 : Int32) ∨ la2 = (1 : Int32)) (r_ha2 : ha2 = (0 : Int32) ∨ ha2 = (1 : Int32)) (r_la3 : la3 = (0 : Int32) ∨ la3 = (1 : Int32) ∨ la3 = (2 : Int32)) (r_ha3 : ha3 = (0 : Int32) ∨ ha3 = (1 : Int32) ∨ ha3 = (2 : Int32)) (r_la4 : la4 = (0 : Int32) ∨ la4 = (1 : Int32) ∨ la4 = (2 : Int32) ∨ la4 = (3 : Int32)) (r_ha4 : ha4 = (0 : Int32) ∨ ha4 = (1 : Int32) ∨ ha4 = (2 : Int32) ∨ ha4 = (3 : Int32)) (r_la5 : la5 = (0 : Int32) ∨ la5 = (1 : Int32) ∨ la5 = (2 : Int32) ∨ la5 = (3 : Int32) ∨ la5 = (4 : Int32)) (r_ha5 : ha5 = (0 : Int32) ∨ ha5 = (1 : Int32) ∨ ha5 = (2 : Int32) ∨ ha5 = (3 : Int32) ∨ ha5 = (4 : Int32)) (g_bb : n0 ≤ bb) (sz_bb : h0.size ≤ bb) (ne_b2_bb : b2 ≠ bb) (ne_b3_bb : b3 ≠ bb) (ne_a1_bb : a1 ≠ bb) :
    own_Run p e below (fun o U' => ∃ v L, o = .returned v ∧ Q5 Z a1 p2 b2 b3 k2 k3 la2 ha2 la3 ha3 la4 ha4 la5 ha5 h0 n0 v U'.heap L ∧ FrameEnd s o U' L ({ frames := 0, cells := 1, slots := 6, locals := 0 } : Room).cells ({ frames := 0, cells := 1, slots := 6, locals := 0 } : Room).slots) T0 (mkF m 12 #[.val (.ref a1), .val (.int 5), .val (.ref bb), .val (.int 3)] []) := by
  have W := fun (k : Nat) {d : Jvm.Cond} (h : tables_1[k]? = some d) => hw d (List.mem_of_getElem? h)
  show own_Run p e below _ T0 (mkF m 12 #[.val (.ref a1), .val (.int 5), .val (.ref bb), .val (.int 3)] [])
  subst hp2
  show own_Run p e below _ T0 (mkF m 12 #[.val (.ref a1), .val (.int 5), .val (.ref bb), .val (.int 3)] [])
  refine own_go (fun _ k => XS.iloadN X0.here hx rfl (hb hby d5_12) rfl k) ?_
  refine own_go (fun _ k => XS.iconst X0.here hx rfl (hb hby d5_13) k) ?_
  refine own_go (fun _ k => XS.icmpNo X0.here hx rfl (hb hby d5_14) rfl (flt (by decide : ¬ ((3 : Int32) < (2 : Int32)))).1 k) ?_
  refine own_go (fun _ k => XS.aloadN X0.here hx rfl (hb hby d5_17) rfl rfl k) ?_
  refine own_go (fun _ k => XS.iloadN X0.here hx rfl (hb hby d5_18) rfl k) ?_
  obtain ⟨cl271, Ar271, q271, S271, N271, H271, G271⟩ := id V_bb
  have hin271 : ¬ ((3 : Int32) < 0 ∨ cl271.slots.size ≤ ((3 : Int32)).toNatClampNeg) := inb_of S271 ⟨by decide, by decide⟩
  refine own_go (X0.baloadBooleans hx (j := (3 : Int32)) (v := (.int (own_g3_4 (5 : Int32) la2 ha2 la3 ha3 la4 ha4 la5 ha5))) (by rw [e0]; exact Ar271.1) (State.isArrayOf_alike hZ.alike Ar271.2.1) Ar271.2.2 hin271 (H271.at hin271 rfl) (g := (mkF m 19 #[.val (.ref a1), .val (.int 5), .val (.ref bb), .val (.int 3)] [(.int 3), (.ref bb)])) rfl rfl (hb hby d5_19)) ?_
  by_cases hb3 : (own_g3_4 (5 : Int32) la2 ha2 la3 ha3 la4 ha4 la5 ha5) = (0 : Int32)
  · refine own_go (fun _ k => XS.ifYes X0.here hx rfl (pc0 := 20) (pc' := 41) rfl (hb hby d5_20) rfl ((if0 _ _).trans (teq hb3).1) (by decide) (by decide) k) ?_
    have Vq : Arv Z hh bb kb .boolean (6 : Int32) [(.int (own_g0_3 (5 : Int32) la2 ha2 la3 ha3 la4 ha4 la5 ha5)), (.int (own_g1_3 (5 : Int32) la2 ha2 la3 ha3 la4 ha4 la5 ha5)), (.int (own_g2_3 (5 : Int32) la2 ha2 la3 ha3 la4 ha4 la5 ha5)), (.int (own_g3_4 (5 : Int32) la2 ha2 la3 ha3 la4 ha4 la5 ha5)), (.int (own_g4_5 (5 : Int32) la2 ha2 la3 ha3 la4 ha4 la5 ha5)), (.int (own_g5_6 (5 : Int32) la2 ha2 la3 ha3 la4 ha4 la5 ha5))] (.int 0) := by
      rw [show (own_g0_3 (5 : Int32) la2 ha2 la3 ha3 la4 ha4 la5 ha5) = (own_g0_4 (5 : Int32) la2 ha2 la3 ha3 la4 ha4 la5 ha5) from own_st0 _ _ _ _ _ hb3]
      rw [show (own_g1_3 (5 : Int32) la2 ha2 la3 ha3 la4 ha4 la5 ha5) = (own_g1_4 (5 : Int32) la2 ha2 la3 ha3 la4 ha4 la5 ha5) from own_st0 _ _ _ _ _ hb3]
      rw [show (own_g2_3 (5 : Int32) la2 ha2 la3 ha3 la4 ha4 la5 ha5) = (own_g2_4 (5 : Int32) la2 ha2 la3 ha3 la4 ha4 la5 ha5) from own_st0 _ _ _ _ _ hb3]
      exact V_bb
    refine own_go (fun _ k => XS.iinc X0.here hx rfl (hb hby d5_41) rfl (l' := #[.val (.ref a1), .val (.int 5), .val (.ref bb), .val (.int ((3 : Int32) + (-1 : Int32)))]) rfl k) ?_
    show own_Run p e below _ T0 (mkF m 44 #[.val (.ref a1), .val (.int 5), .val (.ref bb), .val (.int ((3 : Int32) + (-1 : Int32)))] [])
    rw [show ((3 : Int32) + (-1 : Int32)) = (2 : Int32) by decide]
    refine own_go (fun _ k => XS.goto X0.here hx rfl (pc0 := 44) (pc' := 12) rfl (hb hby d5_44) (by decide) (by decide) k) ?_
    exact rs5_2 a1 (5 : Int32) b2 b3 k2 k3 la2 ha2 la3 ha3 la4 ha4 la5 ha5 h0 n0 hx hZ hw hby hml hown hnm hret hlk bb kb T0 hh _ X0 e0 N0 Z0 K0 F_lows_a1 F_highs_a1 V_b2 V_b3 Vq (rfl) (r_la2) (r_ha2) (r_la3) (r_ha3) (r_la4) (r_ha4) (r_la5) (r_ha5) g_bb sz_bb ne_b2_bb ne_b3_bb ne_a1_bb 
  · refine own_go (fun _ k => XS.ifNo X0.here hx rfl (hb hby d5_20) rfl ((if0 _ _).trans (feq hb3).1) k) ?_
    refine own_go (fun _ k => XS.aloadN X0.here hx rfl (hb hby d5_23) rfl rfl k) ?_
    show own_Run p e below _ T0 (mkF m 24 #[.val (.ref a1), .val (.int 5), .val (.ref bb), .val (.int 3)] [(.ref bb)])
    refine own_go (fun _ k => XS.aloadN X0.here hx rfl (hb hby d5_24) rfl rfl k) ?_
    obtain ⟨T272, X272, e272, st272⟩ := getF X0 hx hZ hown (host := "") (Or.inl (W 14 rfl)) Via.refl e0 F_lows_a1 (g := (mkF m 25 #[.val (.ref a1), .val (.int 5), .val (.ref bb), .val (.int 3)] [(.ref a1), (.ref bb)])) rfl rfl (hb hby d5_25)
    refine own_go st272 ?_
    refine own_go (fun _ k => XS.iloadN X272.here hx rfl (hb hby d5_28) rfl k) ?_
    obtain ⟨cl273, Ar273, q273, S273, N273, H273, G273⟩ := id V_b2
    have hin273 : ¬ ((3 : Int32) < 0 ∨ cl273.slots.size ≤ ((3 : Int32)).toNatClampNeg) := inb_of S273 ⟨by decide, by decide⟩
    refine own_go (X272.iaload hx (j := (3 : Int32)) (v := (.int la3)) (by rw [e272]; exact Ar273.1) (State.isArrayOf_alike hZ.alike Ar273.2.1) Ar273.2.2 hin273 (H273.at hin273 rfl) (g := (mkF m 29 #[.val (.ref a1), .val (.int 5), .val (.ref bb), .val (.int 3)] [(.int 3), (.ref b2), (.ref bb)])) rfl rfl (hb hby d5_29)) ?_
    refine own_go (fun _ k => XS.iconst X272.here hx rfl (hb hby d5_30) k) ?_
    obtain ⟨cl274, Ar274, q274, S274, N274, H274, G274⟩ := id V_bb
    have hin274 : ¬ (la3 < 0 ∨ cl274.slots.size ≤ (la3).toNatClampNeg) := inb_of S274 (by rcases r_la3 with hq | hq | hq <;> rw [hq] <;> exact ⟨by decide, by decide⟩)
    obtain ⟨T275, h275, X275, e275, W275, st275⟩ := stZ X272 hx hZ e272 Ar274 (j := la3) hin274 (g := (mkF m 31 #[.val (.ref a1), .val (.int 5), .val (.ref bb), .val (.int 3)] [(.int 1), (.int la3), (.ref bb)])) rfl rfl (hb hby d5_31)
    refine own_go st275 ?_
    show own_Run p e below _ T275 (mkF m 32 #[.val (.ref a1), .val (.int 5), .val (.ref bb), .val (.int 3)] [])
    have Z0_c276 := Nat.le_trans Z0 (Keep.of_wr W275).1
    have K0_c276 := K0.wr W275 (Or.inr sz_bb)
    have F_lows_a1_c276 := F_lows_a1.other W275 (Or.inl ne_a1_bb)
    have F_highs_a1_c276 := F_highs_a1.other W275 (Or.inl ne_a1_bb)
    have V_b2_c276 := V_b2.other W275 ne_b2_bb
    have V_b3_c276 := V_b3.other W275 ne_b3_bb
    have Vz275 : Arv Z h275 bb kb .boolean (6 : Int32) [(.int (own_w la3 (0 : Int32) (own_g0_4 (5 : Int32) la2 ha2 la3 ha3 la4 ha4 la5 ha5))), (.int (own_w la3 (1 : Int32) (own_g1_4 (5 : Int32) la2 ha2 la3 ha3 la4 ha4 la5 ha5))), (.int (own_w la3 (2 : Int32) (own_g2_4 (5 : Int32) la2 ha2 la3 ha3 la4 ha4 la5 ha5))), (.int (own_g3_4 (5 : Int32) la2 ha2 la3 ha3 la4 ha4 la5 ha5)), (.int (own_g4_5 (5 : Int32) la2 ha2 la3 ha3 la4 ha4 la5 ha5)), (.int (own_g5_6 (5 : Int32) la2 ha2 la3 ha3 la4 ha4 la5 ha5))] (.int 0) := by
      have q := Arv.set Ar274 q274 S274 N274 H274 G274 (fits_nar_bool _) W275 _ rfl (by rcases r_la3 with hq | hq | hq <;> rw [hq] <;> exact Nat.le_of_ble_eq_true rfl)
      rw [own_set6_3 (own_g0_4 (5 : Int32) la2 ha2 la3 ha3 la4 ha4 la5 ha5) (own_g1_4 (5 : Int32) la2 ha2 la3 ha3 la4 ha4 la5 ha5) (own_g2_4 (5 : Int32) la2 ha2 la3 ha3 la4 ha4 la5 ha5) (own_g3_4 (5 : Int32) la2 ha2 la3 ha3 la4 ha4 la5 ha5) (own_g4_5 (5 : Int32) la2 ha2 la3 ha3 la4 ha4 la5 ha5) (own_g5_6 (5 : Int32) la2 ha2 la3 ha3 la4 ha4 la5 ha5) la3 r_la3] at q
      exact q
    have N275 := Fr.snoc X275 N0 g_bb
    refine own_go (fun _ k => XS.aloadN X275.here hx rfl (hb hby d5_32) rfl rfl k) ?_
    refine own_go (fun _ k => XS.aloadN X275.here hx rfl (hb hby d5_33) rfl rfl k) ?_
    obtain ⟨T277, X277, e277, st277⟩ := getF X275 hx hZ hown (host := "") (Or.inl (W 16 rfl)) Via.refl e275 F_highs_a1_c276 (g := (mkF m 34 #[.val (.ref a1), .val (.int 5), .val (.ref bb), .val (.int 3)] [(.ref a1), (.ref bb)])) rfl rfl (hb hby d5_34)
    refine own_go st277 ?_
    refine own_go (fun _ k => XS.iloadN X277.here hx rfl (hb hby d5_37) rfl k) ?_
    obtain ⟨cl278, Ar278, q278, S278, N278, H278, G278⟩ := id V_b3_c276
    have hin278 : ¬ ((3 : Int32) < 0 ∨ cl278.slots.size ≤ ((3 : Int32)).toNatClampNeg) := inb_of S278 ⟨by decide, by decide⟩
    refine own_go (X277.iaload hx (j := (3 : Int32)) (v := (.int ha3)) (by rw [e277]; exact Ar278.1) (State.isArrayOf_alike hZ.alike Ar278.2.1) Ar278.2.2 hin278 (H278.at hin278 rfl) (g := (mkF m 38 #[.val (.ref a1), .val (.int 5), .val (.ref bb), .val (.int 3)] [(.int 3), (.ref b3), (.ref bb)])) rfl rfl (hb hby d5_38)) ?_
    refine own_go (fun _ k => XS.iconst X277.here hx rfl (hb hby d5_39) k) ?_
    obtain ⟨cl279, Ar279, q279, S279, N279, H279, G279⟩ := id Vz275
    have hin279 : ¬ (ha3 < 0 ∨ cl279.slots.size ≤ (ha3).toNatClampNeg) := inb_of S279 (by rcases r_ha3 with hq | hq | hq <;> rw [hq] <;> exact ⟨by decide, by decide⟩)
    obtain ⟨T280, h280, X280, e280, W280, st280⟩ := stZ X277 hx hZ e277 Ar279 (j := ha3) hin279 (g := (mkF m 40 #[.val (.ref a1), .val (.int 5), .val (.ref bb), .val (.int 3)] [(.int 1), (.int ha3), (.ref bb)])) rfl rfl (hb hby d5_40)
    refine own_go st280 ?_
    show own_Run p e below _ T280 (mkF m 41 #[.val (.ref a1), .val (.int 5), .val (.ref bb), .val (.int 3)] [])
    have Z0_c281 := Nat.le_trans Z0_c276 (Keep.of_wr W280).1
    have K0_c281 := K0_c276.wr W280 (Or.inr sz_bb)
    have F_lows_a1_c281 := F_lows_a1_c276.other W280 (Or.inl ne_a1_bb)
    have F_highs_a1_c281 := F_highs_a1_c276.other W280 (Or.inl ne_a1_bb)
    have V_b2_c281 := V_b2_c276.other W280 ne_b2_bb
    have V_b3_c281 := V_b3_c276.other W280 ne_b3_bb
    have Vz280 : Arv Z h280 bb kb .boolean (6 : Int32) [(.int (own_w ha3 (0 : Int32) (own_w la3 (0 : Int32) (own_g0_4 (5 : Int32) la2 ha2 la3 ha3 la4 ha4 la5 ha5)))), (.int (own_w ha3 (1 : Int32) (own_w la3 (1 : Int32) (own_g1_4 (5 : Int32) la2 ha2 la3 ha3 la4 ha4 la5 ha5)))), (.int (own_w ha3 (2 : Int32) (own_w la3 (2 : Int32) (own_g2_4 (5 : Int32) la2 ha2 la3 ha3 la4 ha4 la5 ha5)))), (.int (own_g3_4 (5 : Int32) la2 ha2 la3 ha3 la4 ha4 la5 ha5)), (.int (own_g4_5 (5 : Int32) la2 ha2 la3 ha3 la4 ha4 la5 ha5)), (.int (own_g5_6 (5 : Int32) la2 ha2 la3 ha3 la4 ha4 la5 ha5))] (.int 0) := by
      have q := Arv.set Ar279 q279 S279 N279 H279 G279 (fits_nar_bool _) W280 _ rfl (by rcases r_ha3 with hq | hq | hq <;> rw [hq] <;> exact Nat.le_of_ble_eq_true rfl)
      rw [own_set6_3 (own_w la3 (0 : Int32) (own_g0_4 (5 : Int32) la2 ha2 la3 ha3 la4 ha4 la5 ha5)) (own_w la3 (1 : Int32) (own_g1_4 (5 : Int32) la2 ha2 la3 ha3 la4 ha4 la5 ha5)) (own_w la3 (2 : Int32) (own_g2_4 (5 : Int32) la2 ha2 la3 ha3 la4 ha4 la5 ha5)) (own_g3_4 (5 : Int32) la2 ha2 la3 ha3 la4 ha4 la5 ha5) (own_g4_5 (5 : Int32) la2 ha2 la3 ha3 la4 ha4 la5 ha5) (own_g5_6 (5 : Int32) la2 ha2 la3 ha3 la4 ha4 la5 ha5) ha3 r_ha3] at q
      exact q
    have N280 := Fr.snoc X280 N275 g_bb
    have Vq : Arv Z h280 bb kb .boolean (6 : Int32) [(.int (own_g0_3 (5 : Int32) la2 ha2 la3 ha3 la4 ha4 la5 ha5)), (.int (own_g1_3 (5 : Int32) la2 ha2 la3 ha3 la4 ha4 la5 ha5)), (.int (own_g2_3 (5 : Int32) la2 ha2 la3 ha3 la4 ha4 la5 ha5)), (.int (own_g3_4 (5 : Int32) la2 ha2 la3 ha3 la4 ha4 la5 ha5)), (.int (own_g4_5 (5 : Int32) la2 ha2 la3 ha3 la4 ha4 la5 ha5)), (.int (own_g5_6 (5 : Int32) la2 ha2 la3 ha3 la4 ha4 la5 ha5))] (.int 0) := by
      have q := Vz280
      rw [show (own_w ha3 (0 : Int32) (own_w la3 (0 : Int32) (own_g0_4 (5 : Int32) la2 ha2 la3 ha3 la4 ha4 la5 ha5))) = (own_g0_3 (5 : Int32) la2 ha2 la3 ha3 la4 ha4 la5 ha5) from own_stW _ _ _ _ _ hb3] at q
      rw [show (own_w ha3 (1 : Int32) (own_w la3 (1 : Int32) (own_g1_4 (5 : Int32) la2 ha2 la3 ha3 la4 ha4 la5 ha5))) = (own_g1_3 (5 : Int32) la2 ha2 la3 ha3 la4 ha4 la5 ha5) from own_stW _ _ _ _ _ hb3] at q
      rw [show (own_w ha3 (2 : Int32) (own_w la3 (2 : Int32) (own_g2_4 (5 : Int32) la2 ha2 la3 ha3 la4 ha4 la5 ha5))) = (own_g2_3 (5 : Int32) la2 ha2 la3 ha3 la4 ha4 la5 ha5) from own_stW _ _ _ _ _ hb3] at q
      exact q
    refine own_go (fun _ k => XS.iinc X280.here hx rfl (hb hby d5_41) rfl (l' := #[.val (.ref a1), .val (.int 5), .val (.ref bb), .val (.int ((3 : Int32) + (-1 : Int32)))]) rfl k) ?_
    show own_Run p e below _ T280 (mkF m 44 #[.val (.ref a1), .val (.int 5), .val (.ref bb), .val (.int ((3 : Int32) + (-1 : Int32)))] [])
    rw [show ((3 : Int32) + (-1 : Int32)) = (2 : Int32) by decide]
    refine own_go (fun _ k => XS.goto X280.here hx rfl (pc0 := 44) (pc' := 12) rfl (hb hby d5_44) (by decide) (by decide) k) ?_
    exact rs5_2 a1 (5 : Int32) b2 b3 k2 k3 la2 ha2 la3 ha3 la4 ha4 la5 ha5 h0 n0 hx hZ hw hby hml hown hnm hret hlk bb kb T280 h280 _ X280 e280 N280 Z0_c281 K0_c281 F_lows_a1_c281 F_highs_a1_c281 V_b2_c281 V_b3_c281 Vq (rfl) (r_la2) (r_ha2) (r_la3) (r_ha3) (r_la4) (r_ha4) (r_la5) (r_ha5) g_bb sz_bb ne_b2_bb ne_b3_bb ne_a1_bb 
set_option maxRecDepth 65536 in
set_option maxHeartbeats 40000000 in
theorem rs5_4 {p : Program} {l : Launch} {e : Env} {s : State} {m : MethodId} {args : Array Value} {below : List Frame} {meth : Method} {c : Code} {Z : State} {a0 : Array Value} (a1 : Addr) (p2 : Int32) (b2 : Addr) (b3 : Addr) (k2 : ClassId) (k3 : ClassId) (la2 : Int32) (ha2 : Int32) (la3 : Int32) (ha3 : Int32) (la4 : Int32) (ha4 : Int32) (la5 : Int32) (ha5 : Int32) (h0 : Heap) (n0 : Nat) (hx : p.tables.exec = Jvm.exec) (hZ : Z.Warmed39 s.vm) (hw : ∀ d ∈ tables_1, d.before a0 Z = true) (hby : c.code = prog_20_method_9_code) (hml : c.maxLocals = 4) (hown : s.vm.findClass own_K0 = some m.cls) (hnm : meth.name = "reachable") (hret : meth.sig.returnType = some (.array .boolean)) (hlk : meth.locks = false)
    (bb : Addr) (kb : ClassId) (T0 : State) (hh : Heap) (locs : List Loc) (X0 : Stand p l e ({ frames := 0, cells := 1, slots := 6, locals := 0 } : Room) s m args below meth c T0 locs 1 6) (e0 : T0.heap = hh) (N0 : Fr n0 locs) (Z0 : n0 ≤ hh.size) (K0 : Keep h0 hh []) (F_lows_a1 : Fld Z hh a1 own_K0 "lows" "[I" (.ref b2)) (F_highs_a1 : Fld Z hh a1 own_K0 "highs" "[I" (.ref b3)) (V_b2 : Arv Z hh b2 k2 .int (1024 : Int32) [(.int 0), (.int 0), (.int la2), (.int la3), (.int la4), (.int la5)] (.int 0)) (V_b3 : Arv Z hh b3 k3 .int (1024 : Int32) [(.int 0), (.int 0), (.int ha2), (.int ha3), (.int ha4), (.int ha5)] (.int 0)) (V_bb : Arv Z hh bb kb .boolean (6 : Int32) [(.int (own_g0_5 (5 : Int32) la2 ha2 la3 ha3 la4 ha4 la5 ha5)), (.int (own_g1_5 (5 : Int32) la2 ha2 la3 ha3 la4 ha4 la5 ha5)), (.int (own_g2_5 (5 : Int32) la2 ha2 la3 ha3 la4 ha4 la5 ha5)), (.int (own_g3_5 (5 : Int32) la2 ha2 la3 ha3 la4 ha4 la5 ha5)), (.int (own_g4_5 (5 : Int32) la2 ha2 la3 ha3 la4 ha4 la5 ha5)), (.int (own_g5_6 (5 : Int32) la2 ha2 la3 ha3 la4 ha4 la5 ha5))] (.int 0)) (hp2 : p2 = (5 : Int32)) (r_la2 : la2 = (0 : Int32) ∨ la2 = (1 : Int32)) (r_ha2 : ha2 = (0 : Int32) ∨ ha2 = (1 : Int32)) (r_la3 : la3 = (0 : Int32) ∨ la3 = (1 : Int32) ∨ la3 = (2 : Int32)) (r_ha3 : ha3 = (0 : Int32) ∨ ha3 = (1 : Int32) ∨ ha3 = (2 : Int32)) (r_la4 : la4 = (0 : Int32) ∨ la4 = (1 : Int32) ∨ la4 = (2 : Int32) ∨ la4 = (3 : Int32)) (r_ha4 : ha4 = (0 : Int32) ∨ ha4 = (1 : Int32) ∨ ha4 = (2 : Int32) ∨ ha4 = (3 : Int32)) (r_la5 : la5 = (0 : Int32) ∨ la5 = (1 : Int32) ∨ la5 = (2 : Int32) ∨ la5 = (3 : Int32) ∨ la5 = (4 : Int32)) (r_ha5 : ha5 = (0 : Int32) ∨ ha5 = (1 : Int32) ∨ ha5 = (2 : Int32) ∨ ha5 = (3 : Int32) ∨ ha5 = (4 : Int32)) (g_bb : n0 ≤ bb) (sz_bb : h0.size ≤ bb) (ne_b2_bb : b2 ≠ bb) (ne_b3_bb : b3 ≠ bb) (ne_a1_bb : a1 ≠ bb) :
    own_Run p e below (fun o U' => ∃ v L, o = .returned v ∧ Q5 Z a1 p2 b2 b3 k2 k3 la2 ha2 la3 ha3 la4 ha4 la5 ha5 h0 n0 v U'.heap L ∧ FrameEnd s o U' L ({ frames := 0, cells := 1, slots := 6, locals := 0 } : Room).cells ({ frames := 0, cells := 1, slots := 6, locals := 0 } : Room).slots) T0 (mkF m 12 #[.val (.ref a1), .val (.int 5), .val (.ref bb), .val (.int 4)] []) := by
  have W := fun (k : Nat) {d : Jvm.Cond} (h : tables_1[k]? = some d) => hw d (List.mem_of_getElem? h)
  show own_Run p e below _ T0 (mkF m 12 #[.val (.ref a1), .val (.int 5), .val (.ref bb), .val (.int 4)] [])
  subst hp2
  show own_Run p e below _ T0 (mkF m 12 #[.val (.ref a1), .val (.int 5), .val (.ref bb), .val (.int 4)] [])
  refine own_go (fun _ k => XS.iloadN X0.here hx rfl (hb hby d5_12) rfl k) ?_
  refine own_go (fun _ k => XS.iconst X0.here hx rfl (hb hby d5_13) k) ?_
  refine own_go (fun _ k => XS.icmpNo X0.here hx rfl (hb hby d5_14) rfl (flt (by decide : ¬ ((4 : Int32) < (2 : Int32)))).1 k) ?_
  refine own_go (fun _ k => XS.aloadN X0.here hx rfl (hb hby d5_17) rfl rfl k) ?_
  refine own_go (fun _ k => XS.iloadN X0.here hx rfl (hb hby d5_18) rfl k) ?_
  obtain ⟨cl282, Ar282, q282, S282, N282, H282, G282⟩ := id V_bb
  have hin282 : ¬ ((4 : Int32) < 0 ∨ cl282.slots.size ≤ ((4 : Int32)).toNatClampNeg) := inb_of S282 ⟨by decide, by decide⟩
  refine own_go (X0.baloadBooleans hx (j := (4 : Int32)) (v := (.int (own_g4_5 (5 : Int32) la2 ha2 la3 ha3 la4 ha4 la5 ha5))) (by rw [e0]; exact Ar282.1) (State.isArrayOf_alike hZ.alike Ar282.2.1) Ar282.2.2 hin282 (H282.at hin282 rfl) (g := (mkF m 19 #[.val (.ref a1), .val (.int 5), .val (.ref bb), .val (.int 4)] [(.int 4), (.ref bb)])) rfl rfl (hb hby d5_19)) ?_
  by_cases hb4 : (own_g4_5 (5 : Int32) la2 ha2 la3 ha3 la4 ha4 la5 ha5) = (0 : Int32)
  · refine own_go (fun _ k => XS.ifYes X0.here hx rfl (pc0 := 20) (pc' := 41) rfl (hb hby d5_20) rfl ((if0 _ _).trans (teq hb4).1) (by decide) (by decide) k) ?_
    have Vq : Arv Z hh bb kb .boolean (6 : Int32) [(.int (own_g0_4 (5 : Int32) la2 ha2 la3 ha3 la4 ha4 la5 ha5)), (.int (own_g1_4 (5 : Int32) la2 ha2 la3 ha3 la4 ha4 la5 ha5)), (.int (own_g2_4 (5 : Int32) la2 ha2 la3 ha3 la4 ha4 la5 ha5)), (.int (own_g3_4 (5 : Int32) la2 ha2 la3 ha3 la4 ha4 la5 ha5)), (.int (own_g4_5 (5 : Int32) la2 ha2 la3 ha3 la4 ha4 la5 ha5)), (.int (own_g5_6 (5 : Int32) la2 ha2 la3 ha3 la4 ha4 la5 ha5))] (.int 0) := by
      rw [show (own_g0_4 (5 : Int32) la2 ha2 la3 ha3 la4 ha4 la5 ha5) = (own_g0_5 (5 : Int32) la2 ha2 la3 ha3 la4 ha4 la5 ha5) from own_st0 _ _ _ _ _ hb4]
      rw [show (own_g1_4 (5 : Int32) la2 ha2 la3 ha3 la4 ha4 la5 ha5) = (own_g1_5 (5 : Int32) la2 ha2 la3 ha3 la4 ha4 la5 ha5) from own_st0 _ _ _ _ _ hb4]
      rw [show (own_g2_4 (5 : Int32) la2 ha2 la3 ha3 la4 ha4 la5 ha5) = (own_g2_5 (5 : Int32) la2 ha2 la3 ha3 la4 ha4 la5 ha5) from own_st0 _ _ _ _ _ hb4]
      rw [show (own_g3_4 (5 : Int32) la2 ha2 la3 ha3 la4 ha4 la5 ha5) = (own_g3_5 (5 : Int32) la2 ha2 la3 ha3 la4 ha4 la5 ha5) from own_st0 _ _ _ _ _ hb4]
      exact V_bb
    refine own_go (fun _ k => XS.iinc X0.here hx rfl (hb hby d5_41) rfl (l' := #[.val (.ref a1), .val (.int 5), .val (.ref bb), .val (.int ((4 : Int32) + (-1 : Int32)))]) rfl k) ?_
    show own_Run p e below _ T0 (mkF m 44 #[.val (.ref a1), .val (.int 5), .val (.ref bb), .val (.int ((4 : Int32) + (-1 : Int32)))] [])
    rw [show ((4 : Int32) + (-1 : Int32)) = (3 : Int32) by decide]
    refine own_go (fun _ k => XS.goto X0.here hx rfl (pc0 := 44) (pc' := 12) rfl (hb hby d5_44) (by decide) (by decide) k) ?_
    exact rs5_3 a1 (5 : Int32) b2 b3 k2 k3 la2 ha2 la3 ha3 la4 ha4 la5 ha5 h0 n0 hx hZ hw hby hml hown hnm hret hlk bb kb T0 hh _ X0 e0 N0 Z0 K0 F_lows_a1 F_highs_a1 V_b2 V_b3 Vq (rfl) (r_la2) (r_ha2) (r_la3) (r_ha3) (r_la4) (r_ha4) (r_la5) (r_ha5) g_bb sz_bb ne_b2_bb ne_b3_bb ne_a1_bb 
  · refine own_go (fun _ k => XS.ifNo X0.here hx rfl (hb hby d5_20) rfl ((if0 _ _).trans (feq hb4).1) k) ?_
    refine own_go (fun _ k => XS.aloadN X0.here hx rfl (hb hby d5_23) rfl rfl k) ?_
    show own_Run p e below _ T0 (mkF m 24 #[.val (.ref a1), .val (.int 5), .val (.ref bb), .val (.int 4)] [(.ref bb)])
    refine own_go (fun _ k => XS.aloadN X0.here hx rfl (hb hby d5_24) rfl rfl k) ?_
    obtain ⟨T283, X283, e283, st283⟩ := getF X0 hx hZ hown (host := "") (Or.inl (W 14 rfl)) Via.refl e0 F_lows_a1 (g := (mkF m 25 #[.val (.ref a1), .val (.int 5), .val (.ref bb), .val (.int 4)] [(.ref a1), (.ref bb)])) rfl rfl (hb hby d5_25)
    refine own_go st283 ?_
    refine own_go (fun _ k => XS.iloadN X283.here hx rfl (hb hby d5_28) rfl k) ?_
    obtain ⟨cl284, Ar284, q284, S284, N284, H284, G284⟩ := id V_b2
    have hin284 : ¬ ((4 : Int32) < 0 ∨ cl284.slots.size ≤ ((4 : Int32)).toNatClampNeg) := inb_of S284 ⟨by decide, by decide⟩
    refine own_go (X283.iaload hx (j := (4 : Int32)) (v := (.int la4)) (by rw [e283]; exact Ar284.1) (State.isArrayOf_alike hZ.alike Ar284.2.1) Ar284.2.2 hin284 (H284.at hin284 rfl) (g := (mkF m 29 #[.val (.ref a1), .val (.int 5), .val (.ref bb), .val (.int 4)] [(.int 4), (.ref b2), (.ref bb)])) rfl rfl (hb hby d5_29)) ?_
    refine own_go (fun _ k => XS.iconst X283.here hx rfl (hb hby d5_30) k) ?_
    obtain ⟨cl285, Ar285, q285, S285, N285, H285, G285⟩ := id V_bb
    have hin285 : ¬ (la4 < 0 ∨ cl285.slots.size ≤ (la4).toNatClampNeg) := inb_of S285 (by rcases r_la4 with hq | hq | hq | hq <;> rw [hq] <;> exact ⟨by decide, by decide⟩)
    obtain ⟨T286, h286, X286, e286, W286, st286⟩ := stZ X283 hx hZ e283 Ar285 (j := la4) hin285 (g := (mkF m 31 #[.val (.ref a1), .val (.int 5), .val (.ref bb), .val (.int 4)] [(.int 1), (.int la4), (.ref bb)])) rfl rfl (hb hby d5_31)
    refine own_go st286 ?_
    show own_Run p e below _ T286 (mkF m 32 #[.val (.ref a1), .val (.int 5), .val (.ref bb), .val (.int 4)] [])
    have Z0_c287 := Nat.le_trans Z0 (Keep.of_wr W286).1
    have K0_c287 := K0.wr W286 (Or.inr sz_bb)
    have F_lows_a1_c287 := F_lows_a1.other W286 (Or.inl ne_a1_bb)
    have F_highs_a1_c287 := F_highs_a1.other W286 (Or.inl ne_a1_bb)
    have V_b2_c287 := V_b2.other W286 ne_b2_bb
    have V_b3_c287 := V_b3.other W286 ne_b3_bb
    have Vz286 : Arv Z h286 bb kb .boolean (6 : Int32) [(.int (own_w la4 (0 : Int32) (own_g0_5 (5 : Int32) la2 ha2 la3 ha3 la4 ha4 la5 ha5))), (.int (own_w la4 (1 : Int32) (own_g1_5 (5 : Int32) la2 ha2 la3 ha3 la4 ha4 la5 ha5))), (.int (own_w la4 (2 : Int32) (own_g2_5 (5 : Int32) la2 ha2 la3 ha3 la4 ha4 la5 ha5))), (.int (own_w la4 (3 : Int32) (own_g3_5 (5 : Int32) la2 ha2 la3 ha3 la4 ha4 la5 ha5))), (.int (own_g4_5 (5 : Int32) la2 ha2 la3 ha3 la4 ha4 la5 ha5)), (.int (own_g5_6 (5 : Int32) la2 ha2 la3 ha3 la4 ha4 la5 ha5))] (.int 0) := by
      have q := Arv.set Ar285 q285 S285 N285 H285 G285 (fits_nar_bool _) W286 _ rfl (by rcases r_la4 with hq | hq | hq | hq <;> rw [hq] <;> exact Nat.le_of_ble_eq_true rfl)
      rw [own_set6_4 (own_g0_5 (5 : Int32) la2 ha2 la3 ha3 la4 ha4 la5 ha5) (own_g1_5 (5 : Int32) la2 ha2 la3 ha3 la4 ha4 la5 ha5) (own_g2_5 (5 : Int32) la2 ha2 la3 ha3 la4 ha4 la5 ha5) (own_g3_5 (5 : Int32) la2 ha2 la3 ha3 la4 ha4 la5 ha5) (own_g4_5 (5 : Int32) la2 ha2 la3 ha3 la4 ha4 la5 ha5) (own_g5_6 (5 : Int32) la2 ha2 la3 ha3 la4 ha4 la5 ha5) la4 r_la4] at q
      exact q
    have N286 := Fr.snoc X286 N0 g_bb
    refine own_go (fun _ k => XS.aloadN X286.here hx rfl (hb hby d5_32) rfl rfl k) ?_
    refine own_go (fun _ k => XS.aloadN X286.here hx rfl (hb hby d5_33) rfl rfl k) ?_
    obtain ⟨T288, X288, e288, st288⟩ := getF X286 hx hZ hown (host := "") (Or.inl (W 16 rfl)) Via.refl e286 F_highs_a1_c287 (g := (mkF m 34 #[.val (.ref a1), .val (.int 5), .val (.ref bb), .val (.int 4)] [(.ref a1), (.ref bb)])) rfl rfl (hb hby d5_34)
    refine own_go st288 ?_
    refine own_go (fun _ k => XS.iloadN X288.here hx rfl (hb hby d5_37) rfl k) ?_
    obtain ⟨cl289, Ar289, q289, S289, N289, H289, G289⟩ := id V_b3_c287
    have hin289 : ¬ ((4 : Int32) < 0 ∨ cl289.slots.size ≤ ((4 : Int32)).toNatClampNeg) := inb_of S289 ⟨by decide, by decide⟩
    refine own_go (X288.iaload hx (j := (4 : Int32)) (v := (.int ha4)) (by rw [e288]; exact Ar289.1) (State.isArrayOf_alike hZ.alike Ar289.2.1) Ar289.2.2 hin289 (H289.at hin289 rfl) (g := (mkF m 38 #[.val (.ref a1), .val (.int 5), .val (.ref bb), .val (.int 4)] [(.int 4), (.ref b3), (.ref bb)])) rfl rfl (hb hby d5_38)) ?_
    refine own_go (fun _ k => XS.iconst X288.here hx rfl (hb hby d5_39) k) ?_
    obtain ⟨cl290, Ar290, q290, S290, N290, H290, G290⟩ := id Vz286
    have hin290 : ¬ (ha4 < 0 ∨ cl290.slots.size ≤ (ha4).toNatClampNeg) := inb_of S290 (by rcases r_ha4 with hq | hq | hq | hq <;> rw [hq] <;> exact ⟨by decide, by decide⟩)
    obtain ⟨T291, h291, X291, e291, W291, st291⟩ := stZ X288 hx hZ e288 Ar290 (j := ha4) hin290 (g := (mkF m 40 #[.val (.ref a1), .val (.int 5), .val (.ref bb), .val (.int 4)] [(.int 1), (.int ha4), (.ref bb)])) rfl rfl (hb hby d5_40)
    refine own_go st291 ?_
    show own_Run p e below _ T291 (mkF m 41 #[.val (.ref a1), .val (.int 5), .val (.ref bb), .val (.int 4)] [])
    have Z0_c292 := Nat.le_trans Z0_c287 (Keep.of_wr W291).1
    have K0_c292 := K0_c287.wr W291 (Or.inr sz_bb)
    have F_lows_a1_c292 := F_lows_a1_c287.other W291 (Or.inl ne_a1_bb)
    have F_highs_a1_c292 := F_highs_a1_c287.other W291 (Or.inl ne_a1_bb)
    have V_b2_c292 := V_b2_c287.other W291 ne_b2_bb
    have V_b3_c292 := V_b3_c287.other W291 ne_b3_bb
    have Vz291 : Arv Z h291 bb kb .boolean (6 : Int32) [(.int (own_w ha4 (0 : Int32) (own_w la4 (0 : Int32) (own_g0_5 (5 : Int32) la2 ha2 la3 ha3 la4 ha4 la5 ha5)))), (.int (own_w ha4 (1 : Int32) (own_w la4 (1 : Int32) (own_g1_5 (5 : Int32) la2 ha2 la3 ha3 la4 ha4 la5 ha5)))), (.int (own_w ha4 (2 : Int32) (own_w la4 (2 : Int32) (own_g2_5 (5 : Int32) la2 ha2 la3 ha3 la4 ha4 la5 ha5)))), (.int (own_w ha4 (3 : Int32) (own_w la4 (3 : Int32) (own_g3_5 (5 : Int32) la2 ha2 la3 ha3 la4 ha4 la5 ha5)))), (.int (own_g4_5 (5 : Int32) la2 ha2 la3 ha3 la4 ha4 la5 ha5)), (.int (own_g5_6 (5 : Int32) la2 ha2 la3 ha3 la4 ha4 la5 ha5))] (.int 0) := by
      have q := Arv.set Ar290 q290 S290 N290 H290 G290 (fits_nar_bool _) W291 _ rfl (by rcases r_ha4 with hq | hq | hq | hq <;> rw [hq] <;> exact Nat.le_of_ble_eq_true rfl)
      rw [own_set6_4 (own_w la4 (0 : Int32) (own_g0_5 (5 : Int32) la2 ha2 la3 ha3 la4 ha4 la5 ha5)) (own_w la4 (1 : Int32) (own_g1_5 (5 : Int32) la2 ha2 la3 ha3 la4 ha4 la5 ha5)) (own_w la4 (2 : Int32) (own_g2_5 (5 : Int32) la2 ha2 la3 ha3 la4 ha4 la5 ha5)) (own_w la4 (3 : Int32) (own_g3_5 (5 : Int32) la2 ha2 la3 ha3 la4 ha4 la5 ha5)) (own_g4_5 (5 : Int32) la2 ha2 la3 ha3 la4 ha4 la5 ha5) (own_g5_6 (5 : Int32) la2 ha2 la3 ha3 la4 ha4 la5 ha5) ha4 r_ha4] at q
      exact q
    have N291 := Fr.snoc X291 N286 g_bb
    have Vq : Arv Z h291 bb kb .boolean (6 : Int32) [(.int (own_g0_4 (5 : Int32) la2 ha2 la3 ha3 la4 ha4 la5 ha5)), (.int (own_g1_4 (5 : Int32) la2 ha2 la3 ha3 la4 ha4 la5 ha5)), (.int (own_g2_4 (5 : Int32) la2 ha2 la3 ha3 la4 ha4 la5 ha5)), (.int (own_g3_4 (5 : Int32) la2 ha2 la3 ha3 la4 ha4 la5 ha5)), (.int (own_g4_5 (5 : Int32) la2 ha2 la3 ha3 la4 ha4 la5 ha5)), (.int (own_g5_6 (5 : Int32) la2 ha2 la3 ha3 la4 ha4 la5 ha5))] (.int 0) := by
      have q := Vz291
      rw [show (own_w ha4 (0 : Int32) (own_w la4 (0 : Int32) (own_g0_5 (5 : Int32) la2 ha2 la3 ha3 la4 ha4 la5 ha5))) = (own_g0_4 (5 : Int32) la2 ha2 la3 ha3 la4 ha4 la5 ha5) from own_stW _ _ _ _ _ hb4] at q
      rw [show (own_w ha4 (1 : Int32) (own_w la4 (1 : Int32) (own_g1_5 (5 : Int32) la2 ha2 la3 ha3 la4 ha4 la5 ha5))) = (own_g1_4 (5 : Int32) la2 ha2 la3 ha3 la4 ha4 la5 ha5) from own_stW _ _ _ _ _ hb4] at q
      rw [show (own_w ha4 (2 : Int32) (own_w la4 (2 : Int32) (own_g2_5 (5 : Int32) la2 ha2 la3 ha3 la4 ha4 la5 ha5))) = (own_g2_4 (5 : Int32) la2 ha2 la3 ha3 la4 ha4 la5 ha5) from own_stW _ _ _ _ _ hb4] at q
      rw [show (own_w ha4 (3 : Int32) (own_w la4 (3 : Int32) (own_g3_5 (5 : Int32) la2 ha2 la3 ha3 la4 ha4 la5 ha5))) = (own_g3_4 (5 : Int32) la2 ha2 la3 ha3 la4 ha4 la5 ha5) from own_stW _ _ _ _ _ hb4] at q
      exact q
    refine own_go (fun _ k => XS.iinc X291.here hx rfl (hb hby d5_41) rfl (l' := #[.val (.ref a1), .val (.int 5), .val (.ref bb), .val (.int ((4 : Int32) + (-1 : Int32)))]) rfl k) ?_
    show own_Run p e below _ T291 (mkF m 44 #[.val (.ref a1), .val (.int 5), .val (.ref bb), .val (.int ((4 : Int32) + (-1 : Int32)))] [])
    rw [show ((4 : Int32) + (-1 : Int32)) = (3 : Int32) by decide]
    refine own_go (fun _ k => XS.goto X291.here hx rfl (pc0 := 44) (pc' := 12) rfl (hb hby d5_44) (by decide) (by decide) k) ?_
    exact rs5_3 a1 (5 : Int32) b2 b3 k2 k3 la2 ha2 la3 ha3 la4 ha4 la5 ha5 h0 n0 hx hZ hw hby hml hown hnm hret hlk bb kb T291 h291 _ X291 e291 N291 Z0_c292 K0_c292 F_lows_a1_c292 F_highs_a1_c292 V_b2_c292 V_b3_c292 Vq (rfl) (r_la2) (r_ha2) (r_la3) (r_ha3) (r_la4) (r_ha4) (r_la5) (r_ha5) g_bb sz_bb ne_b2_bb ne_b3_bb ne_a1_bb 
set_option maxRecDepth 65536 in
set_option maxHeartbeats 40000000 in
theorem rs5_5 {p : Program} {l : Launch} {e : Env} {s : State} {m : MethodId} {args : Array Value} {below : List Frame} {meth : Method} {c : Code} {Z : State} {a0 : Array Value} (a1 : Addr) (p2 : Int32) (b2 : Addr) (b3 : Addr) (k2 : ClassId) (k3 : ClassId) (la2 : Int32) (ha2 : Int32) (la3 : Int32) (ha3 : Int32) (la4 : Int32) (ha4 : Int32) (la5 : Int32) (ha5 : Int32) (h0 : Heap) (n0 : Nat) (hx : p.tables.exec = Jvm.exec) (hZ : Z.Warmed39 s.vm) (hw : ∀ d ∈ tables_1, d.before a0 Z = true) (hby : c.code = prog_20_method_9_code) (hml : c.maxLocals = 4) (hown : s.vm.findClass own_K0 = some m.cls) (hnm : meth.name = "reachable") (hret : meth.sig.returnType = some (.array .boolean)) (hlk : meth.locks = false)
    (bb : Addr) (kb : ClassId) (T0 : State) (hh : Heap) (locs : List Loc) (X0 : Stand p l e ({ frames := 0, cells := 1, slots := 6, locals := 0 } : Room) s m args below meth c T0 locs 1 6) (e0 : T0.heap = hh) (N0 : Fr n0 locs) (Z0 : n0 ≤ hh.size) (K0 : Keep h0 hh []) (F_lows_a1 : Fld Z hh a1 own_K0 "lows" "[I" (.ref b2)) (F_highs_a1 : Fld Z hh a1 own_K0 "highs" "[I" (.ref b3)) (V_b2 : Arv Z hh b2 k2 .int (1024 : Int32) [(.int 0), (.int 0), (.int la2), (.int la3), (.int la4), (.int la5)] (.int 0)) (V_b3 : Arv Z hh b3 k3 .int (1024 : Int32) [(.int 0), (.int 0), (.int ha2), (.int ha3), (.int ha4), (.int ha5)] (.int 0)) (V_bb : Arv Z hh bb kb .boolean (6 : Int32) [(.int (own_g0_6 (5 : Int32) la2 ha2 la3 ha3 la4 ha4 la5 ha5)), (.int (own_g1_6 (5 : Int32) la2 ha2 la3 ha3 la4 ha4 la5 ha5)), (.int (own_g2_6 (5 : Int32) la2 ha2 la3 ha3 la4 ha4 la5 ha5)), (.int (own_g3_6 (5 : Int32) la2 ha2 la3 ha3 la4 ha4 la5 ha5)), (.int (own_g4_6 (5 : Int32) la2 ha2 la3 ha3 la4 ha4 la5 ha5)), (.int (own_g5_6 (5 : Int32) la2 ha2 la3 ha3 la4 ha4 la5 ha5))] (.int 0)) (hp2 : p2 = (5 : Int32)) (r_la2 : la2 = (0 : Int32) ∨ la2 = (1 : Int32)) (r_ha2 : ha2 = (0 : Int32) ∨ ha2 = (1 : Int32)) (r_la3 : la3 = (0 : Int32) ∨ la3 = (1 : Int32) ∨ la3 = (2 : Int32)) (r_ha3 : ha3 = (0 : Int32) ∨ ha3 = (1 : Int32) ∨ ha3 = (2 : Int32)) (r_la4 : la4 = (0 : Int32) ∨ la4 = (1 : Int32) ∨ la4 = (2 : Int32) ∨ la4 = (3 : Int32)) (r_ha4 : ha4 = (0 : Int32) ∨ ha4 = (1 : Int32) ∨ ha4 = (2 : Int32) ∨ ha4 = (3 : Int32)) (r_la5 : la5 = (0 : Int32) ∨ la5 = (1 : Int32) ∨ la5 = (2 : Int32) ∨ la5 = (3 : Int32) ∨ la5 = (4 : Int32)) (r_ha5 : ha5 = (0 : Int32) ∨ ha5 = (1 : Int32) ∨ ha5 = (2 : Int32) ∨ ha5 = (3 : Int32) ∨ ha5 = (4 : Int32)) (g_bb : n0 ≤ bb) (sz_bb : h0.size ≤ bb) (ne_b2_bb : b2 ≠ bb) (ne_b3_bb : b3 ≠ bb) (ne_a1_bb : a1 ≠ bb) :
    own_Run p e below (fun o U' => ∃ v L, o = .returned v ∧ Q5 Z a1 p2 b2 b3 k2 k3 la2 ha2 la3 ha3 la4 ha4 la5 ha5 h0 n0 v U'.heap L ∧ FrameEnd s o U' L ({ frames := 0, cells := 1, slots := 6, locals := 0 } : Room).cells ({ frames := 0, cells := 1, slots := 6, locals := 0 } : Room).slots) T0 (mkF m 12 #[.val (.ref a1), .val (.int 5), .val (.ref bb), .val (.int 5)] []) := by
  have W := fun (k : Nat) {d : Jvm.Cond} (h : tables_1[k]? = some d) => hw d (List.mem_of_getElem? h)
  show own_Run p e below _ T0 (mkF m 12 #[.val (.ref a1), .val (.int 5), .val (.ref bb), .val (.int 5)] [])
  subst hp2
  show own_Run p e below _ T0 (mkF m 12 #[.val (.ref a1), .val (.int 5), .val (.ref bb), .val (.int 5)] [])
  refine own_go (fun _ k => XS.iloadN X0.here hx rfl (hb hby d5_12) rfl k) ?_
  refine own_go (fun _ k => XS.iconst X0.here hx rfl (hb hby d5_13) k) ?_
  refine own_go (fun _ k => XS.icmpNo X0.here hx rfl (hb hby d5_14) rfl (flt (by decide : ¬ ((5 : Int32) < (2 : Int32)))).1 k) ?_
  refine own_go (fun _ k => XS.aloadN X0.here hx rfl (hb hby d5_17) rfl rfl k) ?_
  refine own_go (fun _ k => XS.iloadN X0.here hx rfl (hb hby d5_18) rfl k) ?_
  obtain ⟨cl293, Ar293, q293, S293, N293, H293, G293⟩ := id V_bb
  have hin293 : ¬ ((5 : Int32) < 0 ∨ cl293.slots.size ≤ ((5 : Int32)).toNatClampNeg) := inb_of S293 ⟨by decide, by decide⟩
  refine own_go (X0.baloadBooleans hx (j := (5 : Int32)) (v := (.int (own_g5_6 (5 : Int32) la2 ha2 la3 ha3 la4 ha4 la5 ha5))) (by rw [e0]; exact Ar293.1) (State.isArrayOf_alike hZ.alike Ar293.2.1) Ar293.2.2 hin293 (H293.at hin293 rfl) (g := (mkF m 19 #[.val (.ref a1), .val (.int 5), .val (.ref bb), .val (.int 5)] [(.int 5), (.ref bb)])) rfl rfl (hb hby d5_19)) ?_
  by_cases hb5 : (own_g5_6 (5 : Int32) la2 ha2 la3 ha3 la4 ha4 la5 ha5) = (0 : Int32)
  · refine own_go (fun _ k => XS.ifYes X0.here hx rfl (pc0 := 20) (pc' := 41) rfl (hb hby d5_20) rfl ((if0 _ _).trans (teq hb5).1) (by decide) (by decide) k) ?_
    have Vq : Arv Z hh bb kb .boolean (6 : Int32) [(.int (own_g0_5 (5 : Int32) la2 ha2 la3 ha3 la4 ha4 la5 ha5)), (.int (own_g1_5 (5 : Int32) la2 ha2 la3 ha3 la4 ha4 la5 ha5)), (.int (own_g2_5 (5 : Int32) la2 ha2 la3 ha3 la4 ha4 la5 ha5)), (.int (own_g3_5 (5 : Int32) la2 ha2 la3 ha3 la4 ha4 la5 ha5)), (.int (own_g4_5 (5 : Int32) la2 ha2 la3 ha3 la4 ha4 la5 ha5)), (.int (own_g5_6 (5 : Int32) la2 ha2 la3 ha3 la4 ha4 la5 ha5))] (.int 0) := by
      rw [show (own_g0_5 (5 : Int32) la2 ha2 la3 ha3 la4 ha4 la5 ha5) = (own_g0_6 (5 : Int32) la2 ha2 la3 ha3 la4 ha4 la5 ha5) from own_st0 _ _ _ _ _ hb5]
      rw [show (own_g1_5 (5 : Int32) la2 ha2 la3 ha3 la4 ha4 la5 ha5) = (own_g1_6 (5 : Int32) la2 ha2 la3 ha3 la4 ha4 la5 ha5) from own_st0 _ _ _ _ _ hb5]
      rw [show (own_g2_5 (5 : Int32) la2 ha2 la3 ha3 la4 ha4 la5 ha5) = (own_g2_6 (5 : Int32) la2 ha2 la3 ha3 la4 ha4 la5 ha5) from own_st0 _ _ _ _ _ hb5]
      rw [show (own_g3_5 (5 : Int32) la2 ha2 la3 ha3 la4 ha4 la5 ha5) = (own_g3_6 (5 : Int32) la2 ha2 la3 ha3 la4 ha4 la5 ha5) from own_st0 _ _ _ _ _ hb5]
      rw [show (own_g4_5 (5 : Int32) la2 ha2 la3 ha3 la4 ha4 la5 ha5) = (own_g4_6 (5 : Int32) la2 ha2 la3 ha3 la4 ha4 la5 ha5) from own_st0 _ _ _ _ _ hb5]
      exact V_bb
    refine own_go (fun _ k => XS.iinc X0.here hx rfl (hb hby d5_41) rfl (l' := #[.val (.ref a1), .val (.int 5), .val (.ref bb), .val (.int ((5 : Int32) + (-1 : Int32)))]) rfl k) ?_
    show own_Run p e below _ T0 (mkF m 44 #[.val (.ref a1), .val (.int 5), .val (.ref bb), .val (.int ((5 : Int32) + (-1 : Int32)))] [])
    rw [show ((5 : Int32) + (-1 : Int32)) = (4 : Int32) by decide]
    refine own_go (fun _ k => XS.goto X0.here hx rfl (pc0 := 44) (pc' := 12) rfl (hb hby d5_44) (by decide) (by decide) k) ?_
    exact rs5_4 a1 (5 : Int32) b2 b3 k2 k3 la2 ha2 la3 ha3 la4 ha4 la5 ha5 h0 n0 hx hZ hw hby hml hown hnm hret hlk bb kb T0 hh _ X0 e0 N0 Z0 K0 F_lows_a1 F_highs_a1 V_b2 V_b3 Vq (rfl) (r_la2) (r_ha2) (r_la3) (r_ha3) (r_la4) (r_ha4) (r_la5) (r_ha5) g_bb sz_bb ne_b2_bb ne_b3_bb ne_a1_bb 
  · refine own_go (fun _ k => XS.ifNo X0.here hx rfl (hb hby d5_20) rfl ((if0 _ _).trans (feq hb5).1) k) ?_
    refine own_go (fun _ k => XS.aloadN X0.here hx rfl (hb hby d5_23) rfl rfl k) ?_
    show own_Run p e below _ T0 (mkF m 24 #[.val (.ref a1), .val (.int 5), .val (.ref bb), .val (.int 5)] [(.ref bb)])
    refine own_go (fun _ k => XS.aloadN X0.here hx rfl (hb hby d5_24) rfl rfl k) ?_
    obtain ⟨T294, X294, e294, st294⟩ := getF X0 hx hZ hown (host := "") (Or.inl (W 14 rfl)) Via.refl e0 F_lows_a1 (g := (mkF m 25 #[.val (.ref a1), .val (.int 5), .val (.ref bb), .val (.int 5)] [(.ref a1), (.ref bb)])) rfl rfl (hb hby d5_25)
    refine own_go st294 ?_
    refine own_go (fun _ k => XS.iloadN X294.here hx rfl (hb hby d5_28) rfl k) ?_
    obtain ⟨cl295, Ar295, q295, S295, N295, H295, G295⟩ := id V_b2
    have hin295 : ¬ ((5 : Int32) < 0 ∨ cl295.slots.size ≤ ((5 : Int32)).toNatClampNeg) := inb_of S295 ⟨by decide, by decide⟩
    refine own_go (X294.iaload hx (j := (5 : Int32)) (v := (.int la5)) (by rw [e294]; exact Ar295.1) (State.isArrayOf_alike hZ.alike Ar295.2.1) Ar295.2.2 hin295 (H295.at hin295 rfl) (g := (mkF m 29 #[.val (.ref a1), .val (.int 5), .val (.ref bb), .val (.int 5)] [(.int 5), (.ref b2), (.ref bb)])) rfl rfl (hb hby d5_29)) ?_
    refine own_go (fun _ k => XS.iconst X294.here hx rfl (hb hby d5_30) k) ?_
    obtain ⟨cl296, Ar296, q296, S296, N296, H296, G296⟩ := id V_bb
    have hin296 : ¬ (la5 < 0 ∨ cl296.slots.size ≤ (la5).toNatClampNeg) := inb_of S296 (by rcases r_la5 with hq | hq | hq | hq | hq <;> rw [hq] <;> exact ⟨by decide, by decide⟩)
    obtain ⟨T297, h297, X297, e297, W297, st297⟩ := stZ X294 hx hZ e294 Ar296 (j := la5) hin296 (g := (mkF m 31 #[.val (.ref a1), .val (.int 5), .val (.ref bb), .val (.int 5)] [(.int 1), (.int la5), (.ref bb)])) rfl rfl (hb hby d5_31)
    refine own_go st297 ?_
    show own_Run p e below _ T297 (mkF m 32 #[.val (.ref a1), .val (.int 5), .val (.ref bb), .val (.int 5)] [])
    have Z0_c298 := Nat.le_trans Z0 (Keep.of_wr W297).1
    have K0_c298 := K0.wr W297 (Or.inr sz_bb)
    have F_lows_a1_c298 := F_lows_a1.other W297 (Or.inl ne_a1_bb)
    have F_highs_a1_c298 := F_highs_a1.other W297 (Or.inl ne_a1_bb)
    have V_b2_c298 := V_b2.other W297 ne_b2_bb
    have V_b3_c298 := V_b3.other W297 ne_b3_bb
    have Vz297 : Arv Z h297 bb kb .boolean (6 : Int32) [(.int (own_w la5 (0 : Int32) (own_g0_6 (5 : Int32) la2 ha2 la3 ha3 la4 ha4 la5 ha5))), (.int (own_w la5 (1 : Int32) (own_g1_6 (5 : Int32) la2 ha2 la3 ha3 la4 ha4 la5 ha5))), (.int (own_w la5 (2 : Int32) (own_g2_6 (5 : Int32) la2 ha2 la3 ha3 la4 ha4 la5 ha5))), (.int (own_w la5 (3 : Int32) (own_g3_6 (5 : Int32) la2 ha2 la3 ha3 la4 ha4 la5 ha5))), (.int (own_w la5 (4 : Int32) (own_g4_6 (5 : Int32) la2 ha2 la3 ha3 la4 ha4 la5 ha5))), (.int (own_g5_6 (5 : Int32) la2 ha2 la3 ha3 la4 ha4 la5 ha5))] (.int 0) := by
      have q := Arv.set Ar296 q296 S296 N296 H296 G296 (fits_nar_bool _) W297 _ rfl (by rcases r_la5 with hq | hq | hq | hq | hq <;> rw [hq] <;> exact Nat.le_of_ble_eq_true rfl)
      rw [own_set6_5 (own_g0_6 (5 : Int32) la2 ha2 la3 ha3 la4 ha4 la5 ha5) (own_g1_6 (5 : Int32) la2 ha2 la3 ha3 la4 ha4 la5 ha5) (own_g2_6 (5 : Int32) la2 ha2 la3 ha3 la4 ha4 la5 ha5) (own_g3_6 (5 : Int32) la2 ha2 la3 ha3 la4 ha4 la5 ha5) (own_g4_6 (5 : Int32) la2 ha2 la3 ha3 la4 ha4 la5 ha5) (own_g5_6 (5 : Int32) la2 ha2 la3 ha3 la4 ha4 la5 ha5) la5 r_la5] at q
      exact q
    have N297 := Fr.snoc X297 N0 g_bb
    refine own_go (fun _ k => XS.aloadN X297.here hx rfl (hb hby d5_32) rfl rfl k) ?_
    refine own_go (fun _ k => XS.aloadN X297.here hx rfl (hb hby d5_33) rfl rfl k) ?_
    obtain ⟨T299, X299, e299, st299⟩ := getF X297 hx hZ hown (host := "") (Or.inl (W 16 rfl)) Via.refl e297 F_highs_a1_c298 (g := (mkF m 34 #[.val (.ref a1), .val (.int 5), .val (.ref bb), .val (.int 5)] [(.ref a1), (.ref bb)])) rfl rfl (hb hby d5_34)
    refine own_go st299 ?_
    refine own_go (fun _ k => XS.iloadN X299.here hx rfl (hb hby d5_37) rfl k) ?_
    obtain ⟨cl300, Ar300, q300, S300, N300, H300, G300⟩ := id V_b3_c298
    have hin300 : ¬ ((5 : Int32) < 0 ∨ cl300.slots.size ≤ ((5 : Int32)).toNatClampNeg) := inb_of S300 ⟨by decide, by decide⟩
    refine own_go (X299.iaload hx (j := (5 : Int32)) (v := (.int ha5)) (by rw [e299]; exact Ar300.1) (State.isArrayOf_alike hZ.alike Ar300.2.1) Ar300.2.2 hin300 (H300.at hin300 rfl) (g := (mkF m 38 #[.val (.ref a1), .val (.int 5), .val (.ref bb), .val (.int 5)] [(.int 5), (.ref b3), (.ref bb)])) rfl rfl (hb hby d5_38)) ?_
    refine own_go (fun _ k => XS.iconst X299.here hx rfl (hb hby d5_39) k) ?_
    obtain ⟨cl301, Ar301, q301, S301, N301, H301, G301⟩ := id Vz297
    have hin301 : ¬ (ha5 < 0 ∨ cl301.slots.size ≤ (ha5).toNatClampNeg) := inb_of S301 (by rcases r_ha5 with hq | hq | hq | hq | hq <;> rw [hq] <;> exact ⟨by decide, by decide⟩)
    obtain ⟨T302, h302, X302, e302, W302, st302⟩ := stZ X299 hx hZ e299 Ar301 (j := ha5) hin301 (g := (mkF m 40 #[.val (.ref a1), .val (.int 5), .val (.ref bb), .val (.int 5)] [(.int 1), (.int ha5), (.ref bb)])) rfl rfl (hb hby d5_40)
    refine own_go st302 ?_
    show own_Run p e below _ T302 (mkF m 41 #[.val (.ref a1), .val (.int 5), .val (.ref bb), .val (.int 5)] [])
    have Z0_c303 := Nat.le_trans Z0_c298 (Keep.of_wr W302).1
    have K0_c303 := K0_c298.wr W302 (Or.inr sz_bb)
    have F_lows_a1_c303 := F_lows_a1_c298.other W302 (Or.inl ne_a1_bb)
    have F_highs_a1_c303 := F_highs_a1_c298.other W302 (Or.inl ne_a1_bb)
    have V_b2_c303 := V_b2_c298.other W302 ne_b2_bb
    have V_b3_c303 := V_b3_c298.other W302 ne_b3_bb
    have Vz302 : Arv Z h302 bb kb .boolean (6 : Int32) [(.int (own_w ha5 (0 : Int32) (own_w la5 (0 : Int32) (own_g0_6 (5 : Int32) la2 ha2 la3 ha3 la4 ha4 la5 ha5)))), (.int (own_w ha5 (1 : Int32) (own_w la5 (1 : Int32) (own_g1_6 (5 : Int32) la2 ha2 la3 ha3 la4 ha4 la5 ha5)))), (.int (own_w ha5 (2 : Int32) (own_w la5 (2 : Int32) (own_g2_6 (5 : Int32) la2 ha2 la3 ha3 la4 ha4 la5 ha5)))), (.int (own_w ha5 (3 : Int32) (own_w la5 (3 : Int32) (own_g3_6 (5 : Int32) la2 ha2 la3 ha3 la4 ha4 la5 ha5)))), (.int (own_w ha5 (4 : Int32) (own_w la5 (4 : Int32) (own_g4_6 (5 : Int32) la2 ha2 la3 ha3 la4 ha4 la5 ha5)))), (.int (own_g5_6 (5 : Int32) la2 ha2 la3 ha3 la4 ha4 la5 ha5))] (.int 0) := by
      have q := Arv.set Ar301 q301 S301 N301 H301 G301 (fits_nar_bool _) W302 _ rfl (by rcases r_ha5 with hq | hq | hq | hq | hq <;> rw [hq] <;> exact Nat.le_of_ble_eq_true rfl)
      rw [own_set6_5 (own_w la5 (0 : Int32) (own_g0_6 (5 : Int32) la2 ha2 la3 ha3 la4 ha4 la5 ha5)) (own_w la5 (1 : Int32) (own_g1_6 (5 : Int32) la2 ha2 la3 ha3 la4 ha4 la5 ha5)) (own_w la5 (2 : Int32) (own_g2_6 (5 : Int32) la2 ha2 la3 ha3 la4 ha4 la5 ha5)) (own_w la5 (3 : Int32) (own_g3_6 (5 : Int32) la2 ha2 la3 ha3 la4 ha4 la5 ha5)) (own_w la5 (4 : Int32) (own_g4_6 (5 : Int32) la2 ha2 la3 ha3 la4 ha4 la5 ha5)) (own_g5_6 (5 : Int32) la2 ha2 la3 ha3 la4 ha4 la5 ha5) ha5 r_ha5] at q
      exact q
    have N302 := Fr.snoc X302 N297 g_bb
    have Vq : Arv Z h302 bb kb .boolean (6 : Int32) [(.int (own_g0_5 (5 : Int32) la2 ha2 la3 ha3 la4 ha4 la5 ha5)), (.int (own_g1_5 (5 : Int32) la2 ha2 la3 ha3 la4 ha4 la5 ha5)), (.int (own_g2_5 (5 : Int32) la2 ha2 la3 ha3 la4 ha4 la5 ha5)), (.int (own_g3_5 (5 : Int32) la2 ha2 la3 ha3 la4 ha4 la5 ha5)), (.int (own_g4_5 (5 : Int32) la2 ha2 la3 ha3 la4 ha4 la5 ha5)), (.int (own_g5_6 (5 : Int32) la2 ha2 la3 ha3 la4 ha4 la5 ha5))] (.int 0) := by
      have q := Vz302
      rw [show (own_w ha5 (0 : Int32) (own_w la5 (0 : Int32) (own_g0_6 (5 : Int32) la2 ha2 la3 ha3 la4 ha4 la5 ha5))) = (own_g0_5 (5 : Int32) la2 ha2 la3 ha3 la4 ha4 la5 ha5) from own_stW _ _ _ _ _ hb5] at q
      rw [show (own_w ha5 (1 : Int32) (own_w la5 (1 : Int32) (own_g1_6 (5 : Int32) la2 ha2 la3 ha3 la4 ha4 la5 ha5))) = (own_g1_5 (5 : Int32) la2 ha2 la3 ha3 la4 ha4 la5 ha5) from own_stW _ _ _ _ _ hb5] at q
      rw [show (own_w ha5 (2 : Int32) (own_w la5 (2 : Int32) (own_g2_6 (5 : Int32) la2 ha2 la3 ha3 la4 ha4 la5 ha5))) = (own_g2_5 (5 : Int32) la2 ha2 la3 ha3 la4 ha4 la5 ha5) from own_stW _ _ _ _ _ hb5] at q
      rw [show (own_w ha5 (3 : Int32) (own_w la5 (3 : Int32) (own_g3_6 (5 : Int32) la2 ha2 la3 ha3 la4 ha4 la5 ha5))) = (own_g3_5 (5 : Int32) la2 ha2 la3 ha3 la4 ha4 la5 ha5) from own_stW _ _ _ _ _ hb5] at q
      rw [show (own_w ha5 (4 : Int32) (own_w la5 (4 : Int32) (own_g4_6 (5 : Int32) la2 ha2 la3 ha3 la4 ha4 la5 ha5))) = (own_g4_5 (5 : Int32) la2 ha2 la3 ha3 la4 ha4 la5 ha5) from own_stW _ _ _ _ _ hb5] at q
      exact q
    refine own_go (fun _ k => XS.iinc X302.here hx rfl (hb hby d5_41) rfl (l' := #[.val (.ref a1), .val (.int 5), .val (.ref bb), .val (.int ((5 : Int32) + (-1 : Int32)))]) rfl k) ?_
    show own_Run p e below _ T302 (mkF m 44 #[.val (.ref a1), .val (.int 5), .val (.ref bb), .val (.int ((5 : Int32) + (-1 : Int32)))] [])
    rw [show ((5 : Int32) + (-1 : Int32)) = (4 : Int32) by decide]
    refine own_go (fun _ k => XS.goto X302.here hx rfl (pc0 := 44) (pc' := 12) rfl (hb hby d5_44) (by decide) (by decide) k) ?_
    exact rs5_4 a1 (5 : Int32) b2 b3 k2 k3 la2 ha2 la3 ha3 la4 ha4 la5 ha5 h0 n0 hx hZ hw hby hml hown hnm hret hlk bb kb T302 h302 _ X302 e302 N302 Z0_c303 K0_c303 F_lows_a1_c303 F_highs_a1_c303 V_b2_c303 V_b3_c303 Vq (rfl) (r_la2) (r_ha2) (r_la3) (r_ha3) (r_la4) (r_ha4) (r_la5) (r_ha5) g_bb sz_bb ne_b2_bb ne_b3_bb ne_a1_bb 
theorem ef_5 (m : MethodId) (x0 : Addr) (x1 : Int32) : entryFrame m #[(.ref x0), (.int x1)] 4 = mkF m 0 #[.val (.ref x0), .val (.int x1), .unset, .unset] [] := by first | (simp [entryFrame, mkF, argsToLocals, Value.category]; done) | rfl
set_option maxRecDepth 65536 in
set_option maxHeartbeats 40000000 in
theorem rm5 (l : Launch) (Z : State) (a0 : Array Value) (hw : ∀ d ∈ tables_1, d.before a0 Z = true) (ws : List Jvm.Cond) (a1 : Addr) (p2 : Int32) (b2 : Addr) (b3 : Addr) (k2 : ClassId) (k3 : ClassId) (la2 : Int32) (ha2 : Int32) (la3 : Int32) (ha3 : Int32) (la4 : Int32) (ha4 : Int32) (la5 : Int32) (ha5 : Int32) (h0 : Heap) (n0 : Nat) (Z0 : n0 ≤ h0.size) (F_lows_a1 : Fld Z h0 a1 own_K0 "lows" "[I" (.ref b2)) (F_highs_a1 : Fld Z h0 a1 own_K0 "highs" "[I" (.ref b3)) (V_b2 : Arv Z h0 b2 k2 .int (1024 : Int32) [(.int 0), (.int 0), (.int la2), (.int la3), (.int la4), (.int la5)] (.int 0)) (V_b3 : Arv Z h0 b3 k3 .int (1024 : Int32) [(.int 0), (.int 0), (.int ha2), (.int ha3), (.int ha4), (.int ha5)] (.int 0)) (hroot : p2 = (0 : Int32) ∨ p2 = (1 : Int32) ∨ p2 = (2 : Int32) ∨ p2 = (3 : Int32) ∨ p2 = (4 : Int32) ∨ p2 = (5 : Int32)) (r_la2 : la2 = (0 : Int32) ∨ la2 = (1 : Int32)) (r_ha2 : ha2 = (0 : Int32) ∨ ha2 = (1 : Int32)) (r_la3 : la3 = (0 : Int32) ∨ la3 = (1 : Int32) ∨ la3 = (2 : Int32)) (r_ha3 : ha3 = (0 : Int32) ∨ ha3 = (1 : Int32) ∨ ha3 = (2 : Int32)) (r_la4 : la4 = (0 : Int32) ∨ la4 = (1 : Int32) ∨ la4 = (2 : Int32) ∨ la4 = (3 : Int32)) (r_ha4 : ha4 = (0 : Int32) ∨ ha4 = (1 : Int32) ∨ ha4 = (2 : Int32) ∨ ha4 = (3 : Int32)) (r_la5 : la5 = (0 : Int32) ∨ la5 = (1 : Int32) ∨ la5 = (2 : Int32) ∨ la5 = (3 : Int32) ∨ la5 = (4 : Int32)) (r_ha5 : ha5 = (0 : Int32) ∨ ha5 = (1 : Int32) ∨ ha5 = (2 : Int32) ∨ ha5 = (3 : Int32) ∨ ha5 = (4 : Int32)) :
    MetFree l (⟨own_K0, "reachable", "(I)[Z"⟩ : MethodName) (head1 (Jvm.Cond.code (⟨own_K0, "reachable", "(I)[Z"⟩ : MethodName) prog_20_method_9_code 4 (some (.array .boolean)) :: ws) ({ frames := 0, cells := 1, slots := 6, locals := 0 } : Room)) (fun a U => a = #[(.ref a1), (.int p2)] ∧ Z.Warmed39 U.vm ∧ U.heap = h0) (fun _ _ _ _ _ => True) (fun _ U o U' => ∃ v L, o = .returned v ∧ Q5 Z a1 p2 b2 b3 k2 k3 la2 ha2 la3 ha3 la4 ha4 la5 ha5 h0 n0 v U'.heap L ∧ FrameEnd U o U' L ({ frames := 0, cells := 1, slots := 6, locals := 0 } : Room).cells ({ frames := 0, cells := 1, slots := 6, locals := 0 } : Room).slots) := by
  refine MetFree.of_bodySF (plainFor_of_name pn_5) hisR ?_
  intro p e s m args below meth c s₁ Bd hml0 hP hK
  obtain ⟨rfl, hZ, hh⟩ := hP
  have hx := Bd.exec
  have hby := Bd.bytes
  have hml : c.maxLocals = 4 := hml0
  have hown : s.vm.findClass own_K0 = some m.cls := findClass_of_methodNamed Bd.named
  have hnm := (name_of_methodNamed Bd.named Bd.method).1
  have hret := Bd.returns
  have hlk : meth.locks = false := BodyLoose.notSynchronized Bd
  have X0 : Stand p l e ({ frames := 0, cells := 1, slots := 6, locals := 0 } : Room) s m #[(.ref a1), (.int p2)] below meth c s₁ [] 0 0 := Stand.of_body Bd
  have e0 : s₁.heap = h0 := by rw [← hh, Bd.state]; rfl
  have N0 := Fr.nil n0
  have W := fun (k : Nat) {d : Jvm.Cond} (h : tables_1[k]? = some d) => hw d (List.mem_of_getElem? h)
  have K0 : Keep h0 h0 [] := Keep.refl _ _
  refine own_start (ef_5 m a1 p2) ?_
  show own_Run p e below _ s₁ (mkF m 0 #[.val (.ref a1), .val (.int p2), .unset, .unset] [])
  rcases hroot with rfl | rfl | rfl | rfl | rfl | rfl
  · show own_Run p e below _ s₁ (mkF m 0 #[.val (.ref a1), .val (.int 0), .unset, .unset] [])
    refine own_go (fun _ k => XS.iloadN X0.here hx rfl (hb hby d5_0) rfl k) ?_
    refine own_go (fun _ k => XS.iconst X0.here hx rfl (hb hby d5_1) k) ?_
    refine own_go (fun _ k => XS.iadd X0.here hx rfl (hb hby d5_2) rfl k) ?_
    show own_Run p e below _ s₁ (mkF m 3 #[.val (.ref a1), .val (.int 0), .unset, .unset] [(.int ((0 : Int32) + (1 : Int32)))])
    rw [show ((0 : Int32) + (1 : Int32)) = (1 : Int32) by decide]
    obtain ⟨T304, h304, k304, X304, e304, E304, A304, st304⟩ := newP X0 hx hZ (W 37 rfl) e0 (g := (mkF m 3 #[.val (.ref a1), .val (.int 0), .unset, .unset] [(.int 1)])) rfl (hb hby d5_3) rfl (by decide) (cap := 1) (by decide) (by decide) (by decide) (by decide)
    refine own_go st304 ?_
    obtain ⟨b304, g304⟩ : ∃ z, z = h0.size := ⟨_, rfl⟩
    rw [← g304] at A304
    rw [← g304]
    have ne_a1_b304 : a1 ≠ b304 := Nat.ne_of_lt (Nat.lt_of_lt_of_eq F_lows_a1.lt g304.symm)
    have ne_b2_b304 : b2 ≠ b304 := Nat.ne_of_lt (Nat.lt_of_lt_of_eq V_b2.lt g304.symm)
    have ne_b3_b304 : b3 ≠ b304 := Nat.ne_of_lt (Nat.lt_of_lt_of_eq V_b3.lt g304.symm)
    have g_b304 : n0 ≤ b304 := Nat.le_trans Z0 (Nat.le_of_eq g304.symm)
    have sz_b304 : h0.size ≤ b304 := Nat.le_trans K0.1 (Nat.le_of_eq g304.symm)
    have Z0_c305 := Nat.le_trans Z0 E304.1
    have K0_c305 := K0.ext E304
    have F_lows_a1_c305 := F_lows_a1.ext E304
    have F_highs_a1_c305 := F_highs_a1.ext E304
    have V_b2_c305 := V_b2.ext E304
    have V_b3_c305 := V_b3.ext E304
    have V_b304 : Arv Z h304 b304 k304 .boolean (1 : Int32) [(.int 0)] (.int 0) := (Arv.new A304 (by decide)).pad (pad_rep [] (.int 0) 1)
    refine own_go (fun _ k => XS.astoreN X304.here hx rfl (hb hby d5_5) rfl rfl (l' := #[.val (.ref a1), .val (.int 0), .val (.ref b304), .unset]) rfl k) ?_
    refine own_go (fun _ k => XS.aloadN X304.here hx rfl (hb hby d5_6) rfl rfl k) ?_
    refine own_go (fun _ k => XS.iloadN X304.here hx rfl (hb hby d5_7) rfl k) ?_
    refine own_go (fun _ k => XS.iconst X304.here hx rfl (hb hby d5_8) k) ?_
    obtain ⟨cl306, Ar306, q306, S306, N306, H306, G306⟩ := id V_b304
    have hin306 : ¬ ((0 : Int32) < 0 ∨ cl306.slots.size ≤ ((0 : Int32)).toNatClampNeg) := inb_of S306 ⟨by decide, by decide⟩
    obtain ⟨T307, h307, X307, e307, W307, st307⟩ := stZ X304 hx hZ e304 Ar306 (j := (0 : Int32)) hin306 (g := (mkF m 9 #[.val (.ref a1), .val (.int 0), .val (.ref b304), .unset] [(.int 1), (.int 0), (.ref b304)])) rfl rfl (hb hby d5_9)
    refine own_go st307 ?_
    have Z0_c308 := Nat.le_trans Z0_c305 (Keep.of_wr W307).1
    have K0_c308 := K0_c305.wr W307 (Or.inr sz_b304)
    have F_lows_a1_c308 := F_lows_a1_c305.other W307 (Or.inl ne_a1_b304)
    have F_highs_a1_c308 := F_highs_a1_c305.other W307 (Or.inl ne_a1_b304)
    have V_b2_c308 := V_b2_c305.other W307 ne_b2_b304
    have V_b3_c308 := V_b3_c305.other W307 ne_b3_b304
    have V_b304_c307 : Arv Z h307 b304 k304 .boolean (1 : Int32) [(.int (nar .boolean (1 : Int32)))] (.int 0) := Arv.set Ar306 q306 S306 N306 H306 G306 (fits_nar_bool _) W307 0 rfl (Nat.le_of_ble_eq_true rfl)
    rw [show nar .boolean (1 : Int32) = (1 : Int32) by decide] at V_b304_c307
    have N307 := Fr.snoc X307 N0 g_b304
    refine own_go (fun _ k => XS.iloadN X307.here hx rfl (hb hby d5_10) rfl k) ?_
    refine own_go (fun _ k => XS.istoreN X307.here hx rfl (hb hby d5_11) rfl (l' := #[.val (.ref a1), .val (.int 0), .val (.ref b304), .val (.int 0)]) rfl k) ?_
    show own_Run p e below _ T307 (mkF m 12 #[.val (.ref a1), .val (.int 0), .val (.ref b304), .val (.int 0)] [])
    have Vq : Arv Z h307 b304 k304 .boolean (1 : Int32) [(.int (own_g0_2 (0 : Int32) la2 ha2 la3 ha3 la4 ha4 la5 ha5))] (.int 0) := by
      rw [own_v0_0_2 la2 ha2 la3 ha3 la4 ha4 la5 ha5]
      exact V_b304_c307
    refine own_go (fun _ k => XS.iloadN X307.here hx rfl (hb hby d5_12) rfl k) ?_
    refine own_go (fun _ k => XS.iconst X307.here hx rfl (hb hby d5_13) k) ?_
    refine own_go (fun _ k => XS.icmpYes X307.here hx rfl (pc0 := 14) (pc' := 47) rfl (hb hby d5_14) rfl (tlt (by decide : (0 : Int32) < (2 : Int32))).1 (by decide) (by decide) k) ?_
    refine own_go (fun _ k => XS.aloadN X307.here hx rfl (hb hby d5_47) rfl rfl k) ?_
    refine own_done (Q := fun v h L => Q5 Z a1 (0 : Int32) b2 b3 k2 k3 la2 ha2 la3 ha3 la4 ha4 la5 ha5 h0 n0 v h L) (v := (some (.ref b304))) X307 (fun h => by rw [hret] at h; cases h) hlk (fun fs hr => own_retA X307 hx hret rfl rfl rfl (hb hby d5_48) hr) ?_ (by decide) (by decide)
    show Q5 Z a1 (0 : Int32) b2 b3 k2 k3 la2 ha2 la3 ha3 la4 ha4 la5 ha5 h0 n0 _ T307.heap _
    rw [e307]
    exact ⟨b304, k304, (1 : Int32), [(.int (own_g0_2 (0 : Int32) la2 ha2 la3 ha3 la4 ha4 la5 ha5))], rfl, N307, K0_c308, Vq, sz_b304, Or.inl ⟨rfl, rfl, rfl⟩⟩
  · show own_Run p e below _ s₁ (mkF m 0 #[.val (.ref a1), .val (.int 1), .unset, .unset] [])
    refine own_go (fun _ k => XS.iloadN X0.here hx rfl (hb hby d5_0) rfl k) ?_
    refine own_go (fun _ k => XS.iconst X0.here hx rfl (hb hby d5_1) k) ?_
    refine own_go (fun _ k => XS.iadd X0.here hx rfl (hb hby d5_2) rfl k) ?_
    show own_Run p e below _ s₁ (mkF m 3 #[.val (.ref a1), .val (.int 1), .unset, .unset] [(.int ((1 : Int32) + (1 : Int32)))])
    rw [show ((1 : Int32) + (1 : Int32)) = (2 : Int32) by decide]
    obtain ⟨T309, h309, k309, X309, e309, E309, A309, st309⟩ := newP X0 hx hZ (W 37 rfl) e0 (g := (mkF m 3 #[.val (.ref a1), .val (.int 1), .unset, .unset] [(.int 2)])) rfl (hb hby d5_3) rfl (by decide) (cap := 2) (by decide) (by decide) (by decide) (by decide)
    refine own_go st309 ?_
    obtain ⟨b309, g309⟩ : ∃ z, z = h0.size := ⟨_, rfl⟩
    rw [← g309] at A309
    rw [← g309]
    have ne_a1_b309 : a1 ≠ b309 := Nat.ne_of_lt (Nat.lt_of_lt_of_eq F_lows_a1.lt g309.symm)
    have ne_b2_b309 : b2 ≠ b309 := Nat.ne_of_lt (Nat.lt_of_lt_of_eq V_b2.lt g309.symm)
    have ne_b3_b309 : b3 ≠ b309 := Nat.ne_of_lt (Nat.lt_of_lt_of_eq V_b3.lt g309.symm)
    have g_b309 : n0 ≤ b309 := Nat.le_trans Z0 (Nat.le_of_eq g309.symm)
    have sz_b309 : h0.size ≤ b309 := Nat.le_trans K0.1 (Nat.le_of_eq g309.symm)
    have Z0_c310 := Nat.le_trans Z0 E309.1
    have K0_c310 := K0.ext E309
    have F_lows_a1_c310 := F_lows_a1.ext E309
    have F_highs_a1_c310 := F_highs_a1.ext E309
    have V_b2_c310 := V_b2.ext E309
    have V_b3_c310 := V_b3.ext E309
    have V_b309 : Arv Z h309 b309 k309 .boolean (2 : Int32) [(.int 0), (.int 0)] (.int 0) := (Arv.new A309 (by decide)).pad (pad_rep [] (.int 0) 2)
    refine own_go (fun _ k => XS.astoreN X309.here hx rfl (hb hby d5_5) rfl rfl (l' := #[.val (.ref a1), .val (.int 1), .val (.ref b309), .unset]) rfl k) ?_
    refine own_go (fun _ k => XS.aloadN X309.here hx rfl (hb hby d5_6) rfl rfl k) ?_
    refine own_go (fun _ k => XS.iloadN X309.here hx rfl (hb hby d5_7) rfl k) ?_
    refine own_go (fun _ k => XS.iconst X309.here hx rfl (hb hby d5_8) k) ?_
    obtain ⟨cl311, Ar311, q311, S311, N311, H311, G311⟩ := id V_b309
    have hin311 : ¬ ((1 : Int32) < 0 ∨ cl311.slots.size ≤ ((1 : Int32)).toNatClampNeg) := inb_of S311 ⟨by decide, by decide⟩
    obtain ⟨T312, h312, X312, e312, W312, st312⟩ := stZ X309 hx hZ e309 Ar311 (j := (1 : Int32)) hin311 (g := (mkF m 9 #[.val (.ref a1), .val (.int 1), .val (.ref b309), .unset] [(.int 1), (.int 1), (.ref b309)])) rfl rfl (hb hby d5_9)
    refine own_go st312 ?_
    have Z0_c313 := Nat.le_trans Z0_c310 (Keep.of_wr W312).1
    have K0_c313 := K0_c310.wr W312 (Or.inr sz_b309)
    have F_lows_a1_c313 := F_lows_a1_c310.other W312 (Or.inl ne_a1_b309)
    have F_highs_a1_c313 := F_highs_a1_c310.other W312 (Or.inl ne_a1_b309)
    have V_b2_c313 := V_b2_c310.other W312 ne_b2_b309
    have V_b3_c313 := V_b3_c310.other W312 ne_b3_b309
    have V_b309_c312 : Arv Z h312 b309 k309 .boolean (2 : Int32) [(.int 0), (.int (nar .boolean (1 : Int32)))] (.int 0) := Arv.set Ar311 q311 S311 N311 H311 G311 (fits_nar_bool _) W312 1 rfl (Nat.le_of_ble_eq_true rfl)
    rw [show nar .boolean (1 : Int32) = (1 : Int32) by decide] at V_b309_c312
    have N312 := Fr.snoc X312 N0 g_b309
    refine own_go (fun _ k => XS.iloadN X312.here hx rfl (hb hby d5_10) rfl k) ?_
    refine own_go (fun _ k => XS.istoreN X312.here hx rfl (hb hby d5_11) rfl (l' := #[.val (.ref a1), .val (.int 1), .val (.ref b309), .val (.int 1)]) rfl k) ?_
    show own_Run p e below _ T312 (mkF m 12 #[.val (.ref a1), .val (.int 1), .val (.ref b309), .val (.int 1)] [])
    have Vq : Arv Z h312 b309 k309 .boolean (2 : Int32) [(.int (own_g0_2 (1 : Int32) la2 ha2 la3 ha3 la4 ha4 la5 ha5)), (.int (own_g1_2 (1 : Int32) la2 ha2 la3 ha3 la4 ha4 la5 ha5))] (.int 0) := by
      rw [own_v1_0_2 la2 ha2 la3 ha3 la4 ha4 la5 ha5]
      rw [own_v1_1_2 la2 ha2 la3 ha3 la4 ha4 la5 ha5]
      exact V_b309_c312
    refine own_go (fun _ k => XS.iloadN X312.here hx rfl (hb hby d5_12) rfl k) ?_
    refine own_go (fun _ k => XS.iconst X312.here hx rfl (hb hby d5_13) k) ?_
    refine own_go (fun _ k => XS.icmpYes X312.here hx rfl (pc0 := 14) (pc' := 47) rfl (hb hby d5_14) rfl (tlt (by decide : (1 : Int32) < (2 : Int32))).1 (by decide) (by decide) k) ?_
    refine own_go (fun _ k => XS.aloadN X312.here hx rfl (hb hby d5_47) rfl rfl k) ?_
    refine own_done (Q := fun v h L => Q5 Z a1 (1 : Int32) b2 b3 k2 k3 la2 ha2 la3 ha3 la4 ha4 la5 ha5 h0 n0 v h L) (v := (some (.ref b309))) X312 (fun h => by rw [hret] at h; cases h) hlk (fun fs hr => own_retA X312 hx hret rfl rfl rfl (hb hby d5_48) hr) ?_ (by decide) (by decide)
    show Q5 Z a1 (1 : Int32) b2 b3 k2 k3 la2 ha2 la3 ha3 la4 ha4 la5 ha5 h0 n0 _ T312.heap _
    rw [e312]
    exact ⟨b309, k309, (2 : Int32), [(.int (own_g0_2 (1 : Int32) la2 ha2 la3 ha3 la4 ha4 la5 ha5)), (.int (own_g1_2 (1 : Int32) la2 ha2 la3 ha3 la4 ha4 la5 ha5))], rfl, N312, K0_c313, Vq, sz_b309, Or.inr (Or.inl ⟨rfl, rfl, rfl⟩)⟩
  · show own_Run p e below _ s₁ (mkF m 0 #[.val (.ref a1), .val (.int 2), .unset, .unset] [])
    refine own_go (fun _ k => XS.iloadN X0.here hx rfl (hb hby d5_0) rfl k) ?_
    refine own_go (fun _ k => XS.iconst X0.here hx rfl (hb hby d5_1) k) ?_
    refine own_go (fun _ k => XS.iadd X0.here hx rfl (hb hby d5_2) rfl k) ?_
    show own_Run p e below _ s₁ (mkF m 3 #[.val (.ref a1), .val (.int 2), .unset, .unset] [(.int ((2 : Int32) + (1 : Int32)))])
    rw [show ((2 : Int32) + (1 : Int32)) = (3 : Int32) by decide]
    obtain ⟨T314, h314, k314, X314, e314, E314, A314, st314⟩ := newP X0 hx hZ (W 37 rfl) e0 (g := (mkF m 3 #[.val (.ref a1), .val (.int 2), .unset, .unset] [(.int 3)])) rfl (hb hby d5_3) rfl (by decide) (cap := 3) (by decide) (by decide) (by decide) (by decide)
    refine own_go st314 ?_
    obtain ⟨b314, g314⟩ : ∃ z, z = h0.size := ⟨_, rfl⟩
    rw [← g314] at A314
    rw [← g314]
    have ne_a1_b314 : a1 ≠ b314 := Nat.ne_of_lt (Nat.lt_of_lt_of_eq F_lows_a1.lt g314.symm)
    have ne_b2_b314 : b2 ≠ b314 := Nat.ne_of_lt (Nat.lt_of_lt_of_eq V_b2.lt g314.symm)
    have ne_b3_b314 : b3 ≠ b314 := Nat.ne_of_lt (Nat.lt_of_lt_of_eq V_b3.lt g314.symm)
    have g_b314 : n0 ≤ b314 := Nat.le_trans Z0 (Nat.le_of_eq g314.symm)
    have sz_b314 : h0.size ≤ b314 := Nat.le_trans K0.1 (Nat.le_of_eq g314.symm)
    have Z0_c315 := Nat.le_trans Z0 E314.1
    have K0_c315 := K0.ext E314
    have F_lows_a1_c315 := F_lows_a1.ext E314
    have F_highs_a1_c315 := F_highs_a1.ext E314
    have V_b2_c315 := V_b2.ext E314
    have V_b3_c315 := V_b3.ext E314
    have V_b314 : Arv Z h314 b314 k314 .boolean (3 : Int32) [(.int 0), (.int 0), (.int 0)] (.int 0) := (Arv.new A314 (by decide)).pad (pad_rep [] (.int 0) 3)
    refine own_go (fun _ k => XS.astoreN X314.here hx rfl (hb hby d5_5) rfl rfl (l' := #[.val (.ref a1), .val (.int 2), .val (.ref b314), .unset]) rfl k) ?_
    refine own_go (fun _ k => XS.aloadN X314.here hx rfl (hb hby d5_6) rfl rfl k) ?_
    refine own_go (fun _ k => XS.iloadN X314.here hx rfl (hb hby d5_7) rfl k) ?_
    refine own_go (fun _ k => XS.iconst X314.here hx rfl (hb hby d5_8) k) ?_
    obtain ⟨cl316, Ar316, q316, S316, N316, H316, G316⟩ := id V_b314
    have hin316 : ¬ ((2 : Int32) < 0 ∨ cl316.slots.size ≤ ((2 : Int32)).toNatClampNeg) := inb_of S316 ⟨by decide, by decide⟩
    obtain ⟨T317, h317, X317, e317, W317, st317⟩ := stZ X314 hx hZ e314 Ar316 (j := (2 : Int32)) hin316 (g := (mkF m 9 #[.val (.ref a1), .val (.int 2), .val (.ref b314), .unset] [(.int 1), (.int 2), (.ref b314)])) rfl rfl (hb hby d5_9)
    refine own_go st317 ?_
    have Z0_c318 := Nat.le_trans Z0_c315 (Keep.of_wr W317).1
    have K0_c318 := K0_c315.wr W317 (Or.inr sz_b314)
    have F_lows_a1_c318 := F_lows_a1_c315.other W317 (Or.inl ne_a1_b314)
    have F_highs_a1_c318 := F_highs_a1_c315.other W317 (Or.inl ne_a1_b314)
    have V_b2_c318 := V_b2_c315.other W317 ne_b2_b314
    have V_b3_c318 := V_b3_c315.other W317 ne_b3_b314
    have V_b314_c317 : Arv Z h317 b314 k314 .boolean (3 : Int32) [(.int 0), (.int 0), (.int (nar .boolean (1 : Int32)))] (.int 0) := Arv.set Ar316 q316 S316 N316 H316 G316 (fits_nar_bool _) W317 2 rfl (Nat.le_of_ble_eq_true rfl)
    rw [show nar .boolean (1 : Int32) = (1 : Int32) by decide] at V_b314_c317
    have N317 := Fr.snoc X317 N0 g_b314
    refine own_go (fun _ k => XS.iloadN X317.here hx rfl (hb hby d5_10) rfl k) ?_
    refine own_go (fun _ k => XS.istoreN X317.here hx rfl (hb hby d5_11) rfl (l' := #[.val (.ref a1), .val (.int 2), .val (.ref b314), .val (.int 2)]) rfl k) ?_
    show own_Run p e below _ T317 (mkF m 12 #[.val (.ref a1), .val (.int 2), .val (.ref b314), .val (.int 2)] [])
    have Vq : Arv Z h317 b314 k314 .boolean (3 : Int32) [(.int (own_g0_3 (2 : Int32) la2 ha2 la3 ha3 la4 ha4 la5 ha5)), (.int (own_g1_3 (2 : Int32) la2 ha2 la3 ha3 la4 ha4 la5 ha5)), (.int (own_g2_3 (2 : Int32) la2 ha2 la3 ha3 la4 ha4 la5 ha5))] (.int 0) := by
      rw [own_v2_0_3 la2 ha2 la3 ha3 la4 ha4 la5 ha5]
      rw [own_v2_1_3 la2 ha2 la3 ha3 la4 ha4 la5 ha5]
      rw [own_v2_2_3 la2 ha2 la3 ha3 la4 ha4 la5 ha5]
      exact V_b314_c317
    exact rs2_2 a1 (2 : Int32) b2 b3 k2 k3 la2 ha2 la3 ha3 la4 ha4 la5 ha5 h0 n0 hx hZ hw hby hml hown hnm hret hlk b314 k314 T317 h317 _ (own_mono X317 (by decide) (by decide)) e317 N317 Z0_c318 K0_c318 F_lows_a1_c318 F_highs_a1_c318 V_b2_c318 V_b3_c318 Vq (rfl) (r_la2) (r_ha2) (r_la3) (r_ha3) (r_la4) (r_ha4) (r_la5) (r_ha5) g_b314 sz_b314 ne_b2_b314 ne_b3_b314 ne_a1_b314 
  · show own_Run p e below _ s₁ (mkF m 0 #[.val (.ref a1), .val (.int 3), .unset, .unset] [])
    refine own_go (fun _ k => XS.iloadN X0.here hx rfl (hb hby d5_0) rfl k) ?_
    refine own_go (fun _ k => XS.iconst X0.here hx rfl (hb hby d5_1) k) ?_
    refine own_go (fun _ k => XS.iadd X0.here hx rfl (hb hby d5_2) rfl k) ?_
    show own_Run p e below _ s₁ (mkF m 3 #[.val (.ref a1), .val (.int 3), .unset, .unset] [(.int ((3 : Int32) + (1 : Int32)))])
    rw [show ((3 : Int32) + (1 : Int32)) = (4 : Int32) by decide]
    obtain ⟨T319, h319, k319, X319, e319, E319, A319, st319⟩ := newP X0 hx hZ (W 37 rfl) e0 (g := (mkF m 3 #[.val (.ref a1), .val (.int 3), .unset, .unset] [(.int 4)])) rfl (hb hby d5_3) rfl (by decide) (cap := 4) (by decide) (by decide) (by decide) (by decide)
    refine own_go st319 ?_
    obtain ⟨b319, g319⟩ : ∃ z, z = h0.size := ⟨_, rfl⟩
    rw [← g319] at A319
    rw [← g319]
    have ne_a1_b319 : a1 ≠ b319 := Nat.ne_of_lt (Nat.lt_of_lt_of_eq F_lows_a1.lt g319.symm)
    have ne_b2_b319 : b2 ≠ b319 := Nat.ne_of_lt (Nat.lt_of_lt_of_eq V_b2.lt g319.symm)
    have ne_b3_b319 : b3 ≠ b319 := Nat.ne_of_lt (Nat.lt_of_lt_of_eq V_b3.lt g319.symm)
    have g_b319 : n0 ≤ b319 := Nat.le_trans Z0 (Nat.le_of_eq g319.symm)
    have sz_b319 : h0.size ≤ b319 := Nat.le_trans K0.1 (Nat.le_of_eq g319.symm)
    have Z0_c320 := Nat.le_trans Z0 E319.1
    have K0_c320 := K0.ext E319
    have F_lows_a1_c320 := F_lows_a1.ext E319
    have F_highs_a1_c320 := F_highs_a1.ext E319
    have V_b2_c320 := V_b2.ext E319
    have V_b3_c320 := V_b3.ext E319
    have V_b319 : Arv Z h319 b319 k319 .boolean (4 : Int32) [(.int 0), (.int 0), (.int 0), (.int 0)] (.int 0) := (Arv.new A319 (by decide)).pad (pad_rep [] (.int 0) 4)
    refine own_go (fun _ k => XS.astoreN X319.here hx rfl (hb hby d5_5) rfl rfl (l' := #[.val (.ref a1), .val (.int 3), .val (.ref b319), .unset]) rfl k) ?_
    refine own_go (fun _ k => XS.aloadN X319.here hx rfl (hb hby d5_6) rfl rfl k) ?_
    refine own_go (fun _ k => XS.iloadN X319.here hx rfl (hb hby d5_7) rfl k) ?_
    refine own_go (fun _ k => XS.iconst X319.here hx rfl (hb hby d5_8) k) ?_
    obtain ⟨cl321, Ar321, q321, S321, N321, H321, G321⟩ := id V_b319
    have hin321 : ¬ ((3 : Int32) < 0 ∨ cl321.slots.size ≤ ((3 : Int32)).toNatClampNeg) := inb_of S321 ⟨by decide, by decide⟩
    obtain ⟨T322, h322, X322, e322, W322, st322⟩ := stZ X319 hx hZ e319 Ar321 (j := (3 : Int32)) hin321 (g := (mkF m 9 #[.val (.ref a1), .val (.int 3), .val (.ref b319), .unset] [(.int 1), (.int 3), (.ref b319)])) rfl rfl (hb hby d5_9)
    refine own_go st322 ?_
    have Z0_c323 := Nat.le_trans Z0_c320 (Keep.of_wr W322).1
    have K0_c323 := K0_c320.wr W322 (Or.inr sz_b319)
    have F_lows_a1_c323 := F_lows_a1_c320.other W322 (Or.inl ne_a1_b319)
    have F_highs_a1_c323 := F_highs_a1_c320.other W322 (Or.inl ne_a1_b319)
    have V_b2_c323 := V_b2_c320.other W322 ne_b2_b319
    have V_b3_c323 := V_b3_c320.other W322 ne_b3_b319
    have V_b319_c322 : Arv Z h322 b319 k319 .boolean (4 : Int32) [(.int 0), (.int 0), (.int 0), (.int (nar .boolean (1 : Int32)))] (.int 0) := Arv.set Ar321 q321 S321 N321 H321 G321 (fits_nar_bool _) W322 3 rfl (Nat.le_of_ble_eq_true rfl)
    rw [show nar .boolean (1 : Int32) = (1 : Int32) by decide] at V_b319_c322
    have N322 := Fr.snoc X322 N0 g_b319
    refine own_go (fun _ k => XS.iloadN X322.here hx rfl (hb hby d5_10) rfl k) ?_
    refine own_go (fun _ k => XS.istoreN X322.here hx rfl (hb hby d5_11) rfl (l' := #[.val (.ref a1), .val (.int 3), .val (.ref b319), .val (.int 3)]) rfl k) ?_
    show own_Run p e below _ T322 (mkF m 12 #[.val (.ref a1), .val (.int 3), .val (.ref b319), .val (.int 3)] [])
    have Vq : Arv Z h322 b319 k319 .boolean (4 : Int32) [(.int (own_g0_4 (3 : Int32) la2 ha2 la3 ha3 la4 ha4 la5 ha5)), (.int (own_g1_4 (3 : Int32) la2 ha2 la3 ha3 la4 ha4 la5 ha5)), (.int (own_g2_4 (3 : Int32) la2 ha2 la3 ha3 la4 ha4 la5 ha5)), (.int (own_g3_4 (3 : Int32) la2 ha2 la3 ha3 la4 ha4 la5 ha5))] (.int 0) := by
      rw [own_v3_0_4 la2 ha2 la3 ha3 la4 ha4 la5 ha5]
      rw [own_v3_1_4 la2 ha2 la3 ha3 la4 ha4 la5 ha5]
      rw [own_v3_2_4 la2 ha2 la3 ha3 la4 ha4 la5 ha5]
      rw [own_v3_3_4 la2 ha2 la3 ha3 la4 ha4 la5 ha5]
      exact V_b319_c322
    exact rs3_3 a1 (3 : Int32) b2 b3 k2 k3 la2 ha2 la3 ha3 la4 ha4 la5 ha5 h0 n0 hx hZ hw hby hml hown hnm hret hlk b319 k319 T322 h322 _ (own_mono X322 (by decide) (by decide)) e322 N322 Z0_c323 K0_c323 F_lows_a1_c323 F_highs_a1_c323 V_b2_c323 V_b3_c323 Vq (rfl) (r_la2) (r_ha2) (r_la3) (r_ha3) (r_la4) (r_ha4) (r_la5) (r_ha5) g_b319 sz_b319 ne_b2_b319 ne_b3_b319 ne_a1_b319 
  · show own_Run p e below _ s₁ (mkF m 0 #[.val (.ref a1), .val (.int 4), .unset, .unset] [])
    refine own_go (fun _ k => XS.iloadN X0.here hx rfl (hb hby d5_0) rfl k) ?_
    refine own_go (fun _ k => XS.iconst X0.here hx rfl (hb hby d5_1) k) ?_
    refine own_go (fun _ k => XS.iadd X0.here hx rfl (hb hby d5_2) rfl k) ?_
    show own_Run p e below _ s₁ (mkF m 3 #[.val (.ref a1), .val (.int 4), .unset, .unset] [(.int ((4 : Int32) + (1 : Int32)))])
    rw [show ((4 : Int32) + (1 : Int32)) = (5 : Int32) by decide]
    obtain ⟨T324, h324, k324, X324, e324, E324, A324, st324⟩ := newP X0 hx hZ (W 37 rfl) e0 (g := (mkF m 3 #[.val (.ref a1), .val (.int 4), .unset, .unset] [(.int 5)])) rfl (hb hby d5_3) rfl (by decide) (cap := 5) (by decide) (by decide) (by decide) (by decide)
    refine own_go st324 ?_
    obtain ⟨b324, g324⟩ : ∃ z, z = h0.size := ⟨_, rfl⟩
    rw [← g324] at A324
    rw [← g324]
    have ne_a1_b324 : a1 ≠ b324 := Nat.ne_of_lt (Nat.lt_of_lt_of_eq F_lows_a1.lt g324.symm)
    have ne_b2_b324 : b2 ≠ b324 := Nat.ne_of_lt (Nat.lt_of_lt_of_eq V_b2.lt g324.symm)
    have ne_b3_b324 : b3 ≠ b324 := Nat.ne_of_lt (Nat.lt_of_lt_of_eq V_b3.lt g324.symm)
    have g_b324 : n0 ≤ b324 := Nat.le_trans Z0 (Nat.le_of_eq g324.symm)
    have sz_b324 : h0.size ≤ b324 := Nat.le_trans K0.1 (Nat.le_of_eq g324.symm)
    have Z0_c325 := Nat.le_trans Z0 E324.1
    have K0_c325 := K0.ext E324
    have F_lows_a1_c325 := F_lows_a1.ext E324
    have F_highs_a1_c325 := F_highs_a1.ext E324
    have V_b2_c325 := V_b2.ext E324
    have V_b3_c325 := V_b3.ext E324
    have V_b324 : Arv Z h324 b324 k324 .boolean (5 : Int32) [(.int 0), (.int 0), (.int 0), (.int 0), (.int 0)] (.int 0) := (Arv.new A324 (by decide)).pad (pad_rep [] (.int 0) 5)
    refine own_go (fun _ k => XS.astoreN X324.here hx rfl (hb hby d5_5) rfl rfl (l' := #[.val (.ref a1), .val (.int 4), .val (.ref b324), .unset]) rfl k) ?_
    refine own_go (fun _ k => XS.aloadN X324.here hx rfl (hb hby d5_6) rfl rfl k) ?_
    refine own_go (fun _ k => XS.iloadN X324.here hx rfl (hb hby d5_7) rfl k) ?_
    refine own_go (fun _ k => XS.iconst X324.here hx rfl (hb hby d5_8) k) ?_
    obtain ⟨cl326, Ar326, q326, S326, N326, H326, G326⟩ := id V_b324
    have hin326 : ¬ ((4 : Int32) < 0 ∨ cl326.slots.size ≤ ((4 : Int32)).toNatClampNeg) := inb_of S326 ⟨by decide, by decide⟩
    obtain ⟨T327, h327, X327, e327, W327, st327⟩ := stZ X324 hx hZ e324 Ar326 (j := (4 : Int32)) hin326 (g := (mkF m 9 #[.val (.ref a1), .val (.int 4), .val (.ref b324), .unset] [(.int 1), (.int 4), (.ref b324)])) rfl rfl (hb hby d5_9)
    refine own_go st327 ?_
    have Z0_c328 := Nat.le_trans Z0_c325 (Keep.of_wr W327).1
    have K0_c328 := K0_c325.wr W327 (Or.inr sz_b324)
    have F_lows_a1_c328 := F_lows_a1_c325.other W327 (Or.inl ne_a1_b324)
    have F_highs_a1_c328 := F_highs_a1_c325.other W327 (Or.inl ne_a1_b324)
    have V_b2_c328 := V_b2_c325.other W327 ne_b2_b324
    have V_b3_c328 := V_b3_c325.other W327 ne_b3_b324
    have V_b324_c327 : Arv Z h327 b324 k324 .boolean (5 : Int32) [(.int 0), (.int 0), (.int 0), (.int 0), (.int (nar .boolean (1 : Int32)))] (.int 0) := Arv.set Ar326 q326 S326 N326 H326 G326 (fits_nar_bool _) W327 4 rfl (Nat.le_of_ble_eq_true rfl)
    rw [show nar .boolean (1 : Int32) = (1 : Int32) by decide] at V_b324_c327
    have N327 := Fr.snoc X327 N0 g_b324
    refine own_go (fun _ k => XS.iloadN X327.here hx rfl (hb hby d5_10) rfl k) ?_
    refine own_go (fun _ k => XS.istoreN X327.here hx rfl (hb hby d5_11) rfl (l' := #[.val (.ref a1), .val (.int 4), .val (.ref b324), .val (.int 4)]) rfl k) ?_
    show own_Run p e below _ T327 (mkF m 12 #[.val (.ref a1), .val (.int 4), .val (.ref b324), .val (.int 4)] [])
    have Vq : Arv Z h327 b324 k324 .boolean (5 : Int32) [(.int (own_g0_5 (4 : Int32) la2 ha2 la3 ha3 la4 ha4 la5 ha5)), (.int (own_g1_5 (4 : Int32) la2 ha2 la3 ha3 la4 ha4 la5 ha5)), (.int (own_g2_5 (4 : Int32) la2 ha2 la3 ha3 la4 ha4 la5 ha5)), (.int (own_g3_5 (4 : Int32) la2 ha2 la3 ha3 la4 ha4 la5 ha5)), (.int (own_g4_5 (4 : Int32) la2 ha2 la3 ha3 la4 ha4 la5 ha5))] (.int 0) := by
      rw [own_v4_0_5 la2 ha2 la3 ha3 la4 ha4 la5 ha5]
      rw [own_v4_1_5 la2 ha2 la3 ha3 la4 ha4 la5 ha5]
      rw [own_v4_2_5 la2 ha2 la3 ha3 la4 ha4 la5 ha5]
      rw [own_v4_3_5 la2 ha2 la3 ha3 la4 ha4 la5 ha5]
      rw [own_v4_4_5 la2 ha2 la3 ha3 la4 ha4 la5 ha5]
      exact V_b324_c327
    exact rs4_4 a1 (4 : Int32) b2 b3 k2 k3 la2 ha2 la3 ha3 la4 ha4 la5 ha5 h0 n0 hx hZ hw hby hml hown hnm hret hlk b324 k324 T327 h327 _ (own_mono X327 (by decide) (by decide)) e327 N327 Z0_c328 K0_c328 F_lows_a1_c328 F_highs_a1_c328 V_b2_c328 V_b3_c328 Vq (rfl) (r_la2) (r_ha2) (r_la3) (r_ha3) (r_la4) (r_ha4) (r_la5) (r_ha5) g_b324 sz_b324 ne_b2_b324 ne_b3_b324 ne_a1_b324 
  · show own_Run p e below _ s₁ (mkF m 0 #[.val (.ref a1), .val (.int 5), .unset, .unset] [])
    refine own_go (fun _ k => XS.iloadN X0.here hx rfl (hb hby d5_0) rfl k) ?_
    refine own_go (fun _ k => XS.iconst X0.here hx rfl (hb hby d5_1) k) ?_
    refine own_go (fun _ k => XS.iadd X0.here hx rfl (hb hby d5_2) rfl k) ?_
    show own_Run p e below _ s₁ (mkF m 3 #[.val (.ref a1), .val (.int 5), .unset, .unset] [(.int ((5 : Int32) + (1 : Int32)))])
    rw [show ((5 : Int32) + (1 : Int32)) = (6 : Int32) by decide]
    obtain ⟨T329, h329, k329, X329, e329, E329, A329, st329⟩ := newP X0 hx hZ (W 37 rfl) e0 (g := (mkF m 3 #[.val (.ref a1), .val (.int 5), .unset, .unset] [(.int 6)])) rfl (hb hby d5_3) rfl (by decide) (cap := 6) (by decide) (by decide) (by decide) (by decide)
    refine own_go st329 ?_
    obtain ⟨b329, g329⟩ : ∃ z, z = h0.size := ⟨_, rfl⟩
    rw [← g329] at A329
    rw [← g329]
    have ne_a1_b329 : a1 ≠ b329 := Nat.ne_of_lt (Nat.lt_of_lt_of_eq F_lows_a1.lt g329.symm)
    have ne_b2_b329 : b2 ≠ b329 := Nat.ne_of_lt (Nat.lt_of_lt_of_eq V_b2.lt g329.symm)
    have ne_b3_b329 : b3 ≠ b329 := Nat.ne_of_lt (Nat.lt_of_lt_of_eq V_b3.lt g329.symm)
    have g_b329 : n0 ≤ b329 := Nat.le_trans Z0 (Nat.le_of_eq g329.symm)
    have sz_b329 : h0.size ≤ b329 := Nat.le_trans K0.1 (Nat.le_of_eq g329.symm)
    have Z0_c330 := Nat.le_trans Z0 E329.1
    have K0_c330 := K0.ext E329
    have F_lows_a1_c330 := F_lows_a1.ext E329
    have F_highs_a1_c330 := F_highs_a1.ext E329
    have V_b2_c330 := V_b2.ext E329
    have V_b3_c330 := V_b3.ext E329
    have V_b329 : Arv Z h329 b329 k329 .boolean (6 : Int32) [(.int 0), (.int 0), (.int 0), (.int 0), (.int 0), (.int 0)] (.int 0) := (Arv.new A329 (by decide)).pad (pad_rep [] (.int 0) 6)
    refine own_go (fun _ k => XS.astoreN X329.here hx rfl (hb hby d5_5) rfl rfl (l' := #[.val (.ref a1), .val (.int 5), .val (.ref b329), .unset]) rfl k) ?_
    refine own_go (fun _ k => XS.aloadN X329.here hx rfl (hb hby d5_6) rfl rfl k) ?_
    refine own_go (fun _ k => XS.iloadN X329.here hx rfl (hb hby d5_7) rfl k) ?_
    refine own_go (fun _ k => XS.iconst X329.here hx rfl (hb hby d5_8) k) ?_
    obtain ⟨cl331, Ar331, q331, S331, N331, H331, G331⟩ := id V_b329
    have hin331 : ¬ ((5 : Int32) < 0 ∨ cl331.slots.size ≤ ((5 : Int32)).toNatClampNeg) := inb_of S331 ⟨by decide, by decide⟩
    obtain ⟨T332, h332, X332, e332, W332, st332⟩ := stZ X329 hx hZ e329 Ar331 (j := (5 : Int32)) hin331 (g := (mkF m 9 #[.val (.ref a1), .val (.int 5), .val (.ref b329), .unset] [(.int 1), (.int 5), (.ref b329)])) rfl rfl (hb hby d5_9)
    refine own_go st332 ?_
    have Z0_c333 := Nat.le_trans Z0_c330 (Keep.of_wr W332).1
    have K0_c333 := K0_c330.wr W332 (Or.inr sz_b329)
    have F_lows_a1_c333 := F_lows_a1_c330.other W332 (Or.inl ne_a1_b329)
    have F_highs_a1_c333 := F_highs_a1_c330.other W332 (Or.inl ne_a1_b329)
    have V_b2_c333 := V_b2_c330.other W332 ne_b2_b329
    have V_b3_c333 := V_b3_c330.other W332 ne_b3_b329
    have V_b329_c332 : Arv Z h332 b329 k329 .boolean (6 : Int32) [(.int 0), (.int 0), (.int 0), (.int 0), (.int 0), (.int (nar .boolean (1 : Int32)))] (.int 0) := Arv.set Ar331 q331 S331 N331 H331 G331 (fits_nar_bool _) W332 5 rfl (Nat.le_of_ble_eq_true rfl)
    rw [show nar .boolean (1 : Int32) = (1 : Int32) by decide] at V_b329_c332
    have N332 := Fr.snoc X332 N0 g_b329
    refine own_go (fun _ k => XS.iloadN X332.here hx rfl (hb hby d5_10) rfl k) ?_
    refine own_go (fun _ k => XS.istoreN X332.here hx rfl (hb hby d5_11) rfl (l' := #[.val (.ref a1), .val (.int 5), .val (.ref b329), .val (.int 5)]) rfl k) ?_
    show own_Run p e below _ T332 (mkF m 12 #[.val (.ref a1), .val (.int 5), .val (.ref b329), .val (.int 5)] [])
    have Vq : Arv Z h332 b329 k329 .boolean (6 : Int32) [(.int (own_g0_6 (5 : Int32) la2 ha2 la3 ha3 la4 ha4 la5 ha5)), (.int (own_g1_6 (5 : Int32) la2 ha2 la3 ha3 la4 ha4 la5 ha5)), (.int (own_g2_6 (5 : Int32) la2 ha2 la3 ha3 la4 ha4 la5 ha5)), (.int (own_g3_6 (5 : Int32) la2 ha2 la3 ha3 la4 ha4 la5 ha5)), (.int (own_g4_6 (5 : Int32) la2 ha2 la3 ha3 la4 ha4 la5 ha5)), (.int (own_g5_6 (5 : Int32) la2 ha2 la3 ha3 la4 ha4 la5 ha5))] (.int 0) := by
      rw [own_v5_0_6 la2 ha2 la3 ha3 la4 ha4 la5 ha5]
      rw [own_v5_1_6 la2 ha2 la3 ha3 la4 ha4 la5 ha5]
      rw [own_v5_2_6 la2 ha2 la3 ha3 la4 ha4 la5 ha5]
      rw [own_v5_3_6 la2 ha2 la3 ha3 la4 ha4 la5 ha5]
      rw [own_v5_4_6 la2 ha2 la3 ha3 la4 ha4 la5 ha5]
      rw [own_v5_5_6 la2 ha2 la3 ha3 la4 ha4 la5 ha5]
      exact V_b329_c332
    exact rs5_5 a1 (5 : Int32) b2 b3 k2 k3 la2 ha2 la3 ha3 la4 ha4 la5 ha5 h0 n0 hx hZ hw hby hml hown hnm hret hlk b329 k329 T332 h332 _ X332 e332 N332 Z0_c333 K0_c333 F_lows_a1_c333 F_highs_a1_c333 V_b2_c333 V_b3_c333 Vq (rfl) (r_la2) (r_ha2) (r_la3) (r_ha3) (r_la4) (r_ha4) (r_la5) (r_ha5) g_b329 sz_b329 ne_b2_b329 ne_b3_b329 ne_a1_b329 
theorem d6_0 : decode method_4_code 0 = .ok (.iload_n 1, 1) := by decide +kernel
theorem d6_1 : decode method_4_code 1 = .ok (.aload_n 0, 1) := by decide +kernel
theorem d6_2 : decode method_4_code 2 = .ok (.arraylength, 1) := by decide +kernel
theorem d6_3 : decode method_4_code 3 = .ok (.if_icmp .ge 13, 3) := by decide +kernel
theorem d6_6 : decode method_4_code 6 = .ok (.aload_n 0, 1) := by decide +kernel
theorem d6_7 : decode method_4_code 7 = .ok (.iload_n 1, 1) := by decide +kernel
theorem d6_8 : decode method_4_code 8 = .ok (.baload, 1) := by decide +kernel
theorem d6_9 : decode method_4_code 9 = .ok (.ifCond .eq 7, 3) := by decide +kernel
theorem d6_12 : decode method_4_code 12 = .ok (.iconst 1, 1) := by decide +kernel
theorem d6_13 : decode method_4_code 13 = .ok (.goto 4, 3) := by decide +kernel
theorem d6_16 : decode method_4_code 16 = .ok (.iconst 0, 1) := by decide +kernel
theorem d6_17 : decode method_4_code 17 = .ok (.ireturn, 1) := by decide +kernel
theorem pn_6 : plainName "com/example/error_to_hazard/errortohazard/analysis/NodeTableReachablePinLaw" = true := by first | (simp [plainName, overriddenIn]; done) | decide +kernel
theorem ef_6 (m : MethodId) (x0 : Addr) (x1 : Int32) : entryFrame m #[(.ref x0), (.int x1)] 2 = mkF m 0 #[.val (.ref x0), .val (.int x1)] [] := by first | (simp [entryFrame, mkF, argsToLocals, Value.category]; done) | rfl
def Q6in (Z : State) (a1 : Addr) (p2 : Int32) (k1 : ClassId) (n : Int32) (vs : List Value) (dv : Value) (r : Int32) (h0 : Heap) (n0 : Nat) (v : Option Value) (h : Heap) (L : List Loc) : Prop := v = some (.int r) ∧ Fr n0 L ∧ h = h0
set_option maxRecDepth 65536 in
set_option maxHeartbeats 40000000 in
theorem rm6in (l : Launch) (Z : State) (a0 : Array Value) (hw : ∀ d ∈ tables_1, d.before a0 Z = true) (ws : List Jvm.Cond) (a1 : Addr) (p2 : Int32) (k1 : ClassId) (n : Int32) (vs : List Value) (dv : Value) (r : Int32) (h0 : Heap) (n0 : Nat) (Z0 : n0 ≤ h0.size) (V_a1 : Arv Z h0 a1 k1 .boolean n vs dv) (hin : ¬ p2 < 0 ∧ p2 < n) (hat : vs.getD p2.toNatClampNeg dv = (.int r)) (h01 : r = (0 : Int32) ∨ r = (1 : Int32)) :
    MetFree l (⟨own_K1, "at", "([ZI)Z"⟩ : MethodName) (head1 (Jvm.Cond.code (⟨own_K1, "at", "([ZI)Z"⟩ : MethodName) method_4_code 2 (some .boolean) :: ws) ({ frames := 0, cells := 0, slots := 0, locals := 0 } : Room)) (fun a U => a = #[(.ref a1), (.int p2)] ∧ Z.Warmed39 U.vm ∧ U.heap = h0) (fun _ _ _ _ _ => True) (fun _ U o U' => ∃ v L, o = .returned v ∧ Q6in Z a1 p2 k1 n vs dv r h0 n0 v U'.heap L ∧ FrameEnd U o U' L ({ frames := 0, cells := 0, slots := 0, locals := 0 } : Room).cells ({ frames := 0, cells := 0, slots := 0, locals := 0 } : Room).slots) := by
  refine MetFree.of_bodySF (plainFor_of_name pn_6) hisR ?_
  intro p e s m args below meth c s₁ Bd hml0 hP hK
  obtain ⟨rfl, hZ, hh⟩ := hP
  have hx := Bd.exec
  have hby := Bd.bytes
  have hml : c.maxLocals = 2 := hml0
  have hown : s.vm.findClass own_K1 = some m.cls := findClass_of_methodNamed Bd.named
  have hnm := (name_of_methodNamed Bd.named Bd.method).1
  have hret := Bd.returns
  have hlk : meth.locks = false := BodyLoose.notSynchronized Bd
  have X0 : Stand p l e ({ frames := 0, cells := 0, slots := 0, locals := 0 } : Room) s m #[(.ref a1), (.int p2)] below meth c s₁ [] 0 0 := Stand.of_body Bd
  have e0 : s₁.heap = h0 := by rw [← hh, Bd.state]; rfl
  have N0 := Fr.nil n0
  have W := fun (k : Nat) {d : Jvm.Cond} (h : tables_1[k]? = some d) => hw d (List.mem_of_getElem? h)
  have K0 : Keep h0 h0 [] := Keep.refl _ _
  refine own_start (ef_6 m a1 p2) ?_
  show own_Run p e below _ s₁ (mkF m 0 #[.val (.ref a1), .val (.int p2)] [])
  rcases h01 with rfl | rfl
  · show own_Run p e below _ s₁ (mkF m 0 #[.val (.ref a1), .val (.int p2)] [])
    refine own_go (fun _ k => XS.iloadN X0.here hx rfl (hb hby d6_0) rfl k) ?_
    refine own_go (fun _ k => XS.aloadN X0.here hx rfl (hb hby d6_1) rfl rfl k) ?_
    obtain ⟨cl334, Ar334, q334, S334, N334, H334, G334⟩ := id V_a1
    refine own_go (X0.arraylength hx (by rw [e0]; exact Ar334.1) (State.isArrayOf_alike hZ.alike Ar334.2.1) (g := (mkF m 2 #[.val (.ref a1), .val (.int p2)] [(.ref a1), (.int p2)])) rfl rfl (hb hby d6_2)) ?_
    rw [len_of S334 N334]
    refine own_go (fun _ k => XS.icmpNo X0.here hx rfl (hb hby d6_3) rfl (tlt (hin.2 : p2 < n)).2.1 k) ?_
    refine own_go (fun _ k => XS.aloadN X0.here hx rfl (hb hby d6_6) rfl rfl k) ?_
    refine own_go (fun _ k => XS.iloadN X0.here hx rfl (hb hby d6_7) rfl k) ?_
    obtain ⟨cl335, Ar335, q335, S335, N335, H335, G335⟩ := id V_a1
    have hin335 : ¬ (p2 < 0 ∨ cl335.slots.size ≤ (p2).toNatClampNeg) := inb_of S335 (hin)
    refine own_go (X0.baloadBooleans hx (j := p2) (v := (.int 0)) (by rw [e0]; exact Ar335.1) (State.isArrayOf_alike hZ.alike Ar335.2.1) Ar335.2.2 hin335 (H335.at hin335 (hat)) (g := (mkF m 8 #[.val (.ref a1), .val (.int p2)] [(.int p2), (.ref a1)])) rfl rfl (hb hby d6_8)) ?_
    refine own_go (fun _ k => XS.ifYes X0.here hx rfl (pc0 := 9) (pc' := 16) rfl (hb hby d6_9) rfl ((if0 _ _).trans (teq (by decide : (0 : Int32) = (0 : Int32))).1) (by decide) (by decide) k) ?_
    show own_Run p e below _ s₁ (mkF m 16 #[.val (.ref a1), .val (.int p2)] [])
    refine own_go (fun _ k => XS.iconst X0.here hx rfl (hb hby d6_16) k) ?_
    refine own_done (Q := fun v h L => Q6in Z a1 p2 k1 n vs dv (0 : Int32) h0 n0 v h L) (v := (some (.int 0))) X0 (fun h => by rw [hret] at h; cases h) hlk (fun fs hr => retN X0 hx (t := .boolean) hret (by simp) (hb hby d6_17) hr) ?_ (by decide) (by decide)
    show Q6in Z a1 p2 k1 n vs dv (0 : Int32) h0 n0 _ s₁.heap _
    rw [e0]
    exact ⟨rfl, N0, rfl⟩
  · show own_Run p e below _ s₁ (mkF m 0 #[.val (.ref a1), .val (.int p2)] [])
    refine own_go (fun _ k => XS.iloadN X0.here hx rfl (hb hby d6_0) rfl k) ?_
    refine own_go (fun _ k => XS.aloadN X0.here hx rfl (hb hby d6_1) rfl rfl k) ?_
    obtain ⟨cl336, Ar336, q336, S336, N336, H336, G336⟩ := id V_a1
    refine own_go (X0.arraylength hx (by rw [e0]; exact Ar336.1) (State.isArrayOf_alike hZ.alike Ar336.2.1) (g := (mkF m 2 #[.val (.ref a1), .val (.int p2)] [(.ref a1), (.int p2)])) rfl rfl (hb hby d6_2)) ?_
    rw [len_of S336 N336]
    refine own_go (fun _ k => XS.icmpNo X0.here hx rfl (hb hby d6_3) rfl (tlt (hin.2 : p2 < n)).2.1 k) ?_
    refine own_go (fun _ k => XS.aloadN X0.here hx rfl (hb hby d6_6) rfl rfl k) ?_
    refine own_go (fun _ k => XS.iloadN X0.here hx rfl (hb hby d6_7) rfl k) ?_
    obtain ⟨cl337, Ar337, q337, S337, N337, H337, G337⟩ := id V_a1
    have hin337 : ¬ (p2 < 0 ∨ cl337.slots.size ≤ (p2).toNatClampNeg) := inb_of S337 (hin)
    refine own_go (X0.baloadBooleans hx (j := p2) (v := (.int 1)) (by rw [e0]; exact Ar337.1) (State.isArrayOf_alike hZ.alike Ar337.2.1) Ar337.2.2 hin337 (H337.at hin337 (hat)) (g := (mkF m 8 #[.val (.ref a1), .val (.int p2)] [(.int p2), (.ref a1)])) rfl rfl (hb hby d6_8)) ?_
    refine own_go (fun _ k => XS.ifNo X0.here hx rfl (hb hby d6_9) rfl ((if0 _ _).trans (feq (by decide : ¬ ((1 : Int32) = (0 : Int32)))).1) k) ?_
    show own_Run p e below _ s₁ (mkF m 12 #[.val (.ref a1), .val (.int p2)] [])
    refine own_go (fun _ k => XS.iconst X0.here hx rfl (hb hby d6_12) k) ?_
    refine own_go (fun _ k => XS.goto X0.here hx rfl (pc0 := 13) (pc' := 17) rfl (hb hby d6_13) (by decide) (by decide) k) ?_
    refine own_done (Q := fun v h L => Q6in Z a1 p2 k1 n vs dv (1 : Int32) h0 n0 v h L) (v := (some (.int 1))) X0 (fun h => by rw [hret] at h; cases h) hlk (fun fs hr => retN X0 hx (t := .boolean) hret (by simp) (hb hby d6_17) hr) ?_ (by decide) (by decide)
    show Q6in Z a1 p2 k1 n vs dv (1 : Int32) h0 n0 _ s₁.heap _
    rw [e0]
    exact ⟨rfl, N0, rfl⟩
def Q6out (Z : State) (a1 : Addr) (p2 : Int32) (k1 : ClassId) (n : Int32) (vs : List Value) (dv : Value) (h0 : Heap) (n0 : Nat) (v : Option Value) (h : Heap) (L : List Loc) : Prop := v = some (.int 0) ∧ Fr n0 L ∧ h = h0
set_option maxRecDepth 65536 in
set_option maxHeartbeats 40000000 in
theorem rm6out (l : Launch) (Z : State) (a0 : Array Value) (hw : ∀ d ∈ tables_1, d.before a0 Z = true) (ws : List Jvm.Cond) (a1 : Addr) (p2 : Int32) (k1 : ClassId) (n : Int32) (vs : List Value) (dv : Value) (h0 : Heap) (n0 : Nat) (Z0 : n0 ≤ h0.size) (V_a1 : Arv Z h0 a1 k1 .boolean n vs dv) (hout : ¬ (p2 < n)) :
    MetFree l (⟨own_K1, "at", "([ZI)Z"⟩ : MethodName) (head1 (Jvm.Cond.code (⟨own_K1, "at", "([ZI)Z"⟩ : MethodName) method_4_code 2 (some .boolean) :: ws) ({ frames := 0, cells := 0, slots := 0, locals := 0 } : Room)) (fun a U => a = #[(.ref a1), (.int p2)] ∧ Z.Warmed39 U.vm ∧ U.heap = h0) (fun _ _ _ _ _ => True) (fun _ U o U' => ∃ v L, o = .returned v ∧ Q6out Z a1 p2 k1 n vs dv h0 n0 v U'.heap L ∧ FrameEnd U o U' L ({ frames := 0, cells := 0, slots := 0, locals := 0 } : Room).cells ({ frames := 0, cells := 0, slots := 0, locals := 0 } : Room).slots) := by
  refine MetFree.of_bodySF (plainFor_of_name pn_6) hisR ?_
  intro p e s m args below meth c s₁ Bd hml0 hP hK
  obtain ⟨rfl, hZ, hh⟩ := hP
  have hx := Bd.exec
  have hby := Bd.bytes
  have hml : c.maxLocals = 2 := hml0
  have hown : s.vm.findClass own_K1 = some m.cls := findClass_of_methodNamed Bd.named
  have hnm := (name_of_methodNamed Bd.named Bd.method).1
  have hret := Bd.returns
  have hlk : meth.locks = false := BodyLoose.notSynchronized Bd
  have X0 : Stand p l e ({ frames := 0, cells := 0, slots := 0, locals := 0 } : Room) s m #[(.ref a1), (.int p2)] below meth c s₁ [] 0 0 := Stand.of_body Bd
  have e0 : s₁.heap = h0 := by rw [← hh, Bd.state]; rfl
  have N0 := Fr.nil n0
  have W := fun (k : Nat) {d : Jvm.Cond} (h : tables_1[k]? = some d) => hw d (List.mem_of_getElem? h)
  have K0 : Keep h0 h0 [] := Keep.refl _ _
  refine own_start (ef_6 m a1 p2) ?_
  show own_Run p e below _ s₁ (mkF m 0 #[.val (.ref a1), .val (.int p2)] [])
  refine own_go (fun _ k => XS.iloadN X0.here hx rfl (hb hby d6_0) rfl k) ?_
  refine own_go (fun _ k => XS.aloadN X0.here hx rfl (hb hby d6_1) rfl rfl k) ?_
  obtain ⟨cl338, Ar338, q338, S338, N338, H338, G338⟩ := id V_a1
  refine own_go (X0.arraylength hx (by rw [e0]; exact Ar338.1) (State.isArrayOf_alike hZ.alike Ar338.2.1) (g := (mkF m 2 #[.val (.ref a1), .val (.int p2)] [(.ref a1), (.int p2)])) rfl rfl (hb hby d6_2)) ?_
  rw [len_of S338 N338]
  refine own_go (fun _ k => XS.icmpYes X0.here hx rfl (pc0 := 3) (pc' := 16) rfl (hb hby d6_3) rfl (flt hout).2.1 (by decide) (by decide) k) ?_
  refine own_go (fun _ k => XS.iconst X0.here hx rfl (hb hby d6_16) k) ?_
  refine own_done (Q := fun v h L => Q6out Z a1 p2 k1 n vs dv h0 n0 v h L) (v := (some (.int 0))) X0 (fun h => by rw [hret] at h; cases h) hlk (fun fs hr => retN X0 hx (t := .boolean) hret (by simp) (hb hby d6_17) hr) ?_ (by decide) (by decide)
  show Q6out Z a1 p2 k1 n vs dv h0 n0 _ s₁.heap _
  rw [e0]
  exact ⟨rfl, N0, rfl⟩
theorem d7_0 : decode method_3_code 0 = .ok (.iload_n 0, 1) := by decide +kernel
theorem d7_1 : decode method_3_code 1 = .ok (.iload_n 2, 1) := by decide +kernel
theorem d7_2 : decode method_3_code 2 = .ok (.if_icmp .eq 8, 3) := by decide +kernel
theorem d7_5 : decode method_3_code 5 = .ok (.iload_n 1, 1) := by decide +kernel
theorem d7_6 : decode method_3_code 6 = .ok (.iload_n 2, 1) := by decide +kernel
theorem d7_7 : decode method_3_code 7 = .ok (.if_icmp .ne 7, 3) := by decide +kernel
theorem d7_10 : decode method_3_code 10 = .ok (.iconst 1, 1) := by decide +kernel
theorem d7_11 : decode method_3_code 11 = .ok (.goto 4, 3) := by decide +kernel
theorem d7_14 : decode method_3_code 14 = .ok (.iconst 0, 1) := by decide +kernel
theorem d7_15 : decode method_3_code 15 = .ok (.ireturn, 1) := by decide +kernel
theorem pn_7 : plainName "com/example/error_to_hazard/errortohazard/analysis/NodeTableReachablePinLaw" = true := by first | (simp [plainName, overriddenIn]; done) | decide +kernel
theorem ef_7 (m : MethodId) (x0 : Int32) (x1 : Int32) (x2 : Int32) : entryFrame m #[(.int x0), (.int x1), (.int x2)] 3 = mkF m 0 #[.val (.int x0), .val (.int x1), .val (.int x2)] [] := by first | (simp [entryFrame, mkF, argsToLocals, Value.category]; done) | rfl
def Q7 (Z : State) (p1 : Int32) (p2 : Int32) (p3 : Int32) (r : Int32) (h0 : Heap) (n0 : Nat) (v : Option Value) (h : Heap) (L : List Loc) : Prop := v = some (.int r) ∧ Fr n0 L ∧ h = h0
set_option maxRecDepth 65536 in
set_option maxHeartbeats 40000000 in
theorem rm7 (l : Launch) (Z : State) (a0 : Array Value) (hw : ∀ d ∈ tables_1, d.before a0 Z = true) (ws : List Jvm.Cond) (p1 : Int32) (p2 : Int32) (p3 : Int32) (r : Int32) (h0 : Heap) (n0 : Nat) (Z0 : n0 ≤ h0.size) (hp : (p1 = p3 ∧ r = (1 : Int32)) ∨ (¬ (p1 = p3) ∧ p2 = p3 ∧ r = (1 : Int32)) ∨ (¬ (p1 = p3) ∧ ¬ (p2 = p3) ∧ r = (0 : Int32))) :
    MetFree l (⟨own_K1, "hits", "(III)Z"⟩ : MethodName) (head1 (Jvm.Cond.code (⟨own_K1, "hits", "(III)Z"⟩ : MethodName) method_3_code 3 (some .boolean) :: ws) ({ frames := 0, cells := 0, slots := 0, locals := 0 } : Room)) (fun a U => a = #[(.int p1), (.int p2), (.int p3)] ∧ Z.Warmed39 U.vm ∧ U.heap = h0) (fun _ _ _ _ _ => True) (fun _ U o U' => ∃ v L, o = .returned v ∧ Q7 Z p1 p2 p3 r h0 n0 v U'.heap L ∧ FrameEnd U o U' L ({ frames := 0, cells := 0, slots := 0, locals := 0 } : Room).cells ({ frames := 0, cells := 0, slots := 0, locals := 0 } : Room).slots) := by
  refine MetFree.of_bodySF (plainFor_of_name pn_7) hisR ?_
  intro p e s m args below meth c s₁ Bd hml0 hP hK
  obtain ⟨rfl, hZ, hh⟩ := hP
  have hx := Bd.exec
  have hby := Bd.bytes
  have hml : c.maxLocals = 3 := hml0
  have hown : s.vm.findClass own_K1 = some m.cls := findClass_of_methodNamed Bd.named
  have hnm := (name_of_methodNamed Bd.named Bd.method).1
  have hret := Bd.returns
  have hlk : meth.locks = false := BodyLoose.notSynchronized Bd
  have X0 : Stand p l e ({ frames := 0, cells := 0, slots := 0, locals := 0 } : Room) s m #[(.int p1), (.int p2), (.int p3)] below meth c s₁ [] 0 0 := Stand.of_body Bd
  have e0 : s₁.heap = h0 := by rw [← hh, Bd.state]; rfl
  have N0 := Fr.nil n0
  have W := fun (k : Nat) {d : Jvm.Cond} (h : tables_1[k]? = some d) => hw d (List.mem_of_getElem? h)
  have K0 : Keep h0 h0 [] := Keep.refl _ _
  refine own_start (ef_7 m p1 p2 p3) ?_
  show own_Run p e below _ s₁ (mkF m 0 #[.val (.int p1), .val (.int p2), .val (.int p3)] [])
  rcases hp with ⟨hA, rfl⟩ | ⟨hA, hB, rfl⟩ | ⟨hA, hB, rfl⟩
  · show own_Run p e below _ s₁ (mkF m 0 #[.val (.int p1), .val (.int p2), .val (.int p3)] [])
    refine own_go (fun _ k => XS.iloadN X0.here hx rfl (hb hby d7_0) rfl k) ?_
    refine own_go (fun _ k => XS.iloadN X0.here hx rfl (hb hby d7_1) rfl k) ?_
    refine own_go (fun _ k => XS.icmpYes X0.here hx rfl (pc0 := 2) (pc' := 10) rfl (hb hby d7_2) rfl (teq hA).1 (by decide) (by decide) k) ?_
    refine own_go (fun _ k => XS.iconst X0.here hx rfl (hb hby d7_10) k) ?_
    refine own_go (fun _ k => XS.goto X0.here hx rfl (pc0 := 11) (pc' := 15) rfl (hb hby d7_11) (by decide) (by decide) k) ?_
    refine own_done (Q := fun v h L => Q7 Z p1 p2 p3 (1 : Int32) h0 n0 v h L) (v := (some (.int 1))) X0 (fun h => by rw [hret] at h; cases h) hlk (fun fs hr => retN X0 hx (t := .boolean) hret (by simp) (hb hby d7_15) hr) ?_ (by decide) (by decide)
    show Q7 Z p1 p2 p3 (1 : Int32) h0 n0 _ s₁.heap _
    rw [e0]
    exact ⟨rfl, N0, rfl⟩
  · show own_Run p e below _ s₁ (mkF m 0 #[.val (.int p1), .val (.int p2), .val (.int p3)] [])
    refine own_go (fun _ k => XS.iloadN X0.here hx rfl (hb hby d7_0) rfl k) ?_
    refine own_go (fun _ k => XS.iloadN X0.here hx rfl (hb hby d7_1) rfl k) ?_
    refine own_go (fun _ k => XS.icmpNo X0.here hx rfl (hb hby d7_2) rfl (feq hA).1 k) ?_
    refine own_go (fun _ k => XS.iloadN X0.here hx rfl (hb hby d7_5) rfl k) ?_
    refine own_go (fun _ k => XS.iloadN X0.here hx rfl (hb hby d7_6) rfl k) ?_
    refine own_go (fun _ k => XS.icmpNo X0.here hx rfl (hb hby d7_7) rfl (teq hB).2 k) ?_
    refine own_go (fun _ k => XS.iconst X0.here hx rfl (hb hby d7_10) k) ?_
    refine own_go (fun _ k => XS.goto X0.here hx rfl (pc0 := 11) (pc' := 15) rfl (hb hby d7_11) (by decide) (by decide) k) ?_
    show own_Run p e below _ s₁ (mkF m 15 #[.val (.int p1), .val (.int p2), .val (.int p3)] [(.int 1)])
    refine own_done (Q := fun v h L => Q7 Z p1 p2 p3 (1 : Int32) h0 n0 v h L) (v := (some (.int 1))) X0 (fun h => by rw [hret] at h; cases h) hlk (fun fs hr => retN X0 hx (t := .boolean) hret (by simp) (hb hby d7_15) hr) ?_ (by decide) (by decide)
    show Q7 Z p1 p2 p3 (1 : Int32) h0 n0 _ s₁.heap _
    rw [e0]
    exact ⟨rfl, N0, rfl⟩
  · show own_Run p e below _ s₁ (mkF m 0 #[.val (.int p1), .val (.int p2), .val (.int p3)] [])
    refine own_go (fun _ k => XS.iloadN X0.here hx rfl (hb hby d7_0) rfl k) ?_
    refine own_go (fun _ k => XS.iloadN X0.here hx rfl (hb hby d7_1) rfl k) ?_
    refine own_go (fun _ k => XS.icmpNo X0.here hx rfl (hb hby d7_2) rfl (feq hA).1 k) ?_
    refine own_go (fun _ k => XS.iloadN X0.here hx rfl (hb hby d7_5) rfl k) ?_
    refine own_go (fun _ k => XS.iloadN X0.here hx rfl (hb hby d7_6) rfl k) ?_
    refine own_go (fun _ k => XS.icmpYes X0.here hx rfl (pc0 := 7) (pc' := 14) rfl (hb hby d7_7) rfl (feq hB).2 (by decide) (by decide) k) ?_
    refine own_go (fun _ k => XS.iconst X0.here hx rfl (hb hby d7_14) k) ?_
    refine own_done (Q := fun v h L => Q7 Z p1 p2 p3 (0 : Int32) h0 n0 v h L) (v := (some (.int 0))) X0 (fun h => by rw [hret] at h; cases h) hlk (fun fs hr => retN X0 hx (t := .boolean) hret (by simp) (hb hby d7_15) hr) ?_ (by decide) (by decide)
    show Q7 Z p1 p2 p3 (0 : Int32) h0 n0 _ s₁.heap _
    rw [e0]
    exact ⟨rfl, N0, rfl⟩
theorem own_hitP (a b x : Int32) : (a = x ∧ own_hit a b x = (1 : Int32)) ∨ (¬ (a = x) ∧ b = x ∧ own_hit a b x = (1 : Int32)) ∨ (¬ (a = x) ∧ ¬ (b = x) ∧ own_hit a b x = (0 : Int32)) := by
  unfold own_hit
  by_cases h1 : a = x <;> by_cases h2 : b = x <;> simp [h1, h2]
def Q0 (Z : State) (p1 : Int32) (p2 : Int32) (p3 : Int32) (p4 : Int32) (p5 : Int32) (p6 : Int32) (h0 : Heap) (n0 : Nat) (v : Option Value) (h : Heap) (L : List Loc) : Prop := v = some (.int 1) ∧ Fr n0 L
theorem pn_0 : plainName "com/example/error_to_hazard/errortohazard/analysis/NodeTableReachablePinLaw" = true := by first | (simp [plainName, overriddenIn]; done) | decide +kernel
theorem pd_2 : parseMethodDescriptor "([ZI)Z" = some ⟨[(.array .boolean), .int], some .boolean⟩ := by decide +kernel
set_option maxRecDepth 65536 in
set_option maxHeartbeats 40000000 in
theorem lw0 {p : Program} {l : Launch} {e : Env} {s : State} {m : MethodId} {args : Array Value} {below : List Frame} {meth : Method} {c : Code} {Z : State} {a0 : Array Value} (p1 : Int32) (p2 : Int32) (p3 : Int32) (p4 : Int32) (p5 : Int32) (p6 : Int32) (h0 : Heap) (n0 : Nat) (hx : p.tables.exec = Jvm.exec) (hZ : Z.Warmed39 s.vm) (hw : ∀ d ∈ tables_1, d.before a0 Z = true) (hby : c.code = code) (hml : c.maxLocals = 30) (hown : s.vm.findClass own_K1 = some m.cls) (hnm : meth.name = "law") (hret : meth.sig.returnType = some .boolean) (hlk : meth.locks = false)
    (x6 : Int32) (x7 : Int32) (x8 : Int32) (x9 : Int32) (x10 : Int32) (x11 : Int32) (x12 : Int32) (x13 : Int32) (x14 : Int32) (x15 : Int32) (x16 : Int32) (x17 : Int32) (o18 : Addr) (o23 : Addr) (k23 : ClassId) (nn : Int32) (vs : List Value) (r5 : Int32) (r4 : Int32) (r3 : Int32) (r2 : Int32) (r1 : Int32) (r0 : Int32) (T0 : State) (hh : Heap) (locs : List Loc) (X0 : Stand p l e room_1 s m args below meth c T0 locs 6 5131) (e0 : T0.heap = hh) (N0 : Fr n0 locs) (Z0 : n0 ≤ hh.size) (K0 : Keep h0 hh []) (V_o23 : Arv Z hh o23 k23 .boolean nn vs (.int 0)) (hvs : own_HV x17 nn vs x7 x8 x10 x11 x12 x13 x15 x16) (hr5 : r5 = (own_g5_6 x17 x7 x8 x10 x11 x12 x13 x15 x16)) (hr4 : r4 = (own_g4_5 x17 x7 x8 x10 x11 x12 x13 x15 x16)) (hr3 : r3 = (own_g3_4 x17 x7 x8 x10 x11 x12 x13 x15 x16)) (hr2 : r2 = (own_g2_3 x17 x7 x8 x10 x11 x12 x13 x15 x16)) (hr1 : r1 = (own_g1_2 x17 x7 x8 x10 x11 x12 x13 x15 x16)) (hr0 : r0 = (own_g0_2 x17 x7 x8 x10 x11 x12 x13 x15 x16)) :
    own_Run p e below (fun o U' => ∃ v L, o = .returned v ∧ Q0 Z p1 p2 p3 p4 p5 p6 h0 n0 v U'.heap L ∧ FrameEnd s o U' L room_1.cells room_1.slots) T0 (mkF m 458 #[.val (.int p1), .val (.int p2), .val (.int p3), .val (.int p4), .val (.int p5), .val (.int p6), .val (.int x6), .val (.int x7), .val (.int x8), .val (.int x9), .val (.int x10), .val (.int x11), .val (.int x12), .val (.int x13), .val (.int x14), .val (.int x15), .val (.int x16), .val (.int x17), .val (.ref o18), .val (.int 2), .val (.int 3), .val (.int 4), .val (.int 5), .val (.ref o23), .val (.int r5), .val (.int r4), .val (.int r3), .val (.int r2), .val (.int r1), .val (.int r0)] []) := by
  have W := fun (k : Nat) {d : Jvm.Cond} (h : tables_1[k]? = some d) => hw d (List.mem_of_getElem? h)
  show own_Run p e below _ T0 (mkF m 458 #[.val (.int p1), .val (.int p2), .val (.int p3), .val (.int p4), .val (.int p5), .val (.int p6), .val (.int x6), .val (.int x7), .val (.int x8), .val (.int x9), .val (.int x10), .val (.int x11), .val (.int x12), .val (.int x13), .val (.int x14), .val (.int x15), .val (.int x16), .val (.int x17), .val (.ref o18), .val (.int 2), .val (.int 3), .val (.int 4), .val (.int 5), .val (.ref o23), .val (.int r5), .val (.int r4), .val (.int r3), .val (.int r2), .val (.int r1), .val (.int r0)] [])
  rcases hvs with ⟨rfl, rfl, rfl⟩ | ⟨rfl, rfl, rfl⟩ | ⟨rfl, rfl, rfl⟩ | ⟨rfl, rfl, rfl⟩ | ⟨rfl, rfl, rfl⟩ | ⟨rfl, rfl, rfl⟩
  · show own_Run p e below _ T0 (mkF m 458 #[.val (.int p1), .val (.int p2), .val (.int p3), .val (.int p4), .val (.int p5), .val (.int p6), .val (.int x6), .val (.int x7), .val (.int x8), .val (.int x9), .val (.int x10), .val (.int x11), .val (.int x12), .val (.int x13), .val (.int x14), .val (.int x15), .val (.int x16), .val (.int 0), .val (.ref o18), .val (.int 2), .val (.int 3), .val (.int 4), .val (.int 5), .val (.ref o23), .val (.int r5), .val (.int r4), .val (.int r3), .val (.int r2), .val (.int r1), .val (.int r0)] [])
    refine own_go (fun _ k => XS.iload X0.here hx rfl (hb hby at_458) rfl k) ?_
    refine own_go (fun _ k => XS.iconst X0.here hx rfl (hb hby at_460) k) ?_
    refine own_go (fun _ k => XS.icmpNo X0.here hx rfl (hb hby at_461) rfl (teq (by decide : (2 : Int32) = (2 : Int32))).2 k) ?_
    refine own_go (fun _ k => XS.iload X0.here hx rfl (hb hby at_464) rfl k) ?_
    refine own_go (fun _ k => XS.iconst X0.here hx rfl (hb hby at_466) k) ?_
    refine own_go (fun _ k => XS.icmpNo X0.here hx rfl (hb hby at_467) rfl (teq (by decide : (3 : Int32) = (3 : Int32))).2 k) ?_
    refine own_go (fun _ k => XS.iload X0.here hx rfl (hb hby at_470) rfl k) ?_
    refine own_go (fun _ k => XS.iconst X0.here hx rfl (hb hby at_472) k) ?_
    show own_Run p e below _ T0 (mkF m 473 #[.val (.int p1), .val (.int p2), .val (.int p3), .val (.int p4), .val (.int p5), .val (.int p6), .val (.int x6), .val (.int x7), .val (.int x8), .val (.int x9), .val (.int x10), .val (.int x11), .val (.int x12), .val (.int x13), .val (.int x14), .val (.int x15), .val (.int x16), .val (.int 0), .val (.ref o18), .val (.int 2), .val (.int 3), .val (.int 4), .val (.int 5), .val (.ref o23), .val (.int r5), .val (.int r4), .val (.int r3), .val (.int r2), .val (.int r1), .val (.int r0)] [(.int 4), (.int 4)])
    refine own_go (fun _ k => XS.icmpNo X0.here hx rfl (hb hby at_473) rfl (teq (by decide : (4 : Int32) = (4 : Int32))).2 k) ?_
    refine own_go (fun _ k => XS.iload X0.here hx rfl (hb hby at_476) rfl k) ?_
    refine own_go (fun _ k => XS.iconst X0.here hx rfl (hb hby at_478) k) ?_
    refine own_go (fun _ k => XS.icmpNo X0.here hx rfl (hb hby at_479) rfl (teq (by decide : (5 : Int32) = (5 : Int32))).2 k) ?_
    refine own_go (fun _ k => XS.aload X0.here hx rfl (hb hby at_482) rfl rfl k) ?_
    obtain ⟨cl339, Ar339, q339, S339, N339, H339, G339⟩ := id V_o23
    refine own_go (X0.arraylength hx (by rw [e0]; exact Ar339.1) (State.isArrayOf_alike hZ.alike Ar339.2.1) (g := (mkF m 484 #[.val (.int p1), .val (.int p2), .val (.int p3), .val (.int p4), .val (.int p5), .val (.int p6), .val (.int x6), .val (.int x7), .val (.int x8), .val (.int x9), .val (.int x10), .val (.int x11), .val (.int x12), .val (.int x13), .val (.int x14), .val (.int x15), .val (.int x16), .val (.int 0), .val (.ref o18), .val (.int 2), .val (.int 3), .val (.int 4), .val (.int 5), .val (.ref o23), .val (.int r5), .val (.int r4), .val (.int r3), .val (.int r2), .val (.int r1), .val (.int r0)] [(.ref o23)])) rfl rfl (hb hby at_484)) ?_
    rw [len_of S339 N339]
    refine own_go (fun _ k => XS.iload X0.here hx rfl (hb hby at_485) rfl k) ?_
    refine own_go (fun _ k => XS.iconst X0.here hx rfl (hb hby at_487) k) ?_
    show own_Run p e below _ T0 (mkF m 488 #[.val (.int p1), .val (.int p2), .val (.int p3), .val (.int p4), .val (.int p5), .val (.int p6), .val (.int x6), .val (.int x7), .val (.int x8), .val (.int x9), .val (.int x10), .val (.int x11), .val (.int x12), .val (.int x13), .val (.int x14), .val (.int x15), .val (.int x16), .val (.int 0), .val (.ref o18), .val (.int 2), .val (.int 3), .val (.int 4), .val (.int 5), .val (.ref o23), .val (.int r5), .val (.int r4), .val (.int r3), .val (.int r2), .val (.int r1), .val (.int r0)] [(.int 1), (.int 0), (.int 1)])
    refine own_go (fun _ k => XS.iadd X0.here hx rfl (hb hby at_488) rfl k) ?_
    show own_Run p e below _ T0 (mkF m 489 #[.val (.int p1), .val (.int p2), .val (.int p3), .val (.int p4), .val (.int p5), .val (.int p6), .val (.int x6), .val (.int x7), .val (.int x8), .val (.int x9), .val (.int x10), .val (.int x11), .val (.int x12), .val (.int x13), .val (.int x14), .val (.int x15), .val (.int x16), .val (.int 0), .val (.ref o18), .val (.int 2), .val (.int 3), .val (.int 4), .val (.int 5), .val (.ref o23), .val (.int r5), .val (.int r4), .val (.int r3), .val (.int r2), .val (.int r1), .val (.int r0)] [(.int ((0 : Int32) + (1 : Int32))), (.int 1)])
    rw [show ((0 : Int32) + (1 : Int32)) = (1 : Int32) by decide]
    refine own_go (fun _ k => XS.icmpNo X0.here hx rfl (hb hby at_489) rfl (teq (by decide : (1 : Int32) = (1 : Int32))).2 k) ?_
    refine own_go (fun _ k => XS.aload X0.here hx rfl (hb hby at_492) rfl rfl k) ?_
    refine own_go (fun _ k => XS.iconst X0.here hx rfl (hb hby at_494) k) ?_
    obtain ⟨_, _, ⟨T340, L340, k340, n340⟩, -, X340, ⟨Lc340, hQ340, l340, y340, z340⟩, st340⟩ := Jvm.LawKit.callS X0 hx (y := (⟨own_K1, "at", "([ZI)Z"⟩ : MethodName)) hown (mvT hZ (W 38 rfl)) (mvT hZ (W 39 rfl)) (mvT hZ (W 40 rfl)) (mvT hZ (W 41 rfl)) (by decide) (backOf (W := 0) (rm6in l Z a0 hw [] o23 (0 : Int32) k23 (1 : Int32) [(.int (own_g0_2 (0 : Int32) x7 x8 x10 x11 x12 x13 x15 x16))] (.int 0) (own_g0_2 (0 : Int32) x7 x8 x10 x11 x12 x13 x15 x16) hh n0 Z0 V_o23 (⟨by decide, by decide⟩) (rfl) (own_gb0_2 _ x7 x8 x10 x11 x12 x13 x15 x16)) hZ (W 41 rfl) (W 40 rfl) (by decide) (by decide)) (g := (mkF m 495 #[.val (.int p1), .val (.int p2), .val (.int p3), .val (.int p4), .val (.int p5), .val (.int p6), .val (.int x6), .val (.int x7), .val (.int x8), .val (.int x9), .val (.int x10), .val (.int x11), .val (.int x12), .val (.int x13), .val (.int x14), .val (.int x15), .val (.int x16), .val (.int 0), .val (.ref o18), .val (.int 2), .val (.int 3), .val (.int 4), .val (.int 5), .val (.ref o23), .val (.int r5), .val (.int r4), .val (.int r3), .val (.int r2), .val (.int r1), .val (.int r0)] [(.int 0), (.ref o23)])) rfl (by rw [hml]; rfl) (argsL := [(.ref o23), (.int 0)]) (rest := []) (lenOf pd_2 rfl) rfl (by show 2 * 0 + _ ≤ _; exact Nat.le_of_eq rfl) (hb hby at_495) (fun _ _ => ⟨rfl, e0, (by decide : 6 + 0 ≤ _), (by decide : 5131 + 0 ≤ _)⟩)
    dsimp only [Pt.U, Pt.locs, Pt.cells, Pt.slots] at X340 l340 y340 z340 st340 hQ340
    subst l340 y340 z340
    obtain ⟨rfl, N340q, e340⟩ := hQ340
    have N340 := Fr.app N0 N340q
    refine own_go st340 ?_
    refine own_go (fun _ k => XS.iload X340.here hx rfl (hb hby at_498) rfl k) ?_
    refine own_go (fun _ k => XS.icmpNo X340.here hx rfl (hb hby at_500) rfl (teq (hr0.symm : (own_g0_2 (0 : Int32) x7 x8 x10 x11 x12 x13 x15 x16) = r0)).2 k) ?_
    refine own_go (fun _ k => XS.aload X340.here hx rfl (hb hby at_503) rfl rfl k) ?_
    refine own_go (fun _ k => XS.iconst X340.here hx rfl (hb hby at_505) k) ?_
    show own_Run p e below _ T340 (mkF m 506 #[.val (.int p1), .val (.int p2), .val (.int p3), .val (.int p4), .val (.int p5), .val (.int p6), .val (.int x6), .val (.int x7), .val (.int x8), .val (.int x9), .val (.int x10), .val (.int x11), .val (.int x12), .val (.int x13), .val (.int x14), .val (.int x15), .val (.int x16), .val (.int 0), .val (.ref o18), .val (.int 2), .val (.int 3), .val (.int 4), .val (.int 5), .val (.ref o23), .val (.int r5), .val (.int r4), .val (.int r3), .val (.int r2), .val (.int r1), .val (.int r0)] [(.int 1), (.ref o23)])
    obtain ⟨_, _, ⟨T341, L341, k341, n341⟩, -, X341, ⟨Lc341, hQ341, l341, y341, z341⟩, st341⟩ := Jvm.LawKit.callS X340 hx (y := (⟨own_K1, "at", "([ZI)Z"⟩ : MethodName)) hown (mvT hZ (W 38 rfl)) (mvT hZ (W 39 rfl)) (mvT hZ (W 40 rfl)) (mvT hZ (W 41 rfl)) (by decide) (backOf (W := 0) (rm6out l Z a0 hw [] o23 (1 : Int32) k23 (1 : Int32) [(.int (own_g0_2 (0 : Int32) x7 x8 x10 x11 x12 x13 x15 x16))] (.int 0) hh n0 Z0 V_o23 (by decide)) hZ (W 41 rfl) (W 40 rfl) (by decide) (by decide)) (g := (mkF m 506 #[.val (.int p1), .val (.int p2), .val (.int p3), .val (.int p4), .val (.int p5), .val (.int p6), .val (.int x6), .val (.int x7), .val (.int x8), .val (.int x9), .val (.int x10), .val (.int x11), .val (.int x12), .val (.int x13), .val (.int x14), .val (.int x15), .val (.int x16), .val (.int 0), .val (.ref o18), .val (.int 2), .val (.int 3), .val (.int 4), .val (.int 5), .val (.ref o23), .val (.int r5), .val (.int r4), .val (.int r3), .val (.int r2), .val (.int r1), .val (.int r0)] [(.int 1), (.ref o23)])) rfl (by rw [hml]; rfl) (argsL := [(.ref o23), (.int 1)]) (rest := []) (lenOf pd_2 rfl) rfl (by show 2 * 0 + _ ≤ _; exact Nat.le_of_eq rfl) (hb hby at_506) (fun _ _ => ⟨rfl, e340, (by decide : 6 + 0 ≤ _), (by decide : 5131 + 0 ≤ _)⟩)
    dsimp only [Pt.U, Pt.locs, Pt.cells, Pt.slots] at X341 l341 y341 z341 st341 hQ341
    subst l341 y341 z341
    obtain ⟨rfl, N341q, e341⟩ := hQ341
    have N341 := Fr.app N340 N341q
    refine own_go st341 ?_
    refine own_go (fun _ k => XS.iload X341.here hx rfl (hb hby at_509) rfl k) ?_
    refine own_go (fun _ k => XS.icmpNo X341.here hx rfl (hb hby at_511) rfl (teq ((hr1.trans (own_v0_1_2 x7 x8 x10 x11 x12 x13 x15 x16)).symm : (0 : Int32) = r1)).2 k) ?_
    refine own_go (fun _ k => XS.aload X341.here hx rfl (hb hby at_514) rfl rfl k) ?_
    refine own_go (fun _ k => XS.iconst X341.here hx rfl (hb hby at_516) k) ?_
    obtain ⟨_, _, ⟨T342, L342, k342, n342⟩, -, X342, ⟨Lc342, hQ342, l342, y342, z342⟩, st342⟩ := Jvm.LawKit.callS X341 hx (y := (⟨own_K1, "at", "([ZI)Z"⟩ : MethodName)) hown (mvT hZ (W 38 rfl)) (mvT hZ (W 39 rfl)) (mvT hZ (W 40 rfl)) (mvT hZ (W 41 rfl)) (by decide) (backOf (W := 0) (rm6out l Z a0 hw [] o23 (2 : Int32) k23 (1 : Int32) [(.int (own_g0_2 (0 : Int32) x7 x8 x10 x11 x12 x13 x15 x16))] (.int 0) hh n0 Z0 V_o23 (by decide)) hZ (W 41 rfl) (W 40 rfl) (by decide) (by decide)) (g := (mkF m 517 #[.val (.int p1), .val (.int p2), .val (.int p3), .val (.int p4), .val (.int p5), .val (.int p6), .val (.int x6), .val (.int x7), .val (.int x8), .val (.int x9), .val (.int x10), .val (.int x11), .val (.int x12), .val (.int x13), .val (.int x14), .val (.int x15), .val (.int x16), .val (.int 0), .val (.ref o18), .val (.int 2), .val (.int 3), .val (.int 4), .val (.int 5), .val (.ref o23), .val (.int r5), .val (.int r4), .val (.int r3), .val (.int r2), .val (.int r1), .val (.int r0)] [(.int 2), (.ref o23)])) rfl (by rw [hml]; rfl) (argsL := [(.ref o23), (.int 2)]) (rest := []) (lenOf pd_2 rfl) rfl (by show 2 * 0 + _ ≤ _; exact Nat.le_of_eq rfl) (hb hby at_517) (fun _ _ => ⟨rfl, e341, (by decide : 6 + 0 ≤ _), (by decide : 5131 + 0 ≤ _)⟩)
    dsimp only [Pt.U, Pt.locs, Pt.cells, Pt.slots] at X342 l342 y342 z342 st342 hQ342
    subst l342 y342 z342
    obtain ⟨rfl, N342q, e342⟩ := hQ342
    have N342 := Fr.app N341 N342q
    refine own_go st342 ?_
    refine own_go (fun _ k => XS.iload X342.here hx rfl (hb hby at_520) rfl k) ?_
    refine own_go (fun _ k => XS.icmpNo X342.here hx rfl (hb hby at_522) rfl (teq ((hr2.trans (own_v0_2_3 x7 x8 x10 x11 x12 x13 x15 x16)).symm : (0 : Int32) = r2)).2 k) ?_
    show own_Run p e below _ T342 (mkF m 525 #[.val (.int p1), .val (.int p2), .val (.int p3), .val (.int p4), .val (.int p5), .val (.int p6), .val (.int x6), .val (.int x7), .val (.int x8), .val (.int x9), .val (.int x10), .val (.int x11), .val (.int x12), .val (.int x13), .val (.int x14), .val (.int x15), .val (.int x16), .val (.int 0), .val (.ref o18), .val (.int 2), .val (.int 3), .val (.int 4), .val (.int 5), .val (.ref o23), .val (.int r5), .val (.int r4), .val (.int r3), .val (.int r2), .val (.int r1), .val (.int r0)] [])
    refine own_go (fun _ k => XS.aload X342.here hx rfl (hb hby at_525) rfl rfl k) ?_
    refine own_go (fun _ k => XS.iconst X342.here hx rfl (hb hby at_527) k) ?_
    obtain ⟨_, _, ⟨T343, L343, k343, n343⟩, -, X343, ⟨Lc343, hQ343, l343, y343, z343⟩, st343⟩ := Jvm.LawKit.callS X342 hx (y := (⟨own_K1, "at", "([ZI)Z"⟩ : MethodName)) hown (mvT hZ (W 38 rfl)) (mvT hZ (W 39 rfl)) (mvT hZ (W 40 rfl)) (mvT hZ (W 41 rfl)) (by decide) (backOf (W := 0) (rm6out l Z a0 hw [] o23 (3 : Int32) k23 (1 : Int32) [(.int (own_g0_2 (0 : Int32) x7 x8 x10 x11 x12 x13 x15 x16))] (.int 0) hh n0 Z0 V_o23 (by decide)) hZ (W 41 rfl) (W 40 rfl) (by decide) (by decide)) (g := (mkF m 528 #[.val (.int p1), .val (.int p2), .val (.int p3), .val (.int p4), .val (.int p5), .val (.int p6), .val (.int x6), .val (.int x7), .val (.int x8), .val (.int x9), .val (.int x10), .val (.int x11), .val (.int x12), .val (.int x13), .val (.int x14), .val (.int x15), .val (.int x16), .val (.int 0), .val (.ref o18), .val (.int 2), .val (.int 3), .val (.int 4), .val (.int 5), .val (.ref o23), .val (.int r5), .val (.int r4), .val (.int r3), .val (.int r2), .val (.int r1), .val (.int r0)] [(.int 3), (.ref o23)])) rfl (by rw [hml]; rfl) (argsL := [(.ref o23), (.int 3)]) (rest := []) (lenOf pd_2 rfl) rfl (by show 2 * 0 + _ ≤ _; exact Nat.le_of_eq rfl) (hb hby at_528) (fun _ _ => ⟨rfl, e342, (by decide : 6 + 0 ≤ _), (by decide : 5131 + 0 ≤ _)⟩)
    dsimp only [Pt.U, Pt.locs, Pt.cells, Pt.slots] at X343 l343 y343 z343 st343 hQ343
    subst l343 y343 z343
    obtain ⟨rfl, N343q, e343⟩ := hQ343
    have N343 := Fr.app N342 N343q
    refine own_go st343 ?_
    refine own_go (fun _ k => XS.iload X343.here hx rfl (hb hby at_531) rfl k) ?_
    refine own_go (fun _ k => XS.icmpNo X343.here hx rfl (hb hby at_533) rfl (teq ((hr3.trans (own_v0_3_4 x7 x8 x10 x11 x12 x13 x15 x16)).symm : (0 : Int32) = r3)).2 k) ?_
    refine own_go (fun _ k => XS.aload X343.here hx rfl (hb hby at_536) rfl rfl k) ?_
    refine own_go (fun _ k => XS.iconst X343.here hx rfl (hb hby at_538) k) ?_
    obtain ⟨_, _, ⟨T344, L344, k344, n344⟩, -, X344, ⟨Lc344, hQ344, l344, y344, z344⟩, st344⟩ := Jvm.LawKit.callS X343 hx (y := (⟨own_K1, "at", "([ZI)Z"⟩ : MethodName)) hown (mvT hZ (W 38 rfl)) (mvT hZ (W 39 rfl)) (mvT hZ (W 40 rfl)) (mvT hZ (W 41 rfl)) (by decide) (backOf (W := 0) (rm6out l Z a0 hw [] o23 (4 : Int32) k23 (1 : Int32) [(.int (own_g0_2 (0 : Int32) x7 x8 x10 x11 x12 x13 x15 x16))] (.int 0) hh n0 Z0 V_o23 (by decide)) hZ (W 41 rfl) (W 40 rfl) (by decide) (by decide)) (g := (mkF m 539 #[.val (.int p1), .val (.int p2), .val (.int p3), .val (.int p4), .val (.int p5), .val (.int p6), .val (.int x6), .val (.int x7), .val (.int x8), .val (.int x9), .val (.int x10), .val (.int x11), .val (.int x12), .val (.int x13), .val (.int x14), .val (.int x15), .val (.int x16), .val (.int 0), .val (.ref o18), .val (.int 2), .val (.int 3), .val (.int 4), .val (.int 5), .val (.ref o23), .val (.int r5), .val (.int r4), .val (.int r3), .val (.int r2), .val (.int r1), .val (.int r0)] [(.int 4), (.ref o23)])) rfl (by rw [hml]; rfl) (argsL := [(.ref o23), (.int 4)]) (rest := []) (lenOf pd_2 rfl) rfl (by show 2 * 0 + _ ≤ _; exact Nat.le_of_eq rfl) (hb hby at_539) (fun _ _ => ⟨rfl, e343, (by decide : 6 + 0 ≤ _), (by decide : 5131 + 0 ≤ _)⟩)
    dsimp only [Pt.U, Pt.locs, Pt.cells, Pt.slots] at X344 l344 y344 z344 st344 hQ344
    subst l344 y344 z344
    obtain ⟨rfl, N344q, e344⟩ := hQ344
    have N344 := Fr.app N343 N344q
    refine own_go st344 ?_
    show own_Run p e below _ T344 (mkF m 542 #[.val (.int p1), .val (.int p2), .val (.int p3), .val (.int p4), .val (.int p5), .val (.int p6), .val (.int x6), .val (.int x7), .val (.int x8), .val (.int x9), .val (.int x10), .val (.int x11), .val (.int x12), .val (.int x13), .val (.int x14), .val (.int x15), .val (.int x16), .val (.int 0), .val (.ref o18), .val (.int 2), .val (.int 3), .val (.int 4), .val (.int 5), .val (.ref o23), .val (.int r5), .val (.int r4), .val (.int r3), .val (.int r2), .val (.int r1), .val (.int r0)] [(.int 0)])
    refine own_go (fun _ k => XS.iload X344.here hx rfl (hb hby at_542) rfl k) ?_
    refine own_go (fun _ k => XS.icmpNo X344.here hx rfl (hb hby at_544) rfl (teq ((hr4.trans (own_v0_4_5 x7 x8 x10 x11 x12 x13 x15 x16)).symm : (0 : Int32) = r4)).2 k) ?_
    refine own_go (fun _ k => XS.aload X344.here hx rfl (hb hby at_547) rfl rfl k) ?_
    refine own_go (fun _ k => XS.iconst X344.here hx rfl (hb hby at_549) k) ?_
    obtain ⟨_, _, ⟨T345, L345, k345, n345⟩, -, X345, ⟨Lc345, hQ345, l345, y345, z345⟩, st345⟩ := Jvm.LawKit.callS X344 hx (y := (⟨own_K1, "at", "([ZI)Z"⟩ : MethodName)) hown (mvT hZ (W 38 rfl)) (mvT hZ (W 39 rfl)) (mvT hZ (W 40 rfl)) (mvT hZ (W 41 rfl)) (by decide) (backOf (W := 0) (rm6out l Z a0 hw [] o23 (5 : Int32) k23 (1 : Int32) [(.int (own_g0_2 (0 : Int32) x7 x8 x10 x11 x12 x13 x15 x16))] (.int 0) hh n0 Z0 V_o23 (by decide)) hZ (W 41 rfl) (W 40 rfl) (by decide) (by decide)) (g := (mkF m 550 #[.val (.int p1), .val (.int p2), .val (.int p3), .val (.int p4), .val (.int p5), .val (.int p6), .val (.int x6), .val (.int x7), .val (.int x8), .val (.int x9), .val (.int x10), .val (.int x11), .val (.int x12), .val (.int x13), .val (.int x14), .val (.int x15), .val (.int x16), .val (.int 0), .val (.ref o18), .val (.int 2), .val (.int 3), .val (.int 4), .val (.int 5), .val (.ref o23), .val (.int r5), .val (.int r4), .val (.int r3), .val (.int r2), .val (.int r1), .val (.int r0)] [(.int 5), (.ref o23)])) rfl (by rw [hml]; rfl) (argsL := [(.ref o23), (.int 5)]) (rest := []) (lenOf pd_2 rfl) rfl (by show 2 * 0 + _ ≤ _; exact Nat.le_of_eq rfl) (hb hby at_550) (fun _ _ => ⟨rfl, e344, (by decide : 6 + 0 ≤ _), (by decide : 5131 + 0 ≤ _)⟩)
    dsimp only [Pt.U, Pt.locs, Pt.cells, Pt.slots] at X345 l345 y345 z345 st345 hQ345
    subst l345 y345 z345
    obtain ⟨rfl, N345q, e345⟩ := hQ345
    have N345 := Fr.app N344 N345q
    refine own_go st345 ?_
    refine own_go (fun _ k => XS.iload X345.here hx rfl (hb hby at_553) rfl k) ?_
    refine own_go (fun _ k => XS.icmpNo X345.here hx rfl (hb hby at_555) rfl (teq ((hr5.trans (own_v0_5_6 x7 x8 x10 x11 x12 x13 x15 x16)).symm : (0 : Int32) = r5)).2 k) ?_
    refine own_go (fun _ k => XS.iconst X345.here hx rfl (hb hby at_558) k) ?_
    show own_Run p e below _ T345 (mkF m 559 #[.val (.int p1), .val (.int p2), .val (.int p3), .val (.int p4), .val (.int p5), .val (.int p6), .val (.int x6), .val (.int x7), .val (.int x8), .val (.int x9), .val (.int x10), .val (.int x11), .val (.int x12), .val (.int x13), .val (.int x14), .val (.int x15), .val (.int x16), .val (.int 0), .val (.ref o18), .val (.int 2), .val (.int 3), .val (.int 4), .val (.int 5), .val (.ref o23), .val (.int r5), .val (.int r4), .val (.int r3), .val (.int r2), .val (.int r1), .val (.int r0)] [(.int 1)])
    refine own_go (fun _ k => XS.goto X345.here hx rfl (pc0 := 559) (pc' := 563) rfl (hb hby at_559) (by decide) (by decide) k) ?_
    refine own_done (Q := fun v h L => Q0 Z p1 p2 p3 p4 p5 p6 h0 n0 v h L) (v := (some (.int 1))) X345 (fun h => by rw [hret] at h; cases h) hlk (fun fs hr => retN X345 hx (t := .boolean) hret (by simp) (hb hby at_563) hr) ?_ (by decide) (by decide)
    show Q0 Z p1 p2 p3 p4 p5 p6 h0 n0 _ T345.heap _
    rw [e345]
    exact ⟨rfl, N345⟩
  · show own_Run p e below _ T0 (mkF m 458 #[.val (.int p1), .val (.int p2), .val (.int p3), .val (.int p4), .val (.int p5), .val (.int p6), .val (.int x6), .val (.int x7), .val (.int x8), .val (.int x9), .val (.int x10), .val (.int x11), .val (.int x12), .val (.int x13), .val (.int x14), .val (.int x15), .val (.int x16), .val (.int 1), .val (.ref o18), .val (.int 2), .val (.int 3), .val (.int 4), .val (.int 5), .val (.ref o23), .val (.int r5), .val (.int r4), .val (.int r3), .val (.int r2), .val (.int r1), .val (.int r0)] [])
    refine own_go (fun _ k => XS.iload X0.here hx rfl (hb hby at_458) rfl k) ?_
    refine own_go (fun _ k => XS.iconst X0.here hx rfl (hb hby at_460) k) ?_
    refine own_go (fun _ k => XS.icmpNo X0.here hx rfl (hb hby at_461) rfl (teq (by decide : (2 : Int32) = (2 : Int32))).2 k) ?_
    refine own_go (fun _ k => XS.iload X0.here hx rfl (hb hby at_464) rfl k) ?_
    refine own_go (fun _ k => XS.iconst X0.here hx rfl (hb hby at_466) k) ?_
    refine own_go (fun _ k => XS.icmpNo X0.here hx rfl (hb hby at_467) rfl (teq (by decide : (3 : Int32) = (3 : Int32))).2 k) ?_
    refine own_go (fun _ k => XS.iload X0.here hx rfl (hb hby at_470) rfl k) ?_
    refine own_go (fun _ k => XS.iconst X0.here hx rfl (hb hby at_472) k) ?_
    show own_Run p e below _ T0 (mkF m 473 #[.val (.int p1), .val (.int p2), .val (.int p3), .val (.int p4), .val (.int p5), .val (.int p6), .val (.int x6), .val (.int x7), .val (.int x8), .val (.int x9), .val (.int x10), .val (.int x11), .val (.int x12), .val (.int x13), .val (.int x14), .val (.int x15), .val (.int x16), .val (.int 1), .val (.ref o18), .val (.int 2), .val (.int 3), .val (.int 4), .val (.int 5), .val (.ref o23), .val (.int r5), .val (.int r4), .val (.int r3), .val (.int r2), .val (.int r1), .val (.int r0)] [(.int 4), (.int 4)])
    refine own_go (fun _ k => XS.icmpNo X0.here hx rfl (hb hby at_473) rfl (teq (by decide : (4 : Int32) = (4 : Int32))).2 k) ?_
    refine own_go (fun _ k => XS.iload X0.here hx rfl (hb hby at_476) rfl k) ?_
    refine own_go (fun _ k => XS.iconst X0.here hx rfl (hb hby at_478) k) ?_
    refine own_go (fun _ k => XS.icmpNo X0.here hx rfl (hb hby at_479) rfl (teq (by decide : (5 : Int32) = (5 : Int32))).2 k) ?_
    refine own_go (fun _ k => XS.aload X0.here hx rfl (hb hby at_482) rfl rfl k) ?_
    obtain ⟨cl346, Ar346, q346, S346, N346, H346, G346⟩ := id V_o23
    refine own_go (X0.arraylength hx (by rw [e0]; exact Ar346.1) (State.isArrayOf_alike hZ.alike Ar346.2.1) (g := (mkF m 484 #[.val (.int p1), .val (.int p2), .val (.int p3), .val (.int p4), .val (.int p5), .val (.int p6), .val (.int x6), .val (.int x7), .val (.int x8), .val (.int x9), .val (.int x10), .val (.int x11), .val (.int x12), .val (.int x13), .val (.int x14), .val (.int x15), .val (.int x16), .val (.int 1), .val (.ref o18), .val (.int 2), .val (.int 3), .val (.int 4), .val (.int 5), .val (.ref o23), .val (.int r5), .val (.int r4), .val (.int r3), .val (.int r2), .val (.int r1), .val (.int r0)] [(.ref o23)])) rfl rfl (hb hby at_484)) ?_
    rw [len_of S346 N346]
    refine own_go (fun _ k => XS.iload X0.here hx rfl (hb hby at_485) rfl k) ?_
    refine own_go (fun _ k => XS.iconst X0.here hx rfl (hb hby at_487) k) ?_
    show own_Run p e below _ T0 (mkF m 488 #[.val (.int p1), .val (.int p2), .val (.int p3), .val (.int p4), .val (.int p5), .val (.int p6), .val (.int x6), .val (.int x7), .val (.int x8), .val (.int x9), .val (.int x10), .val (.int x11), .val (.int x12), .val (.int x13), .val (.int x14), .val (.int x15), .val (.int x16), .val (.int 1), .val (.ref o18), .val (.int 2), .val (.int 3), .val (.int 4), .val (.int 5), .val (.ref o23), .val (.int r5), .val (.int r4), .val (.int r3), .val (.int r2), .val (.int r1), .val (.int r0)] [(.int 1), (.int 1), (.int 2)])
    refine own_go (fun _ k => XS.iadd X0.here hx rfl (hb hby at_488) rfl k) ?_
    show own_Run p e below _ T0 (mkF m 489 #[.val (.int p1), .val (.int p2), .val (.int p3), .val (.int p4), .val (.int p5), .val (.int p6), .val (.int x6), .val (.int x7), .val (.int x8), .val (.int x9), .val (.int x10), .val (.int x11), .val (.int x12), .val (.int x13), .val (.int x14), .val (.int x15), .val (.int x16), .val (.int 1), .val (.ref o18), .val (.int 2), .val (.int 3), .val (.int 4), .val (.int 5), .val (.ref o23), .val (.int r5), .val (.int r4), .val (.int r3), .val (.int r2), .val (.int r1), .val (.int r0)] [(.int ((1 : Int32) + (1 : Int32))), (.int 2)])
    rw [show ((1 : Int32) + (1 : Int32)) = (2 : Int32) by decide]
    refine own_go (fun _ k => XS.icmpNo X0.here hx rfl (hb hby at_489) rfl (teq (by decide : (2 : Int32) = (2 : Int32))).2 k) ?_
    refine own_go (fun _ k => XS.aload X0.here hx rfl (hb hby at_492) rfl rfl k) ?_
    refine own_go (fun _ k => XS.iconst X0.here hx rfl (hb hby at_494) k) ?_
    obtain ⟨_, _, ⟨T347, L347, k347, n347⟩, -, X347, ⟨Lc347, hQ347, l347, y347, z347⟩, st347⟩ := Jvm.LawKit.callS X0 hx (y := (⟨own_K1, "at", "([ZI)Z"⟩ : MethodName)) hown (mvT hZ (W 38 rfl)) (mvT hZ (W 39 rfl)) (mvT hZ (W 40 rfl)) (mvT hZ (W 41 rfl)) (by decide) (backOf (W := 0) (rm6in l Z a0 hw [] o23 (0 : Int32) k23 (2 : Int32) [(.int (own_g0_2 (1 : Int32) x7 x8 x10 x11 x12 x13 x15 x16)), (.int (own_g1_2 (1 : Int32) x7 x8 x10 x11 x12 x13 x15 x16))] (.int 0) (own_g0_2 (1 : Int32) x7 x8 x10 x11 x12 x13 x15 x16) hh n0 Z0 V_o23 (⟨by decide, by decide⟩) (rfl) (own_gb0_2 _ x7 x8 x10 x11 x12 x13 x15 x16)) hZ (W 41 rfl) (W 40 rfl) (by decide) (by decide)) (g := (mkF m 495 #[.val (.int p1), .val (.int p2), .val (.int p3), .val (.int p4), .val (.int p5), .val (.int p6), .val (.int x6), .val (.int x7), .val (.int x8), .val (.int x9), .val (.int x10), .val (.int x11), .val (.int x12), .val (.int x13), .val (.int x14), .val (.int x15), .val (.int x16), .val (.int 1), .val (.ref o18), .val (.int 2), .val (.int 3), .val (.int 4), .val (.int 5), .val (.ref o23), .val (.int r5), .val (.int r4), .val (.int r3), .val (.int r2), .val (.int r1), .val (.int r0)] [(.int 0), (.ref o23)])) rfl (by rw [hml]; rfl) (argsL := [(.ref o23), (.int 0)]) (rest := []) (lenOf pd_2 rfl) rfl (by show 2 * 0 + _ ≤ _; exact Nat.le_of_eq rfl) (hb hby at_495) (fun _ _ => ⟨rfl, e0, (by decide : 6 + 0 ≤ _), (by decide : 5131 + 0 ≤ _)⟩)
    dsimp only [Pt.U, Pt.locs, Pt.cells, Pt.slots] at X347 l347 y347 z347 st347 hQ347
    subst l347 y347 z347
    obtain ⟨rfl, N347q, e347⟩ := hQ347
    have N347 := Fr.app N0 N347q
    refine own_go st347 ?_
    refine own_go (fun _ k => XS.iload X347.here hx rfl (hb hby at_498) rfl k) ?_
    refine own_go (fun _ k => XS.icmpNo X347.here hx rfl (hb hby at_500) rfl (teq (hr0.symm : (own_g0_2 (1 : Int32) x7 x8 x10 x11 x12 x13 x15 x16) = r0)).2 k) ?_
    refine own_go (fun _ k => XS.aload X347.here hx rfl (hb hby at_503) rfl rfl k) ?_
    refine own_go (fun _ k => XS.iconst X347.here hx rfl (hb hby at_505) k) ?_
    show own_Run p e below _ T347 (mkF m 506 #[.val (.int p1), .val (.int p2), .val (.int p3), .val (.int p4), .val (.int p5), .val (.int p6), .val (.int x6), .val (.int x7), .val (.int x8), .val (.int x9), .val (.int x10), .val (.int x11), .val (.int x12), .val (.int x13), .val (.int x14), .val (.int x15), .val (.int x16), .val (.int 1), .val (.ref o18), .val (.int 2), .val (.int 3), .val (.int 4), .val (.int 5), .val (.ref o23), .val (.int r5), .val (.int r4), .val (.int r3), .val (.int r2), .val (.int r1), .val (.int r0)] [(.int 1), (.ref o23)])
    obtain ⟨_, _, ⟨T348, L348, k348, n348⟩, -, X348, ⟨Lc348, hQ348, l348, y348, z348⟩, st348⟩ := Jvm.LawKit.callS X347 hx (y := (⟨own_K1, "at", "([ZI)Z"⟩ : MethodName)) hown (mvT hZ (W 38 rfl)) (mvT hZ (W 39 rfl)) (mvT hZ (W 40 rfl)) (mvT hZ (W 41 rfl)) (by decide) (backOf (W := 0) (rm6in l Z a0 hw [] o23 (1 : Int32) k23 (2 : Int32) [(.int (own_g0_2 (1 : Int32) x7 x8 x10 x11 x12 x13 x15 x16)), (.int (own_g1_2 (1 : Int32) x7 x8 x10 x11 x12 x13 x15 x16))] (.int 0) (own_g1_2 (1 : Int32) x7 x8 x10 x11 x12 x13 x15 x16) hh n0 Z0 V_o23 (⟨by decide, by decide⟩) (rfl) (own_gb1_2 _ x7 x8 x10 x11 x12 x13 x15 x16)) hZ (W 41 rfl) (W 40 rfl) (by decide) (by decide)) (g := (mkF m 506 #[.val (.int p1), .val (.int p2), .val (.int p3), .val (.int p4), .val (.int p5), .val (.int p6), .val (.int x6), .val (.int x7), .val (.int x8), .val (.int x9), .val (.int x10), .val (.int x11), .val (.int x12), .val (.int x13), .val (.int x14), .val (.int x15), .val (.int x16), .val (.int 1), .val (.ref o18), .val (.int 2), .val (.int 3), .val (.int 4), .val (.int 5), .val (.ref o23), .val (.int r5), .val (.int r4), .val (.int r3), .val (.int r2), .val (.int r1), .val (.int r0)] [(.int 1), (.ref o23)])) rfl (by rw [hml]; rfl) (argsL := [(.ref o23), (.int 1)]) (rest := []) (lenOf pd_2 rfl) rfl (by show 2 * 0 + _ ≤ _; exact Nat.le_of_eq rfl) (hb hby at_506) (fun _ _ => ⟨rfl, e347, (by decide : 6 + 0 ≤ _), (by decide : 5131 + 0 ≤ _)⟩)
    dsimp only [Pt.U, Pt.locs, Pt.cells, Pt.slots] at X348 l348 y348 z348 st348 hQ348
    subst l348 y348 z348
    obtain ⟨rfl, N348q, e348⟩ := hQ348
    have N348 := Fr.app N347 N348q
    refine own_go st348 ?_
    refine own_go (fun _ k => XS.iload X348.here hx rfl (hb hby at_509) rfl k) ?_
    refine own_go (fun _ k => XS.icmpNo X348.here hx rfl (hb hby at_511) rfl (teq (hr1.symm : (own_g1_2 (1 : Int32) x7 x8 x10 x11 x12 x13 x15 x16) = r1)).2 k) ?_
    refine own_go (fun _ k => XS.aload X348.here hx rfl (hb hby at_514) rfl rfl k) ?_
    refine own_go (fun _ k => XS.iconst X348.here hx rfl (hb hby at_516) k) ?_
    obtain ⟨_, _, ⟨T349, L349, k349, n349⟩, -, X349, ⟨Lc349, hQ349, l349, y349, z349⟩, st349⟩ := Jvm.LawKit.callS X348 hx (y := (⟨own_K1, "at", "([ZI)Z"⟩ : MethodName)) hown (mvT hZ (W 38 rfl)) (mvT hZ (W 39 rfl)) (mvT hZ (W 40 rfl)) (mvT hZ (W 41 rfl)) (by decide) (backOf (W := 0) (rm6out l Z a0 hw [] o23 (2 : Int32) k23 (2 : Int32) [(.int (own_g0_2 (1 : Int32) x7 x8 x10 x11 x12 x13 x15 x16)), (.int (own_g1_2 (1 : Int32) x7 x8 x10 x11 x12 x13 x15 x16))] (.int 0) hh n0 Z0 V_o23 (by decide)) hZ (W 41 rfl) (W 40 rfl) (by decide) (by decide)) (g := (mkF m 517 #[.val (.int p1), .val (.int p2), .val (.int p3), .val (.int p4), .val (.int p5), .val (.int p6), .val (.int x6), .val (.int x7), .val (.int x8), .val (.int x9), .val (.int x10), .val (.int x11), .val (.int x12), .val (.int x13), .val (.int x14), .val (.int x15), .val (.int x16), .val (.int 1), .val (.ref o18), .val (.int 2), .val (.int 3), .val (.int 4), .val (.int 5), .val (.ref o23), .val (.int r5), .val (.int r4), .val (.int r3), .val (.int r2), .val (.int r1), .val (.int r0)] [(.int 2), (.ref o23)])) rfl (by rw [hml]; rfl) (argsL := [(.ref o23), (.int 2)]) (rest := []) (lenOf pd_2 rfl) rfl (by show 2 * 0 + _ ≤ _; exact Nat.le_of_eq rfl) (hb hby at_517) (fun _ _ => ⟨rfl, e348, (by decide : 6 + 0 ≤ _), (by decide : 5131 + 0 ≤ _)⟩)
    dsimp only [Pt.U, Pt.locs, Pt.cells, Pt.slots] at X349 l349 y349 z349 st349 hQ349
    subst l349 y349 z349
    obtain ⟨rfl, N349q, e349⟩ := hQ349
    have N349 := Fr.app N348 N349q
    refine own_go st349 ?_
    refine own_go (fun _ k => XS.iload X349.here hx rfl (hb hby at_520) rfl k) ?_
    refine own_go (fun _ k => XS.icmpNo X349.here hx rfl (hb hby at_522) rfl (teq ((hr2.trans (own_v1_2_3 x7 x8 x10 x11 x12 x13 x15 x16)).symm : (0 : Int32) = r2)).2 k) ?_
    show own_Run p e below _ T349 (mkF m 525 #[.val (.int p1), .val (.int p2), .val (.int p3), .val (.int p4), .val (.int p5), .val (.int p6), .val (.int x6), .val (.int x7), .val (.int x8), .val (.int x9), .val (.int x10), .val (.int x11), .val (.int x12), .val (.int x13), .val (.int x14), .val (.int x15), .val (.int x16), .val (.int 1), .val (.ref o18), .val (.int 2), .val (.int 3), .val (.int 4), .val (.int 5), .val (.ref o23), .val (.int r5), .val (.int r4), .val (.int r3), .val (.int r2), .val (.int r1), .val (.int r0)] [])
    refine own_go (fun _ k => XS.aload X349.here hx rfl (hb hby at_525) rfl rfl k) ?_
    refine own_go (fun _ k => XS.iconst X349.here hx rfl (hb hby at_527) k) ?_
    obtain ⟨_, _, ⟨T350, L350, k350, n350⟩, -, X350, ⟨Lc350, hQ350, l350, y350, z350⟩, st350⟩ := Jvm.LawKit.callS X349 hx (y := (⟨own_K1, "at", "([ZI)Z"⟩ : MethodName)) hown (mvT hZ (W 38 rfl)) (mvT hZ (W 39 rfl)) (mvT hZ (W 40 rfl)) (mvT hZ (W 41 rfl)) (by decide) (backOf (W := 0) (rm6out l Z a0 hw [] o23 (3 : Int32) k23 (2 : Int32) [(.int (own_g0_2 (1 : Int32) x7 x8 x10 x11 x12 x13 x15 x16)), (.int (own_g1_2 (1 : Int32) x7 x8 x10 x11 x12 x13 x15 x16))] (.int 0) hh n0 Z0 V_o23 (by decide)) hZ (W 41 rfl) (W 40 rfl) (by decide) (by decide)) (g := (mkF m 528 #[.val (.int p1), .val (.int p2), .val (.int p3), .val (.int p4), .val (.int p5), .val (.int p6), .val (.int x6), .val (.int x7), .val (.int x8), .val (.int x9), .val (.int x10), .val (.int x11), .val (.int x12), .val (.int x13), .val (.int x14), .val (.int x15), .val (.int x16), .val (.int 1), .val (.ref o18), .val (.int 2), .val (.int 3), .val (.int 4), .val (.int 5), .val (.ref o23), .val (.int r5), .val (.int r4), .val (.int r3), .val (.int r2), .val (.int r1), .val (.int r0)] [(.int 3), (.ref o23)])) rfl (by rw [hml]; rfl) (argsL := [(.ref o23), (.int 3)]) (rest := []) (lenOf pd_2 rfl) rfl (by show 2 * 0 + _ ≤ _; exact Nat.le_of_eq rfl) (hb hby at_528) (fun _ _ => ⟨rfl, e349, (by decide : 6 + 0 ≤ _), (by decide : 5131 + 0 ≤ _)⟩)
    dsimp only [Pt.U, Pt.locs, Pt.cells, Pt.slots] at X350 l350 y350 z350 st350 hQ350
    subst l350 y350 z350
    obtain ⟨rfl, N350q, e350⟩ := hQ350
    have N350 := Fr.app N349 N350q
    refine own_go st350 ?_
    refine own_go (fun _ k => XS.iload X350.here hx rfl (hb hby at_531) rfl k) ?_
    refine own_go (fun _ k => XS.icmpNo X350.here hx rfl (hb hby at_533) rfl (teq ((hr3.trans (own_v1_3_4 x7 x8 x10 x11 x12 x13 x15 x16)).symm : (0 : Int32) = r3)).2 k) ?_
    refine own_go (fun _ k => XS.aload X350.here hx rfl (hb hby at_536) rfl rfl k) ?_
    refine own_go (fun _ k => XS.iconst X350.here hx rfl (hb hby at_538) k) ?_
    obtain ⟨_, _, ⟨T351, L351, k351, n351⟩, -, X351, ⟨Lc351, hQ351, l351, y351, z351⟩, st351⟩ := Jvm.LawKit.callS X350 hx (y := (⟨own_K1, "at", "([ZI)Z"⟩ : MethodName)) hown (mvT hZ (W 38 rfl)) (mvT hZ (W 39 rfl)) (mvT hZ (W 40 rfl)) (mvT hZ (W 41 rfl)) (by decide) (backOf (W := 0) (rm6out l Z a0 hw [] o23 (4 : Int32) k23 (2 : Int32) [(.int (own_g0_2 (1 : Int32) x7 x8 x10 x11 x12 x13 x15 x16)), (.int (own_g1_2 (1 : Int32) x7 x8 x10 x11 x12 x13 x15 x16))] (.int 0) hh n0 Z0 V_o23 (by decide)) hZ (W 41 rfl) (W 40 rfl) (by decide) (by decide)) (g := (mkF m 539 #[.val (.int p1), .val (.int p2), .val (.int p3), .val (.int p4), .val (.int p5), .val (.int p6), .val (.int x6), .val (.int x7), .val (.int x8), .val (.int x9), .val (.int x10), .val (.int x11), .val (.int x12), .val (.int x13), .val (.int x14), .val (.int x15), .val (.int x16), .val (.int 1), .val (.ref o18), .val (.int 2), .val (.int 3), .val (.int 4), .val (.int 5), .val (.ref o23), .val (.int r5), .val (.int r4), .val (.int r3), .val (.int r2), .val (.int r1), .val (.int r0)] [(.int 4), (.ref o23)])) rfl (by rw [hml]; rfl) (argsL := [(.ref o23), (.int 4)]) (rest := []) (lenOf pd_2 rfl) rfl (by show 2 * 0 + _ ≤ _; exact Nat.le_of_eq rfl) (hb hby at_539) (fun _ _ => ⟨rfl, e350, (by decide : 6 + 0 ≤ _), (by decide : 5131 + 0 ≤ _)⟩)
    dsimp only [Pt.U, Pt.locs, Pt.cells, Pt.slots] at X351 l351 y351 z351 st351 hQ351
    subst l351 y351 z351
    obtain ⟨rfl, N351q, e351⟩ := hQ351
    have N351 := Fr.app N350 N351q
    refine own_go st351 ?_
    show own_Run p e below _ T351 (mkF m 542 #[.val (.int p1), .val (.int p2), .val (.int p3), .val (.int p4), .val (.int p5), .val (.int p6), .val (.int x6), .val (.int x7), .val (.int x8), .val (.int x9), .val (.int x10), .val (.int x11), .val (.int x12), .val (.int x13), .val (.int x14), .val (.int x15), .val (.int x16), .val (.int 1), .val (.ref o18), .val (.int 2), .val (.int 3), .val (.int 4), .val (.int 5), .val (.ref o23), .val (.int r5), .val (.int r4), .val (.int r3), .val (.int r2), .val (.int r1), .val (.int r0)] [(.int 0)])
    refine own_go (fun _ k => XS.iload X351.here hx rfl (hb hby at_542) rfl k) ?_
    refine own_go (fun _ k => XS.icmpNo X351.here hx rfl (hb hby at_544) rfl (teq ((hr4.trans (own_v1_4_5 x7 x8 x10 x11 x12 x13 x15 x16)).symm : (0 : Int32) = r4)).2 k) ?_
    refine own_go (fun _ k => XS.aload X351.here hx rfl (hb hby at_547) rfl rfl k) ?_
    refine own_go (fun _ k => XS.iconst X351.here hx rfl (hb hby at_549) k) ?_
    obtain ⟨_, _, ⟨T352, L352, k352, n352⟩, -, X352, ⟨Lc352, hQ352, l352, y352, z352⟩, st352⟩ := Jvm.LawKit.callS X351 hx (y := (⟨own_K1, "at", "([ZI)Z"⟩ : MethodName)) hown (mvT hZ (W 38 rfl)) (mvT hZ (W 39 rfl)) (mvT hZ (W 40 rfl)) (mvT hZ (W 41 rfl)) (by decide) (backOf (W := 0) (rm6out l Z a0 hw [] o23 (5 : Int32) k23 (2 : Int32) [(.int (own_g0_2 (1 : Int32) x7 x8 x10 x11 x12 x13 x15 x16)), (.int (own_g1_2 (1 : Int32) x7 x8 x10 x11 x12 x13 x15 x16))] (.int 0) hh n0 Z0 V_o23 (by decide)) hZ (W 41 rfl) (W 40 rfl) (by decide) (by decide)) (g := (mkF m 550 #[.val (.int p1), .val (.int p2), .val (.int p3), .val (.int p4), .val (.int p5), .val (.int p6), .val (.int x6), .val (.int x7), .val (.int x8), .val (.int x9), .val (.int x10), .val (.int x11), .val (.int x12), .val (.int x13), .val (.int x14), .val (.int x15), .val (.int x16), .val (.int 1), .val (.ref o18), .val (.int 2), .val (.int 3), .val (.int 4), .val (.int 5), .val (.ref o23), .val (.int r5), .val (.int r4), .val (.int r3), .val (.int r2), .val (.int r1), .val (.int r0)] [(.int 5), (.ref o23)])) rfl (by rw [hml]; rfl) (argsL := [(.ref o23), (.int 5)]) (rest := []) (lenOf pd_2 rfl) rfl (by show 2 * 0 + _ ≤ _; exact Nat.le_of_eq rfl) (hb hby at_550) (fun _ _ => ⟨rfl, e351, (by decide : 6 + 0 ≤ _), (by decide : 5131 + 0 ≤ _)⟩)
    dsimp only [Pt.U, Pt.locs, Pt.cells, Pt.slots] at X352 l352 y352 z352 st352 hQ352
    subst l352 y352 z352
    obtain ⟨rfl, N352q, e352⟩ := hQ352
    have N352 := Fr.app N351 N352q
    refine own_go st352 ?_
    refine own_go (fun _ k => XS.iload X352.here hx rfl (hb hby at_553) rfl k) ?_
    refine own_go (fun _ k => XS.icmpNo X352.here hx rfl (hb hby at_555) rfl (teq ((hr5.trans (own_v1_5_6 x7 x8 x10 x11 x12 x13 x15 x16)).symm : (0 : Int32) = r5)).2 k) ?_
    refine own_go (fun _ k => XS.iconst X352.here hx rfl (hb hby at_558) k) ?_
    show own_Run p e below _ T352 (mkF m 559 #[.val (.int p1), .val (.int p2), .val (.int p3), .val (.int p4), .val (.int p5), .val (.int p6), .val (.int x6), .val (.int x7), .val (.int x8), .val (.int x9), .val (.int x10), .val (.int x11), .val (.int x12), .val (.int x13), .val (.int x14), .val (.int x15), .val (.int x16), .val (.int 1), .val (.ref o18), .val (.int 2), .val (.int 3), .val (.int 4), .val (.int 5), .val (.ref o23), .val (.int r5), .val (.int r4), .val (.int r3), .val (.int r2), .val (.int r1), .val (.int r0)] [(.int 1)])
    refine own_go (fun _ k => XS.goto X352.here hx rfl (pc0 := 559) (pc' := 563) rfl (hb hby at_559) (by decide) (by decide) k) ?_
    refine own_done (Q := fun v h L => Q0 Z p1 p2 p3 p4 p5 p6 h0 n0 v h L) (v := (some (.int 1))) X352 (fun h => by rw [hret] at h; cases h) hlk (fun fs hr => retN X352 hx (t := .boolean) hret (by simp) (hb hby at_563) hr) ?_ (by decide) (by decide)
    show Q0 Z p1 p2 p3 p4 p5 p6 h0 n0 _ T352.heap _
    rw [e352]
    exact ⟨rfl, N352⟩
  · show own_Run p e below _ T0 (mkF m 458 #[.val (.int p1), .val (.int p2), .val (.int p3), .val (.int p4), .val (.int p5), .val (.int p6), .val (.int x6), .val (.int x7), .val (.int x8), .val (.int x9), .val (.int x10), .val (.int x11), .val (.int x12), .val (.int x13), .val (.int x14), .val (.int x15), .val (.int x16), .val (.int 2), .val (.ref o18), .val (.int 2), .val (.int 3), .val (.int 4), .val (.int 5), .val (.ref o23), .val (.int r5), .val (.int r4), .val (.int r3), .val (.int r2), .val (.int r1), .val (.int r0)] [])
    refine own_go (fun _ k => XS.iload X0.here hx rfl (hb hby at_458) rfl k) ?_
    refine own_go (fun _ k => XS.iconst X0.here hx rfl (hb hby at_460) k) ?_
    refine own_go (fun _ k => XS.icmpNo X0.here hx rfl (hb hby at_461) rfl (teq (by decide : (2 : Int32) = (2 : Int32))).2 k) ?_
    refine own_go (fun _ k => XS.iload X0.here hx rfl (hb hby at_464) rfl k) ?_
    refine own_go (fun _ k => XS.iconst X0.here hx rfl (hb hby at_466) k) ?_
    refine own_go (fun _ k => XS.icmpNo X0.here hx rfl (hb hby at_467) rfl (teq (by decide : (3 : Int32) = (3 : Int32))).2 k) ?_
    refine own_go (fun _ k => XS.iload X0.here hx rfl (hb hby at_470) rfl k) ?_
    refine own_go (fun _ k => XS.iconst X0.here hx rfl (hb hby at_472) k) ?_
    show own_Run p e below _ T0 (mkF m 473 #[.val (.int p1), .val (.int p2), .val (.int p3), .val (.int p4), .val (.int p5), .val (.int p6), .val (.int x6), .val (.int x7), .val (.int x8), .val (.int x9), .val (.int x10), .val (.int x11), .val (.int x12), .val (.int x13), .val (.int x14), .val (.int x15), .val (.int x16), .val (.int 2), .val (.ref o18), .val (.int 2), .val (.int 3), .val (.int 4), .val (.int 5), .val (.ref o23), .val (.int r5), .val (.int r4), .val (.int r3), .val (.int r2), .val (.int r1), .val (.int r0)] [(.int 4), (.int 4)])
    refine own_go (fun _ k => XS.icmpNo X0.here hx rfl (hb hby at_473) rfl (teq (by decide : (4 : Int32) = (4 : Int32))).2 k) ?_
    refine own_go (fun _ k => XS.iload X0.here hx rfl (hb hby at_476) rfl k) ?_
    refine own_go (fun _ k => XS.iconst X0.here hx rfl (hb hby at_478) k) ?_
    refine own_go (fun _ k => XS.icmpNo X0.here hx rfl (hb hby at_479) rfl (teq (by decide : (5 : Int32) = (5 : Int32))).2 k) ?_
    refine own_go (fun _ k => XS.aload X0.here hx rfl (hb hby at_482) rfl rfl k) ?_
    obtain ⟨cl353, Ar353, q353, S353, N353, H353, G353⟩ := id V_o23
    refine own_go (X0.arraylength hx (by rw [e0]; exact Ar353.1) (State.isArrayOf_alike hZ.alike Ar353.2.1) (g := (mkF m 484 #[.val (.int p1), .val (.int p2), .val (.int p3), .val (.int p4), .val (.int p5), .val (.int p6), .val (.int x6), .val (.int x7), .val (.int x8), .val (.int x9), .val (.int x10), .val (.int x11), .val (.int x12), .val (.int x13), .val (.int x14), .val (.int x15), .val (.int x16), .val (.int 2), .val (.ref o18), .val (.int 2), .val (.int 3), .val (.int 4), .val (.int 5), .val (.ref o23), .val (.int r5), .val (.int r4), .val (.int r3), .val (.int r2), .val (.int r1), .val (.int r0)] [(.ref o23)])) rfl rfl (hb hby at_484)) ?_
    rw [len_of S353 N353]
    refine own_go (fun _ k => XS.iload X0.here hx rfl (hb hby at_485) rfl k) ?_
    refine own_go (fun _ k => XS.iconst X0.here hx rfl (hb hby at_487) k) ?_
    show own_Run p e below _ T0 (mkF m 488 #[.val (.int p1), .val (.int p2), .val (.int p3), .val (.int p4), .val (.int p5), .val (.int p6), .val (.int x6), .val (.int x7), .val (.int x8), .val (.int x9), .val (.int x10), .val (.int x11), .val (.int x12), .val (.int x13), .val (.int x14), .val (.int x15), .val (.int x16), .val (.int 2), .val (.ref o18), .val (.int 2), .val (.int 3), .val (.int 4), .val (.int 5), .val (.ref o23), .val (.int r5), .val (.int r4), .val (.int r3), .val (.int r2), .val (.int r1), .val (.int r0)] [(.int 1), (.int 2), (.int 3)])
    refine own_go (fun _ k => XS.iadd X0.here hx rfl (hb hby at_488) rfl k) ?_
    show own_Run p e below _ T0 (mkF m 489 #[.val (.int p1), .val (.int p2), .val (.int p3), .val (.int p4), .val (.int p5), .val (.int p6), .val (.int x6), .val (.int x7), .val (.int x8), .val (.int x9), .val (.int x10), .val (.int x11), .val (.int x12), .val (.int x13), .val (.int x14), .val (.int x15), .val (.int x16), .val (.int 2), .val (.ref o18), .val (.int 2), .val (.int 3), .val (.int 4), .val (.int 5), .val (.ref o23), .val (.int r5), .val (.int r4), .val (.int r3), .val (.int r2), .val (.int r1), .val (.int r0)] [(.int ((2 : Int32) + (1 : Int32))), (.int 3)])
    rw [show ((2 : Int32) + (1 : Int32)) = (3 : Int32) by decide]
    refine own_go (fun _ k => XS.icmpNo X0.here hx rfl (hb hby at_489) rfl (teq (by decide : (3 : Int32) = (3 : Int32))).2 k) ?_
    refine own_go (fun _ k => XS.aload X0.here hx rfl (hb hby at_492) rfl rfl k) ?_
    refine own_go (fun _ k => XS.iconst X0.here hx rfl (hb hby at_494) k) ?_
    obtain ⟨_, _, ⟨T354, L354, k354, n354⟩, -, X354, ⟨Lc354, hQ354, l354, y354, z354⟩, st354⟩ := Jvm.LawKit.callS X0 hx (y := (⟨own_K1, "at", "([ZI)Z"⟩ : MethodName)) hown (mvT hZ (W 38 rfl)) (mvT hZ (W 39 rfl)) (mvT hZ (W 40 rfl)) (mvT hZ (W 41 rfl)) (by decide) (backOf (W := 0) (rm6in l Z a0 hw [] o23 (0 : Int32) k23 (3 : Int32) [(.int (own_g0_2 (2 : Int32) x7 x8 x10 x11 x12 x13 x15 x16)), (.int (own_g1_2 (2 : Int32) x7 x8 x10 x11 x12 x13 x15 x16)), (.int (own_g2_3 (2 : Int32) x7 x8 x10 x11 x12 x13 x15 x16))] (.int 0) (own_g0_2 (2 : Int32) x7 x8 x10 x11 x12 x13 x15 x16) hh n0 Z0 V_o23 (⟨by decide, by decide⟩) (rfl) (own_gb0_2 _ x7 x8 x10 x11 x12 x13 x15 x16)) hZ (W 41 rfl) (W 40 rfl) (by decide) (by decide)) (g := (mkF m 495 #[.val (.int p1), .val (.int p2), .val (.int p3), .val (.int p4), .val (.int p5), .val (.int p6), .val (.int x6), .val (.int x7), .val (.int x8), .val (.int x9), .val (.int x10), .val (.int x11), .val (.int x12), .val (.int x13), .val (.int x14), .val (.int x15), .val (.int x16), .val (.int 2), .val (.ref o18), .val (.int 2), .val (.int 3), .val (.int 4), .val (.int 5), .val (.ref o23), .val (.int r5), .val (.int r4), .val (.int r3), .val (.int r2), .val (.int r1), .val (.int r0)] [(.int 0), (.ref o23)])) rfl (by rw [hml]; rfl) (argsL := [(.ref o23), (.int 0)]) (rest := []) (lenOf pd_2 rfl) rfl (by show 2 * 0 + _ ≤ _; exact Nat.le_of_eq rfl) (hb hby at_495) (fun _ _ => ⟨rfl, e0, (by decide : 6 + 0 ≤ _), (by decide : 5131 + 0 ≤ _)⟩)
    dsimp only [Pt.U, Pt.locs, Pt.cells, Pt.slots] at X354 l354 y354 z354 st354 hQ354
    subst l354 y354 z354
    obtain ⟨rfl, N354q, e354⟩ := hQ354
    have N354 := Fr.app N0 N354q
    refine own_go st354 ?_
    refine own_go (fun _ k => XS.iload X354.here hx rfl (hb hby at_498) rfl k) ?_
    refine own_go (fun _ k => XS.icmpNo X354.here hx rfl (hb hby at_500) rfl (teq (hr0.symm : (own_g0_2 (2 : Int32) x7 x8 x10 x11 x12 x13 x15 x16) = r0)).2 k) ?_
    refine own_go (fun _ k => XS.aload X354.here hx rfl (hb hby at_503) rfl rfl k) ?_
    refine own_go (fun _ k => XS.iconst X354.here hx rfl (hb hby at_505) k) ?_
    show own_Run p e below _ T354 (mkF m 506 #[.val (.int p1), .val (.int p2), .val (.int p3), .val (.int p4), .val (.int p5), .val (.int p6), .val (.int x6), .val (.int x7), .val (.int x8), .val (.int x9), .val (.int x10), .val (.int x11), .val (.int x12), .val (.int x13), .val (.int x14), .val (.int x15), .val (.int x16), .val (.int 2), .val (.ref o18), .val (.int 2), .val (.int 3), .val (.int 4), .val (.int 5), .val (.ref o23), .val (.int r5), .val (.int r4), .val (.int r3), .val (.int r2), .val (.int r1), .val (.int r0)] [(.int 1), (.ref o23)])
    obtain ⟨_, _, ⟨T355, L355, k355, n355⟩, -, X355, ⟨Lc355, hQ355, l355, y355, z355⟩, st355⟩ := Jvm.LawKit.callS X354 hx (y := (⟨own_K1, "at", "([ZI)Z"⟩ : MethodName)) hown (mvT hZ (W 38 rfl)) (mvT hZ (W 39 rfl)) (mvT hZ (W 40 rfl)) (mvT hZ (W 41 rfl)) (by decide) (backOf (W := 0) (rm6in l Z a0 hw [] o23 (1 : Int32) k23 (3 : Int32) [(.int (own_g0_2 (2 : Int32) x7 x8 x10 x11 x12 x13 x15 x16)), (.int (own_g1_2 (2 : Int32) x7 x8 x10 x11 x12 x13 x15 x16)), (.int (own_g2_3 (2 : Int32) x7 x8 x10 x11 x12 x13 x15 x16))] (.int 0) (own_g1_2 (2 : Int32) x7 x8 x10 x11 x12 x13 x15 x16) hh n0 Z0 V_o23 (⟨by decide, by decide⟩) (rfl) (own_gb1_2 _ x7 x8 x10 x11 x12 x13 x15 x16)) hZ (W 41 rfl) (W 40 rfl) (by decide) (by decide)) (g := (mkF m 506 #[.val (.int p1), .val (.int p2), .val (.int p3), .val (.int p4), .val (.int p5), .val (.int p6), .val (.int x6), .val (.int x7), .val (.int x8), .val (.int x9), .val (.int x10), .val (.int x11), .val (.int x12), .val (.int x13), .val (.int x14), .val (.int x15), .val (.int x16), .val (.int 2), .val (.ref o18), .val (.int 2), .val (.int 3), .val (.int 4), .val (.int 5), .val (.ref o23), .val (.int r5), .val (.int r4), .val (.int r3), .val (.int r2), .val (.int r1), .val (.int r0)] [(.int 1), (.ref o23)])) rfl (by rw [hml]; rfl) (argsL := [(.ref o23), (.int 1)]) (rest := []) (lenOf pd_2 rfl) rfl (by show 2 * 0 + _ ≤ _; exact Nat.le_of_eq rfl) (hb hby at_506) (fun _ _ => ⟨rfl, e354, (by decide : 6 + 0 ≤ _), (by decide : 5131 + 0 ≤ _)⟩)
    dsimp only [Pt.U, Pt.locs, Pt.cells, Pt.slots] at X355 l355 y355 z355 st355 hQ355
    subst l355 y355 z355
    obtain ⟨rfl, N355q, e355⟩ := hQ355
    have N355 := Fr.app N354 N355q
    refine own_go st355 ?_
    refine own_go (fun _ k => XS.iload X355.here hx rfl (hb hby at_509) rfl k) ?_
    refine own_go (fun _ k => XS.icmpNo X355.here hx rfl (hb hby at_511) rfl (teq (hr1.symm : (own_g1_2 (2 : Int32) x7 x8 x10 x11 x12 x13 x15 x16) = r1)).2 k) ?_
    refine own_go (fun _ k => XS.aload X355.here hx rfl (hb hby at_514) rfl rfl k) ?_
    refine own_go (fun _ k => XS.iconst X355.here hx rfl (hb hby at_516) k) ?_
    obtain ⟨_, _, ⟨T356, L356, k356, n356⟩, -, X356, ⟨Lc356, hQ356, l356, y356, z356⟩, st356⟩ := Jvm.LawKit.callS X355 hx (y := (⟨own_K1, "at", "([ZI)Z"⟩ : MethodName)) hown (mvT hZ (W 38 rfl)) (mvT hZ (W 39 rfl)) (mvT hZ (W 40 rfl)) (mvT hZ (W 41 rfl)) (by decide) (backOf (W := 0) (rm6in l Z a0 hw [] o23 (2 : Int32) k23 (3 : Int32) [(.int (own_g0_2 (2 : Int32) x7 x8 x10 x11 x12 x13 x15 x16)), (.int (own_g1_2 (2 : Int32) x7 x8 x10 x11 x12 x13 x15 x16)), (.int (own_g2_3 (2 : Int32) x7 x8 x10 x11 x12 x13 x15 x16))] (.int 0) (own_g2_3 (2 : Int32) x7 x8 x10 x11 x12 x13 x15 x16) hh n0 Z0 V_o23 (⟨by decide, by decide⟩) (rfl) (own_gb2_3 _ x7 x8 x10 x11 x12 x13 x15 x16)) hZ (W 41 rfl) (W 40 rfl) (by decide) (by decide)) (g := (mkF m 517 #[.val (.int p1), .val (.int p2), .val (.int p3), .val (.int p4), .val (.int p5), .val (.int p6), .val (.int x6), .val (.int x7), .val (.int x8), .val (.int x9), .val (.int x10), .val (.int x11), .val (.int x12), .val (.int x13), .val (.int x14), .val (.int x15), .val (.int x16), .val (.int 2), .val (.ref o18), .val (.int 2), .val (.int 3), .val (.int 4), .val (.int 5), .val (.ref o23), .val (.int r5), .val (.int r4), .val (.int r3), .val (.int r2), .val (.int r1), .val (.int r0)] [(.int 2), (.ref o23)])) rfl (by rw [hml]; rfl) (argsL := [(.ref o23), (.int 2)]) (rest := []) (lenOf pd_2 rfl) rfl (by show 2 * 0 + _ ≤ _; exact Nat.le_of_eq rfl) (hb hby at_517) (fun _ _ => ⟨rfl, e355, (by decide : 6 + 0 ≤ _), (by decide : 5131 + 0 ≤ _)⟩)
    dsimp only [Pt.U, Pt.locs, Pt.cells, Pt.slots] at X356 l356 y356 z356 st356 hQ356
    subst l356 y356 z356
    obtain ⟨rfl, N356q, e356⟩ := hQ356
    have N356 := Fr.app N355 N356q
    refine own_go st356 ?_
    refine own_go (fun _ k => XS.iload X356.here hx rfl (hb hby at_520) rfl k) ?_
    refine own_go (fun _ k => XS.icmpNo X356.here hx rfl (hb hby at_522) rfl (teq (hr2.symm : (own_g2_3 (2 : Int32) x7 x8 x10 x11 x12 x13 x15 x16) = r2)).2 k) ?_
    show own_Run p e below _ T356 (mkF m 525 #[.val (.int p1), .val (.int p2), .val (.int p3), .val (.int p4), .val (.int p5), .val (.int p6), .val (.int x6), .val (.int x7), .val (.int x8), .val (.int x9), .val (.int x10), .val (.int x11), .val (.int x12), .val (.int x13), .val (.int x14), .val (.int x15), .val (.int x16), .val (.int 2), .val (.ref o18), .val (.int 2), .val (.int 3), .val (.int 4), .val (.int 5), .val (.ref o23), .val (.int r5), .val (.int r4), .val (.int r3), .val (.int r2), .val (.int r1), .val (.int r0)] [])
    refine own_go (fun _ k => XS.aload X356.here hx rfl (hb hby at_525) rfl rfl k) ?_
    refine own_go (fun _ k => XS.iconst X356.here hx rfl (hb hby at_527) k) ?_
    obtain ⟨_, _, ⟨T357, L357, k357, n357⟩, -, X357, ⟨Lc357, hQ357, l357, y357, z357⟩, st357⟩ := Jvm.LawKit.callS X356 hx (y := (⟨own_K1, "at", "([ZI)Z"⟩ : MethodName)) hown (mvT hZ (W 38 rfl)) (mvT hZ (W 39 rfl)) (mvT hZ (W 40 rfl)) (mvT hZ (W 41 rfl)) (by decide) (backOf (W := 0) (rm6out l Z a0 hw [] o23 (3 : Int32) k23 (3 : Int32) [(.int (own_g0_2 (2 : Int32) x7 x8 x10 x11 x12 x13 x15 x16)), (.int (own_g1_2 (2 : Int32) x7 x8 x10 x11 x12 x13 x15 x16)), (.int (own_g2_3 (2 : Int32) x7 x8 x10 x11 x12 x13 x15 x16))] (.int 0) hh n0 Z0 V_o23 (by decide)) hZ (W 41 rfl) (W 40 rfl) (by decide) (by decide)) (g := (mkF m 528 #[.val (.int p1), .val (.int p2), .val (.int p3), .val (.int p4), .val (.int p5), .val (.int p6), .val (.int x6), .val (.int x7), .val (.int x8), .val (.int x9), .val (.int x10), .val (.int x11), .val (.int x12), .val (.int x13), .val (.int x14), .val (.int x15), .val (.int x16), .val (.int 2), .val (.ref o18), .val (.int 2), .val (.int 3), .val (.int 4), .val (.int 5), .val (.ref o23), .val (.int r5), .val (.int r4), .val (.int r3), .val (.int r2), .val (.int r1), .val (.int r0)] [(.int 3), (.ref o23)])) rfl (by rw [hml]; rfl) (argsL := [(.ref o23), (.int 3)]) (rest := []) (lenOf pd_2 rfl) rfl (by show 2 * 0 + _ ≤ _; exact Nat.le_of_eq rfl) (hb hby at_528) (fun _ _ => ⟨rfl, e356, (by decide : 6 + 0 ≤ _), (by decide : 5131 + 0 ≤ _)⟩)
    dsimp only [Pt.U, Pt.locs, Pt.cells, Pt.slots] at X357 l357 y357 z357 st357 hQ357
    subst l357 y357 z357
    obtain ⟨rfl, N357q, e357⟩ := hQ357
    have N357 := Fr.app N356 N357q
    refine own_go st357 ?_
    refine own_go (fun _ k => XS.iload X357.here hx rfl (hb hby at_531) rfl k) ?_
    refine own_go (fun _ k => XS.icmpNo X357.here hx rfl (hb hby at_533) rfl (teq ((hr3.trans (own_v2_3_4 x7 x8 x10 x11 x12 x13 x15 x16)).symm : (0 : Int32) = r3)).2 k) ?_
    refine own_go (fun _ k => XS.aload X357.here hx rfl (hb hby at_536) rfl rfl k) ?_
    refine own_go (fun _ k => XS.iconst X357.here hx rfl (hb hby at_538) k) ?_
    obtain ⟨_, _, ⟨T358, L358, k358, n358⟩, -, X358, ⟨Lc358, hQ358, l358, y358, z358⟩, st358⟩ := Jvm.LawKit.callS X357 hx (y := (⟨own_K1, "at", "([ZI)Z"⟩ : MethodName)) hown (mvT hZ (W 38 rfl)) (mvT hZ (W 39 rfl)) (mvT hZ (W 40 rfl)) (mvT hZ (W 41 rfl)) (by decide) (backOf (W := 0) (rm6out l Z a0 hw [] o23 (4 : Int32) k23 (3 : Int32) [(.int (own_g0_2 (2 : Int32) x7 x8 x10 x11 x12 x13 x15 x16)), (.int (own_g1_2 (2 : Int32) x7 x8 x10 x11 x12 x13 x15 x16)), (.int (own_g2_3 (2 : Int32) x7 x8 x10 x11 x12 x13 x15 x16))] (.int 0) hh n0 Z0 V_o23 (by decide)) hZ (W 41 rfl) (W 40 rfl) (by decide) (by decide)) (g := (mkF m 539 #[.val (.int p1), .val (.int p2), .val (.int p3), .val (.int p4), .val (.int p5), .val (.int p6), .val (.int x6), .val (.int x7), .val (.int x8), .val (.int x9), .val (.int x10), .val (.int x11), .val (.int x12), .val (.int x13), .val (.int x14), .val (.int x15), .val (.int x16), .val (.int 2), .val (.ref o18), .val (.int 2), .val (.int 3), .val (.int 4), .val (.int 5), .val (.ref o23), .val (.int r5), .val (.int r4), .val (.int r3), .val (.int r2), .val (.int r1), .val (.int r0)] [(.int 4), (.ref o23)])) rfl (by rw [hml]; rfl) (argsL := [(.ref o23), (.int 4)]) (rest := []) (lenOf pd_2 rfl) rfl (by show 2 * 0 + _ ≤ _; exact Nat.le_of_eq rfl) (hb hby at_539) (fun _ _ => ⟨rfl, e357, (by decide : 6 + 0 ≤ _), (by decide : 5131 + 0 ≤ _)⟩)
    dsimp only [Pt.U, Pt.locs, Pt.cells, Pt.slots] at X358 l358 y358 z358 st358 hQ358
    subst l358 y358 z358
    obtain ⟨rfl, N358q, e358⟩ := hQ358
    have N358 := Fr.app N357 N358q
    refine own_go st358 ?_
    show own_Run p e below _ T358 (mkF m 542 #[.val (.int p1), .val (.int p2), .val (.int p3), .val (.int p4), .val (.int p5), .val (.int p6), .val (.int x6), .val (.int x7), .val (.int x8), .val (.int x9), .val (.int x10), .val (.int x11), .val (.int x12), .val (.int x13), .val (.int x14), .val (.int x15), .val (.int x16), .val (.int 2), .val (.ref o18), .val (.int 2), .val (.int 3), .val (.int 4), .val (.int 5), .val (.ref o23), .val (.int r5), .val (.int r4), .val (.int r3), .val (.int r2), .val (.int r1), .val (.int r0)] [(.int 0)])
    refine own_go (fun _ k => XS.iload X358.here hx rfl (hb hby at_542) rfl k) ?_
    refine own_go (fun _ k => XS.icmpNo X358.here hx rfl (hb hby at_544) rfl (teq ((hr4.trans (own_v2_4_5 x7 x8 x10 x11 x12 x13 x15 x16)).symm : (0 : Int32) = r4)).2 k) ?_
    refine own_go (fun _ k => XS.aload X358.here hx rfl (hb hby at_547) rfl rfl k) ?_
    refine own_go (fun _ k => XS.iconst X358.here hx rfl (hb hby at_549) k) ?_
    obtain ⟨_, _, ⟨T359, L359, k359, n359⟩, -, X359, ⟨Lc359, hQ359, l359, y359, z359⟩, st359⟩ := Jvm.LawKit.callS X358 hx (y := (⟨own_K1, "at", "([ZI)Z"⟩ : MethodName)) hown (mvT hZ (W 38 rfl)) (mvT hZ (W 39 rfl)) (mvT hZ (W 40 rfl)) (mvT hZ (W 41 rfl)) (by decide) (backOf (W := 0) (rm6out l Z a0 hw [] o23 (5 : Int32) k23 (3 : Int32) [(.int (own_g0_2 (2 : Int32) x7 x8 x10 x11 x12 x13 x15 x16)), (.int (own_g1_2 (2 : Int32) x7 x8 x10 x11 x12 x13 x15 x16)), (.int (own_g2_3 (2 : Int32) x7 x8 x10 x11 x12 x13 x15 x16))] (.int 0) hh n0 Z0 V_o23 (by decide)) hZ (W 41 rfl) (W 40 rfl) (by decide) (by decide)) (g := (mkF m 550 #[.val (.int p1), .val (.int p2), .val (.int p3), .val (.int p4), .val (.int p5), .val (.int p6), .val (.int x6), .val (.int x7), .val (.int x8), .val (.int x9), .val (.int x10), .val (.int x11), .val (.int x12), .val (.int x13), .val (.int x14), .val (.int x15), .val (.int x16), .val (.int 2), .val (.ref o18), .val (.int 2), .val (.int 3), .val (.int 4), .val (.int 5), .val (.ref o23), .val (.int r5), .val (.int r4), .val (.int r3), .val (.int r2), .val (.int r1), .val (.int r0)] [(.int 5), (.ref o23)])) rfl (by rw [hml]; rfl) (argsL := [(.ref o23), (.int 5)]) (rest := []) (lenOf pd_2 rfl) rfl (by show 2 * 0 + _ ≤ _; exact Nat.le_of_eq rfl) (hb hby at_550) (fun _ _ => ⟨rfl, e358, (by decide : 6 + 0 ≤ _), (by decide : 5131 + 0 ≤ _)⟩)
    dsimp only [Pt.U, Pt.locs, Pt.cells, Pt.slots] at X359 l359 y359 z359 st359 hQ359
    subst l359 y359 z359
    obtain ⟨rfl, N359q, e359⟩ := hQ359
    have N359 := Fr.app N358 N359q
    refine own_go st359 ?_
    refine own_go (fun _ k => XS.iload X359.here hx rfl (hb hby at_553) rfl k) ?_
    refine own_go (fun _ k => XS.icmpNo X359.here hx rfl (hb hby at_555) rfl (teq ((hr5.trans (own_v2_5_6 x7 x8 x10 x11 x12 x13 x15 x16)).symm : (0 : Int32) = r5)).2 k) ?_
    refine own_go (fun _ k => XS.iconst X359.here hx rfl (hb hby at_558) k) ?_
    show own_Run p e below _ T359 (mkF m 559 #[.val (.int p1), .val (.int p2), .val (.int p3), .val (.int p4), .val (.int p5), .val (.int p6), .val (.int x6), .val (.int x7), .val (.int x8), .val (.int x9), .val (.int x10), .val (.int x11), .val (.int x12), .val (.int x13), .val (.int x14), .val (.int x15), .val (.int x16), .val (.int 2), .val (.ref o18), .val (.int 2), .val (.int 3), .val (.int 4), .val (.int 5), .val (.ref o23), .val (.int r5), .val (.int r4), .val (.int r3), .val (.int r2), .val (.int r1), .val (.int r0)] [(.int 1)])
    refine own_go (fun _ k => XS.goto X359.here hx rfl (pc0 := 559) (pc' := 563) rfl (hb hby at_559) (by decide) (by decide) k) ?_
    refine own_done (Q := fun v h L => Q0 Z p1 p2 p3 p4 p5 p6 h0 n0 v h L) (v := (some (.int 1))) X359 (fun h => by rw [hret] at h; cases h) hlk (fun fs hr => retN X359 hx (t := .boolean) hret (by simp) (hb hby at_563) hr) ?_ (by decide) (by decide)
    show Q0 Z p1 p2 p3 p4 p5 p6 h0 n0 _ T359.heap _
    rw [e359]
    exact ⟨rfl, N359⟩
  · show own_Run p e below _ T0 (mkF m 458 #[.val (.int p1), .val (.int p2), .val (.int p3), .val (.int p4), .val (.int p5), .val (.int p6), .val (.int x6), .val (.int x7), .val (.int x8), .val (.int x9), .val (.int x10), .val (.int x11), .val (.int x12), .val (.int x13), .val (.int x14), .val (.int x15), .val (.int x16), .val (.int 3), .val (.ref o18), .val (.int 2), .val (.int 3), .val (.int 4), .val (.int 5), .val (.ref o23), .val (.int r5), .val (.int r4), .val (.int r3), .val (.int r2), .val (.int r1), .val (.int r0)] [])
    refine own_go (fun _ k => XS.iload X0.here hx rfl (hb hby at_458) rfl k) ?_
    refine own_go (fun _ k => XS.iconst X0.here hx rfl (hb hby at_460) k) ?_
    refine own_go (fun _ k => XS.icmpNo X0.here hx rfl (hb hby at_461) rfl (teq (by decide : (2 : Int32) = (2 : Int32))).2 k) ?_
    refine own_go (fun _ k => XS.iload X0.here hx rfl (hb hby at_464) rfl k) ?_
    refine own_go (fun _ k => XS.iconst X0.here hx rfl (hb hby at_466) k) ?_
    refine own_go (fun _ k => XS.icmpNo X0.here hx rfl (hb hby at_467) rfl (teq (by decide : (3 : Int32) = (3 : Int32))).2 k) ?_
    refine own_go (fun _ k => XS.iload X0.here hx rfl (hb hby at_470) rfl k) ?_
    refine own_go (fun _ k => XS.iconst X0.here hx rfl (hb hby at_472) k) ?_
    show own_Run p e below _ T0 (mkF m 473 #[.val (.int p1), .val (.int p2), .val (.int p3), .val (.int p4), .val (.int p5), .val (.int p6), .val (.int x6), .val (.int x7), .val (.int x8), .val (.int x9), .val (.int x10), .val (.int x11), .val (.int x12), .val (.int x13), .val (.int x14), .val (.int x15), .val (.int x16), .val (.int 3), .val (.ref o18), .val (.int 2), .val (.int 3), .val (.int 4), .val (.int 5), .val (.ref o23), .val (.int r5), .val (.int r4), .val (.int r3), .val (.int r2), .val (.int r1), .val (.int r0)] [(.int 4), (.int 4)])
    refine own_go (fun _ k => XS.icmpNo X0.here hx rfl (hb hby at_473) rfl (teq (by decide : (4 : Int32) = (4 : Int32))).2 k) ?_
    refine own_go (fun _ k => XS.iload X0.here hx rfl (hb hby at_476) rfl k) ?_
    refine own_go (fun _ k => XS.iconst X0.here hx rfl (hb hby at_478) k) ?_
    refine own_go (fun _ k => XS.icmpNo X0.here hx rfl (hb hby at_479) rfl (teq (by decide : (5 : Int32) = (5 : Int32))).2 k) ?_
    refine own_go (fun _ k => XS.aload X0.here hx rfl (hb hby at_482) rfl rfl k) ?_
    obtain ⟨cl360, Ar360, q360, S360, N360, H360, G360⟩ := id V_o23
    refine own_go (X0.arraylength hx (by rw [e0]; exact Ar360.1) (State.isArrayOf_alike hZ.alike Ar360.2.1) (g := (mkF m 484 #[.val (.int p1), .val (.int p2), .val (.int p3), .val (.int p4), .val (.int p5), .val (.int p6), .val (.int x6), .val (.int x7), .val (.int x8), .val (.int x9), .val (.int x10), .val (.int x11), .val (.int x12), .val (.int x13), .val (.int x14), .val (.int x15), .val (.int x16), .val (.int 3), .val (.ref o18), .val (.int 2), .val (.int 3), .val (.int 4), .val (.int 5), .val (.ref o23), .val (.int r5), .val (.int r4), .val (.int r3), .val (.int r2), .val (.int r1), .val (.int r0)] [(.ref o23)])) rfl rfl (hb hby at_484)) ?_
    rw [len_of S360 N360]
    refine own_go (fun _ k => XS.iload X0.here hx rfl (hb hby at_485) rfl k) ?_
    refine own_go (fun _ k => XS.iconst X0.here hx rfl (hb hby at_487) k) ?_
    show own_Run p e below _ T0 (mkF m 488 #[.val (.int p1), .val (.int p2), .val (.int p3), .val (.int p4), .val (.int p5), .val (.int p6), .val (.int x6), .val (.int x7), .val (.int x8), .val (.int x9), .val (.int x10), .val (.int x11), .val (.int x12), .val (.int x13), .val (.int x14), .val (.int x15), .val (.int x16), .val (.int 3), .val (.ref o18), .val (.int 2), .val (.int 3), .val (.int 4), .val (.int 5), .val (.ref o23), .val (.int r5), .val (.int r4), .val (.int r3), .val (.int r2), .val (.int r1), .val (.int r0)] [(.int 1), (.int 3), (.int 4)])
    refine own_go (fun _ k => XS.iadd X0.here hx rfl (hb hby at_488) rfl k) ?_
    show own_Run p e below _ T0 (mkF m 489 #[.val (.int p1), .val (.int p2), .val (.int p3), .val (.int p4), .val (.int p5), .val (.int p6), .val (.int x6), .val (.int x7), .val (.int x8), .val (.int x9), .val (.int x10), .val (.int x11), .val (.int x12), .val (.int x13), .val (.int x14), .val (.int x15), .val (.int x16), .val (.int 3), .val (.ref o18), .val (.int 2), .val (.int 3), .val (.int 4), .val (.int 5), .val (.ref o23), .val (.int r5), .val (.int r4), .val (.int r3), .val (.int r2), .val (.int r1), .val (.int r0)] [(.int ((3 : Int32) + (1 : Int32))), (.int 4)])
    rw [show ((3 : Int32) + (1 : Int32)) = (4 : Int32) by decide]
    refine own_go (fun _ k => XS.icmpNo X0.here hx rfl (hb hby at_489) rfl (teq (by decide : (4 : Int32) = (4 : Int32))).2 k) ?_
    refine own_go (fun _ k => XS.aload X0.here hx rfl (hb hby at_492) rfl rfl k) ?_
    refine own_go (fun _ k => XS.iconst X0.here hx rfl (hb hby at_494) k) ?_
    obtain ⟨_, _, ⟨T361, L361, k361, n361⟩, -, X361, ⟨Lc361, hQ361, l361, y361, z361⟩, st361⟩ := Jvm.LawKit.callS X0 hx (y := (⟨own_K1, "at", "([ZI)Z"⟩ : MethodName)) hown (mvT hZ (W 38 rfl)) (mvT hZ (W 39 rfl)) (mvT hZ (W 40 rfl)) (mvT hZ (W 41 rfl)) (by decide) (backOf (W := 0) (rm6in l Z a0 hw [] o23 (0 : Int32) k23 (4 : Int32) [(.int (own_g0_2 (3 : Int32) x7 x8 x10 x11 x12 x13 x15 x16)), (.int (own_g1_2 (3 : Int32) x7 x8 x10 x11 x12 x13 x15 x16)), (.int (own_g2_3 (3 : Int32) x7 x8 x10 x11 x12 x13 x15 x16)), (.int (own_g3_4 (3 : Int32) x7 x8 x10 x11 x12 x13 x15 x16))] (.int 0) (own_g0_2 (3 : Int32) x7 x8 x10 x11 x12 x13 x15 x16) hh n0 Z0 V_o23 (⟨by decide, by decide⟩) (rfl) (own_gb0_2 _ x7 x8 x10 x11 x12 x13 x15 x16)) hZ (W 41 rfl) (W 40 rfl) (by decide) (by decide)) (g := (mkF m 495 #[.val (.int p1), .val (.int p2), .val (.int p3), .val (.int p4), .val (.int p5), .val (.int p6), .val (.int x6), .val (.int x7), .val (.int x8), .val (.int x9), .val (.int x10), .val (.int x11), .val (.int x12), .val (.int x13), .val (.int x14), .val (.int x15), .val (.int x16), .val (.int 3), .val (.ref o18), .val (.int 2), .val (.int 3), .val (.int 4), .val (.int 5), .val (.ref o23), .val (.int r5), .val (.int r4), .val (.int r3), .val (.int r2), .val (.int r1), .val (.int r0)] [(.int 0), (.ref o23)])) rfl (by rw [hml]; rfl) (argsL := [(.ref o23), (.int 0)]) (rest := []) (lenOf pd_2 rfl) rfl (by show 2 * 0 + _ ≤ _; exact Nat.le_of_eq rfl) (hb hby at_495) (fun _ _ => ⟨rfl, e0, (by decide : 6 + 0 ≤ _), (by decide : 5131 + 0 ≤ _)⟩)
    dsimp only [Pt.U, Pt.locs, Pt.cells, Pt.slots] at X361 l361 y361 z361 st361 hQ361
    subst l361 y361 z361
    obtain ⟨rfl, N361q, e361⟩ := hQ361
    have N361 := Fr.app N0 N361q
    refine own_go st361 ?_
    refine own_go (fun _ k => XS.iload X361.here hx rfl (hb hby at_498) rfl k) ?_
    refine own_go (fun _ k => XS.icmpNo X361.here hx rfl (hb hby at_500) rfl (teq (hr0.symm : (own_g0_2 (3 : Int32) x7 x8 x10 x11 x12 x13 x15 x16) = r0)).2 k) ?_
    refine own_go (fun _ k => XS.aload X361.here hx rfl (hb hby at_503) rfl rfl k) ?_
    refine own_go (fun _ k => XS.iconst X361.here hx rfl (hb hby at_505) k) ?_
    show own_Run p e below _ T361 (mkF m 506 #[.val (.int p1), .val (.int p2), .val (.int p3), .val (.int p4), .val (.int p5), .val (.int p6), .val (.int x6), .val (.int x7), .val (.int x8), .val (.int x9), .val (.int x10), .val (.int x11), .val (.int x12), .val (.int x13), .val (.int x14), .val (.int x15), .val (.int x16), .val (.int 3), .val (.ref o18), .val (.int 2), .val (.int 3), .val (.int 4), .val (.int 5), .val (.ref o23), .val (.int r5), .val (.int r4), .val (.int r3), .val (.int r2), .val (.int r1), .val (.int r0)] [(.int 1), (.ref o23)])
    obtain ⟨_, _, ⟨T362, L362, k362, n362⟩, -, X362, ⟨Lc362, hQ362, l362, y362, z362⟩, st362⟩ := Jvm.LawKit.callS X361 hx (y := (⟨own_K1, "at", "([ZI)Z"⟩ : MethodName)) hown (mvT hZ (W 38 rfl)) (mvT hZ (W 39 rfl)) (mvT hZ (W 40 rfl)) (mvT hZ (W 41 rfl)) (by decide) (backOf (W := 0) (rm6in l Z a0 hw [] o23 (1 : Int32) k23 (4 : Int32) [(.int (own_g0_2 (3 : Int32) x7 x8 x10 x11 x12 x13 x15 x16)), (.int (own_g1_2 (3 : Int32) x7 x8 x10 x11 x12 x13 x15 x16)), (.int (own_g2_3 (3 : Int32) x7 x8 x10 x11 x12 x13 x15 x16)), (.int (own_g3_4 (3 : Int32) x7 x8 x10 x11 x12 x13 x15 x16))] (.int 0) (own_g1_2 (3 : Int32) x7 x8 x10 x11 x12 x13 x15 x16) hh n0 Z0 V_o23 (⟨by decide, by decide⟩) (rfl) (own_gb1_2 _ x7 x8 x10 x11 x12 x13 x15 x16)) hZ (W 41 rfl) (W 40 rfl) (by decide) (by decide)) (g := (mkF m 506 #[.val (.int p1), .val (.int p2), .val (.int p3), .val (.int p4), .val (.int p5), .val (.int p6), .val (.int x6), .val (.int x7), .val (.int x8), .val (.int x9), .val (.int x10), .val (.int x11), .val (.int x12), .val (.int x13), .val (.int x14), .val (.int x15), .val (.int x16), .val (.int 3), .val (.ref o18), .val (.int 2), .val (.int 3), .val (.int 4), .val (.int 5), .val (.ref o23), .val (.int r5), .val (.int r4), .val (.int r3), .val (.int r2), .val (.int r1), .val (.int r0)] [(.int 1), (.ref o23)])) rfl (by rw [hml]; rfl) (argsL := [(.ref o23), (.int 1)]) (rest := []) (lenOf pd_2 rfl) rfl (by show 2 * 0 + _ ≤ _; exact Nat.le_of_eq rfl) (hb hby at_506) (fun _ _ => ⟨rfl, e361, (by decide : 6 + 0 ≤ _), (by decide : 5131 + 0 ≤ _)⟩)
    dsimp only [Pt.U, Pt.locs, Pt.cells, Pt.slots] at X362 l362 y362 z362 st362 hQ362
    subst l362 y362 z362
    obtain ⟨rfl, N362q, e362⟩ := hQ362
    have N362 := Fr.app N361 N362q
    refine own_go st362 ?_
    refine own_go (fun _ k => XS.iload X362.here hx rfl (hb hby at_509) rfl k) ?_
    refine own_go (fun _ k => XS.icmpNo X362.here hx rfl (hb hby at_511) rfl (teq (hr1.symm : (own_g1_2 (3 : Int32) x7 x8 x10 x11 x12 x13 x15 x16) = r1)).2 k) ?_
    refine own_go (fun _ k => XS.aload X362.here hx rfl (hb hby at_514) rfl rfl k) ?_
    refine own_go (fun _ k => XS.iconst X362.here hx rfl (hb hby at_516) k) ?_
    obtain ⟨_, _, ⟨T363, L363, k363, n363⟩, -, X363, ⟨Lc363, hQ363, l363, y363, z363⟩, st363⟩ := Jvm.LawKit.callS X362 hx (y := (⟨own_K1, "at", "([ZI)Z"⟩ : MethodName)) hown (mvT hZ (W 38 rfl)) (mvT hZ (W 39 rfl)) (mvT hZ (W 40 rfl)) (mvT hZ (W 41 rfl)) (by decide) (backOf (W := 0) (rm6in l Z a0 hw [] o23 (2 : Int32) k23 (4 : Int32) [(.int (own_g0_2 (3 : Int32) x7 x8 x10 x11 x12 x13 x15 x16)), (.int (own_g1_2 (3 : Int32) x7 x8 x10 x11 x12 x13 x15 x16)), (.int (own_g2_3 (3 : Int32) x7 x8 x10 x11 x12 x13 x15 x16)), (.int (own_g3_4 (3 : Int32) x7 x8 x10 x11 x12 x13 x15 x16))] (.int 0) (own_g2_3 (3 : Int32) x7 x8 x10 x11 x12 x13 x15 x16) hh n0 Z0 V_o23 (⟨by decide, by decide⟩) (rfl) (own_gb2_3 _ x7 x8 x10 x11 x12 x13 x15 x16)) hZ (W 41 rfl) (W 40 rfl) (by decide) (by decide)) (g := (mkF m 517 #[.val (.int p1), .val (.int p2), .val (.int p3), .val (.int p4), .val (.int p5), .val (.int p6), .val (.int x6), .val (.int x7), .val (.int x8), .val (.int x9), .val (.int x10), .val (.int x11), .val (.int x12), .val (.int x13), .val (.int x14), .val (.int x15), .val (.int x16), .val (.int 3), .val (.ref o18), .val (.int 2), .val (.int 3), .val (.int 4), .val (.int 5), .val (.ref o23), .val (.int r5), .val (.int r4), .val (.int r3), .val (.int r2), .val (.int r1), .val (.int r0)] [(.int 2), (.ref o23)])) rfl (by rw [hml]; rfl) (argsL := [(.ref o23), (.int 2)]) (rest := []) (lenOf pd_2 rfl) rfl (by show 2 * 0 + _ ≤ _; exact Nat.le_of_eq rfl) (hb hby at_517) (fun _ _ => ⟨rfl, e362, (by decide : 6 + 0 ≤ _), (by decide : 5131 + 0 ≤ _)⟩)
    dsimp only [Pt.U, Pt.locs, Pt.cells, Pt.slots] at X363 l363 y363 z363 st363 hQ363
    subst l363 y363 z363
    obtain ⟨rfl, N363q, e363⟩ := hQ363
    have N363 := Fr.app N362 N363q
    refine own_go st363 ?_
    refine own_go (fun _ k => XS.iload X363.here hx rfl (hb hby at_520) rfl k) ?_
    refine own_go (fun _ k => XS.icmpNo X363.here hx rfl (hb hby at_522) rfl (teq (hr2.symm : (own_g2_3 (3 : Int32) x7 x8 x10 x11 x12 x13 x15 x16) = r2)).2 k) ?_
    show own_Run p e below _ T363 (mkF m 525 #[.val (.int p1), .val (.int p2), .val (.int p3), .val (.int p4), .val (.int p5), .val (.int p6), .val (.int x6), .val (.int x7), .val (.int x8), .val (.int x9), .val (.int x10), .val (.int x11), .val (.int x12), .val (.int x13), .val (.int x14), .val (.int x15), .val (.int x16), .val (.int 3), .val (.ref o18), .val (.int 2), .val (.int 3), .val (.int 4), .val (.int 5), .val (.ref o23), .val (.int r5), .val (.int r4), .val (.int r3), .val (.int r2), .val (.int r1), .val (.int r0)] [])
    refine own_go (fun _ k => XS.aload X363.here hx rfl (hb hby at_525) rfl rfl k) ?_
    refine own_go (fun _ k => XS.iconst X363.here hx rfl (hb hby at_527) k) ?_
    obtain ⟨_, _, ⟨T364, L364, k364, n364⟩, -, X364, ⟨Lc364, hQ364, l364, y364, z364⟩, st364⟩ := Jvm.LawKit.callS X363 hx (y := (⟨own_K1, "at", "([ZI)Z"⟩ : MethodName)) hown (mvT hZ (W 38 rfl)) (mvT hZ (W 39 rfl)) (mvT hZ (W 40 rfl)) (mvT hZ (W 41 rfl)) (by decide) (backOf (W := 0) (rm6in l Z a0 hw [] o23 (3 : Int32) k23 (4 : Int32) [(.int (own_g0_2 (3 : Int32) x7 x8 x10 x11 x12 x13 x15 x16)), (.int (own_g1_2 (3 : Int32) x7 x8 x10 x11 x12 x13 x15 x16)), (.int (own_g2_3 (3 : Int32) x7 x8 x10 x11 x12 x13 x15 x16)), (.int (own_g3_4 (3 : Int32) x7 x8 x10 x11 x12 x13 x15 x16))] (.int 0) (own_g3_4 (3 : Int32) x7 x8 x10 x11 x12 x13 x15 x16) hh n0 Z0 V_o23 (⟨by decide, by decide⟩) (rfl) (own_gb3_4 _ x7 x8 x10 x11 x12 x13 x15 x16)) hZ (W 41 rfl) (W 40 rfl) (by decide) (by decide)) (g := (mkF m 528 #[.val (.int p1), .val (.int p2), .val (.int p3), .val (.int p4), .val (.int p5), .val (.int p6), .val (.int x6), .val (.int x7), .val (.int x8), .val (.int x9), .val (.int x10), .val (.int x11), .val (.int x12), .val (.int x13), .val (.int x14), .val (.int x15), .val (.int x16), .val (.int 3), .val (.ref o18), .val (.int 2), .val (.int 3), .val (.int 4), .val (.int 5), .val (.ref o23), .val (.int r5), .val (.int r4), .val (.int r3), .val (.int r2), .val (.int r1), .val (.int r0)] [(.int 3), (.ref o23)])) rfl (by rw [hml]; rfl) (argsL := [(.ref o23), (.int 3)]) (rest := []) (lenOf pd_2 rfl) rfl (by show 2 * 0 + _ ≤ _; exact Nat.le_of_eq rfl) (hb hby at_528) (fun _ _ => ⟨rfl, e363, (by decide : 6 + 0 ≤ _), (by decide : 5131 + 0 ≤ _)⟩)
    dsimp only [Pt.U, Pt.locs, Pt.cells, Pt.slots] at X364 l364 y364 z364 st364 hQ364
    subst l364 y364 z364
    obtain ⟨rfl, N364q, e364⟩ := hQ364
    have N364 := Fr.app N363 N364q
    refine own_go st364 ?_
    refine own_go (fun _ k => XS.iload X364.here hx rfl (hb hby at_531) rfl k) ?_
    refine own_go (fun _ k => XS.icmpNo X364.here hx rfl (hb hby at_533) rfl (teq (hr3.symm : (own_g3_4 (3 : Int32) x7 x8 x10 x11 x12 x13 x15 x16) = r3)).2 k) ?_
    refine own_go (fun _ k => XS.aload X364.here hx rfl (hb hby at_536) rfl rfl k) ?_
    refine own_go (fun _ k => XS.iconst X364.here hx rfl (hb hby at_538) k) ?_
    obtain ⟨_, _, ⟨T365, L365, k365, n365⟩, -, X365, ⟨Lc365, hQ365, l365, y365, z365⟩, st365⟩ := Jvm.LawKit.callS X364 hx (y := (⟨own_K1, "at", "([ZI)Z"⟩ : MethodName)) hown (mvT hZ (W 38 rfl)) (mvT hZ (W 39 rfl)) (mvT hZ (W 40 rfl)) (mvT hZ (W 41 rfl)) (by decide) (backOf (W := 0) (rm6out l Z a0 hw [] o23 (4 : Int32) k23 (4 : Int32) [(.int (own_g0_2 (3 : Int32) x7 x8 x10 x11 x12 x13 x15 x16)), (.int (own_g1_2 (3 : Int32) x7 x8 x10 x11 x12 x13 x15 x16)), (.int (own_g2_3 (3 : Int32) x7 x8 x10 x11 x12 x13 x15 x16)), (.int (own_g3_4 (3 : Int32) x7 x8 x10 x11 x12 x13 x15 x16))] (.int 0) hh n0 Z0 V_o23 (by decide)) hZ (W 41 rfl) (W 40 rfl) (by decide) (by decide)) (g := (mkF m 539 #[.val (.int p1), .val (.int p2), .val (.int p3), .val (.int p4), .val (.int p5), .val (.int p6), .val (.int x6), .val (.int x7), .val (.int x8), .val (.int x9), .val (.int x10), .val (.int x11), .val (.int x12), .val (.int x13), .val (.int x14), .val (.int x15), .val (.int x16), .val (.int 3), .val (.ref o18), .val (.int 2), .val (.int 3), .val (.int 4), .val (.int 5), .val (.ref o23), .val (.int r5), .val (.int r4), .val (.int r3), .val (.int r2), .val (.int r1), .val (.int r0)] [(.int 4), (.ref o23)])) rfl (by rw [hml]; rfl) (argsL := [(.ref o23), (.int 4)]) (rest := []) (lenOf pd_2 rfl) rfl (by show 2 * 0 + _ ≤ _; exact Nat.le_of_eq rfl) (hb hby at_539) (fun _ _ => ⟨rfl, e364, (by decide : 6 + 0 ≤ _), (by decide : 5131 + 0 ≤ _)⟩)
    dsimp only [Pt.U, Pt.locs, Pt.cells, Pt.slots] at X365 l365 y365 z365 st365 hQ365
    subst l365 y365 z365
    obtain ⟨rfl, N365q, e365⟩ := hQ365
    have N365 := Fr.app N364 N365q
    refine own_go st365 ?_
    show own_Run p e below _ T365 (mkF m 542 #[.val (.int p1), .val (.int p2), .val (.int p3), .val (.int p4), .val (.int p5), .val (.int p6), .val (.int x6), .val (.int x7), .val (.int x8), .val (.int x9), .val (.int x10), .val (.int x11), .val (.int x12), .val (.int x13), .val (.int x14), .val (.int x15), .val (.int x16), .val (.int 3), .val (.ref o18), .val (.int 2), .val (.int 3), .val (.int 4), .val (.int 5), .val (.ref o23), .val (.int r5), .val (.int r4), .val (.int r3), .val (.int r2), .val (.int r1), .val (.int r0)] [(.int 0)])
    refine own_go (fun _ k => XS.iload X365.here hx rfl (hb hby at_542) rfl k) ?_
    refine own_go (fun _ k => XS.icmpNo X365.here hx rfl (hb hby at_544) rfl (teq ((hr4.trans (own_v3_4_5 x7 x8 x10 x11 x12 x13 x15 x16)).symm : (0 : Int32) = r4)).2 k) ?_
    refine own_go (fun _ k => XS.aload X365.here hx rfl (hb hby at_547) rfl rfl k) ?_
    refine own_go (fun _ k => XS.iconst X365.here hx rfl (hb hby at_549) k) ?_
    obtain ⟨_, _, ⟨T366, L366, k366, n366⟩, -, X366, ⟨Lc366, hQ366, l366, y366, z366⟩, st366⟩ := Jvm.LawKit.callS X365 hx (y := (⟨own_K1, "at", "([ZI)Z"⟩ : MethodName)) hown (mvT hZ (W 38 rfl)) (mvT hZ (W 39 rfl)) (mvT hZ (W 40 rfl)) (mvT hZ (W 41 rfl)) (by decide) (backOf (W := 0) (rm6out l Z a0 hw [] o23 (5 : Int32) k23 (4 : Int32) [(.int (own_g0_2 (3 : Int32) x7 x8 x10 x11 x12 x13 x15 x16)), (.int (own_g1_2 (3 : Int32) x7 x8 x10 x11 x12 x13 x15 x16)), (.int (own_g2_3 (3 : Int32) x7 x8 x10 x11 x12 x13 x15 x16)), (.int (own_g3_4 (3 : Int32) x7 x8 x10 x11 x12 x13 x15 x16))] (.int 0) hh n0 Z0 V_o23 (by decide)) hZ (W 41 rfl) (W 40 rfl) (by decide) (by decide)) (g := (mkF m 550 #[.val (.int p1), .val (.int p2), .val (.int p3), .val (.int p4), .val (.int p5), .val (.int p6), .val (.int x6), .val (.int x7), .val (.int x8), .val (.int x9), .val (.int x10), .val (.int x11), .val (.int x12), .val (.int x13), .val (.int x14), .val (.int x15), .val (.int x16), .val (.int 3), .val (.ref o18), .val (.int 2), .val (.int 3), .val (.int 4), .val (.int 5), .val (.ref o23), .val (.int r5), .val (.int r4), .val (.int r3), .val (.int r2), .val (.int r1), .val (.int r0)] [(.int 5), (.ref o23)])) rfl (by rw [hml]; rfl) (argsL := [(.ref o23), (.int 5)]) (rest := []) (lenOf pd_2 rfl) rfl (by show 2 * 0 + _ ≤ _; exact Nat.le_of_eq rfl) (hb hby at_550) (fun _ _ => ⟨rfl, e365, (by decide : 6 + 0 ≤ _), (by decide : 5131 + 0 ≤ _)⟩)
    dsimp only [Pt.U, Pt.locs, Pt.cells, Pt.slots] at X366 l366 y366 z366 st366 hQ366
    subst l366 y366 z366
    obtain ⟨rfl, N366q, e366⟩ := hQ366
    have N366 := Fr.app N365 N366q
    refine own_go st366 ?_
    refine own_go (fun _ k => XS.iload X366.here hx rfl (hb hby at_553) rfl k) ?_
    refine own_go (fun _ k => XS.icmpNo X366.here hx rfl (hb hby at_555) rfl (teq ((hr5.trans (own_v3_5_6 x7 x8 x10 x11 x12 x13 x15 x16)).symm : (0 : Int32) = r5)).2 k) ?_
    refine own_go (fun _ k => XS.iconst X366.here hx rfl (hb hby at_558) k) ?_
    show own_Run p e below _ T366 (mkF m 559 #[.val (.int p1), .val (.int p2), .val (.int p3), .val (.int p4), .val (.int p5), .val (.int p6), .val (.int x6), .val (.int x7), .val (.int x8), .val (.int x9), .val (.int x10), .val (.int x11), .val (.int x12), .val (.int x13), .val (.int x14), .val (.int x15), .val (.int x16), .val (.int 3), .val (.ref o18), .val (.int 2), .val (.int 3), .val (.int 4), .val (.int 5), .val (.ref o23), .val (.int r5), .val (.int r4), .val (.int r3), .val (.int r2), .val (.int r1), .val (.int r0)] [(.int 1)])
    refine own_go (fun _ k => XS.goto X366.here hx rfl (pc0 := 559) (pc' := 563) rfl (hb hby at_559) (by decide) (by decide) k) ?_
    refine own_done (Q := fun v h L => Q0 Z p1 p2 p3 p4 p5 p6 h0 n0 v h L) (v := (some (.int 1))) X366 (fun h => by rw [hret] at h; cases h) hlk (fun fs hr => retN X366 hx (t := .boolean) hret (by simp) (hb hby at_563) hr) ?_ (by decide) (by decide)
    show Q0 Z p1 p2 p3 p4 p5 p6 h0 n0 _ T366.heap _
    rw [e366]
    exact ⟨rfl, N366⟩
  · show own_Run p e below _ T0 (mkF m 458 #[.val (.int p1), .val (.int p2), .val (.int p3), .val (.int p4), .val (.int p5), .val (.int p6), .val (.int x6), .val (.int x7), .val (.int x8), .val (.int x9), .val (.int x10), .val (.int x11), .val (.int x12), .val (.int x13), .val (.int x14), .val (.int x15), .val (.int x16), .val (.int 4), .val (.ref o18), .val (.int 2), .val (.int 3), .val (.int 4), .val (.int 5), .val (.ref o23), .val (.int r5), .val (.int r4), .val (.int r3), .val (.int r2), .val (.int r1), .val (.int r0)] [])
    refine own_go (fun _ k => XS.iload X0.here hx rfl (hb hby at_458) rfl k) ?_
    refine own_go (fun _ k => XS.iconst X0.here hx rfl (hb hby at_460) k) ?_
    refine own_go (fun _ k => XS.icmpNo X0.here hx rfl (hb hby at_461) rfl (teq (by decide : (2 : Int32) = (2 : Int32))).2 k) ?_
    refine own_go (fun _ k => XS.iload X0.here hx rfl (hb hby at_464) rfl k) ?_
    refine own_go (fun _ k => XS.iconst X0.here hx rfl (hb hby at_466) k) ?_
    refine own_go (fun _ k => XS.icmpNo X0.here hx rfl (hb hby at_467) rfl (teq (by decide : (3 : Int32) = (3 : Int32))).2 k) ?_
    refine own_go (fun _ k => XS.iload X0.here hx rfl (hb hby at_470) rfl k) ?_
    refine own_go (fun _ k => XS.iconst X0.here hx rfl (hb hby at_472) k) ?_
    show own_Run p e below _ T0 (mkF m 473 #[.val (.int p1), .val (.int p2), .val (.int p3), .val (.int p4), .val (.int p5), .val (.int p6), .val (.int x6), .val (.int x7), .val (.int x8), .val (.int x9), .val (.int x10), .val (.int x11), .val (.int x12), .val (.int x13), .val (.int x14), .val (.int x15), .val (.int x16), .val (.int 4), .val (.ref o18), .val (.int 2), .val (.int 3), .val (.int 4), .val (.int 5), .val (.ref o23), .val (.int r5), .val (.int r4), .val (.int r3), .val (.int r2), .val (.int r1), .val (.int r0)] [(.int 4), (.int 4)])
    refine own_go (fun _ k => XS.icmpNo X0.here hx rfl (hb hby at_473) rfl (teq (by decide : (4 : Int32) = (4 : Int32))).2 k) ?_
    refine own_go (fun _ k => XS.iload X0.here hx rfl (hb hby at_476) rfl k) ?_
    refine own_go (fun _ k => XS.iconst X0.here hx rfl (hb hby at_478) k) ?_
    refine own_go (fun _ k => XS.icmpNo X0.here hx rfl (hb hby at_479) rfl (teq (by decide : (5 : Int32) = (5 : Int32))).2 k) ?_
    refine own_go (fun _ k => XS.aload X0.here hx rfl (hb hby at_482) rfl rfl k) ?_
    obtain ⟨cl367, Ar367, q367, S367, N367, H367, G367⟩ := id V_o23
    refine own_go (X0.arraylength hx (by rw [e0]; exact Ar367.1) (State.isArrayOf_alike hZ.alike Ar367.2.1) (g := (mkF m 484 #[.val (.int p1), .val (.int p2), .val (.int p3), .val (.int p4), .val (.int p5), .val (.int p6), .val (.int x6), .val (.int x7), .val (.int x8), .val (.int x9), .val (.int x10), .val (.int x11), .val (.int x12), .val (.int x13), .val (.int x14), .val (.int x15), .val (.int x16), .val (.int 4), .val (.ref o18), .val (.int 2), .val (.int 3), .val (.int 4), .val (.int 5), .val (.ref o23), .val (.int r5), .val (.int r4), .val (.int r3), .val (.int r2), .val (.int r1), .val (.int r0)] [(.ref o23)])) rfl rfl (hb hby at_484)) ?_
    rw [len_of S367 N367]
    refine own_go (fun _ k => XS.iload X0.here hx rfl (hb hby at_485) rfl k) ?_
    refine own_go (fun _ k => XS.iconst X0.here hx rfl (hb hby at_487) k) ?_
    show own_Run p e below _ T0 (mkF m 488 #[.val (.int p1), .val (.int p2), .val (.int p3), .val (.int p4), .val (.int p5), .val (.int p6), .val (.int x6), .val (.int x7), .val (.int x8), .val (.int x9), .val (.int x10), .val (.int x11), .val (.int x12), .val (.int x13), .val (.int x14), .val (.int x15), .val (.int x16), .val (.int 4), .val (.ref o18), .val (.int 2), .val (.int 3), .val (.int 4), .val (.int 5), .val (.ref o23), .val (.int r5), .val (.int r4), .val (.int r3), .val (.int r2), .val (.int r1), .val (.int r0)] [(.int 1), (.int 4), (.int 5)])
    refine own_go (fun _ k => XS.iadd X0.here hx rfl (hb hby at_488) rfl k) ?_
    show own_Run p e below _ T0 (mkF m 489 #[.val (.int p1), .val (.int p2), .val (.int p3), .val (.int p4), .val (.int p5), .val (.int p6), .val (.int x6), .val (.int x7), .val (.int x8), .val (.int x9), .val (.int x10), .val (.int x11), .val (.int x12), .val (.int x13), .val (.int x14), .val (.int x15), .val (.int x16), .val (.int 4), .val (.ref o18), .val (.int 2), .val (.int 3), .val (.int 4), .val (.int 5), .val (.ref o23), .val (.int r5), .val (.int r4), .val (.int r3), .val (.int r2), .val (.int r1), .val (.int r0)] [(.int ((4 : Int32) + (1 : Int32))), (.int 5)])
    rw [show ((4 : Int32) + (1 : Int32)) = (5 : Int32) by decide]
    refine own_go (fun _ k => XS.icmpNo X0.here hx rfl (hb hby at_489) rfl (teq (by decide : (5 : Int32) = (5 : Int32))).2 k) ?_
    refine own_go (fun _ k => XS.aload X0.here hx rfl (hb hby at_492) rfl rfl k) ?_
    refine own_go (fun _ k => XS.iconst X0.here hx rfl (hb hby at_494) k) ?_
    obtain ⟨_, _, ⟨T368, L368, k368, n368⟩, -, X368, ⟨Lc368, hQ368, l368, y368, z368⟩, st368⟩ := Jvm.LawKit.callS X0 hx (y := (⟨own_K1, "at", "([ZI)Z"⟩ : MethodName)) hown (mvT hZ (W 38 rfl)) (mvT hZ (W 39 rfl)) (mvT hZ (W 40 rfl)) (mvT hZ (W 41 rfl)) (by decide) (backOf (W := 0) (rm6in l Z a0 hw [] o23 (0 : Int32) k23 (5 : Int32) [(.int (own_g0_2 (4 : Int32) x7 x8 x10 x11 x12 x13 x15 x16)), (.int (own_g1_2 (4 : Int32) x7 x8 x10 x11 x12 x13 x15 x16)), (.int (own_g2_3 (4 : Int32) x7 x8 x10 x11 x12 x13 x15 x16)), (.int (own_g3_4 (4 : Int32) x7 x8 x10 x11 x12 x13 x15 x16)), (.int (own_g4_5 (4 : Int32) x7 x8 x10 x11 x12 x13 x15 x16))] (.int 0) (own_g0_2 (4 : Int32) x7 x8 x10 x11 x12 x13 x15 x16) hh n0 Z0 V_o23 (⟨by decide, by decide⟩) (rfl) (own_gb0_2 _ x7 x8 x10 x11 x12 x13 x15 x16)) hZ (W 41 rfl) (W 40 rfl) (by decide) (by decide)) (g := (mkF m 495 #[.val (.int p1), .val (.int p2), .val (.int p3), .val (.int p4), .val (.int p5), .val (.int p6), .val (.int x6), .val (.int x7), .val (.int x8), .val (.int x9), .val (.int x10), .val (.int x11), .val (.int x12), .val (.int x13), .val (.int x14), .val (.int x15), .val (.int x16), .val (.int 4), .val (.ref o18), .val (.int 2), .val (.int 3), .val (.int 4), .val (.int 5), .val (.ref o23), .val (.int r5), .val (.int r4), .val (.int r3), .val (.int r2), .val (.int r1), .val (.int r0)] [(.int 0), (.ref o23)])) rfl (by rw [hml]; rfl) (argsL := [(.ref o23), (.int 0)]) (rest := []) (lenOf pd_2 rfl) rfl (by show 2 * 0 + _ ≤ _; exact Nat.le_of_eq rfl) (hb hby at_495) (fun _ _ => ⟨rfl, e0, (by decide : 6 + 0 ≤ _), (by decide : 5131 + 0 ≤ _)⟩)
    dsimp only [Pt.U, Pt.locs, Pt.cells, Pt.slots] at X368 l368 y368 z368 st368 hQ368
    subst l368 y368 z368
    obtain ⟨rfl, N368q, e368⟩ := hQ368
    have N368 := Fr.app N0 N368q
    refine own_go st368 ?_
    refine own_go (fun _ k => XS.iload X368.here hx rfl (hb hby at_498) rfl k) ?_
    refine own_go (fun _ k => XS.icmpNo X368.here hx rfl (hb hby at_500) rfl (teq (hr0.symm : (own_g0_2 (4 : Int32) x7 x8 x10 x11 x12 x13 x15 x16) = r0)).2 k) ?_
    refine own_go (fun _ k => XS.aload X368.here hx rfl (hb hby at_503) rfl rfl k) ?_
    refine own_go (fun _ k => XS.iconst X368.here hx rfl (hb hby at_505) k) ?_
    show own_Run p e below _ T368 (mkF m 506 #[.val (.int p1), .val (.int p2), .val (.int p3), .val (.int p4), .val (.int p5), .val (.int p6), .val (.int x6), .val (.int x7), .val (.int x8), .val (.int x9), .val (.int x10), .val (.int x11), .val (.int x12), .val (.int x13), .val (.int x14), .val (.int x15), .val (.int x16), .val (.int 4), .val (.ref o18), .val (.int 2), .val (.int 3), .val (.int 4), .val (.int 5), .val (.ref o23), .val (.int r5), .val (.int r4), .val (.int r3), .val (.int r2), .val (.int r1), .val (.int r0)] [(.int 1), (.ref o23)])
    obtain ⟨_, _, ⟨T369, L369, k369, n369⟩, -, X369, ⟨Lc369, hQ369, l369, y369, z369⟩, st369⟩ := Jvm.LawKit.callS X368 hx (y := (⟨own_K1, "at", "([ZI)Z"⟩ : MethodName)) hown (mvT hZ (W 38 rfl)) (mvT hZ (W 39 rfl)) (mvT hZ (W 40 rfl)) (mvT hZ (W 41 rfl)) (by decide) (backOf (W := 0) (rm6in l Z a0 hw [] o23 (1 : Int32) k23 (5 : Int32) [(.int (own_g0_2 (4 : Int32) x7 x8 x10 x11 x12 x13 x15 x16)), (.int (own_g1_2 (4 : Int32) x7 x8 x10 x11 x12 x13 x15 x16)), (.int (own_g2_3 (4 : Int32) x7 x8 x10 x11 x12 x13 x15 x16)), (.int (own_g3_4 (4 : Int32) x7 x8 x10 x11 x12 x13 x15 x16)), (.int (own_g4_5 (4 : Int32) x7 x8 x10 x11 x12 x13 x15 x16))] (.int 0) (own_g1_2 (4 : Int32) x7 x8 x10 x11 x12 x13 x15 x16) hh n0 Z0 V_o23 (⟨by decide, by decide⟩) (rfl) (own_gb1_2 _ x7 x8 x10 x11 x12 x13 x15 x16)) hZ (W 41 rfl) (W 40 rfl) (by decide) (by decide)) (g := (mkF m 506 #[.val (.int p1), .val (.int p2), .val (.int p3), .val (.int p4), .val (.int p5), .val (.int p6), .val (.int x6), .val (.int x7), .val (.int x8), .val (.int x9), .val (.int x10), .val (.int x11), .val (.int x12), .val (.int x13), .val (.int x14), .val (.int x15), .val (.int x16), .val (.int 4), .val (.ref o18), .val (.int 2), .val (.int 3), .val (.int 4), .val (.int 5), .val (.ref o23), .val (.int r5), .val (.int r4), .val (.int r3), .val (.int r2), .val (.int r1), .val (.int r0)] [(.int 1), (.ref o23)])) rfl (by rw [hml]; rfl) (argsL := [(.ref o23), (.int 1)]) (rest := []) (lenOf pd_2 rfl) rfl (by show 2 * 0 + _ ≤ _; exact Nat.le_of_eq rfl) (hb hby at_506) (fun _ _ => ⟨rfl, e368, (by decide : 6 + 0 ≤ _), (by decide : 5131 + 0 ≤ _)⟩)
    dsimp only [Pt.U, Pt.locs, Pt.cells, Pt.slots] at X369 l369 y369 z369 st369 hQ369
    subst l369 y369 z369
    obtain ⟨rfl, N369q, e369⟩ := hQ369
    have N369 := Fr.app N368 N369q
    refine own_go st369 ?_
    refine own_go (fun _ k => XS.iload X369.here hx rfl (hb hby at_509) rfl k) ?_
    refine own_go (fun _ k => XS.icmpNo X369.here hx rfl (hb hby at_511) rfl (teq (hr1.symm : (own_g1_2 (4 : Int32) x7 x8 x10 x11 x12 x13 x15 x16) = r1)).2 k) ?_
    refine own_go (fun _ k => XS.aload X369.here hx rfl (hb hby at_514) rfl rfl k) ?_
    refine own_go (fun _ k => XS.iconst X369.here hx rfl (hb hby at_516) k) ?_
    obtain ⟨_, _, ⟨T370, L370, k370, n370⟩, -, X370, ⟨Lc370, hQ370, l370, y370, z370⟩, st370⟩ := Jvm.LawKit.callS X369 hx (y := (⟨own_K1, "at", "([ZI)Z"⟩ : MethodName)) hown (mvT hZ (W 38 rfl)) (mvT hZ (W 39 rfl)) (mvT hZ (W 40 rfl)) (mvT hZ (W 41 rfl)) (by decide) (backOf (W := 0) (rm6in l Z a0 hw [] o23 (2 : Int32) k23 (5 : Int32) [(.int (own_g0_2 (4 : Int32) x7 x8 x10 x11 x12 x13 x15 x16)), (.int (own_g1_2 (4 : Int32) x7 x8 x10 x11 x12 x13 x15 x16)), (.int (own_g2_3 (4 : Int32) x7 x8 x10 x11 x12 x13 x15 x16)), (.int (own_g3_4 (4 : Int32) x7 x8 x10 x11 x12 x13 x15 x16)), (.int (own_g4_5 (4 : Int32) x7 x8 x10 x11 x12 x13 x15 x16))] (.int 0) (own_g2_3 (4 : Int32) x7 x8 x10 x11 x12 x13 x15 x16) hh n0 Z0 V_o23 (⟨by decide, by decide⟩) (rfl) (own_gb2_3 _ x7 x8 x10 x11 x12 x13 x15 x16)) hZ (W 41 rfl) (W 40 rfl) (by decide) (by decide)) (g := (mkF m 517 #[.val (.int p1), .val (.int p2), .val (.int p3), .val (.int p4), .val (.int p5), .val (.int p6), .val (.int x6), .val (.int x7), .val (.int x8), .val (.int x9), .val (.int x10), .val (.int x11), .val (.int x12), .val (.int x13), .val (.int x14), .val (.int x15), .val (.int x16), .val (.int 4), .val (.ref o18), .val (.int 2), .val (.int 3), .val (.int 4), .val (.int 5), .val (.ref o23), .val (.int r5), .val (.int r4), .val (.int r3), .val (.int r2), .val (.int r1), .val (.int r0)] [(.int 2), (.ref o23)])) rfl (by rw [hml]; rfl) (argsL := [(.ref o23), (.int 2)]) (rest := []) (lenOf pd_2 rfl) rfl (by show 2 * 0 + _ ≤ _; exact Nat.le_of_eq rfl) (hb hby at_517) (fun _ _ => ⟨rfl, e369, (by decide : 6 + 0 ≤ _), (by decide : 5131 + 0 ≤ _)⟩)
    dsimp only [Pt.U, Pt.locs, Pt.cells, Pt.slots] at X370 l370 y370 z370 st370 hQ370
    subst l370 y370 z370
    obtain ⟨rfl, N370q, e370⟩ := hQ370
    have N370 := Fr.app N369 N370q
    refine own_go st370 ?_
    refine own_go (fun _ k => XS.iload X370.here hx rfl (hb hby at_520) rfl k) ?_
    refine own_go (fun _ k => XS.icmpNo X370.here hx rfl (hb hby at_522) rfl (teq (hr2.symm : (own_g2_3 (4 : Int32) x7 x8 x10 x11 x12 x13 x15 x16) = r2)).2 k) ?_
    show own_Run p e below _ T370 (mkF m 525 #[.val (.int p1), .val (.int p2), .val (.int p3), .val (.int p4), .val (.int p5), .val (.int p6), .val (.int x6), .val (.int x7), .val (.int x8), .val (.int x9), .val (.int x10), .val (.int x11), .val (.int x12), .val (.int x13), .val (.int x14), .val (.int x15), .val (.int x16), .val (.int 4), .val (.ref o18), .val (.int 2), .val (.int 3), .val (.int 4), .val (.int 5), .val (.ref o23), .val (.int r5), .val (.int r4), .val (.int r3), .val (.int r2), .val (.int r1), .val (.int r0)] [])
    refine own_go (fun _ k => XS.aload X370.here hx rfl (hb hby at_525) rfl rfl k) ?_
    refine own_go (fun _ k => XS.iconst X370.here hx rfl (hb hby at_527) k) ?_
    obtain ⟨_, _, ⟨T371, L371, k371, n371⟩, -, X371, ⟨Lc371, hQ371, l371, y371, z371⟩, st371⟩ := Jvm.LawKit.callS X370 hx (y := (⟨own_K1, "at", "([ZI)Z"⟩ : MethodName)) hown (mvT hZ (W 38 rfl)) (mvT hZ (W 39 rfl)) (mvT hZ (W 40 rfl)) (mvT hZ (W 41 rfl)) (by decide) (backOf (W := 0) (rm6in l Z a0 hw [] o23 (3 : Int32) k23 (5 : Int32) [(.int (own_g0_2 (4 : Int32) x7 x8 x10 x11 x12 x13 x15 x16)), (.int (own_g1_2 (4 : Int32) x7 x8 x10 x11 x12 x13 x15 x16)), (.int (own_g2_3 (4 : Int32) x7 x8 x10 x11 x12 x13 x15 x16)), (.int (own_g3_4 (4 : Int32) x7 x8 x10 x11 x12 x13 x15 x16)), (.int (own_g4_5 (4 : Int32) x7 x8 x10 x11 x12 x13 x15 x16))] (.int 0) (own_g3_4 (4 : Int32) x7 x8 x10 x11 x12 x13 x15 x16) hh n0 Z0 V_o23 (⟨by decide, by decide⟩) (rfl) (own_gb3_4 _ x7 x8 x10 x11 x12 x13 x15 x16)) hZ (W 41 rfl) (W 40 rfl) (by decide) (by decide)) (g := (mkF m 528 #[.val (.int p1), .val (.int p2), .val (.int p3), .val (.int p4), .val (.int p5), .val (.int p6), .val (.int x6), .val (.int x7), .val (.int x8), .val (.int x9), .val (.int x10), .val (.int x11), .val (.int x12), .val (.int x13), .val (.int x14), .val (.int x15), .val (.int x16), .val (.int 4), .val (.ref o18), .val (.int 2), .val (.int 3), .val (.int 4), .val (.int 5), .val (.ref o23), .val (.int r5), .val (.int r4), .val (.int r3), .val (.int r2), .val (.int r1), .val (.int r0)] [(.int 3), (.ref o23)])) rfl (by rw [hml]; rfl) (argsL := [(.ref o23), (.int 3)]) (rest := []) (lenOf pd_2 rfl) rfl (by show 2 * 0 + _ ≤ _; exact Nat.le_of_eq rfl) (hb hby at_528) (fun _ _ => ⟨rfl, e370, (by decide : 6 + 0 ≤ _), (by decide : 5131 + 0 ≤ _)⟩)
    dsimp only [Pt.U, Pt.locs, Pt.cells, Pt.slots] at X371 l371 y371 z371 st371 hQ371
    subst l371 y371 z371
    obtain ⟨rfl, N371q, e371⟩ := hQ371
    have N371 := Fr.app N370 N371q
    refine own_go st371 ?_
    refine own_go (fun _ k => XS.iload X371.here hx rfl (hb hby at_531) rfl k) ?_
    refine own_go (fun _ k => XS.icmpNo X371.here hx rfl (hb hby at_533) rfl (teq (hr3.symm : (own_g3_4 (4 : Int32) x7 x8 x10 x11 x12 x13 x15 x16) = r3)).2 k) ?_
    refine own_go (fun _ k => XS.aload X371.here hx rfl (hb hby at_536) rfl rfl k) ?_
    refine own_go (fun _ k => XS.iconst X371.here hx rfl (hb hby at_538) k) ?_
    obtain ⟨_, _, ⟨T372, L372, k372, n372⟩, -, X372, ⟨Lc372, hQ372, l372, y372, z372⟩, st372⟩ := Jvm.LawKit.callS X371 hx (y := (⟨own_K1, "at", "([ZI)Z"⟩ : MethodName)) hown (mvT hZ (W 38 rfl)) (mvT hZ (W 39 rfl)) (mvT hZ (W 40 rfl)) (mvT hZ (W 41 rfl)) (by decide) (backOf (W := 0) (rm6in l Z a0 hw [] o23 (4 : Int32) k23 (5 : Int32) [(.int (own_g0_2 (4 : Int32) x7 x8 x10 x11 x12 x13 x15 x16)), (.int (own_g1_2 (4 : Int32) x7 x8 x10 x11 x12 x13 x15 x16)), (.int (own_g2_3 (4 : Int32) x7 x8 x10 x11 x12 x13 x15 x16)), (.int (own_g3_4 (4 : Int32) x7 x8 x10 x11 x12 x13 x15 x16)), (.int (own_g4_5 (4 : Int32) x7 x8 x10 x11 x12 x13 x15 x16))] (.int 0) (own_g4_5 (4 : Int32) x7 x8 x10 x11 x12 x13 x15 x16) hh n0 Z0 V_o23 (⟨by decide, by decide⟩) (rfl) (own_gb4_5 _ x7 x8 x10 x11 x12 x13 x15 x16)) hZ (W 41 rfl) (W 40 rfl) (by decide) (by decide)) (g := (mkF m 539 #[.val (.int p1), .val (.int p2), .val (.int p3), .val (.int p4), .val (.int p5), .val (.int p6), .val (.int x6), .val (.int x7), .val (.int x8), .val (.int x9), .val (.int x10), .val (.int x11), .val (.int x12), .val (.int x13), .val (.int x14), .val (.int x15), .val (.int x16), .val (.int 4), .val (.ref o18), .val (.int 2), .val (.int 3), .val (.int 4), .val (.int 5), .val (.ref o23), .val (.int r5), .val (.int r4), .val (.int r3), .val (.int r2), .val (.int r1), .val (.int r0)] [(.int 4), (.ref o23)])) rfl (by rw [hml]; rfl) (argsL := [(.ref o23), (.int 4)]) (rest := []) (lenOf pd_2 rfl) rfl (by show 2 * 0 + _ ≤ _; exact Nat.le_of_eq rfl) (hb hby at_539) (fun _ _ => ⟨rfl, e371, (by decide : 6 + 0 ≤ _), (by decide : 5131 + 0 ≤ _)⟩)
    dsimp only [Pt.U, Pt.locs, Pt.cells, Pt.slots] at X372 l372 y372 z372 st372 hQ372
    subst l372 y372 z372
    obtain ⟨rfl, N372q, e372⟩ := hQ372
    have N372 := Fr.app N371 N372q
    refine own_go st372 ?_
    show own_Run p e below _ T372 (mkF m 542 #[.val (.int p1), .val (.int p2), .val (.int p3), .val (.int p4), .val (.int p5), .val (.int p6), .val (.int x6), .val (.int x7), .val (.int x8), .val (.int x9), .val (.int x10), .val (.int x11), .val (.int x12), .val (.int x13), .val (.int x14), .val (.int x15), .val (.int x16), .val (.int 4), .val (.ref o18), .val (.int 2), .val (.int 3), .val (.int 4), .val (.int 5), .val (.ref o23), .val (.int r5), .val (.int r4), .val (.int r3), .val (.int r2), .val (.int r1), .val (.int r0)] [(.int (own_g4_5 (4 : Int32) x7 x8 x10 x11 x12 x13 x15 x16))])
    refine own_go (fun _ k => XS.iload X372.here hx rfl (hb hby at_542) rfl k) ?_
    refine own_go (fun _ k => XS.icmpNo X372.here hx rfl (hb hby at_544) rfl (teq (hr4.symm : (own_g4_5 (4 : Int32) x7 x8 x10 x11 x12 x13 x15 x16) = r4)).2 k) ?_
    refine own_go (fun _ k => XS.aload X372.here hx rfl (hb hby at_547) rfl rfl k) ?_
    refine own_go (fun _ k => XS.iconst X372.here hx rfl (hb hby at_549) k) ?_
    obtain ⟨_, _, ⟨T373, L373, k373, n373⟩, -, X373, ⟨Lc373, hQ373, l373, y373, z373⟩, st373⟩ := Jvm.LawKit.callS X372 hx (y := (⟨own_K1, "at", "([ZI)Z"⟩ : MethodName)) hown (mvT hZ (W 38 rfl)) (mvT hZ (W 39 rfl)) (mvT hZ (W 40 rfl)) (mvT hZ (W 41 rfl)) (by decide) (backOf (W := 0) (rm6out l Z a0 hw [] o23 (5 : Int32) k23 (5 : Int32) [(.int (own_g0_2 (4 : Int32) x7 x8 x10 x11 x12 x13 x15 x16)), (.int (own_g1_2 (4 : Int32) x7 x8 x10 x11 x12 x13 x15 x16)), (.int (own_g2_3 (4 : Int32) x7 x8 x10 x11 x12 x13 x15 x16)), (.int (own_g3_4 (4 : Int32) x7 x8 x10 x11 x12 x13 x15 x16)), (.int (own_g4_5 (4 : Int32) x7 x8 x10 x11 x12 x13 x15 x16))] (.int 0) hh n0 Z0 V_o23 (by decide)) hZ (W 41 rfl) (W 40 rfl) (by decide) (by decide)) (g := (mkF m 550 #[.val (.int p1), .val (.int p2), .val (.int p3), .val (.int p4), .val (.int p5), .val (.int p6), .val (.int x6), .val (.int x7), .val (.int x8), .val (.int x9), .val (.int x10), .val (.int x11), .val (.int x12), .val (.int x13), .val (.int x14), .val (.int x15), .val (.int x16), .val (.int 4), .val (.ref o18), .val (.int 2), .val (.int 3), .val (.int 4), .val (.int 5), .val (.ref o23), .val (.int r5), .val (.int r4), .val (.int r3), .val (.int r2), .val (.int r1), .val (.int r0)] [(.int 5), (.ref o23)])) rfl (by rw [hml]; rfl) (argsL := [(.ref o23), (.int 5)]) (rest := []) (lenOf pd_2 rfl) rfl (by show 2 * 0 + _ ≤ _; exact Nat.le_of_eq rfl) (hb hby at_550) (fun _ _ => ⟨rfl, e372, (by decide : 6 + 0 ≤ _), (by decide : 5131 + 0 ≤ _)⟩)
    dsimp only [Pt.U, Pt.locs, Pt.cells, Pt.slots] at X373 l373 y373 z373 st373 hQ373
    subst l373 y373 z373
    obtain ⟨rfl, N373q, e373⟩ := hQ373
    have N373 := Fr.app N372 N373q
    refine own_go st373 ?_
    refine own_go (fun _ k => XS.iload X373.here hx rfl (hb hby at_553) rfl k) ?_
    refine own_go (fun _ k => XS.icmpNo X373.here hx rfl (hb hby at_555) rfl (teq ((hr5.trans (own_v4_5_6 x7 x8 x10 x11 x12 x13 x15 x16)).symm : (0 : Int32) = r5)).2 k) ?_
    refine own_go (fun _ k => XS.iconst X373.here hx rfl (hb hby at_558) k) ?_
    show own_Run p e below _ T373 (mkF m 559 #[.val (.int p1), .val (.int p2), .val (.int p3), .val (.int p4), .val (.int p5), .val (.int p6), .val (.int x6), .val (.int x7), .val (.int x8), .val (.int x9), .val (.int x10), .val (.int x11), .val (.int x12), .val (.int x13), .val (.int x14), .val (.int x15), .val (.int x16), .val (.int 4), .val (.ref o18), .val (.int 2), .val (.int 3), .val (.int 4), .val (.int 5), .val (.ref o23), .val (.int r5), .val (.int r4), .val (.int r3), .val (.int r2), .val (.int r1), .val (.int r0)] [(.int 1)])
    refine own_go (fun _ k => XS.goto X373.here hx rfl (pc0 := 559) (pc' := 563) rfl (hb hby at_559) (by decide) (by decide) k) ?_
    refine own_done (Q := fun v h L => Q0 Z p1 p2 p3 p4 p5 p6 h0 n0 v h L) (v := (some (.int 1))) X373 (fun h => by rw [hret] at h; cases h) hlk (fun fs hr => retN X373 hx (t := .boolean) hret (by simp) (hb hby at_563) hr) ?_ (by decide) (by decide)
    show Q0 Z p1 p2 p3 p4 p5 p6 h0 n0 _ T373.heap _
    rw [e373]
    exact ⟨rfl, N373⟩
  · show own_Run p e below _ T0 (mkF m 458 #[.val (.int p1), .val (.int p2), .val (.int p3), .val (.int p4), .val (.int p5), .val (.int p6), .val (.int x6), .val (.int x7), .val (.int x8), .val (.int x9), .val (.int x10), .val (.int x11), .val (.int x12), .val (.int x13), .val (.int x14), .val (.int x15), .val (.int x16), .val (.int 5), .val (.ref o18), .val (.int 2), .val (.int 3), .val (.int 4), .val (.int 5), .val (.ref o23), .val (.int r5), .val (.int r4), .val (.int r3), .val (.int r2), .val (.int r1), .val (.int r0)] [])
    refine own_go (fun _ k => XS.iload X0.here hx rfl (hb hby at_458) rfl k) ?_
    refine own_go (fun _ k => XS.iconst X0.here hx rfl (hb hby at_460) k) ?_
    refine own_go (fun _ k => XS.icmpNo X0.here hx rfl (hb hby at_461) rfl (teq (by decide : (2 : Int32) = (2 : Int32))).2 k) ?_
    refine own_go (fun _ k => XS.iload X0.here hx rfl (hb hby at_464) rfl k) ?_
    refine own_go (fun _ k => XS.iconst X0.here hx rfl (hb hby at_466) k) ?_
    refine own_go (fun _ k => XS.icmpNo X0.here hx rfl (hb hby at_467) rfl (teq (by decide : (3 : Int32) = (3 : Int32))).2 k) ?_
    refine own_go (fun _ k => XS.iload X0.here hx rfl (hb hby at_470) rfl k) ?_
    refine own_go (fun _ k => XS.iconst X0.here hx rfl (hb hby at_472) k) ?_
    show own_Run p e below _ T0 (mkF m 473 #[.val (.int p1), .val (.int p2), .val (.int p3), .val (.int p4), .val (.int p5), .val (.int p6), .val (.int x6), .val (.int x7), .val (.int x8), .val (.int x9), .val (.int x10), .val (.int x11), .val (.int x12), .val (.int x13), .val (.int x14), .val (.int x15), .val (.int x16), .val (.int 5), .val (.ref o18), .val (.int 2), .val (.int 3), .val (.int 4), .val (.int 5), .val (.ref o23), .val (.int r5), .val (.int r4), .val (.int r3), .val (.int r2), .val (.int r1), .val (.int r0)] [(.int 4), (.int 4)])
    refine own_go (fun _ k => XS.icmpNo X0.here hx rfl (hb hby at_473) rfl (teq (by decide : (4 : Int32) = (4 : Int32))).2 k) ?_
    refine own_go (fun _ k => XS.iload X0.here hx rfl (hb hby at_476) rfl k) ?_
    refine own_go (fun _ k => XS.iconst X0.here hx rfl (hb hby at_478) k) ?_
    refine own_go (fun _ k => XS.icmpNo X0.here hx rfl (hb hby at_479) rfl (teq (by decide : (5 : Int32) = (5 : Int32))).2 k) ?_
    refine own_go (fun _ k => XS.aload X0.here hx rfl (hb hby at_482) rfl rfl k) ?_
    obtain ⟨cl374, Ar374, q374, S374, N374, H374, G374⟩ := id V_o23
    refine own_go (X0.arraylength hx (by rw [e0]; exact Ar374.1) (State.isArrayOf_alike hZ.alike Ar374.2.1) (g := (mkF m 484 #[.val (.int p1), .val (.int p2), .val (.int p3), .val (.int p4), .val (.int p5), .val (.int p6), .val (.int x6), .val (.int x7), .val (.int x8), .val (.int x9), .val (.int x10), .val (.int x11), .val (.int x12), .val (.int x13), .val (.int x14), .val (.int x15), .val (.int x16), .val (.int 5), .val (.ref o18), .val (.int 2), .val (.int 3), .val (.int 4), .val (.int 5), .val (.ref o23), .val (.int r5), .val (.int r4), .val (.int r3), .val (.int r2), .val (.int r1), .val (.int r0)] [(.ref o23)])) rfl rfl (hb hby at_484)) ?_
    rw [len_of S374 N374]
    refine own_go (fun _ k => XS.iload X0.here hx rfl (hb hby at_485) rfl k) ?_
    refine own_go (fun _ k => XS.iconst X0.here hx rfl (hb hby at_487) k) ?_
    show own_Run p e below _ T0 (mkF m 488 #[.val (.int p1), .val (.int p2), .val (.int p3), .val (.int p4), .val (.int p5), .val (.int p6), .val (.int x6), .val (.int x7), .val (.int x8), .val (.int x9), .val (.int x10), .val (.int x11), .val (.int x12), .val (.int x13), .val (.int x14), .val (.int x15), .val (.int x16), .val (.int 5), .val (.ref o18), .val (.int 2), .val (.int 3), .val (.int 4), .val (.int 5), .val (.ref o23), .val (.int r5), .val (.int r4), .val (.int r3), .val (.int r2), .val (.int r1), .val (.int r0)] [(.int 1), (.int 5), (.int 6)])
    refine own_go (fun _ k => XS.iadd X0.here hx rfl (hb hby at_488) rfl k) ?_
    show own_Run p e below _ T0 (mkF m 489 #[.val (.int p1), .val (.int p2), .val (.int p3), .val (.int p4), .val (.int p5), .val (.int p6), .val (.int x6), .val (.int x7), .val (.int x8), .val (.int x9), .val (.int x10), .val (.int x11), .val (.int x12), .val (.int x13), .val (.int x14), .val (.int x15), .val (.int x16), .val (.int 5), .val (.ref o18), .val (.int 2), .val (.int 3), .val (.int 4), .val (.int 5), .val (.ref o23), .val (.int r5), .val (.int r4), .val (.int r3), .val (.int r2), .val (.int r1), .val (.int r0)] [(.int ((5 : Int32) + (1 : Int32))), (.int 6)])
    rw [show ((5 : Int32) + (1 : Int32)) = (6 : Int32) by decide]
    refine own_go (fun _ k => XS.icmpNo X0.here hx rfl (hb hby at_489) rfl (teq (by decide : (6 : Int32) = (6 : Int32))).2 k) ?_
    refine own_go (fun _ k => XS.aload X0.here hx rfl (hb hby at_492) rfl rfl k) ?_
    refine own_go (fun _ k => XS.iconst X0.here hx rfl (hb hby at_494) k) ?_
    obtain ⟨_, _, ⟨T375, L375, k375, n375⟩, -, X375, ⟨Lc375, hQ375, l375, y375, z375⟩, st375⟩ := Jvm.LawKit.callS X0 hx (y := (⟨own_K1, "at", "([ZI)Z"⟩ : MethodName)) hown (mvT hZ (W 38 rfl)) (mvT hZ (W 39 rfl)) (mvT hZ (W 40 rfl)) (mvT hZ (W 41 rfl)) (by decide) (backOf (W := 0) (rm6in l Z a0 hw [] o23 (0 : Int32) k23 (6 : Int32) [(.int (own_g0_2 (5 : Int32) x7 x8 x10 x11 x12 x13 x15 x16)), (.int (own_g1_2 (5 : Int32) x7 x8 x10 x11 x12 x13 x15 x16)), (.int (own_g2_3 (5 : Int32) x7 x8 x10 x11 x12 x13 x15 x16)), (.int (own_g3_4 (5 : Int32) x7 x8 x10 x11 x12 x13 x15 x16)), (.int (own_g4_5 (5 : Int32) x7 x8 x10 x11 x12 x13 x15 x16)), (.int (own_g5_6 (5 : Int32) x7 x8 x10 x11 x12 x13 x15 x16))] (.int 0) (own_g0_2 (5 : Int32) x7 x8 x10 x11 x12 x13 x15 x16) hh n0 Z0 V_o23 (⟨by decide, by decide⟩) (rfl) (own_gb0_2 _ x7 x8 x10 x11 x12 x13 x15 x16)) hZ (W 41 rfl) (W 40 rfl) (by decide) (by decide)) (g := (mkF m 495 #[.val (.int p1), .val (.int p2), .val (.int p3), .val (.int p4), .val (.int p5), .val (.int p6), .val (.int x6), .val (.int x7), .val (.int x8), .val (.int x9), .val (.int x10), .val (.int x11), .val (.int x12), .val (.int x13), .val (.int x14), .val (.int x15), .val (.int x16), .val (.int 5), .val (.ref o18), .val (.int 2), .val (.int 3), .val (.int 4), .val (.int 5), .val (.ref o23), .val (.int r5), .val (.int r4), .val (.int r3), .val (.int r2), .val (.int r1), .val (.int r0)] [(.int 0), (.ref o23)])) rfl (by rw [hml]; rfl) (argsL := [(.ref o23), (.int 0)]) (rest := []) (lenOf pd_2 rfl) rfl (by show 2 * 0 + _ ≤ _; exact Nat.le_of_eq rfl) (hb hby at_495) (fun _ _ => ⟨rfl, e0, (by decide : 6 + 0 ≤ _), (by decide : 5131 + 0 ≤ _)⟩)
    dsimp only [Pt.U, Pt.locs, Pt.cells, Pt.slots] at X375 l375 y375 z375 st375 hQ375
    subst l375 y375 z375
    obtain ⟨rfl, N375q, e375⟩ := hQ375
    have N375 := Fr.app N0 N375q
    refine own_go st375 ?_
    refine own_go (fun _ k => XS.iload X375.here hx rfl (hb hby at_498) rfl k) ?_
    refine own_go (fun _ k => XS.icmpNo X375.here hx rfl (hb hby at_500) rfl (teq (hr0.symm : (own_g0_2 (5 : Int32) x7 x8 x10 x11 x12 x13 x15 x16) = r0)).2 k) ?_
    refine own_go (fun _ k => XS.aload X375.here hx rfl (hb hby at_503) rfl rfl k) ?_
    refine own_go (fun _ k => XS.iconst X375.here hx rfl (hb hby at_505) k) ?_
    show own_Run p e below _ T375 (mkF m 506 #[.val (.int p1), .val (.int p2), .val (.int p3), .val (.int p4), .val (.int p5), .val (.int p6), .val (.int x6), .val (.int x7), .val (.int x8), .val (.int x9), .val (.int x10), .val (.int x11), .val (.int x12), .val (.int x13), .val (.int x14), .val (.int x15), .val (.int x16), .val (.int 5), .val (.ref o18), .val (.int 2), .val (.int 3), .val (.int 4), .val (.int 5), .val (.ref o23), .val (.int r5), .val (.int r4), .val (.int r3), .val (.int r2), .val (.int r1), .val (.int r0)] [(.int 1), (.ref o23)])
    obtain ⟨_, _, ⟨T376, L376, k376, n376⟩, -, X376, ⟨Lc376, hQ376, l376, y376, z376⟩, st376⟩ := Jvm.LawKit.callS X375 hx (y := (⟨own_K1, "at", "([ZI)Z"⟩ : MethodName)) hown (mvT hZ (W 38 rfl)) (mvT hZ (W 39 rfl)) (mvT hZ (W 40 rfl)) (mvT hZ (W 41 rfl)) (by decide) (backOf (W := 0) (rm6in l Z a0 hw [] o23 (1 : Int32) k23 (6 : Int32) [(.int (own_g0_2 (5 : Int32) x7 x8 x10 x11 x12 x13 x15 x16)), (.int (own_g1_2 (5 : Int32) x7 x8 x10 x11 x12 x13 x15 x16)), (.int (own_g2_3 (5 : Int32) x7 x8 x10 x11 x12 x13 x15 x16)), (.int (own_g3_4 (5 : Int32) x7 x8 x10 x11 x12 x13 x15 x16)), (.int (own_g4_5 (5 : Int32) x7 x8 x10 x11 x12 x13 x15 x16)), (.int (own_g5_6 (5 : Int32) x7 x8 x10 x11 x12 x13 x15 x16))] (.int 0) (own_g1_2 (5 : Int32) x7 x8 x10 x11 x12 x13 x15 x16) hh n0 Z0 V_o23 (⟨by decide, by decide⟩) (rfl) (own_gb1_2 _ x7 x8 x10 x11 x12 x13 x15 x16)) hZ (W 41 rfl) (W 40 rfl) (by decide) (by decide)) (g := (mkF m 506 #[.val (.int p1), .val (.int p2), .val (.int p3), .val (.int p4), .val (.int p5), .val (.int p6), .val (.int x6), .val (.int x7), .val (.int x8), .val (.int x9), .val (.int x10), .val (.int x11), .val (.int x12), .val (.int x13), .val (.int x14), .val (.int x15), .val (.int x16), .val (.int 5), .val (.ref o18), .val (.int 2), .val (.int 3), .val (.int 4), .val (.int 5), .val (.ref o23), .val (.int r5), .val (.int r4), .val (.int r3), .val (.int r2), .val (.int r1), .val (.int r0)] [(.int 1), (.ref o23)])) rfl (by rw [hml]; rfl) (argsL := [(.ref o23), (.int 1)]) (rest := []) (lenOf pd_2 rfl) rfl (by show 2 * 0 + _ ≤ _; exact Nat.le_of_eq rfl) (hb hby at_506) (fun _ _ => ⟨rfl, e375, (by decide : 6 + 0 ≤ _), (by decide : 5131 + 0 ≤ _)⟩)
    dsimp only [Pt.U, Pt.locs, Pt.cells, Pt.slots] at X376 l376 y376 z376 st376 hQ376
    subst l376 y376 z376
    obtain ⟨rfl, N376q, e376⟩ := hQ376
    have N376 := Fr.app N375 N376q
    refine own_go st376 ?_
    refine own_go (fun _ k => XS.iload X376.here hx rfl (hb hby at_509) rfl k) ?_
    refine own_go (fun _ k => XS.icmpNo X376.here hx rfl (hb hby at_511) rfl (teq (hr1.symm : (own_g1_2 (5 : Int32) x7 x8 x10 x11 x12 x13 x15 x16) = r1)).2 k) ?_
    refine own_go (fun _ k => XS.aload X376.here hx rfl (hb hby at_514) rfl rfl k) ?_
    refine own_go (fun _ k => XS.iconst X376.here hx rfl (hb hby at_516) k) ?_
    obtain ⟨_, _, ⟨T377, L377, k377, n377⟩, -, X377, ⟨Lc377, hQ377, l377, y377, z377⟩, st377⟩ := Jvm.LawKit.callS X376 hx (y := (⟨own_K1, "at", "([ZI)Z"⟩ : MethodName)) hown (mvT hZ (W 38 rfl)) (mvT hZ (W 39 rfl)) (mvT hZ (W 40 rfl)) (mvT hZ (W 41 rfl)) (by decide) (backOf (W := 0) (rm6in l Z a0 hw [] o23 (2 : Int32) k23 (6 : Int32) [(.int (own_g0_2 (5 : Int32) x7 x8 x10 x11 x12 x13 x15 x16)), (.int (own_g1_2 (5 : Int32) x7 x8 x10 x11 x12 x13 x15 x16)), (.int (own_g2_3 (5 : Int32) x7 x8 x10 x11 x12 x13 x15 x16)), (.int (own_g3_4 (5 : Int32) x7 x8 x10 x11 x12 x13 x15 x16)), (.int (own_g4_5 (5 : Int32) x7 x8 x10 x11 x12 x13 x15 x16)), (.int (own_g5_6 (5 : Int32) x7 x8 x10 x11 x12 x13 x15 x16))] (.int 0) (own_g2_3 (5 : Int32) x7 x8 x10 x11 x12 x13 x15 x16) hh n0 Z0 V_o23 (⟨by decide, by decide⟩) (rfl) (own_gb2_3 _ x7 x8 x10 x11 x12 x13 x15 x16)) hZ (W 41 rfl) (W 40 rfl) (by decide) (by decide)) (g := (mkF m 517 #[.val (.int p1), .val (.int p2), .val (.int p3), .val (.int p4), .val (.int p5), .val (.int p6), .val (.int x6), .val (.int x7), .val (.int x8), .val (.int x9), .val (.int x10), .val (.int x11), .val (.int x12), .val (.int x13), .val (.int x14), .val (.int x15), .val (.int x16), .val (.int 5), .val (.ref o18), .val (.int 2), .val (.int 3), .val (.int 4), .val (.int 5), .val (.ref o23), .val (.int r5), .val (.int r4), .val (.int r3), .val (.int r2), .val (.int r1), .val (.int r0)] [(.int 2), (.ref o23)])) rfl (by rw [hml]; rfl) (argsL := [(.ref o23), (.int 2)]) (rest := []) (lenOf pd_2 rfl) rfl (by show 2 * 0 + _ ≤ _; exact Nat.le_of_eq rfl) (hb hby at_517) (fun _ _ => ⟨rfl, e376, (by decide : 6 + 0 ≤ _), (by decide : 5131 + 0 ≤ _)⟩)
    dsimp only [Pt.U, Pt.locs, Pt.cells, Pt.slots] at X377 l377 y377 z377 st377 hQ377
    subst l377 y377 z377
    obtain ⟨rfl, N377q, e377⟩ := hQ377
    have N377 := Fr.app N376 N377q
    refine own_go st377 ?_
    refine own_go (fun _ k => XS.iload X377.here hx rfl (hb hby at_520) rfl k) ?_
    refine own_go (fun _ k => XS.icmpNo X377.here hx rfl (hb hby at_522) rfl (teq (hr2.symm : (own_g2_3 (5 : Int32) x7 x8 x10 x11 x12 x13 x15 x16) = r2)).2 k) ?_
    show own_Run p e below _ T377 (mkF m 525 #[.val (.int p1), .val (.int p2), .val (.int p3), .val (.int p4), .val (.int p5), .val (.int p6), .val (.int x6), .val (.int x7), .val (.int x8), .val (.int x9), .val (.int x10), .val (.int x11), .val (.int x12), .val (.int x13), .val (.int x14), .val (.int x15), .val (.int x16), .val (.int 5), .val (.ref o18), .val (.int 2), .val (.int 3), .val (.int 4), .val (.int 5), .val (.ref o23), .val (.int r5), .val (.int r4), .val (.int r3), .val (.int r2), .val (.int r1), .val (.int r0)] [])
    refine own_go (fun _ k => XS.aload X377.here hx rfl (hb hby at_525) rfl rfl k) ?_
    refine own_go (fun _ k => XS.iconst X377.here hx rfl (hb hby at_527) k) ?_
    obtain ⟨_, _, ⟨T378, L378, k378, n378⟩, -, X378, ⟨Lc378, hQ378, l378, y378, z378⟩, st378⟩ := Jvm.LawKit.callS X377 hx (y := (⟨own_K1, "at", "([ZI)Z"⟩ : MethodName)) hown (mvT hZ (W 38 rfl)) (mvT hZ (W 39 rfl)) (mvT hZ (W 40 rfl)) (mvT hZ (W 41 rfl)) (by decide) (backOf (W := 0) (rm6in l Z a0 hw [] o23 (3 : Int32) k23 (6 : Int32) [(.int (own_g0_2 (5 : Int32) x7 x8 x10 x11 x12 x13 x15 x16)), (.int (own_g1_2 (5 : Int32) x7 x8 x10 x11 x12 x13 x15 x16)), (.int (own_g2_3 (5 : Int32) x7 x8 x10 x11 x12 x13 x15 x16)), (.int (own_g3_4 (5 : Int32) x7 x8 x10 x11 x12 x13 x15 x16)), (.int (own_g4_5 (5 : Int32) x7 x8 x10 x11 x12 x13 x15 x16)), (.int (own_g5_6 (5 : Int32) x7 x8 x10 x11 x12 x13 x15 x16))] (.int 0) (own_g3_4 (5 : Int32) x7 x8 x10 x11 x12 x13 x15 x16) hh n0 Z0 V_o23 (⟨by decide, by decide⟩) (rfl) (own_gb3_4 _ x7 x8 x10 x11 x12 x13 x15 x16)) hZ (W 41 rfl) (W 40 rfl) (by decide) (by decide)) (g := (mkF m 528 #[.val (.int p1), .val (.int p2), .val (.int p3), .val (.int p4), .val (.int p5), .val (.int p6), .val (.int x6), .val (.int x7), .val (.int x8), .val (.int x9), .val (.int x10), .val (.int x11), .val (.int x12), .val (.int x13), .val (.int x14), .val (.int x15), .val (.int x16), .val (.int 5), .val (.ref o18), .val (.int 2), .val (.int 3), .val (.int 4), .val (.int 5), .val (.ref o23), .val (.int r5), .val (.int r4), .val (.int r3), .val (.int r2), .val (.int r1), .val (.int r0)] [(.int 3), (.ref o23)])) rfl (by rw [hml]; rfl) (argsL := [(.ref o23), (.int 3)]) (rest := []) (lenOf pd_2 rfl) rfl (by show 2 * 0 + _ ≤ _; exact Nat.le_of_eq rfl) (hb hby at_528) (fun _ _ => ⟨rfl, e377, (by decide : 6 + 0 ≤ _), (by decide : 5131 + 0 ≤ _)⟩)
    dsimp only [Pt.U, Pt.locs, Pt.cells, Pt.slots] at X378 l378 y378 z378 st378 hQ378
    subst l378 y378 z378
    obtain ⟨rfl, N378q, e378⟩ := hQ378
    have N378 := Fr.app N377 N378q
    refine own_go st378 ?_
    refine own_go (fun _ k => XS.iload X378.here hx rfl (hb hby at_531) rfl k) ?_
    refine own_go (fun _ k => XS.icmpNo X378.here hx rfl (hb hby at_533) rfl (teq (hr3.symm : (own_g3_4 (5 : Int32) x7 x8 x10 x11 x12 x13 x15 x16) = r3)).2 k) ?_
    refine own_go (fun _ k => XS.aload X378.here hx rfl (hb hby at_536) rfl rfl k) ?_
    refine own_go (fun _ k => XS.iconst X378.here hx rfl (hb hby at_538) k) ?_
    obtain ⟨_, _, ⟨T379, L379, k379, n379⟩, -, X379, ⟨Lc379, hQ379, l379, y379, z379⟩, st379⟩ := Jvm.LawKit.callS X378 hx (y := (⟨own_K1, "at", "([ZI)Z"⟩ : MethodName)) hown (mvT hZ (W 38 rfl)) (mvT hZ (W 39 rfl)) (mvT hZ (W 40 rfl)) (mvT hZ (W 41 rfl)) (by decide) (backOf (W := 0) (rm6in l Z a0 hw [] o23 (4 : Int32) k23 (6 : Int32) [(.int (own_g0_2 (5 : Int32) x7 x8 x10 x11 x12 x13 x15 x16)), (.int (own_g1_2 (5 : Int32) x7 x8 x10 x11 x12 x13 x15 x16)), (.int (own_g2_3 (5 : Int32) x7 x8 x10 x11 x12 x13 x15 x16)), (.int (own_g3_4 (5 : Int32) x7 x8 x10 x11 x12 x13 x15 x16)), (.int (own_g4_5 (5 : Int32) x7 x8 x10 x11 x12 x13 x15 x16)), (.int (own_g5_6 (5 : Int32) x7 x8 x10 x11 x12 x13 x15 x16))] (.int 0) (own_g4_5 (5 : Int32) x7 x8 x10 x11 x12 x13 x15 x16) hh n0 Z0 V_o23 (⟨by decide, by decide⟩) (rfl) (own_gb4_5 _ x7 x8 x10 x11 x12 x13 x15 x16)) hZ (W 41 rfl) (W 40 rfl) (by decide) (by decide)) (g := (mkF m 539 #[.val (.int p1), .val (.int p2), .val (.int p3), .val (.int p4), .val (.int p5), .val (.int p6), .val (.int x6), .val (.int x7), .val (.int x8), .val (.int x9), .val (.int x10), .val (.int x11), .val (.int x12), .val (.int x13), .val (.int x14), .val (.int x15), .val (.int x16), .val (.int 5), .val (.ref o18), .val (.int 2), .val (.int 3), .val (.int 4), .val (.int 5), .val (.ref o23), .val (.int r5), .val (.int r4), .val (.int r3), .val (.int r2), .val (.int r1), .val (.int r0)] [(.int 4), (.ref o23)])) rfl (by rw [hml]; rfl) (argsL := [(.ref o23), (.int 4)]) (rest := []) (lenOf pd_2 rfl) rfl (by show 2 * 0 + _ ≤ _; exact Nat.le_of_eq rfl) (hb hby at_539) (fun _ _ => ⟨rfl, e378, (by decide : 6 + 0 ≤ _), (by decide : 5131 + 0 ≤ _)⟩)
    dsimp only [Pt.U, Pt.locs, Pt.cells, Pt.slots] at X379 l379 y379 z379 st379 hQ379
    subst l379 y379 z379
    obtain ⟨rfl, N379q, e379⟩ := hQ379
    have N379 := Fr.app N378 N379q
    refine own_go st379 ?_
    show own_Run p e below _ T379 (mkF m 542 #[.val (.int p1), .val (.int p2), .val (.int p3), .val (.int p4), .val (.int p5), .val (.int p6), .val (.int x6), .val (.int x7), .val (.int x8), .val (.int x9), .val (.int x10), .val (.int x11), .val (.int x12), .val (.int x13), .val (.int x14), .val (.int x15), .val (.int x16), .val (.int 5), .val (.ref o18), .val (.int 2), .val (.int 3), .val (.int 4), .val (.int 5), .val (.ref o23), .val (.int r5), .val (.int r4), .val (.int r3), .val (.int r2), .val (.int r1), .val (.int r0)] [(.int (own_g4_5 (5 : Int32) x7 x8 x10 x11 x12 x13 x15 x16))])
    refine own_go (fun _ k => XS.iload X379.here hx rfl (hb hby at_542) rfl k) ?_
    refine own_go (fun _ k => XS.icmpNo X379.here hx rfl (hb hby at_544) rfl (teq (hr4.symm : (own_g4_5 (5 : Int32) x7 x8 x10 x11 x12 x13 x15 x16) = r4)).2 k) ?_
    refine own_go (fun _ k => XS.aload X379.here hx rfl (hb hby at_547) rfl rfl k) ?_
    refine own_go (fun _ k => XS.iconst X379.here hx rfl (hb hby at_549) k) ?_
    obtain ⟨_, _, ⟨T380, L380, k380, n380⟩, -, X380, ⟨Lc380, hQ380, l380, y380, z380⟩, st380⟩ := Jvm.LawKit.callS X379 hx (y := (⟨own_K1, "at", "([ZI)Z"⟩ : MethodName)) hown (mvT hZ (W 38 rfl)) (mvT hZ (W 39 rfl)) (mvT hZ (W 40 rfl)) (mvT hZ (W 41 rfl)) (by decide) (backOf (W := 0) (rm6in l Z a0 hw [] o23 (5 : Int32) k23 (6 : Int32) [(.int (own_g0_2 (5 : Int32) x7 x8 x10 x11 x12 x13 x15 x16)), (.int (own_g1_2 (5 : Int32) x7 x8 x10 x11 x12 x13 x15 x16)), (.int (own_g2_3 (5 : Int32) x7 x8 x10 x11 x12 x13 x15 x16)), (.int (own_g3_4 (5 : Int32) x7 x8 x10 x11 x12 x13 x15 x16)), (.int (own_g4_5 (5 : Int32) x7 x8 x10 x11 x12 x13 x15 x16)), (.int (own_g5_6 (5 : Int32) x7 x8 x10 x11 x12 x13 x15 x16))] (.int 0) (own_g5_6 (5 : Int32) x7 x8 x10 x11 x12 x13 x15 x16) hh n0 Z0 V_o23 (⟨by decide, by decide⟩) (rfl) (own_gb5_6 _ x7 x8 x10 x11 x12 x13 x15 x16)) hZ (W 41 rfl) (W 40 rfl) (by decide) (by decide)) (g := (mkF m 550 #[.val (.int p1), .val (.int p2), .val (.int p3), .val (.int p4), .val (.int p5), .val (.int p6), .val (.int x6), .val (.int x7), .val (.int x8), .val (.int x9), .val (.int x10), .val (.int x11), .val (.int x12), .val (.int x13), .val (.int x14), .val (.int x15), .val (.int x16), .val (.int 5), .val (.ref o18), .val (.int 2), .val (.int 3), .val (.int 4), .val (.int 5), .val (.ref o23), .val (.int r5), .val (.int r4), .val (.int r3), .val (.int r2), .val (.int r1), .val (.int r0)] [(.int 5), (.ref o23)])) rfl (by rw [hml]; rfl) (argsL := [(.ref o23), (.int 5)]) (rest := []) (lenOf pd_2 rfl) rfl (by show 2 * 0 + _ ≤ _; exact Nat.le_of_eq rfl) (hb hby at_550) (fun _ _ => ⟨rfl, e379, (by decide : 6 + 0 ≤ _), (by decide : 5131 + 0 ≤ _)⟩)
    dsimp only [Pt.U, Pt.locs, Pt.cells, Pt.slots] at X380 l380 y380 z380 st380 hQ380
    subst l380 y380 z380
    obtain ⟨rfl, N380q, e380⟩ := hQ380
    have N380 := Fr.app N379 N380q
    refine own_go st380 ?_
    refine own_go (fun _ k => XS.iload X380.here hx rfl (hb hby at_553) rfl k) ?_
    refine own_go (fun _ k => XS.icmpNo X380.here hx rfl (hb hby at_555) rfl (teq (hr5.symm : (own_g5_6 (5 : Int32) x7 x8 x10 x11 x12 x13 x15 x16) = r5)).2 k) ?_
    refine own_go (fun _ k => XS.iconst X380.here hx rfl (hb hby at_558) k) ?_
    show own_Run p e below _ T380 (mkF m 559 #[.val (.int p1), .val (.int p2), .val (.int p3), .val (.int p4), .val (.int p5), .val (.int p6), .val (.int x6), .val (.int x7), .val (.int x8), .val (.int x9), .val (.int x10), .val (.int x11), .val (.int x12), .val (.int x13), .val (.int x14), .val (.int x15), .val (.int x16), .val (.int 5), .val (.ref o18), .val (.int 2), .val (.int 3), .val (.int 4), .val (.int 5), .val (.ref o23), .val (.int r5), .val (.int r4), .val (.int r3), .val (.int r2), .val (.int r1), .val (.int r0)] [(.int 1)])
    refine own_go (fun _ k => XS.goto X380.here hx rfl (pc0 := 559) (pc' := 563) rfl (hb hby at_559) (by decide) (by decide) k) ?_
    refine own_done (Q := fun v h L => Q0 Z p1 p2 p3 p4 p5 p6 h0 n0 v h L) (v := (some (.int 1))) X380 (fun h => by rw [hret] at h; cases h) hlk (fun fs hr => retN X380 hx (t := .boolean) hret (by simp) (hb hby at_563) hr) ?_ (by decide) (by decide)
    show Q0 Z p1 p2 p3 p4 p5 p6 h0 n0 _ T380.heap _
    rw [e380]
    exact ⟨rfl, N380⟩
theorem pd_3 : parseMethodDescriptor "(III)Z" = some ⟨[.int, .int, .int], some .boolean⟩ := by decide +kernel
set_option maxRecDepth 65536 in
set_option maxHeartbeats 40000000 in
theorem lw1 {p : Program} {l : Launch} {e : Env} {s : State} {m : MethodId} {args : Array Value} {below : List Frame} {meth : Method} {c : Code} {Z : State} {a0 : Array Value} (p1 : Int32) (p2 : Int32) (p3 : Int32) (p4 : Int32) (p5 : Int32) (p6 : Int32) (h0 : Heap) (n0 : Nat) (hx : p.tables.exec = Jvm.exec) (hZ : Z.Warmed39 s.vm) (hw : ∀ d ∈ tables_1, d.before a0 Z = true) (hby : c.code = code) (hml : c.maxLocals = 30) (hown : s.vm.findClass own_K1 = some m.cls) (hnm : meth.name = "law") (hret : meth.sig.returnType = some .boolean) (hlk : meth.locks = false)
    (x6 : Int32) (x7 : Int32) (x8 : Int32) (x9 : Int32) (x10 : Int32) (x11 : Int32) (x12 : Int32) (x13 : Int32) (x14 : Int32) (x15 : Int32) (x16 : Int32) (x17 : Int32) (o18 : Addr) (o23 : Addr) (k23 : ClassId) (nn : Int32) (vs : List Value) (r5 : Int32) (r4 : Int32) (r3 : Int32) (r2 : Int32) (r1 : Int32) (T0 : State) (hh : Heap) (locs : List Loc) (X0 : Stand p l e room_1 s m args below meth c T0 locs 6 5131) (e0 : T0.heap = hh) (N0 : Fr n0 locs) (Z0 : n0 ≤ hh.size) (K0 : Keep h0 hh []) (V_o23 : Arv Z hh o23 k23 .boolean nn vs (.int 0)) (hvs : own_HV x17 nn vs x7 x8 x10 x11 x12 x13 x15 x16) (hr5 : r5 = (own_g5_6 x17 x7 x8 x10 x11 x12 x13 x15 x16)) (hr4 : r4 = (own_g4_5 x17 x7 x8 x10 x11 x12 x13 x15 x16)) (hr3 : r3 = (own_g3_4 x17 x7 x8 x10 x11 x12 x13 x15 x16)) (hr2 : r2 = (own_g2_3 x17 x7 x8 x10 x11 x12 x13 x15 x16)) (hr1 : r1 = (own_g1_2 x17 x7 x8 x10 x11 x12 x13 x15 x16)) :
    own_Run p e below (fun o U' => ∃ v L, o = .returned v ∧ Q0 Z p1 p2 p3 p4 p5 p6 h0 n0 v U'.heap L ∧ FrameEnd s o U' L room_1.cells room_1.slots) T0 (mkF m 382 #[.val (.int p1), .val (.int p2), .val (.int p3), .val (.int p4), .val (.int p5), .val (.int p6), .val (.int x6), .val (.int x7), .val (.int x8), .val (.int x9), .val (.int x10), .val (.int x11), .val (.int x12), .val (.int x13), .val (.int x14), .val (.int x15), .val (.int x16), .val (.int x17), .val (.ref o18), .val (.int 2), .val (.int 3), .val (.int 4), .val (.int 5), .val (.ref o23), .val (.int r5), .val (.int r4), .val (.int r3), .val (.int r2), .val (.int r1), .unset] []) := by
  have W := fun (k : Nat) {d : Jvm.Cond} (h : tables_1[k]? = some d) => hw d (List.mem_of_getElem? h)
  show own_Run p e below _ T0 (mkF m 382 #[.val (.int p1), .val (.int p2), .val (.int p3), .val (.int p4), .val (.int p5), .val (.int p6), .val (.int x6), .val (.int x7), .val (.int x8), .val (.int x9), .val (.int x10), .val (.int x11), .val (.int x12), .val (.int x13), .val (.int x14), .val (.int x15), .val (.int x16), .val (.int x17), .val (.ref o18), .val (.int 2), .val (.int 3), .val (.int 4), .val (.int 5), .val (.ref o23), .val (.int r5), .val (.int r4), .val (.int r3), .val (.int r2), .val (.int r1), .unset] [])
  refine own_go (fun _ k => XS.iload X0.here hx rfl (hb hby at_382) rfl k) ?_
  by_cases hc384_381 : x17 = (0 : Int32)
  · refine own_go (fun _ k => XS.ifYes X0.here hx rfl (pc0 := 384) (pc' := 451) rfl (hb hby at_384) rfl ((if0 _ _).trans (teq hc384_381).1) (by decide) (by decide) k) ?_
    refine own_go (fun _ k => XS.iconst X0.here hx rfl (hb hby at_451) k) ?_
    refine own_go (fun _ k => XS.goto X0.here hx rfl (pc0 := 452) (pc' := 456) rfl (hb hby at_452) (by decide) (by decide) k) ?_
    refine own_go (fun _ k => XS.istore X0.here hx rfl (hb hby at_456) rfl (l' := #[.val (.int p1), .val (.int p2), .val (.int p3), .val (.int p4), .val (.int p5), .val (.int p6), .val (.int x6), .val (.int x7), .val (.int x8), .val (.int x9), .val (.int x10), .val (.int x11), .val (.int x12), .val (.int x13), .val (.int x14), .val (.int x15), .val (.int x16), .val (.int x17), .val (.ref o18), .val (.int 2), .val (.int 3), .val (.int 4), .val (.int 5), .val (.ref o23), .val (.int r5), .val (.int r4), .val (.int r3), .val (.int r2), .val (.int r1), .val (.int 1)]) rfl k) ?_
    have hs382 : (1 : Int32) = (own_g0_2 x17 x7 x8 x10 x11 x12 x13 x15 x16) := by
      have hsp : (own_g0_2 x17 x7 x8 x10 x11 x12 x13 x15 x16) = own_st r2 x7 x8 0 (own_st r3 x10 x11 0 (own_st r4 x12 x13 0 (own_st r5 x15 x16 0 (if x17 = (0 : Int32) then 1 else 0)))) := by
        rw [hr2, hr3, hr4, hr5]
        rfl
      rw [hsp]
      rw [if_pos hc384_381]
      rw [own_st1]
      rw [own_st1]
      rw [own_st1]
      rw [own_st1]
    exact lw0 p1 p2 p3 p4 p5 p6 h0 n0 hx hZ hw hby hml hown hnm hret hlk x6 x7 x8 x9 x10 x11 x12 x13 x14 x15 x16 x17 o18 o23 k23 nn vs r5 r4 r3 r2 r1 (1 : Int32) T0 hh _ X0 e0 N0 Z0 K0 V_o23 (hvs) (hr5) (hr4) (hr3) (hr2) (hr1) (hs382) 
  · refine own_go (fun _ k => XS.ifNo X0.here hx rfl (hb hby at_384) rfl ((if0 _ _).trans (feq hc384_381).1) k) ?_
    refine own_go (fun _ k => XS.iload X0.here hx rfl (hb hby at_387) rfl k) ?_
    by_cases hc389_383 : r2 = (0 : Int32)
    · refine own_go (fun _ k => XS.ifYes X0.here hx rfl (pc0 := 389) (pc' := 403) rfl (hb hby at_389) rfl ((if0 _ _).trans (teq hc389_383).1) (by decide) (by decide) k) ?_
      refine own_go (fun _ k => XS.iload X0.here hx rfl (hb hby at_403) rfl k) ?_
      by_cases hc405_384 : r3 = (0 : Int32)
      · refine own_go (fun _ k => XS.ifYes X0.here hx rfl (pc0 := 405) (pc' := 419) rfl (hb hby at_405) rfl ((if0 _ _).trans (teq hc405_384).1) (by decide) (by decide) k) ?_
        refine own_go (fun _ k => XS.iload X0.here hx rfl (hb hby at_419) rfl k) ?_
        by_cases hc421_385 : r4 = (0 : Int32)
        · refine own_go (fun _ k => XS.ifYes X0.here hx rfl (pc0 := 421) (pc' := 435) rfl (hb hby at_421) rfl ((if0 _ _).trans (teq hc421_385).1) (by decide) (by decide) k) ?_
          show own_Run p e below _ T0 (mkF m 435 #[.val (.int p1), .val (.int p2), .val (.int p3), .val (.int p4), .val (.int p5), .val (.int p6), .val (.int x6), .val (.int x7), .val (.int x8), .val (.int x9), .val (.int x10), .val (.int x11), .val (.int x12), .val (.int x13), .val (.int x14), .val (.int x15), .val (.int x16), .val (.int x17), .val (.ref o18), .val (.int 2), .val (.int 3), .val (.int 4), .val (.int 5), .val (.ref o23), .val (.int r5), .val (.int r4), .val (.int r3), .val (.int r2), .val (.int r1), .unset] [])
          refine own_go (fun _ k => XS.iload X0.here hx rfl (hb hby at_435) rfl k) ?_
          by_cases hc437_386 : r5 = (0 : Int32)
          · refine own_go (fun _ k => XS.ifYes X0.here hx rfl (pc0 := 437) (pc' := 455) rfl (hb hby at_437) rfl ((if0 _ _).trans (teq hc437_386).1) (by decide) (by decide) k) ?_
            refine own_go (fun _ k => XS.iconst X0.here hx rfl (hb hby at_455) k) ?_
            refine own_go (fun _ k => XS.istore X0.here hx rfl (hb hby at_456) rfl (l' := #[.val (.int p1), .val (.int p2), .val (.int p3), .val (.int p4), .val (.int p5), .val (.int p6), .val (.int x6), .val (.int x7), .val (.int x8), .val (.int x9), .val (.int x10), .val (.int x11), .val (.int x12), .val (.int x13), .val (.int x14), .val (.int x15), .val (.int x16), .val (.int x17), .val (.ref o18), .val (.int 2), .val (.int 3), .val (.int 4), .val (.int 5), .val (.ref o23), .val (.int r5), .val (.int r4), .val (.int r3), .val (.int r2), .val (.int r1), .val (.int 0)]) rfl k) ?_
            have hs387 : (0 : Int32) = (own_g0_2 x17 x7 x8 x10 x11 x12 x13 x15 x16) := by
              have hsp : (own_g0_2 x17 x7 x8 x10 x11 x12 x13 x15 x16) = own_st r2 x7 x8 0 (own_st r3 x10 x11 0 (own_st r4 x12 x13 0 (own_st r5 x15 x16 0 (if x17 = (0 : Int32) then 1 else 0)))) := by
                rw [hr2, hr3, hr4, hr5]
                rfl
              rw [hsp]
              rw [own_st0 _ _ _ _ _ hc389_383]
              rw [own_st0 _ _ _ _ _ hc405_384]
              rw [own_st0 _ _ _ _ _ hc421_385]
              rw [own_st0 _ _ _ _ _ hc437_386]
              rw [if_neg hc384_381]
            exact lw0 p1 p2 p3 p4 p5 p6 h0 n0 hx hZ hw hby hml hown hnm hret hlk x6 x7 x8 x9 x10 x11 x12 x13 x14 x15 x16 x17 o18 o23 k23 nn vs r5 r4 r3 r2 r1 (0 : Int32) T0 hh _ X0 e0 N0 Z0 K0 V_o23 (hvs) (hr5) (hr4) (hr3) (hr2) (hr1) (hs387) 
          · refine own_go (fun _ k => XS.ifNo X0.here hx rfl (hb hby at_437) rfl ((if0 _ _).trans (feq hc437_386).1) k) ?_
            refine own_go (fun _ k => XS.iload X0.here hx rfl (hb hby at_440) rfl k) ?_
            refine own_go (fun _ k => XS.iload X0.here hx rfl (hb hby at_442) rfl k) ?_
            refine own_go (fun _ k => XS.iconst X0.here hx rfl (hb hby at_444) k) ?_
            obtain ⟨_, _, ⟨T388, L388, k388, n388⟩, -, X388, ⟨Lc388, hQ388, l388, y388, z388⟩, st388⟩ := Jvm.LawKit.callS X0 hx (y := (⟨own_K1, "hits", "(III)Z"⟩ : MethodName)) hown (mvT hZ (W 42 rfl)) (mvT hZ (W 43 rfl)) (mvT hZ (W 40 rfl)) (mvT hZ (W 44 rfl)) (by decide) (backOf (W := 0) (rm7 l Z a0 hw [] x15 x16 (0 : Int32) (own_hit x15 x16 (0 : Int32)) hh n0 Z0 (own_hitP x15 x16 (0 : Int32))) hZ (W 44 rfl) (W 40 rfl) (by decide) (by decide)) (g := (mkF m 445 #[.val (.int p1), .val (.int p2), .val (.int p3), .val (.int p4), .val (.int p5), .val (.int p6), .val (.int x6), .val (.int x7), .val (.int x8), .val (.int x9), .val (.int x10), .val (.int x11), .val (.int x12), .val (.int x13), .val (.int x14), .val (.int x15), .val (.int x16), .val (.int x17), .val (.ref o18), .val (.int 2), .val (.int 3), .val (.int 4), .val (.int 5), .val (.ref o23), .val (.int r5), .val (.int r4), .val (.int r3), .val (.int r2), .val (.int r1), .unset] [(.int 0), (.int x16), (.int x15)])) rfl (by rw [hml]; rfl) (argsL := [(.int x15), (.int x16), (.int 0)]) (rest := []) (lenOf pd_3 rfl) rfl (by show 2 * 0 + _ ≤ _; exact Nat.le_of_eq rfl) (hb hby at_445) (fun _ _ => ⟨rfl, e0, (by decide : 6 + 0 ≤ _), (by decide : 5131 + 0 ≤ _)⟩)
            dsimp only [Pt.U, Pt.locs, Pt.cells, Pt.slots] at X388 l388 y388 z388 st388 hQ388
            subst l388 y388 z388
            obtain ⟨rfl, N388q, e388⟩ := hQ388
            have N388 := Fr.app N0 N388q
            refine own_go st388 ?_
            by_cases hc448_389 : (own_hit x15 x16 (0 : Int32)) = (0 : Int32)
            · refine own_go (fun _ k => XS.ifYes X388.here hx rfl (pc0 := 448) (pc' := 455) rfl (hb hby at_448) rfl ((if0 _ _).trans (teq hc448_389).1) (by decide) (by decide) k) ?_
              refine own_go (fun _ k => XS.iconst X388.here hx rfl (hb hby at_455) k) ?_
              show own_Run p e below _ T388 (mkF m 456 #[.val (.int p1), .val (.int p2), .val (.int p3), .val (.int p4), .val (.int p5), .val (.int p6), .val (.int x6), .val (.int x7), .val (.int x8), .val (.int x9), .val (.int x10), .val (.int x11), .val (.int x12), .val (.int x13), .val (.int x14), .val (.int x15), .val (.int x16), .val (.int x17), .val (.ref o18), .val (.int 2), .val (.int 3), .val (.int 4), .val (.int 5), .val (.ref o23), .val (.int r5), .val (.int r4), .val (.int r3), .val (.int r2), .val (.int r1), .unset] [(.int 0)])
              refine own_go (fun _ k => XS.istore X388.here hx rfl (hb hby at_456) rfl (l' := #[.val (.int p1), .val (.int p2), .val (.int p3), .val (.int p4), .val (.int p5), .val (.int p6), .val (.int x6), .val (.int x7), .val (.int x8), .val (.int x9), .val (.int x10), .val (.int x11), .val (.int x12), .val (.int x13), .val (.int x14), .val (.int x15), .val (.int x16), .val (.int x17), .val (.ref o18), .val (.int 2), .val (.int 3), .val (.int 4), .val (.int 5), .val (.ref o23), .val (.int r5), .val (.int r4), .val (.int r3), .val (.int r2), .val (.int r1), .val (.int 0)]) rfl k) ?_
              have hs390 : (0 : Int32) = (own_g0_2 x17 x7 x8 x10 x11 x12 x13 x15 x16) := by
                have hsp : (own_g0_2 x17 x7 x8 x10 x11 x12 x13 x15 x16) = own_st r2 x7 x8 0 (own_st r3 x10 x11 0 (own_st r4 x12 x13 0 (own_st r5 x15 x16 0 (if x17 = (0 : Int32) then 1 else 0)))) := by
                  rw [hr2, hr3, hr4, hr5]
                  rfl
                rw [hsp]
                rw [own_st0 _ _ _ _ _ hc389_383]
                rw [own_st0 _ _ _ _ _ hc405_384]
                rw [own_st0 _ _ _ _ _ hc421_385]
                rw [own_stN _ _ _ _ _ hc448_389]
                rw [if_neg hc384_381]
              exact lw0 p1 p2 p3 p4 p5 p6 h0 n0 hx hZ hw hby hml hown hnm hret hlk x6 x7 x8 x9 x10 x11 x12 x13 x14 x15 x16 x17 o18 o23 k23 nn vs r5 r4 r3 r2 r1 (0 : Int32) T388 hh _ X388 e388 N388 Z0 K0 V_o23 (hvs) (hr5) (hr4) (hr3) (hr2) (hr1) (hs390) 
            · refine own_go (fun _ k => XS.ifNo X388.here hx rfl (hb hby at_448) rfl ((if0 _ _).trans (feq hc448_389).1) k) ?_
              refine own_go (fun _ k => XS.iconst X388.here hx rfl (hb hby at_451) k) ?_
              show own_Run p e below _ T388 (mkF m 452 #[.val (.int p1), .val (.int p2), .val (.int p3), .val (.int p4), .val (.int p5), .val (.int p6), .val (.int x6), .val (.int x7), .val (.int x8), .val (.int x9), .val (.int x10), .val (.int x11), .val (.int x12), .val (.int x13), .val (.int x14), .val (.int x15), .val (.int x16), .val (.int x17), .val (.ref o18), .val (.int 2), .val (.int 3), .val (.int 4), .val (.int 5), .val (.ref o23), .val (.int r5), .val (.int r4), .val (.int r3), .val (.int r2), .val (.int r1), .unset] [(.int 1)])
              refine own_go (fun _ k => XS.goto X388.here hx rfl (pc0 := 452) (pc' := 456) rfl (hb hby at_452) (by decide) (by decide) k) ?_
              refine own_go (fun _ k => XS.istore X388.here hx rfl (hb hby at_456) rfl (l' := #[.val (.int p1), .val (.int p2), .val (.int p3), .val (.int p4), .val (.int p5), .val (.int p6), .val (.int x6), .val (.int x7), .val (.int x8), .val (.int x9), .val (.int x10), .val (.int x11), .val (.int x12), .val (.int x13), .val (.int x14), .val (.int x15), .val (.int x16), .val (.int x17), .val (.ref o18), .val (.int 2), .val (.int 3), .val (.int 4), .val (.int 5), .val (.ref o23), .val (.int r5), .val (.int r4), .val (.int r3), .val (.int r2), .val (.int r1), .val (.int 1)]) rfl k) ?_
              have hs391 : (1 : Int32) = (own_g0_2 x17 x7 x8 x10 x11 x12 x13 x15 x16) := by
                have hsp : (own_g0_2 x17 x7 x8 x10 x11 x12 x13 x15 x16) = own_st r2 x7 x8 0 (own_st r3 x10 x11 0 (own_st r4 x12 x13 0 (own_st r5 x15 x16 0 (if x17 = (0 : Int32) then 1 else 0)))) := by
                  rw [hr2, hr3, hr4, hr5]
                  rfl
                rw [hsp]
                rw [own_st0 _ _ _ _ _ hc389_383]
                rw [own_st0 _ _ _ _ _ hc405_384]
                rw [own_st0 _ _ _ _ _ hc421_385]
                rw [own_stY _ _ _ _ _ (by assumption) hc448_389]
              exact lw0 p1 p2 p3 p4 p5 p6 h0 n0 hx hZ hw hby hml hown hnm hret hlk x6 x7 x8 x9 x10 x11 x12 x13 x14 x15 x16 x17 o18 o23 k23 nn vs r5 r4 r3 r2 r1 (1 : Int32) T388 hh _ X388 e388 N388 Z0 K0 V_o23 (hvs) (hr5) (hr4) (hr3) (hr2) (hr1) (hs391) 
        · refine own_go (fun _ k => XS.ifNo X0.here hx rfl (hb hby at_421) rfl ((if0 _ _).trans (feq hc421_385).1) k) ?_
          show own_Run p e below _ T0 (mkF m 424 #[.val (.int p1), .val (.int p2), .val (.int p3), .val (.int p4), .val (.int p5), .val (.int p6), .val (.int x6), .val (.int x7), .val (.int x8), .val (.int x9), .val (.int x10), .val (.int x11), .val (.int x12), .val (.int x13), .val (.int x14), .val (.int x15), .val (.int x16), .val (.int x17), .val (.ref o18), .val (.int 2), .val (.int 3), .val (.int 4), .val (.int 5), .val (.ref o23), .val (.int r5), .val (.int r4), .val (.int r3), .val (.int r2), .val (.int r1), .unset] [])
          refine own_go (fun _ k => XS.iload X0.here hx rfl (hb hby at_424) rfl k) ?_
          refine own_go (fun _ k => XS.iload X0.here hx rfl (hb hby at_426) rfl k) ?_
          refine own_go (fun _ k => XS.iconst X0.here hx rfl (hb hby at_428) k) ?_
          obtain ⟨_, _, ⟨T392, L392, k392, n392⟩, -, X392, ⟨Lc392, hQ392, l392, y392, z392⟩, st392⟩ := Jvm.LawKit.callS X0 hx (y := (⟨own_K1, "hits", "(III)Z"⟩ : MethodName)) hown (mvT hZ (W 42 rfl)) (mvT hZ (W 43 rfl)) (mvT hZ (W 40 rfl)) (mvT hZ (W 44 rfl)) (by decide) (backOf (W := 0) (rm7 l Z a0 hw [] x12 x13 (0 : Int32) (own_hit x12 x13 (0 : Int32)) hh n0 Z0 (own_hitP x12 x13 (0 : Int32))) hZ (W 44 rfl) (W 40 rfl) (by decide) (by decide)) (g := (mkF m 429 #[.val (.int p1), .val (.int p2), .val (.int p3), .val (.int p4), .val (.int p5), .val (.int p6), .val (.int x6), .val (.int x7), .val (.int x8), .val (.int x9), .val (.int x10), .val (.int x11), .val (.int x12), .val (.int x13), .val (.int x14), .val (.int x15), .val (.int x16), .val (.int x17), .val (.ref o18), .val (.int 2), .val (.int 3), .val (.int 4), .val (.int 5), .val (.ref o23), .val (.int r5), .val (.int r4), .val (.int r3), .val (.int r2), .val (.int r1), .unset] [(.int 0), (.int x13), (.int x12)])) rfl (by rw [hml]; rfl) (argsL := [(.int x12), (.int x13), (.int 0)]) (rest := []) (lenOf pd_3 rfl) rfl (by show 2 * 0 + _ ≤ _; exact Nat.le_of_eq rfl) (hb hby at_429) (fun _ _ => ⟨rfl, e0, (by decide : 6 + 0 ≤ _), (by decide : 5131 + 0 ≤ _)⟩)
          dsimp only [Pt.U, Pt.locs, Pt.cells, Pt.slots] at X392 l392 y392 z392 st392 hQ392
          subst l392 y392 z392
          obtain ⟨rfl, N392q, e392⟩ := hQ392
          have N392 := Fr.app N0 N392q
          refine own_go st392 ?_
          by_cases hc432_393 : (own_hit x12 x13 (0 : Int32)) = (0 : Int32)
          · refine own_go (fun _ k => XS.ifNo X392.here hx rfl (hb hby at_432) rfl ((if0 _ _).trans (teq hc432_393).2) k) ?_
            refine own_go (fun _ k => XS.iload X392.here hx rfl (hb hby at_435) rfl k) ?_
            by_cases hc437_394 : r5 = (0 : Int32)
            · refine own_go (fun _ k => XS.ifYes X392.here hx rfl (pc0 := 437) (pc' := 455) rfl (hb hby at_437) rfl ((if0 _ _).trans (teq hc437_394).1) (by decide) (by decide) k) ?_
              refine own_go (fun _ k => XS.iconst X392.here hx rfl (hb hby at_455) k) ?_
              show own_Run p e below _ T392 (mkF m 456 #[.val (.int p1), .val (.int p2), .val (.int p3), .val (.int p4), .val (.int p5), .val (.int p6), .val (.int x6), .val (.int x7), .val (.int x8), .val (.int x9), .val (.int x10), .val (.int x11), .val (.int x12), .val (.int x13), .val (.int x14), .val (.int x15), .val (.int x16), .val (.int x17), .val (.ref o18), .val (.int 2), .val (.int 3), .val (.int 4), .val (.int 5), .val (.ref o23), .val (.int r5), .val (.int r4), .val (.int r3), .val (.int r2), .val (.int r1), .unset] [(.int 0)])
              refine own_go (fun _ k => XS.istore X392.here hx rfl (hb hby at_456) rfl (l' := #[.val (.int p1), .val (.int p2), .val (.int p3), .val (.int p4), .val (.int p5), .val (.int p6), .val (.int x6), .val (.int x7), .val (.int x8), .val (.int x9), .val (.int x10), .val (.int x11), .val (.int x12), .val (.int x13), .val (.int x14), .val (.int x15), .val (.int x16), .val (.int x17), .val (.ref o18), .val (.int 2), .val (.int 3), .val (.int 4), .val (.int 5), .val (.ref o23), .val (.int r5), .val (.int r4), .val (.int r3), .val (.int r2), .val (.int r1), .val (.int 0)]) rfl k) ?_
              have hs395 : (0 : Int32) = (own_g0_2 x17 x7 x8 x10 x11 x12 x13 x15 x16) := by
                have hsp : (own_g0_2 x17 x7 x8 x10 x11 x12 x13 x15 x16) = own_st r2 x7 x8 0 (own_st r3 x10 x11 0 (own_st r4 x12 x13 0 (own_st r5 x15 x16 0 (if x17 = (0 : Int32) then 1 else 0)))) := by
                  rw [hr2, hr3, hr4, hr5]
                  rfl
                rw [hsp]
                rw [own_st0 _ _ _ _ _ hc389_383]
                rw [own_st0 _ _ _ _ _ hc405_384]
                rw [own_stN _ _ _ _ _ hc432_393]
                rw [own_st0 _ _ _ _ _ hc437_394]
                rw [if_neg hc384_381]
              exact lw0 p1 p2 p3 p4 p5 p6 h0 n0 hx hZ hw hby hml hown hnm hret hlk x6 x7 x8 x9 x10 x11 x12 x13 x14 x15 x16 x17 o18 o23 k23 nn vs r5 r4 r3 r2 r1 (0 : Int32) T392 hh _ X392 e392 N392 Z0 K0 V_o23 (hvs) (hr5) (hr4) (hr3) (hr2) (hr1) (hs395) 
            · refine own_go (fun _ k => XS.ifNo X392.here hx rfl (hb hby at_437) rfl ((if0 _ _).trans (feq hc437_394).1) k) ?_
              refine own_go (fun _ k => XS.iload X392.here hx rfl (hb hby at_440) rfl k) ?_
              show own_Run p e below _ T392 (mkF m 442 #[.val (.int p1), .val (.int p2), .val (.int p3), .val (.int p4), .val (.int p5), .val (.int p6), .val (.int x6), .val (.int x7), .val (.int x8), .val (.int x9), .val (.int x10), .val (.int x11), .val (.int x12), .val (.int x13), .val (.int x14), .val (.int x15), .val (.int x16), .val (.int x17), .val (.ref o18), .val (.int 2), .val (.int 3), .val (.int 4), .val (.int 5), .val (.ref o23), .val (.int r5), .val (.int r4), .val (.int r3), .val (.int r2), .val (.int r1), .unset] [(.int x15)])
              refine own_go (fun _ k => XS.iload X392.here hx rfl (hb hby at_442) rfl k) ?_
              refine own_go (fun _ k => XS.iconst X392.here hx rfl (hb hby at_444) k) ?_
              obtain ⟨_, _, ⟨T396, L396, k396, n396⟩, -, X396, ⟨Lc396, hQ396, l396, y396, z396⟩, st396⟩ := Jvm.LawKit.callS X392 hx (y := (⟨own_K1, "hits", "(III)Z"⟩ : MethodName)) hown (mvT hZ (W 42 rfl)) (mvT hZ (W 43 rfl)) (mvT hZ (W 40 rfl)) (mvT hZ (W 44 rfl)) (by decide) (backOf (W := 0) (rm7 l Z a0 hw [] x15 x16 (0 : Int32) (own_hit x15 x16 (0 : Int32)) hh n0 Z0 (own_hitP x15 x16 (0 : Int32))) hZ (W 44 rfl) (W 40 rfl) (by decide) (by decide)) (g := (mkF m 445 #[.val (.int p1), .val (.int p2), .val (.int p3), .val (.int p4), .val (.int p5), .val (.int p6), .val (.int x6), .val (.int x7), .val (.int x8), .val (.int x9), .val (.int x10), .val (.int x11), .val (.int x12), .val (.int x13), .val (.int x14), .val (.int x15), .val (.int x16), .val (.int x17), .val (.ref o18), .val (.int 2), .val (.int 3), .val (.int 4), .val (.int 5), .val (.ref o23), .val (.int r5), .val (.int r4), .val (.int r3), .val (.int r2), .val (.int r1), .unset] [(.int 0), (.int x16), (.int x15)])) rfl (by rw [hml]; rfl) (argsL := [(.int x15), (.int x16), (.int 0)]) (rest := []) (lenOf pd_3 rfl) rfl (by show 2 * 0 + _ ≤ _; exact Nat.le_of_eq rfl) (hb hby at_445) (fun _ _ => ⟨rfl, e392, (by decide : 6 + 0 ≤ _), (by decide : 5131 + 0 ≤ _)⟩)
              dsimp only [Pt.U, Pt.locs, Pt.cells, Pt.slots] at X396 l396 y396 z396 st396 hQ396
              subst l396 y396 z396
              obtain ⟨rfl, N396q, e396⟩ := hQ396
              have N396 := Fr.app N392 N396q
              refine own_go st396 ?_
              by_cases hc448_397 : (own_hit x15 x16 (0 : Int32)) = (0 : Int32)
              · refine own_go (fun _ k => XS.ifYes X396.here hx rfl (pc0 := 448) (pc' := 455) rfl (hb hby at_448) rfl ((if0 _ _).trans (teq hc448_397).1) (by decide) (by decide) k) ?_
                refine own_go (fun _ k => XS.iconst X396.here hx rfl (hb hby at_455) k) ?_
                refine own_go (fun _ k => XS.istore X396.here hx rfl (hb hby at_456) rfl (l' := #[.val (.int p1), .val (.int p2), .val (.int p3), .val (.int p4), .val (.int p5), .val (.int p6), .val (.int x6), .val (.int x7), .val (.int x8), .val (.int x9), .val (.int x10), .val (.int x11), .val (.int x12), .val (.int x13), .val (.int x14), .val (.int x15), .val (.int x16), .val (.int x17), .val (.ref o18), .val (.int 2), .val (.int 3), .val (.int 4), .val (.int 5), .val (.ref o23), .val (.int r5), .val (.int r4), .val (.int r3), .val (.int r2), .val (.int r1), .val (.int 0)]) rfl k) ?_
                have hs398 : (0 : Int32) = (own_g0_2 x17 x7 x8 x10 x11 x12 x13 x15 x16) := by
                  have hsp : (own_g0_2 x17 x7 x8 x10 x11 x12 x13 x15 x16) = own_st r2 x7 x8 0 (own_st r3 x10 x11 0 (own_st r4 x12 x13 0 (own_st r5 x15 x16 0 (if x17 = (0 : Int32) then 1 else 0)))) := by
                    rw [hr2, hr3, hr4, hr5]
                    rfl
                  rw [hsp]
                  rw [own_st0 _ _ _ _ _ hc389_383]
                  rw [own_st0 _ _ _ _ _ hc405_384]
                  rw [own_stN _ _ _ _ _ hc432_393]
                  rw [own_stN _ _ _ _ _ hc448_397]
                  rw [if_neg hc384_381]
                exact lw0 p1 p2 p3 p4 p5 p6 h0 n0 hx hZ hw hby hml hown hnm hret hlk x6 x7 x8 x9 x10 x11 x12 x13 x14 x15 x16 x17 o18 o23 k23 nn vs r5 r4 r3 r2 r1 (0 : Int32) T396 hh _ X396 e396 N396 Z0 K0 V_o23 (hvs) (hr5) (hr4) (hr3) (hr2) (hr1) (hs398) 
              · refine own_go (fun _ k => XS.ifNo X396.here hx rfl (hb hby at_448) rfl ((if0 _ _).trans (feq hc448_397).1) k) ?_
                refine own_go (fun _ k => XS.iconst X396.here hx rfl (hb hby at_451) k) ?_
                refine own_go (fun _ k => XS.goto X396.here hx rfl (pc0 := 452) (pc' := 456) rfl (hb hby at_452) (by decide) (by decide) k) ?_
                refine own_go (fun _ k => XS.istore X396.here hx rfl (hb hby at_456) rfl (l' := #[.val (.int p1), .val (.int p2), .val (.int p3), .val (.int p4), .val (.int p5), .val (.int p6), .val (.int x6), .val (.int x7), .val (.int x8), .val (.int x9), .val (.int x10), .val (.int x11), .val (.int x12), .val (.int x13), .val (.int x14), .val (.int x15), .val (.int x16), .val (.int x17), .val (.ref o18), .val (.int 2), .val (.int 3), .val (.int 4), .val (.int 5), .val (.ref o23), .val (.int r5), .val (.int r4), .val (.int r3), .val (.int r2), .val (.int r1), .val (.int 1)]) rfl k) ?_
                have hs399 : (1 : Int32) = (own_g0_2 x17 x7 x8 x10 x11 x12 x13 x15 x16) := by
                  have hsp : (own_g0_2 x17 x7 x8 x10 x11 x12 x13 x15 x16) = own_st r2 x7 x8 0 (own_st r3 x10 x11 0 (own_st r4 x12 x13 0 (own_st r5 x15 x16 0 (if x17 = (0 : Int32) then 1 else 0)))) := by
                    rw [hr2, hr3, hr4, hr5]
                    rfl
                  rw [hsp]
                  rw [own_st0 _ _ _ _ _ hc389_383]
                  rw [own_st0 _ _ _ _ _ hc405_384]
                  rw [own_stN _ _ _ _ _ hc432_393]
                  rw [own_stY _ _ _ _ _ (by assumption) hc448_397]
                exact lw0 p1 p2 p3 p4 p5 p6 h0 n0 hx hZ hw hby hml hown hnm hret hlk x6 x7 x8 x9 x10 x11 x12 x13 x14 x15 x16 x17 o18 o23 k23 nn vs r5 r4 r3 r2 r1 (1 : Int32) T396 hh _ X396 e396 N396 Z0 K0 V_o23 (hvs) (hr5) (hr4) (hr3) (hr2) (hr1) (hs399) 
          · refine own_go (fun _ k => XS.ifYes X392.here hx rfl (pc0 := 432) (pc' := 451) rfl (hb hby at_432) rfl ((if0 _ _).trans (feq hc432_393).2) (by decide) (by decide) k) ?_
            refine own_go (fun _ k => XS.iconst X392.here hx rfl (hb hby at_451) k) ?_
            refine own_go (fun _ k => XS.goto X392.here hx rfl (pc0 := 452) (pc' := 456) rfl (hb hby at_452) (by decide) (by decide) k) ?_
            refine own_go (fun _ k => XS.istore X392.here hx rfl (hb hby at_456) rfl (l' := #[.val (.int p1), .val (.int p2), .val (.int p3), .val (.int p4), .val (.int p5), .val (.int p6), .val (.int x6), .val (.int x7), .val (.int x8), .val (.int x9), .val (.int x10), .val (.int x11), .val (.int x12), .val (.int x13), .val (.int x14), .val (.int x15), .val (.int x16), .val (.int x17), .val (.ref o18), .val (.int 2), .val (.int 3), .val (.int 4), .val (.int 5), .val (.ref o23), .val (.int r5), .val (.int r4), .val (.int r3), .val (.int r2), .val (.int r1), .val (.int 1)]) rfl k) ?_
            show own_Run p e below _ T392 (mkF m 458 #[.val (.int p1), .val (.int p2), .val (.int p3), .val (.int p4), .val (.int p5), .val (.int p6), .val (.int x6), .val (.int x7), .val (.int x8), .val (.int x9), .val (.int x10), .val (.int x11), .val (.int x12), .val (.int x13), .val (.int x14), .val (.int x15), .val (.int x16), .val (.int x17), .val (.ref o18), .val (.int 2), .val (.int 3), .val (.int 4), .val (.int 5), .val (.ref o23), .val (.int r5), .val (.int r4), .val (.int r3), .val (.int r2), .val (.int r1), .val (.int 1)] [])
            have hs400 : (1 : Int32) = (own_g0_2 x17 x7 x8 x10 x11 x12 x13 x15 x16) := by
              have hsp : (own_g0_2 x17 x7 x8 x10 x11 x12 x13 x15 x16) = own_st r2 x7 x8 0 (own_st r3 x10 x11 0 (own_st r4 x12 x13 0 (own_st r5 x15 x16 0 (if x17 = (0 : Int32) then 1 else 0)))) := by
                rw [hr2, hr3, hr4, hr5]
                rfl
              rw [hsp]
              rw [own_st0 _ _ _ _ _ hc389_383]
              rw [own_st0 _ _ _ _ _ hc405_384]
              rw [own_stY _ _ _ _ _ (by assumption) hc432_393]
            exact lw0 p1 p2 p3 p4 p5 p6 h0 n0 hx hZ hw hby hml hown hnm hret hlk x6 x7 x8 x9 x10 x11 x12 x13 x14 x15 x16 x17 o18 o23 k23 nn vs r5 r4 r3 r2 r1 (1 : Int32) T392 hh _ X392 e392 N392 Z0 K0 V_o23 (hvs) (hr5) (hr4) (hr3) (hr2) (hr1) (hs400) 
      · refine own_go (fun _ k => XS.ifNo X0.here hx rfl (hb hby at_405) rfl ((if0 _ _).trans (feq hc405_384).1) k) ?_
        refine own_go (fun _ k => XS.iload X0.here hx rfl (hb hby at_408) rfl k) ?_
        refine own_go (fun _ k => XS.iload X0.here hx rfl (hb hby at_410) rfl k) ?_
        show own_Run p e below _ T0 (mkF m 412 #[.val (.int p1), .val (.int p2), .val (.int p3), .val (.int p4), .val (.int p5), .val (.int p6), .val (.int x6), .val (.int x7), .val (.int x8), .val (.int x9), .val (.int x10), .val (.int x11), .val (.int x12), .val (.int x13), .val (.int x14), .val (.int x15), .val (.int x16), .val (.int x17), .val (.ref o18), .val (.int 2), .val (.int 3), .val (.int 4), .val (.int 5), .val (.ref o23), .val (.int r5), .val (.int r4), .val (.int r3), .val (.int r2), .val (.int r1), .unset] [(.int x11), (.int x10)])
        refine own_go (fun _ k => XS.iconst X0.here hx rfl (hb hby at_412) k) ?_
        obtain ⟨_, _, ⟨T401, L401, k401, n401⟩, -, X401, ⟨Lc401, hQ401, l401, y401, z401⟩, st401⟩ := Jvm.LawKit.callS X0 hx (y := (⟨own_K1, "hits", "(III)Z"⟩ : MethodName)) hown (mvT hZ (W 42 rfl)) (mvT hZ (W 43 rfl)) (mvT hZ (W 40 rfl)) (mvT hZ (W 44 rfl)) (by decide) (backOf (W := 0) (rm7 l Z a0 hw [] x10 x11 (0 : Int32) (own_hit x10 x11 (0 : Int32)) hh n0 Z0 (own_hitP x10 x11 (0 : Int32))) hZ (W 44 rfl) (W 40 rfl) (by decide) (by decide)) (g := (mkF m 413 #[.val (.int p1), .val (.int p2), .val (.int p3), .val (.int p4), .val (.int p5), .val (.int p6), .val (.int x6), .val (.int x7), .val (.int x8), .val (.int x9), .val (.int x10), .val (.int x11), .val (.int x12), .val (.int x13), .val (.int x14), .val (.int x15), .val (.int x16), .val (.int x17), .val (.ref o18), .val (.int 2), .val (.int 3), .val (.int 4), .val (.int 5), .val (.ref o23), .val (.int r5), .val (.int r4), .val (.int r3), .val (.int r2), .val (.int r1), .unset] [(.int 0), (.int x11), (.int x10)])) rfl (by rw [hml]; rfl) (argsL := [(.int x10), (.int x11), (.int 0)]) (rest := []) (lenOf pd_3 rfl) rfl (by show 2 * 0 + _ ≤ _; exact Nat.le_of_eq rfl) (hb hby at_413) (fun _ _ => ⟨rfl, e0, (by decide : 6 + 0 ≤ _), (by decide : 5131 + 0 ≤ _)⟩)
        dsimp only [Pt.U, Pt.locs, Pt.cells, Pt.slots] at X401 l401 y401 z401 st401 hQ401
        subst l401 y401 z401
        obtain ⟨rfl, N401q, e401⟩ := hQ401
        have N401 := Fr.app N0 N401q
        refine own_go st401 ?_
        by_cases hc416_402 : (own_hit x10 x11 (0 : Int32)) = (0 : Int32)
        · refine own_go (fun _ k => XS.ifNo X401.here hx rfl (hb hby at_416) rfl ((if0 _ _).trans (teq hc416_402).2) k) ?_
          refine own_go (fun _ k => XS.iload X401.here hx rfl (hb hby at_419) rfl k) ?_
          by_cases hc421_403 : r4 = (0 : Int32)
          · refine own_go (fun _ k => XS.ifYes X401.here hx rfl (pc0 := 421) (pc' := 435) rfl (hb hby at_421) rfl ((if0 _ _).trans (teq hc421_403).1) (by decide) (by decide) k) ?_
            refine own_go (fun _ k => XS.iload X401.here hx rfl (hb hby at_435) rfl k) ?_
            by_cases hc437_404 : r5 = (0 : Int32)
            · refine own_go (fun _ k => XS.ifYes X401.here hx rfl (pc0 := 437) (pc' := 455) rfl (hb hby at_437) rfl ((if0 _ _).trans (teq hc437_404).1) (by decide) (by decide) k) ?_
              refine own_go (fun _ k => XS.iconst X401.here hx rfl (hb hby at_455) k) ?_
              show own_Run p e below _ T401 (mkF m 456 #[.val (.int p1), .val (.int p2), .val (.int p3), .val (.int p4), .val (.int p5), .val (.int p6), .val (.int x6), .val (.int x7), .val (.int x8), .val (.int x9), .val (.int x10), .val (.int x11), .val (.int x12), .val (.int x13), .val (.int x14), .val (.int x15), .val (.int x16), .val (.int x17), .val (.ref o18), .val (.int 2), .val (.int 3), .val (.int 4), .val (.int 5), .val (.ref o23), .val (.int r5), .val (.int r4), .val (.int r3), .val (.int r2), .val (.int r1), .unset] [(.int 0)])
              refine own_go (fun _ k => XS.istore X401.here hx rfl (hb hby at_456) rfl (l' := #[.val (.int p1), .val (.int p2), .val (.int p3), .val (.int p4), .val (.int p5), .val (.int p6), .val (.int x6), .val (.int x7), .val (.int x8), .val (.int x9), .val (.int x10), .val (.int x11), .val (.int x12), .val (.int x13), .val (.int x14), .val (.int x15), .val (.int x16), .val (.int x17), .val (.ref o18), .val (.int 2), .val (.int 3), .val (.int 4), .val (.int 5), .val (.ref o23), .val (.int r5), .val (.int r4), .val (.int r3), .val (.int r2), .val (.int r1), .val (.int 0)]) rfl k) ?_
              have hs405 : (0 : Int32) = (own_g0_2 x17 x7 x8 x10 x11 x12 x13 x15 x16) := by
                have hsp : (own_g0_2 x17 x7 x8 x10 x11 x12 x13 x15 x16) = own_st r2 x7 x8 0 (own_st r3 x10 x11 0 (own_st r4 x12 x13 0 (own_st r5 x15 x16 0 (if x17 = (0 : Int32) then 1 else 0)))) := by
                  rw [hr2, hr3, hr4, hr5]
                  rfl
                rw [hsp]
                rw [own_st0 _ _ _ _ _ hc389_383]
                rw [own_stN _ _ _ _ _ hc416_402]
                rw [own_st0 _ _ _ _ _ hc421_403]
                rw [own_st0 _ _ _ _ _ hc437_404]
                rw [if_neg hc384_381]
              exact lw0 p1 p2 p3 p4 p5 p6 h0 n0 hx hZ hw hby hml hown hnm hret hlk x6 x7 x8 x9 x10 x11 x12 x13 x14 x15 x16 x17 o18 o23 k23 nn vs r5 r4 r3 r2 r1 (0 : Int32) T401 hh _ X401 e401 N401 Z0 K0 V_o23 (hvs) (hr5) (hr4) (hr3) (hr2) (hr1) (hs405) 
            · refine own_go (fun _ k => XS.ifNo X401.here hx rfl (hb hby at_437) rfl ((if0 _ _).trans (feq hc437_404).1) k) ?_
              refine own_go (fun _ k => XS.iload X401.here hx rfl (hb hby at_440) rfl k) ?_
              show own_Run p e below _ T401 (mkF m 442 #[.val (.int p1), .val (.int p2), .val (.int p3), .val (.int p4), .val (.int p5), .val (.int p6), .val (.int x6), .val (.int x7), .val (.int x8), .val (.int x9), .val (.int x10), .val (.int x11), .val (.int x12), .val (.int x13), .val (.int x14), .val (.int x15), .val (.int x16), .val (.int x17), .val (.ref o18), .val (.int 2), .val (.int 3), .val (.int 4), .val (.int 5), .val (.ref o23), .val (.int r5), .val (.int r4), .val (.int r3), .val (.int r2), .val (.int r1), .unset] [(.int x15)])
              refine own_go (fun _ k => XS.iload X401.here hx rfl (hb hby at_442) rfl k) ?_
              refine own_go (fun _ k => XS.iconst X401.here hx rfl (hb hby at_444) k) ?_
              obtain ⟨_, _, ⟨T406, L406, k406, n406⟩, -, X406, ⟨Lc406, hQ406, l406, y406, z406⟩, st406⟩ := Jvm.LawKit.callS X401 hx (y := (⟨own_K1, "hits", "(III)Z"⟩ : MethodName)) hown (mvT hZ (W 42 rfl)) (mvT hZ (W 43 rfl)) (mvT hZ (W 40 rfl)) (mvT hZ (W 44 rfl)) (by decide) (backOf (W := 0) (rm7 l Z a0 hw [] x15 x16 (0 : Int32) (own_hit x15 x16 (0 : Int32)) hh n0 Z0 (own_hitP x15 x16 (0 : Int32))) hZ (W 44 rfl) (W 40 rfl) (by decide) (by decide)) (g := (mkF m 445 #[.val (.int p1), .val (.int p2), .val (.int p3), .val (.int p4), .val (.int p5), .val (.int p6), .val (.int x6), .val (.int x7), .val (.int x8), .val (.int x9), .val (.int x10), .val (.int x11), .val (.int x12), .val (.int x13), .val (.int x14), .val (.int x15), .val (.int x16), .val (.int x17), .val (.ref o18), .val (.int 2), .val (.int 3), .val (.int 4), .val (.int 5), .val (.ref o23), .val (.int r5), .val (.int r4), .val (.int r3), .val (.int r2), .val (.int r1), .unset] [(.int 0), (.int x16), (.int x15)])) rfl (by rw [hml]; rfl) (argsL := [(.int x15), (.int x16), (.int 0)]) (rest := []) (lenOf pd_3 rfl) rfl (by show 2 * 0 + _ ≤ _; exact Nat.le_of_eq rfl) (hb hby at_445) (fun _ _ => ⟨rfl, e401, (by decide : 6 + 0 ≤ _), (by decide : 5131 + 0 ≤ _)⟩)
              dsimp only [Pt.U, Pt.locs, Pt.cells, Pt.slots] at X406 l406 y406 z406 st406 hQ406
              subst l406 y406 z406
              obtain ⟨rfl, N406q, e406⟩ := hQ406
              have N406 := Fr.app N401 N406q
              refine own_go st406 ?_
              by_cases hc448_407 : (own_hit x15 x16 (0 : Int32)) = (0 : Int32)
              · refine own_go (fun _ k => XS.ifYes X406.here hx rfl (pc0 := 448) (pc' := 455) rfl (hb hby at_448) rfl ((if0 _ _).trans (teq hc448_407).1) (by decide) (by decide) k) ?_
                refine own_go (fun _ k => XS.iconst X406.here hx rfl (hb hby at_455) k) ?_
                refine own_go (fun _ k => XS.istore X406.here hx rfl (hb hby at_456) rfl (l' := #[.val (.int p1), .val (.int p2), .val (.int p3), .val (.int p4), .val (.int p5), .val (.int p6), .val (.int x6), .val (.int x7), .val (.int x8), .val (.int x9), .val (.int x10), .val (.int x11), .val (.int x12), .val (.int x13), .val (.int x14), .val (.int x15), .val (.int x16), .val (.int x17), .val (.ref o18), .val (.int 2), .val (.int 3), .val (.int 4), .val (.int 5), .val (.ref o23), .val (.int r5), .val (.int r4), .val (.int r3), .val (.int r2), .val (.int r1), .val (.int 0)]) rfl k) ?_
                have hs408 : (0 : Int32) = (own_g0_2 x17 x7 x8 x10 x11 x12 x13 x15 x16) := by
                  have hsp : (own_g0_2 x17 x7 x8 x10 x11 x12 x13 x15 x16) = own_st r2 x7 x8 0 (own_st r3 x10 x11 0 (own_st r4 x12 x13 0 (own_st r5 x15 x16 0 (if x17 = (0 : Int32) then 1 else 0)))) := by
                    rw [hr2, hr3, hr4, hr5]
                    rfl
                  rw [hsp]
                  rw [own_st0 _ _ _ _ _ hc389_383]
                  rw [own_stN _ _ _ _ _ hc416_402]
                  rw [own_st0 _ _ _ _ _ hc421_403]
                  rw [own_stN _ _ _ _ _ hc448_407]
                  rw [if_neg hc384_381]
                exact lw0 p1 p2 p3 p4 p5 p6 h0 n0 hx hZ hw hby hml hown hnm hret hlk x6 x7 x8 x9 x10 x11 x12 x13 x14 x15 x16 x17 o18 o23 k23 nn vs r5 r4 r3 r2 r1 (0 : Int32) T406 hh _ X406 e406 N406 Z0 K0 V_o23 (hvs) (hr5) (hr4) (hr3) (hr2) (hr1) (hs408) 
              · refine own_go (fun _ k => XS.ifNo X406.here hx rfl (hb hby at_448) rfl ((if0 _ _).trans (feq hc448_407).1) k) ?_
                refine own_go (fun _ k => XS.iconst X406.here hx rfl (hb hby at_451) k) ?_
                refine own_go (fun _ k => XS.goto X406.here hx rfl (pc0 := 452) (pc' := 456) rfl (hb hby at_452) (by decide) (by decide) k) ?_
                refine own_go (fun _ k => XS.istore X406.here hx rfl (hb hby at_456) rfl (l' := #[.val (.int p1), .val (.int p2), .val (.int p3), .val (.int p4), .val (.int p5), .val (.int p6), .val (.int x6), .val (.int x7), .val (.int x8), .val (.int x9), .val (.int x10), .val (.int x11), .val (.int x12), .val (.int x13), .val (.int x14), .val (.int x15), .val (.int x16), .val (.int x17), .val (.ref o18), .val (.int 2), .val (.int 3), .val (.int 4), .val (.int 5), .val (.ref o23), .val (.int r5), .val (.int r4), .val (.int r3), .val (.int r2), .val (.int r1), .val (.int 1)]) rfl k) ?_
                have hs409 : (1 : Int32) = (own_g0_2 x17 x7 x8 x10 x11 x12 x13 x15 x16) := by
                  have hsp : (own_g0_2 x17 x7 x8 x10 x11 x12 x13 x15 x16) = own_st r2 x7 x8 0 (own_st r3 x10 x11 0 (own_st r4 x12 x13 0 (own_st r5 x15 x16 0 (if x17 = (0 : Int32) then 1 else 0)))) := by
                    rw [hr2, hr3, hr4, hr5]
                    rfl
                  rw [hsp]
                  rw [own_st0 _ _ _ _ _ hc389_383]
                  rw [own_stN _ _ _ _ _ hc416_402]
                  rw [own_st0 _ _ _ _ _ hc421_403]
                  rw [own_stY _ _ _ _ _ (by assumption) hc448_407]
                exact lw0 p1 p2 p3 p4 p5 p6 h0 n0 hx hZ hw hby hml hown hnm hret hlk x6 x7 x8 x9 x10 x11 x12 x13 x14 x15 x16 x17 o18 o23 k23 nn vs r5 r4 r3 r2 r1 (1 : Int32) T406 hh _ X406 e406 N406 Z0 K0 V_o23 (hvs) (hr5) (hr4) (hr3) (hr2) (hr1) (hs409) 
          · refine own_go (fun _ k => XS.ifNo X401.here hx rfl (hb hby at_421) rfl ((if0 _ _).trans (feq hc421_403).1) k) ?_
            refine own_go (fun _ k => XS.iload X401.here hx rfl (hb hby at_424) rfl k) ?_
            refine own_go (fun _ k => XS.iload X401.here hx rfl (hb hby at_426) rfl k) ?_
            refine own_go (fun _ k => XS.iconst X401.here hx rfl (hb hby at_428) k) ?_
            show own_Run p e below _ T401 (mkF m 429 #[.val (.int p1), .val (.int p2), .val (.int p3), .val (.int p4), .val (.int p5), .val (.int p6), .val (.int x6), .val (.int x7), .val (.int x8), .val (.int x9), .val (.int x10), .val (.int x11), .val (.int x12), .val (.int x13), .val (.int x14), .val (.int x15), .val (.int x16), .val (.int x17), .val (.ref o18), .val (.int 2), .val (.int 3), .val (.int 4), .val (.int 5), .val (.ref o23), .val (.int r5), .val (.int r4), .val (.int r3), .val (.int r2), .val (.int r1), .unset] [(.int 0), (.int x13), (.int x12)])
            obtain ⟨_, _, ⟨T410, L410, k410, n410⟩, -, X410, ⟨Lc410, hQ410, l410, y410, z410⟩, st410⟩ := Jvm.LawKit.callS X401 hx (y := (⟨own_K1, "hits", "(III)Z"⟩ : MethodName)) hown (mvT hZ (W 42 rfl)) (mvT hZ (W 43 rfl)) (mvT hZ (W 40 rfl)) (mvT hZ (W 44 rfl)) (by decide) (backOf (W := 0) (rm7 l Z a0 hw [] x12 x13 (0 : Int32) (own_hit x12 x13 (0 : Int32)) hh n0 Z0 (own_hitP x12 x13 (0 : Int32))) hZ (W 44 rfl) (W 40 rfl) (by decide) (by decide)) (g := (mkF m 429 #[.val (.int p1), .val (.int p2), .val (.int p3), .val (.int p4), .val (.int p5), .val (.int p6), .val (.int x6), .val (.int x7), .val (.int x8), .val (.int x9), .val (.int x10), .val (.int x11), .val (.int x12), .val (.int x13), .val (.int x14), .val (.int x15), .val (.int x16), .val (.int x17), .val (.ref o18), .val (.int 2), .val (.int 3), .val (.int 4), .val (.int 5), .val (.ref o23), .val (.int r5), .val (.int r4), .val (.int r3), .val (.int r2), .val (.int r1), .unset] [(.int 0), (.int x13), (.int x12)])) rfl (by rw [hml]; rfl) (argsL := [(.int x12), (.int x13), (.int 0)]) (rest := []) (lenOf pd_3 rfl) rfl (by show 2 * 0 + _ ≤ _; exact Nat.le_of_eq rfl) (hb hby at_429) (fun _ _ => ⟨rfl, e401, (by decide : 6 + 0 ≤ _), (by decide : 5131 + 0 ≤ _)⟩)
            dsimp only [Pt.U, Pt.locs, Pt.cells, Pt.slots] at X410 l410 y410 z410 st410 hQ410
            subst l410 y410 z410
            obtain ⟨rfl, N410q, e410⟩ := hQ410
            have N410 := Fr.app N401 N410q
            refine own_go st410 ?_
            by_cases hc432_411 : (own_hit x12 x13 (0 : Int32)) = (0 : Int32)
            · refine own_go (fun _ k => XS.ifNo X410.here hx rfl (hb hby at_432) rfl ((if0 _ _).trans (teq hc432_411).2) k) ?_
              refine own_go (fun _ k => XS.iload X410.here hx rfl (hb hby at_435) rfl k) ?_
              by_cases hc437_412 : r5 = (0 : Int32)
              · refine own_go (fun _ k => XS.ifYes X410.here hx rfl (pc0 := 437) (pc' := 455) rfl (hb hby at_437) rfl ((if0 _ _).trans (teq hc437_412).1) (by decide) (by decide) k) ?_
                refine own_go (fun _ k => XS.iconst X410.here hx rfl (hb hby at_455) k) ?_
                refine own_go (fun _ k => XS.istore X410.here hx rfl (hb hby at_456) rfl (l' := #[.val (.int p1), .val (.int p2), .val (.int p3), .val (.int p4), .val (.int p5), .val (.int p6), .val (.int x6), .val (.int x7), .val (.int x8), .val (.int x9), .val (.int x10), .val (.int x11), .val (.int x12), .val (.int x13), .val (.int x14), .val (.int x15), .val (.int x16), .val (.int x17), .val (.ref o18), .val (.int 2), .val (.int 3), .val (.int 4), .val (.int 5), .val (.ref o23), .val (.int r5), .val (.int r4), .val (.int r3), .val (.int r2), .val (.int r1), .val (.int 0)]) rfl k) ?_
                have hs413 : (0 : Int32) = (own_g0_2 x17 x7 x8 x10 x11 x12 x13 x15 x16) := by
                  have hsp : (own_g0_2 x17 x7 x8 x10 x11 x12 x13 x15 x16) = own_st r2 x7 x8 0 (own_st r3 x10 x11 0 (own_st r4 x12 x13 0 (own_st r5 x15 x16 0 (if x17 = (0 : Int32) then 1 else 0)))) := by
                    rw [hr2, hr3, hr4, hr5]
                    rfl
                  rw [hsp]
                  rw [own_st0 _ _ _ _ _ hc389_383]
                  rw [own_stN _ _ _ _ _ hc416_402]
                  rw [own_stN _ _ _ _ _ hc432_411]
                  rw [own_st0 _ _ _ _ _ hc437_412]
                  rw [if_neg hc384_381]
                exact lw0 p1 p2 p3 p4 p5 p6 h0 n0 hx hZ hw hby hml hown hnm hret hlk x6 x7 x8 x9 x10 x11 x12 x13 x14 x15 x16 x17 o18 o23 k23 nn vs r5 r4 r3 r2 r1 (0 : Int32) T410 hh _ X410 e410 N410 Z0 K0 V_o23 (hvs) (hr5) (hr4) (hr3) (hr2) (hr1) (hs413) 
              · refine own_go (fun _ k => XS.ifNo X410.here hx rfl (hb hby at_437) rfl ((if0 _ _).trans (feq hc437_412).1) k) ?_
                refine own_go (fun _ k => XS.iload X410.here hx rfl (hb hby at_440) rfl k) ?_
                refine own_go (fun _ k => XS.iload X410.here hx rfl (hb hby at_442) rfl k) ?_
                refine own_go (fun _ k => XS.iconst X410.here hx rfl (hb hby at_444) k) ?_
                obtain ⟨_, _, ⟨T414, L414, k414, n414⟩, -, X414, ⟨Lc414, hQ414, l414, y414, z414⟩, st414⟩ := Jvm.LawKit.callS X410 hx (y := (⟨own_K1, "hits", "(III)Z"⟩ : MethodName)) hown (mvT hZ (W 42 rfl)) (mvT hZ (W 43 rfl)) (mvT hZ (W 40 rfl)) (mvT hZ (W 44 rfl)) (by decide) (backOf (W := 0) (rm7 l Z a0 hw [] x15 x16 (0 : Int32) (own_hit x15 x16 (0 : Int32)) hh n0 Z0 (own_hitP x15 x16 (0 : Int32))) hZ (W 44 rfl) (W 40 rfl) (by decide) (by decide)) (g := (mkF m 445 #[.val (.int p1), .val (.int p2), .val (.int p3), .val (.int p4), .val (.int p5), .val (.int p6), .val (.int x6), .val (.int x7), .val (.int x8), .val (.int x9), .val (.int x10), .val (.int x11), .val (.int x12), .val (.int x13), .val (.int x14), .val (.int x15), .val (.int x16), .val (.int x17), .val (.ref o18), .val (.int 2), .val (.int 3), .val (.int 4), .val (.int 5), .val (.ref o23), .val (.int r5), .val (.int r4), .val (.int r3), .val (.int r2), .val (.int r1), .unset] [(.int 0), (.int x16), (.int x15)])) rfl (by rw [hml]; rfl) (argsL := [(.int x15), (.int x16), (.int 0)]) (rest := []) (lenOf pd_3 rfl) rfl (by show 2 * 0 + _ ≤ _; exact Nat.le_of_eq rfl) (hb hby at_445) (fun _ _ => ⟨rfl, e410, (by decide : 6 + 0 ≤ _), (by decide : 5131 + 0 ≤ _)⟩)
                dsimp only [Pt.U, Pt.locs, Pt.cells, Pt.slots] at X414 l414 y414 z414 st414 hQ414
                subst l414 y414 z414
                obtain ⟨rfl, N414q, e414⟩ := hQ414
                have N414 := Fr.app N410 N414q
                refine own_go st414 ?_
                show own_Run p e below _ T414 (mkF m 448 #[.val (.int p1), .val (.int p2), .val (.int p3), .val (.int p4), .val (.int p5), .val (.int p6), .val (.int x6), .val (.int x7), .val (.int x8), .val (.int x9), .val (.int x10), .val (.int x11), .val (.int x12), .val (.int x13), .val (.int x14), .val (.int x15), .val (.int x16), .val (.int x17), .val (.ref o18), .val (.int 2), .val (.int 3), .val (.int 4), .val (.int 5), .val (.ref o23), .val (.int r5), .val (.int r4), .val (.int r3), .val (.int r2), .val (.int r1), .unset] [(.int (own_hit x15 x16 (0 : Int32)))])
                by_cases hc448_415 : (own_hit x15 x16 (0 : Int32)) = (0 : Int32)
                · refine own_go (fun _ k => XS.ifYes X414.here hx rfl (pc0 := 448) (pc' := 455) rfl (hb hby at_448) rfl ((if0 _ _).trans (teq hc448_415).1) (by decide) (by decide) k) ?_
                  refine own_go (fun _ k => XS.iconst X414.here hx rfl (hb hby at_455) k) ?_
                  refine own_go (fun _ k => XS.istore X414.here hx rfl (hb hby at_456) rfl (l' := #[.val (.int p1), .val (.int p2), .val (.int p3), .val (.int p4), .val (.int p5), .val (.int p6), .val (.int x6), .val (.int x7), .val (.int x8), .val (.int x9), .val (.int x10), .val (.int x11), .val (.int x12), .val (.int x13), .val (.int x14), .val (.int x15), .val (.int x16), .val (.int x17), .val (.ref o18), .val (.int 2), .val (.int 3), .val (.int 4), .val (.int 5), .val (.ref o23), .val (.int r5), .val (.int r4), .val (.int r3), .val (.int r2), .val (.int r1), .val (.int 0)]) rfl k) ?_
                  have hs416 : (0 : Int32) = (own_g0_2 x17 x7 x8 x10 x11 x12 x13 x15 x16) := by
                    have hsp : (own_g0_2 x17 x7 x8 x10 x11 x12 x13 x15 x16) = own_st r2 x7 x8 0 (own_st r3 x10 x11 0 (own_st r4 x12 x13 0 (own_st r5 x15 x16 0 (if x17 = (0 : Int32) then 1 else 0)))) := by
                      rw [hr2, hr3, hr4, hr5]
                      rfl
                    rw [hsp]
                    rw [own_st0 _ _ _ _ _ hc389_383]
                    rw [own_stN _ _ _ _ _ hc416_402]
                    rw [own_stN _ _ _ _ _ hc432_411]
                    rw [own_stN _ _ _ _ _ hc448_415]
                    rw [if_neg hc384_381]
                  exact lw0 p1 p2 p3 p4 p5 p6 h0 n0 hx hZ hw hby hml hown hnm hret hlk x6 x7 x8 x9 x10 x11 x12 x13 x14 x15 x16 x17 o18 o23 k23 nn vs r5 r4 r3 r2 r1 (0 : Int32) T414 hh _ X414 e414 N414 Z0 K0 V_o23 (hvs) (hr5) (hr4) (hr3) (hr2) (hr1) (hs416) 
                · refine own_go (fun _ k => XS.ifNo X414.here hx rfl (hb hby at_448) rfl ((if0 _ _).trans (feq hc448_415).1) k) ?_
                  refine own_go (fun _ k => XS.iconst X414.here hx rfl (hb hby at_451) k) ?_
                  refine own_go (fun _ k => XS.goto X414.here hx rfl (pc0 := 452) (pc' := 456) rfl (hb hby at_452) (by decide) (by decide) k) ?_
                  refine own_go (fun _ k => XS.istore X414.here hx rfl (hb hby at_456) rfl (l' := #[.val (.int p1), .val (.int p2), .val (.int p3), .val (.int p4), .val (.int p5), .val (.int p6), .val (.int x6), .val (.int x7), .val (.int x8), .val (.int x9), .val (.int x10), .val (.int x11), .val (.int x12), .val (.int x13), .val (.int x14), .val (.int x15), .val (.int x16), .val (.int x17), .val (.ref o18), .val (.int 2), .val (.int 3), .val (.int 4), .val (.int 5), .val (.ref o23), .val (.int r5), .val (.int r4), .val (.int r3), .val (.int r2), .val (.int r1), .val (.int 1)]) rfl k) ?_
                  have hs417 : (1 : Int32) = (own_g0_2 x17 x7 x8 x10 x11 x12 x13 x15 x16) := by
                    have hsp : (own_g0_2 x17 x7 x8 x10 x11 x12 x13 x15 x16) = own_st r2 x7 x8 0 (own_st r3 x10 x11 0 (own_st r4 x12 x13 0 (own_st r5 x15 x16 0 (if x17 = (0 : Int32) then 1 else 0)))) := by
                      rw [hr2, hr3, hr4, hr5]
                      rfl
                    rw [hsp]
                    rw [own_st0 _ _ _ _ _ hc389_383]
                    rw [own_stN _ _ _ _ _ hc416_402]
                    rw [own_stN _ _ _ _ _ hc432_411]
                    rw [own_stY _ _ _ _ _ (by assumption) hc448_415]
                  exact lw0 p1 p2 p3 p4 p5 p6 h0 n0 hx hZ hw hby hml hown hnm hret hlk x6 x7 x8 x9 x10 x11 x12 x13 x14 x15 x16 x17 o18 o23 k23 nn vs r5 r4 r3 r2 r1 (1 : Int32) T414 hh _ X414 e414 N414 Z0 K0 V_o23 (hvs) (hr5) (hr4) (hr3) (hr2) (hr1) (hs417) 
            · refine own_go (fun _ k => XS.ifYes X410.here hx rfl (pc0 := 432) (pc' := 451) rfl (hb hby at_432) rfl ((if0 _ _).trans (feq hc432_411).2) (by decide) (by decide) k) ?_
              refine own_go (fun _ k => XS.iconst X410.here hx rfl (hb hby at_451) k) ?_
              refine own_go (fun _ k => XS.goto X410.here hx rfl (pc0 := 452) (pc' := 456) rfl (hb hby at_452) (by decide) (by decide) k) ?_
              refine own_go (fun _ k => XS.istore X410.here hx rfl (hb hby at_456) rfl (l' := #[.val (.int p1), .val (.int p2), .val (.int p3), .val (.int p4), .val (.int p5), .val (.int p6), .val (.int x6), .val (.int x7), .val (.int x8), .val (.int x9), .val (.int x10), .val (.int x11), .val (.int x12), .val (.int x13), .val (.int x14), .val (.int x15), .val (.int x16), .val (.int x17), .val (.ref o18), .val (.int 2), .val (.int 3), .val (.int 4), .val (.int 5), .val (.ref o23), .val (.int r5), .val (.int r4), .val (.int r3), .val (.int r2), .val (.int r1), .val (.int 1)]) rfl k) ?_
              have hs418 : (1 : Int32) = (own_g0_2 x17 x7 x8 x10 x11 x12 x13 x15 x16) := by
                have hsp : (own_g0_2 x17 x7 x8 x10 x11 x12 x13 x15 x16) = own_st r2 x7 x8 0 (own_st r3 x10 x11 0 (own_st r4 x12 x13 0 (own_st r5 x15 x16 0 (if x17 = (0 : Int32) then 1 else 0)))) := by
                  rw [hr2, hr3, hr4, hr5]
                  rfl
                rw [hsp]
                rw [own_st0 _ _ _ _ _ hc389_383]
                rw [own_stN _ _ _ _ _ hc416_402]
                rw [own_stY _ _ _ _ _ (by assumption) hc432_411]
              exact lw0 p1 p2 p3 p4 p5 p6 h0 n0 hx hZ hw hby hml hown hnm hret hlk x6 x7 x8 x9 x10 x11 x12 x13 x14 x15 x16 x17 o18 o23 k23 nn vs r5 r4 r3 r2 r1 (1 : Int32) T410 hh _ X410 e410 N410 Z0 K0 V_o23 (hvs) (hr5) (hr4) (hr3) (hr2) (hr1) (hs418) 
        · refine own_go (fun _ k => XS.ifYes X401.here hx rfl (pc0 := 416) (pc' := 451) rfl (hb hby at_416) rfl ((if0 _ _).trans (feq hc416_402).2) (by decide) (by decide) k) ?_
          refine own_go (fun _ k => XS.iconst X401.here hx rfl (hb hby at_451) k) ?_
          refine own_go (fun _ k => XS.goto X401.here hx rfl (pc0 := 452) (pc' := 456) rfl (hb hby at_452) (by decide) (by decide) k) ?_
          refine own_go (fun _ k => XS.istore X401.here hx rfl (hb hby at_456) rfl (l' := #[.val (.int p1), .val (.int p2), .val (.int p3), .val (.int p4), .val (.int p5), .val (.int p6), .val (.int x6), .val (.int x7), .val (.int x8), .val (.int x9), .val (.int x10), .val (.int x11), .val (.int x12), .val (.int x13), .val (.int x14), .val (.int x15), .val (.int x16), .val (.int x17), .val (.ref o18), .val (.int 2), .val (.int 3), .val (.int 4), .val (.int 5), .val (.ref o23), .val (.int r5), .val (.int r4), .val (.int r3), .val (.int r2), .val (.int r1), .val (.int 1)]) rfl k) ?_
          have hs419 : (1 : Int32) = (own_g0_2 x17 x7 x8 x10 x11 x12 x13 x15 x16) := by
            have hsp : (own_g0_2 x17 x7 x8 x10 x11 x12 x13 x15 x16) = own_st r2 x7 x8 0 (own_st r3 x10 x11 0 (own_st r4 x12 x13 0 (own_st r5 x15 x16 0 (if x17 = (0 : Int32) then 1 else 0)))) := by
              rw [hr2, hr3, hr4, hr5]
              rfl
            rw [hsp]
            rw [own_st0 _ _ _ _ _ hc389_383]
            rw [own_stY _ _ _ _ _ (by assumption) hc416_402]
          exact lw0 p1 p2 p3 p4 p5 p6 h0 n0 hx hZ hw hby hml hown hnm hret hlk x6 x7 x8 x9 x10 x11 x12 x13 x14 x15 x16 x17 o18 o23 k23 nn vs r5 r4 r3 r2 r1 (1 : Int32) T401 hh _ X401 e401 N401 Z0 K0 V_o23 (hvs) (hr5) (hr4) (hr3) (hr2) (hr1) (hs419) 
    · refine own_go (fun _ k => XS.ifNo X0.here hx rfl (hb hby at_389) rfl ((if0 _ _).trans (feq hc389_383).1) k) ?_
      refine own_go (fun _ k => XS.iload X0.here hx rfl (hb hby at_392) rfl k) ?_
      refine own_go (fun _ k => XS.iload X0.here hx rfl (hb hby at_394) rfl k) ?_
      refine own_go (fun _ k => XS.iconst X0.here hx rfl (hb hby at_396) k) ?_
      obtain ⟨_, _, ⟨T420, L420, k420, n420⟩, -, X420, ⟨Lc420, hQ420, l420, y420, z420⟩, st420⟩ := Jvm.LawKit.callS X0 hx (y := (⟨own_K1, "hits", "(III)Z"⟩ : MethodName)) hown (mvT hZ (W 42 rfl)) (mvT hZ (W 43 rfl)) (mvT hZ (W 40 rfl)) (mvT hZ (W 44 rfl)) (by decide) (backOf (W := 0) (rm7 l Z a0 hw [] x7 x8 (0 : Int32) (own_hit x7 x8 (0 : Int32)) hh n0 Z0 (own_hitP x7 x8 (0 : Int32))) hZ (W 44 rfl) (W 40 rfl) (by decide) (by decide)) (g := (mkF m 397 #[.val (.int p1), .val (.int p2), .val (.int p3), .val (.int p4), .val (.int p5), .val (.int p6), .val (.int x6), .val (.int x7), .val (.int x8), .val (.int x9), .val (.int x10), .val (.int x11), .val (.int x12), .val (.int x13), .val (.int x14), .val (.int x15), .val (.int x16), .val (.int x17), .val (.ref o18), .val (.int 2), .val (.int 3), .val (.int 4), .val (.int 5), .val (.ref o23), .val (.int r5), .val (.int r4), .val (.int r3), .val (.int r2), .val (.int r1), .unset] [(.int 0), (.int x8), (.int x7)])) rfl (by rw [hml]; rfl) (argsL := [(.int x7), (.int x8), (.int 0)]) (rest := []) (lenOf pd_3 rfl) rfl (by show 2 * 0 + _ ≤ _; exact Nat.le_of_eq rfl) (hb hby at_397) (fun _ _ => ⟨rfl, e0, (by decide : 6 + 0 ≤ _), (by decide : 5131 + 0 ≤ _)⟩)
      dsimp only [Pt.U, Pt.locs, Pt.cells, Pt.slots] at X420 l420 y420 z420 st420 hQ420
      subst l420 y420 z420
      obtain ⟨rfl, N420q, e420⟩ := hQ420
      have N420 := Fr.app N0 N420q
      refine own_go st420 ?_
      show own_Run p e below _ T420 (mkF m 400 #[.val (.int p1), .val (.int p2), .val (.int p3), .val (.int p4), .val (.int p5), .val (.int p6), .val (.int x6), .val (.int x7), .val (.int x8), .val (.int x9), .val (.int x10), .val (.int x11), .val (.int x12), .val (.int x13), .val (.int x14), .val (.int x15), .val (.int x16), .val (.int x17), .val (.ref o18), .val (.int 2), .val (.int 3), .val (.int 4), .val (.int 5), .val (.ref o23), .val (.int r5), .val (.int r4), .val (.int r3), .val (.int r2), .val (.int r1), .unset] [(.int (own_hit x7 x8 (0 : Int32)))])
      by_cases hc400_421 : (own_hit x7 x8 (0 : Int32)) = (0 : Int32)
      · refine own_go (fun _ k => XS.ifNo X420.here hx rfl (hb hby at_400) rfl ((if0 _ _).trans (teq hc400_421).2) k) ?_
        refine own_go (fun _ k => XS.iload X420.here hx rfl (hb hby at_403) rfl k) ?_
        by_cases hc405_422 : r3 = (0 : Int32)
        · refine own_go (fun _ k => XS.ifYes X420.here hx rfl (pc0 := 405) (pc' := 419) rfl (hb hby at_405) rfl ((if0 _ _).trans (teq hc405_422).1) (by decide) (by decide) k) ?_
          refine own_go (fun _ k => XS.iload X420.here hx rfl (hb hby at_419) rfl k) ?_
          by_cases hc421_423 : r4 = (0 : Int32)
          · refine own_go (fun _ k => XS.ifYes X420.here hx rfl (pc0 := 421) (pc' := 435) rfl (hb hby at_421) rfl ((if0 _ _).trans (teq hc421_423).1) (by decide) (by decide) k) ?_
            refine own_go (fun _ k => XS.iload X420.here hx rfl (hb hby at_435) rfl k) ?_
            by_cases hc437_424 : r5 = (0 : Int32)
            · refine own_go (fun _ k => XS.ifYes X420.here hx rfl (pc0 := 437) (pc' := 455) rfl (hb hby at_437) rfl ((if0 _ _).trans (teq hc437_424).1) (by decide) (by decide) k) ?_
              refine own_go (fun _ k => XS.iconst X420.here hx rfl (hb hby at_455) k) ?_
              show own_Run p e below _ T420 (mkF m 456 #[.val (.int p1), .val (.int p2), .val (.int p3), .val (.int p4), .val (.int p5), .val (.int p6), .val (.int x6), .val (.int x7), .val (.int x8), .val (.int x9), .val (.int x10), .val (.int x11), .val (.int x12), .val (.int x13), .val (.int x14), .val (.int x15), .val (.int x16), .val (.int x17), .val (.ref o18), .val (.int 2), .val (.int 3), .val (.int 4), .val (.int 5), .val (.ref o23), .val (.int r5), .val (.int r4), .val (.int r3), .val (.int r2), .val (.int r1), .unset] [(.int 0)])
              refine own_go (fun _ k => XS.istore X420.here hx rfl (hb hby at_456) rfl (l' := #[.val (.int p1), .val (.int p2), .val (.int p3), .val (.int p4), .val (.int p5), .val (.int p6), .val (.int x6), .val (.int x7), .val (.int x8), .val (.int x9), .val (.int x10), .val (.int x11), .val (.int x12), .val (.int x13), .val (.int x14), .val (.int x15), .val (.int x16), .val (.int x17), .val (.ref o18), .val (.int 2), .val (.int 3), .val (.int 4), .val (.int 5), .val (.ref o23), .val (.int r5), .val (.int r4), .val (.int r3), .val (.int r2), .val (.int r1), .val (.int 0)]) rfl k) ?_
              have hs425 : (0 : Int32) = (own_g0_2 x17 x7 x8 x10 x11 x12 x13 x15 x16) := by
                have hsp : (own_g0_2 x17 x7 x8 x10 x11 x12 x13 x15 x16) = own_st r2 x7 x8 0 (own_st r3 x10 x11 0 (own_st r4 x12 x13 0 (own_st r5 x15 x16 0 (if x17 = (0 : Int32) then 1 else 0)))) := by
                  rw [hr2, hr3, hr4, hr5]
                  rfl
                rw [hsp]
                rw [own_stN _ _ _ _ _ hc400_421]
                rw [own_st0 _ _ _ _ _ hc405_422]
                rw [own_st0 _ _ _ _ _ hc421_423]
                rw [own_st0 _ _ _ _ _ hc437_424]
                rw [if_neg hc384_381]
              exact lw0 p1 p2 p3 p4 p5 p6 h0 n0 hx hZ hw hby hml hown hnm hret hlk x6 x7 x8 x9 x10 x11 x12 x13 x14 x15 x16 x17 o18 o23 k23 nn vs r5 r4 r3 r2 r1 (0 : Int32) T420 hh _ X420 e420 N420 Z0 K0 V_o23 (hvs) (hr5) (hr4) (hr3) (hr2) (hr1) (hs425) 
            · refine own_go (fun _ k => XS.ifNo X420.here hx rfl (hb hby at_437) rfl ((if0 _ _).trans (feq hc437_424).1) k) ?_
              refine own_go (fun _ k => XS.iload X420.here hx rfl (hb hby at_440) rfl k) ?_
              show own_Run p e below _ T420 (mkF m 442 #[.val (.int p1), .val (.int p2), .val (.int p3), .val (.int p4), .val (.int p5), .val (.int p6), .val (.int x6), .val (.int x7), .val (.int x8), .val (.int x9), .val (.int x10), .val (.int x11), .val (.int x12), .val (.int x13), .val (.int x14), .val (.int x15), .val (.int x16), .val (.int x17), .val (.ref o18), .val (.int 2), .val (.int 3), .val (.int 4), .val (.int 5), .val (.ref o23), .val (.int r5), .val (.int r4), .val (.int r3), .val (.int r2), .val (.int r1), .unset] [(.int x15)])
              refine own_go (fun _ k => XS.iload X420.here hx rfl (hb hby at_442) rfl k) ?_
              refine own_go (fun _ k => XS.iconst X420.here hx rfl (hb hby at_444) k) ?_
              obtain ⟨_, _, ⟨T426, L426, k426, n426⟩, -, X426, ⟨Lc426, hQ426, l426, y426, z426⟩, st426⟩ := Jvm.LawKit.callS X420 hx (y := (⟨own_K1, "hits", "(III)Z"⟩ : MethodName)) hown (mvT hZ (W 42 rfl)) (mvT hZ (W 43 rfl)) (mvT hZ (W 40 rfl)) (mvT hZ (W 44 rfl)) (by decide) (backOf (W := 0) (rm7 l Z a0 hw [] x15 x16 (0 : Int32) (own_hit x15 x16 (0 : Int32)) hh n0 Z0 (own_hitP x15 x16 (0 : Int32))) hZ (W 44 rfl) (W 40 rfl) (by decide) (by decide)) (g := (mkF m 445 #[.val (.int p1), .val (.int p2), .val (.int p3), .val (.int p4), .val (.int p5), .val (.int p6), .val (.int x6), .val (.int x7), .val (.int x8), .val (.int x9), .val (.int x10), .val (.int x11), .val (.int x12), .val (.int x13), .val (.int x14), .val (.int x15), .val (.int x16), .val (.int x17), .val (.ref o18), .val (.int 2), .val (.int 3), .val (.int 4), .val (.int 5), .val (.ref o23), .val (.int r5), .val (.int r4), .val (.int r3), .val (.int r2), .val (.int r1), .unset] [(.int 0), (.int x16), (.int x15)])) rfl (by rw [hml]; rfl) (argsL := [(.int x15), (.int x16), (.int 0)]) (rest := []) (lenOf pd_3 rfl) rfl (by show 2 * 0 + _ ≤ _; exact Nat.le_of_eq rfl) (hb hby at_445) (fun _ _ => ⟨rfl, e420, (by decide : 6 + 0 ≤ _), (by decide : 5131 + 0 ≤ _)⟩)
              dsimp only [Pt.U, Pt.locs, Pt.cells, Pt.slots] at X426 l426 y426 z426 st426 hQ426
              subst l426 y426 z426
              obtain ⟨rfl, N426q, e426⟩ := hQ426
              have N426 := Fr.app N420 N426q
              refine own_go st426 ?_
              by_cases hc448_427 : (own_hit x15 x16 (0 : Int32)) = (0 : Int32)
              · refine own_go (fun _ k => XS.ifYes X426.here hx rfl (pc0 := 448) (pc' := 455) rfl (hb hby at_448) rfl ((if0 _ _).trans (teq hc448_427).1) (by decide) (by decide) k) ?_
                refine own_go (fun _ k => XS.iconst X426.here hx rfl (hb hby at_455) k) ?_
                refine own_go (fun _ k => XS.istore X426.here hx rfl (hb hby at_456) rfl (l' := #[.val (.int p1), .val (.int p2), .val (.int p3), .val (.int p4), .val (.int p5), .val (.int p6), .val (.int x6), .val (.int x7), .val (.int x8), .val (.int x9), .val (.int x10), .val (.int x11), .val (.int x12), .val (.int x13), .val (.int x14), .val (.int x15), .val (.int x16), .val (.int x17), .val (.ref o18), .val (.int 2), .val (.int 3), .val (.int 4), .val (.int 5), .val (.ref o23), .val (.int r5), .val (.int r4), .val (.int r3), .val (.int r2), .val (.int r1), .val (.int 0)]) rfl k) ?_
                have hs428 : (0 : Int32) = (own_g0_2 x17 x7 x8 x10 x11 x12 x13 x15 x16) := by
                  have hsp : (own_g0_2 x17 x7 x8 x10 x11 x12 x13 x15 x16) = own_st r2 x7 x8 0 (own_st r3 x10 x11 0 (own_st r4 x12 x13 0 (own_st r5 x15 x16 0 (if x17 = (0 : Int32) then 1 else 0)))) := by
                    rw [hr2, hr3, hr4, hr5]
                    rfl
                  rw [hsp]
                  rw [own_stN _ _ _ _ _ hc400_421]
                  rw [own_st0 _ _ _ _ _ hc405_422]
                  rw [own_st0 _ _ _ _ _ hc421_423]
                  rw [own_stN _ _ _ _ _ hc448_427]
                  rw [if_neg hc384_381]
                exact lw0 p1 p2 p3 p4 p5 p6 h0 n0 hx hZ hw hby hml hown hnm hret hlk x6 x7 x8 x9 x10 x11 x12 x13 x14 x15 x16 x17 o18 o23 k23 nn vs r5 r4 r3 r2 r1 (0 : Int32) T426 hh _ X426 e426 N426 Z0 K0 V_o23 (hvs) (hr5) (hr4) (hr3) (hr2) (hr1) (hs428) 
              · refine own_go (fun _ k => XS.ifNo X426.here hx rfl (hb hby at_448) rfl ((if0 _ _).trans (feq hc448_427).1) k) ?_
                refine own_go (fun _ k => XS.iconst X426.here hx rfl (hb hby at_451) k) ?_
                refine own_go (fun _ k => XS.goto X426.here hx rfl (pc0 := 452) (pc' := 456) rfl (hb hby at_452) (by decide) (by decide) k) ?_
                refine own_go (fun _ k => XS.istore X426.here hx rfl (hb hby at_456) rfl (l' := #[.val (.int p1), .val (.int p2), .val (.int p3), .val (.int p4), .val (.int p5), .val (.int p6), .val (.int x6), .val (.int x7), .val (.int x8), .val (.int x9), .val (.int x10), .val (.int x11), .val (.int x12), .val (.int x13), .val (.int x14), .val (.int x15), .val (.int x16), .val (.int x17), .val (.ref o18), .val (.int 2), .val (.int 3), .val (.int 4), .val (.int 5), .val (.ref o23), .val (.int r5), .val (.int r4), .val (.int r3), .val (.int r2), .val (.int r1), .val (.int 1)]) rfl k) ?_
                have hs429 : (1 : Int32) = (own_g0_2 x17 x7 x8 x10 x11 x12 x13 x15 x16) := by
                  have hsp : (own_g0_2 x17 x7 x8 x10 x11 x12 x13 x15 x16) = own_st r2 x7 x8 0 (own_st r3 x10 x11 0 (own_st r4 x12 x13 0 (own_st r5 x15 x16 0 (if x17 = (0 : Int32) then 1 else 0)))) := by
                    rw [hr2, hr3, hr4, hr5]
                    rfl
                  rw [hsp]
                  rw [own_stN _ _ _ _ _ hc400_421]
                  rw [own_st0 _ _ _ _ _ hc405_422]
                  rw [own_st0 _ _ _ _ _ hc421_423]
                  rw [own_stY _ _ _ _ _ (by assumption) hc448_427]
                exact lw0 p1 p2 p3 p4 p5 p6 h0 n0 hx hZ hw hby hml hown hnm hret hlk x6 x7 x8 x9 x10 x11 x12 x13 x14 x15 x16 x17 o18 o23 k23 nn vs r5 r4 r3 r2 r1 (1 : Int32) T426 hh _ X426 e426 N426 Z0 K0 V_o23 (hvs) (hr5) (hr4) (hr3) (hr2) (hr1) (hs429) 
          · refine own_go (fun _ k => XS.ifNo X420.here hx rfl (hb hby at_421) rfl ((if0 _ _).trans (feq hc421_423).1) k) ?_
            refine own_go (fun _ k => XS.iload X420.here hx rfl (hb hby at_424) rfl k) ?_
            refine own_go (fun _ k => XS.iload X420.here hx rfl (hb hby at_426) rfl k) ?_
            refine own_go (fun _ k => XS.iconst X420.here hx rfl (hb hby at_428) k) ?_
            show own_Run p e below _ T420 (mkF m 429 #[.val (.int p1), .val (.int p2), .val (.int p3), .val (.int p4), .val (.int p5), .val (.int p6), .val (.int x6), .val (.int x7), .val (.int x8), .val (.int x9), .val (.int x10), .val (.int x11), .val (.int x12), .val (.int x13), .val (.int x14), .val (.int x15), .val (.int x16), .val (.int x17), .val (.ref o18), .val (.int 2), .val (.int 3), .val (.int 4), .val (.int 5), .val (.ref o23), .val (.int r5), .val (.int r4), .val (.int r3), .val (.int r2), .val (.int r1), .unset] [(.int 0), (.int x13), (.int x12)])
            obtain ⟨_, _, ⟨T430, L430, k430, n430⟩, -, X430, ⟨Lc430, hQ430, l430, y430, z430⟩, st430⟩ := Jvm.LawKit.callS X420 hx (y := (⟨own_K1, "hits", "(III)Z"⟩ : MethodName)) hown (mvT hZ (W 42 rfl)) (mvT hZ (W 43 rfl)) (mvT hZ (W 40 rfl)) (mvT hZ (W 44 rfl)) (by decide) (backOf (W := 0) (rm7 l Z a0 hw [] x12 x13 (0 : Int32) (own_hit x12 x13 (0 : Int32)) hh n0 Z0 (own_hitP x12 x13 (0 : Int32))) hZ (W 44 rfl) (W 40 rfl) (by decide) (by decide)) (g := (mkF m 429 #[.val (.int p1), .val (.int p2), .val (.int p3), .val (.int p4), .val (.int p5), .val (.int p6), .val (.int x6), .val (.int x7), .val (.int x8), .val (.int x9), .val (.int x10), .val (.int x11), .val (.int x12), .val (.int x13), .val (.int x14), .val (.int x15), .val (.int x16), .val (.int x17), .val (.ref o18), .val (.int 2), .val (.int 3), .val (.int 4), .val (.int 5), .val (.ref o23), .val (.int r5), .val (.int r4), .val (.int r3), .val (.int r2), .val (.int r1), .unset] [(.int 0), (.int x13), (.int x12)])) rfl (by rw [hml]; rfl) (argsL := [(.int x12), (.int x13), (.int 0)]) (rest := []) (lenOf pd_3 rfl) rfl (by show 2 * 0 + _ ≤ _; exact Nat.le_of_eq rfl) (hb hby at_429) (fun _ _ => ⟨rfl, e420, (by decide : 6 + 0 ≤ _), (by decide : 5131 + 0 ≤ _)⟩)
            dsimp only [Pt.U, Pt.locs, Pt.cells, Pt.slots] at X430 l430 y430 z430 st430 hQ430
            subst l430 y430 z430
            obtain ⟨rfl, N430q, e430⟩ := hQ430
            have N430 := Fr.app N420 N430q
            refine own_go st430 ?_
            by_cases hc432_431 : (own_hit x12 x13 (0 : Int32)) = (0 : Int32)
            · refine own_go (fun _ k => XS.ifNo X430.here hx rfl (hb hby at_432) rfl ((if0 _ _).trans (teq hc432_431).2) k) ?_
              refine own_go (fun _ k => XS.iload X430.here hx rfl (hb hby at_435) rfl k) ?_
              by_cases hc437_432 : r5 = (0 : Int32)
              · refine own_go (fun _ k => XS.ifYes X430.here hx rfl (pc0 := 437) (pc' := 455) rfl (hb hby at_437) rfl ((if0 _ _).trans (teq hc437_432).1) (by decide) (by decide) k) ?_
                refine own_go (fun _ k => XS.iconst X430.here hx rfl (hb hby at_455) k) ?_
                refine own_go (fun _ k => XS.istore X430.here hx rfl (hb hby at_456) rfl (l' := #[.val (.int p1), .val (.int p2), .val (.int p3), .val (.int p4), .val (.int p5), .val (.int p6), .val (.int x6), .val (.int x7), .val (.int x8), .val (.int x9), .val (.int x10), .val (.int x11), .val (.int x12), .val (.int x13), .val (.int x14), .val (.int x15), .val (.int x16), .val (.int x17), .val (.ref o18), .val (.int 2), .val (.int 3), .val (.int 4), .val (.int 5), .val (.ref o23), .val (.int r5), .val (.int r4), .val (.int r3), .val (.int r2), .val (.int r1), .val (.int 0)]) rfl k) ?_
                have hs433 : (0 : Int32) = (own_g0_2 x17 x7 x8 x10 x11 x12 x13 x15 x16) := by
                  have hsp : (own_g0_2 x17 x7 x8 x10 x11 x12 x13 x15 x16) = own_st r2 x7 x8 0 (own_st r3 x10 x11 0 (own_st r4 x12 x13 0 (own_st r5 x15 x16 0 (if x17 = (0 : Int32) then 1 else 0)))) := by
                    rw [hr2, hr3, hr4, hr5]
                    rfl
                  rw [hsp]
                  rw [own_stN _ _ _ _ _ hc400_421]
                  rw [own_st0 _ _ _ _ _ hc405_422]
                  rw [own_stN _ _ _ _ _ hc432_431]
                  rw [own_st0 _ _ _ _ _ hc437_432]
                  rw [if_neg hc384_381]
                exact lw0 p1 p2 p3 p4 p5 p6 h0 n0 hx hZ hw hby hml hown hnm hret hlk x6 x7 x8 x9 x10 x11 x12 x13 x14 x15 x16 x17 o18 o23 k23 nn vs r5 r4 r3 r2 r1 (0 : Int32) T430 hh _ X430 e430 N430 Z0 K0 V_o23 (hvs) (hr5) (hr4) (hr3) (hr2) (hr1) (hs433) 
              · refine own_go (fun _ k => XS.ifNo X430.here hx rfl (hb hby at_437) rfl ((if0 _ _).trans (feq hc437_432).1) k) ?_
                refine own_go (fun _ k => XS.iload X430.here hx rfl (hb hby at_440) rfl k) ?_
                refine own_go (fun _ k => XS.iload X430.here hx rfl (hb hby at_442) rfl k) ?_
                refine own_go (fun _ k => XS.iconst X430.here hx rfl (hb hby at_444) k) ?_
                obtain ⟨_, _, ⟨T434, L434, k434, n434⟩, -, X434, ⟨Lc434, hQ434, l434, y434, z434⟩, st434⟩ := Jvm.LawKit.callS X430 hx (y := (⟨own_K1, "hits", "(III)Z"⟩ : MethodName)) hown (mvT hZ (W 42 rfl)) (mvT hZ (W 43 rfl)) (mvT hZ (W 40 rfl)) (mvT hZ (W 44 rfl)) (by decide) (backOf (W := 0) (rm7 l Z a0 hw [] x15 x16 (0 : Int32) (own_hit x15 x16 (0 : Int32)) hh n0 Z0 (own_hitP x15 x16 (0 : Int32))) hZ (W 44 rfl) (W 40 rfl) (by decide) (by decide)) (g := (mkF m 445 #[.val (.int p1), .val (.int p2), .val (.int p3), .val (.int p4), .val (.int p5), .val (.int p6), .val (.int x6), .val (.int x7), .val (.int x8), .val (.int x9), .val (.int x10), .val (.int x11), .val (.int x12), .val (.int x13), .val (.int x14), .val (.int x15), .val (.int x16), .val (.int x17), .val (.ref o18), .val (.int 2), .val (.int 3), .val (.int 4), .val (.int 5), .val (.ref o23), .val (.int r5), .val (.int r4), .val (.int r3), .val (.int r2), .val (.int r1), .unset] [(.int 0), (.int x16), (.int x15)])) rfl (by rw [hml]; rfl) (argsL := [(.int x15), (.int x16), (.int 0)]) (rest := []) (lenOf pd_3 rfl) rfl (by show 2 * 0 + _ ≤ _; exact Nat.le_of_eq rfl) (hb hby at_445) (fun _ _ => ⟨rfl, e430, (by decide : 6 + 0 ≤ _), (by decide : 5131 + 0 ≤ _)⟩)
                dsimp only [Pt.U, Pt.locs, Pt.cells, Pt.slots] at X434 l434 y434 z434 st434 hQ434
                subst l434 y434 z434
                obtain ⟨rfl, N434q, e434⟩ := hQ434
                have N434 := Fr.app N430 N434q
                refine own_go st434 ?_
                show own_Run p e below _ T434 (mkF m 448 #[.val (.int p1), .val (.int p2), .val (.int p3), .val (.int p4), .val (.int p5), .val (.int p6), .val (.int x6), .val (.int x7), .val (.int x8), .val (.int x9), .val (.int x10), .val (.int x11), .val (.int x12), .val (.int x13), .val (.int x14), .val (.int x15), .val (.int x16), .val (.int x17), .val (.ref o18), .val (.int 2), .val (.int 3), .val (.int 4), .val (.int 5), .val (.ref o23), .val (.int r5), .val (.int r4), .val (.int r3), .val (.int r2), .val (.int r1), .unset] [(.int (own_hit x15 x16 (0 : Int32)))])
                by_cases hc448_435 : (own_hit x15 x16 (0 : Int32)) = (0 : Int32)
                · refine own_go (fun _ k => XS.ifYes X434.here hx rfl (pc0 := 448) (pc' := 455) rfl (hb hby at_448) rfl ((if0 _ _).trans (teq hc448_435).1) (by decide) (by decide) k) ?_
                  refine own_go (fun _ k => XS.iconst X434.here hx rfl (hb hby at_455) k) ?_
                  refine own_go (fun _ k => XS.istore X434.here hx rfl (hb hby at_456) rfl (l' := #[.val (.int p1), .val (.int p2), .val (.int p3), .val (.int p4), .val (.int p5), .val (.int p6), .val (.int x6), .val (.int x7), .val (.int x8), .val (.int x9), .val (.int x10), .val (.int x11), .val (.int x12), .val (.int x13), .val (.int x14), .val (.int x15), .val (.int x16), .val (.int x17), .val (.ref o18), .val (.int 2), .val (.int 3), .val (.int 4), .val (.int 5), .val (.ref o23), .val (.int r5), .val (.int r4), .val (.int r3), .val (.int r2), .val (.int r1), .val (.int 0)]) rfl k) ?_
                  have hs436 : (0 : Int32) = (own_g0_2 x17 x7 x8 x10 x11 x12 x13 x15 x16) := by
                    have hsp : (own_g0_2 x17 x7 x8 x10 x11 x12 x13 x15 x16) = own_st r2 x7 x8 0 (own_st r3 x10 x11 0 (own_st r4 x12 x13 0 (own_st r5 x15 x16 0 (if x17 = (0 : Int32) then 1 else 0)))) := by
                      rw [hr2, hr3, hr4, hr5]
                      rfl
                    rw [hsp]
                    rw [own_stN _ _ _ _ _ hc400_421]
                    rw [own_st0 _ _ _ _ _ hc405_422]
                    rw [own_stN _ _ _ _ _ hc432_431]
                    rw [own_stN _ _ _ _ _ hc448_435]
                    rw [if_neg hc384_381]
                  exact lw0 p1 p2 p3 p4 p5 p6 h0 n0 hx hZ hw hby hml hown hnm hret hlk x6 x7 x8 x9 x10 x11 x12 x13 x14 x15 x16 x17 o18 o23 k23 nn vs r5 r4 r3 r2 r1 (0 : Int32) T434 hh _ X434 e434 N434 Z0 K0 V_o23 (hvs) (hr5) (hr4) (hr3) (hr2) (hr1) (hs436) 
                · refine own_go (fun _ k => XS.ifNo X434.here hx rfl (hb hby at_448) rfl ((if0 _ _).trans (feq hc448_435).1) k) ?_
                  refine own_go (fun _ k => XS.iconst X434.here hx rfl (hb hby at_451) k) ?_
                  refine own_go (fun _ k => XS.goto X434.here hx rfl (pc0 := 452) (pc' := 456) rfl (hb hby at_452) (by decide) (by decide) k) ?_
                  refine own_go (fun _ k => XS.istore X434.here hx rfl (hb hby at_456) rfl (l' := #[.val (.int p1), .val (.int p2), .val (.int p3), .val (.int p4), .val (.int p5), .val (.int p6), .val (.int x6), .val (.int x7), .val (.int x8), .val (.int x9), .val (.int x10), .val (.int x11), .val (.int x12), .val (.int x13), .val (.int x14), .val (.int x15), .val (.int x16), .val (.int x17), .val (.ref o18), .val (.int 2), .val (.int 3), .val (.int 4), .val (.int 5), .val (.ref o23), .val (.int r5), .val (.int r4), .val (.int r3), .val (.int r2), .val (.int r1), .val (.int 1)]) rfl k) ?_
                  have hs437 : (1 : Int32) = (own_g0_2 x17 x7 x8 x10 x11 x12 x13 x15 x16) := by
                    have hsp : (own_g0_2 x17 x7 x8 x10 x11 x12 x13 x15 x16) = own_st r2 x7 x8 0 (own_st r3 x10 x11 0 (own_st r4 x12 x13 0 (own_st r5 x15 x16 0 (if x17 = (0 : Int32) then 1 else 0)))) := by
                      rw [hr2, hr3, hr4, hr5]
                      rfl
                    rw [hsp]
                    rw [own_stN _ _ _ _ _ hc400_421]
                    rw [own_st0 _ _ _ _ _ hc405_422]
                    rw [own_stN _ _ _ _ _ hc432_431]
                    rw [own_stY _ _ _ _ _ (by assumption) hc448_435]
                  exact lw0 p1 p2 p3 p4 p5 p6 h0 n0 hx hZ hw hby hml hown hnm hret hlk x6 x7 x8 x9 x10 x11 x12 x13 x14 x15 x16 x17 o18 o23 k23 nn vs r5 r4 r3 r2 r1 (1 : Int32) T434 hh _ X434 e434 N434 Z0 K0 V_o23 (hvs) (hr5) (hr4) (hr3) (hr2) (hr1) (hs437) 
            · refine own_go (fun _ k => XS.ifYes X430.here hx rfl (pc0 := 432) (pc' := 451) rfl (hb hby at_432) rfl ((if0 _ _).trans (feq hc432_431).2) (by decide) (by decide) k) ?_
              refine own_go (fun _ k => XS.iconst X430.here hx rfl (hb hby at_451) k) ?_
              refine own_go (fun _ k => XS.goto X430.here hx rfl (pc0 := 452) (pc' := 456) rfl (hb hby at_452) (by decide) (by decide) k) ?_
              refine own_go (fun _ k => XS.istore X430.here hx rfl (hb hby at_456) rfl (l' := #[.val (.int p1), .val (.int p2), .val (.int p3), .val (.int p4), .val (.int p5), .val (.int p6), .val (.int x6), .val (.int x7), .val (.int x8), .val (.int x9), .val (.int x10), .val (.int x11), .val (.int x12), .val (.int x13), .val (.int x14), .val (.int x15), .val (.int x16), .val (.int x17), .val (.ref o18), .val (.int 2), .val (.int 3), .val (.int 4), .val (.int 5), .val (.ref o23), .val (.int r5), .val (.int r4), .val (.int r3), .val (.int r2), .val (.int r1), .val (.int 1)]) rfl k) ?_
              have hs438 : (1 : Int32) = (own_g0_2 x17 x7 x8 x10 x11 x12 x13 x15 x16) := by
                have hsp : (own_g0_2 x17 x7 x8 x10 x11 x12 x13 x15 x16) = own_st r2 x7 x8 0 (own_st r3 x10 x11 0 (own_st r4 x12 x13 0 (own_st r5 x15 x16 0 (if x17 = (0 : Int32) then 1 else 0)))) := by
                  rw [hr2, hr3, hr4, hr5]
                  rfl
                rw [hsp]
                rw [own_stN _ _ _ _ _ hc400_421]
                rw [own_st0 _ _ _ _ _ hc405_422]
                rw [own_stY _ _ _ _ _ (by assumption) hc432_431]
              exact lw0 p1 p2 p3 p4 p5 p6 h0 n0 hx hZ hw hby hml hown hnm hret hlk x6 x7 x8 x9 x10 x11 x12 x13 x14 x15 x16 x17 o18 o23 k23 nn vs r5 r4 r3 r2 r1 (1 : Int32) T430 hh _ X430 e430 N430 Z0 K0 V_o23 (hvs) (hr5) (hr4) (hr3) (hr2) (hr1) (hs438) 
        · refine own_go (fun _ k => XS.ifNo X420.here hx rfl (hb hby at_405) rfl ((if0 _ _).trans (feq hc405_422).1) k) ?_
          refine own_go (fun _ k => XS.iload X420.here hx rfl (hb hby at_408) rfl k) ?_
          refine own_go (fun _ k => XS.iload X420.here hx rfl (hb hby at_410) rfl k) ?_
          refine own_go (fun _ k => XS.iconst X420.here hx rfl (hb hby at_412) k) ?_
          obtain ⟨_, _, ⟨T439, L439, k439, n439⟩, -, X439, ⟨Lc439, hQ439, l439, y439, z439⟩, st439⟩ := Jvm.LawKit.callS X420 hx (y := (⟨own_K1, "hits", "(III)Z"⟩ : MethodName)) hown (mvT hZ (W 42 rfl)) (mvT hZ (W 43 rfl)) (mvT hZ (W 40 rfl)) (mvT hZ (W 44 rfl)) (by decide) (backOf (W := 0) (rm7 l Z a0 hw [] x10 x11 (0 : Int32) (own_hit x10 x11 (0 : Int32)) hh n0 Z0 (own_hitP x10 x11 (0 : Int32))) hZ (W 44 rfl) (W 40 rfl) (by decide) (by decide)) (g := (mkF m 413 #[.val (.int p1), .val (.int p2), .val (.int p3), .val (.int p4), .val (.int p5), .val (.int p6), .val (.int x6), .val (.int x7), .val (.int x8), .val (.int x9), .val (.int x10), .val (.int x11), .val (.int x12), .val (.int x13), .val (.int x14), .val (.int x15), .val (.int x16), .val (.int x17), .val (.ref o18), .val (.int 2), .val (.int 3), .val (.int 4), .val (.int 5), .val (.ref o23), .val (.int r5), .val (.int r4), .val (.int r3), .val (.int r2), .val (.int r1), .unset] [(.int 0), (.int x11), (.int x10)])) rfl (by rw [hml]; rfl) (argsL := [(.int x10), (.int x11), (.int 0)]) (rest := []) (lenOf pd_3 rfl) rfl (by show 2 * 0 + _ ≤ _; exact Nat.le_of_eq rfl) (hb hby at_413) (fun _ _ => ⟨rfl, e420, (by decide : 6 + 0 ≤ _), (by decide : 5131 + 0 ≤ _)⟩)
          dsimp only [Pt.U, Pt.locs, Pt.cells, Pt.slots] at X439 l439 y439 z439 st439 hQ439
          subst l439 y439 z439
          obtain ⟨rfl, N439q, e439⟩ := hQ439
          have N439 := Fr.app N420 N439q
          refine own_go st439 ?_
          by_cases hc416_440 : (own_hit x10 x11 (0 : Int32)) = (0 : Int32)
          · refine own_go (fun _ k => XS.ifNo X439.here hx rfl (hb hby at_416) rfl ((if0 _ _).trans (teq hc416_440).2) k) ?_
            show own_Run p e below _ T439 (mkF m 419 #[.val (.int p1), .val (.int p2), .val (.int p3), .val (.int p4), .val (.int p5), .val (.int p6), .val (.int x6), .val (.int x7), .val (.int x8), .val (.int x9), .val (.int x10), .val (.int x11), .val (.int x12), .val (.int x13), .val (.int x14), .val (.int x15), .val (.int x16), .val (.int x17), .val (.ref o18), .val (.int 2), .val (.int 3), .val (.int 4), .val (.int 5), .val (.ref o23), .val (.int r5), .val (.int r4), .val (.int r3), .val (.int r2), .val (.int r1), .unset] [])
            refine own_go (fun _ k => XS.iload X439.here hx rfl (hb hby at_419) rfl k) ?_
            by_cases hc421_441 : r4 = (0 : Int32)
            · refine own_go (fun _ k => XS.ifYes X439.here hx rfl (pc0 := 421) (pc' := 435) rfl (hb hby at_421) rfl ((if0 _ _).trans (teq hc421_441).1) (by decide) (by decide) k) ?_
              refine own_go (fun _ k => XS.iload X439.here hx rfl (hb hby at_435) rfl k) ?_
              by_cases hc437_442 : r5 = (0 : Int32)
              · refine own_go (fun _ k => XS.ifYes X439.here hx rfl (pc0 := 437) (pc' := 455) rfl (hb hby at_437) rfl ((if0 _ _).trans (teq hc437_442).1) (by decide) (by decide) k) ?_
                refine own_go (fun _ k => XS.iconst X439.here hx rfl (hb hby at_455) k) ?_
                refine own_go (fun _ k => XS.istore X439.here hx rfl (hb hby at_456) rfl (l' := #[.val (.int p1), .val (.int p2), .val (.int p3), .val (.int p4), .val (.int p5), .val (.int p6), .val (.int x6), .val (.int x7), .val (.int x8), .val (.int x9), .val (.int x10), .val (.int x11), .val (.int x12), .val (.int x13), .val (.int x14), .val (.int x15), .val (.int x16), .val (.int x17), .val (.ref o18), .val (.int 2), .val (.int 3), .val (.int 4), .val (.int 5), .val (.ref o23), .val (.int r5), .val (.int r4), .val (.int r3), .val (.int r2), .val (.int r1), .val (.int 0)]) rfl k) ?_
                have hs443 : (0 : Int32) = (own_g0_2 x17 x7 x8 x10 x11 x12 x13 x15 x16) := by
                  have hsp : (own_g0_2 x17 x7 x8 x10 x11 x12 x13 x15 x16) = own_st r2 x7 x8 0 (own_st r3 x10 x11 0 (own_st r4 x12 x13 0 (own_st r5 x15 x16 0 (if x17 = (0 : Int32) then 1 else 0)))) := by
                    rw [hr2, hr3, hr4, hr5]
                    rfl
                  rw [hsp]
                  rw [own_stN _ _ _ _ _ hc400_421]
                  rw [own_stN _ _ _ _ _ hc416_440]
                  rw [own_st0 _ _ _ _ _ hc421_441]
                  rw [own_st0 _ _ _ _ _ hc437_442]
                  rw [if_neg hc384_381]
                exact lw0 p1 p2 p3 p4 p5 p6 h0 n0 hx hZ hw hby hml hown hnm hret hlk x6 x7 x8 x9 x10 x11 x12 x13 x14 x15 x16 x17 o18 o23 k23 nn vs r5 r4 r3 r2 r1 (0 : Int32) T439 hh _ X439 e439 N439 Z0 K0 V_o23 (hvs) (hr5) (hr4) (hr3) (hr2) (hr1) (hs443) 
              · refine own_go (fun _ k => XS.ifNo X439.here hx rfl (hb hby at_437) rfl ((if0 _ _).trans (feq hc437_442).1) k) ?_
                refine own_go (fun _ k => XS.iload X439.here hx rfl (hb hby at_440) rfl k) ?_
                refine own_go (fun _ k => XS.iload X439.here hx rfl (hb hby at_442) rfl k) ?_
                refine own_go (fun _ k => XS.iconst X439.here hx rfl (hb hby at_444) k) ?_
                obtain ⟨_, _, ⟨T444, L444, k444, n444⟩, -, X444, ⟨Lc444, hQ444, l444, y444, z444⟩, st444⟩ := Jvm.LawKit.callS X439 hx (y := (⟨own_K1, "hits", "(III)Z"⟩ : MethodName)) hown (mvT hZ (W 42 rfl)) (mvT hZ (W 43 rfl)) (mvT hZ (W 40 rfl)) (mvT hZ (W 44 rfl)) (by decide) (backOf (W := 0) (rm7 l Z a0 hw [] x15 x16 (0 : Int32) (own_hit x15 x16 (0 : Int32)) hh n0 Z0 (own_hitP x15 x16 (0 : Int32))) hZ (W 44 rfl) (W 40 rfl) (by decide) (by decide)) (g := (mkF m 445 #[.val (.int p1), .val (.int p2), .val (.int p3), .val (.int p4), .val (.int p5), .val (.int p6), .val (.int x6), .val (.int x7), .val (.int x8), .val (.int x9), .val (.int x10), .val (.int x11), .val (.int x12), .val (.int x13), .val (.int x14), .val (.int x15), .val (.int x16), .val (.int x17), .val (.ref o18), .val (.int 2), .val (.int 3), .val (.int 4), .val (.int 5), .val (.ref o23), .val (.int r5), .val (.int r4), .val (.int r3), .val (.int r2), .val (.int r1), .unset] [(.int 0), (.int x16), (.int x15)])) rfl (by rw [hml]; rfl) (argsL := [(.int x15), (.int x16), (.int 0)]) (rest := []) (lenOf pd_3 rfl) rfl (by show 2 * 0 + _ ≤ _; exact Nat.le_of_eq rfl) (hb hby at_445) (fun _ _ => ⟨rfl, e439, (by decide : 6 + 0 ≤ _), (by decide : 5131 + 0 ≤ _)⟩)
                dsimp only [Pt.U, Pt.locs, Pt.cells, Pt.slots] at X444 l444 y444 z444 st444 hQ444
                subst l444 y444 z444
                obtain ⟨rfl, N444q, e444⟩ := hQ444
                have N444 := Fr.app N439 N444q
                refine own_go st444 ?_
                show own_Run p e below _ T444 (mkF m 448 #[.val (.int p1), .val (.int p2), .val (.int p3), .val (.int p4), .val (.int p5), .val (.int p6), .val (.int x6), .val (.int x7), .val (.int x8), .val (.int x9), .val (.int x10), .val (.int x11), .val (.int x12), .val (.int x13), .val (.int x14), .val (.int x15), .val (.int x16), .val (.int x17), .val (.ref o18), .val (.int 2), .val (.int 3), .val (.int 4), .val (.int 5), .val (.ref o23), .val (.int r5), .val (.int r4), .val (.int r3), .val (.int r2), .val (.int r1), .unset] [(.int (own_hit x15 x16 (0 : Int32)))])
                by_cases hc448_445 : (own_hit x15 x16 (0 : Int32)) = (0 : Int32)
                · refine own_go (fun _ k => XS.ifYes X444.here hx rfl (pc0 := 448) (pc' := 455) rfl (hb hby at_448) rfl ((if0 _ _).trans (teq hc448_445).1) (by decide) (by decide) k) ?_
                  refine own_go (fun _ k => XS.iconst X444.here hx rfl (hb hby at_455) k) ?_
                  refine own_go (fun _ k => XS.istore X444.here hx rfl (hb hby at_456) rfl (l' := #[.val (.int p1), .val (.int p2), .val (.int p3), .val (.int p4), .val (.int p5), .val (.int p6), .val (.int x6), .val (.int x7), .val (.int x8), .val (.int x9), .val (.int x10), .val (.int x11), .val (.int x12), .val (.int x13), .val (.int x14), .val (.int x15), .val (.int x16), .val (.int x17), .val (.ref o18), .val (.int 2), .val (.int 3), .val (.int 4), .val (.int 5), .val (.ref o23), .val (.int r5), .val (.int r4), .val (.int r3), .val (.int r2), .val (.int r1), .val (.int 0)]) rfl k) ?_
                  have hs446 : (0 : Int32) = (own_g0_2 x17 x7 x8 x10 x11 x12 x13 x15 x16) := by
                    have hsp : (own_g0_2 x17 x7 x8 x10 x11 x12 x13 x15 x16) = own_st r2 x7 x8 0 (own_st r3 x10 x11 0 (own_st r4 x12 x13 0 (own_st r5 x15 x16 0 (if x17 = (0 : Int32) then 1 else 0)))) := by
                      rw [hr2, hr3, hr4, hr5]
                      rfl
                    rw [hsp]
                    rw [own_stN _ _ _ _ _ hc400_421]
                    rw [own_stN _ _ _ _ _ hc416_440]
                    rw [own_st0 _ _ _ _ _ hc421_441]
                    rw [own_stN _ _ _ _ _ hc448_445]
                    rw [if_neg hc384_381]
                  exact lw0 p1 p2 p3 p4 p5 p6 h0 n0 hx hZ hw hby hml hown hnm hret hlk x6 x7 x8 x9 x10 x11 x12 x13 x14 x15 x16 x17 o18 o23 k23 nn vs r5 r4 r3 r2 r1 (0 : Int32) T444 hh _ X444 e444 N444 Z0 K0 V_o23 (hvs) (hr5) (hr4) (hr3) (hr2) (hr1) (hs446) 
                · refine own_go (fun _ k => XS.ifNo X444.here hx rfl (hb hby at_448) rfl ((if0 _ _).trans (feq hc448_445).1) k) ?_
                  refine own_go (fun _ k => XS.iconst X444.here hx rfl (hb hby at_451) k) ?_
                  refine own_go (fun _ k => XS.goto X444.here hx rfl (pc0 := 452) (pc' := 456) rfl (hb hby at_452) (by decide) (by decide) k) ?_
                  refine own_go (fun _ k => XS.istore X444.here hx rfl (hb hby at_456) rfl (l' := #[.val (.int p1), .val (.int p2), .val (.int p3), .val (.int p4), .val (.int p5), .val (.int p6), .val (.int x6), .val (.int x7), .val (.int x8), .val (.int x9), .val (.int x10), .val (.int x11), .val (.int x12), .val (.int x13), .val (.int x14), .val (.int x15), .val (.int x16), .val (.int x17), .val (.ref o18), .val (.int 2), .val (.int 3), .val (.int 4), .val (.int 5), .val (.ref o23), .val (.int r5), .val (.int r4), .val (.int r3), .val (.int r2), .val (.int r1), .val (.int 1)]) rfl k) ?_
                  have hs447 : (1 : Int32) = (own_g0_2 x17 x7 x8 x10 x11 x12 x13 x15 x16) := by
                    have hsp : (own_g0_2 x17 x7 x8 x10 x11 x12 x13 x15 x16) = own_st r2 x7 x8 0 (own_st r3 x10 x11 0 (own_st r4 x12 x13 0 (own_st r5 x15 x16 0 (if x17 = (0 : Int32) then 1 else 0)))) := by
                      rw [hr2, hr3, hr4, hr5]
                      rfl
                    rw [hsp]
                    rw [own_stN _ _ _ _ _ hc400_421]
                    rw [own_stN _ _ _ _ _ hc416_440]
                    rw [own_st0 _ _ _ _ _ hc421_441]
                    rw [own_stY _ _ _ _ _ (by assumption) hc448_445]
                  exact lw0 p1 p2 p3 p4 p5 p6 h0 n0 hx hZ hw hby hml hown hnm hret hlk x6 x7 x8 x9 x10 x11 x12 x13 x14 x15 x16 x17 o18 o23 k23 nn vs r5 r4 r3 r2 r1 (1 : Int32) T444 hh _ X444 e444 N444 Z0 K0 V_o23 (hvs) (hr5) (hr4) (hr3) (hr2) (hr1) (hs447) 
            · refine own_go (fun _ k => XS.ifNo X439.here hx rfl (hb hby at_421) rfl ((if0 _ _).trans (feq hc421_441).1) k) ?_
              refine own_go (fun _ k => XS.iload X439.here hx rfl (hb hby at_424) rfl k) ?_
              refine own_go (fun _ k => XS.iload X439.here hx rfl (hb hby at_426) rfl k) ?_
              refine own_go (fun _ k => XS.iconst X439.here hx rfl (hb hby at_428) k) ?_
              obtain ⟨_, _, ⟨T448, L448, k448, n448⟩, -, X448, ⟨Lc448, hQ448, l448, y448, z448⟩, st448⟩ := Jvm.LawKit.callS X439 hx (y := (⟨own_K1, "hits", "(III)Z"⟩ : MethodName)) hown (mvT hZ (W 42 rfl)) (mvT hZ (W 43 rfl)) (mvT hZ (W 40 rfl)) (mvT hZ (W 44 rfl)) (by decide) (backOf (W := 0) (rm7 l Z a0 hw [] x12 x13 (0 : Int32) (own_hit x12 x13 (0 : Int32)) hh n0 Z0 (own_hitP x12 x13 (0 : Int32))) hZ (W 44 rfl) (W 40 rfl) (by decide) (by decide)) (g := (mkF m 429 #[.val (.int p1), .val (.int p2), .val (.int p3), .val (.int p4), .val (.int p5), .val (.int p6), .val (.int x6), .val (.int x7), .val (.int x8), .val (.int x9), .val (.int x10), .val (.int x11), .val (.int x12), .val (.int x13), .val (.int x14), .val (.int x15), .val (.int x16), .val (.int x17), .val (.ref o18), .val (.int 2), .val (.int 3), .val (.int 4), .val (.int 5), .val (.ref o23), .val (.int r5), .val (.int r4), .val (.int r3), .val (.int r2), .val (.int r1), .unset] [(.int 0), (.int x13), (.int x12)])) rfl (by rw [hml]; rfl) (argsL := [(.int x12), (.int x13), (.int 0)]) (rest := []) (lenOf pd_3 rfl) rfl (by show 2 * 0 + _ ≤ _; exact Nat.le_of_eq rfl) (hb hby at_429) (fun _ _ => ⟨rfl, e439, (by decide : 6 + 0 ≤ _), (by decide : 5131 + 0 ≤ _)⟩)
              dsimp only [Pt.U, Pt.locs, Pt.cells, Pt.slots] at X448 l448 y448 z448 st448 hQ448
              subst l448 y448 z448
              obtain ⟨rfl, N448q, e448⟩ := hQ448
              have N448 := Fr.app N439 N448q
              refine own_go st448 ?_
              by_cases hc432_449 : (own_hit x12 x13 (0 : Int32)) = (0 : Int32)
              · refine own_go (fun _ k => XS.ifNo X448.here hx rfl (hb hby at_432) rfl ((if0 _ _).trans (teq hc432_449).2) k) ?_
                refine own_go (fun _ k => XS.iload X448.here hx rfl (hb hby at_435) rfl k) ?_
                show own_Run p e below _ T448 (mkF m 437 #[.val (.int p1), .val (.int p2), .val (.int p3), .val (.int p4), .val (.int p5), .val (.int p6), .val (.int x6), .val (.int x7), .val (.int x8), .val (.int x9), .val (.int x10), .val (.int x11), .val (.int x12), .val (.int x13), .val (.int x14), .val (.int x15), .val (.int x16), .val (.int x17), .val (.ref o18), .val (.int 2), .val (.int 3), .val (.int 4), .val (.int 5), .val (.ref o23), .val (.int r5), .val (.int r4), .val (.int r3), .val (.int r2), .val (.int r1), .unset] [(.int r5)])
                by_cases hc437_450 : r5 = (0 : Int32)
                · refine own_go (fun _ k => XS.ifYes X448.here hx rfl (pc0 := 437) (pc' := 455) rfl (hb hby at_437) rfl ((if0 _ _).trans (teq hc437_450).1) (by decide) (by decide) k) ?_
                  refine own_go (fun _ k => XS.iconst X448.here hx rfl (hb hby at_455) k) ?_
                  refine own_go (fun _ k => XS.istore X448.here hx rfl (hb hby at_456) rfl (l' := #[.val (.int p1), .val (.int p2), .val (.int p3), .val (.int p4), .val (.int p5), .val (.int p6), .val (.int x6), .val (.int x7), .val (.int x8), .val (.int x9), .val (.int x10), .val (.int x11), .val (.int x12), .val (.int x13), .val (.int x14), .val (.int x15), .val (.int x16), .val (.int x17), .val (.ref o18), .val (.int 2), .val (.int 3), .val (.int 4), .val (.int 5), .val (.ref o23), .val (.int r5), .val (.int r4), .val (.int r3), .val (.int r2), .val (.int r1), .val (.int 0)]) rfl k) ?_
                  have hs451 : (0 : Int32) = (own_g0_2 x17 x7 x8 x10 x11 x12 x13 x15 x16) := by
                    have hsp : (own_g0_2 x17 x7 x8 x10 x11 x12 x13 x15 x16) = own_st r2 x7 x8 0 (own_st r3 x10 x11 0 (own_st r4 x12 x13 0 (own_st r5 x15 x16 0 (if x17 = (0 : Int32) then 1 else 0)))) := by
                      rw [hr2, hr3, hr4, hr5]
                      rfl
                    rw [hsp]
                    rw [own_stN _ _ _ _ _ hc400_421]
                    rw [own_stN _ _ _ _ _ hc416_440]
                    rw [own_stN _ _ _ _ _ hc432_449]
                    rw [own_st0 _ _ _ _ _ hc437_450]
                    rw [if_neg hc384_381]
                  exact lw0 p1 p2 p3 p4 p5 p6 h0 n0 hx hZ hw hby hml hown hnm hret hlk x6 x7 x8 x9 x10 x11 x12 x13 x14 x15 x16 x17 o18 o23 k23 nn vs r5 r4 r3 r2 r1 (0 : Int32) T448 hh _ X448 e448 N448 Z0 K0 V_o23 (hvs) (hr5) (hr4) (hr3) (hr2) (hr1) (hs451) 
                · refine own_go (fun _ k => XS.ifNo X448.here hx rfl (hb hby at_437) rfl ((if0 _ _).trans (feq hc437_450).1) k) ?_
                  refine own_go (fun _ k => XS.iload X448.here hx rfl (hb hby at_440) rfl k) ?_
                  refine own_go (fun _ k => XS.iload X448.here hx rfl (hb hby at_442) rfl k) ?_
                  refine own_go (fun _ k => XS.iconst X448.here hx rfl (hb hby at_444) k) ?_
                  obtain ⟨_, _, ⟨T452, L452, k452, n452⟩, -, X452, ⟨Lc452, hQ452, l452, y452, z452⟩, st452⟩ := Jvm.LawKit.callS X448 hx (y := (⟨own_K1, "hits", "(III)Z"⟩ : MethodName)) hown (mvT hZ (W 42 rfl)) (mvT hZ (W 43 rfl)) (mvT hZ (W 40 rfl)) (mvT hZ (W 44 rfl)) (by decide) (backOf (W := 0) (rm7 l Z a0 hw [] x15 x16 (0 : Int32) (own_hit x15 x16 (0 : Int32)) hh n0 Z0 (own_hitP x15 x16 (0 : Int32))) hZ (W 44 rfl) (W 40 rfl) (by decide) (by decide)) (g := (mkF m 445 #[.val (.int p1), .val (.int p2), .val (.int p3), .val (.int p4), .val (.int p5), .val (.int p6), .val (.int x6), .val (.int x7), .val (.int x8), .val (.int x9), .val (.int x10), .val (.int x11), .val (.int x12), .val (.int x13), .val (.int x14), .val (.int x15), .val (.int x16), .val (.int x17), .val (.ref o18), .val (.int 2), .val (.int 3), .val (.int 4), .val (.int 5), .val (.ref o23), .val (.int r5), .val (.int r4), .val (.int r3), .val (.int r2), .val (.int r1), .unset] [(.int 0), (.int x16), (.int x15)])) rfl (by rw [hml]; rfl) (argsL := [(.int x15), (.int x16), (.int 0)]) (rest := []) (lenOf pd_3 rfl) rfl (by show 2 * 0 + _ ≤ _; exact Nat.le_of_eq rfl) (hb hby at_445) (fun _ _ => ⟨rfl, e448, (by decide : 6 + 0 ≤ _), (by decide : 5131 + 0 ≤ _)⟩)
                  dsimp only [Pt.U, Pt.locs, Pt.cells, Pt.slots] at X452 l452 y452 z452 st452 hQ452
                  subst l452 y452 z452
                  obtain ⟨rfl, N452q, e452⟩ := hQ452
                  have N452 := Fr.app N448 N452q
                  refine own_go st452 ?_
                  by_cases hc448_453 : (own_hit x15 x16 (0 : Int32)) = (0 : Int32)
                  · refine own_go (fun _ k => XS.ifYes X452.here hx rfl (pc0 := 448) (pc' := 455) rfl (hb hby at_448) rfl ((if0 _ _).trans (teq hc448_453).1) (by decide) (by decide) k) ?_
                    refine own_go (fun _ k => XS.iconst X452.here hx rfl (hb hby at_455) k) ?_
                    refine own_go (fun _ k => XS.istore X452.here hx rfl (hb hby at_456) rfl (l' := #[.val (.int p1), .val (.int p2), .val (.int p3), .val (.int p4), .val (.int p5), .val (.int p6), .val (.int x6), .val (.int x7), .val (.int x8), .val (.int x9), .val (.int x10), .val (.int x11), .val (.int x12), .val (.int x13), .val (.int x14), .val (.int x15), .val (.int x16), .val (.int x17), .val (.ref o18), .val (.int 2), .val (.int 3), .val (.int 4), .val (.int 5), .val (.ref o23), .val (.int r5), .val (.int r4), .val (.int r3), .val (.int r2), .val (.int r1), .val (.int 0)]) rfl k) ?_
                    show own_Run p e below _ T452 (mkF m 458 #[.val (.int p1), .val (.int p2), .val (.int p3), .val (.int p4), .val (.int p5), .val (.int p6), .val (.int x6), .val (.int x7), .val (.int x8), .val (.int x9), .val (.int x10), .val (.int x11), .val (.int x12), .val (.int x13), .val (.int x14), .val (.int x15), .val (.int x16), .val (.int x17), .val (.ref o18), .val (.int 2), .val (.int 3), .val (.int 4), .val (.int 5), .val (.ref o23), .val (.int r5), .val (.int r4), .val (.int r3), .val (.int r2), .val (.int r1), .val (.int 0)] [])
                    have hs454 : (0 : Int32) = (own_g0_2 x17 x7 x8 x10 x11 x12 x13 x15 x16) := by
                      have hsp : (own_g0_2 x17 x7 x8 x10 x11 x12 x13 x15 x16) = own_st r2 x7 x8 0 (own_st r3 x10 x11 0 (own_st r4 x12 x13 0 (own_st r5 x15 x16 0 (if x17 = (0 : Int32) then 1 else 0)))) := by
                        rw [hr2, hr3, hr4, hr5]
                        rfl
                      rw [hsp]
                      rw [own_stN _ _ _ _ _ hc400_421]
                      rw [own_stN _ _ _ _ _ hc416_440]
                      rw [own_stN _ _ _ _ _ hc432_449]
                      rw [own_stN _ _ _ _ _ hc448_453]
                      rw [if_neg hc384_381]
                    exact lw0 p1 p2 p3 p4 p5 p6 h0 n0 hx hZ hw hby hml hown hnm hret hlk x6 x7 x8 x9 x10 x11 x12 x13 x14 x15 x16 x17 o18 o23 k23 nn vs r5 r4 r3 r2 r1 (0 : Int32) T452 hh _ X452 e452 N452 Z0 K0 V_o23 (hvs) (hr5) (hr4) (hr3) (hr2) (hr1) (hs454) 
                  · refine own_go (fun _ k => XS.ifNo X452.here hx rfl (hb hby at_448) rfl ((if0 _ _).trans (feq hc448_453).1) k) ?_
                    refine own_go (fun _ k => XS.iconst X452.here hx rfl (hb hby at_451) k) ?_
                    refine own_go (fun _ k => XS.goto X452.here hx rfl (pc0 := 452) (pc' := 456) rfl (hb hby at_452) (by decide) (by decide) k) ?_
                    show own_Run p e below _ T452 (mkF m 456 #[.val (.int p1), .val (.int p2), .val (.int p3), .val (.int p4), .val (.int p5), .val (.int p6), .val (.int x6), .val (.int x7), .val (.int x8), .val (.int x9), .val (.int x10), .val (.int x11), .val (.int x12), .val (.int x13), .val (.int x14), .val (.int x15), .val (.int x16), .val (.int x17), .val (.ref o18), .val (.int 2), .val (.int 3), .val (.int 4), .val (.int 5), .val (.ref o23), .val (.int r5), .val (.int r4), .val (.int r3), .val (.int r2), .val (.int r1), .unset] [(.int 1)])
                    refine own_go (fun _ k => XS.istore X452.here hx rfl (hb hby at_456) rfl (l' := #[.val (.int p1), .val (.int p2), .val (.int p3), .val (.int p4), .val (.int p5), .val (.int p6), .val (.int x6), .val (.int x7), .val (.int x8), .val (.int x9), .val (.int x10), .val (.int x11), .val (.int x12), .val (.int x13), .val (.int x14), .val (.int x15), .val (.int x16), .val (.int x17), .val (.ref o18), .val (.int 2), .val (.int 3), .val (.int 4), .val (.int 5), .val (.ref o23), .val (.int r5), .val (.int r4), .val (.int r3), .val (.int r2), .val (.int r1), .val (.int 1)]) rfl k) ?_
                    have hs455 : (1 : Int32) = (own_g0_2 x17 x7 x8 x10 x11 x12 x13 x15 x16) := by
                      have hsp : (own_g0_2 x17 x7 x8 x10 x11 x12 x13 x15 x16) = own_st r2 x7 x8 0 (own_st r3 x10 x11 0 (own_st r4 x12 x13 0 (own_st r5 x15 x16 0 (if x17 = (0 : Int32) then 1 else 0)))) := by
                        rw [hr2, hr3, hr4, hr5]
                        rfl
                      rw [hsp]
                      rw [own_stN _ _ _ _ _ hc400_421]
                      rw [own_stN _ _ _ _ _ hc416_440]
                      rw [own_stN _ _ _ _ _ hc432_449]
                      rw [own_stY _ _ _ _ _ (by assumption) hc448_453]
                    exact lw0 p1 p2 p3 p4 p5 p6 h0 n0 hx hZ hw hby hml hown hnm hret hlk x6 x7 x8 x9 x10 x11 x12 x13 x14 x15 x16 x17 o18 o23 k23 nn vs r5 r4 r3 r2 r1 (1 : Int32) T452 hh _ X452 e452 N452 Z0 K0 V_o23 (hvs) (hr5) (hr4) (hr3) (hr2) (hr1) (hs455) 
              · refine own_go (fun _ k => XS.ifYes X448.here hx rfl (pc0 := 432) (pc' := 451) rfl (hb hby at_432) rfl ((if0 _ _).trans (feq hc432_449).2) (by decide) (by decide) k) ?_
                refine own_go (fun _ k => XS.iconst X448.here hx rfl (hb hby at_451) k) ?_
                show own_Run p e below _ T448 (mkF m 452 #[.val (.int p1), .val (.int p2), .val (.int p3), .val (.int p4), .val (.int p5), .val (.int p6), .val (.int x6), .val (.int x7), .val (.int x8), .val (.int x9), .val (.int x10), .val (.int x11), .val (.int x12), .val (.int x13), .val (.int x14), .val (.int x15), .val (.int x16), .val (.int x17), .val (.ref o18), .val (.int 2), .val (.int 3), .val (.int 4), .val (.int 5), .val (.ref o23), .val (.int r5), .val (.int r4), .val (.int r3), .val (.int r2), .val (.int r1), .unset] [(.int 1)])
                refine own_go (fun _ k => XS.goto X448.here hx rfl (pc0 := 452) (pc' := 456) rfl (hb hby at_452) (by decide) (by decide) k) ?_
                refine own_go (fun _ k => XS.istore X448.here hx rfl (hb hby at_456) rfl (l' := #[.val (.int p1), .val (.int p2), .val (.int p3), .val (.int p4), .val (.int p5), .val (.int p6), .val (.int x6), .val (.int x7), .val (.int x8), .val (.int x9), .val (.int x10), .val (.int x11), .val (.int x12), .val (.int x13), .val (.int x14), .val (.int x15), .val (.int x16), .val (.int x17), .val (.ref o18), .val (.int 2), .val (.int 3), .val (.int 4), .val (.int 5), .val (.ref o23), .val (.int r5), .val (.int r4), .val (.int r3), .val (.int r2), .val (.int r1), .val (.int 1)]) rfl k) ?_
                have hs456 : (1 : Int32) = (own_g0_2 x17 x7 x8 x10 x11 x12 x13 x15 x16) := by
                  have hsp : (own_g0_2 x17 x7 x8 x10 x11 x12 x13 x15 x16) = own_st r2 x7 x8 0 (own_st r3 x10 x11 0 (own_st r4 x12 x13 0 (own_st r5 x15 x16 0 (if x17 = (0 : Int32) then 1 else 0)))) := by
                    rw [hr2, hr3, hr4, hr5]
                    rfl
                  rw [hsp]
                  rw [own_stN _ _ _ _ _ hc400_421]
                  rw [own_stN _ _ _ _ _ hc416_440]
                  rw [own_stY _ _ _ _ _ (by assumption) hc432_449]
                exact lw0 p1 p2 p3 p4 p5 p6 h0 n0 hx hZ hw hby hml hown hnm hret hlk x6 x7 x8 x9 x10 x11 x12 x13 x14 x15 x16 x17 o18 o23 k23 nn vs r5 r4 r3 r2 r1 (1 : Int32) T448 hh _ X448 e448 N448 Z0 K0 V_o23 (hvs) (hr5) (hr4) (hr3) (hr2) (hr1) (hs456) 
          · refine own_go (fun _ k => XS.ifYes X439.here hx rfl (pc0 := 416) (pc' := 451) rfl (hb hby at_416) rfl ((if0 _ _).trans (feq hc416_440).2) (by decide) (by decide) k) ?_
            show own_Run p e below _ T439 (mkF m 451 #[.val (.int p1), .val (.int p2), .val (.int p3), .val (.int p4), .val (.int p5), .val (.int p6), .val (.int x6), .val (.int x7), .val (.int x8), .val (.int x9), .val (.int x10), .val (.int x11), .val (.int x12), .val (.int x13), .val (.int x14), .val (.int x15), .val (.int x16), .val (.int x17), .val (.ref o18), .val (.int 2), .val (.int 3), .val (.int 4), .val (.int 5), .val (.ref o23), .val (.int r5), .val (.int r4), .val (.int r3), .val (.int r2), .val (.int r1), .unset] [])
            refine own_go (fun _ k => XS.iconst X439.here hx rfl (hb hby at_451) k) ?_
            refine own_go (fun _ k => XS.goto X439.here hx rfl (pc0 := 452) (pc' := 456) rfl (hb hby at_452) (by decide) (by decide) k) ?_
            refine own_go (fun _ k => XS.istore X439.here hx rfl (hb hby at_456) rfl (l' := #[.val (.int p1), .val (.int p2), .val (.int p3), .val (.int p4), .val (.int p5), .val (.int p6), .val (.int x6), .val (.int x7), .val (.int x8), .val (.int x9), .val (.int x10), .val (.int x11), .val (.int x12), .val (.int x13), .val (.int x14), .val (.int x15), .val (.int x16), .val (.int x17), .val (.ref o18), .val (.int 2), .val (.int 3), .val (.int 4), .val (.int 5), .val (.ref o23), .val (.int r5), .val (.int r4), .val (.int r3), .val (.int r2), .val (.int r1), .val (.int 1)]) rfl k) ?_
            have hs457 : (1 : Int32) = (own_g0_2 x17 x7 x8 x10 x11 x12 x13 x15 x16) := by
              have hsp : (own_g0_2 x17 x7 x8 x10 x11 x12 x13 x15 x16) = own_st r2 x7 x8 0 (own_st r3 x10 x11 0 (own_st r4 x12 x13 0 (own_st r5 x15 x16 0 (if x17 = (0 : Int32) then 1 else 0)))) := by
                rw [hr2, hr3, hr4, hr5]
                rfl
              rw [hsp]
              rw [own_stN _ _ _ _ _ hc400_421]
              rw [own_stY _ _ _ _ _ (by assumption) hc416_440]
            exact lw0 p1 p2 p3 p4 p5 p6 h0 n0 hx hZ hw hby hml hown hnm hret hlk x6 x7 x8 x9 x10 x11 x12 x13 x14 x15 x16 x17 o18 o23 k23 nn vs r5 r4 r3 r2 r1 (1 : Int32) T439 hh _ X439 e439 N439 Z0 K0 V_o23 (hvs) (hr5) (hr4) (hr3) (hr2) (hr1) (hs457) 
      · refine own_go (fun _ k => XS.ifYes X420.here hx rfl (pc0 := 400) (pc' := 451) rfl (hb hby at_400) rfl ((if0 _ _).trans (feq hc400_421).2) (by decide) (by decide) k) ?_
        refine own_go (fun _ k => XS.iconst X420.here hx rfl (hb hby at_451) k) ?_
        refine own_go (fun _ k => XS.goto X420.here hx rfl (pc0 := 452) (pc' := 456) rfl (hb hby at_452) (by decide) (by decide) k) ?_
        refine own_go (fun _ k => XS.istore X420.here hx rfl (hb hby at_456) rfl (l' := #[.val (.int p1), .val (.int p2), .val (.int p3), .val (.int p4), .val (.int p5), .val (.int p6), .val (.int x6), .val (.int x7), .val (.int x8), .val (.int x9), .val (.int x10), .val (.int x11), .val (.int x12), .val (.int x13), .val (.int x14), .val (.int x15), .val (.int x16), .val (.int x17), .val (.ref o18), .val (.int 2), .val (.int 3), .val (.int 4), .val (.int 5), .val (.ref o23), .val (.int r5), .val (.int r4), .val (.int r3), .val (.int r2), .val (.int r1), .val (.int 1)]) rfl k) ?_
        have hs458 : (1 : Int32) = (own_g0_2 x17 x7 x8 x10 x11 x12 x13 x15 x16) := by
          have hsp : (own_g0_2 x17 x7 x8 x10 x11 x12 x13 x15 x16) = own_st r2 x7 x8 0 (own_st r3 x10 x11 0 (own_st r4 x12 x13 0 (own_st r5 x15 x16 0 (if x17 = (0 : Int32) then 1 else 0)))) := by
            rw [hr2, hr3, hr4, hr5]
            rfl
          rw [hsp]
          rw [own_stY _ _ _ _ _ (by assumption) hc400_421]
        exact lw0 p1 p2 p3 p4 p5 p6 h0 n0 hx hZ hw hby hml hown hnm hret hlk x6 x7 x8 x9 x10 x11 x12 x13 x14 x15 x16 x17 o18 o23 k23 nn vs r5 r4 r3 r2 r1 (1 : Int32) T420 hh _ X420 e420 N420 Z0 K0 V_o23 (hvs) (hr5) (hr4) (hr3) (hr2) (hr1) (hs458) 
set_option maxRecDepth 65536 in
set_option maxHeartbeats 40000000 in
theorem lw2 {p : Program} {l : Launch} {e : Env} {s : State} {m : MethodId} {args : Array Value} {below : List Frame} {meth : Method} {c : Code} {Z : State} {a0 : Array Value} (p1 : Int32) (p2 : Int32) (p3 : Int32) (p4 : Int32) (p5 : Int32) (p6 : Int32) (h0 : Heap) (n0 : Nat) (hx : p.tables.exec = Jvm.exec) (hZ : Z.Warmed39 s.vm) (hw : ∀ d ∈ tables_1, d.before a0 Z = true) (hby : c.code = code) (hml : c.maxLocals = 30) (hown : s.vm.findClass own_K1 = some m.cls) (hnm : meth.name = "law") (hret : meth.sig.returnType = some .boolean) (hlk : meth.locks = false)
    (x6 : Int32) (x7 : Int32) (x8 : Int32) (x9 : Int32) (x10 : Int32) (x11 : Int32) (x12 : Int32) (x13 : Int32) (x14 : Int32) (x15 : Int32) (x16 : Int32) (x17 : Int32) (o18 : Addr) (o23 : Addr) (k23 : ClassId) (nn : Int32) (vs : List Value) (r5 : Int32) (r4 : Int32) (r3 : Int32) (r2 : Int32) (T0 : State) (hh : Heap) (locs : List Loc) (X0 : Stand p l e room_1 s m args below meth c T0 locs 6 5131) (e0 : T0.heap = hh) (N0 : Fr n0 locs) (Z0 : n0 ≤ hh.size) (K0 : Keep h0 hh []) (V_o23 : Arv Z hh o23 k23 .boolean nn vs (.int 0)) (hvs : own_HV x17 nn vs x7 x8 x10 x11 x12 x13 x15 x16) (hr5 : r5 = (own_g5_6 x17 x7 x8 x10 x11 x12 x13 x15 x16)) (hr4 : r4 = (own_g4_5 x17 x7 x8 x10 x11 x12 x13 x15 x16)) (hr3 : r3 = (own_g3_4 x17 x7 x8 x10 x11 x12 x13 x15 x16)) (hr2 : r2 = (own_g2_3 x17 x7 x8 x10 x11 x12 x13 x15 x16)) :
    own_Run p e below (fun o U' => ∃ v L, o = .returned v ∧ Q0 Z p1 p2 p3 p4 p5 p6 h0 n0 v U'.heap L ∧ FrameEnd s o U' L room_1.cells room_1.slots) T0 (mkF m 305 #[.val (.int p1), .val (.int p2), .val (.int p3), .val (.int p4), .val (.int p5), .val (.int p6), .val (.int x6), .val (.int x7), .val (.int x8), .val (.int x9), .val (.int x10), .val (.int x11), .val (.int x12), .val (.int x13), .val (.int x14), .val (.int x15), .val (.int x16), .val (.int x17), .val (.ref o18), .val (.int 2), .val (.int 3), .val (.int 4), .val (.int 5), .val (.ref o23), .val (.int r5), .val (.int r4), .val (.int r3), .val (.int r2), .unset, .unset] []) := by
  have W := fun (k : Nat) {d : Jvm.Cond} (h : tables_1[k]? = some d) => hw d (List.mem_of_getElem? h)
  show own_Run p e below _ T0 (mkF m 305 #[.val (.int p1), .val (.int p2), .val (.int p3), .val (.int p4), .val (.int p5), .val (.int p6), .val (.int x6), .val (.int x7), .val (.int x8), .val (.int x9), .val (.int x10), .val (.int x11), .val (.int x12), .val (.int x13), .val (.int x14), .val (.int x15), .val (.int x16), .val (.int x17), .val (.ref o18), .val (.int 2), .val (.int 3), .val (.int 4), .val (.int 5), .val (.ref o23), .val (.int r5), .val (.int r4), .val (.int r3), .val (.int r2), .unset, .unset] [])
  refine own_go (fun _ k => XS.iload X0.here hx rfl (hb hby at_305) rfl k) ?_
  refine own_go (fun _ k => XS.iconst X0.here hx rfl (hb hby at_307) k) ?_
  by_cases hc308_459 : x17 = (1 : Int32)
  · refine own_go (fun _ k => XS.icmpYes X0.here hx rfl (pc0 := 308) (pc' := 375) rfl (hb hby at_308) rfl (teq hc308_459).1 (by decide) (by decide) k) ?_
    refine own_go (fun _ k => XS.iconst X0.here hx rfl (hb hby at_375) k) ?_
    refine own_go (fun _ k => XS.goto X0.here hx rfl (pc0 := 376) (pc' := 380) rfl (hb hby at_376) (by decide) (by decide) k) ?_
    refine own_go (fun _ k => XS.istore X0.here hx rfl (hb hby at_380) rfl (l' := #[.val (.int p1), .val (.int p2), .val (.int p3), .val (.int p4), .val (.int p5), .val (.int p6), .val (.int x6), .val (.int x7), .val (.int x8), .val (.int x9), .val (.int x10), .val (.int x11), .val (.int x12), .val (.int x13), .val (.int x14), .val (.int x15), .val (.int x16), .val (.int x17), .val (.ref o18), .val (.int 2), .val (.int 3), .val (.int 4), .val (.int 5), .val (.ref o23), .val (.int r5), .val (.int r4), .val (.int r3), .val (.int r2), .val (.int 1), .unset]) rfl k) ?_
    have hs460 : (1 : Int32) = (own_g1_2 x17 x7 x8 x10 x11 x12 x13 x15 x16) := by
      have hsp : (own_g1_2 x17 x7 x8 x10 x11 x12 x13 x15 x16) = own_st r2 x7 x8 1 (own_st r3 x10 x11 1 (own_st r4 x12 x13 1 (own_st r5 x15 x16 1 (if x17 = (1 : Int32) then 1 else 0)))) := by
        rw [hr2, hr3, hr4, hr5]
        rfl
      rw [hsp]
      rw [if_pos hc308_459]
      rw [own_st1]
      rw [own_st1]
      rw [own_st1]
      rw [own_st1]
    exact lw1 p1 p2 p3 p4 p5 p6 h0 n0 hx hZ hw hby hml hown hnm hret hlk x6 x7 x8 x9 x10 x11 x12 x13 x14 x15 x16 x17 o18 o23 k23 nn vs r5 r4 r3 r2 (1 : Int32) T0 hh _ X0 e0 N0 Z0 K0 V_o23 (hvs) (hr5) (hr4) (hr3) (hr2) (hs460) 
  · refine own_go (fun _ k => XS.icmpNo X0.here hx rfl (hb hby at_308) rfl (feq hc308_459).1 k) ?_
    refine own_go (fun _ k => XS.iload X0.here hx rfl (hb hby at_311) rfl k) ?_
    by_cases hc313_461 : r2 = (0 : Int32)
    · refine own_go (fun _ k => XS.ifYes X0.here hx rfl (pc0 := 313) (pc' := 327) rfl (hb hby at_313) rfl ((if0 _ _).trans (teq hc313_461).1) (by decide) (by decide) k) ?_
      refine own_go (fun _ k => XS.iload X0.here hx rfl (hb hby at_327) rfl k) ?_
      by_cases hc329_462 : r3 = (0 : Int32)
      · refine own_go (fun _ k => XS.ifYes X0.here hx rfl (pc0 := 329) (pc' := 343) rfl (hb hby at_329) rfl ((if0 _ _).trans (teq hc329_462).1) (by decide) (by decide) k) ?_
        refine own_go (fun _ k => XS.iload X0.here hx rfl (hb hby at_343) rfl k) ?_
        show own_Run p e below _ T0 (mkF m 345 #[.val (.int p1), .val (.int p2), .val (.int p3), .val (.int p4), .val (.int p5), .val (.int p6), .val (.int x6), .val (.int x7), .val (.int x8), .val (.int x9), .val (.int x10), .val (.int x11), .val (.int x12), .val (.int x13), .val (.int x14), .val (.int x15), .val (.int x16), .val (.int x17), .val (.ref o18), .val (.int 2), .val (.int 3), .val (.int 4), .val (.int 5), .val (.ref o23), .val (.int r5), .val (.int r4), .val (.int r3), .val (.int r2), .unset, .unset] [(.int r4)])
        by_cases hc345_463 : r4 = (0 : Int32)
        · refine own_go (fun _ k => XS.ifYes X0.here hx rfl (pc0 := 345) (pc' := 359) rfl (hb hby at_345) rfl ((if0 _ _).trans (teq hc345_463).1) (by decide) (by decide) k) ?_
          refine own_go (fun _ k => XS.iload X0.here hx rfl (hb hby at_359) rfl k) ?_
          by_cases hc361_464 : r5 = (0 : Int32)
          · refine own_go (fun _ k => XS.ifYes X0.here hx rfl (pc0 := 361) (pc' := 379) rfl (hb hby at_361) rfl ((if0 _ _).trans (teq hc361_464).1) (by decide) (by decide) k) ?_
            refine own_go (fun _ k => XS.iconst X0.here hx rfl (hb hby at_379) k) ?_
            refine own_go (fun _ k => XS.istore X0.here hx rfl (hb hby at_380) rfl (l' := #[.val (.int p1), .val (.int p2), .val (.int p3), .val (.int p4), .val (.int p5), .val (.int p6), .val (.int x6), .val (.int x7), .val (.int x8), .val (.int x9), .val (.int x10), .val (.int x11), .val (.int x12), .val (.int x13), .val (.int x14), .val (.int x15), .val (.int x16), .val (.int x17), .val (.ref o18), .val (.int 2), .val (.int 3), .val (.int 4), .val (.int 5), .val (.ref o23), .val (.int r5), .val (.int r4), .val (.int r3), .val (.int r2), .val (.int 0), .unset]) rfl k) ?_
            have hs465 : (0 : Int32) = (own_g1_2 x17 x7 x8 x10 x11 x12 x13 x15 x16) := by
              have hsp : (own_g1_2 x17 x7 x8 x10 x11 x12 x13 x15 x16) = own_st r2 x7 x8 1 (own_st r3 x10 x11 1 (own_st r4 x12 x13 1 (own_st r5 x15 x16 1 (if x17 = (1 : Int32) then 1 else 0)))) := by
                rw [hr2, hr3, hr4, hr5]
                rfl
              rw [hsp]
              rw [own_st0 _ _ _ _ _ hc313_461]
              rw [own_st0 _ _ _ _ _ hc329_462]
              rw [own_st0 _ _ _ _ _ hc345_463]
              rw [own_st0 _ _ _ _ _ hc361_464]
              rw [if_neg hc308_459]
            exact lw1 p1 p2 p3 p4 p5 p6 h0 n0 hx hZ hw hby hml hown hnm hret hlk x6 x7 x8 x9 x10 x11 x12 x13 x14 x15 x16 x17 o18 o23 k23 nn vs r5 r4 r3 r2 (0 : Int32) T0 hh _ X0 e0 N0 Z0 K0 V_o23 (hvs) (hr5) (hr4) (hr3) (hr2) (hs465) 
          · refine own_go (fun _ k => XS.ifNo X0.here hx rfl (hb hby at_361) rfl ((if0 _ _).trans (feq hc361_464).1) k) ?_
            refine own_go (fun _ k => XS.iload X0.here hx rfl (hb hby at_364) rfl k) ?_
            refine own_go (fun _ k => XS.iload X0.here hx rfl (hb hby at_366) rfl k) ?_
            refine own_go (fun _ k => XS.iconst X0.here hx rfl (hb hby at_368) k) ?_
            obtain ⟨_, _, ⟨T466, L466, k466, n466⟩, -, X466, ⟨Lc466, hQ466, l466, y466, z466⟩, st466⟩ := Jvm.LawKit.callS X0 hx (y := (⟨own_K1, "hits", "(III)Z"⟩ : MethodName)) hown (mvT hZ (W 42 rfl)) (mvT hZ (W 43 rfl)) (mvT hZ (W 40 rfl)) (mvT hZ (W 44 rfl)) (by decide) (backOf (W := 0) (rm7 l Z a0 hw [] x15 x16 (1 : Int32) (own_hit x15 x16 (1 : Int32)) hh n0 Z0 (own_hitP x15 x16 (1 : Int32))) hZ (W 44 rfl) (W 40 rfl) (by decide) (by decide)) (g := (mkF m 369 #[.val (.int p1), .val (.int p2), .val (.int p3), .val (.int p4), .val (.int p5), .val (.int p6), .val (.int x6), .val (.int x7), .val (.int x8), .val (.int x9), .val (.int x10), .val (.int x11), .val (.int x12), .val (.int x13), .val (.int x14), .val (.int x15), .val (.int x16), .val (.int x17), .val (.ref o18), .val (.int 2), .val (.int 3), .val (.int 4), .val (.int 5), .val (.ref o23), .val (.int r5), .val (.int r4), .val (.int r3), .val (.int r2), .unset, .unset] [(.int 1), (.int x16), (.int x15)])) rfl (by rw [hml]; rfl) (argsL := [(.int x15), (.int x16), (.int 1)]) (rest := []) (lenOf pd_3 rfl) rfl (by show 2 * 0 + _ ≤ _; exact Nat.le_of_eq rfl) (hb hby at_369) (fun _ _ => ⟨rfl, e0, (by decide : 6 + 0 ≤ _), (by decide : 5131 + 0 ≤ _)⟩)
            dsimp only [Pt.U, Pt.locs, Pt.cells, Pt.slots] at X466 l466 y466 z466 st466 hQ466
            subst l466 y466 z466
            obtain ⟨rfl, N466q, e466⟩ := hQ466
            have N466 := Fr.app N0 N466q
            refine own_go st466 ?_
            by_cases hc372_467 : (own_hit x15 x16 (1 : Int32)) = (0 : Int32)
            · refine own_go (fun _ k => XS.ifYes X466.here hx rfl (pc0 := 372) (pc' := 379) rfl (hb hby at_372) rfl ((if0 _ _).trans (teq hc372_467).1) (by decide) (by decide) k) ?_
              show own_Run p e below _ T466 (mkF m 379 #[.val (.int p1), .val (.int p2), .val (.int p3), .val (.int p4), .val (.int p5), .val (.int p6), .val (.int x6), .val (.int x7), .val (.int x8), .val (.int x9), .val (.int x10), .val (.int x11), .val (.int x12), .val (.int x13), .val (.int x14), .val (.int x15), .val (.int x16), .val (.int x17), .val (.ref o18), .val (.int 2), .val (.int 3), .val (.int 4), .val (.int 5), .val (.ref o23), .val (.int r5), .val (.int r4), .val (.int r3), .val (.int r2), .unset, .unset] [])
              refine own_go (fun _ k => XS.iconst X466.here hx rfl (hb hby at_379) k) ?_
              refine own_go (fun _ k => XS.istore X466.here hx rfl (hb hby at_380) rfl (l' := #[.val (.int p1), .val (.int p2), .val (.int p3), .val (.int p4), .val (.int p5), .val (.int p6), .val (.int x6), .val (.int x7), .val (.int x8), .val (.int x9), .val (.int x10), .val (.int x11), .val (.int x12), .val (.int x13), .val (.int x14), .val (.int x15), .val (.int x16), .val (.int x17), .val (.ref o18), .val (.int 2), .val (.int 3), .val (.int 4), .val (.int 5), .val (.ref o23), .val (.int r5), .val (.int r4), .val (.int r3), .val (.int r2), .val (.int 0), .unset]) rfl k) ?_
              have hs468 : (0 : Int32) = (own_g1_2 x17 x7 x8 x10 x11 x12 x13 x15 x16) := by
                have hsp : (own_g1_2 x17 x7 x8 x10 x11 x12 x13 x15 x16) = own_st r2 x7 x8 1 (own_st r3 x10 x11 1 (own_st r4 x12 x13 1 (own_st r5 x15 x16 1 (if x17 = (1 : Int32) then 1 else 0)))) := by
                  rw [hr2, hr3, hr4, hr5]
                  rfl
                rw [hsp]
                rw [own_st0 _ _ _ _ _ hc313_461]
                rw [own_st0 _ _ _ _ _ hc329_462]
                rw [own_st0 _ _ _ _ _ hc345_463]
                rw [own_stN _ _ _ _ _ hc372_467]
                rw [if_neg hc308_459]
              exact lw1 p1 p2 p3 p4 p5 p6 h0 n0 hx hZ hw hby hml hown hnm hret hlk x6 x7 x8 x9 x10 x11 x12 x13 x14 x15 x16 x17 o18 o23 k23 nn vs r5 r4 r3 r2 (0 : Int32) T466 hh _ X466 e466 N466 Z0 K0 V_o23 (hvs) (hr5) (hr4) (hr3) (hr2) (hs468) 
            · refine own_go (fun _ k => XS.ifNo X466.here hx rfl (hb hby at_372) rfl ((if0 _ _).trans (feq hc372_467).1) k) ?_
              show own_Run p e below _ T466 (mkF m 375 #[.val (.int p1), .val (.int p2), .val (.int p3), .val (.int p4), .val (.int p5), .val (.int p6), .val (.int x6), .val (.int x7), .val (.int x8), .val (.int x9), .val (.int x10), .val (.int x11), .val (.int x12), .val (.int x13), .val (.int x14), .val (.int x15), .val (.int x16), .val (.int x17), .val (.ref o18), .val (.int 2), .val (.int 3), .val (.int 4), .val (.int 5), .val (.ref o23), .val (.int r5), .val (.int r4), .val (.int r3), .val (.int r2), .unset, .unset] [])
              refine own_go (fun _ k => XS.iconst X466.here hx rfl (hb hby at_375) k) ?_
              refine own_go (fun _ k => XS.goto X466.here hx rfl (pc0 := 376) (pc' := 380) rfl (hb hby at_376) (by decide) (by decide) k) ?_
              refine own_go (fun _ k => XS.istore X466.here hx rfl (hb hby at_380) rfl (l' := #[.val (.int p1), .val (.int p2), .val (.int p3), .val (.int p4), .val (.int p5), .val (.int p6), .val (.int x6), .val (.int x7), .val (.int x8), .val (.int x9), .val (.int x10), .val (.int x11), .val (.int x12), .val (.int x13), .val (.int x14), .val (.int x15), .val (.int x16), .val (.int x17), .val (.ref o18), .val (.int 2), .val (.int 3), .val (.int 4), .val (.int 5), .val (.ref o23), .val (.int r5), .val (.int r4), .val (.int r3), .val (.int r2), .val (.int 1), .unset]) rfl k) ?_
              have hs469 : (1 : Int32) = (own_g1_2 x17 x7 x8 x10 x11 x12 x13 x15 x16) := by
                have hsp : (own_g1_2 x17 x7 x8 x10 x11 x12 x13 x15 x16) = own_st r2 x7 x8 1 (own_st r3 x10 x11 1 (own_st r4 x12 x13 1 (own_st r5 x15 x16 1 (if x17 = (1 : Int32) then 1 else 0)))) := by
                  rw [hr2, hr3, hr4, hr5]
                  rfl
                rw [hsp]
                rw [own_st0 _ _ _ _ _ hc313_461]
                rw [own_st0 _ _ _ _ _ hc329_462]
                rw [own_st0 _ _ _ _ _ hc345_463]
                rw [own_stY _ _ _ _ _ (by assumption) hc372_467]
              exact lw1 p1 p2 p3 p4 p5 p6 h0 n0 hx hZ hw hby hml hown hnm hret hlk x6 x7 x8 x9 x10 x11 x12 x13 x14 x15 x16 x17 o18 o23 k23 nn vs r5 r4 r3 r2 (1 : Int32) T466 hh _ X466 e466 N466 Z0 K0 V_o23 (hvs) (hr5) (hr4) (hr3) (hr2) (hs469) 
        · refine own_go (fun _ k => XS.ifNo X0.here hx rfl (hb hby at_345) rfl ((if0 _ _).trans (feq hc345_463).1) k) ?_
          refine own_go (fun _ k => XS.iload X0.here hx rfl (hb hby at_348) rfl k) ?_
          refine own_go (fun _ k => XS.iload X0.here hx rfl (hb hby at_350) rfl k) ?_
          refine own_go (fun _ k => XS.iconst X0.here hx rfl (hb hby at_352) k) ?_
          obtain ⟨_, _, ⟨T470, L470, k470, n470⟩, -, X470, ⟨Lc470, hQ470, l470, y470, z470⟩, st470⟩ := Jvm.LawKit.callS X0 hx (y := (⟨own_K1, "hits", "(III)Z"⟩ : MethodName)) hown (mvT hZ (W 42 rfl)) (mvT hZ (W 43 rfl)) (mvT hZ (W 40 rfl)) (mvT hZ (W 44 rfl)) (by decide) (backOf (W := 0) (rm7 l Z a0 hw [] x12 x13 (1 : Int32) (own_hit x12 x13 (1 : Int32)) hh n0 Z0 (own_hitP x12 x13 (1 : Int32))) hZ (W 44 rfl) (W 40 rfl) (by decide) (by decide)) (g := (mkF m 353 #[.val (.int p1), .val (.int p2), .val (.int p3), .val (.int p4), .val (.int p5), .val (.int p6), .val (.int x6), .val (.int x7), .val (.int x8), .val (.int x9), .val (.int x10), .val (.int x11), .val (.int x12), .val (.int x13), .val (.int x14), .val (.int x15), .val (.int x16), .val (.int x17), .val (.ref o18), .val (.int 2), .val (.int 3), .val (.int 4), .val (.int 5), .val (.ref o23), .val (.int r5), .val (.int r4), .val (.int r3), .val (.int r2), .unset, .unset] [(.int 1), (.int x13), (.int x12)])) rfl (by rw [hml]; rfl) (argsL := [(.int x12), (.int x13), (.int 1)]) (rest := []) (lenOf pd_3 rfl) rfl (by show 2 * 0 + _ ≤ _; exact Nat.le_of_eq rfl) (hb hby at_353) (fun _ _ => ⟨rfl, e0, (by decide : 6 + 0 ≤ _), (by decide : 5131 + 0 ≤ _)⟩)
          dsimp only [Pt.U, Pt.locs, Pt.cells, Pt.slots] at X470 l470 y470 z470 st470 hQ470
          subst l470 y470 z470
          obtain ⟨rfl, N470q, e470⟩ := hQ470
          have N470 := Fr.app N0 N470q
          refine own_go st470 ?_
          by_cases hc356_471 : (own_hit x12 x13 (1 : Int32)) = (0 : Int32)
          · refine own_go (fun _ k => XS.ifNo X470.here hx rfl (hb hby at_356) rfl ((if0 _ _).trans (teq hc356_471).2) k) ?_
            refine own_go (fun _ k => XS.iload X470.here hx rfl (hb hby at_359) rfl k) ?_
            by_cases hc361_472 : r5 = (0 : Int32)
            · refine own_go (fun _ k => XS.ifYes X470.here hx rfl (pc0 := 361) (pc' := 379) rfl (hb hby at_361) rfl ((if0 _ _).trans (teq hc361_472).1) (by decide) (by decide) k) ?_
              show own_Run p e below _ T470 (mkF m 379 #[.val (.int p1), .val (.int p2), .val (.int p3), .val (.int p4), .val (.int p5), .val (.int p6), .val (.int x6), .val (.int x7), .val (.int x8), .val (.int x9), .val (.int x10), .val (.int x11), .val (.int x12), .val (.int x13), .val (.int x14), .val (.int x15), .val (.int x16), .val (.int x17), .val (.ref o18), .val (.int 2), .val (.int 3), .val (.int 4), .val (.int 5), .val (.ref o23), .val (.int r5), .val (.int r4), .val (.int r3), .val (.int r2), .unset, .unset] [])
              refine own_go (fun _ k => XS.iconst X470.here hx rfl (hb hby at_379) k) ?_
              refine own_go (fun _ k => XS.istore X470.here hx rfl (hb hby at_380) rfl (l' := #[.val (.int p1), .val (.int p2), .val (.int p3), .val (.int p4), .val (.int p5), .val (.int p6), .val (.int x6), .val (.int x7), .val (.int x8), .val (.int x9), .val (.int x10), .val (.int x11), .val (.int x12), .val (.int x13), .val (.int x14), .val (.int x15), .val (.int x16), .val (.int x17), .val (.ref o18), .val (.int 2), .val (.int 3), .val (.int 4), .val (.int 5), .val (.ref o23), .val (.int r5), .val (.int r4), .val (.int r3), .val (.int r2), .val (.int 0), .unset]) rfl k) ?_
              have hs473 : (0 : Int32) = (own_g1_2 x17 x7 x8 x10 x11 x12 x13 x15 x16) := by
                have hsp : (own_g1_2 x17 x7 x8 x10 x11 x12 x13 x15 x16) = own_st r2 x7 x8 1 (own_st r3 x10 x11 1 (own_st r4 x12 x13 1 (own_st r5 x15 x16 1 (if x17 = (1 : Int32) then 1 else 0)))) := by
                  rw [hr2, hr3, hr4, hr5]
                  rfl
                rw [hsp]
                rw [own_st0 _ _ _ _ _ hc313_461]
                rw [own_st0 _ _ _ _ _ hc329_462]
                rw [own_stN _ _ _ _ _ hc356_471]
                rw [own_st0 _ _ _ _ _ hc361_472]
                rw [if_neg hc308_459]
              exact lw1 p1 p2 p3 p4 p5 p6 h0 n0 hx hZ hw hby hml hown hnm hret hlk x6 x7 x8 x9 x10 x11 x12 x13 x14 x15 x16 x17 o18 o23 k23 nn vs r5 r4 r3 r2 (0 : Int32) T470 hh _ X470 e470 N470 Z0 K0 V_o23 (hvs) (hr5) (hr4) (hr3) (hr2) (hs473) 
            · refine own_go (fun _ k => XS.ifNo X470.here hx rfl (hb hby at_361) rfl ((if0 _ _).trans (feq hc361_472).1) k) ?_
              show own_Run p e below _ T470 (mkF m 364 #[.val (.int p1), .val (.int p2), .val (.int p3), .val (.int p4), .val (.int p5), .val (.int p6), .val (.int x6), .val (.int x7), .val (.int x8), .val (.int x9), .val (.int x10), .val (.int x11), .val (.int x12), .val (.int x13), .val (.int x14), .val (.int x15), .val (.int x16), .val (.int x17), .val (.ref o18), .val (.int 2), .val (.int 3), .val (.int 4), .val (.int 5), .val (.ref o23), .val (.int r5), .val (.int r4), .val (.int r3), .val (.int r2), .unset, .unset] [])
              refine own_go (fun _ k => XS.iload X470.here hx rfl (hb hby at_364) rfl k) ?_
              refine own_go (fun _ k => XS.iload X470.here hx rfl (hb hby at_366) rfl k) ?_
              refine own_go (fun _ k => XS.iconst X470.here hx rfl (hb hby at_368) k) ?_
              obtain ⟨_, _, ⟨T474, L474, k474, n474⟩, -, X474, ⟨Lc474, hQ474, l474, y474, z474⟩, st474⟩ := Jvm.LawKit.callS X470 hx (y := (⟨own_K1, "hits", "(III)Z"⟩ : MethodName)) hown (mvT hZ (W 42 rfl)) (mvT hZ (W 43 rfl)) (mvT hZ (W 40 rfl)) (mvT hZ (W 44 rfl)) (by decide) (backOf (W := 0) (rm7 l Z a0 hw [] x15 x16 (1 : Int32) (own_hit x15 x16 (1 : Int32)) hh n0 Z0 (own_hitP x15 x16 (1 : Int32))) hZ (W 44 rfl) (W 40 rfl) (by decide) (by decide)) (g := (mkF m 369 #[.val (.int p1), .val (.int p2), .val (.int p3), .val (.int p4), .val (.int p5), .val (.int p6), .val (.int x6), .val (.int x7), .val (.int x8), .val (.int x9), .val (.int x10), .val (.int x11), .val (.int x12), .val (.int x13), .val (.int x14), .val (.int x15), .val (.int x16), .val (.int x17), .val (.ref o18), .val (.int 2), .val (.int 3), .val (.int 4), .val (.int 5), .val (.ref o23), .val (.int r5), .val (.int r4), .val (.int r3), .val (.int r2), .unset, .unset] [(.int 1), (.int x16), (.int x15)])) rfl (by rw [hml]; rfl) (argsL := [(.int x15), (.int x16), (.int 1)]) (rest := []) (lenOf pd_3 rfl) rfl (by show 2 * 0 + _ ≤ _; exact Nat.le_of_eq rfl) (hb hby at_369) (fun _ _ => ⟨rfl, e470, (by decide : 6 + 0 ≤ _), (by decide : 5131 + 0 ≤ _)⟩)
              dsimp only [Pt.U, Pt.locs, Pt.cells, Pt.slots] at X474 l474 y474 z474 st474 hQ474
              subst l474 y474 z474
              obtain ⟨rfl, N474q, e474⟩ := hQ474
              have N474 := Fr.app N470 N474q
              refine own_go st474 ?_
              by_cases hc372_475 : (own_hit x15 x16 (1 : Int32)) = (0 : Int32)
              · refine own_go (fun _ k => XS.ifYes X474.here hx rfl (pc0 := 372) (pc' := 379) rfl (hb hby at_372) rfl ((if0 _ _).trans (teq hc372_475).1) (by decide) (by decide) k) ?_
                refine own_go (fun _ k => XS.iconst X474.here hx rfl (hb hby at_379) k) ?_
                refine own_go (fun _ k => XS.istore X474.here hx rfl (hb hby at_380) rfl (l' := #[.val (.int p1), .val (.int p2), .val (.int p3), .val (.int p4), .val (.int p5), .val (.int p6), .val (.int x6), .val (.int x7), .val (.int x8), .val (.int x9), .val (.int x10), .val (.int x11), .val (.int x12), .val (.int x13), .val (.int x14), .val (.int x15), .val (.int x16), .val (.int x17), .val (.ref o18), .val (.int 2), .val (.int 3), .val (.int 4), .val (.int 5), .val (.ref o23), .val (.int r5), .val (.int r4), .val (.int r3), .val (.int r2), .val (.int 0), .unset]) rfl k) ?_
                have hs476 : (0 : Int32) = (own_g1_2 x17 x7 x8 x10 x11 x12 x13 x15 x16) := by
                  have hsp : (own_g1_2 x17 x7 x8 x10 x11 x12 x13 x15 x16) = own_st r2 x7 x8 1 (own_st r3 x10 x11 1 (own_st r4 x12 x13 1 (own_st r5 x15 x16 1 (if x17 = (1 : Int32) then 1 else 0)))) := by
                    rw [hr2, hr3, hr4, hr5]
                    rfl
                  rw [hsp]
                  rw [own_st0 _ _ _ _ _ hc313_461]
                  rw [own_st0 _ _ _ _ _ hc329_462]
                  rw [own_stN _ _ _ _ _ hc356_471]
                  rw [own_stN _ _ _ _ _ hc372_475]
                  rw [if_neg hc308_459]
                exact lw1 p1 p2 p3 p4 p5 p6 h0 n0 hx hZ hw hby hml hown hnm hret hlk x6 x7 x8 x9 x10 x11 x12 x13 x14 x15 x16 x17 o18 o23 k23 nn vs r5 r4 r3 r2 (0 : Int32) T474 hh _ X474 e474 N474 Z0 K0 V_o23 (hvs) (hr5) (hr4) (hr3) (hr2) (hs476) 
              · refine own_go (fun _ k => XS.ifNo X474.here hx rfl (hb hby at_372) rfl ((if0 _ _).trans (feq hc372_475).1) k) ?_
                refine own_go (fun _ k => XS.iconst X474.here hx rfl (hb hby at_375) k) ?_
                refine own_go (fun _ k => XS.goto X474.here hx rfl (pc0 := 376) (pc' := 380) rfl (hb hby at_376) (by decide) (by decide) k) ?_
                refine own_go (fun _ k => XS.istore X474.here hx rfl (hb hby at_380) rfl (l' := #[.val (.int p1), .val (.int p2), .val (.int p3), .val (.int p4), .val (.int p5), .val (.int p6), .val (.int x6), .val (.int x7), .val (.int x8), .val (.int x9), .val (.int x10), .val (.int x11), .val (.int x12), .val (.int x13), .val (.int x14), .val (.int x15), .val (.int x16), .val (.int x17), .val (.ref o18), .val (.int 2), .val (.int 3), .val (.int 4), .val (.int 5), .val (.ref o23), .val (.int r5), .val (.int r4), .val (.int r3), .val (.int r2), .val (.int 1), .unset]) rfl k) ?_
                show own_Run p e below _ T474 (mkF m 382 #[.val (.int p1), .val (.int p2), .val (.int p3), .val (.int p4), .val (.int p5), .val (.int p6), .val (.int x6), .val (.int x7), .val (.int x8), .val (.int x9), .val (.int x10), .val (.int x11), .val (.int x12), .val (.int x13), .val (.int x14), .val (.int x15), .val (.int x16), .val (.int x17), .val (.ref o18), .val (.int 2), .val (.int 3), .val (.int 4), .val (.int 5), .val (.ref o23), .val (.int r5), .val (.int r4), .val (.int r3), .val (.int r2), .val (.int 1), .unset] [])
                have hs477 : (1 : Int32) = (own_g1_2 x17 x7 x8 x10 x11 x12 x13 x15 x16) := by
                  have hsp : (own_g1_2 x17 x7 x8 x10 x11 x12 x13 x15 x16) = own_st r2 x7 x8 1 (own_st r3 x10 x11 1 (own_st r4 x12 x13 1 (own_st r5 x15 x16 1 (if x17 = (1 : Int32) then 1 else 0)))) := by
                    rw [hr2, hr3, hr4, hr5]
                    rfl
                  rw [hsp]
                  rw [own_st0 _ _ _ _ _ hc313_461]
                  rw [own_st0 _ _ _ _ _ hc329_462]
                  rw [own_stN _ _ _ _ _ hc356_471]
                  rw [own_stY _ _ _ _ _ (by assumption) hc372_475]
                exact lw1 p1 p2 p3 p4 p5 p6 h0 n0 hx hZ hw hby hml hown hnm hret hlk x6 x7 x8 x9 x10 x11 x12 x13 x14 x15 x16 x17 o18 o23 k23 nn vs r5 r4 r3 r2 (1 : Int32) T474 hh _ X474 e474 N474 Z0 K0 V_o23 (hvs) (hr5) (hr4) (hr3) (hr2) (hs477) 
          · refine own_go (fun _ k => XS.ifYes X470.here hx rfl (pc0 := 356) (pc' := 375) rfl (hb hby at_356) rfl ((if0 _ _).trans (feq hc356_471).2) (by decide) (by decide) k) ?_
            refine own_go (fun _ k => XS.iconst X470.here hx rfl (hb hby at_375) k) ?_
            refine own_go (fun _ k => XS.goto X470.here hx rfl (pc0 := 376) (pc' := 380) rfl (hb hby at_376) (by decide) (by decide) k) ?_
            show own_Run p e below _ T470 (mkF m 380 #[.val (.int p1), .val (.int p2), .val (.int p3), .val (.int p4), .val (.int p5), .val (.int p6), .val (.int x6), .val (.int x7), .val (.int x8), .val (.int x9), .val (.int x10), .val (.int x11), .val (.int x12), .val (.int x13), .val (.int x14), .val (.int x15), .val (.int x16), .val (.int x17), .val (.ref o18), .val (.int 2), .val (.int 3), .val (.int 4), .val (.int 5), .val (.ref o23), .val (.int r5), .val (.int r4), .val (.int r3), .val (.int r2), .unset, .unset] [(.int 1)])
            refine own_go (fun _ k => XS.istore X470.here hx rfl (hb hby at_380) rfl (l' := #[.val (.int p1), .val (.int p2), .val (.int p3), .val (.int p4), .val (.int p5), .val (.int p6), .val (.int x6), .val (.int x7), .val (.int x8), .val (.int x9), .val (.int x10), .val (.int x11), .val (.int x12), .val (.int x13), .val (.int x14), .val (.int x15), .val (.int x16), .val (.int x17), .val (.ref o18), .val (.int 2), .val (.int 3), .val (.int 4), .val (.int 5), .val (.ref o23), .val (.int r5), .val (.int r4), .val (.int r3), .val (.int r2), .val (.int 1), .unset]) rfl k) ?_
            have hs478 : (1 : Int32) = (own_g1_2 x17 x7 x8 x10 x11 x12 x13 x15 x16) := by
              have hsp : (own_g1_2 x17 x7 x8 x10 x11 x12 x13 x15 x16) = own_st r2 x7 x8 1 (own_st r3 x10 x11 1 (own_st r4 x12 x13 1 (own_st r5 x15 x16 1 (if x17 = (1 : Int32) then 1 else 0)))) := by
                rw [hr2, hr3, hr4, hr5]
                rfl
              rw [hsp]
              rw [own_st0 _ _ _ _ _ hc313_461]
              rw [own_st0 _ _ _ _ _ hc329_462]
              rw [own_stY _ _ _ _ _ (by assumption) hc356_471]
            exact lw1 p1 p2 p3 p4 p5 p6 h0 n0 hx hZ hw hby hml hown hnm hret hlk x6 x7 x8 x9 x10 x11 x12 x13 x14 x15 x16 x17 o18 o23 k23 nn vs r5 r4 r3 r2 (1 : Int32) T470 hh _ X470 e470 N470 Z0 K0 V_o23 (hvs) (hr5) (hr4) (hr3) (hr2) (hs478) 
      · refine own_go (fun _ k => XS.ifNo X0.here hx rfl (hb hby at_329) rfl ((if0 _ _).trans (feq hc329_462).1) k) ?_
        refine own_go (fun _ k => XS.iload X0.here hx rfl (hb hby at_332) rfl k) ?_
        show own_Run p e below _ T0 (mkF m 334 #[.val (.int p1), .val (.int p2), .val (.int p3), .val (.int p4), .val (.int p5), .val (.int p6), .val (.int x6), .val (.int x7), .val (.int x8), .val (.int x9), .val (.int x10), .val (.int x11), .val (.int x12), .val (.int x13), .val (.int x14), .val (.int x15), .val (.int x16), .val (.int x17), .val (.ref o18), .val (.int 2), .val (.int 3), .val (.int 4), .val (.int 5), .val (.ref o23), .val (.int r5), .val (.int r4), .val (.int r3), .val (.int r2), .unset, .unset] [(.int x10)])
        refine own_go (fun _ k => XS.iload X0.here hx rfl (hb hby at_334) rfl k) ?_
        refine own_go (fun _ k => XS.iconst X0.here hx rfl (hb hby at_336) k) ?_
        obtain ⟨_, _, ⟨T479, L479, k479, n479⟩, -, X479, ⟨Lc479, hQ479, l479, y479, z479⟩, st479⟩ := Jvm.LawKit.callS X0 hx (y := (⟨own_K1, "hits", "(III)Z"⟩ : MethodName)) hown (mvT hZ (W 42 rfl)) (mvT hZ (W 43 rfl)) (mvT hZ (W 40 rfl)) (mvT hZ (W 44 rfl)) (by decide) (backOf (W := 0) (rm7 l Z a0 hw [] x10 x11 (1 : Int32) (own_hit x10 x11 (1 : Int32)) hh n0 Z0 (own_hitP x10 x11 (1 : Int32))) hZ (W 44 rfl) (W 40 rfl) (by decide) (by decide)) (g := (mkF m 337 #[.val (.int p1), .val (.int p2), .val (.int p3), .val (.int p4), .val (.int p5), .val (.int p6), .val (.int x6), .val (.int x7), .val (.int x8), .val (.int x9), .val (.int x10), .val (.int x11), .val (.int x12), .val (.int x13), .val (.int x14), .val (.int x15), .val (.int x16), .val (.int x17), .val (.ref o18), .val (.int 2), .val (.int 3), .val (.int 4), .val (.int 5), .val (.ref o23), .val (.int r5), .val (.int r4), .val (.int r3), .val (.int r2), .unset, .unset] [(.int 1), (.int x11), (.int x10)])) rfl (by rw [hml]; rfl) (argsL := [(.int x10), (.int x11), (.int 1)]) (rest := []) (lenOf pd_3 rfl) rfl (by show 2 * 0 + _ ≤ _; exact Nat.le_of_eq rfl) (hb hby at_337) (fun _ _ => ⟨rfl, e0, (by decide : 6 + 0 ≤ _), (by decide : 5131 + 0 ≤ _)⟩)
        dsimp only [Pt.U, Pt.locs, Pt.cells, Pt.slots] at X479 l479 y479 z479 st479 hQ479
        subst l479 y479 z479
        obtain ⟨rfl, N479q, e479⟩ := hQ479
        have N479 := Fr.app N0 N479q
        refine own_go st479 ?_
        by_cases hc340_480 : (own_hit x10 x11 (1 : Int32)) = (0 : Int32)
        · refine own_go (fun _ k => XS.ifNo X479.here hx rfl (hb hby at_340) rfl ((if0 _ _).trans (teq hc340_480).2) k) ?_
          refine own_go (fun _ k => XS.iload X479.here hx rfl (hb hby at_343) rfl k) ?_
          by_cases hc345_481 : r4 = (0 : Int32)
          · refine own_go (fun _ k => XS.ifYes X479.here hx rfl (pc0 := 345) (pc' := 359) rfl (hb hby at_345) rfl ((if0 _ _).trans (teq hc345_481).1) (by decide) (by decide) k) ?_
            refine own_go (fun _ k => XS.iload X479.here hx rfl (hb hby at_359) rfl k) ?_
            by_cases hc361_482 : r5 = (0 : Int32)
            · refine own_go (fun _ k => XS.ifYes X479.here hx rfl (pc0 := 361) (pc' := 379) rfl (hb hby at_361) rfl ((if0 _ _).trans (teq hc361_482).1) (by decide) (by decide) k) ?_
              show own_Run p e below _ T479 (mkF m 379 #[.val (.int p1), .val (.int p2), .val (.int p3), .val (.int p4), .val (.int p5), .val (.int p6), .val (.int x6), .val (.int x7), .val (.int x8), .val (.int x9), .val (.int x10), .val (.int x11), .val (.int x12), .val (.int x13), .val (.int x14), .val (.int x15), .val (.int x16), .val (.int x17), .val (.ref o18), .val (.int 2), .val (.int 3), .val (.int 4), .val (.int 5), .val (.ref o23), .val (.int r5), .val (.int r4), .val (.int r3), .val (.int r2), .unset, .unset] [])
              refine own_go (fun _ k => XS.iconst X479.here hx rfl (hb hby at_379) k) ?_
              refine own_go (fun _ k => XS.istore X479.here hx rfl (hb hby at_380) rfl (l' := #[.val (.int p1), .val (.int p2), .val (.int p3), .val (.int p4), .val (.int p5), .val (.int p6), .val (.int x6), .val (.int x7), .val (.int x8), .val (.int x9), .val (.int x10), .val (.int x11), .val (.int x12), .val (.int x13), .val (.int x14), .val (.int x15), .val (.int x16), .val (.int x17), .val (.ref o18), .val (.int 2), .val (.int 3), .val (.int 4), .val (.int 5), .val (.ref o23), .val (.int r5), .val (.int r4), .val (.int r3), .val (.int r2), .val (.int 0), .unset]) rfl k) ?_
              have hs483 : (0 : Int32) = (own_g1_2 x17 x7 x8 x10 x11 x12 x13 x15 x16) := by
                have hsp : (own_g1_2 x17 x7 x8 x10 x11 x12 x13 x15 x16) = own_st r2 x7 x8 1 (own_st r3 x10 x11 1 (own_st r4 x12 x13 1 (own_st r5 x15 x16 1 (if x17 = (1 : Int32) then 1 else 0)))) := by
                  rw [hr2, hr3, hr4, hr5]
                  rfl
                rw [hsp]
                rw [own_st0 _ _ _ _ _ hc313_461]
                rw [own_stN _ _ _ _ _ hc340_480]
                rw [own_st0 _ _ _ _ _ hc345_481]
                rw [own_st0 _ _ _ _ _ hc361_482]
                rw [if_neg hc308_459]
              exact lw1 p1 p2 p3 p4 p5 p6 h0 n0 hx hZ hw hby hml hown hnm hret hlk x6 x7 x8 x9 x10 x11 x12 x13 x14 x15 x16 x17 o18 o23 k23 nn vs r5 r4 r3 r2 (0 : Int32) T479 hh _ X479 e479 N479 Z0 K0 V_o23 (hvs) (hr5) (hr4) (hr3) (hr2) (hs483) 
            · refine own_go (fun _ k => XS.ifNo X479.here hx rfl (hb hby at_361) rfl ((if0 _ _).trans (feq hc361_482).1) k) ?_
              show own_Run p e below _ T479 (mkF m 364 #[.val (.int p1), .val (.int p2), .val (.int p3), .val (.int p4), .val (.int p5), .val (.int p6), .val (.int x6), .val (.int x7), .val (.int x8), .val (.int x9), .val (.int x10), .val (.int x11), .val (.int x12), .val (.int x13), .val (.int x14), .val (.int x15), .val (.int x16), .val (.int x17), .val (.ref o18), .val (.int 2), .val (.int 3), .val (.int 4), .val (.int 5), .val (.ref o23), .val (.int r5), .val (.int r4), .val (.int r3), .val (.int r2), .unset, .unset] [])
              refine own_go (fun _ k => XS.iload X479.here hx rfl (hb hby at_364) rfl k) ?_
              refine own_go (fun _ k => XS.iload X479.here hx rfl (hb hby at_366) rfl k) ?_
              refine own_go (fun _ k => XS.iconst X479.here hx rfl (hb hby at_368) k) ?_
              obtain ⟨_, _, ⟨T484, L484, k484, n484⟩, -, X484, ⟨Lc484, hQ484, l484, y484, z484⟩, st484⟩ := Jvm.LawKit.callS X479 hx (y := (⟨own_K1, "hits", "(III)Z"⟩ : MethodName)) hown (mvT hZ (W 42 rfl)) (mvT hZ (W 43 rfl)) (mvT hZ (W 40 rfl)) (mvT hZ (W 44 rfl)) (by decide) (backOf (W := 0) (rm7 l Z a0 hw [] x15 x16 (1 : Int32) (own_hit x15 x16 (1 : Int32)) hh n0 Z0 (own_hitP x15 x16 (1 : Int32))) hZ (W 44 rfl) (W 40 rfl) (by decide) (by decide)) (g := (mkF m 369 #[.val (.int p1), .val (.int p2), .val (.int p3), .val (.int p4), .val (.int p5), .val (.int p6), .val (.int x6), .val (.int x7), .val (.int x8), .val (.int x9), .val (.int x10), .val (.int x11), .val (.int x12), .val (.int x13), .val (.int x14), .val (.int x15), .val (.int x16), .val (.int x17), .val (.ref o18), .val (.int 2), .val (.int 3), .val (.int 4), .val (.int 5), .val (.ref o23), .val (.int r5), .val (.int r4), .val (.int r3), .val (.int r2), .unset, .unset] [(.int 1), (.int x16), (.int x15)])) rfl (by rw [hml]; rfl) (argsL := [(.int x15), (.int x16), (.int 1)]) (rest := []) (lenOf pd_3 rfl) rfl (by show 2 * 0 + _ ≤ _; exact Nat.le_of_eq rfl) (hb hby at_369) (fun _ _ => ⟨rfl, e479, (by decide : 6 + 0 ≤ _), (by decide : 5131 + 0 ≤ _)⟩)
              dsimp only [Pt.U, Pt.locs, Pt.cells, Pt.slots] at X484 l484 y484 z484 st484 hQ484
              subst l484 y484 z484
              obtain ⟨rfl, N484q, e484⟩ := hQ484
              have N484 := Fr.app N479 N484q
              refine own_go st484 ?_
              by_cases hc372_485 : (own_hit x15 x16 (1 : Int32)) = (0 : Int32)
              · refine own_go (fun _ k => XS.ifYes X484.here hx rfl (pc0 := 372) (pc' := 379) rfl (hb hby at_372) rfl ((if0 _ _).trans (teq hc372_485).1) (by decide) (by decide) k) ?_
                refine own_go (fun _ k => XS.iconst X484.here hx rfl (hb hby at_379) k) ?_
                refine own_go (fun _ k => XS.istore X484.here hx rfl (hb hby at_380) rfl (l' := #[.val (.int p1), .val (.int p2), .val (.int p3), .val (.int p4), .val (.int p5), .val (.int p6), .val (.int x6), .val (.int x7), .val (.int x8), .val (.int x9), .val (.int x10), .val (.int x11), .val (.int x12), .val (.int x13), .val (.int x14), .val (.int x15), .val (.int x16), .val (.int x17), .val (.ref o18), .val (.int 2), .val (.int 3), .val (.int 4), .val (.int 5), .val (.ref o23), .val (.int r5), .val (.int r4), .val (.int r3), .val (.int r2), .val (.int 0), .unset]) rfl k) ?_
                have hs486 : (0 : Int32) = (own_g1_2 x17 x7 x8 x10 x11 x12 x13 x15 x16) := by
                  have hsp : (own_g1_2 x17 x7 x8 x10 x11 x12 x13 x15 x16) = own_st r2 x7 x8 1 (own_st r3 x10 x11 1 (own_st r4 x12 x13 1 (own_st r5 x15 x16 1 (if x17 = (1 : Int32) then 1 else 0)))) := by
                    rw [hr2, hr3, hr4, hr5]
                    rfl
                  rw [hsp]
                  rw [own_st0 _ _ _ _ _ hc313_461]
                  rw [own_stN _ _ _ _ _ hc340_480]
                  rw [own_st0 _ _ _ _ _ hc345_481]
                  rw [own_stN _ _ _ _ _ hc372_485]
                  rw [if_neg hc308_459]
                exact lw1 p1 p2 p3 p4 p5 p6 h0 n0 hx hZ hw hby hml hown hnm hret hlk x6 x7 x8 x9 x10 x11 x12 x13 x14 x15 x16 x17 o18 o23 k23 nn vs r5 r4 r3 r2 (0 : Int32) T484 hh _ X484 e484 N484 Z0 K0 V_o23 (hvs) (hr5) (hr4) (hr3) (hr2) (hs486) 
              · refine own_go (fun _ k => XS.ifNo X484.here hx rfl (hb hby at_372) rfl ((if0 _ _).trans (feq hc372_485).1) k) ?_
                refine own_go (fun _ k => XS.iconst X484.here hx rfl (hb hby at_375) k) ?_
                refine own_go (fun _ k => XS.goto X484.here hx rfl (pc0 := 376) (pc' := 380) rfl (hb hby at_376) (by decide) (by decide) k) ?_
                refine own_go (fun _ k => XS.istore X484.here hx rfl (hb hby at_380) rfl (l' := #[.val (.int p1), .val (.int p2), .val (.int p3), .val (.int p4), .val (.int p5), .val (.int p6), .val (.int x6), .val (.int x7), .val (.int x8), .val (.int x9), .val (.int x10), .val (.int x11), .val (.int x12), .val (.int x13), .val (.int x14), .val (.int x15), .val (.int x16), .val (.int x17), .val (.ref o18), .val (.int 2), .val (.int 3), .val (.int 4), .val (.int 5), .val (.ref o23), .val (.int r5), .val (.int r4), .val (.int r3), .val (.int r2), .val (.int 1), .unset]) rfl k) ?_
                show own_Run p e below _ T484 (mkF m 382 #[.val (.int p1), .val (.int p2), .val (.int p3), .val (.int p4), .val (.int p5), .val (.int p6), .val (.int x6), .val (.int x7), .val (.int x8), .val (.int x9), .val (.int x10), .val (.int x11), .val (.int x12), .val (.int x13), .val (.int x14), .val (.int x15), .val (.int x16), .val (.int x17), .val (.ref o18), .val (.int 2), .val (.int 3), .val (.int 4), .val (.int 5), .val (.ref o23), .val (.int r5), .val (.int r4), .val (.int r3), .val (.int r2), .val (.int 1), .unset] [])
                have hs487 : (1 : Int32) = (own_g1_2 x17 x7 x8 x10 x11 x12 x13 x15 x16) := by
                  have hsp : (own_g1_2 x17 x7 x8 x10 x11 x12 x13 x15 x16) = own_st r2 x7 x8 1 (own_st r3 x10 x11 1 (own_st r4 x12 x13 1 (own_st r5 x15 x16 1 (if x17 = (1 : Int32) then 1 else 0)))) := by
                    rw [hr2, hr3, hr4, hr5]
                    rfl
                  rw [hsp]
                  rw [own_st0 _ _ _ _ _ hc313_461]
                  rw [own_stN _ _ _ _ _ hc340_480]
                  rw [own_st0 _ _ _ _ _ hc345_481]
                  rw [own_stY _ _ _ _ _ (by assumption) hc372_485]
                exact lw1 p1 p2 p3 p4 p5 p6 h0 n0 hx hZ hw hby hml hown hnm hret hlk x6 x7 x8 x9 x10 x11 x12 x13 x14 x15 x16 x17 o18 o23 k23 nn vs r5 r4 r3 r2 (1 : Int32) T484 hh _ X484 e484 N484 Z0 K0 V_o23 (hvs) (hr5) (hr4) (hr3) (hr2) (hs487) 
          · refine own_go (fun _ k => XS.ifNo X479.here hx rfl (hb hby at_345) rfl ((if0 _ _).trans (feq hc345_481).1) k) ?_
            refine own_go (fun _ k => XS.iload X479.here hx rfl (hb hby at_348) rfl k) ?_
            refine own_go (fun _ k => XS.iload X479.here hx rfl (hb hby at_350) rfl k) ?_
            show own_Run p e below _ T479 (mkF m 352 #[.val (.int p1), .val (.int p2), .val (.int p3), .val (.int p4), .val (.int p5), .val (.int p6), .val (.int x6), .val (.int x7), .val (.int x8), .val (.int x9), .val (.int x10), .val (.int x11), .val (.int x12), .val (.int x13), .val (.int x14), .val (.int x15), .val (.int x16), .val (.int x17), .val (.ref o18), .val (.int 2), .val (.int 3), .val (.int 4), .val (.int 5), .val (.ref o23), .val (.int r5), .val (.int r4), .val (.int r3), .val (.int r2), .unset, .unset] [(.int x13), (.int x12)])
            refine own_go (fun _ k => XS.iconst X479.here hx rfl (hb hby at_352) k) ?_
            obtain ⟨_, _, ⟨T488, L488, k488, n488⟩, -, X488, ⟨Lc488, hQ488, l488, y488, z488⟩, st488⟩ := Jvm.LawKit.callS X479 hx (y := (⟨own_K1, "hits", "(III)Z"⟩ : MethodName)) hown (mvT hZ (W 42 rfl)) (mvT hZ (W 43 rfl)) (mvT hZ (W 40 rfl)) (mvT hZ (W 44 rfl)) (by decide) (backOf (W := 0) (rm7 l Z a0 hw [] x12 x13 (1 : Int32) (own_hit x12 x13 (1 : Int32)) hh n0 Z0 (own_hitP x12 x13 (1 : Int32))) hZ (W 44 rfl) (W 40 rfl) (by decide) (by decide)) (g := (mkF m 353 #[.val (.int p1), .val (.int p2), .val (.int p3), .val (.int p4), .val (.int p5), .val (.int p6), .val (.int x6), .val (.int x7), .val (.int x8), .val (.int x9), .val (.int x10), .val (.int x11), .val (.int x12), .val (.int x13), .val (.int x14), .val (.int x15), .val (.int x16), .val (.int x17), .val (.ref o18), .val (.int 2), .val (.int 3), .val (.int 4), .val (.int 5), .val (.ref o23), .val (.int r5), .val (.int r4), .val (.int r3), .val (.int r2), .unset, .unset] [(.int 1), (.int x13), (.int x12)])) rfl (by rw [hml]; rfl) (argsL := [(.int x12), (.int x13), (.int 1)]) (rest := []) (lenOf pd_3 rfl) rfl (by show 2 * 0 + _ ≤ _; exact Nat.le_of_eq rfl) (hb hby at_353) (fun _ _ => ⟨rfl, e479, (by decide : 6 + 0 ≤ _), (by decide : 5131 + 0 ≤ _)⟩)
            dsimp only [Pt.U, Pt.locs, Pt.cells, Pt.slots] at X488 l488 y488 z488 st488 hQ488
            subst l488 y488 z488
            obtain ⟨rfl, N488q, e488⟩ := hQ488
            have N488 := Fr.app N479 N488q
            refine own_go st488 ?_
            by_cases hc356_489 : (own_hit x12 x13 (1 : Int32)) = (0 : Int32)
            · refine own_go (fun _ k => XS.ifNo X488.here hx rfl (hb hby at_356) rfl ((if0 _ _).trans (teq hc356_489).2) k) ?_
              refine own_go (fun _ k => XS.iload X488.here hx rfl (hb hby at_359) rfl k) ?_
              by_cases hc361_490 : r5 = (0 : Int32)
              · refine own_go (fun _ k => XS.ifYes X488.here hx rfl (pc0 := 361) (pc' := 379) rfl (hb hby at_361) rfl ((if0 _ _).trans (teq hc361_490).1) (by decide) (by decide) k) ?_
                refine own_go (fun _ k => XS.iconst X488.here hx rfl (hb hby at_379) k) ?_
                refine own_go (fun _ k => XS.istore X488.here hx rfl (hb hby at_380) rfl (l' := #[.val (.int p1), .val (.int p2), .val (.int p3), .val (.int p4), .val (.int p5), .val (.int p6), .val (.int x6), .val (.int x7), .val (.int x8), .val (.int x9), .val (.int x10), .val (.int x11), .val (.int x12), .val (.int x13), .val (.int x14), .val (.int x15), .val (.int x16), .val (.int x17), .val (.ref o18), .val (.int 2), .val (.int 3), .val (.int 4), .val (.int 5), .val (.ref o23), .val (.int r5), .val (.int r4), .val (.int r3), .val (.int r2), .val (.int 0), .unset]) rfl k) ?_
                have hs491 : (0 : Int32) = (own_g1_2 x17 x7 x8 x10 x11 x12 x13 x15 x16) := by
                  have hsp : (own_g1_2 x17 x7 x8 x10 x11 x12 x13 x15 x16) = own_st r2 x7 x8 1 (own_st r3 x10 x11 1 (own_st r4 x12 x13 1 (own_st r5 x15 x16 1 (if x17 = (1 : Int32) then 1 else 0)))) := by
                    rw [hr2, hr3, hr4, hr5]
                    rfl
                  rw [hsp]
                  rw [own_st0 _ _ _ _ _ hc313_461]
                  rw [own_stN _ _ _ _ _ hc340_480]
                  rw [own_stN _ _ _ _ _ hc356_489]
                  rw [own_st0 _ _ _ _ _ hc361_490]
                  rw [if_neg hc308_459]
                exact lw1 p1 p2 p3 p4 p5 p6 h0 n0 hx hZ hw hby hml hown hnm hret hlk x6 x7 x8 x9 x10 x11 x12 x13 x14 x15 x16 x17 o18 o23 k23 nn vs r5 r4 r3 r2 (0 : Int32) T488 hh _ X488 e488 N488 Z0 K0 V_o23 (hvs) (hr5) (hr4) (hr3) (hr2) (hs491) 
              · refine own_go (fun _ k => XS.ifNo X488.here hx rfl (hb hby at_361) rfl ((if0 _ _).trans (feq hc361_490).1) k) ?_
                refine own_go (fun _ k => XS.iload X488.here hx rfl (hb hby at_364) rfl k) ?_
                refine own_go (fun _ k => XS.iload X488.here hx rfl (hb hby at_366) rfl k) ?_
                refine own_go (fun _ k => XS.iconst X488.here hx rfl (hb hby at_368) k) ?_
                show own_Run p e below _ T488 (mkF m 369 #[.val (.int p1), .val (.int p2), .val (.int p3), .val (.int p4), .val (.int p5), .val (.int p6), .val (.int x6), .val (.int x7), .val (.int x8), .val (.int x9), .val (.int x10), .val (.int x11), .val (.int x12), .val (.int x13), .val (.int x14), .val (.int x15), .val (.int x16), .val (.int x17), .val (.ref o18), .val (.int 2), .val (.int 3), .val (.int 4), .val (.int 5), .val (.ref o23), .val (.int r5), .val (.int r4), .val (.int r3), .val (.int r2), .unset, .unset] [(.int 1), (.int x16), (.int x15)])
                obtain ⟨_, _, ⟨T492, L492, k492, n492⟩, -, X492, ⟨Lc492, hQ492, l492, y492, z492⟩, st492⟩ := Jvm.LawKit.callS X488 hx (y := (⟨own_K1, "hits", "(III)Z"⟩ : MethodName)) hown (mvT hZ (W 42 rfl)) (mvT hZ (W 43 rfl)) (mvT hZ (W 40 rfl)) (mvT hZ (W 44 rfl)) (by decide) (backOf (W := 0) (rm7 l Z a0 hw [] x15 x16 (1 : Int32) (own_hit x15 x16 (1 : Int32)) hh n0 Z0 (own_hitP x15 x16 (1 : Int32))) hZ (W 44 rfl) (W 40 rfl) (by decide) (by decide)) (g := (mkF m 369 #[.val (.int p1), .val (.int p2), .val (.int p3), .val (.int p4), .val (.int p5), .val (.int p6), .val (.int x6), .val (.int x7), .val (.int x8), .val (.int x9), .val (.int x10), .val (.int x11), .val (.int x12), .val (.int x13), .val (.int x14), .val (.int x15), .val (.int x16), .val (.int x17), .val (.ref o18), .val (.int 2), .val (.int 3), .val (.int 4), .val (.int 5), .val (.ref o23), .val (.int r5), .val (.int r4), .val (.int r3), .val (.int r2), .unset, .unset] [(.int 1), (.int x16), (.int x15)])) rfl (by rw [hml]; rfl) (argsL := [(.int x15), (.int x16), (.int 1)]) (rest := []) (lenOf pd_3 rfl) rfl (by show 2 * 0 + _ ≤ _; exact Nat.le_of_eq rfl) (hb hby at_369) (fun _ _ => ⟨rfl, e488, (by decide : 6 + 0 ≤ _), (by decide : 5131 + 0 ≤ _)⟩)
                dsimp only [Pt.U, Pt.locs, Pt.cells, Pt.slots] at X492 l492 y492 z492 st492 hQ492
                subst l492 y492 z492
                obtain ⟨rfl, N492q, e492⟩ := hQ492
                have N492 := Fr.app N488 N492q
                refine own_go st492 ?_
                by_cases hc372_493 : (own_hit x15 x16 (1 : Int32)) = (0 : Int32)
                · refine own_go (fun _ k => XS.ifYes X492.here hx rfl (pc0 := 372) (pc' := 379) rfl (hb hby at_372) rfl ((if0 _ _).trans (teq hc372_493).1) (by decide) (by decide) k) ?_
                  refine own_go (fun _ k => XS.iconst X492.here hx rfl (hb hby at_379) k) ?_
                  refine own_go (fun _ k => XS.istore X492.here hx rfl (hb hby at_380) rfl (l' := #[.val (.int p1), .val (.int p2), .val (.int p3), .val (.int p4), .val (.int p5), .val (.int p6), .val (.int x6), .val (.int x7), .val (.int x8), .val (.int x9), .val (.int x10), .val (.int x11), .val (.int x12), .val (.int x13), .val (.int x14), .val (.int x15), .val (.int x16), .val (.int x17), .val (.ref o18), .val (.int 2), .val (.int 3), .val (.int 4), .val (.int 5), .val (.ref o23), .val (.int r5), .val (.int r4), .val (.int r3), .val (.int r2), .val (.int 0), .unset]) rfl k) ?_
                  have hs494 : (0 : Int32) = (own_g1_2 x17 x7 x8 x10 x11 x12 x13 x15 x16) := by
                    have hsp : (own_g1_2 x17 x7 x8 x10 x11 x12 x13 x15 x16) = own_st r2 x7 x8 1 (own_st r3 x10 x11 1 (own_st r4 x12 x13 1 (own_st r5 x15 x16 1 (if x17 = (1 : Int32) then 1 else 0)))) := by
                      rw [hr2, hr3, hr4, hr5]
                      rfl
                    rw [hsp]
                    rw [own_st0 _ _ _ _ _ hc313_461]
                    rw [own_stN _ _ _ _ _ hc340_480]
                    rw [own_stN _ _ _ _ _ hc356_489]
                    rw [own_stN _ _ _ _ _ hc372_493]
                    rw [if_neg hc308_459]
                  exact lw1 p1 p2 p3 p4 p5 p6 h0 n0 hx hZ hw hby hml hown hnm hret hlk x6 x7 x8 x9 x10 x11 x12 x13 x14 x15 x16 x17 o18 o23 k23 nn vs r5 r4 r3 r2 (0 : Int32) T492 hh _ X492 e492 N492 Z0 K0 V_o23 (hvs) (hr5) (hr4) (hr3) (hr2) (hs494) 
                · refine own_go (fun _ k => XS.ifNo X492.here hx rfl (hb hby at_372) rfl ((if0 _ _).trans (feq hc372_493).1) k) ?_
                  refine own_go (fun _ k => XS.iconst X492.here hx rfl (hb hby at_375) k) ?_
                  refine own_go (fun _ k => XS.goto X492.here hx rfl (pc0 := 376) (pc' := 380) rfl (hb hby at_376) (by decide) (by decide) k) ?_
                  refine own_go (fun _ k => XS.istore X492.here hx rfl (hb hby at_380) rfl (l' := #[.val (.int p1), .val (.int p2), .val (.int p3), .val (.int p4), .val (.int p5), .val (.int p6), .val (.int x6), .val (.int x7), .val (.int x8), .val (.int x9), .val (.int x10), .val (.int x11), .val (.int x12), .val (.int x13), .val (.int x14), .val (.int x15), .val (.int x16), .val (.int x17), .val (.ref o18), .val (.int 2), .val (.int 3), .val (.int 4), .val (.int 5), .val (.ref o23), .val (.int r5), .val (.int r4), .val (.int r3), .val (.int r2), .val (.int 1), .unset]) rfl k) ?_
                  have hs495 : (1 : Int32) = (own_g1_2 x17 x7 x8 x10 x11 x12 x13 x15 x16) := by
                    have hsp : (own_g1_2 x17 x7 x8 x10 x11 x12 x13 x15 x16) = own_st r2 x7 x8 1 (own_st r3 x10 x11 1 (own_st r4 x12 x13 1 (own_st r5 x15 x16 1 (if x17 = (1 : Int32) then 1 else 0)))) := by
                      rw [hr2, hr3, hr4, hr5]
                      rfl
                    rw [hsp]
                    rw [own_st0 _ _ _ _ _ hc313_461]
                    rw [own_stN _ _ _ _ _ hc340_480]
                    rw [own_stN _ _ _ _ _ hc356_489]
                    rw [own_stY _ _ _ _ _ (by assumption) hc372_493]
                  exact lw1 p1 p2 p3 p4 p5 p6 h0 n0 hx hZ hw hby hml hown hnm hret hlk x6 x7 x8 x9 x10 x11 x12 x13 x14 x15 x16 x17 o18 o23 k23 nn vs r5 r4 r3 r2 (1 : Int32) T492 hh _ X492 e492 N492 Z0 K0 V_o23 (hvs) (hr5) (hr4) (hr3) (hr2) (hs495) 
            · refine own_go (fun _ k => XS.ifYes X488.here hx rfl (pc0 := 356) (pc' := 375) rfl (hb hby at_356) rfl ((if0 _ _).trans (feq hc356_489).2) (by decide) (by decide) k) ?_
              refine own_go (fun _ k => XS.iconst X488.here hx rfl (hb hby at_375) k) ?_
              refine own_go (fun _ k => XS.goto X488.here hx rfl (pc0 := 376) (pc' := 380) rfl (hb hby at_376) (by decide) (by decide) k) ?_
              refine own_go (fun _ k => XS.istore X488.here hx rfl (hb hby at_380) rfl (l' := #[.val (.int p1), .val (.int p2), .val (.int p3), .val (.int p4), .val (.int p5), .val (.int p6), .val (.int x6), .val (.int x7), .val (.int x8), .val (.int x9), .val (.int x10), .val (.int x11), .val (.int x12), .val (.int x13), .val (.int x14), .val (.int x15), .val (.int x16), .val (.int x17), .val (.ref o18), .val (.int 2), .val (.int 3), .val (.int 4), .val (.int 5), .val (.ref o23), .val (.int r5), .val (.int r4), .val (.int r3), .val (.int r2), .val (.int 1), .unset]) rfl k) ?_
              have hs496 : (1 : Int32) = (own_g1_2 x17 x7 x8 x10 x11 x12 x13 x15 x16) := by
                have hsp : (own_g1_2 x17 x7 x8 x10 x11 x12 x13 x15 x16) = own_st r2 x7 x8 1 (own_st r3 x10 x11 1 (own_st r4 x12 x13 1 (own_st r5 x15 x16 1 (if x17 = (1 : Int32) then 1 else 0)))) := by
                  rw [hr2, hr3, hr4, hr5]
                  rfl
                rw [hsp]
                rw [own_st0 _ _ _ _ _ hc313_461]
                rw [own_stN _ _ _ _ _ hc340_480]
                rw [own_stY _ _ _ _ _ (by assumption) hc356_489]
              exact lw1 p1 p2 p3 p4 p5 p6 h0 n0 hx hZ hw hby hml hown hnm hret hlk x6 x7 x8 x9 x10 x11 x12 x13 x14 x15 x16 x17 o18 o23 k23 nn vs r5 r4 r3 r2 (1 : Int32) T488 hh _ X488 e488 N488 Z0 K0 V_o23 (hvs) (hr5) (hr4) (hr3) (hr2) (hs496) 
        · refine own_go (fun _ k => XS.ifYes X479.here hx rfl (pc0 := 340) (pc' := 375) rfl (hb hby at_340) rfl ((if0 _ _).trans (feq hc340_480).2) (by decide) (by decide) k) ?_
          refine own_go (fun _ k => XS.iconst X479.here hx rfl (hb hby at_375) k) ?_
          refine own_go (fun _ k => XS.goto X479.here hx rfl (pc0 := 376) (pc' := 380) rfl (hb hby at_376) (by decide) (by decide) k) ?_
          refine own_go (fun _ k => XS.istore X479.here hx rfl (hb hby at_380) rfl (l' := #[.val (.int p1), .val (.int p2), .val (.int p3), .val (.int p4), .val (.int p5), .val (.int p6), .val (.int x6), .val (.int x7), .val (.int x8), .val (.int x9), .val (.int x10), .val (.int x11), .val (.int x12), .val (.int x13), .val (.int x14), .val (.int x15), .val (.int x16), .val (.int x17), .val (.ref o18), .val (.int 2), .val (.int 3), .val (.int 4), .val (.int 5), .val (.ref o23), .val (.int r5), .val (.int r4), .val (.int r3), .val (.int r2), .val (.int 1), .unset]) rfl k) ?_
          have hs497 : (1 : Int32) = (own_g1_2 x17 x7 x8 x10 x11 x12 x13 x15 x16) := by
            have hsp : (own_g1_2 x17 x7 x8 x10 x11 x12 x13 x15 x16) = own_st r2 x7 x8 1 (own_st r3 x10 x11 1 (own_st r4 x12 x13 1 (own_st r5 x15 x16 1 (if x17 = (1 : Int32) then 1 else 0)))) := by
              rw [hr2, hr3, hr4, hr5]
              rfl
            rw [hsp]
            rw [own_st0 _ _ _ _ _ hc313_461]
            rw [own_stY _ _ _ _ _ (by assumption) hc340_480]
          exact lw1 p1 p2 p3 p4 p5 p6 h0 n0 hx hZ hw hby hml hown hnm hret hlk x6 x7 x8 x9 x10 x11 x12 x13 x14 x15 x16 x17 o18 o23 k23 nn vs r5 r4 r3 r2 (1 : Int32) T479 hh _ X479 e479 N479 Z0 K0 V_o23 (hvs) (hr5) (hr4) (hr3) (hr2) (hs497) 
    · refine own_go (fun _ k => XS.ifNo X0.here hx rfl (hb hby at_313) rfl ((if0 _ _).trans (feq hc313_461).1) k) ?_
      refine own_go (fun _ k => XS.iload X0.here hx rfl (hb hby at_316) rfl k) ?_
      refine own_go (fun _ k => XS.iload X0.here hx rfl (hb hby at_318) rfl k) ?_
      refine own_go (fun _ k => XS.iconst X0.here hx rfl (hb hby at_320) k) ?_
      show own_Run p e below _ T0 (mkF m 321 #[.val (.int p1), .val (.int p2), .val (.int p3), .val (.int p4), .val (.int p5), .val (.int p6), .val (.int x6), .val (.int x7), .val (.int x8), .val (.int x9), .val (.int x10), .val (.int x11), .val (.int x12), .val (.int x13), .val (.int x14), .val (.int x15), .val (.int x16), .val (.int x17), .val (.ref o18), .val (.int 2), .val (.int 3), .val (.int 4), .val (.int 5), .val (.ref o23), .val (.int r5), .val (.int r4), .val (.int r3), .val (.int r2), .unset, .unset] [(.int 1), (.int x8), (.int x7)])
      obtain ⟨_, _, ⟨T498, L498, k498, n498⟩, -, X498, ⟨Lc498, hQ498, l498, y498, z498⟩, st498⟩ := Jvm.LawKit.callS X0 hx (y := (⟨own_K1, "hits", "(III)Z"⟩ : MethodName)) hown (mvT hZ (W 42 rfl)) (mvT hZ (W 43 rfl)) (mvT hZ (W 40 rfl)) (mvT hZ (W 44 rfl)) (by decide) (backOf (W := 0) (rm7 l Z a0 hw [] x7 x8 (1 : Int32) (own_hit x7 x8 (1 : Int32)) hh n0 Z0 (own_hitP x7 x8 (1 : Int32))) hZ (W 44 rfl) (W 40 rfl) (by decide) (by decide)) (g := (mkF m 321 #[.val (.int p1), .val (.int p2), .val (.int p3), .val (.int p4), .val (.int p5), .val (.int p6), .val (.int x6), .val (.int x7), .val (.int x8), .val (.int x9), .val (.int x10), .val (.int x11), .val (.int x12), .val (.int x13), .val (.int x14), .val (.int x15), .val (.int x16), .val (.int x17), .val (.ref o18), .val (.int 2), .val (.int 3), .val (.int 4), .val (.int 5), .val (.ref o23), .val (.int r5), .val (.int r4), .val (.int r3), .val (.int r2), .unset, .unset] [(.int 1), (.int x8), (.int x7)])) rfl (by rw [hml]; rfl) (argsL := [(.int x7), (.int x8), (.int 1)]) (rest := []) (lenOf pd_3 rfl) rfl (by show 2 * 0 + _ ≤ _; exact Nat.le_of_eq rfl) (hb hby at_321) (fun _ _ => ⟨rfl, e0, (by decide : 6 + 0 ≤ _), (by decide : 5131 + 0 ≤ _)⟩)
      dsimp only [Pt.U, Pt.locs, Pt.cells, Pt.slots] at X498 l498 y498 z498 st498 hQ498
      subst l498 y498 z498
      obtain ⟨rfl, N498q, e498⟩ := hQ498
      have N498 := Fr.app N0 N498q
      refine own_go st498 ?_
      by_cases hc324_499 : (own_hit x7 x8 (1 : Int32)) = (0 : Int32)
      · refine own_go (fun _ k => XS.ifNo X498.here hx rfl (hb hby at_324) rfl ((if0 _ _).trans (teq hc324_499).2) k) ?_
        refine own_go (fun _ k => XS.iload X498.here hx rfl (hb hby at_327) rfl k) ?_
        by_cases hc329_500 : r3 = (0 : Int32)
        · refine own_go (fun _ k => XS.ifYes X498.here hx rfl (pc0 := 329) (pc' := 343) rfl (hb hby at_329) rfl ((if0 _ _).trans (teq hc329_500).1) (by decide) (by decide) k) ?_
          refine own_go (fun _ k => XS.iload X498.here hx rfl (hb hby at_343) rfl k) ?_
          by_cases hc345_501 : r4 = (0 : Int32)
          · refine own_go (fun _ k => XS.ifYes X498.here hx rfl (pc0 := 345) (pc' := 359) rfl (hb hby at_345) rfl ((if0 _ _).trans (teq hc345_501).1) (by decide) (by decide) k) ?_
            refine own_go (fun _ k => XS.iload X498.here hx rfl (hb hby at_359) rfl k) ?_
            by_cases hc361_502 : r5 = (0 : Int32)
            · refine own_go (fun _ k => XS.ifYes X498.here hx rfl (pc0 := 361) (pc' := 379) rfl (hb hby at_361) rfl ((if0 _ _).trans (teq hc361_502).1) (by decide) (by decide) k) ?_
              show own_Run p e below _ T498 (mkF m 379 #[.val (.int p1), .val (.int p2), .val (.int p3), .val (.int p4), .val (.int p5), .val (.int p6), .val (.int x6), .val (.int x7), .val (.int x8), .val (.int x9), .val (.int x10), .val (.int x11), .val (.int x12), .val (.int x13), .val (.int x14), .val (.int x15), .val (.int x16), .val (.int x17), .val (.ref o18), .val (.int 2), .val (.int 3), .val (.int 4), .val (.int 5), .val (.ref o23), .val (.int r5), .val (.int r4), .val (.int r3), .val (.int r2), .unset, .unset] [])
              refine own_go (fun _ k => XS.iconst X498.here hx rfl (hb hby at_379) k) ?_
              refine own_go (fun _ k => XS.istore X498.here hx rfl (hb hby at_380) rfl (l' := #[.val (.int p1), .val (.int p2), .val (.int p3), .val (.int p4), .val (.int p5), .val (.int p6), .val (.int x6), .val (.int x7), .val (.int x8), .val (.int x9), .val (.int x10), .val (.int x11), .val (.int x12), .val (.int x13), .val (.int x14), .val (.int x15), .val (.int x16), .val (.int x17), .val (.ref o18), .val (.int 2), .val (.int 3), .val (.int 4), .val (.int 5), .val (.ref o23), .val (.int r5), .val (.int r4), .val (.int r3), .val (.int r2), .val (.int 0), .unset]) rfl k) ?_
              have hs503 : (0 : Int32) = (own_g1_2 x17 x7 x8 x10 x11 x12 x13 x15 x16) := by
                have hsp : (own_g1_2 x17 x7 x8 x10 x11 x12 x13 x15 x16) = own_st r2 x7 x8 1 (own_st r3 x10 x11 1 (own_st r4 x12 x13 1 (own_st r5 x15 x16 1 (if x17 = (1 : Int32) then 1 else 0)))) := by
                  rw [hr2, hr3, hr4, hr5]
                  rfl
                rw [hsp]
                rw [own_stN _ _ _ _ _ hc324_499]
                rw [own_st0 _ _ _ _ _ hc329_500]
                rw [own_st0 _ _ _ _ _ hc345_501]
                rw [own_st0 _ _ _ _ _ hc361_502]
                rw [if_neg hc308_459]
              exact lw1 p1 p2 p3 p4 p5 p6 h0 n0 hx hZ hw hby hml hown hnm hret hlk x6 x7 x8 x9 x10 x11 x12 x13 x14 x15 x16 x17 o18 o23 k23 nn vs r5 r4 r3 r2 (0 : Int32) T498 hh _ X498 e498 N498 Z0 K0 V_o23 (hvs) (hr5) (hr4) (hr3) (hr2) (hs503) 
            · refine own_go (fun _ k => XS.ifNo X498.here hx rfl (hb hby at_361) rfl ((if0 _ _).trans (feq hc361_502).1) k) ?_
              show own_Run p e below _ T498 (mkF m 364 #[.val (.int p1), .val (.int p2), .val (.int p3), .val (.int p4), .val (.int p5), .val (.int p6), .val (.int x6), .val (.int x7), .val (.int x8), .val (.int x9), .val (.int x10), .val (.int x11), .val (.int x12), .val (.int x13), .val (.int x14), .val (.int x15), .val (.int x16), .val (.int x17), .val (.ref o18), .val (.int 2), .val (.int 3), .val (.int 4), .val (.int 5), .val (.ref o23), .val (.int r5), .val (.int r4), .val (.int r3), .val (.int r2), .unset, .unset] [])
              refine own_go (fun _ k => XS.iload X498.here hx rfl (hb hby at_364) rfl k) ?_
              refine own_go (fun _ k => XS.iload X498.here hx rfl (hb hby at_366) rfl k) ?_
              refine own_go (fun _ k => XS.iconst X498.here hx rfl (hb hby at_368) k) ?_
              obtain ⟨_, _, ⟨T504, L504, k504, n504⟩, -, X504, ⟨Lc504, hQ504, l504, y504, z504⟩, st504⟩ := Jvm.LawKit.callS X498 hx (y := (⟨own_K1, "hits", "(III)Z"⟩ : MethodName)) hown (mvT hZ (W 42 rfl)) (mvT hZ (W 43 rfl)) (mvT hZ (W 40 rfl)) (mvT hZ (W 44 rfl)) (by decide) (backOf (W := 0) (rm7 l Z a0 hw [] x15 x16 (1 : Int32) (own_hit x15 x16 (1 : Int32)) hh n0 Z0 (own_hitP x15 x16 (1 : Int32))) hZ (W 44 rfl) (W 40 rfl) (by decide) (by decide)) (g := (mkF m 369 #[.val (.int p1), .val (.int p2), .val (.int p3), .val (.int p4), .val (.int p5), .val (.int p6), .val (.int x6), .val (.int x7), .val (.int x8), .val (.int x9), .val (.int x10), .val (.int x11), .val (.int x12), .val (.int x13), .val (.int x14), .val (.int x15), .val (.int x16), .val (.int x17), .val (.ref o18), .val (.int 2), .val (.int 3), .val (.int 4), .val (.int 5), .val (.ref o23), .val (.int r5), .val (.int r4), .val (.int r3), .val (.int r2), .unset, .unset] [(.int 1), (.int x16), (.int x15)])) rfl (by rw [hml]; rfl) (argsL := [(.int x15), (.int x16), (.int 1)]) (rest := []) (lenOf pd_3 rfl) rfl (by show 2 * 0 + _ ≤ _; exact Nat.le_of_eq rfl) (hb hby at_369) (fun _ _ => ⟨rfl, e498, (by decide : 6 + 0 ≤ _), (by decide : 5131 + 0 ≤ _)⟩)
              dsimp only [Pt.U, Pt.locs, Pt.cells, Pt.slots] at X504 l504 y504 z504 st504 hQ504
              subst l504 y504 z504
              obtain ⟨rfl, N504q, e504⟩ := hQ504
              have N504 := Fr.app N498 N504q
              refine own_go st504 ?_
              by_cases hc372_505 : (own_hit x15 x16 (1 : Int32)) = (0 : Int32)
              · refine own_go (fun _ k => XS.ifYes X504.here hx rfl (pc0 := 372) (pc' := 379) rfl (hb hby at_372) rfl ((if0 _ _).trans (teq hc372_505).1) (by decide) (by decide) k) ?_
                refine own_go (fun _ k => XS.iconst X504.here hx rfl (hb hby at_379) k) ?_
                refine own_go (fun _ k => XS.istore X504.here hx rfl (hb hby at_380) rfl (l' := #[.val (.int p1), .val (.int p2), .val (.int p3), .val (.int p4), .val (.int p5), .val (.int p6), .val (.int x6), .val (.int x7), .val (.int x8), .val (.int x9), .val (.int x10), .val (.int x11), .val (.int x12), .val (.int x13), .val (.int x14), .val (.int x15), .val (.int x16), .val (.int x17), .val (.ref o18), .val (.int 2), .val (.int 3), .val (.int 4), .val (.int 5), .val (.ref o23), .val (.int r5), .val (.int r4), .val (.int r3), .val (.int r2), .val (.int 0), .unset]) rfl k) ?_
                have hs506 : (0 : Int32) = (own_g1_2 x17 x7 x8 x10 x11 x12 x13 x15 x16) := by
                  have hsp : (own_g1_2 x17 x7 x8 x10 x11 x12 x13 x15 x16) = own_st r2 x7 x8 1 (own_st r3 x10 x11 1 (own_st r4 x12 x13 1 (own_st r5 x15 x16 1 (if x17 = (1 : Int32) then 1 else 0)))) := by
                    rw [hr2, hr3, hr4, hr5]
                    rfl
                  rw [hsp]
                  rw [own_stN _ _ _ _ _ hc324_499]
                  rw [own_st0 _ _ _ _ _ hc329_500]
                  rw [own_st0 _ _ _ _ _ hc345_501]
                  rw [own_stN _ _ _ _ _ hc372_505]
                  rw [if_neg hc308_459]
                exact lw1 p1 p2 p3 p4 p5 p6 h0 n0 hx hZ hw hby hml hown hnm hret hlk x6 x7 x8 x9 x10 x11 x12 x13 x14 x15 x16 x17 o18 o23 k23 nn vs r5 r4 r3 r2 (0 : Int32) T504 hh _ X504 e504 N504 Z0 K0 V_o23 (hvs) (hr5) (hr4) (hr3) (hr2) (hs506) 
              · refine own_go (fun _ k => XS.ifNo X504.here hx rfl (hb hby at_372) rfl ((if0 _ _).trans (feq hc372_505).1) k) ?_
                refine own_go (fun _ k => XS.iconst X504.here hx rfl (hb hby at_375) k) ?_
                refine own_go (fun _ k => XS.goto X504.here hx rfl (pc0 := 376) (pc' := 380) rfl (hb hby at_376) (by decide) (by decide) k) ?_
                refine own_go (fun _ k => XS.istore X504.here hx rfl (hb hby at_380) rfl (l' := #[.val (.int p1), .val (.int p2), .val (.int p3), .val (.int p4), .val (.int p5), .val (.int p6), .val (.int x6), .val (.int x7), .val (.int x8), .val (.int x9), .val (.int x10), .val (.int x11), .val (.int x12), .val (.int x13), .val (.int x14), .val (.int x15), .val (.int x16), .val (.int x17), .val (.ref o18), .val (.int 2), .val (.int 3), .val (.int 4), .val (.int 5), .val (.ref o23), .val (.int r5), .val (.int r4), .val (.int r3), .val (.int r2), .val (.int 1), .unset]) rfl k) ?_
                show own_Run p e below _ T504 (mkF m 382 #[.val (.int p1), .val (.int p2), .val (.int p3), .val (.int p4), .val (.int p5), .val (.int p6), .val (.int x6), .val (.int x7), .val (.int x8), .val (.int x9), .val (.int x10), .val (.int x11), .val (.int x12), .val (.int x13), .val (.int x14), .val (.int x15), .val (.int x16), .val (.int x17), .val (.ref o18), .val (.int 2), .val (.int 3), .val (.int 4), .val (.int 5), .val (.ref o23), .val (.int r5), .val (.int r4), .val (.int r3), .val (.int r2), .val (.int 1), .unset] [])
                have hs507 : (1 : Int32) = (own_g1_2 x17 x7 x8 x10 x11 x12 x13 x15 x16) := by
                  have hsp : (own_g1_2 x17 x7 x8 x10 x11 x12 x13 x15 x16) = own_st r2 x7 x8 1 (own_st r3 x10 x11 1 (own_st r4 x12 x13 1 (own_st r5 x15 x16 1 (if x17 = (1 : Int32) then 1 else 0)))) := by
                    rw [hr2, hr3, hr4, hr5]
                    rfl
                  rw [hsp]
                  rw [own_stN _ _ _ _ _ hc324_499]
                  rw [own_st0 _ _ _ _ _ hc329_500]
                  rw [own_st0 _ _ _ _ _ hc345_501]
                  rw [own_stY _ _ _ _ _ (by assumption) hc372_505]
                exact lw1 p1 p2 p3 p4 p5 p6 h0 n0 hx hZ hw hby hml hown hnm hret hlk x6 x7 x8 x9 x10 x11 x12 x13 x14 x15 x16 x17 o18 o23 k23 nn vs r5 r4 r3 r2 (1 : Int32) T504 hh _ X504 e504 N504 Z0 K0 V_o23 (hvs) (hr5) (hr4) (hr3) (hr2) (hs507) 
          · refine own_go (fun _ k => XS.ifNo X498.here hx rfl (hb hby at_345) rfl ((if0 _ _).trans (feq hc345_501).1) k) ?_
            refine own_go (fun _ k => XS.iload X498.here hx rfl (hb hby at_348) rfl k) ?_
            refine own_go (fun _ k => XS.iload X498.here hx rfl (hb hby at_350) rfl k) ?_
            show own_Run p e below _ T498 (mkF m 352 #[.val (.int p1), .val (.int p2), .val (.int p3), .val (.int p4), .val (.int p5), .val (.int p6), .val (.int x6), .val (.int x7), .val (.int x8), .val (.int x9), .val (.int x10), .val (.int x11), .val (.int x12), .val (.int x13), .val (.int x14), .val (.int x15), .val (.int x16), .val (.int x17), .val (.ref o18), .val (.int 2), .val (.int 3), .val (.int 4), .val (.int 5), .val (.ref o23), .val (.int r5), .val (.int r4), .val (.int r3), .val (.int r2), .unset, .unset] [(.int x13), (.int x12)])
            refine own_go (fun _ k => XS.iconst X498.here hx rfl (hb hby at_352) k) ?_
            obtain ⟨_, _, ⟨T508, L508, k508, n508⟩, -, X508, ⟨Lc508, hQ508, l508, y508, z508⟩, st508⟩ := Jvm.LawKit.callS X498 hx (y := (⟨own_K1, "hits", "(III)Z"⟩ : MethodName)) hown (mvT hZ (W 42 rfl)) (mvT hZ (W 43 rfl)) (mvT hZ (W 40 rfl)) (mvT hZ (W 44 rfl)) (by decide) (backOf (W := 0) (rm7 l Z a0 hw [] x12 x13 (1 : Int32) (own_hit x12 x13 (1 : Int32)) hh n0 Z0 (own_hitP x12 x13 (1 : Int32))) hZ (W 44 rfl) (W 40 rfl) (by decide) (by decide)) (g := (mkF m 353 #[.val (.int p1), .val (.int p2), .val (.int p3), .val (.int p4), .val (.int p5), .val (.int p6), .val (.int x6), .val (.int x7), .val (.int x8), .val (.int x9), .val (.int x10), .val (.int x11), .val (.int x12), .val (.int x13), .val (.int x14), .val (.int x15), .val (.int x16), .val (.int x17), .val (.ref o18), .val (.int 2), .val (.int 3), .val (.int 4), .val (.int 5), .val (.ref o23), .val (.int r5), .val (.int r4), .val (.int r3), .val (.int r2), .unset, .unset] [(.int 1), (.int x13), (.int x12)])) rfl (by rw [hml]; rfl) (argsL := [(.int x12), (.int x13), (.int 1)]) (rest := []) (lenOf pd_3 rfl) rfl (by show 2 * 0 + _ ≤ _; exact Nat.le_of_eq rfl) (hb hby at_353) (fun _ _ => ⟨rfl, e498, (by decide : 6 + 0 ≤ _), (by decide : 5131 + 0 ≤ _)⟩)
            dsimp only [Pt.U, Pt.locs, Pt.cells, Pt.slots] at X508 l508 y508 z508 st508 hQ508
            subst l508 y508 z508
            obtain ⟨rfl, N508q, e508⟩ := hQ508
            have N508 := Fr.app N498 N508q
            refine own_go st508 ?_
            by_cases hc356_509 : (own_hit x12 x13 (1 : Int32)) = (0 : Int32)
            · refine own_go (fun _ k => XS.ifNo X508.here hx rfl (hb hby at_356) rfl ((if0 _ _).trans (teq hc356_509).2) k) ?_
              refine own_go (fun _ k => XS.iload X508.here hx rfl (hb hby at_359) rfl k) ?_
              by_cases hc361_510 : r5 = (0 : Int32)
              · refine own_go (fun _ k => XS.ifYes X508.here hx rfl (pc0 := 361) (pc' := 379) rfl (hb hby at_361) rfl ((if0 _ _).trans (teq hc361_510).1) (by decide) (by decide) k) ?_
                refine own_go (fun _ k => XS.iconst X508.here hx rfl (hb hby at_379) k) ?_
                refine own_go (fun _ k => XS.istore X508.here hx rfl (hb hby at_380) rfl (l' := #[.val (.int p1), .val (.int p2), .val (.int p3), .val (.int p4), .val (.int p5), .val (.int p6), .val (.int x6), .val (.int x7), .val (.int x8), .val (.int x9), .val (.int x10), .val (.int x11), .val (.int x12), .val (.int x13), .val (.int x14), .val (.int x15), .val (.int x16), .val (.int x17), .val (.ref o18), .val (.int 2), .val (.int 3), .val (.int 4), .val (.int 5), .val (.ref o23), .val (.int r5), .val (.int r4), .val (.int r3), .val (.int r2), .val (.int 0), .unset]) rfl k) ?_
                have hs511 : (0 : Int32) = (own_g1_2 x17 x7 x8 x10 x11 x12 x13 x15 x16) := by
                  have hsp : (own_g1_2 x17 x7 x8 x10 x11 x12 x13 x15 x16) = own_st r2 x7 x8 1 (own_st r3 x10 x11 1 (own_st r4 x12 x13 1 (own_st r5 x15 x16 1 (if x17 = (1 : Int32) then 1 else 0)))) := by
                    rw [hr2, hr3, hr4, hr5]
                    rfl
                  rw [hsp]
                  rw [own_stN _ _ _ _ _ hc324_499]
                  rw [own_st0 _ _ _ _ _ hc329_500]
                  rw [own_stN _ _ _ _ _ hc356_509]
                  rw [own_st0 _ _ _ _ _ hc361_510]
                  rw [if_neg hc308_459]
                exact lw1 p1 p2 p3 p4 p5 p6 h0 n0 hx hZ hw hby hml hown hnm hret hlk x6 x7 x8 x9 x10 x11 x12 x13 x14 x15 x16 x17 o18 o23 k23 nn vs r5 r4 r3 r2 (0 : Int32) T508 hh _ X508 e508 N508 Z0 K0 V_o23 (hvs) (hr5) (hr4) (hr3) (hr2) (hs511) 
              · refine own_go (fun _ k => XS.ifNo X508.here hx rfl (hb hby at_361) rfl ((if0 _ _).trans (feq hc361_510).1) k) ?_
                refine own_go (fun _ k => XS.iload X508.here hx rfl (hb hby at_364) rfl k) ?_
                refine own_go (fun _ k => XS.iload X508.here hx rfl (hb hby at_366) rfl k) ?_
                refine own_go (fun _ k => XS.iconst X508.here hx rfl (hb hby at_368) k) ?_
                show own_Run p e below _ T508 (mkF m 369 #[.val (.int p1), .val (.int p2), .val (.int p3), .val (.int p4), .val (.int p5), .val (.int p6), .val (.int x6), .val (.int x7), .val (.int x8), .val (.int x9), .val (.int x10), .val (.int x11), .val (.int x12), .val (.int x13), .val (.int x14), .val (.int x15), .val (.int x16), .val (.int x17), .val (.ref o18), .val (.int 2), .val (.int 3), .val (.int 4), .val (.int 5), .val (.ref o23), .val (.int r5), .val (.int r4), .val (.int r3), .val (.int r2), .unset, .unset] [(.int 1), (.int x16), (.int x15)])
                obtain ⟨_, _, ⟨T512, L512, k512, n512⟩, -, X512, ⟨Lc512, hQ512, l512, y512, z512⟩, st512⟩ := Jvm.LawKit.callS X508 hx (y := (⟨own_K1, "hits", "(III)Z"⟩ : MethodName)) hown (mvT hZ (W 42 rfl)) (mvT hZ (W 43 rfl)) (mvT hZ (W 40 rfl)) (mvT hZ (W 44 rfl)) (by decide) (backOf (W := 0) (rm7 l Z a0 hw [] x15 x16 (1 : Int32) (own_hit x15 x16 (1 : Int32)) hh n0 Z0 (own_hitP x15 x16 (1 : Int32))) hZ (W 44 rfl) (W 40 rfl) (by decide) (by decide)) (g := (mkF m 369 #[.val (.int p1), .val (.int p2), .val (.int p3), .val (.int p4), .val (.int p5), .val (.int p6), .val (.int x6), .val (.int x7), .val (.int x8), .val (.int x9), .val (.int x10), .val (.int x11), .val (.int x12), .val (.int x13), .val (.int x14), .val (.int x15), .val (.int x16), .val (.int x17), .val (.ref o18), .val (.int 2), .val (.int 3), .val (.int 4), .val (.int 5), .val (.ref o23), .val (.int r5), .val (.int r4), .val (.int r3), .val (.int r2), .unset, .unset] [(.int 1), (.int x16), (.int x15)])) rfl (by rw [hml]; rfl) (argsL := [(.int x15), (.int x16), (.int 1)]) (rest := []) (lenOf pd_3 rfl) rfl (by show 2 * 0 + _ ≤ _; exact Nat.le_of_eq rfl) (hb hby at_369) (fun _ _ => ⟨rfl, e508, (by decide : 6 + 0 ≤ _), (by decide : 5131 + 0 ≤ _)⟩)
                dsimp only [Pt.U, Pt.locs, Pt.cells, Pt.slots] at X512 l512 y512 z512 st512 hQ512
                subst l512 y512 z512
                obtain ⟨rfl, N512q, e512⟩ := hQ512
                have N512 := Fr.app N508 N512q
                refine own_go st512 ?_
                by_cases hc372_513 : (own_hit x15 x16 (1 : Int32)) = (0 : Int32)
                · refine own_go (fun _ k => XS.ifYes X512.here hx rfl (pc0 := 372) (pc' := 379) rfl (hb hby at_372) rfl ((if0 _ _).trans (teq hc372_513).1) (by decide) (by decide) k) ?_
                  refine own_go (fun _ k => XS.iconst X512.here hx rfl (hb hby at_379) k) ?_
                  refine own_go (fun _ k => XS.istore X512.here hx rfl (hb hby at_380) rfl (l' := #[.val (.int p1), .val (.int p2), .val (.int p3), .val (.int p4), .val (.int p5), .val (.int p6), .val (.int x6), .val (.int x7), .val (.int x8), .val (.int x9), .val (.int x10), .val (.int x11), .val (.int x12), .val (.int x13), .val (.int x14), .val (.int x15), .val (.int x16), .val (.int x17), .val (.ref o18), .val (.int 2), .val (.int 3), .val (.int 4), .val (.int 5), .val (.ref o23), .val (.int r5), .val (.int r4), .val (.int r3), .val (.int r2), .val (.int 0), .unset]) rfl k) ?_
                  have hs514 : (0 : Int32) = (own_g1_2 x17 x7 x8 x10 x11 x12 x13 x15 x16) := by
                    have hsp : (own_g1_2 x17 x7 x8 x10 x11 x12 x13 x15 x16) = own_st r2 x7 x8 1 (own_st r3 x10 x11 1 (own_st r4 x12 x13 1 (own_st r5 x15 x16 1 (if x17 = (1 : Int32) then 1 else 0)))) := by
                      rw [hr2, hr3, hr4, hr5]
                      rfl
                    rw [hsp]
                    rw [own_stN _ _ _ _ _ hc324_499]
                    rw [own_st0 _ _ _ _ _ hc329_500]
                    rw [own_stN _ _ _ _ _ hc356_509]
                    rw [own_stN _ _ _ _ _ hc372_513]
                    rw [if_neg hc308_459]
                  exact lw1 p1 p2 p3 p4 p5 p6 h0 n0 hx hZ hw hby hml hown hnm hret hlk x6 x7 x8 x9 x10 x11 x12 x13 x14 x15 x16 x17 o18 o23 k23 nn vs r5 r4 r3 r2 (0 : Int32) T512 hh _ X512 e512 N512 Z0 K0 V_o23 (hvs) (hr5) (hr4) (hr3) (hr2) (hs514) 
                · refine own_go (fun _ k => XS.ifNo X512.here hx rfl (hb hby at_372) rfl ((if0 _ _).trans (feq hc372_513).1) k) ?_
                  refine own_go (fun _ k => XS.iconst X512.here hx rfl (hb hby at_375) k) ?_
                  refine own_go (fun _ k => XS.goto X512.here hx rfl (pc0 := 376) (pc' := 380) rfl (hb hby at_376) (by decide) (by decide) k) ?_
                  refine own_go (fun _ k => XS.istore X512.here hx rfl (hb hby at_380) rfl (l' := #[.val (.int p1), .val (.int p2), .val (.int p3), .val (.int p4), .val (.int p5), .val (.int p6), .val (.int x6), .val (.int x7), .val (.int x8), .val (.int x9), .val (.int x10), .val (.int x11), .val (.int x12), .val (.int x13), .val (.int x14), .val (.int x15), .val (.int x16), .val (.int x17), .val (.ref o18), .val (.int 2), .val (.int 3), .val (.int 4), .val (.int 5), .val (.ref o23), .val (.int r5), .val (.int r4), .val (.int r3), .val (.int r2), .val (.int 1), .unset]) rfl k) ?_
                  have hs515 : (1 : Int32) = (own_g1_2 x17 x7 x8 x10 x11 x12 x13 x15 x16) := by
                    have hsp : (own_g1_2 x17 x7 x8 x10 x11 x12 x13 x15 x16) = own_st r2 x7 x8 1 (own_st r3 x10 x11 1 (own_st r4 x12 x13 1 (own_st r5 x15 x16 1 (if x17 = (1 : Int32) then 1 else 0)))) := by
                      rw [hr2, hr3, hr4, hr5]
                      rfl
                    rw [hsp]
                    rw [own_stN _ _ _ _ _ hc324_499]
                    rw [own_st0 _ _ _ _ _ hc329_500]
                    rw [own_stN _ _ _ _ _ hc356_509]
                    rw [own_stY _ _ _ _ _ (by assumption) hc372_513]
                  exact lw1 p1 p2 p3 p4 p5 p6 h0 n0 hx hZ hw hby hml hown hnm hret hlk x6 x7 x8 x9 x10 x11 x12 x13 x14 x15 x16 x17 o18 o23 k23 nn vs r5 r4 r3 r2 (1 : Int32) T512 hh _ X512 e512 N512 Z0 K0 V_o23 (hvs) (hr5) (hr4) (hr3) (hr2) (hs515) 
            · refine own_go (fun _ k => XS.ifYes X508.here hx rfl (pc0 := 356) (pc' := 375) rfl (hb hby at_356) rfl ((if0 _ _).trans (feq hc356_509).2) (by decide) (by decide) k) ?_
              refine own_go (fun _ k => XS.iconst X508.here hx rfl (hb hby at_375) k) ?_
              refine own_go (fun _ k => XS.goto X508.here hx rfl (pc0 := 376) (pc' := 380) rfl (hb hby at_376) (by decide) (by decide) k) ?_
              refine own_go (fun _ k => XS.istore X508.here hx rfl (hb hby at_380) rfl (l' := #[.val (.int p1), .val (.int p2), .val (.int p3), .val (.int p4), .val (.int p5), .val (.int p6), .val (.int x6), .val (.int x7), .val (.int x8), .val (.int x9), .val (.int x10), .val (.int x11), .val (.int x12), .val (.int x13), .val (.int x14), .val (.int x15), .val (.int x16), .val (.int x17), .val (.ref o18), .val (.int 2), .val (.int 3), .val (.int 4), .val (.int 5), .val (.ref o23), .val (.int r5), .val (.int r4), .val (.int r3), .val (.int r2), .val (.int 1), .unset]) rfl k) ?_
              have hs516 : (1 : Int32) = (own_g1_2 x17 x7 x8 x10 x11 x12 x13 x15 x16) := by
                have hsp : (own_g1_2 x17 x7 x8 x10 x11 x12 x13 x15 x16) = own_st r2 x7 x8 1 (own_st r3 x10 x11 1 (own_st r4 x12 x13 1 (own_st r5 x15 x16 1 (if x17 = (1 : Int32) then 1 else 0)))) := by
                  rw [hr2, hr3, hr4, hr5]
                  rfl
                rw [hsp]
                rw [own_stN _ _ _ _ _ hc324_499]
                rw [own_st0 _ _ _ _ _ hc329_500]
                rw [own_stY _ _ _ _ _ (by assumption) hc356_509]
              exact lw1 p1 p2 p3 p4 p5 p6 h0 n0 hx hZ hw hby hml hown hnm hret hlk x6 x7 x8 x9 x10 x11 x12 x13 x14 x15 x16 x17 o18 o23 k23 nn vs r5 r4 r3 r2 (1 : Int32) T508 hh _ X508 e508 N508 Z0 K0 V_o23 (hvs) (hr5) (hr4) (hr3) (hr2) (hs516) 
        · refine own_go (fun _ k => XS.ifNo X498.here hx rfl (hb hby at_329) rfl ((if0 _ _).trans (feq hc329_500).1) k) ?_
          refine own_go (fun _ k => XS.iload X498.here hx rfl (hb hby at_332) rfl k) ?_
          refine own_go (fun _ k => XS.iload X498.here hx rfl (hb hby at_334) rfl k) ?_
          refine own_go (fun _ k => XS.iconst X498.here hx rfl (hb hby at_336) k) ?_
          obtain ⟨_, _, ⟨T517, L517, k517, n517⟩, -, X517, ⟨Lc517, hQ517, l517, y517, z517⟩, st517⟩ := Jvm.LawKit.callS X498 hx (y := (⟨own_K1, "hits", "(III)Z"⟩ : MethodName)) hown (mvT hZ (W 42 rfl)) (mvT hZ (W 43 rfl)) (mvT hZ (W 40 rfl)) (mvT hZ (W 44 rfl)) (by decide) (backOf (W := 0) (rm7 l Z a0 hw [] x10 x11 (1 : Int32) (own_hit x10 x11 (1 : Int32)) hh n0 Z0 (own_hitP x10 x11 (1 : Int32))) hZ (W 44 rfl) (W 40 rfl) (by decide) (by decide)) (g := (mkF m 337 #[.val (.int p1), .val (.int p2), .val (.int p3), .val (.int p4), .val (.int p5), .val (.int p6), .val (.int x6), .val (.int x7), .val (.int x8), .val (.int x9), .val (.int x10), .val (.int x11), .val (.int x12), .val (.int x13), .val (.int x14), .val (.int x15), .val (.int x16), .val (.int x17), .val (.ref o18), .val (.int 2), .val (.int 3), .val (.int 4), .val (.int 5), .val (.ref o23), .val (.int r5), .val (.int r4), .val (.int r3), .val (.int r2), .unset, .unset] [(.int 1), (.int x11), (.int x10)])) rfl (by rw [hml]; rfl) (argsL := [(.int x10), (.int x11), (.int 1)]) (rest := []) (lenOf pd_3 rfl) rfl (by show 2 * 0 + _ ≤ _; exact Nat.le_of_eq rfl) (hb hby at_337) (fun _ _ => ⟨rfl, e498, (by decide : 6 + 0 ≤ _), (by decide : 5131 + 0 ≤ _)⟩)
          dsimp only [Pt.U, Pt.locs, Pt.cells, Pt.slots] at X517 l517 y517 z517 st517 hQ517
          subst l517 y517 z517
          obtain ⟨rfl, N517q, e517⟩ := hQ517
          have N517 := Fr.app N498 N517q
          refine own_go st517 ?_
          show own_Run p e below _ T517 (mkF m 340 #[.val (.int p1), .val (.int p2), .val (.int p3), .val (.int p4), .val (.int p5), .val (.int p6), .val (.int x6), .val (.int x7), .val (.int x8), .val (.int x9), .val (.int x10), .val (.int x11), .val (.int x12), .val (.int x13), .val (.int x14), .val (.int x15), .val (.int x16), .val (.int x17), .val (.ref o18), .val (.int 2), .val (.int 3), .val (.int 4), .val (.int 5), .val (.ref o23), .val (.int r5), .val (.int r4), .val (.int r3), .val (.int r2), .unset, .unset] [(.int (own_hit x10 x11 (1 : Int32)))])
          by_cases hc340_518 : (own_hit x10 x11 (1 : Int32)) = (0 : Int32)
          · refine own_go (fun _ k => XS.ifNo X517.here hx rfl (hb hby at_340) rfl ((if0 _ _).trans (teq hc340_518).2) k) ?_
            refine own_go (fun _ k => XS.iload X517.here hx rfl (hb hby at_343) rfl k) ?_
            by_cases hc345_519 : r4 = (0 : Int32)
            · refine own_go (fun _ k => XS.ifYes X517.here hx rfl (pc0 := 345) (pc' := 359) rfl (hb hby at_345) rfl ((if0 _ _).trans (teq hc345_519).1) (by decide) (by decide) k) ?_
              refine own_go (fun _ k => XS.iload X517.here hx rfl (hb hby at_359) rfl k) ?_
              by_cases hc361_520 : r5 = (0 : Int32)
              · refine own_go (fun _ k => XS.ifYes X517.here hx rfl (pc0 := 361) (pc' := 379) rfl (hb hby at_361) rfl ((if0 _ _).trans (teq hc361_520).1) (by decide) (by decide) k) ?_
                refine own_go (fun _ k => XS.iconst X517.here hx rfl (hb hby at_379) k) ?_
                refine own_go (fun _ k => XS.istore X517.here hx rfl (hb hby at_380) rfl (l' := #[.val (.int p1), .val (.int p2), .val (.int p3), .val (.int p4), .val (.int p5), .val (.int p6), .val (.int x6), .val (.int x7), .val (.int x8), .val (.int x9), .val (.int x10), .val (.int x11), .val (.int x12), .val (.int x13), .val (.int x14), .val (.int x15), .val (.int x16), .val (.int x17), .val (.ref o18), .val (.int 2), .val (.int 3), .val (.int 4), .val (.int 5), .val (.ref o23), .val (.int r5), .val (.int r4), .val (.int r3), .val (.int r2), .val (.int 0), .unset]) rfl k) ?_
                have hs521 : (0 : Int32) = (own_g1_2 x17 x7 x8 x10 x11 x12 x13 x15 x16) := by
                  have hsp : (own_g1_2 x17 x7 x8 x10 x11 x12 x13 x15 x16) = own_st r2 x7 x8 1 (own_st r3 x10 x11 1 (own_st r4 x12 x13 1 (own_st r5 x15 x16 1 (if x17 = (1 : Int32) then 1 else 0)))) := by
                    rw [hr2, hr3, hr4, hr5]
                    rfl
                  rw [hsp]
                  rw [own_stN _ _ _ _ _ hc324_499]
                  rw [own_stN _ _ _ _ _ hc340_518]
                  rw [own_st0 _ _ _ _ _ hc345_519]
                  rw [own_st0 _ _ _ _ _ hc361_520]
                  rw [if_neg hc308_459]
                exact lw1 p1 p2 p3 p4 p5 p6 h0 n0 hx hZ hw hby hml hown hnm hret hlk x6 x7 x8 x9 x10 x11 x12 x13 x14 x15 x16 x17 o18 o23 k23 nn vs r5 r4 r3 r2 (0 : Int32) T517 hh _ X517 e517 N517 Z0 K0 V_o23 (hvs) (hr5) (hr4) (hr3) (hr2) (hs521) 
              · refine own_go (fun _ k => XS.ifNo X517.here hx rfl (hb hby at_361) rfl ((if0 _ _).trans (feq hc361_520).1) k) ?_
                refine own_go (fun _ k => XS.iload X517.here hx rfl (hb hby at_364) rfl k) ?_
                refine own_go (fun _ k => XS.iload X517.here hx rfl (hb hby at_366) rfl k) ?_
                refine own_go (fun _ k => XS.iconst X517.here hx rfl (hb hby at_368) k) ?_
                show own_Run p e below _ T517 (mkF m 369 #[.val (.int p1), .val (.int p2), .val (.int p3), .val (.int p4), .val (.int p5), .val (.int p6), .val (.int x6), .val (.int x7), .val (.int x8), .val (.int x9), .val (.int x10), .val (.int x11), .val (.int x12), .val (.int x13), .val (.int x14), .val (.int x15), .val (.int x16), .val (.int x17), .val (.ref o18), .val (.int 2), .val (.int 3), .val (.int 4), .val (.int 5), .val (.ref o23), .val (.int r5), .val (.int r4), .val (.int r3), .val (.int r2), .unset, .unset] [(.int 1), (.int x16), (.int x15)])
                obtain ⟨_, _, ⟨T522, L522, k522, n522⟩, -, X522, ⟨Lc522, hQ522, l522, y522, z522⟩, st522⟩ := Jvm.LawKit.callS X517 hx (y := (⟨own_K1, "hits", "(III)Z"⟩ : MethodName)) hown (mvT hZ (W 42 rfl)) (mvT hZ (W 43 rfl)) (mvT hZ (W 40 rfl)) (mvT hZ (W 44 rfl)) (by decide) (backOf (W := 0) (rm7 l Z a0 hw [] x15 x16 (1 : Int32) (own_hit x15 x16 (1 : Int32)) hh n0 Z0 (own_hitP x15 x16 (1 : Int32))) hZ (W 44 rfl) (W 40 rfl) (by decide) (by decide)) (g := (mkF m 369 #[.val (.int p1), .val (.int p2), .val (.int p3), .val (.int p4), .val (.int p5), .val (.int p6), .val (.int x6), .val (.int x7), .val (.int x8), .val (.int x9), .val (.int x10), .val (.int x11), .val (.int x12), .val (.int x13), .val (.int x14), .val (.int x15), .val (.int x16), .val (.int x17), .val (.ref o18), .val (.int 2), .val (.int 3), .val (.int 4), .val (.int 5), .val (.ref o23), .val (.int r5), .val (.int r4), .val (.int r3), .val (.int r2), .unset, .unset] [(.int 1), (.int x16), (.int x15)])) rfl (by rw [hml]; rfl) (argsL := [(.int x15), (.int x16), (.int 1)]) (rest := []) (lenOf pd_3 rfl) rfl (by show 2 * 0 + _ ≤ _; exact Nat.le_of_eq rfl) (hb hby at_369) (fun _ _ => ⟨rfl, e517, (by decide : 6 + 0 ≤ _), (by decide : 5131 + 0 ≤ _)⟩)
                dsimp only [Pt.U, Pt.locs, Pt.cells, Pt.slots] at X522 l522 y522 z522 st522 hQ522
                subst l522 y522 z522
                obtain ⟨rfl, N522q, e522⟩ := hQ522
                have N522 := Fr.app N517 N522q
                refine own_go st522 ?_
                by_cases hc372_523 : (own_hit x15 x16 (1 : Int32)) = (0 : Int32)
                · refine own_go (fun _ k => XS.ifYes X522.here hx rfl (pc0 := 372) (pc' := 379) rfl (hb hby at_372) rfl ((if0 _ _).trans (teq hc372_523).1) (by decide) (by decide) k) ?_
                  refine own_go (fun _ k => XS.iconst X522.here hx rfl (hb hby at_379) k) ?_
                  refine own_go (fun _ k => XS.istore X522.here hx rfl (hb hby at_380) rfl (l' := #[.val (.int p1), .val (.int p2), .val (.int p3), .val (.int p4), .val (.int p5), .val (.int p6), .val (.int x6), .val (.int x7), .val (.int x8), .val (.int x9), .val (.int x10), .val (.int x11), .val (.int x12), .val (.int x13), .val (.int x14), .val (.int x15), .val (.int x16), .val (.int x17), .val (.ref o18), .val (.int 2), .val (.int 3), .val (.int 4), .val (.int 5), .val (.ref o23), .val (.int r5), .val (.int r4), .val (.int r3), .val (.int r2), .val (.int 0), .unset]) rfl k) ?_
                  have hs524 : (0 : Int32) = (own_g1_2 x17 x7 x8 x10 x11 x12 x13 x15 x16) := by
                    have hsp : (own_g1_2 x17 x7 x8 x10 x11 x12 x13 x15 x16) = own_st r2 x7 x8 1 (own_st r3 x10 x11 1 (own_st r4 x12 x13 1 (own_st r5 x15 x16 1 (if x17 = (1 : Int32) then 1 else 0)))) := by
                      rw [hr2, hr3, hr4, hr5]
                      rfl
                    rw [hsp]
                    rw [own_stN _ _ _ _ _ hc324_499]
                    rw [own_stN _ _ _ _ _ hc340_518]
                    rw [own_st0 _ _ _ _ _ hc345_519]
                    rw [own_stN _ _ _ _ _ hc372_523]
                    rw [if_neg hc308_459]
                  exact lw1 p1 p2 p3 p4 p5 p6 h0 n0 hx hZ hw hby hml hown hnm hret hlk x6 x7 x8 x9 x10 x11 x12 x13 x14 x15 x16 x17 o18 o23 k23 nn vs r5 r4 r3 r2 (0 : Int32) T522 hh _ X522 e522 N522 Z0 K0 V_o23 (hvs) (hr5) (hr4) (hr3) (hr2) (hs524) 
                · refine own_go (fun _ k => XS.ifNo X522.here hx rfl (hb hby at_372) rfl ((if0 _ _).trans (feq hc372_523).1) k) ?_
                  refine own_go (fun _ k => XS.iconst X522.here hx rfl (hb hby at_375) k) ?_
                  refine own_go (fun _ k => XS.goto X522.here hx rfl (pc0 := 376) (pc' := 380) rfl (hb hby at_376) (by decide) (by decide) k) ?_
                  refine own_go (fun _ k => XS.istore X522.here hx rfl (hb hby at_380) rfl (l' := #[.val (.int p1), .val (.int p2), .val (.int p3), .val (.int p4), .val (.int p5), .val (.int p6), .val (.int x6), .val (.int x7), .val (.int x8), .val (.int x9), .val (.int x10), .val (.int x11), .val (.int x12), .val (.int x13), .val (.int x14), .val (.int x15), .val (.int x16), .val (.int x17), .val (.ref o18), .val (.int 2), .val (.int 3), .val (.int 4), .val (.int 5), .val (.ref o23), .val (.int r5), .val (.int r4), .val (.int r3), .val (.int r2), .val (.int 1), .unset]) rfl k) ?_
                  have hs525 : (1 : Int32) = (own_g1_2 x17 x7 x8 x10 x11 x12 x13 x15 x16) := by
                    have hsp : (own_g1_2 x17 x7 x8 x10 x11 x12 x13 x15 x16) = own_st r2 x7 x8 1 (own_st r3 x10 x11 1 (own_st r4 x12 x13 1 (own_st r5 x15 x16 1 (if x17 = (1 : Int32) then 1 else 0)))) := by
                      rw [hr2, hr3, hr4, hr5]
                      rfl
                    rw [hsp]
                    rw [own_stN _ _ _ _ _ hc324_499]
                    rw [own_stN _ _ _ _ _ hc340_518]
                    rw [own_st0 _ _ _ _ _ hc345_519]
                    rw [own_stY _ _ _ _ _ (by assumption) hc372_523]
                  exact lw1 p1 p2 p3 p4 p5 p6 h0 n0 hx hZ hw hby hml hown hnm hret hlk x6 x7 x8 x9 x10 x11 x12 x13 x14 x15 x16 x17 o18 o23 k23 nn vs r5 r4 r3 r2 (1 : Int32) T522 hh _ X522 e522 N522 Z0 K0 V_o23 (hvs) (hr5) (hr4) (hr3) (hr2) (hs525) 
            · refine own_go (fun _ k => XS.ifNo X517.here hx rfl (hb hby at_345) rfl ((if0 _ _).trans (feq hc345_519).1) k) ?_
              refine own_go (fun _ k => XS.iload X517.here hx rfl (hb hby at_348) rfl k) ?_
              refine own_go (fun _ k => XS.iload X517.here hx rfl (hb hby at_350) rfl k) ?_
              refine own_go (fun _ k => XS.iconst X517.here hx rfl (hb hby at_352) k) ?_
              obtain ⟨_, _, ⟨T526, L526, k526, n526⟩, -, X526, ⟨Lc526, hQ526, l526, y526, z526⟩, st526⟩ := Jvm.LawKit.callS X517 hx (y := (⟨own_K1, "hits", "(III)Z"⟩ : MethodName)) hown (mvT hZ (W 42 rfl)) (mvT hZ (W 43 rfl)) (mvT hZ (W 40 rfl)) (mvT hZ (W 44 rfl)) (by decide) (backOf (W := 0) (rm7 l Z a0 hw [] x12 x13 (1 : Int32) (own_hit x12 x13 (1 : Int32)) hh n0 Z0 (own_hitP x12 x13 (1 : Int32))) hZ (W 44 rfl) (W 40 rfl) (by decide) (by decide)) (g := (mkF m 353 #[.val (.int p1), .val (.int p2), .val (.int p3), .val (.int p4), .val (.int p5), .val (.int p6), .val (.int x6), .val (.int x7), .val (.int x8), .val (.int x9), .val (.int x10), .val (.int x11), .val (.int x12), .val (.int x13), .val (.int x14), .val (.int x15), .val (.int x16), .val (.int x17), .val (.ref o18), .val (.int 2), .val (.int 3), .val (.int 4), .val (.int 5), .val (.ref o23), .val (.int r5), .val (.int r4), .val (.int r3), .val (.int r2), .unset, .unset] [(.int 1), (.int x13), (.int x12)])) rfl (by rw [hml]; rfl) (argsL := [(.int x12), (.int x13), (.int 1)]) (rest := []) (lenOf pd_3 rfl) rfl (by show 2 * 0 + _ ≤ _; exact Nat.le_of_eq rfl) (hb hby at_353) (fun _ _ => ⟨rfl, e517, (by decide : 6 + 0 ≤ _), (by decide : 5131 + 0 ≤ _)⟩)
              dsimp only [Pt.U, Pt.locs, Pt.cells, Pt.slots] at X526 l526 y526 z526 st526 hQ526
              subst l526 y526 z526
              obtain ⟨rfl, N526q, e526⟩ := hQ526
              have N526 := Fr.app N517 N526q
              refine own_go st526 ?_
              by_cases hc356_527 : (own_hit x12 x13 (1 : Int32)) = (0 : Int32)
              · refine own_go (fun _ k => XS.ifNo X526.here hx rfl (hb hby at_356) rfl ((if0 _ _).trans (teq hc356_527).2) k) ?_
                show own_Run p e below _ T526 (mkF m 359 #[.val (.int p1), .val (.int p2), .val (.int p3), .val (.int p4), .val (.int p5), .val (.int p6), .val (.int x6), .val (.int x7), .val (.int x8), .val (.int x9), .val (.int x10), .val (.int x11), .val (.int x12), .val (.int x13), .val (.int x14), .val (.int x15), .val (.int x16), .val (.int x17), .val (.ref o18), .val (.int 2), .val (.int 3), .val (.int 4), .val (.int 5), .val (.ref o23), .val (.int r5), .val (.int r4), .val (.int r3), .val (.int r2), .unset, .unset] [])
                refine own_go (fun _ k => XS.iload X526.here hx rfl (hb hby at_359) rfl k) ?_
                by_cases hc361_528 : r5 = (0 : Int32)
                · refine own_go (fun _ k => XS.ifYes X526.here hx rfl (pc0 := 361) (pc' := 379) rfl (hb hby at_361) rfl ((if0 _ _).trans (teq hc361_528).1) (by decide) (by decide) k) ?_
                  refine own_go (fun _ k => XS.iconst X526.here hx rfl (hb hby at_379) k) ?_
                  refine own_go (fun _ k => XS.istore X526.here hx rfl (hb hby at_380) rfl (l' := #[.val (.int p1), .val (.int p2), .val (.int p3), .val (.int p4), .val (.int p5), .val (.int p6), .val (.int x6), .val (.int x7), .val (.int x8), .val (.int x9), .val (.int x10), .val (.int x11), .val (.int x12), .val (.int x13), .val (.int x14), .val (.int x15), .val (.int x16), .val (.int x17), .val (.ref o18), .val (.int 2), .val (.int 3), .val (.int 4), .val (.int 5), .val (.ref o23), .val (.int r5), .val (.int r4), .val (.int r3), .val (.int r2), .val (.int 0), .unset]) rfl k) ?_
                  have hs529 : (0 : Int32) = (own_g1_2 x17 x7 x8 x10 x11 x12 x13 x15 x16) := by
                    have hsp : (own_g1_2 x17 x7 x8 x10 x11 x12 x13 x15 x16) = own_st r2 x7 x8 1 (own_st r3 x10 x11 1 (own_st r4 x12 x13 1 (own_st r5 x15 x16 1 (if x17 = (1 : Int32) then 1 else 0)))) := by
                      rw [hr2, hr3, hr4, hr5]
                      rfl
                    rw [hsp]
                    rw [own_stN _ _ _ _ _ hc324_499]
                    rw [own_stN _ _ _ _ _ hc340_518]
                    rw [own_stN _ _ _ _ _ hc356_527]
                    rw [own_st0 _ _ _ _ _ hc361_528]
                    rw [if_neg hc308_459]
                  exact lw1 p1 p2 p3 p4 p5 p6 h0 n0 hx hZ hw hby hml hown hnm hret hlk x6 x7 x8 x9 x10 x11 x12 x13 x14 x15 x16 x17 o18 o23 k23 nn vs r5 r4 r3 r2 (0 : Int32) T526 hh _ X526 e526 N526 Z0 K0 V_o23 (hvs) (hr5) (hr4) (hr3) (hr2) (hs529) 
                · refine own_go (fun _ k => XS.ifNo X526.here hx rfl (hb hby at_361) rfl ((if0 _ _).trans (feq hc361_528).1) k) ?_
                  refine own_go (fun _ k => XS.iload X526.here hx rfl (hb hby at_364) rfl k) ?_
                  refine own_go (fun _ k => XS.iload X526.here hx rfl (hb hby at_366) rfl k) ?_
                  refine own_go (fun _ k => XS.iconst X526.here hx rfl (hb hby at_368) k) ?_
                  obtain ⟨_, _, ⟨T530, L530, k530, n530⟩, -, X530, ⟨Lc530, hQ530, l530, y530, z530⟩, st530⟩ := Jvm.LawKit.callS X526 hx (y := (⟨own_K1, "hits", "(III)Z"⟩ : MethodName)) hown (mvT hZ (W 42 rfl)) (mvT hZ (W 43 rfl)) (mvT hZ (W 40 rfl)) (mvT hZ (W 44 rfl)) (by decide) (backOf (W := 0) (rm7 l Z a0 hw [] x15 x16 (1 : Int32) (own_hit x15 x16 (1 : Int32)) hh n0 Z0 (own_hitP x15 x16 (1 : Int32))) hZ (W 44 rfl) (W 40 rfl) (by decide) (by decide)) (g := (mkF m 369 #[.val (.int p1), .val (.int p2), .val (.int p3), .val (.int p4), .val (.int p5), .val (.int p6), .val (.int x6), .val (.int x7), .val (.int x8), .val (.int x9), .val (.int x10), .val (.int x11), .val (.int x12), .val (.int x13), .val (.int x14), .val (.int x15), .val (.int x16), .val (.int x17), .val (.ref o18), .val (.int 2), .val (.int 3), .val (.int 4), .val (.int 5), .val (.ref o23), .val (.int r5), .val (.int r4), .val (.int r3), .val (.int r2), .unset, .unset] [(.int 1), (.int x16), (.int x15)])) rfl (by rw [hml]; rfl) (argsL := [(.int x15), (.int x16), (.int 1)]) (rest := []) (lenOf pd_3 rfl) rfl (by show 2 * 0 + _ ≤ _; exact Nat.le_of_eq rfl) (hb hby at_369) (fun _ _ => ⟨rfl, e526, (by decide : 6 + 0 ≤ _), (by decide : 5131 + 0 ≤ _)⟩)
                  dsimp only [Pt.U, Pt.locs, Pt.cells, Pt.slots] at X530 l530 y530 z530 st530 hQ530
                  subst l530 y530 z530
                  obtain ⟨rfl, N530q, e530⟩ := hQ530
                  have N530 := Fr.app N526 N530q
                  refine own_go st530 ?_
                  by_cases hc372_531 : (own_hit x15 x16 (1 : Int32)) = (0 : Int32)
                  · refine own_go (fun _ k => XS.ifYes X530.here hx rfl (pc0 := 372) (pc' := 379) rfl (hb hby at_372) rfl ((if0 _ _).trans (teq hc372_531).1) (by decide) (by decide) k) ?_
                    refine own_go (fun _ k => XS.iconst X530.here hx rfl (hb hby at_379) k) ?_
                    show own_Run p e below _ T530 (mkF m 380 #[.val (.int p1), .val (.int p2), .val (.int p3), .val (.int p4), .val (.int p5), .val (.int p6), .val (.int x6), .val (.int x7), .val (.int x8), .val (.int x9), .val (.int x10), .val (.int x11), .val (.int x12), .val (.int x13), .val (.int x14), .val (.int x15), .val (.int x16), .val (.int x17), .val (.ref o18), .val (.int 2), .val (.int 3), .val (.int 4), .val (.int 5), .val (.ref o23), .val (.int r5), .val (.int r4), .val (.int r3), .val (.int r2), .unset, .unset] [(.int 0)])
                    refine own_go (fun _ k => XS.istore X530.here hx rfl (hb hby at_380) rfl (l' := #[.val (.int p1), .val (.int p2), .val (.int p3), .val (.int p4), .val (.int p5), .val (.int p6), .val (.int x6), .val (.int x7), .val (.int x8), .val (.int x9), .val (.int x10), .val (.int x11), .val (.int x12), .val (.int x13), .val (.int x14), .val (.int x15), .val (.int x16), .val (.int x17), .val (.ref o18), .val (.int 2), .val (.int 3), .val (.int 4), .val (.int 5), .val (.ref o23), .val (.int r5), .val (.int r4), .val (.int r3), .val (.int r2), .val (.int 0), .unset]) rfl k) ?_
                    have hs532 : (0 : Int32) = (own_g1_2 x17 x7 x8 x10 x11 x12 x13 x15 x16) := by
                      have hsp : (own_g1_2 x17 x7 x8 x10 x11 x12 x13 x15 x16) = own_st r2 x7 x8 1 (own_st r3 x10 x11 1 (own_st r4 x12 x13 1 (own_st r5 x15 x16 1 (if x17 = (1 : Int32) then 1 else 0)))) := by
                        rw [hr2, hr3, hr4, hr5]
                        rfl
                      rw [hsp]
                      rw [own_stN _ _ _ _ _ hc324_499]
                      rw [own_stN _ _ _ _ _ hc340_518]
                      rw [own_stN _ _ _ _ _ hc356_527]
                      rw [own_stN _ _ _ _ _ hc372_531]
                      rw [if_neg hc308_459]
                    exact lw1 p1 p2 p3 p4 p5 p6 h0 n0 hx hZ hw hby hml hown hnm hret hlk x6 x7 x8 x9 x10 x11 x12 x13 x14 x15 x16 x17 o18 o23 k23 nn vs r5 r4 r3 r2 (0 : Int32) T530 hh _ X530 e530 N530 Z0 K0 V_o23 (hvs) (hr5) (hr4) (hr3) (hr2) (hs532) 
                  · refine own_go (fun _ k => XS.ifNo X530.here hx rfl (hb hby at_372) rfl ((if0 _ _).trans (feq hc372_531).1) k) ?_
                    refine own_go (fun _ k => XS.iconst X530.here hx rfl (hb hby at_375) k) ?_
                    show own_Run p e below _ T530 (mkF m 376 #[.val (.int p1), .val (.int p2), .val (.int p3), .val (.int p4), .val (.int p5), .val (.int p6), .val (.int x6), .val (.int x7), .val (.int x8), .val (.int x9), .val (.int x10), .val (.int x11), .val (.int x12), .val (.int x13), .val (.int x14), .val (.int x15), .val (.int x16), .val (.int x17), .val (.ref o18), .val (.int 2), .val (.int 3), .val (.int 4), .val (.int 5), .val (.ref o23), .val (.int r5), .val (.int r4), .val (.int r3), .val (.int r2), .unset, .unset] [(.int 1)])
                    refine own_go (fun _ k => XS.goto X530.here hx rfl (pc0 := 376) (pc' := 380) rfl (hb hby at_376) (by decide) (by decide) k) ?_
                    refine own_go (fun _ k => XS.istore X530.here hx rfl (hb hby at_380) rfl (l' := #[.val (.int p1), .val (.int p2), .val (.int p3), .val (.int p4), .val (.int p5), .val (.int p6), .val (.int x6), .val (.int x7), .val (.int x8), .val (.int x9), .val (.int x10), .val (.int x11), .val (.int x12), .val (.int x13), .val (.int x14), .val (.int x15), .val (.int x16), .val (.int x17), .val (.ref o18), .val (.int 2), .val (.int 3), .val (.int 4), .val (.int 5), .val (.ref o23), .val (.int r5), .val (.int r4), .val (.int r3), .val (.int r2), .val (.int 1), .unset]) rfl k) ?_
                    have hs533 : (1 : Int32) = (own_g1_2 x17 x7 x8 x10 x11 x12 x13 x15 x16) := by
                      have hsp : (own_g1_2 x17 x7 x8 x10 x11 x12 x13 x15 x16) = own_st r2 x7 x8 1 (own_st r3 x10 x11 1 (own_st r4 x12 x13 1 (own_st r5 x15 x16 1 (if x17 = (1 : Int32) then 1 else 0)))) := by
                        rw [hr2, hr3, hr4, hr5]
                        rfl
                      rw [hsp]
                      rw [own_stN _ _ _ _ _ hc324_499]
                      rw [own_stN _ _ _ _ _ hc340_518]
                      rw [own_stN _ _ _ _ _ hc356_527]
                      rw [own_stY _ _ _ _ _ (by assumption) hc372_531]
                    exact lw1 p1 p2 p3 p4 p5 p6 h0 n0 hx hZ hw hby hml hown hnm hret hlk x6 x7 x8 x9 x10 x11 x12 x13 x14 x15 x16 x17 o18 o23 k23 nn vs r5 r4 r3 r2 (1 : Int32) T530 hh _ X530 e530 N530 Z0 K0 V_o23 (hvs) (hr5) (hr4) (hr3) (hr2) (hs533) 
              · refine own_go (fun _ k => XS.ifYes X526.here hx rfl (pc0 := 356) (pc' := 375) rfl (hb hby at_356) rfl ((if0 _ _).trans (feq hc356_527).2) (by decide) (by decide) k) ?_
                show own_Run p e below _ T526 (mkF m 375 #[.val (.int p1), .val (.int p2), .val (.int p3), .val (.int p4), .val (.int p5), .val (.int p6), .val (.int x6), .val (.int x7), .val (.int x8), .val (.int x9), .val (.int x10), .val (.int x11), .val (.int x12), .val (.int x13), .val (.int x14), .val (.int x15), .val (.int x16), .val (.int x17), .val (.ref o18), .val (.int 2), .val (.int 3), .val (.int 4), .val (.int 5), .val (.ref o23), .val (.int r5), .val (.int r4), .val (.int r3), .val (.int r2), .unset, .unset] [])
                refine own_go (fun _ k => XS.iconst X526.here hx rfl (hb hby at_375) k) ?_
                refine own_go (fun _ k => XS.goto X526.here hx rfl (pc0 := 376) (pc' := 380) rfl (hb hby at_376) (by decide) (by decide) k) ?_
                refine own_go (fun _ k => XS.istore X526.here hx rfl (hb hby at_380) rfl (l' := #[.val (.int p1), .val (.int p2), .val (.int p3), .val (.int p4), .val (.int p5), .val (.int p6), .val (.int x6), .val (.int x7), .val (.int x8), .val (.int x9), .val (.int x10), .val (.int x11), .val (.int x12), .val (.int x13), .val (.int x14), .val (.int x15), .val (.int x16), .val (.int x17), .val (.ref o18), .val (.int 2), .val (.int 3), .val (.int 4), .val (.int 5), .val (.ref o23), .val (.int r5), .val (.int r4), .val (.int r3), .val (.int r2), .val (.int 1), .unset]) rfl k) ?_
                have hs534 : (1 : Int32) = (own_g1_2 x17 x7 x8 x10 x11 x12 x13 x15 x16) := by
                  have hsp : (own_g1_2 x17 x7 x8 x10 x11 x12 x13 x15 x16) = own_st r2 x7 x8 1 (own_st r3 x10 x11 1 (own_st r4 x12 x13 1 (own_st r5 x15 x16 1 (if x17 = (1 : Int32) then 1 else 0)))) := by
                    rw [hr2, hr3, hr4, hr5]
                    rfl
                  rw [hsp]
                  rw [own_stN _ _ _ _ _ hc324_499]
                  rw [own_stN _ _ _ _ _ hc340_518]
                  rw [own_stY _ _ _ _ _ (by assumption) hc356_527]
                exact lw1 p1 p2 p3 p4 p5 p6 h0 n0 hx hZ hw hby hml hown hnm hret hlk x6 x7 x8 x9 x10 x11 x12 x13 x14 x15 x16 x17 o18 o23 k23 nn vs r5 r4 r3 r2 (1 : Int32) T526 hh _ X526 e526 N526 Z0 K0 V_o23 (hvs) (hr5) (hr4) (hr3) (hr2) (hs534) 
          · refine own_go (fun _ k => XS.ifYes X517.here hx rfl (pc0 := 340) (pc' := 375) rfl (hb hby at_340) rfl ((if0 _ _).trans (feq hc340_518).2) (by decide) (by decide) k) ?_
            refine own_go (fun _ k => XS.iconst X517.here hx rfl (hb hby at_375) k) ?_
            refine own_go (fun _ k => XS.goto X517.here hx rfl (pc0 := 376) (pc' := 380) rfl (hb hby at_376) (by decide) (by decide) k) ?_
            refine own_go (fun _ k => XS.istore X517.here hx rfl (hb hby at_380) rfl (l' := #[.val (.int p1), .val (.int p2), .val (.int p3), .val (.int p4), .val (.int p5), .val (.int p6), .val (.int x6), .val (.int x7), .val (.int x8), .val (.int x9), .val (.int x10), .val (.int x11), .val (.int x12), .val (.int x13), .val (.int x14), .val (.int x15), .val (.int x16), .val (.int x17), .val (.ref o18), .val (.int 2), .val (.int 3), .val (.int 4), .val (.int 5), .val (.ref o23), .val (.int r5), .val (.int r4), .val (.int r3), .val (.int r2), .val (.int 1), .unset]) rfl k) ?_
            have hs535 : (1 : Int32) = (own_g1_2 x17 x7 x8 x10 x11 x12 x13 x15 x16) := by
              have hsp : (own_g1_2 x17 x7 x8 x10 x11 x12 x13 x15 x16) = own_st r2 x7 x8 1 (own_st r3 x10 x11 1 (own_st r4 x12 x13 1 (own_st r5 x15 x16 1 (if x17 = (1 : Int32) then 1 else 0)))) := by
                rw [hr2, hr3, hr4, hr5]
                rfl
              rw [hsp]
              rw [own_stN _ _ _ _ _ hc324_499]
              rw [own_stY _ _ _ _ _ (by assumption) hc340_518]
            exact lw1 p1 p2 p3 p4 p5 p6 h0 n0 hx hZ hw hby hml hown hnm hret hlk x6 x7 x8 x9 x10 x11 x12 x13 x14 x15 x16 x17 o18 o23 k23 nn vs r5 r4 r3 r2 (1 : Int32) T517 hh _ X517 e517 N517 Z0 K0 V_o23 (hvs) (hr5) (hr4) (hr3) (hr2) (hs535) 
      · refine own_go (fun _ k => XS.ifYes X498.here hx rfl (pc0 := 324) (pc' := 375) rfl (hb hby at_324) rfl ((if0 _ _).trans (feq hc324_499).2) (by decide) (by decide) k) ?_
        refine own_go (fun _ k => XS.iconst X498.here hx rfl (hb hby at_375) k) ?_
        refine own_go (fun _ k => XS.goto X498.here hx rfl (pc0 := 376) (pc' := 380) rfl (hb hby at_376) (by decide) (by decide) k) ?_
        refine own_go (fun _ k => XS.istore X498.here hx rfl (hb hby at_380) rfl (l' := #[.val (.int p1), .val (.int p2), .val (.int p3), .val (.int p4), .val (.int p5), .val (.int p6), .val (.int x6), .val (.int x7), .val (.int x8), .val (.int x9), .val (.int x10), .val (.int x11), .val (.int x12), .val (.int x13), .val (.int x14), .val (.int x15), .val (.int x16), .val (.int x17), .val (.ref o18), .val (.int 2), .val (.int 3), .val (.int 4), .val (.int 5), .val (.ref o23), .val (.int r5), .val (.int r4), .val (.int r3), .val (.int r2), .val (.int 1), .unset]) rfl k) ?_
        have hs536 : (1 : Int32) = (own_g1_2 x17 x7 x8 x10 x11 x12 x13 x15 x16) := by
          have hsp : (own_g1_2 x17 x7 x8 x10 x11 x12 x13 x15 x16) = own_st r2 x7 x8 1 (own_st r3 x10 x11 1 (own_st r4 x12 x13 1 (own_st r5 x15 x16 1 (if x17 = (1 : Int32) then 1 else 0)))) := by
            rw [hr2, hr3, hr4, hr5]
            rfl
          rw [hsp]
          rw [own_stY _ _ _ _ _ (by assumption) hc324_499]
        exact lw1 p1 p2 p3 p4 p5 p6 h0 n0 hx hZ hw hby hml hown hnm hret hlk x6 x7 x8 x9 x10 x11 x12 x13 x14 x15 x16 x17 o18 o23 k23 nn vs r5 r4 r3 r2 (1 : Int32) T498 hh _ X498 e498 N498 Z0 K0 V_o23 (hvs) (hr5) (hr4) (hr3) (hr2) (hs536) 
set_option maxRecDepth 65536 in
set_option maxHeartbeats 40000000 in
theorem lw3 {p : Program} {l : Launch} {e : Env} {s : State} {m : MethodId} {args : Array Value} {below : List Frame} {meth : Method} {c : Code} {Z : State} {a0 : Array Value} (p1 : Int32) (p2 : Int32) (p3 : Int32) (p4 : Int32) (p5 : Int32) (p6 : Int32) (h0 : Heap) (n0 : Nat) (hx : p.tables.exec = Jvm.exec) (hZ : Z.Warmed39 s.vm) (hw : ∀ d ∈ tables_1, d.before a0 Z = true) (hby : c.code = code) (hml : c.maxLocals = 30) (hown : s.vm.findClass own_K1 = some m.cls) (hnm : meth.name = "law") (hret : meth.sig.returnType = some .boolean) (hlk : meth.locks = false)
    (x6 : Int32) (x7 : Int32) (x8 : Int32) (x9 : Int32) (x10 : Int32) (x11 : Int32) (x12 : Int32) (x13 : Int32) (x14 : Int32) (x15 : Int32) (x16 : Int32) (x17 : Int32) (o18 : Addr) (o23 : Addr) (k23 : ClassId) (nn : Int32) (vs : List Value) (r5 : Int32) (r4 : Int32) (r3 : Int32) (T0 : State) (hh : Heap) (locs : List Loc) (X0 : Stand p l e room_1 s m args below meth c T0 locs 6 5131) (e0 : T0.heap = hh) (N0 : Fr n0 locs) (Z0 : n0 ≤ hh.size) (K0 : Keep h0 hh []) (V_o23 : Arv Z hh o23 k23 .boolean nn vs (.int 0)) (hvs : own_HV x17 nn vs x7 x8 x10 x11 x12 x13 x15 x16) (hr5 : r5 = (own_g5_6 x17 x7 x8 x10 x11 x12 x13 x15 x16)) (hr4 : r4 = (own_g4_5 x17 x7 x8 x10 x11 x12 x13 x15 x16)) (hr3 : r3 = (own_g3_4 x17 x7 x8 x10 x11 x12 x13 x15 x16)) :
    own_Run p e below (fun o U' => ∃ v L, o = .returned v ∧ Q0 Z p1 p2 p3 p4 p5 p6 h0 n0 v U'.heap L ∧ FrameEnd s o U' L room_1.cells room_1.slots) T0 (mkF m 244 #[.val (.int p1), .val (.int p2), .val (.int p3), .val (.int p4), .val (.int p5), .val (.int p6), .val (.int x6), .val (.int x7), .val (.int x8), .val (.int x9), .val (.int x10), .val (.int x11), .val (.int x12), .val (.int x13), .val (.int x14), .val (.int x15), .val (.int x16), .val (.int x17), .val (.ref o18), .val (.int 2), .val (.int 3), .val (.int 4), .val (.int 5), .val (.ref o23), .val (.int r5), .val (.int r4), .val (.int r3), .unset, .unset, .unset] []) := by
  have W := fun (k : Nat) {d : Jvm.Cond} (h : tables_1[k]? = some d) => hw d (List.mem_of_getElem? h)
  show own_Run p e below _ T0 (mkF m 244 #[.val (.int p1), .val (.int p2), .val (.int p3), .val (.int p4), .val (.int p5), .val (.int p6), .val (.int x6), .val (.int x7), .val (.int x8), .val (.int x9), .val (.int x10), .val (.int x11), .val (.int x12), .val (.int x13), .val (.int x14), .val (.int x15), .val (.int x16), .val (.int x17), .val (.ref o18), .val (.int 2), .val (.int 3), .val (.int 4), .val (.int 5), .val (.ref o23), .val (.int r5), .val (.int r4), .val (.int r3), .unset, .unset, .unset] [])
  refine own_go (fun _ k => XS.iload X0.here hx rfl (hb hby at_244) rfl k) ?_
  refine own_go (fun _ k => XS.iconst X0.here hx rfl (hb hby at_246) k) ?_
  by_cases hc247_537 : x17 = (2 : Int32)
  · refine own_go (fun _ k => XS.icmpYes X0.here hx rfl (pc0 := 247) (pc' := 298) rfl (hb hby at_247) rfl (teq hc247_537).1 (by decide) (by decide) k) ?_
    refine own_go (fun _ k => XS.iconst X0.here hx rfl (hb hby at_298) k) ?_
    refine own_go (fun _ k => XS.goto X0.here hx rfl (pc0 := 299) (pc' := 303) rfl (hb hby at_299) (by decide) (by decide) k) ?_
    refine own_go (fun _ k => XS.istore X0.here hx rfl (hb hby at_303) rfl (l' := #[.val (.int p1), .val (.int p2), .val (.int p3), .val (.int p4), .val (.int p5), .val (.int p6), .val (.int x6), .val (.int x7), .val (.int x8), .val (.int x9), .val (.int x10), .val (.int x11), .val (.int x12), .val (.int x13), .val (.int x14), .val (.int x15), .val (.int x16), .val (.int x17), .val (.ref o18), .val (.int 2), .val (.int 3), .val (.int 4), .val (.int 5), .val (.ref o23), .val (.int r5), .val (.int r4), .val (.int r3), .val (.int 1), .unset, .unset]) rfl k) ?_
    have hs538 : (1 : Int32) = (own_g2_3 x17 x7 x8 x10 x11 x12 x13 x15 x16) := by
      have hsp : (own_g2_3 x17 x7 x8 x10 x11 x12 x13 x15 x16) = own_st r3 x10 x11 2 (own_st r4 x12 x13 2 (own_st r5 x15 x16 2 (if x17 = (2 : Int32) then 1 else 0))) := by
        rw [hr3, hr4, hr5]
        rfl
      rw [hsp]
      rw [if_pos hc247_537]
      rw [own_st1]
      rw [own_st1]
      rw [own_st1]
    exact lw2 p1 p2 p3 p4 p5 p6 h0 n0 hx hZ hw hby hml hown hnm hret hlk x6 x7 x8 x9 x10 x11 x12 x13 x14 x15 x16 x17 o18 o23 k23 nn vs r5 r4 r3 (1 : Int32) T0 hh _ X0 e0 N0 Z0 K0 V_o23 (hvs) (hr5) (hr4) (hr3) (hs538) 
  · refine own_go (fun _ k => XS.icmpNo X0.here hx rfl (hb hby at_247) rfl (feq hc247_537).1 k) ?_
    refine own_go (fun _ k => XS.iload X0.here hx rfl (hb hby at_250) rfl k) ?_
    by_cases hc252_539 : r3 = (0 : Int32)
    · refine own_go (fun _ k => XS.ifYes X0.here hx rfl (pc0 := 252) (pc' := 266) rfl (hb hby at_252) rfl ((if0 _ _).trans (teq hc252_539).1) (by decide) (by decide) k) ?_
      refine own_go (fun _ k => XS.iload X0.here hx rfl (hb hby at_266) rfl k) ?_
      by_cases hc268_540 : r4 = (0 : Int32)
      · refine own_go (fun _ k => XS.ifYes X0.here hx rfl (pc0 := 268) (pc' := 282) rfl (hb hby at_268) rfl ((if0 _ _).trans (teq hc268_540).1) (by decide) (by decide) k) ?_
        refine own_go (fun _ k => XS.iload X0.here hx rfl (hb hby at_282) rfl k) ?_
        show own_Run p e below _ T0 (mkF m 284 #[.val (.int p1), .val (.int p2), .val (.int p3), .val (.int p4), .val (.int p5), .val (.int p6), .val (.int x6), .val (.int x7), .val (.int x8), .val (.int x9), .val (.int x10), .val (.int x11), .val (.int x12), .val (.int x13), .val (.int x14), .val (.int x15), .val (.int x16), .val (.int x17), .val (.ref o18), .val (.int 2), .val (.int 3), .val (.int 4), .val (.int 5), .val (.ref o23), .val (.int r5), .val (.int r4), .val (.int r3), .unset, .unset, .unset] [(.int r5)])
        by_cases hc284_541 : r5 = (0 : Int32)
        · refine own_go (fun _ k => XS.ifYes X0.here hx rfl (pc0 := 284) (pc' := 302) rfl (hb hby at_284) rfl ((if0 _ _).trans (teq hc284_541).1) (by decide) (by decide) k) ?_
          refine own_go (fun _ k => XS.iconst X0.here hx rfl (hb hby at_302) k) ?_
          refine own_go (fun _ k => XS.istore X0.here hx rfl (hb hby at_303) rfl (l' := #[.val (.int p1), .val (.int p2), .val (.int p3), .val (.int p4), .val (.int p5), .val (.int p6), .val (.int x6), .val (.int x7), .val (.int x8), .val (.int x9), .val (.int x10), .val (.int x11), .val (.int x12), .val (.int x13), .val (.int x14), .val (.int x15), .val (.int x16), .val (.int x17), .val (.ref o18), .val (.int 2), .val (.int 3), .val (.int 4), .val (.int 5), .val (.ref o23), .val (.int r5), .val (.int r4), .val (.int r3), .val (.int 0), .unset, .unset]) rfl k) ?_
          have hs542 : (0 : Int32) = (own_g2_3 x17 x7 x8 x10 x11 x12 x13 x15 x16) := by
            have hsp : (own_g2_3 x17 x7 x8 x10 x11 x12 x13 x15 x16) = own_st r3 x10 x11 2 (own_st r4 x12 x13 2 (own_st r5 x15 x16 2 (if x17 = (2 : Int32) then 1 else 0))) := by
              rw [hr3, hr4, hr5]
              rfl
            rw [hsp]
            rw [own_st0 _ _ _ _ _ hc252_539]
            rw [own_st0 _ _ _ _ _ hc268_540]
            rw [own_st0 _ _ _ _ _ hc284_541]
            rw [if_neg hc247_537]
          exact lw2 p1 p2 p3 p4 p5 p6 h0 n0 hx hZ hw hby hml hown hnm hret hlk x6 x7 x8 x9 x10 x11 x12 x13 x14 x15 x16 x17 o18 o23 k23 nn vs r5 r4 r3 (0 : Int32) T0 hh _ X0 e0 N0 Z0 K0 V_o23 (hvs) (hr5) (hr4) (hr3) (hs542) 
        · refine own_go (fun _ k => XS.ifNo X0.here hx rfl (hb hby at_284) rfl ((if0 _ _).trans (feq hc284_541).1) k) ?_
          refine own_go (fun _ k => XS.iload X0.here hx rfl (hb hby at_287) rfl k) ?_
          refine own_go (fun _ k => XS.iload X0.here hx rfl (hb hby at_289) rfl k) ?_
          refine own_go (fun _ k => XS.iconst X0.here hx rfl (hb hby at_291) k) ?_
          obtain ⟨_, _, ⟨T543, L543, k543, n543⟩, -, X543, ⟨Lc543, hQ543, l543, y543, z543⟩, st543⟩ := Jvm.LawKit.callS X0 hx (y := (⟨own_K1, "hits", "(III)Z"⟩ : MethodName)) hown (mvT hZ (W 42 rfl)) (mvT hZ (W 43 rfl)) (mvT hZ (W 40 rfl)) (mvT hZ (W 44 rfl)) (by decide) (backOf (W := 0) (rm7 l Z a0 hw [] x15 x16 (2 : Int32) (own_hit x15 x16 (2 : Int32)) hh n0 Z0 (own_hitP x15 x16 (2 : Int32))) hZ (W 44 rfl) (W 40 rfl) (by decide) (by decide)) (g := (mkF m 292 #[.val (.int p1), .val (.int p2), .val (.int p3), .val (.int p4), .val (.int p5), .val (.int p6), .val (.int x6), .val (.int x7), .val (.int x8), .val (.int x9), .val (.int x10), .val (.int x11), .val (.int x12), .val (.int x13), .val (.int x14), .val (.int x15), .val (.int x16), .val (.int x17), .val (.ref o18), .val (.int 2), .val (.int 3), .val (.int 4), .val (.int 5), .val (.ref o23), .val (.int r5), .val (.int r4), .val (.int r3), .unset, .unset, .unset] [(.int 2), (.int x16), (.int x15)])) rfl (by rw [hml]; rfl) (argsL := [(.int x15), (.int x16), (.int 2)]) (rest := []) (lenOf pd_3 rfl) rfl (by show 2 * 0 + _ ≤ _; exact Nat.le_of_eq rfl) (hb hby at_292) (fun _ _ => ⟨rfl, e0, (by decide : 6 + 0 ≤ _), (by decide : 5131 + 0 ≤ _)⟩)
          dsimp only [Pt.U, Pt.locs, Pt.cells, Pt.slots] at X543 l543 y543 z543 st543 hQ543
          subst l543 y543 z543
          obtain ⟨rfl, N543q, e543⟩ := hQ543
          have N543 := Fr.app N0 N543q
          refine own_go st543 ?_
          by_cases hc295_544 : (own_hit x15 x16 (2 : Int32)) = (0 : Int32)
          · refine own_go (fun _ k => XS.ifYes X543.here hx rfl (pc0 := 295) (pc' := 302) rfl (hb hby at_295) rfl ((if0 _ _).trans (teq hc295_544).1) (by decide) (by decide) k) ?_
            refine own_go (fun _ k => XS.iconst X543.here hx rfl (hb hby at_302) k) ?_
            refine own_go (fun _ k => XS.istore X543.here hx rfl (hb hby at_303) rfl (l' := #[.val (.int p1), .val (.int p2), .val (.int p3), .val (.int p4), .val (.int p5), .val (.int p6), .val (.int x6), .val (.int x7), .val (.int x8), .val (.int x9), .val (.int x10), .val (.int x11), .val (.int x12), .val (.int x13), .val (.int x14), .val (.int x15), .val (.int x16), .val (.int x17), .val (.ref o18), .val (.int 2), .val (.int 3), .val (.int 4), .val (.int 5), .val (.ref o23), .val (.int r5), .val (.int r4), .val (.int r3), .val (.int 0), .unset, .unset]) rfl k) ?_
            show own_Run p e below _ T543 (mkF m 305 #[.val (.int p1), .val (.int p2), .val (.int p3), .val (.int p4), .val (.int p5), .val (.int p6), .val (.int x6), .val (.int x7), .val (.int x8), .val (.int x9), .val (.int x10), .val (.int x11), .val (.int x12), .val (.int x13), .val (.int x14), .val (.int x15), .val (.int x16), .val (.int x17), .val (.ref o18), .val (.int 2), .val (.int 3), .val (.int 4), .val (.int 5), .val (.ref o23), .val (.int r5), .val (.int r4), .val (.int r3), .val (.int 0), .unset, .unset] [])
            have hs545 : (0 : Int32) = (own_g2_3 x17 x7 x8 x10 x11 x12 x13 x15 x16) := by
              have hsp : (own_g2_3 x17 x7 x8 x10 x11 x12 x13 x15 x16) = own_st r3 x10 x11 2 (own_st r4 x12 x13 2 (own_st r5 x15 x16 2 (if x17 = (2 : Int32) then 1 else 0))) := by
                rw [hr3, hr4, hr5]
                rfl
              rw [hsp]
              rw [own_st0 _ _ _ _ _ hc252_539]
              rw [own_st0 _ _ _ _ _ hc268_540]
              rw [own_stN _ _ _ _ _ hc295_544]
              rw [if_neg hc247_537]
            exact lw2 p1 p2 p3 p4 p5 p6 h0 n0 hx hZ hw hby hml hown hnm hret hlk x6 x7 x8 x9 x10 x11 x12 x13 x14 x15 x16 x17 o18 o23 k23 nn vs r5 r4 r3 (0 : Int32) T543 hh _ X543 e543 N543 Z0 K0 V_o23 (hvs) (hr5) (hr4) (hr3) (hs545) 
          · refine own_go (fun _ k => XS.ifNo X543.here hx rfl (hb hby at_295) rfl ((if0 _ _).trans (feq hc295_544).1) k) ?_
            refine own_go (fun _ k => XS.iconst X543.here hx rfl (hb hby at_298) k) ?_
            refine own_go (fun _ k => XS.goto X543.here hx rfl (pc0 := 299) (pc' := 303) rfl (hb hby at_299) (by decide) (by decide) k) ?_
            show own_Run p e below _ T543 (mkF m 303 #[.val (.int p1), .val (.int p2), .val (.int p3), .val (.int p4), .val (.int p5), .val (.int p6), .val (.int x6), .val (.int x7), .val (.int x8), .val (.int x9), .val (.int x10), .val (.int x11), .val (.int x12), .val (.int x13), .val (.int x14), .val (.int x15), .val (.int x16), .val (.int x17), .val (.ref o18), .val (.int 2), .val (.int 3), .val (.int 4), .val (.int 5), .val (.ref o23), .val (.int r5), .val (.int r4), .val (.int r3), .unset, .unset, .unset] [(.int 1)])
            refine own_go (fun _ k => XS.istore X543.here hx rfl (hb hby at_303) rfl (l' := #[.val (.int p1), .val (.int p2), .val (.int p3), .val (.int p4), .val (.int p5), .val (.int p6), .val (.int x6), .val (.int x7), .val (.int x8), .val (.int x9), .val (.int x10), .val (.int x11), .val (.int x12), .val (.int x13), .val (.int x14), .val (.int x15), .val (.int x16), .val (.int x17), .val (.ref o18), .val (.int 2), .val (.int 3), .val (.int 4), .val (.int 5), .val (.ref o23), .val (.int r5), .val (.int r4), .val (.int r3), .val (.int 1), .unset, .unset]) rfl k) ?_
            have hs546 : (1 : Int32) = (own_g2_3 x17 x7 x8 x10 x11 x12 x13 x15 x16) := by
              have hsp : (own_g2_3 x17 x7 x8 x10 x11 x12 x13 x15 x16) = own_st r3 x10 x11 2 (own_st r4 x12 x13 2 (own_st r5 x15 x16 2 (if x17 = (2 : Int32) then 1 else 0))) := by
                rw [hr3, hr4, hr5]
                rfl
              rw [hsp]
              rw [own_st0 _ _ _ _ _ hc252_539]
              rw [own_st0 _ _ _ _ _ hc268_540]
              rw [own_stY _ _ _ _ _ (by assumption) hc295_544]
            exact lw2 p1 p2 p3 p4 p5 p6 h0 n0 hx hZ hw hby hml hown hnm hret hlk x6 x7 x8 x9 x10 x11 x12 x13 x14 x15 x16 x17 o18 o23 k23 nn vs r5 r4 r3 (1 : Int32) T543 hh _ X543 e543 N543 Z0 K0 V_o23 (hvs) (hr5) (hr4) (hr3) (hs546) 
      · refine own_go (fun _ k => XS.ifNo X0.here hx rfl (hb hby at_268) rfl ((if0 _ _).trans (feq hc268_540).1) k) ?_
        refine own_go (fun _ k => XS.iload X0.here hx rfl (hb hby at_271) rfl k) ?_
        show own_Run p e below _ T0 (mkF m 273 #[.val (.int p1), .val (.int p2), .val (.int p3), .val (.int p4), .val (.int p5), .val (.int p6), .val (.int x6), .val (.int x7), .val (.int x8), .val (.int x9), .val (.int x10), .val (.int x11), .val (.int x12), .val (.int x13), .val (.int x14), .val (.int x15), .val (.int x16), .val (.int x17), .val (.ref o18), .val (.int 2), .val (.int 3), .val (.int 4), .val (.int 5), .val (.ref o23), .val (.int r5), .val (.int r4), .val (.int r3), .unset, .unset, .unset] [(.int x12)])
        refine own_go (fun _ k => XS.iload X0.here hx rfl (hb hby at_273) rfl k) ?_
        refine own_go (fun _ k => XS.iconst X0.here hx rfl (hb hby at_275) k) ?_
        obtain ⟨_, _, ⟨T547, L547, k547, n547⟩, -, X547, ⟨Lc547, hQ547, l547, y547, z547⟩, st547⟩ := Jvm.LawKit.callS X0 hx (y := (⟨own_K1, "hits", "(III)Z"⟩ : MethodName)) hown (mvT hZ (W 42 rfl)) (mvT hZ (W 43 rfl)) (mvT hZ (W 40 rfl)) (mvT hZ (W 44 rfl)) (by decide) (backOf (W := 0) (rm7 l Z a0 hw [] x12 x13 (2 : Int32) (own_hit x12 x13 (2 : Int32)) hh n0 Z0 (own_hitP x12 x13 (2 : Int32))) hZ (W 44 rfl) (W 40 rfl) (by decide) (by decide)) (g := (mkF m 276 #[.val (.int p1), .val (.int p2), .val (.int p3), .val (.int p4), .val (.int p5), .val (.int p6), .val (.int x6), .val (.int x7), .val (.int x8), .val (.int x9), .val (.int x10), .val (.int x11), .val (.int x12), .val (.int x13), .val (.int x14), .val (.int x15), .val (.int x16), .val (.int x17), .val (.ref o18), .val (.int 2), .val (.int 3), .val (.int 4), .val (.int 5), .val (.ref o23), .val (.int r5), .val (.int r4), .val (.int r3), .unset, .unset, .unset] [(.int 2), (.int x13), (.int x12)])) rfl (by rw [hml]; rfl) (argsL := [(.int x12), (.int x13), (.int 2)]) (rest := []) (lenOf pd_3 rfl) rfl (by show 2 * 0 + _ ≤ _; exact Nat.le_of_eq rfl) (hb hby at_276) (fun _ _ => ⟨rfl, e0, (by decide : 6 + 0 ≤ _), (by decide : 5131 + 0 ≤ _)⟩)
        dsimp only [Pt.U, Pt.locs, Pt.cells, Pt.slots] at X547 l547 y547 z547 st547 hQ547
        subst l547 y547 z547
        obtain ⟨rfl, N547q, e547⟩ := hQ547
        have N547 := Fr.app N0 N547q
        refine own_go st547 ?_
        by_cases hc279_548 : (own_hit x12 x13 (2 : Int32)) = (0 : Int32)
        · refine own_go (fun _ k => XS.ifNo X547.here hx rfl (hb hby at_279) rfl ((if0 _ _).trans (teq hc279_548).2) k) ?_
          refine own_go (fun _ k => XS.iload X547.here hx rfl (hb hby at_282) rfl k) ?_
          by_cases hc284_549 : r5 = (0 : Int32)
          · refine own_go (fun _ k => XS.ifYes X547.here hx rfl (pc0 := 284) (pc' := 302) rfl (hb hby at_284) rfl ((if0 _ _).trans (teq hc284_549).1) (by decide) (by decide) k) ?_
            refine own_go (fun _ k => XS.iconst X547.here hx rfl (hb hby at_302) k) ?_
            refine own_go (fun _ k => XS.istore X547.here hx rfl (hb hby at_303) rfl (l' := #[.val (.int p1), .val (.int p2), .val (.int p3), .val (.int p4), .val (.int p5), .val (.int p6), .val (.int x6), .val (.int x7), .val (.int x8), .val (.int x9), .val (.int x10), .val (.int x11), .val (.int x12), .val (.int x13), .val (.int x14), .val (.int x15), .val (.int x16), .val (.int x17), .val (.ref o18), .val (.int 2), .val (.int 3), .val (.int 4), .val (.int 5), .val (.ref o23), .val (.int r5), .val (.int r4), .val (.int r3), .val (.int 0), .unset, .unset]) rfl k) ?_
            show own_Run p e below _ T547 (mkF m 305 #[.val (.int p1), .val (.int p2), .val (.int p3), .val (.int p4), .val (.int p5), .val (.int p6), .val (.int x6), .val (.int x7), .val (.int x8), .val (.int x9), .val (.int x10), .val (.int x11), .val (.int x12), .val (.int x13), .val (.int x14), .val (.int x15), .val (.int x16), .val (.int x17), .val (.ref o18), .val (.int 2), .val (.int 3), .val (.int 4), .val (.int 5), .val (.ref o23), .val (.int r5), .val (.int r4), .val (.int r3), .val (.int 0), .unset, .unset] [])
            have hs550 : (0 : Int32) = (own_g2_3 x17 x7 x8 x10 x11 x12 x13 x15 x16) := by
              have hsp : (own_g2_3 x17 x7 x8 x10 x11 x12 x13 x15 x16) = own_st r3 x10 x11 2 (own_st r4 x12 x13 2 (own_st r5 x15 x16 2 (if x17 = (2 : Int32) then 1 else 0))) := by
                rw [hr3, hr4, hr5]
                rfl
              rw [hsp]
              rw [own_st0 _ _ _ _ _ hc252_539]
              rw [own_stN _ _ _ _ _ hc279_548]
              rw [own_st0 _ _ _ _ _ hc284_549]
              rw [if_neg hc247_537]
            exact lw2 p1 p2 p3 p4 p5 p6 h0 n0 hx hZ hw hby hml hown hnm hret hlk x6 x7 x8 x9 x10 x11 x12 x13 x14 x15 x16 x17 o18 o23 k23 nn vs r5 r4 r3 (0 : Int32) T547 hh _ X547 e547 N547 Z0 K0 V_o23 (hvs) (hr5) (hr4) (hr3) (hs550) 
          · refine own_go (fun _ k => XS.ifNo X547.here hx rfl (hb hby at_284) rfl ((if0 _ _).trans (feq hc284_549).1) k) ?_
            refine own_go (fun _ k => XS.iload X547.here hx rfl (hb hby at_287) rfl k) ?_
            refine own_go (fun _ k => XS.iload X547.here hx rfl (hb hby at_289) rfl k) ?_
            show own_Run p e below _ T547 (mkF m 291 #[.val (.int p1), .val (.int p2), .val (.int p3), .val (.int p4), .val (.int p5), .val (.int p6), .val (.int x6), .val (.int x7), .val (.int x8), .val (.int x9), .val (.int x10), .val (.int x11), .val (.int x12), .val (.int x13), .val (.int x14), .val (.int x15), .val (.int x16), .val (.int x17), .val (.ref o18), .val (.int 2), .val (.int 3), .val (.int 4), .val (.int 5), .val (.ref o23), .val (.int r5), .val (.int r4), .val (.int r3), .unset, .unset, .unset] [(.int x16), (.int x15)])
            refine own_go (fun _ k => XS.iconst X547.here hx rfl (hb hby at_291) k) ?_
            obtain ⟨_, _, ⟨T551, L551, k551, n551⟩, -, X551, ⟨Lc551, hQ551, l551, y551, z551⟩, st551⟩ := Jvm.LawKit.callS X547 hx (y := (⟨own_K1, "hits", "(III)Z"⟩ : MethodName)) hown (mvT hZ (W 42 rfl)) (mvT hZ (W 43 rfl)) (mvT hZ (W 40 rfl)) (mvT hZ (W 44 rfl)) (by decide) (backOf (W := 0) (rm7 l Z a0 hw [] x15 x16 (2 : Int32) (own_hit x15 x16 (2 : Int32)) hh n0 Z0 (own_hitP x15 x16 (2 : Int32))) hZ (W 44 rfl) (W 40 rfl) (by decide) (by decide)) (g := (mkF m 292 #[.val (.int p1), .val (.int p2), .val (.int p3), .val (.int p4), .val (.int p5), .val (.int p6), .val (.int x6), .val (.int x7), .val (.int x8), .val (.int x9), .val (.int x10), .val (.int x11), .val (.int x12), .val (.int x13), .val (.int x14), .val (.int x15), .val (.int x16), .val (.int x17), .val (.ref o18), .val (.int 2), .val (.int 3), .val (.int 4), .val (.int 5), .val (.ref o23), .val (.int r5), .val (.int r4), .val (.int r3), .unset, .unset, .unset] [(.int 2), (.int x16), (.int x15)])) rfl (by rw [hml]; rfl) (argsL := [(.int x15), (.int x16), (.int 2)]) (rest := []) (lenOf pd_3 rfl) rfl (by show 2 * 0 + _ ≤ _; exact Nat.le_of_eq rfl) (hb hby at_292) (fun _ _ => ⟨rfl, e547, (by decide : 6 + 0 ≤ _), (by decide : 5131 + 0 ≤ _)⟩)
            dsimp only [Pt.U, Pt.locs, Pt.cells, Pt.slots] at X551 l551 y551 z551 st551 hQ551
            subst l551 y551 z551
            obtain ⟨rfl, N551q, e551⟩ := hQ551
            have N551 := Fr.app N547 N551q
            refine own_go st551 ?_
            by_cases hc295_552 : (own_hit x15 x16 (2 : Int32)) = (0 : Int32)
            · refine own_go (fun _ k => XS.ifYes X551.here hx rfl (pc0 := 295) (pc' := 302) rfl (hb hby at_295) rfl ((if0 _ _).trans (teq hc295_552).1) (by decide) (by decide) k) ?_
              refine own_go (fun _ k => XS.iconst X551.here hx rfl (hb hby at_302) k) ?_
              refine own_go (fun _ k => XS.istore X551.here hx rfl (hb hby at_303) rfl (l' := #[.val (.int p1), .val (.int p2), .val (.int p3), .val (.int p4), .val (.int p5), .val (.int p6), .val (.int x6), .val (.int x7), .val (.int x8), .val (.int x9), .val (.int x10), .val (.int x11), .val (.int x12), .val (.int x13), .val (.int x14), .val (.int x15), .val (.int x16), .val (.int x17), .val (.ref o18), .val (.int 2), .val (.int 3), .val (.int 4), .val (.int 5), .val (.ref o23), .val (.int r5), .val (.int r4), .val (.int r3), .val (.int 0), .unset, .unset]) rfl k) ?_
              have hs553 : (0 : Int32) = (own_g2_3 x17 x7 x8 x10 x11 x12 x13 x15 x16) := by
                have hsp : (own_g2_3 x17 x7 x8 x10 x11 x12 x13 x15 x16) = own_st r3 x10 x11 2 (own_st r4 x12 x13 2 (own_st r5 x15 x16 2 (if x17 = (2 : Int32) then 1 else 0))) := by
                  rw [hr3, hr4, hr5]
                  rfl
                rw [hsp]
                rw [own_st0 _ _ _ _ _ hc252_539]
                rw [own_stN _ _ _ _ _ hc279_548]
                rw [own_stN _ _ _ _ _ hc295_552]
                rw [if_neg hc247_537]
              exact lw2 p1 p2 p3 p4 p5 p6 h0 n0 hx hZ hw hby hml hown hnm hret hlk x6 x7 x8 x9 x10 x11 x12 x13 x14 x15 x16 x17 o18 o23 k23 nn vs r5 r4 r3 (0 : Int32) T551 hh _ X551 e551 N551 Z0 K0 V_o23 (hvs) (hr5) (hr4) (hr3) (hs553) 
            · refine own_go (fun _ k => XS.ifNo X551.here hx rfl (hb hby at_295) rfl ((if0 _ _).trans (feq hc295_552).1) k) ?_
              refine own_go (fun _ k => XS.iconst X551.here hx rfl (hb hby at_298) k) ?_
              refine own_go (fun _ k => XS.goto X551.here hx rfl (pc0 := 299) (pc' := 303) rfl (hb hby at_299) (by decide) (by decide) k) ?_
              refine own_go (fun _ k => XS.istore X551.here hx rfl (hb hby at_303) rfl (l' := #[.val (.int p1), .val (.int p2), .val (.int p3), .val (.int p4), .val (.int p5), .val (.int p6), .val (.int x6), .val (.int x7), .val (.int x8), .val (.int x9), .val (.int x10), .val (.int x11), .val (.int x12), .val (.int x13), .val (.int x14), .val (.int x15), .val (.int x16), .val (.int x17), .val (.ref o18), .val (.int 2), .val (.int 3), .val (.int 4), .val (.int 5), .val (.ref o23), .val (.int r5), .val (.int r4), .val (.int r3), .val (.int 1), .unset, .unset]) rfl k) ?_
              have hs554 : (1 : Int32) = (own_g2_3 x17 x7 x8 x10 x11 x12 x13 x15 x16) := by
                have hsp : (own_g2_3 x17 x7 x8 x10 x11 x12 x13 x15 x16) = own_st r3 x10 x11 2 (own_st r4 x12 x13 2 (own_st r5 x15 x16 2 (if x17 = (2 : Int32) then 1 else 0))) := by
                  rw [hr3, hr4, hr5]
                  rfl
                rw [hsp]
                rw [own_st0 _ _ _ _ _ hc252_539]
                rw [own_stN _ _ _ _ _ hc279_548]
                rw [own_stY _ _ _ _ _ (by assumption) hc295_552]
              exact lw2 p1 p2 p3 p4 p5 p6 h0 n0 hx hZ hw hby hml hown hnm hret hlk x6 x7 x8 x9 x10 x11 x12 x13 x14 x15 x16 x17 o18 o23 k23 nn vs r5 r4 r3 (1 : Int32) T551 hh _ X551 e551 N551 Z0 K0 V_o23 (hvs) (hr5) (hr4) (hr3) (hs554) 
        · refine own_go (fun _ k => XS.ifYes X547.here hx rfl (pc0 := 279) (pc' := 298) rfl (hb hby at_279) rfl ((if0 _ _).trans (feq hc279_548).2) (by decide) (by decide) k) ?_
          refine own_go (fun _ k => XS.iconst X547.here hx rfl (hb hby at_298) k) ?_
          refine own_go (fun _ k => XS.goto X547.here hx rfl (pc0 := 299) (pc' := 303) rfl (hb hby at_299) (by decide) (by decide) k) ?_
          refine own_go (fun _ k => XS.istore X547.here hx rfl (hb hby at_303) rfl (l' := #[.val (.int p1), .val (.int p2), .val (.int p3), .val (.int p4), .val (.int p5), .val (.int p6), .val (.int x6), .val (.int x7), .val (.int x8), .val (.int x9), .val (.int x10), .val (.int x11), .val (.int x12), .val (.int x13), .val (.int x14), .val (.int x15), .val (.int x16), .val (.int x17), .val (.ref o18), .val (.int 2), .val (.int 3), .val (.int 4), .val (.int 5), .val (.ref o23), .val (.int r5), .val (.int r4), .val (.int r3), .val (.int 1), .unset, .unset]) rfl k) ?_
          have hs555 : (1 : Int32) = (own_g2_3 x17 x7 x8 x10 x11 x12 x13 x15 x16) := by
            have hsp : (own_g2_3 x17 x7 x8 x10 x11 x12 x13 x15 x16) = own_st r3 x10 x11 2 (own_st r4 x12 x13 2 (own_st r5 x15 x16 2 (if x17 = (2 : Int32) then 1 else 0))) := by
              rw [hr3, hr4, hr5]
              rfl
            rw [hsp]
            rw [own_st0 _ _ _ _ _ hc252_539]
            rw [own_stY _ _ _ _ _ (by assumption) hc279_548]
          exact lw2 p1 p2 p3 p4 p5 p6 h0 n0 hx hZ hw hby hml hown hnm hret hlk x6 x7 x8 x9 x10 x11 x12 x13 x14 x15 x16 x17 o18 o23 k23 nn vs r5 r4 r3 (1 : Int32) T547 hh _ X547 e547 N547 Z0 K0 V_o23 (hvs) (hr5) (hr4) (hr3) (hs555) 
    · refine own_go (fun _ k => XS.ifNo X0.here hx rfl (hb hby at_252) rfl ((if0 _ _).trans (feq hc252_539).1) k) ?_
      refine own_go (fun _ k => XS.iload X0.here hx rfl (hb hby at_255) rfl k) ?_
      refine own_go (fun _ k => XS.iload X0.here hx rfl (hb hby at_257) rfl k) ?_
      refine own_go (fun _ k => XS.iconst X0.here hx rfl (hb hby at_259) k) ?_
      show own_Run p e below _ T0 (mkF m 260 #[.val (.int p1), .val (.int p2), .val (.int p3), .val (.int p4), .val (.int p5), .val (.int p6), .val (.int x6), .val (.int x7), .val (.int x8), .val (.int x9), .val (.int x10), .val (.int x11), .val (.int x12), .val (.int x13), .val (.int x14), .val (.int x15), .val (.int x16), .val (.int x17), .val (.ref o18), .val (.int 2), .val (.int 3), .val (.int 4), .val (.int 5), .val (.ref o23), .val (.int r5), .val (.int r4), .val (.int r3), .unset, .unset, .unset] [(.int 2), (.int x11), (.int x10)])
      obtain ⟨_, _, ⟨T556, L556, k556, n556⟩, -, X556, ⟨Lc556, hQ556, l556, y556, z556⟩, st556⟩ := Jvm.LawKit.callS X0 hx (y := (⟨own_K1, "hits", "(III)Z"⟩ : MethodName)) hown (mvT hZ (W 42 rfl)) (mvT hZ (W 43 rfl)) (mvT hZ (W 40 rfl)) (mvT hZ (W 44 rfl)) (by decide) (backOf (W := 0) (rm7 l Z a0 hw [] x10 x11 (2 : Int32) (own_hit x10 x11 (2 : Int32)) hh n0 Z0 (own_hitP x10 x11 (2 : Int32))) hZ (W 44 rfl) (W 40 rfl) (by decide) (by decide)) (g := (mkF m 260 #[.val (.int p1), .val (.int p2), .val (.int p3), .val (.int p4), .val (.int p5), .val (.int p6), .val (.int x6), .val (.int x7), .val (.int x8), .val (.int x9), .val (.int x10), .val (.int x11), .val (.int x12), .val (.int x13), .val (.int x14), .val (.int x15), .val (.int x16), .val (.int x17), .val (.ref o18), .val (.int 2), .val (.int 3), .val (.int 4), .val (.int 5), .val (.ref o23), .val (.int r5), .val (.int r4), .val (.int r3), .unset, .unset, .unset] [(.int 2), (.int x11), (.int x10)])) rfl (by rw [hml]; rfl) (argsL := [(.int x10), (.int x11), (.int 2)]) (rest := []) (lenOf pd_3 rfl) rfl (by show 2 * 0 + _ ≤ _; exact Nat.le_of_eq rfl) (hb hby at_260) (fun _ _ => ⟨rfl, e0, (by decide : 6 + 0 ≤ _), (by decide : 5131 + 0 ≤ _)⟩)
      dsimp only [Pt.U, Pt.locs, Pt.cells, Pt.slots] at X556 l556 y556 z556 st556 hQ556
      subst l556 y556 z556
      obtain ⟨rfl, N556q, e556⟩ := hQ556
      have N556 := Fr.app N0 N556q
      refine own_go st556 ?_
      by_cases hc263_557 : (own_hit x10 x11 (2 : Int32)) = (0 : Int32)
      · refine own_go (fun _ k => XS.ifNo X556.here hx rfl (hb hby at_263) rfl ((if0 _ _).trans (teq hc263_557).2) k) ?_
        refine own_go (fun _ k => XS.iload X556.here hx rfl (hb hby at_266) rfl k) ?_
        by_cases hc268_558 : r4 = (0 : Int32)
        · refine own_go (fun _ k => XS.ifYes X556.here hx rfl (pc0 := 268) (pc' := 282) rfl (hb hby at_268) rfl ((if0 _ _).trans (teq hc268_558).1) (by decide) (by decide) k) ?_
          refine own_go (fun _ k => XS.iload X556.here hx rfl (hb hby at_282) rfl k) ?_
          by_cases hc284_559 : r5 = (0 : Int32)
          · refine own_go (fun _ k => XS.ifYes X556.here hx rfl (pc0 := 284) (pc' := 302) rfl (hb hby at_284) rfl ((if0 _ _).trans (teq hc284_559).1) (by decide) (by decide) k) ?_
            refine own_go (fun _ k => XS.iconst X556.here hx rfl (hb hby at_302) k) ?_
            refine own_go (fun _ k => XS.istore X556.here hx rfl (hb hby at_303) rfl (l' := #[.val (.int p1), .val (.int p2), .val (.int p3), .val (.int p4), .val (.int p5), .val (.int p6), .val (.int x6), .val (.int x7), .val (.int x8), .val (.int x9), .val (.int x10), .val (.int x11), .val (.int x12), .val (.int x13), .val (.int x14), .val (.int x15), .val (.int x16), .val (.int x17), .val (.ref o18), .val (.int 2), .val (.int 3), .val (.int 4), .val (.int 5), .val (.ref o23), .val (.int r5), .val (.int r4), .val (.int r3), .val (.int 0), .unset, .unset]) rfl k) ?_
            show own_Run p e below _ T556 (mkF m 305 #[.val (.int p1), .val (.int p2), .val (.int p3), .val (.int p4), .val (.int p5), .val (.int p6), .val (.int x6), .val (.int x7), .val (.int x8), .val (.int x9), .val (.int x10), .val (.int x11), .val (.int x12), .val (.int x13), .val (.int x14), .val (.int x15), .val (.int x16), .val (.int x17), .val (.ref o18), .val (.int 2), .val (.int 3), .val (.int 4), .val (.int 5), .val (.ref o23), .val (.int r5), .val (.int r4), .val (.int r3), .val (.int 0), .unset, .unset] [])
            have hs560 : (0 : Int32) = (own_g2_3 x17 x7 x8 x10 x11 x12 x13 x15 x16) := by
              have hsp : (own_g2_3 x17 x7 x8 x10 x11 x12 x13 x15 x16) = own_st r3 x10 x11 2 (own_st r4 x12 x13 2 (own_st r5 x15 x16 2 (if x17 = (2 : Int32) then 1 else 0))) := by
                rw [hr3, hr4, hr5]
                rfl
              rw [hsp]
              rw [own_stN _ _ _ _ _ hc263_557]
              rw [own_st0 _ _ _ _ _ hc268_558]
              rw [own_st0 _ _ _ _ _ hc284_559]
              rw [if_neg hc247_537]
            exact lw2 p1 p2 p3 p4 p5 p6 h0 n0 hx hZ hw hby hml hown hnm hret hlk x6 x7 x8 x9 x10 x11 x12 x13 x14 x15 x16 x17 o18 o23 k23 nn vs r5 r4 r3 (0 : Int32) T556 hh _ X556 e556 N556 Z0 K0 V_o23 (hvs) (hr5) (hr4) (hr3) (hs560) 
          · refine own_go (fun _ k => XS.ifNo X556.here hx rfl (hb hby at_284) rfl ((if0 _ _).trans (feq hc284_559).1) k) ?_
            refine own_go (fun _ k => XS.iload X556.here hx rfl (hb hby at_287) rfl k) ?_
            refine own_go (fun _ k => XS.iload X556.here hx rfl (hb hby at_289) rfl k) ?_
            show own_Run p e below _ T556 (mkF m 291 #[.val (.int p1), .val (.int p2), .val (.int p3), .val (.int p4), .val (.int p5), .val (.int p6), .val (.int x6), .val (.int x7), .val (.int x8), .val (.int x9), .val (.int x10), .val (.int x11), .val (.int x12), .val (.int x13), .val (.int x14), .val (.int x15), .val (.int x16), .val (.int x17), .val (.ref o18), .val (.int 2), .val (.int 3), .val (.int 4), .val (.int 5), .val (.ref o23), .val (.int r5), .val (.int r4), .val (.int r3), .unset, .unset, .unset] [(.int x16), (.int x15)])
            refine own_go (fun _ k => XS.iconst X556.here hx rfl (hb hby at_291) k) ?_
            obtain ⟨_, _, ⟨T561, L561, k561, n561⟩, -, X561, ⟨Lc561, hQ561, l561, y561, z561⟩, st561⟩ := Jvm.LawKit.callS X556 hx (y := (⟨own_K1, "hits", "(III)Z"⟩ : MethodName)) hown (mvT hZ (W 42 rfl)) (mvT hZ (W 43 rfl)) (mvT hZ (W 40 rfl)) (mvT hZ (W 44 rfl)) (by decide) (backOf (W := 0) (rm7 l Z a0 hw [] x15 x16 (2 : Int32) (own_hit x15 x16 (2 : Int32)) hh n0 Z0 (own_hitP x15 x16 (2 : Int32))) hZ (W 44 rfl) (W 40 rfl) (by decide) (by decide)) (g := (mkF m 292 #[.val (.int p1), .val (.int p2), .val (.int p3), .val (.int p4), .val (.int p5), .val (.int p6), .val (.int x6), .val (.int x7), .val (.int x8), .val (.int x9), .val (.int x10), .val (.int x11), .val (.int x12), .val (.int x13), .val (.int x14), .val (.int x15), .val (.int x16), .val (.int x17), .val (.ref o18), .val (.int 2), .val (.int 3), .val (.int 4), .val (.int 5), .val (.ref o23), .val (.int r5), .val (.int r4), .val (.int r3), .unset, .unset, .unset] [(.int 2), (.int x16), (.int x15)])) rfl (by rw [hml]; rfl) (argsL := [(.int x15), (.int x16), (.int 2)]) (rest := []) (lenOf pd_3 rfl) rfl (by show 2 * 0 + _ ≤ _; exact Nat.le_of_eq rfl) (hb hby at_292) (fun _ _ => ⟨rfl, e556, (by decide : 6 + 0 ≤ _), (by decide : 5131 + 0 ≤ _)⟩)
            dsimp only [Pt.U, Pt.locs, Pt.cells, Pt.slots] at X561 l561 y561 z561 st561 hQ561
            subst l561 y561 z561
            obtain ⟨rfl, N561q, e561⟩ := hQ561
            have N561 := Fr.app N556 N561q
            refine own_go st561 ?_
            by_cases hc295_562 : (own_hit x15 x16 (2 : Int32)) = (0 : Int32)
            · refine own_go (fun _ k => XS.ifYes X561.here hx rfl (pc0 := 295) (pc' := 302) rfl (hb hby at_295) rfl ((if0 _ _).trans (teq hc295_562).1) (by decide) (by decide) k) ?_
              refine own_go (fun _ k => XS.iconst X561.here hx rfl (hb hby at_302) k) ?_
              refine own_go (fun _ k => XS.istore X561.here hx rfl (hb hby at_303) rfl (l' := #[.val (.int p1), .val (.int p2), .val (.int p3), .val (.int p4), .val (.int p5), .val (.int p6), .val (.int x6), .val (.int x7), .val (.int x8), .val (.int x9), .val (.int x10), .val (.int x11), .val (.int x12), .val (.int x13), .val (.int x14), .val (.int x15), .val (.int x16), .val (.int x17), .val (.ref o18), .val (.int 2), .val (.int 3), .val (.int 4), .val (.int 5), .val (.ref o23), .val (.int r5), .val (.int r4), .val (.int r3), .val (.int 0), .unset, .unset]) rfl k) ?_
              have hs563 : (0 : Int32) = (own_g2_3 x17 x7 x8 x10 x11 x12 x13 x15 x16) := by
                have hsp : (own_g2_3 x17 x7 x8 x10 x11 x12 x13 x15 x16) = own_st r3 x10 x11 2 (own_st r4 x12 x13 2 (own_st r5 x15 x16 2 (if x17 = (2 : Int32) then 1 else 0))) := by
                  rw [hr3, hr4, hr5]
                  rfl
                rw [hsp]
                rw [own_stN _ _ _ _ _ hc263_557]
                rw [own_st0 _ _ _ _ _ hc268_558]
                rw [own_stN _ _ _ _ _ hc295_562]
                rw [if_neg hc247_537]
              exact lw2 p1 p2 p3 p4 p5 p6 h0 n0 hx hZ hw hby hml hown hnm hret hlk x6 x7 x8 x9 x10 x11 x12 x13 x14 x15 x16 x17 o18 o23 k23 nn vs r5 r4 r3 (0 : Int32) T561 hh _ X561 e561 N561 Z0 K0 V_o23 (hvs) (hr5) (hr4) (hr3) (hs563) 
            · refine own_go (fun _ k => XS.ifNo X561.here hx rfl (hb hby at_295) rfl ((if0 _ _).trans (feq hc295_562).1) k) ?_
              refine own_go (fun _ k => XS.iconst X561.here hx rfl (hb hby at_298) k) ?_
              refine own_go (fun _ k => XS.goto X561.here hx rfl (pc0 := 299) (pc' := 303) rfl (hb hby at_299) (by decide) (by decide) k) ?_
              refine own_go (fun _ k => XS.istore X561.here hx rfl (hb hby at_303) rfl (l' := #[.val (.int p1), .val (.int p2), .val (.int p3), .val (.int p4), .val (.int p5), .val (.int p6), .val (.int x6), .val (.int x7), .val (.int x8), .val (.int x9), .val (.int x10), .val (.int x11), .val (.int x12), .val (.int x13), .val (.int x14), .val (.int x15), .val (.int x16), .val (.int x17), .val (.ref o18), .val (.int 2), .val (.int 3), .val (.int 4), .val (.int 5), .val (.ref o23), .val (.int r5), .val (.int r4), .val (.int r3), .val (.int 1), .unset, .unset]) rfl k) ?_
              have hs564 : (1 : Int32) = (own_g2_3 x17 x7 x8 x10 x11 x12 x13 x15 x16) := by
                have hsp : (own_g2_3 x17 x7 x8 x10 x11 x12 x13 x15 x16) = own_st r3 x10 x11 2 (own_st r4 x12 x13 2 (own_st r5 x15 x16 2 (if x17 = (2 : Int32) then 1 else 0))) := by
                  rw [hr3, hr4, hr5]
                  rfl
                rw [hsp]
                rw [own_stN _ _ _ _ _ hc263_557]
                rw [own_st0 _ _ _ _ _ hc268_558]
                rw [own_stY _ _ _ _ _ (by assumption) hc295_562]
              exact lw2 p1 p2 p3 p4 p5 p6 h0 n0 hx hZ hw hby hml hown hnm hret hlk x6 x7 x8 x9 x10 x11 x12 x13 x14 x15 x16 x17 o18 o23 k23 nn vs r5 r4 r3 (1 : Int32) T561 hh _ X561 e561 N561 Z0 K0 V_o23 (hvs) (hr5) (hr4) (hr3) (hs564) 
        · refine own_go (fun _ k => XS.ifNo X556.here hx rfl (hb hby at_268) rfl ((if0 _ _).trans (feq hc268_558).1) k) ?_
          refine own_go (fun _ k => XS.iload X556.here hx rfl (hb hby at_271) rfl k) ?_
          refine own_go (fun _ k => XS.iload X556.here hx rfl (hb hby at_273) rfl k) ?_
          refine own_go (fun _ k => XS.iconst X556.here hx rfl (hb hby at_275) k) ?_
          obtain ⟨_, _, ⟨T565, L565, k565, n565⟩, -, X565, ⟨Lc565, hQ565, l565, y565, z565⟩, st565⟩ := Jvm.LawKit.callS X556 hx (y := (⟨own_K1, "hits", "(III)Z"⟩ : MethodName)) hown (mvT hZ (W 42 rfl)) (mvT hZ (W 43 rfl)) (mvT hZ (W 40 rfl)) (mvT hZ (W 44 rfl)) (by decide) (backOf (W := 0) (rm7 l Z a0 hw [] x12 x13 (2 : Int32) (own_hit x12 x13 (2 : Int32)) hh n0 Z0 (own_hitP x12 x13 (2 : Int32))) hZ (W 44 rfl) (W 40 rfl) (by decide) (by decide)) (g := (mkF m 276 #[.val (.int p1), .val (.int p2), .val (.int p3), .val (.int p4), .val (.int p5), .val (.int p6), .val (.int x6), .val (.int x7), .val (.int x8), .val (.int x9), .val (.int x10), .val (.int x11), .val (.int x12), .val (.int x13), .val (.int x14), .val (.int x15), .val (.int x16), .val (.int x17), .val (.ref o18), .val (.int 2), .val (.int 3), .val (.int 4), .val (.int 5), .val (.ref o23), .val (.int r5), .val (.int r4), .val (.int r3), .unset, .unset, .unset] [(.int 2), (.int x13), (.int x12)])) rfl (by rw [hml]; rfl) (argsL := [(.int x12), (.int x13), (.int 2)]) (rest := []) (lenOf pd_3 rfl) rfl (by show 2 * 0 + _ ≤ _; exact Nat.le_of_eq rfl) (hb hby at_276) (fun _ _ => ⟨rfl, e556, (by decide : 6 + 0 ≤ _), (by decide : 5131 + 0 ≤ _)⟩)
          dsimp only [Pt.U, Pt.locs, Pt.cells, Pt.slots] at X565 l565 y565 z565 st565 hQ565
          subst l565 y565 z565
          obtain ⟨rfl, N565q, e565⟩ := hQ565
          have N565 := Fr.app N556 N565q
          refine own_go st565 ?_
          show own_Run p e below _ T565 (mkF m 279 #[.val (.int p1), .val (.int p2), .val (.int p3), .val (.int p4), .val (.int p5), .val (.int p6), .val (.int x6), .val (.int x7), .val (.int x8), .val (.int x9), .val (.int x10), .val (.int x11), .val (.int x12), .val (.int x13), .val (.int x14), .val (.int x15), .val (.int x16), .val (.int x17), .val (.ref o18), .val (.int 2), .val (.int 3), .val (.int 4), .val (.int 5), .val (.ref o23), .val (.int r5), .val (.int r4), .val (.int r3), .unset, .unset, .unset] [(.int (own_hit x12 x13 (2 : Int32)))])
          by_cases hc279_566 : (own_hit x12 x13 (2 : Int32)) = (0 : Int32)
          · refine own_go (fun _ k => XS.ifNo X565.here hx rfl (hb hby at_279) rfl ((if0 _ _).trans (teq hc279_566).2) k) ?_
            refine own_go (fun _ k => XS.iload X565.here hx rfl (hb hby at_282) rfl k) ?_
            by_cases hc284_567 : r5 = (0 : Int32)
            · refine own_go (fun _ k => XS.ifYes X565.here hx rfl (pc0 := 284) (pc' := 302) rfl (hb hby at_284) rfl ((if0 _ _).trans (teq hc284_567).1) (by decide) (by decide) k) ?_
              refine own_go (fun _ k => XS.iconst X565.here hx rfl (hb hby at_302) k) ?_
              refine own_go (fun _ k => XS.istore X565.here hx rfl (hb hby at_303) rfl (l' := #[.val (.int p1), .val (.int p2), .val (.int p3), .val (.int p4), .val (.int p5), .val (.int p6), .val (.int x6), .val (.int x7), .val (.int x8), .val (.int x9), .val (.int x10), .val (.int x11), .val (.int x12), .val (.int x13), .val (.int x14), .val (.int x15), .val (.int x16), .val (.int x17), .val (.ref o18), .val (.int 2), .val (.int 3), .val (.int 4), .val (.int 5), .val (.ref o23), .val (.int r5), .val (.int r4), .val (.int r3), .val (.int 0), .unset, .unset]) rfl k) ?_
              have hs568 : (0 : Int32) = (own_g2_3 x17 x7 x8 x10 x11 x12 x13 x15 x16) := by
                have hsp : (own_g2_3 x17 x7 x8 x10 x11 x12 x13 x15 x16) = own_st r3 x10 x11 2 (own_st r4 x12 x13 2 (own_st r5 x15 x16 2 (if x17 = (2 : Int32) then 1 else 0))) := by
                  rw [hr3, hr4, hr5]
                  rfl
                rw [hsp]
                rw [own_stN _ _ _ _ _ hc263_557]
                rw [own_stN _ _ _ _ _ hc279_566]
                rw [own_st0 _ _ _ _ _ hc284_567]
                rw [if_neg hc247_537]
              exact lw2 p1 p2 p3 p4 p5 p6 h0 n0 hx hZ hw hby hml hown hnm hret hlk x6 x7 x8 x9 x10 x11 x12 x13 x14 x15 x16 x17 o18 o23 k23 nn vs r5 r4 r3 (0 : Int32) T565 hh _ X565 e565 N565 Z0 K0 V_o23 (hvs) (hr5) (hr4) (hr3) (hs568) 
            · refine own_go (fun _ k => XS.ifNo X565.here hx rfl (hb hby at_284) rfl ((if0 _ _).trans (feq hc284_567).1) k) ?_
              refine own_go (fun _ k => XS.iload X565.here hx rfl (hb hby at_287) rfl k) ?_
              refine own_go (fun _ k => XS.iload X565.here hx rfl (hb hby at_289) rfl k) ?_
              refine own_go (fun _ k => XS.iconst X565.here hx rfl (hb hby at_291) k) ?_
              obtain ⟨_, _, ⟨T569, L569, k569, n569⟩, -, X569, ⟨Lc569, hQ569, l569, y569, z569⟩, st569⟩ := Jvm.LawKit.callS X565 hx (y := (⟨own_K1, "hits", "(III)Z"⟩ : MethodName)) hown (mvT hZ (W 42 rfl)) (mvT hZ (W 43 rfl)) (mvT hZ (W 40 rfl)) (mvT hZ (W 44 rfl)) (by decide) (backOf (W := 0) (rm7 l Z a0 hw [] x15 x16 (2 : Int32) (own_hit x15 x16 (2 : Int32)) hh n0 Z0 (own_hitP x15 x16 (2 : Int32))) hZ (W 44 rfl) (W 40 rfl) (by decide) (by decide)) (g := (mkF m 292 #[.val (.int p1), .val (.int p2), .val (.int p3), .val (.int p4), .val (.int p5), .val (.int p6), .val (.int x6), .val (.int x7), .val (.int x8), .val (.int x9), .val (.int x10), .val (.int x11), .val (.int x12), .val (.int x13), .val (.int x14), .val (.int x15), .val (.int x16), .val (.int x17), .val (.ref o18), .val (.int 2), .val (.int 3), .val (.int 4), .val (.int 5), .val (.ref o23), .val (.int r5), .val (.int r4), .val (.int r3), .unset, .unset, .unset] [(.int 2), (.int x16), (.int x15)])) rfl (by rw [hml]; rfl) (argsL := [(.int x15), (.int x16), (.int 2)]) (rest := []) (lenOf pd_3 rfl) rfl (by show 2 * 0 + _ ≤ _; exact Nat.le_of_eq rfl) (hb hby at_292) (fun _ _ => ⟨rfl, e565, (by decide : 6 + 0 ≤ _), (by decide : 5131 + 0 ≤ _)⟩)
              dsimp only [Pt.U, Pt.locs, Pt.cells, Pt.slots] at X569 l569 y569 z569 st569 hQ569
              subst l569 y569 z569
              obtain ⟨rfl, N569q, e569⟩ := hQ569
              have N569 := Fr.app N565 N569q
              refine own_go st569 ?_
              by_cases hc295_570 : (own_hit x15 x16 (2 : Int32)) = (0 : Int32)
              · refine own_go (fun _ k => XS.ifYes X569.here hx rfl (pc0 := 295) (pc' := 302) rfl (hb hby at_295) rfl ((if0 _ _).trans (teq hc295_570).1) (by decide) (by decide) k) ?_
                show own_Run p e below _ T569 (mkF m 302 #[.val (.int p1), .val (.int p2), .val (.int p3), .val (.int p4), .val (.int p5), .val (.int p6), .val (.int x6), .val (.int x7), .val (.int x8), .val (.int x9), .val (.int x10), .val (.int x11), .val (.int x12), .val (.int x13), .val (.int x14), .val (.int x15), .val (.int x16), .val (.int x17), .val (.ref o18), .val (.int 2), .val (.int 3), .val (.int 4), .val (.int 5), .val (.ref o23), .val (.int r5), .val (.int r4), .val (.int r3), .unset, .unset, .unset] [])
                refine own_go (fun _ k => XS.iconst X569.here hx rfl (hb hby at_302) k) ?_
                refine own_go (fun _ k => XS.istore X569.here hx rfl (hb hby at_303) rfl (l' := #[.val (.int p1), .val (.int p2), .val (.int p3), .val (.int p4), .val (.int p5), .val (.int p6), .val (.int x6), .val (.int x7), .val (.int x8), .val (.int x9), .val (.int x10), .val (.int x11), .val (.int x12), .val (.int x13), .val (.int x14), .val (.int x15), .val (.int x16), .val (.int x17), .val (.ref o18), .val (.int 2), .val (.int 3), .val (.int 4), .val (.int 5), .val (.ref o23), .val (.int r5), .val (.int r4), .val (.int r3), .val (.int 0), .unset, .unset]) rfl k) ?_
                have hs571 : (0 : Int32) = (own_g2_3 x17 x7 x8 x10 x11 x12 x13 x15 x16) := by
                  have hsp : (own_g2_3 x17 x7 x8 x10 x11 x12 x13 x15 x16) = own_st r3 x10 x11 2 (own_st r4 x12 x13 2 (own_st r5 x15 x16 2 (if x17 = (2 : Int32) then 1 else 0))) := by
                    rw [hr3, hr4, hr5]
                    rfl
                  rw [hsp]
                  rw [own_stN _ _ _ _ _ hc263_557]
                  rw [own_stN _ _ _ _ _ hc279_566]
                  rw [own_stN _ _ _ _ _ hc295_570]
                  rw [if_neg hc247_537]
                exact lw2 p1 p2 p3 p4 p5 p6 h0 n0 hx hZ hw hby hml hown hnm hret hlk x6 x7 x8 x9 x10 x11 x12 x13 x14 x15 x16 x17 o18 o23 k23 nn vs r5 r4 r3 (0 : Int32) T569 hh _ X569 e569 N569 Z0 K0 V_o23 (hvs) (hr5) (hr4) (hr3) (hs571) 
              · refine own_go (fun _ k => XS.ifNo X569.here hx rfl (hb hby at_295) rfl ((if0 _ _).trans (feq hc295_570).1) k) ?_
                show own_Run p e below _ T569 (mkF m 298 #[.val (.int p1), .val (.int p2), .val (.int p3), .val (.int p4), .val (.int p5), .val (.int p6), .val (.int x6), .val (.int x7), .val (.int x8), .val (.int x9), .val (.int x10), .val (.int x11), .val (.int x12), .val (.int x13), .val (.int x14), .val (.int x15), .val (.int x16), .val (.int x17), .val (.ref o18), .val (.int 2), .val (.int 3), .val (.int 4), .val (.int 5), .val (.ref o23), .val (.int r5), .val (.int r4), .val (.int r3), .unset, .unset, .unset] [])
                refine own_go (fun _ k => XS.iconst X569.here hx rfl (hb hby at_298) k) ?_
                refine own_go (fun _ k => XS.goto X569.here hx rfl (pc0 := 299) (pc' := 303) rfl (hb hby at_299) (by decide) (by decide) k) ?_
                refine own_go (fun _ k => XS.istore X569.here hx rfl (hb hby at_303) rfl (l' := #[.val (.int p1), .val (.int p2), .val (.int p3), .val (.int p4), .val (.int p5), .val (.int p6), .val (.int x6), .val (.int x7), .val (.int x8), .val (.int x9), .val (.int x10), .val (.int x11), .val (.int x12), .val (.int x13), .val (.int x14), .val (.int x15), .val (.int x16), .val (.int x17), .val (.ref o18), .val (.int 2), .val (.int 3), .val (.int 4), .val (.int 5), .val (.ref o23), .val (.int r5), .val (.int r4), .val (.int r3), .val (.int 1), .unset, .unset]) rfl k) ?_
                have hs572 : (1 : Int32) = (own_g2_3 x17 x7 x8 x10 x11 x12 x13 x15 x16) := by
                  have hsp : (own_g2_3 x17 x7 x8 x10 x11 x12 x13 x15 x16) = own_st r3 x10 x11 2 (own_st r4 x12 x13 2 (own_st r5 x15 x16 2 (if x17 = (2 : Int32) then 1 else 0))) := by
                    rw [hr3, hr4, hr5]
                    rfl
                  rw [hsp]
                  rw [own_stN _ _ _ _ _ hc263_557]
                  rw [own_stN _ _ _ _ _ hc279_566]
                  rw [own_stY _ _ _ _ _ (by assumption) hc295_570]
                exact lw2 p1 p2 p3 p4 p5 p6 h0 n0 hx hZ hw hby hml hown hnm hret hlk x6 x7 x8 x9 x10 x11 x12 x13 x14 x15 x16 x17 o18 o23 k23 nn vs r5 r4 r3 (1 : Int32) T569 hh _ X569 e569 N569 Z0 K0 V_o23 (hvs) (hr5) (hr4) (hr3) (hs572) 
          · refine own_go (fun _ k => XS.ifYes X565.here hx rfl (pc0 := 279) (pc' := 298) rfl (hb hby at_279) rfl ((if0 _ _).trans (feq hc279_566).2) (by decide) (by decide) k) ?_
            refine own_go (fun _ k => XS.iconst X565.here hx rfl (hb hby at_298) k) ?_
            refine own_go (fun _ k => XS.goto X565.here hx rfl (pc0 := 299) (pc' := 303) rfl (hb hby at_299) (by decide) (by decide) k) ?_
            refine own_go (fun _ k => XS.istore X565.here hx rfl (hb hby at_303) rfl (l' := #[.val (.int p1), .val (.int p2), .val (.int p3), .val (.int p4), .val (.int p5), .val (.int p6), .val (.int x6), .val (.int x7), .val (.int x8), .val (.int x9), .val (.int x10), .val (.int x11), .val (.int x12), .val (.int x13), .val (.int x14), .val (.int x15), .val (.int x16), .val (.int x17), .val (.ref o18), .val (.int 2), .val (.int 3), .val (.int 4), .val (.int 5), .val (.ref o23), .val (.int r5), .val (.int r4), .val (.int r3), .val (.int 1), .unset, .unset]) rfl k) ?_
            have hs573 : (1 : Int32) = (own_g2_3 x17 x7 x8 x10 x11 x12 x13 x15 x16) := by
              have hsp : (own_g2_3 x17 x7 x8 x10 x11 x12 x13 x15 x16) = own_st r3 x10 x11 2 (own_st r4 x12 x13 2 (own_st r5 x15 x16 2 (if x17 = (2 : Int32) then 1 else 0))) := by
                rw [hr3, hr4, hr5]
                rfl
              rw [hsp]
              rw [own_stN _ _ _ _ _ hc263_557]
              rw [own_stY _ _ _ _ _ (by assumption) hc279_566]
            exact lw2 p1 p2 p3 p4 p5 p6 h0 n0 hx hZ hw hby hml hown hnm hret hlk x6 x7 x8 x9 x10 x11 x12 x13 x14 x15 x16 x17 o18 o23 k23 nn vs r5 r4 r3 (1 : Int32) T565 hh _ X565 e565 N565 Z0 K0 V_o23 (hvs) (hr5) (hr4) (hr3) (hs573) 
      · refine own_go (fun _ k => XS.ifYes X556.here hx rfl (pc0 := 263) (pc' := 298) rfl (hb hby at_263) rfl ((if0 _ _).trans (feq hc263_557).2) (by decide) (by decide) k) ?_
        refine own_go (fun _ k => XS.iconst X556.here hx rfl (hb hby at_298) k) ?_
        refine own_go (fun _ k => XS.goto X556.here hx rfl (pc0 := 299) (pc' := 303) rfl (hb hby at_299) (by decide) (by decide) k) ?_
        refine own_go (fun _ k => XS.istore X556.here hx rfl (hb hby at_303) rfl (l' := #[.val (.int p1), .val (.int p2), .val (.int p3), .val (.int p4), .val (.int p5), .val (.int p6), .val (.int x6), .val (.int x7), .val (.int x8), .val (.int x9), .val (.int x10), .val (.int x11), .val (.int x12), .val (.int x13), .val (.int x14), .val (.int x15), .val (.int x16), .val (.int x17), .val (.ref o18), .val (.int 2), .val (.int 3), .val (.int 4), .val (.int 5), .val (.ref o23), .val (.int r5), .val (.int r4), .val (.int r3), .val (.int 1), .unset, .unset]) rfl k) ?_
        have hs574 : (1 : Int32) = (own_g2_3 x17 x7 x8 x10 x11 x12 x13 x15 x16) := by
          have hsp : (own_g2_3 x17 x7 x8 x10 x11 x12 x13 x15 x16) = own_st r3 x10 x11 2 (own_st r4 x12 x13 2 (own_st r5 x15 x16 2 (if x17 = (2 : Int32) then 1 else 0))) := by
            rw [hr3, hr4, hr5]
            rfl
          rw [hsp]
          rw [own_stY _ _ _ _ _ (by assumption) hc263_557]
        exact lw2 p1 p2 p3 p4 p5 p6 h0 n0 hx hZ hw hby hml hown hnm hret hlk x6 x7 x8 x9 x10 x11 x12 x13 x14 x15 x16 x17 o18 o23 k23 nn vs r5 r4 r3 (1 : Int32) T556 hh _ X556 e556 N556 Z0 K0 V_o23 (hvs) (hr5) (hr4) (hr3) (hs574) 
set_option maxRecDepth 65536 in
set_option maxHeartbeats 40000000 in
theorem lw4 {p : Program} {l : Launch} {e : Env} {s : State} {m : MethodId} {args : Array Value} {below : List Frame} {meth : Method} {c : Code} {Z : State} {a0 : Array Value} (p1 : Int32) (p2 : Int32) (p3 : Int32) (p4 : Int32) (p5 : Int32) (p6 : Int32) (h0 : Heap) (n0 : Nat) (hx : p.tables.exec = Jvm.exec) (hZ : Z.Warmed39 s.vm) (hw : ∀ d ∈ tables_1, d.before a0 Z = true) (hby : c.code = code) (hml : c.maxLocals = 30) (hown : s.vm.findClass own_K1 = some m.cls) (hnm : meth.name = "law") (hret : meth.sig.returnType = some .boolean) (hlk : meth.locks = false)
    (x6 : Int32) (x7 : Int32) (x8 : Int32) (x9 : Int32) (x10 : Int32) (x11 : Int32) (x12 : Int32) (x13 : Int32) (x14 : Int32) (x15 : Int32) (x16 : Int32) (x17 : Int32) (o18 : Addr) (o23 : Addr) (k23 : ClassId) (nn : Int32) (vs : List Value) (r5 : Int32) (r4 : Int32) (T0 : State) (hh : Heap) (locs : List Loc) (X0 : Stand p l e room_1 s m args below meth c T0 locs 6 5131) (e0 : T0.heap = hh) (N0 : Fr n0 locs) (Z0 : n0 ≤ hh.size) (K0 : Keep h0 hh []) (V_o23 : Arv Z hh o23 k23 .boolean nn vs (.int 0)) (hvs : own_HV x17 nn vs x7 x8 x10 x11 x12 x13 x15 x16) (hr5 : r5 = (own_g5_6 x17 x7 x8 x10 x11 x12 x13 x15 x16)) (hr4 : r4 = (own_g4_5 x17 x7 x8 x10 x11 x12 x13 x15 x16)) :
    own_Run p e below (fun o U' => ∃ v L, o = .returned v ∧ Q0 Z p1 p2 p3 p4 p5 p6 h0 n0 v U'.heap L ∧ FrameEnd s o U' L room_1.cells room_1.slots) T0 (mkF m 199 #[.val (.int p1), .val (.int p2), .val (.int p3), .val (.int p4), .val (.int p5), .val (.int p6), .val (.int x6), .val (.int x7), .val (.int x8), .val (.int x9), .val (.int x10), .val (.int x11), .val (.int x12), .val (.int x13), .val (.int x14), .val (.int x15), .val (.int x16), .val (.int x17), .val (.ref o18), .val (.int 2), .val (.int 3), .val (.int 4), .val (.int 5), .val (.ref o23), .val (.int r5), .val (.int r4), .unset, .unset, .unset, .unset] []) := by
  have W := fun (k : Nat) {d : Jvm.Cond} (h : tables_1[k]? = some d) => hw d (List.mem_of_getElem? h)
  show own_Run p e below _ T0 (mkF m 199 #[.val (.int p1), .val (.int p2), .val (.int p3), .val (.int p4), .val (.int p5), .val (.int p6), .val (.int x6), .val (.int x7), .val (.int x8), .val (.int x9), .val (.int x10), .val (.int x11), .val (.int x12), .val (.int x13), .val (.int x14), .val (.int x15), .val (.int x16), .val (.int x17), .val (.ref o18), .val (.int 2), .val (.int 3), .val (.int 4), .val (.int 5), .val (.ref o23), .val (.int r5), .val (.int r4), .unset, .unset, .unset, .unset] [])
  refine own_go (fun _ k => XS.iload X0.here hx rfl (hb hby at_199) rfl k) ?_
  refine own_go (fun _ k => XS.iconst X0.here hx rfl (hb hby at_201) k) ?_
  by_cases hc202_575 : x17 = (3 : Int32)
  · refine own_go (fun _ k => XS.icmpYes X0.here hx rfl (pc0 := 202) (pc' := 237) rfl (hb hby at_202) rfl (teq hc202_575).1 (by decide) (by decide) k) ?_
    refine own_go (fun _ k => XS.iconst X0.here hx rfl (hb hby at_237) k) ?_
    refine own_go (fun _ k => XS.goto X0.here hx rfl (pc0 := 238) (pc' := 242) rfl (hb hby at_238) (by decide) (by decide) k) ?_
    refine own_go (fun _ k => XS.istore X0.here hx rfl (hb hby at_242) rfl (l' := #[.val (.int p1), .val (.int p2), .val (.int p3), .val (.int p4), .val (.int p5), .val (.int p6), .val (.int x6), .val (.int x7), .val (.int x8), .val (.int x9), .val (.int x10), .val (.int x11), .val (.int x12), .val (.int x13), .val (.int x14), .val (.int x15), .val (.int x16), .val (.int x17), .val (.ref o18), .val (.int 2), .val (.int 3), .val (.int 4), .val (.int 5), .val (.ref o23), .val (.int r5), .val (.int r4), .val (.int 1), .unset, .unset, .unset]) rfl k) ?_
    have hs576 : (1 : Int32) = (own_g3_4 x17 x7 x8 x10 x11 x12 x13 x15 x16) := by
      have hsp : (own_g3_4 x17 x7 x8 x10 x11 x12 x13 x15 x16) = own_st r4 x12 x13 3 (own_st r5 x15 x16 3 (if x17 = (3 : Int32) then 1 else 0)) := by
        rw [hr4, hr5]
        rfl
      rw [hsp]
      rw [if_pos hc202_575]
      rw [own_st1]
      rw [own_st1]
    exact lw3 p1 p2 p3 p4 p5 p6 h0 n0 hx hZ hw hby hml hown hnm hret hlk x6 x7 x8 x9 x10 x11 x12 x13 x14 x15 x16 x17 o18 o23 k23 nn vs r5 r4 (1 : Int32) T0 hh _ X0 e0 N0 Z0 K0 V_o23 (hvs) (hr5) (hr4) (hs576) 
  · refine own_go (fun _ k => XS.icmpNo X0.here hx rfl (hb hby at_202) rfl (feq hc202_575).1 k) ?_
    refine own_go (fun _ k => XS.iload X0.here hx rfl (hb hby at_205) rfl k) ?_
    by_cases hc207_577 : r4 = (0 : Int32)
    · refine own_go (fun _ k => XS.ifYes X0.here hx rfl (pc0 := 207) (pc' := 221) rfl (hb hby at_207) rfl ((if0 _ _).trans (teq hc207_577).1) (by decide) (by decide) k) ?_
      refine own_go (fun _ k => XS.iload X0.here hx rfl (hb hby at_221) rfl k) ?_
      by_cases hc223_578 : r5 = (0 : Int32)
      · refine own_go (fun _ k => XS.ifYes X0.here hx rfl (pc0 := 223) (pc' := 241) rfl (hb hby at_223) rfl ((if0 _ _).trans (teq hc223_578).1) (by decide) (by decide) k) ?_
        refine own_go (fun _ k => XS.iconst X0.here hx rfl (hb hby at_241) k) ?_
        show own_Run p e below _ T0 (mkF m 242 #[.val (.int p1), .val (.int p2), .val (.int p3), .val (.int p4), .val (.int p5), .val (.int p6), .val (.int x6), .val (.int x7), .val (.int x8), .val (.int x9), .val (.int x10), .val (.int x11), .val (.int x12), .val (.int x13), .val (.int x14), .val (.int x15), .val (.int x16), .val (.int x17), .val (.ref o18), .val (.int 2), .val (.int 3), .val (.int 4), .val (.int 5), .val (.ref o23), .val (.int r5), .val (.int r4), .unset, .unset, .unset, .unset] [(.int 0)])
        refine own_go (fun _ k => XS.istore X0.here hx rfl (hb hby at_242) rfl (l' := #[.val (.int p1), .val (.int p2), .val (.int p3), .val (.int p4), .val (.int p5), .val (.int p6), .val (.int x6), .val (.int x7), .val (.int x8), .val (.int x9), .val (.int x10), .val (.int x11), .val (.int x12), .val (.int x13), .val (.int x14), .val (.int x15), .val (.int x16), .val (.int x17), .val (.ref o18), .val (.int 2), .val (.int 3), .val (.int 4), .val (.int 5), .val (.ref o23), .val (.int r5), .val (.int r4), .val (.int 0), .unset, .unset, .unset]) rfl k) ?_
        have hs579 : (0 : Int32) = (own_g3_4 x17 x7 x8 x10 x11 x12 x13 x15 x16) := by
          have hsp : (own_g3_4 x17 x7 x8 x10 x11 x12 x13 x15 x16) = own_st r4 x12 x13 3 (own_st r5 x15 x16 3 (if x17 = (3 : Int32) then 1 else 0)) := by
            rw [hr4, hr5]
            rfl
          rw [hsp]
          rw [own_st0 _ _ _ _ _ hc207_577]
          rw [own_st0 _ _ _ _ _ hc223_578]
          rw [if_neg hc202_575]
        exact lw3 p1 p2 p3 p4 p5 p6 h0 n0 hx hZ hw hby hml hown hnm hret hlk x6 x7 x8 x9 x10 x11 x12 x13 x14 x15 x16 x17 o18 o23 k23 nn vs r5 r4 (0 : Int32) T0 hh _ X0 e0 N0 Z0 K0 V_o23 (hvs) (hr5) (hr4) (hs579) 
      · refine own_go (fun _ k => XS.ifNo X0.here hx rfl (hb hby at_223) rfl ((if0 _ _).trans (feq hc223_578).1) k) ?_
        refine own_go (fun _ k => XS.iload X0.here hx rfl (hb hby at_226) rfl k) ?_
        show own_Run p e below _ T0 (mkF m 228 #[.val (.int p1), .val (.int p2), .val (.int p3), .val (.int p4), .val (.int p5), .val (.int p6), .val (.int x6), .val (.int x7), .val (.int x8), .val (.int x9), .val (.int x10), .val (.int x11), .val (.int x12), .val (.int x13), .val (.int x14), .val (.int x15), .val (.int x16), .val (.int x17), .val (.ref o18), .val (.int 2), .val (.int 3), .val (.int 4), .val (.int 5), .val (.ref o23), .val (.int r5), .val (.int r4), .unset, .unset, .unset, .unset] [(.int x15)])
        refine own_go (fun _ k => XS.iload X0.here hx rfl (hb hby at_228) rfl k) ?_
        refine own_go (fun _ k => XS.iconst X0.here hx rfl (hb hby at_230) k) ?_
        obtain ⟨_, _, ⟨T580, L580, k580, n580⟩, -, X580, ⟨Lc580, hQ580, l580, y580, z580⟩, st580⟩ := Jvm.LawKit.callS X0 hx (y := (⟨own_K1, "hits", "(III)Z"⟩ : MethodName)) hown (mvT hZ (W 42 rfl)) (mvT hZ (W 43 rfl)) (mvT hZ (W 40 rfl)) (mvT hZ (W 44 rfl)) (by decide) (backOf (W := 0) (rm7 l Z a0 hw [] x15 x16 (3 : Int32) (own_hit x15 x16 (3 : Int32)) hh n0 Z0 (own_hitP x15 x16 (3 : Int32))) hZ (W 44 rfl) (W 40 rfl) (by decide) (by decide)) (g := (mkF m 231 #[.val (.int p1), .val (.int p2), .val (.int p3), .val (.int p4), .val (.int p5), .val (.int p6), .val (.int x6), .val (.int x7), .val (.int x8), .val (.int x9), .val (.int x10), .val (.int x11), .val (.int x12), .val (.int x13), .val (.int x14), .val (.int x15), .val (.int x16), .val (.int x17), .val (.ref o18), .val (.int 2), .val (.int 3), .val (.int 4), .val (.int 5), .val (.ref o23), .val (.int r5), .val (.int r4), .unset, .unset, .unset, .unset] [(.int 3), (.int x16), (.int x15)])) rfl (by rw [hml]; rfl) (argsL := [(.int x15), (.int x16), (.int 3)]) (rest := []) (lenOf pd_3 rfl) rfl (by show 2 * 0 + _ ≤ _; exact Nat.le_of_eq rfl) (hb hby at_231) (fun _ _ => ⟨rfl, e0, (by decide : 6 + 0 ≤ _), (by decide : 5131 + 0 ≤ _)⟩)
        dsimp only [Pt.U, Pt.locs, Pt.cells, Pt.slots] at X580 l580 y580 z580 st580 hQ580
        subst l580 y580 z580
        obtain ⟨rfl, N580q, e580⟩ := hQ580
        have N580 := Fr.app N0 N580q
        refine own_go st580 ?_
        by_cases hc234_581 : (own_hit x15 x16 (3 : Int32)) = (0 : Int32)
        · refine own_go (fun _ k => XS.ifYes X580.here hx rfl (pc0 := 234) (pc' := 241) rfl (hb hby at_234) rfl ((if0 _ _).trans (teq hc234_581).1) (by decide) (by decide) k) ?_
          refine own_go (fun _ k => XS.iconst X580.here hx rfl (hb hby at_241) k) ?_
          refine own_go (fun _ k => XS.istore X580.here hx rfl (hb hby at_242) rfl (l' := #[.val (.int p1), .val (.int p2), .val (.int p3), .val (.int p4), .val (.int p5), .val (.int p6), .val (.int x6), .val (.int x7), .val (.int x8), .val (.int x9), .val (.int x10), .val (.int x11), .val (.int x12), .val (.int x13), .val (.int x14), .val (.int x15), .val (.int x16), .val (.int x17), .val (.ref o18), .val (.int 2), .val (.int 3), .val (.int 4), .val (.int 5), .val (.ref o23), .val (.int r5), .val (.int r4), .val (.int 0), .unset, .unset, .unset]) rfl k) ?_
          have hs582 : (0 : Int32) = (own_g3_4 x17 x7 x8 x10 x11 x12 x13 x15 x16) := by
            have hsp : (own_g3_4 x17 x7 x8 x10 x11 x12 x13 x15 x16) = own_st r4 x12 x13 3 (own_st r5 x15 x16 3 (if x17 = (3 : Int32) then 1 else 0)) := by
              rw [hr4, hr5]
              rfl
            rw [hsp]
            rw [own_st0 _ _ _ _ _ hc207_577]
            rw [own_stN _ _ _ _ _ hc234_581]
            rw [if_neg hc202_575]
          exact lw3 p1 p2 p3 p4 p5 p6 h0 n0 hx hZ hw hby hml hown hnm hret hlk x6 x7 x8 x9 x10 x11 x12 x13 x14 x15 x16 x17 o18 o23 k23 nn vs r5 r4 (0 : Int32) T580 hh _ X580 e580 N580 Z0 K0 V_o23 (hvs) (hr5) (hr4) (hs582) 
        · refine own_go (fun _ k => XS.ifNo X580.here hx rfl (hb hby at_234) rfl ((if0 _ _).trans (feq hc234_581).1) k) ?_
          refine own_go (fun _ k => XS.iconst X580.here hx rfl (hb hby at_237) k) ?_
          refine own_go (fun _ k => XS.goto X580.here hx rfl (pc0 := 238) (pc' := 242) rfl (hb hby at_238) (by decide) (by decide) k) ?_
          refine own_go (fun _ k => XS.istore X580.here hx rfl (hb hby at_242) rfl (l' := #[.val (.int p1), .val (.int p2), .val (.int p3), .val (.int p4), .val (.int p5), .val (.int p6), .val (.int x6), .val (.int x7), .val (.int x8), .val (.int x9), .val (.int x10), .val (.int x11), .val (.int x12), .val (.int x13), .val (.int x14), .val (.int x15), .val (.int x16), .val (.int x17), .val (.ref o18), .val (.int 2), .val (.int 3), .val (.int 4), .val (.int 5), .val (.ref o23), .val (.int r5), .val (.int r4), .val (.int 1), .unset, .unset, .unset]) rfl k) ?_
          have hs583 : (1 : Int32) = (own_g3_4 x17 x7 x8 x10 x11 x12 x13 x15 x16) := by
            have hsp : (own_g3_4 x17 x7 x8 x10 x11 x12 x13 x15 x16) = own_st r4 x12 x13 3 (own_st r5 x15 x16 3 (if x17 = (3 : Int32) then 1 else 0)) := by
              rw [hr4, hr5]
              rfl
            rw [hsp]
            rw [own_st0 _ _ _ _ _ hc207_577]
            rw [own_stY _ _ _ _ _ (by assumption) hc234_581]
          exact lw3 p1 p2 p3 p4 p5 p6 h0 n0 hx hZ hw hby hml hown hnm hret hlk x6 x7 x8 x9 x10 x11 x12 x13 x14 x15 x16 x17 o18 o23 k23 nn vs r5 r4 (1 : Int32) T580 hh _ X580 e580 N580 Z0 K0 V_o23 (hvs) (hr5) (hr4) (hs583) 
    · refine own_go (fun _ k => XS.ifNo X0.here hx rfl (hb hby at_207) rfl ((if0 _ _).trans (feq hc207_577).1) k) ?_
      refine own_go (fun _ k => XS.iload X0.here hx rfl (hb hby at_210) rfl k) ?_
      refine own_go (fun _ k => XS.iload X0.here hx rfl (hb hby at_212) rfl k) ?_
      refine own_go (fun _ k => XS.iconst X0.here hx rfl (hb hby at_214) k) ?_
      show own_Run p e below _ T0 (mkF m 215 #[.val (.int p1), .val (.int p2), .val (.int p3), .val (.int p4), .val (.int p5), .val (.int p6), .val (.int x6), .val (.int x7), .val (.int x8), .val (.int x9), .val (.int x10), .val (.int x11), .val (.int x12), .val (.int x13), .val (.int x14), .val (.int x15), .val (.int x16), .val (.int x17), .val (.ref o18), .val (.int 2), .val (.int 3), .val (.int 4), .val (.int 5), .val (.ref o23), .val (.int r5), .val (.int r4), .unset, .unset, .unset, .unset] [(.int 3), (.int x13), (.int x12)])
      obtain ⟨_, _, ⟨T584, L584, k584, n584⟩, -, X584, ⟨Lc584, hQ584, l584, y584, z584⟩, st584⟩ := Jvm.LawKit.callS X0 hx (y := (⟨own_K1, "hits", "(III)Z"⟩ : MethodName)) hown (mvT hZ (W 42 rfl)) (mvT hZ (W 43 rfl)) (mvT hZ (W 40 rfl)) (mvT hZ (W 44 rfl)) (by decide) (backOf (W := 0) (rm7 l Z a0 hw [] x12 x13 (3 : Int32) (own_hit x12 x13 (3 : Int32)) hh n0 Z0 (own_hitP x12 x13 (3 : Int32))) hZ (W 44 rfl) (W 40 rfl) (by decide) (by decide)) (g := (mkF m 215 #[.val (.int p1), .val (.int p2), .val (.int p3), .val (.int p4), .val (.int p5), .val (.int p6), .val (.int x6), .val (.int x7), .val (.int x8), .val (.int x9), .val (.int x10), .val (.int x11), .val (.int x12), .val (.int x13), .val (.int x14), .val (.int x15), .val (.int x16), .val (.int x17), .val (.ref o18), .val (.int 2), .val (.int 3), .val (.int 4), .val (.int 5), .val (.ref o23), .val (.int r5), .val (.int r4), .unset, .unset, .unset, .unset] [(.int 3), (.int x13), (.int x12)])) rfl (by rw [hml]; rfl) (argsL := [(.int x12), (.int x13), (.int 3)]) (rest := []) (lenOf pd_3 rfl) rfl (by show 2 * 0 + _ ≤ _; exact Nat.le_of_eq rfl) (hb hby at_215) (fun _ _ => ⟨rfl, e0, (by decide : 6 + 0 ≤ _), (by decide : 5131 + 0 ≤ _)⟩)
      dsimp only [Pt.U, Pt.locs, Pt.cells, Pt.slots] at X584 l584 y584 z584 st584 hQ584
      subst l584 y584 z584
      obtain ⟨rfl, N584q, e584⟩ := hQ584
      have N584 := Fr.app N0 N584q
      refine own_go st584 ?_
      by_cases hc218_585 : (own_hit x12 x13 (3 : Int32)) = (0 : Int32)
      · refine own_go (fun _ k => XS.ifNo X584.here hx rfl (hb hby at_218) rfl ((if0 _ _).trans (teq hc218_585).2) k) ?_
        refine own_go (fun _ k => XS.iload X584.here hx rfl (hb hby at_221) rfl k) ?_
        by_cases hc223_586 : r5 = (0 : Int32)
        · refine own_go (fun _ k => XS.ifYes X584.here hx rfl (pc0 := 223) (pc' := 241) rfl (hb hby at_223) rfl ((if0 _ _).trans (teq hc223_586).1) (by decide) (by decide) k) ?_
          refine own_go (fun _ k => XS.iconst X584.here hx rfl (hb hby at_241) k) ?_
          refine own_go (fun _ k => XS.istore X584.here hx rfl (hb hby at_242) rfl (l' := #[.val (.int p1), .val (.int p2), .val (.int p3), .val (.int p4), .val (.int p5), .val (.int p6), .val (.int x6), .val (.int x7), .val (.int x8), .val (.int x9), .val (.int x10), .val (.int x11), .val (.int x12), .val (.int x13), .val (.int x14), .val (.int x15), .val (.int x16), .val (.int x17), .val (.ref o18), .val (.int 2), .val (.int 3), .val (.int 4), .val (.int 5), .val (.ref o23), .val (.int r5), .val (.int r4), .val (.int 0), .unset, .unset, .unset]) rfl k) ?_
          have hs587 : (0 : Int32) = (own_g3_4 x17 x7 x8 x10 x11 x12 x13 x15 x16) := by
            have hsp : (own_g3_4 x17 x7 x8 x10 x11 x12 x13 x15 x16) = own_st r4 x12 x13 3 (own_st r5 x15 x16 3 (if x17 = (3 : Int32) then 1 else 0)) := by
              rw [hr4, hr5]
              rfl
            rw [hsp]
            rw [own_stN _ _ _ _ _ hc218_585]
            rw [own_st0 _ _ _ _ _ hc223_586]
            rw [if_neg hc202_575]
          exact lw3 p1 p2 p3 p4 p5 p6 h0 n0 hx hZ hw hby hml hown hnm hret hlk x6 x7 x8 x9 x10 x11 x12 x13 x14 x15 x16 x17 o18 o23 k23 nn vs r5 r4 (0 : Int32) T584 hh _ X584 e584 N584 Z0 K0 V_o23 (hvs) (hr5) (hr4) (hs587) 
        · refine own_go (fun _ k => XS.ifNo X584.here hx rfl (hb hby at_223) rfl ((if0 _ _).trans (feq hc223_586).1) k) ?_
          refine own_go (fun _ k => XS.iload X584.here hx rfl (hb hby at_226) rfl k) ?_
          refine own_go (fun _ k => XS.iload X584.here hx rfl (hb hby at_228) rfl k) ?_
          refine own_go (fun _ k => XS.iconst X584.here hx rfl (hb hby at_230) k) ?_
          obtain ⟨_, _, ⟨T588, L588, k588, n588⟩, -, X588, ⟨Lc588, hQ588, l588, y588, z588⟩, st588⟩ := Jvm.LawKit.callS X584 hx (y := (⟨own_K1, "hits", "(III)Z"⟩ : MethodName)) hown (mvT hZ (W 42 rfl)) (mvT hZ (W 43 rfl)) (mvT hZ (W 40 rfl)) (mvT hZ (W 44 rfl)) (by decide) (backOf (W := 0) (rm7 l Z a0 hw [] x15 x16 (3 : Int32) (own_hit x15 x16 (3 : Int32)) hh n0 Z0 (own_hitP x15 x16 (3 : Int32))) hZ (W 44 rfl) (W 40 rfl) (by decide) (by decide)) (g := (mkF m 231 #[.val (.int p1), .val (.int p2), .val (.int p3), .val (.int p4), .val (.int p5), .val (.int p6), .val (.int x6), .val (.int x7), .val (.int x8), .val (.int x9), .val (.int x10), .val (.int x11), .val (.int x12), .val (.int x13), .val (.int x14), .val (.int x15), .val (.int x16), .val (.int x17), .val (.ref o18), .val (.int 2), .val (.int 3), .val (.int 4), .val (.int 5), .val (.ref o23), .val (.int r5), .val (.int r4), .unset, .unset, .unset, .unset] [(.int 3), (.int x16), (.int x15)])) rfl (by rw [hml]; rfl) (argsL := [(.int x15), (.int x16), (.int 3)]) (rest := []) (lenOf pd_3 rfl) rfl (by show 2 * 0 + _ ≤ _; exact Nat.le_of_eq rfl) (hb hby at_231) (fun _ _ => ⟨rfl, e584, (by decide : 6 + 0 ≤ _), (by decide : 5131 + 0 ≤ _)⟩)
          dsimp only [Pt.U, Pt.locs, Pt.cells, Pt.slots] at X588 l588 y588 z588 st588 hQ588
          subst l588 y588 z588
          obtain ⟨rfl, N588q, e588⟩ := hQ588
          have N588 := Fr.app N584 N588q
          refine own_go st588 ?_
          show own_Run p e below _ T588 (mkF m 234 #[.val (.int p1), .val (.int p2), .val (.int p3), .val (.int p4), .val (.int p5), .val (.int p6), .val (.int x6), .val (.int x7), .val (.int x8), .val (.int x9), .val (.int x10), .val (.int x11), .val (.int x12), .val (.int x13), .val (.int x14), .val (.int x15), .val (.int x16), .val (.int x17), .val (.ref o18), .val (.int 2), .val (.int 3), .val (.int 4), .val (.int 5), .val (.ref o23), .val (.int r5), .val (.int r4), .unset, .unset, .unset, .unset] [(.int (own_hit x15 x16 (3 : Int32)))])
          by_cases hc234_589 : (own_hit x15 x16 (3 : Int32)) = (0 : Int32)
          · refine own_go (fun _ k => XS.ifYes X588.here hx rfl (pc0 := 234) (pc' := 241) rfl (hb hby at_234) rfl ((if0 _ _).trans (teq hc234_589).1) (by decide) (by decide) k) ?_
            refine own_go (fun _ k => XS.iconst X588.here hx rfl (hb hby at_241) k) ?_
            refine own_go (fun _ k => XS.istore X588.here hx rfl (hb hby at_242) rfl (l' := #[.val (.int p1), .val (.int p2), .val (.int p3), .val (.int p4), .val (.int p5), .val (.int p6), .val (.int x6), .val (.int x7), .val (.int x8), .val (.int x9), .val (.int x10), .val (.int x11), .val (.int x12), .val (.int x13), .val (.int x14), .val (.int x15), .val (.int x16), .val (.int x17), .val (.ref o18), .val (.int 2), .val (.int 3), .val (.int 4), .val (.int 5), .val (.ref o23), .val (.int r5), .val (.int r4), .val (.int 0), .unset, .unset, .unset]) rfl k) ?_
            have hs590 : (0 : Int32) = (own_g3_4 x17 x7 x8 x10 x11 x12 x13 x15 x16) := by
              have hsp : (own_g3_4 x17 x7 x8 x10 x11 x12 x13 x15 x16) = own_st r4 x12 x13 3 (own_st r5 x15 x16 3 (if x17 = (3 : Int32) then 1 else 0)) := by
                rw [hr4, hr5]
                rfl
              rw [hsp]
              rw [own_stN _ _ _ _ _ hc218_585]
              rw [own_stN _ _ _ _ _ hc234_589]
              rw [if_neg hc202_575]
            exact lw3 p1 p2 p3 p4 p5 p6 h0 n0 hx hZ hw hby hml hown hnm hret hlk x6 x7 x8 x9 x10 x11 x12 x13 x14 x15 x16 x17 o18 o23 k23 nn vs r5 r4 (0 : Int32) T588 hh _ X588 e588 N588 Z0 K0 V_o23 (hvs) (hr5) (hr4) (hs590) 
          · refine own_go (fun _ k => XS.ifNo X588.here hx rfl (hb hby at_234) rfl ((if0 _ _).trans (feq hc234_589).1) k) ?_
            refine own_go (fun _ k => XS.iconst X588.here hx rfl (hb hby at_237) k) ?_
            refine own_go (fun _ k => XS.goto X588.here hx rfl (pc0 := 238) (pc' := 242) rfl (hb hby at_238) (by decide) (by decide) k) ?_
            refine own_go (fun _ k => XS.istore X588.here hx rfl (hb hby at_242) rfl (l' := #[.val (.int p1), .val (.int p2), .val (.int p3), .val (.int p4), .val (.int p5), .val (.int p6), .val (.int x6), .val (.int x7), .val (.int x8), .val (.int x9), .val (.int x10), .val (.int x11), .val (.int x12), .val (.int x13), .val (.int x14), .val (.int x15), .val (.int x16), .val (.int x17), .val (.ref o18), .val (.int 2), .val (.int 3), .val (.int 4), .val (.int 5), .val (.ref o23), .val (.int r5), .val (.int r4), .val (.int 1), .unset, .unset, .unset]) rfl k) ?_
            have hs591 : (1 : Int32) = (own_g3_4 x17 x7 x8 x10 x11 x12 x13 x15 x16) := by
              have hsp : (own_g3_4 x17 x7 x8 x10 x11 x12 x13 x15 x16) = own_st r4 x12 x13 3 (own_st r5 x15 x16 3 (if x17 = (3 : Int32) then 1 else 0)) := by
                rw [hr4, hr5]
                rfl
              rw [hsp]
              rw [own_stN _ _ _ _ _ hc218_585]
              rw [own_stY _ _ _ _ _ (by assumption) hc234_589]
            exact lw3 p1 p2 p3 p4 p5 p6 h0 n0 hx hZ hw hby hml hown hnm hret hlk x6 x7 x8 x9 x10 x11 x12 x13 x14 x15 x16 x17 o18 o23 k23 nn vs r5 r4 (1 : Int32) T588 hh _ X588 e588 N588 Z0 K0 V_o23 (hvs) (hr5) (hr4) (hs591) 
      · refine own_go (fun _ k => XS.ifYes X584.here hx rfl (pc0 := 218) (pc' := 237) rfl (hb hby at_218) rfl ((if0 _ _).trans (feq hc218_585).2) (by decide) (by decide) k) ?_
        refine own_go (fun _ k => XS.iconst X584.here hx rfl (hb hby at_237) k) ?_
        refine own_go (fun _ k => XS.goto X584.here hx rfl (pc0 := 238) (pc' := 242) rfl (hb hby at_238) (by decide) (by decide) k) ?_
        refine own_go (fun _ k => XS.istore X584.here hx rfl (hb hby at_242) rfl (l' := #[.val (.int p1), .val (.int p2), .val (.int p3), .val (.int p4), .val (.int p5), .val (.int p6), .val (.int x6), .val (.int x7), .val (.int x8), .val (.int x9), .val (.int x10), .val (.int x11), .val (.int x12), .val (.int x13), .val (.int x14), .val (.int x15), .val (.int x16), .val (.int x17), .val (.ref o18), .val (.int 2), .val (.int 3), .val (.int 4), .val (.int 5), .val (.ref o23), .val (.int r5), .val (.int r4), .val (.int 1), .unset, .unset, .unset]) rfl k) ?_
        have hs592 : (1 : Int32) = (own_g3_4 x17 x7 x8 x10 x11 x12 x13 x15 x16) := by
          have hsp : (own_g3_4 x17 x7 x8 x10 x11 x12 x13 x15 x16) = own_st r4 x12 x13 3 (own_st r5 x15 x16 3 (if x17 = (3 : Int32) then 1 else 0)) := by
            rw [hr4, hr5]
            rfl
          rw [hsp]
          rw [own_stY _ _ _ _ _ (by assumption) hc218_585]
        exact lw3 p1 p2 p3 p4 p5 p6 h0 n0 hx hZ hw hby hml hown hnm hret hlk x6 x7 x8 x9 x10 x11 x12 x13 x14 x15 x16 x17 o18 o23 k23 nn vs r5 r4 (1 : Int32) T584 hh _ X584 e584 N584 Z0 K0 V_o23 (hvs) (hr5) (hr4) (hs592) 
set_option maxRecDepth 65536 in
set_option maxHeartbeats 40000000 in
theorem lw5 {p : Program} {l : Launch} {e : Env} {s : State} {m : MethodId} {args : Array Value} {below : List Frame} {meth : Method} {c : Code} {Z : State} {a0 : Array Value} (p1 : Int32) (p2 : Int32) (p3 : Int32) (p4 : Int32) (p5 : Int32) (p6 : Int32) (h0 : Heap) (n0 : Nat) (hx : p.tables.exec = Jvm.exec) (hZ : Z.Warmed39 s.vm) (hw : ∀ d ∈ tables_1, d.before a0 Z = true) (hby : c.code = code) (hml : c.maxLocals = 30) (hown : s.vm.findClass own_K1 = some m.cls) (hnm : meth.name = "law") (hret : meth.sig.returnType = some .boolean) (hlk : meth.locks = false)
    (x6 : Int32) (x7 : Int32) (x8 : Int32) (x9 : Int32) (x10 : Int32) (x11 : Int32) (x12 : Int32) (x13 : Int32) (x14 : Int32) (x15 : Int32) (x16 : Int32) (x17 : Int32) (o18 : Addr) (o23 : Addr) (k23 : ClassId) (nn : Int32) (vs : List Value) (r5 : Int32) (T0 : State) (hh : Heap) (locs : List Loc) (X0 : Stand p l e room_1 s m args below meth c T0 locs 6 5131) (e0 : T0.heap = hh) (N0 : Fr n0 locs) (Z0 : n0 ≤ hh.size) (K0 : Keep h0 hh []) (V_o23 : Arv Z hh o23 k23 .boolean nn vs (.int 0)) (hvs : own_HV x17 nn vs x7 x8 x10 x11 x12 x13 x15 x16) (hr5 : r5 = (own_g5_6 x17 x7 x8 x10 x11 x12 x13 x15 x16)) :
    own_Run p e below (fun o U' => ∃ v L, o = .returned v ∧ Q0 Z p1 p2 p3 p4 p5 p6 h0 n0 v U'.heap L ∧ FrameEnd s o U' L room_1.cells room_1.slots) T0 (mkF m 170 #[.val (.int p1), .val (.int p2), .val (.int p3), .val (.int p4), .val (.int p5), .val (.int p6), .val (.int x6), .val (.int x7), .val (.int x8), .val (.int x9), .val (.int x10), .val (.int x11), .val (.int x12), .val (.int x13), .val (.int x14), .val (.int x15), .val (.int x16), .val (.int x17), .val (.ref o18), .val (.int 2), .val (.int 3), .val (.int 4), .val (.int 5), .val (.ref o23), .val (.int r5), .unset, .unset, .unset, .unset, .unset] []) := by
  have W := fun (k : Nat) {d : Jvm.Cond} (h : tables_1[k]? = some d) => hw d (List.mem_of_getElem? h)
  show own_Run p e below _ T0 (mkF m 170 #[.val (.int p1), .val (.int p2), .val (.int p3), .val (.int p4), .val (.int p5), .val (.int p6), .val (.int x6), .val (.int x7), .val (.int x8), .val (.int x9), .val (.int x10), .val (.int x11), .val (.int x12), .val (.int x13), .val (.int x14), .val (.int x15), .val (.int x16), .val (.int x17), .val (.ref o18), .val (.int 2), .val (.int 3), .val (.int 4), .val (.int 5), .val (.ref o23), .val (.int r5), .unset, .unset, .unset, .unset, .unset] [])
  refine own_go (fun _ k => XS.iload X0.here hx rfl (hb hby at_170) rfl k) ?_
  refine own_go (fun _ k => XS.iconst X0.here hx rfl (hb hby at_172) k) ?_
  by_cases hc173_593 : x17 = (4 : Int32)
  · refine own_go (fun _ k => XS.icmpYes X0.here hx rfl (pc0 := 173) (pc' := 192) rfl (hb hby at_173) rfl (teq hc173_593).1 (by decide) (by decide) k) ?_
    refine own_go (fun _ k => XS.iconst X0.here hx rfl (hb hby at_192) k) ?_
    refine own_go (fun _ k => XS.goto X0.here hx rfl (pc0 := 193) (pc' := 197) rfl (hb hby at_193) (by decide) (by decide) k) ?_
    refine own_go (fun _ k => XS.istore X0.here hx rfl (hb hby at_197) rfl (l' := #[.val (.int p1), .val (.int p2), .val (.int p3), .val (.int p4), .val (.int p5), .val (.int p6), .val (.int x6), .val (.int x7), .val (.int x8), .val (.int x9), .val (.int x10), .val (.int x11), .val (.int x12), .val (.int x13), .val (.int x14), .val (.int x15), .val (.int x16), .val (.int x17), .val (.ref o18), .val (.int 2), .val (.int 3), .val (.int 4), .val (.int 5), .val (.ref o23), .val (.int r5), .val (.int 1), .unset, .unset, .unset, .unset]) rfl k) ?_
    have hs594 : (1 : Int32) = (own_g4_5 x17 x7 x8 x10 x11 x12 x13 x15 x16) := by
      have hsp : (own_g4_5 x17 x7 x8 x10 x11 x12 x13 x15 x16) = own_st r5 x15 x16 4 (if x17 = (4 : Int32) then 1 else 0) := by
        rw [hr5]
        rfl
      rw [hsp]
      rw [if_pos hc173_593]
      rw [own_st1]
    exact lw4 p1 p2 p3 p4 p5 p6 h0 n0 hx hZ hw hby hml hown hnm hret hlk x6 x7 x8 x9 x10 x11 x12 x13 x14 x15 x16 x17 o18 o23 k23 nn vs r5 (1 : Int32) T0 hh _ X0 e0 N0 Z0 K0 V_o23 (hvs) (hr5) (hs594) 
  · refine own_go (fun _ k => XS.icmpNo X0.here hx rfl (hb hby at_173) rfl (feq hc173_593).1 k) ?_
    refine own_go (fun _ k => XS.iload X0.here hx rfl (hb hby at_176) rfl k) ?_
    by_cases hc178_595 : r5 = (0 : Int32)
    · refine own_go (fun _ k => XS.ifYes X0.here hx rfl (pc0 := 178) (pc' := 196) rfl (hb hby at_178) rfl ((if0 _ _).trans (teq hc178_595).1) (by decide) (by decide) k) ?_
      refine own_go (fun _ k => XS.iconst X0.here hx rfl (hb hby at_196) k) ?_
      refine own_go (fun _ k => XS.istore X0.here hx rfl (hb hby at_197) rfl (l' := #[.val (.int p1), .val (.int p2), .val (.int p3), .val (.int p4), .val (.int p5), .val (.int p6), .val (.int x6), .val (.int x7), .val (.int x8), .val (.int x9), .val (.int x10), .val (.int x11), .val (.int x12), .val (.int x13), .val (.int x14), .val (.int x15), .val (.int x16), .val (.int x17), .val (.ref o18), .val (.int 2), .val (.int 3), .val (.int 4), .val (.int 5), .val (.ref o23), .val (.int r5), .val (.int 0), .unset, .unset, .unset, .unset]) rfl k) ?_
      have hs596 : (0 : Int32) = (own_g4_5 x17 x7 x8 x10 x11 x12 x13 x15 x16) := by
        have hsp : (own_g4_5 x17 x7 x8 x10 x11 x12 x13 x15 x16) = own_st r5 x15 x16 4 (if x17 = (4 : Int32) then 1 else 0) := by
          rw [hr5]
          rfl
        rw [hsp]
        rw [own_st0 _ _ _ _ _ hc178_595]
        rw [if_neg hc173_593]
      exact lw4 p1 p2 p3 p4 p5 p6 h0 n0 hx hZ hw hby hml hown hnm hret hlk x6 x7 x8 x9 x10 x11 x12 x13 x14 x15 x16 x17 o18 o23 k23 nn vs r5 (0 : Int32) T0 hh _ X0 e0 N0 Z0 K0 V_o23 (hvs) (hr5) (hs596) 
    · refine own_go (fun _ k => XS.ifNo X0.here hx rfl (hb hby at_178) rfl ((if0 _ _).trans (feq hc178_595).1) k) ?_
      refine own_go (fun _ k => XS.iload X0.here hx rfl (hb hby at_181) rfl k) ?_
      refine own_go (fun _ k => XS.iload X0.here hx rfl (hb hby at_183) rfl k) ?_
      refine own_go (fun _ k => XS.iconst X0.here hx rfl (hb hby at_185) k) ?_
      show own_Run p e below _ T0 (mkF m 186 #[.val (.int p1), .val (.int p2), .val (.int p3), .val (.int p4), .val (.int p5), .val (.int p6), .val (.int x6), .val (.int x7), .val (.int x8), .val (.int x9), .val (.int x10), .val (.int x11), .val (.int x12), .val (.int x13), .val (.int x14), .val (.int x15), .val (.int x16), .val (.int x17), .val (.ref o18), .val (.int 2), .val (.int 3), .val (.int 4), .val (.int 5), .val (.ref o23), .val (.int r5), .unset, .unset, .unset, .unset, .unset] [(.int 4), (.int x16), (.int x15)])
      obtain ⟨_, _, ⟨T597, L597, k597, n597⟩, -, X597, ⟨Lc597, hQ597, l597, y597, z597⟩, st597⟩ := Jvm.LawKit.callS X0 hx (y := (⟨own_K1, "hits", "(III)Z"⟩ : MethodName)) hown (mvT hZ (W 42 rfl)) (mvT hZ (W 43 rfl)) (mvT hZ (W 40 rfl)) (mvT hZ (W 44 rfl)) (by decide) (backOf (W := 0) (rm7 l Z a0 hw [] x15 x16 (4 : Int32) (own_hit x15 x16 (4 : Int32)) hh n0 Z0 (own_hitP x15 x16 (4 : Int32))) hZ (W 44 rfl) (W 40 rfl) (by decide) (by decide)) (g := (mkF m 186 #[.val (.int p1), .val (.int p2), .val (.int p3), .val (.int p4), .val (.int p5), .val (.int p6), .val (.int x6), .val (.int x7), .val (.int x8), .val (.int x9), .val (.int x10), .val (.int x11), .val (.int x12), .val (.int x13), .val (.int x14), .val (.int x15), .val (.int x16), .val (.int x17), .val (.ref o18), .val (.int 2), .val (.int 3), .val (.int 4), .val (.int 5), .val (.ref o23), .val (.int r5), .unset, .unset, .unset, .unset, .unset] [(.int 4), (.int x16), (.int x15)])) rfl (by rw [hml]; rfl) (argsL := [(.int x15), (.int x16), (.int 4)]) (rest := []) (lenOf pd_3 rfl) rfl (by show 2 * 0 + _ ≤ _; exact Nat.le_of_eq rfl) (hb hby at_186) (fun _ _ => ⟨rfl, e0, (by decide : 6 + 0 ≤ _), (by decide : 5131 + 0 ≤ _)⟩)
      dsimp only [Pt.U, Pt.locs, Pt.cells, Pt.slots] at X597 l597 y597 z597 st597 hQ597
      subst l597 y597 z597
      obtain ⟨rfl, N597q, e597⟩ := hQ597
      have N597 := Fr.app N0 N597q
      refine own_go st597 ?_
      by_cases hc189_598 : (own_hit x15 x16 (4 : Int32)) = (0 : Int32)
      · refine own_go (fun _ k => XS.ifYes X597.here hx rfl (pc0 := 189) (pc' := 196) rfl (hb hby at_189) rfl ((if0 _ _).trans (teq hc189_598).1) (by decide) (by decide) k) ?_
        refine own_go (fun _ k => XS.iconst X597.here hx rfl (hb hby at_196) k) ?_
        refine own_go (fun _ k => XS.istore X597.here hx rfl (hb hby at_197) rfl (l' := #[.val (.int p1), .val (.int p2), .val (.int p3), .val (.int p4), .val (.int p5), .val (.int p6), .val (.int x6), .val (.int x7), .val (.int x8), .val (.int x9), .val (.int x10), .val (.int x11), .val (.int x12), .val (.int x13), .val (.int x14), .val (.int x15), .val (.int x16), .val (.int x17), .val (.ref o18), .val (.int 2), .val (.int 3), .val (.int 4), .val (.int 5), .val (.ref o23), .val (.int r5), .val (.int 0), .unset, .unset, .unset, .unset]) rfl k) ?_
        have hs599 : (0 : Int32) = (own_g4_5 x17 x7 x8 x10 x11 x12 x13 x15 x16) := by
          have hsp : (own_g4_5 x17 x7 x8 x10 x11 x12 x13 x15 x16) = own_st r5 x15 x16 4 (if x17 = (4 : Int32) then 1 else 0) := by
            rw [hr5]
            rfl
          rw [hsp]
          rw [own_stN _ _ _ _ _ hc189_598]
          rw [if_neg hc173_593]
        exact lw4 p1 p2 p3 p4 p5 p6 h0 n0 hx hZ hw hby hml hown hnm hret hlk x6 x7 x8 x9 x10 x11 x12 x13 x14 x15 x16 x17 o18 o23 k23 nn vs r5 (0 : Int32) T597 hh _ X597 e597 N597 Z0 K0 V_o23 (hvs) (hr5) (hs599) 
      · refine own_go (fun _ k => XS.ifNo X597.here hx rfl (hb hby at_189) rfl ((if0 _ _).trans (feq hc189_598).1) k) ?_
        refine own_go (fun _ k => XS.iconst X597.here hx rfl (hb hby at_192) k) ?_
        refine own_go (fun _ k => XS.goto X597.here hx rfl (pc0 := 193) (pc' := 197) rfl (hb hby at_193) (by decide) (by decide) k) ?_
        refine own_go (fun _ k => XS.istore X597.here hx rfl (hb hby at_197) rfl (l' := #[.val (.int p1), .val (.int p2), .val (.int p3), .val (.int p4), .val (.int p5), .val (.int p6), .val (.int x6), .val (.int x7), .val (.int x8), .val (.int x9), .val (.int x10), .val (.int x11), .val (.int x12), .val (.int x13), .val (.int x14), .val (.int x15), .val (.int x16), .val (.int x17), .val (.ref o18), .val (.int 2), .val (.int 3), .val (.int 4), .val (.int 5), .val (.ref o23), .val (.int r5), .val (.int 1), .unset, .unset, .unset, .unset]) rfl k) ?_
        have hs600 : (1 : Int32) = (own_g4_5 x17 x7 x8 x10 x11 x12 x13 x15 x16) := by
          have hsp : (own_g4_5 x17 x7 x8 x10 x11 x12 x13 x15 x16) = own_st r5 x15 x16 4 (if x17 = (4 : Int32) then 1 else 0) := by
            rw [hr5]
            rfl
          rw [hsp]
          rw [own_stY _ _ _ _ _ (by assumption) hc189_598]
        exact lw4 p1 p2 p3 p4 p5 p6 h0 n0 hx hZ hw hby hml hown hnm hret hlk x6 x7 x8 x9 x10 x11 x12 x13 x14 x15 x16 x17 o18 o23 k23 nn vs r5 (1 : Int32) T597 hh _ X597 e597 N597 Z0 K0 V_o23 (hvs) (hr5) (hs600) 
set_option maxRecDepth 65536 in
set_option maxHeartbeats 40000000 in
theorem lw6 {p : Program} {l : Launch} {e : Env} {s : State} {m : MethodId} {args : Array Value} {below : List Frame} {meth : Method} {c : Code} {Z : State} {a0 : Array Value} (p1 : Int32) (p2 : Int32) (p3 : Int32) (p4 : Int32) (p5 : Int32) (p6 : Int32) (h0 : Heap) (n0 : Nat) (hx : p.tables.exec = Jvm.exec) (hZ : Z.Warmed39 s.vm) (hw : ∀ d ∈ tables_1, d.before a0 Z = true) (hby : c.code = code) (hml : c.maxLocals = 30) (hown : s.vm.findClass own_K1 = some m.cls) (hnm : meth.name = "law") (hret : meth.sig.returnType = some .boolean) (hlk : meth.locks = false)
    (x6 : Int32) (x7 : Int32) (x8 : Int32) (x9 : Int32) (x10 : Int32) (x11 : Int32) (x12 : Int32) (x13 : Int32) (x14 : Int32) (x15 : Int32) (x16 : Int32) (x17 : Int32) (o18 : Addr) (o23 : Addr) (k23 : ClassId) (nn : Int32) (vs : List Value) (T0 : State) (hh : Heap) (locs : List Loc) (X0 : Stand p l e room_1 s m args below meth c T0 locs 6 5131) (e0 : T0.heap = hh) (N0 : Fr n0 locs) (Z0 : n0 ≤ hh.size) (K0 : Keep h0 hh []) (V_o23 : Arv Z hh o23 k23 .boolean nn vs (.int 0)) (hvs : own_HV x17 nn vs x7 x8 x10 x11 x12 x13 x15 x16) :
    own_Run p e below (fun o U' => ∃ v L, o = .returned v ∧ Q0 Z p1 p2 p3 p4 p5 p6 h0 n0 v U'.heap L ∧ FrameEnd s o U' L room_1.cells room_1.slots) T0 (mkF m 157 #[.val (.int p1), .val (.int p2), .val (.int p3), .val (.int p4), .val (.int p5), .val (.int p6), .val (.int x6), .val (.int x7), .val (.int x8), .val (.int x9), .val (.int x10), .val (.int x11), .val (.int x12), .val (.int x13), .val (.int x14), .val (.int x15), .val (.int x16), .val (.int x17), .val (.ref o18), .val (.int 2), .val (.int 3), .val (.int 4), .val (.int 5), .val (.ref o23), .unset, .unset, .unset, .unset, .unset, .unset] []) := by
  have W := fun (k : Nat) {d : Jvm.Cond} (h : tables_1[k]? = some d) => hw d (List.mem_of_getElem? h)
  show own_Run p e below _ T0 (mkF m 157 #[.val (.int p1), .val (.int p2), .val (.int p3), .val (.int p4), .val (.int p5), .val (.int p6), .val (.int x6), .val (.int x7), .val (.int x8), .val (.int x9), .val (.int x10), .val (.int x11), .val (.int x12), .val (.int x13), .val (.int x14), .val (.int x15), .val (.int x16), .val (.int x17), .val (.ref o18), .val (.int 2), .val (.int 3), .val (.int 4), .val (.int 5), .val (.ref o23), .unset, .unset, .unset, .unset, .unset, .unset] [])
  refine own_go (fun _ k => XS.iload X0.here hx rfl (hb hby at_157) rfl k) ?_
  refine own_go (fun _ k => XS.iconst X0.here hx rfl (hb hby at_159) k) ?_
  by_cases hc160_601 : x17 = (5 : Int32)
  · refine own_go (fun _ k => XS.icmpNo X0.here hx rfl (hb hby at_160) rfl (teq hc160_601).2 k) ?_
    refine own_go (fun _ k => XS.iconst X0.here hx rfl (hb hby at_163) k) ?_
    refine own_go (fun _ k => XS.goto X0.here hx rfl (pc0 := 164) (pc' := 168) rfl (hb hby at_164) (by decide) (by decide) k) ?_
    refine own_go (fun _ k => XS.istore X0.here hx rfl (hb hby at_168) rfl (l' := #[.val (.int p1), .val (.int p2), .val (.int p3), .val (.int p4), .val (.int p5), .val (.int p6), .val (.int x6), .val (.int x7), .val (.int x8), .val (.int x9), .val (.int x10), .val (.int x11), .val (.int x12), .val (.int x13), .val (.int x14), .val (.int x15), .val (.int x16), .val (.int x17), .val (.ref o18), .val (.int 2), .val (.int 3), .val (.int 4), .val (.int 5), .val (.ref o23), .val (.int 1), .unset, .unset, .unset, .unset, .unset]) rfl k) ?_
    have hs602 : (1 : Int32) = (own_g5_6 x17 x7 x8 x10 x11 x12 x13 x15 x16) := by
      exact (if_pos hc160_601).symm
    exact lw5 p1 p2 p3 p4 p5 p6 h0 n0 hx hZ hw hby hml hown hnm hret hlk x6 x7 x8 x9 x10 x11 x12 x13 x14 x15 x16 x17 o18 o23 k23 nn vs (1 : Int32) T0 hh _ X0 e0 N0 Z0 K0 V_o23 (hvs) (hs602) 
  · refine own_go (fun _ k => XS.icmpYes X0.here hx rfl (pc0 := 160) (pc' := 167) rfl (hb hby at_160) rfl (feq hc160_601).2 (by decide) (by decide) k) ?_
    refine own_go (fun _ k => XS.iconst X0.here hx rfl (hb hby at_167) k) ?_
    refine own_go (fun _ k => XS.istore X0.here hx rfl (hb hby at_168) rfl (l' := #[.val (.int p1), .val (.int p2), .val (.int p3), .val (.int p4), .val (.int p5), .val (.int p6), .val (.int x6), .val (.int x7), .val (.int x8), .val (.int x9), .val (.int x10), .val (.int x11), .val (.int x12), .val (.int x13), .val (.int x14), .val (.int x15), .val (.int x16), .val (.int x17), .val (.ref o18), .val (.int 2), .val (.int 3), .val (.int 4), .val (.int 5), .val (.ref o23), .val (.int 0), .unset, .unset, .unset, .unset, .unset]) rfl k) ?_
    have hs603 : (0 : Int32) = (own_g5_6 x17 x7 x8 x10 x11 x12 x13 x15 x16) := by
      exact (if_neg hc160_601).symm
    exact lw5 p1 p2 p3 p4 p5 p6 h0 n0 hx hZ hw hby hml hown hnm hret hlk x6 x7 x8 x9 x10 x11 x12 x13 x14 x15 x16 x17 o18 o23 k23 nn vs (0 : Int32) T0 hh _ X0 e0 N0 Z0 K0 V_o23 (hvs) (hs603) 
theorem ef_0 (m : MethodId) (x0 : Int32) (x1 : Int32) (x2 : Int32) (x3 : Int32) (x4 : Int32) (x5 : Int32) : entryFrame m #[(.int x0), (.int x1), (.int x2), (.int x3), (.int x4), (.int x5)] maxLocals = mkF m 0 #[.val (.int x0), .val (.int x1), .val (.int x2), .val (.int x3), .val (.int x4), .val (.int x5), .unset, .unset, .unset, .unset, .unset, .unset, .unset, .unset, .unset, .unset, .unset, .unset, .unset, .unset, .unset, .unset, .unset, .unset, .unset, .unset, .unset, .unset, .unset, .unset] [] := by first | (simp [entryFrame, mkF, argsToLocals, Value.category, maxLocals]; done) | rfl
theorem pd_4 : parseMethodDescriptor "()V" = some ⟨[], none⟩ := by decide +kernel
theorem pd_5 : parseMethodDescriptor "(I)[Z" = some ⟨[.int], some (.array .boolean)⟩ := by decide +kernel
set_option maxRecDepth 65536 in
set_option maxHeartbeats 40000000 in
theorem rm0 (l : Launch) (Z : State) (a0 : Array Value) (hw : ∀ d ∈ tables_1, d.before a0 Z = true) (ws : List Jvm.Cond) (p1 : Int32) (p2 : Int32) (p3 : Int32) (p4 : Int32) (p5 : Int32) (p6 : Int32) (h0 : Heap) (n0 : Nat) (Z0 : n0 ≤ h0.size) :
    MetFree l x (head1 (Jvm.Cond.code x code maxLocals ret :: ws) room_1) (fun a U => a = #[(.int p1), (.int p2), (.int p3), (.int p4), (.int p5), (.int p6)] ∧ Z.Warmed39 U.vm ∧ U.heap = h0) (fun _ _ _ _ _ => True) (fun _ U o U' => ∃ v L, o = .returned v ∧ Q0 Z p1 p2 p3 p4 p5 p6 h0 n0 v U'.heap L ∧ FrameEnd U o U' L room_1.cells room_1.slots) := by
  refine MetFree.of_bodySF (plainFor_of_name pn_0) hisR ?_
  intro p e s m args below meth c s₁ Bd hml0 hP hK
  obtain ⟨rfl, hZ, hh⟩ := hP
  have hx := Bd.exec
  have hby := Bd.bytes
  have hml : c.maxLocals = 30 := hml0
  have hown : s.vm.findClass own_K1 = some m.cls := findClass_of_methodNamed Bd.named
  have hnm := (name_of_methodNamed Bd.named Bd.method).1
  have hret := Bd.returns
  have hlk : meth.locks = false := BodyLoose.notSynchronized Bd
  have X0 : Stand p l e room_1 s m #[(.int p1), (.int p2), (.int p3), (.int p4), (.int p5), (.int p6)] below meth c s₁ [] 0 0 := Stand.of_body Bd
  have e0 : s₁.heap = h0 := by rw [← hh, Bd.state]; rfl
  have N0 := Fr.nil n0
  have W := fun (k : Nat) {d : Jvm.Cond} (h : tables_1[k]? = some d) => hw d (List.mem_of_getElem? h)
  have K0 : Keep h0 h0 [] := Keep.refl _ _
  refine own_start (ef_0 m p1 p2 p3 p4 p5 p6) ?_
  show own_Run p e below _ s₁ (mkF m 0 #[.val (.int p1), .val (.int p2), .val (.int p3), .val (.int p4), .val (.int p5), .val (.int p6), .unset, .unset, .unset, .unset, .unset, .unset, .unset, .unset, .unset, .unset, .unset, .unset, .unset, .unset, .unset, .unset, .unset, .unset, .unset, .unset, .unset, .unset, .unset, .unset] [])
  refine own_go (fun _ k => XS.iload X0.here hx rfl (hb hby at_0) rfl k) ?_
  refine own_go (X0.ldcInt hx hown (mvT hZ (W 0 rfl)) (g := (mkF m 2 #[.val (.int p1), .val (.int p2), .val (.int p3), .val (.int p4), .val (.int p5), .val (.int p6), .unset, .unset, .unset, .unset, .unset, .unset, .unset, .unset, .unset, .unset, .unset, .unset, .unset, .unset, .unset, .unset, .unset, .unset, .unset, .unset, .unset, .unset, .unset, .unset] [(.int p6)])) rfl (hb hby at_2)) ?_
  refine own_go (fun _ k => XS.iand X0.here hx rfl (hb hby at_4) rfl k) ?_
  show own_Run p e below _ s₁ (mkF m 5 #[.val (.int p1), .val (.int p2), .val (.int p3), .val (.int p4), .val (.int p5), .val (.int p6), .unset, .unset, .unset, .unset, .unset, .unset, .unset, .unset, .unset, .unset, .unset, .unset, .unset, .unset, .unset, .unset, .unset, .unset, .unset, .unset, .unset, .unset, .unset, .unset] [(.int (p6 &&& (16777215 : Int32)))])
  obtain ⟨x6, hx6⟩ : ∃ z, z = (p6 &&& (16777215 : Int32)) := ⟨_, rfl⟩
  rw [← hx6]
  refine own_go (fun _ k => XS.istore X0.here hx rfl (hb hby at_5) rfl (l' := #[.val (.int p1), .val (.int p2), .val (.int p3), .val (.int p4), .val (.int p5), .val (.int p6), .val (.int x6), .unset, .unset, .unset, .unset, .unset, .unset, .unset, .unset, .unset, .unset, .unset, .unset, .unset, .unset, .unset, .unset, .unset, .unset, .unset, .unset, .unset, .unset, .unset]) rfl k) ?_
  refine own_go (fun _ k => XS.iloadN X0.here hx rfl (hb hby at_7) rfl k) ?_
  refine own_go (fun _ k => XS.iconst X0.here hx rfl (hb hby at_8) k) ?_
  refine own_go (fun _ k => XS.iand X0.here hx rfl (hb hby at_9) rfl k) ?_
  show own_Run p e below _ s₁ (mkF m 10 #[.val (.int p1), .val (.int p2), .val (.int p3), .val (.int p4), .val (.int p5), .val (.int p6), .val (.int x6), .unset, .unset, .unset, .unset, .unset, .unset, .unset, .unset, .unset, .unset, .unset, .unset, .unset, .unset, .unset, .unset, .unset, .unset, .unset, .unset, .unset, .unset, .unset] [(.int (p1 &&& (1 : Int32)))])
  obtain ⟨x7, hx7⟩ : ∃ z, z = (p1 &&& (1 : Int32)) := ⟨_, rfl⟩
  rw [← hx7]
  refine own_go (fun _ k => XS.istore X0.here hx rfl (hb hby at_10) rfl (l' := #[.val (.int p1), .val (.int p2), .val (.int p3), .val (.int p4), .val (.int p5), .val (.int p6), .val (.int x6), .val (.int x7), .unset, .unset, .unset, .unset, .unset, .unset, .unset, .unset, .unset, .unset, .unset, .unset, .unset, .unset, .unset, .unset, .unset, .unset, .unset, .unset, .unset, .unset]) rfl k) ?_
  refine own_go (fun _ k => XS.iloadN X0.here hx rfl (hb hby at_12) rfl k) ?_
  refine own_go (fun _ k => XS.iconst X0.here hx rfl (hb hby at_13) k) ?_
  refine own_go (fun _ k => XS.iushr X0.here hx rfl (hb hby at_14) rfl k) ?_
  refine own_go (fun _ k => XS.iconst X0.here hx rfl (hb hby at_15) k) ?_
  refine own_go (fun _ k => XS.iand X0.here hx rfl (hb hby at_16) rfl k) ?_
  show own_Run p e below _ s₁ (mkF m 17 #[.val (.int p1), .val (.int p2), .val (.int p3), .val (.int p4), .val (.int p5), .val (.int p6), .val (.int x6), .val (.int x7), .unset, .unset, .unset, .unset, .unset, .unset, .unset, .unset, .unset, .unset, .unset, .unset, .unset, .unset, .unset, .unset, .unset, .unset, .unset, .unset, .unset, .unset] [(.int (((p1.toUInt32 >>> ((1 : Int32) &&& 31).toUInt32).toInt32) &&& (1 : Int32)))])
  obtain ⟨x8, hx8⟩ : ∃ z, z = (((p1.toUInt32 >>> ((1 : Int32) &&& 31).toUInt32).toInt32) &&& (1 : Int32)) := ⟨_, rfl⟩
  rw [← hx8]
  refine own_go (fun _ k => XS.istore X0.here hx rfl (hb hby at_17) rfl (l' := #[.val (.int p1), .val (.int p2), .val (.int p3), .val (.int p4), .val (.int p5), .val (.int p6), .val (.int x6), .val (.int x7), .val (.int x8), .unset, .unset, .unset, .unset, .unset, .unset, .unset, .unset, .unset, .unset, .unset, .unset, .unset, .unset, .unset, .unset, .unset, .unset, .unset, .unset, .unset]) rfl k) ?_
  refine own_go (fun _ k => XS.iloadN X0.here hx rfl (hb hby at_19) rfl k) ?_
  refine own_go (X0.ldcInt hx hown (mvT hZ (W 1 rfl)) (g := (mkF m 20 #[.val (.int p1), .val (.int p2), .val (.int p3), .val (.int p4), .val (.int p5), .val (.int p6), .val (.int x6), .val (.int x7), .val (.int x8), .unset, .unset, .unset, .unset, .unset, .unset, .unset, .unset, .unset, .unset, .unset, .unset, .unset, .unset, .unset, .unset, .unset, .unset, .unset, .unset, .unset] [(.int p2)])) rfl (hb hby at_20)) ?_
  refine own_go (fun _ k => XS.iand X0.here hx rfl (hb hby at_22) rfl k) ?_
  show own_Run p e below _ s₁ (mkF m 23 #[.val (.int p1), .val (.int p2), .val (.int p3), .val (.int p4), .val (.int p5), .val (.int p6), .val (.int x6), .val (.int x7), .val (.int x8), .unset, .unset, .unset, .unset, .unset, .unset, .unset, .unset, .unset, .unset, .unset, .unset, .unset, .unset, .unset, .unset, .unset, .unset, .unset, .unset, .unset] [(.int (p2 &&& (2147483647 : Int32)))])
  obtain ⟨x9, hx9⟩ : ∃ z, z = (p2 &&& (2147483647 : Int32)) := ⟨_, rfl⟩
  rw [← hx9]
  refine own_go (fun _ k => XS.istore X0.here hx rfl (hb hby at_23) rfl (l' := #[.val (.int p1), .val (.int p2), .val (.int p3), .val (.int p4), .val (.int p5), .val (.int p6), .val (.int x6), .val (.int x7), .val (.int x8), .val (.int x9), .unset, .unset, .unset, .unset, .unset, .unset, .unset, .unset, .unset, .unset, .unset, .unset, .unset, .unset, .unset, .unset, .unset, .unset, .unset, .unset]) rfl k) ?_
  refine own_go (fun _ k => XS.iload X0.here hx rfl (hb hby at_25) rfl k) ?_
  refine own_go (fun _ k => XS.iconst X0.here hx rfl (hb hby at_27) k) ?_
  refine own_go (fun _ k => iremM X0 hx rfl (hb hby at_28) rfl (by decide) k) ?_
  show own_Run p e below _ s₁ (mkF m 29 #[.val (.int p1), .val (.int p2), .val (.int p3), .val (.int p4), .val (.int p5), .val (.int p6), .val (.int x6), .val (.int x7), .val (.int x8), .val (.int x9), .unset, .unset, .unset, .unset, .unset, .unset, .unset, .unset, .unset, .unset, .unset, .unset, .unset, .unset, .unset, .unset, .unset, .unset, .unset, .unset] [(.int (x9 % (3 : Int32)))])
  obtain ⟨x10, hx10⟩ : ∃ z, z = (x9 % (3 : Int32)) := ⟨_, rfl⟩
  rw [← hx10]
  refine own_go (fun _ k => XS.istore X0.here hx rfl (hb hby at_29) rfl (l' := #[.val (.int p1), .val (.int p2), .val (.int p3), .val (.int p4), .val (.int p5), .val (.int p6), .val (.int x6), .val (.int x7), .val (.int x8), .val (.int x9), .val (.int x10), .unset, .unset, .unset, .unset, .unset, .unset, .unset, .unset, .unset, .unset, .unset, .unset, .unset, .unset, .unset, .unset, .unset, .unset, .unset]) rfl k) ?_
  refine own_go (fun _ k => XS.iload X0.here hx rfl (hb hby at_31) rfl k) ?_
  refine own_go (fun _ k => XS.iconst X0.here hx rfl (hb hby at_33) k) ?_
  refine own_go (fun _ k => XS.idiv X0.here hx rfl (hb hby at_34) rfl (by decide) k) ?_
  refine own_go (fun _ k => XS.iconst X0.here hx rfl (hb hby at_35) k) ?_
  refine own_go (fun _ k => iremM X0 hx rfl (hb hby at_36) rfl (by decide) k) ?_
  show own_Run p e below _ s₁ (mkF m 37 #[.val (.int p1), .val (.int p2), .val (.int p3), .val (.int p4), .val (.int p5), .val (.int p6), .val (.int x6), .val (.int x7), .val (.int x8), .val (.int x9), .val (.int x10), .unset, .unset, .unset, .unset, .unset, .unset, .unset, .unset, .unset, .unset, .unset, .unset, .unset, .unset, .unset, .unset, .unset, .unset, .unset] [(.int ((x9 / (3 : Int32)) % (3 : Int32)))])
  obtain ⟨x11, hx11⟩ : ∃ z, z = ((x9 / (3 : Int32)) % (3 : Int32)) := ⟨_, rfl⟩
  rw [← hx11]
  refine own_go (fun _ k => XS.istore X0.here hx rfl (hb hby at_37) rfl (l' := #[.val (.int p1), .val (.int p2), .val (.int p3), .val (.int p4), .val (.int p5), .val (.int p6), .val (.int x6), .val (.int x7), .val (.int x8), .val (.int x9), .val (.int x10), .val (.int x11), .unset, .unset, .unset, .unset, .unset, .unset, .unset, .unset, .unset, .unset, .unset, .unset, .unset, .unset, .unset, .unset, .unset, .unset]) rfl k) ?_
  refine own_go (fun _ k => XS.iloadN X0.here hx rfl (hb hby at_39) rfl k) ?_
  refine own_go (fun _ k => XS.iconst X0.here hx rfl (hb hby at_40) k) ?_
  refine own_go (fun _ k => XS.iand X0.here hx rfl (hb hby at_41) rfl k) ?_
  show own_Run p e below _ s₁ (mkF m 42 #[.val (.int p1), .val (.int p2), .val (.int p3), .val (.int p4), .val (.int p5), .val (.int p6), .val (.int x6), .val (.int x7), .val (.int x8), .val (.int x9), .val (.int x10), .val (.int x11), .unset, .unset, .unset, .unset, .unset, .unset, .unset, .unset, .unset, .unset, .unset, .unset, .unset, .unset, .unset, .unset, .unset, .unset] [(.int (p3 &&& (3 : Int32)))])
  obtain ⟨x12, hx12⟩ : ∃ z, z = (p3 &&& (3 : Int32)) := ⟨_, rfl⟩
  rw [← hx12]
  refine own_go (fun _ k => XS.istore X0.here hx rfl (hb hby at_42) rfl (l' := #[.val (.int p1), .val (.int p2), .val (.int p3), .val (.int p4), .val (.int p5), .val (.int p6), .val (.int x6), .val (.int x7), .val (.int x8), .val (.int x9), .val (.int x10), .val (.int x11), .val (.int x12), .unset, .unset, .unset, .unset, .unset, .unset, .unset, .unset, .unset, .unset, .unset, .unset, .unset, .unset, .unset, .unset, .unset]) rfl k) ?_
  refine own_go (fun _ k => XS.iloadN X0.here hx rfl (hb hby at_44) rfl k) ?_
  refine own_go (fun _ k => XS.iconst X0.here hx rfl (hb hby at_45) k) ?_
  refine own_go (fun _ k => XS.iushr X0.here hx rfl (hb hby at_46) rfl k) ?_
  refine own_go (fun _ k => XS.iconst X0.here hx rfl (hb hby at_47) k) ?_
  refine own_go (fun _ k => XS.iand X0.here hx rfl (hb hby at_48) rfl k) ?_
  show own_Run p e below _ s₁ (mkF m 49 #[.val (.int p1), .val (.int p2), .val (.int p3), .val (.int p4), .val (.int p5), .val (.int p6), .val (.int x6), .val (.int x7), .val (.int x8), .val (.int x9), .val (.int x10), .val (.int x11), .val (.int x12), .unset, .unset, .unset, .unset, .unset, .unset, .unset, .unset, .unset, .unset, .unset, .unset, .unset, .unset, .unset, .unset, .unset] [(.int (((p3.toUInt32 >>> ((2 : Int32) &&& 31).toUInt32).toInt32) &&& (3 : Int32)))])
  obtain ⟨x13, hx13⟩ : ∃ z, z = (((p3.toUInt32 >>> ((2 : Int32) &&& 31).toUInt32).toInt32) &&& (3 : Int32)) := ⟨_, rfl⟩
  rw [← hx13]
  refine own_go (fun _ k => XS.istore X0.here hx rfl (hb hby at_49) rfl (l' := #[.val (.int p1), .val (.int p2), .val (.int p3), .val (.int p4), .val (.int p5), .val (.int p6), .val (.int x6), .val (.int x7), .val (.int x8), .val (.int x9), .val (.int x10), .val (.int x11), .val (.int x12), .val (.int x13), .unset, .unset, .unset, .unset, .unset, .unset, .unset, .unset, .unset, .unset, .unset, .unset, .unset, .unset, .unset, .unset]) rfl k) ?_
  refine own_go (fun _ k => XS.iloadN X0.here hx rfl (hb hby at_51) rfl k) ?_
  refine own_go (X0.ldcInt hx hown (mvT hZ (W 1 rfl)) (g := (mkF m 52 #[.val (.int p1), .val (.int p2), .val (.int p3), .val (.int p4), .val (.int p5), .val (.int p6), .val (.int x6), .val (.int x7), .val (.int x8), .val (.int x9), .val (.int x10), .val (.int x11), .val (.int x12), .val (.int x13), .unset, .unset, .unset, .unset, .unset, .unset, .unset, .unset, .unset, .unset, .unset, .unset, .unset, .unset, .unset, .unset] [(.int p4)])) rfl (hb hby at_52)) ?_
  refine own_go (fun _ k => XS.iand X0.here hx rfl (hb hby at_54) rfl k) ?_
  show own_Run p e below _ s₁ (mkF m 55 #[.val (.int p1), .val (.int p2), .val (.int p3), .val (.int p4), .val (.int p5), .val (.int p6), .val (.int x6), .val (.int x7), .val (.int x8), .val (.int x9), .val (.int x10), .val (.int x11), .val (.int x12), .val (.int x13), .unset, .unset, .unset, .unset, .unset, .unset, .unset, .unset, .unset, .unset, .unset, .unset, .unset, .unset, .unset, .unset] [(.int (p4 &&& (2147483647 : Int32)))])
  obtain ⟨x14, hx14⟩ : ∃ z, z = (p4 &&& (2147483647 : Int32)) := ⟨_, rfl⟩
  rw [← hx14]
  refine own_go (fun _ k => XS.istore X0.here hx rfl (hb hby at_55) rfl (l' := #[.val (.int p1), .val (.int p2), .val (.int p3), .val (.int p4), .val (.int p5), .val (.int p6), .val (.int x6), .val (.int x7), .val (.int x8), .val (.int x9), .val (.int x10), .val (.int x11), .val (.int x12), .val (.int x13), .val (.int x14), .unset, .unset, .unset, .unset, .unset, .unset, .unset, .unset, .unset, .unset, .unset, .unset, .unset, .unset, .unset]) rfl k) ?_
  refine own_go (fun _ k => XS.iload X0.here hx rfl (hb hby at_57) rfl k) ?_
  refine own_go (fun _ k => XS.iconst X0.here hx rfl (hb hby at_59) k) ?_
  refine own_go (fun _ k => iremM X0 hx rfl (hb hby at_60) rfl (by decide) k) ?_
  show own_Run p e below _ s₁ (mkF m 61 #[.val (.int p1), .val (.int p2), .val (.int p3), .val (.int p4), .val (.int p5), .val (.int p6), .val (.int x6), .val (.int x7), .val (.int x8), .val (.int x9), .val (.int x10), .val (.int x11), .val (.int x12), .val (.int x13), .val (.int x14), .unset, .unset, .unset, .unset, .unset, .unset, .unset, .unset, .unset, .unset, .unset, .unset, .unset, .unset, .unset] [(.int (x14 % (5 : Int32)))])
  obtain ⟨x15, hx15⟩ : ∃ z, z = (x14 % (5 : Int32)) := ⟨_, rfl⟩
  rw [← hx15]
  refine own_go (fun _ k => XS.istore X0.here hx rfl (hb hby at_61) rfl (l' := #[.val (.int p1), .val (.int p2), .val (.int p3), .val (.int p4), .val (.int p5), .val (.int p6), .val (.int x6), .val (.int x7), .val (.int x8), .val (.int x9), .val (.int x10), .val (.int x11), .val (.int x12), .val (.int x13), .val (.int x14), .val (.int x15), .unset, .unset, .unset, .unset, .unset, .unset, .unset, .unset, .unset, .unset, .unset, .unset, .unset, .unset]) rfl k) ?_
  refine own_go (fun _ k => XS.iload X0.here hx rfl (hb hby at_63) rfl k) ?_
  refine own_go (fun _ k => XS.iconst X0.here hx rfl (hb hby at_65) k) ?_
  refine own_go (fun _ k => XS.idiv X0.here hx rfl (hb hby at_66) rfl (by decide) k) ?_
  refine own_go (fun _ k => XS.iconst X0.here hx rfl (hb hby at_67) k) ?_
  refine own_go (fun _ k => iremM X0 hx rfl (hb hby at_68) rfl (by decide) k) ?_
  show own_Run p e below _ s₁ (mkF m 69 #[.val (.int p1), .val (.int p2), .val (.int p3), .val (.int p4), .val (.int p5), .val (.int p6), .val (.int x6), .val (.int x7), .val (.int x8), .val (.int x9), .val (.int x10), .val (.int x11), .val (.int x12), .val (.int x13), .val (.int x14), .val (.int x15), .unset, .unset, .unset, .unset, .unset, .unset, .unset, .unset, .unset, .unset, .unset, .unset, .unset, .unset] [(.int ((x14 / (5 : Int32)) % (5 : Int32)))])
  obtain ⟨x16, hx16⟩ : ∃ z, z = ((x14 / (5 : Int32)) % (5 : Int32)) := ⟨_, rfl⟩
  rw [← hx16]
  refine own_go (fun _ k => XS.istore X0.here hx rfl (hb hby at_69) rfl (l' := #[.val (.int p1), .val (.int p2), .val (.int p3), .val (.int p4), .val (.int p5), .val (.int p6), .val (.int x6), .val (.int x7), .val (.int x8), .val (.int x9), .val (.int x10), .val (.int x11), .val (.int x12), .val (.int x13), .val (.int x14), .val (.int x15), .val (.int x16), .unset, .unset, .unset, .unset, .unset, .unset, .unset, .unset, .unset, .unset, .unset, .unset, .unset]) rfl k) ?_
  refine own_go (fun _ k => XS.iload X0.here hx rfl (hb hby at_71) rfl k) ?_
  refine own_go (X0.ldcInt hx hown (mvT hZ (W 1 rfl)) (g := (mkF m 73 #[.val (.int p1), .val (.int p2), .val (.int p3), .val (.int p4), .val (.int p5), .val (.int p6), .val (.int x6), .val (.int x7), .val (.int x8), .val (.int x9), .val (.int x10), .val (.int x11), .val (.int x12), .val (.int x13), .val (.int x14), .val (.int x15), .val (.int x16), .unset, .unset, .unset, .unset, .unset, .unset, .unset, .unset, .unset, .unset, .unset, .unset, .unset] [(.int p5)])) rfl (hb hby at_73)) ?_
  refine own_go (fun _ k => XS.iand X0.here hx rfl (hb hby at_75) rfl k) ?_
  refine own_go (fun _ k => XS.bipush X0.here hx rfl (hb hby at_76) k) ?_
  refine own_go (fun _ k => iremM X0 hx rfl (hb hby at_78) rfl (by decide) k) ?_
  show own_Run p e below _ s₁ (mkF m 79 #[.val (.int p1), .val (.int p2), .val (.int p3), .val (.int p4), .val (.int p5), .val (.int p6), .val (.int x6), .val (.int x7), .val (.int x8), .val (.int x9), .val (.int x10), .val (.int x11), .val (.int x12), .val (.int x13), .val (.int x14), .val (.int x15), .val (.int x16), .unset, .unset, .unset, .unset, .unset, .unset, .unset, .unset, .unset, .unset, .unset, .unset, .unset] [(.int ((p5 &&& (2147483647 : Int32)) % (6 : Int32)))])
  obtain ⟨x17, hx17⟩ : ∃ z, z = ((p5 &&& (2147483647 : Int32)) % (6 : Int32)) := ⟨_, rfl⟩
  rw [← hx17]
  have g9 : 0 ≤ x9.toInt := by rw [hx9]; exact (own_mask0 p2 2147483647 (by decide)).1
  have g14 : 0 ≤ x14.toInt := by rw [hx14]; exact (own_mask0 p4 2147483647 (by decide)).1
  have q_x7 := own_r2 x7 (by have q := own_mask0 p1 1 (by decide); rw [hx7]; exact ⟨q.1, Int.lt_of_le_of_lt q.2 (by decide)⟩)
  have q_x8 := own_r2 x8 (by have q := own_mask0 ((p1.toUInt32 >>> ((1 : Int32) &&& 31).toUInt32).toInt32) 1 (by decide); rw [hx8]; exact ⟨q.1, Int.lt_of_le_of_lt q.2 (by decide)⟩)
  have q_x10 := own_r3 x10 (by rw [hx10]; exact own_rem x9 3 g9 (by decide))
  have q_x11 := own_r3 x11 (by rw [hx11]; exact own_rem _ 3 (own_div x9 3 g9 (by decide)) (by decide))
  have q_x12 := own_r4 x12 (by have q := own_mask0 p3 3 (by decide); rw [hx12]; exact ⟨q.1, Int.lt_of_le_of_lt q.2 (by decide)⟩)
  have q_x13 := own_r4 x13 (by have q := own_mask0 ((p3.toUInt32 >>> ((2 : Int32) &&& 31).toUInt32).toInt32) 3 (by decide); rw [hx13]; exact ⟨q.1, Int.lt_of_le_of_lt q.2 (by decide)⟩)
  have q_x15 := own_r5 x15 (by rw [hx15]; exact own_rem x14 5 g14 (by decide))
  have q_x16 := own_r5 x16 (by rw [hx16]; exact own_rem _ 5 (own_div x14 5 g14 (by decide)) (by decide))
  have q_x17 := own_r6 x17 (by rw [hx17]; exact own_rem _ 6 (own_mask0 p5 2147483647 (by decide)).1 (by decide))
  refine own_go (fun _ k => XS.istore X0.here hx rfl (hb hby at_79) rfl (l' := #[.val (.int p1), .val (.int p2), .val (.int p3), .val (.int p4), .val (.int p5), .val (.int p6), .val (.int x6), .val (.int x7), .val (.int x8), .val (.int x9), .val (.int x10), .val (.int x11), .val (.int x12), .val (.int x13), .val (.int x14), .val (.int x15), .val (.int x16), .val (.int x17), .unset, .unset, .unset, .unset, .unset, .unset, .unset, .unset, .unset, .unset, .unset, .unset]) rfl k) ?_
  obtain ⟨T604, h604, X604, e604, E604, A604, D604, -, st604⟩ := newO X0 hx hZ hown (W 2 rfl) (W 3 rfl) (W 4 rfl) e0 (g := (mkF m 81 #[.val (.int p1), .val (.int p2), .val (.int p3), .val (.int p4), .val (.int p5), .val (.int p6), .val (.int x6), .val (.int x7), .val (.int x8), .val (.int x9), .val (.int x10), .val (.int x11), .val (.int x12), .val (.int x13), .val (.int x14), .val (.int x15), .val (.int x16), .val (.int x17), .unset, .unset, .unset, .unset, .unset, .unset, .unset, .unset, .unset, .unset, .unset, .unset] [])) rfl (hb hby at_81) (by decide) (by decide)
  refine own_go st604 ?_
  obtain ⟨b604, g604⟩ : ∃ z, z = h0.size := ⟨_, rfl⟩
  rw [← g604] at A604 D604
  rw [← g604]
  have g_b604 : n0 ≤ b604 := Nat.le_trans Z0 (Nat.le_of_eq g604.symm)
  have sz_b604 : h0.size ≤ b604 := Nat.le_trans K0.1 (Nat.le_of_eq g604.symm)
  have Z0_c605 := Nat.le_trans Z0 E604.1
  have K0_c605 := K0.ext E604
  have F_variables_b604 : Fld Z h604 b604 own_K0 "variables" "[I" .null := D604 (Or.inl (W 13 rfl)) (ty := (.array .int)) (by decide)
  have F_lows_b604 : Fld Z h604 b604 own_K0 "lows" "[I" .null := D604 (Or.inl (W 15 rfl)) (ty := (.array .int)) (by decide)
  have F_highs_b604 : Fld Z h604 b604 own_K0 "highs" "[I" .null := D604 (Or.inl (W 17 rfl)) (ty := (.array .int)) (by decide)
  have F_size_b604 : Fld Z h604 b604 own_K0 "size" "I" (.int 0) := D604 (Or.inl (W 19 rfl)) (ty := .int) (by decide)
  have F_slots_b604 : Fld Z h604 b604 own_K0 "slots" "[I" .null := D604 (Or.inl (W 21 rfl)) (ty := (.array .int)) (by decide)
  refine own_go (fun _ k => XS.dup X604.here hx rfl (hb hby at_84) rfl rfl k) ?_
  obtain ⟨_, _, ⟨T606, L606, k606, n606⟩, -, X606, ⟨Lc606, hQ606, l606, y606, z606⟩, st606⟩ := X604.specialBack hx (y := (⟨own_K0, "<init>", "()V"⟩ : MethodName)) rfl hown (mvT hZ (W 5 rfl)) (mvT hZ (W 6 rfl)) (mvT hZ (W 7 rfl)) (by decide) (backOf (W := 1) (rm1 l Z a0 hw [] b604 .null .null .null (.int 0) .null h604 n0 Z0_c605 A604 F_variables_b604 F_lows_b604 F_highs_b604 F_size_b604 F_slots_b604 g_b604) hZ (W 7 rfl) (W 4 rfl) (by decide) (by decide)) (g := (mkF m 85 #[.val (.int p1), .val (.int p2), .val (.int p3), .val (.int p4), .val (.int p5), .val (.int p6), .val (.int x6), .val (.int x7), .val (.int x8), .val (.int x9), .val (.int x10), .val (.int x11), .val (.int x12), .val (.int x13), .val (.int x14), .val (.int x15), .val (.int x16), .val (.int x17), .unset, .unset, .unset, .unset, .unset, .unset, .unset, .unset, .unset, .unset, .unset, .unset] [(.ref b604), (.ref b604)])) rfl (by rw [hml]; rfl) (Steps.refl _) (a := b604) (argsL := []) (rest := [(.ref b604)]) (lenOf pd_4 rfl) rfl (by show 2 * 0 + _ ≤ _; exact Nat.le_of_eq rfl) (hb hby at_85) (fun _ _ => ⟨rfl, e604, (by decide : 1 + 4 ≤ _), (by decide : 5 + 5120 ≤ _)⟩)
  dsimp only [Pt.U, Pt.locs, Pt.cells, Pt.slots] at X606 l606 y606 z606 st606 hQ606
  subst l606 y606 z606
  obtain ⟨b1_606, b2_606, b3_606, b4_606, k1_606, k2_606, k3_606, k4_606, rfl, N606q, K606, P606_0, P606_1, P606_2, P606_3, P606_4, P606_5, P606_6, P606_7, P606_8, P606_9, P606_10, P606_11, P606_12, P606_13, P606_14, P606_15, P606_16, P606_17, P606_18, P606_19, P606_20, P606_21, P606_22, P606_23⟩ := hQ606
  have ne_b604_b1_606 : b604 ≠ b1_606 := Nat.ne_of_lt (Nat.lt_of_lt_of_le A604.lt P606_10)
  have g_b1_606 : n0 ≤ b1_606 := Nat.le_trans Z0_c605 P606_10
  have sz_b1_606 : h0.size ≤ b1_606 := Nat.le_trans K0_c605.1 P606_10
  have ne_b604_b2_606 : b604 ≠ b2_606 := Nat.ne_of_lt (Nat.lt_of_lt_of_le A604.lt P606_11)
  have g_b2_606 : n0 ≤ b2_606 := Nat.le_trans Z0_c605 P606_11
  have sz_b2_606 : h0.size ≤ b2_606 := Nat.le_trans K0_c605.1 P606_11
  have ne_b604_b3_606 : b604 ≠ b3_606 := Nat.ne_of_lt (Nat.lt_of_lt_of_le A604.lt P606_12)
  have g_b3_606 : n0 ≤ b3_606 := Nat.le_trans Z0_c605 P606_12
  have sz_b3_606 : h0.size ≤ b3_606 := Nat.le_trans K0_c605.1 P606_12
  have ne_b604_b4_606 : b604 ≠ b4_606 := Nat.ne_of_lt (Nat.lt_of_lt_of_le A604.lt P606_13)
  have g_b4_606 : n0 ≤ b4_606 := Nat.le_trans Z0_c605 P606_13
  have sz_b4_606 : h0.size ≤ b4_606 := Nat.le_trans K0_c605.1 P606_13
  have N606 := Fr.app N0 N606q
  refine own_goT st606 ?_
  have Z0_c607 := Nat.le_trans Z0_c605 K606.1
  have K0_c607 := K0_c605.trans K606 (allS (Or.inr sz_b604) all0)
  have A604_c607 := A604.keep K606
  refine own_go (fun _ k => XS.astore X606.here hx rfl (hb hby at_88) rfl rfl (l' := #[.val (.int p1), .val (.int p2), .val (.int p3), .val (.int p4), .val (.int p5), .val (.int p6), .val (.int x6), .val (.int x7), .val (.int x8), .val (.int x9), .val (.int x10), .val (.int x11), .val (.int x12), .val (.int x13), .val (.int x14), .val (.int x15), .val (.int x16), .val (.int x17), .val (.ref b604), .unset, .unset, .unset, .unset, .unset, .unset, .unset, .unset, .unset, .unset, .unset]) rfl k) ?_
  refine own_go (fun _ k => XS.aload X606.here hx rfl (hb hby at_90) rfl rfl k) ?_
  refine own_go (fun _ k => XS.iload X606.here hx rfl (hb hby at_92) rfl k) ?_
  refine own_go (fun _ k => XS.iconst X606.here hx rfl (hb hby at_94) k) ?_
  show own_Run p e below _ T606 (mkF m 95 #[.val (.int p1), .val (.int p2), .val (.int p3), .val (.int p4), .val (.int p5), .val (.int p6), .val (.int x6), .val (.int x7), .val (.int x8), .val (.int x9), .val (.int x10), .val (.int x11), .val (.int x12), .val (.int x13), .val (.int x14), .val (.int x15), .val (.int x16), .val (.int x17), .val (.ref b604), .unset, .unset, .unset, .unset, .unset, .unset, .unset, .unset, .unset, .unset, .unset] [(.int 3), (.int x6), (.ref b604)])
  refine own_go (fun _ k => XS.iadd X606.here hx rfl (hb hby at_95) rfl k) ?_
  refine own_go (fun _ k => XS.iload X606.here hx rfl (hb hby at_96) rfl k) ?_
  refine own_go (fun _ k => XS.iload X606.here hx rfl (hb hby at_98) rfl k) ?_
  obtain ⟨cq608, kq608, q608a, q608b, q608c⟩ := isOf hZ rfl P606_0
  obtain ⟨_, _, ⟨T608, L608, k608, n608⟩, -, X608, ⟨Lc608, hQ608, l608, y608, z608⟩, st608⟩ := X606.virtualBack hx (y := (⟨own_K0, "node", "(III)I"⟩ : MethodName)) (z := (⟨own_K0, "node", "(III)I"⟩ : MethodName)) hown (mvT hZ (W 23 rfl)) (mvT hZ (W 24 rfl)) (notFace_of_selects (args := #[]) (mvT hZ (W 26 rfl))) (mvT hZ (W 26 rfl)) (mvT hZ (W 25 rfl)) (by decide) (backOf (W := 0) (rm3c2 l Z a0 hw [] b604 (x6 + (3 : Int32)) x7 x8 b1_606 b2_606 b3_606 b4_606 k1_606 k2_606 k3_606 k4_606 T606.heap n0 Z0_c607 P606_0 P606_1 P606_2 P606_3 P606_4 P606_5 P606_6 P606_7 P606_8 P606_9 g_b604 g_b1_606 g_b2_606 g_b3_606 g_b4_606 P606_14 P606_15 P606_16 P606_17 P606_18 P606_19 P606_20 P606_21 P606_22 P606_23) hZ (W 27 rfl) (W 4 rfl) (by decide) (by decide)) q608a q608c (g := (mkF m 100 #[.val (.int p1), .val (.int p2), .val (.int p3), .val (.int p4), .val (.int p5), .val (.int p6), .val (.int x6), .val (.int x7), .val (.int x8), .val (.int x9), .val (.int x10), .val (.int x11), .val (.int x12), .val (.int x13), .val (.int x14), .val (.int x15), .val (.int x16), .val (.int x17), .val (.ref b604), .unset, .unset, .unset, .unset, .unset, .unset, .unset, .unset, .unset, .unset, .unset] [(.int x8), (.int x7), (.int (x6 + (3 : Int32))), (.ref b604)])) rfl (by rw [hml]; rfl) (Steps.refl _) (argsL := [(.int (x6 + (3 : Int32))), (.int x7), (.int x8)]) (rest := []) (lenOf pd_1 rfl) rfl (by show 2 * 0 + _ ≤ _; exact Nat.le_of_eq rfl) (hb hby at_100) (fun _ _ => ⟨rfl, rfl, (by decide : 5 + 0 ≤ _), (by decide : 5125 + 0 ≤ _)⟩)
  dsimp only [Pt.U, Pt.locs, Pt.cells, Pt.slots] at X608 l608 y608 z608 st608 hQ608
  subst l608 y608 z608
  obtain ⟨ic_608, rfl, N608q, K608, P608_0, P608_1, P608_2, P608_3, P608_4, P608_5, P608_6, P608_7, P608_8, P608_9⟩ := hQ608
  have N608 := Fr.app N606 N608q
  refine own_goT st608 ?_
  have Z0_c609 := Nat.le_trans Z0_c607 K608.1
  have K0_c609 := K0_c607.trans K608 (allS (Or.inr sz_b604) (allS (Or.inr sz_b1_606) (allS (Or.inr sz_b2_606) (allS (Or.inr sz_b3_606) (allS (Or.inr sz_b4_606) all0)))))
  have P606_0_c609 := P606_0.keep K608
  refine own_go (fun _ k => XS.istore X608.here hx rfl (hb hby at_103) rfl (l' := #[.val (.int p1), .val (.int p2), .val (.int p3), .val (.int p4), .val (.int p5), .val (.int p6), .val (.int x6), .val (.int x7), .val (.int x8), .val (.int x9), .val (.int x10), .val (.int x11), .val (.int x12), .val (.int x13), .val (.int x14), .val (.int x15), .val (.int x16), .val (.int x17), .val (.ref b604), .val (.int 2), .unset, .unset, .unset, .unset, .unset, .unset, .unset, .unset, .unset, .unset]) rfl k) ?_
  refine own_go (fun _ k => XS.aload X608.here hx rfl (hb hby at_105) rfl rfl k) ?_
  refine own_go (fun _ k => XS.iload X608.here hx rfl (hb hby at_107) rfl k) ?_
  refine own_go (fun _ k => XS.iconst X608.here hx rfl (hb hby at_109) k) ?_
  show own_Run p e below _ T608 (mkF m 110 #[.val (.int p1), .val (.int p2), .val (.int p3), .val (.int p4), .val (.int p5), .val (.int p6), .val (.int x6), .val (.int x7), .val (.int x8), .val (.int x9), .val (.int x10), .val (.int x11), .val (.int x12), .val (.int x13), .val (.int x14), .val (.int x15), .val (.int x16), .val (.int x17), .val (.ref b604), .val (.int 2), .unset, .unset, .unset, .unset, .unset, .unset, .unset, .unset, .unset, .unset] [(.int 2), (.int x6), (.ref b604)])
  refine own_go (fun _ k => XS.iadd X608.here hx rfl (hb hby at_110) rfl k) ?_
  refine own_go (fun _ k => XS.iload X608.here hx rfl (hb hby at_111) rfl k) ?_
  refine own_go (fun _ k => XS.iload X608.here hx rfl (hb hby at_113) rfl k) ?_
  obtain ⟨cq610, kq610, q610a, q610b, q610c⟩ := isOf hZ rfl P608_0
  obtain ⟨_, _, ⟨T610, L610, k610, n610⟩, -, X610, ⟨Lc610, hQ610, l610, y610, z610⟩, st610⟩ := X608.virtualBack hx (y := (⟨own_K0, "node", "(III)I"⟩ : MethodName)) (z := (⟨own_K0, "node", "(III)I"⟩ : MethodName)) hown (mvT hZ (W 23 rfl)) (mvT hZ (W 24 rfl)) (notFace_of_selects (args := #[]) (mvT hZ (W 26 rfl))) (mvT hZ (W 26 rfl)) (mvT hZ (W 25 rfl)) (by decide) (backOf (W := 0) (rm3c3 l Z a0 hw [] b604 (x6 + (2 : Int32)) x10 x11 b1_606 b2_606 b3_606 b4_606 k1_606 k2_606 k3_606 k4_606 (x6 + (3 : Int32)) x7 x8 ic_608 T608.heap n0 Z0_c609 P608_0 P608_1 P608_2 P608_3 P608_4 P608_5 P608_6 P608_7 P608_8 P608_9 g_b604 g_b1_606 g_b2_606 g_b3_606 g_b4_606 P606_14 P606_15 P606_16 P606_17 P606_18 P606_19 P606_20 P606_21 P606_22 P606_23 (own_addNe x6 _ _ (by decide))) hZ (W 27 rfl) (W 4 rfl) (by decide) (by decide)) q610a q610c (g := (mkF m 115 #[.val (.int p1), .val (.int p2), .val (.int p3), .val (.int p4), .val (.int p5), .val (.int p6), .val (.int x6), .val (.int x7), .val (.int x8), .val (.int x9), .val (.int x10), .val (.int x11), .val (.int x12), .val (.int x13), .val (.int x14), .val (.int x15), .val (.int x16), .val (.int x17), .val (.ref b604), .val (.int 2), .unset, .unset, .unset, .unset, .unset, .unset, .unset, .unset, .unset, .unset] [(.int x11), (.int x10), (.int (x6 + (2 : Int32))), (.ref b604)])) rfl (by rw [hml]; rfl) (Steps.refl _) (argsL := [(.int (x6 + (2 : Int32))), (.int x10), (.int x11)]) (rest := []) (lenOf pd_1 rfl) rfl (by show 2 * 0 + _ ≤ _; exact Nat.le_of_eq rfl) (hb hby at_115) (fun _ _ => ⟨rfl, rfl, (by decide : 5 + 0 ≤ _), (by decide : 5125 + 0 ≤ _)⟩)
  dsimp only [Pt.U, Pt.locs, Pt.cells, Pt.slots] at X610 l610 y610 z610 st610 hQ610
  subst l610 y610 z610
  obtain ⟨ic_610, rfl, N610q, K610, P610_0, P610_1, P610_2, P610_3, P610_4, P610_5, P610_6, P610_7, P610_8, P610_9⟩ := hQ610
  have N610 := Fr.app N608 N610q
  refine own_goT st610 ?_
  have Z0_c611 := Nat.le_trans Z0_c609 K610.1
  have K0_c611 := K0_c609.trans K610 (allS (Or.inr sz_b604) (allS (Or.inr sz_b1_606) (allS (Or.inr sz_b2_606) (allS (Or.inr sz_b3_606) (allS (Or.inr sz_b4_606) all0)))))
  have P608_0_c611 := P608_0.keep K610
  refine own_go (fun _ k => XS.istore X610.here hx rfl (hb hby at_118) rfl (l' := #[.val (.int p1), .val (.int p2), .val (.int p3), .val (.int p4), .val (.int p5), .val (.int p6), .val (.int x6), .val (.int x7), .val (.int x8), .val (.int x9), .val (.int x10), .val (.int x11), .val (.int x12), .val (.int x13), .val (.int x14), .val (.int x15), .val (.int x16), .val (.int x17), .val (.ref b604), .val (.int 2), .val (.int 3), .unset, .unset, .unset, .unset, .unset, .unset, .unset, .unset, .unset]) rfl k) ?_
  refine own_go (fun _ k => XS.aload X610.here hx rfl (hb hby at_120) rfl rfl k) ?_
  refine own_go (fun _ k => XS.iload X610.here hx rfl (hb hby at_122) rfl k) ?_
  refine own_go (fun _ k => XS.iconst X610.here hx rfl (hb hby at_124) k) ?_
  show own_Run p e below _ T610 (mkF m 125 #[.val (.int p1), .val (.int p2), .val (.int p3), .val (.int p4), .val (.int p5), .val (.int p6), .val (.int x6), .val (.int x7), .val (.int x8), .val (.int x9), .val (.int x10), .val (.int x11), .val (.int x12), .val (.int x13), .val (.int x14), .val (.int x15), .val (.int x16), .val (.int x17), .val (.ref b604), .val (.int 2), .val (.int 3), .unset, .unset, .unset, .unset, .unset, .unset, .unset, .unset, .unset] [(.int 1), (.int x6), (.ref b604)])
  refine own_go (fun _ k => XS.iadd X610.here hx rfl (hb hby at_125) rfl k) ?_
  refine own_go (fun _ k => XS.iload X610.here hx rfl (hb hby at_126) rfl k) ?_
  refine own_go (fun _ k => XS.iload X610.here hx rfl (hb hby at_128) rfl k) ?_
  obtain ⟨cq612, kq612, q612a, q612b, q612c⟩ := isOf hZ rfl P610_0
  obtain ⟨_, _, ⟨T612, L612, k612, n612⟩, -, X612, ⟨Lc612, hQ612, l612, y612, z612⟩, st612⟩ := X610.virtualBack hx (y := (⟨own_K0, "node", "(III)I"⟩ : MethodName)) (z := (⟨own_K0, "node", "(III)I"⟩ : MethodName)) hown (mvT hZ (W 23 rfl)) (mvT hZ (W 24 rfl)) (notFace_of_selects (args := #[]) (mvT hZ (W 26 rfl))) (mvT hZ (W 26 rfl)) (mvT hZ (W 25 rfl)) (by decide) (backOf (W := 0) (rm3c4 l Z a0 hw [] b604 (x6 + (1 : Int32)) x12 x13 b1_606 b2_606 b3_606 b4_606 k1_606 k2_606 k3_606 k4_606 (x6 + (3 : Int32)) (x6 + (2 : Int32)) x7 x10 x8 x11 ic_608 ic_610 T610.heap n0 Z0_c611 P610_0 P610_1 P610_2 P610_3 P610_4 P610_5 P610_6 P610_7 P610_8 P610_9 g_b604 g_b1_606 g_b2_606 g_b3_606 g_b4_606 P606_14 P606_15 P606_16 P606_17 P606_18 P606_19 P606_20 P606_21 P606_22 P606_23 (own_addNe x6 _ _ (by decide)) (own_addNe x6 _ _ (by decide))) hZ (W 27 rfl) (W 4 rfl) (by decide) (by decide)) q612a q612c (g := (mkF m 130 #[.val (.int p1), .val (.int p2), .val (.int p3), .val (.int p4), .val (.int p5), .val (.int p6), .val (.int x6), .val (.int x7), .val (.int x8), .val (.int x9), .val (.int x10), .val (.int x11), .val (.int x12), .val (.int x13), .val (.int x14), .val (.int x15), .val (.int x16), .val (.int x17), .val (.ref b604), .val (.int 2), .val (.int 3), .unset, .unset, .unset, .unset, .unset, .unset, .unset, .unset, .unset] [(.int x13), (.int x12), (.int (x6 + (1 : Int32))), (.ref b604)])) rfl (by rw [hml]; rfl) (Steps.refl _) (argsL := [(.int (x6 + (1 : Int32))), (.int x12), (.int x13)]) (rest := []) (lenOf pd_1 rfl) rfl (by show 2 * 0 + _ ≤ _; exact Nat.le_of_eq rfl) (hb hby at_130) (fun _ _ => ⟨rfl, rfl, (by decide : 5 + 0 ≤ _), (by decide : 5125 + 0 ≤ _)⟩)
  dsimp only [Pt.U, Pt.locs, Pt.cells, Pt.slots] at X612 l612 y612 z612 st612 hQ612
  subst l612 y612 z612
  obtain ⟨ic_612, rfl, N612q, K612, P612_0, P612_1, P612_2, P612_3, P612_4, P612_5, P612_6, P612_7, P612_8, P612_9⟩ := hQ612
  have N612 := Fr.app N610 N612q
  refine own_goT st612 ?_
  have Z0_c613 := Nat.le_trans Z0_c611 K612.1
  have K0_c613 := K0_c611.trans K612 (allS (Or.inr sz_b604) (allS (Or.inr sz_b1_606) (allS (Or.inr sz_b2_606) (allS (Or.inr sz_b3_606) (allS (Or.inr sz_b4_606) all0)))))
  have P610_0_c613 := P610_0.keep K612
  refine own_go (fun _ k => XS.istore X612.here hx rfl (hb hby at_133) rfl (l' := #[.val (.int p1), .val (.int p2), .val (.int p3), .val (.int p4), .val (.int p5), .val (.int p6), .val (.int x6), .val (.int x7), .val (.int x8), .val (.int x9), .val (.int x10), .val (.int x11), .val (.int x12), .val (.int x13), .val (.int x14), .val (.int x15), .val (.int x16), .val (.int x17), .val (.ref b604), .val (.int 2), .val (.int 3), .val (.int 4), .unset, .unset, .unset, .unset, .unset, .unset, .unset, .unset]) rfl k) ?_
  refine own_go (fun _ k => XS.aload X612.here hx rfl (hb hby at_135) rfl rfl k) ?_
  refine own_go (fun _ k => XS.iload X612.here hx rfl (hb hby at_137) rfl k) ?_
  refine own_go (fun _ k => XS.iload X612.here hx rfl (hb hby at_139) rfl k) ?_
  show own_Run p e below _ T612 (mkF m 141 #[.val (.int p1), .val (.int p2), .val (.int p3), .val (.int p4), .val (.int p5), .val (.int p6), .val (.int x6), .val (.int x7), .val (.int x8), .val (.int x9), .val (.int x10), .val (.int x11), .val (.int x12), .val (.int x13), .val (.int x14), .val (.int x15), .val (.int x16), .val (.int x17), .val (.ref b604), .val (.int 2), .val (.int 3), .val (.int 4), .unset, .unset, .unset, .unset, .unset, .unset, .unset, .unset] [(.int x15), (.int x6), (.ref b604)])
  refine own_go (fun _ k => XS.iload X612.here hx rfl (hb hby at_141) rfl k) ?_
  obtain ⟨cq614, kq614, q614a, q614b, q614c⟩ := isOf hZ rfl P612_0
  obtain ⟨_, _, ⟨T614, L614, k614, n614⟩, -, X614, ⟨Lc614, hQ614, l614, y614, z614⟩, st614⟩ := X612.virtualBack hx (y := (⟨own_K0, "node", "(III)I"⟩ : MethodName)) (z := (⟨own_K0, "node", "(III)I"⟩ : MethodName)) hown (mvT hZ (W 23 rfl)) (mvT hZ (W 24 rfl)) (notFace_of_selects (args := #[]) (mvT hZ (W 26 rfl))) (mvT hZ (W 26 rfl)) (mvT hZ (W 25 rfl)) (by decide) (backOf (W := 0) (rm3c5 l Z a0 hw [] b604 x6 x15 x16 b1_606 b2_606 b3_606 b4_606 k1_606 k2_606 k3_606 k4_606 (x6 + (3 : Int32)) (x6 + (2 : Int32)) (x6 + (1 : Int32)) x7 x10 x12 x8 x11 x13 ic_608 ic_610 ic_612 T612.heap n0 Z0_c613 P612_0 P612_1 P612_2 P612_3 P612_4 P612_5 P612_6 P612_7 P612_8 P612_9 g_b604 g_b1_606 g_b2_606 g_b3_606 g_b4_606 P606_14 P606_15 P606_16 P606_17 P606_18 P606_19 P606_20 P606_21 P606_22 P606_23 (own_addNe0 x6 _ (by decide)) (own_addNe0 x6 _ (by decide)) (own_addNe0 x6 _ (by decide))) hZ (W 27 rfl) (W 4 rfl) (by decide) (by decide)) q614a q614c (g := (mkF m 143 #[.val (.int p1), .val (.int p2), .val (.int p3), .val (.int p4), .val (.int p5), .val (.int p6), .val (.int x6), .val (.int x7), .val (.int x8), .val (.int x9), .val (.int x10), .val (.int x11), .val (.int x12), .val (.int x13), .val (.int x14), .val (.int x15), .val (.int x16), .val (.int x17), .val (.ref b604), .val (.int 2), .val (.int 3), .val (.int 4), .unset, .unset, .unset, .unset, .unset, .unset, .unset, .unset] [(.int x16), (.int x15), (.int x6), (.ref b604)])) rfl (by rw [hml]; rfl) (Steps.refl _) (argsL := [(.int x6), (.int x15), (.int x16)]) (rest := []) (lenOf pd_1 rfl) rfl (by show 2 * 0 + _ ≤ _; exact Nat.le_of_eq rfl) (hb hby at_143) (fun _ _ => ⟨rfl, rfl, (by decide : 5 + 0 ≤ _), (by decide : 5125 + 0 ≤ _)⟩)
  dsimp only [Pt.U, Pt.locs, Pt.cells, Pt.slots] at X614 l614 y614 z614 st614 hQ614
  subst l614 y614 z614
  obtain ⟨ic_614, rfl, N614q, K614, P614_0, P614_1, P614_2, P614_3, P614_4, P614_5, P614_6, P614_7, P614_8, P614_9⟩ := hQ614
  have N614 := Fr.app N612 N614q
  refine own_goT st614 ?_
  have Z0_c615 := Nat.le_trans Z0_c613 K614.1
  have K0_c615 := K0_c613.trans K614 (allS (Or.inr sz_b604) (allS (Or.inr sz_b1_606) (allS (Or.inr sz_b2_606) (allS (Or.inr sz_b3_606) (allS (Or.inr sz_b4_606) all0)))))
  have P612_0_c615 := P612_0.keep K614
  refine own_go (fun _ k => XS.istore X614.here hx rfl (hb hby at_146) rfl (l' := #[.val (.int p1), .val (.int p2), .val (.int p3), .val (.int p4), .val (.int p5), .val (.int p6), .val (.int x6), .val (.int x7), .val (.int x8), .val (.int x9), .val (.int x10), .val (.int x11), .val (.int x12), .val (.int x13), .val (.int x14), .val (.int x15), .val (.int x16), .val (.int x17), .val (.ref b604), .val (.int 2), .val (.int 3), .val (.int 4), .val (.int 5), .unset, .unset, .unset, .unset, .unset, .unset, .unset]) rfl k) ?_
  refine own_go (fun _ k => XS.aload X614.here hx rfl (hb hby at_148) rfl rfl k) ?_
  refine own_go (fun _ k => XS.iload X614.here hx rfl (hb hby at_150) rfl k) ?_
  obtain ⟨cq616, kq616, q616a, q616b, q616c⟩ := isOf hZ rfl P614_0
  obtain ⟨_, _, ⟨T616, L616, k616, n616⟩, -, X616, ⟨Lc616, hQ616, l616, y616, z616⟩, st616⟩ := X614.virtualBack hx (y := (⟨own_K0, "reachable", "(I)[Z"⟩ : MethodName)) (z := (⟨own_K0, "reachable", "(I)[Z"⟩ : MethodName)) hown (mvT hZ (W 32 rfl)) (mvT hZ (W 33 rfl)) (notFace_of_selects (args := #[]) (mvT hZ (W 35 rfl))) (mvT hZ (W 35 rfl)) (mvT hZ (W 34 rfl)) (by decide) (backOf (W := 0) (rm5 l Z a0 hw [] b604 x17 b2_606 b3_606 k2_606 k3_606 x7 x8 x10 x11 x12 x13 x15 x16 T614.heap n0 Z0_c615 P614_2 P614_3 P614_7 P614_8 (q_x17) (q_x7) (q_x8) (q_x10) (q_x11) (q_x12) (q_x13) (q_x15) (q_x16)) hZ (W 36 rfl) (W 4 rfl) (by decide) (by decide)) q616a q616c (g := (mkF m 152 #[.val (.int p1), .val (.int p2), .val (.int p3), .val (.int p4), .val (.int p5), .val (.int p6), .val (.int x6), .val (.int x7), .val (.int x8), .val (.int x9), .val (.int x10), .val (.int x11), .val (.int x12), .val (.int x13), .val (.int x14), .val (.int x15), .val (.int x16), .val (.int x17), .val (.ref b604), .val (.int 2), .val (.int 3), .val (.int 4), .val (.int 5), .unset, .unset, .unset, .unset, .unset, .unset, .unset] [(.int x17), (.ref b604)])) rfl (by rw [hml]; rfl) (Steps.refl _) (argsL := [(.int x17)]) (rest := []) (lenOf pd_5 rfl) rfl (by show 2 * 0 + _ ≤ _; exact Nat.le_of_eq rfl) (hb hby at_152) (fun _ _ => ⟨rfl, rfl, (by decide : 5 + 1 ≤ _), (by decide : 5125 + 6 ≤ _)⟩)
  dsimp only [Pt.U, Pt.locs, Pt.cells, Pt.slots] at X616 l616 y616 z616 st616 hQ616
  subst l616 y616 z616
  obtain ⟨b_616, kb_616, nn_616, vs_616, rfl, N616q, K616, P616_0, P616_1, P616_2⟩ := hQ616
  have ne_b604_b_616 : b604 ≠ b_616 := Nat.ne_of_lt (Nat.lt_of_lt_of_le P614_0.lt P616_1)
  have ne_b1_606_b_616 : b1_606 ≠ b_616 := Nat.ne_of_lt (Nat.lt_of_lt_of_le P614_6.lt P616_1)
  have ne_b2_606_b_616 : b2_606 ≠ b_616 := Nat.ne_of_lt (Nat.lt_of_lt_of_le P614_7.lt P616_1)
  have ne_b3_606_b_616 : b3_606 ≠ b_616 := Nat.ne_of_lt (Nat.lt_of_lt_of_le P614_8.lt P616_1)
  have ne_b4_606_b_616 : b4_606 ≠ b_616 := Nat.ne_of_lt (Nat.lt_of_lt_of_le P614_9.lt P616_1)
  have g_b_616 : n0 ≤ b_616 := Nat.le_trans Z0_c615 P616_1
  have sz_b_616 : h0.size ≤ b_616 := Nat.le_trans K0_c615.1 P616_1
  have N616 := Fr.app N614 N616q
  refine own_goT st616 ?_
  have Z0_c617 := Nat.le_trans Z0_c615 K616.1
  have K0_c617 := K0_c615.trans K616 all0
  have P614_0_c617 := P614_0.keep K616
  have P614_1_c617 := P614_1.keep K616 nin0
  have P614_2_c617 := P614_2.keep K616 nin0
  have P614_3_c617 := P614_3.keep K616 nin0
  have P614_4_c617 := P614_4.keep K616 nin0
  have P614_5_c617 := P614_5.keep K616 nin0
  have P614_6_c617 := P614_6.keep K616 nin0
  have P614_7_c617 := P614_7.keep K616 nin0
  have P614_8_c617 := P614_8.keep K616 nin0
  have P614_9_c617 := P614_9.keep K616 nin0
  refine own_go (fun _ k => XS.astore X616.here hx rfl (hb hby at_155) rfl rfl (l' := #[.val (.int p1), .val (.int p2), .val (.int p3), .val (.int p4), .val (.int p5), .val (.int p6), .val (.int x6), .val (.int x7), .val (.int x8), .val (.int x9), .val (.int x10), .val (.int x11), .val (.int x12), .val (.int x13), .val (.int x14), .val (.int x15), .val (.int x16), .val (.int x17), .val (.ref b604), .val (.int 2), .val (.int 3), .val (.int 4), .val (.int 5), .val (.ref b_616), .unset, .unset, .unset, .unset, .unset, .unset]) rfl k) ?_
  exact lw6 p1 p2 p3 p4 p5 p6 h0 n0 hx hZ hw hby hml hown hnm hret hlk x6 x7 x8 x9 x10 x11 x12 x13 x14 x15 x16 x17 b604 b_616 kb_616 nn_616 vs_616 T616 T616.heap _ X616 rfl N616 Z0_c617 K0_c617 P616_0 (P616_2) 
set_option maxRecDepth 65536 in
set_option maxHeartbeats 40000000 in
theorem comes_1 {Post : Tables → Env → Array Value → State → Outcome → State → Prop} (hpost : ∀ tb e args s v u, (limb_1_1.after args s (.returned v) u = true ∧ limb_1_2.after args s (.returned v) u = true ∧ True) → FrameEnd s (.returned v) u (Jvm.fieldLocs frame_1_writes args s ++ Jvm.arrayLocs frame_1_arrays args s ++ Jvm.staticLocs frame_1_statics s) 24 10368 → Post tb e args s (.returned v) u) :
    ArmFor flags0 classFile x code maxLocals ret World_1 tables_1 room_1 Calls_1 rest_1 Pre_1 Post := by
  intro l hfl _ _ p e ha hc hk s m args below hf hA hF happ hP
  obtain ⟨hcalls, hrest, hpre⟩ := hP
  obtain ⟨-, -, -, hnamed, -, -, -, hat⟩ := (Spec.applies_iff hf).mp happ
  obtain ⟨hg, hn⟩ := and_e (Cond.before_iff.mp (show (Jvm.Cond.and given_1 narrow_1).before args s = true from hpre))
  obtain ⟨hcount, hr0⟩ := and_e hg
  obtain ⟨ha0, hr1⟩ := and_e hr0
  obtain ⟨ha1, hr2⟩ := and_e hr1
  obtain ⟨ha2, hr3⟩ := and_e hr2
  obtain ⟨ha3, hr4⟩ := and_e hr3
  obtain ⟨ha4, hr5⟩ := and_e hr4
  have ha5 := hr5
  obtain ⟨w0, w1, w2, w3, w4, w5, rfl⟩ : ∃ w0 w1 w2 w3 w4 w5 : Value, args = #[w0, w1, w2, w3, w4, w5] := by
    have hs : args.size = 6 := by simpa [Cond.value, given_1] using hcount
    obtain ⟨L⟩ := args
    match L, hs with
    | [w0, w1, w2, w3, w4, w5], _ => exact ⟨w0, w1, w2, w3, w4, w5, rfl⟩
  have hw := fun d (hd : d ∈ tables_1) => atoms_spec (ws := Jvm.Cond.code x code maxLocals ret :: tables_1) hat d (List.mem_cons_of_mem _ hd)
  have W := fun (k : Nat) {d : Jvm.Cond} (h : tables_1[k]? = some d) => hw d (List.mem_of_getElem? h)
  have hfit : Fit s := fun {y c} hc i hi => by
    obtain ⟨ha, rfl⟩ := Array.getElem?_eq_some_iff.mp hc
    have q := List.all_eq_true.mp ((Array.all_eq_true_iff_forall_mem.mp hF) _ (Array.getElem_mem ha)) i (List.mem_range.mpr hi)
    simpa [Array.getElem?_eq_getElem hi] using q
  obtain ⟨i0, ei0⟩ := is_v ha0
  obtain rfl : w0 = (.int i0) := Option.some.inj ei0
  obtain ⟨i1, ei1⟩ := is_v ha1
  obtain rfl : w1 = (.int i1) := Option.some.inj ei1
  obtain ⟨i2, ei2⟩ := is_v ha2
  obtain rfl : w2 = (.int i2) := Option.some.inj ei2
  obtain ⟨i3, ei3⟩ := is_v ha3
  obtain rfl : w3 = (.int i3) := Option.some.inj ei3
  obtain ⟨i4, ei4⟩ := is_v ha4
  obtain rfl : w4 = (.int i4) := Option.some.inj ei4
  obtain ⟨i5, ei5⟩ := is_v ha5
  obtain rfl : w5 = (.int i5) := Option.some.inj ei5
  obtain ⟨n, o, h1, h2, h3, _, L, rfl, ⟨rfl, N⟩, hq⟩ := rm0 l s _ hw tables_1 i0 i1 i2 i3 i4 i5 s.heap s.heap.size (Nat.le_refl _) p e ha hc hk s m _ below hf ((Spec.applies_iff_loose hf).mp happ).1 ⟨rfl, State.Warmed39.refl s, rfl⟩ trivial
  refine ⟨n, _, h1, h2, h3, hpost _ _ _ _ _ _ ⟨Cond.after_iff.mpr rfl, Cond.after_iff.mpr (eq_i res_at (Term.int_eval (1)) rfl), trivial⟩ ⟨hq.1, hq.2.1, (hq.2.2.sift fun y hy => Or.inr (N y hy)).mono (by decide) (by decide)⟩⟩
theorem main_1_1 : Claimed_1_1 := comes_1 fun _ _ _ _ _ _ h hF => ⟨h.1, hF⟩
theorem main_1_2 : Claimed_1_2 := comes_1 fun _ _ _ _ _ _ h hF => ⟨h.2.1, hF⟩
end Jvm.Pilot.@@N@@
namespace Jvm.Pilot.@@N@@
open Jvm Jvm.ClassFile Sem Op Lib Jvm.Free Jvm.Stand Jvm.Pilot.@@N@@.Jvm.D
/-! MADE BY PROGRAM (witnessworld.py) out of the Statement's table words and the real class files: 11 classes; the members and pool entries that the words name. The judged class is class 1, her method 1. -/
namespace start1
open Jvm.ClassFile
def u (s : String) : CpInfo := .utf8 (stringToUtf16 s)
/-- a pool by its gaps: so many unusable entries, then the entry; so many at the end -/
def gap : Nat → List CpInfo → List CpInfo
  | 0, r => r
  | n + 1, r => .unusable :: gap n r
def poolList (es : List (Nat × CpInfo)) (last : Nat) : List CpInfo := es.foldr (fun e r => gap e.1 (e.2 :: r)) (gap last [])
def pool (es : List (Nat × CpInfo)) (last : Nat) : Array CpInfo := ⟨poolList es last⟩
def fileOf (pool : Array CpInfo) (this : Nat) (attrs : Array Attribute := #[]) (ms : Array MethodInfo := #[]) (fl : Nat := 33) (sup : Nat := 0) (ifs : Array Nat := #[]) (fds : Array FieldInfo := #[]) : ClassFile where
  minorVersion := 0
  majorVersion := 65
  constantPool := pool
  accessFlags := fl
  thisClass := this
  superClass := sup
  interfaces := ifs
  fields := fds
  methods := ms
  attributes := attrs
def plain (name : String) (sup : Option ClassId) : Class where
  name := name
  kind := .ordinary
  loader := none
  accessFlags := 33
  super := sup
  interfaces := #[]
  cf := none
  fields := #[]
  methods := #[]
  instanceTypes := #[]
  staticTypes := #[]
  resolved := #[]
  callSites := []
  init := .initialized
  statics := none
  mirror := none

def pool0 : Array CpInfo := pool [(5, u "<init>"), (0, u "()V"), (1, .class_ 10), (1, u "java/lang/Object")] 113

def k0c0 : Code := { maxStack := 0, maxLocals := 1, code := object_method_1_code, exceptionTable := #[], attributes := #[] }
def k0m0 : Method := { name := "<init>", desc := "()V", sig := { parameters := [], returnType := none }, accessFlags := 1, code := some k0c0 }
/-- java/lang/Object -/
def k0 : Class := { plain "java/lang/Object" none with
  accessFlags := 33
  interfaces := #[]
  cf := some (fileOf pool0 8 #[] #[{ accessFlags := 1, nameIndex := 5, descriptorIndex := 6, attributes := #[] }] 33 0 #[] #[])
  fields := #[]
  methods := #[k0m0]
  instanceTypes := #[]
  staticTypes := #[]
  resolved := Array.replicate 124 none
  statics := none }

def pool1 : Array CpInfo := pool [(2, .class_ 4), (0, .nameAndType 5 6), (0, u "java/lang/Object"), (0, u "<init>"), (0, u "()V"), (0, .integer 16777215), (0, .integer 2147483647), (0, .class_ 10), (0, u "com/example/error_to_hazard/errortohazard/analysis/NodeTable"), (0, .methodref 9 3), (0, .methodref 9 13), (0, .nameAndType 14 15), (0, u "node"), (0, u "(III)I"), (0, .methodref 9 17), (0, .nameAndType 18 19), (0, u "reachable"), (0, u "(I)[Z"), (0, .methodref 21 22), (0, .class_ 23), (0, .nameAndType 24 25), (0, u "com/example/error_to_hazard/errortohazard/analysis/NodeTableReachablePinLaw"), (0, u "hits"), (0, u "(III)Z"), (0, .methodref 21 27), (0, .nameAndType 28 29), (0, u "at"), (0, u "([ZI)Z"), (2, u "law"), (0, u "(IIIIII)Z")] 5

def k1m0 : Method := { name := "<init>", desc := "()V", sig := { parameters := [], returnType := none }, accessFlags := 1, code := none }
def k1c1 : Code := { maxStack := 4, maxLocals := 30, code := code, exceptionTable := #[], attributes := #[] }
def k1m1 : Method := { name := "law", desc := "(IIIIII)Z", sig := { parameters := [.int, .int, .int, .int, .int, .int], returnType := some .boolean }, accessFlags := 9, code := some k1c1 }
def k1c2 : Code := { maxStack := 2, maxLocals := 3, code := method_3_code, exceptionTable := #[], attributes := #[] }
def k1m2 : Method := { name := "hits", desc := "(III)Z", sig := { parameters := [.int, .int, .int], returnType := some .boolean }, accessFlags := 10, code := some k1c2 }
def k1c3 : Code := { maxStack := 2, maxLocals := 2, code := method_4_code, exceptionTable := #[], attributes := #[] }
def k1m3 : Method := { name := "at", desc := "([ZI)Z", sig := { parameters := [(.array .boolean), .int], returnType := some .boolean }, accessFlags := 10, code := some k1c3 }
/-- com/example/error_to_hazard/errortohazard/analysis/NodeTableReachablePinLaw -/
def k1 : Class := { plain "com/example/error_to_hazard/errortohazard/analysis/NodeTableReachablePinLaw" (some 0) with
  accessFlags := 49
  interfaces := #[]
  cf := some (fileOf pool1 21 #[] #[{ accessFlags := 1, nameIndex := 5, descriptorIndex := 6, attributes := #[] }, { accessFlags := 9, nameIndex := 32, descriptorIndex := 33, attributes := #[] }, { accessFlags := 10, nameIndex := 24, descriptorIndex := 25, attributes := #[] }, { accessFlags := 10, nameIndex := 28, descriptorIndex := 29, attributes := #[] }] 49 2 #[] #[])
  fields := #[]
  methods := #[k1m0, k1m1, k1m2, k1m3]
  instanceTypes := #[]
  staticTypes := #[]
  resolved := Array.replicate 39 none
  statics := none }

def pool2 : Array CpInfo := pool [(3, .methodref 4 5), (0, .class_ 6), (0, .nameAndType 7 8), (0, u "java/lang/Object"), (0, u "<init>"), (0, u "()V"), (0, .fieldref 10 11), (0, .class_ 12), (0, .nameAndType 13 14), (0, u "com/example/error_to_hazard/errortohazard/analysis/NodeTable"), (0, u "variables"), (0, u "[I"), (0, .fieldref 10 16), (0, .nameAndType 17 14), (0, u "lows"), (0, .fieldref 10 19), (0, .nameAndType 20 14), (0, u "highs"), (0, .fieldref 10 22), (0, .nameAndType 23 24), (0, u "size"), (0, u "I"), (0, .fieldref 10 26), (0, .nameAndType 27 14), (0, u "slots"), (0, .integer 2147483647), (0, .methodref 10 30), (0, .nameAndType 31 32), (0, u "hash"), (0, u "(III)I"), (9, .integer 2654435761), (0, u "TERMINAL"), (3, u "node"), (6, u "reachable"), (0, u "(I)[Z")] 4

def k2c0 : Code := { maxStack := 3, maxLocals := 1, code := prog_20_method_1_code, exceptionTable := #[], attributes := #[] }
def k2m0 : Method := { name := "<init>", desc := "()V", sig := { parameters := [], returnType := none }, accessFlags := 0, code := some k2c0 }
def k2c1 : Code := { maxStack := 4, maxLocals := 7, code := prog_20_method_2_code, exceptionTable := #[], attributes := #[] }
def k2m1 : Method := { name := "node", desc := "(III)I", sig := { parameters := [.int, .int, .int], returnType := some .int }, accessFlags := 0, code := some k2c1 }
def k2c2 : Code := { maxStack := 3, maxLocals := 4, code := prog_20_method_4_code, exceptionTable := #[], attributes := #[] }
def k2m2 : Method := { name := "hash", desc := "(III)I", sig := { parameters := [.int, .int, .int], returnType := some .int }, accessFlags := 10, code := some k2c2 }
def k2c3 : Code := { maxStack := 3, maxLocals := 4, code := prog_20_method_9_code, exceptionTable := #[], attributes := #[] }
def k2m3 : Method := { name := "reachable", desc := "(I)[Z", sig := { parameters := [.int], returnType := some (.array .boolean) }, accessFlags := 0, code := some k2c3 }
/-- com/example/error_to_hazard/errortohazard/analysis/NodeTable -/
def k2 : Class := { plain "com/example/error_to_hazard/errortohazard/analysis/NodeTable" (some 0) with
  accessFlags := 48
  interfaces := #[]
  cf := some (fileOf pool2 10 #[] #[{ accessFlags := 0, nameIndex := 7, descriptorIndex := 8, attributes := #[] }, { accessFlags := 0, nameIndex := 47, descriptorIndex := 32, attributes := #[] }, { accessFlags := 10, nameIndex := 31, descriptorIndex := 32, attributes := #[] }, { accessFlags := 0, nameIndex := 54, descriptorIndex := 55, attributes := #[] }] 48 4 #[] #[{ accessFlags := 24, nameIndex := 43, descriptorIndex := 24, attributes := #[] }, { accessFlags := 2, nameIndex := 13, descriptorIndex := 14, attributes := #[] }, { accessFlags := 2, nameIndex := 17, descriptorIndex := 14, attributes := #[] }, { accessFlags := 2, nameIndex := 20, descriptorIndex := 14, attributes := #[] }, { accessFlags := 2, nameIndex := 23, descriptorIndex := 24, attributes := #[] }, { accessFlags := 2, nameIndex := 27, descriptorIndex := 14, attributes := #[] }])
  fields := #[{ name := "TERMINAL", type := .int, accessFlags := 24, slot := 0, constantValue := 0 }, { name := "variables", type := (.array .int), accessFlags := 2, slot := 0, constantValue := 0 }, { name := "lows", type := (.array .int), accessFlags := 2, slot := 1, constantValue := 0 }, { name := "highs", type := (.array .int), accessFlags := 2, slot := 2, constantValue := 0 }, { name := "size", type := .int, accessFlags := 2, slot := 3, constantValue := 0 }, { name := "slots", type := (.array .int), accessFlags := 2, slot := 4, constantValue := 0 }]
  methods := #[k2m0, k2m1, k2m2, k2m3]
  instanceTypes := #[(.array .int), (.array .int), (.array .int), .int, (.array .int)]
  staticTypes := #[.int]
  resolved := Array.replicate 60 none
  statics := none }

def pool3 : Array CpInfo := pool [(1, u "java/lang/Cloneable"), (0, .class_ 1), (0, u "java/lang/Object"), (0, .class_ 3)] 3

/-- java/lang/Cloneable -/
def k3 : Class := { plain "java/lang/Cloneable" (some 0) with
  accessFlags := 1537
  interfaces := #[]
  cf := some (fileOf pool3 2 #[] #[] 1537 4 #[] #[])
  fields := #[]
  methods := #[]
  instanceTypes := #[]
  staticTypes := #[]
  resolved := Array.replicate 8 none
  statics := none }

def pool4 : Array CpInfo := pool [(1, u "java/io/Serializable"), (0, .class_ 1), (0, u "java/lang/Object"), (0, .class_ 3)] 3

/-- java/io/Serializable -/
def k4 : Class := { plain "java/io/Serializable" (some 0) with
  accessFlags := 1537
  interfaces := #[]
  cf := some (fileOf pool4 2 #[] #[] 1537 4 #[] #[])
  fields := #[]
  methods := #[]
  instanceTypes := #[]
  staticTypes := #[]
  resolved := Array.replicate 8 none
  statics := none }

/-- the primitive boolean -/
def k5 : Class := { plain "boolean" none with kind := .primitive 'Z', accessFlags := 0x411 }
/-- [Z -/
def k6 : Class := { plain "[Z" (some 0) with kind := .array 5 .boolean, interfaces := #[3, 4], accessFlags := 1041 }

/-- the primitive byte -/
def k7 : Class := { plain "byte" none with kind := .primitive 'B', accessFlags := 0x411 }
/-- [B -/
def k8 : Class := { plain "[B" (some 0) with kind := .array 7 .byte, interfaces := #[3, 4], accessFlags := 1041 }

/-- the primitive int -/
def k9 : Class := { plain "int" none with kind := .primitive 'I', accessFlags := 0x411 }
/-- [I -/
def k10 : Class := { plain "[I" (some 0) with kind := .array 9 .int, interfaces := #[3, 4], accessFlags := 1041 }

def heap : Heap := #[]
def classes : Array Class := #[k0, k1, k2, k3, k4, k5, k6, k7, k8, k9, k10]
def interned : List (Array UInt16 × Addr) := []
def slotsUsed : Nat := 0
def theMethod : MethodId := ⟨1, 1⟩
def args0 : Array Value := #[.int 5, .int 6, .int 7, .int 8, .int 9, .int 3]
def aboutOver (below : List Frame) : State where
  vm := { classes := classes, interned := interned.toArray }
  heap := heap
  slotsUsed := slotsUsed
  threads := #[{ frames := .invoking theMethod args0 :: below }]
def below0 : List Frame := [.native { method := ⟨0, 0⟩, args := #[] }]
def about1 : State := aboutOver below0
def p0 : Program := .bare "" "" ""
def e0 : Env := launch0.env 0 0 0
theorem w_frames : about1.frames = Frame.invoking theMethod args0 :: below0 := rfl
set_option maxRecDepth 65536 in
theorem w_args : argsFit about1.vm theMethod args0 = true := by decide +kernel
set_option maxRecDepth 65536 in
theorem w_heap : heapFits about1 = true := by decide +kernel
set_option maxRecDepth 65536 in
theorem w_runnable : about1.curStatus? = some .runnable := by decide +kernel
set_option maxRecDepth 65536 in
theorem w_alone : about1.alone = true := by decide +kernel
set_option maxRecDepth 65536 in
theorem w_named : about1.methodNamed? x = some theMethod := by decide +kernel
set_option maxRecDepth 65536 in
theorem w_hears : about1.hears theMethod below0 = true := by decide +kernel
set_option maxRecDepth 65536 in
theorem w_ripe : about1.ripe theMethod args0 below0 = true := by decide +kernel
theorem w_running : about1.status = .running := rfl
set_option maxRecDepth 65536 in
theorem w_room : about1.hasRoom e0.platform room_1 = true :=
  launch0.hasRoom_least _ room_1 (by decide +kernel) (by decide +kernel) (by decide +kernel) (by decide +kernel) (by decide +kernel) (by decide +kernel)
theorem allAtoms_all (ts : List Jvm.Cond) (a : Array Jvm.Value) (st : Jvm.State) : (allAtoms ts).before a st = ts.all (fun c => c.before a st) := by
  induction ts with
  | nil => rfl
  | cons c t ih =>
    show (Jvm.Cond.and c (allAtoms t)).before a st = _
    rw [Jvm.Cond.before_and, ih, List.all_cons]
def words1 : List Jvm.Cond := Jvm.Cond.code x code maxLocals ret :: tables_1
/-- a 'code' word, met by the world's own term for the bytes: nothing is compared byte by byte -/
theorem code_word {y : MethodName} {bytes : ByteArray} {mx : Nat} {rt : Option FieldType} {a : Array Value} {s : State} {m : MethodId} {meth : Method} {c : Code} (h1 : s.methodNamed? y = some m) (h2 : s.vm.method? m = some meth) (h3 : meth.code = some c) (h4 : c.code = bytes)
    (h5 : (c.maxLocals == mx && c.exceptionTable.isEmpty && decide (c.maxStack ≤ mostOperands) && decide (meth.sig.returnType = rt) && !meth.locks && decide (parseMethodDescriptor y.desc = some meth.sig)) = true) : (Jvm.Cond.code y bytes mx rt).before a s = true := by
  simp only [Bool.and_eq_true, beq_iff_eq, Bool.not_eq_true', decide_eq_true_eq] at h5
  obtain ⟨⟨⟨⟨⟨g1, g2⟩, g3⟩, g4⟩, g5⟩, g6⟩ := h5
  simp [Cond.before, Cond.holds, Cond.value, h1, h2, h3, h4, g1, g2, g3, g4, g5, g6]
def isCode : Jvm.Cond → Bool
  | .code _ _ _ _ => true
  | _ => false
theorem all_split {L : List Jvm.Cond} {P : Jvm.Cond → Bool} (h1 : L.all (fun c => isCode c || P c) = true) (h2 : ∀ c ∈ L.filter isCode, P c = true) : L.all P = true := by
  refine List.all_eq_true.mpr fun c hc => ?_
  have h := List.all_eq_true.mp h1 c hc
  rcases Bool.eq_false_or_eq_true (isCode c) with hi | hi
  · exact h2 c (List.mem_filter.mpr ⟨hc, hi⟩)
  · simpa [hi] using h
set_option maxRecDepth 65536 in
theorem w_c0 : (Jvm.Cond.code x code maxLocals ret).before args0 about1 = true := code_word (m := ⟨1, 1⟩) (meth := k1m1) (c := k1c1) (by decide +kernel) rfl rfl rfl (by decide +kernel)
set_option maxRecDepth 65536 in
theorem w_c1 : (Jvm.Cond.code ({ cls := "com/example/error_to_hazard/errortohazard/analysis/NodeTable", name := "<init>", desc := "()V" } : Jvm.MethodName) prog_20_method_1_code (1 : Nat) (Option.none : Option Jvm.ClassFile.FieldType)).before args0 about1 = true := code_word (m := ⟨2, 0⟩) (meth := k2m0) (c := k2c0) (by decide +kernel) rfl rfl rfl (by decide +kernel)
set_option maxRecDepth 65536 in
theorem w_c2 : (Jvm.Cond.code ({ cls := "java/lang/Object", name := "<init>", desc := "()V" } : Jvm.MethodName) object_method_1_code (1 : Nat) (Option.none : Option Jvm.ClassFile.FieldType)).before args0 about1 = true := code_word (m := ⟨0, 0⟩) (meth := k0m0) (c := k0c0) (by decide +kernel) rfl rfl rfl (by decide +kernel)
set_option maxRecDepth 65536 in
theorem w_c3 : (Jvm.Cond.code ({ cls := "com/example/error_to_hazard/errortohazard/analysis/NodeTable", name := "node", desc := "(III)I" } : Jvm.MethodName) prog_20_method_2_code (7 : Nat) (Option.some Jvm.ClassFile.FieldType.int)).before args0 about1 = true := code_word (m := ⟨2, 1⟩) (meth := k2m1) (c := k2c1) (by decide +kernel) rfl rfl rfl (by decide +kernel)
set_option maxRecDepth 65536 in
theorem w_c4 : (Jvm.Cond.code ({ cls := "com/example/error_to_hazard/errortohazard/analysis/NodeTable", name := "hash", desc := "(III)I" } : Jvm.MethodName) prog_20_method_4_code (4 : Nat) (Option.some Jvm.ClassFile.FieldType.int)).before args0 about1 = true := code_word (m := ⟨2, 2⟩) (meth := k2m2) (c := k2c2) (by decide +kernel) rfl rfl rfl (by decide +kernel)
set_option maxRecDepth 65536 in
theorem w_c5 : (Jvm.Cond.code ({ cls := "com/example/error_to_hazard/errortohazard/analysis/NodeTable", name := "reachable", desc := "(I)[Z" } : Jvm.MethodName) prog_20_method_9_code (4 : Nat) (Option.some (Jvm.ClassFile.FieldType.array Jvm.ClassFile.FieldType.boolean))).before args0 about1 = true := code_word (m := ⟨2, 3⟩) (meth := k2m3) (c := k2c3) (by decide +kernel) rfl rfl rfl (by decide +kernel)
set_option maxRecDepth 65536 in
theorem w_c6 : (Jvm.Cond.code ({ cls := "com/example/error_to_hazard/errortohazard/analysis/NodeTableReachablePinLaw", name := "at", desc := "([ZI)Z" } : Jvm.MethodName) method_4_code (2 : Nat) (Option.some Jvm.ClassFile.FieldType.boolean)).before args0 about1 = true := code_word (m := ⟨1, 3⟩) (meth := k1m3) (c := k1c3) (by decide +kernel) rfl rfl rfl (by decide +kernel)
set_option maxRecDepth 65536 in
theorem w_c7 : (Jvm.Cond.code ({ cls := "com/example/error_to_hazard/errortohazard/analysis/NodeTableReachablePinLaw", name := "hits", desc := "(III)Z" } : Jvm.MethodName) method_3_code (3 : Nat) (Option.some Jvm.ClassFile.FieldType.boolean)).before args0 about1 = true := code_word (m := ⟨1, 2⟩) (meth := k1m2) (c := k1c2) (by decide +kernel) rfl rfl rfl (by decide +kernel)
def codes1 : List Jvm.Cond := [Jvm.Cond.code x code maxLocals ret, Jvm.Cond.code ({ cls := "com/example/error_to_hazard/errortohazard/analysis/NodeTable", name := "<init>", desc := "()V" } : Jvm.MethodName) prog_20_method_1_code (1 : Nat) (Option.none : Option Jvm.ClassFile.FieldType), Jvm.Cond.code ({ cls := "java/lang/Object", name := "<init>", desc := "()V" } : Jvm.MethodName) object_method_1_code (1 : Nat) (Option.none : Option Jvm.ClassFile.FieldType), Jvm.Cond.code ({ cls := "com/example/error_to_hazard/errortohazard/analysis/NodeTable", name := "node", desc := "(III)I" } : Jvm.MethodName) prog_20_method_2_code (7 : Nat) (Option.some Jvm.ClassFile.FieldType.int), Jvm.Cond.code ({ cls := "com/example/error_to_hazard/errortohazard/analysis/NodeTable", name := "hash", desc := "(III)I" } : Jvm.MethodName) prog_20_method_4_code (4 : Nat) (Option.some Jvm.ClassFile.FieldType.int), Jvm.Cond.code ({ cls := "com/example/error_to_hazard/errortohazard/analysis/NodeTable", name := "reachable", desc := "(I)[Z" } : Jvm.MethodName) prog_20_method_9_code (4 : Nat) (Option.some (Jvm.ClassFile.FieldType.array Jvm.ClassFile.FieldType.boolean)), Jvm.Cond.code ({ cls := "com/example/error_to_hazard/errortohazard/analysis/NodeTableReachablePinLaw", name := "at", desc := "([ZI)Z" } : Jvm.MethodName) method_4_code (2 : Nat) (Option.some Jvm.ClassFile.FieldType.boolean), Jvm.Cond.code ({ cls := "com/example/error_to_hazard/errortohazard/analysis/NodeTableReachablePinLaw", name := "hits", desc := "(III)Z" } : Jvm.MethodName) method_3_code (3 : Nat) (Option.some Jvm.ClassFile.FieldType.boolean)]
set_option maxRecDepth 65536 in
theorem codes_eq : words1.filter isCode = codes1 := rfl
theorem w_codes : ∀ c ∈ words1.filter isCode, c.before args0 about1 = true := by
  rw [codes_eq]
  intro c hc
  simp only [codes1, List.mem_cons, List.not_mem_nil, or_false] at hc
  rcases hc with rfl | rfl | rfl | rfl | rfl | rfl | rfl | rfl
  · exact w_c0
  · exact w_c1
  · exact w_c2
  · exact w_c3
  · exact w_c4
  · exact w_c5
  · exact w_c6
  · exact w_c7
set_option maxRecDepth 65536 in
theorem w_t1 : (words1.take 24).all (fun c => isCode c || c.before args0 about1) = true := by decide +kernel
set_option maxRecDepth 65536 in
theorem w_t2 : (words1.drop 24).all (fun c => isCode c || c.before args0 about1) = true := by decide +kernel
theorem w_tables : (allAtoms (Jvm.Cond.code x code maxLocals ret :: tables_1)).before args0 about1 = true := by
  rw [allAtoms_all]
  show words1.all (fun c => c.before args0 about1) = true
  refine all_split ?_ w_codes
  rw [← List.take_append_drop 24 words1, List.all_append, w_t1, w_t2]
  rfl
set_option maxRecDepth 65536 in
theorem w_case : (Jvm.Cond.and given_1 narrow_1).before args0 about1 = true := by decide +kernel
theorem w_applies : (headSpec (Jvm.Cond.code x code maxLocals ret :: tables_1) room_1).applies x e0.platform about1 = true :=
  (Spec.applies_iff w_frames).mpr ⟨w_running, w_runnable, w_alone, w_named, w_hears, w_ripe, w_room, w_tables⟩
theorem atStart : AtStart classFile x code maxLocals ret World_1 tables_1 room_1 Calls_1 rest_1 Pre_1 launch0 p0 e0 about1 theMethod args0 below0 :=
  ⟨lists_1, trivial, launch0.admits_env _ _ _, launch0.least_env, fairChoices_fair.cas, fairChoices_fair.clock, w_frames, w_args, w_heap, w_applies, trivial, trivial, w_case⟩
end start1
theorem witness_1 : WitnessClaimed_1 := ⟨start1.p0, start1.e0, start1.about1, start1.theMethod, start1.args0, start1.below0, start1.atStart⟩
end Jvm.Pilot.@@N@@
