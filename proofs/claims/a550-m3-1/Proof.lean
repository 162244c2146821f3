import JvmDerived
import JvmDerived.Pilot.@@N@@Statement
import JvmDerived.Pilot.@@N@@Code
set_option linter.unusedVariables false
set_option linter.unusedSimpArgs false
namespace Jvm.Pilot.@@N@@
open Jvm Jvm.ClassFile Sem Op Lib Jvm.Free Jvm.Stand Jvm.LawKit Jvm.RoadKit Bundle Jvm.Pilot.@@N@@.Jvm.D
section OwnRun
variable {p : Program} {l : Launch} {e : Env} {R : Room} {s : State} {m : MethodId} {args : Array Value} {below : List Frame} {meth : Method} {c : Code} {T T' : State} {locs : List Loc} {cells slots : Nat}
/-- from here the run ends, as G says -/
def own_Run (p : Program) (e : Env) (below : List Frame) (G : Outcome → State → Prop) (T : State) (g : JFrame) : Prop :=
  ∃ s₂ o, Steps p.tables e below (T.setTop g) s₂ ∧ s₂.status = .running ∧ Ended s₂ below o ∧ G o s₂
theorem own_go {G : Outcome → State → Prop} {g g' : JFrame} (h : ∀ t, Steps p.tables e below (T'.setTop g') t → Steps p.tables e below (T.setTop g) t) (k : own_Run p e below G T' g') : own_Run p e below G T g := by
  obtain ⟨s₂, o, h1, h2, h3, h4⟩ := k
  exact ⟨s₂, o, h _ h1, h2, h3, h4⟩
theorem own_goT {G : Outcome → State → Prop} {g g' : JFrame} (h : Steps p.tables e below (T.setTop g) (T'.setTop g')) (k : own_Run p e below G T' g') : own_Run p e below G T g :=
  own_go (fun _ q => h.trans q) k
theorem own_start {G : Outcome → State → Prop} {f f' : JFrame} (h : f = f') (k : own_Run p e below G T f') : ∃ s₂ o, Steps p.tables e below (T.setTop f) s₂ ∧ s₂.status = .running ∧ Ended s₂ below o ∧ G o s₂ := by
  subst h
  exact k
theorem own_done {Q : Option Value → Heap → List Loc → Prop} {C N : Nat} {g : JFrame} (X : Stand p l e R s m args below meth c T locs cells slots) {v : Option Value} (hv : meth.sig.returnType = none → v = none) (hlocks : meth.locks = false)
    (hstep : ∀ fs, (∀ (f : JFrame) (acts : List Action), f.method = m → f.locked = none → f.entered = [] → (doReturn e (T.setTop f) acts v).1 = T.setFrames fs) → Steps p.tables e below (T.setTop g) (T.setFrames fs))
    (hQ : Q v T.heap locs) (hc : cells ≤ C) (hs : slots ≤ N) :
    own_Run p e below (fun o U' => ∃ v L, o = .returned v ∧ Q v U'.heap L ∧ FrameEnd s o U' L C N) T g := by
  obtain ⟨fs, hr, hrun, hended, hW, hsame⟩ := X.leave hv hlocks
  exact ⟨_, _, hstep fs hr, hrun, hended, _, _, rfl, hQ, ⟨_, rfl⟩, hW, hsame.mono hc hs⟩
theorem own_mono {cells' slots' : Nat} (X : Stand p l e R s m args below meth c T locs cells slots) (hc : cells ≤ cells') (hs : slots ≤ slots') : Stand p l e R s m args below meth c T locs cells' slots' :=
  ⟨X.admits, X.cas, X.clock, X.frames, X.room, X.hears, X.method, X.code, X.here, X.tail, X.warmed, X.limits, X.bytes, X.same.mono hc hs⟩
theorem own_retI (X : Stand p l e R s m args below meth c T locs cells slots) (hx : p.tables.exec = Jvm.exec) {pc : Nat} {Ls : Array Slot} {z : Int32} {rest : List Value} (hret : meth.sig.returnType = some .int) (hd : decode c.code pc = .ok (.ireturn, 1)) {fs : List Frame}
    (hl : ∀ (f : JFrame) (acts : List Action), f.method = m → f.locked = none → f.entered = [] → (doReturn e (T.setTop f) acts (some (.int z))).1 = T.setFrames fs) : Steps p.tables e below (T.setTop (mkF m pc Ls (.int z :: rest))) (T.setFrames fs) :=
  retOut X hx hret rfl (Or.inl ⟨rfl, Or.inl rfl, z, rfl⟩) hd hl
theorem own_retL (X : Stand p l e R s m args below meth c T locs cells slots) (hx : p.tables.exec = Jvm.exec) {pc : Nat} {Ls : Array Slot} {z : Int64} {rest : List Value} (hret : meth.sig.returnType = some .long) (hd : decode c.code pc = .ok (.lreturn, 1)) {fs : List Frame}
    (hl : ∀ (f : JFrame) (acts : List Action), f.method = m → f.locked = none → f.entered = [] → (doReturn e (T.setTop f) acts (some (.long z))).1 = T.setFrames fs) : Steps p.tables e below (T.setTop (mkF m pc Ls (.long z :: rest))) (T.setFrames fs) :=
  retOut X hx hret rfl (Or.inr (Or.inl ⟨rfl, rfl, z, rfl⟩)) hd hl
theorem own_retA {t : FieldType} (X : Stand p l e R s m args below meth c T locs cells slots) (hx : p.tables.exec = Jvm.exec) {pc : Nat} {Ls : Array Slot} {w : Value} {rest : List Value} (hret : meth.sig.returnType = some t) (ht : t.isReference = true) (hn : narrow t w = w) (hw : w.isRef = true) (hd : decode c.code pc = .ok (.areturn, 1)) {fs : List Frame}
    (hl : ∀ (f : JFrame) (acts : List Action), f.method = m → f.locked = none → f.entered = [] → (doReturn e (T.setTop f) acts (some w)).1 = T.setFrames fs) : Steps p.tables e below (T.setTop (mkF m pc Ls (w :: rest))) (T.setFrames fs) :=
  retOut X hx hret hn (Or.inr (Or.inr (Or.inr (Or.inr ⟨rfl, ht, hw⟩)))) hd hl
theorem own_ns {Z : State} {h : Heap} {a : Addr} {C : String} (E : Exa Z h a C) : ∃ c : Cell, h[a]? = some c ∧ c.vm.isStatics = false := by
  obtain ⟨c, k, h1, -, -, h4, -⟩ := E
  exact ⟨c, h1, h4⟩
theorem own_nsV {Z : State} {h : Heap} {a : Addr} {k : ClassId} {ty : FieldType} {n : Int32} {vs : List Value} {d : Value} (V : Arv Z h a k ty n vs d) : ∃ c : Cell, h[a]? = some c ∧ c.vm.isStatics = false := by
  obtain ⟨c, A, -⟩ := V
  exact ⟨c, A.1, A.plain⟩
theorem own_staKeep {Z : State} {h h' : Heap} {ws : List Addr} {C n d : String} {w : Value} (F : Sta Z h C n d w) (K : Keep h h' ws) (q : ∀ x ∈ ws, ∃ c : Cell, h[x]? = some c ∧ c.vm.isStatics = false) : Sta Z h' C n d w := by
  obtain ⟨cf, i, k, f, st, cell, h1, h2, h3, h4, h5, h6, h7⟩ := F
  refine ⟨cf, i, k, f, st, cell, h1, h2, h3, h4, K.2.1 st cell h5 (fun hm => ?_), h6, h7⟩
  obtain ⟨c, e1, e2⟩ := q st hm
  cases h5.symm.trans e1
  rw [h6] at e2; cases e2
theorem own_eqL {args : Array Value} {first s : State} {o : Option Outcome} {idx : List Nat} {t : Term} {n : Int64} (h : (Jvm.Cond.eq t (Term.long n)).value args first o s idx = some true) : t.eval args first o idx s = some (.long n) := by
  cases ht : t.eval args first o idx s with
  | none => simp [Cond.value, ht] at h
  | some x => cases x <;> simp [Cond.value, ht, Term.eval] at h ⊢ <;> exact h
theorem own_eqI {args : Array Value} {first s : State} {o : Option Outcome} {idx : List Nat} {t : Term} {n : Int32} (h : (Jvm.Cond.eq t (Term.int n)).value args first o s idx = some true) : t.eval args first o idx s = some (.int n) := by
  cases ht : t.eval args first o idx s with
  | none => simp [Cond.value, ht] at h
  | some x => cases x <;> simp [Cond.value, ht, Term.eval] at h ⊢ <;> exact h
theorem own_eqR {args : Array Value} {first s : State} {o : Option Outcome} {idx : List Nat} {t u : Term} {x : Addr} (h : (Jvm.Cond.eq t u).value args first o s idx = some true) (hu : u.eval args first o idx s = some (.ref x)) : t.eval args first o idx s = some (.ref x) := by
  cases ht : t.eval args first o idx s with
  | none => simp [Cond.value, ht] at h
  | some y => cases y <;> simp [Cond.value, ht, hu] at h ⊢ <;> exact h
theorem own_nf {s : State} {args : Array Value} {C : String} {y y' : MethodName} (hsel : (Jvm.Cond.selects C y y).before args s = true) (hc : y'.cls = y.cls) : NotFace s y' := fun r0 h0 => by
  obtain ⟨c2, r2, m2, q1, q2, q3, q4, kP, hkP, hkPi⟩ := Cond.selects_spec hsel
  have a := findClass_of_methodNamed q3
  have b := findClass_of_methodNamed h0
  rw [hc] at b
  have e := Option.some.inj (a.symm.trans b)
  exact ⟨kP, by rw [← e]; exact hkP, hkPi⟩
theorem own_selP {s : State} {args args' : Array Value} {C : String} {y y' : MethodName} (hsel : (Jvm.Cond.selects C y' y').before args s = true) (hc : y.cls = y'.cls) (hpriv : s.PrivateAt y) (hinst : (Jvm.Cond.instanceMethod y).before args' s = true) (hy : y.cls ≠ "java/lang/invoke/MethodHandle" ∧ y.cls ≠ "java/lang/invoke/VarHandle") : (Jvm.Cond.selects y.cls y y).before args' s = true := by
  obtain ⟨mk, methM, hnamed, -, -, -⟩ := Cond.instanceMethod_spec hinst
  obtain ⟨k, hk, hni⟩ := own_nf hsel hc mk hnamed
  exact selects_self_of_private (findClass_of_methodNamed hnamed) hk hni hpriv hinst hy
end OwnRun
theorem own_lcLt {x y : Int64} (h : x < y) : lcmpW x y = -1 := by
  have h1 : ¬ (x > y) := by simp only [GT.gt, Int64.lt_iff_toInt_lt] at h ⊢; omega
  have h2 : ¬ (x = y) := by rintro rfl; exact Int64.lt_irrefl h
  simp [lcmpW, h1, h2]
theorem own_lcGt {x y : Int64} (h : y < x) : lcmpW x y = 1 := by
  have h1 : x > y := h
  simp [lcmpW, h1]
theorem own_lcEq {x y : Int64} (h : x = y) : lcmpW x y = 0 := by
  subst h
  have h1 : ¬ (x > x) := Int64.lt_irrefl
  simp [lcmpW, h1]
theorem own_lcNlt {x y : Int64} (h : ¬ x < y) : lcmpW x y = 0 ∨ lcmpW x y = 1 := by
  by_cases q : x = y
  · exact Or.inl (own_lcEq q)
  · refine Or.inr (own_lcGt ?_)
    simp only [Int64.lt_iff_toInt_lt, ← Int64.toInt_inj] at h q ⊢; omega
theorem own_lcNgt {x y : Int64} (h : ¬ y < x) : lcmpW x y = 0 ∨ lcmpW x y = -1 := by
  by_cases q : x = y
  · exact Or.inl (own_lcEq q)
  · refine Or.inr (own_lcLt ?_)
    simp only [Int64.lt_iff_toInt_lt, ← Int64.toInt_inj] at h q ⊢; omega
theorem own_lcNe {x y : Int64} (h : ¬ x = y) : lcmpW x y = 1 ∨ lcmpW x y = -1 := by
  by_cases q : x < y
  · exact Or.inr (own_lcLt q)
  · refine Or.inl (own_lcGt ?_)
    simp only [Int64.lt_iff_toInt_lt, ← Int64.toInt_inj] at h q ⊢; omega
theorem own_lcT {x y : Int64} (h : x < y) : ifCond.holds .lt (lcmpW x y) = true ∧ ifCond.holds .ge (lcmpW x y) = false ∧ ifCond.holds .gt (lcmpW y x) = true ∧ ifCond.holds .le (lcmpW y x) = false := by
  rw [own_lcLt h, own_lcGt h]; decide
theorem own_lcF {x y : Int64} (h : ¬ x < y) : ifCond.holds .lt (lcmpW x y) = false ∧ ifCond.holds .ge (lcmpW x y) = true ∧ ifCond.holds .gt (lcmpW y x) = false ∧ ifCond.holds .le (lcmpW y x) = true := by
  rcases own_lcNlt h with q | q <;> rcases own_lcNgt (x := y) (y := x) h with r | r <;> rw [q, r] <;> decide
theorem own_lcTe {x y : Int64} (h : x = y) : ifCond.holds .eq (lcmpW x y) = true ∧ ifCond.holds .ne (lcmpW x y) = false := by
  rw [own_lcEq h]; decide
theorem own_lcFe {x y : Int64} (h : ¬ x = y) : ifCond.holds .eq (lcmpW x y) = false ∧ ifCond.holds .ne (lcmpW x y) = true := by
  rcases own_lcNe h with q | q <;> rw [q] <;> decide
theorem own_maskI (x : Int32) (M : Nat) (hM : M < 2 ^ 31) : (x &&& Int32.ofNat M).toInt = ((x.toBitVec.toNat &&& M : Nat) : Int) := by
  have h1 : (x &&& Int32.ofNat M).toBitVec.toNat = x.toBitVec.toNat &&& M := by
    rw [Int32.toBitVec_and, BitVec.toNat_and]
    congr 1
    show (BitVec.ofNat 32 M).toNat = M
    rw [BitVec.toNat_ofNat]; omega
  have h2 : x.toBitVec.toNat &&& M ≤ M := Nat.and_le_right
  rw [Int32.toInt, BitVec.toInt_eq_toNat_of_lt (by rw [h1]; omega), h1]
theorem own_mask0 (x : Int32) (M : Nat) (hM : M < 2 ^ 31) : 0 ≤ (x &&& Int32.ofNat M).toInt ∧ (x &&& Int32.ofNat M).toInt ≤ M := by
  rw [own_maskI x M hM]
  have h2 : x.toBitVec.toNat &&& M ≤ M := Nat.and_le_right
  omega
theorem own_rem (x : Int32) (k : Int32) (hx : 0 ≤ x.toInt) (hk : 0 < k.toInt) : 0 ≤ (x % k).toInt ∧ (x % k).toInt < k.toInt := by
  rw [Int32.toInt_mod]
  exact ⟨Int.tmod_nonneg _ hx, Int.tmod_lt_of_pos _ hk⟩
theorem own_bm (z : Int) (h1 : -2147483648 ≤ z) (h2 : z < 2147483648) : z.bmod (2 ^ 32) = z := by
  rw [Int.bmod_def]; split <;> omega
theorem own_addI (a b : Int32) (h1 : -2147483648 ≤ a.toInt + b.toInt) (h2 : a.toInt + b.toInt < 2147483648) : (a + b).toInt = a.toInt + b.toInt := by
  rw [Int32.toInt_add, own_bm _ h1 h2]
theorem own_subI (a b : Int32) (h1 : -2147483648 ≤ a.toInt - b.toInt) (h2 : a.toInt - b.toInt < 2147483648) : (a - b).toInt = a.toInt - b.toInt := by
  rw [Int32.toInt_sub, own_bm _ h1 h2]
theorem own_nz (a : Int32) (h : 0 < a.toInt) : a ≠ 0 := by
  rintro rfl; exact absurd h (by decide)
theorem own_ushr (x k : Int32) (n : Nat) (h : ((k &&& 31).toUInt32.toBitVec % 32).toNat = n) (hn : 0 < n) : ((x.toUInt32 >>> (k &&& 31).toUInt32).toInt32).toInt = ((x.toBitVec.toNat >>> n : Nat) : Int) ∧ x.toBitVec.toNat >>> n < 2 ^ (32 - n) := by
  have e : ((x.toUInt32 >>> (k &&& 31).toUInt32).toInt32).toBitVec = x.toBitVec >>> n := by
    show x.toBitVec >>> ((k &&& 31).toUInt32.toBitVec % 32) = _
    rw [BitVec.ushiftRight_eq', h]
  have hx : x.toBitVec.toNat < 2 ^ 32 := x.toBitVec.isLt
  have e2 : x.toBitVec.toNat >>> n < 2 ^ (32 - n) := by
    rw [Nat.shiftRight_eq_div_pow]
    rcases Nat.lt_or_ge n 32 with q | q
    · rw [Nat.div_lt_iff_lt_mul (Nat.two_pow_pos n), ← Nat.pow_add, Nat.sub_add_cancel (by omega)]; exact hx
    · rw [Nat.div_eq_of_lt (Nat.lt_of_lt_of_le hx (Nat.pow_le_pow_right (by decide) q))]; exact Nat.two_pow_pos _
  refine ⟨?_, e2⟩
  have e3 : 2 ^ (32 - n) ≤ 2 ^ 31 := Nat.pow_le_pow_right (by decide) (by omega)
  rw [Int32.toInt, e, BitVec.toInt_eq_toNat_of_lt (by rw [BitVec.toNat_ushiftRight]; omega), BitVec.toNat_ushiftRight]
theorem own_lit (a : Int32) (n : Int) (b : Int32) (h : a.toInt = n) (hb : b.toInt = n) : a = b := Int32.toInt_inj.mp (h.trans hb.symm)
theorem own_four (a : Int32) (h0 : 0 ≤ a.toInt) (h1 : a.toInt < 4) : a = 0 ∨ a = 1 ∨ a = 2 ∨ a = 3 := by
  have q : a.toInt = 0 ∨ a.toInt = 1 ∨ a.toInt = 2 ∨ a.toInt = 3 := by omega
  rcases q with q | q | q | q
  · exact Or.inl (own_lit _ _ _ q rfl)
  · exact Or.inr (Or.inl (own_lit _ _ _ q rfl))
  · exact Or.inr (Or.inr (Or.inl (own_lit _ _ _ q rfl)))
  · exact Or.inr (Or.inr (Or.inr (own_lit _ _ _ q rfl)))
theorem own_byte (a : Int32) (h0 : 0 ≤ a.toInt) (h1 : a.toInt < 128) : a.toInt8.toInt32 = a := by
  apply Int32.toInt_inj.mp
  rw [Int8.toInt_toInt32, Int32.toInt_toInt8, Int.bmod_def]; split <;> omega
/-- first, size, index -/
theorem own_pos (f i a b c : Int32) (ha : a = (f &&& (2147483647 : Int32)) % (4 : Int32)) (hb : b = (1 : Int32) + ((f.toUInt32 >>> ((2 : Int32) &&& 31).toUInt32).toInt32) % ((4 : Int32) - a)) (hc : c = (i &&& (2147483647 : Int32)) % b) :
    a + c = 0 ∨ a + c = 1 ∨ a + c = 2 ∨ a + c = 3 := by
  have h4 : (4 : Int32).toInt = 4 := rfl
  have h1 : (1 : Int32).toInt = 1 := rfl
  have a1 := own_rem (f &&& (2147483647 : Int32)) 4 (own_mask0 f 2147483647 (by decide)).1 (by decide)
  rw [← ha] at a1
  have s1 : ((4 : Int32) - a).toInt = 4 - a.toInt := by rw [own_subI _ _ (by omega) (by omega), h4]
  have u1 := own_ushr f 2 2 (by decide) (by decide)
  have b1 := own_rem ((f.toUInt32 >>> ((2 : Int32) &&& 31).toUInt32).toInt32) ((4 : Int32) - a) (by rw [u1.1]; exact Int.natCast_nonneg _) (by omega)
  have b2 : b.toInt = 1 + (((f.toUInt32 >>> ((2 : Int32) &&& 31).toUInt32).toInt32) % ((4 : Int32) - a)).toInt := by
    rw [hb, own_addI _ _ (by omega) (by omega), h1]
  have c1 := own_rem (i &&& (2147483647 : Int32)) b (own_mask0 i 2147483647 (by decide)).1 (by omega)
  rw [← hc] at c1
  exact own_four _ (by rw [own_addI _ _ (by omega) (by omega)]; omega) (by rw [own_addI _ _ (by omega) (by omega)]; omega)
theorem own_nz1 (f a : Int32) (ha : a = (f &&& (2147483647 : Int32)) % (4 : Int32)) : (4 : Int32) - a ≠ 0 := by
  have h4 : (4 : Int32).toInt = 4 := rfl
  have a1 := own_rem (f &&& (2147483647 : Int32)) 4 (own_mask0 f 2147483647 (by decide)).1 (by decide)
  rw [← ha] at a1
  exact own_nz _ (by rw [own_subI _ _ (by omega) (by omega), h4]; omega)
theorem own_nz2 (f a b : Int32) (ha : a = (f &&& (2147483647 : Int32)) % (4 : Int32)) (hb : b = (1 : Int32) + ((f.toUInt32 >>> ((2 : Int32) &&& 31).toUInt32).toInt32) % ((4 : Int32) - a)) : b ≠ 0 := by
  have h4 : (4 : Int32).toInt = 4 := rfl
  have h1 : (1 : Int32).toInt = 1 := rfl
  have a1 := own_rem (f &&& (2147483647 : Int32)) 4 (own_mask0 f 2147483647 (by decide)).1 (by decide)
  rw [← ha] at a1
  have s1 : ((4 : Int32) - a).toInt = 4 - a.toInt := by rw [own_subI _ _ (by omega) (by omega), h4]
  have u1 := own_ushr f 2 2 (by decide) (by decide)
  have b1 := own_rem ((f.toUInt32 >>> ((2 : Int32) &&& 31).toUInt32).toInt32) ((4 : Int32) - a) (by rw [u1.1]; exact Int.natCast_nonneg _) (by omega)
  exact own_nz _ (by rw [hb, own_addI _ _ (by omega) (by omega), h1]; omega)
theorem own_lev (p x : Int32) (h : x = (p &&& (2147483647 : Int32)) % (101 : Int32)) : x.toInt8.toInt32 = x := by
  have h101 : (101 : Int32).toInt = 101 := rfl
  have a1 := own_rem (p &&& (2147483647 : Int32)) 101 (own_mask0 p 2147483647 (by decide)).1 (by decide)
  rw [← h] at a1
  exact own_byte x a1.1 (by omega)
theorem d1_0 : decode prog_4_method_1_code 0 = .ok (.aload_n 0, 1) := by decide +kernel
theorem d1_1 : decode prog_4_method_1_code 1 = .ok (.invokespecial 1, 3) := by decide +kernel
theorem d1_4 : decode prog_4_method_1_code 4 = .ok (.aload_n 0, 1) := by decide +kernel
theorem d1_5 : decode prog_4_method_1_code 5 = .ok (.aload_n 1, 1) := by decide +kernel
theorem d1_6 : decode prog_4_method_1_code 6 = .ok (.putfield 7, 3) := by decide +kernel
theorem d1_9 : decode prog_4_method_1_code 9 = .ok (.aload_n 0, 1) := by decide +kernel
theorem d1_10 : decode prog_4_method_1_code 10 = .ok (.aload_n 2, 1) := by decide +kernel
theorem d1_11 : decode prog_4_method_1_code 11 = .ok (.putfield 13, 3) := by decide +kernel
theorem d1_14 : decode prog_4_method_1_code 14 = .ok (.aload_n 0, 1) := by decide +kernel
theorem d1_15 : decode prog_4_method_1_code 15 = .ok (.iload_n 3, 1) := by decide +kernel
theorem d1_16 : decode prog_4_method_1_code 16 = .ok (.putfield 17, 3) := by decide +kernel
theorem d1_19 : decode prog_4_method_1_code 19 = .ok (.aload_n 0, 1) := by decide +kernel
theorem d1_20 : decode prog_4_method_1_code 20 = .ok (.iload 4, 2) := by decide +kernel
theorem d1_22 : decode prog_4_method_1_code 22 = .ok (.putfield 21, 3) := by decide +kernel
theorem d1_25 : decode prog_4_method_1_code 25 = .ok (.return_, 1) := by decide +kernel
theorem pn_1 : plainName "com/example/network_analytics_service/networkanalyticsservice/core/sliceload/Levels" = true := by first | (simp [plainName, overriddenIn]; done) | decide +kernel
theorem ef_1 (m : MethodId) (x0 : Addr) (x1 : Addr) (x2 : Addr) (x3 : Int32) (x4 : Int32) : entryFrame m #[(.ref x0), (.ref x1), (.ref x2), (.int x3), (.int x4)] 5 = mkF m 0 #[.val (.ref x0), .val (.ref x1), .val (.ref x2), .val (.int x3), .val (.int x4)] [] := by first | (simp [entryFrame, mkF, argsToLocals, Value.category]; done) | rfl
def Q1 (Z : State) (a1 : Addr) (a2 : Addr) (a3 : Addr) (p4 : Int32) (p5 : Int32) (u1 : Value) (u2 : Value) (u3 : Value) (u4 : Value) (h0 : Heap) (n0 : Nat) (v : Option Value) (h : Heap) (L : List Loc) : Prop := v = none ∧ Fr n0 L ∧ Keep h0 h [a1] ∧ Exa Z h a1 "com/example/network_analytics_service/networkanalyticsservice/core/sliceload/Levels" ∧ Fld Z h a1 "com/example/network_analytics_service/networkanalyticsservice/core/sliceload/Levels" "levels" "[B" (.ref a3) ∧ Fld Z h a1 "com/example/network_analytics_service/networkanalyticsservice/core/sliceload/Levels" "first" "I" (.int p4)
set_option maxRecDepth 65536 in
set_option maxHeartbeats 40000000 in
theorem rm1 (l : Launch) (Z : State) (a0 : Array Value) (hw : ∀ d ∈ tables_1, d.before a0 Z = true) (ws : List Jvm.Cond) (a1 : Addr) (a2 : Addr) (a3 : Addr) (p4 : Int32) (p5 : Int32) (u1 : Value) (u2 : Value) (u3 : Value) (u4 : Value) (h0 : Heap) (n0 : Nat) (Z0 : n0 ≤ h0.size) (E_a1 : Exa Z h0 a1 "com/example/network_analytics_service/networkanalyticsservice/core/sliceload/Levels") (F_moments_a1 : Fld Z h0 a1 "com/example/network_analytics_service/networkanalyticsservice/core/sliceload/Levels" "moments" "[J" u1) (F_levels_a1 : Fld Z h0 a1 "com/example/network_analytics_service/networkanalyticsservice/core/sliceload/Levels" "levels" "[B" u2) (F_first_a1 : Fld Z h0 a1 "com/example/network_analytics_service/networkanalyticsservice/core/sliceload/Levels" "first" "I" u3) (F_end_a1 : Fld Z h0 a1 "com/example/network_analytics_service/networkanalyticsservice/core/sliceload/Levels" "end" "I" u4) (g_a1 : n0 ≤ a1) :
    MetFree l (⟨"com/example/network_analytics_service/networkanalyticsservice/core/sliceload/Levels", "<init>", "([J[BII)V"⟩ : MethodName) (head1 (Jvm.Cond.code (⟨"com/example/network_analytics_service/networkanalyticsservice/core/sliceload/Levels", "<init>", "([J[BII)V"⟩ : MethodName) prog_4_method_1_code 5 none :: ws) ({ frames := 1, cells := 0, slots := 0, locals := 12 } : Room)) (fun a U => a = #[(.ref a1), (.ref a2), (.ref a3), (.int p4), (.int p5)] ∧ Z.Warmed39 U.vm ∧ U.heap = h0) (fun _ _ _ _ _ => True) (fun _ U o U' => ∃ v L, o = .returned v ∧ Q1 Z a1 a2 a3 p4 p5 u1 u2 u3 u4 h0 n0 v U'.heap L ∧ FrameEnd U o U' L ({ frames := 1, cells := 0, slots := 0, locals := 12 } : Room).cells ({ frames := 1, cells := 0, slots := 0, locals := 12 } : Room).slots) := by
  refine MetFree.of_bodySF (plainFor_of_name pn_1) hisR ?_
  intro p e s m args below meth c s₁ Bd hml0 hP hK
  obtain ⟨rfl, hZ, hh⟩ := hP
  have hx := Bd.exec
  have hby := Bd.bytes
  have hml : c.maxLocals = 5 := hml0
  have hown : s.vm.findClass "com/example/network_analytics_service/networkanalyticsservice/core/sliceload/Levels" = some m.cls := findClass_of_methodNamed Bd.named
  have hnm := (name_of_methodNamed Bd.named Bd.method).1
  have hret := Bd.returns
  have hlk : meth.locks = false := BodyLoose.notSynchronized Bd
  have X0 : Stand p l e ({ frames := 1, cells := 0, slots := 0, locals := 12 } : Room) s m #[(.ref a1), (.ref a2), (.ref a3), (.int p4), (.int p5)] below meth c s₁ [] 0 0 := Stand.of_body Bd
  have e0 : s₁.heap = h0 := by rw [← hh, Bd.state]; rfl
  have N0 := Fr.nil n0
  have W := fun (k : Nat) {d : Jvm.Cond} (h : tables_1[k]? = some d) => hw d (List.mem_of_getElem? h)
  have K0 : Keep h0 h0 [a1] := Keep.refl _ _
  refine own_start (ef_1 m a1 a2 a3 p4 p5) ?_
  show own_Run p e below _ s₁ (mkF m 0 #[.val (.ref a1), .val (.ref a2), .val (.ref a3), .val (.int p4), .val (.int p5)] [])
  refine own_go (fun _ k => XS.aloadN X0.here hx rfl (hb hby d1_0) rfl rfl k) ?_
  show own_Run p e below _ s₁ (mkF m 1 #[.val (.ref a1), .val (.ref a2), .val (.ref a3), .val (.int p4), .val (.int p5)] [(.ref a1)])
  obtain ⟨T1, X1, e1, st1⟩ := initO X0 hx hZ hown (W 13 rfl) (W 14 rfl) (W 15 rfl) e0 (g := (mkF m 1 #[.val (.ref a1), .val (.ref a2), .val (.ref a3), .val (.int p4), .val (.int p5)] [(.ref a1)])) rfl (by rw [hml]; rfl) rfl (hb hby d1_1) (by decide) (W := 0) (by show 2 * 0 + _ ≤ _; exact Nat.le_of_eq rfl) (by decide)
  refine own_go st1 ?_
  show own_Run p e below _ T1 (mkF m 4 #[.val (.ref a1), .val (.ref a2), .val (.ref a3), .val (.int p4), .val (.int p5)] [])
  refine own_go (fun _ k => XS.aloadN X1.here hx rfl (hb hby d1_4) rfl rfl k) ?_
  refine own_go (fun _ k => XS.aloadN X1.here hx rfl (hb hby d1_5) rfl rfl k) ?_
  show own_Run p e below _ T1 (mkF m 6 #[.val (.ref a1), .val (.ref a2), .val (.ref a3), .val (.int p4), .val (.int p5)] [(.ref a2), (.ref a1)])
  obtain ⟨T2, h2, X2, e2, W2, st2⟩ := putF X1 hx hZ hown (host := "") (Or.inl (W 16 rfl)) Via.refl e1 F_moments_a1 E_a1 (Or.inr ⟨(W 17 rfl), rfl, hnm⟩) (W 8 rfl) (ty := (.array .long)) (by decide) rfl rfl (g := (mkF m 6 #[.val (.ref a1), .val (.ref a2), .val (.ref a3), .val (.int p4), .val (.int p5)] [(.ref a2), (.ref a1)])) rfl rfl (hb hby d1_6)
  refine own_go st2 ?_
  show own_Run p e below _ T2 (mkF m 9 #[.val (.ref a1), .val (.ref a2), .val (.ref a3), .val (.int p4), .val (.int p5)] [])
  have Z0_c3 := Nat.le_trans Z0 (Keep.of_wr W2).1
  have K0_c3 := K0.wr W2 (Or.inl (List.mem_of_getElem? (i := 0) rfl))
  have E_a1_c3 := E_a1.wr W2
  have F_levels_a1_c3 := F_levels_a1.other W2 (Or.inr (slot_ne (Or.inr (W 19 rfl)) (Or.inr (W 17 rfl)) (by decide) (t := (.array .byte)) (t' := (.array .long)) (by decide) (by decide)))
  have F_first_a1_c3 := F_first_a1.other W2 (Or.inr (slot_ne (Or.inr (W 21 rfl)) (Or.inr (W 17 rfl)) (by decide) (t := .int) (t' := (.array .long)) (by decide) (by decide)))
  have F_end_a1_c3 := F_end_a1.other W2 (Or.inr (slot_ne (Or.inr (W 23 rfl)) (Or.inr (W 17 rfl)) (by decide) (t := .int) (t' := (.array .long)) (by decide) (by decide)))
  have F_moments_a1_c2 : Fld Z h2 a1 "com/example/network_analytics_service/networkanalyticsservice/core/sliceload/Levels" "moments" "[J" (.ref a2) := F_moments_a1.same W2
  have N2 := Fr.snoc X2 N0 g_a1
  refine own_go (fun _ k => XS.aloadN X2.here hx rfl (hb hby d1_9) rfl rfl k) ?_
  refine own_go (fun _ k => XS.aloadN X2.here hx rfl (hb hby d1_10) rfl rfl k) ?_
  show own_Run p e below _ T2 (mkF m 11 #[.val (.ref a1), .val (.ref a2), .val (.ref a3), .val (.int p4), .val (.int p5)] [(.ref a3), (.ref a1)])
  obtain ⟨T4, h4, X4, e4, W4, st4⟩ := putF X2 hx hZ hown (host := "") (Or.inl (W 18 rfl)) Via.refl e2 F_levels_a1_c3 E_a1_c3 (Or.inr ⟨(W 19 rfl), rfl, hnm⟩) (W 8 rfl) (ty := (.array .byte)) (by decide) rfl rfl (g := (mkF m 11 #[.val (.ref a1), .val (.ref a2), .val (.ref a3), .val (.int p4), .val (.int p5)] [(.ref a3), (.ref a1)])) rfl rfl (hb hby d1_11)
  refine own_go st4 ?_
  show own_Run p e below _ T4 (mkF m 14 #[.val (.ref a1), .val (.ref a2), .val (.ref a3), .val (.int p4), .val (.int p5)] [])
  have Z0_c5 := Nat.le_trans Z0_c3 (Keep.of_wr W4).1
  have K0_c5 := K0_c3.wr W4 (Or.inl (List.mem_of_getElem? (i := 0) rfl))
  have E_a1_c5 := E_a1_c3.wr W4
  have F_first_a1_c5 := F_first_a1_c3.other W4 (Or.inr (slot_ne (Or.inr (W 21 rfl)) (Or.inr (W 19 rfl)) (by decide) (t := .int) (t' := (.array .byte)) (by decide) (by decide)))
  have F_end_a1_c5 := F_end_a1_c3.other W4 (Or.inr (slot_ne (Or.inr (W 23 rfl)) (Or.inr (W 19 rfl)) (by decide) (t := .int) (t' := (.array .byte)) (by decide) (by decide)))
  have F_moments_a1_c5 := F_moments_a1_c2.other W4 (Or.inr (slot_ne (Or.inr (W 17 rfl)) (Or.inr (W 19 rfl)) (by decide) (t := (.array .long)) (t' := (.array .byte)) (by decide) (by decide)))
  have F_levels_a1_c4 : Fld Z h4 a1 "com/example/network_analytics_service/networkanalyticsservice/core/sliceload/Levels" "levels" "[B" (.ref a3) := F_levels_a1_c3.same W4
  have N4 := Fr.snoc X4 N2 g_a1
  refine own_go (fun _ k => XS.aloadN X4.here hx rfl (hb hby d1_14) rfl rfl k) ?_
  refine own_go (fun _ k => XS.iloadN X4.here hx rfl (hb hby d1_15) rfl k) ?_
  show own_Run p e below _ T4 (mkF m 16 #[.val (.ref a1), .val (.ref a2), .val (.ref a3), .val (.int p4), .val (.int p5)] [(.int p4), (.ref a1)])
  obtain ⟨T6, h6, X6, e6, W6, st6⟩ := putF X4 hx hZ hown (host := "") (Or.inl (W 20 rfl)) Via.refl e4 F_first_a1_c5 E_a1_c5 (Or.inr ⟨(W 21 rfl), rfl, hnm⟩) (W 8 rfl) (ty := .int) (by decide) rfl rfl (g := (mkF m 16 #[.val (.ref a1), .val (.ref a2), .val (.ref a3), .val (.int p4), .val (.int p5)] [(.int p4), (.ref a1)])) rfl rfl (hb hby d1_16)
  refine own_go st6 ?_
  show own_Run p e below _ T6 (mkF m 19 #[.val (.ref a1), .val (.ref a2), .val (.ref a3), .val (.int p4), .val (.int p5)] [])
  have Z0_c7 := Nat.le_trans Z0_c5 (Keep.of_wr W6).1
  have K0_c7 := K0_c5.wr W6 (Or.inl (List.mem_of_getElem? (i := 0) rfl))
  have E_a1_c7 := E_a1_c5.wr W6
  have F_end_a1_c7 := F_end_a1_c5.other W6 (Or.inr (slot_ne (Or.inr (W 23 rfl)) (Or.inr (W 21 rfl)) (by decide) (t := .int) (t' := .int) (by decide) (by decide)))
  have F_moments_a1_c7 := F_moments_a1_c5.other W6 (Or.inr (slot_ne (Or.inr (W 17 rfl)) (Or.inr (W 21 rfl)) (by decide) (t := (.array .long)) (t' := .int) (by decide) (by decide)))
  have F_levels_a1_c7 := F_levels_a1_c4.other W6 (Or.inr (slot_ne (Or.inr (W 19 rfl)) (Or.inr (W 21 rfl)) (by decide) (t := (.array .byte)) (t' := .int) (by decide) (by decide)))
  have F_first_a1_c6 : Fld Z h6 a1 "com/example/network_analytics_service/networkanalyticsservice/core/sliceload/Levels" "first" "I" (.int p4) := F_first_a1_c5.same W6
  have N6 := Fr.snoc X6 N4 g_a1
  refine own_go (fun _ k => XS.aloadN X6.here hx rfl (hb hby d1_19) rfl rfl k) ?_
  refine own_go (fun _ k => XS.iload X6.here hx rfl (hb hby d1_20) rfl k) ?_
  show own_Run p e below _ T6 (mkF m 22 #[.val (.ref a1), .val (.ref a2), .val (.ref a3), .val (.int p4), .val (.int p5)] [(.int p5), (.ref a1)])
  obtain ⟨T8, h8, X8, e8, W8, st8⟩ := putF X6 hx hZ hown (host := "") (Or.inl (W 22 rfl)) Via.refl e6 F_end_a1_c7 E_a1_c7 (Or.inr ⟨(W 23 rfl), rfl, hnm⟩) (W 8 rfl) (ty := .int) (by decide) rfl rfl (g := (mkF m 22 #[.val (.ref a1), .val (.ref a2), .val (.ref a3), .val (.int p4), .val (.int p5)] [(.int p5), (.ref a1)])) rfl rfl (hb hby d1_22)
  refine own_go st8 ?_
  show own_Run p e below _ T8 (mkF m 25 #[.val (.ref a1), .val (.ref a2), .val (.ref a3), .val (.int p4), .val (.int p5)] [])
  have Z0_c9 := Nat.le_trans Z0_c7 (Keep.of_wr W8).1
  have K0_c9 := K0_c7.wr W8 (Or.inl (List.mem_of_getElem? (i := 0) rfl))
  have E_a1_c9 := E_a1_c7.wr W8
  have F_moments_a1_c9 := F_moments_a1_c7.other W8 (Or.inr (slot_ne (Or.inr (W 17 rfl)) (Or.inr (W 23 rfl)) (by decide) (t := (.array .long)) (t' := .int) (by decide) (by decide)))
  have F_levels_a1_c9 := F_levels_a1_c7.other W8 (Or.inr (slot_ne (Or.inr (W 19 rfl)) (Or.inr (W 23 rfl)) (by decide) (t := (.array .byte)) (t' := .int) (by decide) (by decide)))
  have F_first_a1_c9 := F_first_a1_c6.other W8 (Or.inr (slot_ne (Or.inr (W 21 rfl)) (Or.inr (W 23 rfl)) (by decide) (t := .int) (t' := .int) (by decide) (by decide)))
  have F_end_a1_c8 : Fld Z h8 a1 "com/example/network_analytics_service/networkanalyticsservice/core/sliceload/Levels" "end" "I" (.int p5) := F_end_a1_c7.same W8
  have N8 := Fr.snoc X8 N6 g_a1
  refine own_done (Q := fun v h L => Q1 Z a1 a2 a3 p4 p5 u1 u2 u3 u4 h0 n0 v h L) (v := none) X8 (fun _ => rfl) hlk (fun fs hr => X8.returnOut hx hret (hb hby d1_25) hr) ?_ (by decide) (by decide)
  show Q1 Z a1 a2 a3 p4 p5 u1 u2 u3 u4 h0 n0 _ T8.heap _
  rw [e8]
  exact ⟨rfl, N8, K0_c9, E_a1_c9, F_levels_a1_c9, F_first_a1_c9⟩
theorem d3_0 : decode prog_4_method_4_code 0 = .ok (.aload_n 0, 1) := by decide +kernel
theorem d3_1 : decode prog_4_method_4_code 1 = .ok (.getfield 13, 3) := by decide +kernel
theorem d3_4 : decode prog_4_method_4_code 4 = .ok (.aload_n 0, 1) := by decide +kernel
theorem d3_5 : decode prog_4_method_4_code 5 = .ok (.getfield 17, 3) := by decide +kernel
theorem d3_8 : decode prog_4_method_4_code 8 = .ok (.iload_n 1, 1) := by decide +kernel
theorem d3_9 : decode prog_4_method_4_code 9 = .ok (.iadd, 1) := by decide +kernel
theorem d3_10 : decode prog_4_method_4_code 10 = .ok (.baload, 1) := by decide +kernel
theorem d3_11 : decode prog_4_method_4_code 11 = .ok (.ireturn, 1) := by decide +kernel
theorem pn_3 : plainName "com/example/network_analytics_service/networkanalyticsservice/core/sliceload/Levels" = true := by first | (simp [plainName, overriddenIn]; done) | decide +kernel
theorem ef_3 (m : MethodId) (x0 : Addr) (x1 : Int32) : entryFrame m #[(.ref x0), (.int x1)] 2 = mkF m 0 #[.val (.ref x0), .val (.int x1)] [] := by first | (simp [entryFrame, mkF, argsToLocals, Value.category]; done) | rfl
def Q3 (Z : State) (a1 : Addr) (p2 : Int32) (a3 : Addr) (w1 : Int32) (kk : ClassId) (x0 : Int32) (x1 : Int32) (x2 : Int32) (x3 : Int32) (r : Int32) (h0 : Heap) (n0 : Nat) (v : Option Value) (h : Heap) (L : List Loc) : Prop := v = some (.int r) ∧ Fr n0 L ∧ h = h0
set_option maxRecDepth 65536 in
set_option maxHeartbeats 40000000 in
theorem rm3 (l : Launch) (Z : State) (a0 : Array Value) (hw : ∀ d ∈ tables_1, d.before a0 Z = true) (ws : List Jvm.Cond) (a1 : Addr) (p2 : Int32) (a3 : Addr) (w1 : Int32) (kk : ClassId) (x0 : Int32) (x1 : Int32) (x2 : Int32) (x3 : Int32) (r : Int32) (h0 : Heap) (n0 : Nat) (Z0 : n0 ≤ h0.size) (F_levels_a1 : Fld Z h0 a1 "com/example/network_analytics_service/networkanalyticsservice/core/sliceload/Levels" "levels" "[B" (.ref a3)) (F_first_a1 : Fld Z h0 a1 "com/example/network_analytics_service/networkanalyticsservice/core/sliceload/Levels" "first" "I" (.int w1)) (V_a3 : Arv Z h0 a3 kk .byte (4 : Int32) [(.int x0), (.int x1), (.int x2), (.int x3)] (.int (0 : Int32))) (hsel : w1 + p2 = (0 : Int32) ∧ x0 = r ∨ w1 + p2 = (1 : Int32) ∧ x1 = r ∨ w1 + p2 = (2 : Int32) ∧ x2 = r ∨ w1 + p2 = (3 : Int32) ∧ x3 = r) :
    MetFree l (⟨"com/example/network_analytics_service/networkanalyticsservice/core/sliceload/Levels", "level", "(I)I"⟩ : MethodName) (head1 (Jvm.Cond.code (⟨"com/example/network_analytics_service/networkanalyticsservice/core/sliceload/Levels", "level", "(I)I"⟩ : MethodName) prog_4_method_4_code 2 (some .int) :: ws) ({ frames := 0, cells := 0, slots := 0, locals := 0 } : Room)) (fun a U => a = #[(.ref a1), (.int p2)] ∧ Z.Warmed39 U.vm ∧ U.heap = h0) (fun _ _ _ _ _ => True) (fun _ U o U' => ∃ v L, o = .returned v ∧ Q3 Z a1 p2 a3 w1 kk x0 x1 x2 x3 r h0 n0 v U'.heap L ∧ FrameEnd U o U' L ({ frames := 0, cells := 0, slots := 0, locals := 0 } : Room).cells ({ frames := 0, cells := 0, slots := 0, locals := 0 } : Room).slots) := by
  refine MetFree.of_bodySF (plainFor_of_name pn_3) hisR ?_
  intro p e s m args below meth c s₁ Bd hml0 hP hK
  obtain ⟨rfl, hZ, hh⟩ := hP
  have hx := Bd.exec
  have hby := Bd.bytes
  have hml : c.maxLocals = 2 := hml0
  have hown : s.vm.findClass "com/example/network_analytics_service/networkanalyticsservice/core/sliceload/Levels" = some m.cls := findClass_of_methodNamed Bd.named
  have hnm := (name_of_methodNamed Bd.named Bd.method).1
  have hret := Bd.returns
  have hlk : meth.locks = false := BodyLoose.notSynchronized Bd
  have X0 : Stand p l e ({ frames := 0, cells := 0, slots := 0, locals := 0 } : Room) s m #[(.ref a1), (.int p2)] below meth c s₁ [] 0 0 := Stand.of_body Bd
  have e0 : s₁.heap = h0 := by rw [← hh, Bd.state]; rfl
  have N0 := Fr.nil n0
  have W := fun (k : Nat) {d : Jvm.Cond} (h : tables_1[k]? = some d) => hw d (List.mem_of_getElem? h)
  have K0 : Keep h0 h0 [] := Keep.refl _ _
  refine own_start (ef_3 m a1 p2) ?_
  show own_Run p e below _ s₁ (mkF m 0 #[.val (.ref a1), .val (.int p2)] [])
  refine own_go (fun _ k => XS.aloadN X0.here hx rfl (hb hby d3_0) rfl rfl k) ?_
  show own_Run p e below _ s₁ (mkF m 1 #[.val (.ref a1), .val (.int p2)] [(.ref a1)])
  obtain ⟨T10, X10, e10, st10⟩ := getF X0 hx hZ hown (host := "") (Or.inl (W 18 rfl)) Via.refl e0 F_levels_a1 (g := (mkF m 1 #[.val (.ref a1), .val (.int p2)] [(.ref a1)])) rfl rfl (hb hby d3_1)
  refine own_go st10 ?_
  show own_Run p e below _ T10 (mkF m 4 #[.val (.ref a1), .val (.int p2)] [(.ref a3)])
  refine own_go (fun _ k => XS.aloadN X10.here hx rfl (hb hby d3_4) rfl rfl k) ?_
  show own_Run p e below _ T10 (mkF m 5 #[.val (.ref a1), .val (.int p2)] [(.ref a1), (.ref a3)])
  obtain ⟨T11, X11, e11, st11⟩ := getF X10 hx hZ hown (host := "") (Or.inl (W 20 rfl)) Via.refl e10 F_first_a1 (g := (mkF m 5 #[.val (.ref a1), .val (.int p2)] [(.ref a1), (.ref a3)])) rfl rfl (hb hby d3_5)
  refine own_go st11 ?_
  show own_Run p e below _ T11 (mkF m 8 #[.val (.ref a1), .val (.int p2)] [(.int w1), (.ref a3)])
  refine own_go (fun _ k => XS.iloadN X11.here hx rfl (hb hby d3_8) rfl k) ?_
  refine own_go (fun _ k => XS.iadd X11.here hx rfl (hb hby d3_9) rfl k) ?_
  show own_Run p e below _ T11 (mkF m 10 #[.val (.ref a1), .val (.int p2)] [(.int (w1 + p2)), (.ref a3)])
  rcases hsel with ⟨hj, rfl⟩ | ⟨hj, rfl⟩ | ⟨hj, rfl⟩ | ⟨hj, rfl⟩
  · rw [hj]
    show own_Run p e below _ T11 (mkF m 10 #[.val (.ref a1), .val (.int p2)] [(.int (0 : Int32)), (.ref a3)])
    obtain ⟨cl12, Ar12, q12, S12, N12, H12, G12⟩ := V_a3
    have hin12 : ¬ ((0 : Int32) < 0 ∨ cl12.slots.size ≤ ((0 : Int32)).toNatClampNeg) := inb_of S12 ⟨by decide, by decide⟩
    refine own_go (X11.baloadBytes hx (j := (0 : Int32)) (v := (.int x0)) (by rw [e11]; exact Ar12.1) (State.isArrayOf_alike hZ.alike Ar12.2.1) Ar12.2.2 hin12 (H12.at hin12 rfl) (g := (mkF m 10 #[.val (.ref a1), .val (.int p2)] [(.int (0 : Int32)), (.ref a3)])) rfl rfl (hb hby d3_10)) ?_
    show own_Run p e below _ T11 (mkF m 11 #[.val (.ref a1), .val (.int p2)] [(.int x0)])
    refine own_done (Q := fun v h L => Q3 Z a1 p2 a3 w1 kk x0 x1 x2 x3 x0 h0 n0 v h L) (v := (some (.int x0))) X11 (fun h => by rw [hret] at h; cases h) hlk (fun fs hr => own_retI X11 hx hret (hb hby d3_11) hr) ?_ (by decide) (by decide)
    show Q3 Z a1 p2 a3 w1 kk x0 x1 x2 x3 x0 h0 n0 _ T11.heap _
    rw [e11]
    exact ⟨rfl, N0, rfl⟩
  · rw [hj]
    show own_Run p e below _ T11 (mkF m 10 #[.val (.ref a1), .val (.int p2)] [(.int (1 : Int32)), (.ref a3)])
    obtain ⟨cl13, Ar13, q13, S13, N13, H13, G13⟩ := V_a3
    have hin13 : ¬ ((1 : Int32) < 0 ∨ cl13.slots.size ≤ ((1 : Int32)).toNatClampNeg) := inb_of S13 ⟨by decide, by decide⟩
    refine own_go (X11.baloadBytes hx (j := (1 : Int32)) (v := (.int x1)) (by rw [e11]; exact Ar13.1) (State.isArrayOf_alike hZ.alike Ar13.2.1) Ar13.2.2 hin13 (H13.at hin13 rfl) (g := (mkF m 10 #[.val (.ref a1), .val (.int p2)] [(.int (1 : Int32)), (.ref a3)])) rfl rfl (hb hby d3_10)) ?_
    show own_Run p e below _ T11 (mkF m 11 #[.val (.ref a1), .val (.int p2)] [(.int x1)])
    refine own_done (Q := fun v h L => Q3 Z a1 p2 a3 w1 kk x0 x1 x2 x3 x1 h0 n0 v h L) (v := (some (.int x1))) X11 (fun h => by rw [hret] at h; cases h) hlk (fun fs hr => own_retI X11 hx hret (hb hby d3_11) hr) ?_ (by decide) (by decide)
    show Q3 Z a1 p2 a3 w1 kk x0 x1 x2 x3 x1 h0 n0 _ T11.heap _
    rw [e11]
    exact ⟨rfl, N0, rfl⟩
  · rw [hj]
    show own_Run p e below _ T11 (mkF m 10 #[.val (.ref a1), .val (.int p2)] [(.int (2 : Int32)), (.ref a3)])
    obtain ⟨cl14, Ar14, q14, S14, N14, H14, G14⟩ := V_a3
    have hin14 : ¬ ((2 : Int32) < 0 ∨ cl14.slots.size ≤ ((2 : Int32)).toNatClampNeg) := inb_of S14 ⟨by decide, by decide⟩
    refine own_go (X11.baloadBytes hx (j := (2 : Int32)) (v := (.int x2)) (by rw [e11]; exact Ar14.1) (State.isArrayOf_alike hZ.alike Ar14.2.1) Ar14.2.2 hin14 (H14.at hin14 rfl) (g := (mkF m 10 #[.val (.ref a1), .val (.int p2)] [(.int (2 : Int32)), (.ref a3)])) rfl rfl (hb hby d3_10)) ?_
    show own_Run p e below _ T11 (mkF m 11 #[.val (.ref a1), .val (.int p2)] [(.int x2)])
    refine own_done (Q := fun v h L => Q3 Z a1 p2 a3 w1 kk x0 x1 x2 x3 x2 h0 n0 v h L) (v := (some (.int x2))) X11 (fun h => by rw [hret] at h; cases h) hlk (fun fs hr => own_retI X11 hx hret (hb hby d3_11) hr) ?_ (by decide) (by decide)
    show Q3 Z a1 p2 a3 w1 kk x0 x1 x2 x3 x2 h0 n0 _ T11.heap _
    rw [e11]
    exact ⟨rfl, N0, rfl⟩
  · rw [hj]
    show own_Run p e below _ T11 (mkF m 10 #[.val (.ref a1), .val (.int p2)] [(.int (3 : Int32)), (.ref a3)])
    obtain ⟨cl15, Ar15, q15, S15, N15, H15, G15⟩ := V_a3
    have hin15 : ¬ ((3 : Int32) < 0 ∨ cl15.slots.size ≤ ((3 : Int32)).toNatClampNeg) := inb_of S15 ⟨by decide, by decide⟩
    refine own_go (X11.baloadBytes hx (j := (3 : Int32)) (v := (.int x3)) (by rw [e11]; exact Ar15.1) (State.isArrayOf_alike hZ.alike Ar15.2.1) Ar15.2.2 hin15 (H15.at hin15 rfl) (g := (mkF m 10 #[.val (.ref a1), .val (.int p2)] [(.int (3 : Int32)), (.ref a3)])) rfl rfl (hb hby d3_10)) ?_
    show own_Run p e below _ T11 (mkF m 11 #[.val (.ref a1), .val (.int p2)] [(.int x3)])
    refine own_done (Q := fun v h L => Q3 Z a1 p2 a3 w1 kk x0 x1 x2 x3 x3 h0 n0 v h L) (v := (some (.int x3))) X11 (fun h => by rw [hret] at h; cases h) hlk (fun fs hr => own_retI X11 hx hret (hb hby d3_11) hr) ?_ (by decide) (by decide)
    show Q3 Z a1 p2 a3 w1 kk x0 x1 x2 x3 x3 h0 n0 _ T11.heap _
    rw [e11]
    exact ⟨rfl, N0, rfl⟩
theorem pn_0 : plainName "com/example/network_analytics_service/networkanalyticsservice/core/sliceload/LevelsLevelPinLaw" = true := by first | (simp [plainName, overriddenIn]; done) | decide +kernel
theorem ef_0 (m : MethodId) (x0 : Int32) (x1 : Int32) (x2 : Int32) (x3 : Int32) (x4 : Int32) (x5 : Int32) : entryFrame m #[(.int x0), (.int x1), (.int x2), (.int x3), (.int x4), (.int x5)] maxLocals = mkF m 0 #[.val (.int x0), .val (.int x1), .val (.int x2), .val (.int x3), .val (.int x4), .val (.int x5), .unset, .unset, .unset, .unset, .unset, .unset, .unset, .unset, .unset, .unset, .unset, .unset, .unset] [] := by first | (simp [entryFrame, mkF, argsToLocals, Value.category, maxLocals]; done) | rfl
theorem pd_1 : parseMethodDescriptor "([J[BII)V" = some ⟨[(.array .long), (.array .byte), .int, .int], none⟩ := by decide +kernel
theorem pd_2 : parseMethodDescriptor "(I)I" = some ⟨[.int], some .int⟩ := by decide +kernel
def Q0 (Z : State) (p1 : Int32) (p2 : Int32) (p3 : Int32) (p4 : Int32) (p5 : Int32) (p6 : Int32) (h0 : Heap) (n0 : Nat) (v : Option Value) (h : Heap) (L : List Loc) : Prop := v = some (.int (1 : Int32)) ∧ Fr n0 L
set_option maxRecDepth 65536 in
set_option maxHeartbeats 40000000 in
theorem rm0 (l : Launch) (Z : State) (a0 : Array Value) (hw : ∀ d ∈ tables_1, d.before a0 Z = true) (ws : List Jvm.Cond) (p1 : Int32) (p2 : Int32) (p3 : Int32) (p4 : Int32) (p5 : Int32) (p6 : Int32) (h0 : Heap) (n0 : Nat) (Z0 : n0 ≤ h0.size) :
    MetFree l x (head1 (Jvm.Cond.code x code maxLocals ret :: ws) room_1) (fun a U => a = #[(.int p1), (.int p2), (.int p3), (.int p4), (.int p5), (.int p6)] ∧ Z.Warmed39 U.vm ∧ U.heap = h0) (fun _ _ _ _ _ => True) (fun _ U o U' => ∃ v L, o = .returned v ∧ Q0 Z p1 p2 p3 p4 p5 p6 h0 n0 v U'.heap L ∧ FrameEnd U o U' L room_1.cells room_1.slots) := by
  refine MetFree.of_bodySF (plainFor_of_name pn_0) hisR ?_
  intro p e s m args below meth c s₁ Bd hml0 hP hK
  obtain ⟨rfl, hZ, hh⟩ := hP
  have hx := Bd.exec
  have hby := Bd.bytes
  have hml : c.maxLocals = 19 := hml0
  have hown : s.vm.findClass "com/example/network_analytics_service/networkanalyticsservice/core/sliceload/LevelsLevelPinLaw" = some m.cls := findClass_of_methodNamed Bd.named
  have hnm := (name_of_methodNamed Bd.named Bd.method).1
  have hret := Bd.returns
  have hlk : meth.locks = false := BodyLoose.notSynchronized Bd
  have X0 : Stand p l e room_1 s m #[(.int p1), (.int p2), (.int p3), (.int p4), (.int p5), (.int p6)] below meth c s₁ [] 0 0 := Stand.of_body Bd
  have e0 : s₁.heap = h0 := by rw [← hh, Bd.state]; rfl
  have N0 := Fr.nil n0
  have W := fun (k : Nat) {d : Jvm.Cond} (h : tables_1[k]? = some d) => hw d (List.mem_of_getElem? h)
  have K0 : Keep h0 h0 [] := Keep.refl _ _
  refine own_start (ef_0 m p1 p2 p3 p4 p5 p6) ?_
  show own_Run p e below _ s₁ (mkF m 0 #[.val (.int p1), .val (.int p2), .val (.int p3), .val (.int p4), .val (.int p5), .val (.int p6), .unset, .unset, .unset, .unset, .unset, .unset, .unset, .unset, .unset, .unset, .unset, .unset, .unset] [])
  refine own_go (fun _ k => XS.iloadN X0.here hx rfl (hb hby at_0) rfl k) ?_
  show own_Run p e below _ s₁ (mkF m 1 #[.val (.int p1), .val (.int p2), .val (.int p3), .val (.int p4), .val (.int p5), .val (.int p6), .unset, .unset, .unset, .unset, .unset, .unset, .unset, .unset, .unset, .unset, .unset, .unset, .unset] [(.int p1)])
  refine own_go (X0.ldcInt hx hown (mvT hZ (W 0 rfl)) (g := (mkF m 1 #[.val (.int p1), .val (.int p2), .val (.int p3), .val (.int p4), .val (.int p5), .val (.int p6), .unset, .unset, .unset, .unset, .unset, .unset, .unset, .unset, .unset, .unset, .unset, .unset, .unset] [(.int p1)])) rfl (hb hby at_1)) ?_
  show own_Run p e below _ s₁ (mkF m 3 #[.val (.int p1), .val (.int p2), .val (.int p3), .val (.int p4), .val (.int p5), .val (.int p6), .unset, .unset, .unset, .unset, .unset, .unset, .unset, .unset, .unset, .unset, .unset, .unset, .unset] [(.int (2147483647 : Int32)), (.int p1)])
  refine own_go (fun _ k => XS.iand X0.here hx rfl (hb hby at_3) rfl k) ?_
  refine own_go (fun _ k => XS.bipush X0.here hx rfl (hb hby at_4) k) ?_
  refine own_go (fun _ k => iremM X0 hx rfl (hb hby at_6) rfl (by decide) k) ?_
  show own_Run p e below _ s₁ (mkF m 7 #[.val (.int p1), .val (.int p2), .val (.int p3), .val (.int p4), .val (.int p5), .val (.int p6), .unset, .unset, .unset, .unset, .unset, .unset, .unset, .unset, .unset, .unset, .unset, .unset, .unset] [(.int ((p1 &&& (2147483647 : Int32)) % (101 : Int32)))])
  obtain ⟨x0, hx0⟩ : ∃ z, z = ((p1 &&& (2147483647 : Int32)) % (101 : Int32)) := ⟨_, rfl⟩
  rw [← hx0]
  show own_Run p e below _ s₁ (mkF m 7 #[.val (.int p1), .val (.int p2), .val (.int p3), .val (.int p4), .val (.int p5), .val (.int p6), .unset, .unset, .unset, .unset, .unset, .unset, .unset, .unset, .unset, .unset, .unset, .unset, .unset] [(.int x0)])
  have hb0 := own_lev p1 x0 hx0
  refine own_go (fun _ k => XS.istore X0.here hx rfl (hb hby at_7) rfl (l' := #[.val (.int p1), .val (.int p2), .val (.int p3), .val (.int p4), .val (.int p5), .val (.int p6), .val (.int x0), .unset, .unset, .unset, .unset, .unset, .unset, .unset, .unset, .unset, .unset, .unset, .unset]) rfl k) ?_
  refine own_go (fun _ k => XS.iloadN X0.here hx rfl (hb hby at_9) rfl k) ?_
  show own_Run p e below _ s₁ (mkF m 10 #[.val (.int p1), .val (.int p2), .val (.int p3), .val (.int p4), .val (.int p5), .val (.int p6), .val (.int x0), .unset, .unset, .unset, .unset, .unset, .unset, .unset, .unset, .unset, .unset, .unset, .unset] [(.int p2)])
  refine own_go (X0.ldcInt hx hown (mvT hZ (W 0 rfl)) (g := (mkF m 10 #[.val (.int p1), .val (.int p2), .val (.int p3), .val (.int p4), .val (.int p5), .val (.int p6), .val (.int x0), .unset, .unset, .unset, .unset, .unset, .unset, .unset, .unset, .unset, .unset, .unset, .unset] [(.int p2)])) rfl (hb hby at_10)) ?_
  show own_Run p e below _ s₁ (mkF m 12 #[.val (.int p1), .val (.int p2), .val (.int p3), .val (.int p4), .val (.int p5), .val (.int p6), .val (.int x0), .unset, .unset, .unset, .unset, .unset, .unset, .unset, .unset, .unset, .unset, .unset, .unset] [(.int (2147483647 : Int32)), (.int p2)])
  refine own_go (fun _ k => XS.iand X0.here hx rfl (hb hby at_12) rfl k) ?_
  refine own_go (fun _ k => XS.bipush X0.here hx rfl (hb hby at_13) k) ?_
  refine own_go (fun _ k => iremM X0 hx rfl (hb hby at_15) rfl (by decide) k) ?_
  show own_Run p e below _ s₁ (mkF m 16 #[.val (.int p1), .val (.int p2), .val (.int p3), .val (.int p4), .val (.int p5), .val (.int p6), .val (.int x0), .unset, .unset, .unset, .unset, .unset, .unset, .unset, .unset, .unset, .unset, .unset, .unset] [(.int ((p2 &&& (2147483647 : Int32)) % (101 : Int32)))])
  obtain ⟨x1, hx1⟩ : ∃ z, z = ((p2 &&& (2147483647 : Int32)) % (101 : Int32)) := ⟨_, rfl⟩
  rw [← hx1]
  show own_Run p e below _ s₁ (mkF m 16 #[.val (.int p1), .val (.int p2), .val (.int p3), .val (.int p4), .val (.int p5), .val (.int p6), .val (.int x0), .unset, .unset, .unset, .unset, .unset, .unset, .unset, .unset, .unset, .unset, .unset, .unset] [(.int x1)])
  have hb1 := own_lev p2 x1 hx1
  refine own_go (fun _ k => XS.istore X0.here hx rfl (hb hby at_16) rfl (l' := #[.val (.int p1), .val (.int p2), .val (.int p3), .val (.int p4), .val (.int p5), .val (.int p6), .val (.int x0), .val (.int x1), .unset, .unset, .unset, .unset, .unset, .unset, .unset, .unset, .unset, .unset, .unset]) rfl k) ?_
  refine own_go (fun _ k => XS.iloadN X0.here hx rfl (hb hby at_18) rfl k) ?_
  show own_Run p e below _ s₁ (mkF m 19 #[.val (.int p1), .val (.int p2), .val (.int p3), .val (.int p4), .val (.int p5), .val (.int p6), .val (.int x0), .val (.int x1), .unset, .unset, .unset, .unset, .unset, .unset, .unset, .unset, .unset, .unset, .unset] [(.int p3)])
  refine own_go (X0.ldcInt hx hown (mvT hZ (W 0 rfl)) (g := (mkF m 19 #[.val (.int p1), .val (.int p2), .val (.int p3), .val (.int p4), .val (.int p5), .val (.int p6), .val (.int x0), .val (.int x1), .unset, .unset, .unset, .unset, .unset, .unset, .unset, .unset, .unset, .unset, .unset] [(.int p3)])) rfl (hb hby at_19)) ?_
  show own_Run p e below _ s₁ (mkF m 21 #[.val (.int p1), .val (.int p2), .val (.int p3), .val (.int p4), .val (.int p5), .val (.int p6), .val (.int x0), .val (.int x1), .unset, .unset, .unset, .unset, .unset, .unset, .unset, .unset, .unset, .unset, .unset] [(.int (2147483647 : Int32)), (.int p3)])
  refine own_go (fun _ k => XS.iand X0.here hx rfl (hb hby at_21) rfl k) ?_
  refine own_go (fun _ k => XS.bipush X0.here hx rfl (hb hby at_22) k) ?_
  refine own_go (fun _ k => iremM X0 hx rfl (hb hby at_24) rfl (by decide) k) ?_
  show own_Run p e below _ s₁ (mkF m 25 #[.val (.int p1), .val (.int p2), .val (.int p3), .val (.int p4), .val (.int p5), .val (.int p6), .val (.int x0), .val (.int x1), .unset, .unset, .unset, .unset, .unset, .unset, .unset, .unset, .unset, .unset, .unset] [(.int ((p3 &&& (2147483647 : Int32)) % (101 : Int32)))])
  obtain ⟨x2, hx2⟩ : ∃ z, z = ((p3 &&& (2147483647 : Int32)) % (101 : Int32)) := ⟨_, rfl⟩
  rw [← hx2]
  show own_Run p e below _ s₁ (mkF m 25 #[.val (.int p1), .val (.int p2), .val (.int p3), .val (.int p4), .val (.int p5), .val (.int p6), .val (.int x0), .val (.int x1), .unset, .unset, .unset, .unset, .unset, .unset, .unset, .unset, .unset, .unset, .unset] [(.int x2)])
  have hb2 := own_lev p3 x2 hx2
  refine own_go (fun _ k => XS.istore X0.here hx rfl (hb hby at_25) rfl (l' := #[.val (.int p1), .val (.int p2), .val (.int p3), .val (.int p4), .val (.int p5), .val (.int p6), .val (.int x0), .val (.int x1), .val (.int x2), .unset, .unset, .unset, .unset, .unset, .unset, .unset, .unset, .unset, .unset]) rfl k) ?_
  refine own_go (fun _ k => XS.iloadN X0.here hx rfl (hb hby at_27) rfl k) ?_
  show own_Run p e below _ s₁ (mkF m 28 #[.val (.int p1), .val (.int p2), .val (.int p3), .val (.int p4), .val (.int p5), .val (.int p6), .val (.int x0), .val (.int x1), .val (.int x2), .unset, .unset, .unset, .unset, .unset, .unset, .unset, .unset, .unset, .unset] [(.int p4)])
  refine own_go (X0.ldcInt hx hown (mvT hZ (W 0 rfl)) (g := (mkF m 28 #[.val (.int p1), .val (.int p2), .val (.int p3), .val (.int p4), .val (.int p5), .val (.int p6), .val (.int x0), .val (.int x1), .val (.int x2), .unset, .unset, .unset, .unset, .unset, .unset, .unset, .unset, .unset, .unset] [(.int p4)])) rfl (hb hby at_28)) ?_
  show own_Run p e below _ s₁ (mkF m 30 #[.val (.int p1), .val (.int p2), .val (.int p3), .val (.int p4), .val (.int p5), .val (.int p6), .val (.int x0), .val (.int x1), .val (.int x2), .unset, .unset, .unset, .unset, .unset, .unset, .unset, .unset, .unset, .unset] [(.int (2147483647 : Int32)), (.int p4)])
  refine own_go (fun _ k => XS.iand X0.here hx rfl (hb hby at_30) rfl k) ?_
  refine own_go (fun _ k => XS.bipush X0.here hx rfl (hb hby at_31) k) ?_
  refine own_go (fun _ k => iremM X0 hx rfl (hb hby at_33) rfl (by decide) k) ?_
  show own_Run p e below _ s₁ (mkF m 34 #[.val (.int p1), .val (.int p2), .val (.int p3), .val (.int p4), .val (.int p5), .val (.int p6), .val (.int x0), .val (.int x1), .val (.int x2), .unset, .unset, .unset, .unset, .unset, .unset, .unset, .unset, .unset, .unset] [(.int ((p4 &&& (2147483647 : Int32)) % (101 : Int32)))])
  obtain ⟨x3, hx3⟩ : ∃ z, z = ((p4 &&& (2147483647 : Int32)) % (101 : Int32)) := ⟨_, rfl⟩
  rw [← hx3]
  show own_Run p e below _ s₁ (mkF m 34 #[.val (.int p1), .val (.int p2), .val (.int p3), .val (.int p4), .val (.int p5), .val (.int p6), .val (.int x0), .val (.int x1), .val (.int x2), .unset, .unset, .unset, .unset, .unset, .unset, .unset, .unset, .unset, .unset] [(.int x3)])
  have hb3 := own_lev p4 x3 hx3
  refine own_go (fun _ k => XS.istore X0.here hx rfl (hb hby at_34) rfl (l' := #[.val (.int p1), .val (.int p2), .val (.int p3), .val (.int p4), .val (.int p5), .val (.int p6), .val (.int x0), .val (.int x1), .val (.int x2), .val (.int x3), .unset, .unset, .unset, .unset, .unset, .unset, .unset, .unset, .unset]) rfl k) ?_
  refine own_go (fun _ k => XS.iconst X0.here hx rfl (hb hby at_36) k) ?_
  show own_Run p e below _ s₁ (mkF m 37 #[.val (.int p1), .val (.int p2), .val (.int p3), .val (.int p4), .val (.int p5), .val (.int p6), .val (.int x0), .val (.int x1), .val (.int x2), .val (.int x3), .unset, .unset, .unset, .unset, .unset, .unset, .unset, .unset, .unset] [(.int (4 : Int32))])
  obtain ⟨T16, h16, k16, X16, e16, E16, A16, st16⟩ := newP X0 hx hZ (W 1 rfl) e0 (g := (mkF m 37 #[.val (.int p1), .val (.int p2), .val (.int p3), .val (.int p4), .val (.int p5), .val (.int p6), .val (.int x0), .val (.int x1), .val (.int x2), .val (.int x3), .unset, .unset, .unset, .unset, .unset, .unset, .unset, .unset, .unset] [(.int (4 : Int32))])) rfl (hb hby at_37) rfl (by decide) (cap := 4) (by decide) (by decide) (by decide) (by decide)
  refine own_go st16 ?_
  obtain ⟨b16, g16⟩ : ∃ z, z = h0.size := ⟨_, rfl⟩
  rw [← g16] at A16
  rw [← g16]
  show own_Run p e below _ T16 (mkF m 39 #[.val (.int p1), .val (.int p2), .val (.int p3), .val (.int p4), .val (.int p5), .val (.int p6), .val (.int x0), .val (.int x1), .val (.int x2), .val (.int x3), .unset, .unset, .unset, .unset, .unset, .unset, .unset, .unset, .unset] [(.ref b16)])
  have g_b16 : n0 ≤ b16 := Nat.le_trans Z0 (Nat.le_of_eq g16.symm)
  have sz_b16 : h0.size ≤ b16 := Nat.le_trans K0.1 (Nat.le_of_eq g16.symm)
  have Z0_c17 := Nat.le_trans Z0 E16.1
  have K0_c17 := K0.ext E16
  have V_b16 : Arv Z h16 b16 k16 .long (4 : Int32) [(.long (0 : Int64)), (.long (0 : Int64)), (.long (0 : Int64)), (.long (0 : Int64))] (.long (0 : Int64)) := (Arv.new A16 (by decide)).pad (pad_rep [] (.long (0 : Int64)) 4)
  refine own_go (fun _ k => XS.dup X16.here hx rfl (hb hby at_39) rfl rfl k) ?_
  refine own_go (fun _ k => XS.iconst X16.here hx rfl (hb hby at_40) k) ?_
  show own_Run p e below _ T16 (mkF m 41 #[.val (.int p1), .val (.int p2), .val (.int p3), .val (.int p4), .val (.int p5), .val (.int p6), .val (.int x0), .val (.int x1), .val (.int x2), .val (.int x3), .unset, .unset, .unset, .unset, .unset, .unset, .unset, .unset, .unset] [(.int (0 : Int32)), (.ref b16), (.ref b16)])
  refine own_go (X16.ldc2Long hx hown (mvT hZ (W 2 rfl)) (g := (mkF m 41 #[.val (.int p1), .val (.int p2), .val (.int p3), .val (.int p4), .val (.int p5), .val (.int p6), .val (.int x0), .val (.int x1), .val (.int x2), .val (.int x3), .unset, .unset, .unset, .unset, .unset, .unset, .unset, .unset, .unset] [(.int (0 : Int32)), (.ref b16), (.ref b16)])) rfl (hb hby at_41)) ?_
  show own_Run p e below _ T16 (mkF m 44 #[.val (.int p1), .val (.int p2), .val (.int p3), .val (.int p4), .val (.int p5), .val (.int p6), .val (.int x0), .val (.int x1), .val (.int x2), .val (.int x3), .unset, .unset, .unset, .unset, .unset, .unset, .unset, .unset, .unset] [(.long (1000 : Int64)), (.int (0 : Int32)), (.ref b16), (.ref b16)])
  obtain ⟨cl18, Ar18, q18, S18, N18, H18, G18⟩ := V_b16
  have hin18 : ¬ ((0 : Int32) < 0 ∨ cl18.slots.size ≤ ((0 : Int32)).toNatClampNeg) := inb_of S18 ⟨by decide, by decide⟩
  obtain ⟨T19, h19, X19, e19, W19, st19⟩ := stJ X16 hx hZ e16 Ar18 (j := (0 : Int32)) hin18 (g := (mkF m 44 #[.val (.int p1), .val (.int p2), .val (.int p3), .val (.int p4), .val (.int p5), .val (.int p6), .val (.int x0), .val (.int x1), .val (.int x2), .val (.int x3), .unset, .unset, .unset, .unset, .unset, .unset, .unset, .unset, .unset] [(.long (1000 : Int64)), (.int (0 : Int32)), (.ref b16), (.ref b16)])) rfl rfl (hb hby at_44)
  refine own_go st19 ?_
  show own_Run p e below _ T19 (mkF m 45 #[.val (.int p1), .val (.int p2), .val (.int p3), .val (.int p4), .val (.int p5), .val (.int p6), .val (.int x0), .val (.int x1), .val (.int x2), .val (.int x3), .unset, .unset, .unset, .unset, .unset, .unset, .unset, .unset, .unset] [(.ref b16)])
  have Z0_c20 := Nat.le_trans Z0_c17 (Keep.of_wr W19).1
  have K0_c20 := K0_c17.wr W19 (Or.inr sz_b16)
  have V_b16_c19 : Arv Z h19 b16 k16 .long (4 : Int32) [(.long (1000 : Int64)), (.long (0 : Int64)), (.long (0 : Int64)), (.long (0 : Int64))] (.long (0 : Int64)) := Arv.set Ar18 q18 S18 N18 H18 G18 rfl W19 0 rfl (Nat.le_of_ble_eq_true rfl)
  have N19 := Fr.snoc X19 N0 g_b16
  refine own_go (fun _ k => XS.dup X19.here hx rfl (hb hby at_45) rfl rfl k) ?_
  refine own_go (fun _ k => XS.iconst X19.here hx rfl (hb hby at_46) k) ?_
  show own_Run p e below _ T19 (mkF m 47 #[.val (.int p1), .val (.int p2), .val (.int p3), .val (.int p4), .val (.int p5), .val (.int p6), .val (.int x0), .val (.int x1), .val (.int x2), .val (.int x3), .unset, .unset, .unset, .unset, .unset, .unset, .unset, .unset, .unset] [(.int (1 : Int32)), (.ref b16), (.ref b16)])
  refine own_go (X19.ldc2Long hx hown (mvT hZ (W 3 rfl)) (g := (mkF m 47 #[.val (.int p1), .val (.int p2), .val (.int p3), .val (.int p4), .val (.int p5), .val (.int p6), .val (.int x0), .val (.int x1), .val (.int x2), .val (.int x3), .unset, .unset, .unset, .unset, .unset, .unset, .unset, .unset, .unset] [(.int (1 : Int32)), (.ref b16), (.ref b16)])) rfl (hb hby at_47)) ?_
  show own_Run p e below _ T19 (mkF m 50 #[.val (.int p1), .val (.int p2), .val (.int p3), .val (.int p4), .val (.int p5), .val (.int p6), .val (.int x0), .val (.int x1), .val (.int x2), .val (.int x3), .unset, .unset, .unset, .unset, .unset, .unset, .unset, .unset, .unset] [(.long (2000 : Int64)), (.int (1 : Int32)), (.ref b16), (.ref b16)])
  obtain ⟨cl21, Ar21, q21, S21, N21, H21, G21⟩ := V_b16_c19
  have hin21 : ¬ ((1 : Int32) < 0 ∨ cl21.slots.size ≤ ((1 : Int32)).toNatClampNeg) := inb_of S21 ⟨by decide, by decide⟩
  obtain ⟨T22, h22, X22, e22, W22, st22⟩ := stJ X19 hx hZ e19 Ar21 (j := (1 : Int32)) hin21 (g := (mkF m 50 #[.val (.int p1), .val (.int p2), .val (.int p3), .val (.int p4), .val (.int p5), .val (.int p6), .val (.int x0), .val (.int x1), .val (.int x2), .val (.int x3), .unset, .unset, .unset, .unset, .unset, .unset, .unset, .unset, .unset] [(.long (2000 : Int64)), (.int (1 : Int32)), (.ref b16), (.ref b16)])) rfl rfl (hb hby at_50)
  refine own_go st22 ?_
  show own_Run p e below _ T22 (mkF m 51 #[.val (.int p1), .val (.int p2), .val (.int p3), .val (.int p4), .val (.int p5), .val (.int p6), .val (.int x0), .val (.int x1), .val (.int x2), .val (.int x3), .unset, .unset, .unset, .unset, .unset, .unset, .unset, .unset, .unset] [(.ref b16)])
  have Z0_c23 := Nat.le_trans Z0_c20 (Keep.of_wr W22).1
  have K0_c23 := K0_c20.wr W22 (Or.inr sz_b16)
  have V_b16_c22 : Arv Z h22 b16 k16 .long (4 : Int32) [(.long (1000 : Int64)), (.long (2000 : Int64)), (.long (0 : Int64)), (.long (0 : Int64))] (.long (0 : Int64)) := Arv.set Ar21 q21 S21 N21 H21 G21 rfl W22 1 rfl (Nat.le_of_ble_eq_true rfl)
  have N22 := Fr.snoc X22 N19 g_b16
  refine own_go (fun _ k => XS.dup X22.here hx rfl (hb hby at_51) rfl rfl k) ?_
  refine own_go (fun _ k => XS.iconst X22.here hx rfl (hb hby at_52) k) ?_
  show own_Run p e below _ T22 (mkF m 53 #[.val (.int p1), .val (.int p2), .val (.int p3), .val (.int p4), .val (.int p5), .val (.int p6), .val (.int x0), .val (.int x1), .val (.int x2), .val (.int x3), .unset, .unset, .unset, .unset, .unset, .unset, .unset, .unset, .unset] [(.int (2 : Int32)), (.ref b16), (.ref b16)])
  refine own_go (X22.ldc2Long hx hown (mvT hZ (W 4 rfl)) (g := (mkF m 53 #[.val (.int p1), .val (.int p2), .val (.int p3), .val (.int p4), .val (.int p5), .val (.int p6), .val (.int x0), .val (.int x1), .val (.int x2), .val (.int x3), .unset, .unset, .unset, .unset, .unset, .unset, .unset, .unset, .unset] [(.int (2 : Int32)), (.ref b16), (.ref b16)])) rfl (hb hby at_53)) ?_
  show own_Run p e below _ T22 (mkF m 56 #[.val (.int p1), .val (.int p2), .val (.int p3), .val (.int p4), .val (.int p5), .val (.int p6), .val (.int x0), .val (.int x1), .val (.int x2), .val (.int x3), .unset, .unset, .unset, .unset, .unset, .unset, .unset, .unset, .unset] [(.long (3000 : Int64)), (.int (2 : Int32)), (.ref b16), (.ref b16)])
  obtain ⟨cl24, Ar24, q24, S24, N24, H24, G24⟩ := V_b16_c22
  have hin24 : ¬ ((2 : Int32) < 0 ∨ cl24.slots.size ≤ ((2 : Int32)).toNatClampNeg) := inb_of S24 ⟨by decide, by decide⟩
  obtain ⟨T25, h25, X25, e25, W25, st25⟩ := stJ X22 hx hZ e22 Ar24 (j := (2 : Int32)) hin24 (g := (mkF m 56 #[.val (.int p1), .val (.int p2), .val (.int p3), .val (.int p4), .val (.int p5), .val (.int p6), .val (.int x0), .val (.int x1), .val (.int x2), .val (.int x3), .unset, .unset, .unset, .unset, .unset, .unset, .unset, .unset, .unset] [(.long (3000 : Int64)), (.int (2 : Int32)), (.ref b16), (.ref b16)])) rfl rfl (hb hby at_56)
  refine own_go st25 ?_
  show own_Run p e below _ T25 (mkF m 57 #[.val (.int p1), .val (.int p2), .val (.int p3), .val (.int p4), .val (.int p5), .val (.int p6), .val (.int x0), .val (.int x1), .val (.int x2), .val (.int x3), .unset, .unset, .unset, .unset, .unset, .unset, .unset, .unset, .unset] [(.ref b16)])
  have Z0_c26 := Nat.le_trans Z0_c23 (Keep.of_wr W25).1
  have K0_c26 := K0_c23.wr W25 (Or.inr sz_b16)
  have V_b16_c25 : Arv Z h25 b16 k16 .long (4 : Int32) [(.long (1000 : Int64)), (.long (2000 : Int64)), (.long (3000 : Int64)), (.long (0 : Int64))] (.long (0 : Int64)) := Arv.set Ar24 q24 S24 N24 H24 G24 rfl W25 2 rfl (Nat.le_of_ble_eq_true rfl)
  have N25 := Fr.snoc X25 N22 g_b16
  refine own_go (fun _ k => XS.dup X25.here hx rfl (hb hby at_57) rfl rfl k) ?_
  refine own_go (fun _ k => XS.iconst X25.here hx rfl (hb hby at_58) k) ?_
  show own_Run p e below _ T25 (mkF m 59 #[.val (.int p1), .val (.int p2), .val (.int p3), .val (.int p4), .val (.int p5), .val (.int p6), .val (.int x0), .val (.int x1), .val (.int x2), .val (.int x3), .unset, .unset, .unset, .unset, .unset, .unset, .unset, .unset, .unset] [(.int (3 : Int32)), (.ref b16), (.ref b16)])
  refine own_go (X25.ldc2Long hx hown (mvT hZ (W 5 rfl)) (g := (mkF m 59 #[.val (.int p1), .val (.int p2), .val (.int p3), .val (.int p4), .val (.int p5), .val (.int p6), .val (.int x0), .val (.int x1), .val (.int x2), .val (.int x3), .unset, .unset, .unset, .unset, .unset, .unset, .unset, .unset, .unset] [(.int (3 : Int32)), (.ref b16), (.ref b16)])) rfl (hb hby at_59)) ?_
  show own_Run p e below _ T25 (mkF m 62 #[.val (.int p1), .val (.int p2), .val (.int p3), .val (.int p4), .val (.int p5), .val (.int p6), .val (.int x0), .val (.int x1), .val (.int x2), .val (.int x3), .unset, .unset, .unset, .unset, .unset, .unset, .unset, .unset, .unset] [(.long (4000 : Int64)), (.int (3 : Int32)), (.ref b16), (.ref b16)])
  obtain ⟨cl27, Ar27, q27, S27, N27, H27, G27⟩ := V_b16_c25
  have hin27 : ¬ ((3 : Int32) < 0 ∨ cl27.slots.size ≤ ((3 : Int32)).toNatClampNeg) := inb_of S27 ⟨by decide, by decide⟩
  obtain ⟨T28, h28, X28, e28, W28, st28⟩ := stJ X25 hx hZ e25 Ar27 (j := (3 : Int32)) hin27 (g := (mkF m 62 #[.val (.int p1), .val (.int p2), .val (.int p3), .val (.int p4), .val (.int p5), .val (.int p6), .val (.int x0), .val (.int x1), .val (.int x2), .val (.int x3), .unset, .unset, .unset, .unset, .unset, .unset, .unset, .unset, .unset] [(.long (4000 : Int64)), (.int (3 : Int32)), (.ref b16), (.ref b16)])) rfl rfl (hb hby at_62)
  refine own_go st28 ?_
  show own_Run p e below _ T28 (mkF m 63 #[.val (.int p1), .val (.int p2), .val (.int p3), .val (.int p4), .val (.int p5), .val (.int p6), .val (.int x0), .val (.int x1), .val (.int x2), .val (.int x3), .unset, .unset, .unset, .unset, .unset, .unset, .unset, .unset, .unset] [(.ref b16)])
  have Z0_c29 := Nat.le_trans Z0_c26 (Keep.of_wr W28).1
  have K0_c29 := K0_c26.wr W28 (Or.inr sz_b16)
  have V_b16_c28 : Arv Z h28 b16 k16 .long (4 : Int32) [(.long (1000 : Int64)), (.long (2000 : Int64)), (.long (3000 : Int64)), (.long (4000 : Int64))] (.long (0 : Int64)) := Arv.set Ar27 q27 S27 N27 H27 G27 rfl W28 3 rfl (Nat.le_of_ble_eq_true rfl)
  have N28 := Fr.snoc X28 N25 g_b16
  refine own_go (fun _ k => XS.astore X28.here hx rfl (hb hby at_63) rfl rfl (l' := #[.val (.int p1), .val (.int p2), .val (.int p3), .val (.int p4), .val (.int p5), .val (.int p6), .val (.int x0), .val (.int x1), .val (.int x2), .val (.int x3), .val (.ref b16), .unset, .unset, .unset, .unset, .unset, .unset, .unset, .unset]) rfl k) ?_
  refine own_go (fun _ k => XS.iconst X28.here hx rfl (hb hby at_65) k) ?_
  show own_Run p e below _ T28 (mkF m 66 #[.val (.int p1), .val (.int p2), .val (.int p3), .val (.int p4), .val (.int p5), .val (.int p6), .val (.int x0), .val (.int x1), .val (.int x2), .val (.int x3), .val (.ref b16), .unset, .unset, .unset, .unset, .unset, .unset, .unset, .unset] [(.int (4 : Int32))])
  obtain ⟨T30, h30, k30, X30, e30, E30, A30, st30⟩ := newP X28 hx hZ (W 6 rfl) e28 (g := (mkF m 66 #[.val (.int p1), .val (.int p2), .val (.int p3), .val (.int p4), .val (.int p5), .val (.int p6), .val (.int x0), .val (.int x1), .val (.int x2), .val (.int x3), .val (.ref b16), .unset, .unset, .unset, .unset, .unset, .unset, .unset, .unset] [(.int (4 : Int32))])) rfl (hb hby at_66) rfl (by decide) (cap := 4) (by decide) (by decide) (by decide) (by decide)
  refine own_go st30 ?_
  obtain ⟨b30, g30⟩ : ∃ z, z = h28.size := ⟨_, rfl⟩
  rw [← g30] at A30
  rw [← g30]
  show own_Run p e below _ T30 (mkF m 68 #[.val (.int p1), .val (.int p2), .val (.int p3), .val (.int p4), .val (.int p5), .val (.int p6), .val (.int x0), .val (.int x1), .val (.int x2), .val (.int x3), .val (.ref b16), .unset, .unset, .unset, .unset, .unset, .unset, .unset, .unset] [(.ref b30)])
  have ne_b16_b30 : b16 ≠ b30 := Nat.ne_of_lt (Nat.lt_of_lt_of_eq V_b16_c28.lt g30.symm)
  have g_b30 : n0 ≤ b30 := Nat.le_trans Z0_c29 (Nat.le_of_eq g30.symm)
  have sz_b30 : h0.size ≤ b30 := Nat.le_trans K0_c29.1 (Nat.le_of_eq g30.symm)
  have Z0_c31 := Nat.le_trans Z0_c29 E30.1
  have K0_c31 := K0_c29.ext E30
  have V_b16_c31 := V_b16_c28.ext E30
  have V_b30 : Arv Z h30 b30 k30 .byte (4 : Int32) [(.int (0 : Int32)), (.int (0 : Int32)), (.int (0 : Int32)), (.int (0 : Int32))] (.int (0 : Int32)) := (Arv.new A30 (by decide)).pad (pad_rep [] (.int (0 : Int32)) 4)
  refine own_go (fun _ k => XS.dup X30.here hx rfl (hb hby at_68) rfl rfl k) ?_
  refine own_go (fun _ k => XS.iconst X30.here hx rfl (hb hby at_69) k) ?_
  refine own_go (fun _ k => XS.iload X30.here hx rfl (hb hby at_70) rfl k) ?_
  refine own_go (fun _ k => XS.i2b X30.here hx rfl (hb hby at_72) rfl k) ?_
  show own_Run p e below _ T30 (mkF m 73 #[.val (.int p1), .val (.int p2), .val (.int p3), .val (.int p4), .val (.int p5), .val (.int p6), .val (.int x0), .val (.int x1), .val (.int x2), .val (.int x3), .val (.ref b16), .unset, .unset, .unset, .unset, .unset, .unset, .unset, .unset] [(.int (x0.toInt8.toInt32)), (.int (0 : Int32)), (.ref b30), (.ref b30)])
  rw [hb0]
  show own_Run p e below _ T30 (mkF m 73 #[.val (.int p1), .val (.int p2), .val (.int p3), .val (.int p4), .val (.int p5), .val (.int p6), .val (.int x0), .val (.int x1), .val (.int x2), .val (.int x3), .val (.ref b16), .unset, .unset, .unset, .unset, .unset, .unset, .unset, .unset] [(.int x0), (.int (0 : Int32)), (.ref b30), (.ref b30)])
  obtain ⟨cl32, Ar32, q32, S32, N32, H32, G32⟩ := V_b30
  have hin32 : ¬ ((0 : Int32) < 0 ∨ cl32.slots.size ≤ ((0 : Int32)).toNatClampNeg) := inb_of S32 ⟨by decide, by decide⟩
  obtain ⟨T33, h33, X33, e33, W33, st33⟩ := stB X30 hx hZ e30 Ar32 (j := (0 : Int32)) hin32 (g := (mkF m 73 #[.val (.int p1), .val (.int p2), .val (.int p3), .val (.int p4), .val (.int p5), .val (.int p6), .val (.int x0), .val (.int x1), .val (.int x2), .val (.int x3), .val (.ref b16), .unset, .unset, .unset, .unset, .unset, .unset, .unset, .unset] [(.int x0), (.int (0 : Int32)), (.ref b30), (.ref b30)])) rfl rfl (hb hby at_73)
  refine own_go st33 ?_
  show own_Run p e below _ T33 (mkF m 74 #[.val (.int p1), .val (.int p2), .val (.int p3), .val (.int p4), .val (.int p5), .val (.int p6), .val (.int x0), .val (.int x1), .val (.int x2), .val (.int x3), .val (.ref b16), .unset, .unset, .unset, .unset, .unset, .unset, .unset, .unset] [(.ref b30)])
  have Z0_c34 := Nat.le_trans Z0_c31 (Keep.of_wr W33).1
  have K0_c34 := K0_c31.wr W33 (Or.inr sz_b30)
  have V_b16_c34 := V_b16_c31.other W33 ne_b16_b30
  have V_b30_c33 : Arv Z h33 b30 k30 .byte (4 : Int32) [(.int (x0.toInt8.toInt32)), (.int (0 : Int32)), (.int (0 : Int32)), (.int (0 : Int32))] (.int (0 : Int32)) := Arv.set Ar32 q32 S32 N32 H32 G32 (fits_nar_byte _) W33 0 rfl (Nat.le_of_ble_eq_true rfl)
  rw [hb0] at V_b30_c33
  have N33 := Fr.snoc X33 N28 g_b30
  refine own_go (fun _ k => XS.dup X33.here hx rfl (hb hby at_74) rfl rfl k) ?_
  refine own_go (fun _ k => XS.iconst X33.here hx rfl (hb hby at_75) k) ?_
  refine own_go (fun _ k => XS.iload X33.here hx rfl (hb hby at_76) rfl k) ?_
  refine own_go (fun _ k => XS.i2b X33.here hx rfl (hb hby at_78) rfl k) ?_
  show own_Run p e below _ T33 (mkF m 79 #[.val (.int p1), .val (.int p2), .val (.int p3), .val (.int p4), .val (.int p5), .val (.int p6), .val (.int x0), .val (.int x1), .val (.int x2), .val (.int x3), .val (.ref b16), .unset, .unset, .unset, .unset, .unset, .unset, .unset, .unset] [(.int (x1.toInt8.toInt32)), (.int (1 : Int32)), (.ref b30), (.ref b30)])
  rw [hb1]
  show own_Run p e below _ T33 (mkF m 79 #[.val (.int p1), .val (.int p2), .val (.int p3), .val (.int p4), .val (.int p5), .val (.int p6), .val (.int x0), .val (.int x1), .val (.int x2), .val (.int x3), .val (.ref b16), .unset, .unset, .unset, .unset, .unset, .unset, .unset, .unset] [(.int x1), (.int (1 : Int32)), (.ref b30), (.ref b30)])
  obtain ⟨cl35, Ar35, q35, S35, N35, H35, G35⟩ := V_b30_c33
  have hin35 : ¬ ((1 : Int32) < 0 ∨ cl35.slots.size ≤ ((1 : Int32)).toNatClampNeg) := inb_of S35 ⟨by decide, by decide⟩
  obtain ⟨T36, h36, X36, e36, W36, st36⟩ := stB X33 hx hZ e33 Ar35 (j := (1 : Int32)) hin35 (g := (mkF m 79 #[.val (.int p1), .val (.int p2), .val (.int p3), .val (.int p4), .val (.int p5), .val (.int p6), .val (.int x0), .val (.int x1), .val (.int x2), .val (.int x3), .val (.ref b16), .unset, .unset, .unset, .unset, .unset, .unset, .unset, .unset] [(.int x1), (.int (1 : Int32)), (.ref b30), (.ref b30)])) rfl rfl (hb hby at_79)
  refine own_go st36 ?_
  show own_Run p e below _ T36 (mkF m 80 #[.val (.int p1), .val (.int p2), .val (.int p3), .val (.int p4), .val (.int p5), .val (.int p6), .val (.int x0), .val (.int x1), .val (.int x2), .val (.int x3), .val (.ref b16), .unset, .unset, .unset, .unset, .unset, .unset, .unset, .unset] [(.ref b30)])
  have Z0_c37 := Nat.le_trans Z0_c34 (Keep.of_wr W36).1
  have K0_c37 := K0_c34.wr W36 (Or.inr sz_b30)
  have V_b16_c37 := V_b16_c34.other W36 ne_b16_b30
  have V_b30_c36 : Arv Z h36 b30 k30 .byte (4 : Int32) [(.int x0), (.int (x1.toInt8.toInt32)), (.int (0 : Int32)), (.int (0 : Int32))] (.int (0 : Int32)) := Arv.set Ar35 q35 S35 N35 H35 G35 (fits_nar_byte _) W36 1 rfl (Nat.le_of_ble_eq_true rfl)
  rw [hb1] at V_b30_c36
  have N36 := Fr.snoc X36 N33 g_b30
  refine own_go (fun _ k => XS.dup X36.here hx rfl (hb hby at_80) rfl rfl k) ?_
  refine own_go (fun _ k => XS.iconst X36.here hx rfl (hb hby at_81) k) ?_
  refine own_go (fun _ k => XS.iload X36.here hx rfl (hb hby at_82) rfl k) ?_
  refine own_go (fun _ k => XS.i2b X36.here hx rfl (hb hby at_84) rfl k) ?_
  show own_Run p e below _ T36 (mkF m 85 #[.val (.int p1), .val (.int p2), .val (.int p3), .val (.int p4), .val (.int p5), .val (.int p6), .val (.int x0), .val (.int x1), .val (.int x2), .val (.int x3), .val (.ref b16), .unset, .unset, .unset, .unset, .unset, .unset, .unset, .unset] [(.int (x2.toInt8.toInt32)), (.int (2 : Int32)), (.ref b30), (.ref b30)])
  rw [hb2]
  show own_Run p e below _ T36 (mkF m 85 #[.val (.int p1), .val (.int p2), .val (.int p3), .val (.int p4), .val (.int p5), .val (.int p6), .val (.int x0), .val (.int x1), .val (.int x2), .val (.int x3), .val (.ref b16), .unset, .unset, .unset, .unset, .unset, .unset, .unset, .unset] [(.int x2), (.int (2 : Int32)), (.ref b30), (.ref b30)])
  obtain ⟨cl38, Ar38, q38, S38, N38, H38, G38⟩ := V_b30_c36
  have hin38 : ¬ ((2 : Int32) < 0 ∨ cl38.slots.size ≤ ((2 : Int32)).toNatClampNeg) := inb_of S38 ⟨by decide, by decide⟩
  obtain ⟨T39, h39, X39, e39, W39, st39⟩ := stB X36 hx hZ e36 Ar38 (j := (2 : Int32)) hin38 (g := (mkF m 85 #[.val (.int p1), .val (.int p2), .val (.int p3), .val (.int p4), .val (.int p5), .val (.int p6), .val (.int x0), .val (.int x1), .val (.int x2), .val (.int x3), .val (.ref b16), .unset, .unset, .unset, .unset, .unset, .unset, .unset, .unset] [(.int x2), (.int (2 : Int32)), (.ref b30), (.ref b30)])) rfl rfl (hb hby at_85)
  refine own_go st39 ?_
  show own_Run p e below _ T39 (mkF m 86 #[.val (.int p1), .val (.int p2), .val (.int p3), .val (.int p4), .val (.int p5), .val (.int p6), .val (.int x0), .val (.int x1), .val (.int x2), .val (.int x3), .val (.ref b16), .unset, .unset, .unset, .unset, .unset, .unset, .unset, .unset] [(.ref b30)])
  have Z0_c40 := Nat.le_trans Z0_c37 (Keep.of_wr W39).1
  have K0_c40 := K0_c37.wr W39 (Or.inr sz_b30)
  have V_b16_c40 := V_b16_c37.other W39 ne_b16_b30
  have V_b30_c39 : Arv Z h39 b30 k30 .byte (4 : Int32) [(.int x0), (.int x1), (.int (x2.toInt8.toInt32)), (.int (0 : Int32))] (.int (0 : Int32)) := Arv.set Ar38 q38 S38 N38 H38 G38 (fits_nar_byte _) W39 2 rfl (Nat.le_of_ble_eq_true rfl)
  rw [hb2] at V_b30_c39
  have N39 := Fr.snoc X39 N36 g_b30
  refine own_go (fun _ k => XS.dup X39.here hx rfl (hb hby at_86) rfl rfl k) ?_
  refine own_go (fun _ k => XS.iconst X39.here hx rfl (hb hby at_87) k) ?_
  refine own_go (fun _ k => XS.iload X39.here hx rfl (hb hby at_88) rfl k) ?_
  refine own_go (fun _ k => XS.i2b X39.here hx rfl (hb hby at_90) rfl k) ?_
  show own_Run p e below _ T39 (mkF m 91 #[.val (.int p1), .val (.int p2), .val (.int p3), .val (.int p4), .val (.int p5), .val (.int p6), .val (.int x0), .val (.int x1), .val (.int x2), .val (.int x3), .val (.ref b16), .unset, .unset, .unset, .unset, .unset, .unset, .unset, .unset] [(.int (x3.toInt8.toInt32)), (.int (3 : Int32)), (.ref b30), (.ref b30)])
  rw [hb3]
  show own_Run p e below _ T39 (mkF m 91 #[.val (.int p1), .val (.int p2), .val (.int p3), .val (.int p4), .val (.int p5), .val (.int p6), .val (.int x0), .val (.int x1), .val (.int x2), .val (.int x3), .val (.ref b16), .unset, .unset, .unset, .unset, .unset, .unset, .unset, .unset] [(.int x3), (.int (3 : Int32)), (.ref b30), (.ref b30)])
  obtain ⟨cl41, Ar41, q41, S41, N41, H41, G41⟩ := V_b30_c39
  have hin41 : ¬ ((3 : Int32) < 0 ∨ cl41.slots.size ≤ ((3 : Int32)).toNatClampNeg) := inb_of S41 ⟨by decide, by decide⟩
  obtain ⟨T42, h42, X42, e42, W42, st42⟩ := stB X39 hx hZ e39 Ar41 (j := (3 : Int32)) hin41 (g := (mkF m 91 #[.val (.int p1), .val (.int p2), .val (.int p3), .val (.int p4), .val (.int p5), .val (.int p6), .val (.int x0), .val (.int x1), .val (.int x2), .val (.int x3), .val (.ref b16), .unset, .unset, .unset, .unset, .unset, .unset, .unset, .unset] [(.int x3), (.int (3 : Int32)), (.ref b30), (.ref b30)])) rfl rfl (hb hby at_91)
  refine own_go st42 ?_
  show own_Run p e below _ T42 (mkF m 92 #[.val (.int p1), .val (.int p2), .val (.int p3), .val (.int p4), .val (.int p5), .val (.int p6), .val (.int x0), .val (.int x1), .val (.int x2), .val (.int x3), .val (.ref b16), .unset, .unset, .unset, .unset, .unset, .unset, .unset, .unset] [(.ref b30)])
  have Z0_c43 := Nat.le_trans Z0_c40 (Keep.of_wr W42).1
  have K0_c43 := K0_c40.wr W42 (Or.inr sz_b30)
  have V_b16_c43 := V_b16_c40.other W42 ne_b16_b30
  have V_b30_c42 : Arv Z h42 b30 k30 .byte (4 : Int32) [(.int x0), (.int x1), (.int x2), (.int (x3.toInt8.toInt32))] (.int (0 : Int32)) := Arv.set Ar41 q41 S41 N41 H41 G41 (fits_nar_byte _) W42 3 rfl (Nat.le_of_ble_eq_true rfl)
  rw [hb3] at V_b30_c42
  have N42 := Fr.snoc X42 N39 g_b30
  refine own_go (fun _ k => XS.astore X42.here hx rfl (hb hby at_92) rfl rfl (l' := #[.val (.int p1), .val (.int p2), .val (.int p3), .val (.int p4), .val (.int p5), .val (.int p6), .val (.int x0), .val (.int x1), .val (.int x2), .val (.int x3), .val (.ref b16), .val (.ref b30), .unset, .unset, .unset, .unset, .unset, .unset, .unset]) rfl k) ?_
  refine own_go (fun _ k => XS.iload X42.here hx rfl (hb hby at_94) rfl k) ?_
  show own_Run p e below _ T42 (mkF m 96 #[.val (.int p1), .val (.int p2), .val (.int p3), .val (.int p4), .val (.int p5), .val (.int p6), .val (.int x0), .val (.int x1), .val (.int x2), .val (.int x3), .val (.ref b16), .val (.ref b30), .unset, .unset, .unset, .unset, .unset, .unset, .unset] [(.int p5)])
  refine own_go (X42.ldcInt hx hown (mvT hZ (W 0 rfl)) (g := (mkF m 96 #[.val (.int p1), .val (.int p2), .val (.int p3), .val (.int p4), .val (.int p5), .val (.int p6), .val (.int x0), .val (.int x1), .val (.int x2), .val (.int x3), .val (.ref b16), .val (.ref b30), .unset, .unset, .unset, .unset, .unset, .unset, .unset] [(.int p5)])) rfl (hb hby at_96)) ?_
  show own_Run p e below _ T42 (mkF m 98 #[.val (.int p1), .val (.int p2), .val (.int p3), .val (.int p4), .val (.int p5), .val (.int p6), .val (.int x0), .val (.int x1), .val (.int x2), .val (.int x3), .val (.ref b16), .val (.ref b30), .unset, .unset, .unset, .unset, .unset, .unset, .unset] [(.int (2147483647 : Int32)), (.int p5)])
  refine own_go (fun _ k => XS.iand X42.here hx rfl (hb hby at_98) rfl k) ?_
  refine own_go (fun _ k => XS.iconst X42.here hx rfl (hb hby at_99) k) ?_
  refine own_go (fun _ k => iremM X42 hx rfl (hb hby at_100) rfl (by decide) k) ?_
  show own_Run p e below _ T42 (mkF m 101 #[.val (.int p1), .val (.int p2), .val (.int p3), .val (.int p4), .val (.int p5), .val (.int p6), .val (.int x0), .val (.int x1), .val (.int x2), .val (.int x3), .val (.ref b16), .val (.ref b30), .unset, .unset, .unset, .unset, .unset, .unset, .unset] [(.int ((p5 &&& (2147483647 : Int32)) % (4 : Int32)))])
  obtain ⟨x4, hx4⟩ : ∃ z, z = ((p5 &&& (2147483647 : Int32)) % (4 : Int32)) := ⟨_, rfl⟩
  rw [← hx4]
  show own_Run p e below _ T42 (mkF m 101 #[.val (.int p1), .val (.int p2), .val (.int p3), .val (.int p4), .val (.int p5), .val (.int p6), .val (.int x0), .val (.int x1), .val (.int x2), .val (.int x3), .val (.ref b16), .val (.ref b30), .unset, .unset, .unset, .unset, .unset, .unset, .unset] [(.int x4)])
  refine own_go (fun _ k => XS.istore X42.here hx rfl (hb hby at_101) rfl (l' := #[.val (.int p1), .val (.int p2), .val (.int p3), .val (.int p4), .val (.int p5), .val (.int p6), .val (.int x0), .val (.int x1), .val (.int x2), .val (.int x3), .val (.ref b16), .val (.ref b30), .val (.int x4), .unset, .unset, .unset, .unset, .unset, .unset]) rfl k) ?_
  refine own_go (fun _ k => XS.iconst X42.here hx rfl (hb hby at_103) k) ?_
  refine own_go (fun _ k => XS.iload X42.here hx rfl (hb hby at_104) rfl k) ?_
  refine own_go (fun _ k => XS.iconst X42.here hx rfl (hb hby at_106) k) ?_
  show own_Run p e below _ T42 (mkF m 107 #[.val (.int p1), .val (.int p2), .val (.int p3), .val (.int p4), .val (.int p5), .val (.int p6), .val (.int x0), .val (.int x1), .val (.int x2), .val (.int x3), .val (.ref b16), .val (.ref b30), .val (.int x4), .unset, .unset, .unset, .unset, .unset, .unset] [(.int (2 : Int32)), (.int p5), (.int (1 : Int32))])
  refine own_go (fun _ k => XS.iushr X42.here hx rfl (hb hby at_107) rfl k) ?_
  refine own_go (fun _ k => XS.iconst X42.here hx rfl (hb hby at_108) k) ?_
  refine own_go (fun _ k => XS.iload X42.here hx rfl (hb hby at_109) rfl k) ?_
  refine own_go (fun _ k => XS.isub X42.here hx rfl (hb hby at_111) rfl k) ?_
  show own_Run p e below _ T42 (mkF m 112 #[.val (.int p1), .val (.int p2), .val (.int p3), .val (.int p4), .val (.int p5), .val (.int p6), .val (.int x0), .val (.int x1), .val (.int x2), .val (.int x3), .val (.ref b16), .val (.ref b30), .val (.int x4), .unset, .unset, .unset, .unset, .unset, .unset] [(.int ((4 : Int32) - x4)), (.int ((p5.toUInt32 >>> ((2 : Int32) &&& 31).toUInt32).toInt32)), (.int (1 : Int32))])
  refine own_go (fun _ k => iremM X42 hx rfl (hb hby at_112) rfl (own_nz1 p5 x4 hx4) k) ?_
  refine own_go (fun _ k => XS.iadd X42.here hx rfl (hb hby at_113) rfl k) ?_
  show own_Run p e below _ T42 (mkF m 114 #[.val (.int p1), .val (.int p2), .val (.int p3), .val (.int p4), .val (.int p5), .val (.int p6), .val (.int x0), .val (.int x1), .val (.int x2), .val (.int x3), .val (.ref b16), .val (.ref b30), .val (.int x4), .unset, .unset, .unset, .unset, .unset, .unset] [(.int ((1 : Int32) + (((p5.toUInt32 >>> ((2 : Int32) &&& 31).toUInt32).toInt32) % ((4 : Int32) - x4))))])
  obtain ⟨x5, hx5⟩ : ∃ z, z = ((1 : Int32) + (((p5.toUInt32 >>> ((2 : Int32) &&& 31).toUInt32).toInt32) % ((4 : Int32) - x4))) := ⟨_, rfl⟩
  rw [← hx5]
  show own_Run p e below _ T42 (mkF m 114 #[.val (.int p1), .val (.int p2), .val (.int p3), .val (.int p4), .val (.int p5), .val (.int p6), .val (.int x0), .val (.int x1), .val (.int x2), .val (.int x3), .val (.ref b16), .val (.ref b30), .val (.int x4), .unset, .unset, .unset, .unset, .unset, .unset] [(.int x5)])
  refine own_go (fun _ k => XS.istore X42.here hx rfl (hb hby at_114) rfl (l' := #[.val (.int p1), .val (.int p2), .val (.int p3), .val (.int p4), .val (.int p5), .val (.int p6), .val (.int x0), .val (.int x1), .val (.int x2), .val (.int x3), .val (.ref b16), .val (.ref b30), .val (.int x4), .val (.int x5), .unset, .unset, .unset, .unset, .unset]) rfl k) ?_
  refine own_go (fun _ k => XS.iload X42.here hx rfl (hb hby at_116) rfl k) ?_
  refine own_go (fun _ k => XS.iload X42.here hx rfl (hb hby at_118) rfl k) ?_
  refine own_go (fun _ k => XS.iadd X42.here hx rfl (hb hby at_120) rfl k) ?_
  show own_Run p e below _ T42 (mkF m 121 #[.val (.int p1), .val (.int p2), .val (.int p3), .val (.int p4), .val (.int p5), .val (.int p6), .val (.int x0), .val (.int x1), .val (.int x2), .val (.int x3), .val (.ref b16), .val (.ref b30), .val (.int x4), .val (.int x5), .unset, .unset, .unset, .unset, .unset] [(.int (x4 + x5))])
  refine own_go (fun _ k => XS.istore X42.here hx rfl (hb hby at_121) rfl (l' := #[.val (.int p1), .val (.int p2), .val (.int p3), .val (.int p4), .val (.int p5), .val (.int p6), .val (.int x0), .val (.int x1), .val (.int x2), .val (.int x3), .val (.ref b16), .val (.ref b30), .val (.int x4), .val (.int x5), .val (.int (x4 + x5)), .unset, .unset, .unset, .unset]) rfl k) ?_
  refine own_go (fun _ k => XS.iload X42.here hx rfl (hb hby at_123) rfl k) ?_
  show own_Run p e below _ T42 (mkF m 125 #[.val (.int p1), .val (.int p2), .val (.int p3), .val (.int p4), .val (.int p5), .val (.int p6), .val (.int x0), .val (.int x1), .val (.int x2), .val (.int x3), .val (.ref b16), .val (.ref b30), .val (.int x4), .val (.int x5), .val (.int (x4 + x5)), .unset, .unset, .unset, .unset] [(.int p6)])
  refine own_go (X42.ldcInt hx hown (mvT hZ (W 0 rfl)) (g := (mkF m 125 #[.val (.int p1), .val (.int p2), .val (.int p3), .val (.int p4), .val (.int p5), .val (.int p6), .val (.int x0), .val (.int x1), .val (.int x2), .val (.int x3), .val (.ref b16), .val (.ref b30), .val (.int x4), .val (.int x5), .val (.int (x4 + x5)), .unset, .unset, .unset, .unset] [(.int p6)])) rfl (hb hby at_125)) ?_
  show own_Run p e below _ T42 (mkF m 127 #[.val (.int p1), .val (.int p2), .val (.int p3), .val (.int p4), .val (.int p5), .val (.int p6), .val (.int x0), .val (.int x1), .val (.int x2), .val (.int x3), .val (.ref b16), .val (.ref b30), .val (.int x4), .val (.int x5), .val (.int (x4 + x5)), .unset, .unset, .unset, .unset] [(.int (2147483647 : Int32)), (.int p6)])
  refine own_go (fun _ k => XS.iand X42.here hx rfl (hb hby at_127) rfl k) ?_
  refine own_go (fun _ k => XS.iload X42.here hx rfl (hb hby at_128) rfl k) ?_
  refine own_go (fun _ k => iremM X42 hx rfl (hb hby at_130) rfl (own_nz2 p5 x4 x5 hx4 hx5) k) ?_
  show own_Run p e below _ T42 (mkF m 131 #[.val (.int p1), .val (.int p2), .val (.int p3), .val (.int p4), .val (.int p5), .val (.int p6), .val (.int x0), .val (.int x1), .val (.int x2), .val (.int x3), .val (.ref b16), .val (.ref b30), .val (.int x4), .val (.int x5), .val (.int (x4 + x5)), .unset, .unset, .unset, .unset] [(.int ((p6 &&& (2147483647 : Int32)) % x5))])
  obtain ⟨x6, hx6⟩ : ∃ z, z = ((p6 &&& (2147483647 : Int32)) % x5) := ⟨_, rfl⟩
  rw [← hx6]
  show own_Run p e below _ T42 (mkF m 131 #[.val (.int p1), .val (.int p2), .val (.int p3), .val (.int p4), .val (.int p5), .val (.int p6), .val (.int x0), .val (.int x1), .val (.int x2), .val (.int x3), .val (.ref b16), .val (.ref b30), .val (.int x4), .val (.int x5), .val (.int (x4 + x5)), .unset, .unset, .unset, .unset] [(.int x6)])
  refine own_go (fun _ k => XS.istore X42.here hx rfl (hb hby at_131) rfl (l' := #[.val (.int p1), .val (.int p2), .val (.int p3), .val (.int p4), .val (.int p5), .val (.int p6), .val (.int x0), .val (.int x1), .val (.int x2), .val (.int x3), .val (.ref b16), .val (.ref b30), .val (.int x4), .val (.int x5), .val (.int (x4 + x5)), .val (.int x6), .unset, .unset, .unset]) rfl k) ?_
  show own_Run p e below _ T42 (mkF m 133 #[.val (.int p1), .val (.int p2), .val (.int p3), .val (.int p4), .val (.int p5), .val (.int p6), .val (.int x0), .val (.int x1), .val (.int x2), .val (.int x3), .val (.ref b16), .val (.ref b30), .val (.int x4), .val (.int x5), .val (.int (x4 + x5)), .val (.int x6), .unset, .unset, .unset] [])
  obtain ⟨T44, h44, X44, e44, E44, A44, D44, -, st44⟩ := newO X42 hx hZ hown (W 7 rfl) (W 8 rfl) (W 9 rfl) e42 (g := (mkF m 133 #[.val (.int p1), .val (.int p2), .val (.int p3), .val (.int p4), .val (.int p5), .val (.int p6), .val (.int x0), .val (.int x1), .val (.int x2), .val (.int x3), .val (.ref b16), .val (.ref b30), .val (.int x4), .val (.int x5), .val (.int (x4 + x5)), .val (.int x6), .unset, .unset, .unset] [])) rfl (hb hby at_133) (by decide) (by decide)
  refine own_go st44 ?_
  obtain ⟨b44, g44⟩ : ∃ z, z = h42.size := ⟨_, rfl⟩
  rw [← g44] at A44 D44
  rw [← g44]
  show own_Run p e below _ T44 (mkF m 136 #[.val (.int p1), .val (.int p2), .val (.int p3), .val (.int p4), .val (.int p5), .val (.int p6), .val (.int x0), .val (.int x1), .val (.int x2), .val (.int x3), .val (.ref b16), .val (.ref b30), .val (.int x4), .val (.int x5), .val (.int (x4 + x5)), .val (.int x6), .unset, .unset, .unset] [(.ref b44)])
  have ne_b16_b44 : b16 ≠ b44 := Nat.ne_of_lt (Nat.lt_of_lt_of_eq V_b16_c43.lt g44.symm)
  have ne_b30_b44 : b30 ≠ b44 := Nat.ne_of_lt (Nat.lt_of_lt_of_eq V_b30_c42.lt g44.symm)
  have g_b44 : n0 ≤ b44 := Nat.le_trans Z0_c43 (Nat.le_of_eq g44.symm)
  have sz_b44 : h0.size ≤ b44 := Nat.le_trans K0_c43.1 (Nat.le_of_eq g44.symm)
  have Z0_c45 := Nat.le_trans Z0_c43 E44.1
  have K0_c45 := K0_c43.ext E44
  have V_b16_c45 := V_b16_c43.ext E44
  have V_b30_c45 := V_b30_c42.ext E44
  have F_moments_b44 : Fld Z h44 b44 "com/example/network_analytics_service/networkanalyticsservice/core/sliceload/Levels" "moments" "[J" .null := D44 (Or.inr (W 17 rfl)) (ty := (.array .long)) (by decide)
  have F_levels_b44 : Fld Z h44 b44 "com/example/network_analytics_service/networkanalyticsservice/core/sliceload/Levels" "levels" "[B" .null := D44 (Or.inr (W 19 rfl)) (ty := (.array .byte)) (by decide)
  have F_first_b44 : Fld Z h44 b44 "com/example/network_analytics_service/networkanalyticsservice/core/sliceload/Levels" "first" "I" (.int (0 : Int32)) := D44 (Or.inr (W 21 rfl)) (ty := .int) (by decide)
  have F_end_b44 : Fld Z h44 b44 "com/example/network_analytics_service/networkanalyticsservice/core/sliceload/Levels" "end" "I" (.int (0 : Int32)) := D44 (Or.inr (W 23 rfl)) (ty := .int) (by decide)
  refine own_go (fun _ k => XS.dup X44.here hx rfl (hb hby at_136) rfl rfl k) ?_
  refine own_go (fun _ k => XS.aload X44.here hx rfl (hb hby at_137) rfl rfl k) ?_
  refine own_go (fun _ k => XS.aload X44.here hx rfl (hb hby at_139) rfl rfl k) ?_
  refine own_go (fun _ k => XS.iload X44.here hx rfl (hb hby at_141) rfl k) ?_
  show own_Run p e below _ T44 (mkF m 143 #[.val (.int p1), .val (.int p2), .val (.int p3), .val (.int p4), .val (.int p5), .val (.int p6), .val (.int x0), .val (.int x1), .val (.int x2), .val (.int x3), .val (.ref b16), .val (.ref b30), .val (.int x4), .val (.int x5), .val (.int (x4 + x5)), .val (.int x6), .unset, .unset, .unset] [(.int x4), (.ref b30), (.ref b16), (.ref b44), (.ref b44)])
  refine own_go (fun _ k => XS.iload X44.here hx rfl (hb hby at_143) rfl k) ?_
  show own_Run p e below _ T44 (mkF m 145 #[.val (.int p1), .val (.int p2), .val (.int p3), .val (.int p4), .val (.int p5), .val (.int p6), .val (.int x0), .val (.int x1), .val (.int x2), .val (.int x3), .val (.ref b16), .val (.ref b30), .val (.int x4), .val (.int x5), .val (.int (x4 + x5)), .val (.int x6), .unset, .unset, .unset] [(.int (x4 + x5)), (.int x4), (.ref b30), (.ref b16), (.ref b44), (.ref b44)])
  obtain ⟨_, _, ⟨T46, L46, k46, n46⟩, -, X46, ⟨Lc46, hQ46, l46, y46, z46⟩, st46⟩ := X44.specialBack hx (y := (⟨"com/example/network_analytics_service/networkanalyticsservice/core/sliceload/Levels", "<init>", "([J[BII)V"⟩ : MethodName)) rfl hown (mvT hZ (W 10 rfl)) (mvT hZ (W 11 rfl)) (mvT hZ (W 12 rfl)) (by decide) (backOf (W := 1) (rm1 l Z a0 hw [] b44 b16 b30 x4 (x4 + x5) .null .null (.int (0 : Int32)) (.int (0 : Int32)) h44 n0 Z0_c45 A44 F_moments_b44 F_levels_b44 F_first_b44 F_end_b44 g_b44) hZ (W 12 rfl) (W 9 rfl) (by decide) (by decide)) (g := (mkF m 145 #[.val (.int p1), .val (.int p2), .val (.int p3), .val (.int p4), .val (.int p5), .val (.int p6), .val (.int x0), .val (.int x1), .val (.int x2), .val (.int x3), .val (.ref b16), .val (.ref b30), .val (.int x4), .val (.int x5), .val (.int (x4 + x5)), .val (.int x6), .unset, .unset, .unset] [(.int (x4 + x5)), (.int x4), (.ref b30), (.ref b16), (.ref b44), (.ref b44)])) rfl (by rw [hml]; rfl) (Steps.refl _) (a := b44) (argsL := [(.ref b16), (.ref b30), (.int x4), (.int (x4 + x5))]) (rest := [(.ref b44)]) (lenOf pd_1 rfl) rfl (by show 2 * 0 + _ ≤ _; exact Nat.le_of_eq rfl) (hb hby at_145) (fun _ _ => ⟨rfl, e44, (by decide : 3 + 0 ≤ _), (by decide : 12 + 0 ≤ _)⟩)
  dsimp only [Pt.U, Pt.locs, Pt.cells, Pt.slots] at X46 l46 y46 z46 st46 hQ46
  subst l46 y46 z46
  obtain ⟨rfl, N46q, K46, P46_0, P46_1, P46_2⟩ := hQ46
  have N46 := Fr.app N42 N46q
  refine own_goT st46 ?_
  show own_Run p e below _ T46 (mkF m 148 #[.val (.int p1), .val (.int p2), .val (.int p3), .val (.int p4), .val (.int p5), .val (.int p6), .val (.int x0), .val (.int x1), .val (.int x2), .val (.int x3), .val (.ref b16), .val (.ref b30), .val (.int x4), .val (.int x5), .val (.int (x4 + x5)), .val (.int x6), .unset, .unset, .unset] [(.ref b44)])
  have Z0_c47 := Nat.le_trans Z0_c45 K46.1
  have K0_c47 := K0_c45.trans K46 (allS (Or.inr sz_b44) all0)
  have V_b16_c47 := V_b16_c45.keep K46 (ninS ne_b16_b44 nin0)
  have V_b30_c47 := V_b30_c45.keep K46 (ninS ne_b30_b44 nin0)
  have A44_c47 := A44.keep K46
  refine own_go (fun _ k => XS.astore X46.here hx rfl (hb hby at_148) rfl rfl (l' := #[.val (.int p1), .val (.int p2), .val (.int p3), .val (.int p4), .val (.int p5), .val (.int p6), .val (.int x0), .val (.int x1), .val (.int x2), .val (.int x3), .val (.ref b16), .val (.ref b30), .val (.int x4), .val (.int x5), .val (.int (x4 + x5)), .val (.int x6), .val (.ref b44), .unset, .unset]) rfl k) ?_
  refine own_go (fun _ k => XS.iload X46.here hx rfl (hb hby at_150) rfl k) ?_
  refine own_go (fun _ k => XS.iload X46.here hx rfl (hb hby at_152) rfl k) ?_
  refine own_go (fun _ k => XS.iadd X46.here hx rfl (hb hby at_154) rfl k) ?_
  show own_Run p e below _ T46 (mkF m 155 #[.val (.int p1), .val (.int p2), .val (.int p3), .val (.int p4), .val (.int p5), .val (.int p6), .val (.int x0), .val (.int x1), .val (.int x2), .val (.int x3), .val (.ref b16), .val (.ref b30), .val (.int x4), .val (.int x5), .val (.int (x4 + x5)), .val (.int x6), .val (.ref b44), .unset, .unset] [(.int (x4 + x6))])
  have hpos := own_pos p5 p6 x4 x5 x6 hx4 hx5 hx6
  rcases hpos with hj | hj | hj | hj
  · rw [hj]
    show own_Run p e below _ T46 (mkF m 155 #[.val (.int p1), .val (.int p2), .val (.int p3), .val (.int p4), .val (.int p5), .val (.int p6), .val (.int x0), .val (.int x1), .val (.int x2), .val (.int x3), .val (.ref b16), .val (.ref b30), .val (.int x4), .val (.int x5), .val (.int (x4 + x5)), .val (.int x6), .val (.ref b44), .unset, .unset] [(.int (0 : Int32))])
    refine own_go (fun _ k => XS.istore X46.here hx rfl (hb hby at_155) rfl (l' := #[.val (.int p1), .val (.int p2), .val (.int p3), .val (.int p4), .val (.int p5), .val (.int p6), .val (.int x0), .val (.int x1), .val (.int x2), .val (.int x3), .val (.ref b16), .val (.ref b30), .val (.int x4), .val (.int x5), .val (.int (x4 + x5)), .val (.int x6), .val (.ref b44), .val (.int (0 : Int32)), .unset]) rfl k) ?_
    refine own_go (fun _ k => XS.iload X46.here hx rfl (hb hby at_157) rfl k) ?_
    show own_Run p e below _ T46 (mkF m 159 #[.val (.int p1), .val (.int p2), .val (.int p3), .val (.int p4), .val (.int p5), .val (.int p6), .val (.int x0), .val (.int x1), .val (.int x2), .val (.int x3), .val (.ref b16), .val (.ref b30), .val (.int x4), .val (.int x5), .val (.int (x4 + x5)), .val (.int x6), .val (.ref b44), .val (.int (0 : Int32)), .unset] [(.int (0 : Int32))])
    refine own_go (fun _ k => XS.ifNo X46.here hx rfl (hb hby at_159) rfl ((if0 _ _).trans (teq (by decide : (0 : Int32) = (0 : Int32))).2) k) ?_
    show own_Run p e below _ T46 (mkF m 162 #[.val (.int p1), .val (.int p2), .val (.int p3), .val (.int p4), .val (.int p5), .val (.int p6), .val (.int x0), .val (.int x1), .val (.int x2), .val (.int x3), .val (.ref b16), .val (.ref b30), .val (.int x4), .val (.int x5), .val (.int (x4 + x5)), .val (.int x6), .val (.ref b44), .val (.int (0 : Int32)), .unset] [])
    refine own_go (fun _ k => XS.iload X46.here hx rfl (hb hby at_162) rfl k) ?_
    refine own_go (fun _ k => XS.istore X46.here hx rfl (hb hby at_164) rfl (l' := #[.val (.int p1), .val (.int p2), .val (.int p3), .val (.int p4), .val (.int p5), .val (.int p6), .val (.int x0), .val (.int x1), .val (.int x2), .val (.int x3), .val (.ref b16), .val (.ref b30), .val (.int x4), .val (.int x5), .val (.int (x4 + x5)), .val (.int x6), .val (.ref b44), .val (.int (0 : Int32)), .val (.int x0)]) rfl k) ?_
    refine own_go (fun _ k => XS.goto X46.here hx rfl (pc0 := 166) (pc' := 199) rfl (hb hby at_166) (by decide) (by decide) k) ?_
    refine own_go (fun _ k => XS.aload X46.here hx rfl (hb hby at_199) rfl rfl k) ?_
    show own_Run p e below _ T46 (mkF m 201 #[.val (.int p1), .val (.int p2), .val (.int p3), .val (.int p4), .val (.int p5), .val (.int p6), .val (.int x0), .val (.int x1), .val (.int x2), .val (.int x3), .val (.ref b16), .val (.ref b30), .val (.int x4), .val (.int x5), .val (.int (x4 + x5)), .val (.int x6), .val (.ref b44), .val (.int (0 : Int32)), .val (.int x0)] [(.ref b44)])
    refine own_go (fun _ k => XS.iload X46.here hx rfl (hb hby at_201) rfl k) ?_
    show own_Run p e below _ T46 (mkF m 203 #[.val (.int p1), .val (.int p2), .val (.int p3), .val (.int p4), .val (.int p5), .val (.int p6), .val (.int x0), .val (.int x1), .val (.int x2), .val (.int x3), .val (.ref b16), .val (.ref b30), .val (.int x4), .val (.int x5), .val (.int (x4 + x5)), .val (.int x6), .val (.ref b44), .val (.int (0 : Int32)), .val (.int x0)] [(.int x6), (.ref b44)])
    obtain ⟨cq48, kq48, q48a, q48b, q48c⟩ := isOf hZ rfl P46_0
    obtain ⟨_, _, ⟨T48, L48, k48, n48⟩, -, X48, ⟨Lc48, hQ48, l48, y48, z48⟩, st48⟩ := X46.virtualBack hx (y := (⟨"com/example/network_analytics_service/networkanalyticsservice/core/sliceload/Levels", "level", "(I)I"⟩ : MethodName)) (z := (⟨"com/example/network_analytics_service/networkanalyticsservice/core/sliceload/Levels", "level", "(I)I"⟩ : MethodName)) hown (mvT hZ (W 24 rfl)) (mvT hZ (W 25 rfl)) (notFace_of_selects (args := #[]) (mvT hZ (W 27 rfl))) (mvT hZ (W 27 rfl)) (mvT hZ (W 26 rfl)) (by decide) (backOf (W := 0) (rm3 l Z a0 hw [] b44 x6 b30 x4 k30 x0 x1 x2 x3 x0 T46.heap n0 Z0_c47 P46_1 P46_2 V_b30_c47 (Or.inl ⟨hj, rfl⟩)) hZ (W 28 rfl) (W 9 rfl) (by decide) (by decide)) q48a q48c (g := (mkF m 203 #[.val (.int p1), .val (.int p2), .val (.int p3), .val (.int p4), .val (.int p5), .val (.int p6), .val (.int x0), .val (.int x1), .val (.int x2), .val (.int x3), .val (.ref b16), .val (.ref b30), .val (.int x4), .val (.int x5), .val (.int (x4 + x5)), .val (.int x6), .val (.ref b44), .val (.int (0 : Int32)), .val (.int x0)] [(.int x6), (.ref b44)])) rfl (by rw [hml]; rfl) (Steps.refl _) (argsL := [(.int x6)]) (rest := []) (lenOf pd_2 rfl) rfl (by show 2 * 0 + _ ≤ _; exact Nat.le_of_eq rfl) (hb hby at_203) (fun _ _ => ⟨rfl, rfl, (by decide : 3 + 0 ≤ _), (by decide : 12 + 0 ≤ _)⟩)
    dsimp only [Pt.U, Pt.locs, Pt.cells, Pt.slots] at X48 l48 y48 z48 st48 hQ48
    subst l48 y48 z48
    obtain ⟨rfl, N48q, e48⟩ := hQ48
    have N48 := Fr.app N46 N48q
    refine own_goT st48 ?_
    show own_Run p e below _ T48 (mkF m 206 #[.val (.int p1), .val (.int p2), .val (.int p3), .val (.int p4), .val (.int p5), .val (.int p6), .val (.int x0), .val (.int x1), .val (.int x2), .val (.int x3), .val (.ref b16), .val (.ref b30), .val (.int x4), .val (.int x5), .val (.int (x4 + x5)), .val (.int x6), .val (.ref b44), .val (.int (0 : Int32)), .val (.int x0)] [(.int x0)])
    refine own_go (fun _ k => XS.iload X48.here hx rfl (hb hby at_206) rfl k) ?_
    show own_Run p e below _ T48 (mkF m 208 #[.val (.int p1), .val (.int p2), .val (.int p3), .val (.int p4), .val (.int p5), .val (.int p6), .val (.int x0), .val (.int x1), .val (.int x2), .val (.int x3), .val (.ref b16), .val (.ref b30), .val (.int x4), .val (.int x5), .val (.int (x4 + x5)), .val (.int x6), .val (.ref b44), .val (.int (0 : Int32)), .val (.int x0)] [(.int x0), (.int x0)])
    refine own_go (fun _ k => XS.icmpNo X48.here hx rfl (hb hby at_208) rfl (teq rfl).2 k) ?_
    show own_Run p e below _ T48 (mkF m 211 #[.val (.int p1), .val (.int p2), .val (.int p3), .val (.int p4), .val (.int p5), .val (.int p6), .val (.int x0), .val (.int x1), .val (.int x2), .val (.int x3), .val (.ref b16), .val (.ref b30), .val (.int x4), .val (.int x5), .val (.int (x4 + x5)), .val (.int x6), .val (.ref b44), .val (.int (0 : Int32)), .val (.int x0)] [])
    refine own_go (fun _ k => XS.iconst X48.here hx rfl (hb hby at_211) k) ?_
    refine own_go (fun _ k => XS.goto X48.here hx rfl (pc0 := 212) (pc' := 216) rfl (hb hby at_212) (by decide) (by decide) k) ?_
    show own_Run p e below _ T48 (mkF m 216 #[.val (.int p1), .val (.int p2), .val (.int p3), .val (.int p4), .val (.int p5), .val (.int p6), .val (.int x0), .val (.int x1), .val (.int x2), .val (.int x3), .val (.ref b16), .val (.ref b30), .val (.int x4), .val (.int x5), .val (.int (x4 + x5)), .val (.int x6), .val (.ref b44), .val (.int (0 : Int32)), .val (.int x0)] [(.int (1 : Int32))])
    refine own_done (Q := fun v h L => Q0 Z p1 p2 p3 p4 p5 p6 h0 n0 v h L) (v := (some (.int (1 : Int32)))) X48 (fun h => by rw [hret] at h; cases h) hlk (fun fs hr => retN X48 hx (t := .boolean) hret (by simp) (hb hby at_216) hr) ?_ (by decide) (by decide)
    show Q0 Z p1 p2 p3 p4 p5 p6 h0 n0 _ T48.heap _
    rw [e48]
    exact ⟨rfl, N48⟩
  · rw [hj]
    show own_Run p e below _ T46 (mkF m 155 #[.val (.int p1), .val (.int p2), .val (.int p3), .val (.int p4), .val (.int p5), .val (.int p6), .val (.int x0), .val (.int x1), .val (.int x2), .val (.int x3), .val (.ref b16), .val (.ref b30), .val (.int x4), .val (.int x5), .val (.int (x4 + x5)), .val (.int x6), .val (.ref b44), .unset, .unset] [(.int (1 : Int32))])
    refine own_go (fun _ k => XS.istore X46.here hx rfl (hb hby at_155) rfl (l' := #[.val (.int p1), .val (.int p2), .val (.int p3), .val (.int p4), .val (.int p5), .val (.int p6), .val (.int x0), .val (.int x1), .val (.int x2), .val (.int x3), .val (.ref b16), .val (.ref b30), .val (.int x4), .val (.int x5), .val (.int (x4 + x5)), .val (.int x6), .val (.ref b44), .val (.int (1 : Int32)), .unset]) rfl k) ?_
    refine own_go (fun _ k => XS.iload X46.here hx rfl (hb hby at_157) rfl k) ?_
    show own_Run p e below _ T46 (mkF m 159 #[.val (.int p1), .val (.int p2), .val (.int p3), .val (.int p4), .val (.int p5), .val (.int p6), .val (.int x0), .val (.int x1), .val (.int x2), .val (.int x3), .val (.ref b16), .val (.ref b30), .val (.int x4), .val (.int x5), .val (.int (x4 + x5)), .val (.int x6), .val (.ref b44), .val (.int (1 : Int32)), .unset] [(.int (1 : Int32))])
    refine own_go (fun _ k => XS.ifYes X46.here hx rfl (pc0 := 159) (pc' := 169) rfl (hb hby at_159) rfl ((if0 _ _).trans (feq (by decide : ¬ ((1 : Int32) = (0 : Int32)))).2) (by decide) (by decide) k) ?_
    show own_Run p e below _ T46 (mkF m 169 #[.val (.int p1), .val (.int p2), .val (.int p3), .val (.int p4), .val (.int p5), .val (.int p6), .val (.int x0), .val (.int x1), .val (.int x2), .val (.int x3), .val (.ref b16), .val (.ref b30), .val (.int x4), .val (.int x5), .val (.int (x4 + x5)), .val (.int x6), .val (.ref b44), .val (.int (1 : Int32)), .unset] [])
    refine own_go (fun _ k => XS.iload X46.here hx rfl (hb hby at_169) rfl k) ?_
    refine own_go (fun _ k => XS.iconst X46.here hx rfl (hb hby at_171) k) ?_
    show own_Run p e below _ T46 (mkF m 172 #[.val (.int p1), .val (.int p2), .val (.int p3), .val (.int p4), .val (.int p5), .val (.int p6), .val (.int x0), .val (.int x1), .val (.int x2), .val (.int x3), .val (.ref b16), .val (.ref b30), .val (.int x4), .val (.int x5), .val (.int (x4 + x5)), .val (.int x6), .val (.ref b44), .val (.int (1 : Int32)), .unset] [(.int (1 : Int32)), (.int (1 : Int32))])
    refine own_go (fun _ k => XS.icmpNo X46.here hx rfl (hb hby at_172) rfl (teq (by decide : (1 : Int32) = (1 : Int32))).2 k) ?_
    show own_Run p e below _ T46 (mkF m 175 #[.val (.int p1), .val (.int p2), .val (.int p3), .val (.int p4), .val (.int p5), .val (.int p6), .val (.int x0), .val (.int x1), .val (.int x2), .val (.int x3), .val (.ref b16), .val (.ref b30), .val (.int x4), .val (.int x5), .val (.int (x4 + x5)), .val (.int x6), .val (.ref b44), .val (.int (1 : Int32)), .unset] [])
    refine own_go (fun _ k => XS.iload X46.here hx rfl (hb hby at_175) rfl k) ?_
    refine own_go (fun _ k => XS.istore X46.here hx rfl (hb hby at_177) rfl (l' := #[.val (.int p1), .val (.int p2), .val (.int p3), .val (.int p4), .val (.int p5), .val (.int p6), .val (.int x0), .val (.int x1), .val (.int x2), .val (.int x3), .val (.ref b16), .val (.ref b30), .val (.int x4), .val (.int x5), .val (.int (x4 + x5)), .val (.int x6), .val (.ref b44), .val (.int (1 : Int32)), .val (.int x1)]) rfl k) ?_
    refine own_go (fun _ k => XS.goto X46.here hx rfl (pc0 := 179) (pc' := 199) rfl (hb hby at_179) (by decide) (by decide) k) ?_
    refine own_go (fun _ k => XS.aload X46.here hx rfl (hb hby at_199) rfl rfl k) ?_
    show own_Run p e below _ T46 (mkF m 201 #[.val (.int p1), .val (.int p2), .val (.int p3), .val (.int p4), .val (.int p5), .val (.int p6), .val (.int x0), .val (.int x1), .val (.int x2), .val (.int x3), .val (.ref b16), .val (.ref b30), .val (.int x4), .val (.int x5), .val (.int (x4 + x5)), .val (.int x6), .val (.ref b44), .val (.int (1 : Int32)), .val (.int x1)] [(.ref b44)])
    refine own_go (fun _ k => XS.iload X46.here hx rfl (hb hby at_201) rfl k) ?_
    show own_Run p e below _ T46 (mkF m 203 #[.val (.int p1), .val (.int p2), .val (.int p3), .val (.int p4), .val (.int p5), .val (.int p6), .val (.int x0), .val (.int x1), .val (.int x2), .val (.int x3), .val (.ref b16), .val (.ref b30), .val (.int x4), .val (.int x5), .val (.int (x4 + x5)), .val (.int x6), .val (.ref b44), .val (.int (1 : Int32)), .val (.int x1)] [(.int x6), (.ref b44)])
    obtain ⟨cq49, kq49, q49a, q49b, q49c⟩ := isOf hZ rfl P46_0
    obtain ⟨_, _, ⟨T49, L49, k49, n49⟩, -, X49, ⟨Lc49, hQ49, l49, y49, z49⟩, st49⟩ := X46.virtualBack hx (y := (⟨"com/example/network_analytics_service/networkanalyticsservice/core/sliceload/Levels", "level", "(I)I"⟩ : MethodName)) (z := (⟨"com/example/network_analytics_service/networkanalyticsservice/core/sliceload/Levels", "level", "(I)I"⟩ : MethodName)) hown (mvT hZ (W 24 rfl)) (mvT hZ (W 25 rfl)) (notFace_of_selects (args := #[]) (mvT hZ (W 27 rfl))) (mvT hZ (W 27 rfl)) (mvT hZ (W 26 rfl)) (by decide) (backOf (W := 0) (rm3 l Z a0 hw [] b44 x6 b30 x4 k30 x0 x1 x2 x3 x1 T46.heap n0 Z0_c47 P46_1 P46_2 V_b30_c47 (Or.inr (Or.inl ⟨hj, rfl⟩))) hZ (W 28 rfl) (W 9 rfl) (by decide) (by decide)) q49a q49c (g := (mkF m 203 #[.val (.int p1), .val (.int p2), .val (.int p3), .val (.int p4), .val (.int p5), .val (.int p6), .val (.int x0), .val (.int x1), .val (.int x2), .val (.int x3), .val (.ref b16), .val (.ref b30), .val (.int x4), .val (.int x5), .val (.int (x4 + x5)), .val (.int x6), .val (.ref b44), .val (.int (1 : Int32)), .val (.int x1)] [(.int x6), (.ref b44)])) rfl (by rw [hml]; rfl) (Steps.refl _) (argsL := [(.int x6)]) (rest := []) (lenOf pd_2 rfl) rfl (by show 2 * 0 + _ ≤ _; exact Nat.le_of_eq rfl) (hb hby at_203) (fun _ _ => ⟨rfl, rfl, (by decide : 3 + 0 ≤ _), (by decide : 12 + 0 ≤ _)⟩)
    dsimp only [Pt.U, Pt.locs, Pt.cells, Pt.slots] at X49 l49 y49 z49 st49 hQ49
    subst l49 y49 z49
    obtain ⟨rfl, N49q, e49⟩ := hQ49
    have N49 := Fr.app N46 N49q
    refine own_goT st49 ?_
    show own_Run p e below _ T49 (mkF m 206 #[.val (.int p1), .val (.int p2), .val (.int p3), .val (.int p4), .val (.int p5), .val (.int p6), .val (.int x0), .val (.int x1), .val (.int x2), .val (.int x3), .val (.ref b16), .val (.ref b30), .val (.int x4), .val (.int x5), .val (.int (x4 + x5)), .val (.int x6), .val (.ref b44), .val (.int (1 : Int32)), .val (.int x1)] [(.int x1)])
    refine own_go (fun _ k => XS.iload X49.here hx rfl (hb hby at_206) rfl k) ?_
    show own_Run p e below _ T49 (mkF m 208 #[.val (.int p1), .val (.int p2), .val (.int p3), .val (.int p4), .val (.int p5), .val (.int p6), .val (.int x0), .val (.int x1), .val (.int x2), .val (.int x3), .val (.ref b16), .val (.ref b30), .val (.int x4), .val (.int x5), .val (.int (x4 + x5)), .val (.int x6), .val (.ref b44), .val (.int (1 : Int32)), .val (.int x1)] [(.int x1), (.int x1)])
    refine own_go (fun _ k => XS.icmpNo X49.here hx rfl (hb hby at_208) rfl (teq rfl).2 k) ?_
    show own_Run p e below _ T49 (mkF m 211 #[.val (.int p1), .val (.int p2), .val (.int p3), .val (.int p4), .val (.int p5), .val (.int p6), .val (.int x0), .val (.int x1), .val (.int x2), .val (.int x3), .val (.ref b16), .val (.ref b30), .val (.int x4), .val (.int x5), .val (.int (x4 + x5)), .val (.int x6), .val (.ref b44), .val (.int (1 : Int32)), .val (.int x1)] [])
    refine own_go (fun _ k => XS.iconst X49.here hx rfl (hb hby at_211) k) ?_
    refine own_go (fun _ k => XS.goto X49.here hx rfl (pc0 := 212) (pc' := 216) rfl (hb hby at_212) (by decide) (by decide) k) ?_
    show own_Run p e below _ T49 (mkF m 216 #[.val (.int p1), .val (.int p2), .val (.int p3), .val (.int p4), .val (.int p5), .val (.int p6), .val (.int x0), .val (.int x1), .val (.int x2), .val (.int x3), .val (.ref b16), .val (.ref b30), .val (.int x4), .val (.int x5), .val (.int (x4 + x5)), .val (.int x6), .val (.ref b44), .val (.int (1 : Int32)), .val (.int x1)] [(.int (1 : Int32))])
    refine own_done (Q := fun v h L => Q0 Z p1 p2 p3 p4 p5 p6 h0 n0 v h L) (v := (some (.int (1 : Int32)))) X49 (fun h => by rw [hret] at h; cases h) hlk (fun fs hr => retN X49 hx (t := .boolean) hret (by simp) (hb hby at_216) hr) ?_ (by decide) (by decide)
    show Q0 Z p1 p2 p3 p4 p5 p6 h0 n0 _ T49.heap _
    rw [e49]
    exact ⟨rfl, N49⟩
  · rw [hj]
    show own_Run p e below _ T46 (mkF m 155 #[.val (.int p1), .val (.int p2), .val (.int p3), .val (.int p4), .val (.int p5), .val (.int p6), .val (.int x0), .val (.int x1), .val (.int x2), .val (.int x3), .val (.ref b16), .val (.ref b30), .val (.int x4), .val (.int x5), .val (.int (x4 + x5)), .val (.int x6), .val (.ref b44), .unset, .unset] [(.int (2 : Int32))])
    refine own_go (fun _ k => XS.istore X46.here hx rfl (hb hby at_155) rfl (l' := #[.val (.int p1), .val (.int p2), .val (.int p3), .val (.int p4), .val (.int p5), .val (.int p6), .val (.int x0), .val (.int x1), .val (.int x2), .val (.int x3), .val (.ref b16), .val (.ref b30), .val (.int x4), .val (.int x5), .val (.int (x4 + x5)), .val (.int x6), .val (.ref b44), .val (.int (2 : Int32)), .unset]) rfl k) ?_
    refine own_go (fun _ k => XS.iload X46.here hx rfl (hb hby at_157) rfl k) ?_
    show own_Run p e below _ T46 (mkF m 159 #[.val (.int p1), .val (.int p2), .val (.int p3), .val (.int p4), .val (.int p5), .val (.int p6), .val (.int x0), .val (.int x1), .val (.int x2), .val (.int x3), .val (.ref b16), .val (.ref b30), .val (.int x4), .val (.int x5), .val (.int (x4 + x5)), .val (.int x6), .val (.ref b44), .val (.int (2 : Int32)), .unset] [(.int (2 : Int32))])
    refine own_go (fun _ k => XS.ifYes X46.here hx rfl (pc0 := 159) (pc' := 169) rfl (hb hby at_159) rfl ((if0 _ _).trans (feq (by decide : ¬ ((2 : Int32) = (0 : Int32)))).2) (by decide) (by decide) k) ?_
    show own_Run p e below _ T46 (mkF m 169 #[.val (.int p1), .val (.int p2), .val (.int p3), .val (.int p4), .val (.int p5), .val (.int p6), .val (.int x0), .val (.int x1), .val (.int x2), .val (.int x3), .val (.ref b16), .val (.ref b30), .val (.int x4), .val (.int x5), .val (.int (x4 + x5)), .val (.int x6), .val (.ref b44), .val (.int (2 : Int32)), .unset] [])
    refine own_go (fun _ k => XS.iload X46.here hx rfl (hb hby at_169) rfl k) ?_
    refine own_go (fun _ k => XS.iconst X46.here hx rfl (hb hby at_171) k) ?_
    show own_Run p e below _ T46 (mkF m 172 #[.val (.int p1), .val (.int p2), .val (.int p3), .val (.int p4), .val (.int p5), .val (.int p6), .val (.int x0), .val (.int x1), .val (.int x2), .val (.int x3), .val (.ref b16), .val (.ref b30), .val (.int x4), .val (.int x5), .val (.int (x4 + x5)), .val (.int x6), .val (.ref b44), .val (.int (2 : Int32)), .unset] [(.int (1 : Int32)), (.int (2 : Int32))])
    refine own_go (fun _ k => XS.icmpYes X46.here hx rfl (pc0 := 172) (pc' := 182) rfl (hb hby at_172) rfl (feq (by decide : ¬ ((2 : Int32) = (1 : Int32)))).2 (by decide) (by decide) k) ?_
    show own_Run p e below _ T46 (mkF m 182 #[.val (.int p1), .val (.int p2), .val (.int p3), .val (.int p4), .val (.int p5), .val (.int p6), .val (.int x0), .val (.int x1), .val (.int x2), .val (.int x3), .val (.ref b16), .val (.ref b30), .val (.int x4), .val (.int x5), .val (.int (x4 + x5)), .val (.int x6), .val (.ref b44), .val (.int (2 : Int32)), .unset] [])
    refine own_go (fun _ k => XS.iload X46.here hx rfl (hb hby at_182) rfl k) ?_
    refine own_go (fun _ k => XS.iconst X46.here hx rfl (hb hby at_184) k) ?_
    show own_Run p e below _ T46 (mkF m 185 #[.val (.int p1), .val (.int p2), .val (.int p3), .val (.int p4), .val (.int p5), .val (.int p6), .val (.int x0), .val (.int x1), .val (.int x2), .val (.int x3), .val (.ref b16), .val (.ref b30), .val (.int x4), .val (.int x5), .val (.int (x4 + x5)), .val (.int x6), .val (.ref b44), .val (.int (2 : Int32)), .unset] [(.int (2 : Int32)), (.int (2 : Int32))])
    refine own_go (fun _ k => XS.icmpNo X46.here hx rfl (hb hby at_185) rfl (teq (by decide : (2 : Int32) = (2 : Int32))).2 k) ?_
    show own_Run p e below _ T46 (mkF m 188 #[.val (.int p1), .val (.int p2), .val (.int p3), .val (.int p4), .val (.int p5), .val (.int p6), .val (.int x0), .val (.int x1), .val (.int x2), .val (.int x3), .val (.ref b16), .val (.ref b30), .val (.int x4), .val (.int x5), .val (.int (x4 + x5)), .val (.int x6), .val (.ref b44), .val (.int (2 : Int32)), .unset] [])
    refine own_go (fun _ k => XS.iload X46.here hx rfl (hb hby at_188) rfl k) ?_
    refine own_go (fun _ k => XS.istore X46.here hx rfl (hb hby at_190) rfl (l' := #[.val (.int p1), .val (.int p2), .val (.int p3), .val (.int p4), .val (.int p5), .val (.int p6), .val (.int x0), .val (.int x1), .val (.int x2), .val (.int x3), .val (.ref b16), .val (.ref b30), .val (.int x4), .val (.int x5), .val (.int (x4 + x5)), .val (.int x6), .val (.ref b44), .val (.int (2 : Int32)), .val (.int x2)]) rfl k) ?_
    refine own_go (fun _ k => XS.goto X46.here hx rfl (pc0 := 192) (pc' := 199) rfl (hb hby at_192) (by decide) (by decide) k) ?_
    refine own_go (fun _ k => XS.aload X46.here hx rfl (hb hby at_199) rfl rfl k) ?_
    show own_Run p e below _ T46 (mkF m 201 #[.val (.int p1), .val (.int p2), .val (.int p3), .val (.int p4), .val (.int p5), .val (.int p6), .val (.int x0), .val (.int x1), .val (.int x2), .val (.int x3), .val (.ref b16), .val (.ref b30), .val (.int x4), .val (.int x5), .val (.int (x4 + x5)), .val (.int x6), .val (.ref b44), .val (.int (2 : Int32)), .val (.int x2)] [(.ref b44)])
    refine own_go (fun _ k => XS.iload X46.here hx rfl (hb hby at_201) rfl k) ?_
    show own_Run p e below _ T46 (mkF m 203 #[.val (.int p1), .val (.int p2), .val (.int p3), .val (.int p4), .val (.int p5), .val (.int p6), .val (.int x0), .val (.int x1), .val (.int x2), .val (.int x3), .val (.ref b16), .val (.ref b30), .val (.int x4), .val (.int x5), .val (.int (x4 + x5)), .val (.int x6), .val (.ref b44), .val (.int (2 : Int32)), .val (.int x2)] [(.int x6), (.ref b44)])
    obtain ⟨cq50, kq50, q50a, q50b, q50c⟩ := isOf hZ rfl P46_0
    obtain ⟨_, _, ⟨T50, L50, k50, n50⟩, -, X50, ⟨Lc50, hQ50, l50, y50, z50⟩, st50⟩ := X46.virtualBack hx (y := (⟨"com/example/network_analytics_service/networkanalyticsservice/core/sliceload/Levels", "level", "(I)I"⟩ : MethodName)) (z := (⟨"com/example/network_analytics_service/networkanalyticsservice/core/sliceload/Levels", "level", "(I)I"⟩ : MethodName)) hown (mvT hZ (W 24 rfl)) (mvT hZ (W 25 rfl)) (notFace_of_selects (args := #[]) (mvT hZ (W 27 rfl))) (mvT hZ (W 27 rfl)) (mvT hZ (W 26 rfl)) (by decide) (backOf (W := 0) (rm3 l Z a0 hw [] b44 x6 b30 x4 k30 x0 x1 x2 x3 x2 T46.heap n0 Z0_c47 P46_1 P46_2 V_b30_c47 (Or.inr (Or.inr (Or.inl ⟨hj, rfl⟩)))) hZ (W 28 rfl) (W 9 rfl) (by decide) (by decide)) q50a q50c (g := (mkF m 203 #[.val (.int p1), .val (.int p2), .val (.int p3), .val (.int p4), .val (.int p5), .val (.int p6), .val (.int x0), .val (.int x1), .val (.int x2), .val (.int x3), .val (.ref b16), .val (.ref b30), .val (.int x4), .val (.int x5), .val (.int (x4 + x5)), .val (.int x6), .val (.ref b44), .val (.int (2 : Int32)), .val (.int x2)] [(.int x6), (.ref b44)])) rfl (by rw [hml]; rfl) (Steps.refl _) (argsL := [(.int x6)]) (rest := []) (lenOf pd_2 rfl) rfl (by show 2 * 0 + _ ≤ _; exact Nat.le_of_eq rfl) (hb hby at_203) (fun _ _ => ⟨rfl, rfl, (by decide : 3 + 0 ≤ _), (by decide : 12 + 0 ≤ _)⟩)
    dsimp only [Pt.U, Pt.locs, Pt.cells, Pt.slots] at X50 l50 y50 z50 st50 hQ50
    subst l50 y50 z50
    obtain ⟨rfl, N50q, e50⟩ := hQ50
    have N50 := Fr.app N46 N50q
    refine own_goT st50 ?_
    show own_Run p e below _ T50 (mkF m 206 #[.val (.int p1), .val (.int p2), .val (.int p3), .val (.int p4), .val (.int p5), .val (.int p6), .val (.int x0), .val (.int x1), .val (.int x2), .val (.int x3), .val (.ref b16), .val (.ref b30), .val (.int x4), .val (.int x5), .val (.int (x4 + x5)), .val (.int x6), .val (.ref b44), .val (.int (2 : Int32)), .val (.int x2)] [(.int x2)])
    refine own_go (fun _ k => XS.iload X50.here hx rfl (hb hby at_206) rfl k) ?_
    show own_Run p e below _ T50 (mkF m 208 #[.val (.int p1), .val (.int p2), .val (.int p3), .val (.int p4), .val (.int p5), .val (.int p6), .val (.int x0), .val (.int x1), .val (.int x2), .val (.int x3), .val (.ref b16), .val (.ref b30), .val (.int x4), .val (.int x5), .val (.int (x4 + x5)), .val (.int x6), .val (.ref b44), .val (.int (2 : Int32)), .val (.int x2)] [(.int x2), (.int x2)])
    refine own_go (fun _ k => XS.icmpNo X50.here hx rfl (hb hby at_208) rfl (teq rfl).2 k) ?_
    show own_Run p e below _ T50 (mkF m 211 #[.val (.int p1), .val (.int p2), .val (.int p3), .val (.int p4), .val (.int p5), .val (.int p6), .val (.int x0), .val (.int x1), .val (.int x2), .val (.int x3), .val (.ref b16), .val (.ref b30), .val (.int x4), .val (.int x5), .val (.int (x4 + x5)), .val (.int x6), .val (.ref b44), .val (.int (2 : Int32)), .val (.int x2)] [])
    refine own_go (fun _ k => XS.iconst X50.here hx rfl (hb hby at_211) k) ?_
    refine own_go (fun _ k => XS.goto X50.here hx rfl (pc0 := 212) (pc' := 216) rfl (hb hby at_212) (by decide) (by decide) k) ?_
    show own_Run p e below _ T50 (mkF m 216 #[.val (.int p1), .val (.int p2), .val (.int p3), .val (.int p4), .val (.int p5), .val (.int p6), .val (.int x0), .val (.int x1), .val (.int x2), .val (.int x3), .val (.ref b16), .val (.ref b30), .val (.int x4), .val (.int x5), .val (.int (x4 + x5)), .val (.int x6), .val (.ref b44), .val (.int (2 : Int32)), .val (.int x2)] [(.int (1 : Int32))])
    refine own_done (Q := fun v h L => Q0 Z p1 p2 p3 p4 p5 p6 h0 n0 v h L) (v := (some (.int (1 : Int32)))) X50 (fun h => by rw [hret] at h; cases h) hlk (fun fs hr => retN X50 hx (t := .boolean) hret (by simp) (hb hby at_216) hr) ?_ (by decide) (by decide)
    show Q0 Z p1 p2 p3 p4 p5 p6 h0 n0 _ T50.heap _
    rw [e50]
    exact ⟨rfl, N50⟩
  · rw [hj]
    show own_Run p e below _ T46 (mkF m 155 #[.val (.int p1), .val (.int p2), .val (.int p3), .val (.int p4), .val (.int p5), .val (.int p6), .val (.int x0), .val (.int x1), .val (.int x2), .val (.int x3), .val (.ref b16), .val (.ref b30), .val (.int x4), .val (.int x5), .val (.int (x4 + x5)), .val (.int x6), .val (.ref b44), .unset, .unset] [(.int (3 : Int32))])
    refine own_go (fun _ k => XS.istore X46.here hx rfl (hb hby at_155) rfl (l' := #[.val (.int p1), .val (.int p2), .val (.int p3), .val (.int p4), .val (.int p5), .val (.int p6), .val (.int x0), .val (.int x1), .val (.int x2), .val (.int x3), .val (.ref b16), .val (.ref b30), .val (.int x4), .val (.int x5), .val (.int (x4 + x5)), .val (.int x6), .val (.ref b44), .val (.int (3 : Int32)), .unset]) rfl k) ?_
    refine own_go (fun _ k => XS.iload X46.here hx rfl (hb hby at_157) rfl k) ?_
    show own_Run p e below _ T46 (mkF m 159 #[.val (.int p1), .val (.int p2), .val (.int p3), .val (.int p4), .val (.int p5), .val (.int p6), .val (.int x0), .val (.int x1), .val (.int x2), .val (.int x3), .val (.ref b16), .val (.ref b30), .val (.int x4), .val (.int x5), .val (.int (x4 + x5)), .val (.int x6), .val (.ref b44), .val (.int (3 : Int32)), .unset] [(.int (3 : Int32))])
    refine own_go (fun _ k => XS.ifYes X46.here hx rfl (pc0 := 159) (pc' := 169) rfl (hb hby at_159) rfl ((if0 _ _).trans (feq (by decide : ¬ ((3 : Int32) = (0 : Int32)))).2) (by decide) (by decide) k) ?_
    show own_Run p e below _ T46 (mkF m 169 #[.val (.int p1), .val (.int p2), .val (.int p3), .val (.int p4), .val (.int p5), .val (.int p6), .val (.int x0), .val (.int x1), .val (.int x2), .val (.int x3), .val (.ref b16), .val (.ref b30), .val (.int x4), .val (.int x5), .val (.int (x4 + x5)), .val (.int x6), .val (.ref b44), .val (.int (3 : Int32)), .unset] [])
    refine own_go (fun _ k => XS.iload X46.here hx rfl (hb hby at_169) rfl k) ?_
    refine own_go (fun _ k => XS.iconst X46.here hx rfl (hb hby at_171) k) ?_
    show own_Run p e below _ T46 (mkF m 172 #[.val (.int p1), .val (.int p2), .val (.int p3), .val (.int p4), .val (.int p5), .val (.int p6), .val (.int x0), .val (.int x1), .val (.int x2), .val (.int x3), .val (.ref b16), .val (.ref b30), .val (.int x4), .val (.int x5), .val (.int (x4 + x5)), .val (.int x6), .val (.ref b44), .val (.int (3 : Int32)), .unset] [(.int (1 : Int32)), (.int (3 : Int32))])
    refine own_go (fun _ k => XS.icmpYes X46.here hx rfl (pc0 := 172) (pc' := 182) rfl (hb hby at_172) rfl (feq (by decide : ¬ ((3 : Int32) = (1 : Int32)))).2 (by decide) (by decide) k) ?_
    show own_Run p e below _ T46 (mkF m 182 #[.val (.int p1), .val (.int p2), .val (.int p3), .val (.int p4), .val (.int p5), .val (.int p6), .val (.int x0), .val (.int x1), .val (.int x2), .val (.int x3), .val (.ref b16), .val (.ref b30), .val (.int x4), .val (.int x5), .val (.int (x4 + x5)), .val (.int x6), .val (.ref b44), .val (.int (3 : Int32)), .unset] [])
    refine own_go (fun _ k => XS.iload X46.here hx rfl (hb hby at_182) rfl k) ?_
    refine own_go (fun _ k => XS.iconst X46.here hx rfl (hb hby at_184) k) ?_
    show own_Run p e below _ T46 (mkF m 185 #[.val (.int p1), .val (.int p2), .val (.int p3), .val (.int p4), .val (.int p5), .val (.int p6), .val (.int x0), .val (.int x1), .val (.int x2), .val (.int x3), .val (.ref b16), .val (.ref b30), .val (.int x4), .val (.int x5), .val (.int (x4 + x5)), .val (.int x6), .val (.ref b44), .val (.int (3 : Int32)), .unset] [(.int (2 : Int32)), (.int (3 : Int32))])
    refine own_go (fun _ k => XS.icmpYes X46.here hx rfl (pc0 := 185) (pc' := 195) rfl (hb hby at_185) rfl (feq (by decide : ¬ ((3 : Int32) = (2 : Int32)))).2 (by decide) (by decide) k) ?_
    show own_Run p e below _ T46 (mkF m 195 #[.val (.int p1), .val (.int p2), .val (.int p3), .val (.int p4), .val (.int p5), .val (.int p6), .val (.int x0), .val (.int x1), .val (.int x2), .val (.int x3), .val (.ref b16), .val (.ref b30), .val (.int x4), .val (.int x5), .val (.int (x4 + x5)), .val (.int x6), .val (.ref b44), .val (.int (3 : Int32)), .unset] [])
    refine own_go (fun _ k => XS.iload X46.here hx rfl (hb hby at_195) rfl k) ?_
    refine own_go (fun _ k => XS.istore X46.here hx rfl (hb hby at_197) rfl (l' := #[.val (.int p1), .val (.int p2), .val (.int p3), .val (.int p4), .val (.int p5), .val (.int p6), .val (.int x0), .val (.int x1), .val (.int x2), .val (.int x3), .val (.ref b16), .val (.ref b30), .val (.int x4), .val (.int x5), .val (.int (x4 + x5)), .val (.int x6), .val (.ref b44), .val (.int (3 : Int32)), .val (.int x3)]) rfl k) ?_
    refine own_go (fun _ k => XS.aload X46.here hx rfl (hb hby at_199) rfl rfl k) ?_
    refine own_go (fun _ k => XS.iload X46.here hx rfl (hb hby at_201) rfl k) ?_
    show own_Run p e below _ T46 (mkF m 203 #[.val (.int p1), .val (.int p2), .val (.int p3), .val (.int p4), .val (.int p5), .val (.int p6), .val (.int x0), .val (.int x1), .val (.int x2), .val (.int x3), .val (.ref b16), .val (.ref b30), .val (.int x4), .val (.int x5), .val (.int (x4 + x5)), .val (.int x6), .val (.ref b44), .val (.int (3 : Int32)), .val (.int x3)] [(.int x6), (.ref b44)])
    obtain ⟨cq51, kq51, q51a, q51b, q51c⟩ := isOf hZ rfl P46_0
    obtain ⟨_, _, ⟨T51, L51, k51, n51⟩, -, X51, ⟨Lc51, hQ51, l51, y51, z51⟩, st51⟩ := X46.virtualBack hx (y := (⟨"com/example/network_analytics_service/networkanalyticsservice/core/sliceload/Levels", "level", "(I)I"⟩ : MethodName)) (z := (⟨"com/example/network_analytics_service/networkanalyticsservice/core/sliceload/Levels", "level", "(I)I"⟩ : MethodName)) hown (mvT hZ (W 24 rfl)) (mvT hZ (W 25 rfl)) (notFace_of_selects (args := #[]) (mvT hZ (W 27 rfl))) (mvT hZ (W 27 rfl)) (mvT hZ (W 26 rfl)) (by decide) (backOf (W := 0) (rm3 l Z a0 hw [] b44 x6 b30 x4 k30 x0 x1 x2 x3 x3 T46.heap n0 Z0_c47 P46_1 P46_2 V_b30_c47 (Or.inr (Or.inr (Or.inr (⟨hj, rfl⟩))))) hZ (W 28 rfl) (W 9 rfl) (by decide) (by decide)) q51a q51c (g := (mkF m 203 #[.val (.int p1), .val (.int p2), .val (.int p3), .val (.int p4), .val (.int p5), .val (.int p6), .val (.int x0), .val (.int x1), .val (.int x2), .val (.int x3), .val (.ref b16), .val (.ref b30), .val (.int x4), .val (.int x5), .val (.int (x4 + x5)), .val (.int x6), .val (.ref b44), .val (.int (3 : Int32)), .val (.int x3)] [(.int x6), (.ref b44)])) rfl (by rw [hml]; rfl) (Steps.refl _) (argsL := [(.int x6)]) (rest := []) (lenOf pd_2 rfl) rfl (by show 2 * 0 + _ ≤ _; exact Nat.le_of_eq rfl) (hb hby at_203) (fun _ _ => ⟨rfl, rfl, (by decide : 3 + 0 ≤ _), (by decide : 12 + 0 ≤ _)⟩)
    dsimp only [Pt.U, Pt.locs, Pt.cells, Pt.slots] at X51 l51 y51 z51 st51 hQ51
    subst l51 y51 z51
    obtain ⟨rfl, N51q, e51⟩ := hQ51
    have N51 := Fr.app N46 N51q
    refine own_goT st51 ?_
    show own_Run p e below _ T51 (mkF m 206 #[.val (.int p1), .val (.int p2), .val (.int p3), .val (.int p4), .val (.int p5), .val (.int p6), .val (.int x0), .val (.int x1), .val (.int x2), .val (.int x3), .val (.ref b16), .val (.ref b30), .val (.int x4), .val (.int x5), .val (.int (x4 + x5)), .val (.int x6), .val (.ref b44), .val (.int (3 : Int32)), .val (.int x3)] [(.int x3)])
    refine own_go (fun _ k => XS.iload X51.here hx rfl (hb hby at_206) rfl k) ?_
    show own_Run p e below _ T51 (mkF m 208 #[.val (.int p1), .val (.int p2), .val (.int p3), .val (.int p4), .val (.int p5), .val (.int p6), .val (.int x0), .val (.int x1), .val (.int x2), .val (.int x3), .val (.ref b16), .val (.ref b30), .val (.int x4), .val (.int x5), .val (.int (x4 + x5)), .val (.int x6), .val (.ref b44), .val (.int (3 : Int32)), .val (.int x3)] [(.int x3), (.int x3)])
    refine own_go (fun _ k => XS.icmpNo X51.here hx rfl (hb hby at_208) rfl (teq rfl).2 k) ?_
    show own_Run p e below _ T51 (mkF m 211 #[.val (.int p1), .val (.int p2), .val (.int p3), .val (.int p4), .val (.int p5), .val (.int p6), .val (.int x0), .val (.int x1), .val (.int x2), .val (.int x3), .val (.ref b16), .val (.ref b30), .val (.int x4), .val (.int x5), .val (.int (x4 + x5)), .val (.int x6), .val (.ref b44), .val (.int (3 : Int32)), .val (.int x3)] [])
    refine own_go (fun _ k => XS.iconst X51.here hx rfl (hb hby at_211) k) ?_
    refine own_go (fun _ k => XS.goto X51.here hx rfl (pc0 := 212) (pc' := 216) rfl (hb hby at_212) (by decide) (by decide) k) ?_
    show own_Run p e below _ T51 (mkF m 216 #[.val (.int p1), .val (.int p2), .val (.int p3), .val (.int p4), .val (.int p5), .val (.int p6), .val (.int x0), .val (.int x1), .val (.int x2), .val (.int x3), .val (.ref b16), .val (.ref b30), .val (.int x4), .val (.int x5), .val (.int (x4 + x5)), .val (.int x6), .val (.ref b44), .val (.int (3 : Int32)), .val (.int x3)] [(.int (1 : Int32))])
    refine own_done (Q := fun v h L => Q0 Z p1 p2 p3 p4 p5 p6 h0 n0 v h L) (v := (some (.int (1 : Int32)))) X51 (fun h => by rw [hret] at h; cases h) hlk (fun fs hr => retN X51 hx (t := .boolean) hret (by simp) (hb hby at_216) hr) ?_ (by decide) (by decide)
    show Q0 Z p1 p2 p3 p4 p5 p6 h0 n0 _ T51.heap _
    rw [e51]
    exact ⟨rfl, N51⟩
set_option maxRecDepth 65536 in
set_option maxHeartbeats 40000000 in
theorem comes_1 {Post : Tables → Env → Array Value → State → Outcome → State → Prop} (hpost : ∀ tb e args s v u, (limb_1_1.after args s (.returned v) u = true ∧ limb_1_2.after args s (.returned v) u = true ∧ True) → FrameEnd s (.returned v) u (Jvm.fieldLocs frame_1_writes args s ++ Jvm.arrayLocs frame_1_arrays args s ++ Jvm.staticLocs frame_1_statics s) 16 128 → Post tb e args s (.returned v) u) :
    ArmFor flags0 classFile x code maxLocals ret World_1 tables_1 room_1 Calls_1 rest_1 Pre_1 Post := by
  intro l hfl _ _ p e ha hc hk s m args below hf hA hF happ hP
  obtain ⟨hcalls, hrest, hpre⟩ := hP
  obtain ⟨-, -, -, hnamed, -, -, -, hat⟩ := (Spec.applies_iff hf).mp happ
  obtain ⟨hg, hn⟩ := and_e (Cond.before_iff.mp (show (Jvm.Cond.and given_1 narrow_1).before args s = true from hpre))
  obtain ⟨hcount, hr0⟩ := and_e hg
  obtain ⟨ha0, hr1⟩ := and_e hr0
  obtain ⟨ha1, hr2⟩ := and_e hr1
  obtain ⟨ha2, hr3⟩ := and_e hr2
  obtain ⟨ha3, hr4⟩ := and_e hr3
  obtain ⟨ha4, hr5⟩ := and_e hr4
  have ha5 := hr5
  obtain ⟨w0, w1, w2, w3, w4, w5, rfl⟩ : ∃ w0 w1 w2 w3 w4 w5 : Value, args = #[w0, w1, w2, w3, w4, w5] := by
    have hs : args.size = 6 := by simpa [Cond.value, given_1] using hcount
    obtain ⟨L⟩ := args
    match L, hs with
    | [w0, w1, w2, w3, w4, w5], _ => exact ⟨w0, w1, w2, w3, w4, w5, rfl⟩
  have hw := fun d (hd : d ∈ tables_1) => atoms_spec (ws := Jvm.Cond.code x code maxLocals ret :: tables_1) hat d (List.mem_cons_of_mem _ hd)
  have W := fun (k : Nat) {d : Jvm.Cond} (h : tables_1[k]? = some d) => hw d (List.mem_of_getElem? h)
  have hfit : Fit s := fun {y c} hc i hi => by
    obtain ⟨ha, rfl⟩ := Array.getElem?_eq_some_iff.mp hc
    have q := List.all_eq_true.mp ((Array.all_eq_true_iff_forall_mem.mp hF) _ (Array.getElem_mem ha)) i (List.mem_range.mpr hi)
    simpa [Array.getElem?_eq_getElem hi] using q
  obtain ⟨i0, ei0⟩ := is_v ha0
  obtain rfl : w0 = (.int i0) := Option.some.inj ei0
  obtain ⟨i1, ei1⟩ := is_v ha1
  obtain rfl : w1 = (.int i1) := Option.some.inj ei1
  obtain ⟨i2, ei2⟩ := is_v ha2
  obtain rfl : w2 = (.int i2) := Option.some.inj ei2
  obtain ⟨i3, ei3⟩ := is_v ha3
  obtain rfl : w3 = (.int i3) := Option.some.inj ei3
  obtain ⟨i4, ei4⟩ := is_v ha4
  obtain rfl : w4 = (.int i4) := Option.some.inj ei4
  obtain ⟨i5, ei5⟩ := is_v ha5
  obtain rfl : w5 = (.int i5) := Option.some.inj ei5
  obtain ⟨n, o, h1, h2, h3, _, L, rfl, ⟨rfl, N⟩, hq⟩ := rm0 l s _ hw tables_1 i0 i1 i2 i3 i4 i5 s.heap s.heap.size (Nat.le_refl _) p e ha hc hk s m _ below hf ((Spec.applies_iff_loose hf).mp happ).1 ⟨rfl, State.Warmed39.refl s, rfl⟩ trivial
  refine ⟨n, _, h1, h2, h3, hpost _ _ _ _ _ _ ⟨Cond.after_iff.mpr rfl, Cond.after_iff.mpr (eq_i res_at (Term.int_eval (1)) rfl), trivial⟩ ⟨hq.1, hq.2.1, (hq.2.2.sift fun y hy => Or.inr (N y hy)).mono (by decide) (by decide)⟩⟩
theorem main_1_1 : Claimed_1_1 := comes_1 fun _ _ _ _ _ _ h hF => ⟨h.1, hF⟩
theorem main_1_2 : Claimed_1_2 := comes_1 fun _ _ _ _ _ _ h hF => ⟨h.2.1, hF⟩
end Jvm.Pilot.@@N@@
namespace Jvm.Pilot.@@N@@
open Jvm Jvm.ClassFile Sem Op Lib Jvm.Free Jvm.Stand Jvm.Pilot.@@N@@.Jvm.D
/-! MADE BY PROGRAM (witnessworld.py) out of the Statement's table words and the real class files: 11 classes; the members and pool entries that the words name. The judged class is class 1, her method 1. -/
namespace start1
open Jvm.ClassFile
def u (s : String) : CpInfo := .utf8 (stringToUtf16 s)
/-- a pool by its gaps: so many unusable entries, then the entry; so many at the end -/
def gap : Nat → List CpInfo → List CpInfo
  | 0, r => r
  | n + 1, r => .unusable :: gap n r
def poolList (es : List (Nat × CpInfo)) (last : Nat) : List CpInfo := es.foldr (fun e r => gap e.1 (e.2 :: r)) (gap last [])
def pool (es : List (Nat × CpInfo)) (last : Nat) : Array CpInfo := ⟨poolList es last⟩
def fileOf (pool : Array CpInfo) (this : Nat) (attrs : Array Attribute := #[]) (ms : Array MethodInfo := #[]) (fl : Nat := 33) (sup : Nat := 0) (ifs : Array Nat := #[]) (fds : Array FieldInfo := #[]) : ClassFile where
  minorVersion := 0
  majorVersion := 65
  constantPool := pool
  accessFlags := fl
  thisClass := this
  superClass := sup
  interfaces := ifs
  fields := fds
  methods := ms
  attributes := attrs
def plain (name : String) (sup : Option ClassId) : Class where
  name := name
  kind := .ordinary
  loader := none
  accessFlags := 33
  super := sup
  interfaces := #[]
  cf := none
  fields := #[]
  methods := #[]
  instanceTypes := #[]
  staticTypes := #[]
  resolved := #[]
  callSites := []
  init := .initialized
  statics := none
  mirror := none

def pool0 : Array CpInfo := pool [(5, u "<init>"), (0, u "()V"), (1, .class_ 10), (1, u "java/lang/Object")] 113

def k0c0 : Code := { maxStack := 0, maxLocals := 1, code := object_method_1_code, exceptionTable := #[], attributes := #[] }
def k0m0 : Method := { name := "<init>", desc := "()V", sig := { parameters := [], returnType := none }, accessFlags := 1, code := some k0c0 }
/-- java/lang/Object -/
def k0 : Class := { plain "java/lang/Object" none with
  accessFlags := 33
  interfaces := #[]
  cf := some (fileOf pool0 8 #[] #[{ accessFlags := 1, nameIndex := 5, descriptorIndex := 6, attributes := #[] }] 33 0 #[] #[])
  fields := #[]
  methods := #[k0m0]
  instanceTypes := #[]
  staticTypes := #[]
  resolved := Array.replicate 124 none
  statics := none }

def pool1 : Array CpInfo := pool [(2, .class_ 4), (1, u "java/lang/Object"), (0, u "<init>"), (0, u "()V"), (0, .integer 2147483647), (0, .long 1000), (1, .long 2000), (1, .long 3000), (1, .long 4000), (1, .class_ 17), (0, u "com/example/network_analytics_service/networkanalyticsservice/core/sliceload/Levels"), (0, .methodref 16 19), (0, .nameAndType 5 20), (0, u "([J[BII)V"), (0, .methodref 16 22), (0, .nameAndType 23 24), (0, u "level"), (0, u "(I)I"), (0, .class_ 26), (0, u "com/example/network_analytics_service/networkanalyticsservice/core/sliceload/LevelsLevelPinLaw"), (2, u "law"), (0, u "(IIIIII)Z")] 7

def k1m0 : Method := { name := "<init>", desc := "()V", sig := { parameters := [], returnType := none }, accessFlags := 2, code := none }
def k1c1 : Code := { maxStack := 6, maxLocals := 19, code := code, exceptionTable := #[], attributes := #[] }
def k1m1 : Method := { name := "law", desc := "(IIIIII)Z", sig := { parameters := [.int, .int, .int, .int, .int, .int], returnType := some .boolean }, accessFlags := 9, code := some k1c1 }
/-- com/example/network_analytics_service/networkanalyticsservice/core/sliceload/LevelsLevelPinLaw -/
def k1 : Class := { plain "com/example/network_analytics_service/networkanalyticsservice/core/sliceload/LevelsLevelPinLaw" (some 0) with
  accessFlags := 49
  interfaces := #[]
  cf := some (fileOf pool1 25 #[] #[{ accessFlags := 2, nameIndex := 5, descriptorIndex := 6, attributes := #[] }, { accessFlags := 9, nameIndex := 29, descriptorIndex := 30, attributes := #[] }] 49 2 #[] #[])
  fields := #[]
  methods := #[k1m0, k1m1]
  instanceTypes := #[]
  staticTypes := #[]
  resolved := Array.replicate 38 none
  statics := none }

def pool2 : Array CpInfo := pool [(1, .methodref 2 3), (0, .class_ 4), (0, .nameAndType 5 6), (0, u "java/lang/Object"), (0, u "<init>"), (0, u "()V"), (0, .fieldref 8 9), (0, .class_ 10), (0, .nameAndType 11 12), (0, u "com/example/network_analytics_service/networkanalyticsservice/core/sliceload/Levels"), (0, u "moments"), (0, u "[J"), (0, .fieldref 8 14), (0, .nameAndType 15 16), (0, u "levels"), (0, u "[B"), (0, .fieldref 8 18), (0, .nameAndType 19 20), (0, u "first"), (0, u "I"), (0, .fieldref 8 22), (0, .nameAndType 23 20), (0, u "end"), (12, u "([J[BII)V"), (53, .class_ 91), (0, u "com/example/network_analytics_service/networkanalyticsservice/core/sliceload/Levels$InForce"), (9, u "level"), (0, u "(I)I")] 14

def k2c0 : Code := { maxStack := 2, maxLocals := 5, code := prog_4_method_1_code, exceptionTable := #[], attributes := #[] }
def k2m0 : Method := { name := "<init>", desc := "([J[BII)V", sig := { parameters := [(.array .long), (.array .byte), .int, .int], returnType := none }, accessFlags := 0, code := some k2c0 }
def k2c1 : Code := { maxStack := 3, maxLocals := 2, code := prog_4_method_4_code, exceptionTable := #[], attributes := #[] }
def k2m1 : Method := { name := "level", desc := "(I)I", sig := { parameters := [.int], returnType := some .int }, accessFlags := 0, code := some k2c1 }
/-- com/example/network_analytics_service/networkanalyticsservice/core/sliceload/Levels -/
def k2 : Class := { plain "com/example/network_analytics_service/networkanalyticsservice/core/sliceload/Levels" (some 0) with
  accessFlags := 48
  interfaces := #[]
  cf := some (fileOf pool2 8 #[.nestMembers #[90]] #[{ accessFlags := 0, nameIndex := 5, descriptorIndex := 36, attributes := #[] }, { accessFlags := 0, nameIndex := 101, descriptorIndex := 102, attributes := #[] }] 48 2 #[] #[{ accessFlags := 18, nameIndex := 11, descriptorIndex := 12, attributes := #[] }, { accessFlags := 18, nameIndex := 15, descriptorIndex := 16, attributes := #[] }, { accessFlags := 18, nameIndex := 19, descriptorIndex := 20, attributes := #[] }, { accessFlags := 18, nameIndex := 23, descriptorIndex := 20, attributes := #[] }])
  fields := #[{ name := "moments", type := (.array .long), accessFlags := 18, slot := 0, constantValue := 0 }, { name := "levels", type := (.array .byte), accessFlags := 18, slot := 1, constantValue := 0 }, { name := "first", type := .int, accessFlags := 18, slot := 2, constantValue := 0 }, { name := "end", type := .int, accessFlags := 18, slot := 3, constantValue := 0 }]
  methods := #[k2m0, k2m1]
  instanceTypes := #[(.array .long), (.array .byte), .int, .int]
  staticTypes := #[]
  resolved := Array.replicate 117 none
  statics := none }

def pool3 : Array CpInfo := pool [(1, u "java/lang/Cloneable"), (0, .class_ 1), (0, u "java/lang/Object"), (0, .class_ 3)] 3

/-- java/lang/Cloneable -/
def k3 : Class := { plain "java/lang/Cloneable" (some 0) with
  accessFlags := 1537
  interfaces := #[]
  cf := some (fileOf pool3 2 #[] #[] 1537 4 #[] #[])
  fields := #[]
  methods := #[]
  instanceTypes := #[]
  staticTypes := #[]
  resolved := Array.replicate 8 none
  statics := none }

def pool4 : Array CpInfo := pool [(1, u "java/io/Serializable"), (0, .class_ 1), (0, u "java/lang/Object"), (0, .class_ 3)] 3

/-- java/io/Serializable -/
def k4 : Class := { plain "java/io/Serializable" (some 0) with
  accessFlags := 1537
  interfaces := #[]
  cf := some (fileOf pool4 2 #[] #[] 1537 4 #[] #[])
  fields := #[]
  methods := #[]
  instanceTypes := #[]
  staticTypes := #[]
  resolved := Array.replicate 8 none
  statics := none }

/-- the primitive byte -/
def k5 : Class := { plain "byte" none with kind := .primitive 'B', accessFlags := 0x411 }
/-- [B -/
def k6 : Class := { plain "[B" (some 0) with kind := .array 5 .byte, interfaces := #[3, 4], accessFlags := 1041 }

/-- the primitive int -/
def k7 : Class := { plain "int" none with kind := .primitive 'I', accessFlags := 0x411 }
/-- [I -/
def k8 : Class := { plain "[I" (some 0) with kind := .array 7 .int, interfaces := #[3, 4], accessFlags := 1041 }

/-- the primitive long -/
def k9 : Class := { plain "long" none with kind := .primitive 'J', accessFlags := 0x411 }
/-- [J -/
def k10 : Class := { plain "[J" (some 0) with kind := .array 9 .long, interfaces := #[3, 4], accessFlags := 1041 }

def heap : Heap := #[]
def classes : Array Class := #[k0, k1, k2, k3, k4, k5, k6, k7, k8, k9, k10]
def interned : List (Array UInt16 × Addr) := []
def slotsUsed : Nat := 0
def theMethod : MethodId := ⟨1, 1⟩
def args0 : Array Value := #[.int 5, .int 6, .int 7, .int 8, .int 9, .int 3]
def aboutOver (below : List Frame) : State where
  vm := { classes := classes, interned := interned.toArray }
  heap := heap
  slotsUsed := slotsUsed
  threads := #[{ frames := .invoking theMethod args0 :: below }]
def below0 : List Frame := [.native { method := ⟨0, 0⟩, args := #[] }]
def about1 : State := aboutOver below0
def p0 : Program := .bare "" "" ""
def e0 : Env := launch0.env 0 0 0
theorem w_frames : about1.frames = Frame.invoking theMethod args0 :: below0 := rfl
set_option maxRecDepth 65536 in
theorem w_args : argsFit about1.vm theMethod args0 = true := by decide +kernel
set_option maxRecDepth 65536 in
theorem w_heap : heapFits about1 = true := by decide +kernel
set_option maxRecDepth 65536 in
theorem w_runnable : about1.curStatus? = some .runnable := by decide +kernel
set_option maxRecDepth 65536 in
theorem w_alone : about1.alone = true := by decide +kernel
set_option maxRecDepth 65536 in
theorem w_named : about1.methodNamed? x = some theMethod := by decide +kernel
set_option maxRecDepth 65536 in
theorem w_hears : about1.hears theMethod below0 = true := by decide +kernel
set_option maxRecDepth 65536 in
theorem w_ripe : about1.ripe theMethod args0 below0 = true := by decide +kernel
theorem w_running : about1.status = .running := rfl
set_option maxRecDepth 65536 in
theorem w_room : about1.hasRoom e0.platform room_1 = true :=
  launch0.hasRoom_least _ room_1 (by decide +kernel) (by decide +kernel) (by decide +kernel) (by decide +kernel) (by decide +kernel) (by decide +kernel)
theorem allAtoms_all (ts : List Jvm.Cond) (a : Array Jvm.Value) (st : Jvm.State) : (allAtoms ts).before a st = ts.all (fun c => c.before a st) := by
  induction ts with
  | nil => rfl
  | cons c t ih =>
    show (Jvm.Cond.and c (allAtoms t)).before a st = _
    rw [Jvm.Cond.before_and, ih, List.all_cons]
def words1 : List Jvm.Cond := Jvm.Cond.code x code maxLocals ret :: tables_1
/-- a 'code' word, met by the world's own term for the bytes: nothing is compared byte by byte -/
theorem code_word {y : MethodName} {bytes : ByteArray} {mx : Nat} {rt : Option FieldType} {a : Array Value} {s : State} {m : MethodId} {meth : Method} {c : Code} (h1 : s.methodNamed? y = some m) (h2 : s.vm.method? m = some meth) (h3 : meth.code = some c) (h4 : c.code = bytes)
    (h5 : (c.maxLocals == mx && c.exceptionTable.isEmpty && decide (c.maxStack ≤ mostOperands) && decide (meth.sig.returnType = rt) && !meth.locks && decide (parseMethodDescriptor y.desc = some meth.sig)) = true) : (Jvm.Cond.code y bytes mx rt).before a s = true := by
  simp only [Bool.and_eq_true, beq_iff_eq, Bool.not_eq_true', decide_eq_true_eq] at h5
  obtain ⟨⟨⟨⟨⟨g1, g2⟩, g3⟩, g4⟩, g5⟩, g6⟩ := h5
  simp [Cond.before, Cond.holds, Cond.value, h1, h2, h3, h4, g1, g2, g3, g4, g5, g6]
def isCode : Jvm.Cond → Bool
  | .code _ _ _ _ => true
  | _ => false
theorem all_split {L : List Jvm.Cond} {P : Jvm.Cond → Bool} (h1 : L.all (fun c => isCode c || P c) = true) (h2 : ∀ c ∈ L.filter isCode, P c = true) : L.all P = true := by
  refine List.all_eq_true.mpr fun c hc => ?_
  have h := List.all_eq_true.mp h1 c hc
  rcases Bool.eq_false_or_eq_true (isCode c) with hi | hi
  · exact h2 c (List.mem_filter.mpr ⟨hc, hi⟩)
  · simpa [hi] using h
set_option maxRecDepth 65536 in
theorem w_c0 : (Jvm.Cond.code x code maxLocals ret).before args0 about1 = true := code_word (m := ⟨1, 1⟩) (meth := k1m1) (c := k1c1) (by decide +kernel) rfl rfl rfl (by decide +kernel)
set_option maxRecDepth 65536 in
theorem w_c1 : (Jvm.Cond.code ({ cls := "com/example/network_analytics_service/networkanalyticsservice/core/sliceload/Levels", name := "<init>", desc := "([J[BII)V" } : Jvm.MethodName) prog_4_method_1_code (5 : Nat) (Option.none : Option Jvm.ClassFile.FieldType)).before args0 about1 = true := code_word (m := ⟨2, 0⟩) (meth := k2m0) (c := k2c0) (by decide +kernel) rfl rfl rfl (by decide +kernel)
set_option maxRecDepth 65536 in
theorem w_c2 : (Jvm.Cond.code ({ cls := "java/lang/Object", name := "<init>", desc := "()V" } : Jvm.MethodName) object_method_1_code (1 : Nat) (Option.none : Option Jvm.ClassFile.FieldType)).before args0 about1 = true := code_word (m := ⟨0, 0⟩) (meth := k0m0) (c := k0c0) (by decide +kernel) rfl rfl rfl (by decide +kernel)
set_option maxRecDepth 65536 in
theorem w_c3 : (Jvm.Cond.code ({ cls := "com/example/network_analytics_service/networkanalyticsservice/core/sliceload/Levels", name := "level", desc := "(I)I" } : Jvm.MethodName) prog_4_method_4_code (2 : Nat) (Option.some Jvm.ClassFile.FieldType.int)).before args0 about1 = true := code_word (m := ⟨2, 1⟩) (meth := k2m1) (c := k2c1) (by decide +kernel) rfl rfl rfl (by decide +kernel)
def codes1 : List Jvm.Cond := [Jvm.Cond.code x code maxLocals ret, Jvm.Cond.code ({ cls := "com/example/network_analytics_service/networkanalyticsservice/core/sliceload/Levels", name := "<init>", desc := "([J[BII)V" } : Jvm.MethodName) prog_4_method_1_code (5 : Nat) (Option.none : Option Jvm.ClassFile.FieldType), Jvm.Cond.code ({ cls := "java/lang/Object", name := "<init>", desc := "()V" } : Jvm.MethodName) object_method_1_code (1 : Nat) (Option.none : Option Jvm.ClassFile.FieldType), Jvm.Cond.code ({ cls := "com/example/network_analytics_service/networkanalyticsservice/core/sliceload/Levels", name := "level", desc := "(I)I" } : Jvm.MethodName) prog_4_method_4_code (2 : Nat) (Option.some Jvm.ClassFile.FieldType.int)]
set_option maxRecDepth 65536 in
theorem codes_eq : words1.filter isCode = codes1 := rfl
theorem w_codes : ∀ c ∈ words1.filter isCode, c.before args0 about1 = true := by
  rw [codes_eq]
  intro c hc
  simp only [codes1, List.mem_cons, List.not_mem_nil, or_false] at hc
  rcases hc with rfl | rfl | rfl | rfl
  · exact w_c0
  · exact w_c1
  · exact w_c2
  · exact w_c3
set_option maxRecDepth 65536 in
theorem w_t1 : (words1.take 24).all (fun c => isCode c || c.before args0 about1) = true := by decide +kernel
set_option maxRecDepth 65536 in
theorem w_t2 : (words1.drop 24).all (fun c => isCode c || c.before args0 about1) = true := by decide +kernel
theorem w_tables : (allAtoms (Jvm.Cond.code x code maxLocals ret :: tables_1)).before args0 about1 = true := by
  rw [allAtoms_all]
  show words1.all (fun c => c.before args0 about1) = true
  refine all_split ?_ w_codes
  rw [← List.take_append_drop 24 words1, List.all_append, w_t1, w_t2]
  rfl
set_option maxRecDepth 65536 in
theorem w_case : (Jvm.Cond.and given_1 narrow_1).before args0 about1 = true := by decide +kernel
theorem w_applies : (headSpec (Jvm.Cond.code x code maxLocals ret :: tables_1) room_1).applies x e0.platform about1 = true :=
  (Spec.applies_iff w_frames).mpr ⟨w_running, w_runnable, w_alone, w_named, w_hears, w_ripe, w_room, w_tables⟩
theorem atStart : AtStart classFile x code maxLocals ret World_1 tables_1 room_1 Calls_1 rest_1 Pre_1 launch0 p0 e0 about1 theMethod args0 below0 :=
  ⟨lists_1, trivial, launch0.admits_env _ _ _, launch0.least_env, fairChoices_fair.cas, fairChoices_fair.clock, w_frames, w_args, w_heap, w_applies, trivial, trivial, w_case⟩
end start1
theorem witness_1 : WitnessClaimed_1 := ⟨start1.p0, start1.e0, start1.about1, start1.theMethod, start1.args0, start1.below0, start1.atStart⟩
end Jvm.Pilot.@@N@@
