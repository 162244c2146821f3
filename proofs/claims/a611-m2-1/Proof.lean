import JvmDerived
import JvmDerived.Pilot.@@N@@Statement
import JvmDerived.Pilot.@@N@@Code
set_option linter.unusedVariables false
set_option linter.unusedSimpArgs false
namespace Jvm.Pilot.@@N@@
open Jvm Jvm.ClassFile Sem Op Lib Jvm.Free Jvm.Stand Jvm.LawKit Jvm.RoadKit Bundle Jvm.Pilot.@@N@@.Jvm.D
section OwnRun
variable {p : Program} {l : Launch} {e : Env} {R : Room} {s : State} {m : MethodId} {args : Array Value} {below : List Frame} {meth : Method} {c : Code} {T T' : State} {locs : List Loc} {cells slots : Nat}
/-- from here the run ends, as G says -/
def own_Run (p : Program) (e : Env) (below : List Frame) (G : Outcome → State → Prop) (T : State) (g : JFrame) : Prop :=
  ∃ s₂ o, Steps p.tables e below (T.setTop g) s₂ ∧ s₂.status = .running ∧ Ended s₂ below o ∧ G o s₂
theorem own_go {G : Outcome → State → Prop} {g g' : JFrame} (h : ∀ t, Steps p.tables e below (T'.setTop g') t → Steps p.tables e below (T.setTop g) t) (k : own_Run p e below G T' g') : own_Run p e below G T g := by
  obtain ⟨s₂, o, h1, h2, h3, h4⟩ := k
  exact ⟨s₂, o, h _ h1, h2, h3, h4⟩
theorem own_goT {G : Outcome → State → Prop} {g g' : JFrame} (h : Steps p.tables e below (T.setTop g) (T'.setTop g')) (k : own_Run p e below G T' g') : own_Run p e below G T g :=
  own_go (fun _ q => h.trans q) k
theorem own_start {G : Outcome → State → Prop} {f f' : JFrame} (h : f = f') (k : own_Run p e below G T f') : ∃ s₂ o, Steps p.tables e below (T.setTop f) s₂ ∧ s₂.status = .running ∧ Ended s₂ below o ∧ G o s₂ := by
  subst h
  exact k
theorem own_done {Q : Option Value → Heap → List Loc → Prop} {C N : Nat} {g : JFrame} (X : Stand p l e R s m args below meth c T locs cells slots) {v : Option Value} (hv : meth.sig.returnType = none → v = none) (hlocks : meth.locks = false)
    (hstep : ∀ fs, (∀ (f : JFrame) (acts : List Action), f.method = m → f.locked = none → f.entered = [] → (doReturn e (T.setTop f) acts v).1 = T.setFrames fs) → Steps p.tables e below (T.setTop g) (T.setFrames fs))
    (hQ : Q v T.heap locs) (hc : cells ≤ C) (hs : slots ≤ N) :
    own_Run p e below (fun o U' => ∃ v L, o = .returned v ∧ Q v U'.heap L ∧ FrameEnd s o U' L C N) T g := by
  obtain ⟨fs, hr, hrun, hended, hW, hsame⟩ := X.leave hv hlocks
  exact ⟨_, _, hstep fs hr, hrun, hended, _, _, rfl, hQ, ⟨_, rfl⟩, hW, hsame.mono hc hs⟩
theorem own_mono {cells' slots' : Nat} (X : Stand p l e R s m args below meth c T locs cells slots) (hc : cells ≤ cells') (hs : slots ≤ slots') : Stand p l e R s m args below meth c T locs cells' slots' :=
  ⟨X.admits, X.cas, X.clock, X.frames, X.room, X.hears, X.method, X.code, X.here, X.tail, X.warmed, X.limits, X.bytes, X.same.mono hc hs⟩
theorem own_retI (X : Stand p l e R s m args below meth c T locs cells slots) (hx : p.tables.exec = Jvm.exec) {pc : Nat} {Ls : Array Slot} {z : Int32} {rest : List Value} (hret : meth.sig.returnType = some .int) (hd : decode c.code pc = .ok (.ireturn, 1)) {fs : List Frame}
    (hl : ∀ (f : JFrame) (acts : List Action), f.method = m → f.locked = none → f.entered = [] → (doReturn e (T.setTop f) acts (some (.int z))).1 = T.setFrames fs) : Steps p.tables e below (T.setTop (mkF m pc Ls (.int z :: rest))) (T.setFrames fs) :=
  retOut X hx hret rfl (Or.inl ⟨rfl, Or.inl rfl, z, rfl⟩) hd hl
theorem own_retL (X : Stand p l e R s m args below meth c T locs cells slots) (hx : p.tables.exec = Jvm.exec) {pc : Nat} {Ls : Array Slot} {z : Int64} {rest : List Value} (hret : meth.sig.returnType = some .long) (hd : decode c.code pc = .ok (.lreturn, 1)) {fs : List Frame}
    (hl : ∀ (f : JFrame) (acts : List Action), f.method = m → f.locked = none → f.entered = [] → (doReturn e (T.setTop f) acts (some (.long z))).1 = T.setFrames fs) : Steps p.tables e below (T.setTop (mkF m pc Ls (.long z :: rest))) (T.setFrames fs) :=
  retOut X hx hret rfl (Or.inr (Or.inl ⟨rfl, rfl, z, rfl⟩)) hd hl
theorem own_retA {t : FieldType} (X : Stand p l e R s m args below meth c T locs cells slots) (hx : p.tables.exec = Jvm.exec) {pc : Nat} {Ls : Array Slot} {w : Value} {rest : List Value} (hret : meth.sig.returnType = some t) (ht : t.isReference = true) (hn : narrow t w = w) (hw : w.isRef = true) (hd : decode c.code pc = .ok (.areturn, 1)) {fs : List Frame}
    (hl : ∀ (f : JFrame) (acts : List Action), f.method = m → f.locked = none → f.entered = [] → (doReturn e (T.setTop f) acts (some w)).1 = T.setFrames fs) : Steps p.tables e below (T.setTop (mkF m pc Ls (w :: rest))) (T.setFrames fs) :=
  retOut X hx hret hn (Or.inr (Or.inr (Or.inr (Or.inr ⟨rfl, ht, hw⟩)))) hd hl
theorem own_ns {Z : State} {h : Heap} {a : Addr} {C : String} (E : Exa Z h a C) : ∃ c : Cell, h[a]? = some c ∧ c.vm.isStatics = false := by
  obtain ⟨c, k, h1, -, -, h4, -⟩ := E
  exact ⟨c, h1, h4⟩
theorem own_nsV {Z : State} {h : Heap} {a : Addr} {k : ClassId} {ty : FieldType} {n : Int32} {vs : List Value} {d : Value} (V : Arv Z h a k ty n vs d) : ∃ c : Cell, h[a]? = some c ∧ c.vm.isStatics = false := by
  obtain ⟨c, A, -⟩ := V
  exact ⟨c, A.1, A.plain⟩
theorem own_staKeep {Z : State} {h h' : Heap} {ws : List Addr} {C n d : String} {w : Value} (F : Sta Z h C n d w) (K : Keep h h' ws) (q : ∀ x ∈ ws, ∃ c : Cell, h[x]? = some c ∧ c.vm.isStatics = false) : Sta Z h' C n d w := by
  obtain ⟨cf, i, k, f, st, cell, h1, h2, h3, h4, h5, h6, h7⟩ := F
  refine ⟨cf, i, k, f, st, cell, h1, h2, h3, h4, K.2.1 st cell h5 (fun hm => ?_), h6, h7⟩
  obtain ⟨c, e1, e2⟩ := q st hm
  cases h5.symm.trans e1
  rw [h6] at e2; cases e2
theorem own_eqL {args : Array Value} {first s : State} {o : Option Outcome} {idx : List Nat} {t : Term} {n : Int64} (h : (Jvm.Cond.eq t (Term.long n)).value args first o s idx = some true) : t.eval args first o idx s = some (.long n) := by
  cases ht : t.eval args first o idx s with
  | none => simp [Cond.value, ht] at h
  | some x => cases x <;> simp [Cond.value, ht, Term.eval] at h ⊢ <;> exact h
theorem own_eqI {args : Array Value} {first s : State} {o : Option Outcome} {idx : List Nat} {t : Term} {n : Int32} (h : (Jvm.Cond.eq t (Term.int n)).value args first o s idx = some true) : t.eval args first o idx s = some (.int n) := by
  cases ht : t.eval args first o idx s with
  | none => simp [Cond.value, ht] at h
  | some x => cases x <;> simp [Cond.value, ht, Term.eval] at h ⊢ <;> exact h
theorem own_eqR {args : Array Value} {first s : State} {o : Option Outcome} {idx : List Nat} {t u : Term} {x : Addr} (h : (Jvm.Cond.eq t u).value args first o s idx = some true) (hu : u.eval args first o idx s = some (.ref x)) : t.eval args first o idx s = some (.ref x) := by
  cases ht : t.eval args first o idx s with
  | none => simp [Cond.value, ht] at h
  | some y => cases y <;> simp [Cond.value, ht, hu] at h ⊢ <;> exact h
theorem own_nf {s : State} {args : Array Value} {C : String} {y y' : MethodName} (hsel : (Jvm.Cond.selects C y y).before args s = true) (hc : y'.cls = y.cls) : NotFace s y' := fun r0 h0 => by
  obtain ⟨c2, r2, m2, q1, q2, q3, q4, kP, hkP, hkPi⟩ := Cond.selects_spec hsel
  have a := findClass_of_methodNamed q3
  have b := findClass_of_methodNamed h0
  rw [hc] at b
  have e := Option.some.inj (a.symm.trans b)
  exact ⟨kP, by rw [← e]; exact hkP, hkPi⟩
theorem own_selP {s : State} {args args' : Array Value} {C : String} {y y' : MethodName} (hsel : (Jvm.Cond.selects C y' y').before args s = true) (hc : y.cls = y'.cls) (hpriv : s.PrivateAt y) (hinst : (Jvm.Cond.instanceMethod y).before args' s = true) (hy : y.cls ≠ "java/lang/invoke/MethodHandle" ∧ y.cls ≠ "java/lang/invoke/VarHandle") : (Jvm.Cond.selects y.cls y y).before args' s = true := by
  obtain ⟨mk, methM, hnamed, -, -, -⟩ := Cond.instanceMethod_spec hinst
  obtain ⟨k, hk, hni⟩ := own_nf hsel hc mk hnamed
  exact selects_self_of_private (findClass_of_methodNamed hnamed) hk hni hpriv hinst hy
end OwnRun
theorem own_lcLt {x y : Int64} (h : x < y) : lcmpW x y = -1 := by
  have h1 : ¬ (x > y) := by simp only [GT.gt, Int64.lt_iff_toInt_lt] at h ⊢; omega
  have h2 : ¬ (x = y) := by rintro rfl; exact Int64.lt_irrefl h
  simp [lcmpW, h1, h2]
theorem own_lcGt {x y : Int64} (h : y < x) : lcmpW x y = 1 := by
  have h1 : x > y := h
  simp [lcmpW, h1]
theorem own_lcEq {x y : Int64} (h : x = y) : lcmpW x y = 0 := by
  subst h
  have h1 : ¬ (x > x) := Int64.lt_irrefl
  simp [lcmpW, h1]
theorem own_lcNlt {x y : Int64} (h : ¬ x < y) : lcmpW x y = 0 ∨ lcmpW x y = 1 := by
  by_cases q : x = y
  · exact Or.inl (own_lcEq q)
  · refine Or.inr (own_lcGt ?_)
    simp only [Int64.lt_iff_toInt_lt, ← Int64.toInt_inj] at h q ⊢; omega
theorem own_lcNgt {x y : Int64} (h : ¬ y < x) : lcmpW x y = 0 ∨ lcmpW x y = -1 := by
  by_cases q : x = y
  · exact Or.inl (own_lcEq q)
  · refine Or.inr (own_lcLt ?_)
    simp only [Int64.lt_iff_toInt_lt, ← Int64.toInt_inj] at h q ⊢; omega
theorem own_lcNe {x y : Int64} (h : ¬ x = y) : lcmpW x y = 1 ∨ lcmpW x y = -1 := by
  by_cases q : x < y
  · exact Or.inr (own_lcLt q)
  · refine Or.inl (own_lcGt ?_)
    simp only [Int64.lt_iff_toInt_lt, ← Int64.toInt_inj] at h q ⊢; omega
theorem own_lcT {x y : Int64} (h : x < y) : ifCond.holds .lt (lcmpW x y) = true ∧ ifCond.holds .ge (lcmpW x y) = false ∧ ifCond.holds .gt (lcmpW y x) = true ∧ ifCond.holds .le (lcmpW y x) = false := by
  rw [own_lcLt h, own_lcGt h]; decide
theorem own_lcF {x y : Int64} (h : ¬ x < y) : ifCond.holds .lt (lcmpW x y) = false ∧ ifCond.holds .ge (lcmpW x y) = true ∧ ifCond.holds .gt (lcmpW y x) = false ∧ ifCond.holds .le (lcmpW y x) = true := by
  rcases own_lcNlt h with q | q <;> rcases own_lcNgt (x := y) (y := x) h with r | r <;> rw [q, r] <;> decide
theorem own_lcTe {x y : Int64} (h : x = y) : ifCond.holds .eq (lcmpW x y) = true ∧ ifCond.holds .ne (lcmpW x y) = false := by
  rw [own_lcEq h]; decide
theorem own_lcFe {x y : Int64} (h : ¬ x = y) : ifCond.holds .eq (lcmpW x y) = false ∧ ifCond.holds .ne (lcmpW x y) = true := by
  rcases own_lcNe h with q | q <;> rw [q] <;> decide
theorem own_maskI (x : Int32) (M : Nat) (hM : M < 2 ^ 31) : (x &&& Int32.ofNat M).toInt = ((x.toBitVec.toNat &&& M : Nat) : Int) := by
  have h1 : (x &&& Int32.ofNat M).toBitVec.toNat = x.toBitVec.toNat &&& M := by
    rw [Int32.toBitVec_and, BitVec.toNat_and]
    congr 1
    show (BitVec.ofNat 32 M).toNat = M
    rw [BitVec.toNat_ofNat]; omega
  have h2 : x.toBitVec.toNat &&& M ≤ M := Nat.and_le_right
  rw [Int32.toInt, BitVec.toInt_eq_toNat_of_lt (by rw [h1]; omega), h1]
theorem own_mask0 (x : Int32) (M : Nat) (hM : M < 2 ^ 31) : 0 ≤ (x &&& Int32.ofNat M).toInt ∧ (x &&& Int32.ofNat M).toInt ≤ M := by
  rw [own_maskI x M hM]
  have h2 : x.toBitVec.toNat &&& M ≤ M := Nat.and_le_right
  omega
theorem own_rem (x : Int32) (k : Int32) (hx : 0 ≤ x.toInt) (hk : 0 < k.toInt) : 0 ≤ (x % k).toInt ∧ (x % k).toInt < k.toInt := by
  rw [Int32.toInt_mod]
  exact ⟨Int.tmod_nonneg _ hx, Int.tmod_lt_of_pos _ hk⟩
theorem own_bm (z : Int) (h1 : -2147483648 ≤ z) (h2 : z < 2147483648) : z.bmod (2 ^ 32) = z := by
  rw [Int.bmod_def]; split <;> omega
theorem own_addI (a b : Int32) (h1 : -2147483648 ≤ a.toInt + b.toInt) (h2 : a.toInt + b.toInt < 2147483648) : (a + b).toInt = a.toInt + b.toInt := by
  rw [Int32.toInt_add, own_bm _ h1 h2]
theorem own_subI (a b : Int32) (h1 : -2147483648 ≤ a.toInt - b.toInt) (h2 : a.toInt - b.toInt < 2147483648) : (a - b).toInt = a.toInt - b.toInt := by
  rw [Int32.toInt_sub, own_bm _ h1 h2]
theorem own_nz (a : Int32) (h : 0 < a.toInt) : a ≠ 0 := by
  rintro rfl; exact absurd h (by decide)
theorem own_ushr (x k : Int32) (n : Nat) (h : ((k &&& 31).toUInt32.toBitVec % 32).toNat = n) (hn : 0 < n) : ((x.toUInt32 >>> (k &&& 31).toUInt32).toInt32).toInt = ((x.toBitVec.toNat >>> n : Nat) : Int) ∧ x.toBitVec.toNat >>> n < 2 ^ (32 - n) := by
  have e : ((x.toUInt32 >>> (k &&& 31).toUInt32).toInt32).toBitVec = x.toBitVec >>> n := by
    show x.toBitVec >>> ((k &&& 31).toUInt32.toBitVec % 32) = _
    rw [BitVec.ushiftRight_eq', h]
  have hx : x.toBitVec.toNat < 2 ^ 32 := x.toBitVec.isLt
  have e2 : x.toBitVec.toNat >>> n < 2 ^ (32 - n) := by
    rw [Nat.shiftRight_eq_div_pow]
    rcases Nat.lt_or_ge n 32 with q | q
    · rw [Nat.div_lt_iff_lt_mul (Nat.two_pow_pos n), ← Nat.pow_add, Nat.sub_add_cancel (by omega)]; exact hx
    · rw [Nat.div_eq_of_lt (Nat.lt_of_lt_of_le hx (Nat.pow_le_pow_right (by decide) q))]; exact Nat.two_pow_pos _
  refine ⟨?_, e2⟩
  have e3 : 2 ^ (32 - n) ≤ 2 ^ 31 := Nat.pow_le_pow_right (by decide) (by omega)
  rw [Int32.toInt, e, BitVec.toInt_eq_toNat_of_lt (by rw [BitVec.toNat_ushiftRight]; omega), BitVec.toNat_ushiftRight]
theorem own_lit (a : Int32) (n : Int) (b : Int32) (h : a.toInt = n) (hb : b.toInt = n) : a = b := Int32.toInt_inj.mp (h.trans hb.symm)
theorem own_four (a : Int32) (h0 : 0 ≤ a.toInt) (h1 : a.toInt < 4) : a = 0 ∨ a = 1 ∨ a = 2 ∨ a = 3 := by
  have q : a.toInt = 0 ∨ a.toInt = 1 ∨ a.toInt = 2 ∨ a.toInt = 3 := by omega
  rcases q with q | q | q | q
  · exact Or.inl (own_lit _ _ _ q rfl)
  · exact Or.inr (Or.inl (own_lit _ _ _ q rfl))
  · exact Or.inr (Or.inr (Or.inl (own_lit _ _ _ q rfl)))
  · exact Or.inr (Or.inr (Or.inr (own_lit _ _ _ q rfl)))
theorem own_byte (a : Int32) (h0 : 0 ≤ a.toInt) (h1 : a.toInt < 128) : a.toInt8.toInt32 = a := by
  apply Int32.toInt_inj.mp
  rw [Int8.toInt_toInt32, Int32.toInt_toInt8, Int.bmod_def]; split <;> omega
theorem own_m8 (p x : Int32) (h : x = ((p &&& (2147483647 : Int32)) % (8 : Int32))) : x = (0 : Int32) ∨ x = (1 : Int32) ∨ x = (2 : Int32) ∨ x = (3 : Int32) ∨ x = (4 : Int32) ∨ x = (5 : Int32) ∨ x = (6 : Int32) ∨ x = (7 : Int32) := by
  have a1 := own_rem (p &&& (2147483647 : Int32)) 8 (own_mask0 p 2147483647 (by decide)).1 (by decide)
  have h8 : (8 : Int32).toInt = 8 := rfl
  rw [← h] at a1
  have r : x.toInt = 0 ∨ x.toInt = 1 ∨ x.toInt = 2 ∨ x.toInt = 3 ∨ x.toInt = 4 ∨ x.toInt = 5 ∨ x.toInt = 6 ∨ x.toInt = 7 := by omega
  rcases r with q | q | q | q | q | q | q | q
  · exact Or.inl (own_lit _ _ _ q rfl)
  · exact Or.inr (Or.inl (own_lit _ _ _ q rfl))
  · exact Or.inr (Or.inr (Or.inl (own_lit _ _ _ q rfl)))
  · exact Or.inr (Or.inr (Or.inr (Or.inl (own_lit _ _ _ q rfl))))
  · exact Or.inr (Or.inr (Or.inr (Or.inr (Or.inl (own_lit _ _ _ q rfl)))))
  · exact Or.inr (Or.inr (Or.inr (Or.inr (Or.inr (Or.inl (own_lit _ _ _ q rfl))))))
  · exact Or.inr (Or.inr (Or.inr (Or.inr (Or.inr (Or.inr (Or.inl (own_lit _ _ _ q rfl)))))))
  · exact Or.inr (Or.inr (Or.inr (Or.inr (Or.inr (Or.inr (Or.inr (own_lit _ _ _ q rfl)))))))
theorem own_ev {s : State} {args : Array Value} {t : Term} {a : Addr} {cl : Cell} {k : Int32} {v : Int32} (n : Nat) (hk : k.toNatClampNeg = n) (hneg : ¬ k < 0) (ev : t.eval args s none [] s = some (.ref a)) (A : Arr s s.heap a cl .byte) (h : (Jvm.Cond.eq (Term.elem t (Term.int k)) (Term.int v)).value args s none s [] = some true) : cl.slots[n]? = some (.int v) := by
  have q := own_eqI h
  rw [elem_f ev (Term.int_eval k) (A.fin (Vm.Alike.refl _)) hneg, hk] at q
  exact q
theorem own_str {s : State} {args : Array Value} (hf : Fit s) {t : Term} {c0 c1 : Int32} (h1 : (Jvm.Cond.arrayOf t .byte).value args s none s [] = some true) (h2 : (Jvm.Cond.eq (Term.length t) (Term.int (2 : Int32))).value args s none s [] = some true)
    (e0 : (Jvm.Cond.eq (Term.elem t (Term.int (0 : Int32))) (Term.int c0)).value args s none s [] = some true) (e1 : (Jvm.Cond.eq (Term.elem t (Term.int (1 : Int32))) (Term.int c1)).value args s none s [] = some true) :
    ∃ (a : Addr) (k : ClassId), t.eval args s none [] s = some (.ref a) ∧ Arv s s.heap a k .byte (2 : Int32) [(.int c0), (.int c1)] (.int (0 : Int32)) := by
  obtain ⟨a, ev⟩ := arr_v h1
  obtain ⟨cl, A⟩ := Arr.start ev h1
  have q := own_eqI h2
  have hsz : cl.slots.size < 2 ^ 31 := by
    rcases Nat.lt_or_ge cl.slots.size (2 ^ 31) with k | k
    · exact k
    · have k' : ¬ cl.slots.size < 2147483648 := by omega
      simp [Term.eval, ev, A.fin (Vm.Alike.refl _), k'] at q
  rw [len_f ev (A.fin (Vm.Alike.refl _)) hsz] at q
  have e : cl.slots.size.toInt32 = (2 : Int32) := by injection q with q; injection q
  exact ⟨a, cl.cls, ev, Arv.start hf A hsz e (by decide) rfl ⟨own_ev 0 rfl (by decide) ev A e0, own_ev 1 rfl (by decide) ev A e1, trivial⟩⟩
theorem d1_0 : decode prog_57_method_5_code 0 = .ok (.aload_n 0, 1) := by decide +kernel
theorem d1_1 : decode prog_57_method_5_code 1 = .ok (.getstatic 22, 3) := by decide +kernel
theorem d1_4 : decode prog_57_method_5_code 4 = .ok (.if_acmp .eq 10, 3) := by decide +kernel
theorem d1_7 : decode prog_57_method_5_code 7 = .ok (.aload_n 0, 1) := by decide +kernel
theorem d1_8 : decode prog_57_method_5_code 8 = .ok (.getstatic 25, 3) := by decide +kernel
theorem d1_11 : decode prog_57_method_5_code 11 = .ok (.if_acmp .ne 7, 3) := by decide +kernel
theorem d1_14 : decode prog_57_method_5_code 14 = .ok (.iconst 1, 1) := by decide +kernel
theorem d1_15 : decode prog_57_method_5_code 15 = .ok (.goto 4, 3) := by decide +kernel
theorem d1_18 : decode prog_57_method_5_code 18 = .ok (.iconst 0, 1) := by decide +kernel
theorem d1_19 : decode prog_57_method_5_code 19 = .ok (.ireturn, 1) := by decide +kernel
theorem pn_1 : plainName "com/example/error_to_hazard/errortohazard/model/CtlFormula$Temporal" = true := by first | (simp [plainName, overriddenIn]; done) | decide +kernel
theorem ef_1 (m : MethodId) (x0 : Addr) : entryFrame m #[(.ref x0)] 1 = mkF m 0 #[.val (.ref x0)] [] := by first | (simp [entryFrame, mkF, argsToLocals, Value.category]; done) | rfl
def Q1o6 (Z : State) (o6 : Addr) (o7 : Addr) (h0 : Heap) (n0 : Nat) (v : Option Value) (h : Heap) (L : List Loc) : Prop := v = some (.int (1 : Int32)) ∧ Fr n0 L ∧ h = h0
set_option maxRecDepth 65536 in
set_option maxHeartbeats 40000000 in
theorem rm1o6 (l : Launch) (Z : State) (a0 : Array Value) (hw : ∀ d ∈ tables_1, d.before a0 Z = true) (ws : List Jvm.Cond) (o6 : Addr) (o7 : Addr) (h0 : Heap) (n0 : Nat) (Z0 : n0 ≤ h0.size) (S_AU : Sta Z h0 "com/example/error_to_hazard/errortohazard/model/CtlFormula$Temporal" "AU" "Lcom/example/error_to_hazard/errortohazard/model/CtlFormula$Temporal;" (.ref o6)) (S_EU : Sta Z h0 "com/example/error_to_hazard/errortohazard/model/CtlFormula$Temporal" "EU" "Lcom/example/error_to_hazard/errortohazard/model/CtlFormula$Temporal;" (.ref o7)) :
    MetFree l (⟨"com/example/error_to_hazard/errortohazard/model/CtlFormula$Temporal", "isUntil", "()Z"⟩ : MethodName) (head1 (Jvm.Cond.code (⟨"com/example/error_to_hazard/errortohazard/model/CtlFormula$Temporal", "isUntil", "()Z"⟩ : MethodName) prog_57_method_5_code 1 (some .boolean) :: ws) ({ frames := 0, cells := 0, slots := 0, locals := 0 } : Room)) (fun a U => a = #[(.ref o6)] ∧ Z.Warmed39 U.vm ∧ U.heap = h0) (fun _ _ _ _ _ => True) (fun _ U o U' => ∃ v L, o = .returned v ∧ Q1o6 Z o6 o7 h0 n0 v U'.heap L ∧ FrameEnd U o U' L ({ frames := 0, cells := 0, slots := 0, locals := 0 } : Room).cells ({ frames := 0, cells := 0, slots := 0, locals := 0 } : Room).slots) := by
  refine MetFree.of_bodySF (plainFor_of_name pn_1) hisR ?_
  intro p e s m args below meth c s₁ Bd hml0 hP hK
  obtain ⟨rfl, hZ, hh⟩ := hP
  have hx := Bd.exec
  have hby := Bd.bytes
  have hml : c.maxLocals = 1 := hml0
  have hown : s.vm.findClass "com/example/error_to_hazard/errortohazard/model/CtlFormula$Temporal" = some m.cls := findClass_of_methodNamed Bd.named
  have hnm := (name_of_methodNamed Bd.named Bd.method).1
  have hret := Bd.returns
  have hlk : meth.locks = false := BodyLoose.notSynchronized Bd
  have X0 : Stand p l e ({ frames := 0, cells := 0, slots := 0, locals := 0 } : Room) s m #[(.ref o6)] below meth c s₁ [] 0 0 := Stand.of_body Bd
  have e0 : s₁.heap = h0 := by rw [← hh, Bd.state]; rfl
  have N0 := Fr.nil n0
  have W := fun (k : Nat) {d : Jvm.Cond} (h : tables_1[k]? = some d) => hw d (List.mem_of_getElem? h)
  have K0 : Keep h0 h0 [] := Keep.refl _ _
  refine own_start (ef_1 m o6) ?_
  show own_Run p e below _ s₁ (mkF m 0 #[.val (.ref o6)] [])
  refine own_go (fun _ k => XS.aloadN X0.here hx rfl (hb hby d1_0) rfl rfl k) ?_
  show own_Run p e below _ s₁ (mkF m 1 #[.val (.ref o6)] [(.ref o6)])
  obtain ⟨T1, X1, e1, st1⟩ := getS2 X0 hx hZ hown (host := "") (Or.inl (W 26 rfl)) Via.refl e0 S_AU (g := (mkF m 1 #[.val (.ref o6)] [(.ref o6)])) rfl (hb hby d1_1)
  refine own_go st1 ?_
  show own_Run p e below _ T1 (mkF m 4 #[.val (.ref o6)] [(.ref o6), (.ref o6)])
  refine own_go (fun _ k => Jvm.RoadKit.acmp (g := (mkF m 4 #[.val (.ref o6)] [(.ref o6), (.ref o6)])) X1 hx rfl rfl rfl (pc0 := 4) (pc' := 14) (same := true) rfl (hb hby d1_4) rfl (decide_eq_true rfl) (by decide) (by decide) k) ?_
  show own_Run p e below _ T1 (mkF m 14 #[.val (.ref o6)] [])
  refine own_go (fun _ k => XS.iconst X1.here hx rfl (hb hby d1_14) k) ?_
  refine own_go (fun _ k => XS.goto X1.here hx rfl (pc0 := 15) (pc' := 19) rfl (hb hby d1_15) (by decide) (by decide) k) ?_
  show own_Run p e below _ T1 (mkF m 19 #[.val (.ref o6)] [(.int (1 : Int32))])
  refine own_done (Q := fun v h L => Q1o6 Z o6 o7 h0 n0 v h L) (v := (some (.int (1 : Int32)))) X1 (fun h => by rw [hret] at h; cases h) hlk (fun fs hr => retN X1 hx (t := .boolean) hret (by simp) (hb hby d1_19) hr) ?_ (by decide) (by decide)
  show Q1o6 Z o6 o7 h0 n0 _ T1.heap _
  rw [e1]
  exact ⟨rfl, N0, rfl⟩
def Q1o7 (Z : State) (o7 : Addr) (o6 : Addr) (h0 : Heap) (n0 : Nat) (v : Option Value) (h : Heap) (L : List Loc) : Prop := v = some (.int (1 : Int32)) ∧ Fr n0 L ∧ h = h0
set_option maxRecDepth 65536 in
set_option maxHeartbeats 40000000 in
theorem rm1o7 (l : Launch) (Z : State) (a0 : Array Value) (hw : ∀ d ∈ tables_1, d.before a0 Z = true) (ws : List Jvm.Cond) (o7 : Addr) (o6 : Addr) (h0 : Heap) (n0 : Nat) (Z0 : n0 ≤ h0.size) (S_AU : Sta Z h0 "com/example/error_to_hazard/errortohazard/model/CtlFormula$Temporal" "AU" "Lcom/example/error_to_hazard/errortohazard/model/CtlFormula$Temporal;" (.ref o6)) (S_EU : Sta Z h0 "com/example/error_to_hazard/errortohazard/model/CtlFormula$Temporal" "EU" "Lcom/example/error_to_hazard/errortohazard/model/CtlFormula$Temporal;" (.ref o7)) (ne_o7_o6 : o7 ≠ o6) :
    MetFree l (⟨"com/example/error_to_hazard/errortohazard/model/CtlFormula$Temporal", "isUntil", "()Z"⟩ : MethodName) (head1 (Jvm.Cond.code (⟨"com/example/error_to_hazard/errortohazard/model/CtlFormula$Temporal", "isUntil", "()Z"⟩ : MethodName) prog_57_method_5_code 1 (some .boolean) :: ws) ({ frames := 0, cells := 0, slots := 0, locals := 0 } : Room)) (fun a U => a = #[(.ref o7)] ∧ Z.Warmed39 U.vm ∧ U.heap = h0) (fun _ _ _ _ _ => True) (fun _ U o U' => ∃ v L, o = .returned v ∧ Q1o7 Z o7 o6 h0 n0 v U'.heap L ∧ FrameEnd U o U' L ({ frames := 0, cells := 0, slots := 0, locals := 0 } : Room).cells ({ frames := 0, cells := 0, slots := 0, locals := 0 } : Room).slots) := by
  refine MetFree.of_bodySF (plainFor_of_name pn_1) hisR ?_
  intro p e s m args below meth c s₁ Bd hml0 hP hK
  obtain ⟨rfl, hZ, hh⟩ := hP
  have hx := Bd.exec
  have hby := Bd.bytes
  have hml : c.maxLocals = 1 := hml0
  have hown : s.vm.findClass "com/example/error_to_hazard/errortohazard/model/CtlFormula$Temporal" = some m.cls := findClass_of_methodNamed Bd.named
  have hnm := (name_of_methodNamed Bd.named Bd.method).1
  have hret := Bd.returns
  have hlk : meth.locks = false := BodyLoose.notSynchronized Bd
  have X0 : Stand p l e ({ frames := 0, cells := 0, slots := 0, locals := 0 } : Room) s m #[(.ref o7)] below meth c s₁ [] 0 0 := Stand.of_body Bd
  have e0 : s₁.heap = h0 := by rw [← hh, Bd.state]; rfl
  have N0 := Fr.nil n0
  have W := fun (k : Nat) {d : Jvm.Cond} (h : tables_1[k]? = some d) => hw d (List.mem_of_getElem? h)
  have K0 : Keep h0 h0 [] := Keep.refl _ _
  refine own_start (ef_1 m o7) ?_
  show own_Run p e below _ s₁ (mkF m 0 #[.val (.ref o7)] [])
  refine own_go (fun _ k => XS.aloadN X0.here hx rfl (hb hby d1_0) rfl rfl k) ?_
  show own_Run p e below _ s₁ (mkF m 1 #[.val (.ref o7)] [(.ref o7)])
  obtain ⟨T2, X2, e2, st2⟩ := getS2 X0 hx hZ hown (host := "") (Or.inl (W 26 rfl)) Via.refl e0 S_AU (g := (mkF m 1 #[.val (.ref o7)] [(.ref o7)])) rfl (hb hby d1_1)
  refine own_go st2 ?_
  show own_Run p e below _ T2 (mkF m 4 #[.val (.ref o7)] [(.ref o6), (.ref o7)])
  refine own_go (fun _ k => Jvm.RoadKit.acmp (g := (mkF m 4 #[.val (.ref o7)] [(.ref o6), (.ref o7)])) X2 hx rfl rfl rfl (pc0 := 4) (pc' := 7) (same := false) rfl (hb hby d1_4) rfl (decide_eq_false fun q => ne_o7_o6 (Value.ref.inj q)) (by decide) (by decide) k) ?_
  show own_Run p e below _ T2 (mkF m 7 #[.val (.ref o7)] [])
  refine own_go (fun _ k => XS.aloadN X2.here hx rfl (hb hby d1_7) rfl rfl k) ?_
  show own_Run p e below _ T2 (mkF m 8 #[.val (.ref o7)] [(.ref o7)])
  obtain ⟨T3, X3, e3, st3⟩ := getS2 X2 hx hZ hown (host := "") (Or.inl (W 27 rfl)) Via.refl e2 S_EU (g := (mkF m 8 #[.val (.ref o7)] [(.ref o7)])) rfl (hb hby d1_8)
  refine own_go st3 ?_
  show own_Run p e below _ T3 (mkF m 11 #[.val (.ref o7)] [(.ref o7), (.ref o7)])
  refine own_go (fun _ k => Jvm.RoadKit.acmp (g := (mkF m 11 #[.val (.ref o7)] [(.ref o7), (.ref o7)])) X3 hx rfl rfl rfl (pc0 := 11) (pc' := 14) (same := true) rfl (hb hby d1_11) rfl (decide_eq_true rfl) (by decide) (by decide) k) ?_
  show own_Run p e below _ T3 (mkF m 14 #[.val (.ref o7)] [])
  refine own_go (fun _ k => XS.iconst X3.here hx rfl (hb hby d1_14) k) ?_
  refine own_go (fun _ k => XS.goto X3.here hx rfl (pc0 := 15) (pc' := 19) rfl (hb hby d1_15) (by decide) (by decide) k) ?_
  show own_Run p e below _ T3 (mkF m 19 #[.val (.ref o7)] [(.int (1 : Int32))])
  refine own_done (Q := fun v h L => Q1o7 Z o7 o6 h0 n0 v h L) (v := (some (.int (1 : Int32)))) X3 (fun h => by rw [hret] at h; cases h) hlk (fun fs hr => retN X3 hx (t := .boolean) hret (by simp) (hb hby d1_19) hr) ?_ (by decide) (by decide)
  show Q1o7 Z o7 o6 h0 n0 _ T3.heap _
  rw [e3]
  exact ⟨rfl, N0, rfl⟩
def Q1a1 (Z : State) (a1 : Addr) (o6 : Addr) (o7 : Addr) (h0 : Heap) (n0 : Nat) (v : Option Value) (h : Heap) (L : List Loc) : Prop := v = some (.int (0 : Int32)) ∧ Fr n0 L ∧ h = h0
set_option maxRecDepth 65536 in
set_option maxHeartbeats 40000000 in
theorem rm1a1 (l : Launch) (Z : State) (a0 : Array Value) (hw : ∀ d ∈ tables_1, d.before a0 Z = true) (ws : List Jvm.Cond) (a1 : Addr) (o6 : Addr) (o7 : Addr) (h0 : Heap) (n0 : Nat) (Z0 : n0 ≤ h0.size) (S_AU : Sta Z h0 "com/example/error_to_hazard/errortohazard/model/CtlFormula$Temporal" "AU" "Lcom/example/error_to_hazard/errortohazard/model/CtlFormula$Temporal;" (.ref o6)) (S_EU : Sta Z h0 "com/example/error_to_hazard/errortohazard/model/CtlFormula$Temporal" "EU" "Lcom/example/error_to_hazard/errortohazard/model/CtlFormula$Temporal;" (.ref o7)) (ne_a1_o6 : a1 ≠ o6) (ne_a1_o7 : a1 ≠ o7) :
    MetFree l (⟨"com/example/error_to_hazard/errortohazard/model/CtlFormula$Temporal", "isUntil", "()Z"⟩ : MethodName) (head1 (Jvm.Cond.code (⟨"com/example/error_to_hazard/errortohazard/model/CtlFormula$Temporal", "isUntil", "()Z"⟩ : MethodName) prog_57_method_5_code 1 (some .boolean) :: ws) ({ frames := 0, cells := 0, slots := 0, locals := 0 } : Room)) (fun a U => a = #[(.ref a1)] ∧ Z.Warmed39 U.vm ∧ U.heap = h0) (fun _ _ _ _ _ => True) (fun _ U o U' => ∃ v L, o = .returned v ∧ Q1a1 Z a1 o6 o7 h0 n0 v U'.heap L ∧ FrameEnd U o U' L ({ frames := 0, cells := 0, slots := 0, locals := 0 } : Room).cells ({ frames := 0, cells := 0, slots := 0, locals := 0 } : Room).slots) := by
  refine MetFree.of_bodySF (plainFor_of_name pn_1) hisR ?_
  intro p e s m args below meth c s₁ Bd hml0 hP hK
  obtain ⟨rfl, hZ, hh⟩ := hP
  have hx := Bd.exec
  have hby := Bd.bytes
  have hml : c.maxLocals = 1 := hml0
  have hown : s.vm.findClass "com/example/error_to_hazard/errortohazard/model/CtlFormula$Temporal" = some m.cls := findClass_of_methodNamed Bd.named
  have hnm := (name_of_methodNamed Bd.named Bd.method).1
  have hret := Bd.returns
  have hlk : meth.locks = false := BodyLoose.notSynchronized Bd
  have X0 : Stand p l e ({ frames := 0, cells := 0, slots := 0, locals := 0 } : Room) s m #[(.ref a1)] below meth c s₁ [] 0 0 := Stand.of_body Bd
  have e0 : s₁.heap = h0 := by rw [← hh, Bd.state]; rfl
  have N0 := Fr.nil n0
  have W := fun (k : Nat) {d : Jvm.Cond} (h : tables_1[k]? = some d) => hw d (List.mem_of_getElem? h)
  have K0 : Keep h0 h0 [] := Keep.refl _ _
  refine own_start (ef_1 m a1) ?_
  show own_Run p e below _ s₁ (mkF m 0 #[.val (.ref a1)] [])
  refine own_go (fun _ k => XS.aloadN X0.here hx rfl (hb hby d1_0) rfl rfl k) ?_
  show own_Run p e below _ s₁ (mkF m 1 #[.val (.ref a1)] [(.ref a1)])
  obtain ⟨T4, X4, e4, st4⟩ := getS2 X0 hx hZ hown (host := "") (Or.inl (W 26 rfl)) Via.refl e0 S_AU (g := (mkF m 1 #[.val (.ref a1)] [(.ref a1)])) rfl (hb hby d1_1)
  refine own_go st4 ?_
  show own_Run p e below _ T4 (mkF m 4 #[.val (.ref a1)] [(.ref o6), (.ref a1)])
  refine own_go (fun _ k => Jvm.RoadKit.acmp (g := (mkF m 4 #[.val (.ref a1)] [(.ref o6), (.ref a1)])) X4 hx rfl rfl rfl (pc0 := 4) (pc' := 7) (same := false) rfl (hb hby d1_4) rfl (decide_eq_false fun q => ne_a1_o6 (Value.ref.inj q)) (by decide) (by decide) k) ?_
  show own_Run p e below _ T4 (mkF m 7 #[.val (.ref a1)] [])
  refine own_go (fun _ k => XS.aloadN X4.here hx rfl (hb hby d1_7) rfl rfl k) ?_
  show own_Run p e below _ T4 (mkF m 8 #[.val (.ref a1)] [(.ref a1)])
  obtain ⟨T5, X5, e5, st5⟩ := getS2 X4 hx hZ hown (host := "") (Or.inl (W 27 rfl)) Via.refl e4 S_EU (g := (mkF m 8 #[.val (.ref a1)] [(.ref a1)])) rfl (hb hby d1_8)
  refine own_go st5 ?_
  show own_Run p e below _ T5 (mkF m 11 #[.val (.ref a1)] [(.ref o7), (.ref a1)])
  refine own_go (fun _ k => Jvm.RoadKit.acmp (g := (mkF m 11 #[.val (.ref a1)] [(.ref o7), (.ref a1)])) X5 hx rfl rfl rfl (pc0 := 11) (pc' := 18) (same := false) rfl (hb hby d1_11) rfl (decide_eq_false fun q => ne_a1_o7 (Value.ref.inj q)) (by decide) (by decide) k) ?_
  show own_Run p e below _ T5 (mkF m 18 #[.val (.ref a1)] [])
  refine own_go (fun _ k => XS.iconst X5.here hx rfl (hb hby d1_18) k) ?_
  show own_Run p e below _ T5 (mkF m 19 #[.val (.ref a1)] [(.int (0 : Int32))])
  refine own_done (Q := fun v h L => Q1a1 Z a1 o6 o7 h0 n0 v h L) (v := (some (.int (0 : Int32)))) X5 (fun h => by rw [hret] at h; cases h) hlk (fun fs hr => retN X5 hx (t := .boolean) hret (by simp) (hb hby d1_19) hr) ?_ (by decide) (by decide)
  show Q1a1 Z a1 o6 o7 h0 n0 _ T5.heap _
  rw [e5]
  exact ⟨rfl, N0, rfl⟩
theorem d2_0 : decode prog_57_method_6_code 0 = .ok (.aload_n 0, 1) := by decide +kernel
theorem d2_1 : decode prog_57_method_6_code 1 = .ok (.getfield 47, 3) := by decide +kernel
theorem d2_4 : decode prog_57_method_6_code 4 = .ok (.areturn, 1) := by decide +kernel
theorem pn_2 : plainName "com/example/error_to_hazard/errortohazard/model/CtlFormula$Temporal" = true := by first | (simp [plainName, overriddenIn]; done) | decide +kernel
theorem ef_2 (m : MethodId) (x0 : Addr) : entryFrame m #[(.ref x0)] 1 = mkF m 0 #[.val (.ref x0)] [] := by first | (simp [entryFrame, mkF, argsToLocals, Value.category]; done) | rfl
def Q2 (Z : State) (a1 : Addr) (w1 : Addr) (h0 : Heap) (n0 : Nat) (v : Option Value) (h : Heap) (L : List Loc) : Prop := v = some (.ref w1) ∧ Fr n0 L ∧ h = h0
set_option maxRecDepth 65536 in
set_option maxHeartbeats 40000000 in
theorem rm2 (l : Launch) (Z : State) (a0 : Array Value) (hw : ∀ d ∈ tables_1, d.before a0 Z = true) (ws : List Jvm.Cond) (a1 : Addr) (w1 : Addr) (h0 : Heap) (n0 : Nat) (Z0 : n0 ≤ h0.size) (F_symbol_a1 : Fld Z h0 a1 "com/example/error_to_hazard/errortohazard/model/CtlFormula$Temporal" "symbol" "Ljava/lang/String;" (.ref w1)) :
    MetFree l (⟨"com/example/error_to_hazard/errortohazard/model/CtlFormula$Temporal", "symbol", "()Ljava/lang/String;"⟩ : MethodName) (head1 (Jvm.Cond.code (⟨"com/example/error_to_hazard/errortohazard/model/CtlFormula$Temporal", "symbol", "()Ljava/lang/String;"⟩ : MethodName) prog_57_method_6_code 1 (some (.object "java/lang/String")) :: ws) ({ frames := 0, cells := 0, slots := 0, locals := 0 } : Room)) (fun a U => a = #[(.ref a1)] ∧ Z.Warmed39 U.vm ∧ U.heap = h0) (fun _ _ _ _ _ => True) (fun _ U o U' => ∃ v L, o = .returned v ∧ Q2 Z a1 w1 h0 n0 v U'.heap L ∧ FrameEnd U o U' L ({ frames := 0, cells := 0, slots := 0, locals := 0 } : Room).cells ({ frames := 0, cells := 0, slots := 0, locals := 0 } : Room).slots) := by
  refine MetFree.of_bodySF (plainFor_of_name pn_2) hisR ?_
  intro p e s m args below meth c s₁ Bd hml0 hP hK
  obtain ⟨rfl, hZ, hh⟩ := hP
  have hx := Bd.exec
  have hby := Bd.bytes
  have hml : c.maxLocals = 1 := hml0
  have hown : s.vm.findClass "com/example/error_to_hazard/errortohazard/model/CtlFormula$Temporal" = some m.cls := findClass_of_methodNamed Bd.named
  have hnm := (name_of_methodNamed Bd.named Bd.method).1
  have hret := Bd.returns
  have hlk : meth.locks = false := BodyLoose.notSynchronized Bd
  have X0 : Stand p l e ({ frames := 0, cells := 0, slots := 0, locals := 0 } : Room) s m #[(.ref a1)] below meth c s₁ [] 0 0 := Stand.of_body Bd
  have e0 : s₁.heap = h0 := by rw [← hh, Bd.state]; rfl
  have N0 := Fr.nil n0
  have W := fun (k : Nat) {d : Jvm.Cond} (h : tables_1[k]? = some d) => hw d (List.mem_of_getElem? h)
  have K0 : Keep h0 h0 [] := Keep.refl _ _
  refine own_start (ef_2 m a1) ?_
  show own_Run p e below _ s₁ (mkF m 0 #[.val (.ref a1)] [])
  refine own_go (fun _ k => XS.aloadN X0.here hx rfl (hb hby d2_0) rfl rfl k) ?_
  show own_Run p e below _ s₁ (mkF m 1 #[.val (.ref a1)] [(.ref a1)])
  obtain ⟨T6, X6, e6, st6⟩ := getF X0 hx hZ hown (host := "") (Or.inl (W 33 rfl)) Via.refl e0 F_symbol_a1 (g := (mkF m 1 #[.val (.ref a1)] [(.ref a1)])) rfl rfl (hb hby d2_1)
  refine own_go st6 ?_
  show own_Run p e below _ T6 (mkF m 4 #[.val (.ref a1)] [(.ref w1)])
  refine own_done (Q := fun v h L => Q2 Z a1 w1 h0 n0 v h L) (v := (some (.ref w1))) X6 (fun h => by rw [hret] at h; cases h) hlk (fun fs hr => own_retA X6 hx hret rfl rfl rfl (hb hby d2_4) hr) ?_ (by decide) (by decide)
  show Q2 Z a1 w1 h0 n0 _ T6.heap _
  rw [e6]
  exact ⟨rfl, N0, rfl⟩
theorem d4_0 : decode jdk_42_method_152_code 0 = .ok (.getstatic 38, 3) := by decide +kernel
theorem d4_3 : decode jdk_42_method_152_code 3 = .ok (.ifCond .eq 10, 3) := by decide +kernel
theorem d4_6 : decode jdk_42_method_152_code 6 = .ok (.aload_n 0, 1) := by decide +kernel
theorem d4_7 : decode jdk_42_method_152_code 7 = .ok (.getfield 15, 3) := by decide +kernel
theorem d4_10 : decode jdk_42_method_152_code 10 = .ok (.goto 4, 3) := by decide +kernel
theorem d4_13 : decode jdk_42_method_152_code 13 = .ok (.iconst 1, 1) := by decide +kernel
theorem d4_14 : decode jdk_42_method_152_code 14 = .ok (.ireturn, 1) := by decide +kernel
theorem pn_4 : plainName "java/lang/String" = true := by first | (simp [plainName, overriddenIn]; done) | decide +kernel
theorem ef_4 (m : MethodId) (x0 : Addr) : entryFrame m #[(.ref x0)] 1 = mkF m 0 #[.val (.ref x0)] [] := by first | (simp [entryFrame, mkF, argsToLocals, Value.category]; done) | rfl
def Q4 (Z : State) (a1 : Addr) (cs : Int32) (h0 : Heap) (n0 : Nat) (v : Option Value) (h : Heap) (L : List Loc) : Prop := v = some (.int (0 : Int32)) ∧ Fr n0 L ∧ h = h0
set_option maxRecDepth 65536 in
set_option maxHeartbeats 40000000 in
theorem rm4 (l : Launch) (Z : State) (a0 : Array Value) (hw : ∀ d ∈ tables_1, d.before a0 Z = true) (ws : List Jvm.Cond) (a1 : Addr) (cs : Int32) (h0 : Heap) (n0 : Nat) (Z0 : n0 ≤ h0.size) (S_COMPACT_STRINGS : Sta Z h0 "java/lang/String" "COMPACT_STRINGS" "Z" (.int cs)) (hcs : ¬ (cs = (0 : Int32))) (F_coder_a1 : Fld Z h0 a1 "java/lang/String" "coder" "B" (.int (0 : Int32))) :
    MetFree l (⟨"java/lang/String", "coder", "()B"⟩ : MethodName) (head1 (Jvm.Cond.code (⟨"java/lang/String", "coder", "()B"⟩ : MethodName) jdk_42_method_152_code 1 (some .byte) :: ws) ({ frames := 0, cells := 0, slots := 0, locals := 0 } : Room)) (fun a U => a = #[(.ref a1)] ∧ Z.Warmed39 U.vm ∧ U.heap = h0) (fun _ _ _ _ _ => True) (fun _ U o U' => ∃ v L, o = .returned v ∧ Q4 Z a1 cs h0 n0 v U'.heap L ∧ FrameEnd U o U' L ({ frames := 0, cells := 0, slots := 0, locals := 0 } : Room).cells ({ frames := 0, cells := 0, slots := 0, locals := 0 } : Room).slots) := by
  refine MetFree.of_bodySF (plainFor_of_name pn_4) hisR ?_
  intro p e s m args below meth c s₁ Bd hml0 hP hK
  obtain ⟨rfl, hZ, hh⟩ := hP
  have hx := Bd.exec
  have hby := Bd.bytes
  have hml : c.maxLocals = 1 := hml0
  have hown : s.vm.findClass "java/lang/String" = some m.cls := findClass_of_methodNamed Bd.named
  have hnm := (name_of_methodNamed Bd.named Bd.method).1
  have hret := Bd.returns
  have hlk : meth.locks = false := BodyLoose.notSynchronized Bd
  have X0 : Stand p l e ({ frames := 0, cells := 0, slots := 0, locals := 0 } : Room) s m #[(.ref a1)] below meth c s₁ [] 0 0 := Stand.of_body Bd
  have e0 : s₁.heap = h0 := by rw [← hh, Bd.state]; rfl
  have N0 := Fr.nil n0
  have W := fun (k : Nat) {d : Jvm.Cond} (h : tables_1[k]? = some d) => hw d (List.mem_of_getElem? h)
  have K0 : Keep h0 h0 [] := Keep.refl _ _
  refine own_start (ef_4 m a1) ?_
  show own_Run p e below _ s₁ (mkF m 0 #[.val (.ref a1)] [])
  obtain ⟨T7, X7, e7, st7⟩ := getS2 X0 hx hZ hown (host := "") (Or.inl (W 48 rfl)) Via.refl e0 S_COMPACT_STRINGS (g := (mkF m 0 #[.val (.ref a1)] [])) rfl (hb hby d4_0)
  refine own_go st7 ?_
  show own_Run p e below _ T7 (mkF m 3 #[.val (.ref a1)] [(.int cs)])
  refine own_go (fun _ k => XS.ifNo X7.here hx rfl (hb hby d4_3) rfl ((if0 _ _).trans (feq hcs).1) k) ?_
  show own_Run p e below _ T7 (mkF m 6 #[.val (.ref a1)] [])
  refine own_go (fun _ k => XS.aloadN X7.here hx rfl (hb hby d4_6) rfl rfl k) ?_
  show own_Run p e below _ T7 (mkF m 7 #[.val (.ref a1)] [(.ref a1)])
  obtain ⟨T8, X8, e8, st8⟩ := getF X7 hx hZ hown (host := "") (Or.inl (W 49 rfl)) Via.refl e7 F_coder_a1 (g := (mkF m 7 #[.val (.ref a1)] [(.ref a1)])) rfl rfl (hb hby d4_7)
  refine own_go st8 ?_
  show own_Run p e below _ T8 (mkF m 10 #[.val (.ref a1)] [(.int (0 : Int32))])
  refine own_go (fun _ k => XS.goto X8.here hx rfl (pc0 := 10) (pc' := 14) rfl (hb hby d4_10) (by decide) (by decide) k) ?_
  show own_Run p e below _ T8 (mkF m 14 #[.val (.ref a1)] [(.int (0 : Int32))])
  refine own_done (Q := fun v h L => Q4 Z a1 cs h0 n0 v h L) (v := (some (.int (0 : Int32)))) X8 (fun h => by rw [hret] at h; cases h) hlk (fun fs hr => retN X8 hx (t := .byte) hret (by simp) (hb hby d4_14) hr) ?_ (by decide) (by decide)
  show Q4 Z a1 cs h0 n0 _ T8.heap _
  rw [e8]
  exact ⟨rfl, N0, rfl⟩
theorem d6_0 : decode jdk_42_method_154_code 0 = .ok (.getstatic 38, 3) := by decide +kernel
theorem d6_3 : decode jdk_42_method_154_code 3 = .ok (.ifCond .eq 14, 3) := by decide +kernel
theorem d6_6 : decode jdk_42_method_154_code 6 = .ok (.aload_n 0, 1) := by decide +kernel
theorem d6_7 : decode jdk_42_method_154_code 7 = .ok (.getfield 15, 3) := by decide +kernel
theorem d6_10 : decode jdk_42_method_154_code 10 = .ok (.ifCond .ne 7, 3) := by decide +kernel
theorem d6_13 : decode jdk_42_method_154_code 13 = .ok (.iconst 1, 1) := by decide +kernel
theorem d6_14 : decode jdk_42_method_154_code 14 = .ok (.goto 4, 3) := by decide +kernel
theorem d6_17 : decode jdk_42_method_154_code 17 = .ok (.iconst 0, 1) := by decide +kernel
theorem d6_18 : decode jdk_42_method_154_code 18 = .ok (.ireturn, 1) := by decide +kernel
theorem pn_6 : plainName "java/lang/String" = true := by first | (simp [plainName, overriddenIn]; done) | decide +kernel
theorem ef_6 (m : MethodId) (x0 : Addr) : entryFrame m #[(.ref x0)] 1 = mkF m 0 #[.val (.ref x0)] [] := by first | (simp [entryFrame, mkF, argsToLocals, Value.category]; done) | rfl
def Q6 (Z : State) (a1 : Addr) (cs : Int32) (h0 : Heap) (n0 : Nat) (v : Option Value) (h : Heap) (L : List Loc) : Prop := v = some (.int (1 : Int32)) ∧ Fr n0 L ∧ h = h0
set_option maxRecDepth 65536 in
set_option maxHeartbeats 40000000 in
theorem rm6 (l : Launch) (Z : State) (a0 : Array Value) (hw : ∀ d ∈ tables_1, d.before a0 Z = true) (ws : List Jvm.Cond) (a1 : Addr) (cs : Int32) (h0 : Heap) (n0 : Nat) (Z0 : n0 ≤ h0.size) (S_COMPACT_STRINGS : Sta Z h0 "java/lang/String" "COMPACT_STRINGS" "Z" (.int cs)) (hcs : ¬ (cs = (0 : Int32))) (F_coder_a1 : Fld Z h0 a1 "java/lang/String" "coder" "B" (.int (0 : Int32))) :
    MetFree l (⟨"java/lang/String", "isLatin1", "()Z"⟩ : MethodName) (head1 (Jvm.Cond.code (⟨"java/lang/String", "isLatin1", "()Z"⟩ : MethodName) jdk_42_method_154_code 1 (some .boolean) :: ws) ({ frames := 0, cells := 0, slots := 0, locals := 0 } : Room)) (fun a U => a = #[(.ref a1)] ∧ Z.Warmed39 U.vm ∧ U.heap = h0) (fun _ _ _ _ _ => True) (fun _ U o U' => ∃ v L, o = .returned v ∧ Q6 Z a1 cs h0 n0 v U'.heap L ∧ FrameEnd U o U' L ({ frames := 0, cells := 0, slots := 0, locals := 0 } : Room).cells ({ frames := 0, cells := 0, slots := 0, locals := 0 } : Room).slots) := by
  refine MetFree.of_bodySF (plainFor_of_name pn_6) hisR ?_
  intro p e s m args below meth c s₁ Bd hml0 hP hK
  obtain ⟨rfl, hZ, hh⟩ := hP
  have hx := Bd.exec
  have hby := Bd.bytes
  have hml : c.maxLocals = 1 := hml0
  have hown : s.vm.findClass "java/lang/String" = some m.cls := findClass_of_methodNamed Bd.named
  have hnm := (name_of_methodNamed Bd.named Bd.method).1
  have hret := Bd.returns
  have hlk : meth.locks = false := BodyLoose.notSynchronized Bd
  have X0 : Stand p l e ({ frames := 0, cells := 0, slots := 0, locals := 0 } : Room) s m #[(.ref a1)] below meth c s₁ [] 0 0 := Stand.of_body Bd
  have e0 : s₁.heap = h0 := by rw [← hh, Bd.state]; rfl
  have N0 := Fr.nil n0
  have W := fun (k : Nat) {d : Jvm.Cond} (h : tables_1[k]? = some d) => hw d (List.mem_of_getElem? h)
  have K0 : Keep h0 h0 [] := Keep.refl _ _
  refine own_start (ef_6 m a1) ?_
  show own_Run p e below _ s₁ (mkF m 0 #[.val (.ref a1)] [])
  obtain ⟨T9, X9, e9, st9⟩ := getS2 X0 hx hZ hown (host := "") (Or.inl (W 48 rfl)) Via.refl e0 S_COMPACT_STRINGS (g := (mkF m 0 #[.val (.ref a1)] [])) rfl (hb hby d6_0)
  refine own_go st9 ?_
  show own_Run p e below _ T9 (mkF m 3 #[.val (.ref a1)] [(.int cs)])
  refine own_go (fun _ k => XS.ifNo X9.here hx rfl (hb hby d6_3) rfl ((if0 _ _).trans (feq hcs).1) k) ?_
  show own_Run p e below _ T9 (mkF m 6 #[.val (.ref a1)] [])
  refine own_go (fun _ k => XS.aloadN X9.here hx rfl (hb hby d6_6) rfl rfl k) ?_
  show own_Run p e below _ T9 (mkF m 7 #[.val (.ref a1)] [(.ref a1)])
  obtain ⟨T10, X10, e10, st10⟩ := getF X9 hx hZ hown (host := "") (Or.inl (W 49 rfl)) Via.refl e9 F_coder_a1 (g := (mkF m 7 #[.val (.ref a1)] [(.ref a1)])) rfl rfl (hb hby d6_7)
  refine own_go st10 ?_
  show own_Run p e below _ T10 (mkF m 10 #[.val (.ref a1)] [(.int (0 : Int32))])
  refine own_go (fun _ k => XS.ifNo X10.here hx rfl (hb hby d6_10) rfl ((if0 _ _).trans (teq (by decide : (0 : Int32) = (0 : Int32))).2) k) ?_
  show own_Run p e below _ T10 (mkF m 13 #[.val (.ref a1)] [])
  refine own_go (fun _ k => XS.iconst X10.here hx rfl (hb hby d6_13) k) ?_
  refine own_go (fun _ k => XS.goto X10.here hx rfl (pc0 := 14) (pc' := 18) rfl (hb hby d6_14) (by decide) (by decide) k) ?_
  show own_Run p e below _ T10 (mkF m 18 #[.val (.ref a1)] [(.int (1 : Int32))])
  refine own_done (Q := fun v h L => Q6 Z a1 cs h0 n0 v h L) (v := (some (.int (1 : Int32)))) X10 (fun h => by rw [hret] at h; cases h) hlk (fun fs hr => retN X10 hx (t := .boolean) hret (by simp) (hb hby d6_18) hr) ?_ (by decide) (by decide)
  show Q6 Z a1 cs h0 n0 _ T10.heap _
  rw [e10]
  exact ⟨rfl, N0, rfl⟩
theorem d3_0 : decode jdk_42_method_54_code 0 = .ok (.aload_n 0, 1) := by decide +kernel
theorem d3_1 : decode jdk_42_method_54_code 1 = .ok (.getfield 9, 3) := by decide +kernel
theorem d3_4 : decode jdk_42_method_54_code 4 = .ok (.arraylength, 1) := by decide +kernel
theorem d3_5 : decode jdk_42_method_54_code 5 = .ok (.aload_n 0, 1) := by decide +kernel
theorem d3_6 : decode jdk_42_method_54_code 6 = .ok (.invokevirtual 335, 3) := by decide +kernel
theorem d3_9 : decode jdk_42_method_54_code 9 = .ok (.ishr, 1) := by decide +kernel
theorem d3_10 : decode jdk_42_method_54_code 10 = .ok (.ireturn, 1) := by decide +kernel
theorem pn_3 : plainName "java/lang/String" = true := by first | (simp [plainName, overriddenIn]; done) | decide +kernel
theorem ef_3 (m : MethodId) (x0 : Addr) : entryFrame m #[(.ref x0)] 1 = mkF m 0 #[.val (.ref x0)] [] := by first | (simp [entryFrame, mkF, argsToLocals, Value.category]; done) | rfl
theorem pd_1 : parseMethodDescriptor "()B" = some ⟨[], some .byte⟩ := by decide +kernel
def Q3 (Z : State) (a1 : Addr) (cs : Int32) (b1 : Addr) (k1 : ClassId) (c0 : Int32) (c1 : Int32) (h0 : Heap) (n0 : Nat) (v : Option Value) (h : Heap) (L : List Loc) : Prop := v = some (.int (2 : Int32)) ∧ Fr n0 L ∧ h = h0
set_option maxRecDepth 65536 in
set_option maxHeartbeats 40000000 in
theorem rm3 (l : Launch) (Z : State) (a0 : Array Value) (hw : ∀ d ∈ tables_1, d.before a0 Z = true) (ws : List Jvm.Cond) (a1 : Addr) (cs : Int32) (b1 : Addr) (k1 : ClassId) (c0 : Int32) (c1 : Int32) (h0 : Heap) (n0 : Nat) (Z0 : n0 ≤ h0.size) (S_COMPACT_STRINGS : Sta Z h0 "java/lang/String" "COMPACT_STRINGS" "Z" (.int cs)) (hcs : ¬ (cs = (0 : Int32))) (E_a1 : Exa Z h0 a1 "java/lang/String") (F_coder_a1 : Fld Z h0 a1 "java/lang/String" "coder" "B" (.int (0 : Int32))) (F_value_a1 : Fld Z h0 a1 "java/lang/String" "value" "[B" (.ref b1)) (V_b1 : Arv Z h0 b1 k1 .byte (2 : Int32) [(.int c0), (.int c1)] (.int (0 : Int32))) :
    MetFree l (⟨"java/lang/String", "length", "()I"⟩ : MethodName) (head1 (Jvm.Cond.code (⟨"java/lang/String", "length", "()I"⟩ : MethodName) jdk_42_method_54_code 1 (some .int) :: ws) ({ frames := 1, cells := 0, slots := 0, locals := 13 } : Room)) (fun a U => a = #[(.ref a1)] ∧ Z.Warmed39 U.vm ∧ U.heap = h0) (fun _ _ _ _ _ => True) (fun _ U o U' => ∃ v L, o = .returned v ∧ Q3 Z a1 cs b1 k1 c0 c1 h0 n0 v U'.heap L ∧ FrameEnd U o U' L ({ frames := 1, cells := 0, slots := 0, locals := 13 } : Room).cells ({ frames := 1, cells := 0, slots := 0, locals := 13 } : Room).slots) := by
  refine MetFree.of_bodySF (plainFor_of_name pn_3) hisR ?_
  intro p e s m args below meth c s₁ Bd hml0 hP hK
  obtain ⟨rfl, hZ, hh⟩ := hP
  have hx := Bd.exec
  have hby := Bd.bytes
  have hml : c.maxLocals = 1 := hml0
  have hown : s.vm.findClass "java/lang/String" = some m.cls := findClass_of_methodNamed Bd.named
  have hnm := (name_of_methodNamed Bd.named Bd.method).1
  have hret := Bd.returns
  have hlk : meth.locks = false := BodyLoose.notSynchronized Bd
  have X0 : Stand p l e ({ frames := 1, cells := 0, slots := 0, locals := 13 } : Room) s m #[(.ref a1)] below meth c s₁ [] 0 0 := Stand.of_body Bd
  have e0 : s₁.heap = h0 := by rw [← hh, Bd.state]; rfl
  have N0 := Fr.nil n0
  have W := fun (k : Nat) {d : Jvm.Cond} (h : tables_1[k]? = some d) => hw d (List.mem_of_getElem? h)
  have K0 : Keep h0 h0 [] := Keep.refl _ _
  refine own_start (ef_3 m a1) ?_
  show own_Run p e below _ s₁ (mkF m 0 #[.val (.ref a1)] [])
  refine own_go (fun _ k => XS.aloadN X0.here hx rfl (hb hby d3_0) rfl rfl k) ?_
  show own_Run p e below _ s₁ (mkF m 1 #[.val (.ref a1)] [(.ref a1)])
  obtain ⟨T11, X11, e11, st11⟩ := getF X0 hx hZ hown (host := "") (Or.inl (W 41 rfl)) Via.refl e0 F_value_a1 (g := (mkF m 1 #[.val (.ref a1)] [(.ref a1)])) rfl rfl (hb hby d3_1)
  refine own_go st11 ?_
  show own_Run p e below _ T11 (mkF m 4 #[.val (.ref a1)] [(.ref b1)])
  obtain ⟨cl12, Ar12, q12, S12, N12, H12, G12⟩ := id V_b1
  refine own_go (X11.arraylength hx (by rw [e11]; exact Ar12.1) (State.isArrayOf_alike hZ.alike Ar12.2.1) (g := (mkF m 4 #[.val (.ref a1)] [(.ref b1)])) rfl rfl (hb hby d3_4)) ?_
  rw [len_of S12 N12]
  show own_Run p e below _ T11 (mkF m 5 #[.val (.ref a1)] [(.int (2 : Int32))])
  refine own_go (fun _ k => XS.aloadN X11.here hx rfl (hb hby d3_5) rfl rfl k) ?_
  show own_Run p e below _ T11 (mkF m 6 #[.val (.ref a1)] [(.ref a1), (.int (2 : Int32))])
  obtain ⟨cq13, kq13, q13a, q13b, q13c⟩ := isOf hZ e11 E_a1
  obtain ⟨_, _, ⟨T13, L13, k13, n13⟩, -, X13, ⟨Lc13, hQ13, l13, y13, z13⟩, st13⟩ := X11.virtualBack hx (y := (⟨"java/lang/String", "coder", "()B"⟩ : MethodName)) (z := (⟨"java/lang/String", "coder", "()B"⟩ : MethodName)) hown (mvT hZ (W 43 rfl)) (mvT hZ (W 44 rfl)) (notFace_of_selects (args := #[]) (mvT hZ (W 46 rfl))) (mvT hZ (W 46 rfl)) (mvT hZ (W 45 rfl)) (by decide) (backOf (W := 1) (rm4 l Z a0 hw [] a1 cs h0 n0 Z0 S_COMPACT_STRINGS (hcs) F_coder_a1) hZ (W 47 rfl) (W 39 rfl) (by decide) (by decide)) q13a q13c (g := (mkF m 6 #[.val (.ref a1)] [(.ref a1), (.int (2 : Int32))])) rfl (by rw [hml]; rfl) (Steps.refl _) (argsL := []) (rest := [(.int (2 : Int32))]) (lenOf pd_1 rfl) rfl (by show 2 * 0 + _ ≤ _; exact Nat.le_of_eq rfl) (hb hby d3_6) (fun _ _ => ⟨rfl, e11, (by decide : 0 + 0 ≤ _), (by decide : 0 + 0 ≤ _)⟩)
  dsimp only [Pt.U, Pt.locs, Pt.cells, Pt.slots] at X13 l13 y13 z13 st13 hQ13
  subst l13 y13 z13
  obtain ⟨rfl, N13q, e13⟩ := hQ13
  have N13 := Fr.app N0 N13q
  refine own_goT st13 ?_
  show own_Run p e below _ T13 (mkF m 9 #[.val (.ref a1)] [(.int (0 : Int32)), (.int (2 : Int32))])
  refine own_go (fun _ k => XS.ishr X13.here hx rfl (hb hby d3_9) rfl k) ?_
  show own_Run p e below _ T13 (mkF m 10 #[.val (.ref a1)] [(.int ((2 : Int32) >>> ((0 : Int32) &&& 31)))])
  rw [show ((2 : Int32) >>> ((0 : Int32) &&& 31)) = (2 : Int32) by decide]
  show own_Run p e below _ T13 (mkF m 10 #[.val (.ref a1)] [(.int (2 : Int32))])
  refine own_done (Q := fun v h L => Q3 Z a1 cs b1 k1 c0 c1 h0 n0 v h L) (v := (some (.int (2 : Int32)))) X13 (fun h => by rw [hret] at h; cases h) hlk (fun fs hr => own_retI X13 hx hret (hb hby d3_10) hr) ?_ (by decide) (by decide)
  show Q3 Z a1 cs b1 k1 c0 c1 h0 n0 _ T13.heap _
  rw [e13]
  exact ⟨rfl, N13, rfl⟩
theorem d9_0 : decode jdk_41_method_11_code 0 = .ok (.iload_n 0, 1) := by decide +kernel
theorem d9_1 : decode jdk_41_method_11_code 1 = .ok (.ifCond .lt 8, 3) := by decide +kernel
theorem d9_4 : decode jdk_41_method_11_code 4 = .ok (.iload_n 0, 1) := by decide +kernel
theorem d9_5 : decode jdk_41_method_11_code 5 = .ok (.iload_n 1, 1) := by decide +kernel
theorem d9_6 : decode jdk_41_method_11_code 6 = .ok (.if_icmp .lt 10, 3) := by decide +kernel
theorem d9_9 : decode jdk_41_method_11_code 9 = .ok (.aload_n 2, 1) := by decide +kernel
theorem d9_10 : decode jdk_41_method_11_code 10 = .ok (.iload_n 0, 1) := by decide +kernel
theorem d9_11 : decode jdk_41_method_11_code 11 = .ok (.iload_n 1, 1) := by decide +kernel
theorem d9_12 : decode jdk_41_method_11_code 12 = .ok (.invokestatic 95, 3) := by decide +kernel
theorem d9_15 : decode jdk_41_method_11_code 15 = .ok (.athrow, 1) := by decide +kernel
theorem d9_16 : decode jdk_41_method_11_code 16 = .ok (.iload_n 0, 1) := by decide +kernel
theorem d9_17 : decode jdk_41_method_11_code 17 = .ok (.ireturn, 1) := by decide +kernel
theorem pn_9 : plainName "jdk/internal/util/Preconditions" = true := by first | (simp [plainName, overriddenIn]; done) | decide +kernel
theorem ef_9n (m : MethodId) (x0 : Int32) (x1 : Int32) : entryFrame m #[(.int x0), (.int x1), .null] 3 = mkF m 0 #[.val (.int x0), .val (.int x1), .val .null] [] := by first | (simp [entryFrame, mkF, argsToLocals, Value.category]; done) | rfl
def Q9null (Z : State)  (h0 : Heap) (n0 : Nat) (v : Option Value) (h : Heap) (L : List Loc) : Prop := v = some (.int (1 : Int32)) ∧ Fr n0 L ∧ h = h0
set_option maxRecDepth 65536 in
set_option maxHeartbeats 40000000 in
theorem rm9null (l : Launch) (Z : State) (a0 : Array Value) (hw : ∀ d ∈ tables_1, d.before a0 Z = true) (ws : List Jvm.Cond)  (h0 : Heap) (n0 : Nat) (Z0 : n0 ≤ h0.size) :
    MetFree l (⟨"jdk/internal/util/Preconditions", "checkIndex", "(IILjava/util/function/BiFunction;)I"⟩ : MethodName) (head1 (Jvm.Cond.code (⟨"jdk/internal/util/Preconditions", "checkIndex", "(IILjava/util/function/BiFunction;)I"⟩ : MethodName) jdk_41_method_11_code 3 (some .int) :: ws) ({ frames := 0, cells := 0, slots := 0, locals := 0 } : Room)) (fun a U => a = #[(.int (1 : Int32)), (.int (2 : Int32)), .null] ∧ Z.Warmed39 U.vm ∧ U.heap = h0) (fun _ _ _ _ _ => True) (fun _ U o U' => ∃ v L, o = .returned v ∧ Q9null Z  h0 n0 v U'.heap L ∧ FrameEnd U o U' L ({ frames := 0, cells := 0, slots := 0, locals := 0 } : Room).cells ({ frames := 0, cells := 0, slots := 0, locals := 0 } : Room).slots) := by
  refine MetFree.of_bodySF (plainFor_of_name pn_9) hisR ?_
  intro p e s m args below meth c s₁ Bd hml0 hP hK
  obtain ⟨rfl, hZ, hh⟩ := hP
  have hx := Bd.exec
  have hby := Bd.bytes
  have hml : c.maxLocals = 3 := hml0
  have hown : s.vm.findClass "jdk/internal/util/Preconditions" = some m.cls := findClass_of_methodNamed Bd.named
  have hnm := (name_of_methodNamed Bd.named Bd.method).1
  have hret := Bd.returns
  have hlk : meth.locks = false := BodyLoose.notSynchronized Bd
  have X0 : Stand p l e ({ frames := 0, cells := 0, slots := 0, locals := 0 } : Room) s m #[(.int (1 : Int32)), (.int (2 : Int32)), .null] below meth c s₁ [] 0 0 := Stand.of_body Bd
  have e0 : s₁.heap = h0 := by rw [← hh, Bd.state]; rfl
  have N0 := Fr.nil n0
  have W := fun (k : Nat) {d : Jvm.Cond} (h : tables_1[k]? = some d) => hw d (List.mem_of_getElem? h)
  have K0 : Keep h0 h0 [] := Keep.refl _ _
  refine own_start (ef_9n m (1 : Int32) (2 : Int32)) ?_
  show own_Run p e below _ s₁ (mkF m 0 #[.val (.int (1 : Int32)), .val (.int (2 : Int32)), .val .null] [])
  refine own_go (fun _ k => XS.iloadN X0.here hx rfl (hb hby d9_0) rfl k) ?_
  show own_Run p e below _ s₁ (mkF m 1 #[.val (.int (1 : Int32)), .val (.int (2 : Int32)), .val .null] [(.int (1 : Int32))])
  refine own_go (fun _ k => XS.ifNo X0.here hx rfl (hb hby d9_1) rfl ((if0 _ _).trans (flt (by decide : ¬ ((1 : Int32) < (0 : Int32)))).1) k) ?_
  show own_Run p e below _ s₁ (mkF m 4 #[.val (.int (1 : Int32)), .val (.int (2 : Int32)), .val .null] [])
  refine own_go (fun _ k => XS.iloadN X0.here hx rfl (hb hby d9_4) rfl k) ?_
  refine own_go (fun _ k => XS.iloadN X0.here hx rfl (hb hby d9_5) rfl k) ?_
  show own_Run p e below _ s₁ (mkF m 6 #[.val (.int (1 : Int32)), .val (.int (2 : Int32)), .val .null] [(.int (2 : Int32)), (.int (1 : Int32))])
  refine own_go (fun _ k => XS.icmpYes X0.here hx rfl (pc0 := 6) (pc' := 16) rfl (hb hby d9_6) rfl (tlt (by decide : (1 : Int32) < (2 : Int32))).1 (by decide) (by decide) k) ?_
  show own_Run p e below _ s₁ (mkF m 16 #[.val (.int (1 : Int32)), .val (.int (2 : Int32)), .val .null] [])
  refine own_go (fun _ k => XS.iloadN X0.here hx rfl (hb hby d9_16) rfl k) ?_
  show own_Run p e below _ s₁ (mkF m 17 #[.val (.int (1 : Int32)), .val (.int (2 : Int32)), .val .null] [(.int (1 : Int32))])
  refine own_done (Q := fun v h L => Q9null Z  h0 n0 v h L) (v := (some (.int (1 : Int32)))) X0 (fun h => by rw [hret] at h; cases h) hlk (fun fs hr => own_retI X0 hx hret (hb hby d9_17) hr) ?_ (by decide) (by decide)
  show Q9null Z  h0 n0 _ s₁.heap _
  rw [e0]
  exact ⟨rfl, N0, rfl⟩
theorem ef_9 (m : MethodId) (x0 : Int32) (x1 : Int32) (x2 : Addr) : entryFrame m #[(.int x0), (.int x1), (.ref x2)] 3 = mkF m 0 #[.val (.int x0), .val (.int x1), .val (.ref x2)] [] := by first | (simp [entryFrame, mkF, argsToLocals, Value.category]; done) | rfl
def Q9a3 (Z : State) (a3 : Addr) (h0 : Heap) (n0 : Nat) (v : Option Value) (h : Heap) (L : List Loc) : Prop := v = some (.int (1 : Int32)) ∧ Fr n0 L ∧ h = h0
set_option maxRecDepth 65536 in
set_option maxHeartbeats 40000000 in
theorem rm9a3 (l : Launch) (Z : State) (a0 : Array Value) (hw : ∀ d ∈ tables_1, d.before a0 Z = true) (ws : List Jvm.Cond) (a3 : Addr) (h0 : Heap) (n0 : Nat) (Z0 : n0 ≤ h0.size) :
    MetFree l (⟨"jdk/internal/util/Preconditions", "checkIndex", "(IILjava/util/function/BiFunction;)I"⟩ : MethodName) (head1 (Jvm.Cond.code (⟨"jdk/internal/util/Preconditions", "checkIndex", "(IILjava/util/function/BiFunction;)I"⟩ : MethodName) jdk_41_method_11_code 3 (some .int) :: ws) ({ frames := 0, cells := 0, slots := 0, locals := 0 } : Room)) (fun a U => a = #[(.int (1 : Int32)), (.int (2 : Int32)), (.ref a3)] ∧ Z.Warmed39 U.vm ∧ U.heap = h0) (fun _ _ _ _ _ => True) (fun _ U o U' => ∃ v L, o = .returned v ∧ Q9a3 Z a3 h0 n0 v U'.heap L ∧ FrameEnd U o U' L ({ frames := 0, cells := 0, slots := 0, locals := 0 } : Room).cells ({ frames := 0, cells := 0, slots := 0, locals := 0 } : Room).slots) := by
  refine MetFree.of_bodySF (plainFor_of_name pn_9) hisR ?_
  intro p e s m args below meth c s₁ Bd hml0 hP hK
  obtain ⟨rfl, hZ, hh⟩ := hP
  have hx := Bd.exec
  have hby := Bd.bytes
  have hml : c.maxLocals = 3 := hml0
  have hown : s.vm.findClass "jdk/internal/util/Preconditions" = some m.cls := findClass_of_methodNamed Bd.named
  have hnm := (name_of_methodNamed Bd.named Bd.method).1
  have hret := Bd.returns
  have hlk : meth.locks = false := BodyLoose.notSynchronized Bd
  have X0 : Stand p l e ({ frames := 0, cells := 0, slots := 0, locals := 0 } : Room) s m #[(.int (1 : Int32)), (.int (2 : Int32)), (.ref a3)] below meth c s₁ [] 0 0 := Stand.of_body Bd
  have e0 : s₁.heap = h0 := by rw [← hh, Bd.state]; rfl
  have N0 := Fr.nil n0
  have W := fun (k : Nat) {d : Jvm.Cond} (h : tables_1[k]? = some d) => hw d (List.mem_of_getElem? h)
  have K0 : Keep h0 h0 [] := Keep.refl _ _
  refine own_start (ef_9 m (1 : Int32) (2 : Int32) a3) ?_
  show own_Run p e below _ s₁ (mkF m 0 #[.val (.int (1 : Int32)), .val (.int (2 : Int32)), .val (.ref a3)] [])
  refine own_go (fun _ k => XS.iloadN X0.here hx rfl (hb hby d9_0) rfl k) ?_
  show own_Run p e below _ s₁ (mkF m 1 #[.val (.int (1 : Int32)), .val (.int (2 : Int32)), .val (.ref a3)] [(.int (1 : Int32))])
  refine own_go (fun _ k => XS.ifNo X0.here hx rfl (hb hby d9_1) rfl ((if0 _ _).trans (flt (by decide : ¬ ((1 : Int32) < (0 : Int32)))).1) k) ?_
  show own_Run p e below _ s₁ (mkF m 4 #[.val (.int (1 : Int32)), .val (.int (2 : Int32)), .val (.ref a3)] [])
  refine own_go (fun _ k => XS.iloadN X0.here hx rfl (hb hby d9_4) rfl k) ?_
  refine own_go (fun _ k => XS.iloadN X0.here hx rfl (hb hby d9_5) rfl k) ?_
  show own_Run p e below _ s₁ (mkF m 6 #[.val (.int (1 : Int32)), .val (.int (2 : Int32)), .val (.ref a3)] [(.int (2 : Int32)), (.int (1 : Int32))])
  refine own_go (fun _ k => XS.icmpYes X0.here hx rfl (pc0 := 6) (pc' := 16) rfl (hb hby d9_6) rfl (tlt (by decide : (1 : Int32) < (2 : Int32))).1 (by decide) (by decide) k) ?_
  show own_Run p e below _ s₁ (mkF m 16 #[.val (.int (1 : Int32)), .val (.int (2 : Int32)), .val (.ref a3)] [])
  refine own_go (fun _ k => XS.iloadN X0.here hx rfl (hb hby d9_16) rfl k) ?_
  show own_Run p e below _ s₁ (mkF m 17 #[.val (.int (1 : Int32)), .val (.int (2 : Int32)), .val (.ref a3)] [(.int (1 : Int32))])
  refine own_done (Q := fun v h L => Q9a3 Z a3 h0 n0 v h L) (v := (some (.int (1 : Int32)))) X0 (fun h => by rw [hret] at h; cases h) hlk (fun fs hr => own_retI X0 hx hret (hb hby d9_17) hr) ?_ (by decide) (by decide)
  show Q9a3 Z a3 h0 n0 _ s₁.heap _
  rw [e0]
  exact ⟨rfl, N0, rfl⟩
theorem d8_0 : decode jdk_42_method_155_code 0 = .ok (.iload_n 0, 1) := by decide +kernel
theorem d8_1 : decode jdk_42_method_155_code 1 = .ok (.iload_n 1, 1) := by decide +kernel
theorem d8_2 : decode jdk_42_method_155_code 2 = .ok (.getstatic 1053, 3) := by decide +kernel
theorem d8_5 : decode jdk_42_method_155_code 5 = .ok (.invokestatic 1059, 3) := by decide +kernel
theorem d8_8 : decode jdk_42_method_155_code 8 = .ok (.pop, 1) := by decide +kernel
theorem d8_9 : decode jdk_42_method_155_code 9 = .ok (.return_, 1) := by decide +kernel
theorem pn_8 : plainName "java/lang/String" = true := by first | (simp [plainName, overriddenIn]; done) | decide +kernel
theorem ef_8 (m : MethodId) (x0 : Int32) (x1 : Int32) : entryFrame m #[(.int x0), (.int x1)] 2 = mkF m 0 #[.val (.int x0), .val (.int x1)] [] := by first | (simp [entryFrame, mkF, argsToLocals, Value.category]; done) | rfl
theorem pd_2 : parseMethodDescriptor "(IILjava/util/function/BiFunction;)I" = some ⟨[.int, .int, (.object "java/util/function/BiFunction")], some .int⟩ := by decide +kernel
def Q8 (Z : State) (fm : Value) (h0 : Heap) (n0 : Nat) (v : Option Value) (h : Heap) (L : List Loc) : Prop := v = none ∧ Fr n0 L ∧ h = h0
set_option maxRecDepth 65536 in
set_option maxHeartbeats 40000000 in
theorem rm8 (l : Launch) (Z : State) (a0 : Array Value) (hw : ∀ d ∈ tables_1, d.before a0 Z = true) (ws : List Jvm.Cond) (fm : Value) (h0 : Heap) (n0 : Nat) (Z0 : n0 ≤ h0.size) (S_SIOOBE_FORMATTER : Sta Z h0 "jdk/internal/util/Preconditions" "SIOOBE_FORMATTER" "Ljava/util/function/BiFunction;" fm) (hfm : fm.isRef = true) :
    MetFree l (⟨"java/lang/String", "checkIndex", "(II)V"⟩ : MethodName) (head1 (Jvm.Cond.code (⟨"java/lang/String", "checkIndex", "(II)V"⟩ : MethodName) jdk_42_method_155_code 2 none :: ws) ({ frames := 1, cells := 0, slots := 0, locals := 14 } : Room)) (fun a U => a = #[(.int (1 : Int32)), (.int (2 : Int32))] ∧ Z.Warmed39 U.vm ∧ U.heap = h0) (fun _ _ _ _ _ => True) (fun _ U o U' => ∃ v L, o = .returned v ∧ Q8 Z fm h0 n0 v U'.heap L ∧ FrameEnd U o U' L ({ frames := 1, cells := 0, slots := 0, locals := 14 } : Room).cells ({ frames := 1, cells := 0, slots := 0, locals := 14 } : Room).slots) := by
  refine MetFree.of_bodySF (plainFor_of_name pn_8) hisR ?_
  intro p e s m args below meth c s₁ Bd hml0 hP hK
  obtain ⟨rfl, hZ, hh⟩ := hP
  have hx := Bd.exec
  have hby := Bd.bytes
  have hml : c.maxLocals = 2 := hml0
  have hown : s.vm.findClass "java/lang/String" = some m.cls := findClass_of_methodNamed Bd.named
  have hnm := (name_of_methodNamed Bd.named Bd.method).1
  have hret := Bd.returns
  have hlk : meth.locks = false := BodyLoose.notSynchronized Bd
  have X0 : Stand p l e ({ frames := 1, cells := 0, slots := 0, locals := 14 } : Room) s m #[(.int (1 : Int32)), (.int (2 : Int32))] below meth c s₁ [] 0 0 := Stand.of_body Bd
  have e0 : s₁.heap = h0 := by rw [← hh, Bd.state]; rfl
  have N0 := Fr.nil n0
  have W := fun (k : Nat) {d : Jvm.Cond} (h : tables_1[k]? = some d) => hw d (List.mem_of_getElem? h)
  have K0 : Keep h0 h0 [] := Keep.refl _ _
  refine own_start (ef_8 m (1 : Int32) (2 : Int32)) ?_
  show own_Run p e below _ s₁ (mkF m 0 #[.val (.int (1 : Int32)), .val (.int (2 : Int32))] [])
  rcases ref_cases hfm with rfl | ⟨a3, rfl⟩
  · show own_Run p e below _ s₁ (mkF m 0 #[.val (.int (1 : Int32)), .val (.int (2 : Int32))] [])
    refine own_go (fun _ k => XS.iloadN X0.here hx rfl (hb hby d8_0) rfl k) ?_
    refine own_go (fun _ k => XS.iloadN X0.here hx rfl (hb hby d8_1) rfl k) ?_
    show own_Run p e below _ s₁ (mkF m 2 #[.val (.int (1 : Int32)), .val (.int (2 : Int32))] [(.int (2 : Int32)), (.int (1 : Int32))])
    obtain ⟨T14, X14, e14, st14⟩ := getS2 X0 hx hZ hown (host := "") (Or.inl (W 68 rfl)) Via.refl e0 S_SIOOBE_FORMATTER (g := (mkF m 2 #[.val (.int (1 : Int32)), .val (.int (2 : Int32))] [(.int (2 : Int32)), (.int (1 : Int32))])) rfl (hb hby d8_2)
    refine own_go st14 ?_
    show own_Run p e below _ T14 (mkF m 5 #[.val (.int (1 : Int32)), .val (.int (2 : Int32))] [.null, (.int (2 : Int32)), (.int (1 : Int32))])
    obtain ⟨_, _, ⟨T15, L15, k15, n15⟩, -, X15, ⟨Lc15, hQ15, l15, y15, z15⟩, st15⟩ := Jvm.LawKit.callS X14 hx (y := (⟨"jdk/internal/util/Preconditions", "checkIndex", "(IILjava/util/function/BiFunction;)I"⟩ : MethodName)) hown (mvT hZ (W 70 rfl)) (mvT hZ (W 71 rfl)) (mvT hZ (W 69 rfl)) (mvT hZ (W 72 rfl)) (by decide) (backOf (W := 0) (rm9null l Z a0 hw []  h0 n0 Z0 ) hZ (W 72 rfl) (W 69 rfl) (by decide) (by decide)) (g := (mkF m 5 #[.val (.int (1 : Int32)), .val (.int (2 : Int32))] [.null, (.int (2 : Int32)), (.int (1 : Int32))])) rfl (by rw [hml]; rfl) (argsL := [(.int (1 : Int32)), (.int (2 : Int32)), .null]) (rest := []) (lenOf pd_2 rfl) rfl (by show 2 * 0 + _ ≤ _; exact Nat.le_of_eq rfl) (hb hby d8_5) (fun _ _ => ⟨rfl, e14, (by decide : 0 + 0 ≤ _), (by decide : 0 + 0 ≤ _)⟩)
    dsimp only [Pt.U, Pt.locs, Pt.cells, Pt.slots] at X15 l15 y15 z15 st15 hQ15
    subst l15 y15 z15
    obtain ⟨rfl, N15q, e15⟩ := hQ15
    have N15 := Fr.app N0 N15q
    refine own_go st15 ?_
    show own_Run p e below _ T15 (mkF m 8 #[.val (.int (1 : Int32)), .val (.int (2 : Int32))] [(.int (1 : Int32))])
    refine own_go (fun _ k => XS.pop X15.here hx rfl (hb hby d8_8) rfl rfl k) ?_
    show own_Run p e below _ T15 (mkF m 9 #[.val (.int (1 : Int32)), .val (.int (2 : Int32))] [])
    refine own_done (Q := fun v h L => Q8 Z .null h0 n0 v h L) (v := none) X15 (fun _ => rfl) hlk (fun fs hr => X15.returnOut hx hret (hb hby d8_9) hr) ?_ (by decide) (by decide)
    show Q8 Z .null h0 n0 _ T15.heap _
    rw [e15]
    exact ⟨rfl, N15, rfl⟩
  · show own_Run p e below _ s₁ (mkF m 0 #[.val (.int (1 : Int32)), .val (.int (2 : Int32))] [])
    refine own_go (fun _ k => XS.iloadN X0.here hx rfl (hb hby d8_0) rfl k) ?_
    refine own_go (fun _ k => XS.iloadN X0.here hx rfl (hb hby d8_1) rfl k) ?_
    show own_Run p e below _ s₁ (mkF m 2 #[.val (.int (1 : Int32)), .val (.int (2 : Int32))] [(.int (2 : Int32)), (.int (1 : Int32))])
    obtain ⟨T16, X16, e16, st16⟩ := getS2 X0 hx hZ hown (host := "") (Or.inl (W 68 rfl)) Via.refl e0 S_SIOOBE_FORMATTER (g := (mkF m 2 #[.val (.int (1 : Int32)), .val (.int (2 : Int32))] [(.int (2 : Int32)), (.int (1 : Int32))])) rfl (hb hby d8_2)
    refine own_go st16 ?_
    show own_Run p e below _ T16 (mkF m 5 #[.val (.int (1 : Int32)), .val (.int (2 : Int32))] [(.ref a3), (.int (2 : Int32)), (.int (1 : Int32))])
    obtain ⟨_, _, ⟨T17, L17, k17, n17⟩, -, X17, ⟨Lc17, hQ17, l17, y17, z17⟩, st17⟩ := Jvm.LawKit.callS X16 hx (y := (⟨"jdk/internal/util/Preconditions", "checkIndex", "(IILjava/util/function/BiFunction;)I"⟩ : MethodName)) hown (mvT hZ (W 70 rfl)) (mvT hZ (W 71 rfl)) (mvT hZ (W 69 rfl)) (mvT hZ (W 72 rfl)) (by decide) (backOf (W := 0) (rm9a3 l Z a0 hw [] a3 h0 n0 Z0 ) hZ (W 72 rfl) (W 69 rfl) (by decide) (by decide)) (g := (mkF m 5 #[.val (.int (1 : Int32)), .val (.int (2 : Int32))] [(.ref a3), (.int (2 : Int32)), (.int (1 : Int32))])) rfl (by rw [hml]; rfl) (argsL := [(.int (1 : Int32)), (.int (2 : Int32)), (.ref a3)]) (rest := []) (lenOf pd_2 rfl) rfl (by show 2 * 0 + _ ≤ _; exact Nat.le_of_eq rfl) (hb hby d8_5) (fun _ _ => ⟨rfl, e16, (by decide : 0 + 0 ≤ _), (by decide : 0 + 0 ≤ _)⟩)
    dsimp only [Pt.U, Pt.locs, Pt.cells, Pt.slots] at X17 l17 y17 z17 st17 hQ17
    subst l17 y17 z17
    obtain ⟨rfl, N17q, e17⟩ := hQ17
    have N17 := Fr.app N0 N17q
    refine own_go st17 ?_
    show own_Run p e below _ T17 (mkF m 8 #[.val (.int (1 : Int32)), .val (.int (2 : Int32))] [(.int (1 : Int32))])
    refine own_go (fun _ k => XS.pop X17.here hx rfl (hb hby d8_8) rfl rfl k) ?_
    show own_Run p e below _ T17 (mkF m 9 #[.val (.int (1 : Int32)), .val (.int (2 : Int32))] [])
    refine own_done (Q := fun v h L => Q8 Z (.ref a3) h0 n0 v h L) (v := none) X17 (fun _ => rfl) hlk (fun fs hr => X17.returnOut hx hret (hb hby d8_9) hr) ?_ (by decide) (by decide)
    show Q8 Z (.ref a3) h0 n0 _ T17.heap _
    rw [e17]
    exact ⟨rfl, N17, rfl⟩
theorem d7_0 : decode jdk_43_method_2_code 0 = .ok (.iload_n 1, 1) := by decide +kernel
theorem d7_1 : decode jdk_43_method_2_code 1 = .ok (.aload_n 0, 1) := by decide +kernel
theorem d7_2 : decode jdk_43_method_2_code 2 = .ok (.arraylength, 1) := by decide +kernel
theorem d7_3 : decode jdk_43_method_2_code 3 = .ok (.invokestatic 9, 3) := by decide +kernel
theorem d7_6 : decode jdk_43_method_2_code 6 = .ok (.aload_n 0, 1) := by decide +kernel
theorem d7_7 : decode jdk_43_method_2_code 7 = .ok (.iload_n 1, 1) := by decide +kernel
theorem d7_8 : decode jdk_43_method_2_code 8 = .ok (.baload, 1) := by decide +kernel
theorem d7_9 : decode jdk_43_method_2_code 9 = .ok (.sipush 255, 3) := by decide +kernel
theorem d7_12 : decode jdk_43_method_2_code 12 = .ok (.iand, 1) := by decide +kernel
theorem d7_13 : decode jdk_43_method_2_code 13 = .ok (.i2c, 1) := by decide +kernel
theorem d7_14 : decode jdk_43_method_2_code 14 = .ok (.ireturn, 1) := by decide +kernel
theorem pn_7 : plainName "java/lang/StringLatin1" = true := by first | (simp [plainName, overriddenIn]; done) | decide +kernel
theorem ef_7 (m : MethodId) (x0 : Addr) (x1 : Int32) : entryFrame m #[(.ref x0), (.int x1)] 2 = mkF m 0 #[.val (.ref x0), .val (.int x1)] [] := by first | (simp [entryFrame, mkF, argsToLocals, Value.category]; done) | rfl
theorem pd_3 : parseMethodDescriptor "(II)V" = some ⟨[.int, .int], none⟩ := by decide +kernel
def Q7 (Z : State) (b1 : Addr) (fm : Value) (k1 : ClassId) (c0 : Int32) (c1 : Int32) (h0 : Heap) (n0 : Nat) (v : Option Value) (h : Heap) (L : List Loc) : Prop := v = some (.int c1) ∧ Fr n0 L ∧ h = h0
set_option maxRecDepth 65536 in
set_option maxHeartbeats 40000000 in
theorem rm7 (l : Launch) (Z : State) (a0 : Array Value) (hw : ∀ d ∈ tables_1, d.before a0 Z = true) (ws : List Jvm.Cond) (b1 : Addr) (fm : Value) (k1 : ClassId) (c0 : Int32) (c1 : Int32) (h0 : Heap) (n0 : Nat) (Z0 : n0 ≤ h0.size) (S_SIOOBE_FORMATTER : Sta Z h0 "jdk/internal/util/Preconditions" "SIOOBE_FORMATTER" "Ljava/util/function/BiFunction;" fm) (hfm : fm.isRef = true) (V_b1 : Arv Z h0 b1 k1 .byte (2 : Int32) [(.int c0), (.int c1)] (.int (0 : Int32))) (hch : c1 = (88 : Int32) ∨ c1 = (70 : Int32) ∨ c1 = (71 : Int32) ∨ c1 = (91 : Int32)) :
    MetFree l (⟨"java/lang/StringLatin1", "charAt", "([BI)C"⟩ : MethodName) (head1 (Jvm.Cond.code (⟨"java/lang/StringLatin1", "charAt", "([BI)C"⟩ : MethodName) jdk_43_method_2_code 2 (some .char) :: ws) ({ frames := 2, cells := 0, slots := 0, locals := 27 } : Room)) (fun a U => a = #[(.ref b1), (.int (1 : Int32))] ∧ Z.Warmed39 U.vm ∧ U.heap = h0) (fun _ _ _ _ _ => True) (fun _ U o U' => ∃ v L, o = .returned v ∧ Q7 Z b1 fm k1 c0 c1 h0 n0 v U'.heap L ∧ FrameEnd U o U' L ({ frames := 2, cells := 0, slots := 0, locals := 27 } : Room).cells ({ frames := 2, cells := 0, slots := 0, locals := 27 } : Room).slots) := by
  refine MetFree.of_bodySF (plainFor_of_name pn_7) hisR ?_
  intro p e s m args below meth c s₁ Bd hml0 hP hK
  obtain ⟨rfl, hZ, hh⟩ := hP
  have hx := Bd.exec
  have hby := Bd.bytes
  have hml : c.maxLocals = 2 := hml0
  have hown : s.vm.findClass "java/lang/StringLatin1" = some m.cls := findClass_of_methodNamed Bd.named
  have hnm := (name_of_methodNamed Bd.named Bd.method).1
  have hret := Bd.returns
  have hlk : meth.locks = false := BodyLoose.notSynchronized Bd
  have X0 : Stand p l e ({ frames := 2, cells := 0, slots := 0, locals := 27 } : Room) s m #[(.ref b1), (.int (1 : Int32))] below meth c s₁ [] 0 0 := Stand.of_body Bd
  have e0 : s₁.heap = h0 := by rw [← hh, Bd.state]; rfl
  have N0 := Fr.nil n0
  have W := fun (k : Nat) {d : Jvm.Cond} (h : tables_1[k]? = some d) => hw d (List.mem_of_getElem? h)
  have K0 : Keep h0 h0 [] := Keep.refl _ _
  refine own_start (ef_7 m b1 (1 : Int32)) ?_
  show own_Run p e below _ s₁ (mkF m 0 #[.val (.ref b1), .val (.int (1 : Int32))] [])
  rcases hch with rfl | rfl | rfl | rfl
  · show own_Run p e below _ s₁ (mkF m 0 #[.val (.ref b1), .val (.int (1 : Int32))] [])
    refine own_go (fun _ k => XS.iloadN X0.here hx rfl (hb hby d7_0) rfl k) ?_
    refine own_go (fun _ k => XS.aloadN X0.here hx rfl (hb hby d7_1) rfl rfl k) ?_
    show own_Run p e below _ s₁ (mkF m 2 #[.val (.ref b1), .val (.int (1 : Int32))] [(.ref b1), (.int (1 : Int32))])
    obtain ⟨cl18, Ar18, q18, S18, N18, H18, G18⟩ := id V_b1
    refine own_go (X0.arraylength hx (by rw [e0]; exact Ar18.1) (State.isArrayOf_alike hZ.alike Ar18.2.1) (g := (mkF m 2 #[.val (.ref b1), .val (.int (1 : Int32))] [(.ref b1), (.int (1 : Int32))])) rfl rfl (hb hby d7_2)) ?_
    rw [len_of S18 N18]
    show own_Run p e below _ s₁ (mkF m 3 #[.val (.ref b1), .val (.int (1 : Int32))] [(.int (2 : Int32)), (.int (1 : Int32))])
    obtain ⟨_, _, ⟨T19, L19, k19, n19⟩, -, X19, ⟨Lc19, hQ19, l19, y19, z19⟩, st19⟩ := Jvm.LawKit.callS X0 hx (y := (⟨"java/lang/String", "checkIndex", "(II)V"⟩ : MethodName)) hown (mvT hZ (W 65 rfl)) (mvT hZ (W 66 rfl)) (mvT hZ (W 39 rfl)) (mvT hZ (W 67 rfl)) (by decide) (backOf (W := 0) (rm8 l Z a0 hw [] fm h0 n0 Z0 S_SIOOBE_FORMATTER (hfm)) hZ (W 67 rfl) (W 39 rfl) (by decide) (by decide)) (g := (mkF m 3 #[.val (.ref b1), .val (.int (1 : Int32))] [(.int (2 : Int32)), (.int (1 : Int32))])) rfl (by rw [hml]; rfl) (argsL := [(.int (1 : Int32)), (.int (2 : Int32))]) (rest := []) (lenOf pd_3 rfl) rfl (by show 2 * 0 + _ ≤ _; exact Nat.le_of_eq rfl) (hb hby d7_3) (fun _ _ => ⟨rfl, e0, (by decide : 0 + 0 ≤ _), (by decide : 0 + 0 ≤ _)⟩)
    dsimp only [Pt.U, Pt.locs, Pt.cells, Pt.slots] at X19 l19 y19 z19 st19 hQ19
    subst l19 y19 z19
    obtain ⟨rfl, N19q, e19⟩ := hQ19
    have N19 := Fr.app N0 N19q
    refine own_go st19 ?_
    show own_Run p e below _ T19 (mkF m 6 #[.val (.ref b1), .val (.int (1 : Int32))] [])
    refine own_go (fun _ k => XS.aloadN X19.here hx rfl (hb hby d7_6) rfl rfl k) ?_
    refine own_go (fun _ k => XS.iloadN X19.here hx rfl (hb hby d7_7) rfl k) ?_
    show own_Run p e below _ T19 (mkF m 8 #[.val (.ref b1), .val (.int (1 : Int32))] [(.int (1 : Int32)), (.ref b1)])
    obtain ⟨cl20, Ar20, q20, S20, N20, H20, G20⟩ := id V_b1
    have hin20 : ¬ ((1 : Int32) < 0 ∨ cl20.slots.size ≤ ((1 : Int32)).toNatClampNeg) := inb_of S20 ⟨by decide, by decide⟩
    refine own_go (X19.baloadBytes hx (j := (1 : Int32)) (v := (.int (88 : Int32))) (by rw [e19]; exact Ar20.1) (State.isArrayOf_alike hZ.alike Ar20.2.1) Ar20.2.2 hin20 (H20.at hin20 rfl) (g := (mkF m 8 #[.val (.ref b1), .val (.int (1 : Int32))] [(.int (1 : Int32)), (.ref b1)])) rfl rfl (hb hby d7_8)) ?_
    show own_Run p e below _ T19 (mkF m 9 #[.val (.ref b1), .val (.int (1 : Int32))] [(.int (88 : Int32))])
    refine own_go (fun _ k => XS.sipush X19.here hx rfl (hb hby d7_9) k) ?_
    refine own_go (fun _ k => XS.iand X19.here hx rfl (hb hby d7_12) rfl k) ?_
    show own_Run p e below _ T19 (mkF m 13 #[.val (.ref b1), .val (.int (1 : Int32))] [(.int ((88 : Int32) &&& (255 : Int32)))])
    rw [show ((88 : Int32) &&& (255 : Int32)) = (88 : Int32) by decide]
    show own_Run p e below _ T19 (mkF m 13 #[.val (.ref b1), .val (.int (1 : Int32))] [(.int (88 : Int32))])
    refine own_go (fun _ k => XS.i2c X19.here hx rfl (hb hby d7_13) rfl k) ?_
    show own_Run p e below _ T19 (mkF m 14 #[.val (.ref b1), .val (.int (1 : Int32))] [(.int ((88 : Int32).toUInt32.toUInt16.toUInt32.toInt32))])
    rw [show ((88 : Int32).toUInt32.toUInt16.toUInt32.toInt32) = (88 : Int32) by decide]
    show own_Run p e below _ T19 (mkF m 14 #[.val (.ref b1), .val (.int (1 : Int32))] [(.int (88 : Int32))])
    refine own_done (Q := fun v h L => Q7 Z b1 fm k1 c0 (88 : Int32) h0 n0 v h L) (v := (some (.int (88 : Int32)))) X19 (fun h => by rw [hret] at h; cases h) hlk (fun fs hr => retN X19 hx (t := .char) hret (by simp) (hb hby d7_14) hr) ?_ (by decide) (by decide)
    show Q7 Z b1 fm k1 c0 (88 : Int32) h0 n0 _ T19.heap _
    rw [e19]
    exact ⟨rfl, N19, rfl⟩
  · show own_Run p e below _ s₁ (mkF m 0 #[.val (.ref b1), .val (.int (1 : Int32))] [])
    refine own_go (fun _ k => XS.iloadN X0.here hx rfl (hb hby d7_0) rfl k) ?_
    refine own_go (fun _ k => XS.aloadN X0.here hx rfl (hb hby d7_1) rfl rfl k) ?_
    show own_Run p e below _ s₁ (mkF m 2 #[.val (.ref b1), .val (.int (1 : Int32))] [(.ref b1), (.int (1 : Int32))])
    obtain ⟨cl21, Ar21, q21, S21, N21, H21, G21⟩ := id V_b1
    refine own_go (X0.arraylength hx (by rw [e0]; exact Ar21.1) (State.isArrayOf_alike hZ.alike Ar21.2.1) (g := (mkF m 2 #[.val (.ref b1), .val (.int (1 : Int32))] [(.ref b1), (.int (1 : Int32))])) rfl rfl (hb hby d7_2)) ?_
    rw [len_of S21 N21]
    show own_Run p e below _ s₁ (mkF m 3 #[.val (.ref b1), .val (.int (1 : Int32))] [(.int (2 : Int32)), (.int (1 : Int32))])
    obtain ⟨_, _, ⟨T22, L22, k22, n22⟩, -, X22, ⟨Lc22, hQ22, l22, y22, z22⟩, st22⟩ := Jvm.LawKit.callS X0 hx (y := (⟨"java/lang/String", "checkIndex", "(II)V"⟩ : MethodName)) hown (mvT hZ (W 65 rfl)) (mvT hZ (W 66 rfl)) (mvT hZ (W 39 rfl)) (mvT hZ (W 67 rfl)) (by decide) (backOf (W := 0) (rm8 l Z a0 hw [] fm h0 n0 Z0 S_SIOOBE_FORMATTER (hfm)) hZ (W 67 rfl) (W 39 rfl) (by decide) (by decide)) (g := (mkF m 3 #[.val (.ref b1), .val (.int (1 : Int32))] [(.int (2 : Int32)), (.int (1 : Int32))])) rfl (by rw [hml]; rfl) (argsL := [(.int (1 : Int32)), (.int (2 : Int32))]) (rest := []) (lenOf pd_3 rfl) rfl (by show 2 * 0 + _ ≤ _; exact Nat.le_of_eq rfl) (hb hby d7_3) (fun _ _ => ⟨rfl, e0, (by decide : 0 + 0 ≤ _), (by decide : 0 + 0 ≤ _)⟩)
    dsimp only [Pt.U, Pt.locs, Pt.cells, Pt.slots] at X22 l22 y22 z22 st22 hQ22
    subst l22 y22 z22
    obtain ⟨rfl, N22q, e22⟩ := hQ22
    have N22 := Fr.app N0 N22q
    refine own_go st22 ?_
    show own_Run p e below _ T22 (mkF m 6 #[.val (.ref b1), .val (.int (1 : Int32))] [])
    refine own_go (fun _ k => XS.aloadN X22.here hx rfl (hb hby d7_6) rfl rfl k) ?_
    refine own_go (fun _ k => XS.iloadN X22.here hx rfl (hb hby d7_7) rfl k) ?_
    show own_Run p e below _ T22 (mkF m 8 #[.val (.ref b1), .val (.int (1 : Int32))] [(.int (1 : Int32)), (.ref b1)])
    obtain ⟨cl23, Ar23, q23, S23, N23, H23, G23⟩ := id V_b1
    have hin23 : ¬ ((1 : Int32) < 0 ∨ cl23.slots.size ≤ ((1 : Int32)).toNatClampNeg) := inb_of S23 ⟨by decide, by decide⟩
    refine own_go (X22.baloadBytes hx (j := (1 : Int32)) (v := (.int (70 : Int32))) (by rw [e22]; exact Ar23.1) (State.isArrayOf_alike hZ.alike Ar23.2.1) Ar23.2.2 hin23 (H23.at hin23 rfl) (g := (mkF m 8 #[.val (.ref b1), .val (.int (1 : Int32))] [(.int (1 : Int32)), (.ref b1)])) rfl rfl (hb hby d7_8)) ?_
    show own_Run p e below _ T22 (mkF m 9 #[.val (.ref b1), .val (.int (1 : Int32))] [(.int (70 : Int32))])
    refine own_go (fun _ k => XS.sipush X22.here hx rfl (hb hby d7_9) k) ?_
    refine own_go (fun _ k => XS.iand X22.here hx rfl (hb hby d7_12) rfl k) ?_
    show own_Run p e below _ T22 (mkF m 13 #[.val (.ref b1), .val (.int (1 : Int32))] [(.int ((70 : Int32) &&& (255 : Int32)))])
    rw [show ((70 : Int32) &&& (255 : Int32)) = (70 : Int32) by decide]
    show own_Run p e below _ T22 (mkF m 13 #[.val (.ref b1), .val (.int (1 : Int32))] [(.int (70 : Int32))])
    refine own_go (fun _ k => XS.i2c X22.here hx rfl (hb hby d7_13) rfl k) ?_
    show own_Run p e below _ T22 (mkF m 14 #[.val (.ref b1), .val (.int (1 : Int32))] [(.int ((70 : Int32).toUInt32.toUInt16.toUInt32.toInt32))])
    rw [show ((70 : Int32).toUInt32.toUInt16.toUInt32.toInt32) = (70 : Int32) by decide]
    show own_Run p e below _ T22 (mkF m 14 #[.val (.ref b1), .val (.int (1 : Int32))] [(.int (70 : Int32))])
    refine own_done (Q := fun v h L => Q7 Z b1 fm k1 c0 (70 : Int32) h0 n0 v h L) (v := (some (.int (70 : Int32)))) X22 (fun h => by rw [hret] at h; cases h) hlk (fun fs hr => retN X22 hx (t := .char) hret (by simp) (hb hby d7_14) hr) ?_ (by decide) (by decide)
    show Q7 Z b1 fm k1 c0 (70 : Int32) h0 n0 _ T22.heap _
    rw [e22]
    exact ⟨rfl, N22, rfl⟩
  · show own_Run p e below _ s₁ (mkF m 0 #[.val (.ref b1), .val (.int (1 : Int32))] [])
    refine own_go (fun _ k => XS.iloadN X0.here hx rfl (hb hby d7_0) rfl k) ?_
    refine own_go (fun _ k => XS.aloadN X0.here hx rfl (hb hby d7_1) rfl rfl k) ?_
    show own_Run p e below _ s₁ (mkF m 2 #[.val (.ref b1), .val (.int (1 : Int32))] [(.ref b1), (.int (1 : Int32))])
    obtain ⟨cl24, Ar24, q24, S24, N24, H24, G24⟩ := id V_b1
    refine own_go (X0.arraylength hx (by rw [e0]; exact Ar24.1) (State.isArrayOf_alike hZ.alike Ar24.2.1) (g := (mkF m 2 #[.val (.ref b1), .val (.int (1 : Int32))] [(.ref b1), (.int (1 : Int32))])) rfl rfl (hb hby d7_2)) ?_
    rw [len_of S24 N24]
    show own_Run p e below _ s₁ (mkF m 3 #[.val (.ref b1), .val (.int (1 : Int32))] [(.int (2 : Int32)), (.int (1 : Int32))])
    obtain ⟨_, _, ⟨T25, L25, k25, n25⟩, -, X25, ⟨Lc25, hQ25, l25, y25, z25⟩, st25⟩ := Jvm.LawKit.callS X0 hx (y := (⟨"java/lang/String", "checkIndex", "(II)V"⟩ : MethodName)) hown (mvT hZ (W 65 rfl)) (mvT hZ (W 66 rfl)) (mvT hZ (W 39 rfl)) (mvT hZ (W 67 rfl)) (by decide) (backOf (W := 0) (rm8 l Z a0 hw [] fm h0 n0 Z0 S_SIOOBE_FORMATTER (hfm)) hZ (W 67 rfl) (W 39 rfl) (by decide) (by decide)) (g := (mkF m 3 #[.val (.ref b1), .val (.int (1 : Int32))] [(.int (2 : Int32)), (.int (1 : Int32))])) rfl (by rw [hml]; rfl) (argsL := [(.int (1 : Int32)), (.int (2 : Int32))]) (rest := []) (lenOf pd_3 rfl) rfl (by show 2 * 0 + _ ≤ _; exact Nat.le_of_eq rfl) (hb hby d7_3) (fun _ _ => ⟨rfl, e0, (by decide : 0 + 0 ≤ _), (by decide : 0 + 0 ≤ _)⟩)
    dsimp only [Pt.U, Pt.locs, Pt.cells, Pt.slots] at X25 l25 y25 z25 st25 hQ25
    subst l25 y25 z25
    obtain ⟨rfl, N25q, e25⟩ := hQ25
    have N25 := Fr.app N0 N25q
    refine own_go st25 ?_
    show own_Run p e below _ T25 (mkF m 6 #[.val (.ref b1), .val (.int (1 : Int32))] [])
    refine own_go (fun _ k => XS.aloadN X25.here hx rfl (hb hby d7_6) rfl rfl k) ?_
    refine own_go (fun _ k => XS.iloadN X25.here hx rfl (hb hby d7_7) rfl k) ?_
    show own_Run p e below _ T25 (mkF m 8 #[.val (.ref b1), .val (.int (1 : Int32))] [(.int (1 : Int32)), (.ref b1)])
    obtain ⟨cl26, Ar26, q26, S26, N26, H26, G26⟩ := id V_b1
    have hin26 : ¬ ((1 : Int32) < 0 ∨ cl26.slots.size ≤ ((1 : Int32)).toNatClampNeg) := inb_of S26 ⟨by decide, by decide⟩
    refine own_go (X25.baloadBytes hx (j := (1 : Int32)) (v := (.int (71 : Int32))) (by rw [e25]; exact Ar26.1) (State.isArrayOf_alike hZ.alike Ar26.2.1) Ar26.2.2 hin26 (H26.at hin26 rfl) (g := (mkF m 8 #[.val (.ref b1), .val (.int (1 : Int32))] [(.int (1 : Int32)), (.ref b1)])) rfl rfl (hb hby d7_8)) ?_
    show own_Run p e below _ T25 (mkF m 9 #[.val (.ref b1), .val (.int (1 : Int32))] [(.int (71 : Int32))])
    refine own_go (fun _ k => XS.sipush X25.here hx rfl (hb hby d7_9) k) ?_
    refine own_go (fun _ k => XS.iand X25.here hx rfl (hb hby d7_12) rfl k) ?_
    show own_Run p e below _ T25 (mkF m 13 #[.val (.ref b1), .val (.int (1 : Int32))] [(.int ((71 : Int32) &&& (255 : Int32)))])
    rw [show ((71 : Int32) &&& (255 : Int32)) = (71 : Int32) by decide]
    show own_Run p e below _ T25 (mkF m 13 #[.val (.ref b1), .val (.int (1 : Int32))] [(.int (71 : Int32))])
    refine own_go (fun _ k => XS.i2c X25.here hx rfl (hb hby d7_13) rfl k) ?_
    show own_Run p e below _ T25 (mkF m 14 #[.val (.ref b1), .val (.int (1 : Int32))] [(.int ((71 : Int32).toUInt32.toUInt16.toUInt32.toInt32))])
    rw [show ((71 : Int32).toUInt32.toUInt16.toUInt32.toInt32) = (71 : Int32) by decide]
    show own_Run p e below _ T25 (mkF m 14 #[.val (.ref b1), .val (.int (1 : Int32))] [(.int (71 : Int32))])
    refine own_done (Q := fun v h L => Q7 Z b1 fm k1 c0 (71 : Int32) h0 n0 v h L) (v := (some (.int (71 : Int32)))) X25 (fun h => by rw [hret] at h; cases h) hlk (fun fs hr => retN X25 hx (t := .char) hret (by simp) (hb hby d7_14) hr) ?_ (by decide) (by decide)
    show Q7 Z b1 fm k1 c0 (71 : Int32) h0 n0 _ T25.heap _
    rw [e25]
    exact ⟨rfl, N25, rfl⟩
  · show own_Run p e below _ s₁ (mkF m 0 #[.val (.ref b1), .val (.int (1 : Int32))] [])
    refine own_go (fun _ k => XS.iloadN X0.here hx rfl (hb hby d7_0) rfl k) ?_
    refine own_go (fun _ k => XS.aloadN X0.here hx rfl (hb hby d7_1) rfl rfl k) ?_
    show own_Run p e below _ s₁ (mkF m 2 #[.val (.ref b1), .val (.int (1 : Int32))] [(.ref b1), (.int (1 : Int32))])
    obtain ⟨cl27, Ar27, q27, S27, N27, H27, G27⟩ := id V_b1
    refine own_go (X0.arraylength hx (by rw [e0]; exact Ar27.1) (State.isArrayOf_alike hZ.alike Ar27.2.1) (g := (mkF m 2 #[.val (.ref b1), .val (.int (1 : Int32))] [(.ref b1), (.int (1 : Int32))])) rfl rfl (hb hby d7_2)) ?_
    rw [len_of S27 N27]
    show own_Run p e below _ s₁ (mkF m 3 #[.val (.ref b1), .val (.int (1 : Int32))] [(.int (2 : Int32)), (.int (1 : Int32))])
    obtain ⟨_, _, ⟨T28, L28, k28, n28⟩, -, X28, ⟨Lc28, hQ28, l28, y28, z28⟩, st28⟩ := Jvm.LawKit.callS X0 hx (y := (⟨"java/lang/String", "checkIndex", "(II)V"⟩ : MethodName)) hown (mvT hZ (W 65 rfl)) (mvT hZ (W 66 rfl)) (mvT hZ (W 39 rfl)) (mvT hZ (W 67 rfl)) (by decide) (backOf (W := 0) (rm8 l Z a0 hw [] fm h0 n0 Z0 S_SIOOBE_FORMATTER (hfm)) hZ (W 67 rfl) (W 39 rfl) (by decide) (by decide)) (g := (mkF m 3 #[.val (.ref b1), .val (.int (1 : Int32))] [(.int (2 : Int32)), (.int (1 : Int32))])) rfl (by rw [hml]; rfl) (argsL := [(.int (1 : Int32)), (.int (2 : Int32))]) (rest := []) (lenOf pd_3 rfl) rfl (by show 2 * 0 + _ ≤ _; exact Nat.le_of_eq rfl) (hb hby d7_3) (fun _ _ => ⟨rfl, e0, (by decide : 0 + 0 ≤ _), (by decide : 0 + 0 ≤ _)⟩)
    dsimp only [Pt.U, Pt.locs, Pt.cells, Pt.slots] at X28 l28 y28 z28 st28 hQ28
    subst l28 y28 z28
    obtain ⟨rfl, N28q, e28⟩ := hQ28
    have N28 := Fr.app N0 N28q
    refine own_go st28 ?_
    show own_Run p e below _ T28 (mkF m 6 #[.val (.ref b1), .val (.int (1 : Int32))] [])
    refine own_go (fun _ k => XS.aloadN X28.here hx rfl (hb hby d7_6) rfl rfl k) ?_
    refine own_go (fun _ k => XS.iloadN X28.here hx rfl (hb hby d7_7) rfl k) ?_
    show own_Run p e below _ T28 (mkF m 8 #[.val (.ref b1), .val (.int (1 : Int32))] [(.int (1 : Int32)), (.ref b1)])
    obtain ⟨cl29, Ar29, q29, S29, N29, H29, G29⟩ := id V_b1
    have hin29 : ¬ ((1 : Int32) < 0 ∨ cl29.slots.size ≤ ((1 : Int32)).toNatClampNeg) := inb_of S29 ⟨by decide, by decide⟩
    refine own_go (X28.baloadBytes hx (j := (1 : Int32)) (v := (.int (91 : Int32))) (by rw [e28]; exact Ar29.1) (State.isArrayOf_alike hZ.alike Ar29.2.1) Ar29.2.2 hin29 (H29.at hin29 rfl) (g := (mkF m 8 #[.val (.ref b1), .val (.int (1 : Int32))] [(.int (1 : Int32)), (.ref b1)])) rfl rfl (hb hby d7_8)) ?_
    show own_Run p e below _ T28 (mkF m 9 #[.val (.ref b1), .val (.int (1 : Int32))] [(.int (91 : Int32))])
    refine own_go (fun _ k => XS.sipush X28.here hx rfl (hb hby d7_9) k) ?_
    refine own_go (fun _ k => XS.iand X28.here hx rfl (hb hby d7_12) rfl k) ?_
    show own_Run p e below _ T28 (mkF m 13 #[.val (.ref b1), .val (.int (1 : Int32))] [(.int ((91 : Int32) &&& (255 : Int32)))])
    rw [show ((91 : Int32) &&& (255 : Int32)) = (91 : Int32) by decide]
    show own_Run p e below _ T28 (mkF m 13 #[.val (.ref b1), .val (.int (1 : Int32))] [(.int (91 : Int32))])
    refine own_go (fun _ k => XS.i2c X28.here hx rfl (hb hby d7_13) rfl k) ?_
    show own_Run p e below _ T28 (mkF m 14 #[.val (.ref b1), .val (.int (1 : Int32))] [(.int ((91 : Int32).toUInt32.toUInt16.toUInt32.toInt32))])
    rw [show ((91 : Int32).toUInt32.toUInt16.toUInt32.toInt32) = (91 : Int32) by decide]
    show own_Run p e below _ T28 (mkF m 14 #[.val (.ref b1), .val (.int (1 : Int32))] [(.int (91 : Int32))])
    refine own_done (Q := fun v h L => Q7 Z b1 fm k1 c0 (91 : Int32) h0 n0 v h L) (v := (some (.int (91 : Int32)))) X28 (fun h => by rw [hret] at h; cases h) hlk (fun fs hr => retN X28 hx (t := .char) hret (by simp) (hb hby d7_14) hr) ?_ (by decide) (by decide)
    show Q7 Z b1 fm k1 c0 (91 : Int32) h0 n0 _ T28.heap _
    rw [e28]
    exact ⟨rfl, N28, rfl⟩
theorem d5_0 : decode jdk_42_method_56_code 0 = .ok (.aload_n 0, 1) := by decide +kernel
theorem d5_1 : decode jdk_42_method_56_code 1 = .ok (.invokevirtual 492, 3) := by decide +kernel
theorem d5_4 : decode jdk_42_method_56_code 4 = .ok (.ifCond .eq 12, 3) := by decide +kernel
theorem d5_7 : decode jdk_42_method_56_code 7 = .ok (.aload_n 0, 1) := by decide +kernel
theorem d5_8 : decode jdk_42_method_56_code 8 = .ok (.getfield 9, 3) := by decide +kernel
theorem d5_11 : decode jdk_42_method_56_code 11 = .ok (.iload_n 1, 1) := by decide +kernel
theorem d5_12 : decode jdk_42_method_56_code 12 = .ok (.invokestatic 495, 3) := by decide +kernel
theorem d5_15 : decode jdk_42_method_56_code 15 = .ok (.ireturn, 1) := by decide +kernel
theorem d5_16 : decode jdk_42_method_56_code 16 = .ok (.aload_n 0, 1) := by decide +kernel
theorem d5_17 : decode jdk_42_method_56_code 17 = .ok (.getfield 9, 3) := by decide +kernel
theorem d5_20 : decode jdk_42_method_56_code 20 = .ok (.iload_n 1, 1) := by decide +kernel
theorem d5_21 : decode jdk_42_method_56_code 21 = .ok (.invokestatic 498, 3) := by decide +kernel
theorem d5_24 : decode jdk_42_method_56_code 24 = .ok (.ireturn, 1) := by decide +kernel
theorem pn_5 : plainName "java/lang/String" = true := by first | (simp [plainName, overriddenIn]; done) | decide +kernel
theorem ef_5 (m : MethodId) (x0 : Addr) (x1 : Int32) : entryFrame m #[(.ref x0), (.int x1)] 2 = mkF m 0 #[.val (.ref x0), .val (.int x1)] [] := by first | (simp [entryFrame, mkF, argsToLocals, Value.category]; done) | rfl
theorem pd_4 : parseMethodDescriptor "()Z" = some ⟨[], some .boolean⟩ := by decide +kernel
theorem pd_5 : parseMethodDescriptor "([BI)C" = some ⟨[(.array .byte), .int], some .char⟩ := by decide +kernel
def Q5 (Z : State) (a1 : Addr) (cs : Int32) (fm : Value) (b1 : Addr) (k1 : ClassId) (c0 : Int32) (c1 : Int32) (h0 : Heap) (n0 : Nat) (v : Option Value) (h : Heap) (L : List Loc) : Prop := v = some (.int c1) ∧ Fr n0 L ∧ h = h0
set_option maxRecDepth 65536 in
set_option maxHeartbeats 40000000 in
theorem rm5 (l : Launch) (Z : State) (a0 : Array Value) (hw : ∀ d ∈ tables_1, d.before a0 Z = true) (ws : List Jvm.Cond) (a1 : Addr) (cs : Int32) (fm : Value) (b1 : Addr) (k1 : ClassId) (c0 : Int32) (c1 : Int32) (h0 : Heap) (n0 : Nat) (Z0 : n0 ≤ h0.size) (S_COMPACT_STRINGS : Sta Z h0 "java/lang/String" "COMPACT_STRINGS" "Z" (.int cs)) (hcs : ¬ (cs = (0 : Int32))) (E_a1 : Exa Z h0 a1 "java/lang/String") (F_coder_a1 : Fld Z h0 a1 "java/lang/String" "coder" "B" (.int (0 : Int32))) (F_value_a1 : Fld Z h0 a1 "java/lang/String" "value" "[B" (.ref b1)) (V_b1 : Arv Z h0 b1 k1 .byte (2 : Int32) [(.int c0), (.int c1)] (.int (0 : Int32))) (S_SIOOBE_FORMATTER : Sta Z h0 "jdk/internal/util/Preconditions" "SIOOBE_FORMATTER" "Ljava/util/function/BiFunction;" fm) (hfm : fm.isRef = true) (hch : c1 = (88 : Int32) ∨ c1 = (70 : Int32) ∨ c1 = (71 : Int32) ∨ c1 = (91 : Int32)) :
    MetFree l (⟨"java/lang/String", "charAt", "(I)C"⟩ : MethodName) (head1 (Jvm.Cond.code (⟨"java/lang/String", "charAt", "(I)C"⟩ : MethodName) jdk_42_method_56_code 2 (some .char) :: ws) ({ frames := 3, cells := 0, slots := 0, locals := 42 } : Room)) (fun a U => a = #[(.ref a1), (.int (1 : Int32))] ∧ Z.Warmed39 U.vm ∧ U.heap = h0) (fun _ _ _ _ _ => True) (fun _ U o U' => ∃ v L, o = .returned v ∧ Q5 Z a1 cs fm b1 k1 c0 c1 h0 n0 v U'.heap L ∧ FrameEnd U o U' L ({ frames := 3, cells := 0, slots := 0, locals := 42 } : Room).cells ({ frames := 3, cells := 0, slots := 0, locals := 42 } : Room).slots) := by
  refine MetFree.of_bodySF (plainFor_of_name pn_5) hisR ?_
  intro p e s m args below meth c s₁ Bd hml0 hP hK
  obtain ⟨rfl, hZ, hh⟩ := hP
  have hx := Bd.exec
  have hby := Bd.bytes
  have hml : c.maxLocals = 2 := hml0
  have hown : s.vm.findClass "java/lang/String" = some m.cls := findClass_of_methodNamed Bd.named
  have hnm := (name_of_methodNamed Bd.named Bd.method).1
  have hret := Bd.returns
  have hlk : meth.locks = false := BodyLoose.notSynchronized Bd
  have X0 : Stand p l e ({ frames := 3, cells := 0, slots := 0, locals := 42 } : Room) s m #[(.ref a1), (.int (1 : Int32))] below meth c s₁ [] 0 0 := Stand.of_body Bd
  have e0 : s₁.heap = h0 := by rw [← hh, Bd.state]; rfl
  have N0 := Fr.nil n0
  have W := fun (k : Nat) {d : Jvm.Cond} (h : tables_1[k]? = some d) => hw d (List.mem_of_getElem? h)
  have K0 : Keep h0 h0 [] := Keep.refl _ _
  refine own_start (ef_5 m a1 (1 : Int32)) ?_
  show own_Run p e below _ s₁ (mkF m 0 #[.val (.ref a1), .val (.int (1 : Int32))] [])
  rcases hch with rfl | rfl | rfl | rfl
  · show own_Run p e below _ s₁ (mkF m 0 #[.val (.ref a1), .val (.int (1 : Int32))] [])
    refine own_go (fun _ k => XS.aloadN X0.here hx rfl (hb hby d5_0) rfl rfl k) ?_
    show own_Run p e below _ s₁ (mkF m 1 #[.val (.ref a1), .val (.int (1 : Int32))] [(.ref a1)])
    obtain ⟨cq30, kq30, q30a, q30b, q30c⟩ := isOf hZ e0 E_a1
    obtain ⟨_, _, ⟨T30, L30, k30, n30⟩, -, X30, ⟨Lc30, hQ30, l30, y30, z30⟩, st30⟩ := X0.virtualBack hx (y := (⟨"java/lang/String", "isLatin1", "()Z"⟩ : MethodName)) (z := (⟨"java/lang/String", "isLatin1", "()Z"⟩ : MethodName)) hown (mvT hZ (W 56 rfl)) (mvT hZ (W 57 rfl)) (notFace_of_selects (args := #[]) (mvT hZ (W 59 rfl))) (mvT hZ (W 59 rfl)) (mvT hZ (W 58 rfl)) (by decide) (backOf (W := 0) (rm6 l Z a0 hw [] a1 cs h0 n0 Z0 S_COMPACT_STRINGS (hcs) F_coder_a1) hZ (W 60 rfl) (W 39 rfl) (by decide) (by decide)) q30a q30c (g := (mkF m 1 #[.val (.ref a1), .val (.int (1 : Int32))] [(.ref a1)])) rfl (by rw [hml]; rfl) (Steps.refl _) (argsL := []) (rest := []) (lenOf pd_4 rfl) rfl (by show 2 * 0 + _ ≤ _; exact Nat.le_of_eq rfl) (hb hby d5_1) (fun _ _ => ⟨rfl, e0, (by decide : 0 + 0 ≤ _), (by decide : 0 + 0 ≤ _)⟩)
    dsimp only [Pt.U, Pt.locs, Pt.cells, Pt.slots] at X30 l30 y30 z30 st30 hQ30
    subst l30 y30 z30
    obtain ⟨rfl, N30q, e30⟩ := hQ30
    have N30 := Fr.app N0 N30q
    refine own_goT st30 ?_
    show own_Run p e below _ T30 (mkF m 4 #[.val (.ref a1), .val (.int (1 : Int32))] [(.int (1 : Int32))])
    refine own_go (fun _ k => XS.ifNo X30.here hx rfl (hb hby d5_4) rfl ((if0 _ _).trans (feq (by decide : ¬ ((1 : Int32) = (0 : Int32)))).1) k) ?_
    show own_Run p e below _ T30 (mkF m 7 #[.val (.ref a1), .val (.int (1 : Int32))] [])
    refine own_go (fun _ k => XS.aloadN X30.here hx rfl (hb hby d5_7) rfl rfl k) ?_
    show own_Run p e below _ T30 (mkF m 8 #[.val (.ref a1), .val (.int (1 : Int32))] [(.ref a1)])
    obtain ⟨T31, X31, e31, st31⟩ := getF X30 hx hZ hown (host := "") (Or.inl (W 41 rfl)) Via.refl e30 F_value_a1 (g := (mkF m 8 #[.val (.ref a1), .val (.int (1 : Int32))] [(.ref a1)])) rfl rfl (hb hby d5_8)
    refine own_go st31 ?_
    show own_Run p e below _ T31 (mkF m 11 #[.val (.ref a1), .val (.int (1 : Int32))] [(.ref b1)])
    refine own_go (fun _ k => XS.iloadN X31.here hx rfl (hb hby d5_11) rfl k) ?_
    show own_Run p e below _ T31 (mkF m 12 #[.val (.ref a1), .val (.int (1 : Int32))] [(.int (1 : Int32)), (.ref b1)])
    obtain ⟨_, _, ⟨T32, L32, k32, n32⟩, -, X32, ⟨Lc32, hQ32, l32, y32, z32⟩, st32⟩ := Jvm.LawKit.callS X31 hx (y := (⟨"java/lang/StringLatin1", "charAt", "([BI)C"⟩ : MethodName)) hown (mvT hZ (W 61 rfl)) (mvT hZ (W 62 rfl)) (mvT hZ (W 63 rfl)) (mvT hZ (W 64 rfl)) (by decide) (backOf (W := 0) (rm7 l Z a0 hw [] b1 fm k1 c0 (88 : Int32) h0 n0 Z0 S_SIOOBE_FORMATTER (hfm) V_b1 (Or.inl rfl)) hZ (W 64 rfl) (W 63 rfl) (by decide) (by decide)) (g := (mkF m 12 #[.val (.ref a1), .val (.int (1 : Int32))] [(.int (1 : Int32)), (.ref b1)])) rfl (by rw [hml]; rfl) (argsL := [(.ref b1), (.int (1 : Int32))]) (rest := []) (lenOf pd_5 rfl) rfl (by show 2 * 0 + _ ≤ _; exact Nat.le_of_eq rfl) (hb hby d5_12) (fun _ _ => ⟨rfl, e31, (by decide : 0 + 0 ≤ _), (by decide : 0 + 0 ≤ _)⟩)
    dsimp only [Pt.U, Pt.locs, Pt.cells, Pt.slots] at X32 l32 y32 z32 st32 hQ32
    subst l32 y32 z32
    obtain ⟨rfl, N32q, e32⟩ := hQ32
    have N32 := Fr.app N30 N32q
    refine own_go st32 ?_
    show own_Run p e below _ T32 (mkF m 15 #[.val (.ref a1), .val (.int (1 : Int32))] [(.int (88 : Int32))])
    refine own_done (Q := fun v h L => Q5 Z a1 cs fm b1 k1 c0 (88 : Int32) h0 n0 v h L) (v := (some (.int (88 : Int32)))) X32 (fun h => by rw [hret] at h; cases h) hlk (fun fs hr => retN X32 hx (t := .char) hret (by simp) (hb hby d5_15) hr) ?_ (by decide) (by decide)
    show Q5 Z a1 cs fm b1 k1 c0 (88 : Int32) h0 n0 _ T32.heap _
    rw [e32]
    exact ⟨rfl, N32, rfl⟩
  · show own_Run p e below _ s₁ (mkF m 0 #[.val (.ref a1), .val (.int (1 : Int32))] [])
    refine own_go (fun _ k => XS.aloadN X0.here hx rfl (hb hby d5_0) rfl rfl k) ?_
    show own_Run p e below _ s₁ (mkF m 1 #[.val (.ref a1), .val (.int (1 : Int32))] [(.ref a1)])
    obtain ⟨cq33, kq33, q33a, q33b, q33c⟩ := isOf hZ e0 E_a1
    obtain ⟨_, _, ⟨T33, L33, k33, n33⟩, -, X33, ⟨Lc33, hQ33, l33, y33, z33⟩, st33⟩ := X0.virtualBack hx (y := (⟨"java/lang/String", "isLatin1", "()Z"⟩ : MethodName)) (z := (⟨"java/lang/String", "isLatin1", "()Z"⟩ : MethodName)) hown (mvT hZ (W 56 rfl)) (mvT hZ (W 57 rfl)) (notFace_of_selects (args := #[]) (mvT hZ (W 59 rfl))) (mvT hZ (W 59 rfl)) (mvT hZ (W 58 rfl)) (by decide) (backOf (W := 0) (rm6 l Z a0 hw [] a1 cs h0 n0 Z0 S_COMPACT_STRINGS (hcs) F_coder_a1) hZ (W 60 rfl) (W 39 rfl) (by decide) (by decide)) q33a q33c (g := (mkF m 1 #[.val (.ref a1), .val (.int (1 : Int32))] [(.ref a1)])) rfl (by rw [hml]; rfl) (Steps.refl _) (argsL := []) (rest := []) (lenOf pd_4 rfl) rfl (by show 2 * 0 + _ ≤ _; exact Nat.le_of_eq rfl) (hb hby d5_1) (fun _ _ => ⟨rfl, e0, (by decide : 0 + 0 ≤ _), (by decide : 0 + 0 ≤ _)⟩)
    dsimp only [Pt.U, Pt.locs, Pt.cells, Pt.slots] at X33 l33 y33 z33 st33 hQ33
    subst l33 y33 z33
    obtain ⟨rfl, N33q, e33⟩ := hQ33
    have N33 := Fr.app N0 N33q
    refine own_goT st33 ?_
    show own_Run p e below _ T33 (mkF m 4 #[.val (.ref a1), .val (.int (1 : Int32))] [(.int (1 : Int32))])
    refine own_go (fun _ k => XS.ifNo X33.here hx rfl (hb hby d5_4) rfl ((if0 _ _).trans (feq (by decide : ¬ ((1 : Int32) = (0 : Int32)))).1) k) ?_
    show own_Run p e below _ T33 (mkF m 7 #[.val (.ref a1), .val (.int (1 : Int32))] [])
    refine own_go (fun _ k => XS.aloadN X33.here hx rfl (hb hby d5_7) rfl rfl k) ?_
    show own_Run p e below _ T33 (mkF m 8 #[.val (.ref a1), .val (.int (1 : Int32))] [(.ref a1)])
    obtain ⟨T34, X34, e34, st34⟩ := getF X33 hx hZ hown (host := "") (Or.inl (W 41 rfl)) Via.refl e33 F_value_a1 (g := (mkF m 8 #[.val (.ref a1), .val (.int (1 : Int32))] [(.ref a1)])) rfl rfl (hb hby d5_8)
    refine own_go st34 ?_
    show own_Run p e below _ T34 (mkF m 11 #[.val (.ref a1), .val (.int (1 : Int32))] [(.ref b1)])
    refine own_go (fun _ k => XS.iloadN X34.here hx rfl (hb hby d5_11) rfl k) ?_
    show own_Run p e below _ T34 (mkF m 12 #[.val (.ref a1), .val (.int (1 : Int32))] [(.int (1 : Int32)), (.ref b1)])
    obtain ⟨_, _, ⟨T35, L35, k35, n35⟩, -, X35, ⟨Lc35, hQ35, l35, y35, z35⟩, st35⟩ := Jvm.LawKit.callS X34 hx (y := (⟨"java/lang/StringLatin1", "charAt", "([BI)C"⟩ : MethodName)) hown (mvT hZ (W 61 rfl)) (mvT hZ (W 62 rfl)) (mvT hZ (W 63 rfl)) (mvT hZ (W 64 rfl)) (by decide) (backOf (W := 0) (rm7 l Z a0 hw [] b1 fm k1 c0 (70 : Int32) h0 n0 Z0 S_SIOOBE_FORMATTER (hfm) V_b1 (Or.inr (Or.inl rfl))) hZ (W 64 rfl) (W 63 rfl) (by decide) (by decide)) (g := (mkF m 12 #[.val (.ref a1), .val (.int (1 : Int32))] [(.int (1 : Int32)), (.ref b1)])) rfl (by rw [hml]; rfl) (argsL := [(.ref b1), (.int (1 : Int32))]) (rest := []) (lenOf pd_5 rfl) rfl (by show 2 * 0 + _ ≤ _; exact Nat.le_of_eq rfl) (hb hby d5_12) (fun _ _ => ⟨rfl, e34, (by decide : 0 + 0 ≤ _), (by decide : 0 + 0 ≤ _)⟩)
    dsimp only [Pt.U, Pt.locs, Pt.cells, Pt.slots] at X35 l35 y35 z35 st35 hQ35
    subst l35 y35 z35
    obtain ⟨rfl, N35q, e35⟩ := hQ35
    have N35 := Fr.app N33 N35q
    refine own_go st35 ?_
    show own_Run p e below _ T35 (mkF m 15 #[.val (.ref a1), .val (.int (1 : Int32))] [(.int (70 : Int32))])
    refine own_done (Q := fun v h L => Q5 Z a1 cs fm b1 k1 c0 (70 : Int32) h0 n0 v h L) (v := (some (.int (70 : Int32)))) X35 (fun h => by rw [hret] at h; cases h) hlk (fun fs hr => retN X35 hx (t := .char) hret (by simp) (hb hby d5_15) hr) ?_ (by decide) (by decide)
    show Q5 Z a1 cs fm b1 k1 c0 (70 : Int32) h0 n0 _ T35.heap _
    rw [e35]
    exact ⟨rfl, N35, rfl⟩
  · show own_Run p e below _ s₁ (mkF m 0 #[.val (.ref a1), .val (.int (1 : Int32))] [])
    refine own_go (fun _ k => XS.aloadN X0.here hx rfl (hb hby d5_0) rfl rfl k) ?_
    show own_Run p e below _ s₁ (mkF m 1 #[.val (.ref a1), .val (.int (1 : Int32))] [(.ref a1)])
    obtain ⟨cq36, kq36, q36a, q36b, q36c⟩ := isOf hZ e0 E_a1
    obtain ⟨_, _, ⟨T36, L36, k36, n36⟩, -, X36, ⟨Lc36, hQ36, l36, y36, z36⟩, st36⟩ := X0.virtualBack hx (y := (⟨"java/lang/String", "isLatin1", "()Z"⟩ : MethodName)) (z := (⟨"java/lang/String", "isLatin1", "()Z"⟩ : MethodName)) hown (mvT hZ (W 56 rfl)) (mvT hZ (W 57 rfl)) (notFace_of_selects (args := #[]) (mvT hZ (W 59 rfl))) (mvT hZ (W 59 rfl)) (mvT hZ (W 58 rfl)) (by decide) (backOf (W := 0) (rm6 l Z a0 hw [] a1 cs h0 n0 Z0 S_COMPACT_STRINGS (hcs) F_coder_a1) hZ (W 60 rfl) (W 39 rfl) (by decide) (by decide)) q36a q36c (g := (mkF m 1 #[.val (.ref a1), .val (.int (1 : Int32))] [(.ref a1)])) rfl (by rw [hml]; rfl) (Steps.refl _) (argsL := []) (rest := []) (lenOf pd_4 rfl) rfl (by show 2 * 0 + _ ≤ _; exact Nat.le_of_eq rfl) (hb hby d5_1) (fun _ _ => ⟨rfl, e0, (by decide : 0 + 0 ≤ _), (by decide : 0 + 0 ≤ _)⟩)
    dsimp only [Pt.U, Pt.locs, Pt.cells, Pt.slots] at X36 l36 y36 z36 st36 hQ36
    subst l36 y36 z36
    obtain ⟨rfl, N36q, e36⟩ := hQ36
    have N36 := Fr.app N0 N36q
    refine own_goT st36 ?_
    show own_Run p e below _ T36 (mkF m 4 #[.val (.ref a1), .val (.int (1 : Int32))] [(.int (1 : Int32))])
    refine own_go (fun _ k => XS.ifNo X36.here hx rfl (hb hby d5_4) rfl ((if0 _ _).trans (feq (by decide : ¬ ((1 : Int32) = (0 : Int32)))).1) k) ?_
    show own_Run p e below _ T36 (mkF m 7 #[.val (.ref a1), .val (.int (1 : Int32))] [])
    refine own_go (fun _ k => XS.aloadN X36.here hx rfl (hb hby d5_7) rfl rfl k) ?_
    show own_Run p e below _ T36 (mkF m 8 #[.val (.ref a1), .val (.int (1 : Int32))] [(.ref a1)])
    obtain ⟨T37, X37, e37, st37⟩ := getF X36 hx hZ hown (host := "") (Or.inl (W 41 rfl)) Via.refl e36 F_value_a1 (g := (mkF m 8 #[.val (.ref a1), .val (.int (1 : Int32))] [(.ref a1)])) rfl rfl (hb hby d5_8)
    refine own_go st37 ?_
    show own_Run p e below _ T37 (mkF m 11 #[.val (.ref a1), .val (.int (1 : Int32))] [(.ref b1)])
    refine own_go (fun _ k => XS.iloadN X37.here hx rfl (hb hby d5_11) rfl k) ?_
    show own_Run p e below _ T37 (mkF m 12 #[.val (.ref a1), .val (.int (1 : Int32))] [(.int (1 : Int32)), (.ref b1)])
    obtain ⟨_, _, ⟨T38, L38, k38, n38⟩, -, X38, ⟨Lc38, hQ38, l38, y38, z38⟩, st38⟩ := Jvm.LawKit.callS X37 hx (y := (⟨"java/lang/StringLatin1", "charAt", "([BI)C"⟩ : MethodName)) hown (mvT hZ (W 61 rfl)) (mvT hZ (W 62 rfl)) (mvT hZ (W 63 rfl)) (mvT hZ (W 64 rfl)) (by decide) (backOf (W := 0) (rm7 l Z a0 hw [] b1 fm k1 c0 (71 : Int32) h0 n0 Z0 S_SIOOBE_FORMATTER (hfm) V_b1 (Or.inr (Or.inr (Or.inl rfl)))) hZ (W 64 rfl) (W 63 rfl) (by decide) (by decide)) (g := (mkF m 12 #[.val (.ref a1), .val (.int (1 : Int32))] [(.int (1 : Int32)), (.ref b1)])) rfl (by rw [hml]; rfl) (argsL := [(.ref b1), (.int (1 : Int32))]) (rest := []) (lenOf pd_5 rfl) rfl (by show 2 * 0 + _ ≤ _; exact Nat.le_of_eq rfl) (hb hby d5_12) (fun _ _ => ⟨rfl, e37, (by decide : 0 + 0 ≤ _), (by decide : 0 + 0 ≤ _)⟩)
    dsimp only [Pt.U, Pt.locs, Pt.cells, Pt.slots] at X38 l38 y38 z38 st38 hQ38
    subst l38 y38 z38
    obtain ⟨rfl, N38q, e38⟩ := hQ38
    have N38 := Fr.app N36 N38q
    refine own_go st38 ?_
    show own_Run p e below _ T38 (mkF m 15 #[.val (.ref a1), .val (.int (1 : Int32))] [(.int (71 : Int32))])
    refine own_done (Q := fun v h L => Q5 Z a1 cs fm b1 k1 c0 (71 : Int32) h0 n0 v h L) (v := (some (.int (71 : Int32)))) X38 (fun h => by rw [hret] at h; cases h) hlk (fun fs hr => retN X38 hx (t := .char) hret (by simp) (hb hby d5_15) hr) ?_ (by decide) (by decide)
    show Q5 Z a1 cs fm b1 k1 c0 (71 : Int32) h0 n0 _ T38.heap _
    rw [e38]
    exact ⟨rfl, N38, rfl⟩
  · show own_Run p e below _ s₁ (mkF m 0 #[.val (.ref a1), .val (.int (1 : Int32))] [])
    refine own_go (fun _ k => XS.aloadN X0.here hx rfl (hb hby d5_0) rfl rfl k) ?_
    show own_Run p e below _ s₁ (mkF m 1 #[.val (.ref a1), .val (.int (1 : Int32))] [(.ref a1)])
    obtain ⟨cq39, kq39, q39a, q39b, q39c⟩ := isOf hZ e0 E_a1
    obtain ⟨_, _, ⟨T39, L39, k39, n39⟩, -, X39, ⟨Lc39, hQ39, l39, y39, z39⟩, st39⟩ := X0.virtualBack hx (y := (⟨"java/lang/String", "isLatin1", "()Z"⟩ : MethodName)) (z := (⟨"java/lang/String", "isLatin1", "()Z"⟩ : MethodName)) hown (mvT hZ (W 56 rfl)) (mvT hZ (W 57 rfl)) (notFace_of_selects (args := #[]) (mvT hZ (W 59 rfl))) (mvT hZ (W 59 rfl)) (mvT hZ (W 58 rfl)) (by decide) (backOf (W := 0) (rm6 l Z a0 hw [] a1 cs h0 n0 Z0 S_COMPACT_STRINGS (hcs) F_coder_a1) hZ (W 60 rfl) (W 39 rfl) (by decide) (by decide)) q39a q39c (g := (mkF m 1 #[.val (.ref a1), .val (.int (1 : Int32))] [(.ref a1)])) rfl (by rw [hml]; rfl) (Steps.refl _) (argsL := []) (rest := []) (lenOf pd_4 rfl) rfl (by show 2 * 0 + _ ≤ _; exact Nat.le_of_eq rfl) (hb hby d5_1) (fun _ _ => ⟨rfl, e0, (by decide : 0 + 0 ≤ _), (by decide : 0 + 0 ≤ _)⟩)
    dsimp only [Pt.U, Pt.locs, Pt.cells, Pt.slots] at X39 l39 y39 z39 st39 hQ39
    subst l39 y39 z39
    obtain ⟨rfl, N39q, e39⟩ := hQ39
    have N39 := Fr.app N0 N39q
    refine own_goT st39 ?_
    show own_Run p e below _ T39 (mkF m 4 #[.val (.ref a1), .val (.int (1 : Int32))] [(.int (1 : Int32))])
    refine own_go (fun _ k => XS.ifNo X39.here hx rfl (hb hby d5_4) rfl ((if0 _ _).trans (feq (by decide : ¬ ((1 : Int32) = (0 : Int32)))).1) k) ?_
    show own_Run p e below _ T39 (mkF m 7 #[.val (.ref a1), .val (.int (1 : Int32))] [])
    refine own_go (fun _ k => XS.aloadN X39.here hx rfl (hb hby d5_7) rfl rfl k) ?_
    show own_Run p e below _ T39 (mkF m 8 #[.val (.ref a1), .val (.int (1 : Int32))] [(.ref a1)])
    obtain ⟨T40, X40, e40, st40⟩ := getF X39 hx hZ hown (host := "") (Or.inl (W 41 rfl)) Via.refl e39 F_value_a1 (g := (mkF m 8 #[.val (.ref a1), .val (.int (1 : Int32))] [(.ref a1)])) rfl rfl (hb hby d5_8)
    refine own_go st40 ?_
    show own_Run p e below _ T40 (mkF m 11 #[.val (.ref a1), .val (.int (1 : Int32))] [(.ref b1)])
    refine own_go (fun _ k => XS.iloadN X40.here hx rfl (hb hby d5_11) rfl k) ?_
    show own_Run p e below _ T40 (mkF m 12 #[.val (.ref a1), .val (.int (1 : Int32))] [(.int (1 : Int32)), (.ref b1)])
    obtain ⟨_, _, ⟨T41, L41, k41, n41⟩, -, X41, ⟨Lc41, hQ41, l41, y41, z41⟩, st41⟩ := Jvm.LawKit.callS X40 hx (y := (⟨"java/lang/StringLatin1", "charAt", "([BI)C"⟩ : MethodName)) hown (mvT hZ (W 61 rfl)) (mvT hZ (W 62 rfl)) (mvT hZ (W 63 rfl)) (mvT hZ (W 64 rfl)) (by decide) (backOf (W := 0) (rm7 l Z a0 hw [] b1 fm k1 c0 (91 : Int32) h0 n0 Z0 S_SIOOBE_FORMATTER (hfm) V_b1 (Or.inr (Or.inr (Or.inr (rfl))))) hZ (W 64 rfl) (W 63 rfl) (by decide) (by decide)) (g := (mkF m 12 #[.val (.ref a1), .val (.int (1 : Int32))] [(.int (1 : Int32)), (.ref b1)])) rfl (by rw [hml]; rfl) (argsL := [(.ref b1), (.int (1 : Int32))]) (rest := []) (lenOf pd_5 rfl) rfl (by show 2 * 0 + _ ≤ _; exact Nat.le_of_eq rfl) (hb hby d5_12) (fun _ _ => ⟨rfl, e40, (by decide : 0 + 0 ≤ _), (by decide : 0 + 0 ≤ _)⟩)
    dsimp only [Pt.U, Pt.locs, Pt.cells, Pt.slots] at X41 l41 y41 z41 st41 hQ41
    subst l41 y41 z41
    obtain ⟨rfl, N41q, e41⟩ := hQ41
    have N41 := Fr.app N39 N41q
    refine own_go st41 ?_
    show own_Run p e below _ T41 (mkF m 15 #[.val (.ref a1), .val (.int (1 : Int32))] [(.int (91 : Int32))])
    refine own_done (Q := fun v h L => Q5 Z a1 cs fm b1 k1 c0 (91 : Int32) h0 n0 v h L) (v := (some (.int (91 : Int32)))) X41 (fun h => by rw [hret] at h; cases h) hlk (fun fs hr => retN X41 hx (t := .char) hret (by simp) (hb hby d5_15) hr) ?_ (by decide) (by decide)
    show Q5 Z a1 cs fm b1 k1 c0 (91 : Int32) h0 n0 _ T41.heap _
    rw [e41]
    exact ⟨rfl, N41, rfl⟩
theorem pn_0 : plainName "com/example/error_to_hazard/errortohazard/model/TemporalIsUntilPinLaw" = true := by first | (simp [plainName, overriddenIn]; done) | decide +kernel
theorem ef_0 (m : MethodId) (x0 : Int32) : entryFrame m #[(.int x0)] maxLocals = mkF m 0 #[.val (.int x0), .unset, .unset, .unset, .unset, .unset, .unset, .unset] [] := by first | (simp [entryFrame, mkF, argsToLocals, Value.category, maxLocals]; done) | rfl
theorem pd_6 : parseMethodDescriptor "()Ljava/lang/String;" = some ⟨[], some (.object "java/lang/String")⟩ := by decide +kernel
theorem pd_7 : parseMethodDescriptor "()I" = some ⟨[], some .int⟩ := by decide +kernel
theorem pd_8 : parseMethodDescriptor "(I)C" = some ⟨[.int], some .char⟩ := by decide +kernel
def Q0 (Z : State) (p1 : Int32) (cs : Int32) (fm : Value) (o0 : Addr) (s0 : Addr) (v0 : Addr) (kv0 : ClassId) (d0 : Int32) (o1 : Addr) (s1 : Addr) (v1 : Addr) (kv1 : ClassId) (d1 : Int32) (o2 : Addr) (s2 : Addr) (v2 : Addr) (kv2 : ClassId) (d2 : Int32) (o3 : Addr) (s3 : Addr) (v3 : Addr) (kv3 : ClassId) (d3 : Int32) (o4 : Addr) (s4 : Addr) (v4 : Addr) (kv4 : ClassId) (d4 : Int32) (o5 : Addr) (s5 : Addr) (v5 : Addr) (kv5 : ClassId) (d5 : Int32) (o6 : Addr) (s6 : Addr) (v6 : Addr) (kv6 : ClassId) (d6 : Int32) (o7 : Addr) (s7 : Addr) (v7 : Addr) (kv7 : ClassId) (d7 : Int32) (h0 : Heap) (n0 : Nat) (v : Option Value) (h : Heap) (L : List Loc) : Prop := v = some (.int (1 : Int32)) ∧ Fr n0 L
set_option maxRecDepth 65536 in
set_option maxHeartbeats 40000000 in
theorem rm0 (l : Launch) (Z : State) (a0 : Array Value) (hw : ∀ d ∈ tables_1, d.before a0 Z = true) (ws : List Jvm.Cond) (p1 : Int32) (cs : Int32) (fm : Value) (o0 : Addr) (s0 : Addr) (v0 : Addr) (kv0 : ClassId) (d0 : Int32) (o1 : Addr) (s1 : Addr) (v1 : Addr) (kv1 : ClassId) (d1 : Int32) (o2 : Addr) (s2 : Addr) (v2 : Addr) (kv2 : ClassId) (d2 : Int32) (o3 : Addr) (s3 : Addr) (v3 : Addr) (kv3 : ClassId) (d3 : Int32) (o4 : Addr) (s4 : Addr) (v4 : Addr) (kv4 : ClassId) (d4 : Int32) (o5 : Addr) (s5 : Addr) (v5 : Addr) (kv5 : ClassId) (d5 : Int32) (o6 : Addr) (s6 : Addr) (v6 : Addr) (kv6 : ClassId) (d6 : Int32) (o7 : Addr) (s7 : Addr) (v7 : Addr) (kv7 : ClassId) (d7 : Int32) (h0 : Heap) (n0 : Nat) (Z0 : n0 ≤ h0.size) (S_COMPACT_STRINGS : Sta Z h0 "java/lang/String" "COMPACT_STRINGS" "Z" (.int cs)) (hcs : ¬ (cs = (0 : Int32))) (S_SIOOBE_FORMATTER : Sta Z h0 "jdk/internal/util/Preconditions" "SIOOBE_FORMATTER" "Ljava/util/function/BiFunction;" fm) (hfm : fm.isRef = true) (S_AX : Sta Z h0 "com/example/error_to_hazard/errortohazard/model/CtlFormula$Temporal" "AX" "Lcom/example/error_to_hazard/errortohazard/model/CtlFormula$Temporal;" (.ref o0)) (E_o0 : Exa Z h0 o0 "com/example/error_to_hazard/errortohazard/model/CtlFormula$Temporal") (F_symbol_o0 : Fld Z h0 o0 "com/example/error_to_hazard/errortohazard/model/CtlFormula$Temporal" "symbol" "Ljava/lang/String;" (.ref s0)) (E_s0 : Exa Z h0 s0 "java/lang/String") (F_value_s0 : Fld Z h0 s0 "java/lang/String" "value" "[B" (.ref v0)) (F_coder_s0 : Fld Z h0 s0 "java/lang/String" "coder" "B" (.int (0 : Int32))) (V_v0 : Arv Z h0 v0 kv0 .byte (2 : Int32) [(.int d0), (.int (88 : Int32))] (.int (0 : Int32))) (S_EX : Sta Z h0 "com/example/error_to_hazard/errortohazard/model/CtlFormula$Temporal" "EX" "Lcom/example/error_to_hazard/errortohazard/model/CtlFormula$Temporal;" (.ref o1)) (E_o1 : Exa Z h0 o1 "com/example/error_to_hazard/errortohazard/model/CtlFormula$Temporal") (F_symbol_o1 : Fld Z h0 o1 "com/example/error_to_hazard/errortohazard/model/CtlFormula$Temporal" "symbol" "Ljava/lang/String;" (.ref s1)) (E_s1 : Exa Z h0 s1 "java/lang/String") (F_value_s1 : Fld Z h0 s1 "java/lang/String" "value" "[B" (.ref v1)) (F_coder_s1 : Fld Z h0 s1 "java/lang/String" "coder" "B" (.int (0 : Int32))) (V_v1 : Arv Z h0 v1 kv1 .byte (2 : Int32) [(.int d1), (.int (88 : Int32))] (.int (0 : Int32))) (S_AF : Sta Z h0 "com/example/error_to_hazard/errortohazard/model/CtlFormula$Temporal" "AF" "Lcom/example/error_to_hazard/errortohazard/model/CtlFormula$Temporal;" (.ref o2)) (E_o2 : Exa Z h0 o2 "com/example/error_to_hazard/errortohazard/model/CtlFormula$Temporal") (F_symbol_o2 : Fld Z h0 o2 "com/example/error_to_hazard/errortohazard/model/CtlFormula$Temporal" "symbol" "Ljava/lang/String;" (.ref s2)) (E_s2 : Exa Z h0 s2 "java/lang/String") (F_value_s2 : Fld Z h0 s2 "java/lang/String" "value" "[B" (.ref v2)) (F_coder_s2 : Fld Z h0 s2 "java/lang/String" "coder" "B" (.int (0 : Int32))) (V_v2 : Arv Z h0 v2 kv2 .byte (2 : Int32) [(.int d2), (.int (70 : Int32))] (.int (0 : Int32))) (S_EF : Sta Z h0 "com/example/error_to_hazard/errortohazard/model/CtlFormula$Temporal" "EF" "Lcom/example/error_to_hazard/errortohazard/model/CtlFormula$Temporal;" (.ref o3)) (E_o3 : Exa Z h0 o3 "com/example/error_to_hazard/errortohazard/model/CtlFormula$Temporal") (F_symbol_o3 : Fld Z h0 o3 "com/example/error_to_hazard/errortohazard/model/CtlFormula$Temporal" "symbol" "Ljava/lang/String;" (.ref s3)) (E_s3 : Exa Z h0 s3 "java/lang/String") (F_value_s3 : Fld Z h0 s3 "java/lang/String" "value" "[B" (.ref v3)) (F_coder_s3 : Fld Z h0 s3 "java/lang/String" "coder" "B" (.int (0 : Int32))) (V_v3 : Arv Z h0 v3 kv3 .byte (2 : Int32) [(.int d3), (.int (70 : Int32))] (.int (0 : Int32))) (S_AG : Sta Z h0 "com/example/error_to_hazard/errortohazard/model/CtlFormula$Temporal" "AG" "Lcom/example/error_to_hazard/errortohazard/model/CtlFormula$Temporal;" (.ref o4)) (E_o4 : Exa Z h0 o4 "com/example/error_to_hazard/errortohazard/model/CtlFormula$Temporal") (F_symbol_o4 : Fld Z h0 o4 "com/example/error_to_hazard/errortohazard/model/CtlFormula$Temporal" "symbol" "Ljava/lang/String;" (.ref s4)) (E_s4 : Exa Z h0 s4 "java/lang/String") (F_value_s4 : Fld Z h0 s4 "java/lang/String" "value" "[B" (.ref v4)) (F_coder_s4 : Fld Z h0 s4 "java/lang/String" "coder" "B" (.int (0 : Int32))) (V_v4 : Arv Z h0 v4 kv4 .byte (2 : Int32) [(.int d4), (.int (71 : Int32))] (.int (0 : Int32))) (S_EG : Sta Z h0 "com/example/error_to_hazard/errortohazard/model/CtlFormula$Temporal" "EG" "Lcom/example/error_to_hazard/errortohazard/model/CtlFormula$Temporal;" (.ref o5)) (E_o5 : Exa Z h0 o5 "com/example/error_to_hazard/errortohazard/model/CtlFormula$Temporal") (F_symbol_o5 : Fld Z h0 o5 "com/example/error_to_hazard/errortohazard/model/CtlFormula$Temporal" "symbol" "Ljava/lang/String;" (.ref s5)) (E_s5 : Exa Z h0 s5 "java/lang/String") (F_value_s5 : Fld Z h0 s5 "java/lang/String" "value" "[B" (.ref v5)) (F_coder_s5 : Fld Z h0 s5 "java/lang/String" "coder" "B" (.int (0 : Int32))) (V_v5 : Arv Z h0 v5 kv5 .byte (2 : Int32) [(.int d5), (.int (71 : Int32))] (.int (0 : Int32))) (S_AU : Sta Z h0 "com/example/error_to_hazard/errortohazard/model/CtlFormula$Temporal" "AU" "Lcom/example/error_to_hazard/errortohazard/model/CtlFormula$Temporal;" (.ref o6)) (E_o6 : Exa Z h0 o6 "com/example/error_to_hazard/errortohazard/model/CtlFormula$Temporal") (F_symbol_o6 : Fld Z h0 o6 "com/example/error_to_hazard/errortohazard/model/CtlFormula$Temporal" "symbol" "Ljava/lang/String;" (.ref s6)) (E_s6 : Exa Z h0 s6 "java/lang/String") (F_value_s6 : Fld Z h0 s6 "java/lang/String" "value" "[B" (.ref v6)) (F_coder_s6 : Fld Z h0 s6 "java/lang/String" "coder" "B" (.int (0 : Int32))) (V_v6 : Arv Z h0 v6 kv6 .byte (2 : Int32) [(.int d6), (.int (91 : Int32))] (.int (0 : Int32))) (S_EU : Sta Z h0 "com/example/error_to_hazard/errortohazard/model/CtlFormula$Temporal" "EU" "Lcom/example/error_to_hazard/errortohazard/model/CtlFormula$Temporal;" (.ref o7)) (E_o7 : Exa Z h0 o7 "com/example/error_to_hazard/errortohazard/model/CtlFormula$Temporal") (F_symbol_o7 : Fld Z h0 o7 "com/example/error_to_hazard/errortohazard/model/CtlFormula$Temporal" "symbol" "Ljava/lang/String;" (.ref s7)) (E_s7 : Exa Z h0 s7 "java/lang/String") (F_value_s7 : Fld Z h0 s7 "java/lang/String" "value" "[B" (.ref v7)) (F_coder_s7 : Fld Z h0 s7 "java/lang/String" "coder" "B" (.int (0 : Int32))) (V_v7 : Arv Z h0 v7 kv7 .byte (2 : Int32) [(.int d7), (.int (91 : Int32))] (.int (0 : Int32))) (ne_o0_o6 : o0 ≠ o6) (ne_o0_o7 : o0 ≠ o7) (ne_o1_o6 : o1 ≠ o6) (ne_o1_o7 : o1 ≠ o7) (ne_o2_o6 : o2 ≠ o6) (ne_o2_o7 : o2 ≠ o7) (ne_o3_o6 : o3 ≠ o6) (ne_o3_o7 : o3 ≠ o7) (ne_o4_o6 : o4 ≠ o6) (ne_o4_o7 : o4 ≠ o7) (ne_o5_o6 : o5 ≠ o6) (ne_o5_o7 : o5 ≠ o7) (ne_o6_o7 : o6 ≠ o7) :
    MetFree l x (head1 (Jvm.Cond.code x code maxLocals ret :: ws) room_1) (fun a U => a = #[(.int p1)] ∧ Z.Warmed39 U.vm ∧ U.heap = h0) (fun _ _ _ _ _ => True) (fun _ U o U' => ∃ v L, o = .returned v ∧ Q0 Z p1 cs fm o0 s0 v0 kv0 d0 o1 s1 v1 kv1 d1 o2 s2 v2 kv2 d2 o3 s3 v3 kv3 d3 o4 s4 v4 kv4 d4 o5 s5 v5 kv5 d5 o6 s6 v6 kv6 d6 o7 s7 v7 kv7 d7 h0 n0 v U'.heap L ∧ FrameEnd U o U' L room_1.cells room_1.slots) := by
  refine MetFree.of_bodySF (plainFor_of_name pn_0) hisR ?_
  intro p e s m args below meth c s₁ Bd hml0 hP hK
  obtain ⟨rfl, hZ, hh⟩ := hP
  have hx := Bd.exec
  have hby := Bd.bytes
  have hml : c.maxLocals = 8 := hml0
  have hown : s.vm.findClass "com/example/error_to_hazard/errortohazard/model/TemporalIsUntilPinLaw" = some m.cls := findClass_of_methodNamed Bd.named
  have hnm := (name_of_methodNamed Bd.named Bd.method).1
  have hret := Bd.returns
  have hlk : meth.locks = false := BodyLoose.notSynchronized Bd
  have X0 : Stand p l e room_1 s m #[(.int p1)] below meth c s₁ [] 0 0 := Stand.of_body Bd
  have e0 : s₁.heap = h0 := by rw [← hh, Bd.state]; rfl
  have N0 := Fr.nil n0
  have W := fun (k : Nat) {d : Jvm.Cond} (h : tables_1[k]? = some d) => hw d (List.mem_of_getElem? h)
  have K0 : Keep h0 h0 [] := Keep.refl _ _
  refine own_start (ef_0 m p1) ?_
  show own_Run p e below _ s₁ (mkF m 0 #[.val (.int p1), .unset, .unset, .unset, .unset, .unset, .unset, .unset] [])
  refine own_go (fun _ k => XS.bipush X0.here hx rfl (hb hby at_0) k) ?_
  show own_Run p e below _ s₁ (mkF m 2 #[.val (.int p1), .unset, .unset, .unset, .unset, .unset, .unset, .unset] [(.int (8 : Int32))])
  obtain ⟨T42, h42, k42, X42, e42, E42, A42, O42, st42⟩ := newR X0 hx hZ hown (W 0 rfl) (W 1 rfl) e0 (g := (mkF m 2 #[.val (.int p1), .unset, .unset, .unset, .unset, .unset, .unset, .unset] [(.int (8 : Int32))])) rfl (hb hby at_2) rfl (by decide) (cap := 8) (by decide) (by decide) (by decide) (by decide)
  refine own_go st42 ?_
  obtain ⟨b42, g42⟩ : ∃ z, z = h0.size := ⟨_, rfl⟩
  rw [← g42] at A42
  rw [← g42]
  show own_Run p e below _ T42 (mkF m 5 #[.val (.int p1), .unset, .unset, .unset, .unset, .unset, .unset, .unset] [(.ref b42)])
  have ne_o0_b42 : o0 ≠ b42 := Nat.ne_of_lt (Nat.lt_of_lt_of_eq E_o0.lt g42.symm)
  have ne_s0_b42 : s0 ≠ b42 := Nat.ne_of_lt (Nat.lt_of_lt_of_eq E_s0.lt g42.symm)
  have ne_v0_b42 : v0 ≠ b42 := Nat.ne_of_lt (Nat.lt_of_lt_of_eq V_v0.lt g42.symm)
  have ne_o1_b42 : o1 ≠ b42 := Nat.ne_of_lt (Nat.lt_of_lt_of_eq E_o1.lt g42.symm)
  have ne_s1_b42 : s1 ≠ b42 := Nat.ne_of_lt (Nat.lt_of_lt_of_eq E_s1.lt g42.symm)
  have ne_v1_b42 : v1 ≠ b42 := Nat.ne_of_lt (Nat.lt_of_lt_of_eq V_v1.lt g42.symm)
  have ne_o2_b42 : o2 ≠ b42 := Nat.ne_of_lt (Nat.lt_of_lt_of_eq E_o2.lt g42.symm)
  have ne_s2_b42 : s2 ≠ b42 := Nat.ne_of_lt (Nat.lt_of_lt_of_eq E_s2.lt g42.symm)
  have ne_v2_b42 : v2 ≠ b42 := Nat.ne_of_lt (Nat.lt_of_lt_of_eq V_v2.lt g42.symm)
  have ne_o3_b42 : o3 ≠ b42 := Nat.ne_of_lt (Nat.lt_of_lt_of_eq E_o3.lt g42.symm)
  have ne_s3_b42 : s3 ≠ b42 := Nat.ne_of_lt (Nat.lt_of_lt_of_eq E_s3.lt g42.symm)
  have ne_v3_b42 : v3 ≠ b42 := Nat.ne_of_lt (Nat.lt_of_lt_of_eq V_v3.lt g42.symm)
  have ne_o4_b42 : o4 ≠ b42 := Nat.ne_of_lt (Nat.lt_of_lt_of_eq E_o4.lt g42.symm)
  have ne_s4_b42 : s4 ≠ b42 := Nat.ne_of_lt (Nat.lt_of_lt_of_eq E_s4.lt g42.symm)
  have ne_v4_b42 : v4 ≠ b42 := Nat.ne_of_lt (Nat.lt_of_lt_of_eq V_v4.lt g42.symm)
  have ne_o5_b42 : o5 ≠ b42 := Nat.ne_of_lt (Nat.lt_of_lt_of_eq E_o5.lt g42.symm)
  have ne_s5_b42 : s5 ≠ b42 := Nat.ne_of_lt (Nat.lt_of_lt_of_eq E_s5.lt g42.symm)
  have ne_v5_b42 : v5 ≠ b42 := Nat.ne_of_lt (Nat.lt_of_lt_of_eq V_v5.lt g42.symm)
  have ne_o6_b42 : o6 ≠ b42 := Nat.ne_of_lt (Nat.lt_of_lt_of_eq E_o6.lt g42.symm)
  have ne_s6_b42 : s6 ≠ b42 := Nat.ne_of_lt (Nat.lt_of_lt_of_eq E_s6.lt g42.symm)
  have ne_v6_b42 : v6 ≠ b42 := Nat.ne_of_lt (Nat.lt_of_lt_of_eq V_v6.lt g42.symm)
  have ne_o7_b42 : o7 ≠ b42 := Nat.ne_of_lt (Nat.lt_of_lt_of_eq E_o7.lt g42.symm)
  have ne_s7_b42 : s7 ≠ b42 := Nat.ne_of_lt (Nat.lt_of_lt_of_eq E_s7.lt g42.symm)
  have ne_v7_b42 : v7 ≠ b42 := Nat.ne_of_lt (Nat.lt_of_lt_of_eq V_v7.lt g42.symm)
  have g_b42 : n0 ≤ b42 := Nat.le_trans Z0 (Nat.le_of_eq g42.symm)
  have sz_b42 : h0.size ≤ b42 := Nat.le_trans K0.1 (Nat.le_of_eq g42.symm)
  have Z0_c43 := Nat.le_trans Z0 E42.1
  have K0_c43 := K0.ext E42
  have S_COMPACT_STRINGS_c43 := S_COMPACT_STRINGS.ext E42
  have S_SIOOBE_FORMATTER_c43 := S_SIOOBE_FORMATTER.ext E42
  have S_AX_c43 := S_AX.ext E42
  have E_o0_c43 := E_o0.ext E42
  have F_symbol_o0_c43 := F_symbol_o0.ext E42
  have E_s0_c43 := E_s0.ext E42
  have F_value_s0_c43 := F_value_s0.ext E42
  have F_coder_s0_c43 := F_coder_s0.ext E42
  have V_v0_c43 := V_v0.ext E42
  have S_EX_c43 := S_EX.ext E42
  have E_o1_c43 := E_o1.ext E42
  have F_symbol_o1_c43 := F_symbol_o1.ext E42
  have E_s1_c43 := E_s1.ext E42
  have F_value_s1_c43 := F_value_s1.ext E42
  have F_coder_s1_c43 := F_coder_s1.ext E42
  have V_v1_c43 := V_v1.ext E42
  have S_AF_c43 := S_AF.ext E42
  have E_o2_c43 := E_o2.ext E42
  have F_symbol_o2_c43 := F_symbol_o2.ext E42
  have E_s2_c43 := E_s2.ext E42
  have F_value_s2_c43 := F_value_s2.ext E42
  have F_coder_s2_c43 := F_coder_s2.ext E42
  have V_v2_c43 := V_v2.ext E42
  have S_EF_c43 := S_EF.ext E42
  have E_o3_c43 := E_o3.ext E42
  have F_symbol_o3_c43 := F_symbol_o3.ext E42
  have E_s3_c43 := E_s3.ext E42
  have F_value_s3_c43 := F_value_s3.ext E42
  have F_coder_s3_c43 := F_coder_s3.ext E42
  have V_v3_c43 := V_v3.ext E42
  have S_AG_c43 := S_AG.ext E42
  have E_o4_c43 := E_o4.ext E42
  have F_symbol_o4_c43 := F_symbol_o4.ext E42
  have E_s4_c43 := E_s4.ext E42
  have F_value_s4_c43 := F_value_s4.ext E42
  have F_coder_s4_c43 := F_coder_s4.ext E42
  have V_v4_c43 := V_v4.ext E42
  have S_EG_c43 := S_EG.ext E42
  have E_o5_c43 := E_o5.ext E42
  have F_symbol_o5_c43 := F_symbol_o5.ext E42
  have E_s5_c43 := E_s5.ext E42
  have F_value_s5_c43 := F_value_s5.ext E42
  have F_coder_s5_c43 := F_coder_s5.ext E42
  have V_v5_c43 := V_v5.ext E42
  have S_AU_c43 := S_AU.ext E42
  have E_o6_c43 := E_o6.ext E42
  have F_symbol_o6_c43 := F_symbol_o6.ext E42
  have E_s6_c43 := E_s6.ext E42
  have F_value_s6_c43 := F_value_s6.ext E42
  have F_coder_s6_c43 := F_coder_s6.ext E42
  have V_v6_c43 := V_v6.ext E42
  have S_EU_c43 := S_EU.ext E42
  have E_o7_c43 := E_o7.ext E42
  have F_symbol_o7_c43 := F_symbol_o7.ext E42
  have E_s7_c43 := E_s7.ext E42
  have F_value_s7_c43 := F_value_s7.ext E42
  have F_coder_s7_c43 := F_coder_s7.ext E42
  have V_v7_c43 := V_v7.ext E42
  have V_b42 : Arv Z h42 b42 k42 (.object "com/example/error_to_hazard/errortohazard/model/CtlFormula$Temporal") (8 : Int32) [.null, .null, .null, .null, .null, .null, .null, .null] .null := (Arv.new A42 (by decide)).pad (pad_rep [] .null 8)
  refine own_go (fun _ k => XS.dup X42.here hx rfl (hb hby at_5) rfl rfl k) ?_
  refine own_go (fun _ k => XS.iconst X42.here hx rfl (hb hby at_6) k) ?_
  show own_Run p e below _ T42 (mkF m 7 #[.val (.int p1), .unset, .unset, .unset, .unset, .unset, .unset, .unset] [(.int (0 : Int32)), (.ref b42), (.ref b42)])
  obtain ⟨T44, X44, e44, st44⟩ := getS2 X42 hx hZ hown (host := "") (Or.inl (W 2 rfl)) Via.refl e42 S_AX_c43 (g := (mkF m 7 #[.val (.int p1), .unset, .unset, .unset, .unset, .unset, .unset, .unset] [(.int (0 : Int32)), (.ref b42), (.ref b42)])) rfl (hb hby at_7)
  refine own_go st44 ?_
  show own_Run p e below _ T44 (mkF m 10 #[.val (.int p1), .unset, .unset, .unset, .unset, .unset, .unset, .unset] [(.ref o0), (.int (0 : Int32)), (.ref b42), (.ref b42)])
  obtain ⟨cl45, Ar45, q45, S45, N45, H45, G45⟩ := id V_b42
  have hin45 : ¬ ((0 : Int32) < 0 ∨ cl45.slots.size ≤ ((0 : Int32)).toNatClampNeg) := inb_of S45 ⟨by decide, by decide⟩
  obtain ⟨T46, h46, X46, e46, W46, st46⟩ := stR X44 hx hZ e44 Ar45 (j := (0 : Int32)) hin45 rfl (Sto.ofV Ar45 q45 O42 (Ins.self E_o0_c43)) (g := (mkF m 10 #[.val (.int p1), .unset, .unset, .unset, .unset, .unset, .unset, .unset] [(.ref o0), (.int (0 : Int32)), (.ref b42), (.ref b42)])) rfl rfl (hb hby at_10)
  refine own_go st46 ?_
  show own_Run p e below _ T46 (mkF m 11 #[.val (.int p1), .unset, .unset, .unset, .unset, .unset, .unset, .unset] [(.ref b42)])
  have Z0_c47 := Nat.le_trans Z0_c43 (Keep.of_wr W46).1
  have K0_c47 := K0_c43.wr W46 (Or.inr sz_b42)
  have S_COMPACT_STRINGS_c47 := S_COMPACT_STRINGS_c43.wr W46
  have S_SIOOBE_FORMATTER_c47 := S_SIOOBE_FORMATTER_c43.wr W46
  have S_AX_c47 := S_AX_c43.wr W46
  have E_o0_c47 := E_o0_c43.wr W46
  have F_symbol_o0_c47 := F_symbol_o0_c43.other W46 (Or.inl ne_o0_b42)
  have E_s0_c47 := E_s0_c43.wr W46
  have F_value_s0_c47 := F_value_s0_c43.other W46 (Or.inl ne_s0_b42)
  have F_coder_s0_c47 := F_coder_s0_c43.other W46 (Or.inl ne_s0_b42)
  have V_v0_c47 := V_v0_c43.other W46 ne_v0_b42
  have S_EX_c47 := S_EX_c43.wr W46
  have E_o1_c47 := E_o1_c43.wr W46
  have F_symbol_o1_c47 := F_symbol_o1_c43.other W46 (Or.inl ne_o1_b42)
  have E_s1_c47 := E_s1_c43.wr W46
  have F_value_s1_c47 := F_value_s1_c43.other W46 (Or.inl ne_s1_b42)
  have F_coder_s1_c47 := F_coder_s1_c43.other W46 (Or.inl ne_s1_b42)
  have V_v1_c47 := V_v1_c43.other W46 ne_v1_b42
  have S_AF_c47 := S_AF_c43.wr W46
  have E_o2_c47 := E_o2_c43.wr W46
  have F_symbol_o2_c47 := F_symbol_o2_c43.other W46 (Or.inl ne_o2_b42)
  have E_s2_c47 := E_s2_c43.wr W46
  have F_value_s2_c47 := F_value_s2_c43.other W46 (Or.inl ne_s2_b42)
  have F_coder_s2_c47 := F_coder_s2_c43.other W46 (Or.inl ne_s2_b42)
  have V_v2_c47 := V_v2_c43.other W46 ne_v2_b42
  have S_EF_c47 := S_EF_c43.wr W46
  have E_o3_c47 := E_o3_c43.wr W46
  have F_symbol_o3_c47 := F_symbol_o3_c43.other W46 (Or.inl ne_o3_b42)
  have E_s3_c47 := E_s3_c43.wr W46
  have F_value_s3_c47 := F_value_s3_c43.other W46 (Or.inl ne_s3_b42)
  have F_coder_s3_c47 := F_coder_s3_c43.other W46 (Or.inl ne_s3_b42)
  have V_v3_c47 := V_v3_c43.other W46 ne_v3_b42
  have S_AG_c47 := S_AG_c43.wr W46
  have E_o4_c47 := E_o4_c43.wr W46
  have F_symbol_o4_c47 := F_symbol_o4_c43.other W46 (Or.inl ne_o4_b42)
  have E_s4_c47 := E_s4_c43.wr W46
  have F_value_s4_c47 := F_value_s4_c43.other W46 (Or.inl ne_s4_b42)
  have F_coder_s4_c47 := F_coder_s4_c43.other W46 (Or.inl ne_s4_b42)
  have V_v4_c47 := V_v4_c43.other W46 ne_v4_b42
  have S_EG_c47 := S_EG_c43.wr W46
  have E_o5_c47 := E_o5_c43.wr W46
  have F_symbol_o5_c47 := F_symbol_o5_c43.other W46 (Or.inl ne_o5_b42)
  have E_s5_c47 := E_s5_c43.wr W46
  have F_value_s5_c47 := F_value_s5_c43.other W46 (Or.inl ne_s5_b42)
  have F_coder_s5_c47 := F_coder_s5_c43.other W46 (Or.inl ne_s5_b42)
  have V_v5_c47 := V_v5_c43.other W46 ne_v5_b42
  have S_AU_c47 := S_AU_c43.wr W46
  have E_o6_c47 := E_o6_c43.wr W46
  have F_symbol_o6_c47 := F_symbol_o6_c43.other W46 (Or.inl ne_o6_b42)
  have E_s6_c47 := E_s6_c43.wr W46
  have F_value_s6_c47 := F_value_s6_c43.other W46 (Or.inl ne_s6_b42)
  have F_coder_s6_c47 := F_coder_s6_c43.other W46 (Or.inl ne_s6_b42)
  have V_v6_c47 := V_v6_c43.other W46 ne_v6_b42
  have S_EU_c47 := S_EU_c43.wr W46
  have E_o7_c47 := E_o7_c43.wr W46
  have F_symbol_o7_c47 := F_symbol_o7_c43.other W46 (Or.inl ne_o7_b42)
  have E_s7_c47 := E_s7_c43.wr W46
  have F_value_s7_c47 := F_value_s7_c43.other W46 (Or.inl ne_s7_b42)
  have F_coder_s7_c47 := F_coder_s7_c43.other W46 (Or.inl ne_s7_b42)
  have V_v7_c47 := V_v7_c43.other W46 ne_v7_b42
  have V_b42_c46 : Arv Z h46 b42 k42 (.object "com/example/error_to_hazard/errortohazard/model/CtlFormula$Temporal") (8 : Int32) [(.ref o0), .null, .null, .null, .null, .null, .null, .null] .null := Arv.set Ar45 q45 S45 N45 H45 G45 rfl W46 0 rfl (Nat.le_of_ble_eq_true rfl)
  have N46 := Fr.snoc X46 N0 g_b42
  refine own_go (fun _ k => XS.dup X46.here hx rfl (hb hby at_11) rfl rfl k) ?_
  refine own_go (fun _ k => XS.iconst X46.here hx rfl (hb hby at_12) k) ?_
  show own_Run p e below _ T46 (mkF m 13 #[.val (.int p1), .unset, .unset, .unset, .unset, .unset, .unset, .unset] [(.int (1 : Int32)), (.ref b42), (.ref b42)])
  obtain ⟨T48, X48, e48, st48⟩ := getS2 X46 hx hZ hown (host := "") (Or.inl (W 6 rfl)) Via.refl e46 S_EX_c47 (g := (mkF m 13 #[.val (.int p1), .unset, .unset, .unset, .unset, .unset, .unset, .unset] [(.int (1 : Int32)), (.ref b42), (.ref b42)])) rfl (hb hby at_13)
  refine own_go st48 ?_
  show own_Run p e below _ T48 (mkF m 16 #[.val (.int p1), .unset, .unset, .unset, .unset, .unset, .unset, .unset] [(.ref o1), (.int (1 : Int32)), (.ref b42), (.ref b42)])
  obtain ⟨cl49, Ar49, q49, S49, N49, H49, G49⟩ := id V_b42_c46
  have hin49 : ¬ ((1 : Int32) < 0 ∨ cl49.slots.size ≤ ((1 : Int32)).toNatClampNeg) := inb_of S49 ⟨by decide, by decide⟩
  obtain ⟨T50, h50, X50, e50, W50, st50⟩ := stR X48 hx hZ e48 Ar49 (j := (1 : Int32)) hin49 rfl (Sto.ofV Ar49 q49 O42 (Ins.self E_o1_c47)) (g := (mkF m 16 #[.val (.int p1), .unset, .unset, .unset, .unset, .unset, .unset, .unset] [(.ref o1), (.int (1 : Int32)), (.ref b42), (.ref b42)])) rfl rfl (hb hby at_16)
  refine own_go st50 ?_
  show own_Run p e below _ T50 (mkF m 17 #[.val (.int p1), .unset, .unset, .unset, .unset, .unset, .unset, .unset] [(.ref b42)])
  have Z0_c51 := Nat.le_trans Z0_c47 (Keep.of_wr W50).1
  have K0_c51 := K0_c47.wr W50 (Or.inr sz_b42)
  have S_COMPACT_STRINGS_c51 := S_COMPACT_STRINGS_c47.wr W50
  have S_SIOOBE_FORMATTER_c51 := S_SIOOBE_FORMATTER_c47.wr W50
  have S_AX_c51 := S_AX_c47.wr W50
  have E_o0_c51 := E_o0_c47.wr W50
  have F_symbol_o0_c51 := F_symbol_o0_c47.other W50 (Or.inl ne_o0_b42)
  have E_s0_c51 := E_s0_c47.wr W50
  have F_value_s0_c51 := F_value_s0_c47.other W50 (Or.inl ne_s0_b42)
  have F_coder_s0_c51 := F_coder_s0_c47.other W50 (Or.inl ne_s0_b42)
  have V_v0_c51 := V_v0_c47.other W50 ne_v0_b42
  have S_EX_c51 := S_EX_c47.wr W50
  have E_o1_c51 := E_o1_c47.wr W50
  have F_symbol_o1_c51 := F_symbol_o1_c47.other W50 (Or.inl ne_o1_b42)
  have E_s1_c51 := E_s1_c47.wr W50
  have F_value_s1_c51 := F_value_s1_c47.other W50 (Or.inl ne_s1_b42)
  have F_coder_s1_c51 := F_coder_s1_c47.other W50 (Or.inl ne_s1_b42)
  have V_v1_c51 := V_v1_c47.other W50 ne_v1_b42
  have S_AF_c51 := S_AF_c47.wr W50
  have E_o2_c51 := E_o2_c47.wr W50
  have F_symbol_o2_c51 := F_symbol_o2_c47.other W50 (Or.inl ne_o2_b42)
  have E_s2_c51 := E_s2_c47.wr W50
  have F_value_s2_c51 := F_value_s2_c47.other W50 (Or.inl ne_s2_b42)
  have F_coder_s2_c51 := F_coder_s2_c47.other W50 (Or.inl ne_s2_b42)
  have V_v2_c51 := V_v2_c47.other W50 ne_v2_b42
  have S_EF_c51 := S_EF_c47.wr W50
  have E_o3_c51 := E_o3_c47.wr W50
  have F_symbol_o3_c51 := F_symbol_o3_c47.other W50 (Or.inl ne_o3_b42)
  have E_s3_c51 := E_s3_c47.wr W50
  have F_value_s3_c51 := F_value_s3_c47.other W50 (Or.inl ne_s3_b42)
  have F_coder_s3_c51 := F_coder_s3_c47.other W50 (Or.inl ne_s3_b42)
  have V_v3_c51 := V_v3_c47.other W50 ne_v3_b42
  have S_AG_c51 := S_AG_c47.wr W50
  have E_o4_c51 := E_o4_c47.wr W50
  have F_symbol_o4_c51 := F_symbol_o4_c47.other W50 (Or.inl ne_o4_b42)
  have E_s4_c51 := E_s4_c47.wr W50
  have F_value_s4_c51 := F_value_s4_c47.other W50 (Or.inl ne_s4_b42)
  have F_coder_s4_c51 := F_coder_s4_c47.other W50 (Or.inl ne_s4_b42)
  have V_v4_c51 := V_v4_c47.other W50 ne_v4_b42
  have S_EG_c51 := S_EG_c47.wr W50
  have E_o5_c51 := E_o5_c47.wr W50
  have F_symbol_o5_c51 := F_symbol_o5_c47.other W50 (Or.inl ne_o5_b42)
  have E_s5_c51 := E_s5_c47.wr W50
  have F_value_s5_c51 := F_value_s5_c47.other W50 (Or.inl ne_s5_b42)
  have F_coder_s5_c51 := F_coder_s5_c47.other W50 (Or.inl ne_s5_b42)
  have V_v5_c51 := V_v5_c47.other W50 ne_v5_b42
  have S_AU_c51 := S_AU_c47.wr W50
  have E_o6_c51 := E_o6_c47.wr W50
  have F_symbol_o6_c51 := F_symbol_o6_c47.other W50 (Or.inl ne_o6_b42)
  have E_s6_c51 := E_s6_c47.wr W50
  have F_value_s6_c51 := F_value_s6_c47.other W50 (Or.inl ne_s6_b42)
  have F_coder_s6_c51 := F_coder_s6_c47.other W50 (Or.inl ne_s6_b42)
  have V_v6_c51 := V_v6_c47.other W50 ne_v6_b42
  have S_EU_c51 := S_EU_c47.wr W50
  have E_o7_c51 := E_o7_c47.wr W50
  have F_symbol_o7_c51 := F_symbol_o7_c47.other W50 (Or.inl ne_o7_b42)
  have E_s7_c51 := E_s7_c47.wr W50
  have F_value_s7_c51 := F_value_s7_c47.other W50 (Or.inl ne_s7_b42)
  have F_coder_s7_c51 := F_coder_s7_c47.other W50 (Or.inl ne_s7_b42)
  have V_v7_c51 := V_v7_c47.other W50 ne_v7_b42
  have V_b42_c50 : Arv Z h50 b42 k42 (.object "com/example/error_to_hazard/errortohazard/model/CtlFormula$Temporal") (8 : Int32) [(.ref o0), (.ref o1), .null, .null, .null, .null, .null, .null] .null := Arv.set Ar49 q49 S49 N49 H49 G49 rfl W50 1 rfl (Nat.le_of_ble_eq_true rfl)
  have N50 := Fr.snoc X50 N46 g_b42
  refine own_go (fun _ k => XS.dup X50.here hx rfl (hb hby at_17) rfl rfl k) ?_
  refine own_go (fun _ k => XS.iconst X50.here hx rfl (hb hby at_18) k) ?_
  show own_Run p e below _ T50 (mkF m 19 #[.val (.int p1), .unset, .unset, .unset, .unset, .unset, .unset, .unset] [(.int (2 : Int32)), (.ref b42), (.ref b42)])
  obtain ⟨T52, X52, e52, st52⟩ := getS2 X50 hx hZ hown (host := "") (Or.inl (W 8 rfl)) Via.refl e50 S_AF_c51 (g := (mkF m 19 #[.val (.int p1), .unset, .unset, .unset, .unset, .unset, .unset, .unset] [(.int (2 : Int32)), (.ref b42), (.ref b42)])) rfl (hb hby at_19)
  refine own_go st52 ?_
  show own_Run p e below _ T52 (mkF m 22 #[.val (.int p1), .unset, .unset, .unset, .unset, .unset, .unset, .unset] [(.ref o2), (.int (2 : Int32)), (.ref b42), (.ref b42)])
  obtain ⟨cl53, Ar53, q53, S53, N53, H53, G53⟩ := id V_b42_c50
  have hin53 : ¬ ((2 : Int32) < 0 ∨ cl53.slots.size ≤ ((2 : Int32)).toNatClampNeg) := inb_of S53 ⟨by decide, by decide⟩
  obtain ⟨T54, h54, X54, e54, W54, st54⟩ := stR X52 hx hZ e52 Ar53 (j := (2 : Int32)) hin53 rfl (Sto.ofV Ar53 q53 O42 (Ins.self E_o2_c51)) (g := (mkF m 22 #[.val (.int p1), .unset, .unset, .unset, .unset, .unset, .unset, .unset] [(.ref o2), (.int (2 : Int32)), (.ref b42), (.ref b42)])) rfl rfl (hb hby at_22)
  refine own_go st54 ?_
  show own_Run p e below _ T54 (mkF m 23 #[.val (.int p1), .unset, .unset, .unset, .unset, .unset, .unset, .unset] [(.ref b42)])
  have Z0_c55 := Nat.le_trans Z0_c51 (Keep.of_wr W54).1
  have K0_c55 := K0_c51.wr W54 (Or.inr sz_b42)
  have S_COMPACT_STRINGS_c55 := S_COMPACT_STRINGS_c51.wr W54
  have S_SIOOBE_FORMATTER_c55 := S_SIOOBE_FORMATTER_c51.wr W54
  have S_AX_c55 := S_AX_c51.wr W54
  have E_o0_c55 := E_o0_c51.wr W54
  have F_symbol_o0_c55 := F_symbol_o0_c51.other W54 (Or.inl ne_o0_b42)
  have E_s0_c55 := E_s0_c51.wr W54
  have F_value_s0_c55 := F_value_s0_c51.other W54 (Or.inl ne_s0_b42)
  have F_coder_s0_c55 := F_coder_s0_c51.other W54 (Or.inl ne_s0_b42)
  have V_v0_c55 := V_v0_c51.other W54 ne_v0_b42
  have S_EX_c55 := S_EX_c51.wr W54
  have E_o1_c55 := E_o1_c51.wr W54
  have F_symbol_o1_c55 := F_symbol_o1_c51.other W54 (Or.inl ne_o1_b42)
  have E_s1_c55 := E_s1_c51.wr W54
  have F_value_s1_c55 := F_value_s1_c51.other W54 (Or.inl ne_s1_b42)
  have F_coder_s1_c55 := F_coder_s1_c51.other W54 (Or.inl ne_s1_b42)
  have V_v1_c55 := V_v1_c51.other W54 ne_v1_b42
  have S_AF_c55 := S_AF_c51.wr W54
  have E_o2_c55 := E_o2_c51.wr W54
  have F_symbol_o2_c55 := F_symbol_o2_c51.other W54 (Or.inl ne_o2_b42)
  have E_s2_c55 := E_s2_c51.wr W54
  have F_value_s2_c55 := F_value_s2_c51.other W54 (Or.inl ne_s2_b42)
  have F_coder_s2_c55 := F_coder_s2_c51.other W54 (Or.inl ne_s2_b42)
  have V_v2_c55 := V_v2_c51.other W54 ne_v2_b42
  have S_EF_c55 := S_EF_c51.wr W54
  have E_o3_c55 := E_o3_c51.wr W54
  have F_symbol_o3_c55 := F_symbol_o3_c51.other W54 (Or.inl ne_o3_b42)
  have E_s3_c55 := E_s3_c51.wr W54
  have F_value_s3_c55 := F_value_s3_c51.other W54 (Or.inl ne_s3_b42)
  have F_coder_s3_c55 := F_coder_s3_c51.other W54 (Or.inl ne_s3_b42)
  have V_v3_c55 := V_v3_c51.other W54 ne_v3_b42
  have S_AG_c55 := S_AG_c51.wr W54
  have E_o4_c55 := E_o4_c51.wr W54
  have F_symbol_o4_c55 := F_symbol_o4_c51.other W54 (Or.inl ne_o4_b42)
  have E_s4_c55 := E_s4_c51.wr W54
  have F_value_s4_c55 := F_value_s4_c51.other W54 (Or.inl ne_s4_b42)
  have F_coder_s4_c55 := F_coder_s4_c51.other W54 (Or.inl ne_s4_b42)
  have V_v4_c55 := V_v4_c51.other W54 ne_v4_b42
  have S_EG_c55 := S_EG_c51.wr W54
  have E_o5_c55 := E_o5_c51.wr W54
  have F_symbol_o5_c55 := F_symbol_o5_c51.other W54 (Or.inl ne_o5_b42)
  have E_s5_c55 := E_s5_c51.wr W54
  have F_value_s5_c55 := F_value_s5_c51.other W54 (Or.inl ne_s5_b42)
  have F_coder_s5_c55 := F_coder_s5_c51.other W54 (Or.inl ne_s5_b42)
  have V_v5_c55 := V_v5_c51.other W54 ne_v5_b42
  have S_AU_c55 := S_AU_c51.wr W54
  have E_o6_c55 := E_o6_c51.wr W54
  have F_symbol_o6_c55 := F_symbol_o6_c51.other W54 (Or.inl ne_o6_b42)
  have E_s6_c55 := E_s6_c51.wr W54
  have F_value_s6_c55 := F_value_s6_c51.other W54 (Or.inl ne_s6_b42)
  have F_coder_s6_c55 := F_coder_s6_c51.other W54 (Or.inl ne_s6_b42)
  have V_v6_c55 := V_v6_c51.other W54 ne_v6_b42
  have S_EU_c55 := S_EU_c51.wr W54
  have E_o7_c55 := E_o7_c51.wr W54
  have F_symbol_o7_c55 := F_symbol_o7_c51.other W54 (Or.inl ne_o7_b42)
  have E_s7_c55 := E_s7_c51.wr W54
  have F_value_s7_c55 := F_value_s7_c51.other W54 (Or.inl ne_s7_b42)
  have F_coder_s7_c55 := F_coder_s7_c51.other W54 (Or.inl ne_s7_b42)
  have V_v7_c55 := V_v7_c51.other W54 ne_v7_b42
  have V_b42_c54 : Arv Z h54 b42 k42 (.object "com/example/error_to_hazard/errortohazard/model/CtlFormula$Temporal") (8 : Int32) [(.ref o0), (.ref o1), (.ref o2), .null, .null, .null, .null, .null] .null := Arv.set Ar53 q53 S53 N53 H53 G53 rfl W54 2 rfl (Nat.le_of_ble_eq_true rfl)
  have N54 := Fr.snoc X54 N50 g_b42
  refine own_go (fun _ k => XS.dup X54.here hx rfl (hb hby at_23) rfl rfl k) ?_
  refine own_go (fun _ k => XS.iconst X54.here hx rfl (hb hby at_24) k) ?_
  show own_Run p e below _ T54 (mkF m 25 #[.val (.int p1), .unset, .unset, .unset, .unset, .unset, .unset, .unset] [(.int (3 : Int32)), (.ref b42), (.ref b42)])
  obtain ⟨T56, X56, e56, st56⟩ := getS2 X54 hx hZ hown (host := "") (Or.inl (W 10 rfl)) Via.refl e54 S_EF_c55 (g := (mkF m 25 #[.val (.int p1), .unset, .unset, .unset, .unset, .unset, .unset, .unset] [(.int (3 : Int32)), (.ref b42), (.ref b42)])) rfl (hb hby at_25)
  refine own_go st56 ?_
  show own_Run p e below _ T56 (mkF m 28 #[.val (.int p1), .unset, .unset, .unset, .unset, .unset, .unset, .unset] [(.ref o3), (.int (3 : Int32)), (.ref b42), (.ref b42)])
  obtain ⟨cl57, Ar57, q57, S57, N57, H57, G57⟩ := id V_b42_c54
  have hin57 : ¬ ((3 : Int32) < 0 ∨ cl57.slots.size ≤ ((3 : Int32)).toNatClampNeg) := inb_of S57 ⟨by decide, by decide⟩
  obtain ⟨T58, h58, X58, e58, W58, st58⟩ := stR X56 hx hZ e56 Ar57 (j := (3 : Int32)) hin57 rfl (Sto.ofV Ar57 q57 O42 (Ins.self E_o3_c55)) (g := (mkF m 28 #[.val (.int p1), .unset, .unset, .unset, .unset, .unset, .unset, .unset] [(.ref o3), (.int (3 : Int32)), (.ref b42), (.ref b42)])) rfl rfl (hb hby at_28)
  refine own_go st58 ?_
  show own_Run p e below _ T58 (mkF m 29 #[.val (.int p1), .unset, .unset, .unset, .unset, .unset, .unset, .unset] [(.ref b42)])
  have Z0_c59 := Nat.le_trans Z0_c55 (Keep.of_wr W58).1
  have K0_c59 := K0_c55.wr W58 (Or.inr sz_b42)
  have S_COMPACT_STRINGS_c59 := S_COMPACT_STRINGS_c55.wr W58
  have S_SIOOBE_FORMATTER_c59 := S_SIOOBE_FORMATTER_c55.wr W58
  have S_AX_c59 := S_AX_c55.wr W58
  have E_o0_c59 := E_o0_c55.wr W58
  have F_symbol_o0_c59 := F_symbol_o0_c55.other W58 (Or.inl ne_o0_b42)
  have E_s0_c59 := E_s0_c55.wr W58
  have F_value_s0_c59 := F_value_s0_c55.other W58 (Or.inl ne_s0_b42)
  have F_coder_s0_c59 := F_coder_s0_c55.other W58 (Or.inl ne_s0_b42)
  have V_v0_c59 := V_v0_c55.other W58 ne_v0_b42
  have S_EX_c59 := S_EX_c55.wr W58
  have E_o1_c59 := E_o1_c55.wr W58
  have F_symbol_o1_c59 := F_symbol_o1_c55.other W58 (Or.inl ne_o1_b42)
  have E_s1_c59 := E_s1_c55.wr W58
  have F_value_s1_c59 := F_value_s1_c55.other W58 (Or.inl ne_s1_b42)
  have F_coder_s1_c59 := F_coder_s1_c55.other W58 (Or.inl ne_s1_b42)
  have V_v1_c59 := V_v1_c55.other W58 ne_v1_b42
  have S_AF_c59 := S_AF_c55.wr W58
  have E_o2_c59 := E_o2_c55.wr W58
  have F_symbol_o2_c59 := F_symbol_o2_c55.other W58 (Or.inl ne_o2_b42)
  have E_s2_c59 := E_s2_c55.wr W58
  have F_value_s2_c59 := F_value_s2_c55.other W58 (Or.inl ne_s2_b42)
  have F_coder_s2_c59 := F_coder_s2_c55.other W58 (Or.inl ne_s2_b42)
  have V_v2_c59 := V_v2_c55.other W58 ne_v2_b42
  have S_EF_c59 := S_EF_c55.wr W58
  have E_o3_c59 := E_o3_c55.wr W58
  have F_symbol_o3_c59 := F_symbol_o3_c55.other W58 (Or.inl ne_o3_b42)
  have E_s3_c59 := E_s3_c55.wr W58
  have F_value_s3_c59 := F_value_s3_c55.other W58 (Or.inl ne_s3_b42)
  have F_coder_s3_c59 := F_coder_s3_c55.other W58 (Or.inl ne_s3_b42)
  have V_v3_c59 := V_v3_c55.other W58 ne_v3_b42
  have S_AG_c59 := S_AG_c55.wr W58
  have E_o4_c59 := E_o4_c55.wr W58
  have F_symbol_o4_c59 := F_symbol_o4_c55.other W58 (Or.inl ne_o4_b42)
  have E_s4_c59 := E_s4_c55.wr W58
  have F_value_s4_c59 := F_value_s4_c55.other W58 (Or.inl ne_s4_b42)
  have F_coder_s4_c59 := F_coder_s4_c55.other W58 (Or.inl ne_s4_b42)
  have V_v4_c59 := V_v4_c55.other W58 ne_v4_b42
  have S_EG_c59 := S_EG_c55.wr W58
  have E_o5_c59 := E_o5_c55.wr W58
  have F_symbol_o5_c59 := F_symbol_o5_c55.other W58 (Or.inl ne_o5_b42)
  have E_s5_c59 := E_s5_c55.wr W58
  have F_value_s5_c59 := F_value_s5_c55.other W58 (Or.inl ne_s5_b42)
  have F_coder_s5_c59 := F_coder_s5_c55.other W58 (Or.inl ne_s5_b42)
  have V_v5_c59 := V_v5_c55.other W58 ne_v5_b42
  have S_AU_c59 := S_AU_c55.wr W58
  have E_o6_c59 := E_o6_c55.wr W58
  have F_symbol_o6_c59 := F_symbol_o6_c55.other W58 (Or.inl ne_o6_b42)
  have E_s6_c59 := E_s6_c55.wr W58
  have F_value_s6_c59 := F_value_s6_c55.other W58 (Or.inl ne_s6_b42)
  have F_coder_s6_c59 := F_coder_s6_c55.other W58 (Or.inl ne_s6_b42)
  have V_v6_c59 := V_v6_c55.other W58 ne_v6_b42
  have S_EU_c59 := S_EU_c55.wr W58
  have E_o7_c59 := E_o7_c55.wr W58
  have F_symbol_o7_c59 := F_symbol_o7_c55.other W58 (Or.inl ne_o7_b42)
  have E_s7_c59 := E_s7_c55.wr W58
  have F_value_s7_c59 := F_value_s7_c55.other W58 (Or.inl ne_s7_b42)
  have F_coder_s7_c59 := F_coder_s7_c55.other W58 (Or.inl ne_s7_b42)
  have V_v7_c59 := V_v7_c55.other W58 ne_v7_b42
  have V_b42_c58 : Arv Z h58 b42 k42 (.object "com/example/error_to_hazard/errortohazard/model/CtlFormula$Temporal") (8 : Int32) [(.ref o0), (.ref o1), (.ref o2), (.ref o3), .null, .null, .null, .null] .null := Arv.set Ar57 q57 S57 N57 H57 G57 rfl W58 3 rfl (Nat.le_of_ble_eq_true rfl)
  have N58 := Fr.snoc X58 N54 g_b42
  refine own_go (fun _ k => XS.dup X58.here hx rfl (hb hby at_29) rfl rfl k) ?_
  refine own_go (fun _ k => XS.iconst X58.here hx rfl (hb hby at_30) k) ?_
  show own_Run p e below _ T58 (mkF m 31 #[.val (.int p1), .unset, .unset, .unset, .unset, .unset, .unset, .unset] [(.int (4 : Int32)), (.ref b42), (.ref b42)])
  obtain ⟨T60, X60, e60, st60⟩ := getS2 X58 hx hZ hown (host := "") (Or.inl (W 12 rfl)) Via.refl e58 S_AG_c59 (g := (mkF m 31 #[.val (.int p1), .unset, .unset, .unset, .unset, .unset, .unset, .unset] [(.int (4 : Int32)), (.ref b42), (.ref b42)])) rfl (hb hby at_31)
  refine own_go st60 ?_
  show own_Run p e below _ T60 (mkF m 34 #[.val (.int p1), .unset, .unset, .unset, .unset, .unset, .unset, .unset] [(.ref o4), (.int (4 : Int32)), (.ref b42), (.ref b42)])
  obtain ⟨cl61, Ar61, q61, S61, N61, H61, G61⟩ := id V_b42_c58
  have hin61 : ¬ ((4 : Int32) < 0 ∨ cl61.slots.size ≤ ((4 : Int32)).toNatClampNeg) := inb_of S61 ⟨by decide, by decide⟩
  obtain ⟨T62, h62, X62, e62, W62, st62⟩ := stR X60 hx hZ e60 Ar61 (j := (4 : Int32)) hin61 rfl (Sto.ofV Ar61 q61 O42 (Ins.self E_o4_c59)) (g := (mkF m 34 #[.val (.int p1), .unset, .unset, .unset, .unset, .unset, .unset, .unset] [(.ref o4), (.int (4 : Int32)), (.ref b42), (.ref b42)])) rfl rfl (hb hby at_34)
  refine own_go st62 ?_
  show own_Run p e below _ T62 (mkF m 35 #[.val (.int p1), .unset, .unset, .unset, .unset, .unset, .unset, .unset] [(.ref b42)])
  have Z0_c63 := Nat.le_trans Z0_c59 (Keep.of_wr W62).1
  have K0_c63 := K0_c59.wr W62 (Or.inr sz_b42)
  have S_COMPACT_STRINGS_c63 := S_COMPACT_STRINGS_c59.wr W62
  have S_SIOOBE_FORMATTER_c63 := S_SIOOBE_FORMATTER_c59.wr W62
  have S_AX_c63 := S_AX_c59.wr W62
  have E_o0_c63 := E_o0_c59.wr W62
  have F_symbol_o0_c63 := F_symbol_o0_c59.other W62 (Or.inl ne_o0_b42)
  have E_s0_c63 := E_s0_c59.wr W62
  have F_value_s0_c63 := F_value_s0_c59.other W62 (Or.inl ne_s0_b42)
  have F_coder_s0_c63 := F_coder_s0_c59.other W62 (Or.inl ne_s0_b42)
  have V_v0_c63 := V_v0_c59.other W62 ne_v0_b42
  have S_EX_c63 := S_EX_c59.wr W62
  have E_o1_c63 := E_o1_c59.wr W62
  have F_symbol_o1_c63 := F_symbol_o1_c59.other W62 (Or.inl ne_o1_b42)
  have E_s1_c63 := E_s1_c59.wr W62
  have F_value_s1_c63 := F_value_s1_c59.other W62 (Or.inl ne_s1_b42)
  have F_coder_s1_c63 := F_coder_s1_c59.other W62 (Or.inl ne_s1_b42)
  have V_v1_c63 := V_v1_c59.other W62 ne_v1_b42
  have S_AF_c63 := S_AF_c59.wr W62
  have E_o2_c63 := E_o2_c59.wr W62
  have F_symbol_o2_c63 := F_symbol_o2_c59.other W62 (Or.inl ne_o2_b42)
  have E_s2_c63 := E_s2_c59.wr W62
  have F_value_s2_c63 := F_value_s2_c59.other W62 (Or.inl ne_s2_b42)
  have F_coder_s2_c63 := F_coder_s2_c59.other W62 (Or.inl ne_s2_b42)
  have V_v2_c63 := V_v2_c59.other W62 ne_v2_b42
  have S_EF_c63 := S_EF_c59.wr W62
  have E_o3_c63 := E_o3_c59.wr W62
  have F_symbol_o3_c63 := F_symbol_o3_c59.other W62 (Or.inl ne_o3_b42)
  have E_s3_c63 := E_s3_c59.wr W62
  have F_value_s3_c63 := F_value_s3_c59.other W62 (Or.inl ne_s3_b42)
  have F_coder_s3_c63 := F_coder_s3_c59.other W62 (Or.inl ne_s3_b42)
  have V_v3_c63 := V_v3_c59.other W62 ne_v3_b42
  have S_AG_c63 := S_AG_c59.wr W62
  have E_o4_c63 := E_o4_c59.wr W62
  have F_symbol_o4_c63 := F_symbol_o4_c59.other W62 (Or.inl ne_o4_b42)
  have E_s4_c63 := E_s4_c59.wr W62
  have F_value_s4_c63 := F_value_s4_c59.other W62 (Or.inl ne_s4_b42)
  have F_coder_s4_c63 := F_coder_s4_c59.other W62 (Or.inl ne_s4_b42)
  have V_v4_c63 := V_v4_c59.other W62 ne_v4_b42
  have S_EG_c63 := S_EG_c59.wr W62
  have E_o5_c63 := E_o5_c59.wr W62
  have F_symbol_o5_c63 := F_symbol_o5_c59.other W62 (Or.inl ne_o5_b42)
  have E_s5_c63 := E_s5_c59.wr W62
  have F_value_s5_c63 := F_value_s5_c59.other W62 (Or.inl ne_s5_b42)
  have F_coder_s5_c63 := F_coder_s5_c59.other W62 (Or.inl ne_s5_b42)
  have V_v5_c63 := V_v5_c59.other W62 ne_v5_b42
  have S_AU_c63 := S_AU_c59.wr W62
  have E_o6_c63 := E_o6_c59.wr W62
  have F_symbol_o6_c63 := F_symbol_o6_c59.other W62 (Or.inl ne_o6_b42)
  have E_s6_c63 := E_s6_c59.wr W62
  have F_value_s6_c63 := F_value_s6_c59.other W62 (Or.inl ne_s6_b42)
  have F_coder_s6_c63 := F_coder_s6_c59.other W62 (Or.inl ne_s6_b42)
  have V_v6_c63 := V_v6_c59.other W62 ne_v6_b42
  have S_EU_c63 := S_EU_c59.wr W62
  have E_o7_c63 := E_o7_c59.wr W62
  have F_symbol_o7_c63 := F_symbol_o7_c59.other W62 (Or.inl ne_o7_b42)
  have E_s7_c63 := E_s7_c59.wr W62
  have F_value_s7_c63 := F_value_s7_c59.other W62 (Or.inl ne_s7_b42)
  have F_coder_s7_c63 := F_coder_s7_c59.other W62 (Or.inl ne_s7_b42)
  have V_v7_c63 := V_v7_c59.other W62 ne_v7_b42
  have V_b42_c62 : Arv Z h62 b42 k42 (.object "com/example/error_to_hazard/errortohazard/model/CtlFormula$Temporal") (8 : Int32) [(.ref o0), (.ref o1), (.ref o2), (.ref o3), (.ref o4), .null, .null, .null] .null := Arv.set Ar61 q61 S61 N61 H61 G61 rfl W62 4 rfl (Nat.le_of_ble_eq_true rfl)
  have N62 := Fr.snoc X62 N58 g_b42
  refine own_go (fun _ k => XS.dup X62.here hx rfl (hb hby at_35) rfl rfl k) ?_
  refine own_go (fun _ k => XS.iconst X62.here hx rfl (hb hby at_36) k) ?_
  show own_Run p e below _ T62 (mkF m 37 #[.val (.int p1), .unset, .unset, .unset, .unset, .unset, .unset, .unset] [(.int (5 : Int32)), (.ref b42), (.ref b42)])
  obtain ⟨T64, X64, e64, st64⟩ := getS2 X62 hx hZ hown (host := "") (Or.inl (W 14 rfl)) Via.refl e62 S_EG_c63 (g := (mkF m 37 #[.val (.int p1), .unset, .unset, .unset, .unset, .unset, .unset, .unset] [(.int (5 : Int32)), (.ref b42), (.ref b42)])) rfl (hb hby at_37)
  refine own_go st64 ?_
  show own_Run p e below _ T64 (mkF m 40 #[.val (.int p1), .unset, .unset, .unset, .unset, .unset, .unset, .unset] [(.ref o5), (.int (5 : Int32)), (.ref b42), (.ref b42)])
  obtain ⟨cl65, Ar65, q65, S65, N65, H65, G65⟩ := id V_b42_c62
  have hin65 : ¬ ((5 : Int32) < 0 ∨ cl65.slots.size ≤ ((5 : Int32)).toNatClampNeg) := inb_of S65 ⟨by decide, by decide⟩
  obtain ⟨T66, h66, X66, e66, W66, st66⟩ := stR X64 hx hZ e64 Ar65 (j := (5 : Int32)) hin65 rfl (Sto.ofV Ar65 q65 O42 (Ins.self E_o5_c63)) (g := (mkF m 40 #[.val (.int p1), .unset, .unset, .unset, .unset, .unset, .unset, .unset] [(.ref o5), (.int (5 : Int32)), (.ref b42), (.ref b42)])) rfl rfl (hb hby at_40)
  refine own_go st66 ?_
  show own_Run p e below _ T66 (mkF m 41 #[.val (.int p1), .unset, .unset, .unset, .unset, .unset, .unset, .unset] [(.ref b42)])
  have Z0_c67 := Nat.le_trans Z0_c63 (Keep.of_wr W66).1
  have K0_c67 := K0_c63.wr W66 (Or.inr sz_b42)
  have S_COMPACT_STRINGS_c67 := S_COMPACT_STRINGS_c63.wr W66
  have S_SIOOBE_FORMATTER_c67 := S_SIOOBE_FORMATTER_c63.wr W66
  have S_AX_c67 := S_AX_c63.wr W66
  have E_o0_c67 := E_o0_c63.wr W66
  have F_symbol_o0_c67 := F_symbol_o0_c63.other W66 (Or.inl ne_o0_b42)
  have E_s0_c67 := E_s0_c63.wr W66
  have F_value_s0_c67 := F_value_s0_c63.other W66 (Or.inl ne_s0_b42)
  have F_coder_s0_c67 := F_coder_s0_c63.other W66 (Or.inl ne_s0_b42)
  have V_v0_c67 := V_v0_c63.other W66 ne_v0_b42
  have S_EX_c67 := S_EX_c63.wr W66
  have E_o1_c67 := E_o1_c63.wr W66
  have F_symbol_o1_c67 := F_symbol_o1_c63.other W66 (Or.inl ne_o1_b42)
  have E_s1_c67 := E_s1_c63.wr W66
  have F_value_s1_c67 := F_value_s1_c63.other W66 (Or.inl ne_s1_b42)
  have F_coder_s1_c67 := F_coder_s1_c63.other W66 (Or.inl ne_s1_b42)
  have V_v1_c67 := V_v1_c63.other W66 ne_v1_b42
  have S_AF_c67 := S_AF_c63.wr W66
  have E_o2_c67 := E_o2_c63.wr W66
  have F_symbol_o2_c67 := F_symbol_o2_c63.other W66 (Or.inl ne_o2_b42)
  have E_s2_c67 := E_s2_c63.wr W66
  have F_value_s2_c67 := F_value_s2_c63.other W66 (Or.inl ne_s2_b42)
  have F_coder_s2_c67 := F_coder_s2_c63.other W66 (Or.inl ne_s2_b42)
  have V_v2_c67 := V_v2_c63.other W66 ne_v2_b42
  have S_EF_c67 := S_EF_c63.wr W66
  have E_o3_c67 := E_o3_c63.wr W66
  have F_symbol_o3_c67 := F_symbol_o3_c63.other W66 (Or.inl ne_o3_b42)
  have E_s3_c67 := E_s3_c63.wr W66
  have F_value_s3_c67 := F_value_s3_c63.other W66 (Or.inl ne_s3_b42)
  have F_coder_s3_c67 := F_coder_s3_c63.other W66 (Or.inl ne_s3_b42)
  have V_v3_c67 := V_v3_c63.other W66 ne_v3_b42
  have S_AG_c67 := S_AG_c63.wr W66
  have E_o4_c67 := E_o4_c63.wr W66
  have F_symbol_o4_c67 := F_symbol_o4_c63.other W66 (Or.inl ne_o4_b42)
  have E_s4_c67 := E_s4_c63.wr W66
  have F_value_s4_c67 := F_value_s4_c63.other W66 (Or.inl ne_s4_b42)
  have F_coder_s4_c67 := F_coder_s4_c63.other W66 (Or.inl ne_s4_b42)
  have V_v4_c67 := V_v4_c63.other W66 ne_v4_b42
  have S_EG_c67 := S_EG_c63.wr W66
  have E_o5_c67 := E_o5_c63.wr W66
  have F_symbol_o5_c67 := F_symbol_o5_c63.other W66 (Or.inl ne_o5_b42)
  have E_s5_c67 := E_s5_c63.wr W66
  have F_value_s5_c67 := F_value_s5_c63.other W66 (Or.inl ne_s5_b42)
  have F_coder_s5_c67 := F_coder_s5_c63.other W66 (Or.inl ne_s5_b42)
  have V_v5_c67 := V_v5_c63.other W66 ne_v5_b42
  have S_AU_c67 := S_AU_c63.wr W66
  have E_o6_c67 := E_o6_c63.wr W66
  have F_symbol_o6_c67 := F_symbol_o6_c63.other W66 (Or.inl ne_o6_b42)
  have E_s6_c67 := E_s6_c63.wr W66
  have F_value_s6_c67 := F_value_s6_c63.other W66 (Or.inl ne_s6_b42)
  have F_coder_s6_c67 := F_coder_s6_c63.other W66 (Or.inl ne_s6_b42)
  have V_v6_c67 := V_v6_c63.other W66 ne_v6_b42
  have S_EU_c67 := S_EU_c63.wr W66
  have E_o7_c67 := E_o7_c63.wr W66
  have F_symbol_o7_c67 := F_symbol_o7_c63.other W66 (Or.inl ne_o7_b42)
  have E_s7_c67 := E_s7_c63.wr W66
  have F_value_s7_c67 := F_value_s7_c63.other W66 (Or.inl ne_s7_b42)
  have F_coder_s7_c67 := F_coder_s7_c63.other W66 (Or.inl ne_s7_b42)
  have V_v7_c67 := V_v7_c63.other W66 ne_v7_b42
  have V_b42_c66 : Arv Z h66 b42 k42 (.object "com/example/error_to_hazard/errortohazard/model/CtlFormula$Temporal") (8 : Int32) [(.ref o0), (.ref o1), (.ref o2), (.ref o3), (.ref o4), (.ref o5), .null, .null] .null := Arv.set Ar65 q65 S65 N65 H65 G65 rfl W66 5 rfl (Nat.le_of_ble_eq_true rfl)
  have N66 := Fr.snoc X66 N62 g_b42
  refine own_go (fun _ k => XS.dup X66.here hx rfl (hb hby at_41) rfl rfl k) ?_
  refine own_go (fun _ k => XS.bipush X66.here hx rfl (hb hby at_42) k) ?_
  show own_Run p e below _ T66 (mkF m 44 #[.val (.int p1), .unset, .unset, .unset, .unset, .unset, .unset, .unset] [(.int (6 : Int32)), (.ref b42), (.ref b42)])
  obtain ⟨T68, X68, e68, st68⟩ := getS2 X66 hx hZ hown (host := "") (Or.inl (W 16 rfl)) Via.refl e66 S_AU_c67 (g := (mkF m 44 #[.val (.int p1), .unset, .unset, .unset, .unset, .unset, .unset, .unset] [(.int (6 : Int32)), (.ref b42), (.ref b42)])) rfl (hb hby at_44)
  refine own_go st68 ?_
  show own_Run p e below _ T68 (mkF m 47 #[.val (.int p1), .unset, .unset, .unset, .unset, .unset, .unset, .unset] [(.ref o6), (.int (6 : Int32)), (.ref b42), (.ref b42)])
  obtain ⟨cl69, Ar69, q69, S69, N69, H69, G69⟩ := id V_b42_c66
  have hin69 : ¬ ((6 : Int32) < 0 ∨ cl69.slots.size ≤ ((6 : Int32)).toNatClampNeg) := inb_of S69 ⟨by decide, by decide⟩
  obtain ⟨T70, h70, X70, e70, W70, st70⟩ := stR X68 hx hZ e68 Ar69 (j := (6 : Int32)) hin69 rfl (Sto.ofV Ar69 q69 O42 (Ins.self E_o6_c67)) (g := (mkF m 47 #[.val (.int p1), .unset, .unset, .unset, .unset, .unset, .unset, .unset] [(.ref o6), (.int (6 : Int32)), (.ref b42), (.ref b42)])) rfl rfl (hb hby at_47)
  refine own_go st70 ?_
  show own_Run p e below _ T70 (mkF m 48 #[.val (.int p1), .unset, .unset, .unset, .unset, .unset, .unset, .unset] [(.ref b42)])
  have Z0_c71 := Nat.le_trans Z0_c67 (Keep.of_wr W70).1
  have K0_c71 := K0_c67.wr W70 (Or.inr sz_b42)
  have S_COMPACT_STRINGS_c71 := S_COMPACT_STRINGS_c67.wr W70
  have S_SIOOBE_FORMATTER_c71 := S_SIOOBE_FORMATTER_c67.wr W70
  have S_AX_c71 := S_AX_c67.wr W70
  have E_o0_c71 := E_o0_c67.wr W70
  have F_symbol_o0_c71 := F_symbol_o0_c67.other W70 (Or.inl ne_o0_b42)
  have E_s0_c71 := E_s0_c67.wr W70
  have F_value_s0_c71 := F_value_s0_c67.other W70 (Or.inl ne_s0_b42)
  have F_coder_s0_c71 := F_coder_s0_c67.other W70 (Or.inl ne_s0_b42)
  have V_v0_c71 := V_v0_c67.other W70 ne_v0_b42
  have S_EX_c71 := S_EX_c67.wr W70
  have E_o1_c71 := E_o1_c67.wr W70
  have F_symbol_o1_c71 := F_symbol_o1_c67.other W70 (Or.inl ne_o1_b42)
  have E_s1_c71 := E_s1_c67.wr W70
  have F_value_s1_c71 := F_value_s1_c67.other W70 (Or.inl ne_s1_b42)
  have F_coder_s1_c71 := F_coder_s1_c67.other W70 (Or.inl ne_s1_b42)
  have V_v1_c71 := V_v1_c67.other W70 ne_v1_b42
  have S_AF_c71 := S_AF_c67.wr W70
  have E_o2_c71 := E_o2_c67.wr W70
  have F_symbol_o2_c71 := F_symbol_o2_c67.other W70 (Or.inl ne_o2_b42)
  have E_s2_c71 := E_s2_c67.wr W70
  have F_value_s2_c71 := F_value_s2_c67.other W70 (Or.inl ne_s2_b42)
  have F_coder_s2_c71 := F_coder_s2_c67.other W70 (Or.inl ne_s2_b42)
  have V_v2_c71 := V_v2_c67.other W70 ne_v2_b42
  have S_EF_c71 := S_EF_c67.wr W70
  have E_o3_c71 := E_o3_c67.wr W70
  have F_symbol_o3_c71 := F_symbol_o3_c67.other W70 (Or.inl ne_o3_b42)
  have E_s3_c71 := E_s3_c67.wr W70
  have F_value_s3_c71 := F_value_s3_c67.other W70 (Or.inl ne_s3_b42)
  have F_coder_s3_c71 := F_coder_s3_c67.other W70 (Or.inl ne_s3_b42)
  have V_v3_c71 := V_v3_c67.other W70 ne_v3_b42
  have S_AG_c71 := S_AG_c67.wr W70
  have E_o4_c71 := E_o4_c67.wr W70
  have F_symbol_o4_c71 := F_symbol_o4_c67.other W70 (Or.inl ne_o4_b42)
  have E_s4_c71 := E_s4_c67.wr W70
  have F_value_s4_c71 := F_value_s4_c67.other W70 (Or.inl ne_s4_b42)
  have F_coder_s4_c71 := F_coder_s4_c67.other W70 (Or.inl ne_s4_b42)
  have V_v4_c71 := V_v4_c67.other W70 ne_v4_b42
  have S_EG_c71 := S_EG_c67.wr W70
  have E_o5_c71 := E_o5_c67.wr W70
  have F_symbol_o5_c71 := F_symbol_o5_c67.other W70 (Or.inl ne_o5_b42)
  have E_s5_c71 := E_s5_c67.wr W70
  have F_value_s5_c71 := F_value_s5_c67.other W70 (Or.inl ne_s5_b42)
  have F_coder_s5_c71 := F_coder_s5_c67.other W70 (Or.inl ne_s5_b42)
  have V_v5_c71 := V_v5_c67.other W70 ne_v5_b42
  have S_AU_c71 := S_AU_c67.wr W70
  have E_o6_c71 := E_o6_c67.wr W70
  have F_symbol_o6_c71 := F_symbol_o6_c67.other W70 (Or.inl ne_o6_b42)
  have E_s6_c71 := E_s6_c67.wr W70
  have F_value_s6_c71 := F_value_s6_c67.other W70 (Or.inl ne_s6_b42)
  have F_coder_s6_c71 := F_coder_s6_c67.other W70 (Or.inl ne_s6_b42)
  have V_v6_c71 := V_v6_c67.other W70 ne_v6_b42
  have S_EU_c71 := S_EU_c67.wr W70
  have E_o7_c71 := E_o7_c67.wr W70
  have F_symbol_o7_c71 := F_symbol_o7_c67.other W70 (Or.inl ne_o7_b42)
  have E_s7_c71 := E_s7_c67.wr W70
  have F_value_s7_c71 := F_value_s7_c67.other W70 (Or.inl ne_s7_b42)
  have F_coder_s7_c71 := F_coder_s7_c67.other W70 (Or.inl ne_s7_b42)
  have V_v7_c71 := V_v7_c67.other W70 ne_v7_b42
  have V_b42_c70 : Arv Z h70 b42 k42 (.object "com/example/error_to_hazard/errortohazard/model/CtlFormula$Temporal") (8 : Int32) [(.ref o0), (.ref o1), (.ref o2), (.ref o3), (.ref o4), (.ref o5), (.ref o6), .null] .null := Arv.set Ar69 q69 S69 N69 H69 G69 rfl W70 6 rfl (Nat.le_of_ble_eq_true rfl)
  have N70 := Fr.snoc X70 N66 g_b42
  refine own_go (fun _ k => XS.dup X70.here hx rfl (hb hby at_48) rfl rfl k) ?_
  refine own_go (fun _ k => XS.bipush X70.here hx rfl (hb hby at_49) k) ?_
  show own_Run p e below _ T70 (mkF m 51 #[.val (.int p1), .unset, .unset, .unset, .unset, .unset, .unset, .unset] [(.int (7 : Int32)), (.ref b42), (.ref b42)])
  obtain ⟨T72, X72, e72, st72⟩ := getS2 X70 hx hZ hown (host := "") (Or.inl (W 18 rfl)) Via.refl e70 S_EU_c71 (g := (mkF m 51 #[.val (.int p1), .unset, .unset, .unset, .unset, .unset, .unset, .unset] [(.int (7 : Int32)), (.ref b42), (.ref b42)])) rfl (hb hby at_51)
  refine own_go st72 ?_
  show own_Run p e below _ T72 (mkF m 54 #[.val (.int p1), .unset, .unset, .unset, .unset, .unset, .unset, .unset] [(.ref o7), (.int (7 : Int32)), (.ref b42), (.ref b42)])
  obtain ⟨cl73, Ar73, q73, S73, N73, H73, G73⟩ := id V_b42_c70
  have hin73 : ¬ ((7 : Int32) < 0 ∨ cl73.slots.size ≤ ((7 : Int32)).toNatClampNeg) := inb_of S73 ⟨by decide, by decide⟩
  obtain ⟨T74, h74, X74, e74, W74, st74⟩ := stR X72 hx hZ e72 Ar73 (j := (7 : Int32)) hin73 rfl (Sto.ofV Ar73 q73 O42 (Ins.self E_o7_c71)) (g := (mkF m 54 #[.val (.int p1), .unset, .unset, .unset, .unset, .unset, .unset, .unset] [(.ref o7), (.int (7 : Int32)), (.ref b42), (.ref b42)])) rfl rfl (hb hby at_54)
  refine own_go st74 ?_
  show own_Run p e below _ T74 (mkF m 55 #[.val (.int p1), .unset, .unset, .unset, .unset, .unset, .unset, .unset] [(.ref b42)])
  have Z0_c75 := Nat.le_trans Z0_c71 (Keep.of_wr W74).1
  have K0_c75 := K0_c71.wr W74 (Or.inr sz_b42)
  have S_COMPACT_STRINGS_c75 := S_COMPACT_STRINGS_c71.wr W74
  have S_SIOOBE_FORMATTER_c75 := S_SIOOBE_FORMATTER_c71.wr W74
  have S_AX_c75 := S_AX_c71.wr W74
  have E_o0_c75 := E_o0_c71.wr W74
  have F_symbol_o0_c75 := F_symbol_o0_c71.other W74 (Or.inl ne_o0_b42)
  have E_s0_c75 := E_s0_c71.wr W74
  have F_value_s0_c75 := F_value_s0_c71.other W74 (Or.inl ne_s0_b42)
  have F_coder_s0_c75 := F_coder_s0_c71.other W74 (Or.inl ne_s0_b42)
  have V_v0_c75 := V_v0_c71.other W74 ne_v0_b42
  have S_EX_c75 := S_EX_c71.wr W74
  have E_o1_c75 := E_o1_c71.wr W74
  have F_symbol_o1_c75 := F_symbol_o1_c71.other W74 (Or.inl ne_o1_b42)
  have E_s1_c75 := E_s1_c71.wr W74
  have F_value_s1_c75 := F_value_s1_c71.other W74 (Or.inl ne_s1_b42)
  have F_coder_s1_c75 := F_coder_s1_c71.other W74 (Or.inl ne_s1_b42)
  have V_v1_c75 := V_v1_c71.other W74 ne_v1_b42
  have S_AF_c75 := S_AF_c71.wr W74
  have E_o2_c75 := E_o2_c71.wr W74
  have F_symbol_o2_c75 := F_symbol_o2_c71.other W74 (Or.inl ne_o2_b42)
  have E_s2_c75 := E_s2_c71.wr W74
  have F_value_s2_c75 := F_value_s2_c71.other W74 (Or.inl ne_s2_b42)
  have F_coder_s2_c75 := F_coder_s2_c71.other W74 (Or.inl ne_s2_b42)
  have V_v2_c75 := V_v2_c71.other W74 ne_v2_b42
  have S_EF_c75 := S_EF_c71.wr W74
  have E_o3_c75 := E_o3_c71.wr W74
  have F_symbol_o3_c75 := F_symbol_o3_c71.other W74 (Or.inl ne_o3_b42)
  have E_s3_c75 := E_s3_c71.wr W74
  have F_value_s3_c75 := F_value_s3_c71.other W74 (Or.inl ne_s3_b42)
  have F_coder_s3_c75 := F_coder_s3_c71.other W74 (Or.inl ne_s3_b42)
  have V_v3_c75 := V_v3_c71.other W74 ne_v3_b42
  have S_AG_c75 := S_AG_c71.wr W74
  have E_o4_c75 := E_o4_c71.wr W74
  have F_symbol_o4_c75 := F_symbol_o4_c71.other W74 (Or.inl ne_o4_b42)
  have E_s4_c75 := E_s4_c71.wr W74
  have F_value_s4_c75 := F_value_s4_c71.other W74 (Or.inl ne_s4_b42)
  have F_coder_s4_c75 := F_coder_s4_c71.other W74 (Or.inl ne_s4_b42)
  have V_v4_c75 := V_v4_c71.other W74 ne_v4_b42
  have S_EG_c75 := S_EG_c71.wr W74
  have E_o5_c75 := E_o5_c71.wr W74
  have F_symbol_o5_c75 := F_symbol_o5_c71.other W74 (Or.inl ne_o5_b42)
  have E_s5_c75 := E_s5_c71.wr W74
  have F_value_s5_c75 := F_value_s5_c71.other W74 (Or.inl ne_s5_b42)
  have F_coder_s5_c75 := F_coder_s5_c71.other W74 (Or.inl ne_s5_b42)
  have V_v5_c75 := V_v5_c71.other W74 ne_v5_b42
  have S_AU_c75 := S_AU_c71.wr W74
  have E_o6_c75 := E_o6_c71.wr W74
  have F_symbol_o6_c75 := F_symbol_o6_c71.other W74 (Or.inl ne_o6_b42)
  have E_s6_c75 := E_s6_c71.wr W74
  have F_value_s6_c75 := F_value_s6_c71.other W74 (Or.inl ne_s6_b42)
  have F_coder_s6_c75 := F_coder_s6_c71.other W74 (Or.inl ne_s6_b42)
  have V_v6_c75 := V_v6_c71.other W74 ne_v6_b42
  have S_EU_c75 := S_EU_c71.wr W74
  have E_o7_c75 := E_o7_c71.wr W74
  have F_symbol_o7_c75 := F_symbol_o7_c71.other W74 (Or.inl ne_o7_b42)
  have E_s7_c75 := E_s7_c71.wr W74
  have F_value_s7_c75 := F_value_s7_c71.other W74 (Or.inl ne_s7_b42)
  have F_coder_s7_c75 := F_coder_s7_c71.other W74 (Or.inl ne_s7_b42)
  have V_v7_c75 := V_v7_c71.other W74 ne_v7_b42
  have V_b42_c74 : Arv Z h74 b42 k42 (.object "com/example/error_to_hazard/errortohazard/model/CtlFormula$Temporal") (8 : Int32) [(.ref o0), (.ref o1), (.ref o2), (.ref o3), (.ref o4), (.ref o5), (.ref o6), (.ref o7)] .null := Arv.set Ar73 q73 S73 N73 H73 G73 rfl W74 7 rfl (Nat.le_of_ble_eq_true rfl)
  have N74 := Fr.snoc X74 N70 g_b42
  refine own_go (fun _ k => XS.astoreN X74.here hx rfl (hb hby at_55) rfl rfl (l' := #[.val (.int p1), .val (.ref b42), .unset, .unset, .unset, .unset, .unset, .unset]) rfl k) ?_
  refine own_go (fun _ k => XS.iloadN X74.here hx rfl (hb hby at_56) rfl k) ?_
  show own_Run p e below _ T74 (mkF m 57 #[.val (.int p1), .val (.ref b42), .unset, .unset, .unset, .unset, .unset, .unset] [(.int p1)])
  refine own_go (X74.ldcInt hx hown (mvT hZ (W 20 rfl)) (g := (mkF m 57 #[.val (.int p1), .val (.ref b42), .unset, .unset, .unset, .unset, .unset, .unset] [(.int p1)])) rfl (hb hby at_57)) ?_
  show own_Run p e below _ T74 (mkF m 59 #[.val (.int p1), .val (.ref b42), .unset, .unset, .unset, .unset, .unset, .unset] [(.int (2147483647 : Int32)), (.int p1)])
  refine own_go (fun _ k => XS.iand X74.here hx rfl (hb hby at_59) rfl k) ?_
  refine own_go (fun _ k => XS.bipush X74.here hx rfl (hb hby at_60) k) ?_
  refine own_go (fun _ k => iremM X74 hx rfl (hb hby at_62) rfl (by decide) k) ?_
  show own_Run p e below _ T74 (mkF m 63 #[.val (.int p1), .val (.ref b42), .unset, .unset, .unset, .unset, .unset, .unset] [(.int ((p1 &&& (2147483647 : Int32)) % (8 : Int32)))])
  obtain ⟨x2, hx2⟩ : ∃ z, z = ((p1 &&& (2147483647 : Int32)) % (8 : Int32)) := ⟨_, rfl⟩
  rw [← hx2]
  show own_Run p e below _ T74 (mkF m 63 #[.val (.int p1), .val (.ref b42), .unset, .unset, .unset, .unset, .unset, .unset] [(.int x2)])
  refine own_go (fun _ k => XS.istoreN X74.here hx rfl (hb hby at_63) rfl (l' := #[.val (.int p1), .val (.ref b42), .val (.int x2), .unset, .unset, .unset, .unset, .unset]) rfl k) ?_
  show own_Run p e below _ T74 (mkF m 64 #[.val (.int p1), .val (.ref b42), .val (.int x2), .unset, .unset, .unset, .unset, .unset] [])
  rcases own_m8 p1 x2 hx2 with rfl | rfl | rfl | rfl | rfl | rfl | rfl | rfl
  · show own_Run p e below _ T74 (mkF m 64 #[.val (.int p1), .val (.ref b42), .val (.int (0 : Int32)), .unset, .unset, .unset, .unset, .unset] [])
    refine own_go (fun _ k => XS.aloadN X74.here hx rfl (hb hby at_64) rfl rfl k) ?_
    refine own_go (fun _ k => XS.iloadN X74.here hx rfl (hb hby at_65) rfl k) ?_
    show own_Run p e below _ T74 (mkF m 66 #[.val (.int p1), .val (.ref b42), .val (.int (0 : Int32)), .unset, .unset, .unset, .unset, .unset] [(.int (0 : Int32)), (.ref b42)])
    obtain ⟨cl76, Ar76, q76, S76, N76, H76, G76⟩ := id V_b42_c74
    have hin76 : ¬ ((0 : Int32) < 0 ∨ cl76.slots.size ≤ ((0 : Int32)).toNatClampNeg) := inb_of S76 ⟨by decide, by decide⟩
    refine own_go (X74.aaload hx (j := (0 : Int32)) (v := (.ref o0)) (by rw [e74]; exact Ar76.1) (State.isArrayOf_alike hZ.alike Ar76.2.1) rfl Ar76.2.2 hin76 (H76.at hin76 rfl) (g := (mkF m 66 #[.val (.int p1), .val (.ref b42), .val (.int (0 : Int32)), .unset, .unset, .unset, .unset, .unset] [(.int (0 : Int32)), (.ref b42)])) rfl rfl (hb hby at_66)) ?_
    show own_Run p e below _ T74 (mkF m 67 #[.val (.int p1), .val (.ref b42), .val (.int (0 : Int32)), .unset, .unset, .unset, .unset, .unset] [(.ref o0)])
    refine own_go (fun _ k => XS.astoreN X74.here hx rfl (hb hby at_67) rfl rfl (l' := #[.val (.int p1), .val (.ref b42), .val (.int (0 : Int32)), .val (.ref o0), .unset, .unset, .unset, .unset]) rfl k) ?_
    refine own_go (fun _ k => XS.aloadN X74.here hx rfl (hb hby at_68) rfl rfl k) ?_
    show own_Run p e below _ T74 (mkF m 69 #[.val (.int p1), .val (.ref b42), .val (.int (0 : Int32)), .val (.ref o0), .unset, .unset, .unset, .unset] [(.ref o0)])
    obtain ⟨cq77, kq77, q77a, q77b, q77c⟩ := isOf hZ e74 E_o0_c75
    obtain ⟨_, _, ⟨T77, L77, k77, n77⟩, -, X77, ⟨Lc77, hQ77, l77, y77, z77⟩, st77⟩ := X74.virtualBack hx (y := (⟨"com/example/error_to_hazard/errortohazard/model/CtlFormula$Temporal", "isUntil", "()Z"⟩ : MethodName)) (z := (⟨"com/example/error_to_hazard/errortohazard/model/CtlFormula$Temporal", "isUntil", "()Z"⟩ : MethodName)) hown (mvT hZ (W 21 rfl)) (mvT hZ (W 22 rfl)) (notFace_of_selects (args := #[]) (mvT hZ (W 24 rfl))) (mvT hZ (W 24 rfl)) (mvT hZ (W 23 rfl)) (by decide) (backOf (W := 0) (rm1a1 l Z a0 hw [] o0 o6 o7 h74 n0 Z0_c75 S_AU_c75 S_EU_c75 ne_o0_o6 ne_o0_o7) hZ (W 25 rfl) (W 3 rfl) (by decide) (by decide)) q77a q77c (g := (mkF m 69 #[.val (.int p1), .val (.ref b42), .val (.int (0 : Int32)), .val (.ref o0), .unset, .unset, .unset, .unset] [(.ref o0)])) rfl (by rw [hml]; rfl) (Steps.refl _) (argsL := []) (rest := []) (lenOf pd_4 rfl) rfl (by show 2 * 0 + _ ≤ _; exact Nat.le_of_eq rfl) (hb hby at_69) (fun _ _ => ⟨rfl, e74, (by decide : 1 + 0 ≤ _), (by decide : 8 + 0 ≤ _)⟩)
    dsimp only [Pt.U, Pt.locs, Pt.cells, Pt.slots] at X77 l77 y77 z77 st77 hQ77
    subst l77 y77 z77
    obtain ⟨rfl, N77q, e77⟩ := hQ77
    have N77 := Fr.app N74 N77q
    refine own_goT st77 ?_
    show own_Run p e below _ T77 (mkF m 72 #[.val (.int p1), .val (.ref b42), .val (.int (0 : Int32)), .val (.ref o0), .unset, .unset, .unset, .unset] [(.int (0 : Int32))])
    refine own_go (fun _ k => XS.istore X77.here hx rfl (hb hby at_72) rfl (l' := #[.val (.int p1), .val (.ref b42), .val (.int (0 : Int32)), .val (.ref o0), .val (.int (0 : Int32)), .unset, .unset, .unset]) rfl k) ?_
    refine own_go (fun _ k => XS.aloadN X77.here hx rfl (hb hby at_74) rfl rfl k) ?_
    show own_Run p e below _ T77 (mkF m 75 #[.val (.int p1), .val (.ref b42), .val (.int (0 : Int32)), .val (.ref o0), .val (.int (0 : Int32)), .unset, .unset, .unset] [(.ref o0)])
    obtain ⟨cq78, kq78, q78a, q78b, q78c⟩ := isOf hZ e77 E_o0_c75
    obtain ⟨_, _, ⟨T78, L78, k78, n78⟩, -, X78, ⟨Lc78, hQ78, l78, y78, z78⟩, st78⟩ := X77.virtualBack hx (y := (⟨"com/example/error_to_hazard/errortohazard/model/CtlFormula$Temporal", "symbol", "()Ljava/lang/String;"⟩ : MethodName)) (z := (⟨"com/example/error_to_hazard/errortohazard/model/CtlFormula$Temporal", "symbol", "()Ljava/lang/String;"⟩ : MethodName)) hown (mvT hZ (W 28 rfl)) (mvT hZ (W 29 rfl)) (notFace_of_selects (args := #[]) (mvT hZ (W 31 rfl))) (mvT hZ (W 31 rfl)) (mvT hZ (W 30 rfl)) (by decide) (backOf (W := 0) (rm2 l Z a0 hw [] o0 s0 h74 n0 Z0_c75 F_symbol_o0_c75) hZ (W 32 rfl) (W 3 rfl) (by decide) (by decide)) q78a q78c (g := (mkF m 75 #[.val (.int p1), .val (.ref b42), .val (.int (0 : Int32)), .val (.ref o0), .val (.int (0 : Int32)), .unset, .unset, .unset] [(.ref o0)])) rfl (by rw [hml]; rfl) (Steps.refl _) (argsL := []) (rest := []) (lenOf pd_6 rfl) rfl (by show 2 * 0 + _ ≤ _; exact Nat.le_of_eq rfl) (hb hby at_75) (fun _ _ => ⟨rfl, e77, (by decide : 1 + 0 ≤ _), (by decide : 8 + 0 ≤ _)⟩)
    dsimp only [Pt.U, Pt.locs, Pt.cells, Pt.slots] at X78 l78 y78 z78 st78 hQ78
    subst l78 y78 z78
    obtain ⟨rfl, N78q, e78⟩ := hQ78
    have N78 := Fr.app N77 N78q
    refine own_goT st78 ?_
    show own_Run p e below _ T78 (mkF m 78 #[.val (.int p1), .val (.ref b42), .val (.int (0 : Int32)), .val (.ref o0), .val (.int (0 : Int32)), .unset, .unset, .unset] [(.ref s0)])
    refine own_go (fun _ k => XS.astore X78.here hx rfl (hb hby at_78) rfl rfl (l' := #[.val (.int p1), .val (.ref b42), .val (.int (0 : Int32)), .val (.ref o0), .val (.int (0 : Int32)), .val (.ref s0), .unset, .unset]) rfl k) ?_
    refine own_go (fun _ k => XS.aload X78.here hx rfl (hb hby at_80) rfl rfl k) ?_
    show own_Run p e below _ T78 (mkF m 82 #[.val (.int p1), .val (.ref b42), .val (.int (0 : Int32)), .val (.ref o0), .val (.int (0 : Int32)), .val (.ref s0), .unset, .unset] [(.ref s0)])
    obtain ⟨cq79, kq79, q79a, q79b, q79c⟩ := isOf hZ e78 E_s0_c75
    obtain ⟨_, _, ⟨T79, L79, k79, n79⟩, -, X79, ⟨Lc79, hQ79, l79, y79, z79⟩, st79⟩ := X78.virtualBack hx (y := (⟨"java/lang/String", "length", "()I"⟩ : MethodName)) (z := (⟨"java/lang/String", "length", "()I"⟩ : MethodName)) hown (mvT hZ (W 35 rfl)) (mvT hZ (W 36 rfl)) (notFace_of_selects (args := #[]) (mvT hZ (W 38 rfl))) (mvT hZ (W 38 rfl)) (mvT hZ (W 37 rfl)) (by decide) (backOf (W := 0) (rm3 l Z a0 hw [] s0 cs v0 kv0 d0 (88 : Int32) h74 n0 Z0_c75 S_COMPACT_STRINGS_c75 (hcs) E_s0_c75 F_coder_s0_c75 F_value_s0_c75 V_v0_c75) hZ (W 40 rfl) (W 39 rfl) (by decide) (by decide)) q79a q79c (g := (mkF m 82 #[.val (.int p1), .val (.ref b42), .val (.int (0 : Int32)), .val (.ref o0), .val (.int (0 : Int32)), .val (.ref s0), .unset, .unset] [(.ref s0)])) rfl (by rw [hml]; rfl) (Steps.refl _) (argsL := []) (rest := []) (lenOf pd_7 rfl) rfl (by show 2 * 0 + _ ≤ _; exact Nat.le_of_eq rfl) (hb hby at_82) (fun _ _ => ⟨rfl, e78, (by decide : 1 + 0 ≤ _), (by decide : 8 + 0 ≤ _)⟩)
    dsimp only [Pt.U, Pt.locs, Pt.cells, Pt.slots] at X79 l79 y79 z79 st79 hQ79
    subst l79 y79 z79
    obtain ⟨rfl, N79q, e79⟩ := hQ79
    have N79 := Fr.app N78 N79q
    refine own_goT st79 ?_
    show own_Run p e below _ T79 (mkF m 85 #[.val (.int p1), .val (.ref b42), .val (.int (0 : Int32)), .val (.ref o0), .val (.int (0 : Int32)), .val (.ref s0), .unset, .unset] [(.int (2 : Int32))])
    refine own_go (fun _ k => XS.iconst X79.here hx rfl (hb hby at_85) k) ?_
    show own_Run p e below _ T79 (mkF m 86 #[.val (.int p1), .val (.ref b42), .val (.int (0 : Int32)), .val (.ref o0), .val (.int (0 : Int32)), .val (.ref s0), .unset, .unset] [(.int (2 : Int32)), (.int (2 : Int32))])
    refine own_go (fun _ k => XS.icmpNo X79.here hx rfl (hb hby at_86) rfl (teq (by decide : (2 : Int32) = (2 : Int32))).2 k) ?_
    show own_Run p e below _ T79 (mkF m 89 #[.val (.int p1), .val (.ref b42), .val (.int (0 : Int32)), .val (.ref o0), .val (.int (0 : Int32)), .val (.ref s0), .unset, .unset] [])
    refine own_go (fun _ k => XS.aload X79.here hx rfl (hb hby at_89) rfl rfl k) ?_
    refine own_go (fun _ k => XS.iconst X79.here hx rfl (hb hby at_91) k) ?_
    show own_Run p e below _ T79 (mkF m 92 #[.val (.int p1), .val (.ref b42), .val (.int (0 : Int32)), .val (.ref o0), .val (.int (0 : Int32)), .val (.ref s0), .unset, .unset] [(.int (1 : Int32)), (.ref s0)])
    obtain ⟨cq80, kq80, q80a, q80b, q80c⟩ := isOf hZ e79 E_s0_c75
    obtain ⟨_, _, ⟨T80, L80, k80, n80⟩, -, X80, ⟨Lc80, hQ80, l80, y80, z80⟩, st80⟩ := X79.virtualBack hx (y := (⟨"java/lang/String", "charAt", "(I)C"⟩ : MethodName)) (z := (⟨"java/lang/String", "charAt", "(I)C"⟩ : MethodName)) hown (mvT hZ (W 51 rfl)) (mvT hZ (W 52 rfl)) (notFace_of_selects (args := #[]) (mvT hZ (W 54 rfl))) (mvT hZ (W 54 rfl)) (mvT hZ (W 53 rfl)) (by decide) (backOf (W := 0) (rm5 l Z a0 hw [] s0 cs fm v0 kv0 d0 (88 : Int32) h74 n0 Z0_c75 S_COMPACT_STRINGS_c75 (hcs) E_s0_c75 F_coder_s0_c75 F_value_s0_c75 V_v0_c75 S_SIOOBE_FORMATTER_c75 (hfm) (Or.inl rfl)) hZ (W 55 rfl) (W 39 rfl) (by decide) (by decide)) q80a q80c (g := (mkF m 92 #[.val (.int p1), .val (.ref b42), .val (.int (0 : Int32)), .val (.ref o0), .val (.int (0 : Int32)), .val (.ref s0), .unset, .unset] [(.int (1 : Int32)), (.ref s0)])) rfl (by rw [hml]; rfl) (Steps.refl _) (argsL := [(.int (1 : Int32))]) (rest := []) (lenOf pd_8 rfl) rfl (by show 2 * 0 + _ ≤ _; exact Nat.le_of_eq rfl) (hb hby at_92) (fun _ _ => ⟨rfl, e79, (by decide : 1 + 0 ≤ _), (by decide : 8 + 0 ≤ _)⟩)
    dsimp only [Pt.U, Pt.locs, Pt.cells, Pt.slots] at X80 l80 y80 z80 st80 hQ80
    subst l80 y80 z80
    obtain ⟨rfl, N80q, e80⟩ := hQ80
    have N80 := Fr.app N79 N80q
    refine own_goT st80 ?_
    show own_Run p e below _ T80 (mkF m 95 #[.val (.int p1), .val (.ref b42), .val (.int (0 : Int32)), .val (.ref o0), .val (.int (0 : Int32)), .val (.ref s0), .unset, .unset] [(.int (88 : Int32))])
    refine own_go (fun _ k => XS.bipush X80.here hx rfl (hb hby at_95) k) ?_
    show own_Run p e below _ T80 (mkF m 97 #[.val (.int p1), .val (.ref b42), .val (.int (0 : Int32)), .val (.ref o0), .val (.int (0 : Int32)), .val (.ref s0), .unset, .unset] [(.int (91 : Int32)), (.int (88 : Int32))])
    refine own_go (fun _ k => XS.icmpYes X80.here hx rfl (pc0 := 97) (pc' := 104) rfl (hb hby at_97) rfl (feq (by decide : ¬ ((88 : Int32) = (91 : Int32)))).2 (by decide) (by decide) k) ?_
    show own_Run p e below _ T80 (mkF m 104 #[.val (.int p1), .val (.ref b42), .val (.int (0 : Int32)), .val (.ref o0), .val (.int (0 : Int32)), .val (.ref s0), .unset, .unset] [])
    refine own_go (fun _ k => XS.iconst X80.here hx rfl (hb hby at_104) k) ?_
    refine own_go (fun _ k => XS.istore X80.here hx rfl (hb hby at_105) rfl (l' := #[.val (.int p1), .val (.ref b42), .val (.int (0 : Int32)), .val (.ref o0), .val (.int (0 : Int32)), .val (.ref s0), .val (.int (0 : Int32)), .unset]) rfl k) ?_
    refine own_go (fun _ k => XS.iloadN X80.here hx rfl (hb hby at_107) rfl k) ?_
    refine own_go (fun _ k => XS.bipush X80.here hx rfl (hb hby at_108) k) ?_
    show own_Run p e below _ T80 (mkF m 110 #[.val (.int p1), .val (.ref b42), .val (.int (0 : Int32)), .val (.ref o0), .val (.int (0 : Int32)), .val (.ref s0), .val (.int (0 : Int32)), .unset] [(.int (6 : Int32)), (.int (0 : Int32))])
    refine own_go (fun _ k => XS.icmpYes X80.here hx rfl (pc0 := 110) (pc' := 117) rfl (hb hby at_110) rfl (tlt (by decide : (0 : Int32) < (6 : Int32))).1 (by decide) (by decide) k) ?_
    show own_Run p e below _ T80 (mkF m 117 #[.val (.int p1), .val (.ref b42), .val (.int (0 : Int32)), .val (.ref o0), .val (.int (0 : Int32)), .val (.ref s0), .val (.int (0 : Int32)), .unset] [])
    refine own_go (fun _ k => XS.iconst X80.here hx rfl (hb hby at_117) k) ?_
    refine own_go (fun _ k => XS.istore X80.here hx rfl (hb hby at_118) rfl (l' := #[.val (.int p1), .val (.ref b42), .val (.int (0 : Int32)), .val (.ref o0), .val (.int (0 : Int32)), .val (.ref s0), .val (.int (0 : Int32)), .val (.int (0 : Int32))]) rfl k) ?_
    refine own_go (fun _ k => XS.iload X80.here hx rfl (hb hby at_120) rfl k) ?_
    refine own_go (fun _ k => XS.iload X80.here hx rfl (hb hby at_122) rfl k) ?_
    show own_Run p e below _ T80 (mkF m 124 #[.val (.int p1), .val (.ref b42), .val (.int (0 : Int32)), .val (.ref o0), .val (.int (0 : Int32)), .val (.ref s0), .val (.int (0 : Int32)), .val (.int (0 : Int32))] [(.int (0 : Int32)), (.int (0 : Int32))])
    refine own_go (fun _ k => XS.icmpNo X80.here hx rfl (hb hby at_124) rfl (teq (by decide : (0 : Int32) = (0 : Int32))).2 k) ?_
    show own_Run p e below _ T80 (mkF m 127 #[.val (.int p1), .val (.ref b42), .val (.int (0 : Int32)), .val (.ref o0), .val (.int (0 : Int32)), .val (.ref s0), .val (.int (0 : Int32)), .val (.int (0 : Int32))] [])
    refine own_go (fun _ k => XS.iload X80.here hx rfl (hb hby at_127) rfl k) ?_
    refine own_go (fun _ k => XS.iload X80.here hx rfl (hb hby at_129) rfl k) ?_
    show own_Run p e below _ T80 (mkF m 131 #[.val (.int p1), .val (.ref b42), .val (.int (0 : Int32)), .val (.ref o0), .val (.int (0 : Int32)), .val (.ref s0), .val (.int (0 : Int32)), .val (.int (0 : Int32))] [(.int (0 : Int32)), (.int (0 : Int32))])
    refine own_go (fun _ k => XS.icmpNo X80.here hx rfl (hb hby at_131) rfl (teq (by decide : (0 : Int32) = (0 : Int32))).2 k) ?_
    show own_Run p e below _ T80 (mkF m 134 #[.val (.int p1), .val (.ref b42), .val (.int (0 : Int32)), .val (.ref o0), .val (.int (0 : Int32)), .val (.ref s0), .val (.int (0 : Int32)), .val (.int (0 : Int32))] [])
    refine own_go (fun _ k => XS.iconst X80.here hx rfl (hb hby at_134) k) ?_
    refine own_go (fun _ k => XS.goto X80.here hx rfl (pc0 := 135) (pc' := 139) rfl (hb hby at_135) (by decide) (by decide) k) ?_
    show own_Run p e below _ T80 (mkF m 139 #[.val (.int p1), .val (.ref b42), .val (.int (0 : Int32)), .val (.ref o0), .val (.int (0 : Int32)), .val (.ref s0), .val (.int (0 : Int32)), .val (.int (0 : Int32))] [(.int (1 : Int32))])
    refine own_done (Q := fun v h L => Q0 Z p1 cs fm o0 s0 v0 kv0 d0 o1 s1 v1 kv1 d1 o2 s2 v2 kv2 d2 o3 s3 v3 kv3 d3 o4 s4 v4 kv4 d4 o5 s5 v5 kv5 d5 o6 s6 v6 kv6 d6 o7 s7 v7 kv7 d7 h0 n0 v h L) (v := (some (.int (1 : Int32)))) X80 (fun h => by rw [hret] at h; cases h) hlk (fun fs hr => retN X80 hx (t := .boolean) hret (by simp) (hb hby at_139) hr) ?_ (by decide) (by decide)
    show Q0 Z p1 cs fm o0 s0 v0 kv0 d0 o1 s1 v1 kv1 d1 o2 s2 v2 kv2 d2 o3 s3 v3 kv3 d3 o4 s4 v4 kv4 d4 o5 s5 v5 kv5 d5 o6 s6 v6 kv6 d6 o7 s7 v7 kv7 d7 h0 n0 _ T80.heap _
    rw [e80]
    exact ⟨rfl, N80⟩
  · show own_Run p e below _ T74 (mkF m 64 #[.val (.int p1), .val (.ref b42), .val (.int (1 : Int32)), .unset, .unset, .unset, .unset, .unset] [])
    refine own_go (fun _ k => XS.aloadN X74.here hx rfl (hb hby at_64) rfl rfl k) ?_
    refine own_go (fun _ k => XS.iloadN X74.here hx rfl (hb hby at_65) rfl k) ?_
    show own_Run p e below _ T74 (mkF m 66 #[.val (.int p1), .val (.ref b42), .val (.int (1 : Int32)), .unset, .unset, .unset, .unset, .unset] [(.int (1 : Int32)), (.ref b42)])
    obtain ⟨cl81, Ar81, q81, S81, N81, H81, G81⟩ := id V_b42_c74
    have hin81 : ¬ ((1 : Int32) < 0 ∨ cl81.slots.size ≤ ((1 : Int32)).toNatClampNeg) := inb_of S81 ⟨by decide, by decide⟩
    refine own_go (X74.aaload hx (j := (1 : Int32)) (v := (.ref o1)) (by rw [e74]; exact Ar81.1) (State.isArrayOf_alike hZ.alike Ar81.2.1) rfl Ar81.2.2 hin81 (H81.at hin81 rfl) (g := (mkF m 66 #[.val (.int p1), .val (.ref b42), .val (.int (1 : Int32)), .unset, .unset, .unset, .unset, .unset] [(.int (1 : Int32)), (.ref b42)])) rfl rfl (hb hby at_66)) ?_
    show own_Run p e below _ T74 (mkF m 67 #[.val (.int p1), .val (.ref b42), .val (.int (1 : Int32)), .unset, .unset, .unset, .unset, .unset] [(.ref o1)])
    refine own_go (fun _ k => XS.astoreN X74.here hx rfl (hb hby at_67) rfl rfl (l' := #[.val (.int p1), .val (.ref b42), .val (.int (1 : Int32)), .val (.ref o1), .unset, .unset, .unset, .unset]) rfl k) ?_
    refine own_go (fun _ k => XS.aloadN X74.here hx rfl (hb hby at_68) rfl rfl k) ?_
    show own_Run p e below _ T74 (mkF m 69 #[.val (.int p1), .val (.ref b42), .val (.int (1 : Int32)), .val (.ref o1), .unset, .unset, .unset, .unset] [(.ref o1)])
    obtain ⟨cq82, kq82, q82a, q82b, q82c⟩ := isOf hZ e74 E_o1_c75
    obtain ⟨_, _, ⟨T82, L82, k82, n82⟩, -, X82, ⟨Lc82, hQ82, l82, y82, z82⟩, st82⟩ := X74.virtualBack hx (y := (⟨"com/example/error_to_hazard/errortohazard/model/CtlFormula$Temporal", "isUntil", "()Z"⟩ : MethodName)) (z := (⟨"com/example/error_to_hazard/errortohazard/model/CtlFormula$Temporal", "isUntil", "()Z"⟩ : MethodName)) hown (mvT hZ (W 21 rfl)) (mvT hZ (W 22 rfl)) (notFace_of_selects (args := #[]) (mvT hZ (W 24 rfl))) (mvT hZ (W 24 rfl)) (mvT hZ (W 23 rfl)) (by decide) (backOf (W := 0) (rm1a1 l Z a0 hw [] o1 o6 o7 h74 n0 Z0_c75 S_AU_c75 S_EU_c75 ne_o1_o6 ne_o1_o7) hZ (W 25 rfl) (W 3 rfl) (by decide) (by decide)) q82a q82c (g := (mkF m 69 #[.val (.int p1), .val (.ref b42), .val (.int (1 : Int32)), .val (.ref o1), .unset, .unset, .unset, .unset] [(.ref o1)])) rfl (by rw [hml]; rfl) (Steps.refl _) (argsL := []) (rest := []) (lenOf pd_4 rfl) rfl (by show 2 * 0 + _ ≤ _; exact Nat.le_of_eq rfl) (hb hby at_69) (fun _ _ => ⟨rfl, e74, (by decide : 1 + 0 ≤ _), (by decide : 8 + 0 ≤ _)⟩)
    dsimp only [Pt.U, Pt.locs, Pt.cells, Pt.slots] at X82 l82 y82 z82 st82 hQ82
    subst l82 y82 z82
    obtain ⟨rfl, N82q, e82⟩ := hQ82
    have N82 := Fr.app N74 N82q
    refine own_goT st82 ?_
    show own_Run p e below _ T82 (mkF m 72 #[.val (.int p1), .val (.ref b42), .val (.int (1 : Int32)), .val (.ref o1), .unset, .unset, .unset, .unset] [(.int (0 : Int32))])
    refine own_go (fun _ k => XS.istore X82.here hx rfl (hb hby at_72) rfl (l' := #[.val (.int p1), .val (.ref b42), .val (.int (1 : Int32)), .val (.ref o1), .val (.int (0 : Int32)), .unset, .unset, .unset]) rfl k) ?_
    refine own_go (fun _ k => XS.aloadN X82.here hx rfl (hb hby at_74) rfl rfl k) ?_
    show own_Run p e below _ T82 (mkF m 75 #[.val (.int p1), .val (.ref b42), .val (.int (1 : Int32)), .val (.ref o1), .val (.int (0 : Int32)), .unset, .unset, .unset] [(.ref o1)])
    obtain ⟨cq83, kq83, q83a, q83b, q83c⟩ := isOf hZ e82 E_o1_c75
    obtain ⟨_, _, ⟨T83, L83, k83, n83⟩, -, X83, ⟨Lc83, hQ83, l83, y83, z83⟩, st83⟩ := X82.virtualBack hx (y := (⟨"com/example/error_to_hazard/errortohazard/model/CtlFormula$Temporal", "symbol", "()Ljava/lang/String;"⟩ : MethodName)) (z := (⟨"com/example/error_to_hazard/errortohazard/model/CtlFormula$Temporal", "symbol", "()Ljava/lang/String;"⟩ : MethodName)) hown (mvT hZ (W 28 rfl)) (mvT hZ (W 29 rfl)) (notFace_of_selects (args := #[]) (mvT hZ (W 31 rfl))) (mvT hZ (W 31 rfl)) (mvT hZ (W 30 rfl)) (by decide) (backOf (W := 0) (rm2 l Z a0 hw [] o1 s1 h74 n0 Z0_c75 F_symbol_o1_c75) hZ (W 32 rfl) (W 3 rfl) (by decide) (by decide)) q83a q83c (g := (mkF m 75 #[.val (.int p1), .val (.ref b42), .val (.int (1 : Int32)), .val (.ref o1), .val (.int (0 : Int32)), .unset, .unset, .unset] [(.ref o1)])) rfl (by rw [hml]; rfl) (Steps.refl _) (argsL := []) (rest := []) (lenOf pd_6 rfl) rfl (by show 2 * 0 + _ ≤ _; exact Nat.le_of_eq rfl) (hb hby at_75) (fun _ _ => ⟨rfl, e82, (by decide : 1 + 0 ≤ _), (by decide : 8 + 0 ≤ _)⟩)
    dsimp only [Pt.U, Pt.locs, Pt.cells, Pt.slots] at X83 l83 y83 z83 st83 hQ83
    subst l83 y83 z83
    obtain ⟨rfl, N83q, e83⟩ := hQ83
    have N83 := Fr.app N82 N83q
    refine own_goT st83 ?_
    show own_Run p e below _ T83 (mkF m 78 #[.val (.int p1), .val (.ref b42), .val (.int (1 : Int32)), .val (.ref o1), .val (.int (0 : Int32)), .unset, .unset, .unset] [(.ref s1)])
    refine own_go (fun _ k => XS.astore X83.here hx rfl (hb hby at_78) rfl rfl (l' := #[.val (.int p1), .val (.ref b42), .val (.int (1 : Int32)), .val (.ref o1), .val (.int (0 : Int32)), .val (.ref s1), .unset, .unset]) rfl k) ?_
    refine own_go (fun _ k => XS.aload X83.here hx rfl (hb hby at_80) rfl rfl k) ?_
    show own_Run p e below _ T83 (mkF m 82 #[.val (.int p1), .val (.ref b42), .val (.int (1 : Int32)), .val (.ref o1), .val (.int (0 : Int32)), .val (.ref s1), .unset, .unset] [(.ref s1)])
    obtain ⟨cq84, kq84, q84a, q84b, q84c⟩ := isOf hZ e83 E_s1_c75
    obtain ⟨_, _, ⟨T84, L84, k84, n84⟩, -, X84, ⟨Lc84, hQ84, l84, y84, z84⟩, st84⟩ := X83.virtualBack hx (y := (⟨"java/lang/String", "length", "()I"⟩ : MethodName)) (z := (⟨"java/lang/String", "length", "()I"⟩ : MethodName)) hown (mvT hZ (W 35 rfl)) (mvT hZ (W 36 rfl)) (notFace_of_selects (args := #[]) (mvT hZ (W 38 rfl))) (mvT hZ (W 38 rfl)) (mvT hZ (W 37 rfl)) (by decide) (backOf (W := 0) (rm3 l Z a0 hw [] s1 cs v1 kv1 d1 (88 : Int32) h74 n0 Z0_c75 S_COMPACT_STRINGS_c75 (hcs) E_s1_c75 F_coder_s1_c75 F_value_s1_c75 V_v1_c75) hZ (W 40 rfl) (W 39 rfl) (by decide) (by decide)) q84a q84c (g := (mkF m 82 #[.val (.int p1), .val (.ref b42), .val (.int (1 : Int32)), .val (.ref o1), .val (.int (0 : Int32)), .val (.ref s1), .unset, .unset] [(.ref s1)])) rfl (by rw [hml]; rfl) (Steps.refl _) (argsL := []) (rest := []) (lenOf pd_7 rfl) rfl (by show 2 * 0 + _ ≤ _; exact Nat.le_of_eq rfl) (hb hby at_82) (fun _ _ => ⟨rfl, e83, (by decide : 1 + 0 ≤ _), (by decide : 8 + 0 ≤ _)⟩)
    dsimp only [Pt.U, Pt.locs, Pt.cells, Pt.slots] at X84 l84 y84 z84 st84 hQ84
    subst l84 y84 z84
    obtain ⟨rfl, N84q, e84⟩ := hQ84
    have N84 := Fr.app N83 N84q
    refine own_goT st84 ?_
    show own_Run p e below _ T84 (mkF m 85 #[.val (.int p1), .val (.ref b42), .val (.int (1 : Int32)), .val (.ref o1), .val (.int (0 : Int32)), .val (.ref s1), .unset, .unset] [(.int (2 : Int32))])
    refine own_go (fun _ k => XS.iconst X84.here hx rfl (hb hby at_85) k) ?_
    show own_Run p e below _ T84 (mkF m 86 #[.val (.int p1), .val (.ref b42), .val (.int (1 : Int32)), .val (.ref o1), .val (.int (0 : Int32)), .val (.ref s1), .unset, .unset] [(.int (2 : Int32)), (.int (2 : Int32))])
    refine own_go (fun _ k => XS.icmpNo X84.here hx rfl (hb hby at_86) rfl (teq (by decide : (2 : Int32) = (2 : Int32))).2 k) ?_
    show own_Run p e below _ T84 (mkF m 89 #[.val (.int p1), .val (.ref b42), .val (.int (1 : Int32)), .val (.ref o1), .val (.int (0 : Int32)), .val (.ref s1), .unset, .unset] [])
    refine own_go (fun _ k => XS.aload X84.here hx rfl (hb hby at_89) rfl rfl k) ?_
    refine own_go (fun _ k => XS.iconst X84.here hx rfl (hb hby at_91) k) ?_
    show own_Run p e below _ T84 (mkF m 92 #[.val (.int p1), .val (.ref b42), .val (.int (1 : Int32)), .val (.ref o1), .val (.int (0 : Int32)), .val (.ref s1), .unset, .unset] [(.int (1 : Int32)), (.ref s1)])
    obtain ⟨cq85, kq85, q85a, q85b, q85c⟩ := isOf hZ e84 E_s1_c75
    obtain ⟨_, _, ⟨T85, L85, k85, n85⟩, -, X85, ⟨Lc85, hQ85, l85, y85, z85⟩, st85⟩ := X84.virtualBack hx (y := (⟨"java/lang/String", "charAt", "(I)C"⟩ : MethodName)) (z := (⟨"java/lang/String", "charAt", "(I)C"⟩ : MethodName)) hown (mvT hZ (W 51 rfl)) (mvT hZ (W 52 rfl)) (notFace_of_selects (args := #[]) (mvT hZ (W 54 rfl))) (mvT hZ (W 54 rfl)) (mvT hZ (W 53 rfl)) (by decide) (backOf (W := 0) (rm5 l Z a0 hw [] s1 cs fm v1 kv1 d1 (88 : Int32) h74 n0 Z0_c75 S_COMPACT_STRINGS_c75 (hcs) E_s1_c75 F_coder_s1_c75 F_value_s1_c75 V_v1_c75 S_SIOOBE_FORMATTER_c75 (hfm) (Or.inl rfl)) hZ (W 55 rfl) (W 39 rfl) (by decide) (by decide)) q85a q85c (g := (mkF m 92 #[.val (.int p1), .val (.ref b42), .val (.int (1 : Int32)), .val (.ref o1), .val (.int (0 : Int32)), .val (.ref s1), .unset, .unset] [(.int (1 : Int32)), (.ref s1)])) rfl (by rw [hml]; rfl) (Steps.refl _) (argsL := [(.int (1 : Int32))]) (rest := []) (lenOf pd_8 rfl) rfl (by show 2 * 0 + _ ≤ _; exact Nat.le_of_eq rfl) (hb hby at_92) (fun _ _ => ⟨rfl, e84, (by decide : 1 + 0 ≤ _), (by decide : 8 + 0 ≤ _)⟩)
    dsimp only [Pt.U, Pt.locs, Pt.cells, Pt.slots] at X85 l85 y85 z85 st85 hQ85
    subst l85 y85 z85
    obtain ⟨rfl, N85q, e85⟩ := hQ85
    have N85 := Fr.app N84 N85q
    refine own_goT st85 ?_
    show own_Run p e below _ T85 (mkF m 95 #[.val (.int p1), .val (.ref b42), .val (.int (1 : Int32)), .val (.ref o1), .val (.int (0 : Int32)), .val (.ref s1), .unset, .unset] [(.int (88 : Int32))])
    refine own_go (fun _ k => XS.bipush X85.here hx rfl (hb hby at_95) k) ?_
    show own_Run p e below _ T85 (mkF m 97 #[.val (.int p1), .val (.ref b42), .val (.int (1 : Int32)), .val (.ref o1), .val (.int (0 : Int32)), .val (.ref s1), .unset, .unset] [(.int (91 : Int32)), (.int (88 : Int32))])
    refine own_go (fun _ k => XS.icmpYes X85.here hx rfl (pc0 := 97) (pc' := 104) rfl (hb hby at_97) rfl (feq (by decide : ¬ ((88 : Int32) = (91 : Int32)))).2 (by decide) (by decide) k) ?_
    show own_Run p e below _ T85 (mkF m 104 #[.val (.int p1), .val (.ref b42), .val (.int (1 : Int32)), .val (.ref o1), .val (.int (0 : Int32)), .val (.ref s1), .unset, .unset] [])
    refine own_go (fun _ k => XS.iconst X85.here hx rfl (hb hby at_104) k) ?_
    refine own_go (fun _ k => XS.istore X85.here hx rfl (hb hby at_105) rfl (l' := #[.val (.int p1), .val (.ref b42), .val (.int (1 : Int32)), .val (.ref o1), .val (.int (0 : Int32)), .val (.ref s1), .val (.int (0 : Int32)), .unset]) rfl k) ?_
    refine own_go (fun _ k => XS.iloadN X85.here hx rfl (hb hby at_107) rfl k) ?_
    refine own_go (fun _ k => XS.bipush X85.here hx rfl (hb hby at_108) k) ?_
    show own_Run p e below _ T85 (mkF m 110 #[.val (.int p1), .val (.ref b42), .val (.int (1 : Int32)), .val (.ref o1), .val (.int (0 : Int32)), .val (.ref s1), .val (.int (0 : Int32)), .unset] [(.int (6 : Int32)), (.int (1 : Int32))])
    refine own_go (fun _ k => XS.icmpYes X85.here hx rfl (pc0 := 110) (pc' := 117) rfl (hb hby at_110) rfl (tlt (by decide : (1 : Int32) < (6 : Int32))).1 (by decide) (by decide) k) ?_
    show own_Run p e below _ T85 (mkF m 117 #[.val (.int p1), .val (.ref b42), .val (.int (1 : Int32)), .val (.ref o1), .val (.int (0 : Int32)), .val (.ref s1), .val (.int (0 : Int32)), .unset] [])
    refine own_go (fun _ k => XS.iconst X85.here hx rfl (hb hby at_117) k) ?_
    refine own_go (fun _ k => XS.istore X85.here hx rfl (hb hby at_118) rfl (l' := #[.val (.int p1), .val (.ref b42), .val (.int (1 : Int32)), .val (.ref o1), .val (.int (0 : Int32)), .val (.ref s1), .val (.int (0 : Int32)), .val (.int (0 : Int32))]) rfl k) ?_
    refine own_go (fun _ k => XS.iload X85.here hx rfl (hb hby at_120) rfl k) ?_
    refine own_go (fun _ k => XS.iload X85.here hx rfl (hb hby at_122) rfl k) ?_
    show own_Run p e below _ T85 (mkF m 124 #[.val (.int p1), .val (.ref b42), .val (.int (1 : Int32)), .val (.ref o1), .val (.int (0 : Int32)), .val (.ref s1), .val (.int (0 : Int32)), .val (.int (0 : Int32))] [(.int (0 : Int32)), (.int (0 : Int32))])
    refine own_go (fun _ k => XS.icmpNo X85.here hx rfl (hb hby at_124) rfl (teq (by decide : (0 : Int32) = (0 : Int32))).2 k) ?_
    show own_Run p e below _ T85 (mkF m 127 #[.val (.int p1), .val (.ref b42), .val (.int (1 : Int32)), .val (.ref o1), .val (.int (0 : Int32)), .val (.ref s1), .val (.int (0 : Int32)), .val (.int (0 : Int32))] [])
    refine own_go (fun _ k => XS.iload X85.here hx rfl (hb hby at_127) rfl k) ?_
    refine own_go (fun _ k => XS.iload X85.here hx rfl (hb hby at_129) rfl k) ?_
    show own_Run p e below _ T85 (mkF m 131 #[.val (.int p1), .val (.ref b42), .val (.int (1 : Int32)), .val (.ref o1), .val (.int (0 : Int32)), .val (.ref s1), .val (.int (0 : Int32)), .val (.int (0 : Int32))] [(.int (0 : Int32)), (.int (0 : Int32))])
    refine own_go (fun _ k => XS.icmpNo X85.here hx rfl (hb hby at_131) rfl (teq (by decide : (0 : Int32) = (0 : Int32))).2 k) ?_
    show own_Run p e below _ T85 (mkF m 134 #[.val (.int p1), .val (.ref b42), .val (.int (1 : Int32)), .val (.ref o1), .val (.int (0 : Int32)), .val (.ref s1), .val (.int (0 : Int32)), .val (.int (0 : Int32))] [])
    refine own_go (fun _ k => XS.iconst X85.here hx rfl (hb hby at_134) k) ?_
    refine own_go (fun _ k => XS.goto X85.here hx rfl (pc0 := 135) (pc' := 139) rfl (hb hby at_135) (by decide) (by decide) k) ?_
    show own_Run p e below _ T85 (mkF m 139 #[.val (.int p1), .val (.ref b42), .val (.int (1 : Int32)), .val (.ref o1), .val (.int (0 : Int32)), .val (.ref s1), .val (.int (0 : Int32)), .val (.int (0 : Int32))] [(.int (1 : Int32))])
    refine own_done (Q := fun v h L => Q0 Z p1 cs fm o0 s0 v0 kv0 d0 o1 s1 v1 kv1 d1 o2 s2 v2 kv2 d2 o3 s3 v3 kv3 d3 o4 s4 v4 kv4 d4 o5 s5 v5 kv5 d5 o6 s6 v6 kv6 d6 o7 s7 v7 kv7 d7 h0 n0 v h L) (v := (some (.int (1 : Int32)))) X85 (fun h => by rw [hret] at h; cases h) hlk (fun fs hr => retN X85 hx (t := .boolean) hret (by simp) (hb hby at_139) hr) ?_ (by decide) (by decide)
    show Q0 Z p1 cs fm o0 s0 v0 kv0 d0 o1 s1 v1 kv1 d1 o2 s2 v2 kv2 d2 o3 s3 v3 kv3 d3 o4 s4 v4 kv4 d4 o5 s5 v5 kv5 d5 o6 s6 v6 kv6 d6 o7 s7 v7 kv7 d7 h0 n0 _ T85.heap _
    rw [e85]
    exact ⟨rfl, N85⟩
  · show own_Run p e below _ T74 (mkF m 64 #[.val (.int p1), .val (.ref b42), .val (.int (2 : Int32)), .unset, .unset, .unset, .unset, .unset] [])
    refine own_go (fun _ k => XS.aloadN X74.here hx rfl (hb hby at_64) rfl rfl k) ?_
    refine own_go (fun _ k => XS.iloadN X74.here hx rfl (hb hby at_65) rfl k) ?_
    show own_Run p e below _ T74 (mkF m 66 #[.val (.int p1), .val (.ref b42), .val (.int (2 : Int32)), .unset, .unset, .unset, .unset, .unset] [(.int (2 : Int32)), (.ref b42)])
    obtain ⟨cl86, Ar86, q86, S86, N86, H86, G86⟩ := id V_b42_c74
    have hin86 : ¬ ((2 : Int32) < 0 ∨ cl86.slots.size ≤ ((2 : Int32)).toNatClampNeg) := inb_of S86 ⟨by decide, by decide⟩
    refine own_go (X74.aaload hx (j := (2 : Int32)) (v := (.ref o2)) (by rw [e74]; exact Ar86.1) (State.isArrayOf_alike hZ.alike Ar86.2.1) rfl Ar86.2.2 hin86 (H86.at hin86 rfl) (g := (mkF m 66 #[.val (.int p1), .val (.ref b42), .val (.int (2 : Int32)), .unset, .unset, .unset, .unset, .unset] [(.int (2 : Int32)), (.ref b42)])) rfl rfl (hb hby at_66)) ?_
    show own_Run p e below _ T74 (mkF m 67 #[.val (.int p1), .val (.ref b42), .val (.int (2 : Int32)), .unset, .unset, .unset, .unset, .unset] [(.ref o2)])
    refine own_go (fun _ k => XS.astoreN X74.here hx rfl (hb hby at_67) rfl rfl (l' := #[.val (.int p1), .val (.ref b42), .val (.int (2 : Int32)), .val (.ref o2), .unset, .unset, .unset, .unset]) rfl k) ?_
    refine own_go (fun _ k => XS.aloadN X74.here hx rfl (hb hby at_68) rfl rfl k) ?_
    show own_Run p e below _ T74 (mkF m 69 #[.val (.int p1), .val (.ref b42), .val (.int (2 : Int32)), .val (.ref o2), .unset, .unset, .unset, .unset] [(.ref o2)])
    obtain ⟨cq87, kq87, q87a, q87b, q87c⟩ := isOf hZ e74 E_o2_c75
    obtain ⟨_, _, ⟨T87, L87, k87, n87⟩, -, X87, ⟨Lc87, hQ87, l87, y87, z87⟩, st87⟩ := X74.virtualBack hx (y := (⟨"com/example/error_to_hazard/errortohazard/model/CtlFormula$Temporal", "isUntil", "()Z"⟩ : MethodName)) (z := (⟨"com/example/error_to_hazard/errortohazard/model/CtlFormula$Temporal", "isUntil", "()Z"⟩ : MethodName)) hown (mvT hZ (W 21 rfl)) (mvT hZ (W 22 rfl)) (notFace_of_selects (args := #[]) (mvT hZ (W 24 rfl))) (mvT hZ (W 24 rfl)) (mvT hZ (W 23 rfl)) (by decide) (backOf (W := 0) (rm1a1 l Z a0 hw [] o2 o6 o7 h74 n0 Z0_c75 S_AU_c75 S_EU_c75 ne_o2_o6 ne_o2_o7) hZ (W 25 rfl) (W 3 rfl) (by decide) (by decide)) q87a q87c (g := (mkF m 69 #[.val (.int p1), .val (.ref b42), .val (.int (2 : Int32)), .val (.ref o2), .unset, .unset, .unset, .unset] [(.ref o2)])) rfl (by rw [hml]; rfl) (Steps.refl _) (argsL := []) (rest := []) (lenOf pd_4 rfl) rfl (by show 2 * 0 + _ ≤ _; exact Nat.le_of_eq rfl) (hb hby at_69) (fun _ _ => ⟨rfl, e74, (by decide : 1 + 0 ≤ _), (by decide : 8 + 0 ≤ _)⟩)
    dsimp only [Pt.U, Pt.locs, Pt.cells, Pt.slots] at X87 l87 y87 z87 st87 hQ87
    subst l87 y87 z87
    obtain ⟨rfl, N87q, e87⟩ := hQ87
    have N87 := Fr.app N74 N87q
    refine own_goT st87 ?_
    show own_Run p e below _ T87 (mkF m 72 #[.val (.int p1), .val (.ref b42), .val (.int (2 : Int32)), .val (.ref o2), .unset, .unset, .unset, .unset] [(.int (0 : Int32))])
    refine own_go (fun _ k => XS.istore X87.here hx rfl (hb hby at_72) rfl (l' := #[.val (.int p1), .val (.ref b42), .val (.int (2 : Int32)), .val (.ref o2), .val (.int (0 : Int32)), .unset, .unset, .unset]) rfl k) ?_
    refine own_go (fun _ k => XS.aloadN X87.here hx rfl (hb hby at_74) rfl rfl k) ?_
    show own_Run p e below _ T87 (mkF m 75 #[.val (.int p1), .val (.ref b42), .val (.int (2 : Int32)), .val (.ref o2), .val (.int (0 : Int32)), .unset, .unset, .unset] [(.ref o2)])
    obtain ⟨cq88, kq88, q88a, q88b, q88c⟩ := isOf hZ e87 E_o2_c75
    obtain ⟨_, _, ⟨T88, L88, k88, n88⟩, -, X88, ⟨Lc88, hQ88, l88, y88, z88⟩, st88⟩ := X87.virtualBack hx (y := (⟨"com/example/error_to_hazard/errortohazard/model/CtlFormula$Temporal", "symbol", "()Ljava/lang/String;"⟩ : MethodName)) (z := (⟨"com/example/error_to_hazard/errortohazard/model/CtlFormula$Temporal", "symbol", "()Ljava/lang/String;"⟩ : MethodName)) hown (mvT hZ (W 28 rfl)) (mvT hZ (W 29 rfl)) (notFace_of_selects (args := #[]) (mvT hZ (W 31 rfl))) (mvT hZ (W 31 rfl)) (mvT hZ (W 30 rfl)) (by decide) (backOf (W := 0) (rm2 l Z a0 hw [] o2 s2 h74 n0 Z0_c75 F_symbol_o2_c75) hZ (W 32 rfl) (W 3 rfl) (by decide) (by decide)) q88a q88c (g := (mkF m 75 #[.val (.int p1), .val (.ref b42), .val (.int (2 : Int32)), .val (.ref o2), .val (.int (0 : Int32)), .unset, .unset, .unset] [(.ref o2)])) rfl (by rw [hml]; rfl) (Steps.refl _) (argsL := []) (rest := []) (lenOf pd_6 rfl) rfl (by show 2 * 0 + _ ≤ _; exact Nat.le_of_eq rfl) (hb hby at_75) (fun _ _ => ⟨rfl, e87, (by decide : 1 + 0 ≤ _), (by decide : 8 + 0 ≤ _)⟩)
    dsimp only [Pt.U, Pt.locs, Pt.cells, Pt.slots] at X88 l88 y88 z88 st88 hQ88
    subst l88 y88 z88
    obtain ⟨rfl, N88q, e88⟩ := hQ88
    have N88 := Fr.app N87 N88q
    refine own_goT st88 ?_
    show own_Run p e below _ T88 (mkF m 78 #[.val (.int p1), .val (.ref b42), .val (.int (2 : Int32)), .val (.ref o2), .val (.int (0 : Int32)), .unset, .unset, .unset] [(.ref s2)])
    refine own_go (fun _ k => XS.astore X88.here hx rfl (hb hby at_78) rfl rfl (l' := #[.val (.int p1), .val (.ref b42), .val (.int (2 : Int32)), .val (.ref o2), .val (.int (0 : Int32)), .val (.ref s2), .unset, .unset]) rfl k) ?_
    refine own_go (fun _ k => XS.aload X88.here hx rfl (hb hby at_80) rfl rfl k) ?_
    show own_Run p e below _ T88 (mkF m 82 #[.val (.int p1), .val (.ref b42), .val (.int (2 : Int32)), .val (.ref o2), .val (.int (0 : Int32)), .val (.ref s2), .unset, .unset] [(.ref s2)])
    obtain ⟨cq89, kq89, q89a, q89b, q89c⟩ := isOf hZ e88 E_s2_c75
    obtain ⟨_, _, ⟨T89, L89, k89, n89⟩, -, X89, ⟨Lc89, hQ89, l89, y89, z89⟩, st89⟩ := X88.virtualBack hx (y := (⟨"java/lang/String", "length", "()I"⟩ : MethodName)) (z := (⟨"java/lang/String", "length", "()I"⟩ : MethodName)) hown (mvT hZ (W 35 rfl)) (mvT hZ (W 36 rfl)) (notFace_of_selects (args := #[]) (mvT hZ (W 38 rfl))) (mvT hZ (W 38 rfl)) (mvT hZ (W 37 rfl)) (by decide) (backOf (W := 0) (rm3 l Z a0 hw [] s2 cs v2 kv2 d2 (70 : Int32) h74 n0 Z0_c75 S_COMPACT_STRINGS_c75 (hcs) E_s2_c75 F_coder_s2_c75 F_value_s2_c75 V_v2_c75) hZ (W 40 rfl) (W 39 rfl) (by decide) (by decide)) q89a q89c (g := (mkF m 82 #[.val (.int p1), .val (.ref b42), .val (.int (2 : Int32)), .val (.ref o2), .val (.int (0 : Int32)), .val (.ref s2), .unset, .unset] [(.ref s2)])) rfl (by rw [hml]; rfl) (Steps.refl _) (argsL := []) (rest := []) (lenOf pd_7 rfl) rfl (by show 2 * 0 + _ ≤ _; exact Nat.le_of_eq rfl) (hb hby at_82) (fun _ _ => ⟨rfl, e88, (by decide : 1 + 0 ≤ _), (by decide : 8 + 0 ≤ _)⟩)
    dsimp only [Pt.U, Pt.locs, Pt.cells, Pt.slots] at X89 l89 y89 z89 st89 hQ89
    subst l89 y89 z89
    obtain ⟨rfl, N89q, e89⟩ := hQ89
    have N89 := Fr.app N88 N89q
    refine own_goT st89 ?_
    show own_Run p e below _ T89 (mkF m 85 #[.val (.int p1), .val (.ref b42), .val (.int (2 : Int32)), .val (.ref o2), .val (.int (0 : Int32)), .val (.ref s2), .unset, .unset] [(.int (2 : Int32))])
    refine own_go (fun _ k => XS.iconst X89.here hx rfl (hb hby at_85) k) ?_
    show own_Run p e below _ T89 (mkF m 86 #[.val (.int p1), .val (.ref b42), .val (.int (2 : Int32)), .val (.ref o2), .val (.int (0 : Int32)), .val (.ref s2), .unset, .unset] [(.int (2 : Int32)), (.int (2 : Int32))])
    refine own_go (fun _ k => XS.icmpNo X89.here hx rfl (hb hby at_86) rfl (teq (by decide : (2 : Int32) = (2 : Int32))).2 k) ?_
    show own_Run p e below _ T89 (mkF m 89 #[.val (.int p1), .val (.ref b42), .val (.int (2 : Int32)), .val (.ref o2), .val (.int (0 : Int32)), .val (.ref s2), .unset, .unset] [])
    refine own_go (fun _ k => XS.aload X89.here hx rfl (hb hby at_89) rfl rfl k) ?_
    refine own_go (fun _ k => XS.iconst X89.here hx rfl (hb hby at_91) k) ?_
    show own_Run p e below _ T89 (mkF m 92 #[.val (.int p1), .val (.ref b42), .val (.int (2 : Int32)), .val (.ref o2), .val (.int (0 : Int32)), .val (.ref s2), .unset, .unset] [(.int (1 : Int32)), (.ref s2)])
    obtain ⟨cq90, kq90, q90a, q90b, q90c⟩ := isOf hZ e89 E_s2_c75
    obtain ⟨_, _, ⟨T90, L90, k90, n90⟩, -, X90, ⟨Lc90, hQ90, l90, y90, z90⟩, st90⟩ := X89.virtualBack hx (y := (⟨"java/lang/String", "charAt", "(I)C"⟩ : MethodName)) (z := (⟨"java/lang/String", "charAt", "(I)C"⟩ : MethodName)) hown (mvT hZ (W 51 rfl)) (mvT hZ (W 52 rfl)) (notFace_of_selects (args := #[]) (mvT hZ (W 54 rfl))) (mvT hZ (W 54 rfl)) (mvT hZ (W 53 rfl)) (by decide) (backOf (W := 0) (rm5 l Z a0 hw [] s2 cs fm v2 kv2 d2 (70 : Int32) h74 n0 Z0_c75 S_COMPACT_STRINGS_c75 (hcs) E_s2_c75 F_coder_s2_c75 F_value_s2_c75 V_v2_c75 S_SIOOBE_FORMATTER_c75 (hfm) (Or.inr (Or.inl rfl))) hZ (W 55 rfl) (W 39 rfl) (by decide) (by decide)) q90a q90c (g := (mkF m 92 #[.val (.int p1), .val (.ref b42), .val (.int (2 : Int32)), .val (.ref o2), .val (.int (0 : Int32)), .val (.ref s2), .unset, .unset] [(.int (1 : Int32)), (.ref s2)])) rfl (by rw [hml]; rfl) (Steps.refl _) (argsL := [(.int (1 : Int32))]) (rest := []) (lenOf pd_8 rfl) rfl (by show 2 * 0 + _ ≤ _; exact Nat.le_of_eq rfl) (hb hby at_92) (fun _ _ => ⟨rfl, e89, (by decide : 1 + 0 ≤ _), (by decide : 8 + 0 ≤ _)⟩)
    dsimp only [Pt.U, Pt.locs, Pt.cells, Pt.slots] at X90 l90 y90 z90 st90 hQ90
    subst l90 y90 z90
    obtain ⟨rfl, N90q, e90⟩ := hQ90
    have N90 := Fr.app N89 N90q
    refine own_goT st90 ?_
    show own_Run p e below _ T90 (mkF m 95 #[.val (.int p1), .val (.ref b42), .val (.int (2 : Int32)), .val (.ref o2), .val (.int (0 : Int32)), .val (.ref s2), .unset, .unset] [(.int (70 : Int32))])
    refine own_go (fun _ k => XS.bipush X90.here hx rfl (hb hby at_95) k) ?_
    show own_Run p e below _ T90 (mkF m 97 #[.val (.int p1), .val (.ref b42), .val (.int (2 : Int32)), .val (.ref o2), .val (.int (0 : Int32)), .val (.ref s2), .unset, .unset] [(.int (91 : Int32)), (.int (70 : Int32))])
    refine own_go (fun _ k => XS.icmpYes X90.here hx rfl (pc0 := 97) (pc' := 104) rfl (hb hby at_97) rfl (feq (by decide : ¬ ((70 : Int32) = (91 : Int32)))).2 (by decide) (by decide) k) ?_
    show own_Run p e below _ T90 (mkF m 104 #[.val (.int p1), .val (.ref b42), .val (.int (2 : Int32)), .val (.ref o2), .val (.int (0 : Int32)), .val (.ref s2), .unset, .unset] [])
    refine own_go (fun _ k => XS.iconst X90.here hx rfl (hb hby at_104) k) ?_
    refine own_go (fun _ k => XS.istore X90.here hx rfl (hb hby at_105) rfl (l' := #[.val (.int p1), .val (.ref b42), .val (.int (2 : Int32)), .val (.ref o2), .val (.int (0 : Int32)), .val (.ref s2), .val (.int (0 : Int32)), .unset]) rfl k) ?_
    refine own_go (fun _ k => XS.iloadN X90.here hx rfl (hb hby at_107) rfl k) ?_
    refine own_go (fun _ k => XS.bipush X90.here hx rfl (hb hby at_108) k) ?_
    show own_Run p e below _ T90 (mkF m 110 #[.val (.int p1), .val (.ref b42), .val (.int (2 : Int32)), .val (.ref o2), .val (.int (0 : Int32)), .val (.ref s2), .val (.int (0 : Int32)), .unset] [(.int (6 : Int32)), (.int (2 : Int32))])
    refine own_go (fun _ k => XS.icmpYes X90.here hx rfl (pc0 := 110) (pc' := 117) rfl (hb hby at_110) rfl (tlt (by decide : (2 : Int32) < (6 : Int32))).1 (by decide) (by decide) k) ?_
    show own_Run p e below _ T90 (mkF m 117 #[.val (.int p1), .val (.ref b42), .val (.int (2 : Int32)), .val (.ref o2), .val (.int (0 : Int32)), .val (.ref s2), .val (.int (0 : Int32)), .unset] [])
    refine own_go (fun _ k => XS.iconst X90.here hx rfl (hb hby at_117) k) ?_
    refine own_go (fun _ k => XS.istore X90.here hx rfl (hb hby at_118) rfl (l' := #[.val (.int p1), .val (.ref b42), .val (.int (2 : Int32)), .val (.ref o2), .val (.int (0 : Int32)), .val (.ref s2), .val (.int (0 : Int32)), .val (.int (0 : Int32))]) rfl k) ?_
    refine own_go (fun _ k => XS.iload X90.here hx rfl (hb hby at_120) rfl k) ?_
    refine own_go (fun _ k => XS.iload X90.here hx rfl (hb hby at_122) rfl k) ?_
    show own_Run p e below _ T90 (mkF m 124 #[.val (.int p1), .val (.ref b42), .val (.int (2 : Int32)), .val (.ref o2), .val (.int (0 : Int32)), .val (.ref s2), .val (.int (0 : Int32)), .val (.int (0 : Int32))] [(.int (0 : Int32)), (.int (0 : Int32))])
    refine own_go (fun _ k => XS.icmpNo X90.here hx rfl (hb hby at_124) rfl (teq (by decide : (0 : Int32) = (0 : Int32))).2 k) ?_
    show own_Run p e below _ T90 (mkF m 127 #[.val (.int p1), .val (.ref b42), .val (.int (2 : Int32)), .val (.ref o2), .val (.int (0 : Int32)), .val (.ref s2), .val (.int (0 : Int32)), .val (.int (0 : Int32))] [])
    refine own_go (fun _ k => XS.iload X90.here hx rfl (hb hby at_127) rfl k) ?_
    refine own_go (fun _ k => XS.iload X90.here hx rfl (hb hby at_129) rfl k) ?_
    show own_Run p e below _ T90 (mkF m 131 #[.val (.int p1), .val (.ref b42), .val (.int (2 : Int32)), .val (.ref o2), .val (.int (0 : Int32)), .val (.ref s2), .val (.int (0 : Int32)), .val (.int (0 : Int32))] [(.int (0 : Int32)), (.int (0 : Int32))])
    refine own_go (fun _ k => XS.icmpNo X90.here hx rfl (hb hby at_131) rfl (teq (by decide : (0 : Int32) = (0 : Int32))).2 k) ?_
    show own_Run p e below _ T90 (mkF m 134 #[.val (.int p1), .val (.ref b42), .val (.int (2 : Int32)), .val (.ref o2), .val (.int (0 : Int32)), .val (.ref s2), .val (.int (0 : Int32)), .val (.int (0 : Int32))] [])
    refine own_go (fun _ k => XS.iconst X90.here hx rfl (hb hby at_134) k) ?_
    refine own_go (fun _ k => XS.goto X90.here hx rfl (pc0 := 135) (pc' := 139) rfl (hb hby at_135) (by decide) (by decide) k) ?_
    show own_Run p e below _ T90 (mkF m 139 #[.val (.int p1), .val (.ref b42), .val (.int (2 : Int32)), .val (.ref o2), .val (.int (0 : Int32)), .val (.ref s2), .val (.int (0 : Int32)), .val (.int (0 : Int32))] [(.int (1 : Int32))])
    refine own_done (Q := fun v h L => Q0 Z p1 cs fm o0 s0 v0 kv0 d0 o1 s1 v1 kv1 d1 o2 s2 v2 kv2 d2 o3 s3 v3 kv3 d3 o4 s4 v4 kv4 d4 o5 s5 v5 kv5 d5 o6 s6 v6 kv6 d6 o7 s7 v7 kv7 d7 h0 n0 v h L) (v := (some (.int (1 : Int32)))) X90 (fun h => by rw [hret] at h; cases h) hlk (fun fs hr => retN X90 hx (t := .boolean) hret (by simp) (hb hby at_139) hr) ?_ (by decide) (by decide)
    show Q0 Z p1 cs fm o0 s0 v0 kv0 d0 o1 s1 v1 kv1 d1 o2 s2 v2 kv2 d2 o3 s3 v3 kv3 d3 o4 s4 v4 kv4 d4 o5 s5 v5 kv5 d5 o6 s6 v6 kv6 d6 o7 s7 v7 kv7 d7 h0 n0 _ T90.heap _
    rw [e90]
    exact ⟨rfl, N90⟩
  · show own_Run p e below _ T74 (mkF m 64 #[.val (.int p1), .val (.ref b42), .val (.int (3 : Int32)), .unset, .unset, .unset, .unset, .unset] [])
    refine own_go (fun _ k => XS.aloadN X74.here hx rfl (hb hby at_64) rfl rfl k) ?_
    refine own_go (fun _ k => XS.iloadN X74.here hx rfl (hb hby at_65) rfl k) ?_
    show own_Run p e below _ T74 (mkF m 66 #[.val (.int p1), .val (.ref b42), .val (.int (3 : Int32)), .unset, .unset, .unset, .unset, .unset] [(.int (3 : Int32)), (.ref b42)])
    obtain ⟨cl91, Ar91, q91, S91, N91, H91, G91⟩ := id V_b42_c74
    have hin91 : ¬ ((3 : Int32) < 0 ∨ cl91.slots.size ≤ ((3 : Int32)).toNatClampNeg) := inb_of S91 ⟨by decide, by decide⟩
    refine own_go (X74.aaload hx (j := (3 : Int32)) (v := (.ref o3)) (by rw [e74]; exact Ar91.1) (State.isArrayOf_alike hZ.alike Ar91.2.1) rfl Ar91.2.2 hin91 (H91.at hin91 rfl) (g := (mkF m 66 #[.val (.int p1), .val (.ref b42), .val (.int (3 : Int32)), .unset, .unset, .unset, .unset, .unset] [(.int (3 : Int32)), (.ref b42)])) rfl rfl (hb hby at_66)) ?_
    show own_Run p e below _ T74 (mkF m 67 #[.val (.int p1), .val (.ref b42), .val (.int (3 : Int32)), .unset, .unset, .unset, .unset, .unset] [(.ref o3)])
    refine own_go (fun _ k => XS.astoreN X74.here hx rfl (hb hby at_67) rfl rfl (l' := #[.val (.int p1), .val (.ref b42), .val (.int (3 : Int32)), .val (.ref o3), .unset, .unset, .unset, .unset]) rfl k) ?_
    refine own_go (fun _ k => XS.aloadN X74.here hx rfl (hb hby at_68) rfl rfl k) ?_
    show own_Run p e below _ T74 (mkF m 69 #[.val (.int p1), .val (.ref b42), .val (.int (3 : Int32)), .val (.ref o3), .unset, .unset, .unset, .unset] [(.ref o3)])
    obtain ⟨cq92, kq92, q92a, q92b, q92c⟩ := isOf hZ e74 E_o3_c75
    obtain ⟨_, _, ⟨T92, L92, k92, n92⟩, -, X92, ⟨Lc92, hQ92, l92, y92, z92⟩, st92⟩ := X74.virtualBack hx (y := (⟨"com/example/error_to_hazard/errortohazard/model/CtlFormula$Temporal", "isUntil", "()Z"⟩ : MethodName)) (z := (⟨"com/example/error_to_hazard/errortohazard/model/CtlFormula$Temporal", "isUntil", "()Z"⟩ : MethodName)) hown (mvT hZ (W 21 rfl)) (mvT hZ (W 22 rfl)) (notFace_of_selects (args := #[]) (mvT hZ (W 24 rfl))) (mvT hZ (W 24 rfl)) (mvT hZ (W 23 rfl)) (by decide) (backOf (W := 0) (rm1a1 l Z a0 hw [] o3 o6 o7 h74 n0 Z0_c75 S_AU_c75 S_EU_c75 ne_o3_o6 ne_o3_o7) hZ (W 25 rfl) (W 3 rfl) (by decide) (by decide)) q92a q92c (g := (mkF m 69 #[.val (.int p1), .val (.ref b42), .val (.int (3 : Int32)), .val (.ref o3), .unset, .unset, .unset, .unset] [(.ref o3)])) rfl (by rw [hml]; rfl) (Steps.refl _) (argsL := []) (rest := []) (lenOf pd_4 rfl) rfl (by show 2 * 0 + _ ≤ _; exact Nat.le_of_eq rfl) (hb hby at_69) (fun _ _ => ⟨rfl, e74, (by decide : 1 + 0 ≤ _), (by decide : 8 + 0 ≤ _)⟩)
    dsimp only [Pt.U, Pt.locs, Pt.cells, Pt.slots] at X92 l92 y92 z92 st92 hQ92
    subst l92 y92 z92
    obtain ⟨rfl, N92q, e92⟩ := hQ92
    have N92 := Fr.app N74 N92q
    refine own_goT st92 ?_
    show own_Run p e below _ T92 (mkF m 72 #[.val (.int p1), .val (.ref b42), .val (.int (3 : Int32)), .val (.ref o3), .unset, .unset, .unset, .unset] [(.int (0 : Int32))])
    refine own_go (fun _ k => XS.istore X92.here hx rfl (hb hby at_72) rfl (l' := #[.val (.int p1), .val (.ref b42), .val (.int (3 : Int32)), .val (.ref o3), .val (.int (0 : Int32)), .unset, .unset, .unset]) rfl k) ?_
    refine own_go (fun _ k => XS.aloadN X92.here hx rfl (hb hby at_74) rfl rfl k) ?_
    show own_Run p e below _ T92 (mkF m 75 #[.val (.int p1), .val (.ref b42), .val (.int (3 : Int32)), .val (.ref o3), .val (.int (0 : Int32)), .unset, .unset, .unset] [(.ref o3)])
    obtain ⟨cq93, kq93, q93a, q93b, q93c⟩ := isOf hZ e92 E_o3_c75
    obtain ⟨_, _, ⟨T93, L93, k93, n93⟩, -, X93, ⟨Lc93, hQ93, l93, y93, z93⟩, st93⟩ := X92.virtualBack hx (y := (⟨"com/example/error_to_hazard/errortohazard/model/CtlFormula$Temporal", "symbol", "()Ljava/lang/String;"⟩ : MethodName)) (z := (⟨"com/example/error_to_hazard/errortohazard/model/CtlFormula$Temporal", "symbol", "()Ljava/lang/String;"⟩ : MethodName)) hown (mvT hZ (W 28 rfl)) (mvT hZ (W 29 rfl)) (notFace_of_selects (args := #[]) (mvT hZ (W 31 rfl))) (mvT hZ (W 31 rfl)) (mvT hZ (W 30 rfl)) (by decide) (backOf (W := 0) (rm2 l Z a0 hw [] o3 s3 h74 n0 Z0_c75 F_symbol_o3_c75) hZ (W 32 rfl) (W 3 rfl) (by decide) (by decide)) q93a q93c (g := (mkF m 75 #[.val (.int p1), .val (.ref b42), .val (.int (3 : Int32)), .val (.ref o3), .val (.int (0 : Int32)), .unset, .unset, .unset] [(.ref o3)])) rfl (by rw [hml]; rfl) (Steps.refl _) (argsL := []) (rest := []) (lenOf pd_6 rfl) rfl (by show 2 * 0 + _ ≤ _; exact Nat.le_of_eq rfl) (hb hby at_75) (fun _ _ => ⟨rfl, e92, (by decide : 1 + 0 ≤ _), (by decide : 8 + 0 ≤ _)⟩)
    dsimp only [Pt.U, Pt.locs, Pt.cells, Pt.slots] at X93 l93 y93 z93 st93 hQ93
    subst l93 y93 z93
    obtain ⟨rfl, N93q, e93⟩ := hQ93
    have N93 := Fr.app N92 N93q
    refine own_goT st93 ?_
    show own_Run p e below _ T93 (mkF m 78 #[.val (.int p1), .val (.ref b42), .val (.int (3 : Int32)), .val (.ref o3), .val (.int (0 : Int32)), .unset, .unset, .unset] [(.ref s3)])
    refine own_go (fun _ k => XS.astore X93.here hx rfl (hb hby at_78) rfl rfl (l' := #[.val (.int p1), .val (.ref b42), .val (.int (3 : Int32)), .val (.ref o3), .val (.int (0 : Int32)), .val (.ref s3), .unset, .unset]) rfl k) ?_
    refine own_go (fun _ k => XS.aload X93.here hx rfl (hb hby at_80) rfl rfl k) ?_
    show own_Run p e below _ T93 (mkF m 82 #[.val (.int p1), .val (.ref b42), .val (.int (3 : Int32)), .val (.ref o3), .val (.int (0 : Int32)), .val (.ref s3), .unset, .unset] [(.ref s3)])
    obtain ⟨cq94, kq94, q94a, q94b, q94c⟩ := isOf hZ e93 E_s3_c75
    obtain ⟨_, _, ⟨T94, L94, k94, n94⟩, -, X94, ⟨Lc94, hQ94, l94, y94, z94⟩, st94⟩ := X93.virtualBack hx (y := (⟨"java/lang/String", "length", "()I"⟩ : MethodName)) (z := (⟨"java/lang/String", "length", "()I"⟩ : MethodName)) hown (mvT hZ (W 35 rfl)) (mvT hZ (W 36 rfl)) (notFace_of_selects (args := #[]) (mvT hZ (W 38 rfl))) (mvT hZ (W 38 rfl)) (mvT hZ (W 37 rfl)) (by decide) (backOf (W := 0) (rm3 l Z a0 hw [] s3 cs v3 kv3 d3 (70 : Int32) h74 n0 Z0_c75 S_COMPACT_STRINGS_c75 (hcs) E_s3_c75 F_coder_s3_c75 F_value_s3_c75 V_v3_c75) hZ (W 40 rfl) (W 39 rfl) (by decide) (by decide)) q94a q94c (g := (mkF m 82 #[.val (.int p1), .val (.ref b42), .val (.int (3 : Int32)), .val (.ref o3), .val (.int (0 : Int32)), .val (.ref s3), .unset, .unset] [(.ref s3)])) rfl (by rw [hml]; rfl) (Steps.refl _) (argsL := []) (rest := []) (lenOf pd_7 rfl) rfl (by show 2 * 0 + _ ≤ _; exact Nat.le_of_eq rfl) (hb hby at_82) (fun _ _ => ⟨rfl, e93, (by decide : 1 + 0 ≤ _), (by decide : 8 + 0 ≤ _)⟩)
    dsimp only [Pt.U, Pt.locs, Pt.cells, Pt.slots] at X94 l94 y94 z94 st94 hQ94
    subst l94 y94 z94
    obtain ⟨rfl, N94q, e94⟩ := hQ94
    have N94 := Fr.app N93 N94q
    refine own_goT st94 ?_
    show own_Run p e below _ T94 (mkF m 85 #[.val (.int p1), .val (.ref b42), .val (.int (3 : Int32)), .val (.ref o3), .val (.int (0 : Int32)), .val (.ref s3), .unset, .unset] [(.int (2 : Int32))])
    refine own_go (fun _ k => XS.iconst X94.here hx rfl (hb hby at_85) k) ?_
    show own_Run p e below _ T94 (mkF m 86 #[.val (.int p1), .val (.ref b42), .val (.int (3 : Int32)), .val (.ref o3), .val (.int (0 : Int32)), .val (.ref s3), .unset, .unset] [(.int (2 : Int32)), (.int (2 : Int32))])
    refine own_go (fun _ k => XS.icmpNo X94.here hx rfl (hb hby at_86) rfl (teq (by decide : (2 : Int32) = (2 : Int32))).2 k) ?_
    show own_Run p e below _ T94 (mkF m 89 #[.val (.int p1), .val (.ref b42), .val (.int (3 : Int32)), .val (.ref o3), .val (.int (0 : Int32)), .val (.ref s3), .unset, .unset] [])
    refine own_go (fun _ k => XS.aload X94.here hx rfl (hb hby at_89) rfl rfl k) ?_
    refine own_go (fun _ k => XS.iconst X94.here hx rfl (hb hby at_91) k) ?_
    show own_Run p e below _ T94 (mkF m 92 #[.val (.int p1), .val (.ref b42), .val (.int (3 : Int32)), .val (.ref o3), .val (.int (0 : Int32)), .val (.ref s3), .unset, .unset] [(.int (1 : Int32)), (.ref s3)])
    obtain ⟨cq95, kq95, q95a, q95b, q95c⟩ := isOf hZ e94 E_s3_c75
    obtain ⟨_, _, ⟨T95, L95, k95, n95⟩, -, X95, ⟨Lc95, hQ95, l95, y95, z95⟩, st95⟩ := X94.virtualBack hx (y := (⟨"java/lang/String", "charAt", "(I)C"⟩ : MethodName)) (z := (⟨"java/lang/String", "charAt", "(I)C"⟩ : MethodName)) hown (mvT hZ (W 51 rfl)) (mvT hZ (W 52 rfl)) (notFace_of_selects (args := #[]) (mvT hZ (W 54 rfl))) (mvT hZ (W 54 rfl)) (mvT hZ (W 53 rfl)) (by decide) (backOf (W := 0) (rm5 l Z a0 hw [] s3 cs fm v3 kv3 d3 (70 : Int32) h74 n0 Z0_c75 S_COMPACT_STRINGS_c75 (hcs) E_s3_c75 F_coder_s3_c75 F_value_s3_c75 V_v3_c75 S_SIOOBE_FORMATTER_c75 (hfm) (Or.inr (Or.inl rfl))) hZ (W 55 rfl) (W 39 rfl) (by decide) (by decide)) q95a q95c (g := (mkF m 92 #[.val (.int p1), .val (.ref b42), .val (.int (3 : Int32)), .val (.ref o3), .val (.int (0 : Int32)), .val (.ref s3), .unset, .unset] [(.int (1 : Int32)), (.ref s3)])) rfl (by rw [hml]; rfl) (Steps.refl _) (argsL := [(.int (1 : Int32))]) (rest := []) (lenOf pd_8 rfl) rfl (by show 2 * 0 + _ ≤ _; exact Nat.le_of_eq rfl) (hb hby at_92) (fun _ _ => ⟨rfl, e94, (by decide : 1 + 0 ≤ _), (by decide : 8 + 0 ≤ _)⟩)
    dsimp only [Pt.U, Pt.locs, Pt.cells, Pt.slots] at X95 l95 y95 z95 st95 hQ95
    subst l95 y95 z95
    obtain ⟨rfl, N95q, e95⟩ := hQ95
    have N95 := Fr.app N94 N95q
    refine own_goT st95 ?_
    show own_Run p e below _ T95 (mkF m 95 #[.val (.int p1), .val (.ref b42), .val (.int (3 : Int32)), .val (.ref o3), .val (.int (0 : Int32)), .val (.ref s3), .unset, .unset] [(.int (70 : Int32))])
    refine own_go (fun _ k => XS.bipush X95.here hx rfl (hb hby at_95) k) ?_
    show own_Run p e below _ T95 (mkF m 97 #[.val (.int p1), .val (.ref b42), .val (.int (3 : Int32)), .val (.ref o3), .val (.int (0 : Int32)), .val (.ref s3), .unset, .unset] [(.int (91 : Int32)), (.int (70 : Int32))])
    refine own_go (fun _ k => XS.icmpYes X95.here hx rfl (pc0 := 97) (pc' := 104) rfl (hb hby at_97) rfl (feq (by decide : ¬ ((70 : Int32) = (91 : Int32)))).2 (by decide) (by decide) k) ?_
    show own_Run p e below _ T95 (mkF m 104 #[.val (.int p1), .val (.ref b42), .val (.int (3 : Int32)), .val (.ref o3), .val (.int (0 : Int32)), .val (.ref s3), .unset, .unset] [])
    refine own_go (fun _ k => XS.iconst X95.here hx rfl (hb hby at_104) k) ?_
    refine own_go (fun _ k => XS.istore X95.here hx rfl (hb hby at_105) rfl (l' := #[.val (.int p1), .val (.ref b42), .val (.int (3 : Int32)), .val (.ref o3), .val (.int (0 : Int32)), .val (.ref s3), .val (.int (0 : Int32)), .unset]) rfl k) ?_
    refine own_go (fun _ k => XS.iloadN X95.here hx rfl (hb hby at_107) rfl k) ?_
    refine own_go (fun _ k => XS.bipush X95.here hx rfl (hb hby at_108) k) ?_
    show own_Run p e below _ T95 (mkF m 110 #[.val (.int p1), .val (.ref b42), .val (.int (3 : Int32)), .val (.ref o3), .val (.int (0 : Int32)), .val (.ref s3), .val (.int (0 : Int32)), .unset] [(.int (6 : Int32)), (.int (3 : Int32))])
    refine own_go (fun _ k => XS.icmpYes X95.here hx rfl (pc0 := 110) (pc' := 117) rfl (hb hby at_110) rfl (tlt (by decide : (3 : Int32) < (6 : Int32))).1 (by decide) (by decide) k) ?_
    show own_Run p e below _ T95 (mkF m 117 #[.val (.int p1), .val (.ref b42), .val (.int (3 : Int32)), .val (.ref o3), .val (.int (0 : Int32)), .val (.ref s3), .val (.int (0 : Int32)), .unset] [])
    refine own_go (fun _ k => XS.iconst X95.here hx rfl (hb hby at_117) k) ?_
    refine own_go (fun _ k => XS.istore X95.here hx rfl (hb hby at_118) rfl (l' := #[.val (.int p1), .val (.ref b42), .val (.int (3 : Int32)), .val (.ref o3), .val (.int (0 : Int32)), .val (.ref s3), .val (.int (0 : Int32)), .val (.int (0 : Int32))]) rfl k) ?_
    refine own_go (fun _ k => XS.iload X95.here hx rfl (hb hby at_120) rfl k) ?_
    refine own_go (fun _ k => XS.iload X95.here hx rfl (hb hby at_122) rfl k) ?_
    show own_Run p e below _ T95 (mkF m 124 #[.val (.int p1), .val (.ref b42), .val (.int (3 : Int32)), .val (.ref o3), .val (.int (0 : Int32)), .val (.ref s3), .val (.int (0 : Int32)), .val (.int (0 : Int32))] [(.int (0 : Int32)), (.int (0 : Int32))])
    refine own_go (fun _ k => XS.icmpNo X95.here hx rfl (hb hby at_124) rfl (teq (by decide : (0 : Int32) = (0 : Int32))).2 k) ?_
    show own_Run p e below _ T95 (mkF m 127 #[.val (.int p1), .val (.ref b42), .val (.int (3 : Int32)), .val (.ref o3), .val (.int (0 : Int32)), .val (.ref s3), .val (.int (0 : Int32)), .val (.int (0 : Int32))] [])
    refine own_go (fun _ k => XS.iload X95.here hx rfl (hb hby at_127) rfl k) ?_
    refine own_go (fun _ k => XS.iload X95.here hx rfl (hb hby at_129) rfl k) ?_
    show own_Run p e below _ T95 (mkF m 131 #[.val (.int p1), .val (.ref b42), .val (.int (3 : Int32)), .val (.ref o3), .val (.int (0 : Int32)), .val (.ref s3), .val (.int (0 : Int32)), .val (.int (0 : Int32))] [(.int (0 : Int32)), (.int (0 : Int32))])
    refine own_go (fun _ k => XS.icmpNo X95.here hx rfl (hb hby at_131) rfl (teq (by decide : (0 : Int32) = (0 : Int32))).2 k) ?_
    show own_Run p e below _ T95 (mkF m 134 #[.val (.int p1), .val (.ref b42), .val (.int (3 : Int32)), .val (.ref o3), .val (.int (0 : Int32)), .val (.ref s3), .val (.int (0 : Int32)), .val (.int (0 : Int32))] [])
    refine own_go (fun _ k => XS.iconst X95.here hx rfl (hb hby at_134) k) ?_
    refine own_go (fun _ k => XS.goto X95.here hx rfl (pc0 := 135) (pc' := 139) rfl (hb hby at_135) (by decide) (by decide) k) ?_
    show own_Run p e below _ T95 (mkF m 139 #[.val (.int p1), .val (.ref b42), .val (.int (3 : Int32)), .val (.ref o3), .val (.int (0 : Int32)), .val (.ref s3), .val (.int (0 : Int32)), .val (.int (0 : Int32))] [(.int (1 : Int32))])
    refine own_done (Q := fun v h L => Q0 Z p1 cs fm o0 s0 v0 kv0 d0 o1 s1 v1 kv1 d1 o2 s2 v2 kv2 d2 o3 s3 v3 kv3 d3 o4 s4 v4 kv4 d4 o5 s5 v5 kv5 d5 o6 s6 v6 kv6 d6 o7 s7 v7 kv7 d7 h0 n0 v h L) (v := (some (.int (1 : Int32)))) X95 (fun h => by rw [hret] at h; cases h) hlk (fun fs hr => retN X95 hx (t := .boolean) hret (by simp) (hb hby at_139) hr) ?_ (by decide) (by decide)
    show Q0 Z p1 cs fm o0 s0 v0 kv0 d0 o1 s1 v1 kv1 d1 o2 s2 v2 kv2 d2 o3 s3 v3 kv3 d3 o4 s4 v4 kv4 d4 o5 s5 v5 kv5 d5 o6 s6 v6 kv6 d6 o7 s7 v7 kv7 d7 h0 n0 _ T95.heap _
    rw [e95]
    exact ⟨rfl, N95⟩
  · show own_Run p e below _ T74 (mkF m 64 #[.val (.int p1), .val (.ref b42), .val (.int (4 : Int32)), .unset, .unset, .unset, .unset, .unset] [])
    refine own_go (fun _ k => XS.aloadN X74.here hx rfl (hb hby at_64) rfl rfl k) ?_
    refine own_go (fun _ k => XS.iloadN X74.here hx rfl (hb hby at_65) rfl k) ?_
    show own_Run p e below _ T74 (mkF m 66 #[.val (.int p1), .val (.ref b42), .val (.int (4 : Int32)), .unset, .unset, .unset, .unset, .unset] [(.int (4 : Int32)), (.ref b42)])
    obtain ⟨cl96, Ar96, q96, S96, N96, H96, G96⟩ := id V_b42_c74
    have hin96 : ¬ ((4 : Int32) < 0 ∨ cl96.slots.size ≤ ((4 : Int32)).toNatClampNeg) := inb_of S96 ⟨by decide, by decide⟩
    refine own_go (X74.aaload hx (j := (4 : Int32)) (v := (.ref o4)) (by rw [e74]; exact Ar96.1) (State.isArrayOf_alike hZ.alike Ar96.2.1) rfl Ar96.2.2 hin96 (H96.at hin96 rfl) (g := (mkF m 66 #[.val (.int p1), .val (.ref b42), .val (.int (4 : Int32)), .unset, .unset, .unset, .unset, .unset] [(.int (4 : Int32)), (.ref b42)])) rfl rfl (hb hby at_66)) ?_
    show own_Run p e below _ T74 (mkF m 67 #[.val (.int p1), .val (.ref b42), .val (.int (4 : Int32)), .unset, .unset, .unset, .unset, .unset] [(.ref o4)])
    refine own_go (fun _ k => XS.astoreN X74.here hx rfl (hb hby at_67) rfl rfl (l' := #[.val (.int p1), .val (.ref b42), .val (.int (4 : Int32)), .val (.ref o4), .unset, .unset, .unset, .unset]) rfl k) ?_
    refine own_go (fun _ k => XS.aloadN X74.here hx rfl (hb hby at_68) rfl rfl k) ?_
    show own_Run p e below _ T74 (mkF m 69 #[.val (.int p1), .val (.ref b42), .val (.int (4 : Int32)), .val (.ref o4), .unset, .unset, .unset, .unset] [(.ref o4)])
    obtain ⟨cq97, kq97, q97a, q97b, q97c⟩ := isOf hZ e74 E_o4_c75
    obtain ⟨_, _, ⟨T97, L97, k97, n97⟩, -, X97, ⟨Lc97, hQ97, l97, y97, z97⟩, st97⟩ := X74.virtualBack hx (y := (⟨"com/example/error_to_hazard/errortohazard/model/CtlFormula$Temporal", "isUntil", "()Z"⟩ : MethodName)) (z := (⟨"com/example/error_to_hazard/errortohazard/model/CtlFormula$Temporal", "isUntil", "()Z"⟩ : MethodName)) hown (mvT hZ (W 21 rfl)) (mvT hZ (W 22 rfl)) (notFace_of_selects (args := #[]) (mvT hZ (W 24 rfl))) (mvT hZ (W 24 rfl)) (mvT hZ (W 23 rfl)) (by decide) (backOf (W := 0) (rm1a1 l Z a0 hw [] o4 o6 o7 h74 n0 Z0_c75 S_AU_c75 S_EU_c75 ne_o4_o6 ne_o4_o7) hZ (W 25 rfl) (W 3 rfl) (by decide) (by decide)) q97a q97c (g := (mkF m 69 #[.val (.int p1), .val (.ref b42), .val (.int (4 : Int32)), .val (.ref o4), .unset, .unset, .unset, .unset] [(.ref o4)])) rfl (by rw [hml]; rfl) (Steps.refl _) (argsL := []) (rest := []) (lenOf pd_4 rfl) rfl (by show 2 * 0 + _ ≤ _; exact Nat.le_of_eq rfl) (hb hby at_69) (fun _ _ => ⟨rfl, e74, (by decide : 1 + 0 ≤ _), (by decide : 8 + 0 ≤ _)⟩)
    dsimp only [Pt.U, Pt.locs, Pt.cells, Pt.slots] at X97 l97 y97 z97 st97 hQ97
    subst l97 y97 z97
    obtain ⟨rfl, N97q, e97⟩ := hQ97
    have N97 := Fr.app N74 N97q
    refine own_goT st97 ?_
    show own_Run p e below _ T97 (mkF m 72 #[.val (.int p1), .val (.ref b42), .val (.int (4 : Int32)), .val (.ref o4), .unset, .unset, .unset, .unset] [(.int (0 : Int32))])
    refine own_go (fun _ k => XS.istore X97.here hx rfl (hb hby at_72) rfl (l' := #[.val (.int p1), .val (.ref b42), .val (.int (4 : Int32)), .val (.ref o4), .val (.int (0 : Int32)), .unset, .unset, .unset]) rfl k) ?_
    refine own_go (fun _ k => XS.aloadN X97.here hx rfl (hb hby at_74) rfl rfl k) ?_
    show own_Run p e below _ T97 (mkF m 75 #[.val (.int p1), .val (.ref b42), .val (.int (4 : Int32)), .val (.ref o4), .val (.int (0 : Int32)), .unset, .unset, .unset] [(.ref o4)])
    obtain ⟨cq98, kq98, q98a, q98b, q98c⟩ := isOf hZ e97 E_o4_c75
    obtain ⟨_, _, ⟨T98, L98, k98, n98⟩, -, X98, ⟨Lc98, hQ98, l98, y98, z98⟩, st98⟩ := X97.virtualBack hx (y := (⟨"com/example/error_to_hazard/errortohazard/model/CtlFormula$Temporal", "symbol", "()Ljava/lang/String;"⟩ : MethodName)) (z := (⟨"com/example/error_to_hazard/errortohazard/model/CtlFormula$Temporal", "symbol", "()Ljava/lang/String;"⟩ : MethodName)) hown (mvT hZ (W 28 rfl)) (mvT hZ (W 29 rfl)) (notFace_of_selects (args := #[]) (mvT hZ (W 31 rfl))) (mvT hZ (W 31 rfl)) (mvT hZ (W 30 rfl)) (by decide) (backOf (W := 0) (rm2 l Z a0 hw [] o4 s4 h74 n0 Z0_c75 F_symbol_o4_c75) hZ (W 32 rfl) (W 3 rfl) (by decide) (by decide)) q98a q98c (g := (mkF m 75 #[.val (.int p1), .val (.ref b42), .val (.int (4 : Int32)), .val (.ref o4), .val (.int (0 : Int32)), .unset, .unset, .unset] [(.ref o4)])) rfl (by rw [hml]; rfl) (Steps.refl _) (argsL := []) (rest := []) (lenOf pd_6 rfl) rfl (by show 2 * 0 + _ ≤ _; exact Nat.le_of_eq rfl) (hb hby at_75) (fun _ _ => ⟨rfl, e97, (by decide : 1 + 0 ≤ _), (by decide : 8 + 0 ≤ _)⟩)
    dsimp only [Pt.U, Pt.locs, Pt.cells, Pt.slots] at X98 l98 y98 z98 st98 hQ98
    subst l98 y98 z98
    obtain ⟨rfl, N98q, e98⟩ := hQ98
    have N98 := Fr.app N97 N98q
    refine own_goT st98 ?_
    show own_Run p e below _ T98 (mkF m 78 #[.val (.int p1), .val (.ref b42), .val (.int (4 : Int32)), .val (.ref o4), .val (.int (0 : Int32)), .unset, .unset, .unset] [(.ref s4)])
    refine own_go (fun _ k => XS.astore X98.here hx rfl (hb hby at_78) rfl rfl (l' := #[.val (.int p1), .val (.ref b42), .val (.int (4 : Int32)), .val (.ref o4), .val (.int (0 : Int32)), .val (.ref s4), .unset, .unset]) rfl k) ?_
    refine own_go (fun _ k => XS.aload X98.here hx rfl (hb hby at_80) rfl rfl k) ?_
    show own_Run p e below _ T98 (mkF m 82 #[.val (.int p1), .val (.ref b42), .val (.int (4 : Int32)), .val (.ref o4), .val (.int (0 : Int32)), .val (.ref s4), .unset, .unset] [(.ref s4)])
    obtain ⟨cq99, kq99, q99a, q99b, q99c⟩ := isOf hZ e98 E_s4_c75
    obtain ⟨_, _, ⟨T99, L99, k99, n99⟩, -, X99, ⟨Lc99, hQ99, l99, y99, z99⟩, st99⟩ := X98.virtualBack hx (y := (⟨"java/lang/String", "length", "()I"⟩ : MethodName)) (z := (⟨"java/lang/String", "length", "()I"⟩ : MethodName)) hown (mvT hZ (W 35 rfl)) (mvT hZ (W 36 rfl)) (notFace_of_selects (args := #[]) (mvT hZ (W 38 rfl))) (mvT hZ (W 38 rfl)) (mvT hZ (W 37 rfl)) (by decide) (backOf (W := 0) (rm3 l Z a0 hw [] s4 cs v4 kv4 d4 (71 : Int32) h74 n0 Z0_c75 S_COMPACT_STRINGS_c75 (hcs) E_s4_c75 F_coder_s4_c75 F_value_s4_c75 V_v4_c75) hZ (W 40 rfl) (W 39 rfl) (by decide) (by decide)) q99a q99c (g := (mkF m 82 #[.val (.int p1), .val (.ref b42), .val (.int (4 : Int32)), .val (.ref o4), .val (.int (0 : Int32)), .val (.ref s4), .unset, .unset] [(.ref s4)])) rfl (by rw [hml]; rfl) (Steps.refl _) (argsL := []) (rest := []) (lenOf pd_7 rfl) rfl (by show 2 * 0 + _ ≤ _; exact Nat.le_of_eq rfl) (hb hby at_82) (fun _ _ => ⟨rfl, e98, (by decide : 1 + 0 ≤ _), (by decide : 8 + 0 ≤ _)⟩)
    dsimp only [Pt.U, Pt.locs, Pt.cells, Pt.slots] at X99 l99 y99 z99 st99 hQ99
    subst l99 y99 z99
    obtain ⟨rfl, N99q, e99⟩ := hQ99
    have N99 := Fr.app N98 N99q
    refine own_goT st99 ?_
    show own_Run p e below _ T99 (mkF m 85 #[.val (.int p1), .val (.ref b42), .val (.int (4 : Int32)), .val (.ref o4), .val (.int (0 : Int32)), .val (.ref s4), .unset, .unset] [(.int (2 : Int32))])
    refine own_go (fun _ k => XS.iconst X99.here hx rfl (hb hby at_85) k) ?_
    show own_Run p e below _ T99 (mkF m 86 #[.val (.int p1), .val (.ref b42), .val (.int (4 : Int32)), .val (.ref o4), .val (.int (0 : Int32)), .val (.ref s4), .unset, .unset] [(.int (2 : Int32)), (.int (2 : Int32))])
    refine own_go (fun _ k => XS.icmpNo X99.here hx rfl (hb hby at_86) rfl (teq (by decide : (2 : Int32) = (2 : Int32))).2 k) ?_
    show own_Run p e below _ T99 (mkF m 89 #[.val (.int p1), .val (.ref b42), .val (.int (4 : Int32)), .val (.ref o4), .val (.int (0 : Int32)), .val (.ref s4), .unset, .unset] [])
    refine own_go (fun _ k => XS.aload X99.here hx rfl (hb hby at_89) rfl rfl k) ?_
    refine own_go (fun _ k => XS.iconst X99.here hx rfl (hb hby at_91) k) ?_
    show own_Run p e below _ T99 (mkF m 92 #[.val (.int p1), .val (.ref b42), .val (.int (4 : Int32)), .val (.ref o4), .val (.int (0 : Int32)), .val (.ref s4), .unset, .unset] [(.int (1 : Int32)), (.ref s4)])
    obtain ⟨cq100, kq100, q100a, q100b, q100c⟩ := isOf hZ e99 E_s4_c75
    obtain ⟨_, _, ⟨T100, L100, k100, n100⟩, -, X100, ⟨Lc100, hQ100, l100, y100, z100⟩, st100⟩ := X99.virtualBack hx (y := (⟨"java/lang/String", "charAt", "(I)C"⟩ : MethodName)) (z := (⟨"java/lang/String", "charAt", "(I)C"⟩ : MethodName)) hown (mvT hZ (W 51 rfl)) (mvT hZ (W 52 rfl)) (notFace_of_selects (args := #[]) (mvT hZ (W 54 rfl))) (mvT hZ (W 54 rfl)) (mvT hZ (W 53 rfl)) (by decide) (backOf (W := 0) (rm5 l Z a0 hw [] s4 cs fm v4 kv4 d4 (71 : Int32) h74 n0 Z0_c75 S_COMPACT_STRINGS_c75 (hcs) E_s4_c75 F_coder_s4_c75 F_value_s4_c75 V_v4_c75 S_SIOOBE_FORMATTER_c75 (hfm) (Or.inr (Or.inr (Or.inl rfl)))) hZ (W 55 rfl) (W 39 rfl) (by decide) (by decide)) q100a q100c (g := (mkF m 92 #[.val (.int p1), .val (.ref b42), .val (.int (4 : Int32)), .val (.ref o4), .val (.int (0 : Int32)), .val (.ref s4), .unset, .unset] [(.int (1 : Int32)), (.ref s4)])) rfl (by rw [hml]; rfl) (Steps.refl _) (argsL := [(.int (1 : Int32))]) (rest := []) (lenOf pd_8 rfl) rfl (by show 2 * 0 + _ ≤ _; exact Nat.le_of_eq rfl) (hb hby at_92) (fun _ _ => ⟨rfl, e99, (by decide : 1 + 0 ≤ _), (by decide : 8 + 0 ≤ _)⟩)
    dsimp only [Pt.U, Pt.locs, Pt.cells, Pt.slots] at X100 l100 y100 z100 st100 hQ100
    subst l100 y100 z100
    obtain ⟨rfl, N100q, e100⟩ := hQ100
    have N100 := Fr.app N99 N100q
    refine own_goT st100 ?_
    show own_Run p e below _ T100 (mkF m 95 #[.val (.int p1), .val (.ref b42), .val (.int (4 : Int32)), .val (.ref o4), .val (.int (0 : Int32)), .val (.ref s4), .unset, .unset] [(.int (71 : Int32))])
    refine own_go (fun _ k => XS.bipush X100.here hx rfl (hb hby at_95) k) ?_
    show own_Run p e below _ T100 (mkF m 97 #[.val (.int p1), .val (.ref b42), .val (.int (4 : Int32)), .val (.ref o4), .val (.int (0 : Int32)), .val (.ref s4), .unset, .unset] [(.int (91 : Int32)), (.int (71 : Int32))])
    refine own_go (fun _ k => XS.icmpYes X100.here hx rfl (pc0 := 97) (pc' := 104) rfl (hb hby at_97) rfl (feq (by decide : ¬ ((71 : Int32) = (91 : Int32)))).2 (by decide) (by decide) k) ?_
    show own_Run p e below _ T100 (mkF m 104 #[.val (.int p1), .val (.ref b42), .val (.int (4 : Int32)), .val (.ref o4), .val (.int (0 : Int32)), .val (.ref s4), .unset, .unset] [])
    refine own_go (fun _ k => XS.iconst X100.here hx rfl (hb hby at_104) k) ?_
    refine own_go (fun _ k => XS.istore X100.here hx rfl (hb hby at_105) rfl (l' := #[.val (.int p1), .val (.ref b42), .val (.int (4 : Int32)), .val (.ref o4), .val (.int (0 : Int32)), .val (.ref s4), .val (.int (0 : Int32)), .unset]) rfl k) ?_
    refine own_go (fun _ k => XS.iloadN X100.here hx rfl (hb hby at_107) rfl k) ?_
    refine own_go (fun _ k => XS.bipush X100.here hx rfl (hb hby at_108) k) ?_
    show own_Run p e below _ T100 (mkF m 110 #[.val (.int p1), .val (.ref b42), .val (.int (4 : Int32)), .val (.ref o4), .val (.int (0 : Int32)), .val (.ref s4), .val (.int (0 : Int32)), .unset] [(.int (6 : Int32)), (.int (4 : Int32))])
    refine own_go (fun _ k => XS.icmpYes X100.here hx rfl (pc0 := 110) (pc' := 117) rfl (hb hby at_110) rfl (tlt (by decide : (4 : Int32) < (6 : Int32))).1 (by decide) (by decide) k) ?_
    show own_Run p e below _ T100 (mkF m 117 #[.val (.int p1), .val (.ref b42), .val (.int (4 : Int32)), .val (.ref o4), .val (.int (0 : Int32)), .val (.ref s4), .val (.int (0 : Int32)), .unset] [])
    refine own_go (fun _ k => XS.iconst X100.here hx rfl (hb hby at_117) k) ?_
    refine own_go (fun _ k => XS.istore X100.here hx rfl (hb hby at_118) rfl (l' := #[.val (.int p1), .val (.ref b42), .val (.int (4 : Int32)), .val (.ref o4), .val (.int (0 : Int32)), .val (.ref s4), .val (.int (0 : Int32)), .val (.int (0 : Int32))]) rfl k) ?_
    refine own_go (fun _ k => XS.iload X100.here hx rfl (hb hby at_120) rfl k) ?_
    refine own_go (fun _ k => XS.iload X100.here hx rfl (hb hby at_122) rfl k) ?_
    show own_Run p e below _ T100 (mkF m 124 #[.val (.int p1), .val (.ref b42), .val (.int (4 : Int32)), .val (.ref o4), .val (.int (0 : Int32)), .val (.ref s4), .val (.int (0 : Int32)), .val (.int (0 : Int32))] [(.int (0 : Int32)), (.int (0 : Int32))])
    refine own_go (fun _ k => XS.icmpNo X100.here hx rfl (hb hby at_124) rfl (teq (by decide : (0 : Int32) = (0 : Int32))).2 k) ?_
    show own_Run p e below _ T100 (mkF m 127 #[.val (.int p1), .val (.ref b42), .val (.int (4 : Int32)), .val (.ref o4), .val (.int (0 : Int32)), .val (.ref s4), .val (.int (0 : Int32)), .val (.int (0 : Int32))] [])
    refine own_go (fun _ k => XS.iload X100.here hx rfl (hb hby at_127) rfl k) ?_
    refine own_go (fun _ k => XS.iload X100.here hx rfl (hb hby at_129) rfl k) ?_
    show own_Run p e below _ T100 (mkF m 131 #[.val (.int p1), .val (.ref b42), .val (.int (4 : Int32)), .val (.ref o4), .val (.int (0 : Int32)), .val (.ref s4), .val (.int (0 : Int32)), .val (.int (0 : Int32))] [(.int (0 : Int32)), (.int (0 : Int32))])
    refine own_go (fun _ k => XS.icmpNo X100.here hx rfl (hb hby at_131) rfl (teq (by decide : (0 : Int32) = (0 : Int32))).2 k) ?_
    show own_Run p e below _ T100 (mkF m 134 #[.val (.int p1), .val (.ref b42), .val (.int (4 : Int32)), .val (.ref o4), .val (.int (0 : Int32)), .val (.ref s4), .val (.int (0 : Int32)), .val (.int (0 : Int32))] [])
    refine own_go (fun _ k => XS.iconst X100.here hx rfl (hb hby at_134) k) ?_
    refine own_go (fun _ k => XS.goto X100.here hx rfl (pc0 := 135) (pc' := 139) rfl (hb hby at_135) (by decide) (by decide) k) ?_
    show own_Run p e below _ T100 (mkF m 139 #[.val (.int p1), .val (.ref b42), .val (.int (4 : Int32)), .val (.ref o4), .val (.int (0 : Int32)), .val (.ref s4), .val (.int (0 : Int32)), .val (.int (0 : Int32))] [(.int (1 : Int32))])
    refine own_done (Q := fun v h L => Q0 Z p1 cs fm o0 s0 v0 kv0 d0 o1 s1 v1 kv1 d1 o2 s2 v2 kv2 d2 o3 s3 v3 kv3 d3 o4 s4 v4 kv4 d4 o5 s5 v5 kv5 d5 o6 s6 v6 kv6 d6 o7 s7 v7 kv7 d7 h0 n0 v h L) (v := (some (.int (1 : Int32)))) X100 (fun h => by rw [hret] at h; cases h) hlk (fun fs hr => retN X100 hx (t := .boolean) hret (by simp) (hb hby at_139) hr) ?_ (by decide) (by decide)
    show Q0 Z p1 cs fm o0 s0 v0 kv0 d0 o1 s1 v1 kv1 d1 o2 s2 v2 kv2 d2 o3 s3 v3 kv3 d3 o4 s4 v4 kv4 d4 o5 s5 v5 kv5 d5 o6 s6 v6 kv6 d6 o7 s7 v7 kv7 d7 h0 n0 _ T100.heap _
    rw [e100]
    exact ⟨rfl, N100⟩
  · show own_Run p e below _ T74 (mkF m 64 #[.val (.int p1), .val (.ref b42), .val (.int (5 : Int32)), .unset, .unset, .unset, .unset, .unset] [])
    refine own_go (fun _ k => XS.aloadN X74.here hx rfl (hb hby at_64) rfl rfl k) ?_
    refine own_go (fun _ k => XS.iloadN X74.here hx rfl (hb hby at_65) rfl k) ?_
    show own_Run p e below _ T74 (mkF m 66 #[.val (.int p1), .val (.ref b42), .val (.int (5 : Int32)), .unset, .unset, .unset, .unset, .unset] [(.int (5 : Int32)), (.ref b42)])
    obtain ⟨cl101, Ar101, q101, S101, N101, H101, G101⟩ := id V_b42_c74
    have hin101 : ¬ ((5 : Int32) < 0 ∨ cl101.slots.size ≤ ((5 : Int32)).toNatClampNeg) := inb_of S101 ⟨by decide, by decide⟩
    refine own_go (X74.aaload hx (j := (5 : Int32)) (v := (.ref o5)) (by rw [e74]; exact Ar101.1) (State.isArrayOf_alike hZ.alike Ar101.2.1) rfl Ar101.2.2 hin101 (H101.at hin101 rfl) (g := (mkF m 66 #[.val (.int p1), .val (.ref b42), .val (.int (5 : Int32)), .unset, .unset, .unset, .unset, .unset] [(.int (5 : Int32)), (.ref b42)])) rfl rfl (hb hby at_66)) ?_
    show own_Run p e below _ T74 (mkF m 67 #[.val (.int p1), .val (.ref b42), .val (.int (5 : Int32)), .unset, .unset, .unset, .unset, .unset] [(.ref o5)])
    refine own_go (fun _ k => XS.astoreN X74.here hx rfl (hb hby at_67) rfl rfl (l' := #[.val (.int p1), .val (.ref b42), .val (.int (5 : Int32)), .val (.ref o5), .unset, .unset, .unset, .unset]) rfl k) ?_
    refine own_go (fun _ k => XS.aloadN X74.here hx rfl (hb hby at_68) rfl rfl k) ?_
    show own_Run p e below _ T74 (mkF m 69 #[.val (.int p1), .val (.ref b42), .val (.int (5 : Int32)), .val (.ref o5), .unset, .unset, .unset, .unset] [(.ref o5)])
    obtain ⟨cq102, kq102, q102a, q102b, q102c⟩ := isOf hZ e74 E_o5_c75
    obtain ⟨_, _, ⟨T102, L102, k102, n102⟩, -, X102, ⟨Lc102, hQ102, l102, y102, z102⟩, st102⟩ := X74.virtualBack hx (y := (⟨"com/example/error_to_hazard/errortohazard/model/CtlFormula$Temporal", "isUntil", "()Z"⟩ : MethodName)) (z := (⟨"com/example/error_to_hazard/errortohazard/model/CtlFormula$Temporal", "isUntil", "()Z"⟩ : MethodName)) hown (mvT hZ (W 21 rfl)) (mvT hZ (W 22 rfl)) (notFace_of_selects (args := #[]) (mvT hZ (W 24 rfl))) (mvT hZ (W 24 rfl)) (mvT hZ (W 23 rfl)) (by decide) (backOf (W := 0) (rm1a1 l Z a0 hw [] o5 o6 o7 h74 n0 Z0_c75 S_AU_c75 S_EU_c75 ne_o5_o6 ne_o5_o7) hZ (W 25 rfl) (W 3 rfl) (by decide) (by decide)) q102a q102c (g := (mkF m 69 #[.val (.int p1), .val (.ref b42), .val (.int (5 : Int32)), .val (.ref o5), .unset, .unset, .unset, .unset] [(.ref o5)])) rfl (by rw [hml]; rfl) (Steps.refl _) (argsL := []) (rest := []) (lenOf pd_4 rfl) rfl (by show 2 * 0 + _ ≤ _; exact Nat.le_of_eq rfl) (hb hby at_69) (fun _ _ => ⟨rfl, e74, (by decide : 1 + 0 ≤ _), (by decide : 8 + 0 ≤ _)⟩)
    dsimp only [Pt.U, Pt.locs, Pt.cells, Pt.slots] at X102 l102 y102 z102 st102 hQ102
    subst l102 y102 z102
    obtain ⟨rfl, N102q, e102⟩ := hQ102
    have N102 := Fr.app N74 N102q
    refine own_goT st102 ?_
    show own_Run p e below _ T102 (mkF m 72 #[.val (.int p1), .val (.ref b42), .val (.int (5 : Int32)), .val (.ref o5), .unset, .unset, .unset, .unset] [(.int (0 : Int32))])
    refine own_go (fun _ k => XS.istore X102.here hx rfl (hb hby at_72) rfl (l' := #[.val (.int p1), .val (.ref b42), .val (.int (5 : Int32)), .val (.ref o5), .val (.int (0 : Int32)), .unset, .unset, .unset]) rfl k) ?_
    refine own_go (fun _ k => XS.aloadN X102.here hx rfl (hb hby at_74) rfl rfl k) ?_
    show own_Run p e below _ T102 (mkF m 75 #[.val (.int p1), .val (.ref b42), .val (.int (5 : Int32)), .val (.ref o5), .val (.int (0 : Int32)), .unset, .unset, .unset] [(.ref o5)])
    obtain ⟨cq103, kq103, q103a, q103b, q103c⟩ := isOf hZ e102 E_o5_c75
    obtain ⟨_, _, ⟨T103, L103, k103, n103⟩, -, X103, ⟨Lc103, hQ103, l103, y103, z103⟩, st103⟩ := X102.virtualBack hx (y := (⟨"com/example/error_to_hazard/errortohazard/model/CtlFormula$Temporal", "symbol", "()Ljava/lang/String;"⟩ : MethodName)) (z := (⟨"com/example/error_to_hazard/errortohazard/model/CtlFormula$Temporal", "symbol", "()Ljava/lang/String;"⟩ : MethodName)) hown (mvT hZ (W 28 rfl)) (mvT hZ (W 29 rfl)) (notFace_of_selects (args := #[]) (mvT hZ (W 31 rfl))) (mvT hZ (W 31 rfl)) (mvT hZ (W 30 rfl)) (by decide) (backOf (W := 0) (rm2 l Z a0 hw [] o5 s5 h74 n0 Z0_c75 F_symbol_o5_c75) hZ (W 32 rfl) (W 3 rfl) (by decide) (by decide)) q103a q103c (g := (mkF m 75 #[.val (.int p1), .val (.ref b42), .val (.int (5 : Int32)), .val (.ref o5), .val (.int (0 : Int32)), .unset, .unset, .unset] [(.ref o5)])) rfl (by rw [hml]; rfl) (Steps.refl _) (argsL := []) (rest := []) (lenOf pd_6 rfl) rfl (by show 2 * 0 + _ ≤ _; exact Nat.le_of_eq rfl) (hb hby at_75) (fun _ _ => ⟨rfl, e102, (by decide : 1 + 0 ≤ _), (by decide : 8 + 0 ≤ _)⟩)
    dsimp only [Pt.U, Pt.locs, Pt.cells, Pt.slots] at X103 l103 y103 z103 st103 hQ103
    subst l103 y103 z103
    obtain ⟨rfl, N103q, e103⟩ := hQ103
    have N103 := Fr.app N102 N103q
    refine own_goT st103 ?_
    show own_Run p e below _ T103 (mkF m 78 #[.val (.int p1), .val (.ref b42), .val (.int (5 : Int32)), .val (.ref o5), .val (.int (0 : Int32)), .unset, .unset, .unset] [(.ref s5)])
    refine own_go (fun _ k => XS.astore X103.here hx rfl (hb hby at_78) rfl rfl (l' := #[.val (.int p1), .val (.ref b42), .val (.int (5 : Int32)), .val (.ref o5), .val (.int (0 : Int32)), .val (.ref s5), .unset, .unset]) rfl k) ?_
    refine own_go (fun _ k => XS.aload X103.here hx rfl (hb hby at_80) rfl rfl k) ?_
    show own_Run p e below _ T103 (mkF m 82 #[.val (.int p1), .val (.ref b42), .val (.int (5 : Int32)), .val (.ref o5), .val (.int (0 : Int32)), .val (.ref s5), .unset, .unset] [(.ref s5)])
    obtain ⟨cq104, kq104, q104a, q104b, q104c⟩ := isOf hZ e103 E_s5_c75
    obtain ⟨_, _, ⟨T104, L104, k104, n104⟩, -, X104, ⟨Lc104, hQ104, l104, y104, z104⟩, st104⟩ := X103.virtualBack hx (y := (⟨"java/lang/String", "length", "()I"⟩ : MethodName)) (z := (⟨"java/lang/String", "length", "()I"⟩ : MethodName)) hown (mvT hZ (W 35 rfl)) (mvT hZ (W 36 rfl)) (notFace_of_selects (args := #[]) (mvT hZ (W 38 rfl))) (mvT hZ (W 38 rfl)) (mvT hZ (W 37 rfl)) (by decide) (backOf (W := 0) (rm3 l Z a0 hw [] s5 cs v5 kv5 d5 (71 : Int32) h74 n0 Z0_c75 S_COMPACT_STRINGS_c75 (hcs) E_s5_c75 F_coder_s5_c75 F_value_s5_c75 V_v5_c75) hZ (W 40 rfl) (W 39 rfl) (by decide) (by decide)) q104a q104c (g := (mkF m 82 #[.val (.int p1), .val (.ref b42), .val (.int (5 : Int32)), .val (.ref o5), .val (.int (0 : Int32)), .val (.ref s5), .unset, .unset] [(.ref s5)])) rfl (by rw [hml]; rfl) (Steps.refl _) (argsL := []) (rest := []) (lenOf pd_7 rfl) rfl (by show 2 * 0 + _ ≤ _; exact Nat.le_of_eq rfl) (hb hby at_82) (fun _ _ => ⟨rfl, e103, (by decide : 1 + 0 ≤ _), (by decide : 8 + 0 ≤ _)⟩)
    dsimp only [Pt.U, Pt.locs, Pt.cells, Pt.slots] at X104 l104 y104 z104 st104 hQ104
    subst l104 y104 z104
    obtain ⟨rfl, N104q, e104⟩ := hQ104
    have N104 := Fr.app N103 N104q
    refine own_goT st104 ?_
    show own_Run p e below _ T104 (mkF m 85 #[.val (.int p1), .val (.ref b42), .val (.int (5 : Int32)), .val (.ref o5), .val (.int (0 : Int32)), .val (.ref s5), .unset, .unset] [(.int (2 : Int32))])
    refine own_go (fun _ k => XS.iconst X104.here hx rfl (hb hby at_85) k) ?_
    show own_Run p e below _ T104 (mkF m 86 #[.val (.int p1), .val (.ref b42), .val (.int (5 : Int32)), .val (.ref o5), .val (.int (0 : Int32)), .val (.ref s5), .unset, .unset] [(.int (2 : Int32)), (.int (2 : Int32))])
    refine own_go (fun _ k => XS.icmpNo X104.here hx rfl (hb hby at_86) rfl (teq (by decide : (2 : Int32) = (2 : Int32))).2 k) ?_
    show own_Run p e below _ T104 (mkF m 89 #[.val (.int p1), .val (.ref b42), .val (.int (5 : Int32)), .val (.ref o5), .val (.int (0 : Int32)), .val (.ref s5), .unset, .unset] [])
    refine own_go (fun _ k => XS.aload X104.here hx rfl (hb hby at_89) rfl rfl k) ?_
    refine own_go (fun _ k => XS.iconst X104.here hx rfl (hb hby at_91) k) ?_
    show own_Run p e below _ T104 (mkF m 92 #[.val (.int p1), .val (.ref b42), .val (.int (5 : Int32)), .val (.ref o5), .val (.int (0 : Int32)), .val (.ref s5), .unset, .unset] [(.int (1 : Int32)), (.ref s5)])
    obtain ⟨cq105, kq105, q105a, q105b, q105c⟩ := isOf hZ e104 E_s5_c75
    obtain ⟨_, _, ⟨T105, L105, k105, n105⟩, -, X105, ⟨Lc105, hQ105, l105, y105, z105⟩, st105⟩ := X104.virtualBack hx (y := (⟨"java/lang/String", "charAt", "(I)C"⟩ : MethodName)) (z := (⟨"java/lang/String", "charAt", "(I)C"⟩ : MethodName)) hown (mvT hZ (W 51 rfl)) (mvT hZ (W 52 rfl)) (notFace_of_selects (args := #[]) (mvT hZ (W 54 rfl))) (mvT hZ (W 54 rfl)) (mvT hZ (W 53 rfl)) (by decide) (backOf (W := 0) (rm5 l Z a0 hw [] s5 cs fm v5 kv5 d5 (71 : Int32) h74 n0 Z0_c75 S_COMPACT_STRINGS_c75 (hcs) E_s5_c75 F_coder_s5_c75 F_value_s5_c75 V_v5_c75 S_SIOOBE_FORMATTER_c75 (hfm) (Or.inr (Or.inr (Or.inl rfl)))) hZ (W 55 rfl) (W 39 rfl) (by decide) (by decide)) q105a q105c (g := (mkF m 92 #[.val (.int p1), .val (.ref b42), .val (.int (5 : Int32)), .val (.ref o5), .val (.int (0 : Int32)), .val (.ref s5), .unset, .unset] [(.int (1 : Int32)), (.ref s5)])) rfl (by rw [hml]; rfl) (Steps.refl _) (argsL := [(.int (1 : Int32))]) (rest := []) (lenOf pd_8 rfl) rfl (by show 2 * 0 + _ ≤ _; exact Nat.le_of_eq rfl) (hb hby at_92) (fun _ _ => ⟨rfl, e104, (by decide : 1 + 0 ≤ _), (by decide : 8 + 0 ≤ _)⟩)
    dsimp only [Pt.U, Pt.locs, Pt.cells, Pt.slots] at X105 l105 y105 z105 st105 hQ105
    subst l105 y105 z105
    obtain ⟨rfl, N105q, e105⟩ := hQ105
    have N105 := Fr.app N104 N105q
    refine own_goT st105 ?_
    show own_Run p e below _ T105 (mkF m 95 #[.val (.int p1), .val (.ref b42), .val (.int (5 : Int32)), .val (.ref o5), .val (.int (0 : Int32)), .val (.ref s5), .unset, .unset] [(.int (71 : Int32))])
    refine own_go (fun _ k => XS.bipush X105.here hx rfl (hb hby at_95) k) ?_
    show own_Run p e below _ T105 (mkF m 97 #[.val (.int p1), .val (.ref b42), .val (.int (5 : Int32)), .val (.ref o5), .val (.int (0 : Int32)), .val (.ref s5), .unset, .unset] [(.int (91 : Int32)), (.int (71 : Int32))])
    refine own_go (fun _ k => XS.icmpYes X105.here hx rfl (pc0 := 97) (pc' := 104) rfl (hb hby at_97) rfl (feq (by decide : ¬ ((71 : Int32) = (91 : Int32)))).2 (by decide) (by decide) k) ?_
    show own_Run p e below _ T105 (mkF m 104 #[.val (.int p1), .val (.ref b42), .val (.int (5 : Int32)), .val (.ref o5), .val (.int (0 : Int32)), .val (.ref s5), .unset, .unset] [])
    refine own_go (fun _ k => XS.iconst X105.here hx rfl (hb hby at_104) k) ?_
    refine own_go (fun _ k => XS.istore X105.here hx rfl (hb hby at_105) rfl (l' := #[.val (.int p1), .val (.ref b42), .val (.int (5 : Int32)), .val (.ref o5), .val (.int (0 : Int32)), .val (.ref s5), .val (.int (0 : Int32)), .unset]) rfl k) ?_
    refine own_go (fun _ k => XS.iloadN X105.here hx rfl (hb hby at_107) rfl k) ?_
    refine own_go (fun _ k => XS.bipush X105.here hx rfl (hb hby at_108) k) ?_
    show own_Run p e below _ T105 (mkF m 110 #[.val (.int p1), .val (.ref b42), .val (.int (5 : Int32)), .val (.ref o5), .val (.int (0 : Int32)), .val (.ref s5), .val (.int (0 : Int32)), .unset] [(.int (6 : Int32)), (.int (5 : Int32))])
    refine own_go (fun _ k => XS.icmpYes X105.here hx rfl (pc0 := 110) (pc' := 117) rfl (hb hby at_110) rfl (tlt (by decide : (5 : Int32) < (6 : Int32))).1 (by decide) (by decide) k) ?_
    show own_Run p e below _ T105 (mkF m 117 #[.val (.int p1), .val (.ref b42), .val (.int (5 : Int32)), .val (.ref o5), .val (.int (0 : Int32)), .val (.ref s5), .val (.int (0 : Int32)), .unset] [])
    refine own_go (fun _ k => XS.iconst X105.here hx rfl (hb hby at_117) k) ?_
    refine own_go (fun _ k => XS.istore X105.here hx rfl (hb hby at_118) rfl (l' := #[.val (.int p1), .val (.ref b42), .val (.int (5 : Int32)), .val (.ref o5), .val (.int (0 : Int32)), .val (.ref s5), .val (.int (0 : Int32)), .val (.int (0 : Int32))]) rfl k) ?_
    refine own_go (fun _ k => XS.iload X105.here hx rfl (hb hby at_120) rfl k) ?_
    refine own_go (fun _ k => XS.iload X105.here hx rfl (hb hby at_122) rfl k) ?_
    show own_Run p e below _ T105 (mkF m 124 #[.val (.int p1), .val (.ref b42), .val (.int (5 : Int32)), .val (.ref o5), .val (.int (0 : Int32)), .val (.ref s5), .val (.int (0 : Int32)), .val (.int (0 : Int32))] [(.int (0 : Int32)), (.int (0 : Int32))])
    refine own_go (fun _ k => XS.icmpNo X105.here hx rfl (hb hby at_124) rfl (teq (by decide : (0 : Int32) = (0 : Int32))).2 k) ?_
    show own_Run p e below _ T105 (mkF m 127 #[.val (.int p1), .val (.ref b42), .val (.int (5 : Int32)), .val (.ref o5), .val (.int (0 : Int32)), .val (.ref s5), .val (.int (0 : Int32)), .val (.int (0 : Int32))] [])
    refine own_go (fun _ k => XS.iload X105.here hx rfl (hb hby at_127) rfl k) ?_
    refine own_go (fun _ k => XS.iload X105.here hx rfl (hb hby at_129) rfl k) ?_
    show own_Run p e below _ T105 (mkF m 131 #[.val (.int p1), .val (.ref b42), .val (.int (5 : Int32)), .val (.ref o5), .val (.int (0 : Int32)), .val (.ref s5), .val (.int (0 : Int32)), .val (.int (0 : Int32))] [(.int (0 : Int32)), (.int (0 : Int32))])
    refine own_go (fun _ k => XS.icmpNo X105.here hx rfl (hb hby at_131) rfl (teq (by decide : (0 : Int32) = (0 : Int32))).2 k) ?_
    show own_Run p e below _ T105 (mkF m 134 #[.val (.int p1), .val (.ref b42), .val (.int (5 : Int32)), .val (.ref o5), .val (.int (0 : Int32)), .val (.ref s5), .val (.int (0 : Int32)), .val (.int (0 : Int32))] [])
    refine own_go (fun _ k => XS.iconst X105.here hx rfl (hb hby at_134) k) ?_
    refine own_go (fun _ k => XS.goto X105.here hx rfl (pc0 := 135) (pc' := 139) rfl (hb hby at_135) (by decide) (by decide) k) ?_
    show own_Run p e below _ T105 (mkF m 139 #[.val (.int p1), .val (.ref b42), .val (.int (5 : Int32)), .val (.ref o5), .val (.int (0 : Int32)), .val (.ref s5), .val (.int (0 : Int32)), .val (.int (0 : Int32))] [(.int (1 : Int32))])
    refine own_done (Q := fun v h L => Q0 Z p1 cs fm o0 s0 v0 kv0 d0 o1 s1 v1 kv1 d1 o2 s2 v2 kv2 d2 o3 s3 v3 kv3 d3 o4 s4 v4 kv4 d4 o5 s5 v5 kv5 d5 o6 s6 v6 kv6 d6 o7 s7 v7 kv7 d7 h0 n0 v h L) (v := (some (.int (1 : Int32)))) X105 (fun h => by rw [hret] at h; cases h) hlk (fun fs hr => retN X105 hx (t := .boolean) hret (by simp) (hb hby at_139) hr) ?_ (by decide) (by decide)
    show Q0 Z p1 cs fm o0 s0 v0 kv0 d0 o1 s1 v1 kv1 d1 o2 s2 v2 kv2 d2 o3 s3 v3 kv3 d3 o4 s4 v4 kv4 d4 o5 s5 v5 kv5 d5 o6 s6 v6 kv6 d6 o7 s7 v7 kv7 d7 h0 n0 _ T105.heap _
    rw [e105]
    exact ⟨rfl, N105⟩
  · show own_Run p e below _ T74 (mkF m 64 #[.val (.int p1), .val (.ref b42), .val (.int (6 : Int32)), .unset, .unset, .unset, .unset, .unset] [])
    refine own_go (fun _ k => XS.aloadN X74.here hx rfl (hb hby at_64) rfl rfl k) ?_
    refine own_go (fun _ k => XS.iloadN X74.here hx rfl (hb hby at_65) rfl k) ?_
    show own_Run p e below _ T74 (mkF m 66 #[.val (.int p1), .val (.ref b42), .val (.int (6 : Int32)), .unset, .unset, .unset, .unset, .unset] [(.int (6 : Int32)), (.ref b42)])
    obtain ⟨cl106, Ar106, q106, S106, N106, H106, G106⟩ := id V_b42_c74
    have hin106 : ¬ ((6 : Int32) < 0 ∨ cl106.slots.size ≤ ((6 : Int32)).toNatClampNeg) := inb_of S106 ⟨by decide, by decide⟩
    refine own_go (X74.aaload hx (j := (6 : Int32)) (v := (.ref o6)) (by rw [e74]; exact Ar106.1) (State.isArrayOf_alike hZ.alike Ar106.2.1) rfl Ar106.2.2 hin106 (H106.at hin106 rfl) (g := (mkF m 66 #[.val (.int p1), .val (.ref b42), .val (.int (6 : Int32)), .unset, .unset, .unset, .unset, .unset] [(.int (6 : Int32)), (.ref b42)])) rfl rfl (hb hby at_66)) ?_
    show own_Run p e below _ T74 (mkF m 67 #[.val (.int p1), .val (.ref b42), .val (.int (6 : Int32)), .unset, .unset, .unset, .unset, .unset] [(.ref o6)])
    refine own_go (fun _ k => XS.astoreN X74.here hx rfl (hb hby at_67) rfl rfl (l' := #[.val (.int p1), .val (.ref b42), .val (.int (6 : Int32)), .val (.ref o6), .unset, .unset, .unset, .unset]) rfl k) ?_
    refine own_go (fun _ k => XS.aloadN X74.here hx rfl (hb hby at_68) rfl rfl k) ?_
    show own_Run p e below _ T74 (mkF m 69 #[.val (.int p1), .val (.ref b42), .val (.int (6 : Int32)), .val (.ref o6), .unset, .unset, .unset, .unset] [(.ref o6)])
    obtain ⟨cq107, kq107, q107a, q107b, q107c⟩ := isOf hZ e74 E_o6_c75
    obtain ⟨_, _, ⟨T107, L107, k107, n107⟩, -, X107, ⟨Lc107, hQ107, l107, y107, z107⟩, st107⟩ := X74.virtualBack hx (y := (⟨"com/example/error_to_hazard/errortohazard/model/CtlFormula$Temporal", "isUntil", "()Z"⟩ : MethodName)) (z := (⟨"com/example/error_to_hazard/errortohazard/model/CtlFormula$Temporal", "isUntil", "()Z"⟩ : MethodName)) hown (mvT hZ (W 21 rfl)) (mvT hZ (W 22 rfl)) (notFace_of_selects (args := #[]) (mvT hZ (W 24 rfl))) (mvT hZ (W 24 rfl)) (mvT hZ (W 23 rfl)) (by decide) (backOf (W := 0) (rm1o6 l Z a0 hw [] o6 o7 h74 n0 Z0_c75 S_AU_c75 S_EU_c75) hZ (W 25 rfl) (W 3 rfl) (by decide) (by decide)) q107a q107c (g := (mkF m 69 #[.val (.int p1), .val (.ref b42), .val (.int (6 : Int32)), .val (.ref o6), .unset, .unset, .unset, .unset] [(.ref o6)])) rfl (by rw [hml]; rfl) (Steps.refl _) (argsL := []) (rest := []) (lenOf pd_4 rfl) rfl (by show 2 * 0 + _ ≤ _; exact Nat.le_of_eq rfl) (hb hby at_69) (fun _ _ => ⟨rfl, e74, (by decide : 1 + 0 ≤ _), (by decide : 8 + 0 ≤ _)⟩)
    dsimp only [Pt.U, Pt.locs, Pt.cells, Pt.slots] at X107 l107 y107 z107 st107 hQ107
    subst l107 y107 z107
    obtain ⟨rfl, N107q, e107⟩ := hQ107
    have N107 := Fr.app N74 N107q
    refine own_goT st107 ?_
    show own_Run p e below _ T107 (mkF m 72 #[.val (.int p1), .val (.ref b42), .val (.int (6 : Int32)), .val (.ref o6), .unset, .unset, .unset, .unset] [(.int (1 : Int32))])
    refine own_go (fun _ k => XS.istore X107.here hx rfl (hb hby at_72) rfl (l' := #[.val (.int p1), .val (.ref b42), .val (.int (6 : Int32)), .val (.ref o6), .val (.int (1 : Int32)), .unset, .unset, .unset]) rfl k) ?_
    refine own_go (fun _ k => XS.aloadN X107.here hx rfl (hb hby at_74) rfl rfl k) ?_
    show own_Run p e below _ T107 (mkF m 75 #[.val (.int p1), .val (.ref b42), .val (.int (6 : Int32)), .val (.ref o6), .val (.int (1 : Int32)), .unset, .unset, .unset] [(.ref o6)])
    obtain ⟨cq108, kq108, q108a, q108b, q108c⟩ := isOf hZ e107 E_o6_c75
    obtain ⟨_, _, ⟨T108, L108, k108, n108⟩, -, X108, ⟨Lc108, hQ108, l108, y108, z108⟩, st108⟩ := X107.virtualBack hx (y := (⟨"com/example/error_to_hazard/errortohazard/model/CtlFormula$Temporal", "symbol", "()Ljava/lang/String;"⟩ : MethodName)) (z := (⟨"com/example/error_to_hazard/errortohazard/model/CtlFormula$Temporal", "symbol", "()Ljava/lang/String;"⟩ : MethodName)) hown (mvT hZ (W 28 rfl)) (mvT hZ (W 29 rfl)) (notFace_of_selects (args := #[]) (mvT hZ (W 31 rfl))) (mvT hZ (W 31 rfl)) (mvT hZ (W 30 rfl)) (by decide) (backOf (W := 0) (rm2 l Z a0 hw [] o6 s6 h74 n0 Z0_c75 F_symbol_o6_c75) hZ (W 32 rfl) (W 3 rfl) (by decide) (by decide)) q108a q108c (g := (mkF m 75 #[.val (.int p1), .val (.ref b42), .val (.int (6 : Int32)), .val (.ref o6), .val (.int (1 : Int32)), .unset, .unset, .unset] [(.ref o6)])) rfl (by rw [hml]; rfl) (Steps.refl _) (argsL := []) (rest := []) (lenOf pd_6 rfl) rfl (by show 2 * 0 + _ ≤ _; exact Nat.le_of_eq rfl) (hb hby at_75) (fun _ _ => ⟨rfl, e107, (by decide : 1 + 0 ≤ _), (by decide : 8 + 0 ≤ _)⟩)
    dsimp only [Pt.U, Pt.locs, Pt.cells, Pt.slots] at X108 l108 y108 z108 st108 hQ108
    subst l108 y108 z108
    obtain ⟨rfl, N108q, e108⟩ := hQ108
    have N108 := Fr.app N107 N108q
    refine own_goT st108 ?_
    show own_Run p e below _ T108 (mkF m 78 #[.val (.int p1), .val (.ref b42), .val (.int (6 : Int32)), .val (.ref o6), .val (.int (1 : Int32)), .unset, .unset, .unset] [(.ref s6)])
    refine own_go (fun _ k => XS.astore X108.here hx rfl (hb hby at_78) rfl rfl (l' := #[.val (.int p1), .val (.ref b42), .val (.int (6 : Int32)), .val (.ref o6), .val (.int (1 : Int32)), .val (.ref s6), .unset, .unset]) rfl k) ?_
    refine own_go (fun _ k => XS.aload X108.here hx rfl (hb hby at_80) rfl rfl k) ?_
    show own_Run p e below _ T108 (mkF m 82 #[.val (.int p1), .val (.ref b42), .val (.int (6 : Int32)), .val (.ref o6), .val (.int (1 : Int32)), .val (.ref s6), .unset, .unset] [(.ref s6)])
    obtain ⟨cq109, kq109, q109a, q109b, q109c⟩ := isOf hZ e108 E_s6_c75
    obtain ⟨_, _, ⟨T109, L109, k109, n109⟩, -, X109, ⟨Lc109, hQ109, l109, y109, z109⟩, st109⟩ := X108.virtualBack hx (y := (⟨"java/lang/String", "length", "()I"⟩ : MethodName)) (z := (⟨"java/lang/String", "length", "()I"⟩ : MethodName)) hown (mvT hZ (W 35 rfl)) (mvT hZ (W 36 rfl)) (notFace_of_selects (args := #[]) (mvT hZ (W 38 rfl))) (mvT hZ (W 38 rfl)) (mvT hZ (W 37 rfl)) (by decide) (backOf (W := 0) (rm3 l Z a0 hw [] s6 cs v6 kv6 d6 (91 : Int32) h74 n0 Z0_c75 S_COMPACT_STRINGS_c75 (hcs) E_s6_c75 F_coder_s6_c75 F_value_s6_c75 V_v6_c75) hZ (W 40 rfl) (W 39 rfl) (by decide) (by decide)) q109a q109c (g := (mkF m 82 #[.val (.int p1), .val (.ref b42), .val (.int (6 : Int32)), .val (.ref o6), .val (.int (1 : Int32)), .val (.ref s6), .unset, .unset] [(.ref s6)])) rfl (by rw [hml]; rfl) (Steps.refl _) (argsL := []) (rest := []) (lenOf pd_7 rfl) rfl (by show 2 * 0 + _ ≤ _; exact Nat.le_of_eq rfl) (hb hby at_82) (fun _ _ => ⟨rfl, e108, (by decide : 1 + 0 ≤ _), (by decide : 8 + 0 ≤ _)⟩)
    dsimp only [Pt.U, Pt.locs, Pt.cells, Pt.slots] at X109 l109 y109 z109 st109 hQ109
    subst l109 y109 z109
    obtain ⟨rfl, N109q, e109⟩ := hQ109
    have N109 := Fr.app N108 N109q
    refine own_goT st109 ?_
    show own_Run p e below _ T109 (mkF m 85 #[.val (.int p1), .val (.ref b42), .val (.int (6 : Int32)), .val (.ref o6), .val (.int (1 : Int32)), .val (.ref s6), .unset, .unset] [(.int (2 : Int32))])
    refine own_go (fun _ k => XS.iconst X109.here hx rfl (hb hby at_85) k) ?_
    show own_Run p e below _ T109 (mkF m 86 #[.val (.int p1), .val (.ref b42), .val (.int (6 : Int32)), .val (.ref o6), .val (.int (1 : Int32)), .val (.ref s6), .unset, .unset] [(.int (2 : Int32)), (.int (2 : Int32))])
    refine own_go (fun _ k => XS.icmpNo X109.here hx rfl (hb hby at_86) rfl (teq (by decide : (2 : Int32) = (2 : Int32))).2 k) ?_
    show own_Run p e below _ T109 (mkF m 89 #[.val (.int p1), .val (.ref b42), .val (.int (6 : Int32)), .val (.ref o6), .val (.int (1 : Int32)), .val (.ref s6), .unset, .unset] [])
    refine own_go (fun _ k => XS.aload X109.here hx rfl (hb hby at_89) rfl rfl k) ?_
    refine own_go (fun _ k => XS.iconst X109.here hx rfl (hb hby at_91) k) ?_
    show own_Run p e below _ T109 (mkF m 92 #[.val (.int p1), .val (.ref b42), .val (.int (6 : Int32)), .val (.ref o6), .val (.int (1 : Int32)), .val (.ref s6), .unset, .unset] [(.int (1 : Int32)), (.ref s6)])
    obtain ⟨cq110, kq110, q110a, q110b, q110c⟩ := isOf hZ e109 E_s6_c75
    obtain ⟨_, _, ⟨T110, L110, k110, n110⟩, -, X110, ⟨Lc110, hQ110, l110, y110, z110⟩, st110⟩ := X109.virtualBack hx (y := (⟨"java/lang/String", "charAt", "(I)C"⟩ : MethodName)) (z := (⟨"java/lang/String", "charAt", "(I)C"⟩ : MethodName)) hown (mvT hZ (W 51 rfl)) (mvT hZ (W 52 rfl)) (notFace_of_selects (args := #[]) (mvT hZ (W 54 rfl))) (mvT hZ (W 54 rfl)) (mvT hZ (W 53 rfl)) (by decide) (backOf (W := 0) (rm5 l Z a0 hw [] s6 cs fm v6 kv6 d6 (91 : Int32) h74 n0 Z0_c75 S_COMPACT_STRINGS_c75 (hcs) E_s6_c75 F_coder_s6_c75 F_value_s6_c75 V_v6_c75 S_SIOOBE_FORMATTER_c75 (hfm) (Or.inr (Or.inr (Or.inr (rfl))))) hZ (W 55 rfl) (W 39 rfl) (by decide) (by decide)) q110a q110c (g := (mkF m 92 #[.val (.int p1), .val (.ref b42), .val (.int (6 : Int32)), .val (.ref o6), .val (.int (1 : Int32)), .val (.ref s6), .unset, .unset] [(.int (1 : Int32)), (.ref s6)])) rfl (by rw [hml]; rfl) (Steps.refl _) (argsL := [(.int (1 : Int32))]) (rest := []) (lenOf pd_8 rfl) rfl (by show 2 * 0 + _ ≤ _; exact Nat.le_of_eq rfl) (hb hby at_92) (fun _ _ => ⟨rfl, e109, (by decide : 1 + 0 ≤ _), (by decide : 8 + 0 ≤ _)⟩)
    dsimp only [Pt.U, Pt.locs, Pt.cells, Pt.slots] at X110 l110 y110 z110 st110 hQ110
    subst l110 y110 z110
    obtain ⟨rfl, N110q, e110⟩ := hQ110
    have N110 := Fr.app N109 N110q
    refine own_goT st110 ?_
    show own_Run p e below _ T110 (mkF m 95 #[.val (.int p1), .val (.ref b42), .val (.int (6 : Int32)), .val (.ref o6), .val (.int (1 : Int32)), .val (.ref s6), .unset, .unset] [(.int (91 : Int32))])
    refine own_go (fun _ k => XS.bipush X110.here hx rfl (hb hby at_95) k) ?_
    show own_Run p e below _ T110 (mkF m 97 #[.val (.int p1), .val (.ref b42), .val (.int (6 : Int32)), .val (.ref o6), .val (.int (1 : Int32)), .val (.ref s6), .unset, .unset] [(.int (91 : Int32)), (.int (91 : Int32))])
    refine own_go (fun _ k => XS.icmpNo X110.here hx rfl (hb hby at_97) rfl (teq (by decide : (91 : Int32) = (91 : Int32))).2 k) ?_
    show own_Run p e below _ T110 (mkF m 100 #[.val (.int p1), .val (.ref b42), .val (.int (6 : Int32)), .val (.ref o6), .val (.int (1 : Int32)), .val (.ref s6), .unset, .unset] [])
    refine own_go (fun _ k => XS.iconst X110.here hx rfl (hb hby at_100) k) ?_
    refine own_go (fun _ k => XS.goto X110.here hx rfl (pc0 := 101) (pc' := 105) rfl (hb hby at_101) (by decide) (by decide) k) ?_
    refine own_go (fun _ k => XS.istore X110.here hx rfl (hb hby at_105) rfl (l' := #[.val (.int p1), .val (.ref b42), .val (.int (6 : Int32)), .val (.ref o6), .val (.int (1 : Int32)), .val (.ref s6), .val (.int (1 : Int32)), .unset]) rfl k) ?_
    refine own_go (fun _ k => XS.iloadN X110.here hx rfl (hb hby at_107) rfl k) ?_
    show own_Run p e below _ T110 (mkF m 108 #[.val (.int p1), .val (.ref b42), .val (.int (6 : Int32)), .val (.ref o6), .val (.int (1 : Int32)), .val (.ref s6), .val (.int (1 : Int32)), .unset] [(.int (6 : Int32))])
    refine own_go (fun _ k => XS.bipush X110.here hx rfl (hb hby at_108) k) ?_
    show own_Run p e below _ T110 (mkF m 110 #[.val (.int p1), .val (.ref b42), .val (.int (6 : Int32)), .val (.ref o6), .val (.int (1 : Int32)), .val (.ref s6), .val (.int (1 : Int32)), .unset] [(.int (6 : Int32)), (.int (6 : Int32))])
    refine own_go (fun _ k => XS.icmpNo X110.here hx rfl (hb hby at_110) rfl (flt (by decide : ¬ ((6 : Int32) < (6 : Int32)))).1 k) ?_
    show own_Run p e below _ T110 (mkF m 113 #[.val (.int p1), .val (.ref b42), .val (.int (6 : Int32)), .val (.ref o6), .val (.int (1 : Int32)), .val (.ref s6), .val (.int (1 : Int32)), .unset] [])
    refine own_go (fun _ k => XS.iconst X110.here hx rfl (hb hby at_113) k) ?_
    refine own_go (fun _ k => XS.goto X110.here hx rfl (pc0 := 114) (pc' := 118) rfl (hb hby at_114) (by decide) (by decide) k) ?_
    refine own_go (fun _ k => XS.istore X110.here hx rfl (hb hby at_118) rfl (l' := #[.val (.int p1), .val (.ref b42), .val (.int (6 : Int32)), .val (.ref o6), .val (.int (1 : Int32)), .val (.ref s6), .val (.int (1 : Int32)), .val (.int (1 : Int32))]) rfl k) ?_
    refine own_go (fun _ k => XS.iload X110.here hx rfl (hb hby at_120) rfl k) ?_
    show own_Run p e below _ T110 (mkF m 122 #[.val (.int p1), .val (.ref b42), .val (.int (6 : Int32)), .val (.ref o6), .val (.int (1 : Int32)), .val (.ref s6), .val (.int (1 : Int32)), .val (.int (1 : Int32))] [(.int (1 : Int32))])
    refine own_go (fun _ k => XS.iload X110.here hx rfl (hb hby at_122) rfl k) ?_
    show own_Run p e below _ T110 (mkF m 124 #[.val (.int p1), .val (.ref b42), .val (.int (6 : Int32)), .val (.ref o6), .val (.int (1 : Int32)), .val (.ref s6), .val (.int (1 : Int32)), .val (.int (1 : Int32))] [(.int (1 : Int32)), (.int (1 : Int32))])
    refine own_go (fun _ k => XS.icmpNo X110.here hx rfl (hb hby at_124) rfl (teq (by decide : (1 : Int32) = (1 : Int32))).2 k) ?_
    show own_Run p e below _ T110 (mkF m 127 #[.val (.int p1), .val (.ref b42), .val (.int (6 : Int32)), .val (.ref o6), .val (.int (1 : Int32)), .val (.ref s6), .val (.int (1 : Int32)), .val (.int (1 : Int32))] [])
    refine own_go (fun _ k => XS.iload X110.here hx rfl (hb hby at_127) rfl k) ?_
    refine own_go (fun _ k => XS.iload X110.here hx rfl (hb hby at_129) rfl k) ?_
    show own_Run p e below _ T110 (mkF m 131 #[.val (.int p1), .val (.ref b42), .val (.int (6 : Int32)), .val (.ref o6), .val (.int (1 : Int32)), .val (.ref s6), .val (.int (1 : Int32)), .val (.int (1 : Int32))] [(.int (1 : Int32)), (.int (1 : Int32))])
    refine own_go (fun _ k => XS.icmpNo X110.here hx rfl (hb hby at_131) rfl (teq (by decide : (1 : Int32) = (1 : Int32))).2 k) ?_
    show own_Run p e below _ T110 (mkF m 134 #[.val (.int p1), .val (.ref b42), .val (.int (6 : Int32)), .val (.ref o6), .val (.int (1 : Int32)), .val (.ref s6), .val (.int (1 : Int32)), .val (.int (1 : Int32))] [])
    refine own_go (fun _ k => XS.iconst X110.here hx rfl (hb hby at_134) k) ?_
    refine own_go (fun _ k => XS.goto X110.here hx rfl (pc0 := 135) (pc' := 139) rfl (hb hby at_135) (by decide) (by decide) k) ?_
    show own_Run p e below _ T110 (mkF m 139 #[.val (.int p1), .val (.ref b42), .val (.int (6 : Int32)), .val (.ref o6), .val (.int (1 : Int32)), .val (.ref s6), .val (.int (1 : Int32)), .val (.int (1 : Int32))] [(.int (1 : Int32))])
    refine own_done (Q := fun v h L => Q0 Z p1 cs fm o0 s0 v0 kv0 d0 o1 s1 v1 kv1 d1 o2 s2 v2 kv2 d2 o3 s3 v3 kv3 d3 o4 s4 v4 kv4 d4 o5 s5 v5 kv5 d5 o6 s6 v6 kv6 d6 o7 s7 v7 kv7 d7 h0 n0 v h L) (v := (some (.int (1 : Int32)))) X110 (fun h => by rw [hret] at h; cases h) hlk (fun fs hr => retN X110 hx (t := .boolean) hret (by simp) (hb hby at_139) hr) ?_ (by decide) (by decide)
    show Q0 Z p1 cs fm o0 s0 v0 kv0 d0 o1 s1 v1 kv1 d1 o2 s2 v2 kv2 d2 o3 s3 v3 kv3 d3 o4 s4 v4 kv4 d4 o5 s5 v5 kv5 d5 o6 s6 v6 kv6 d6 o7 s7 v7 kv7 d7 h0 n0 _ T110.heap _
    rw [e110]
    exact ⟨rfl, N110⟩
  · show own_Run p e below _ T74 (mkF m 64 #[.val (.int p1), .val (.ref b42), .val (.int (7 : Int32)), .unset, .unset, .unset, .unset, .unset] [])
    refine own_go (fun _ k => XS.aloadN X74.here hx rfl (hb hby at_64) rfl rfl k) ?_
    refine own_go (fun _ k => XS.iloadN X74.here hx rfl (hb hby at_65) rfl k) ?_
    show own_Run p e below _ T74 (mkF m 66 #[.val (.int p1), .val (.ref b42), .val (.int (7 : Int32)), .unset, .unset, .unset, .unset, .unset] [(.int (7 : Int32)), (.ref b42)])
    obtain ⟨cl111, Ar111, q111, S111, N111, H111, G111⟩ := id V_b42_c74
    have hin111 : ¬ ((7 : Int32) < 0 ∨ cl111.slots.size ≤ ((7 : Int32)).toNatClampNeg) := inb_of S111 ⟨by decide, by decide⟩
    refine own_go (X74.aaload hx (j := (7 : Int32)) (v := (.ref o7)) (by rw [e74]; exact Ar111.1) (State.isArrayOf_alike hZ.alike Ar111.2.1) rfl Ar111.2.2 hin111 (H111.at hin111 rfl) (g := (mkF m 66 #[.val (.int p1), .val (.ref b42), .val (.int (7 : Int32)), .unset, .unset, .unset, .unset, .unset] [(.int (7 : Int32)), (.ref b42)])) rfl rfl (hb hby at_66)) ?_
    show own_Run p e below _ T74 (mkF m 67 #[.val (.int p1), .val (.ref b42), .val (.int (7 : Int32)), .unset, .unset, .unset, .unset, .unset] [(.ref o7)])
    refine own_go (fun _ k => XS.astoreN X74.here hx rfl (hb hby at_67) rfl rfl (l' := #[.val (.int p1), .val (.ref b42), .val (.int (7 : Int32)), .val (.ref o7), .unset, .unset, .unset, .unset]) rfl k) ?_
    refine own_go (fun _ k => XS.aloadN X74.here hx rfl (hb hby at_68) rfl rfl k) ?_
    show own_Run p e below _ T74 (mkF m 69 #[.val (.int p1), .val (.ref b42), .val (.int (7 : Int32)), .val (.ref o7), .unset, .unset, .unset, .unset] [(.ref o7)])
    obtain ⟨cq112, kq112, q112a, q112b, q112c⟩ := isOf hZ e74 E_o7_c75
    obtain ⟨_, _, ⟨T112, L112, k112, n112⟩, -, X112, ⟨Lc112, hQ112, l112, y112, z112⟩, st112⟩ := X74.virtualBack hx (y := (⟨"com/example/error_to_hazard/errortohazard/model/CtlFormula$Temporal", "isUntil", "()Z"⟩ : MethodName)) (z := (⟨"com/example/error_to_hazard/errortohazard/model/CtlFormula$Temporal", "isUntil", "()Z"⟩ : MethodName)) hown (mvT hZ (W 21 rfl)) (mvT hZ (W 22 rfl)) (notFace_of_selects (args := #[]) (mvT hZ (W 24 rfl))) (mvT hZ (W 24 rfl)) (mvT hZ (W 23 rfl)) (by decide) (backOf (W := 0) (rm1o7 l Z a0 hw [] o7 o6 h74 n0 Z0_c75 S_AU_c75 S_EU_c75 (Ne.symm ne_o6_o7)) hZ (W 25 rfl) (W 3 rfl) (by decide) (by decide)) q112a q112c (g := (mkF m 69 #[.val (.int p1), .val (.ref b42), .val (.int (7 : Int32)), .val (.ref o7), .unset, .unset, .unset, .unset] [(.ref o7)])) rfl (by rw [hml]; rfl) (Steps.refl _) (argsL := []) (rest := []) (lenOf pd_4 rfl) rfl (by show 2 * 0 + _ ≤ _; exact Nat.le_of_eq rfl) (hb hby at_69) (fun _ _ => ⟨rfl, e74, (by decide : 1 + 0 ≤ _), (by decide : 8 + 0 ≤ _)⟩)
    dsimp only [Pt.U, Pt.locs, Pt.cells, Pt.slots] at X112 l112 y112 z112 st112 hQ112
    subst l112 y112 z112
    obtain ⟨rfl, N112q, e112⟩ := hQ112
    have N112 := Fr.app N74 N112q
    refine own_goT st112 ?_
    show own_Run p e below _ T112 (mkF m 72 #[.val (.int p1), .val (.ref b42), .val (.int (7 : Int32)), .val (.ref o7), .unset, .unset, .unset, .unset] [(.int (1 : Int32))])
    refine own_go (fun _ k => XS.istore X112.here hx rfl (hb hby at_72) rfl (l' := #[.val (.int p1), .val (.ref b42), .val (.int (7 : Int32)), .val (.ref o7), .val (.int (1 : Int32)), .unset, .unset, .unset]) rfl k) ?_
    refine own_go (fun _ k => XS.aloadN X112.here hx rfl (hb hby at_74) rfl rfl k) ?_
    show own_Run p e below _ T112 (mkF m 75 #[.val (.int p1), .val (.ref b42), .val (.int (7 : Int32)), .val (.ref o7), .val (.int (1 : Int32)), .unset, .unset, .unset] [(.ref o7)])
    obtain ⟨cq113, kq113, q113a, q113b, q113c⟩ := isOf hZ e112 E_o7_c75
    obtain ⟨_, _, ⟨T113, L113, k113, n113⟩, -, X113, ⟨Lc113, hQ113, l113, y113, z113⟩, st113⟩ := X112.virtualBack hx (y := (⟨"com/example/error_to_hazard/errortohazard/model/CtlFormula$Temporal", "symbol", "()Ljava/lang/String;"⟩ : MethodName)) (z := (⟨"com/example/error_to_hazard/errortohazard/model/CtlFormula$Temporal", "symbol", "()Ljava/lang/String;"⟩ : MethodName)) hown (mvT hZ (W 28 rfl)) (mvT hZ (W 29 rfl)) (notFace_of_selects (args := #[]) (mvT hZ (W 31 rfl))) (mvT hZ (W 31 rfl)) (mvT hZ (W 30 rfl)) (by decide) (backOf (W := 0) (rm2 l Z a0 hw [] o7 s7 h74 n0 Z0_c75 F_symbol_o7_c75) hZ (W 32 rfl) (W 3 rfl) (by decide) (by decide)) q113a q113c (g := (mkF m 75 #[.val (.int p1), .val (.ref b42), .val (.int (7 : Int32)), .val (.ref o7), .val (.int (1 : Int32)), .unset, .unset, .unset] [(.ref o7)])) rfl (by rw [hml]; rfl) (Steps.refl _) (argsL := []) (rest := []) (lenOf pd_6 rfl) rfl (by show 2 * 0 + _ ≤ _; exact Nat.le_of_eq rfl) (hb hby at_75) (fun _ _ => ⟨rfl, e112, (by decide : 1 + 0 ≤ _), (by decide : 8 + 0 ≤ _)⟩)
    dsimp only [Pt.U, Pt.locs, Pt.cells, Pt.slots] at X113 l113 y113 z113 st113 hQ113
    subst l113 y113 z113
    obtain ⟨rfl, N113q, e113⟩ := hQ113
    have N113 := Fr.app N112 N113q
    refine own_goT st113 ?_
    show own_Run p e below _ T113 (mkF m 78 #[.val (.int p1), .val (.ref b42), .val (.int (7 : Int32)), .val (.ref o7), .val (.int (1 : Int32)), .unset, .unset, .unset] [(.ref s7)])
    refine own_go (fun _ k => XS.astore X113.here hx rfl (hb hby at_78) rfl rfl (l' := #[.val (.int p1), .val (.ref b42), .val (.int (7 : Int32)), .val (.ref o7), .val (.int (1 : Int32)), .val (.ref s7), .unset, .unset]) rfl k) ?_
    refine own_go (fun _ k => XS.aload X113.here hx rfl (hb hby at_80) rfl rfl k) ?_
    show own_Run p e below _ T113 (mkF m 82 #[.val (.int p1), .val (.ref b42), .val (.int (7 : Int32)), .val (.ref o7), .val (.int (1 : Int32)), .val (.ref s7), .unset, .unset] [(.ref s7)])
    obtain ⟨cq114, kq114, q114a, q114b, q114c⟩ := isOf hZ e113 E_s7_c75
    obtain ⟨_, _, ⟨T114, L114, k114, n114⟩, -, X114, ⟨Lc114, hQ114, l114, y114, z114⟩, st114⟩ := X113.virtualBack hx (y := (⟨"java/lang/String", "length", "()I"⟩ : MethodName)) (z := (⟨"java/lang/String", "length", "()I"⟩ : MethodName)) hown (mvT hZ (W 35 rfl)) (mvT hZ (W 36 rfl)) (notFace_of_selects (args := #[]) (mvT hZ (W 38 rfl))) (mvT hZ (W 38 rfl)) (mvT hZ (W 37 rfl)) (by decide) (backOf (W := 0) (rm3 l Z a0 hw [] s7 cs v7 kv7 d7 (91 : Int32) h74 n0 Z0_c75 S_COMPACT_STRINGS_c75 (hcs) E_s7_c75 F_coder_s7_c75 F_value_s7_c75 V_v7_c75) hZ (W 40 rfl) (W 39 rfl) (by decide) (by decide)) q114a q114c (g := (mkF m 82 #[.val (.int p1), .val (.ref b42), .val (.int (7 : Int32)), .val (.ref o7), .val (.int (1 : Int32)), .val (.ref s7), .unset, .unset] [(.ref s7)])) rfl (by rw [hml]; rfl) (Steps.refl _) (argsL := []) (rest := []) (lenOf pd_7 rfl) rfl (by show 2 * 0 + _ ≤ _; exact Nat.le_of_eq rfl) (hb hby at_82) (fun _ _ => ⟨rfl, e113, (by decide : 1 + 0 ≤ _), (by decide : 8 + 0 ≤ _)⟩)
    dsimp only [Pt.U, Pt.locs, Pt.cells, Pt.slots] at X114 l114 y114 z114 st114 hQ114
    subst l114 y114 z114
    obtain ⟨rfl, N114q, e114⟩ := hQ114
    have N114 := Fr.app N113 N114q
    refine own_goT st114 ?_
    show own_Run p e below _ T114 (mkF m 85 #[.val (.int p1), .val (.ref b42), .val (.int (7 : Int32)), .val (.ref o7), .val (.int (1 : Int32)), .val (.ref s7), .unset, .unset] [(.int (2 : Int32))])
    refine own_go (fun _ k => XS.iconst X114.here hx rfl (hb hby at_85) k) ?_
    show own_Run p e below _ T114 (mkF m 86 #[.val (.int p1), .val (.ref b42), .val (.int (7 : Int32)), .val (.ref o7), .val (.int (1 : Int32)), .val (.ref s7), .unset, .unset] [(.int (2 : Int32)), (.int (2 : Int32))])
    refine own_go (fun _ k => XS.icmpNo X114.here hx rfl (hb hby at_86) rfl (teq (by decide : (2 : Int32) = (2 : Int32))).2 k) ?_
    show own_Run p e below _ T114 (mkF m 89 #[.val (.int p1), .val (.ref b42), .val (.int (7 : Int32)), .val (.ref o7), .val (.int (1 : Int32)), .val (.ref s7), .unset, .unset] [])
    refine own_go (fun _ k => XS.aload X114.here hx rfl (hb hby at_89) rfl rfl k) ?_
    refine own_go (fun _ k => XS.iconst X114.here hx rfl (hb hby at_91) k) ?_
    show own_Run p e below _ T114 (mkF m 92 #[.val (.int p1), .val (.ref b42), .val (.int (7 : Int32)), .val (.ref o7), .val (.int (1 : Int32)), .val (.ref s7), .unset, .unset] [(.int (1 : Int32)), (.ref s7)])
    obtain ⟨cq115, kq115, q115a, q115b, q115c⟩ := isOf hZ e114 E_s7_c75
    obtain ⟨_, _, ⟨T115, L115, k115, n115⟩, -, X115, ⟨Lc115, hQ115, l115, y115, z115⟩, st115⟩ := X114.virtualBack hx (y := (⟨"java/lang/String", "charAt", "(I)C"⟩ : MethodName)) (z := (⟨"java/lang/String", "charAt", "(I)C"⟩ : MethodName)) hown (mvT hZ (W 51 rfl)) (mvT hZ (W 52 rfl)) (notFace_of_selects (args := #[]) (mvT hZ (W 54 rfl))) (mvT hZ (W 54 rfl)) (mvT hZ (W 53 rfl)) (by decide) (backOf (W := 0) (rm5 l Z a0 hw [] s7 cs fm v7 kv7 d7 (91 : Int32) h74 n0 Z0_c75 S_COMPACT_STRINGS_c75 (hcs) E_s7_c75 F_coder_s7_c75 F_value_s7_c75 V_v7_c75 S_SIOOBE_FORMATTER_c75 (hfm) (Or.inr (Or.inr (Or.inr (rfl))))) hZ (W 55 rfl) (W 39 rfl) (by decide) (by decide)) q115a q115c (g := (mkF m 92 #[.val (.int p1), .val (.ref b42), .val (.int (7 : Int32)), .val (.ref o7), .val (.int (1 : Int32)), .val (.ref s7), .unset, .unset] [(.int (1 : Int32)), (.ref s7)])) rfl (by rw [hml]; rfl) (Steps.refl _) (argsL := [(.int (1 : Int32))]) (rest := []) (lenOf pd_8 rfl) rfl (by show 2 * 0 + _ ≤ _; exact Nat.le_of_eq rfl) (hb hby at_92) (fun _ _ => ⟨rfl, e114, (by decide : 1 + 0 ≤ _), (by decide : 8 + 0 ≤ _)⟩)
    dsimp only [Pt.U, Pt.locs, Pt.cells, Pt.slots] at X115 l115 y115 z115 st115 hQ115
    subst l115 y115 z115
    obtain ⟨rfl, N115q, e115⟩ := hQ115
    have N115 := Fr.app N114 N115q
    refine own_goT st115 ?_
    show own_Run p e below _ T115 (mkF m 95 #[.val (.int p1), .val (.ref b42), .val (.int (7 : Int32)), .val (.ref o7), .val (.int (1 : Int32)), .val (.ref s7), .unset, .unset] [(.int (91 : Int32))])
    refine own_go (fun _ k => XS.bipush X115.here hx rfl (hb hby at_95) k) ?_
    show own_Run p e below _ T115 (mkF m 97 #[.val (.int p1), .val (.ref b42), .val (.int (7 : Int32)), .val (.ref o7), .val (.int (1 : Int32)), .val (.ref s7), .unset, .unset] [(.int (91 : Int32)), (.int (91 : Int32))])
    refine own_go (fun _ k => XS.icmpNo X115.here hx rfl (hb hby at_97) rfl (teq (by decide : (91 : Int32) = (91 : Int32))).2 k) ?_
    show own_Run p e below _ T115 (mkF m 100 #[.val (.int p1), .val (.ref b42), .val (.int (7 : Int32)), .val (.ref o7), .val (.int (1 : Int32)), .val (.ref s7), .unset, .unset] [])
    refine own_go (fun _ k => XS.iconst X115.here hx rfl (hb hby at_100) k) ?_
    refine own_go (fun _ k => XS.goto X115.here hx rfl (pc0 := 101) (pc' := 105) rfl (hb hby at_101) (by decide) (by decide) k) ?_
    refine own_go (fun _ k => XS.istore X115.here hx rfl (hb hby at_105) rfl (l' := #[.val (.int p1), .val (.ref b42), .val (.int (7 : Int32)), .val (.ref o7), .val (.int (1 : Int32)), .val (.ref s7), .val (.int (1 : Int32)), .unset]) rfl k) ?_
    refine own_go (fun _ k => XS.iloadN X115.here hx rfl (hb hby at_107) rfl k) ?_
    show own_Run p e below _ T115 (mkF m 108 #[.val (.int p1), .val (.ref b42), .val (.int (7 : Int32)), .val (.ref o7), .val (.int (1 : Int32)), .val (.ref s7), .val (.int (1 : Int32)), .unset] [(.int (7 : Int32))])
    refine own_go (fun _ k => XS.bipush X115.here hx rfl (hb hby at_108) k) ?_
    show own_Run p e below _ T115 (mkF m 110 #[.val (.int p1), .val (.ref b42), .val (.int (7 : Int32)), .val (.ref o7), .val (.int (1 : Int32)), .val (.ref s7), .val (.int (1 : Int32)), .unset] [(.int (6 : Int32)), (.int (7 : Int32))])
    refine own_go (fun _ k => XS.icmpNo X115.here hx rfl (hb hby at_110) rfl (flt (by decide : ¬ ((7 : Int32) < (6 : Int32)))).1 k) ?_
    show own_Run p e below _ T115 (mkF m 113 #[.val (.int p1), .val (.ref b42), .val (.int (7 : Int32)), .val (.ref o7), .val (.int (1 : Int32)), .val (.ref s7), .val (.int (1 : Int32)), .unset] [])
    refine own_go (fun _ k => XS.iconst X115.here hx rfl (hb hby at_113) k) ?_
    refine own_go (fun _ k => XS.goto X115.here hx rfl (pc0 := 114) (pc' := 118) rfl (hb hby at_114) (by decide) (by decide) k) ?_
    refine own_go (fun _ k => XS.istore X115.here hx rfl (hb hby at_118) rfl (l' := #[.val (.int p1), .val (.ref b42), .val (.int (7 : Int32)), .val (.ref o7), .val (.int (1 : Int32)), .val (.ref s7), .val (.int (1 : Int32)), .val (.int (1 : Int32))]) rfl k) ?_
    refine own_go (fun _ k => XS.iload X115.here hx rfl (hb hby at_120) rfl k) ?_
    show own_Run p e below _ T115 (mkF m 122 #[.val (.int p1), .val (.ref b42), .val (.int (7 : Int32)), .val (.ref o7), .val (.int (1 : Int32)), .val (.ref s7), .val (.int (1 : Int32)), .val (.int (1 : Int32))] [(.int (1 : Int32))])
    refine own_go (fun _ k => XS.iload X115.here hx rfl (hb hby at_122) rfl k) ?_
    show own_Run p e below _ T115 (mkF m 124 #[.val (.int p1), .val (.ref b42), .val (.int (7 : Int32)), .val (.ref o7), .val (.int (1 : Int32)), .val (.ref s7), .val (.int (1 : Int32)), .val (.int (1 : Int32))] [(.int (1 : Int32)), (.int (1 : Int32))])
    refine own_go (fun _ k => XS.icmpNo X115.here hx rfl (hb hby at_124) rfl (teq (by decide : (1 : Int32) = (1 : Int32))).2 k) ?_
    show own_Run p e below _ T115 (mkF m 127 #[.val (.int p1), .val (.ref b42), .val (.int (7 : Int32)), .val (.ref o7), .val (.int (1 : Int32)), .val (.ref s7), .val (.int (1 : Int32)), .val (.int (1 : Int32))] [])
    refine own_go (fun _ k => XS.iload X115.here hx rfl (hb hby at_127) rfl k) ?_
    refine own_go (fun _ k => XS.iload X115.here hx rfl (hb hby at_129) rfl k) ?_
    show own_Run p e below _ T115 (mkF m 131 #[.val (.int p1), .val (.ref b42), .val (.int (7 : Int32)), .val (.ref o7), .val (.int (1 : Int32)), .val (.ref s7), .val (.int (1 : Int32)), .val (.int (1 : Int32))] [(.int (1 : Int32)), (.int (1 : Int32))])
    refine own_go (fun _ k => XS.icmpNo X115.here hx rfl (hb hby at_131) rfl (teq (by decide : (1 : Int32) = (1 : Int32))).2 k) ?_
    show own_Run p e below _ T115 (mkF m 134 #[.val (.int p1), .val (.ref b42), .val (.int (7 : Int32)), .val (.ref o7), .val (.int (1 : Int32)), .val (.ref s7), .val (.int (1 : Int32)), .val (.int (1 : Int32))] [])
    refine own_go (fun _ k => XS.iconst X115.here hx rfl (hb hby at_134) k) ?_
    refine own_go (fun _ k => XS.goto X115.here hx rfl (pc0 := 135) (pc' := 139) rfl (hb hby at_135) (by decide) (by decide) k) ?_
    show own_Run p e below _ T115 (mkF m 139 #[.val (.int p1), .val (.ref b42), .val (.int (7 : Int32)), .val (.ref o7), .val (.int (1 : Int32)), .val (.ref s7), .val (.int (1 : Int32)), .val (.int (1 : Int32))] [(.int (1 : Int32))])
    refine own_done (Q := fun v h L => Q0 Z p1 cs fm o0 s0 v0 kv0 d0 o1 s1 v1 kv1 d1 o2 s2 v2 kv2 d2 o3 s3 v3 kv3 d3 o4 s4 v4 kv4 d4 o5 s5 v5 kv5 d5 o6 s6 v6 kv6 d6 o7 s7 v7 kv7 d7 h0 n0 v h L) (v := (some (.int (1 : Int32)))) X115 (fun h => by rw [hret] at h; cases h) hlk (fun fs hr => retN X115 hx (t := .boolean) hret (by simp) (hb hby at_139) hr) ?_ (by decide) (by decide)
    show Q0 Z p1 cs fm o0 s0 v0 kv0 d0 o1 s1 v1 kv1 d1 o2 s2 v2 kv2 d2 o3 s3 v3 kv3 d3 o4 s4 v4 kv4 d4 o5 s5 v5 kv5 d5 o6 s6 v6 kv6 d6 o7 s7 v7 kv7 d7 h0 n0 _ T115.heap _
    rw [e115]
    exact ⟨rfl, N115⟩
set_option maxRecDepth 65536 in
set_option maxHeartbeats 40000000 in
theorem comes_1 {Post : Tables → Env → Array Value → State → Outcome → State → Prop} (hpost : ∀ tb e args s v u, (limb_1_1.after args s (.returned v) u = true ∧ limb_1_2.after args s (.returned v) u = true ∧ True) → FrameEnd s (.returned v) u (Jvm.fieldLocs frame_1_writes args s ++ Jvm.arrayLocs frame_1_arrays args s ++ Jvm.staticLocs frame_1_statics s) 16 128 → Post tb e args s (.returned v) u) :
    ArmFor flags0 classFile x code maxLocals ret World_1 tables_1 room_1 Calls_1 rest_1 Pre_1 Post := by
  intro l hfl _ _ p e ha hc hk s m args below hf hA hF happ hP
  obtain ⟨hcalls, hrest, hpre⟩ := hP
  obtain ⟨-, -, -, hnamed, -, -, -, hat⟩ := (Spec.applies_iff hf).mp happ
  obtain ⟨hg, hn⟩ := and_e (Cond.before_iff.mp (show (Jvm.Cond.and given_1 narrow_1).before args s = true from hpre))
  obtain ⟨hcount, hr0⟩ := and_e hg
  have ha0 := hr0
  obtain ⟨w0, rfl⟩ : ∃ w0 : Value, args = #[w0] := by
    have hs : args.size = 1 := by simpa [Cond.value, given_1] using hcount
    obtain ⟨L⟩ := args
    match L, hs with
    | [w0], _ => exact ⟨w0, rfl⟩
  have hw := fun d (hd : d ∈ tables_1) => atoms_spec (ws := Jvm.Cond.code x code maxLocals ret :: tables_1) hat d (List.mem_cons_of_mem _ hd)
  have W := fun (k : Nat) {d : Jvm.Cond} (h : tables_1[k]? = some d) => hw d (List.mem_of_getElem? h)
  have hfit : Fit s := fun {y c} hc i hi => by
    obtain ⟨ha, rfl⟩ := Array.getElem?_eq_some_iff.mp hc
    have q := List.all_eq_true.mp ((Array.all_eq_true_iff_forall_mem.mp hF) _ (Array.getElem_mem ha)) i (List.mem_range.mpr hi)
    simpa [Array.getElem?_eq_getElem hi] using q
  obtain ⟨i0, ei0⟩ := is_v ha0
  obtain rfl : w0 = (.int i0) := Option.some.inj ei0
  obtain ⟨hsets, hown0⟩ := atoms_of _ (rest_1_c_eq ▸ (show rest_1_c.before _ s = true from hrest))
  obtain ⟨hc0, hd0⟩ := and_e hn
  obtain ⟨hc1, hd1⟩ := and_e hd0
  obtain ⟨hc2, hd2⟩ := and_e hd1
  obtain ⟨hc3, hd3⟩ := and_e hd2
  obtain ⟨hc4, hd4⟩ := and_e hd3
  obtain ⟨hc5, hd5⟩ := and_e hd4
  obtain ⟨hc6, hd6⟩ := and_e hd5
  obtain ⟨hc7, hd7⟩ := and_e hd6
  obtain ⟨hc8, hd8⟩ := and_e hd7
  obtain ⟨hc9, hd9⟩ := and_e hd8
  obtain ⟨hc10, hd10⟩ := and_e hd9
  obtain ⟨hc11, hd11⟩ := and_e hd10
  obtain ⟨hc12, hd12⟩ := and_e hd11
  obtain ⟨hc13, hd13⟩ := and_e hd12
  obtain ⟨hc14, hd14⟩ := and_e hd13
  obtain ⟨hc15, hd15⟩ := and_e hd14
  obtain ⟨hc16, hd16⟩ := and_e hd15
  obtain ⟨hc17, hd17⟩ := and_e hd16
  obtain ⟨hc18, hd18⟩ := and_e hd17
  obtain ⟨hc19, hd19⟩ := and_e hd18
  obtain ⟨hc20, hd20⟩ := and_e hd19
  obtain ⟨hc21, hd21⟩ := and_e hd20
  obtain ⟨hc22, hd22⟩ := and_e hd21
  obtain ⟨hc23, hd23⟩ := and_e hd22
  obtain ⟨hc24, hd24⟩ := and_e hd23
  obtain ⟨hc25, hd25⟩ := and_e hd24
  obtain ⟨hc26, hd26⟩ := and_e hd25
  obtain ⟨hc27, hd27⟩ := and_e hd26
  obtain ⟨hc28, hd28⟩ := and_e hd27
  obtain ⟨hc29, hd29⟩ := and_e hd28
  obtain ⟨hc30, hd30⟩ := and_e hd29
  obtain ⟨hc31, hd31⟩ := and_e hd30
  obtain ⟨hc32, hd32⟩ := and_e hd31
  obtain ⟨hc33, hd33⟩ := and_e hd32
  obtain ⟨hc34, hd34⟩ := and_e hd33
  obtain ⟨hc35, hd35⟩ := and_e hd34
  obtain ⟨hc36, hd36⟩ := and_e hd35
  obtain ⟨hc37, hd37⟩ := and_e hd36
  obtain ⟨hc38, hd38⟩ := and_e hd37
  obtain ⟨hc39, hd39⟩ := and_e hd38
  obtain ⟨hc40, hd40⟩ := and_e hd39
  obtain ⟨hc41, hd41⟩ := and_e hd40
  obtain ⟨hc42, hd42⟩ := and_e hd41
  obtain ⟨hc43, hd43⟩ := and_e hd42
  obtain ⟨hc44, hd44⟩ := and_e hd43
  obtain ⟨hc45, hd45⟩ := and_e hd44
  obtain ⟨hc46, hd46⟩ := and_e hd45
  obtain ⟨hc47, hd47⟩ := and_e hd46
  obtain ⟨hc48, hd48⟩ := and_e hd47
  obtain ⟨hc49, hd49⟩ := and_e hd48
  obtain ⟨hc50, hd50⟩ := and_e hd49
  obtain ⟨hc51, hd51⟩ := and_e hd50
  obtain ⟨hc52, hd52⟩ := and_e hd51
  obtain ⟨hc53, hd53⟩ := and_e hd52
  obtain ⟨hc54, hd54⟩ := and_e hd53
  obtain ⟨hc55, hd55⟩ := and_e hd54
  obtain ⟨hc56, hd56⟩ := and_e hd55
  obtain ⟨hc57, hd57⟩ := and_e hd56
  obtain ⟨hc58, hd58⟩ := and_e hd57
  obtain ⟨hc59, hd59⟩ := and_e hd58
  obtain ⟨hc60, hd60⟩ := and_e hd59
  obtain ⟨hc61, hd61⟩ := and_e hd60
  obtain ⟨hc62, hd62⟩ := and_e hd61
  have hcs0 := hsets _ (List.mem_of_getElem? (i := 1) rfl)
  obtain ⟨cs, evcs⟩ := is_v (Cond.before_iff.mp hcs0)
  have S_cs := Sta.start evcs (Or.inl (hsets _ (List.mem_of_getElem? (i := 0) rfl)))
  have hcs : ¬ (cs = (0 : Int32)) := by
    intro k
    have q := not_v (Cond.before_iff.mp (hsets _ (List.mem_of_getElem? (i := 2) rfl)))
    rw [eq_i evcs (Term.int_eval _) (by rw [k])] at q
    cases q
  obtain ⟨fm, evfm, hfm⟩ := isR_v (Cond.before_iff.mp (hsets _ (List.mem_of_getElem? (i := 8) rfl)))
  have S_fm := Sta.start evfm (Or.inl (hsets _ (List.mem_of_getElem? (i := 7) rfl)))
  obtain ⟨o0, ev_o0⟩ := exa_v hc0
  have S_o0 := Sta.start ev_o0 (Or.inr ⟨(W 3 rfl), (W 4 rfl)⟩)
  have E_o0 := Exa.start ev_o0 hc0
  have O_o0 := Fld.start ((fld_at ev_o0).symm.trans (own_eqI hc8))
  obtain ⟨s0, ev_s0⟩ := exa_v hc11
  have E_s0 := Exa.start ev_s0 hc11
  have Fs_o0 := Fld.start ((fld_at ev_o0).symm.trans ev_s0)
  obtain ⟨v0, kv0, ev_v0, V_v0⟩ := own_str hfit hc12 hc13 hc56 hc15
  have Fv_o0 := Fld.start ((fld_at ev_s0).symm.trans ev_v0)
  have Fc_o0 := Fld.start ((fld_at ev_s0).symm.trans (own_eqI hc14))
  obtain ⟨o1, ev_o1⟩ := exa_v hc1
  have S_o1 := Sta.start ev_o1 (Or.inr ⟨(W 3 rfl), (W 7 rfl)⟩)
  have E_o1 := Exa.start ev_o1 hc1
  have O_o1 := Fld.start ((fld_at ev_o1).symm.trans (own_eqI hc38))
  obtain ⟨s1, ev_s1⟩ := exa_v hc39
  have E_s1 := Exa.start ev_s1 hc39
  have Fs_o1 := Fld.start ((fld_at ev_o1).symm.trans ev_s1)
  obtain ⟨v1, kv1, ev_v1, V_v1⟩ := own_str hfit hc40 hc41 hc61 hc43
  have Fv_o1 := Fld.start ((fld_at ev_s1).symm.trans ev_v1)
  have Fc_o1 := Fld.start ((fld_at ev_s1).symm.trans (own_eqI hc42))
  obtain ⟨o2, ev_o2⟩ := exa_v hc2
  have S_o2 := Sta.start ev_o2 (Or.inr ⟨(W 3 rfl), (W 9 rfl)⟩)
  have E_o2 := Exa.start ev_o2 hc2
  have O_o2 := Fld.start ((fld_at ev_o2).symm.trans (own_eqI hc32))
  obtain ⟨s2, ev_s2⟩ := exa_v hc33
  have E_s2 := Exa.start ev_s2 hc33
  have Fs_o2 := Fld.start ((fld_at ev_o2).symm.trans ev_s2)
  obtain ⟨v2, kv2, ev_v2, V_v2⟩ := own_str hfit hc34 hc35 hc60 hc37
  have Fv_o2 := Fld.start ((fld_at ev_s2).symm.trans ev_v2)
  have Fc_o2 := Fld.start ((fld_at ev_s2).symm.trans (own_eqI hc36))
  obtain ⟨o3, ev_o3⟩ := exa_v hc3
  have S_o3 := Sta.start ev_o3 (Or.inr ⟨(W 3 rfl), (W 11 rfl)⟩)
  have E_o3 := Exa.start ev_o3 hc3
  have O_o3 := Fld.start ((fld_at ev_o3).symm.trans (own_eqI hc16))
  obtain ⟨s3, ev_s3⟩ := exa_v hc17
  have E_s3 := Exa.start ev_s3 hc17
  have Fs_o3 := Fld.start ((fld_at ev_o3).symm.trans ev_s3)
  obtain ⟨v3, kv3, ev_v3, V_v3⟩ := own_str hfit hc18 hc19 hc57 hc21
  have Fv_o3 := Fld.start ((fld_at ev_s3).symm.trans ev_v3)
  have Fc_o3 := Fld.start ((fld_at ev_s3).symm.trans (own_eqI hc20))
  obtain ⟨o4, ev_o4⟩ := exa_v hc4
  have S_o4 := Sta.start ev_o4 (Or.inr ⟨(W 3 rfl), (W 13 rfl)⟩)
  have E_o4 := Exa.start ev_o4 hc4
  have O_o4 := Fld.start ((fld_at ev_o4).symm.trans (own_eqI hc44))
  obtain ⟨s4, ev_s4⟩ := exa_v hc45
  have E_s4 := Exa.start ev_s4 hc45
  have Fs_o4 := Fld.start ((fld_at ev_o4).symm.trans ev_s4)
  obtain ⟨v4, kv4, ev_v4, V_v4⟩ := own_str hfit hc46 hc47 hc62 hc49
  have Fv_o4 := Fld.start ((fld_at ev_s4).symm.trans ev_v4)
  have Fc_o4 := Fld.start ((fld_at ev_s4).symm.trans (own_eqI hc48))
  obtain ⟨o5, ev_o5⟩ := exa_v hc5
  have S_o5 := Sta.start ev_o5 (Or.inr ⟨(W 3 rfl), (W 15 rfl)⟩)
  have E_o5 := Exa.start ev_o5 hc5
  have O_o5 := Fld.start ((fld_at ev_o5).symm.trans (own_eqI hc50))
  obtain ⟨s5, ev_s5⟩ := exa_v hc51
  have E_s5 := Exa.start ev_s5 hc51
  have Fs_o5 := Fld.start ((fld_at ev_o5).symm.trans ev_s5)
  obtain ⟨v5, kv5, ev_v5, V_v5⟩ := own_str hfit hc52 hc53 hd62 hc55
  have Fv_o5 := Fld.start ((fld_at ev_s5).symm.trans ev_v5)
  have Fc_o5 := Fld.start ((fld_at ev_s5).symm.trans (own_eqI hc54))
  obtain ⟨o6, ev_o6⟩ := exa_v hc6
  have S_o6 := Sta.start ev_o6 (Or.inr ⟨(W 3 rfl), (W 17 rfl)⟩)
  have E_o6 := Exa.start ev_o6 hc6
  have O_o6 := Fld.start ((fld_at ev_o6).symm.trans (own_eqI hc9))
  obtain ⟨s6, ev_s6⟩ := exa_v hc22
  have E_s6 := Exa.start ev_s6 hc22
  have Fs_o6 := Fld.start ((fld_at ev_o6).symm.trans ev_s6)
  obtain ⟨v6, kv6, ev_v6, V_v6⟩ := own_str hfit hc23 hc24 hc58 hc26
  have Fv_o6 := Fld.start ((fld_at ev_s6).symm.trans ev_v6)
  have Fc_o6 := Fld.start ((fld_at ev_s6).symm.trans (own_eqI hc25))
  obtain ⟨o7, ev_o7⟩ := exa_v hc7
  have S_o7 := Sta.start ev_o7 (Or.inr ⟨(W 3 rfl), (W 19 rfl)⟩)
  have E_o7 := Exa.start ev_o7 hc7
  have O_o7 := Fld.start ((fld_at ev_o7).symm.trans (own_eqI hc10))
  obtain ⟨s7, ev_s7⟩ := exa_v hc27
  have E_s7 := Exa.start ev_s7 hc27
  have Fs_o7 := Fld.start ((fld_at ev_o7).symm.trans ev_s7)
  obtain ⟨v7, kv7, ev_v7, V_v7⟩ := own_str hfit hc28 hc29 hc59 hc31
  have Fv_o7 := Fld.start ((fld_at ev_s7).symm.trans ev_v7)
  have Fc_o7 := Fld.start ((fld_at ev_s7).symm.trans (own_eqI hc30))
  obtain ⟨n, o, h1, h2, h3, _, L, rfl, ⟨rfl, N⟩, hq⟩ := rm0 l s _ hw tables_1 i0 cs fm o0 s0 v0 kv0 (65 : Int32) o1 s1 v1 kv1 (69 : Int32) o2 s2 v2 kv2 (65 : Int32) o3 s3 v3 kv3 (69 : Int32) o4 s4 v4 kv4 (65 : Int32) o5 s5 v5 kv5 (69 : Int32) o6 s6 v6 kv6 (65 : Int32) o7 s7 v7 kv7 (69 : Int32) s.heap s.heap.size (Nat.le_refl _) S_cs hcs S_fm hfm S_o0 E_o0 Fs_o0 E_s0 Fv_o0 Fc_o0 V_v0 S_o1 E_o1 Fs_o1 E_s1 Fv_o1 Fc_o1 V_v1 S_o2 E_o2 Fs_o2 E_s2 Fv_o2 Fc_o2 V_v2 S_o3 E_o3 Fs_o3 E_s3 Fv_o3 Fc_o3 V_v3 S_o4 E_o4 Fs_o4 E_s4 Fv_o4 Fc_o4 V_v4 S_o5 E_o5 Fs_o5 E_s5 Fv_o5 Fc_o5 V_v5 S_o6 E_o6 Fs_o6 E_s6 Fv_o6 Fc_o6 V_v6 S_o7 E_o7 Fs_o7 E_s7 Fv_o7 Fc_o7 V_v7 (Fld.ne O_o0 O_o6 (by decide)) (Fld.ne O_o0 O_o7 (by decide)) (Fld.ne O_o1 O_o6 (by decide)) (Fld.ne O_o1 O_o7 (by decide)) (Fld.ne O_o2 O_o6 (by decide)) (Fld.ne O_o2 O_o7 (by decide)) (Fld.ne O_o3 O_o6 (by decide)) (Fld.ne O_o3 O_o7 (by decide)) (Fld.ne O_o4 O_o6 (by decide)) (Fld.ne O_o4 O_o7 (by decide)) (Fld.ne O_o5 O_o6 (by decide)) (Fld.ne O_o5 O_o7 (by decide)) (Fld.ne O_o6 O_o7 (by decide)) p e ha hc hk s m _ below hf ((Spec.applies_iff_loose hf).mp happ).1 ⟨rfl, State.Warmed39.refl s, rfl⟩ trivial
  refine ⟨n, _, h1, h2, h3, hpost _ _ _ _ _ _ ⟨Cond.after_iff.mpr rfl, Cond.after_iff.mpr (eq_i res_at (Term.int_eval (1)) rfl), trivial⟩ ⟨hq.1, hq.2.1, (hq.2.2.sift fun y hy => Or.inr (N y hy)).mono (by decide) (by decide)⟩⟩
theorem main_1_1 : Claimed_1_1 := comes_1 fun _ _ _ _ _ _ h hF => ⟨h.1, hF⟩
theorem main_1_2 : Claimed_1_2 := comes_1 fun _ _ _ _ _ _ h hF => ⟨h.2.1, hF⟩
end Jvm.Pilot.@@N@@
namespace Jvm.Pilot.@@N@@
open Jvm Jvm.ClassFile Sem Op Lib Jvm.Free Jvm.Stand Jvm.Pilot.@@N@@.Jvm.D
/-! MADE BY PROGRAM (witnessworld.py) out of the Statement's table words and the real class files: 19 classes; the members and pool entries that the words name. The judged class is class 1, her method 1. -/
namespace start1
open Jvm.ClassFile
def u (s : String) : CpInfo := .utf8 (stringToUtf16 s)
/-- a pool by its gaps: so many unusable entries, then the entry; so many at the end -/
def gap : Nat → List CpInfo → List CpInfo
  | 0, r => r
  | n + 1, r => .unusable :: gap n r
def poolList (es : List (Nat × CpInfo)) (last : Nat) : List CpInfo := es.foldr (fun e r => gap e.1 (e.2 :: r)) (gap last [])
def pool (es : List (Nat × CpInfo)) (last : Nat) : Array CpInfo := ⟨poolList es last⟩
def fileOf (pool : Array CpInfo) (this : Nat) (attrs : Array Attribute := #[]) (ms : Array MethodInfo := #[]) (fl : Nat := 33) (sup : Nat := 0) (ifs : Array Nat := #[]) (fds : Array FieldInfo := #[]) : ClassFile where
  minorVersion := 0
  majorVersion := 65
  constantPool := pool
  accessFlags := fl
  thisClass := this
  superClass := sup
  interfaces := ifs
  fields := fds
  methods := ms
  attributes := attrs
def plain (name : String) (sup : Option ClassId) : Class where
  name := name
  kind := .ordinary
  loader := none
  accessFlags := 33
  super := sup
  interfaces := #[]
  cf := none
  fields := #[]
  methods := #[]
  instanceTypes := #[]
  staticTypes := #[]
  resolved := #[]
  callSites := []
  init := .initialized
  statics := none
  mirror := none

def pool0 : Array CpInfo := pool [(5, u "<init>"), (0, u "()V"), (1, .class_ 10), (1, u "java/lang/Object")] 113

def k0m0 : Method := { name := "<init>", desc := "()V", sig := { parameters := [], returnType := none }, accessFlags := 1, code := none }
/-- java/lang/Object -/
def k0 : Class := { plain "java/lang/Object" none with
  accessFlags := 33
  interfaces := #[]
  cf := some (fileOf pool0 8 #[] #[{ accessFlags := 1, nameIndex := 5, descriptorIndex := 6, attributes := #[] }] 33 0 #[] #[])
  fields := #[]
  methods := #[k0m0]
  instanceTypes := #[]
  staticTypes := #[]
  resolved := Array.replicate 124 none
  statics := none }

def pool1 : Array CpInfo := pool [(2, .class_ 4), (1, u "java/lang/Object"), (0, u "<init>"), (0, u "()V"), (0, .class_ 8), (0, u "com/example/error_to_hazard/errortohazard/model/CtlFormula$Temporal"), (0, .fieldref 7 10), (0, .nameAndType 11 12), (0, u "AX"), (0, u "Lcom/example/error_to_hazard/errortohazard/model/CtlFormula$Temporal;"), (0, .fieldref 7 14), (0, .nameAndType 15 12), (0, u "EX"), (0, .fieldref 7 17), (0, .nameAndType 18 12), (0, u "AF"), (0, .fieldref 7 20), (0, .nameAndType 21 12), (0, u "EF"), (0, .fieldref 7 23), (0, .nameAndType 24 12), (0, u "AG"), (0, .fieldref 7 26), (0, .nameAndType 27 12), (0, u "EG"), (0, .fieldref 7 29), (0, .nameAndType 30 12), (0, u "AU"), (0, .fieldref 7 32), (0, .nameAndType 33 12), (0, u "EU"), (0, .integer 2147483647), (0, .methodref 7 36), (0, .nameAndType 37 38), (0, u "isUntil"), (0, u "()Z"), (0, .methodref 7 40), (0, .nameAndType 41 42), (0, u "symbol"), (0, u "()Ljava/lang/String;"), (0, .methodref 44 45), (0, .class_ 46), (0, .nameAndType 47 48), (0, u "java/lang/String"), (0, u "length"), (0, u "()I"), (0, .methodref 44 50), (0, .nameAndType 51 52), (0, u "charAt"), (0, u "(I)C"), (0, .class_ 54), (0, u "com/example/error_to_hazard/errortohazard/model/TemporalIsUntilPinLaw"), (2, u "law"), (0, u "(I)Z")] 9

def k1m0 : Method := { name := "<init>", desc := "()V", sig := { parameters := [], returnType := none }, accessFlags := 1, code := none }
def k1c1 : Code := { maxStack := 4, maxLocals := 8, code := code, exceptionTable := #[], attributes := #[] }
def k1m1 : Method := { name := "law", desc := "(I)Z", sig := { parameters := [.int], returnType := some .boolean }, accessFlags := 9, code := some k1c1 }
/-- com/example/error_to_hazard/errortohazard/model/TemporalIsUntilPinLaw -/
def k1 : Class := { plain "com/example/error_to_hazard/errortohazard/model/TemporalIsUntilPinLaw" (some 0) with
  accessFlags := 49
  interfaces := #[]
  cf := some (fileOf pool1 53 #[] #[{ accessFlags := 1, nameIndex := 5, descriptorIndex := 6, attributes := #[] }, { accessFlags := 9, nameIndex := 57, descriptorIndex := 58, attributes := #[] }] 49 2 #[] #[])
  fields := #[]
  methods := #[k1m0, k1m1]
  instanceTypes := #[]
  staticTypes := #[]
  resolved := Array.replicate 68 none
  statics := none }

def pool2 : Array CpInfo := pool [(1, .class_ 2), (0, u "java/lang/constant/Constable"), (0, .class_ 4), (0, u "java/lang/Object")] 6

/-- java/lang/constant/Constable -/
def k2 : Class := { plain "java/lang/constant/Constable" (some 0) with
  accessFlags := 1537
  interfaces := #[]
  cf := some (fileOf pool2 1 #[] #[] 1537 3 #[] #[])
  fields := #[]
  methods := #[]
  instanceTypes := #[]
  staticTypes := #[]
  resolved := Array.replicate 11 none
  statics := none }

def pool3 : Array CpInfo := pool [(1, .class_ 2), (0, u "java/lang/Comparable"), (0, .class_ 4), (0, u "java/lang/Object")] 7

/-- java/lang/Comparable -/
def k3 : Class := { plain "java/lang/Comparable" (some 0) with
  accessFlags := 1537
  interfaces := #[]
  cf := some (fileOf pool3 1 #[] #[] 1537 3 #[] #[])
  fields := #[]
  methods := #[]
  instanceTypes := #[]
  staticTypes := #[]
  resolved := Array.replicate 12 none
  statics := none }

def pool4 : Array CpInfo := pool [(1, .class_ 2), (0, u "java/io/Serializable"), (0, .class_ 4), (0, u "java/lang/Object")] 2

/-- java/io/Serializable -/
def k4 : Class := { plain "java/io/Serializable" (some 0) with
  accessFlags := 1537
  interfaces := #[]
  cf := some (fileOf pool4 1 #[] #[] 1537 3 #[] #[])
  fields := #[]
  methods := #[]
  instanceTypes := #[]
  staticTypes := #[]
  resolved := Array.replicate 7 none
  statics := none }

def pool5 : Array CpInfo := pool [(2, .class_ 4), (1, u "java/lang/Enum"), (0, u "name"), (0, u "Ljava/lang/String;"), (2, u "ordinal"), (0, u "I"), (1, .class_ 14), (1, u "java/lang/Object"), (4, u "hash"), (86, .class_ 108), (1, u "java/lang/Enum$EnumDesc"), (2, .class_ 112), (0, u "java/lang/constant/Constable"), (0, .class_ 114), (0, u "java/lang/Comparable"), (0, .class_ 116), (0, u "java/io/Serializable")] 87

/-- java/lang/Enum -/
def k5 : Class := { plain "java/lang/Enum" (some 0) with
  accessFlags := 1057
  interfaces := #[2, 3, 4]
  cf := some (fileOf pool5 2 #[.nestMembers #[106]] #[] 1057 12 #[111, 113, 115] #[{ accessFlags := 18, nameIndex := 5, descriptorIndex := 6, attributes := #[] }, { accessFlags := 18, nameIndex := 9, descriptorIndex := 10, attributes := #[] }, { accessFlags := 2, nameIndex := 19, descriptorIndex := 10, attributes := #[] }])
  fields := #[{ name := "name", type := (.object "java/lang/String"), accessFlags := 18, slot := 0, constantValue := 0 }, { name := "ordinal", type := .int, accessFlags := 18, slot := 1, constantValue := 0 }, { name := "hash", type := .int, accessFlags := 2, slot := 2, constantValue := 0 }]
  methods := #[]
  instanceTypes := #[(.object "java/lang/String"), .int, .int]
  staticTypes := #[]
  resolved := Array.replicate 204 none
  statics := none }

def pool6 : Array CpInfo := pool [(1, .class_ 2), (0, u "com/example/error_to_hazard/errortohazard/model/CtlFormula$Temporal"), (2, u "AX"), (0, u "Lcom/example/error_to_hazard/errortohazard/model/CtlFormula$Temporal;"), (2, u "EX"), (2, u "AF"), (2, u "EF"), (2, u "AG"), (2, u "EG"), (0, .fieldref 1 23), (0, .nameAndType 24 6), (0, u "AU"), (0, .fieldref 1 26), (0, .nameAndType 27 6), (0, u "EU"), (2, u "$VALUES"), (0, u "[Lcom/example/error_to_hazard/errortohazard/model/CtlFormula$Temporal;"), (6, .class_ 40), (1, u "java/lang/Enum"), (6, .fieldref 1 48), (0, .nameAndType 49 50), (0, u "symbol"), (0, u "Ljava/lang/String;"), (36, u "isUntil"), (0, u "()Z"), (0, u "()Ljava/lang/String;"), (6, .class_ 97), (0, u "com/example/error_to_hazard/errortohazard/model/CtlFormula")] 2

def k6c0 : Code := { maxStack := 2, maxLocals := 1, code := prog_57_method_5_code, exceptionTable := #[], attributes := #[] }
def k6m0 : Method := { name := "isUntil", desc := "()Z", sig := { parameters := [], returnType := some .boolean }, accessFlags := 1, code := some k6c0 }
def k6c1 : Code := { maxStack := 1, maxLocals := 1, code := prog_57_method_6_code, exceptionTable := #[], attributes := #[] }
def k6m1 : Method := { name := "symbol", desc := "()Ljava/lang/String;", sig := { parameters := [], returnType := some (.object "java/lang/String") }, accessFlags := 1, code := some k6c1 }
/-- com/example/error_to_hazard/errortohazard/model/CtlFormula$Temporal -/
def k6 : Class := { plain "com/example/error_to_hazard/errortohazard/model/CtlFormula$Temporal" (some 5) with
  accessFlags := 16433
  interfaces := #[]
  cf := some (fileOf pool6 1 #[.nestHost 96] #[{ accessFlags := 1, nameIndex := 87, descriptorIndex := 88, attributes := #[] }, { accessFlags := 1, nameIndex := 49, descriptorIndex := 89, attributes := #[] }] 16433 38 #[] #[{ accessFlags := 16409, nameIndex := 5, descriptorIndex := 6, attributes := #[] }, { accessFlags := 16409, nameIndex := 9, descriptorIndex := 6, attributes := #[] }, { accessFlags := 16409, nameIndex := 12, descriptorIndex := 6, attributes := #[] }, { accessFlags := 16409, nameIndex := 15, descriptorIndex := 6, attributes := #[] }, { accessFlags := 16409, nameIndex := 18, descriptorIndex := 6, attributes := #[] }, { accessFlags := 16409, nameIndex := 21, descriptorIndex := 6, attributes := #[] }, { accessFlags := 16409, nameIndex := 24, descriptorIndex := 6, attributes := #[] }, { accessFlags := 16409, nameIndex := 27, descriptorIndex := 6, attributes := #[] }, { accessFlags := 18, nameIndex := 49, descriptorIndex := 50, attributes := #[] }, { accessFlags := 4122, nameIndex := 30, descriptorIndex := 31, attributes := #[] }])
  fields := #[{ name := "AX", type := (.object "com/example/error_to_hazard/errortohazard/model/CtlFormula$Temporal"), accessFlags := 16409, slot := 0, constantValue := 0 }, { name := "EX", type := (.object "com/example/error_to_hazard/errortohazard/model/CtlFormula$Temporal"), accessFlags := 16409, slot := 1, constantValue := 0 }, { name := "AF", type := (.object "com/example/error_to_hazard/errortohazard/model/CtlFormula$Temporal"), accessFlags := 16409, slot := 2, constantValue := 0 }, { name := "EF", type := (.object "com/example/error_to_hazard/errortohazard/model/CtlFormula$Temporal"), accessFlags := 16409, slot := 3, constantValue := 0 }, { name := "AG", type := (.object "com/example/error_to_hazard/errortohazard/model/CtlFormula$Temporal"), accessFlags := 16409, slot := 4, constantValue := 0 }, { name := "EG", type := (.object "com/example/error_to_hazard/errortohazard/model/CtlFormula$Temporal"), accessFlags := 16409, slot := 5, constantValue := 0 }, { name := "AU", type := (.object "com/example/error_to_hazard/errortohazard/model/CtlFormula$Temporal"), accessFlags := 16409, slot := 6, constantValue := 0 }, { name := "EU", type := (.object "com/example/error_to_hazard/errortohazard/model/CtlFormula$Temporal"), accessFlags := 16409, slot := 7, constantValue := 0 }, { name := "symbol", type := (.object "java/lang/String"), accessFlags := 18, slot := 3, constantValue := 0 }, { name := "$VALUES", type := (.array (.object "com/example/error_to_hazard/errortohazard/model/CtlFormula$Temporal")), accessFlags := 4122, slot := 8, constantValue := 0 }]
  methods := #[k6m0, k6m1]
  instanceTypes := #[(.object "java/lang/String"), .int, .int, (.object "java/lang/String")]
  staticTypes := #[(.object "com/example/error_to_hazard/errortohazard/model/CtlFormula$Temporal"), (.object "com/example/error_to_hazard/errortohazard/model/CtlFormula$Temporal"), (.object "com/example/error_to_hazard/errortohazard/model/CtlFormula$Temporal"), (.object "com/example/error_to_hazard/errortohazard/model/CtlFormula$Temporal"), (.object "com/example/error_to_hazard/errortohazard/model/CtlFormula$Temporal"), (.object "com/example/error_to_hazard/errortohazard/model/CtlFormula$Temporal"), (.object "com/example/error_to_hazard/errortohazard/model/CtlFormula$Temporal"), (.object "com/example/error_to_hazard/errortohazard/model/CtlFormula$Temporal"), (.array (.object "com/example/error_to_hazard/errortohazard/model/CtlFormula$Temporal"))]
  resolved := Array.replicate 100 none
  statics := some 0 }

def pool7 : Array CpInfo := pool [(2, .class_ 4), (1, u "java/lang/CharSequence"), (42, .class_ 48), (0, u "java/lang/CharSequence$1CodePointIterator"), (10, .class_ 60), (0, u "java/lang/CharSequence$1CharIterator"), (5, .class_ 67), (0, u "java/lang/Object")] 63

/-- java/lang/CharSequence -/
def k7 : Class := { plain "java/lang/CharSequence" (some 0) with
  accessFlags := 1537
  interfaces := #[]
  cf := some (fileOf pool7 2 #[.nestMembers #[47, 59]] #[] 1537 66 #[] #[])
  fields := #[]
  methods := #[]
  instanceTypes := #[]
  staticTypes := #[]
  resolved := Array.replicate 131 none
  statics := none }

def pool8 : Array CpInfo := pool [(1, .class_ 2), (0, u "java/lang/constant/ConstantDesc"), (0, .class_ 4), (0, u "java/lang/Object")] 32

/-- java/lang/constant/ConstantDesc -/
def k8 : Class := { plain "java/lang/constant/ConstantDesc" (some 0) with
  accessFlags := 1537
  interfaces := #[]
  cf := some (fileOf pool8 1 #[] #[] 1537 3 #[] #[])
  fields := #[]
  methods := #[]
  instanceTypes := #[]
  staticTypes := #[]
  resolved := Array.replicate 37 none
  statics := none }

def pool9 : Array CpInfo := pool [(2, .class_ 4), (1, u "java/lang/Object"), (0, u "<init>"), (0, u "()V"), (2, .fieldref 10 11), (0, .class_ 12), (0, .nameAndType 13 14), (0, u "java/lang/String"), (0, u "value"), (0, u "[B"), (0, .fieldref 10 16), (0, .nameAndType 17 18), (0, u "coder"), (0, u "B"), (2, u "hash"), (0, u "I"), (2, u "hashIsZero"), (0, u "Z"), (11, .fieldref 10 39), (0, .nameAndType 40 26), (0, u "COMPACT_STRINGS"), (66, .class_ 109), (1, u "java/lang/StringLatin1"), (32, u "()Z"), (191, u "()I"), (0, .methodref 10 336), (0, .nameAndType 17 337), (0, u "()B"), (25, u "([BI)C"), (27, u "(II)V"), (35, u "(I)C"), (64, .methodref 10 493), (0, .nameAndType 494 142), (0, u "isLatin1"), (0, .methodref 107 496), (0, .nameAndType 497 363), (0, u "charAt"), (3, u "checkIndex"), (5, u "length"), (67, .class_ 576), (0, u "java/lang/CharSequence"), (22, u "CASE_INSENSITIVE_ORDER"), (0, u "Ljava/util/Comparator;"), (452, .fieldref 1054 1055), (0, .class_ 1056), (0, .nameAndType 1057 1058), (0, u "jdk/internal/util/Preconditions"), (0, u "SIOOBE_FORMATTER"), (0, u "Ljava/util/function/BiFunction;"), (0, .methodref 1054 1060), (0, .nameAndType 501 1061), (0, u "(IILjava/util/function/BiFunction;)I"), (39, u "serialPersistentFields"), (0, u "[Ljava/io/ObjectStreamField;"), (0, .class_ 1104), (0, u "java/lang/String$CaseInsensitiveComparator"), (1, .class_ 1107), (0, u "java/io/Serializable"), (0, .class_ 1109), (0, u "java/lang/Comparable"), (0, .class_ 1111), (0, u "java/lang/constant/Constable"), (0, .class_ 1113), (0, u "java/lang/constant/ConstantDesc"), (2, u "serialVersionUID"), (0, u "J"), (3, u "REPL"), (0, u "C"), (2, u "LATIN1"), (1, u "UTF16")] 323

def k9m0 : Method := { name := "<init>", desc := "()V", sig := { parameters := [], returnType := none }, accessFlags := 1, code := none }
def k9c1 : Code := { maxStack := 2, maxLocals := 1, code := jdk_42_method_54_code, exceptionTable := #[], attributes := #[] }
def k9m1 : Method := { name := "length", desc := "()I", sig := { parameters := [], returnType := some .int }, accessFlags := 1, code := some k9c1 }
def k9c2 : Code := { maxStack := 2, maxLocals := 2, code := jdk_42_method_56_code, exceptionTable := #[], attributes := #[] }
def k9m2 : Method := { name := "charAt", desc := "(I)C", sig := { parameters := [.int], returnType := some .char }, accessFlags := 1, code := some k9c2 }
def k9c3 : Code := { maxStack := 1, maxLocals := 1, code := jdk_42_method_152_code, exceptionTable := #[], attributes := #[] }
def k9m3 : Method := { name := "coder", desc := "()B", sig := { parameters := [], returnType := some .byte }, accessFlags := 0, code := some k9c3 }
def k9c4 : Code := { maxStack := 1, maxLocals := 1, code := jdk_42_method_154_code, exceptionTable := #[], attributes := #[] }
def k9m4 : Method := { name := "isLatin1", desc := "()Z", sig := { parameters := [], returnType := some .boolean }, accessFlags := 0, code := some k9c4 }
def k9c5 : Code := { maxStack := 3, maxLocals := 2, code := jdk_42_method_155_code, exceptionTable := #[], attributes := #[] }
def k9m5 : Method := { name := "checkIndex", desc := "(II)V", sig := { parameters := [.int, .int], returnType := none }, accessFlags := 8, code := some k9c5 }
/-- java/lang/String -/
def k9 : Class := { plain "java/lang/String" (some 0) with
  accessFlags := 49
  interfaces := #[4, 3, 7, 2, 8]
  cf := some (fileOf pool9 10 #[.nestMembers #[1103]] #[{ accessFlags := 1, nameIndex := 5, descriptorIndex := 6, attributes := #[] }, { accessFlags := 1, nameIndex := 507, descriptorIndex := 334, attributes := #[] }, { accessFlags := 1, nameIndex := 497, descriptorIndex := 427, attributes := #[] }, { accessFlags := 0, nameIndex := 17, descriptorIndex := 337, attributes := #[] }, { accessFlags := 0, nameIndex := 494, descriptorIndex := 142, attributes := #[] }, { accessFlags := 8, nameIndex := 501, descriptorIndex := 391, attributes := #[] }] 49 2 #[1106, 1108, 575, 1110, 1112] #[{ accessFlags := 18, nameIndex := 13, descriptorIndex := 14, attributes := #[] }, { accessFlags := 18, nameIndex := 17, descriptorIndex := 18, attributes := #[] }, { accessFlags := 2, nameIndex := 21, descriptorIndex := 22, attributes := #[] }, { accessFlags := 2, nameIndex := 25, descriptorIndex := 26, attributes := #[] }, { accessFlags := 26, nameIndex := 1116, descriptorIndex := 1117, attributes := #[] }, { accessFlags := 24, nameIndex := 40, descriptorIndex := 26, attributes := #[] }, { accessFlags := 26, nameIndex := 1101, descriptorIndex := 1102, attributes := #[] }, { accessFlags := 26, nameIndex := 1121, descriptorIndex := 1122, attributes := #[] }, { accessFlags := 25, nameIndex := 599, descriptorIndex := 600, attributes := #[] }, { accessFlags := 24, nameIndex := 1125, descriptorIndex := 18, attributes := #[] }, { accessFlags := 24, nameIndex := 1127, descriptorIndex := 18, attributes := #[] }])
  fields := #[{ name := "value", type := (.array .byte), accessFlags := 18, slot := 0, constantValue := 0 }, { name := "coder", type := .byte, accessFlags := 18, slot := 1, constantValue := 0 }, { name := "hash", type := .int, accessFlags := 2, slot := 2, constantValue := 0 }, { name := "hashIsZero", type := .boolean, accessFlags := 2, slot := 3, constantValue := 0 }, { name := "serialVersionUID", type := .long, accessFlags := 26, slot := 0, constantValue := 0 }, { name := "COMPACT_STRINGS", type := .boolean, accessFlags := 24, slot := 1, constantValue := 0 }, { name := "serialPersistentFields", type := (.array (.object "java/io/ObjectStreamField")), accessFlags := 26, slot := 2, constantValue := 0 }, { name := "REPL", type := .char, accessFlags := 26, slot := 3, constantValue := 0 }, { name := "CASE_INSENSITIVE_ORDER", type := (.object "java/util/Comparator"), accessFlags := 25, slot := 4, constantValue := 0 }, { name := "LATIN1", type := .byte, accessFlags := 24, slot := 5, constantValue := 0 }, { name := "UTF16", type := .byte, accessFlags := 24, slot := 6, constantValue := 0 }]
  methods := #[k9m0, k9m1, k9m2, k9m3, k9m4, k9m5]
  instanceTypes := #[(.array .byte), .byte, .int, .boolean]
  staticTypes := #[.long, .boolean, (.array (.object "java/io/ObjectStreamField")), .char, (.object "java/util/Comparator"), .byte, .byte]
  resolved := Array.replicate 1451 none
  statics := some 1 }

def pool10 : Array CpInfo := pool [(1, .class_ 2), (0, u "java/lang/String"), (1, .class_ 6), (1, u "java/lang/Object"), (0, u "<init>"), (0, u "()V"), (0, .methodref 1 10), (0, .nameAndType 11 12), (0, u "checkIndex"), (0, u "(II)V"), (1, .class_ 16), (1, u "java/lang/StringLatin1"), (36, u "([BI)C"), (67, u "$assertionsDisabled"), (0, u "Z"), (98, .class_ 223), (1, u "java/lang/StringLatin1$LinesSpliterator"), (28, u "charAt"), (137, .class_ 391), (0, u "java/lang/StringLatin1$CharsSpliterator")] 3

def k10m0 : Method := { name := "<init>", desc := "()V", sig := { parameters := [], returnType := none }, accessFlags := 0, code := none }
def k10c1 : Code := { maxStack := 2, maxLocals := 2, code := jdk_43_method_2_code, exceptionTable := #[], attributes := #[] }
def k10m1 : Method := { name := "charAt", desc := "([BI)C", sig := { parameters := [(.array .byte), .int], returnType := some .char }, accessFlags := 9, code := some k10c1 }
/-- java/lang/StringLatin1 -/
def k10 : Class := { plain "java/lang/StringLatin1" (some 0) with
  accessFlags := 48
  interfaces := #[]
  cf := some (fileOf pool10 14 #[.nestMembers #[390, 221]] #[{ accessFlags := 0, nameIndex := 7, descriptorIndex := 8, attributes := #[] }, { accessFlags := 9, nameIndex := 252, descriptorIndex := 53, attributes := #[] }] 48 4 #[] #[{ accessFlags := 4120, nameIndex := 121, descriptorIndex := 122, attributes := #[] }])
  fields := #[{ name := "$assertionsDisabled", type := .boolean, accessFlags := 4120, slot := 0, constantValue := 0 }]
  methods := #[k10m0, k10m1]
  instanceTypes := #[]
  staticTypes := #[.boolean]
  resolved := Array.replicate 395 none
  statics := none }

def pool11 : Array CpInfo := pool [(2, .class_ 4), (1, u "java/lang/Object"), (0, u "<init>"), (0, u "()V"), (17, .class_ 26), (1, u "jdk/internal/util/Preconditions"), (6, u "checkIndex"), (21, .class_ 56), (0, u "jdk/internal/util/Preconditions$4"), (57, .class_ 115), (0, u "jdk/internal/util/Preconditions$1"), (7, u "SIOOBE_FORMATTER"), (0, u "Ljava/util/function/BiFunction;"), (0, .class_ 126), (0, u "jdk/internal/util/Preconditions$2"), (3, u "AIOOBE_FORMATTER"), (0, .class_ 132), (0, u "jdk/internal/util/Preconditions$3"), (3, u "IOOBE_FORMATTER"), (41, u "(IILjava/util/function/BiFunction;)I")] 15

def k11m0 : Method := { name := "<init>", desc := "()V", sig := { parameters := [], returnType := none }, accessFlags := 1, code := none }
def k11c1 : Code := { maxStack := 3, maxLocals := 3, code := jdk_41_method_11_code, exceptionTable := #[], attributes := #[] }
def k11m1 : Method := { name := "checkIndex", desc := "(IILjava/util/function/BiFunction;)I", sig := { parameters := [.int, .int, (.object "java/util/function/BiFunction")], returnType := some .int }, accessFlags := 9, code := some k11c1 }
/-- jdk/internal/util/Preconditions -/
def k11 : Class := { plain "jdk/internal/util/Preconditions" (some 0) with
  accessFlags := 33
  interfaces := #[]
  cf := some (fileOf pool11 24 #[.nestMembers #[55, 131, 125, 114]] #[{ accessFlags := 1, nameIndex := 5, descriptorIndex := 6, attributes := #[] }, { accessFlags := 9, nameIndex := 33, descriptorIndex := 178, attributes := #[] }] 33 2 #[] #[{ accessFlags := 25, nameIndex := 123, descriptorIndex := 124, attributes := #[] }, { accessFlags := 25, nameIndex := 130, descriptorIndex := 124, attributes := #[] }, { accessFlags := 25, nameIndex := 136, descriptorIndex := 124, attributes := #[] }])
  fields := #[{ name := "SIOOBE_FORMATTER", type := (.object "java/util/function/BiFunction"), accessFlags := 25, slot := 0, constantValue := 0 }, { name := "AIOOBE_FORMATTER", type := (.object "java/util/function/BiFunction"), accessFlags := 25, slot := 1, constantValue := 0 }, { name := "IOOBE_FORMATTER", type := (.object "java/util/function/BiFunction"), accessFlags := 25, slot := 2, constantValue := 0 }]
  methods := #[k11m0, k11m1]
  instanceTypes := #[]
  staticTypes := #[(.object "java/util/function/BiFunction"), (.object "java/util/function/BiFunction"), (.object "java/util/function/BiFunction")]
  resolved := Array.replicate 194 none
  statics := some 2 }

def pool12 : Array CpInfo := pool [(9, u "<init>"), (6, .class_ 18), (1, u "java/lang/Object"), (0, u "()V"), (1, .class_ 23), (1, u "jdk/internal/util/ArraysSupport"), (0, u "LOG2_ARRAY_LONG_INDEX_SCALE"), (0, u "I"), (2, u "U"), (0, u "Ljdk/internal/misc/Unsafe;"), (8, u "BIG_ENDIAN"), (0, u "Z"), (8, u "LOG2_BYTE_BIT_SIZE"), (4, u "LOG2_ARRAY_INT_INDEX_SCALE"), (54, u "JLA"), (0, u "Ljdk/internal/access/JavaLangAccess;"), (11, u "LOG2_ARRAY_BOOLEAN_INDEX_SCALE"), (9, u "LOG2_ARRAY_BYTE_INDEX_SCALE"), (5, u "LOG2_ARRAY_CHAR_INDEX_SCALE"), (5, u "LOG2_ARRAY_SHORT_INDEX_SCALE"), (18, u "LOG2_ARRAY_FLOAT_INDEX_SCALE"), (24, u "LOG2_ARRAY_DOUBLE_INDEX_SCALE"), (89, u "T_BOOLEAN"), (2, u "T_CHAR"), (1, u "T_FLOAT"), (1, u "T_DOUBLE"), (1, u "T_BYTE"), (1, u "T_SHORT"), (1, u "T_INT"), (1, u "T_LONG"), (1, u "SOFT_MAX_ARRAY_LENGTH")] 83

def k12m0 : Method := { name := "<init>", desc := "()V", sig := { parameters := [], returnType := none }, accessFlags := 2, code := none }
/-- jdk/internal/util/ArraysSupport -/
def k12 : Class := { plain "jdk/internal/util/ArraysSupport" (some 0) with
  accessFlags := 33
  interfaces := #[]
  cf := some (fileOf pool12 21 #[] #[{ accessFlags := 2, nameIndex := 9, descriptorIndex := 19, attributes := #[] }] 33 16 #[] #[{ accessFlags := 24, nameIndex := 28, descriptorIndex := 29, attributes := #[] }, { accessFlags := 26, nameIndex := 38, descriptorIndex := 39, attributes := #[] }, { accessFlags := 25, nameIndex := 121, descriptorIndex := 25, attributes := #[] }, { accessFlags := 25, nameIndex := 131, descriptorIndex := 25, attributes := #[] }, { accessFlags := 25, nameIndex := 137, descriptorIndex := 25, attributes := #[] }, { accessFlags := 25, nameIndex := 143, descriptorIndex := 25, attributes := #[] }, { accessFlags := 25, nameIndex := 53, descriptorIndex := 25, attributes := #[] }, { accessFlags := 25, nameIndex := 24, descriptorIndex := 25, attributes := #[] }, { accessFlags := 25, nameIndex := 162, descriptorIndex := 25, attributes := #[] }, { accessFlags := 25, nameIndex := 187, descriptorIndex := 25, attributes := #[] }, { accessFlags := 26, nameIndex := 48, descriptorIndex := 25, attributes := #[] }, { accessFlags := 25, nameIndex := 277, descriptorIndex := 25, attributes := #[] }, { accessFlags := 25, nameIndex := 280, descriptorIndex := 25, attributes := #[] }, { accessFlags := 25, nameIndex := 282, descriptorIndex := 25, attributes := #[] }, { accessFlags := 25, nameIndex := 284, descriptorIndex := 25, attributes := #[] }, { accessFlags := 25, nameIndex := 286, descriptorIndex := 25, attributes := #[] }, { accessFlags := 25, nameIndex := 288, descriptorIndex := 25, attributes := #[] }, { accessFlags := 25, nameIndex := 290, descriptorIndex := 25, attributes := #[] }, { accessFlags := 25, nameIndex := 292, descriptorIndex := 25, attributes := #[] }, { accessFlags := 26, nameIndex := 108, descriptorIndex := 109, attributes := #[] }, { accessFlags := 25, nameIndex := 294, descriptorIndex := 25, attributes := #[] }])
  fields := #[{ name := "U", type := (.object "jdk/internal/misc/Unsafe"), accessFlags := 24, slot := 0, constantValue := 0 }, { name := "BIG_ENDIAN", type := .boolean, accessFlags := 26, slot := 1, constantValue := 0 }, { name := "LOG2_ARRAY_BOOLEAN_INDEX_SCALE", type := .int, accessFlags := 25, slot := 2, constantValue := 0 }, { name := "LOG2_ARRAY_BYTE_INDEX_SCALE", type := .int, accessFlags := 25, slot := 3, constantValue := 0 }, { name := "LOG2_ARRAY_CHAR_INDEX_SCALE", type := .int, accessFlags := 25, slot := 4, constantValue := 0 }, { name := "LOG2_ARRAY_SHORT_INDEX_SCALE", type := .int, accessFlags := 25, slot := 5, constantValue := 0 }, { name := "LOG2_ARRAY_INT_INDEX_SCALE", type := .int, accessFlags := 25, slot := 6, constantValue := 0 }, { name := "LOG2_ARRAY_LONG_INDEX_SCALE", type := .int, accessFlags := 25, slot := 7, constantValue := 0 }, { name := "LOG2_ARRAY_FLOAT_INDEX_SCALE", type := .int, accessFlags := 25, slot := 8, constantValue := 0 }, { name := "LOG2_ARRAY_DOUBLE_INDEX_SCALE", type := .int, accessFlags := 25, slot := 9, constantValue := 0 }, { name := "LOG2_BYTE_BIT_SIZE", type := .int, accessFlags := 26, slot := 10, constantValue := 0 }, { name := "T_BOOLEAN", type := .int, accessFlags := 25, slot := 11, constantValue := 0 }, { name := "T_CHAR", type := .int, accessFlags := 25, slot := 12, constantValue := 0 }, { name := "T_FLOAT", type := .int, accessFlags := 25, slot := 13, constantValue := 0 }, { name := "T_DOUBLE", type := .int, accessFlags := 25, slot := 14, constantValue := 0 }, { name := "T_BYTE", type := .int, accessFlags := 25, slot := 15, constantValue := 0 }, { name := "T_SHORT", type := .int, accessFlags := 25, slot := 16, constantValue := 0 }, { name := "T_INT", type := .int, accessFlags := 25, slot := 17, constantValue := 0 }, { name := "T_LONG", type := .int, accessFlags := 25, slot := 18, constantValue := 0 }, { name := "JLA", type := (.object "jdk/internal/access/JavaLangAccess"), accessFlags := 26, slot := 19, constantValue := 0 }, { name := "SOFT_MAX_ARRAY_LENGTH", type := .int, accessFlags := 25, slot := 20, constantValue := 0 }]
  methods := #[k12m0]
  instanceTypes := #[]
  staticTypes := #[(.object "jdk/internal/misc/Unsafe"), .boolean, .int, .int, .int, .int, .int, .int, .int, .int, .int, .int, .int, .int, .int, .int, .int, .int, .int, (.object "jdk/internal/access/JavaLangAccess"), .int]
  resolved := Array.replicate 378 none
  statics := none }

def pool13 : Array CpInfo := pool [(1, u "java/lang/Cloneable"), (0, .class_ 1), (0, u "java/lang/Object"), (0, .class_ 3)] 3

/-- java/lang/Cloneable -/
def k13 : Class := { plain "java/lang/Cloneable" (some 0) with
  accessFlags := 1537
  interfaces := #[]
  cf := some (fileOf pool13 2 #[] #[] 1537 4 #[] #[])
  fields := #[]
  methods := #[]
  instanceTypes := #[]
  staticTypes := #[]
  resolved := Array.replicate 8 none
  statics := none }

/-- the primitive byte -/
def k14 : Class := { plain "byte" none with kind := .primitive 'B', accessFlags := 0x411 }
/-- [B -/
def k15 : Class := { plain "[B" (some 0) with kind := .array 14 .byte, interfaces := #[13, 4], accessFlags := 1041 }

/-- the primitive int -/
def k16 : Class := { plain "int" none with kind := .primitive 'I', accessFlags := 0x411 }
/-- [I -/
def k17 : Class := { plain "[I" (some 0) with kind := .array 16 .int, interfaces := #[13, 4], accessFlags := 1041 }

/-- [Lcom/example/error_to_hazard/errortohazard/model/CtlFormula$Temporal; -/
def k18 : Class := { plain "[Lcom/example/error_to_hazard/errortohazard/model/CtlFormula$Temporal;" (some 0) with kind := .array 6 (.object "com/example/error_to_hazard/errortohazard/model/CtlFormula$Temporal"), interfaces := #[13, 4], accessFlags := 1041 }

def heap : Heap := #[{ cls := 6, slots := #[.ref 5, .ref 8, .ref 11, .ref 14, .ref 17, .ref 20, .ref 23, .ref 26, .null], vm := .statics 6 },
  { cls := 9, slots := #[.long 0, .int 1, .null, .int 0, .null, .int 0, .int 0], vm := .statics 9 },
  { cls := 11, slots := #[.null, .null, .null], vm := .statics 11 },
  { cls := 15, slots := #[.int 65, .int 88], vm := .none },
  { cls := 9, slots := #[.ref 3, .int 0, .int 0, .int 0], vm := .none },
  { cls := 6, slots := #[.null, .int 0, .int 0, .ref 4], vm := .none },
  { cls := 15, slots := #[.int 69, .int 88], vm := .none },
  { cls := 9, slots := #[.ref 6, .int 0, .int 0, .int 0], vm := .none },
  { cls := 6, slots := #[.null, .int 1, .int 0, .ref 7], vm := .none },
  { cls := 15, slots := #[.int 65, .int 70], vm := .none },
  { cls := 9, slots := #[.ref 9, .int 0, .int 0, .int 0], vm := .none },
  { cls := 6, slots := #[.null, .int 2, .int 0, .ref 10], vm := .none },
  { cls := 15, slots := #[.int 69, .int 70], vm := .none },
  { cls := 9, slots := #[.ref 12, .int 0, .int 0, .int 0], vm := .none },
  { cls := 6, slots := #[.null, .int 3, .int 0, .ref 13], vm := .none },
  { cls := 15, slots := #[.int 65, .int 71], vm := .none },
  { cls := 9, slots := #[.ref 15, .int 0, .int 0, .int 0], vm := .none },
  { cls := 6, slots := #[.null, .int 4, .int 0, .ref 16], vm := .none },
  { cls := 15, slots := #[.int 69, .int 71], vm := .none },
  { cls := 9, slots := #[.ref 18, .int 0, .int 0, .int 0], vm := .none },
  { cls := 6, slots := #[.null, .int 5, .int 0, .ref 19], vm := .none },
  { cls := 15, slots := #[.int 65, .int 91], vm := .none },
  { cls := 9, slots := #[.ref 21, .int 0, .int 0, .int 0], vm := .none },
  { cls := 6, slots := #[.null, .int 6, .int 0, .ref 22], vm := .none },
  { cls := 15, slots := #[.int 69, .int 91], vm := .none },
  { cls := 9, slots := #[.ref 24, .int 0, .int 0, .int 0], vm := .none },
  { cls := 6, slots := #[.null, .int 7, .int 0, .ref 25], vm := .none }]
def classes : Array Class := #[k0, k1, k2, k3, k4, k5, k6, k7, k8, k9, k10, k11, k12, k13, k14, k15, k16, k17, k18]
def interned : List (Array UInt16 × Addr) := []
def slotsUsed : Nat := 99
def theMethod : MethodId := ⟨1, 1⟩
def args0 : Array Value := #[.int 3]
def aboutOver (below : List Frame) : State where
  vm := { classes := classes, interned := interned.toArray }
  heap := heap
  slotsUsed := slotsUsed
  threads := #[{ frames := .invoking theMethod args0 :: below }]
def below0 : List Frame := [.native { method := ⟨0, 0⟩, args := #[] }]
def about1 : State := aboutOver below0
def p0 : Program := .bare "" "" ""
def e0 : Env := launch0.env 0 0 0
theorem w_frames : about1.frames = Frame.invoking theMethod args0 :: below0 := rfl
set_option maxRecDepth 65536 in
theorem w_args : argsFit about1.vm theMethod args0 = true := by decide +kernel
set_option maxRecDepth 65536 in
theorem w_heap : heapFits about1 = true := by decide +kernel
set_option maxRecDepth 65536 in
theorem w_runnable : about1.curStatus? = some .runnable := by decide +kernel
set_option maxRecDepth 65536 in
theorem w_alone : about1.alone = true := by decide +kernel
set_option maxRecDepth 65536 in
theorem w_named : about1.methodNamed? x = some theMethod := by decide +kernel
set_option maxRecDepth 65536 in
theorem w_hears : about1.hears theMethod below0 = true := by decide +kernel
set_option maxRecDepth 65536 in
theorem w_ripe : about1.ripe theMethod args0 below0 = true := by decide +kernel
theorem w_running : about1.status = .running := rfl
set_option maxRecDepth 65536 in
theorem w_room : about1.hasRoom e0.platform room_1 = true :=
  launch0.hasRoom_least _ room_1 (by decide +kernel) (by decide +kernel) (by decide +kernel) (by decide +kernel) (by decide +kernel) (by decide +kernel)
theorem allAtoms_all (ts : List Jvm.Cond) (a : Array Jvm.Value) (st : Jvm.State) : (allAtoms ts).before a st = ts.all (fun c => c.before a st) := by
  induction ts with
  | nil => rfl
  | cons c t ih =>
    show (Jvm.Cond.and c (allAtoms t)).before a st = _
    rw [Jvm.Cond.before_and, ih, List.all_cons]
def words1 : List Jvm.Cond := Jvm.Cond.code x code maxLocals ret :: tables_1
/-- a 'code' word, met by the world's own term for the bytes: nothing is compared byte by byte -/
theorem code_word {y : MethodName} {bytes : ByteArray} {mx : Nat} {rt : Option FieldType} {a : Array Value} {s : State} {m : MethodId} {meth : Method} {c : Code} (h1 : s.methodNamed? y = some m) (h2 : s.vm.method? m = some meth) (h3 : meth.code = some c) (h4 : c.code = bytes)
    (h5 : (c.maxLocals == mx && c.exceptionTable.isEmpty && decide (c.maxStack ≤ mostOperands) && decide (meth.sig.returnType = rt) && !meth.locks && decide (parseMethodDescriptor y.desc = some meth.sig)) = true) : (Jvm.Cond.code y bytes mx rt).before a s = true := by
  simp only [Bool.and_eq_true, beq_iff_eq, Bool.not_eq_true', decide_eq_true_eq] at h5
  obtain ⟨⟨⟨⟨⟨g1, g2⟩, g3⟩, g4⟩, g5⟩, g6⟩ := h5
  simp [Cond.before, Cond.holds, Cond.value, h1, h2, h3, h4, g1, g2, g3, g4, g5, g6]
def isCode : Jvm.Cond → Bool
  | .code _ _ _ _ => true
  | _ => false
theorem all_split {L : List Jvm.Cond} {P : Jvm.Cond → Bool} (h1 : L.all (fun c => isCode c || P c) = true) (h2 : ∀ c ∈ L.filter isCode, P c = true) : L.all P = true := by
  refine List.all_eq_true.mpr fun c hc => ?_
  have h := List.all_eq_true.mp h1 c hc
  rcases Bool.eq_false_or_eq_true (isCode c) with hi | hi
  · exact h2 c (List.mem_filter.mpr ⟨hc, hi⟩)
  · simpa [hi] using h
set_option maxRecDepth 65536 in
theorem w_c0 : (Jvm.Cond.code x code maxLocals ret).before args0 about1 = true := code_word (m := ⟨1, 1⟩) (meth := k1m1) (c := k1c1) (by decide +kernel) rfl rfl rfl (by decide +kernel)
set_option maxRecDepth 65536 in
theorem w_c1 : (Jvm.Cond.code ({ cls := "com/example/error_to_hazard/errortohazard/model/CtlFormula$Temporal", name := "isUntil", desc := "()Z" } : Jvm.MethodName) prog_57_method_5_code (1 : Nat) (Option.some Jvm.ClassFile.FieldType.boolean)).before args0 about1 = true := code_word (m := ⟨6, 0⟩) (meth := k6m0) (c := k6c0) (by decide +kernel) rfl rfl rfl (by decide +kernel)
set_option maxRecDepth 65536 in
theorem w_c2 : (Jvm.Cond.code ({ cls := "com/example/error_to_hazard/errortohazard/model/CtlFormula$Temporal", name := "symbol", desc := "()Ljava/lang/String;" } : Jvm.MethodName) prog_57_method_6_code (1 : Nat) (Option.some (Jvm.ClassFile.FieldType.object "java/lang/String"))).before args0 about1 = true := code_word (m := ⟨6, 1⟩) (meth := k6m1) (c := k6c1) (by decide +kernel) rfl rfl rfl (by decide +kernel)
set_option maxRecDepth 65536 in
theorem w_c3 : (Jvm.Cond.code ({ cls := "java/lang/String", name := "length", desc := "()I" } : Jvm.MethodName) jdk_42_method_54_code (1 : Nat) (Option.some Jvm.ClassFile.FieldType.int)).before args0 about1 = true := code_word (m := ⟨9, 1⟩) (meth := k9m1) (c := k9c1) (by decide +kernel) rfl rfl rfl (by decide +kernel)
set_option maxRecDepth 65536 in
theorem w_c4 : (Jvm.Cond.code ({ cls := "java/lang/String", name := "coder", desc := "()B" } : Jvm.MethodName) jdk_42_method_152_code (1 : Nat) (Option.some Jvm.ClassFile.FieldType.byte)).before args0 about1 = true := code_word (m := ⟨9, 3⟩) (meth := k9m3) (c := k9c3) (by decide +kernel) rfl rfl rfl (by decide +kernel)
set_option maxRecDepth 65536 in
theorem w_c5 : (Jvm.Cond.code ({ cls := "java/lang/String", name := "charAt", desc := "(I)C" } : Jvm.MethodName) jdk_42_method_56_code (2 : Nat) (Option.some Jvm.ClassFile.FieldType.char)).before args0 about1 = true := code_word (m := ⟨9, 2⟩) (meth := k9m2) (c := k9c2) (by decide +kernel) rfl rfl rfl (by decide +kernel)
set_option maxRecDepth 65536 in
theorem w_c6 : (Jvm.Cond.code ({ cls := "java/lang/String", name := "isLatin1", desc := "()Z" } : Jvm.MethodName) jdk_42_method_154_code (1 : Nat) (Option.some Jvm.ClassFile.FieldType.boolean)).before args0 about1 = true := code_word (m := ⟨9, 4⟩) (meth := k9m4) (c := k9c4) (by decide +kernel) rfl rfl rfl (by decide +kernel)
set_option maxRecDepth 65536 in
theorem w_c7 : (Jvm.Cond.code ({ cls := "java/lang/StringLatin1", name := "charAt", desc := "([BI)C" } : Jvm.MethodName) jdk_43_method_2_code (2 : Nat) (Option.some Jvm.ClassFile.FieldType.char)).before args0 about1 = true := code_word (m := ⟨10, 1⟩) (meth := k10m1) (c := k10c1) (by decide +kernel) rfl rfl rfl (by decide +kernel)
set_option maxRecDepth 65536 in
theorem w_c8 : (Jvm.Cond.code ({ cls := "java/lang/String", name := "checkIndex", desc := "(II)V" } : Jvm.MethodName) jdk_42_method_155_code (2 : Nat) (Option.none : Option Jvm.ClassFile.FieldType)).before args0 about1 = true := code_word (m := ⟨9, 5⟩) (meth := k9m5) (c := k9c5) (by decide +kernel) rfl rfl rfl (by decide +kernel)
set_option maxRecDepth 65536 in
theorem w_c9 : (Jvm.Cond.code ({ cls := "jdk/internal/util/Preconditions", name := "checkIndex", desc := "(IILjava/util/function/BiFunction;)I" } : Jvm.MethodName) jdk_41_method_11_code (3 : Nat) (Option.some Jvm.ClassFile.FieldType.int)).before args0 about1 = true := code_word (m := ⟨11, 1⟩) (meth := k11m1) (c := k11c1) (by decide +kernel) rfl rfl rfl (by decide +kernel)
def codes1 : List Jvm.Cond := [Jvm.Cond.code x code maxLocals ret, Jvm.Cond.code ({ cls := "com/example/error_to_hazard/errortohazard/model/CtlFormula$Temporal", name := "isUntil", desc := "()Z" } : Jvm.MethodName) prog_57_method_5_code (1 : Nat) (Option.some Jvm.ClassFile.FieldType.boolean), Jvm.Cond.code ({ cls := "com/example/error_to_hazard/errortohazard/model/CtlFormula$Temporal", name := "symbol", desc := "()Ljava/lang/String;" } : Jvm.MethodName) prog_57_method_6_code (1 : Nat) (Option.some (Jvm.ClassFile.FieldType.object "java/lang/String")), Jvm.Cond.code ({ cls := "java/lang/String", name := "length", desc := "()I" } : Jvm.MethodName) jdk_42_method_54_code (1 : Nat) (Option.some Jvm.ClassFile.FieldType.int), Jvm.Cond.code ({ cls := "java/lang/String", name := "coder", desc := "()B" } : Jvm.MethodName) jdk_42_method_152_code (1 : Nat) (Option.some Jvm.ClassFile.FieldType.byte), Jvm.Cond.code ({ cls := "java/lang/String", name := "charAt", desc := "(I)C" } : Jvm.MethodName) jdk_42_method_56_code (2 : Nat) (Option.some Jvm.ClassFile.FieldType.char), Jvm.Cond.code ({ cls := "java/lang/String", name := "isLatin1", desc := "()Z" } : Jvm.MethodName) jdk_42_method_154_code (1 : Nat) (Option.some Jvm.ClassFile.FieldType.boolean), Jvm.Cond.code ({ cls := "java/lang/StringLatin1", name := "charAt", desc := "([BI)C" } : Jvm.MethodName) jdk_43_method_2_code (2 : Nat) (Option.some Jvm.ClassFile.FieldType.char), Jvm.Cond.code ({ cls := "java/lang/String", name := "checkIndex", desc := "(II)V" } : Jvm.MethodName) jdk_42_method_155_code (2 : Nat) (Option.none : Option Jvm.ClassFile.FieldType), Jvm.Cond.code ({ cls := "jdk/internal/util/Preconditions", name := "checkIndex", desc := "(IILjava/util/function/BiFunction;)I" } : Jvm.MethodName) jdk_41_method_11_code (3 : Nat) (Option.some Jvm.ClassFile.FieldType.int)]
set_option maxRecDepth 65536 in
theorem codes_eq : words1.filter isCode = codes1 := rfl
theorem w_codes : ∀ c ∈ words1.filter isCode, c.before args0 about1 = true := by
  rw [codes_eq]
  intro c hc
  simp only [codes1, List.mem_cons, List.not_mem_nil, or_false] at hc
  rcases hc with rfl | rfl | rfl | rfl | rfl | rfl | rfl | rfl | rfl | rfl
  · exact w_c0
  · exact w_c1
  · exact w_c2
  · exact w_c3
  · exact w_c4
  · exact w_c5
  · exact w_c6
  · exact w_c7
  · exact w_c8
  · exact w_c9
set_option maxRecDepth 65536 in
theorem w_t1 : (words1.take 24).all (fun c => isCode c || c.before args0 about1) = true := by decide +kernel
set_option maxRecDepth 65536 in
theorem w_t2 : ((words1.drop 24).take 24).all (fun c => isCode c || c.before args0 about1) = true := by decide +kernel
set_option maxRecDepth 65536 in
theorem w_t3 : (((words1.drop 24).drop 24).take 24).all (fun c => isCode c || c.before args0 about1) = true := by decide +kernel
set_option maxRecDepth 65536 in
theorem w_t4 : (((words1.drop 24).drop 24).drop 24).all (fun c => isCode c || c.before args0 about1) = true := by decide +kernel
theorem w_tables : (allAtoms (Jvm.Cond.code x code maxLocals ret :: tables_1)).before args0 about1 = true := by
  rw [allAtoms_all]
  show words1.all (fun c => c.before args0 about1) = true
  refine all_split ?_ w_codes
  rw [← List.take_append_drop 24 words1, List.all_append, w_t1, ← List.take_append_drop 24 (words1.drop 24), List.all_append, w_t2, ← List.take_append_drop 24 ((words1.drop 24).drop 24), List.all_append, w_t3, w_t4]
  rfl
set_option maxRecDepth 65536 in
theorem w_rest : rest_1_c.before args0 about1 = true := by decide +kernel
set_option maxRecDepth 65536 in
theorem w_case : (Jvm.Cond.and given_1 narrow_1).before args0 about1 = true := by decide +kernel
theorem w_applies : (headSpec (Jvm.Cond.code x code maxLocals ret :: tables_1) room_1).applies x e0.platform about1 = true :=
  (Spec.applies_iff w_frames).mpr ⟨w_running, w_runnable, w_alone, w_named, w_hears, w_ripe, w_room, w_tables⟩
theorem atStart : AtStart classFile x code maxLocals ret World_1 tables_1 room_1 Calls_1 rest_1 Pre_1 launch0 p0 e0 about1 theMethod args0 below0 :=
  ⟨lists_1, trivial, launch0.admits_env _ _ _, launch0.least_env, fairChoices_fair.cas, fairChoices_fair.clock, w_frames, w_args, w_heap, w_applies, trivial, w_rest, w_case⟩
end start1
theorem witness_1 : WitnessClaimed_1 := ⟨start1.p0, start1.e0, start1.about1, start1.theMethod, start1.args0, start1.below0, start1.atStart⟩
end Jvm.Pilot.@@N@@
