import PyProof.Rows.All
import Wide.All
import OpenK.AllK
import Wide.FinOn
import PySem.Challenge.RW_oy0064_01
set_option Elab.async false
section PartHarper
open PySem
namespace MineH
/-! The plain law: Harper's theorem on the cube of five places, by numbers alone. -/
noncomputable def Cube : Nat → Type
  | 0 => Bool
  | n + 1 => Cube n × Cube n
noncomputable def card : (n : Nat) → Cube n → Nat
  | 0, b => match (b : Bool) with | true => 1 | false => 0
  | n + 1, c => card n c.1 + card n c.2
noncomputable def join : (n : Nat) → Cube n → Cube n → Cube n
  | 0, a, b => ((a : Bool) || (b : Bool) : Bool)
  | n + 1, c, d => (join n c.1 d.1, join n c.2 d.2)
noncomputable def nb : (n : Nat) → Cube n → Cube n
  | 0, b => b
  | n + 1, c => (join n (nb n c.1) c.2, join n (nb n c.2) c.1)
theorem card_join_l : ∀ (n : Nat) (a b : Cube n), card n a ≤ card n (join n a b)
  | 0, a, b => by
    show card 0 a ≤ card 0 (join 0 a b)
    cases (show Bool from a) <;> cases (show Bool from b) <;> simp [card, join]
  | n + 1, a, b => Nat.add_le_add (card_join_l n a.1 b.1) (card_join_l n a.2 b.2)
theorem card_join_r : ∀ (n : Nat) (a b : Cube n), card n b ≤ card n (join n a b)
  | 0, a, b => by
    show card 0 b ≤ card 0 (join 0 a b)
    cases (show Bool from a) <;> cases (show Bool from b) <;> simp [card, join]
  | n + 1, a, b => Nat.add_le_add (card_join_r n a.1 b.1) (card_join_r n a.2 b.2)
theorem card_le : ∀ (n : Nat) (a : Cube n), card n a ≤ 2 ^ n
  | 0, a => by
    show card 0 a ≤ 1
    cases (show Bool from a) <;> simp [card]
  | n + 1, a => by
    have h1 := card_le n a.1
    have h2 := card_le n a.2
    show card n a.1 + card n a.2 ≤ 2 ^ (n + 1)
    rw [Nat.pow_succ]; omega
/-- how many lie within a step of the first m of the order, in the cube of n places -/
noncomputable def least : Nat → List Nat
  | 0 => [0, 1]
  | 1 => [0, 2, 2]
  | 2 => [0, 3, 4, 4, 4]
  | 3 => [0, 4, 6, 7, 7, 8, 8, 8, 8]
  | 4 => [0, 5, 8, 10, 11, 11, 13, 14, 14, 15, 15, 15, 16, 16, 16, 16, 16]
  | _ => [0, 6, 10, 13, 15, 16, 16, 19, 21, 22, 22, 24, 25, 25, 26, 26, 26, 28, 29, 29, 30, 30, 30, 31, 31, 31, 31, 32, 32, 32, 32, 32, 32]
noncomputable def lst (n m : Nat) : Nat := (least n).getD m 0
noncomputable def stepOk (n : Nat) : Bool := (List.range (2 ^ n + 1)).all fun a => (List.range (2 ^ n + 1)).all fun b => decide (lst (n + 1) (a + b) ≤ max (lst n a) b + max (lst n b) a)
theorem harper_step {n : Nat} (hn : stepOk n = true) (ih : ∀ S : Cube n, lst n (card n S) ≤ card n (nb n S)) (S : Cube (n + 1)) : lst (n + 1) (card (n + 1) S) ≤ card (n + 1) (nb (n + 1) S) := by
  have ha := card_le n S.1
  have hb := card_le n S.2
  have h := List.all_eq_true.mp hn (card n S.1) (List.mem_range.mpr (by omega))
  have h' := of_decide_eq_true (List.all_eq_true.mp h (card n S.2) (List.mem_range.mpr (by omega)))
  have e1 := ih S.1
  have e2 := ih S.2
  have j1 := card_join_l n (nb n S.1) S.2
  have j2 := card_join_r n (nb n S.1) S.2
  have j3 := card_join_l n (nb n S.2) S.1
  have j4 := card_join_r n (nb n S.2) S.1
  show lst (n + 1) (card n S.1 + card n S.2) ≤ card n (join n (nb n S.1) S.2) + card n (join n (nb n S.2) S.1)
  omega
theorem harper0 (S : Cube 0) : lst 0 (card 0 S) ≤ card 0 (nb 0 S) := by
  cases (show Bool from S) <;> simp [card, nb, lst, least]
theorem harper5 (S : Cube 5) : lst 5 (card 5 S) ≤ card 5 (nb 5 S) :=
  harper_step (by decide +kernel) (harper_step (by decide +kernel) (harper_step (by decide +kernel) (harper_step (by decide +kernel) (harper_step (by decide +kernel) harper0)))) S

/-- the cube of a test of the numbers -/
noncomputable def ofP : (n : Nat) → (Nat → Bool) → Cube n
  | 0, p => p 0
  | n + 1, p => (ofP n p, ofP n fun i => p (i + 2 ^ n))
noncomputable def cntP (p : Nat → Bool) : Nat → Nat
  | 0 => 0
  | n + 1 => cntP p n + (if p n = true then 1 else 0)
theorem cntP_add (p : Nat → Bool) (a : Nat) : ∀ b : Nat, cntP p (a + b) = cntP p a + cntP (fun i => p (i + a)) b
  | 0 => rfl
  | b + 1 => by
    show cntP p (a + b) + (if p (a + b) = true then 1 else 0) = cntP p a + (cntP (fun i => p (i + a)) b + (if p (b + a) = true then 1 else 0))
    rw [cntP_add p a b, Nat.add_comm a b]
    omega
theorem card_ofP : ∀ (n : Nat) (p : Nat → Bool), card n (ofP n p) = cntP p (2 ^ n)
  | 0, p => by
    show card 0 (p 0 : Bool) = 0 + (if p 0 = true then 1 else 0)
    cases h : p 0 <;> simp [card]
  | n + 1, p => by
    show card n (ofP n p) + card n (ofP n fun i => p (i + 2 ^ n)) = _
    rw [card_ofP n p, card_ofP n, Nat.pow_succ, Nat.mul_two, cntP_add]
theorem cntP_le {p q : Nat → Bool} : ∀ {n : Nat}, (∀ i, i < n → p i = true → q i = true) → cntP p n ≤ cntP q n
  | 0, _ => Nat.le_refl _
  | n + 1, h => by
    have ih := cntP_le (p := p) (q := q) (n := n) fun i hi => h i (Nat.lt_succ_of_lt hi)
    show cntP p n + _ ≤ cntP q n + _
    have := h n (Nat.lt_succ_self n)
    by_cases hp : p n = true
    · rw [if_pos hp, if_pos (this hp)]; omega
    · rw [if_neg hp]; omega
theorem join_ofP : ∀ (n : Nat) (p q : Nat → Bool), join n (ofP n p) (ofP n q) = ofP n fun i => p i || q i
  | 0, _, _ => rfl
  | n + 1, p, q => by
    show (join n (ofP n p) (ofP n q), join n (ofP n fun i => p (i + 2 ^ n)) (ofP n fun i => q (i + 2 ^ n))) = _
    rw [join_ofP n, join_ofP n]; rfl
theorem ofP_congr : ∀ (n : Nat) {p q : Nat → Bool}, (∀ i, i < 2 ^ n → p i = q i) → ofP n p = ofP n q
  | 0, _, _, h => h 0 (by decide)
  | n + 1, p, q, h => by
    have e : 2 ^ (n + 1) = 2 ^ n + 2 ^ n := by rw [Nat.pow_succ, Nat.mul_two]
    show (ofP n p, ofP n fun i => p (i + 2 ^ n)) = (ofP n q, ofP n fun i => q (i + 2 ^ n))
    rw [ofP_congr n (fun i hi => h i (by omega)), ofP_congr n (fun i hi => h (i + 2 ^ n) (by omega))]
/-- the test «within a step» for n places -/
noncomputable def nbP : Nat → (Nat → Bool) → Nat → Bool
  | 0, p => p
  | n + 1, p => fun i => if i < 2 ^ n then nbP n p i || p (i + 2 ^ n) else nbP n (fun j => p (j + 2 ^ n)) (i - 2 ^ n) || p (i - 2 ^ n)
theorem nb_ofP : ∀ (n : Nat) (p : Nat → Bool), nb n (ofP n p) = ofP n (nbP n p)
  | 0, _ => rfl
  | n + 1, p => by
    show (join n (nb n (ofP n p)) (ofP n fun i => p (i + 2 ^ n)), join n (nb n (ofP n fun i => p (i + 2 ^ n))) (ofP n p)) = (ofP n (nbP (n + 1) p), ofP n fun i => nbP (n + 1) p (i + 2 ^ n))
    rw [nb_ofP n, nb_ofP n, join_ofP, join_ofP]
    rw [ofP_congr n (p := fun i => nbP n p i || p (i + 2 ^ n)) (q := nbP (n + 1) p) (fun i hi => by simp [nbP, hi])]
    rw [ofP_congr n (p := fun i => nbP n (fun i => p (i + 2 ^ n)) i || p i) (q := fun i => nbP (n + 1) p (i + 2 ^ n)) (fun i hi => by simp [nbP]; intro h; omega)]
theorem harper_count (p : Nat → Bool) : lst 5 (cntP p 32) ≤ cntP (nbP 5 p) 32 := by
  have h := harper5 (ofP 5 p)
  rw [nb_ofP, card_ofP, card_ofP] at h
  exact h
/-- within a step -/
noncomputable def near : Nat → Nat → Nat → Bool
  | 0, i, j => decide (i = j)
  | n + 1, i, j => if i < 2 ^ n then (decide (j < 2 ^ n) && near n i j) || decide (j = i + 2 ^ n) else (decide (2 ^ n ≤ j) && near n (i - 2 ^ n) (j - 2 ^ n)) || decide (j = i - 2 ^ n)
theorem nbP_near : ∀ (n : Nat) (p : Nat → Bool) (i : Nat), i < 2 ^ n → nbP n p i = true → ∃ j, j < 2 ^ n ∧ near n i j = true ∧ p j = true
  | 0, p, i, hi, h => ⟨i, hi, by simp [near], h⟩
  | n + 1, p, i, hi, h => by
    have e : 2 ^ (n + 1) = 2 ^ n + 2 ^ n := by rw [Nat.pow_succ, Nat.mul_two]
    unfold nbP at h
    by_cases hlt : i < 2 ^ n
    · rw [if_pos hlt, Bool.or_eq_true] at h
      rcases h with h | h
      · obtain ⟨j, hj, hn, hp⟩ := nbP_near n p i hlt h
        exact ⟨j, by omega, by simp [near, hlt, hj, hn], hp⟩
      · exact ⟨i + 2 ^ n, by omega, by simp [near, hlt], h⟩
    · rw [if_neg hlt, Bool.or_eq_true] at h
      rcases h with h | h
      · obtain ⟨j, hj, hn, hp⟩ := nbP_near n _ (i - 2 ^ n) (by omega) h
        exact ⟨j + 2 ^ n, by omega, by simp [near, hlt, hn], hp⟩
      · exact ⟨i - 2 ^ n, by omega, by simp [near, hlt], h⟩
theorem cntP_filter (p : Nat → Bool) : ∀ n, cntP p n = ((List.range n).filter p).length
  | 0 => rfl
  | n + 1 => by
    rw [List.range_succ, List.filter_append, List.length_append, ← cntP_filter p n]
    show cntP p n + _ = _
    by_cases h : p n = true <;> simp [h]
theorem len_cnt {ks : List Int} (h : ks.Pairwise (· < ·)) (hr : ∀ x ∈ ks, 0 ≤ x ∧ x < 32) : ks.length = cntP (fun i => decide ((i : Int) ∈ ks)) 32 := by
  rw [cntP_filter, ← List.length_map (f := fun i : Nat => (i : Int))]
  refine List.Perm.length_eq ((List.perm_ext_iff_of_nodup (h.imp fun q => Int.ne_of_lt q) ?_).mpr fun x => ?_)
  · refine List.Pairwise.map _ (fun a b q => ?_) (List.Pairwise.filter _ List.nodup_range)
    exact fun e => q (Int.ofNat.inj e)
  · constructor
    · intro hx
      have := hr x hx
      refine List.mem_map.mpr ⟨x.toNat, List.mem_filter.mpr ⟨List.mem_range.mpr (by omega), ?_⟩, by omega⟩
      have e : ((x.toNat : Nat) : Int) = x := by omega
      simp only [e, decide_eq_true_eq]; exact hx
    · intro hx
      obtain ⟨i, hi, rfl⟩ := List.mem_map.mp hx
      exact of_decide_eq_true (List.mem_filter.mp hi).2
noncomputable def nearOk : Bool := (List.range 32).all fun i => (List.range 32).all fun j => !near 5 i j || decide ((i : Int) = j) || (List.range 5).any fun pl => decide ((i : Int) = Builtin.bitXor (j : Int) (2 ^ pl))
theorem nearOk_true : nearOk = true := by decide +kernel
theorem near_xor {i j : Nat} (hi : i < 32) (hj : j < 32) (h : near 5 i j = true) : (i : Int) = j ∨ ∃ pl, pl < 5 ∧ (i : Int) = Builtin.bitXor (j : Int) (2 ^ pl) := by
  have a := List.all_eq_true.mp (List.all_eq_true.mp nearOk_true i (List.mem_range.mpr hi)) j (List.mem_range.mpr hj)
  rw [h] at a
  simp only [Bool.not_true, Bool.false_or, Bool.or_eq_true, decide_eq_true_eq, List.any_eq_true] at a
  rcases a with a | ⟨pl, hp, a⟩
  · exact .inl a
  · exact .inr ⟨pl, List.mem_range.mp hp, a⟩
/-- Within: rs is what is within a step of ks -/
structure Within (ks rs : List Int) : Prop where
  up : rs.Pairwise (· < ·)
  mem : ∀ x, x ∈ rs ↔ x ∈ ks ∨ ∃ pl : Nat, pl < 5 ∧ ∃ y ∈ ks, x = Builtin.bitXor y (2 ^ pl)
structure Sub32 (ks : List Int) : Prop where
  up : ks.Pairwise (· < ·)
  low : ∀ x ∈ ks, 0 ≤ x ∧ x < 32
noncomputable def xorIn : Bool := (List.range 32).all fun y => (List.range 5).all fun pl => decide (0 ≤ Builtin.bitXor (y : Int) (2 ^ pl) ∧ Builtin.bitXor (y : Int) (2 ^ pl) < 32)
theorem xorIn_true : xorIn = true := by decide +kernel
theorem xor_in {y : Int} {pl : Nat} (h : 0 ≤ y ∧ y < 32) (hp : pl < 5) : 0 ≤ Builtin.bitXor y (2 ^ pl) ∧ Builtin.bitXor y (2 ^ pl) < 32 := by
  have a := List.all_eq_true.mp (List.all_eq_true.mp xorIn_true y.toNat (List.mem_range.mpr (by omega))) pl (List.mem_range.mpr hp)
  have e : ((y.toNat : Nat) : Int) = y := by omega
  rw [e] at a
  exact of_decide_eq_true a
theorem Within.sub {ks rs : List Int} (W : Within ks rs) (h : Sub32 ks) : Sub32 rs := ⟨W.up, fun x hx => by
  rcases (W.mem x).mp hx with h1 | ⟨pl, hp, y, hy, rfl⟩
  · exact h.low x h1
  · exact xor_in (h.low y hy) hp⟩
theorem harper {ks rs : List Int} (h : Sub32 ks) (W : Within ks rs) : lst 5 ks.length ≤ rs.length := by
  rw [len_cnt h.up h.low, len_cnt (W.sub h).up (W.sub h).low]
  refine Nat.le_trans (harper_count _) (cntP_le fun i hi hp => ?_)
  obtain ⟨j, hj, hn, hpj⟩ := nbP_near 5 _ i hi hp
  have hjm := of_decide_eq_true hpj
  refine decide_eq_true ((W.mem _).mpr ?_)
  rcases near_xor hi hj hn with e | ⟨pl, hp, e⟩
  · exact .inl (by rw [e]; exact hjm)
  · exact .inr ⟨pl, hp, j, hjm, e⟩
end MineH
end PartHarper
section PartTopK
open PySem PySem.W PyProof.Rows
set_option maxRecDepth 100000
set_option maxHeartbeats 8000000
namespace Mine
open_top hd for PySem.Challenge.rw_oy0064_01
end Mine
end PartTopK
namespace Mine
/-- the walker's switch, that open_top turned on, is turned back: the parts were built apart -/
theorem topOff : True := by
  w_top off
  exact trivial
end Mine
section PartTStyle
open PySem PySem.W PySem.Calls PyProof.Rows
set_option maxRecDepth 100000
set_option maxHeartbeats 8000000
namespace Mine
/-- the heap keeps the base and bears a ledger -/
structure LedT (h₀ h : Heap) (news : List (Addr × Obj)) : Prop where
  keep : ∀ b o, h₀.get? b = some o → h.get? b = some o
  has : ∀ p ∈ news, h.get? p.1 = some p.2 ∧ h₀.get? p.1 = none
  size : h₀.objs.size ≤ h.objs.size
theorem LedT.of {h₀ h : Heap} {L : Addr} {m : Str → Option Value} {news : List (Addr × Obj)} (F : Fr h₀ L h m) (N : News h₀ L h news) : LedT h₀ h news :=
  ⟨F.keep, fun p hp => ⟨(N p hp).1, (N p hp).2.2⟩, Nat.le_trans F.above (Nat.le_of_lt F.ns.lt)⟩
theorem LedT.sub {h₀ h : Heap} {news news' : List (Addr × Obj)} (D : LedT h₀ h news) (hs : ∀ p ∈ news', p ∈ news) : LedT h₀ h news' := ⟨D.keep, fun p hp => D.has p (hs p hp), D.size⟩
section
variable {prog : Program} {w : World} {A : Around} {s : Shared} {h₀ : Heap} {news : List (Addr × Obj)} {K : Frag} {p : Program} {loose : List Str} {mean : ExcName → Option Value} {mg mb : Str → Option Value}
    {R : Result → Shared → Prop} {name qual : Str} {params : Arguments} {body : List Stmt} {scope : Scope} {dV kV doc pm cdv ct oc : Value} {an od : Option Addr} {osl : Array (Option Value)} {f : Addr} {args : Args} {binds : List (Str × Value)}
theorem enterT (D : LedT h₀ s.heap news) (X₀ : K.In h₀) (T : Top p loose mean mg mb h₀)
    (ho : K.lookup f = some ⟨oc, od, .func (fnOf name qual params body scope dV kV doc pm an cdv ct), osl⟩) (hcd : codeIn K cdv qual = true) (hroom : A.depth < recursionLimit)
    (hbind : BindsTo s (fnOf name qual params body scope dV kV doc pm an cdv ct) args binds) (hloc : ∀ y ∈ binds, scope.names.lookup y.1 = some .local)
    (h : ∀ L' h₁ tk₁, L' = s.heap.objs.size → Fr h₀ L' h₁ (fun y => binds.reverse.lookup y) → News h₀ L' h₁ news → (∀ p ∈ news, p.1 < L') →
      wpAny (model prog w) (A.deeper (envOf qual scope L' f cdv)) (execs body (envOf qual scope L' f cdv))
        (fun fl s' => R (.ok (.ret (match fl with | .ret v => v | _ => .none))) s')
        (fun e s' => wpAny (model prog w) (A.deeper (envOf qual scope L' f cdv)) (leaving (envOf qual scope L' f cdv) e) (fun _ s'' => R (.error e) s'') (fun e' s'' => R (.error e') s'') s')
        { s with heap := h₁, toks := tk₁ })
    (hco : scope.isCoroutine = false := by rfl) (hgen : scope.isGenerator = false := by rfl) (hk : scope.kind = .function := by rfl)
    (hcell : ∀ x ∈ scope.names, x.2 ≠ .cell := by decide) : codeAny (model prog w) A (.call (.ref f) args) R s := by
  have X := X₀.keeps D.keep
  refine codeAny_call_def (fd := fnOf name qual params body scope dV kV doc pm an cdv ct) (body := body) (binds := binds) hroom (X _ _ ho) rfl (T.nolimit.keeps D.keep) (codeRec_of X hcd) rfl hbind hcell hloc (fun h₁ hns hk₁ => ?_) hco hgen hk
  exact h _ h₁ _ rfl ⟨hns, fun b o e => hk₁ b o (D.keep b o e), D.size⟩ (fun p hp => ⟨hk₁ _ _ (D.has p hp).1, Nat.ne_of_lt (Heap.lt_size (D.has p hp).1), (D.has p hp).2⟩) fun p hp => Heap.lt_size (D.has p hp).1
end
end Mine
end PartTStyle
section PartSldA
open PySem PySem.W PySem.Calls PyProof.Rows
set_option maxRecDepth 100000
set_option maxHeartbeats 8000000
namespace Mine
section
variable {prog : Program} {w : World} {A : Around} {E : Value → Shared → Prop} {s : Shared} {h₀ : Heap} {L : Addr} {nw : List (Addr × Obj)}
theorem sub_any {value slice : PySem.Expr} {l : Addr} {vs : List Value} {ns : List Int} {n : Nat} {k : Int} {u : Tok} {Q : Value → Shared → Prop} (N : News h₀ L s.heap nw) (hm : (l, W.listOf vs.toArray n) ∈ nw) (hi : IntsAre vs ns) (hA : A.handled = none) (h0 : 0 ≤ k) (hk : k < 2 ^ 62)
    (hbad : (ns.length : Int) ≤ k → ∀ h' tk e, Heap.NewExc s.heap h' e "IndexError" → E (.ref e) { s with heap := h', toks := tk })
    (hok : k < (ns.length : Int) → ∀ t, Q (.int (ns.getD k.toNat 0) t) s)
    (hs : subscripted slice false (.ref l) (.int k u) = operate [.ref l, .int k u] (getItem (.ref l) (.int k u)) := by with_unfolding_all rfl) (hg : ∀ r, letTemporaryGo value (.ref l) r = pure () := by intro _; with_unfolding_all rfl) :
    wpAny (model prog w) A (subscriptTail value slice (.ref l) (.int k u)) Q E s := by
  have hl : s.heap.IsList l vs.toArray := N.isList hm
  have hlen := hi.length
  refine subscriptTail_builtin hl.typeIs slot_list_getitem.lookup ?_ hs hg
  by_cases hlt : k < (ns.length : Int)
  · have hx : ns[k.toNat]? = some (ns.getD k.toNat 0) := by
      have : k.toNat < ns.length := by omega
      simp [List.getD, this]
    obtain ⟨t, ht⟩ := hi.get k.toNat _ hx
    exact wpAny_getItem_list hl h0 (by omega) (by simpa using ht) (hok hlt t)
  · exact wpAny_getItem_list_out hA hl (.inr (by rw [List.size_toArray]; omega)) (by omega) (by omega) (hbad (by omega))
end
theorem ne_all {l : List (Addr × Obj)} {d : Addr} (h : ∀ p ∈ l, p.1 < d) : ∀ p ∈ l, p.1 ≠ d := fun p hp => Nat.ne_of_lt (h p hp)
noncomputable def NoMore (b : Bool) (P : Prop) : Prop := b = false ∧ P
theorem while_once {prog : Program} {w : World} {A : Around} {E : Value → Shared → Prop} {s : Shared} {env : Env} {test : PySem.Expr} {body : List Stmt} {pos : Pos} {Q : Flow → Shared → Prop} (hE : PassesOwn (model prog w) A env E)
    (h : wpAny (model prog w) A (isTrue test env (eval test env)) (fun b s₂ => NoMore b (Q .next s₂)) E s) : wpAny (model prog w) A (exec (.While test body [] pos) env) Q E s :=
  whl_start 1 (whl_turn hE (wpAny_mono h (fun b s₂ hb => WhlIf.no hb.1 (wpAny_execs_nil hb.2)) fun _ _ x => x))
theorem sameUp_fst : ∀ {a b : List (Addr × Obj)}, TI.SameUp a b → a.map (·.1) = b.map (·.1)
  | [], [], _ => rfl
  | [], _ :: _, h => False.elim h
  | _ :: _, [], h => False.elim h
  | p :: ps, q :: qs, h => by
    show p.1 :: ps.map (·.1) = q.1 :: qs.map (·.1)
    rw [h.1, sameUp_fst h.2.2]
theorem up_lt {news frs frs' : List (Addr × Obj)} {d : Addr} (SU : TI.SameUp frs frs') (h : ∀ q ∈ news ++ frs, q.1 < d) : ∀ q ∈ news ++ frs', q.1 < d := fun q hq => by
  rcases List.mem_append.mp hq with hq | hq
  · exact h q (List.mem_append_left _ hq)
  · have hm : q.1 ∈ frs'.map (·.1) := List.mem_map_of_mem hq
    rw [← sameUp_fst SU] at hm
    obtain ⟨r, hr, e⟩ := List.mem_map.mp hm
    rw [← e]; exact h r (List.mem_append_right _ hr)
theorem noted2 {prog : Program} {w : World} {A₀ : Around} {E : Value → Shared → Prop} {s' : Shared} {hb h : Heap} {L a e : Addr} {m : Str → Option Value} {name : Str} {scope : Scope} {cd : Value} {Q : Unit → Shared → Prop} {X : String} {l : List Env} {frs news : List (Addr × Obj)} {p1 p2 : Addr × Obj}
    (hfr : A₀.frames = some l) (Fs : TI.Frs l frs) (hx : Heap.NewExc h s'.heap e X) (F : Fr hb L h m) (N : News hb L h (p1 :: p2 :: (news ++ frs))) (hap : ∀ q ∈ news, q.1 ∉ frs.map (·.1)) (h1 : ∀ q ∈ news ++ frs, q.1 < p1.1) (h2 : ∀ q ∈ news ++ frs, q.1 < p2.1)
    (k : ∀ h' frs', TI.SameUp frs frs' → TI.Frs l frs' → (∀ q ∈ news, q.1 ∉ frs'.map (·.1)) → (∀ q ∈ news ++ frs', q.1 < p1.1) → (∀ q ∈ news ++ frs', q.1 < p2.1) → TT.HeldN hb L h' m e X (p1 :: p2 :: (news ++ frs')) → Q () { s' with heap := h' }) (hk : scope.kind = .function := by rfl) :
    wpAny (model prog w) (A₀.deeper (envOf name scope L a cd)) (noteFrame (.ref e) (envOf name scope L a cd)) Q E s' := by
  refine TLg.noted_newA (new := p1 :: p2 :: news) hfr Fs hx F N (fun q hq hm => ?_) (fun h' frs' SU Fs' H => k h' frs' SU Fs' (by rw [← sameUp_fst SU]; exact hap) (up_lt SU h1) (up_lt SU h2) H) hk
  rcases List.mem_cons.mp hm with e1 | hm
  · rcases List.mem_cons.mp hq with rfl | hq
    · exact (N _ (.head _)).2.1 e1
    · rcases List.mem_cons.mp hq with rfl | hq
      · exact (N _ (.tail _ (.head _))).2.1 e1
      · exact (N _ (.tail _ (.tail _ (List.mem_append_left _ hq)))).2.1 e1
  · obtain ⟨r, hr, e2⟩ := List.mem_map.mp hm
    rcases List.mem_cons.mp hq with rfl | hq
    · exact absurd e2 (Nat.ne_of_lt (h1 r (List.mem_append_right _ hr)))
    · rcases List.mem_cons.mp hq with rfl | hq
      · exact absurd e2 (Nat.ne_of_lt (h2 r (List.mem_append_right _ hr)))
      · exact hap q hq (by rw [← e2]; exact List.mem_map_of_mem hr)
theorem strict_ne {ns : List Int} (h : ns.Pairwise (· < ·)) {k : Int} (h0 : 0 ≤ k) (h1 : k + 1 < (ns.length : Int)) : decide (ns.getD (k + 1).toNat 0 = ns.getD k.toNat 0) = false := by
  have a : k.toNat < ns.length := by omega
  have b : (k + 1).toNat < ns.length := by omega
  have := List.pairwise_iff_getElem.mp h k.toNat (k + 1).toNat a b (by omega)
  refine decide_eq_false ?_
  rw [List.getD_eq_getElem?_getD, List.getD_eq_getElem?_getD, List.getElem?_eq_getElem a, List.getElem?_eq_getElem b]
  simp only [Option.getD_some]
  omega
structure SldSt where
  i : Nat
  j : Nat
  ti : Tok
  tj : Tok
  ms : List Int
  us : List Int
  vm : List Value
  vu : List Value
  nm : Nat
  nu : Nat
/-- what holds between the turns: i of the first and j of the second are done with -/
structure SldP (ns1 ns2 : List Int) (c : SldSt) : Prop where
  hi : c.i ≤ ns1.length
  hj : c.j ≤ ns2.length
  us : c.us = (ns2.take c.j).filter fun x => decide (x ∉ ns1)
  ge : ∀ x ∈ ns1.take c.i, ∀ y ∈ ns2.drop c.j, x < y
  le : ∀ y ∈ ns2.take c.j, ∀ x ∈ ns1.drop c.i, y < x
  lm : c.ms.length ≤ c.i
end Mine
end PartSldA
section PartExc
open PySem PySem.W PySem.Calls PyProof.Rows
set_option maxRecDepth 100000
set_option maxHeartbeats 8000000
namespace Mine
/-- an exception's object -/
noncomputable abbrev excO (X : String) (d : Option Addr) (sl : Array (Option Value)) (t v c : Value) : Obj := ⟨.type X, d, .fields #[t, v, c, .none, .bool false, .none], sl⟩
/-- a traceback's entry whose flight is fl -/
noncomputable def FlyAt (o : Obj) (fl : Value) : Prop := ∃ tvs, o.data = .fields tvs ∧ tvs[3]? = some fl
section
variable {prog : Program} {w : World} {A₀ : Around} {E : Value → Shared → Prop} {s' : Shared} {hb h : Heap} {L a e tb : Addr} {m : Str → Option Value} {name : Str} {scope : Scope} {cd : Value} {X : String} {l : List Env} {frs new nw : List (Addr × Obj)} {d : Option Addr} {sl : Array (Option Value)} {t c : Value}
theorem noteK {Q : Unit → Shared → Prop} (hfr : A₀.frames = some l) (Fs : TI.Frs l frs) (F : Fr hb L h m) (N : News hb L h (new ++ frs)) (hap : ∀ p ∈ new, p.1 ∉ L :: frs.map (·.1)) (hkeep : ∀ b o, h.get? b = some o → s'.heap.get? b = some o) (hnew : h.get? e = none)
    (he : s'.heap.get? e = some (excO X d sl t .none c))
    (k : ∀ h' frs' tb otb, TI.SameUp frs frs' → TI.Frs l frs' → Fr hb L h' m → News hb L h' ((e, excO X d sl t (.ref tb) c) :: (tb, otb) :: (new ++ frs')) → FlyAt otb (rawInt L) → e ≠ tb → (∀ p ∈ new ++ frs', p.1 ≠ e ∧ p.1 ≠ tb) → Q () { s' with heap := h' })
    (hk : scope.kind = .function := by rfl) : wpAny (model prog w) (A₀.deeper (envOf name scope L a cd)) (noteFrame (.ref e) (envOf name scope L a cd)) Q E s' := by
  obtain ⟨hff, hNs, frs₀, SU₀, ht₀⟩ := TI.frames_at (name := name) (a := a) (cd := cd) (h' := s'.heap) (base := TI.gone h (L :: frs.map (·.1))) hk Fs F N (fun p hp => List.mem_append_right _ hp) (fun b o hb' => ⟨o.slots, hkeep b o hb'⟩) fun b hm => TI.gone_none hm
  unfold noteFrame
  simp only [show (envOf name scope L a cd).frame = some L from rfl]
  refine wpAny_bind (wpAny_field he rfl (x := .none) rfl ?_)
  rw [if_neg (by decide)]
  refine wpAny_bind (wpAny_frameOf_fun (Around.frames_deeper hfr) hff rfl fun h₁ hs₁ => ?_)
  refine wpAny_bind (wpAny_entryPlaceOf fun pl hpl => ?_)
  unfold EntryCells.newEntry newFields
  refine wpAny_bind (wpAny_newObj_type ?_ (hpl.sizeOk5 _ _ _ _ _))
  have hLnone : hb.get? L = none := Heap.get?_none_of_le F.above
  have hen : hb.get? e = none := TI.none_of F.keep hnew
  have eNL : e ≠ L := fun q => by obtain ⟨oL, _, _, hL, _⟩ := F.ns; rw [← q, hnew] at hL; cases hL
  have hfm : (envOf name scope L a cd :: l).filterMap (·.frame) = L :: frs.map (·.1) := by
    have : ∀ {l : List Env} {frs : List (Addr × Obj)}, TI.Frs l frs → l.filterMap (·.frame) = frs.map (·.1) := by
      intro l
      induction l with
      | nil => intro frs h; cases frs with | nil => rfl | cons _ _ => exact False.elim h
      | cons env l ih =>
        intro frs h
        cases frs with
        | nil => exact False.elim h
        | cons p ps =>
          obtain ⟨_, h1, _, h3⟩ := h
          rw [List.filterMap_cons, h1, List.map_cons, ih h3]
    rw [List.filterMap_cons, this Fs]
    rfl
  rw [hfm] at hs₁
  have other : ∀ b, b ∉ L :: frs.map (·.1) → h₁.get? b = s'.heap.get? b := hs₁.2.1
  have eNf : e ∉ L :: frs.map (·.1) := fun hm => by
    rcases List.mem_cons.mp hm with q | hm
    · exact eNL q
    · obtain ⟨p, hp, q⟩ := List.mem_map.mp hm
      have := (N p (List.mem_append_right _ hp)).1
      rw [q, hnew] at this; cases this
  have he₁ : h₁.get? e = some (excO X d sl t .none c) := (other e eNf).trans he
  have he₂ := Heap.get?_push_of_some (h := h₁) { cls := .type "traceback", dict := none, data := .fields ([.none, .ref L, .none, rawInt L, .none] ++ (if pl.isEmpty then List.replicate 6 Value.none else pl)).toArray } he₁
  refine wpAny_setField he₂ rfl (by show 1 < 6; decide) ?_
  have hTe : h₁.objs.size ≠ e := Nat.ne_of_gt (Heap.lt_size he₁)
  have he₃ := Heap.get?_update_self (Obj.mapFields (·.setIfInBounds 1 (Value.ref h₁.objs.size))) he₂ rfl
  have hT₃ := (Heap.get?_update_other (h₁.push { cls := .type "traceback", dict := none, data := .fields ([.none, .ref L, .none, rawInt L, .none] ++ (if pl.isEmpty then List.replicate 6 Value.none else pl)).toArray })
    (Obj.mapFields (·.setIfInBounds 1 (Value.ref h₁.objs.size))) (Ne.symm hTe)).trans (Heap.get?_push_size h₁ rfl)
  have keep : ∀ b o, b ≠ e → h₁.get? b = some o →
      ((h₁.push { cls := .type "traceback", dict := none, data := .fields ([.none, .ref L, .none, rawInt L, .none] ++ (if pl.isEmpty then List.replicate 6 Value.none else pl)).toArray }).update e (Obj.mapFields (·.setIfInBounds 1 (Value.ref h₁.objs.size)))).get? b = some o :=
    fun b o hbe hb => by
      rw [Heap.get?_update_other _ _ (Ne.symm hbe)]
      exact Heap.get?_push_of_some _ hb
  obtain ⟨frs', SU, ht⟩ := TI.sameUp_of (h' := h₁) fun p hp => by
    obtain ⟨sl, hsl⟩ := hs₁.2.2 p.1 p.2 (hkeep _ _ (N p (List.mem_append_right _ hp)).1)
    exact ⟨sl, hsl⟩
  obtain ⟨oL, es, ep, hL, hLd, hLr⟩ := F.ns
  obtain ⟨slL, hL₁⟩ := hs₁.2.2 L oL (hkeep _ _ hL)
  have baseOff : ∀ b o, hb.get? b = some o → b ∉ L :: frs.map (·.1) := fun b o hbo hm => by
    rcases List.mem_cons.mp hm with q | hm
    · rw [q, hLnone] at hbo; cases hbo
    · obtain ⟨p, hp, q⟩ := List.mem_map.mp hm
      have := (N p (List.mem_append_right _ hp)).2.2
      rw [q, hbo] at this; cases this
  have newT : ∀ b o, h₁.get? b = some o → b ≠ h₁.objs.size := fun b o hb => Nat.ne_of_lt (Heap.lt_size hb)
  have hbT : hb.get? h₁.objs.size = none := by
    cases q : hb.get? h₁.objs.size with
    | none => rfl
    | some o =>
      have := (other _ (baseOff _ _ q)).trans (hkeep _ _ (F.keep _ _ q))
      exact absurd (Heap.lt_size this) (Nat.lt_irrefl _)
  have new₁ : ∀ p ∈ new, h₁.get? p.1 = some p.2 := fun p hp => (other _ (hap p hp)).trans (hkeep _ _ (N p (List.mem_append_left _ hp)).1)
  have all₁ : ∀ p ∈ new ++ frs', h₁.get? p.1 = some p.2 ∧ p.1 ≠ L ∧ hb.get? p.1 = none ∧ p.1 ≠ e := fun p hp => by
    rcases List.mem_append.mp hp with hp | hp
    · have z := N p (List.mem_append_left _ hp)
      exact ⟨new₁ p hp, z.2.1, z.2.2, fun q => by rw [q, hnew] at z; cases z.1⟩
    · have hm : p.1 ∈ frs'.map (·.1) := List.mem_map_of_mem hp
      rw [← sameUp_fst SU] at hm
      obtain ⟨r, hr, e1⟩ := List.mem_map.mp hm
      have z := N r (List.mem_append_right _ hr)
      exact ⟨ht p hp, by rw [← e1]; exact z.2.1, by rw [← e1]; exact z.2.2, fun q => by rw [e1, q, hnew] at z; cases z.1⟩
  refine k _ frs' h₁.objs.size { cls := .type "traceback", dict := none, data := .fields ([.none, .ref L, .none, rawInt L, .none] ++ (if pl.isEmpty then List.replicate 6 Value.none else pl)).toArray } SU (Fs.up SU) ⟨⟨_, es, ep, keep L _ (Ne.symm eNL) hL₁, hLd, hLr⟩, fun b o hbo => keep b o (fun q => by rw [q, hen] at hbo; cases hbo) ((other b (baseOff b o hbo)).trans (hkeep _ _ (F.keep b o hbo))), F.above⟩ (fun p hp => ?_) ⟨_, rfl, ?_⟩ (Ne.symm hTe) fun p hp => ⟨(all₁ p hp).2.2.2, newT _ _ (all₁ p hp).1⟩
  · rcases List.mem_cons.mp hp with rfl | hp
    · exact ⟨he₃, eNL, hen⟩
    · rcases List.mem_cons.mp hp with rfl | hp
      · exact ⟨hT₃, fun q => newT L _ hL₁ q.symm, hbT⟩
      · have z := all₁ p hp
        exact ⟨keep _ _ z.2.2.2 z.1, z.2.1, z.2.2.1⟩
  · first | (simp; done) | (rcases hpl with rfl | ⟨_, _, _, _, _, _, _, rfl⟩ <;> simp)
theorem noteAgainK {Q : Unit → Shared → Prop} {otb : Obj} (N : News hb L s'.heap ((e, excO X d sl t (.ref tb) c) :: (tb, otb) :: nw)) (hf : FlyAt otb (rawInt L)) (k : Q () s') :
    wpAny (model prog w) (A₀.deeper (envOf name scope L a cd)) (noteFrame (.ref e) (envOf name scope L a cd)) Q E s' := by
  obtain ⟨tvs, hd, h3⟩ := hf
  unfold noteFrame
  simp only [show (envOf name scope L a cd).frame = some L from rfl]
  refine wpAny_bind (wpAny_field (N _ (.head _)).1 rfl (x := .ref tb) rfl ?_)
  rw [if_pos (show (Value.ref tb != Value.none) = true from by simp)]
  refine wpAny_bind (wpAny_field (N _ (.tail _ (.head _))).1 hd h3 ?_)
  rw [if_pos (by simp)]
  exact wpAny_pure k
theorem flightK {A : Around} {Q : Unit → Shared → Prop} {otb : Obj} {fl : Value} (fr : Option Addr) (F : Fr hb L s'.heap m) (N : News hb L s'.heap ((e, excO X d sl t (.ref tb) c) :: (tb, otb) :: nw)) (hf : FlyAt otb fl) (het : e ≠ tb) (hne : ∀ p ∈ nw, p.1 ≠ e ∧ p.1 ≠ tb)
    (k : ∀ h' otb', Fr hb L h' m → News hb L h' ((e, excO X d sl t (.ref tb) c) :: (tb, otb') :: nw) → FlyAt otb' (fr.elim .none fun f => rawInt f) → Q () { s' with heap := h' }) : wpAny (model prog w) A (setFlight (.ref e) fr) Q E s' := by
  obtain ⟨tvs, hd, h3⟩ := hf
  have hsz : 3 < tvs.size := (Array.getElem?_eq_some_iff.mp h3).1
  unfold setFlight
  refine wpAny_bind (wpAny_field (N _ (.head _)).1 rfl (x := .ref tb) rfl ?_)
  rw [if_pos (show (Value.ref tb != Value.none) = true from by simp)]
  have zT := N (tb, otb) (.tail _ (.head _))
  refine wpAny_setField zT.1 hd hsz ?_
  have hs : Heap.SameBut tb s'.heap (s'.heap.update tb (Obj.mapFields (·.setIfInBounds 3 (fr.elim .none fun f => rawInt f)))) := Heap.SameBut.update ..
  have hd' := Obj.data_mapFields hd (·.setIfInBounds 3 (fr.elim .none fun f => rawInt f))
  have ht' := Heap.get?_update_self (Obj.mapFields (·.setIfInBounds 3 (fr.elim .none fun f => rawInt f))) zT.1 (Obj.isFreed_of_fields hd')
  refine k _ (Obj.mapFields (·.setIfInBounds 3 (fr.elim .none fun f => rawInt f)) otb) (F.change hs zT.2.1 zT.2.2) (fun p hp => ?_) ⟨_, hd', by simp [Array.getElem?_setIfInBounds, hsz]⟩
  rcases List.mem_cons.mp hp with rfl | hp
  · have z := N _ (.head _)
    exact ⟨(hs.2 _ het).trans z.1, z.2⟩
  · rcases List.mem_cons.mp hp with rfl | hp
    · exact ⟨ht', zT.2⟩
    · have z := N p (.tail _ (.tail _ hp))
      exact ⟨(hs.2 _ (hne p hp).2).trans z.1, z.2⟩
theorem passK {A : Around} {α : Type} {Q : α → Shared → Prop} {otb : Obj} {fl : Value} {what : String} (F : Fr hb L s'.heap m) (N : News hb L s'.heap ((e, excO X d sl t (.ref tb) c) :: (tb, otb) :: nw)) (hf : FlyAt otb fl) (het : e ≠ tb) (hne : ∀ p ∈ nw, p.1 ≠ e ∧ p.1 ≠ tb)
    (k : ∀ h' otb', Fr hb L h' m → News hb L h' ((e, excO X d sl t (.ref tb) c) :: (tb, otb') :: nw) → FlyAt otb' (rawInt L) → E (.ref e) { s' with heap := h' }) : wpAny (model prog w) A (PySem.passOn (α := α) what (.ref e) (envOf name scope L a cd)) Q E s' := by
  unfold PySem.passOn
  refine wpAny_bind (wpAny_field (N _ (.head _)).1 rfl (x := .ref tb) rfl ?_)
  rw [if_neg (show ¬ ((Value.ref tb == Value.none) = true) from by simp)]
  refine wpAny_bind (flightK (some L) F N hf het hne fun h' otb' F' N' hf' => ?_)
  exact wpAny_throw (k h' otb' F' N' hf')
theorem clauseK {K : Frag} {p : Program} {loose : List Str} {mean : ExcName → Option Value} {mg mb : Str → Option Value} {b₀ : Stmt} {suite : List Stmt} {pos np : Pos} {rest : List ExceptHandler} {Q : Flow → Shared → Prop} {x : Str} {otb : Obj} {fl : Value}
    (F : Fr hb L s'.heap m) (N : News hb L s'.heap ((e, excO X d sl t (.ref tb) c) :: (tb, otb) :: nw)) (hf : FlyAt otb fl) (het : e ≠ tb) (hne : ∀ p ∈ nw, p.1 ≠ e ∧ p.1 ≠ tb) (X₀ : K.In hb) (T : Top p loose mean mg mb hb) (hg : nsIn K mainGlobals x = some none) (hv : bootBuiltins x = some (.type x.toString))
    (k : ∀ h', Fr hb L h' m → News hb L h' nw → wpAny (model prog w) ((A₀.deeper (envOf name scope L a cd)).mark (some (.ref e))) (execs (b₀ :: suite) (envOf name scope L a cd)) Q E { s' with heap := h' })
    (h3 : subB X (.type x.toString) = some true) (h1 : subB x.toString (.type "BaseException") = some true) (h2 : subB ((Manifest.find? x.toString).elim "type" fun y => y.metatype) (.type "tuple") = some false) (hn : x ≠ "__name__")
    (hk : scope.kind = .function) (hxk : (envOf name scope L a cd).kindOf x = some .globalImplicit) (hdb : (x == ("__debug__" : Str)) = false)
    (hE : PassesOwnAt (model prog w) ((A₀.deeper (envOf name scope L a cd)).mark (some (.ref e))) (A₀.deeper (envOf name scope L a cd)) (envOf name scope L a cd) E) :
    wpAny (model prog w) (A₀.deeper (envOf name scope L a cd)) (handleBy (.ref e) (envOf name scope L a cd) (.ExceptHandler (some (.Name x np)) none (b₀ :: suite) pos :: rest)) Q E s' := by
  refine wpAny_handleBy_builtin (X := X) (T := x.toString) (b := true) (isSubtype_of_subB h1) (isSubtype_of_subB h2) (isSubtype_of_subB h3) (wpAny_passesOwnAt hE (name_B F X₀ (topRead_of T) hg hv hn ⟨rfl, ⟨_, (N _ (.head _)).1, rfl⟩, ?_⟩ hk hxk hdb))
  rw [if_pos rfl]
  exact flightK none F N hf het hne fun h' otb' F' N' _ => wpAny_passesOwnAt hE (k h' F' fun q hq => N' q (.tail _ (.tail _ hq)))
end
/-- a new exception, its context told -/
structure NewX (h h' : Heap) (e : Addr) (X : String) (c : Value) : Prop where
  keeps : ∀ b o, h.get? b = some o → h'.get? b = some o
  new : h.get? e = none
  there : ∃ d sl t, h'.get? e = some (excO X d sl t .none c)
theorem NewX.of {h h' : Heap} {e : Addr} {X : String} (x : Heap.NewExc h h' e X) : NewX h h' e X .none := ⟨x.keeps, x.new, by
  obtain ⟨⟨cl, d, dt, sl⟩, t, he, hc, hd⟩ := x.there
  dsimp only at hc hd
  subst hc hd
  exact ⟨d, sl, t, he⟩⟩
section
variable {prog : Program} {w : World} {A : Around} {E : Value → Shared → Prop} {s : Shared} {h₀ : Heap} {L e₁ : Addr} {nw : List (Addr × Obj)} {X : String} {d : Option Addr} {sl : Array (Option Value)} {t₁ v₁ : Value}
theorem raiseH {α : Type} {cls msg : String} {Q : α → Shared → Prop} (hp : PlainExc cls) (hA : A.handled = some (.ref e₁)) (h1 : s.heap.get? e₁ = some (excO X d sl t₁ v₁ .none))
    (hE : ∀ h' tk e, NewX s.heap h' e cls (.ref e₁) → E (.ref e) { s with heap := h', toks := tk }) : wpAny (model prog w) A (raiseErrorWords cls msg : Sem α) Q E s := by
  unfold raiseErrorWords
  refine wpAny_bind (wpAny_mkText (wpAny_bind ?_))
  unfold newExc newTuple
  refine wpAny_bind (wpAny_newObj_type ?_)
  refine wpAny_bind (m := firstArgMember _ _) (wpAny_of_eq (a := Value.none) (by simp only [firstArgMember, hp.first]; rfl) ?_)
  rw [hp.own]
  refine wpAny_newObj_type ?_
  unfold raiseNew
  refine wpAny_bind (wpAny_handled ?_)
  rw [hA]
  dsimp only
  have hlt : e₁ < s.heap.objs.size := Heap.lt_size h1
  have hne : (Value.ref e₁ != Value.ref (s.heap.push { cls := .type "tuple", dict := none, data := .seq [Value.str (Str.ofString msg) s.toks].toArray }).objs.size) = true := by
    rw [Heap.size_push]
    exact bne_iff_ne.mpr fun q => Nat.ne_of_lt (Nat.lt_succ_of_lt hlt) (Value.ref.inj q)
  rw [if_pos hne]
  have h1' := Heap.get?_push_of_some (h := s.heap.push { cls := .type "tuple", dict := none, data := .seq [Value.str (Str.ofString msg) s.toks].toArray }) { cls := .type cls, dict := none, data := .fields (#[Value.ref s.heap.objs.size, .none, .none, .none, .bool false, Value.none] ++ #[]) } (Heap.get?_push_of_some { cls := .type "tuple", dict := none, data := .seq [Value.str (Str.ofString msg) s.toks].toArray } h1)
  refine wpAny_bind (wpAny_holding (wpAny_runValue (codeAny_builtin (b := Builtin.«proto.unchain») (entryFor_of_fast (by kernel_rfl)) ?_)))
  show wpAny _ _ (do
    let context ← field (.ref e₁) 2
    _) _ _ _
  refine wpAny_bind (wpAny_field h1' rfl (x := .none) rfl ?_)
  refine wpAny_pure ?_
  show wpAny _ _ (updateField _ 2 (.ref e₁) >>= fun _ => throw _) _ _ _
  have hen := Heap.get?_push_size (s.heap.push { cls := .type "tuple", dict := none, data := .seq [Value.str (Str.ofString msg) s.toks].toArray }) (o := { cls := .type cls, dict := none, data := .fields (#[Value.ref s.heap.objs.size, .none, .none, .none, .bool false, Value.none] ++ #[]) }) rfl
  refine wpAny_bind ?_
  unfold updateField
  refine wpAny_bind (wpAny_load hen ?_)
  dsimp only
  rw [if_pos (by show 2 < 6; decide)]
  refine wpAny_update hen (wpAny_throw (hE _ _ _ ⟨fun b o hb => ?_, Heap.get?_none_of_le (by rw [Heap.size_push]; exact Nat.le_succ _), none, #[], .ref s.heap.objs.size, ?_⟩))
  · have : b ≠ (s.heap.push { cls := .type "tuple", dict := none, data := .seq [Value.str (Str.ofString msg) s.toks].toArray }).objs.size := by
      rw [Heap.size_push]; exact Nat.ne_of_lt (Nat.lt_succ_of_lt (Heap.lt_size hb))
    rw [Heap.get?_update_other _ _ (Ne.symm this)]
    exact Heap.get?_push_of_some _ (Heap.get?_push_of_some _ hb)
  · exact Heap.get?_update_self _ hen rfl
theorem getItem_outH {l : Addr} {items : Array Value} {k : Int} {t : Tok} {Q : Value → Shared → Prop} (hA : A.handled = some (.ref e₁)) (h1 : s.heap.get? e₁ = some (excO X d sl t₁ v₁ .none)) (hl : s.heap.IsList l items)
    (hout : (items.size : Int) ≤ k) (hhi : k < 2 ^ 63)
    (hE : ∀ h' tk e, NewX s.heap h' e "IndexError" (.ref e₁) → E (.ref e) { s with heap := h', toks := tk }) :
    wpAny (model prog w) A (getItem (.ref l) (.int k t)) Q E s := by
  obtain ⟨o, ho, hc, ne, hd⟩ := id hl
  unfold getItem
  try with_reducible refine wpAny_holding ?_
  first | refine wpAny_bind (wpAny_pure ?_) | skip
  refine wpAny_bind (wpAny_sequenceKey hl.typeIs (by decide) ?_)
  refine wpAny_bind (wpAny_callSpecial?_slot (name := Str.ofString "__getitem__") hl.typeIs slot_list_getitem
    (wpAny_call_entry slot_list_getitem hl.typeIs entry_list_getitem ?_ (args_list_getitem _ _)))
  show wpAny _ _ (Builtin.List.listSubscript? (.int k t) >>= _) _ _ s
  refine wpAny_bind (wpAny_listSubscript_int (fitsIndex_both (by omega) hhi) ?_)
  clear hhi
  cases k with
  | ofNat j =>
    have hx : items[j]? = none := Array.getElem?_eq_none (by have : (items.size : Int) ≤ (j : Int) := hout; omega)
    show wpAny _ _ ((seqItemAt l j >>= fun r => pure (r.map (j, ·))) >>= _) _ _ s
    refine wpAny_bind (wpAny_bind (wpAny_seqItemAt ho hd (wpAny_pure ?_)))
    rw [hx]
    first
      | exact wpAny_bind (wpAny_rule (raiseH plainExc_IndexError hA h1 hE))
      | exact wpAny_bind (wpAny_rule (wpAny_bind (raiseH plainExc_IndexError hA h1 hE)))
      | exact wpAny_bind (wpAny_bind (wpAny_rule (raiseH plainExc_IndexError hA h1 hE)))
      | exact wpAny_rule (raiseH plainExc_IndexError hA h1 hE)
  | negSucc j => exact absurd hout (by have := Int.negSucc_lt_zero j; omega)
theorem sub_anyH {value slice : PySem.Expr} {l : Addr} {vs : List Value} {ns : List Int} {n : Nat} {k : Int} {u : Tok} {Q : Value → Shared → Prop} (N : News h₀ L s.heap nw) (hA : A.handled = some (.ref e₁)) (h1 : (e₁, excO X d sl t₁ v₁ .none) ∈ nw) (hm : (l, W.listOf vs.toArray n) ∈ nw) (hi : IntsAre vs ns) (h0 : 0 ≤ k) (hk : k < 2 ^ 62)
    (hbad : (ns.length : Int) ≤ k → ∀ h' tk e, NewX s.heap h' e "IndexError" (.ref e₁) → E (.ref e) { s with heap := h', toks := tk })
    (hok : k < (ns.length : Int) → ∀ t, Q (.int (ns.getD k.toNat 0) t) s)
    (hs : subscripted slice false (.ref l) (.int k u) = operate [.ref l, .int k u] (getItem (.ref l) (.int k u)) := by with_unfolding_all rfl) (hg : ∀ r, letTemporaryGo value (.ref l) r = pure () := by intro _; with_unfolding_all rfl) :
    wpAny (model prog w) A (subscriptTail value slice (.ref l) (.int k u)) Q E s := by
  have hl : s.heap.IsList l vs.toArray := N.isList hm
  have hlen := hi.length
  refine subscriptTail_builtin hl.typeIs slot_list_getitem.lookup ?_ hs hg
  by_cases hlt : k < (ns.length : Int)
  · have hx : ns[k.toNat]? = some (ns.getD k.toNat 0) := by
      have : k.toNat < ns.length := by omega
      simp [List.getD, this]
    obtain ⟨t, ht⟩ := hi.get k.toNat _ hx
    exact wpAny_getItem_list hl h0 (by omega) (by simpa using ht) (hok hlt t)
  · exact getItem_outH hA (N _ h1).1 hl (by rw [List.size_toArray]; omega) (by omega) (hbad (by omega))
end
section
variable {prog : Program} {w : World} {A₀ : Around} {E : Value → Shared → Prop} {s' : Shared} {hb h : Heap} {L a e : Addr} {m : Str → Option Value} {name : Str} {scope : Scope} {cd : Value} {X : String} {l : List Env} {frs news : List (Addr × Obj)} {c : Value} {p1 p2 q1 q2 : Addr × Obj}
theorem noteK2 {Q : Unit → Shared → Prop} (hfr : A₀.frames = some l) (Fs : TI.Frs l frs) (hx : NewX h s'.heap e X c) (F : Fr hb L h m) (N : News hb L h (p1 :: p2 :: (news ++ frs))) (hap : ∀ q ∈ news, q.1 ∉ frs.map (·.1)) (h1 : ∀ q ∈ news ++ frs, q.1 < p1.1) (h2 : ∀ q ∈ news ++ frs, q.1 < p2.1)
    (k : ∀ h' frs' d sl t tb otb, TI.SameUp frs frs' → TI.Frs l frs' → (∀ q ∈ news, q.1 ∉ frs'.map (·.1)) → (∀ q ∈ news ++ frs', q.1 < p1.1) → (∀ q ∈ news ++ frs', q.1 < p2.1) → Fr hb L h' m → News hb L h' ((e, excO X d sl t (.ref tb) c) :: (tb, otb) :: p1 :: p2 :: (news ++ frs')) → FlyAt otb (rawInt L) → e ≠ tb → (∀ p ∈ p1 :: p2 :: (news ++ frs'), p.1 ≠ e ∧ p.1 ≠ tb) → Q () { s' with heap := h' })
    (hk : scope.kind = .function := by rfl) : wpAny (model prog w) (A₀.deeper (envOf name scope L a cd)) (noteFrame (.ref e) (envOf name scope L a cd)) Q E s' := by
  obtain ⟨d, sl, t, he⟩ := hx.there
  refine noteK (new := p1 :: p2 :: news) hfr Fs F N (fun q hq hm => ?_) hx.keeps hx.new he (fun h' frs' tb otb SU Fs' F' N' hf het hne => k h' frs' d sl t tb otb SU Fs' (by rw [← sameUp_fst SU]; exact hap) (up_lt SU h1) (up_lt SU h2) F' N' hf het hne) hk
  rcases List.mem_cons.mp hm with e1 | hm
  · rcases List.mem_cons.mp hq with rfl | hq
    · exact (N _ (.head _)).2.1 e1
    · rcases List.mem_cons.mp hq with rfl | hq
      · exact (N _ (.tail _ (.head _))).2.1 e1
      · exact (N _ (.tail _ (.tail _ (List.mem_append_left _ hq)))).2.1 e1
  · obtain ⟨r, hr, e2⟩ := List.mem_map.mp hm
    rcases List.mem_cons.mp hq with rfl | hq
    · exact absurd e2 (Nat.ne_of_lt (h1 r (List.mem_append_right _ hr)))
    · rcases List.mem_cons.mp hq with rfl | hq
      · exact absurd e2 (Nat.ne_of_lt (h2 r (List.mem_append_right _ hr)))
      · exact hap q hq (by rw [← e2]; exact List.mem_map_of_mem hr)
theorem noteK4 {Q : Unit → Shared → Prop} (hfr : A₀.frames = some l) (Fs : TI.Frs l frs) (hx : NewX h s'.heap e X c) (F : Fr hb L h m) (N : News hb L h (q1 :: q2 :: p1 :: p2 :: (news ++ frs))) (hap : ∀ q ∈ news, q.1 ∉ frs.map (·.1)) (h1 : ∀ q ∈ news ++ frs, q.1 < p1.1) (h2 : ∀ q ∈ news ++ frs, q.1 < p2.1)
    (k : ∀ h' frs' d sl t tb otb, TI.SameUp frs frs' → TI.Frs l frs' → (∀ q ∈ news, q.1 ∉ frs'.map (·.1)) → (∀ q ∈ news ++ frs', q.1 < p1.1) → (∀ q ∈ news ++ frs', q.1 < p2.1) → Fr hb L h' m → News hb L h' ((e, excO X d sl t (.ref tb) c) :: (tb, otb) :: p1 :: p2 :: (news ++ frs')) → FlyAt otb (rawInt L) → e ≠ tb → (∀ p ∈ p1 :: p2 :: (news ++ frs'), p.1 ≠ e ∧ p.1 ≠ tb) → Q () { s' with heap := h' })
    (hk : scope.kind = .function := by rfl) : wpAny (model prog w) (A₀.deeper (envOf name scope L a cd)) (noteFrame (.ref e) (envOf name scope L a cd)) Q E s' :=
  noteK2 hfr Fs hx F (fun p hp => N p (.tail _ (.tail _ hp))) hap h1 h2 k hk
end
end Mine
end PartExc
section PartLists
open PySem PySem.W PySem.Calls PyProof.Rows
set_option maxRecDepth 100000
set_option maxHeartbeats 8000000
namespace Mine
section
variable {prog : Program} {w : World} {A : Around} {E : Value → Shared → Prop} {s : Shared} {h₀ : Heap} {L l : Addr} {m : Str → Option Value} {news : List (Addr × Obj)} {value slice : PySem.Expr} {vs : List Value} {ns : List Int} {x : Int} {u : Tok} {n : Nat} {Q : Value → Shared → Prop}
theorem slice_fromK (F : Fr h₀ L s.heap m) (N : News h₀ L s.heap news) (hm : (l, W.listOf vs.toArray n) ∈ news) (hi : IntsAre vs ns) (h0 : 0 ≤ x) (hz : ns.length ≤ 64)
    (h : ∀ D h' vs', IntsAre vs' (ns.drop x.toNat) → Fr h₀ L h' m → News h₀ L h' ((D, W.listOf vs'.toArray 0) :: news) → (∀ p ∈ news, p.1 < D) → Q (.ref D) { s with heap := h' })
    (hs : subscripted slice false (.ref l) (.ref s.heap.objs.size) = operate [.ref s.heap.objs.size, .ref l] (getItem (.ref l) (.ref s.heap.objs.size)) := by with_unfolding_all rfl) (ht : ∀ r, letTemporaryGo value (.ref l) r = pure () := by intro _; with_unfolding_all rfl) :
    wpAny (model prog w) A (subscriptTail value slice (.ref l) (.ref s.heap.objs.size)) Q E { s with heap := s.heap.push { cls := .type "slice", data := .fields #[.int x u, .none, .none] } } := by
  refine kmk_slice F N (N.isList hm) (.int x u) .none (fun D h' F' N' l1 => h D h' (slicePick vs.toArray (some x) none none).toList (slice_ints_fromW hi h0) F' (by rw [Array.toArray_toList]; exact N') l1) hs ht ?_
  rw [List.size_toArray, hi.length, sizeLine_eq]; omega
theorem slice_uptoK (F : Fr h₀ L s.heap m) (N : News h₀ L s.heap news) (hl : s.heap.IsList l vs.toArray) (hi : IntsAre vs ns) (h0 : 0 ≤ x) (hz : ns.length ≤ 64)
    (h : ∀ D h' vs', IntsAre vs' (ns.take x.toNat) → Fr h₀ L h' m → News h₀ L h' ((D, W.listOf vs'.toArray 0) :: news) → (∀ p ∈ news, p.1 < D) → Q (.ref D) { s with heap := h' })
    (hs : subscripted slice false (.ref l) (.ref s.heap.objs.size) = operate [.ref s.heap.objs.size, .ref l] (getItem (.ref l) (.ref s.heap.objs.size)) := by with_unfolding_all rfl) (ht : ∀ r, letTemporaryGo value (.ref l) r = pure () := by intro _; with_unfolding_all rfl) :
    wpAny (model prog w) A (subscriptTail value slice (.ref l) (.ref s.heap.objs.size)) Q E { s with heap := s.heap.push { cls := .type "slice", data := .fields #[.none, .int x u, .none] } } := by
  refine kmk_slice F N hl .none (.int x u) (fun D h' F' N' l1 => h D h' (slicePick vs.toArray none (some x) none).toList (slice_ints_uptoW hi h0) F' (by rw [Array.toArray_toList]; exact N') l1) hs ht ?_
  rw [List.size_toArray, hi.length, sizeLine_eq]; omega
theorem extK {D b : Addr} {vs2 : List Value} {ns2 : List Int} {n2 : Nat} {news' : Obj → List (Addr × Obj)} (F : Fr h₀ L s.heap m) (N : News h₀ L s.heap news) (hb : (b, W.listOf vs2.toArray n2) ∈ news) (U : ∀ o, Upd D (W.listOf vs.toArray n) o news (news' o)) (h1 : IntsAre vs ns) (h2 : IntsAre vs2 ns2) (hz1 : ns.length ≤ 64) (hz2 : ns2.length ≤ 64)
    (h : ∀ n' h' vs', IntsAre vs' (ns ++ ns2) → Fr h₀ L h' m → News h₀ L h' (news' (W.listOf vs'.toArray n')) → Q .none { s with heap := h' }) : wpAny (model prog w) A (call (.builtin "list.extend") [.ref D, .ref b]) Q E s := by
  have e1 := h1.length
  have e2 := h2.length
  have hd : ¬(!vs.toArray.isEmpty && Builtin.List.listTooLong (vs.toArray.size + vs2.toArray.size)) = true := extend_door (by rw [List.size_toArray, List.size_toArray, e1, e2, sizeLine_eq]; omega)
  have z1 : vs.toArray.toList.length ≤ sizeLine := by rw [sizeLine_eq]; simp; omega
  have z2 : vs.toArray.size + vs2.toArray.size ≤ sizeLine + 1 := by rw [List.size_toArray, List.size_toArray, e1, e2, sizeLine_eq]; omega
  have app : ∀ {vs vs2 : List Value} {ns ns2 : List Int}, IntsAre vs ns → IntsAre vs2 ns2 → IntsAre (vs ++ vs2) (ns ++ ns2) := by
    intro vs vs2 ns ns2 a b
    induction a with
    | nil => exact b
    | cons n t _ ih => exact .cons n t ih
  by_cases he : vs2 = []
  · subst he
    cases h2
    exact kxn_extend F N hb rfl (U _) hd z1 z2 fun h' F' N' => h n h' vs (by rw [List.append_nil]; exact h1) F' N'
  · refine kl_extend F N hb (l := vs ++ vs2) (by simp) (by simpa using he) (U _) hd z1 z2 fun h' F' N' => h (n + 1) h' (vs ++ vs2) (app h1 h2) F' N'
theorem ints_snoc {vs : List Value} {ns : List Int} (h : IntsAre vs ns) (k : Int) (t : Tok) : IntsAre (vs ++ [.int k t]) (ns ++ [k]) := by
  induction h with
  | nil => exact .cons k t .nil
  | cons n u _ ih => exact .cons n u ih
theorem appK {D : Addr} {k : Int} {t : Tok} {news' : Obj → List (Addr × Obj)} (F : Fr h₀ L s.heap m) (N : News h₀ L s.heap news) (U : ∀ o, Upd D (W.listOf vs.toArray n) o news (news' o)) (h1 : IntsAre vs ns) (hz1 : ns.length ≤ 64)
    (h : ∀ n' h' vs', IntsAre vs' (ns ++ [k]) → Fr h₀ L h' m → News h₀ L h' (news' (W.listOf vs'.toArray n')) → Q .none { s with heap := h' }) : wpAny (model prog w) A (call (.builtin "list.append") [.ref D, .int k t]) Q E s := by
  refine append_K F N (U _) (fun h' F' N' => h (n + 1) h' (vs ++ [.int k t]) (ints_snoc h1 k t) F' (by rw [← List.push_toArray]; exact N')) ?_
  rw [List.size_toArray, h1.length, sizeLine_eq]; omega
end
end Mine
end PartLists
section PartSldQ
open PySem PySem.W PySem.Calls PyProof.Rows
namespace Mine
theorem memEnd {α : Type} {a b c d e : α} {l : List α} : ∀ p ∈ a :: e :: d :: l, p ∈ a :: b :: c :: d :: e :: l := by
  intro p hp
  simp only [List.mem_cons] at hp ⊢
  rcases hp with h | h | h | h <;> simp [h]
theorem gt_all {ns : List Int} (hp : ns.Pairwise (· < ·)) {j : Nat} (hj : j < ns.length) : ∀ y ∈ ns.drop j, ns.getD j 0 ≤ y := by
  intro y hy
  obtain ⟨k, hk, e⟩ := List.mem_iff_getElem.mp hy
  rw [List.getElem_drop] at e
  rw [List.getD_eq_getElem?_getD, List.getElem?_eq_getElem hj, Option.getD_some, ← e]
  rw [List.length_drop] at hk
  by_cases h0 : k = 0
  · subst h0; simp
  · have := List.pairwise_iff_getElem.mp hp j (j + k) hj (by omega) (by omega)
    omega
theorem gt_rest {ns : List Int} (hp : ns.Pairwise (· < ·)) {j : Nat} (hj : j < ns.length) : ∀ y ∈ ns.drop (j + 1), ns.getD j 0 < y := by
  intro y hy
  obtain ⟨k, hk, e⟩ := List.mem_iff_getElem.mp hy
  rw [List.getElem_drop] at e
  rw [List.length_drop] at hk
  rw [List.getD_eq_getElem?_getD, List.getElem?_eq_getElem hj, Option.getD_some, ← e]
  exact List.pairwise_iff_getElem.mp hp j (j + 1 + k) hj (by omega) (by omega)
theorem take_succ' {ns : List Int} {j : Nat} (hj : j < ns.length) : ns.take (j + 1) = ns.take j ++ [ns.getD j 0] := by
  rw [List.take_succ_eq_append_getElem hj, List.getD_eq_getElem?_getD, List.getElem?_eq_getElem hj, Option.getD_some]
theorem drop_sub {ns : List Int} {j : Nat} {y : Int} (h : y ∈ ns.drop (j + 1)) : y ∈ ns.drop j := by
  have : ns.drop (j + 1) = (ns.drop j).drop 1 := by rw [List.drop_drop]
  rw [this] at h; exact List.mem_of_mem_drop h
section
variable {ns1 ns2 ms us : List Int} {i j nm nu nm' nu' : Nat} {ti tj ti' tj' : Tok} {vm vu vm' vu' : List Value}
theorem SldP.left (P : SldP ns1 ns2 ⟨i, j, ti, tj, ms, us, vm, vu, nm, nu⟩) (h2 : ns2.Pairwise (· < ·)) (hi : (i : Int) < ns1.length) (hj : (j : Int) < ns2.length) (hlt : ns1.getD (i : Int).toNat 0 < ns2.getD (j : Int).toNat 0) {x : Int} :
    SldP ns1 ns2 ⟨i + 1, j, ti', tj', ms ++ [x], us, vm', vu', nm', nu'⟩ := by
  have hi' : i < ns1.length := by omega
  have hj' : j < ns2.length := by omega
  have hlt' : ns1.getD i 0 < ns2.getD j 0 := hlt
  refine ⟨by show i + 1 ≤ _; omega, P.hj, P.us, ?_, ?_, ?_⟩
  · intro x hx y hy
    simp only [take_succ' hi', List.mem_append, List.mem_singleton] at hx
    rcases hx with hx | rfl
    · exact P.ge x hx y hy
    · have := gt_all h2 hj' y hy; omega
  · intro y hy x hx; exact P.le y hy x (drop_sub hx)
  · have := P.lm
    simp only [List.length_append, List.length_cons, List.length_nil] at this ⊢; omega
theorem SldP.right (P : SldP ns1 ns2 ⟨i, j, ti, tj, ms, us, vm, vu, nm, nu⟩) (h1 : ns1.Pairwise (· < ·)) (hi : (i : Int) < ns1.length) (hj : (j : Int) < ns2.length) (hlt : ns2.getD (j : Int).toNat 0 < ns1.getD (i : Int).toNat 0) :
    SldP ns1 ns2 ⟨i, j + 1, ti', tj', ms, us ++ [ns2.getD (j : Int).toNat 0], vm', vu', nm', nu'⟩ := by
  have hi' : i < ns1.length := by omega
  have hj' : j < ns2.length := by omega
  have hlt' : ns2.getD j 0 < ns1.getD i 0 := hlt
  have hy0 : ns2.getD j 0 ∈ ns2.drop j := by
    rw [List.drop_eq_getElem_cons hj', List.getD_eq_getElem?_getD, List.getElem?_eq_getElem hj', Option.getD_some]; exact .head _
  refine ⟨P.hi, by show j + 1 ≤ _; omega, ?_, ?_, ?_, P.lm⟩
  · show us ++ [ns2.getD j 0] = (ns2.take (j + 1)).filter _
    rw [take_succ' hj', List.filter_append, ← P.us]
    congr 1
    have : ns2.getD j 0 ∉ ns1 := by
      intro hm
      rw [← List.take_append_drop i ns1] at hm
      rcases List.mem_append.mp hm with hm | hm
      · exact absurd (P.ge _ hm _ hy0) (Int.lt_irrefl _)
      · have := gt_all h1 hi' _ hm; omega
    rw [List.filter_cons_of_pos (by rw [decide_eq_true_eq]; exact this)]; rfl
  · intro x hx y hy; exact P.ge x hx y (drop_sub hy)
  · intro y hy x hx
    simp only [take_succ' hj', List.mem_append, List.mem_singleton] at hy
    rcases hy with hy | rfl
    · exact P.le y hy x hx
    · have := gt_all h1 hi' x hx; omega
theorem SldP.both (P : SldP ns1 ns2 ⟨i, j, ti, tj, ms, us, vm, vu, nm, nu⟩) (h1 : ns1.Pairwise (· < ·)) (h2 : ns2.Pairwise (· < ·)) (hi : (i : Int) < ns1.length) (hj : (j : Int) < ns2.length) (hlt : ¬ ns2.getD (j : Int).toNat 0 < ns1.getD (i : Int).toNat 0) (hgt : ¬ ns1.getD (i : Int).toNat 0 < ns2.getD (j : Int).toNat 0) :
    SldP ns1 ns2 ⟨i + 1, j + 1, ti', tj', ms, us, vm', vu', nm', nu'⟩ := by
  have hi' : i < ns1.length := by omega
  have hj' : j < ns2.length := by omega
  have he : ns2.getD j 0 = ns1.getD i 0 := by
    have a : ¬ ns2.getD j 0 < ns1.getD i 0 := hlt
    have b : ¬ ns1.getD i 0 < ns2.getD j 0 := hgt
    omega
  refine ⟨by show i + 1 ≤ _; omega, by show j + 1 ≤ _; omega, ?_, ?_, ?_, Nat.le_trans P.lm (Nat.le_succ i)⟩
  · show us = (ns2.take (j + 1)).filter _
    rw [take_succ' hj', List.filter_append, ← P.us]
    have : ns2.getD j 0 ∈ ns1 := by
      rw [he, List.getD_eq_getElem?_getD, List.getElem?_eq_getElem hi', Option.getD_some]; exact List.getElem_mem hi'
    have e : [ns2.getD j 0].filter (fun x => decide (x ∉ ns1)) = [] := by
      rw [List.filter_cons_of_neg (by rw [decide_eq_true_eq]; exact fun h => h this)]; rfl
    rw [e, List.append_nil]
  · intro x hx y hy
    simp only [take_succ' hi', List.mem_append, List.mem_singleton] at hx
    rcases hx with hx | rfl
    · exact P.ge x hx y (drop_sub hy)
    · have := gt_rest h2 hj' y hy; omega
  · intro y hy x hx
    simp only [take_succ' hj', List.mem_append, List.mem_singleton] at hy
    rcases hy with hy | rfl
    · exact P.le y hy x (drop_sub hx)
    · have := gt_rest h1 hi' x hx; omega
theorem SldP.fin (P : SldP ns1 ns2 ⟨i, j, ti, tj, ms, us, vm, vu, nm, nu⟩) (h : (ns1.length : Int) ≤ i ∨ (ns2.length : Int) ≤ j) : ns2.filter (fun x => decide (x ∉ ns1)) = us ++ ns2.drop j := by
  have e : ns2.filter (fun x => decide (x ∉ ns1)) = us ++ (ns2.drop j).filter fun x => decide (x ∉ ns1) := by
    conv => lhs; rw [← List.take_append_drop j ns2]
    rw [List.filter_append, ← P.us]
  rw [e]; congr 1
  rw [List.filter_eq_self]
  intro y hy
  refine decide_eq_true ?_
  intro hm
  rcases h with h | h
  · have : ns1.take i = ns1 := List.take_of_length_le (by omega)
    have hge : ∀ x ∈ ns1.take i, ∀ y ∈ ns2.drop j, x < y := P.ge
    rw [this] at hge
    exact absurd (hge y hm y hy) (Int.lt_irrefl _)
  · rw [List.drop_of_length_le (by omega)] at hy
    exact absurd hy List.not_mem_nil
end
end Mine
end PartSldQ
section GroupK
open PySem PySem.W PySem.Calls PyProof.Rows
namespace Mine
local macro_rules | `(tactic| walk_at $s:str) => `(tactic| k_extra $s)
local macro_rules | `(tactic| k_all) => `(tactic| exact ne_all (by assumption))
local macro_rules | `(tactic| k_mem) => `(tactic| first | exact List.mem_append_left _ (by assumption) | assumption)
section PartSldC
open PySem PySem.W PySem.Calls PyProof.Rows
set_option maxRecDepth 100000
set_option maxHeartbeats 8000000
theorem sld : ∀ (w : World) (p : Program) (loose : List Str) (mean : ExcName → Option Value) (mg mb : Str → Option Value) (A : Around) (l : List Env) (frs news : List (Addr × Obj)) (h₀ : Heap) (s : Shared)
    (l1 l2 : Addr) (ns1 ns2 : List Int) (vs1 vs2 : List Value) (n1 n2 : Nat) (Q E : Value → Shared → Prop)
    (_ : (Mine.hd.heap_39 w.params).In h₀) (_ : Top p loose mean mg mb h₀) (_ : A.frames = some l) (_ : A.handled = none) (_ : TI.Frs l frs) (_ : ∀ q ∈ news, q.1 ∉ frs.map (·.1)) (_ : LedT h₀ s.heap (news ++ frs)) (_ : A.depth + 5 < recursionLimit) (_ : A.units + 60 < cLine)
    (_ : IntsAre vs1 ns1) (_ : IntsAre vs2 ns2) (_ : (l1, W.listOf vs1.toArray n1) ∈ news) (_ : (l2, W.listOf vs2.toArray n2) ∈ news) (_ : ns1.Pairwise (· < ·)) (_ : ns2.Pairwise (· < ·)) (_ : ns1.length ≤ 64) (_ : ns2.length ≤ 64)
    (_ : ∀ t mi un vm vu ms nm nu h' tk' frs', IntsAre vm ms → IntsAre vu (ns2.filter fun x => decide (x ∉ ns1)) → TI.SameUp frs frs' → (∀ q ∈ news ++ frs, q.1 < mi) → mi < un → un < t → LedT h₀ h' ((t, { cls := .type "tuple", data := .seq #[.ref mi, .ref un] }) :: (mi, W.listOf vm.toArray nm) :: (un, W.listOf vu.toArray nu) :: (news ++ frs')) → Q (.ref t) { s with heap := h', toks := tk' }),
    wpAny (model PySem.Challenge.rw_oy0064_01.row.prog w) A (call (.ref 21) [.ref l1, .ref l2]) Q E s := by
  k_with "subscriptTail Name Name ref int" => (k_here; (with_reducible show wpAny _ _ (subscriptTail _ _ (Value.ref _) (Value.int _ _)) _ _ _); k_dflt (first | (refine sub_any (by k_asm) (by k_mem) (by k_asm) (by assumption) (by omega) (by omega) ?_ ?_) | (refine sub_anyH (by k_asm) rfl (List.Mem.head _) (by k_mem) (by k_asm) (by omega) (by omega) ?_ ?_)))
  k_with "call builtin:list.append" => (k_here; (with_reducible show wpAny _ _ (call (Value.builtin _) [Value.ref _, Value.int _ _]) _ _ _); k_dflt (refine appK (by k_asm) (by k_asm) (fun o' => by k_upd) (by assumption) (by omega) ?_); intro _ _ _ _ _ _)
  k_with "exec While Compare cons nil" => (k_here; k_dflt (refine' while_once ?hE ?_; (case hE => passes_own)))
  k_with "NoMore" => (refine ⟨strict_ne (by assumption) (by omega) (by omega), ?_⟩; (try dsimp only))
  k_with "noteFrame ref" => (k_here; (try (with_reducible rename Heap.NewExc _ _ _ _ => tiY'; have tiX' := NewX.of tiY'; clear tiY')); (with_reducible rename NewX _ _ _ _ _ => tiX'); k_dflt (first | (refine noteK2 (by assumption) (by assumption) tiX' (by assumption) (by assumption) (by assumption) (by assumption) (by assumption) ?_) | (refine noteK4 (by assumption) (by assumption) tiX' (by assumption) (by assumption) (by assumption) (by assumption) (by assumption) ?_)); clear tiX'; intro _ _ _ _ _ _ _ _ _ _ _ _ _ _ _ _ _)
  k_with "noteFrame ref" => (k_here; k_dflt (refine noteAgainK (by assumption) (by assumption) ?_))
  k_with "setFlight ref" => (k_here; k_dflt (refine flightK _ (by assumption) (by assumption) (by assumption) (by assumption) (by assumption) ?_); intro _ _ _ _ _)
  k_with "passOn" => (k_here; k_dflt (refine passK (by assumption) (by assumption) (by assumption) (by assumption) (by assumption) ?_); intro _ _ _ _ _; (try dsimp only))
  k_with "handleBy" => (k_here; k_dflt (refine clauseK (by assumption) (by assumption) (by assumption) (by assumption) (by assumption) (by assumption) (by assumption) (by k_is) (by decide +kernel) ?_ (by decide +kernel) (by decide +kernel) (by decide +kernel) (by decide) rfl rfl (by decide) (by passes_own)); intro _ _ _)
  k_with "notedBy" => (k_here; k_dflt (first | (refine (show PassesOwn _ _ _ _ from by passes_own) _ _ ?_) | (refine (show PassesOwnAt _ _ _ _ _ from by passes_own) _ _ ?_)); (try dsimp only))
  k_with "subscriptTail Name Slice ref ref" => (k_here; (with_reducible show wpAny _ _ (subscriptTail _ (PySem.Expr.Slice (some _) none none _) (Value.ref _) (Value.ref _)) _ _ _); k_dflt (refine slice_fromK (by k_asm) (by k_asm) (by k_mem) (by k_asm) (by omega) (by assumption) ?_); intro _ _ _ _ _ _ l1; (try k_lt l1); (try (revert l1; intro _)))
  k_with "call builtin:list.extend" => (k_here; (with_reducible show wpAny _ _ (call (Value.builtin _) [Value.ref _, Value.ref _]) _ _ _); k_dflt (refine extK (by k_asm) (by k_asm) (List.Mem.head _) (fun o' => by k_upd) (by assumption) (by assumption) (by first | omega | (simp only [List.length_append, List.length_cons, List.length_nil]; omega)) (by simp only [List.length_drop]; omega) ?_); intro _ _ _ _ _ _)
  k_fill
  intro w p loose mean mg mb A l frs news h₀ s l1 l2 ns1 ns2 vs1 vs2 n1 n2 Q E X T hAf hAh Fs hap D hd hu hi1 hi2 hm1 hm2 hp1 hp2 hl1 hl2 hret
  refine wpAny_call ?_
  k_dflt (refine' enterT D X T ?k6 ?k7 ?k8 ?k9 ?kB ?_ ?c2 ?c3 ?c4 ?c5; (case k6 => k_is); (case k7 => k_is); (case k8 => omega); (case k9 => exact BindsTo.of_eq rfl); (case c5 => decide); (case kB => exact locs rfl); (case c2 => exact rfl); (case c3 => exact rfl); (case c4 => exact rfl); k_whole)
  intro L' h' tk' eL F' N' hlt
  dsimp only
  k_fold
  iterate 22 (first | (k_unfold; (try dsimp only)) | walk1)
  rename_i mis _ hM0 _ _ une _ hU0 h2 F2 N2
  have hM : ∀ q ∈ news ++ frs, q.1 < mis := hM0
  have hU : ∀ q ∈ news ++ frs, q.1 < une := fun q hq => Nat.lt_trans (hM q hq) hU0.1
  have hMU : @LT.lt Nat _ mis une := hU0.1
  clear hM0 hU0
  refine ksw_while (σ := SldSt) (fun c => (une, W.listOf c.vu.toArray c.nu) :: (mis, W.listOf c.vm.toArray c.nm) :: (news ++ frs)) (fun c => [(Str.ofString "i", .int c.i c.ti), (Str.ofString "j", .int c.j c.tj)]) (fun c => IntsAre c.vm c.ms ∧ IntsAre c.vu c.us) [Str.ofString "e", Str.ofString "a"] (SldP ns1 ns2) (fun c => (ns1.length - c.i) + (ns2.length - c.j))
    ⟨0, 0, _, _, [], [], [], [], 0, 0⟩ F2 N2 ⟨.nil, .nil⟩ (by intro q hq; simp only [List.mem_cons, List.not_mem_nil, or_false] at hq; rcases hq with rfl | rfl <;> rfl) ⟨Nat.zero_le _, Nat.zero_le _, by simp, by simp, by simp, Nat.le_refl _⟩ ?_ ?_
  · intro c u h tk hf hP F3 N3
    obtain ⟨ci, cj, cti, ctj, cms, cus, cvm, cvu, cnm, cnu⟩ := c
    dsimp only at hf F3 N3 ⊢
    obtain ⟨hfm, hfu⟩ := hf
    have hP0 := hP
    obtain ⟨hPi, hPj, hPus, hPge, hPle, hPlm⟩ := hP
    dsimp only at hPi hPj hPus hPge hPle hPlm
    have hAh' : (A.deeper (envOf (Str.ofString "sorted_list_difference") { kind := ScopeKind.function, names := [(Str.ofString "expected", NameKind.local), (Str.ofString "actual", NameKind.local), (Str.ofString "i", NameKind.local), (Str.ofString "j", NameKind.local), (Str.ofString "missing", NameKind.local), (Str.ofString "unexpected", NameKind.local), (Str.ofString "e", NameKind.local), (Str.ofString "a", NameKind.local), (Str.ofString "IndexError", NameKind.globalImplicit)], isGenerator := false, isCoroutine := false } L' 21 (Value.ref 20))).handled = none := hAh
    clear F2 N2
    have hlu : cus.length ≤ cj := by
      rw [hPus]; exact Nat.le_trans (List.length_filter_le _ _) (by rw [List.length_take]; omega)
    k_steps
    · rename_i dz hz Fz Nz lz
      have LL := LedT.sub (LedT.of Fz Nz) memEnd
      refine hret _ _ _ _ _ _ _ _ _ _ _ (by assumption) ?_ ?_ hM hMU lz.2.2.1 LL
      · have e := hP0.fin (.inl (by omega))
        rw [e]; assumption
      · first | assumption | (apply TI.SameUp.trans (a := frs) <;> assumption)
    · rename_i dz hz Fz Nz lz
      have LL := LedT.sub (LedT.of Fz Nz) memEnd
      refine hret _ _ _ _ _ _ _ _ _ _ _ (by assumption) ?_ ?_ hM hMU lz.2.2.1 LL
      · have e := hP0.fin (.inr (by omega))
        rw [e]; assumption
      · first | assumption | (apply TI.SameUp.trans (a := frs) <;> assumption)
    · rename_i dz hz Fz Nz lz
      have LL := LedT.sub (LedT.of Fz Nz) memEnd
      refine hret _ _ _ _ _ _ _ _ _ _ _ (by assumption) ?_ ?_ hM hMU lz.2.2.1 LL
      · have e := (hP0.left (ti' := cti) (tj' := ctj) (vm' := cvm) (vu' := cvu) (nm' := cnm) (nu' := cnu) (x := 0) hp2 (by omega) (by omega) (by assumption)).fin (.inl (by omega))
        rw [e]; assumption
      · first | assumption | (apply TI.SameUp.trans (a := frs) <;> assumption)
    · rename_i Fz Nz _ _
      refine ksw_end ⟨ci + 1, cj, _, ctj, cms ++ [ns1.getD (ci : Int).toNat 0], cus, _, cvu, _, cnu⟩ Fz Nz (fun p hp => hp) ⟨by assumption, by assumption⟩ (by intro q hq; simp only [List.mem_cons, List.not_mem_nil, or_false] at hq; rcases hq with rfl | rfl <;> rfl) ?_ (hP0.left hp2 (by omega) (by omega) (by assumption)) (by dsimp only; omega)
      · intro z h2 h3
        simp only [List.forall_mem_cons, List.not_mem_nil, false_implies, implies_true, and_true, ne_eq] at h2
        simp only [List.contains_cons, List.contains_nil, Bool.or_false, Bool.or_eq_false_iff, beq_eq_false_iff_ne, ne_eq] at h3
        simp [kstB, h2, h3]
    · rename_i dz hz Fz Nz lz
      have LL := LedT.sub (LedT.of Fz Nz) memEnd
      refine hret _ _ _ _ _ _ _ _ _ _ _ (by assumption) ?_ ?_ hM hMU lz.2.2.1 LL
      · have e := (hP0.right (ti' := cti) (tj' := ctj) (vm' := cvm) (vu' := cvu) (nm' := cnm) (nu' := cnu) hp1 (by omega) (by omega) (by omega)).fin (.inr (by omega))
        rw [e]; assumption
      · first | assumption | (apply TI.SameUp.trans (a := frs) <;> assumption)
    · rename_i Fz Nz _ _
      refine ksw_end ⟨ci, cj + 1, cti, _, cms, cus ++ [ns2.getD (cj : Int).toNat 0], cvm, _, cnm, _⟩ Fz Nz (fun p hp => hp) ⟨by assumption, by assumption⟩ (by intro q hq; simp only [List.mem_cons, List.not_mem_nil, or_false] at hq; rcases hq with rfl | rfl <;> rfl) ?_ (hP0.right hp1 (by omega) (by omega) (by omega)) (by dsimp only; omega)
      · intro z h2 h3
        simp only [List.forall_mem_cons, List.not_mem_nil, false_implies, implies_true, and_true, ne_eq] at h2
        simp only [List.contains_cons, List.contains_nil, Bool.or_false, Bool.or_eq_false_iff, beq_eq_false_iff_ne, ne_eq] at h3
        simp [kstB, h2, h3]
    · rename_i dz hz Fz Nz lz
      have LL := LedT.sub (LedT.of Fz Nz) memEnd
      refine hret _ _ _ _ _ _ _ _ _ _ _ (by assumption) ?_ ?_ hM hMU lz.2.2.1 LL
      · have e := (hP0.both (ti' := cti) (tj' := ctj) (vm' := cvm) (vu' := cvu) (nm' := cnm) (nu' := cnu) hp1 hp2 (by omega) (by omega) (by omega) (by omega)).fin (.inl (by omega))
        rw [e]; assumption
      · first | assumption | (apply TI.SameUp.trans (a := frs) <;> assumption)
    · rename_i dz hz Fz Nz lz
      have LL := LedT.sub (LedT.of Fz Nz) memEnd
      refine hret _ _ _ _ _ _ _ _ _ _ _ (by assumption) ?_ ?_ hM hMU lz.2.2.1 LL
      · have e := (hP0.both (ti' := cti) (tj' := ctj) (vm' := cvm) (vu' := cvu) (nm' := cnm) (nu' := cnu) hp1 hp2 (by omega) (by omega) (by omega) (by omega)).fin (.inl (by omega))
        rw [e]; assumption
      · first | assumption | (apply TI.SameUp.trans (a := frs) <;> assumption)
    · rename_i dz hz Fz Nz lz
      have LL := LedT.sub (LedT.of Fz Nz) memEnd
      refine hret _ _ _ _ _ _ _ _ _ _ _ (by assumption) ?_ ?_ hM hMU lz.2.2.1 LL
      · have e := (hP0.both (ti' := cti) (tj' := ctj) (vm' := cvm) (vu' := cvu) (nm' := cnm) (nu' := cnu) hp1 hp2 (by omega) (by omega) (by omega) (by omega)).fin (.inr (by omega))
        rw [e]; assumption
      · first | assumption | (apply TI.SameUp.trans (a := frs) <;> assumption)
    · rename_i Fz Nz _ _
      refine ksw_end ⟨ci + 1, cj + 1, _, _, cms, cus, cvm, cvu, cnm, cnu⟩ Fz Nz (fun p hp => hp) ⟨by assumption, by assumption⟩ (by intro q hq; simp only [List.mem_cons, List.not_mem_nil, or_false] at hq; rcases hq with rfl | rfl <;> rfl) ?_ (hP0.both hp1 hp2 (by omega) (by omega) (by omega) (by omega)) (by dsimp only; omega)
      · intro z h2 h3
        simp only [List.forall_mem_cons, List.not_mem_nil, false_implies, implies_true, and_true, ne_eq] at h2
        simp only [List.contains_cons, List.contains_nil, Bool.or_false, Bool.or_eq_false_iff, beq_eq_false_iff_ne, ne_eq] at h3
        simp [kstB, h2, h3]
  · passes_own
  k_with_none
end PartSldC
section PartJoined
open PySem PySem.W PySem.Calls PyProof.Rows
set_option maxRecDepth 100000
set_option maxHeartbeats 4000000
theorem inT {h₀ h : Heap} {L : Addr} {m : Str → Option Value} {news frs : List (Addr × Obj)} {l : List Env} {env : Env} (F : Fr h₀ L h m) (N : News h₀ L h (news ++ frs)) (Fs : TI.Frs l frs) (hk : env.scope.kind ≠ .module) (hf : env.frame = some L) :
    ∃ oL, h.get? L = some oL ∧ TI.Frs (env :: l) ((L, oL) :: frs) ∧ LedT h₀ h (news ++ ((L, oL) :: frs)) := by
  obtain ⟨o, es, ep, ho, hd, _⟩ := F.ns
  refine ⟨o, ho, ⟨hk, hf, ⟨es, ep, hd⟩, Fs⟩, ⟨F.keep, fun p hp => ?_, Nat.le_trans F.above (Nat.le_of_lt F.ns.lt)⟩⟩
  rcases List.mem_append.mp hp with hp | hp
  · exact ⟨(N p (List.mem_append_left _ hp)).1, (N p (List.mem_append_left _ hp)).2.2⟩
  · rcases List.mem_cons.mp hp with rfl | hp
    · refine ⟨ho, ?_⟩
      cases q : h₀.get? L with
      | none => rfl
      | some x => exact absurd (Heap.lt_size q) (Nat.not_lt.mpr F.above)
    · exact ⟨(N p (List.mem_append_right _ hp)).1, (N p (List.mem_append_right _ hp)).2.2⟩
theorem outT {h₀ h h' : Heap} {L : Addr} {oL : Obj} {m : Str → Option Value} {extra news frs frs2 : List (Addr × Obj)} (F : Fr h₀ L h m) (N : News h₀ L h (news ++ frs)) (ho : h.get? L = some oL) (SU : TI.SameUp ((L, oL) :: frs) frs2)
    (D : LedT h₀ h' (extra ++ (news ++ frs2))) (hx : ∀ p ∈ extra, p.1 ≠ L) : ∃ frs', TI.SameUp frs frs' ∧ Fr h₀ L h' m ∧ News h₀ L h' (extra ++ (news ++ frs')) := by
  cases frs2 with
  | nil => exact False.elim SU
  | cons q frs' =>
    obtain ⟨e1, ⟨sl, e2⟩, SU'⟩ := SU
    obtain ⟨qa, qo⟩ := q
    simp only at e1 e2
    subst e1 e2
    have hq := D.has (qa, { oL with slots := sl }) (List.mem_append_right _ (List.mem_append_right _ (.head _)))
    obtain ⟨o, es, ep, ho', hd, hs, hf⟩ := F.ns
    rw [ho] at ho'
    cases ho'
    refine ⟨frs', SU', ⟨⟨_, es, ep, hq.1, hd, hs, hf⟩, D.keep, F.above⟩, fun p hp => ?_⟩
    rcases List.mem_append.mp hp with hp | hp
    · exact ⟨(D.has p (List.mem_append_left _ hp)).1, hx p hp, (D.has p (List.mem_append_left _ hp)).2⟩
    · rcases List.mem_append.mp hp with hp | hp
      · have z := D.has p (List.mem_append_right _ (List.mem_append_left _ hp))
        exact ⟨z.1, (N p (List.mem_append_left _ hp)).2.1, z.2⟩
      · have z := D.has p (List.mem_append_right _ (List.mem_append_right _ (.tail _ hp)))
        refine ⟨z.1, fun e => ?_, z.2⟩
        have hm : p.1 ∈ frs'.map (·.1) := List.mem_map_of_mem hp
        rw [← sameUp_fst SU'] at hm
        obtain ⟨r, hr, er⟩ := List.mem_map.mp hm
        exact (N r (List.mem_append_right _ hr)).2.1 (er.trans e)
theorem sldK {w : World} {p : Program} {loose : List Str} {mean : ExcName → Option Value} {mg mb : Str → Option Value} {A : Around} {env : Env} {l : List Env} {frs news : List (Addr × Obj)} {h₀ : Heap} {L : Addr} {m : Str → Option Value} {s : Shared}
    {l1 l2 : Addr} {ns1 ns2 : List Int} {vs1 vs2 : List Value} {n1 n2 : Nat} {Q E : Value → Shared → Prop}
    (X : (Mine.hd.heap_39 w.params).In h₀) (T : Top p loose mean mg mb h₀) (F : Fr h₀ L s.heap m) (N : News h₀ L s.heap (news ++ frs)) (hAf : A.frames = some (env :: l)) (hAh : A.handled = none) (Fs : TI.Frs l frs) (hap : ∀ q ∈ news, q.1 ∉ frs.map (·.1))
    (i1 : IntsAre vs1 ns1) (i2 : IntsAre vs2 ns2) (m1 : (l1, W.listOf vs1.toArray n1) ∈ news) (m2 : (l2, W.listOf vs2.toArray n2) ∈ news) (p1 : ns1.Pairwise (· < ·)) (p2 : ns2.Pairwise (· < ·)) (z1 : ns1.length ≤ 64) (z2 : ns2.length ≤ 64)
    (h : ∀ t mi un vm vu ms nm nu h' tk' frs', IntsAre vm ms → IntsAre vu (ns2.filter fun x => decide (x ∉ ns1)) → TI.SameUp frs frs' → TI.Frs l frs' → (∀ q ∈ news, q.1 ∉ frs'.map (·.1)) → (∀ q ∈ news ++ frs', q.1 < mi) → @LT.lt Nat _ mi un → @LT.lt Nat _ un t → Fr h₀ L h' m →
      News h₀ L h' ((t, { cls := .type "tuple", data := .seq #[.ref mi, .ref un] }) :: (mi, W.listOf vm.toArray nm) :: (un, W.listOf vu.toArray nu) :: (news ++ frs')) → Q (.ref t) { s with heap := h', toks := tk' })
    (hd : A.depth + 5 < recursionLimit) (hu : A.units + 60 < cLine) (hk : env.scope.kind ≠ .module) (hf : env.frame = some L) :
    wpAny (model PySem.Challenge.rw_oy0064_01.row.prog w) A (call (.ref 21) [.ref l1, .ref l2]) Q E s := by
  obtain ⟨oL, ho, Fs', D⟩ := inT F N Fs hk hf
  refine sld w p loose mean mg mb A (env :: l) ((L, oL) :: frs) news h₀ s l1 l2 ns1 ns2 vs1 vs2 n1 n2 Q E X T hAf hAh Fs' (fun q hq hm => ?_) D hd hu i1 i2 m1 m2 p1 p2 z1 z2 fun t mi un vm vu ms nm nu h' tk' frs2 a1 a2 SU a4 a5 a6 LL => ?_
  · rcases List.mem_cons.mp hm with e | hm
    · exact (N q (List.mem_append_left _ hq)).2.1 e
    · exact hap q hq hm
  · have hL : @LT.lt Nat _ L mi := a4 (L, oL) (List.mem_append_right _ (.head _))
    have a5' : @LT.lt Nat _ mi un := a5
    have a6' : @LT.lt Nat _ un t := a6
    obtain ⟨frs', SU', F', N'⟩ := outT (extra := [(t, _), (mi, _), (un, _)]) F N ho SU LL (by
      intro q hq
      simp only [List.mem_cons, List.not_mem_nil, or_false] at hq
      rcases hq with rfl | rfl | rfl
      · exact Nat.ne_of_gt (Nat.lt_trans hL (Nat.lt_trans a5' a6'))
      · exact Nat.ne_of_gt hL
      · exact Nat.ne_of_gt (Nat.lt_trans hL a5'))
    have lt0 : ∀ q ∈ news ++ frs, q.1 < mi := fun q hq => a4 q (by
      rcases List.mem_append.mp hq with hq | hq
      · exact List.mem_append_left _ hq
      · exact List.mem_append_right _ (.tail _ hq))
    exact h t mi un vm vu ms nm nu h' tk' frs' a1 a2 SU' (Fs.up SU') (by rw [← sameUp_fst SU']; exact hap) (up_lt SU' lt0) a5 a6 F' N'
end PartJoined
section PartJoinT
open PySem PySem.W PySem.Calls PyProof.Rows
set_option maxRecDepth 100000
set_option maxHeartbeats 4000000
theorem memEnd4 {α : Type} {a b c d e : α} {l : List α} : ∀ p ∈ a :: l, p ∈ a :: b :: c :: d :: e :: l := by
  intro p hp
  simp only [List.mem_cons] at hp ⊢
  rcases hp with h | h <;> simp [h]
theorem joined : ∀ (w : World) (p : Program) (loose : List Str) (mean : ExcName → Option Value) (mg mb : Str → Option Value) (A : Around) (l : List Env) (frs news : List (Addr × Obj)) (h₀ : Heap) (s : Shared)
    (l1 l2 : Addr) (ns1 ns2 : List Int) (vs1 vs2 : List Value) (n1 n2 : Nat) (Q E : Value → Shared → Prop)
    (_ : (Mine.hd.heap_39 w.params).In h₀) (_ : Top p loose mean mg mb h₀) (_ : A.frames = some l) (_ : A.handled = none) (_ : TI.Frs l frs) (_ : ∀ q ∈ news, q.1 ∉ frs.map (·.1)) (_ : LedT h₀ s.heap (news ++ frs)) (_ : A.depth + 7 < recursionLimit) (_ : A.units + 80 < cLine)
    (_ : IntsAre vs1 ns1) (_ : IntsAre vs2 ns2) (_ : (l1, W.listOf vs1.toArray n1) ∈ news) (_ : (l2, W.listOf vs2.toArray n2) ∈ news) (_ : ns1.Pairwise (· < ·)) (_ : ns2.Pairwise (· < ·)) (_ : ns1.length ≤ 64) (_ : ns2.length ≤ 64) (_ : ns1.length + (ns2.filter fun x => decide (x ∉ ns1)).length < 64)
    (_ : ∀ D vs' ns' c h' tk' frs', IntsAre vs' ns' → ns'.Perm (ns1 ++ ns2.filter fun x => decide (x ∉ ns1)) → ns'.Pairwise (· ≤ ·) → TI.SameUp frs frs' → (∀ q ∈ news ++ frs', q.1 < D) → LedT h₀ h' ((D, W.listOf vs'.toArray c) :: (news ++ frs')) → Q (.ref D) { s with heap := h', toks := tk' }),
    wpAny (model PySem.Challenge.rw_oy0064_01.row.prog w) A (call (.ref 71) [.ref l1, .ref l2]) Q E s := by
  k_fill
  intro w p loose mean mg mb A l frs news h₀ s l1 l2 ns1 ns2 vs1 vs2 n1 n2 Q E X T hAf hAh Fs hap D hd hu hi1 hi2 hm1 hm2 hp1 hp2 hl1 hl2 hz hret
  refine wpAny_call ?_
  k_dflt (refine' enterT D X T ?k6 ?k7 ?k8 ?k9 ?kB ?_ ?c2 ?c3 ?c4 ?c5; (case k6 => k_is); (case k7 => k_is); (case k8 => omega); (case k9 => exact BindsTo.of_eq rfl); (case c5 => decide); (case kB => exact locs rfl); (case c2 => exact rfl); (case c3 => exact rfl); (case c4 => exact rfl); k_whole)
  intro L' h' tk' eL F' N' hlt
  dsimp only
  k_fold
  iterate 18 (first | (k_unfold; (try dsimp only)) | walk1)
  refine sldK X T (by assumption) (by assumption) (Around.frames_deeper hAf) hAh Fs hap hi1 hi2 hm1 hm2 hp1 hp2 hl1 hl2 ?_ (by show A.depth + 1 + 5 < _; omega) (by show A.units + 3 + 60 < _; omega) (by show ScopeKind.function ≠ ScopeKind.module; decide) rfl
  intro t' mi' un' vm' vu' ms' nm' nu' h' tk' frs' hvm' hvu' tiSU' tiF' hap' hM' hMU' hUT' F' N'
  iterate 5 (first | (k_unfold; (try dsimp only)) | walk1)
  rename_i Fz Nz iz ez pz oz bz p0z lz
  have LL := LedT.sub (LedT.of Fz Nz) memEnd4
  exact hret _ _ _ _ _ _ _ iz pz oz tiSU' (kst_ltOf lz.2.2.2.2) LL
end PartJoinT
section PartRedA
open PySem PySem.W PySem.Calls PyProof.Rows
set_option maxRecDepth 100000
set_option maxHeartbeats 4000000
theorem joinedK {w : World} {p : Program} {loose : List Str} {mean : ExcName → Option Value} {mg mb : Str → Option Value} {A : Around} {env : Env} {l : List Env} {frs news : List (Addr × Obj)} {h₀ : Heap} {L : Addr} {m : Str → Option Value} {s : Shared}
    {l1 l2 : Addr} {ns1 ns2 : List Int} {vs1 vs2 : List Value} {n1 n2 : Nat} {Q E : Value → Shared → Prop}
    (X : (Mine.hd.heap_39 w.params).In h₀) (T : Top p loose mean mg mb h₀) (F : Fr h₀ L s.heap m) (N : News h₀ L s.heap (news ++ frs)) (hAf : A.frames = some (env :: l)) (hAh : A.handled = none) (Fs : TI.Frs l frs) (hap : ∀ q ∈ news, q.1 ∉ frs.map (·.1))
    (i1 : IntsAre vs1 ns1) (i2 : IntsAre vs2 ns2) (m1 : (l1, W.listOf vs1.toArray n1) ∈ news) (m2 : (l2, W.listOf vs2.toArray n2) ∈ news) (p1 : ns1.Pairwise (· < ·)) (p2 : ns2.Pairwise (· < ·)) (z1 : ns1.length ≤ 64) (z2 : ns2.length ≤ 64) (z3 : ns1.length + (ns2.filter fun x => decide (x ∉ ns1)).length < 64)
    (h : ∀ D vs' ns' c h' tk' frs', IntsAre vs' ns' → ns'.Perm (ns1 ++ ns2.filter fun x => decide (x ∉ ns1)) → ns'.Pairwise (· ≤ ·) → TI.SameUp frs frs' → TI.Frs l frs' → (∀ q ∈ news, q.1 ∉ frs'.map (·.1)) → (∀ q ∈ news ++ frs', q.1 < D) → Fr h₀ L h' m →
      News h₀ L h' ((D, W.listOf vs'.toArray c) :: (news ++ frs')) → Q (.ref D) { s with heap := h', toks := tk' })
    (hd : A.depth + 7 < recursionLimit) (hu : A.units + 80 < cLine) (hk : env.scope.kind ≠ .module) (hf : env.frame = some L) :
    wpAny (model PySem.Challenge.rw_oy0064_01.row.prog w) A (call (.ref 71) [.ref l1, .ref l2]) Q E s := by
  obtain ⟨oL, ho, Fs', D⟩ := inT F N Fs hk hf
  refine joined w p loose mean mg mb A (env :: l) ((L, oL) :: frs) news h₀ s l1 l2 ns1 ns2 vs1 vs2 n1 n2 Q E X T hAf hAh Fs' (fun q hq hm => ?_) D hd hu i1 i2 m1 m2 p1 p2 z1 z2 z3 fun t vs' ns' c h' tk' frs2 a1 a2 a3 SU a4 LL => ?_
  · rcases List.mem_cons.mp hm with e | hm
    · exact (N q (List.mem_append_left _ hq)).2.1 e
    · exact hap q hq hm
  · have hL : @LT.lt Nat _ L t := up_lt (SU := (TI.SameUp.refl _)) a4 (L, ((frs2.headD (L, oL)).2)) (by
      cases frs2 with
      | nil => exact False.elim SU
      | cons q r =>
        obtain ⟨e1, _, _⟩ := SU
        refine List.mem_append_right _ ?_
        obtain ⟨qa, qo⟩ := q
        simp only at e1
        subst e1
        exact .head _)
    obtain ⟨frs', SU', F', N'⟩ := outT (extra := [(t, _)]) F N ho SU LL (by
      intro q hq
      simp only [List.mem_cons, List.not_mem_nil, or_false] at hq
      subst hq
      exact Nat.ne_of_gt hL)
    have lt0 : ∀ q ∈ news ++ frs', q.1 < t := fun q hq => by
      rcases List.mem_append.mp hq with hq | hq
      · exact a4 q (List.mem_append_left _ hq)
      · have hm : q.1 ∈ frs'.map (·.1) := List.mem_map_of_mem hq
        rw [← sameUp_fst SU'] at hm
        have hm2 : q.1 ∈ frs2.map (·.1) := by rw [← sameUp_fst SU]; exact .tail _ hm
        obtain ⟨r, hr, er⟩ := List.mem_map.mp hm2
        rw [← er]; exact a4 r (List.mem_append_right _ hr)
    exact h t vs' ns' c h' tk' frs' a1 a2 a3 SU' (Fs.up SU') (by rw [← sameUp_fst SU']; exact hap) lt0 F' N'
end PartRedA
section PartRedB
open PySem PySem.W PySem.Calls PyProof.Rows
set_option maxRecDepth 100000
set_option maxHeartbeats 4000000
theorem entry_iter : entryFor table "iter" = some Builtin.«iter» := entryFor_of_fast (by kernel_rfl)
theorem args_iter1 (a : Value) : argsOk "iter" ⟨[a], []⟩ := by unfold argsOk; kernel_rfl
theorem iterList {prog : Program} {w : World} {A : Around} {E : Value → Shared → Prop} {s : Shared} {l : Addr} {items : Array Value} {Q : Value → Shared → Prop} (hl : s.heap.IsList l items)
    (hQ : Q (.ref s.heap.objs.size) { s with heap := s.heap.push { cls := .type "list_iterator", data := .fields #[.ref l, .int 0 0] } }) : wpAny (model prog w) A (call (.builtin "iter") [.ref l]) Q E s := by
  refine call_function_entry (by decide +kernel) (by decide +kernel) entry_iter (args_iter1 _) ?_
  unfold Builtin.«iter»
  refine wpAny_bind (m := someArgs "iter" 1 2 _) (wpAny_of_eq (a := [Value.ref l]) (by first | rfl | kernel_rfl!) ?_)
  dsimp only
  refine wpAny_bind (wpAny_pyIter_list hl ?_)
  exact wpAny_pure ⟨_, rfl, hQ⟩
structure Good (ns : List Int) : Prop where
  up : ns.Pairwise (· < ·)
  lo : ∀ x ∈ ns, 0 ≤ x
  hi : ∀ x ∈ ns, x < 32
theorem pw_len : ∀ (n : Nat) (a : Int) (ns : List Int), ns.Pairwise (· < ·) → (∀ x ∈ ns, a ≤ x) → (∀ x ∈ ns, x < a + n) → ns.length ≤ n
  | _, _, [], _, _, _ => Nat.zero_le _
  | 0, a, x :: r, _, h1, h2 => by have := h1 x (.head _); have := h2 x (.head _); omega
  | n + 1, a, x :: r, hp, h1, h2 => by
    have h3 := List.pairwise_cons.mp hp
    have := pw_len n (a + 1) r h3.2 (fun y hy => by have := h3.1 y hy; have := h1 x (.head _); omega) (fun y hy => by have := h2 y (.tail _ hy); omega)
    rw [List.length_cons]; omega
theorem Good.len {ns : List Int} (g : Good ns) : ns.length ≤ 32 := pw_len 32 0 ns g.up g.lo fun x hx => by have := g.hi x hx; omega
theorem pw_nodup {ns : List Int} (h : ns.Pairwise (· < ·)) : ns.Nodup := h.imp fun a e => by subst e; exact absurd a (Int.lt_irrefl _)
theorem pw_lt {ns : List Int} (h : ns.Pairwise (· ≤ ·)) (hn : ns.Nodup) : ns.Pairwise (· < ·) := by
  induction ns with
  | nil => exact .nil
  | cons x r ih =>
    have h1 := List.pairwise_cons.mp h
    have h2 := List.nodup_cons.mp hn
    exact List.pairwise_cons.mpr ⟨fun y hy => by have a := h1.1 y hy; have b : x ≠ y := fun e => h2.1 (e ▸ hy); omega, ih h1.2 h2.2⟩
theorem good_join {a b c : List Int} (ga : Good a) (gb : Good b) (hp : c.Perm (a ++ b.filter fun x => decide (x ∉ a))) (hs : c.Pairwise (· ≤ ·)) : Good c ∧ ∀ x, x ∈ c ↔ x ∈ a ∨ x ∈ b := by
  have hm : ∀ x, x ∈ c ↔ x ∈ a ∨ x ∈ b := fun x => by
    rw [hp.mem_iff, List.mem_append, List.mem_filter]
    by_cases hx : x ∈ a <;> simp [hx]
  have hn : c.Nodup := hp.nodup_iff.mpr (List.nodup_append.mpr ⟨pw_nodup ga.up, (pw_nodup gb.up).filter _, fun x hx y hy e => by
    subst e
    have := (List.mem_filter.mp hy).2
    simp [hx] at this⟩)
  exact ⟨⟨pw_lt hs hn, fun x hx => ((hm x).mp hx).elim (ga.lo x) (gb.lo x), fun x hx => ((hm x).mp hx).elim (ga.hi x) (gb.hi x)⟩, hm⟩
theorem nd_len : ∀ (n : Nat) (l : List Int), l.Nodup → (∀ x ∈ l, 0 ≤ x ∧ x < (n : Int)) → l.length ≤ n
  | 0, [], _, _ => Nat.le_refl _
  | 0, x :: r, _, h => by have := h x (.head _); omega
  | n + 1, l, hn, h => by
    have h1 := nd_len n (l.erase (n : Int)) (hn.erase _) fun x hx => by
      have := (List.Nodup.mem_erase_iff hn).mp hx
      have := h x this.2
      omega
    have h2 : l.length ≤ (l.erase (n : Int)).length + 1 := by rw [List.length_erase]; split <;> omega
    omega
theorem good_len {a b : List Int} (ga : Good a) (gb : Good b) : a.length + (b.filter fun x => decide (x ∉ a)).length < 64 := by
  have := ga.len
  have := gb.len
  have := List.length_filter_le (fun x => decide (x ∉ a)) b
  have h3 : (a ++ b.filter fun x => decide (x ∉ a)).Nodup := List.nodup_append.mpr ⟨pw_nodup ga.up, (pw_nodup gb.up).filter _, fun x hx y hy e => by
    subst e
    have := (List.mem_filter.mp hy).2
    simp [hx] at this⟩
  have h5 := nd_len 32 _ h3 fun x hx => by
    rcases List.mem_append.mp hx with h | h
    · exact ⟨ga.lo x h, ga.hi x h⟩
    · exact ⟨gb.lo x (List.mem_filter.mp h).1, gb.hi x (List.mem_filter.mp h).1⟩
  rw [List.length_append] at h5
  omega
end PartRedB
section PartRedC
open PySem PySem.W PySem.Calls PyProof.Rows
set_option maxRecDepth 100000
set_option maxHeartbeats 4000000
theorem iterK {prog : Program} {w : World} {A : Around} {E : Value → Shared → Prop} {s : Shared} {h₀ : Heap} {L l : Addr} {m : Str → Option Value} {news : List (Addr × Obj)} {items : Array Value} {n : Nat} {Q : Value → Shared → Prop}
    (F : Fr h₀ L s.heap m) (N : News h₀ L s.heap news) (hm : (l, W.listOf items n) ∈ news)
    (hQ : ∀ I h', I = s.heap.objs.size → Fr h₀ L h' m → News h₀ L h' ((I, { cls := .type "list_iterator", data := .fields #[.ref l, .int 0 0] }) :: news) → (∀ p ∈ news, p.1 < I) → Q (.ref I) { s with heap := h' }) : wpAny (model prog w) A (call (.builtin "iter") [.ref l]) Q E s := by
  refine iterList (N.isList hm) (hQ _ _ rfl (F.push _) (fun p hp => ?_) fun p hp => Heap.lt_size (N p hp).1)
  rcases List.mem_cons.mp hp with rfl | hp
  · exact ⟨Heap.get?_push_size _ rfl, Nat.ne_of_gt F.ns.lt, next_is_new F⟩
  · exact ⟨Heap.get?_push_of_some _ (N p hp).1, (N p hp).2⟩
theorem red0 : ∀ (w : World) (p : Program) (loose : List Str) (mean : ExcName → Option Value) (mg mb : Str → Option Value) (A : Around) (l : List Env) (frs news : List (Addr × Obj)) (h₀ : Heap) (s : Shared)
    (lq l1 : Addr) (qs : List Addr) (ns1 : List Int) (vs1 : List Value) (Z : Nat → Int → Prop) (n n1 : Nat) (Q E : Value → Shared → Prop)
    (_ : (Mine.hd.heap_39 w.params).In h₀) (_ : Top p loose mean mg mb h₀) (_ : A.frames = some l) (_ : A.handled = none) (_ : TI.Frs l frs) (_ : ∀ q ∈ news, q.1 ∉ frs.map (·.1)) (_ : LedT h₀ s.heap (news ++ frs)) (_ : A.depth + 9 < recursionLimit) (_ : A.units + 100 < cLine)
    (_ : (lq, W.listOf (qs.map Value.ref).toArray n) ∈ news) (_ : (l1, W.listOf vs1.toArray n1) ∈ news) (_ : IntsAre vs1 ns1) (_ : Good ns1)
    (_ : ∀ i q, qs[i]? = some q → ∃ vs n zs, (q, W.listOf vs.toArray n) ∈ news ∧ IntsAre vs zs ∧ Good zs ∧ ∀ x, x ∈ zs ↔ Z i x)
    (_ : ∀ D vs' ns' c h' tk' frs', IntsAre vs' ns' → Good ns' → (∀ x, x ∈ ns' ↔ x ∈ ns1 ∨ ∃ i, i < qs.length ∧ Z i x) → TI.SameUp frs frs' → ((qs = [] ∧ D = l1) ∨ ∀ q ∈ news ++ frs', q.1 < D) → LedT h₀ h' ((D, W.listOf vs'.toArray c) :: (news ++ frs')) → Q (.ref D) { s with heap := h', toks := tk' }),
    wpAny (model PySem.Challenge.rw_oy0064_01.row.prog w) A (call (.ref 52) [.ref 71, .ref lq, .ref l1]) Q E s := by
  k_with "call builtin:iter" => (k_here; k_dflt (refine' iterK ?F ?N ?hm ?_; (case F => k_asm); (case N => k_asm); (case hm => k_mem)); intro _ _ _ _ _ _)
  k_fill
  intro w p loose mean mg mb A l frs news h₀ s lq l1 qs ns1 vs1 Z n n1 Q E X T hAf hAh Fs hap D hd hu hq h1 hi1 hg1 hzs hret
  have hne : @Ne Nat l1 44 := fun e => by
    have z := (D.has (l1, W.listOf vs1.toArray n1) (List.mem_append_left _ h1)).2
    subst e
    rw [X 44 _ (by k_is)] at z
    cases z
  refine wpAny_call ?_
  k_dflt (refine' enterT D X T ?k6 ?k7 ?k8 ?k9 ?kB ?_ ?c2 ?c3 ?c4 ?c5; (case k6 => k_is); (case k7 => k_is); (case k8 => omega); (case k9 => exact BindsTo.of_defaults rfl ((X.keeps D.keep) _ _ (by k_is)) rfl rfl rfl); (case c5 => decide); (case kB => exact locs rfl); (case c2 => exact rfl); (case c3 => exact rfl); (case c4 => exact rfl); k_whole)
  intro L' h' tk' eL F' N' hlt
  dsimp only
  k_fold
  k_steps
  rename_i I' _ eI lI _ hB FB NB
  have hI : News h₀ L' hB (news ++ frs) := fun p hp => NB p (.tail _ hp)
  have hI0 := NB _ (.head _)
  have lqN := NB (lq, W.listOf (qs.map Value.ref).toArray n) (.tail _ (List.mem_append_left _ hq))
  refine wpAny_pyIter_listiter (l := lq) (i := 0) ⟨_, hI0.1, rfl, rfl⟩ ?_
  have hqI : @LT.lt Nat _ lq I' := lI (lq, _) (List.mem_append_left _ hq)
  have hLq : @LT.lt Nat _ lq L' := hlt (lq, _) (List.mem_append_left _ hq)
  generalize hM0 : (fun y => if y = Str.ofString "value" then some (Value.ref l1) else _ : Str → Option Value) = M0 at FB
  have m_f : M0 (Str.ofString "function") = some (.ref 71) := by rw [← hM0]; rfl
  have m_v : M0 (Str.ofString "value") = some (.ref l1) := by rw [← hM0]; rfl
  clear hM0
  have hsz : (qs.map Value.ref).toArray.size = qs.length := by simp
  refine ⟨I', _, _, _, _, _, M0, (l1, W.listOf vs1.toArray n1) :: (news ++ frs), (fun i m nx => ∃ v vs ns c frs' e, nx = (v, W.listOf vs.toArray c) :: (news ++ frs') ∧ m = (fun y => if y = Str.ofString "element" then e else if y = Str.ofString "value" then some (.ref v) else M0 y) ∧
    IntsAre vs ns ∧ Good ns ∧ (∀ x, x ∈ ns ↔ x ∈ ns1 ∨ ∃ j, j < i ∧ Z j x) ∧ TI.SameUp frs frs' ∧ TI.Frs l frs' ∧ (∀ q ∈ news, q.1 ∉ frs'.map (·.1)) ∧ ((i = 0 ∧ v = l1) ∨ ∀ q ∈ news ++ frs', q.1 < v)), rfl, Walks.list (A := A.deeper _) hAh I' lq (Nat.ne_of_lt hqI) (qs.map Value.ref).toArray, ?_, ?_, ?_, ?_, FB, ?_, ?_, ?_, ?_⟩
  · intro hm
    rcases List.mem_cons.mp hm with e | hm
    · exact hI0.2.1 e.symm
    · exact Nat.ne_of_gt hLq (List.mem_singleton.mp hm)
  · intro b hb
    rw [List.mem_singleton.mp hb]; exact hI0.2.2
  · intro q hq' hm
    have e := List.mem_singleton.mp hm
    rcases List.mem_cons.mp hq' with rfl | hq'
    · exact Nat.ne_of_lt (lI (l1, _) (List.mem_append_left _ h1)) e
    · exact Nat.ne_of_lt (lI q hq') e
  · exact ⟨⟨_, hI0.1, rfl, rfl⟩, ⟨_, lqN.1, rfl, n, rfl⟩⟩
  · intro q hq'
    rcases List.mem_cons.mp hq' with rfl | hq'
    · exact hI _ (List.mem_append_left _ h1)
    · exact hI q hq'
  · refine ⟨l1, vs1, ns1, n1, frs, M0 (Str.ofString "element"), rfl, ?_, by assumption, hg1, fun x => by simp, TI.SameUp.refl _, Fs, hap, .inl ⟨rfl, rfl⟩⟩
    funext y
    by_cases e1 : y = Str.ofString "element"
    · rw [if_pos e1, e1]
    · rw [if_neg e1]
      by_cases e2 : y = Str.ofString "value"
      · rw [if_pos e2, e2, m_v]
      · rw [if_neg e2]
  · rintro i v m₁ news₁ s₁ own ⟨hh, tkk, rfl⟩ hin hP ⟨va, vs, ns, c, frs', e0, rfl, rfl, hvs, hgs, hmem, SU, Fs', hap', hv⟩ hoff hown hget hfp hst F₁ N₁
    have hin' : i < qs.length := by simpa using hin
    obtain ⟨vq, nq, zq, hqm, hqi, hqg, hqZ⟩ := hzs i qs[i] (by simp [hin'])
    have ev : v = .ref qs[i] := by
      have : (qs.map Value.ref)[i]? = some v := by simpa using hP
      simp [hin'] at this
      exact this.symm
    subst ev
    have em : (fun y => if y = Str.ofString "element" then some (Value.ref qs[i]) else (fun y => if y = Str.ofString "element" then e0 else if y = Str.ofString "value" then some (.ref va) else M0 y) y) =
        fun y => if y = Str.ofString "element" then some (Value.ref qs[i]) else if y = Str.ofString "value" then some (.ref va) else if y = Str.ofString "function" then some (.ref 71) else M0 y := by
      funext y
      by_cases e1 : y = Str.ofString "element"
      · rw [if_pos e1, if_pos e1]
      · rw [if_neg e1, if_neg e1]
        dsimp only
        rw [if_neg e1]
        by_cases e2 : y = Str.ofString "value"
        · rw [if_pos e2, if_pos e2]
        · rw [if_neg e2, if_neg e2]
          by_cases e3 : y = Str.ofString "function"
          · rw [if_pos e3, e3, m_f]
          · rw [if_neg e3]
    rw [em] at F₁
    clear em
    have N₂ : News h₀ L' hh ((own ++ (va, W.listOf vs.toArray c) :: news) ++ frs') := by
      rw [List.append_assoc, List.cons_append]; exact N₁
    have hI00 := hI0.2.2
    clear FB NB hI hI0 lqN
    dsimp only
    repeat ((fail_if_success (with_reducible show wpAny _ _ (call (Value.ref _) _) _ _ _)); first | (k_unfold; (try dsimp only)) | walk1)
    have ltI : ∀ q ∈ news ++ frs', q.1 < I' := up_lt SU lI
    have hIown : ∃ o, (I', o) ∈ own := by
      obtain ⟨o, ho, _⟩ := hst.1
      exact ⟨o, hfp I' (.head _) hI00 o ho⟩
    refine joinedK (l := l) (frs := frs') (news := own ++ (va, W.listOf vs.toArray c) :: news) X T F₁ N₂ (Around.frames_deeper hAf) hAh Fs' ?_ hvs hqi (List.mem_append_right _ (.head _)) (List.mem_append_right _ (.tail _ hqm)) hgs.up hqg.up (Nat.le_trans hgs.len (by decide)) (Nat.le_trans hqg.len (by decide)) (good_len hgs hqg) ?_ (by show A.depth + 1 + 7 < _; omega) (by show A.units + 3 + 80 < _; omega) (by show ScopeKind.function ≠ ScopeKind.module; decide) rfl
    · intro q hq1 hq2
      obtain ⟨r, hr, er⟩ := List.mem_map.mp hq2
      rcases List.mem_append.mp hq1 with hq1 | hq1
      · rcases List.mem_cons.mp (hown q hq1) with e | e
        · exact Nat.ne_of_lt (ltI r (List.mem_append_right _ hr)) (er.trans e)
        · exact hap' _ hq (by rw [List.mem_singleton.mp e] at hq2; exact hq2)
      · rcases List.mem_cons.mp hq1 with rfl | hq1
        · rcases hv with ⟨_, hv⟩ | hv
          · subst hv; exact hap' _ h1 hq2
          · exact Nat.ne_of_lt (hv r (List.mem_append_right _ hr)) er
        · exact hap' _ hq1 hq2
    · intro D' vs' ns' c' h3 tk3 frs3 i3 p3 o3 SU3 Fs3 hap3 lt3 F3 N3
      repeat first | (k_unfold; (try dsimp only)) | walk1
      rename_i F4 N4
      obtain ⟨gj, mj⟩ := good_join hgs hqg p3 o3
      have hDI : @LT.lt Nat _ I' D' := by
        obtain ⟨o, ho⟩ := hIown
        exact lt3 (I', o) (List.mem_append_left _ (List.mem_append_left _ ho))
      refine (LoopStepU.intro F4 (news₂ := (D', W.listOf vs'.toArray c') :: (news ++ frs3)) (fun p hp => N4 p ?_) ?_ ⟨D', vs', ns', c', frs3, some (.ref qs[i]), rfl, ?_, i3, gj, ?_, TI.SameUp.trans SU SU3, Fs3, fun q hq => hap3 q (List.mem_append_right _ (.tail _ hq)), .inr ?_⟩)
      · simp only [List.mem_append, List.mem_cons] at hp ⊢
        rcases hp with h | h | h | h <;> simp [h]
      · intro p hp hm
        have e := List.mem_singleton.mp hm
        rcases List.mem_cons.mp hp with rfl | hp
        · exact Nat.ne_of_gt hDI e
        · exact Nat.ne_of_lt (up_lt SU3 ltI p hp) e
      · funext y
        by_cases e1 : y = Str.ofString "element"
        · subst e1; rfl
        · by_cases e2 : y = Str.ofString "value"
          · rw [if_pos e2, if_neg e1, if_pos e2]
          · by_cases e3 : y = Str.ofString "function"
            · subst e3; exact m_f.symm
            · simp [e1, e2, e3]
      · intro x
        rw [mj, hmem, hqZ]
        constructor
        · rintro ((h | ⟨j, hj, hx⟩) | h)
          · exact .inl h
          · exact .inr ⟨j, Nat.lt_succ_of_lt hj, hx⟩
          · exact .inr ⟨i, Nat.lt_succ_self _, h⟩
        · rintro (h | ⟨j, hj, hx⟩)
          · exact .inl (.inl h)
          · rcases Nat.lt_succ_iff_lt_or_eq.mp hj with hj | rfl
            · exact .inl (.inr ⟨j, hj, hx⟩)
            · exact .inr hx
      · intro q hq
        rcases List.mem_append.mp hq with hq | hq
        · exact lt3 q (List.mem_append_left _ (List.mem_append_right _ (.tail _ hq)))
        · exact lt3 q (List.mem_append_right _ hq)
  · rintro h'' tk'' m'' news'' F2 N2 hoff2 ⟨va, vs, ns, c, frs', e0, rfl, rfl, hvs, hgs, hmem, SU, Fs', hap', hv⟩
    k_steps
    refine hret va vs ns c h'' tk'' frs' hvs hgs (fun x => ?_) SU ?_ (LedT.of F2 N2)
    · rw [hmem, hsz]
    · rcases hv with ⟨h, e⟩ | h
      · exact .inl ⟨by rw [hsz] at h; exact List.length_eq_zero_iff.mp h, e⟩
      · exact .inr h
  k_with_none
end PartRedC
section PartEnterC
open PySem PySem.W PySem.Calls PyProof.Rows
set_option maxRecDepth 100000
set_option maxHeartbeats 8000000
section
variable {prog : Program} {w : World} {A : Around} {s : Shared} {h₀ : Heap} {news : List (Addr × Obj)} {K : Frag} {p : Program} {loose : List Str} {mean : ExcName → Option Value} {mg mb : Str → Option Value}
    {R : Result → Shared → Prop} {name qual : Str} {params : Arguments} {body : List Stmt} {scope : Scope} {dV kV doc pm cdv ct oc : Value} {an od : Option Addr} {osl : Array (Option Value)} {f : Addr} {args : Args} {binds : List (Str × Value)}
theorem enterTC (D : LedT h₀ s.heap news) (X₀ : K.In h₀) (T : Top p loose mean mg mb h₀)
    (ho : K.lookup f = some ⟨oc, od, .func (fnOf name qual params body scope dV kV doc pm an cdv ct), osl⟩) (hcd : codeIn K cdv qual = true) (hroom : A.depth < recursionLimit)
    (hbind : BindsTo s (fnOf name qual params body scope dV kV doc pm an cdv ct) args binds)
    (hkind : ∀ n, ∀ x ∈ binds, scope.names.lookup x.1 = some .local ∨ (scope.names.lookup x.1 = some .cell ∧ ((cellsFrom n scope.names []).lookup x.1).isSome = true))
    (hnd : ((cellsFrom 0 scope.names []).map (·.1)).Nodup)
    (h : ∀ L' h₁ tk₁ cells, L' = s.heap.objs.size → Fr h₀ L' h₁ (bindL (envOfC qual scope L' f cdv).kindOf binds fun _ => none) → News h₀ L' h₁ (cells ++ news) →
      CellsAre (bindC (envOfC qual scope L' f cdv).kindOf binds fun _ => none) (cellsFrom (L' + 1) scope.names []) cells → (∀ p ∈ news, p.1 < L') →
      wpAny (model prog w) (A.deeper (envOfC qual scope L' f cdv)) (execs body (envOfC qual scope L' f cdv))
        (fun fl s' => R (.ok (.ret (match fl with | .ret v => v | _ => .none))) s')
        (fun e s' => wpAny (model prog w) (A.deeper (envOfC qual scope L' f cdv)) (leaving (envOfC qual scope L' f cdv) e) (fun _ s'' => R (.error e) s'') (fun e' s'' => R (.error e') s'') s')
        { s with heap := h₁, toks := tk₁ })
    (hco : scope.isCoroutine = false := by rfl) (hgen : scope.isGenerator = false := by rfl) (hk : scope.kind = .function := by rfl) : codeAny (model prog w) A (.call (.ref f) args) R s := by
  have X := X₀.keeps D.keep
  refine codeAny_call_function hroom (X _ _ ho) rfl hco hgen rfl (codeRec_of X hcd) (hbind _ _ _ _ ?_)
  refine wpAny_newFunctionEnv_cells hk (hkind _) fun env' he s' x => ?_
  subst he
  refine ⟨(T.nolimit.keeps D.keep).keeps x.toInCall.keep, codeAny_func ?_⟩
  obtain ⟨h₁, tk, rfl, _⟩ := x.done
  have hk₁ := x.toInCall.keep
  obtain ⟨cells, NC, Y⟩ := Cl.news (h₀ := s.heap) (Nat.le_refl _) fun n c hm => ⟨x.cell n c (lookup_of_mem_nodup (cellsFrom_names scope.names 0 (s.heap.objs.size + 1) [] [] rfl ▸ hnd) hm), x.above n c hm⟩
  refine h s.heap.objs.size h₁ tk cells rfl ⟨x.toInCall.ns, fun b o e => hk₁ b o (D.keep b o e), D.size⟩ (fun p hp => ?_) Y (fun p hp => Heap.lt_size (D.has p hp).1)
  rcases List.mem_append.mp hp with hp | hp
  · refine ⟨(NC p hp).1, (NC p hp).2.1, ?_⟩
    cases q : h₀.get? p.1 with
    | none => rfl
    | some o => have := D.keep _ _ q; rw [(NC p hp).2.2] at this; cases this
  · exact ⟨hk₁ _ _ (D.has p hp).1, Nat.ne_of_lt (Heap.lt_size (D.has p hp).1), (D.has p hp).2⟩
end
end PartEnterC
section PartCompC
open PySem PySem.W PySem.Calls PyProof.Rows PyProof.Rows.LCg
set_option maxRecDepth 100000
set_option maxHeartbeats 8000000
noncomputable def Off4 (I C P D : Addr) (news : List (Addr × Obj)) : Prop := ∀ p ∈ news, p.1 ≠ I ∧ p.1 ≠ C ∧ p.1 ≠ P ∧ p.1 ≠ D
noncomputable abbrev cellO (v : Value) : Obj := { cls := .type "cell", data := .cell (some v) }
structure Apart4 (I C P D : Addr) : Prop where
  ic : I ≠ C
  ip : I ≠ P
  id : I ≠ D
  cp : C ≠ P
  cd : C ≠ D
  pd : P ≠ D
noncomputable def CellSrc (prog : Program) (w : World) (A : Around) (h₀ : Heap) (L : Addr) (m : Str → Option Value) (env : Env) (elt : PySem.Expr) (x : Str) (scope : Scope) (cl : List (Str × Addr)) (n : Nat) (R : Nat → List Value → List (Addr × Obj) → Prop) (Q : Value → Shared → Prop) (xv : Value) (s : Shared) : Prop :=
  ∃ r t u v news, xv = .ref r ∧ A.handled = none ∧ Fr h₀ L s.heap m ∧ News h₀ L s.heap news ∧ IsRange s.heap r 0 n 1 t u v ∧ R 0 [] news ∧
    (∀ i ys news' I oI C oC P oP D h tk m₂ t (E' : Value → Shared → Prop), i < n → R i ys news' → NsObj oC m₂ → oP.data = .cell (some (.int (i : Nat) t)) → Apart4 I C P D → Off4 I C P D news' → Fr h₀ L h m → News h₀ L h ((I, oI) :: (C, oC) :: (P, oP) :: (D, lst ys) :: news') →
      wpAny (model prog w) A (eval elt (compEnvC scope ((x, P) :: cl) C env)) (fun y s'' => ∃ h' tk' news'', s'' = { s with heap := h', toks := tk' } ∧ Fr h₀ L h' m ∧ News h₀ L h' ((I, oI) :: (C, oC) :: (P, oP) :: (D, lst ys) :: news'') ∧ Off4 I C P D news'' ∧ R (i + 1) (ys ++ [y]) news'') E' { s with heap := h, toks := tk }) ∧
    ∀ ys news' D h tk, R n ys news' → (∀ p ∈ news', p.1 ≠ D) → D ≠ L → Fr h₀ L h m → News h₀ L h ((D, lst ys) :: news') → Q (.ref D) { s with heap := h, toks := tk }
section
variable {prog : Program} {w : World} {A : Around} {E : Value → Shared → Prop} {s : Shared} {h₀ : Heap} {L : Addr} {m : Str → Option Value} {env : Env}
theorem compCell {elt iter : PySem.Expr} {x : Str} {px : Pos} {scope : Scope} {cl : List (Str × Addr)} {pos : Pos} {n : Nat} {R : Nat → List Value → List (Addr × Obj) → Prop} {Q : Value → Shared → Prop}
    (_ : Fr h₀ L s.heap m) (hclos : closureFor scope env = pure cl) (hkind : scope.kind = .function) (hnames : ∀ y ∈ scope.names, y.2 = .local → scope.names.lookup y.1 = some .local)
    (hcf : ∀ k, cellsFrom k scope.names cl = (x, k) :: cl) (hpc : ∀ h : Heap, pushCells h scope.names = h.push { cls := .type "cell", data := .cell none }) (hx : (relabel scope env).names.lookup x = some .cell)
    (hsm : Builtin.Range.small 0 n 1 = true) (hn : Builtin.Range.rangeSize 0 n 1 = ((n : Nat) : Int)) (hsz : n ≤ sizeLine)
    (h : wpAny (model prog w) A (eval iter env) (CellSrc prog w A h₀ L m env elt x scope cl n R Q) E s)
    (hs : ∀ x, foldedSetIterable iter env x = pure x := by intro _; rfl) :
    wpAny (model prog w) A (eval (.ListComp elt [⟨.Name x px, iter, [], 0⟩] scope pos) env) Q E s := by
  rw [eval_ListComp]
  refine wpAny_comprehension_free (use := none) rfl hs hclos hkind hnames (wpAny_mono h (fun xv s₁ h₁ => ?_) fun _ _ e => e)
  obtain ⟨r, t, u, v, news, rfl, hh, F, N, hr, hR0, turn, done⟩ := h₁
  refine wpAny_pyIter_range hr hsm ?_
  have W := range_walks (prog := prog) (w := w) (A := A) (I := s₁.heap.objs.size) hh 0 n
  refine wpAny_newObj_type ?_
  dsimp only
  simp only [newFunctionEnv, Option.isSome_some, if_true]
  refine wpAny_bind (wpAny_alloc ?_)
  refine wpAny_bind (wpAny_layCells _ (fun name kind cells => by cases hkc : kind == NameKind.cell <;> simp) _ _ _ _ ?_)
  rw [hcf, hpc]
  refine wpAny_bind (m := forIn [] PUnit.unit _) ?_
  rw [List.forIn_nil]
  refine wpAny_pure (wpAny_pure ?_)
  have z1 : ∀ (h : Heap) (o : Obj), (h.push o).objs.size = h.objs.size + 1 := fun h o => Heap.size_push ..
  have fresh₀ : ∀ a, s₁.heap.objs.size ≤ a → h₀.get? a = none := fun a ha => by
    cases e : h₀.get? a with
    | none => rfl
    | some o' => exact absurd (Heap.lt_size (F.keep a o' e)) (Nat.not_lt.mpr ha)
  have hLlt : L < s₁.heap.objs.size := F.ns.lt
  generalize hH1 : s₁.heap.push { cls := .type "range_iterator", data := .fields #[rawInt 0, rawInt (Builtin.Range.rangeSize 0 n 1), rawInt 1] } = H1
  have eH1 : H1.objs.size = s₁.heap.objs.size + 1 := by rw [← hH1, z1]
  have k1 : ∀ b o, s₁.heap.get? b = some o → H1.get? b = some o := fun b o e => hH1 ▸ Heap.get?_push_of_some _ e
  have gI : H1.get? s₁.heap.objs.size = some { cls := .type "range_iterator", data := .fields #[rawInt 0, rawInt (Builtin.Range.rangeSize 0 n 1), rawInt 1] } := hH1 ▸ Heap.get?_push_size _ rfl
  generalize hH2 : H1.push { cls := .type "list", dict := none, data := .seq ([] : List Value).toArray } = H2
  have eH2 : H2.objs.size = H1.objs.size + 1 := by rw [← hH2, z1]
  have k2 : ∀ b o, H1.get? b = some o → H2.get? b = some o := fun b o e => hH2 ▸ Heap.get?_push_of_some _ e
  have gD : H2.get? H1.objs.size = some (lst []) := hH2 ▸ Heap.get?_push_size _ rfl
  generalize hH3 : H2.push { cls := .type "dict", data := .dict #[] } = H3
  have eH3 : H3.objs.size = H2.objs.size + 1 := by rw [← hH3, z1]
  have k3 : ∀ b o, H2.get? b = some o → H3.get? b = some o := fun b o e => hH3 ▸ Heap.get?_push_of_some _ e
  have gC : H3.get? H2.objs.size = some { cls := .type "dict", data := .dict #[] } := hH3 ▸ Heap.get?_push_size _ rfl
  generalize hH4 : H3.push { cls := .type "cell", data := .cell none } = H4
  have k4 : ∀ b o, H3.get? b = some o → H4.get? b = some o := fun b o e => hH4 ▸ Heap.get?_push_of_some _ e
  have gP : H4.get? H3.objs.size = some { cls := .type "cell", data := .cell none } := hH4 ▸ Heap.get?_push_size _ rfl
  have gC4 := k4 _ _ gC
  have gD4 := k4 _ _ (k3 _ _ gD)
  have gI4 := k4 _ _ (k3 _ _ (k2 _ _ gI))
  have k : ∀ b o, s₁.heap.get? b = some o → H4.get? b = some o := fun b o e => k4 _ _ (k3 _ _ (k2 _ _ (k1 _ _ e)))
  clear hH1 hH2 hH3 hH4 k1 k2 k3 k4 gI gC gD
  generalize eI : s₁.heap.objs.size = I at *
  generalize eD : H1.objs.size = D at *
  generalize eC : H2.objs.size = C at *
  generalize eP : H3.objs.size = P at *
  have ap : Apart4 I C P D := by
    have a1 : (D : Nat) = I + 1 := eH1
    have a2 : (C : Nat) = D + 1 := eH2
    have a3 : (P : Nat) = C + 1 := eH3
    have q1 : ∀ {a b : Nat}, a < b → a ≠ b := fun h => Nat.ne_of_lt h
    exact ⟨q1 (show (I : Nat) < C by omega), q1 (show (I : Nat) < P by omega), q1 (show (I : Nat) < D by omega), q1 (show (C : Nat) < P by omega), (q1 (show (D : Nat) < C by omega)).symm, (q1 (show (D : Nat) < P by omega)).symm⟩
  have fI : h₀.get? I = none := fresh₀ _ (Nat.le_refl _)
  have le1 : @LE.le Nat _ I D := by show @LE.le Nat _ I D; rw [eH1]; exact Nat.le_succ _
  have le2 : @LE.le Nat _ I C := Nat.le_trans le1 (by rw [eH2]; exact Nat.le_succ _)
  have le3 : @LE.le Nat _ I P := Nat.le_trans le2 (by rw [eH3]; exact Nat.le_succ _)
  have fD : h₀.get? D = none := fresh₀ _ le1
  have fC : h₀.get? C = none := fresh₀ _ le2
  have fP : h₀.get? P = none := fresh₀ _ le3
  have lI : I ≠ L := Nat.ne_of_gt hLlt
  have lD : D ≠ L := Nat.ne_of_gt (Nat.lt_of_lt_of_le hLlt le1)
  have lC : C ≠ L := Nat.ne_of_gt (Nat.lt_of_lt_of_le hLlt le2)
  have lP : P ≠ L := Nat.ne_of_gt (Nat.lt_of_lt_of_le hLlt le3)
  have off0 : Off4 I C P D news := fun p hp => by
    have h1 : @LT.lt Nat _ p.1 I := eI ▸ Heap.lt_size (N p hp).1
    exact ⟨Nat.ne_of_lt h1, Nat.ne_of_lt (Nat.lt_of_lt_of_le h1 le2), Nat.ne_of_lt (Nat.lt_of_lt_of_le h1 le3), Nat.ne_of_lt (Nat.lt_of_lt_of_le h1 le1)⟩
  have loop : ∀ s₃ : Shared, s₃ = { s₁ with heap := H4 } → codeAny (model prog w) A (.compLoop (.ListComp elt [⟨.Name x px, iter, [], 0⟩] scope pos) 0 (.ref I) (.ref D) (compEnvC scope ((x, P) :: cl) C env))
      (compPost (model prog w) A E none Q (.ref D) C) s₃ := by
    rintro s₃ rfl
    refine codeAny_compLoop_tests
      (fun k s' => ∃ h' tk i ys oC m₂ oP v₀ news', s' = { s₁ with heap := h', toks := tk } ∧ i ≤ n ∧ k = n + 1 - i ∧ ys.length = i ∧ IsRangeIter h' I (0 + (i : Nat) * 1) ((n : Int) - (i : Nat)) 1 ∧ Fr h₀ L h' m ∧ NsObj oC m₂ ∧ oP.data = .cell v₀ ∧
        News h₀ L h' ((C, oC) :: (P, oP) :: (D, lst ys) :: news') ∧ Off4 I C P D news' ∧ R i ys news') ?_ (n + 1)
      ⟨H4, s₁.toks, 0, [], { cls := .type "dict", data := .dict #[] }, fun _ => none, { cls := .type "cell", data := .cell none }, none, news, rfl, Nat.zero_le _, rfl, rfl, ?_, F.keeps k, ⟨#[], _, rfl, fun e he => by simp at he, fun _ => rfl⟩, rfl, fun p hp => ?_, off0, hR0⟩
    · rintro k s' ⟨h', tk, i, ys, oC, m₂, oP, v₀, news', rfl, hi, rfl, hyl, hst', F', nsC, dP, N', off', R'⟩
      by_cases hlt : i < n
      · refine W.item i _ _ _ hlt hst' fun v h₂ tk₂ hPv hst₂ hk₂ => ?_
        obtain ⟨t', rfl⟩ := hPv
        have F₂ : Fr h₀ L h₂ m := fr_but F' hk₂ lI.symm fI
        have N₂ : News h₀ L h₂ ((C, oC) :: (P, oP) :: (D, lst ys) :: news') := news_but N' hk₂ fun p hp => by
          rcases List.mem_cons.mp hp with rfl | hp
          · exact ap.ic.symm
          · rcases List.mem_cons.mp hp with rfl | hp
            · exact ap.ip.symm
            · rcases List.mem_cons.mp hp with rfl | hp
              · exact ap.id.symm
              · exact (off' p hp).1
        have pP := N₂ (P, oP) (.tail _ (.head _))
        refine wpAny_assign_Name (wpAny_storeName_cell (c := P) (by exact hkind) hx (by simp [compEnvC]) ⟨_, pP.1, dP⟩ fun h₃ hv₃ hs₃ => ?_)
        obtain ⟨oP', hoP', dP'⟩ := hv₃
        refine wpAny_tests_nil ?_
        simp only [if_true]
        have F₃ : Fr h₀ L h₃ m := F₂.change hs₃ lP fP
        have stI : h₃.get? I = some _ := (hs₃.2 I ap.ip).trans hst₂
        have N₃ : News h₀ L h₃ ((I, _) :: (C, oC) :: (P, oP') :: (D, lst ys) :: news') := fun p hp => by
          rcases List.mem_cons.mp hp with rfl | hp
          · exact ⟨stI, lI, fI⟩
          · rcases List.mem_cons.mp hp with rfl | hp
            · have z := N₂ (C, oC) (.head _)
              exact ⟨(hs₃.2 _ ap.cp).trans z.1, z.2⟩
            · rcases List.mem_cons.mp hp with rfl | hp
              · exact ⟨hoP', lP, fP⟩
              · have z := N₂ p (.tail _ (.tail _ hp))
                refine ⟨(hs₃.2 _ ?_).trans z.1, z.2⟩
                rcases List.mem_cons.mp hp with rfl | hp
                · exact ap.pd.symm
                · exact (off' p hp).2.2.1
        refine wpAny_mono (turn i ys news' I _ C oC P oP' D h₃ _ m₂ t' _ hlt R' nsC (by simpa using dP') ap off' F₃ N₃) (fun y s₄ h₄ => ?_) fun _ _ e => e
        obtain ⟨h₄, tk₄, news₄, rfl, F₄, N₄, off₄, R₄⟩ := h₄
        have zD := (N₄ (D, lst ys) (.tail _ (.tail _ (.tail _ (.head _))))).1
        refine append_at (hsz := by show ys.toArray.size ≤ sizeLine; rw [List.size_toArray, hyl]; exact Nat.le_trans hi hsz) zD fun h₅ hs₅ hD₅ => ?_
        refine ⟨n + 1 - (i + 1), by omega, h₅, tk₄, i + 1, ys ++ [y], oC, m₂, oP', _, news₄, rfl, hlt, rfl, by rw [List.length_append, List.length_singleton, hyl], ?_, F₄.change hs₅ lD fD, nsC, dP', fun p hp => ?_, off₄, R₄⟩
        · have z := (N₄ _ (.head _)).1
          exact (hs₅.2 I ap.id).trans z
        · rcases List.mem_cons.mp hp with rfl | hp
          · have z := N₄ (C, oC) (.tail _ (.head _))
            exact ⟨(hs₅.2 _ ap.cd).trans z.1, z.2⟩
          · rcases List.mem_cons.mp hp with rfl | hp
            · have z := N₄ (P, oP') (.tail _ (.tail _ (.head _)))
              exact ⟨(hs₅.2 _ ap.pd).trans z.1, z.2⟩
            · rcases List.mem_cons.mp hp with rfl | hp
              · exact ⟨hD₅.trans (congrArg some (lst_snoc ys y)), lD, fD⟩
              · have z := N₄ p (.tail _ (.tail _ (.tail _ (.tail _ hp))))
                exact ⟨(hs₅.2 _ (off₄ p hp).2.2.2).trans z.1, z.2⟩
      · obtain rfl : i = n := Nat.le_antisymm hi (Nat.not_lt.mp hlt)
        refine W.done _ _ _ hst' fun h₂ tk₂ hk₂ => ?_
        have F₂ : Fr h₀ L h₂ m := fr_but F' hk₂ lI.symm fI
        have N₂ : News h₀ L h₂ ((C, oC) :: (P, oP) :: (D, lst ys) :: news') := news_but N' hk₂ fun p hp => by
          rcases List.mem_cons.mp hp with rfl | hp
          · exact ap.ic.symm
          · rcases List.mem_cons.mp hp with rfl | hp
            · exact ap.ip.symm
            · rcases List.mem_cons.mp hp with rfl | hp
              · exact ap.id.symm
              · exact (off' p hp).1
        refine ⟨m₂, nsC.ns (N₂ _ (.head _)).1, fun h'' hs'' => done ys news' D h'' tk₂ R' (fun p hp => (off' p hp).2.2.2) lD (F₂.change hs'' lC fC) fun p hp => ?_⟩
        have z := N₂ p (.tail _ (.tail _ hp))
        refine ⟨(hs''.2 _ ?_).trans z.1, z.2⟩
        rcases List.mem_cons.mp hp with rfl | hp
        · exact ap.cd.symm
        · exact (off' p hp).2.1
    · rw [hn] at gI4
      show H4.get? I = some _
      simpa using gI4
    · rcases List.mem_cons.mp hp with rfl | hp
      · exact ⟨gC4, lC, fC⟩
      · rcases List.mem_cons.mp hp with rfl | hp
        · exact ⟨gP, lP, fP⟩
        · rcases List.mem_cons.mp hp with rfl | hp
          · exact ⟨gD4, lD, fD⟩
          · exact ⟨k _ _ (N p hp).1, (N p hp).2⟩
  exact codeAny_compStart_list (loop _ rfl) (W.self 0 _ _ _ (by show H4.get? I = some _; rw [hn] at gI4; simpa using gI4) (loop _ rfl))
end
end PartCompC
section PartCompM
open PySem PySem.W PySem.Calls PyProof.Rows PyProof.Rows.LCg
set_option maxRecDepth 100000
set_option maxHeartbeats 4000000
section
variable {prog : Program} {w : World} {A : Around} {E : Value → Shared → Prop} {s : Shared} {h₀ : Heap} {L : Addr} {m : Str → Option Value} {env : Env}
noncomputable def ElEnd (h₀ : Heap) (L : Addr) (m : Str → Option Value) (s : Shared) (all : List (Addr × Obj)) (y : Int) (v : Value) (s'' : Shared) : Prop :=
  ∃ h' tk' t', v = .int y t' ∧ s'' = { s with heap := h', toks := tk' } ∧ Fr h₀ L h' m ∧ News h₀ L h' all
theorem ElEnd.intro {h₀ : Heap} {L : Addr} {m : Str → Option Value} {s : Shared} {all all' : List (Addr × Obj)} {y z : Int} {t' : Tok} {h' : Heap} {tk' : Nat} (F : Fr h₀ L h' m) (N : News h₀ L h' all') (hs : ∀ p ∈ all, p ∈ all') (e : z = y) : ElEnd h₀ L m s all y (.int z t') { s with heap := h', toks := tk' } :=
  ⟨h', tk', t', by rw [e], rfl, F, fun p hp => N p (hs p hp)⟩
theorem compMap {elt : PySem.Expr} {x : Str} {scope : Scope} {cl : List (Str × Addr)} {S : List (Addr × Obj) → Prop} {Fin : List Value → List (Addr × Obj) → Prop} {news : List (Addr × Obj)} {vs : List Value} {ns : List Int} (f : Int → Int) (hi : IntsAre vs ns)
    (turn : ∀ n t I oI C oC D ys m₂ h tk (E' : Value → Shared → Prop), n ∈ ns → NsObj oC m₂ → m₂ x = some (.int n t) → Fr h₀ L h m → News h₀ L h ((I, oI) :: (C, oC) :: (D, lst ys) :: news) →
      wpAny (model prog w) A (eval elt (compEnvC scope cl C env)) (ElEnd h₀ L m { s with heap := h, toks := tk } ((I, oI) :: (C, oC) :: (D, lst ys) :: news) (f n)) E' { s with heap := h, toks := tk })
    (hS : S news) (fin : ∀ ys, IntsAre ys (ns.map f) → Fin ys news) : CompRest prog w A h₀ L m env elt x scope cl s S (fun i v => vs.toArray[i]? = some v) Fin vs.toArray.size 0 [] news := by
  have hlen : vs.length = ns.length := hi.length
  have go : ∀ k i ys, i + k = ns.length → IntsAre ys ((ns.take i).map f) → CompRest prog w A h₀ L m env elt x scope cl s S (fun i v => vs.toArray[i]? = some v) Fin k i ys news := by
    intro k
    induction k with
    | zero =>
      intro i ys e hy
      have : i = ns.length := by omega
      rw [this, List.take_length] at hy
      exact CompRest.zero (fin ys hy)
    | succ k ih =>
      intro i ys e hy
      refine CompRest.succ fun v I oI C oC D m₂ h tk E' hv nsC hx F N off ap => ?_
      have hlt : i < ns.length := by omega
      obtain ⟨t, ht⟩ := hi.get i ns[i] (by simp [hlt])
      have ev : v = .int ns[i] t := by
        have hv' : vs[i]? = some v := by simpa using hv
        rw [ht] at hv'; exact (Option.some.inj hv').symm
      subst ev
      refine wpAny_mono (turn _ t I oI C oC D ys m₂ h tk E' (List.getElem_mem hlt) nsC hx F N) (fun y s'' hy' => ?_) fun _ _ e => e
      obtain ⟨h', tk', t', rfl, rfl, F', N'⟩ := hy'
      refine ⟨h', tk', news, rfl, F', N', off, hS, ih (i + 1) _ (by omega) ?_⟩
      rw [List.take_add_one, List.getElem?_eq_getElem hlt, List.map_append]
      exact ints_snoc hy _ _
  have hsz : vs.toArray.size = ns.length := by rw [List.size_toArray, hlen]
  rw [hsz]
  exact go ns.length 0 [] (by omega) .nil
end
end PartCompM
section PartWit
open PySem PySem.W PySem.Calls PyProof.Rows PyProof.Rows.LCg
set_option maxRecDepth 100000
set_option maxHeartbeats 4000000
noncomputable def xorZ (x : Int) (j : Nat) : Int := ((x.toNat ^^^ 2 ^ j : Nat) : Int)
theorem xor_eq {n : Int} {i : Nat} (h0 : 0 ≤ n) (h1 : n < 32) (hi : i < 5) : Builtin.bitXor n (2 ^ (i : Int).toNat) = xorZ n i := by
  obtain ⟨a, rfl⟩ := Int.eq_ofNat_of_zero_le h0
  have ha : a < 32 := by omega
  have all : ∀ a : Nat, a < 32 → ∀ i : Nat, i < 5 → Builtin.bitXor (Int.ofNat a) (2 ^ (Int.ofNat i).toNat) = xorZ (Int.ofNat a) i := by decide +kernel
  exact all a ha i hi
theorem xor_good {ns zs : List Int} {i : Nat} (g : Good ns) (hi : i < 5) (hp : zs.Perm (ns.map fun x => xorZ x i)) (ho : zs.Pairwise (· ≤ ·)) : Good zs := by
  have lt : ∀ a : Nat, a < 32 → ∀ i : Nat, i < 5 → a ^^^ 2 ^ i < 32 := by decide +kernel
  have inj : ∀ i : Nat, i < 5 → ∀ a b : Nat, a ^^^ 2 ^ i = b ^^^ 2 ^ i → a = b := fun i _ a b e => by
    have h := congrArg (fun z => z ^^^ 2 ^ i) e
    simpa [Nat.xor_assoc, Nat.xor_self] using h
  have hb : ∀ x ∈ zs, 0 ≤ x ∧ x < 32 := fun x hx => by
    obtain ⟨y, hy, rfl⟩ := List.mem_map.mp (hp.mem_iff.mp hx)
    have h0 := g.lo y hy
    have h1 := g.hi y hy
    have := lt y.toNat (by omega) i hi
    dsimp only [xorZ]
    omega
  refine ⟨pw_lt ho (hp.nodup_iff.mpr ?_), fun x hx => (hb x hx).1, fun x hx => (hb x hx).2⟩
  refine List.Pairwise.map _ (fun a b h e => ?_) (List.Pairwise.and_mem.mp (pw_nodup g.up))
  obtain ⟨ha, hb, hab⟩ := h
  have h0 := g.lo a ha
  have h1 := g.lo b hb
  have e2 : a.toNat ^^^ 2 ^ i = b.toNat ^^^ 2 ^ i := by dsimp only [xorZ] at e; omega
  have := inj i hi _ _ e2
  exact hab (by omega)
theorem within : ∀ (w : World) (p : Program) (loose : List Str) (mean : ExcName → Option Value) (mg mb : Str → Option Value) (A : Around) (l : List Env) (frs news : List (Addr × Obj)) (h₀ : Heap) (s : Shared)
    (l1 : Addr) (ns1 : List Int) (vs1 : List Value) (n1 : Nat) (Q E : Value → Shared → Prop)
    (_ : (Mine.hd.heap_39 w.params).In h₀) (_ : Top p loose mean mg mb h₀) (_ : A.frames = some l) (_ : A.handled = none) (_ : TI.Frs l frs) (_ : ∀ q ∈ news, q.1 ∉ frs.map (·.1)) (_ : LedT h₀ s.heap (news ++ frs)) (_ : A.depth + 12 < recursionLimit) (_ : A.units + 120 < cLine)
    (_ : (l1, W.listOf vs1.toArray n1) ∈ news) (_ : IntsAre vs1 ns1) (_ : Good ns1)
    (_ : ∀ D vs' ns' c h' tk' frs', IntsAre vs' ns' → Good ns' → (∀ x, x ∈ ns' ↔ x ∈ ns1 ∨ ∃ i, i < 5 ∧ ∃ y ∈ ns1, x = xorZ y i) → TI.SameUp frs frs' → (∀ q ∈ news ++ frs', q.1 < D) → LedT h₀ h' ((D, W.listOf vs'.toArray c) :: (news ++ frs')) → Q (.ref D) { s with heap := h', toks := tk' }),
    wpAny (model PySem.Challenge.rw_oy0064_01.row.prog w) A (call (.ref 76) [.ref l1]) Q E s := by
  k_fill
  intro w p loose mean mg mb A l frs news h₀ s l1 ns1 vs1 n1 Q E X T hAf hAh Fs hap D hd hu h1 hi1 hg1 hret
  refine wpAny_call ?_
  k_dflt (refine' enterTC D X T ?k6 ?k7 ?k8 ?k9 ?kB ?kD ?_ ?c2 ?c3 ?c4; (case k6 => k_is); (case k7 => k_is); (case k8 => omega); (case k9 => exact BindsTo.of_eq rfl); (case kB => exact kindsX rfl); (case kD => decide +kernel); (case c2 => exact rfl); (case c3 => exact rfl); (case c4 => exact rfl); k_whole)
  intro L' h' tk' cells eL F' N' Y hlt
  k_cells Y
  simp only [List.cons_append, List.nil_append] at N'
  dsimp only
  repeat ((fail_if_success (with_reducible show wpAny _ _ (eval (Expr.ListComp _ _ _ _) _) _ _ _)); first | (k_unfold; (try dsimp only)) | walk1)
  rename_i oK dK
  refine compCell F' (n := 5) (R := fun i ys nw => ∃ qs : List Addr, qs.length = i ∧ ys = qs.map Value.ref ∧ (∀ p ∈ (L' + 1, oK) :: (news ++ frs), p ∈ nw) ∧
      ∀ j q, qs[j]? = some q → (∀ p ∈ news ++ frs, p.1 < q) ∧ ∃ vs c zs, (q, W.listOf vs.toArray c) ∈ nw ∧ IntsAre vs zs ∧ zs.Perm (ns1.map fun x => xorZ x j) ∧ zs.Pairwise (· ≤ ·)) rfl rfl (by decide +kernel) (fun k => rfl) (fun h => rfl) rfl rfl rfl (by decide) ?_
  k_steps
  have dK' : oK.data = .cell (some (.ref l1)) := dK
  clear dK
  rename_i F2 N2 keep2
  refine ⟨_, _, _, _, _, rfl, hAh, F2, N2, by assumption, ⟨[], rfl, rfl, fun p hp => hp, fun j q h => by simp at h⟩, ?_, ?_⟩
  · intro i ys nw I oI C oC P oP D1 h3 tk3 m2 t3 E' hi ⟨qs, hq1, hq2, hq3, hq4⟩ nsC dP ap off F3 N3
    clear F2 N2 keep2
    have mK := hq3 _ (.head _)
    have mL : (l1, W.listOf vs1.toArray n1) ∈ nw := hq3 _ (.tail _ (List.mem_append_left _ h1))
    have mL2 : (l1, W.listOf vs1.toArray n1) ∈ (I, oI) :: (C, oC) :: (P, oP) :: (D1, lst ys) :: nw := .tail _ (.tail _ (.tail _ (.tail _ mL)))
    have l64 : vs1.length ≤ 64 := by rw [hi1.length]; exact Nat.le_trans hg1.len (by decide)
    have hi5 : (i : Int) < 5 := by omega
    k_steps
    refine CompSrc.ledger hAh F3 N3 mL2 (by rw [List.size_toArray, sizeLine_eq]; omega) fun g => compMap (fun x => xorZ x i) hi1 (fun n t I2 oI2 C2 oC2 D2 ys2 m2 h4 tk4 E2 hn nsC2 hx2 F4 N4 => ?_) (.inr ⟨W.listOf vs1.toArray n1, mL2, rfl, n1, rfl⟩) fun ys2 hys2 => ?_
    all_goals dsimp only
    · have b1 := hg1.lo n hn
      have b2 := hg1.hi n hn
      k_steps
      exact ElEnd.intro F4 N4 (fun p hp => hp) (xor_eq b1 b2 hi)
    · intro D5 h5 tk5 F5 N5 off5
      k_steps
      refine kso_sorted F5 N5 ⟨_, (N5 _ (.head _)).1, rfl, _, rfl⟩ hys2 (by rw [List.length_map]; exact Nat.lt_of_le_of_lt hg1.len (by decide)) fun D6 vs6 zs6 c6 h6 F6 N6 lt6 is6 len6 p6 o6 _ => ?_
      refine ⟨h6, _, (D6, W.listOf vs6.toArray c6) :: nw, rfl, F6, fun p hp => N6 p ?_, fun p hp => ?_, qs ++ [D6], by simp [hq1], by rw [List.map_append, hq2]; rfl, fun p hp => .tail _ (hq3 p hp), fun j q hj => ?_⟩
      · simp only [List.mem_cons] at hp ⊢
        rcases hp with h | h | h | h | h | h <;> simp [h]
      · rcases List.mem_cons.mp hp with rfl | hp
        · exact ⟨(Nat.ne_of_lt (lt6 (I, oI) (.tail _ (.head _)))).symm, (Nat.ne_of_lt (lt6 (C, oC) (.tail _ (.tail _ (.head _))))).symm, (Nat.ne_of_lt (lt6 (P, oP) (.tail _ (.tail _ (.tail _ (.head _)))))).symm, (Nat.ne_of_lt (lt6 (D1, lst ys) (.tail _ (.tail _ (.tail _ (.tail _ (.head _))))))).symm⟩
        · exact off p hp
      · by_cases hlt6 : j < qs.length
        · rw [List.getElem?_append_left hlt6] at hj
          obtain ⟨a1, vs, c, zs, a2, a3, a4, a5⟩ := hq4 j q hj
          exact ⟨a1, vs, c, zs, .tail _ a2, a3, a4, a5⟩
        · rw [List.getElem?_append_right (Nat.not_lt.mp hlt6)] at hj
          have e0 : j - qs.length = 0 := by
            have := (List.getElem?_eq_some_iff.mp hj).1
            simp at this; omega
          rw [e0] at hj
          have eq : D6 = q := by simpa using hj
          subst eq
          have ej : j = i := by omega
          subst ej
          exact ⟨fun p hp => lt6 p (.tail _ (.tail _ (.tail _ (.tail _ (.tail _ (hq3 p (.tail _ hp))))))), vs6, c6, zs6, .head _, is6, p6, o6⟩
  · intro ys nw D1 h3 tk3 ⟨qs, hq1, hq2, hq3, hq4⟩ off hDL F3 N3
    have mK := hq3 _ (.head _)
    repeat ((fail_if_success (with_reducible show wpAny _ _ (call (Value.ref _) _) _ _ _)); first | (k_unfold; (try dsimp only)) | walk1)
    have NA : News h₀ L' h3 (((D1, lst ys) :: nw.filter fun p => !(frs.any fun q => q.1 == p.1)) ++ frs) := fun p hp => by
      rcases List.mem_append.mp hp with hp | hp
      · rcases List.mem_cons.mp hp with rfl | hp
        · exact N3 _ (.head _)
        · exact N3 _ (.tail _ (List.mem_filter.mp hp).1)
      · exact N3 _ (.tail _ (hq3 p (.tail _ (List.mem_append_right _ hp))))
    have nin : ∀ p : Addr × Obj, p.1 ∉ frs.map (·.1) → (!(frs.any fun q => q.1 == p.1)) = true := fun p hp => by
      rw [Bool.not_eq_true', List.any_eq_false]
      intro q hq e
      exact hp (List.mem_map.mpr ⟨q, hq, by simpa using e⟩)
    have nin2 : ∀ p : Addr × Obj, (!(frs.any fun q => q.1 == p.1)) = true → p.1 ∉ frs.map (·.1) := fun p hp hm => by
      obtain ⟨q, hq, e⟩ := List.mem_map.mp hm
      rw [Bool.not_eq_true', List.any_eq_false] at hp
      exact hp q hq (by simpa using e)
    have inN : ∀ p ∈ news, p ∈ nw.filter fun p => !(frs.any fun q => q.1 == p.1) := fun p hp => List.mem_filter.mpr ⟨hq3 p (.tail _ (List.mem_append_left _ hp)), nin p (hap p hp)⟩
    subst hq2
    have step : ∀ (env : Env) (E' : Value → Shared → Prop), env.scope.kind ≠ .module → env.frame = some L' → wpAny (model PySem.Challenge.rw_oy0064_01.row.prog w) (A.deeper env) (call (.ref 52) [.ref 71, .ref D1, .ref l1]) (fun v s' => Q v s') E' { s with heap := h3, toks := tk3 } := ?_
    · exact step _ _ (by show ScopeKind.function ≠ ScopeKind.module; decide) rfl
    intro env E' hk hf
    obtain ⟨oL, hoL, Fs2, D2⟩ := inT F3 NA Fs hk hf
    refine red0 w p loose mean mg mb _ (_ :: l) ((L', oL) :: frs) _ h₀ _ D1 l1 qs ns1 vs1 (fun i x => ∃ y ∈ ns1, x = xorZ y i) _ n1 _ _ X T (Around.frames_deeper hAf) hAh Fs2 ?_ D2 (by show A.depth + 1 + 9 < _; omega) (by show A.units + 3 + 100 < _; omega) (.head _) (.tail _ (inN _ h1)) hi1 hg1 ?_ ?_
    · intro q hq hm
      rcases List.mem_cons.mp hm with e | hm
      · exact (NA q (List.mem_append_left _ hq)).2.1 e
      · rcases List.mem_cons.mp hq with rfl | hq
        · obtain ⟨r, hr, er⟩ := List.mem_map.mp hm
          exact off r (hq3 r (.tail _ (List.mem_append_right _ hr))) er
        · exact nin2 q (List.mem_filter.mp hq).2 hm
    · intro i q hq
      obtain ⟨a1, vs, c, zs, a2, a3, a4, a5⟩ := hq4 i q hq
      refine ⟨vs, c, zs, .tail _ (List.mem_filter.mpr ⟨a2, nin _ fun hm => ?_⟩), a3, xor_good hg1 (by have := (List.getElem?_eq_some_iff.mp hq).1; omega) a4 a5, fun x => ?_⟩
      · obtain ⟨r, hr, er⟩ := List.mem_map.mp hm
        exact Nat.ne_of_lt (a1 r (List.mem_append_right _ hr)) er
      · rw [a4.mem_iff, List.mem_map]
        exact ⟨fun ⟨y, h, e⟩ => ⟨y, h, e.symm⟩, fun ⟨y, h, e⟩ => ⟨y, h, e.symm⟩⟩
    · intro D3 vs3 ns3 c3 h3 tk3 frs2 i3 g3 m3 SU l3 LL
      cases frs2 with
      | nil => exact False.elim SU
      | cons q frs' =>
        obtain ⟨e1, _, SU'⟩ := SU
        have l3' := l3.resolve_left fun e => by rw [e.1] at hq1; cases hq1
        refine hret D3 vs3 ns3 c3 h3 tk3 frs' i3 g3 (fun x => ?_) SU' (fun p hp => l3' p ?_) (LL.sub fun p hp => ?_)
        · rw [m3, hq1]
        · rcases List.mem_append.mp hp with hp | hp
          · exact List.mem_append_left _ (.tail _ (inN p hp))
          · exact List.mem_append_right _ (.tail _ hp)
        · rcases List.mem_cons.mp hp with rfl | hp
          · exact .head _
          · rcases List.mem_append.mp hp with hp | hp
            · exact .tail _ (List.mem_append_left _ (.tail _ (inN p hp)))
            · exact .tail _ (List.mem_append_right _ (.tail _ hp))
end PartWit
section PartKept
open PySem PySem.W PySem.Calls PyProof.Rows PyProof.Rows.LCg
set_option maxRecDepth 100000
set_option maxHeartbeats 4000000
theorem find_del {x : Int} : ∀ {vs : List Value} {ns : List Int}, IntsAre vs ns → x ∈ ns → ∃ j q, kf_at x vs = some j ∧ ki_delL vs j = some q ∧ IntsAre q (ns.erase x)
  | _, _, .nil, h => nomatch h
  | _, _, .cons (vs := vs) (ns := ns) n t hi, h => by
    by_cases e : n = x
    · subst e
      refine ⟨0, vs, ?_, rfl, by rw [List.erase_cons_head]; exact hi⟩
      unfold kf_at
      rw [show isInt n (.int n t) = true by simp [isInt]]
      rfl
    · have h' : x ∈ ns := by
        rcases List.mem_cons.mp h with h | h
        · exact absurd h.symm e
        · exact h
      obtain ⟨j, q, a, b, c⟩ := find_del hi h'
      refine ⟨j + 1, .int n t :: q, ?_, ?_, ?_⟩
      · unfold kf_at
        rw [show isInt x (.int n t) = false by simpa [isInt] using e, a]
        rfl
      · unfold ki_delL
        rw [b]
      · rw [List.erase_cons_tail (by simpa using e)]; exact .cons n t c
theorem ints_kf : ∀ {vs : List Value} {ns : List Int}, IntsAre vs ns → kf_ints vs.toArray.toList = true
  | _, _, .nil => rfl
  | _, _, .cons (vs := vs) n t h => ints_kf h (vs := vs)
theorem kept : ∀ (w : World) (p : Program) (loose : List Str) (mean : ExcName → Option Value) (mg mb : Str → Option Value) (A : Around) (news : List (Addr × Obj)) (h₀ : Heap) (s : Shared)
    (l1 : Addr) (ns1 : List Int) (vs1 : List Value) (Q E : Value → Shared → Prop)
    (_ : (Mine.hd.heap_39 w.params).In h₀) (_ : Top p loose mean mg mb h₀) (_ : A.handled = none) (_ : LedT h₀ s.heap news) (_ : A.depth + 12 < recursionLimit) (_ : A.units + 120 < cLine)
    (_ : h₀.IsList l1 vs1.toArray) (_ : IntsAre vs1 ns1) (_ : ns1.length ≤ 63)
    (_ : ∀ D vs' ns' c h' tk', IntsAre vs' ns' → Good ns' → (∀ q ∈ news, q.1 < D) → LedT h₀ h' ((D, W.listOf vs'.toArray c) :: news) → Q (.ref D) { s with heap := h', toks := tk' }),
    wpAny (model PySem.Challenge.rw_oy0064_01.row.prog w) A (call (.ref 59) [.ref l1]) Q E s := by
  k_fill
  intro w p loose mean mg mb A news h₀ s l1 ns1 vs1 Q E X T hAh D hd hu hl1 hi1 hz1 hret
  refine wpAny_call ?_
  k_dflt (refine' enterT D X T ?k6 ?k7 ?k8 ?k9 ?kB ?_ ?c2 ?c3 ?c4 ?c5; (case k6 => k_is); (case k7 => k_is); (case k8 => omega); (case k9 => exact BindsTo.of_eq rfl); (case c5 => decide); (case kB => exact locs rfl); (case c2 => exact rfl); (case c3 => exact rfl); (case c4 => exact rfl); k_whole)
  intro L' h' tk' eL F' N' hlt
  dsimp only
  try k_fold
  repeat ((fail_if_success (with_reducible show wpAny _ _ (exec (Stmt.For _ _ _ _ _) _) _ _ _)); first | (k_unfold; (try dsimp only)) | walk1)
  refine For_invV h₀ rfl rfl ?_
  repeat ((fail_if_success (with_reducible show wpAny _ _ (pyIter _) _ _ _)); first | (k_unfold; (try dsimp only)) | walk1)
  rename_i K' _ lK _ D1 ws h1 F1 N1 iW _ lW lD
  refine kst_listL (σ := List Value × List Int × Nat) (fun c => (D1, W.listOf ws.toArray 0) :: (K', W.listOf c.1.toArray c.2.2) :: news) (fun _ => []) (fun c => IntsAre c.1 c.2.1) ([] : List Str) (fun _ c => c.2.1.Nodup ∧ (∀ x ∈ c.2.1, 0 ≤ x) ∧ ∀ x ∈ c.2.1, x < 32) (_, [0, 3, 5, 6, 9, 10, 12, 15], 0)
    hAh (fun c => .head _) iW F1 N1 (by repeat constructor) (fun _ h => by cases h) ⟨by show List.Nodup [(0 : Int), 3, 5, 6, 9, 10, 12, 15]; decide, by show ∀ x ∈ [(0 : Int), 3, 5, 6, 9, 10, 12, 15], 0 ≤ x; decide, by show ∀ x ∈ [(0 : Int), 3, 5, 6, 9, 10, 12, 15], x < 32; decide⟩ ?_ ?_
  · rintro ⟨vk, ks, nk⟩ pre post n t u h tk own _ hn hoff hk ⟨p1, p2, p3⟩ F2 N2
    dsimp only at hk p1 p2 p3 N2
    simp only [List.cons_append] at N2
    have m0 : 0 ≤ n.fmod 32 := Int.fmod_nonneg_of_pos _ (by decide)
    have m1 : n.fmod 32 < 32 := Int.fmod_lt_of_pos _ (by decide)
    have hneK : ∀ p ∈ news ++ own, p.1 ≠ K' := fun p hp => by
      rcases List.mem_append.mp hp with hp | hp
      · exact Nat.ne_of_lt (lK p hp)
      · exact hoff p hp K' (.tail _ (.head _))
    have hDK : D1 ≠ K' := Nat.ne_of_gt lD.1
    have hvl := hk.length
    have hlen : ks.length ≤ 32 := nd_len 32 _ p1 fun x hx => ⟨p2 x hx, p3 x hx⟩
    k_steps
    · rename_i hany
      obtain ⟨j, q, a1, a2, a3⟩ := find_del hk (x := n.fmod 32) (by
        obtain ⟨x, hx, e⟩ := List.any_eq_true.mp hany
        have e' : x = n.fmod 32 := by simpa using e
        rw [← e']; exact hx)
      refine kf_remove F2 N2 (its := vk.toArray) (n := nk) (j := j) (q := q) (news' := (D1, W.listOf ws.toArray 0) :: (K', W.listOf q.toArray (nk + 1)) :: (news ++ own)) (ints_kf hk) a1 a2 (Upd.tail hDK (Upd.head hneK)) (by rw [sizeLine_eq]; simp; omega) fun h3 F3 N3 => ?_
      k_steps
      refine kst_end ⟨q, ks.erase (n.fmod 32), nk + 1⟩ F3 N3 (fun p hp => ?_) (fun p hp => .tail _ (.tail _ (List.mem_append_right _ hp))) rfl a3 (fun _ h => by cases h) (fun z h1 _ _ => ?_) ⟨p1.erase _, fun x hx => p2 x (List.mem_of_mem_erase hx), fun x hx => p3 x (List.mem_of_mem_erase hx)⟩
      · rcases List.mem_cons.mp hp with rfl | hp
        · exact .head _
        · rcases List.mem_cons.mp hp with rfl | hp
          · exact .tail _ (.head _)
          · exact .tail _ (.tail _ (List.mem_append_left _ hp))
      · dsimp only; rw [if_neg h1]; rfl
    · rename_i hany tka h3 F3 N3
      have hni : n.fmod 32 ∉ ks := fun hm => by
        have := List.any_eq_false.mp hany _ hm
        simp at this
      refine kst_end ⟨vk ++ [.int (n.fmod 32) (tka + 1)], ks ++ [n.fmod 32], nk + 1⟩ F3 N3 (fun p hp => ?_) (fun p hp => .tail _ (.tail _ (List.mem_append_right _ hp))) rfl (ints_snoc hk _ _) (fun _ h => by cases h) (fun z h1 _ _ => ?_) ⟨List.nodup_append.mpr ⟨p1, by simp, fun x hx y hy e => by rw [List.mem_singleton.mp hy] at e; exact hni (e ▸ hx)⟩, fun x hx => ?_, fun x hx => ?_⟩
      · rcases List.mem_cons.mp hp with rfl | hp
        · exact .head _
        · rcases List.mem_cons.mp hp with rfl | hp
          · rw [List.push_toArray]
            exact .tail _ (.head _)
          · exact .tail _ (.tail _ (List.mem_append_left _ hp))
      · dsimp only; rw [if_neg h1]; rfl
      · rcases List.mem_append.mp hx with h | h
        · exact p2 x h
        · rw [List.mem_singleton.mp h]; exact m0
      · rcases List.mem_append.mp hx with h | h
        · exact p3 x h
        · rw [List.mem_singleton.mp h]; exact m1
  · rintro ⟨vk, ks, nk⟩ u h tk hk ⟨p1, p2, p3⟩ F2 N2
    dsimp only at hk p1 p2 p3 N2
    have hvl := hk.length
    have hlen : ks.length ≤ 32 := nd_len 32 _ p1 fun x hx => ⟨p2 x hx, p3 x hx⟩
    have hlen2 : ks.length < 64 := by omega
    k_steps
    rename_i D9 v9 n9 c9 h9 F9 N9 i9 e9 p9 o9 b9 p0 l9
    refine hret D9 v9 n9 c9 h9 _ i9 ⟨pw_lt o9 (p9.nodup_iff.mpr p1), fun x hx => p2 x (p9.mem_iff.mp hx), fun x hx => p3 x (p9.mem_iff.mp hx)⟩ (kst_ltOf l9.2.2) ((LedT.of F9 N9).sub fun p hp => ?_)
    rcases List.mem_cons.mp hp with rfl | hp
    · exact .head _
    · exact .tail _ (.tail _ (.tail _ hp))
end PartKept
section PartForE
open PySem PySem.W PySem.Calls PyProof.Rows PyProof.Rows.LCg
set_option maxRecDepth 100000
set_option maxHeartbeats 8000000
noncomputable def FeEnd (h₀ : Heap) (L : Addr) (s : Shared) (I : Addr) (oI : Obj) (Jn : (Str → Option Value) → List (Addr × Obj) → Prop) (s' : Shared) : Prop :=
  ∃ h' tk' m₂ nw₂, s' = { s with heap := h', toks := tk' } ∧ Fr h₀ L h' m₂ ∧ News h₀ L h' ((I, oI) :: nw₂) ∧ (∀ p ∈ nw₂, p.1 ≠ I) ∧ Jn m₂ nw₂
noncomputable def FePost (h₀ : Heap) (L : Addr) (s : Shared) (I : Addr) (oI : Obj) (Jn : (Str → Option Value) → List (Addr × Obj) → Prop) (Q : Flow → Shared → Prop) (f : Flow) (s' : Shared) : Prop :=
  match f with
  | .brk => Q .next s'
  | .ret v => Q (.ret v) s'
  | _ => FeEnd h₀ L s I oI Jn s'
noncomputable def FeSrc (prog : Program) (w : World) (A : Around) (h₀ : Heap) (m : Str → Option Value) (env : Env) (x : Str) (body orelse : List Stmt) (n : Nat) (J : Nat → (Str → Option Value) → List (Addr × Obj) → Prop) (Q : Flow → Shared → Prop) (xv : Value) (s : Shared) : Prop :=
  ∃ r t u v news, xv = .ref r ∧ A.handled = none ∧ Fr h₀ env.locals s.heap m ∧ News h₀ env.locals s.heap news ∧ IsRange s.heap r 0 n 1 t u v ∧ J 0 m news ∧
    (∀ i m₁ nw I oI h tk t (E' : Value → Shared → Prop), i < n → J i m₁ nw → (∀ p ∈ nw, p.1 ≠ I) → Fr h₀ env.locals h (fun y => if y = x then some (.int (i : Nat) t) else m₁ y) → News h₀ env.locals h ((I, oI) :: nw) →
      wpAny (model prog w) A (execs body env) (FePost h₀ env.locals { s with heap := h, toks := tk } I oI (J (i + 1)) Q) E' { s with heap := h, toks := tk }) ∧
    ∀ m₁ nw h tk (E' : Value → Shared → Prop), J n m₁ nw → Fr h₀ env.locals h m₁ → News h₀ env.locals h nw → wpAny (model prog w) A (execs orelse env) Q E' { s with heap := h, toks := tk }
section
variable {prog : Program} {w : World} {A : Around} {E : Value → Shared → Prop} {s : Shared} {h₀ : Heap} {m : Str → Option Value} {env : Env}
theorem forElse {iter : PySem.Expr} {x : Str} {px pos : Pos} {body orelse : List Stmt} {n : Nat} {J : Nat → (Str → Option Value) → List (Addr × Obj) → Prop} {Q : Flow → Shared → Prop} (_ : Fr h₀ env.locals s.heap m) (hx : env.kindOf x = some .local)
    (hp : (env.scope.kind == .class || (env.scope.kind == .module && env.locals != env.globals)) = false)
    (hsm : Builtin.Range.small 0 n 1 = true) (hn : Builtin.Range.rangeSize 0 n 1 = ((n : Nat) : Int))
    (h : wpAny (model prog w) A (eval iter env) (FeSrc prog w A h₀ m env x body orelse n J Q) E s)
    (hs : ∀ x, foldedSetIterable iter env x = pure x := by intro _; rfl) :
    wpAny (model prog w) A (exec (.For (.Name x px) iter body orelse pos) env) Q E s := by
  refine wpAny_For (wpAny_mono h (fun xv s₁ h₁ => ?_) fun _ _ e => e) hs
  obtain ⟨r, t, u, v, news, rfl, hh, F, N, hr, hJ0, turn, done⟩ := h₁
  refine wpAny_pyIter_range hr hsm ?_
  have W := range_walks (prog := prog) (w := w) (A := A) (I := s₁.heap.objs.size) hh 0 n
  have lI : s₁.heap.objs.size ≠ env.locals := Nat.ne_of_gt F.ns.lt
  have fI : h₀.get? s₁.heap.objs.size = none := next_is_new F
  refine codeAny_forLoop
    (fun k s' => ∃ h' tk m' nw i oI, s' = { s₁ with heap := h', toks := tk } ∧ IsRangeIter h' s₁.heap.objs.size (0 + (i : Nat) * 1) ((n : Int) - (i : Nat)) 1 ∧ Fr h₀ env.locals h' m' ∧ News h₀ env.locals h' ((s₁.heap.objs.size, oI) :: nw) ∧ (∀ p ∈ nw, p.1 ≠ s₁.heap.objs.size) ∧ J i m' nw ∧ i ≤ n ∧ k = n + 1 - i) ?_ (n + 1)
    ⟨_, s₁.toks, m, news, 0, { cls := .type "range_iterator", data := .fields #[rawInt 0, rawInt (Builtin.Range.rangeSize 0 n 1), rawInt 1] }, rfl, by rw [hn]; show Heap.get? _ _ = some _; simpa using Heap.get?_push_size _ rfl, F.push _, fun p hp => ?_, fun p hp => Nat.ne_of_lt (Heap.lt_size (N p hp).1), hJ0, Nat.zero_le _, rfl⟩
  · rintro k s' ⟨h', tk, m', nw, i, oI, rfl, hst', F', N', off, hJ, hi, rfl⟩
    by_cases hlt : i < n
    · refine W.item i _ _ _ hlt hst' fun v h₂ tk₂ hPv hst₂ hk₂ => ?_
      obtain ⟨t', rfl⟩ := hPv
      have F₂ : Fr h₀ env.locals h₂ m' := fr_but F' hk₂ lI.symm fI
      have N₂ : News h₀ env.locals h₂ nw := news_but (fun p hp => N' p (.tail _ hp)) hk₂ off
      refine wpAny_assign_Name (wpAny_storeName_local hx F₂.ns (fun h₃ hn₃ hs₃ => ?_) hp)
      have F₃ := F₂.set hn₃ hs₃
      have N₃ := N₂.set hs₃
      have stI : IsRangeIter h₃ s₁.heap.objs.size (0 + ((i + 1 : Nat) : Int) * 1) ((n : Int) - ((i + 1 : Nat) : Int)) 1 := (hs₃.2 _ lI).trans hst₂
      obtain ⟨oJ, eJ⟩ : ∃ o, h₃.get? s₁.heap.objs.size = some o := ⟨_, stI⟩
      have hval : (0 : Int) + (i : Int) = (i : Int) := Int.zero_add _
      rw [hval] at F₃
      refine wpAny_mono (turn i m' nw s₁.heap.objs.size oJ h₃ _ t' _ hlt hJ off F₃ fun p hp => ?_) (fun f s₄ h₄ => ?_) fun _ _ e => e
      · rcases List.mem_cons.mp hp with rfl | hp
        · exact ⟨eJ, lI, fI⟩
        · exact N₃ p hp
      · clear turn done
        have fin : FeEnd h₀ env.locals { s₁ with heap := h₃, toks := tk₂ + 1 } s₁.heap.objs.size oJ (J (i + 1)) s₄ → ∃ m_1 < n + 1 - i, ∃ h' tk m' nw i oI, s₄ = { s₁ with heap := h', toks := tk } ∧ IsRangeIter h' s₁.heap.objs.size (0 + (i : Nat) * 1) ((n : Int) - (i : Nat)) 1 ∧ Fr h₀ env.locals h' m' ∧ News h₀ env.locals h' ((s₁.heap.objs.size, oI) :: nw) ∧ (∀ p ∈ nw, p.1 ≠ s₁.heap.objs.size) ∧ J i m' nw ∧ i ≤ n ∧ m_1 = n + 1 - i := by
          rintro ⟨h₅, tk₄, m₂, nw₂, rfl, F₄, N₄, off₄, J₄⟩
          exact ⟨n + 1 - (i + 1), by omega, h₅, tk₄, m₂, nw₂, i + 1, oJ, rfl, (N₄ _ (.head _)).1.trans (eJ.symm.trans stI), F₄, N₄, off₄, J₄, hlt, rfl⟩
        cases f with
        | ret v => exact h₄
        | brk => exact h₄
        | next => exact fin h₄
        | cont => exact fin h₄
    · obtain rfl : i = n := Nat.le_antisymm hi (Nat.not_lt.mp hlt)
      refine W.done _ _ _ hst' fun h₂ tk₂ hk₂ => ?_
      exact done m' nw h₂ tk₂ _ hJ (fr_but F' hk₂ lI.symm fI) (news_but (fun p hp => N' p (.tail _ hp)) hk₂ off)
  · rcases List.mem_cons.mp hp with rfl | hp
    · exact ⟨Heap.get?_push_size _ rfl, lI, fI⟩
    · exact ⟨Heap.get?_push_of_some _ (N p hp).1, (N p hp).2⟩
end
noncomputable def FinQ (h₀ : Heap) (L : Addr) (s : Shared) (Fin : (Str → Option Value) → List (Addr × Obj) → Prop) (f : Flow) (s' : Shared) : Prop :=
  f = .next ∧ ∃ h' tk' m₂ nw₂, s' = { s with heap := h', toks := tk' } ∧ Fr h₀ L h' m₂ ∧ News h₀ L h' nw₂ ∧ Fin m₂ nw₂
theorem FinQ.intro {h₀ h' : Heap} {L : Addr} {s : Shared} {Fin : (Str → Option Value) → List (Addr × Obj) → Prop} {m₂ : Str → Option Value} {nw nw₂ : List (Addr × Obj)} {tk' : Nat} (F : Fr h₀ L h' m₂) (N : News h₀ L h' nw) (hs : ∀ p ∈ nw₂, p ∈ nw) (h : Fin m₂ nw₂) :
    FinQ h₀ L s Fin .next { s with heap := h', toks := tk' } := ⟨rfl, h', tk', m₂, nw₂, rfl, F, fun p hp => N p (hs p hp), h⟩
section
variable {prog : Program} {w : World} {A : Around} {E : Value → Shared → Prop} {s : Shared} {h₀ : Heap} {m : Str → Option Value} {env : Env}
theorem forElse2 {iter : PySem.Expr} {x : Str} {px pos : Pos} {body orelse : List Stmt} {n : Nat} {J : Nat → (Str → Option Value) → List (Addr × Obj) → Prop} {Q : Flow → Shared → Prop} (Fin : (Str → Option Value) → List (Addr × Obj) → Prop) (F : Fr h₀ env.locals s.heap m) (hx : env.kindOf x = some .local)
    (hp : (env.scope.kind == .class || (env.scope.kind == .module && env.locals != env.globals)) = false)
    (hsm : Builtin.Range.small 0 n 1 = true) (hn : Builtin.Range.rangeSize 0 n 1 = ((n : Nat) : Int))
    (h : wpAny (model prog w) A (eval iter env) (FeSrc prog w A h₀ m env x body orelse n J (FinQ h₀ env.locals s Fin)) E s)
    (fin : ∀ m₁ nw h tk, Fin m₁ nw → Fr h₀ env.locals h m₁ → News h₀ env.locals h nw → Q .next { s with heap := h, toks := tk })
    (hs : ∀ x, foldedSetIterable iter env x = pure x := by intro _; rfl) :
    wpAny (model prog w) A (exec (.For (.Name x px) iter body orelse pos) env) Q E s :=
  wpAny_mono (forElse F hx hp hsm hn h hs) (fun f s' ⟨e1, h', tk', m₂, nw₂, e2, F₂, N₂, hf⟩ => by subst e1 e2; exact fin m₂ nw₂ h' tk' hf F₂ N₂) fun _ _ e => e
end
end PartForE
section PartPretty
open PySem PySem.W PySem.Calls PyProof.Rows PyProof.Rows.LCg
set_option maxRecDepth 100000
set_option maxHeartbeats 4000000
noncomputable def nm : Nat → Str
  | 0 => Str.ofString "OPTIMIZED"
  | 1 => Str.ofString "NEWLOCALS"
  | 2 => Str.ofString "VARARGS"
  | 3 => Str.ofString "VARKEYWORDS"
  | 4 => Str.ofString "NESTED"
  | _ => Str.ofString "0x0"
noncomputable def restP (f i : Nat) : Nat := f / 2 ^ i * 2 ^ i
noncomputable def idxUp (f i : Nat) : List Nat := (List.range i).filter fun j => f.testBit j
noncomputable def idxOf (f : Nat) : List Nat := if f = 0 then [5] else idxUp f 5
noncomputable def PJ (f : Nat) (K' : Addr) (news : List (Addr × Obj)) (i : Nat) (m₁ : Str → Option Value) (nw : List (Addr × Obj)) : Prop :=
  ∃ vk nk tg, nw = (K', W.listOf vk.toArray nk) :: news ∧ m₁ (Str.ofString "names") = some (.ref K') ∧ m₁ (Str.ofString "flags") = some (.int (restP f i : Nat) tg) ∧ StrsAre vk ((idxUp f (min i 5)).map nm) ∧ (f ≠ 0 → restP f i ≠ 0)
noncomputable def PFin (f : Nat) (K' : Addr) (news : List (Addr × Obj)) (m₁ : Str → Option Value) (nw : List (Addr × Obj)) : Prop :=
  ∃ vk nk, nw = (K', W.listOf vk.toArray nk) :: news ∧ m₁ (Str.ofString "names") = some (.ref K') ∧ StrsAre vk ((idxOf f).map nm)
theorem strs_snoc {vs : List Value} {ss : List Str} (h : StrsAre vs ss) (x : Str) (t : Tok) : StrsAre (vs ++ [.str x t]) (ss ++ [x]) := by
  induction h with
  | nil => exact .cons x t .nil
  | cons y u _ ih => exact .cons y u ih
section
variable {h₀ h : Heap} {L I K' : Addr} {oI : Obj} {news : List (Addr × Obj)} {m' : Str → Option Value} {vk : List Value} {nk f i tk : Nat} {S : Str} {tS tz : Tok} {z : Int} {s s₁ : Shared}
theorem endApp (hf : f < 32) (hi : i < 5) (F : Fr h₀ L h m') (N : News h₀ L h ((I, oI) :: (K', W.listOf (vk.toArray.push (.str S tS)) (nk + 1)) :: news)) (off : ∀ p ∈ (K', W.listOf vk.toArray nk) :: news, p.1 ≠ I) (sv : StrsAre vk ((idxUp f i).map nm)) (eS : S = nm i)
    (hb : Builtin.bitXor (restP f i : Nat) (1 * 2 ^ (i : Int).toNat) = (restP f (i + 1) : Nat) ∧ idxUp f (i + 1) = idxUp f i ++ [i] ∧ (restP f (i + 1) = 0 → idxUp f (i + 1) = idxUp f 5)) (mN : m' (Str.ofString "names") = some (.ref K')) (mF : m' (Str.ofString "flags") = some (.int z tz)) (ez : z = Builtin.bitXor (restP f i : Nat) (1 * 2 ^ (i : Int).toNat)) (hz : z ≠ 0) :
    FeEnd h₀ L s I oI (PJ f K' news (i + 1)) { s with heap := h, toks := tk } := by
  obtain ⟨b1, b2, _⟩ := hb
  subst eS
  rw [b1] at ez
  subst ez
  refine ⟨h, tk, m', (K', W.listOf (vk ++ [Value.str (nm i) tS]).toArray (nk + 1)) :: news, rfl, F, by rw [← List.push_toArray]; exact N, fun p hp => ?_, vk ++ [.str (nm i) tS], nk + 1, tz, rfl, mN, mF, ?_, fun _ h => hz (by rw [h]; rfl)⟩
  · rcases List.mem_cons.mp hp with rfl | hp
    · exact off (K', W.listOf vk.toArray nk) (.head _)
    · exact off p (.tail _ hp)
  · rw [Nat.min_eq_left hi, b2, List.map_append]
    exact strs_snoc sv _ _
theorem endBrk (hf0 : f ≠ 0) (F : Fr h₀ L h m') (N : News h₀ L h ((I, oI) :: (K', W.listOf (vk.toArray.push (.str S tS)) (nk + 1)) :: news)) (sv : StrsAre vk ((idxUp f i).map nm)) (eS : S = nm i)
    (hb : Builtin.bitXor (restP f i : Nat) (1 * 2 ^ (i : Int).toNat) = (restP f (i + 1) : Nat) ∧ idxUp f (i + 1) = idxUp f i ++ [i] ∧ (restP f (i + 1) = 0 → idxUp f (i + 1) = idxUp f 5)) (mN : m' (Str.ofString "names") = some (.ref K')) (hz : Builtin.bitXor (restP f i : Nat) (1 * 2 ^ (i : Int).toNat) = 0) :
    FinQ h₀ L s (PFin f K' news) .next { s with heap := h, toks := tk } := by
  obtain ⟨b1, b2, b3⟩ := hb
  subst eS
  rw [b1] at hz
  refine FinQ.intro F N (nw₂ := (K', W.listOf (vk ++ [Value.str (nm i) tS]).toArray (nk + 1)) :: news) (fun p hp => .tail _ (by rw [List.push_toArray]; exact hp)) ⟨vk ++ [.str (nm i) tS], nk + 1, rfl, mN, ?_⟩
  rw [idxOf, if_neg hf0, ← b3 (by omega), b2, List.map_append]
  exact strs_snoc sv _ _
theorem endNo (hi : i < 5) (F : Fr h₀ L h m') (N : News h₀ L h ((I, oI) :: (K', W.listOf vk.toArray nk) :: news)) (off : ∀ p ∈ (K', W.listOf vk.toArray nk) :: news, p.1 ≠ I) (sv : StrsAre vk ((idxUp f i).map nm)) (hne : f ≠ 0 → restP f i ≠ 0)
    (hb : restP f (i + 1) = restP f i ∧ idxUp f (i + 1) = idxUp f i) (mN : m' (Str.ofString "names") = some (.ref K')) (mF : m' (Str.ofString "flags") = some (.int (restP f i : Nat) tz)) : FeEnd h₀ L s I oI (PJ f K' news (i + 1)) { s with heap := h, toks := tk } := by
  obtain ⟨b1, b2⟩ := hb
  exact ⟨h, tk, m', _, rfl, F, N, off, vk, nk, tz, rfl, mN, by rw [b1]; exact mF, by rw [Nat.min_eq_left hi, b2]; exact sv, by rw [b1]; exact hne⟩
end
theorem map2 {x a b : Str} {m₁ : Str → Option Value} {q u v : Value} (ha : m₁ a = some u) (hb : m₁ b = some v) : (fun y => if y = x then some q else m₁ y) = fun y => if y = x then some q else if y = a then some u else if y = b then some v else m₁ y := by
  funext y
  by_cases h1 : y = x
  · rw [if_pos h1, if_pos h1]
  · rw [if_neg h1, if_neg h1]
    by_cases h2 : y = a
    · rw [if_pos h2, h2, ha]
    · rw [if_neg h2]
      by_cases h3 : y = b
      · rw [if_pos h3, h3, hb]
      · rw [if_neg h3]
theorem strs_len : ∀ {vs : List Value} {ss : List Str}, StrsAre vs ss → vs.length = ss.length
  | _, _, .nil => rfl
  | _, _, .cons _ _ h => congrArg (· + 1) (strs_len h)
theorem zero_and : ∀ i : Nat, i < 32 → Builtin.bitAnd ((0 : Nat) : Int) (1 * 2 ^ (i : Int).toNat) = 0 := by decide +kernel
noncomputable def bitsB (f i : Nat) : Bool := if Builtin.bitAnd (restP f i : Nat) (1 * 2 ^ (i : Int).toNat) = 0 then decide (restP f (i + 1) = restP f i) && decide (idxUp f (i + 1) = idxUp f i)
  else decide (Builtin.bitXor (restP f i : Nat) (1 * 2 ^ (i : Int).toNat) = (restP f (i + 1) : Nat)) && (decide (idxUp f (i + 1) = idxUp f i ++ [i]) && (!decide (restP f (i + 1) = 0) || decide (idxUp f (i + 1) = idxUp f 5)))
theorem bitsAll : ∀ f : Nat, f < 32 → ∀ i : Nat, i < 5 → bitsB f i = true := by decide +kernel
theorem bits (f : Nat) (hf : f < 32) (i : Nat) (hi : i < 5) : (Builtin.bitAnd (restP f i : Nat) (1 * 2 ^ (i : Int).toNat) = 0 → restP f (i + 1) = restP f i ∧ idxUp f (i + 1) = idxUp f i) ∧
    (Builtin.bitAnd (restP f i : Nat) (1 * 2 ^ (i : Int).toNat) ≠ 0 → Builtin.bitXor (restP f i : Nat) (1 * 2 ^ (i : Int).toNat) = (restP f (i + 1) : Nat) ∧ idxUp f (i + 1) = idxUp f i ++ [i] ∧ (restP f (i + 1) = 0 → idxUp f (i + 1) = idxUp f 5)) := by
  have h := bitsAll f hf i hi
  unfold bitsB at h
  by_cases hz : Builtin.bitAnd (restP f i : Nat) (1 * 2 ^ (i : Int).toNat) = 0
  · rw [if_pos hz] at h
    simp only [Bool.and_eq_true, decide_eq_true_eq] at h
    exact ⟨fun _ => h, fun q => absurd hz q⟩
  · rw [if_neg hz] at h
    simp only [Bool.and_eq_true, Bool.or_eq_true, Bool.not_eq_true', decide_eq_true_eq, decide_eq_false_iff_not] at h
    exact ⟨fun q => absurd q hz, fun _ => ⟨h.1, h.2.1, fun q => h.2.2.resolve_left fun n => n q⟩⟩
theorem pretty : ∀ (w : World) (p : Program) (loose : List Str) (mean : ExcName → Option Value) (mg mb : Str → Option Value) (A : Around) (news : List (Addr × Obj)) (h₀ : Heap) (s : Shared)
    (f : Nat) (t : Tok) (Q E : Value → Shared → Prop)
    (_ : (Mine.hd.heap_39 w.params).In h₀) (_ : Top p loose mean mg mb h₀) (_ : A.handled = none) (_ : LedT h₀ s.heap news) (_ : A.depth + 12 < recursionLimit) (_ : A.units + 120 < cLine)
    (_ : f < 32) (_ : ∀ t' h' tk', LedT h₀ h' news → Q (.str (Txt.join (Str.ofString ", ") ((idxOf f).map nm)) t') { s with heap := h', toks := tk' }),
    wpAny (model PySem.Challenge.rw_oy0064_01.row.prog w) A (call (.ref 36) [.int (f : Nat) t]) Q E s := by
  k_with "call builtin:list.append" => (k_here; k_dflt (refine' append_K ?F ?N ?U ?_ ?z; (case F => k_asm); (case N => k_asm); (case U => k_upd); (case z => assumption)); intro _ _ _)
  k_fill
  intro w p loose mean mg mb A news h₀ s f t Q E X T hAh D hd hu hf hret
  refine wpAny_call ?_
  k_dflt (refine' enterT D X T ?k6 ?k7 ?k8 ?k9 ?kB ?_ ?c2 ?c3 ?c4 ?c5; (case k6 => k_is); (case k7 => k_is); (case k8 => omega); (case k9 => exact BindsTo.of_eq rfl); (case c5 => decide); (case kB => exact locs rfl); (case c2 => exact rfl); (case c3 => exact rfl); (case c4 => exact rfl); k_whole)
  intro L' h' tk' eL F' N' hlt
  dsimp only
  try k_fold
  repeat ((fail_if_success (with_reducible show wpAny _ _ (exec (Stmt.For _ _ _ _ _) _) _ _ _)); first | (k_unfold; (try dsimp only)) | walk1)
  rename_i K' _ lK h1 F1 N1
  refine forElse2 (n := 32) (J := PJ f K' news) (PFin f K' news) F1 rfl rfl rfl rfl ?_ ?_
  · k_steps
    rename_i F2 N2 keep2
    refine ⟨_, _, _, _, _, rfl, hAh, F2, N2, by assumption, ⟨[], 0, t, rfl, rfl, by rw [show restP f 0 = f by simp [restP]]; rfl, .nil, fun h => by simpa [restP] using h⟩, ?_, ?_⟩
    · clear F2 N2 keep2
      rintro i m₁ nw I oI h3 tk3 t3 E' hi ⟨vk, nk, tg, rfl, mN, mF, sv, hne⟩ off F3 N3
      rw [map2 mN mF] at F3
      have hI : I ≠ K' := (off _ (.head _)).symm
      have hnew : ∀ p ∈ news, p.1 ≠ K' := fun p hp => Nat.ne_of_lt (lK p hp)
      have hsz : vk.toArray.size ≤ sizeLine := by
        have h1 := strs_len sv
        have h2 : ((idxUp f (min i 5)).map nm).length ≤ 32 := by
          unfold idxUp
          rw [List.length_map]
          refine Nat.le_trans (List.length_filter_le _ _) ?_
          rw [List.length_range]; omega
        rw [List.size_toArray, sizeLine_eq]; omega
      by_cases hf0 : f = 0
      · subst hf0
        have er : restP 0 i = 0 := by simp [restP]
        rw [er] at F3
        have hz := zero_and i hi
        k_steps
        · exact absurd hz (by assumption)
        · rename_i F4 N4 _
          refine ⟨_, _, _, (K', W.listOf vk.toArray nk) :: news, rfl, F4, N4, off, vk, nk, tg, rfl, rfl, ?_, ?_, fun h => absurd rfl h⟩
          · rw [show restP 0 (i + 1) = 0 by simp [restP]]; rfl
          · have e1 : ∀ k, idxUp 0 k = [] := fun k => by simp [idxUp]
            rw [e1] at sv ⊢; exact sv
      · have hi5 : i < 5 := by
          refine Nat.lt_of_not_le fun hge => hne hf0 ?_
          have : 2 ^ 5 ≤ 2 ^ i := Nat.pow_le_pow_right (by decide) hge
          rw [restP, Nat.div_eq_of_lt (by omega), Nat.zero_mul]
        have hb := bits f hf i hi5
        have hm5 : min i 5 = i := Nat.min_eq_left (Nat.le_of_lt hi5)
        rw [hm5] at sv
        have e0 : ∀ {S : Str} {k : Nat}, S = nm k → S = nm k := fun h => h
        rcases (show i = 0 ∨ i = 1 ∨ i = 2 ∨ i = 3 ∨ i = 4 by omega) with rfl | rfl | rfl | rfl | rfl
        all_goals (k_steps; (exact endApp hf (by decide) (by assumption) (by assumption) off sv (by kernel_rfl!) (hb.2 (by assumption)) rfl rfl rfl (by assumption)); (exact endBrk hf0 (by assumption) (by assumption) sv (by kernel_rfl!) (hb.2 (by assumption)) rfl (by assumption)); (exact endNo (by decide) (by assumption) (by assumption) off sv hne (hb.1 (by assumption)) rfl rfl))
    · clear F2 N2 keep2
      rintro m₁ nw h3 tk3 E' ⟨vk, nk, tg, rfl, mN, mF, sv, hne⟩ F3 N3
      have e32 : restP f 32 = 0 := by rw [restP, Nat.div_eq_of_lt (by omega), Nat.zero_mul]
      have hf0 : f = 0 := Decidable.byContradiction fun h => hne h e32
      subst hf0
      have e1 : vk = [] := by
        have : idxUp 0 (min 32 5) = [] := by decide
        rw [this] at sv
        cases sv; rfl
      subst e1
      have em : m₁ = fun y => if y = Str.ofString "names" then some (.ref K') else if y = Str.ofString "flags" then some (.int ((0 : Nat) : Int) tg) else m₁ y := by
        funext y
        by_cases h2 : y = Str.ofString "names"
        · rw [if_pos h2, h2, mN]
        · rw [if_neg h2]
          by_cases h3 : y = Str.ofString "flags"
          · rw [if_pos h3, h3, mF, e32]
          · rw [if_neg h3]
      have hnew : ∀ p ∈ news, p.1 ≠ K' := fun p hp => Nat.ne_of_lt (lK p hp)
      have hsz : ([] : List Value).toArray.size ≤ sizeLine := Nat.zero_le _
      rw [em] at F3
      k_steps
      rename_i F4 N4
      exact FinQ.intro F4 N4 (nw₂ := (K', W.listOf [Value.str (nm 5) tk3].toArray (nk + 1)) :: news) (fun p hp => hp) ⟨_, _, rfl, rfl, .cons _ _ .nil⟩
  · rintro m₁ nw h3 tk3 ⟨vk, nk, rfl, mN, sv⟩ F3 N3
    have em : m₁ = fun y => if y = Str.ofString "names" then some (.ref K') else m₁ y := by
      funext y
      by_cases h2 : y = Str.ofString "names"
      · rw [if_pos h2, h2, mN]
      · rw [if_neg h2]
    rw [em] at F3
    k_steps
    have hl1 : (idxOf f).length ≤ 32 := by
      unfold idxOf
      split
      · decide
      · unfold idxUp; exact Nat.le_trans (List.length_filter_le _ _) (by decide)
    have hl2 : ∀ l : List Nat, ((l.map nm).map (·.length)).sum ≤ l.length * 11 := by
      intro l
      induction l with
      | nil => exact Nat.le_refl _
      | cons x r ih =>
        have : (nm x).length ≤ 11 := by
          rcases x with _ | _ | _ | _ | _ | x
          · decide
          · decide
          · decide
          · decide
          · decide
          · exact (show (Str.ofString "0x0").length ≤ 11 by decide)
        simp only [List.map_cons, List.sum_cons, List.length_cons]
        omega
    refine join_list (ys := (idxOf f).map nm) (N3.isList (.head _)) (by simpa using sv) ?_ ?_
    · have := hl2 (idxOf f)
      rw [List.length_map]
      have e2 : (Str.ofString ", ").length = 2 := by decide
      rw [e2]
      omega
    k_steps
    exact hret _ _ _ ((LedT.of F3 N3).sub fun p hp => .tail _ hp)
  k_with_none
end PartPretty
section PartCompG
open PySem PySem.W PySem.Calls PyProof.Rows PyProof.Rows.LCg
set_option maxRecDepth 100000
set_option maxHeartbeats 4000000
section
variable {prog : Program} {w : World} {A : Around} {E : Value → Shared → Prop} {s : Shared} {h₀ : Heap} {L : Addr} {m : Str → Option Value} {env : Env}
theorem compMapG {elt : PySem.Expr} {x : Str} {scope : Scope} {cl : List (Str × Addr)} {S : List (Addr × Obj) → Prop} {Fin : List Value → List (Addr × Obj) → Prop} {news : List (Addr × Obj)} {vs : List Value} (zs : List Int) (hlen : vs.length = zs.length)
    (turn : ∀ (i : Nat) (v : Value) (z : Int) I oI C oC D ys m₂ h tk (E' : Value → Shared → Prop), vs[i]? = some v → zs[i]? = some z → NsObj oC m₂ → m₂ x = some v → Off3 I C D news → Fr h₀ L h m → News h₀ L h ((I, oI) :: (C, oC) :: (D, lst ys) :: news) →
      wpAny (model prog w) A (eval elt (compEnvC scope cl C env)) (ElEnd h₀ L m { s with heap := h, toks := tk } ((I, oI) :: (C, oC) :: (D, lst ys) :: news) z) E' { s with heap := h, toks := tk })
    (hS : S news) (fin : ∀ ys, IntsAre ys zs → Fin ys news) : CompRest prog w A h₀ L m env elt x scope cl s S (fun i v => vs.toArray[i]? = some v) Fin vs.toArray.size 0 [] news := by
  have go : ∀ k i ys, i + k = zs.length → IntsAre ys (zs.take i) → CompRest prog w A h₀ L m env elt x scope cl s S (fun i v => vs.toArray[i]? = some v) Fin k i ys news := by
    intro k
    induction k with
    | zero =>
      intro i ys e hy
      have : i = zs.length := by omega
      rw [this, List.take_length] at hy
      exact CompRest.zero (fin ys hy)
    | succ k ih =>
      intro i ys e hy
      refine CompRest.succ fun v I oI C oC D m₂ h tk E' hv nsC hx F N off ap => ?_
      have hlt : i < zs.length := by omega
      have hv' : vs[i]? = some v := by simpa using hv
      refine wpAny_mono (turn i v zs[i] I oI C oC D ys m₂ h tk E' hv' (by simp [hlt]) nsC hx off F N) (fun y s'' hy' => ?_) fun _ _ e => e
      obtain ⟨h', tk', t', rfl, rfl, F', N'⟩ := hy'
      refine ⟨h', tk', news, rfl, F', N', off, hS, ih (i + 1) _ (by omega) ?_⟩
      rw [List.take_add_one, List.getElem?_eq_getElem hlt]
      exact ints_snoc hy _ _
  have hsz : vs.toArray.size = zs.length := by rw [List.size_toArray, hlen]
  rw [hsz]
  exact go zs.length 0 [] (by omega) .nil
end
end PartCompG
section PartCompF
open PySem PySem.W PySem.Calls PyProof.Rows PyProof.Rows.LCg
set_option maxRecDepth 100000
set_option maxHeartbeats 4000000
noncomputable def intP (pz : Int → Bool) : Value → Bool
  | .int n _ => pz n
  | _ => false
theorem ints_filter (pz : Int → Bool) : ∀ {vs : List Value} {ns : List Int}, IntsAre vs ns → IntsAre (vs.filter (intP pz)) (ns.filter pz)
  | _, _, .nil => .nil
  | _, _, .cons n t h => by
    rw [List.filter_cons, List.filter_cons]
    show IntsAre (if pz n = true then _ else _) (if pz n = true then _ else _)
    split
    · exact .cons n t (ints_filter pz h)
    · exact ints_filter pz h
theorem paired_eq : ∀ {a b : List Value}, Paired (fun v y => y = v) a b → b = a
  | _, _, .nil => rfl
  | _, _, .cons h r => by rw [h, paired_eq r]
section
variable {prog : Program} {w : World} {A : Around} {E : Value → Shared → Prop} {s : Shared} {h₀ : Heap} {L : Addr} {m : Str → Option Value} {env : Env} {news : List (Addr × Obj)}
/-- [x for x in l if test], stored: l a list of ints in the ledger -/
theorem filterA {test : PySem.Expr} {x z : Str} {px : Pos} {scope : Scope} {Q : Flow → Shared → Prop} {l : Addr} {vs : List Value} {ns : List Int} {n : Nat} (pz : Int → Bool)
    (hL : env.locals = L) (hh : A.handled = none) (F : Fr h₀ L s.heap m) (N : News h₀ L s.heap news) (hm : (l, ({ cls := .type "list", data := .seq vs.toArray n } : Obj)) ∈ news) (hi : IntsAre vs ns) (hsz : vs.length ≤ sizeLine)
    (g1 : ∀ C n t (s₂ : Shared) m₂ (E' : Value → Shared → Prop), n ∈ ns → s₂.heap.Ns C m₂ → m₂ x = some (.int n t) → wpAny (model prog w) A (isTrue test (compEnv scope C env) (eval test (compEnv scope C env))) (fun ok s₃ => ok = pz n ∧ Keeps s₂ s₃) E' s₂)
    (g2 : ∀ C v (s₂ : Shared) m₂ (E' : Value → Shared → Prop), s₂.heap.Ns C m₂ → m₂ x = some v → wpAny (model prog w) A (eval (.Name x px) (compEnv scope C env)) (fun y s₃ => y = v ∧ Keeps s₂ s₃) E' s₂)
    (g3 : ∀ D ys n' h' tk, IntsAre ys (ns.filter pz) → Fr h₀ L h' (fun q => if q = z then some (.ref D) else m q) → News h₀ L h' ((D, ({ cls := .type "list", data := .seq ys.toArray n' } : Obj)) :: news) → (∀ p ∈ news, p.1 ≠ D) → Q .next { s with heap := h', toks := tk }) :
    wpAny (model prog w) A (pyIter (.ref l)) (CompPostA prog w A env scope x z [test] (.Name x px) Q) E s := by
  subst hL
  have ol := N _ hm
  have hlt : l < s.heap.objs.size := Heap.lt_size ol.1
  refine wpAny_pyIter_list ⟨_, ol.1, rfl, n, rfl⟩ ?_
  have up : ∀ b o, s.heap.get? b = some o → (s.heap.push { cls := .type "list_iterator", data := .fields #[.ref l, .int 0 0] }).get? b = some o := fun b o e => Heap.get?_push_of_some _ e
  have nI : ∀ b o, s.heap.get? b = some o → b ≠ s.heap.objs.size := fun b o e => Nat.ne_of_lt (Heap.lt_size e)
  have lL : env.locals ≠ s.heap.objs.size := Nat.ne_of_lt F.ns.lt
  refine ⟨intP pz, fun v y => y = v, s.heap.objs.size, _, _, _, _, _, m, rfl, Walks.list hh _ l (Nat.ne_of_lt hlt) vs.toArray, by rw [List.size_toArray]; exact hsz,
    ⟨⟨_, Heap.get?_push_size _ rfl, rfl, rfl⟩, ⟨_, up _ _ ol.1, rfl, n, rfl⟩⟩, fun b hb => ?_, fun hm => lL (List.mem_singleton.mp hm), (F.push _).ns, ⟨fun C i v s₃ m₃ E' hP hn hx _ _ => ?_, fun C i v s₃ m₃ E' hP _ hn hx _ _ => g2 C v s₃ m₃ E' hn hx⟩, fun D h' tk ys ws hnew _ hpl hlen hP hF hns hk => ?_⟩
  · show b < (s.heap.push _).objs.size
    rw [Heap.size_push]
    rcases List.mem_cons.mp hb with rfl | hb
    · exact Nat.lt_succ_self _
    · rw [List.mem_singleton.mp hb]; exact Nat.lt_succ_of_lt hlt
  · have hP' : vs[i]? = some v := by simpa using hP
    have hlt2 : i < ns.length := by rw [← hi.length]; exact (List.getElem?_eq_some_iff.mp hP').1
    obtain ⟨t, ht⟩ := hi.get i ns[i] (by simp [hlt2])
    rw [hP'] at ht
    have ev := Option.some.inj ht
    subst ev
    exact wpAny_tests_one (g1 C _ t s₃ m₃ E' (List.getElem_mem hlt2) hn hx)
  · have ews : ws = vs := by simpa using walked_is hlen hP
    subst ews
    obtain ⟨n', hD⟩ := hpl
    have fD : h₀.get? D = none := by
      cases e : h₀.get? D with
      | none => rfl
      | some o' => have e2 : (s.heap.push _).get? D = some o' := up _ _ (F.keep _ _ e); rw [e2] at hnew; cases hnew
    have lD : D ≠ env.locals := fun e => by
      obtain ⟨o, _, _, ho, _⟩ := (F.push { cls := .type "list_iterator", data := .fields #[.ref l, .int 0 0] }).ns
      have hnew' : (s.heap.push { cls := .type "list_iterator", data := .fields #[.ref l, .int 0 0] }).get? D = none := hnew
      rw [e, ho] at hnew'; cases hnew'
    refine g3 D ys.toList n' h' tk ?_ ⟨hns, fun b o e => ?_, F.above⟩ (fun p hp => ?_) (fun p hp e => ?_)
    · rw [paired_eq hF]
      exact ints_filter pz hi
    · exact hk b o (Nat.ne_of_lt (Nat.lt_of_lt_of_le (Heap.lt_size e) F.above)) (by simpa using nI _ _ (F.keep b o e)) (up _ _ (F.keep b o e))
    · rcases List.mem_cons.mp hp with rfl | hp
      · exact ⟨by rw [hD, Array.toArray_toList], lD, fD⟩
      · have z := N p hp
        exact ⟨hk _ _ z.2.1 (by simpa using nI _ _ z.1) (up _ _ z.1), z.2⟩
    · have hnew' : (s.heap.push { cls := .type "list_iterator", data := .fields #[.ref l, .int 0 0] }).get? D = none := hnew
      rw [← e, up _ _ (N p hp).1] at hnew'; cases hnew'
end
end PartCompF
section PartRow
open PySem PySem.W PySem.Calls PyProof.Rows PyProof.Rows.LCg
set_option maxRecDepth 100000
set_option maxHeartbeats 4000000
theorem inS {h₀ h : Heap} {L : Addr} {m : Str → Option Value} {news : List (Addr × Obj)} (F : Fr h₀ L h m) (N : News h₀ L h news) : ∃ oL, h.get? L = some oL ∧ LedT h₀ h ((L, oL) :: news) := by
  obtain ⟨o, es, ep, ho, hd, _⟩ := F.ns
  refine ⟨o, ho, F.keep, fun p hp => ?_, Nat.le_trans F.above (Nat.le_of_lt F.ns.lt)⟩
  rcases List.mem_cons.mp hp with rfl | hp
  · exact ⟨ho, Heap.get?_none_of_le F.above⟩
  · exact ⟨(N p hp).1, (N p hp).2.2⟩
theorem outS {h₀ h h' : Heap} {L : Addr} {oL : Obj} {m : Str → Option Value} {extra news : List (Addr × Obj)} (F : Fr h₀ L h m) (N : News h₀ L h news) (ho : h.get? L = some oL) (D : LedT h₀ h' (extra ++ (L, oL) :: news)) (hx : ∀ p ∈ extra, p.1 ≠ L) : Fr h₀ L h' m ∧ News h₀ L h' (extra ++ news) := by
  obtain ⟨o, es, ep, ho', hd, hs, hf⟩ := F.ns
  rw [ho] at ho'
  cases ho'
  have hL := D.has (L, oL) (List.mem_append_right _ (.head _))
  refine ⟨⟨⟨oL, es, ep, hL.1, hd, hs, hf⟩, D.keep, F.above⟩, fun p hp => ?_⟩
  rcases List.mem_append.mp hp with hp | hp
  · have z := D.has p (List.mem_append_left _ hp)
    exact ⟨z.1, hx p hp, z.2⟩
  · have z := D.has p (List.mem_append_right _ (.tail _ hp))
    exact ⟨z.1, (N p hp).2.1, z.2⟩
theorem prettyK {w : World} {p : Program} {loose : List Str} {mean : ExcName → Option Value} {mg mb : Str → Option Value} {A : Around} {news : List (Addr × Obj)} {h₀ : Heap} {s : Shared} {L : Addr} {m : Str → Option Value}
    {f : Nat} {t : Tok} {Q E : Value → Shared → Prop}
    (X : (Mine.hd.heap_39 w.params).In h₀) (T : Top p loose mean mg mb h₀) (F : Fr h₀ L s.heap m) (N : News h₀ L s.heap news) (hAh : A.handled = none) (hd : A.depth + 12 < recursionLimit) (hu : A.units + 120 < cLine)
    (hf : f < 32) (h : ∀ t' h' tk', Fr h₀ L h' m → News h₀ L h' news → Q (.str (Txt.join (Str.ofString ", ") ((idxOf f).map nm)) t') { s with heap := h', toks := tk' }) :
    wpAny (model PySem.Challenge.rw_oy0064_01.row.prog w) A (call (.ref 36) [.int (f : Nat) t]) Q E s := by
  obtain ⟨oL, ho, D⟩ := inS F N
  refine pretty w p loose mean mg mb A _ h₀ s f t Q E X T hAh D hd hu hf fun t' h' tk' D' => ?_
  obtain ⟨F', N'⟩ := outS (extra := []) F N ho D' (fun _ h => nomatch h)
  exact h t' h' tk' F' N'
theorem txt_len : ∀ f : Nat, f < 32 → (Txt.join (Str.ofString ", ") ((idxOf f).map nm)).length + 2 ≤ sizeLine := by
  have h : ∀ f : Nat, f < 32 → (Txt.join (Str.ofString ", ") ((idxOf f).map nm)).length + 2 ≤ 1000 := by decide +kernel
  intro f hf
  have := h f hf
  rw [sizeLine_eq]; omega
theorem idx_len : ∀ f : Nat, f < 32 → (idxOf f).length ≤ 5 := by decide +kernel
theorem idx_lt : ∀ f : Nat, f < 32 → ∀ k ∈ idxOf f, k < 6 := by decide +kernel
theorem txt_split : ∀ f : Nat, f < 32 → Txt.split (Txt.join (Str.ofString ", ") ((idxOf f).map nm)) (Str.ofString ", ") = (idxOf f).map nm := by
  have h : ∀ f : Nat, f < 32 → (Txt.split (Txt.join (Str.ofString ", ") ((idxOf f).map nm)) (Str.ofString ", ")).map (fun z => z.cps.toList) = ((idxOf f).map nm).map (fun z => z.cps.toList) := by decide +kernel
  intro f hf
  refine List.map_inj_right (fun a b e => ?_) |>.mp (h f hf)
  cases a; cases b
  congr 1
  exact Array.toList_inj.mp e
theorem strs_of {l : List (Str × Tok)} {ss : List Str} (h : l.map (·.1) = ss) : StrsAre (strValues l) ss := by
  subst h
  induction l with
  | nil => exact .nil
  | cons p r ih => exact .cons p.1 p.2 ih
theorem strs_get : ∀ {vs : List Value} {ss : List Str}, StrsAre vs ss → ∀ {i : Nat} {v : Value} {x : Str}, vs[i]? = some v → ss[i]? = some x → ∃ t, v = .str x t
  | _, _, .nil, i, v, x, h, _ => by simp at h
  | _, _, .cons y t hs, 0, v, x, h, h2 => by
    simp at h h2
    exact ⟨t, by rw [← h, ← h2]⟩
  | _, _, .cons y t hs, i + 1, v, x, h, h2 => by
    simp at h h2
    exact strs_get hs h h2
noncomputable def eqS (x : Str) (y : Value) : Bool := match y with
  | .str a _ => a.cps.toList == x.cps.toList
  | _ => false
theorem idxS {w : World} {A : Around} {E : Value → Shared → Prop} {s : Shared} {h₀ : Heap} {L D : Addr} {news : List (Addr × Obj)} {t0 t1 t2 t3 t4 t5 t : Tok} {n k : Nat} {Q : Value → Shared → Prop} {prog : Program}
    (N : News h₀ L s.heap news) (hm : (D, W.listOf #[.str (nm 0) t0, .str (nm 1) t1, .str (nm 2) t2, .str (nm 3) t3, .str (nm 4) t4, .str (nm 5) t5] n) ∈ news) (hk : k < 6)
    (h : Q (.int (k : Nat) s.toks) { s with toks := s.toks + 1 }) : wpAny (model prog w) A (call (.builtin "list.index") [.ref D, .str (nm k) t]) Q E s := by
  have he : ∀ j : Nat, j < 6 → ∀ i : Nat, i < 6 → ((nm i).cps.toList == (nm j).cps.toList) = decide (i = j) := by decide +kernel
  refine call_meets PySem.F.slot_list_index ⟨_, (N _ hm).1, rfl⟩ PySem.F.entry_list_index (PySem.F.args_list_index_2 _ _)
    (MeetsSeq.list_index D _ n (.str (nm k) t) (eqS (nm k)) (fun y hy => ?_) k (by simpa using hk) (by omega) ?_ (fun i hi hlt => ?_)) ⟨(N _ hm).1, h⟩
  · simp only [List.mem_toArray, List.mem_cons, List.not_mem_nil, or_false] at hy
    rcases hy with rfl | rfl | rfl | rfl | rfl | rfl <;> exact SeqRoads2.EqGives.str _ _ _ _
  · rcases (show k = 0 ∨ k = 1 ∨ k = 2 ∨ k = 3 ∨ k = 4 ∨ k = 5 by omega) with rfl | rfl | rfl | rfl | rfl | rfl <;> (simp [eqS])
  · have hi6 : i < 6 := Nat.lt_trans hlt hk
    have z := he k hk i hi6
    rw [decide_eq_false (Nat.ne_of_lt hlt)] at z
    rcases (show i = 0 ∨ i = 1 ∨ i = 2 ∨ i = 3 ∨ i = 4 ∨ i = 5 by omega) with rfl | rfl | rfl | rfl | rfl | rfl <;> exact z
noncomputable def rowZ (f : Nat) : List Int := [(((((idxOf f).map fun (k : Nat) => (k : Int)).filter fun k => decide (k < 5)).length : Nat) : Int)] ++ ((idxOf f).map fun (k : Nat) => (k : Int)).filter fun k => decide (k < 5)
theorem lawRow : ∀ (w : World) (p : Program) (loose : List Str) (mean : ExcName → Option Value) (mg mb : Str → Option Value) (A : Around) (news : List (Addr × Obj)) (h₀ : Heap) (s : Shared)
    (f : Nat) (t : Tok) (Q E : Value → Shared → Prop)
    (_ : (Mine.hd.heap_39 w.params).In h₀) (_ : Top p loose mean mg mb h₀) (_ : A.handled = none) (_ : LedT h₀ s.heap news) (_ : A.depth + 15 < recursionLimit) (_ : A.units + 150 < cLine)
    (_ : f < 32) (_ : ∀ D vs' h' tk', IntsAre vs' (rowZ f) → (∀ q ∈ news, q.1 < D) → LedT h₀ h' ((D, W.listOf vs'.toArray 0) :: news) → Q (.ref D) { s with heap := h', toks := tk' }),
    wpAny (model PySem.Challenge.rw_oy0064_01.row.prog w) A (call (.ref 64) [.int (f : Nat) t]) Q E s := by
  k_fill
  intro w p loose mean mg mb A news h₀ s f t Q E X T hAh D hd hu hf hret
  refine wpAny_call ?_
  k_dflt (refine' enterTC D X T ?k6 ?k7 ?k8 ?k9 ?kB ?kD ?_ ?c2 ?c3 ?c4; (case k6 => k_is); (case k7 => k_is); (case k8 => omega); (case k9 => exact BindsTo.of_eq rfl); (case kB => exact kindsX rfl); (case kD => decide +kernel); (case c2 => exact rfl); (case c3 => exact rfl); (case c4 => exact rfl); k_whole)
  intro L' h' tk' cells eL F' N' Y hlt
  k_cells Y
  simp only [List.cons_append, List.nil_append] at N'
  have hc1 : ∀ p ∈ news, @LT.lt Nat _ p.1 (L' + 1) := fun p hp => Nat.lt_succ_of_lt (hlt p hp)
  dsimp only
  repeat ((fail_if_success (with_reducible show wpAny _ _ (call (Value.ref 36) _) _ _ _)); first | (k_unfold; (try dsimp only)) | walk1)
  rename_i lN _ _ lNl h1 oN F1 N1 dN
  refine Assign_ListComp_U F1 rfl ?hsw rfl (by decide) rfl (by decide) rfl rfl rfl ?_
  case hsw => first | rfl | kernel_rfl
  repeat ((fail_if_success (with_reducible show wpAny _ _ (call (Value.ref 36) _) _ _ _)); first | (k_unfold; (try dsimp only)) | walk1)
  refine prettyK X T F1 N1 hAh (by show A.depth + 1 + 12 < _; omega) (by show A.units + 3 + 120 < _; omega) hf fun t2 h2 tk2 F2 N2 => ?_
  k_steps
  refine splitN1 F2 N2 (by decide) (fun l h3 tk3 hl F3 N3 => ?_) (txt_len f hf)
  rw [txt_split f hf] at hl
  have sv := strs_of hl
  have ln := strs_len sv
  rw [List.length_map] at ln
  have hl5 : (idxOf f).length ≤ 5 := idx_len f hf
  refine CompSrc.ledger hAh F3 N3 (.head _) (by rw [List.size_toArray, sizeLine_eq]; omega) fun g => compMapG ((idxOf f).map fun (k : Nat) => (k : Int)) (by rw [ln, List.length_map]) (fun i v z I2 oI2 C2 oC2 D2 ys2 m2 h4 tk4 E2 hv hz nsC2 hx2 off2 F4 N4 => ?_) (.inr ⟨_, .head _, rfl, 0, rfl⟩) fun ys2 hys2 => ?_
  all_goals dsimp only
  · obtain ⟨k, hk, rfl⟩ : ∃ k, (idxOf f)[i]? = some k ∧ z = (k : Int) := by
      rw [List.getElem?_map] at hz
      cases e : (idxOf f)[i]? with
      | none => rw [e] at hz; cases hz
      | some k => rw [e] at hz; exact ⟨k, rfl, (Option.some.inj hz).symm⟩
    obtain ⟨t5, rfl⟩ : ∃ t5, v = .str (nm k) t5 := strs_get sv hv (by rw [List.getElem?_map, hk]; rfl)
    have hk6 : k < 6 := idx_lt f hf k (List.mem_of_getElem? hk)
    k_steps
    refine idxS N4 (.tail _ (.tail _ (.tail _ (.tail _ (.head _))))) hk6 ?_
    exact ElEnd.intro F4 N4 (fun p hp => hp) rfl
  · intro D6 h6 tk6 F6 N6 off6
    k_steps
    refine filterA (fun k => decide (k < 5)) rfl hAh F6 N6 (.head _) hys2 (by rw [hys2.length, List.length_map, sizeLine_eq]; omega) (fun C n t s2 m2 E2 hn hC hx => ?_) (fun C v s2 m2 E2 hC hx => ?_) fun D7 ys7 n7 h7 tk7 hys7 F7 N7 off7 => ?_
    · k_steps
      exact ⟨_, _, rfl, fun _ _ e => e⟩
    · k_steps
      exact ⟨_, _, rfl, fun _ _ e => e⟩
    · have N8 : News h₀ (envOfC (Str.ofString "_law_row") _ L' 64 (Value.ref 63)).locals h7 ((D7, W.listOf ys7.toArray n7) :: (D6, W.listOf ys2.toArray ys2.length) :: news) := fun p hp => N7 p (by
        rcases List.mem_cons.mp hp with rfl | hp
        · exact .head _
        · rcases List.mem_cons.mp hp with rfl | hp
          · exact .tail _ (.head _)
          · exact .tail _ (.tail _ (.tail _ (.tail _ (.tail _ hp)))))
      have le7 := hys7.length
      have hz7 : (((idxOf f).map fun (k : Nat) => (k : Int)).filter fun k => decide (k < 5)).length ≤ 5 := Nat.le_trans (List.length_filter_le _ _) (by rw [List.length_map]; exact hl5)
      generalize hrow : (((idxOf f).map fun (k : Nat) => (k : Int)).filter fun k => decide (k < 5)) = rw7 at *
      clear N7 off7 N6 F6 N3 F3 N2 F2 N1 F1
      k_steps
      rename_i F8 N8 i8 l8
      rw [← hrow] at i8
      refine hret _ _ _ _ i8 (kst_ltOf l8.2.2.2) ((LedT.of F8 N8).sub fun p hp => ?_)
      rcases List.mem_cons.mp hp with rfl | hp
      · exact .head _
      · exact .tail _ (.tail _ (.tail _ (.tail _ hp)))
end PartRow
section PartLawD
open PySem PySem.W PySem.Calls PyProof.Rows PyProof.Rows.LCg
set_option maxRecDepth 100000
set_option maxHeartbeats 4000000
noncomputable def lawDef : Stmt := PySem.Challenge.pw_oy0064_01.main.body.getLastD (.Pass ⟨0, 0, 0, 0⟩)
noncomputable def lawB : List Stmt := match lawDef with
  | .FunctionDef _ _ body _ _ _ scope _ _ _ => body
  | _ => []
noncomputable def lawSc : Scope := match lawDef with
  | .FunctionDef _ _ _ _ _ _ scope _ _ _ => scope
  | _ => default
noncomputable def lawS (i : Nat) : Stmt := lawB.getD i (.Pass ⟨0, 0, 0, 0⟩)
noncomputable abbrev lawE (L fa : Addr) : Env := envOfC (Str.ofString "law") lawSc L fa (.ref 80)
theorem lawB_eq : lawB = [lawS 0, lawS 1, lawS 2, lawS 3, lawS 4, lawS 5, lawS 6] := by kernel_rfl
end PartLawD
section PartSt1
open PySem PySem.W PySem.Calls PyProof.Rows PyProof.Rows.LCg
set_option maxRecDepth 100000
set_option maxHeartbeats 4000000
theorem lawRowK {w : World} {p : Program} {loose : List Str} {mean : ExcName → Option Value} {mg mb : Str → Option Value} {A : Around} {news : List (Addr × Obj)} {h₀ : Heap} {s : Shared} {L : Addr} {m : Str → Option Value}
    {f : Nat} {t : Tok} {Q E : Value → Shared → Prop}
    (X : (Mine.hd.heap_39 w.params).In h₀) (T : Top p loose mean mg mb h₀) (F : Fr h₀ L s.heap m) (N : News h₀ L s.heap news) (hAh : A.handled = none) (hd : A.depth + 15 < recursionLimit) (hu : A.units + 150 < cLine)
    (hf : f < 32) (h : ∀ D vs' h' tk', IntsAre vs' (rowZ f) → (∀ q ∈ news, q.1 < D) → Fr h₀ L h' m → News h₀ L h' ((D, W.listOf vs'.toArray 0) :: news) → Q (.ref D) { s with heap := h', toks := tk' }) :
    wpAny (model PySem.Challenge.rw_oy0064_01.row.prog w) A (call (.ref 64) [.int (f : Nat) t]) Q E s := by
  obtain ⟨oL, ho, D⟩ := inS F N
  refine lawRow w p loose mean mg mb A _ h₀ s f t Q E X T hAh D hd hu hf fun D1 vs' h' tk' hi hlt D' => ?_
  obtain ⟨F', N'⟩ := outS (extra := [(D1, _)]) F N ho D' (fun q hq => by rw [List.mem_singleton] at hq; subst hq; exact Nat.ne_of_gt (hlt (L, oL) (.head _)))
  exact h D1 vs' h' tk' hi (fun q hq => hlt q (.tail _ hq)) F' N'
/-- the rows made so far -/
structure RowsIn (lo : Addr) (refs : List Addr) (rowsL : List (Addr × Obj)) : Prop where
  each : ∀ j q, refs[j]? = some q → ∃ vs, IntsAre vs (rowZ j) ∧ (q, W.listOf vs.toArray 0) ∈ rowsL
  above : ∀ p ∈ rowsL, @LT.lt Nat _ lo p.1
theorem compRows {prog : Program} {w : World} {A : Around} {s : Shared} {h₀ : Heap} {L lo : Addr} {m : Str → Option Value} {env : Env} {elt : PySem.Expr} {x : Str} {scope : Scope} {cl : List (Str × Addr)} {Fin : List Value → List (Addr × Obj) → Prop} {base : List (Addr × Obj)} {n : Nat}
    (hlo : ∃ p ∈ base, p.1 = lo)
    (turn : ∀ (i : Nat) t I oI C oC D ys m₂ nw h tk (E' Q' : Value → Shared → Prop), i < n → NsObj oC m₂ → m₂ x = some (.int (i : Nat) t) → Fr h₀ L h m → News h₀ L h ((I, oI) :: (C, oC) :: (D, lst ys) :: nw) →
      (∀ D1 vs' h' tk', IntsAre vs' (rowZ i) → (∀ q ∈ (I, oI) :: (C, oC) :: (D, lst ys) :: nw, q.1 < D1) → Fr h₀ L h' m → News h₀ L h' ((D1, W.listOf vs'.toArray 0) :: (I, oI) :: (C, oC) :: (D, lst ys) :: nw) → Q' (.ref D1) { s with heap := h', toks := tk' }) →
      wpAny (model prog w) A (eval elt (compEnvC scope cl C env)) Q' E' { s with heap := h, toks := tk })
    (fin : ∀ refs rowsL, refs.length = n → RowsIn lo refs rowsL → Fin (refs.map Value.ref) (rowsL ++ base)) :
    CompRest prog w A h₀ L m env elt x scope cl s (fun _ => True) (fun i v => ∃ t, v = .int (0 + (i : Int)) t) Fin n 0 [] base := by
  have go : ∀ k i refs rowsL, i + k = n → refs.length = i → RowsIn lo refs rowsL → CompRest prog w A h₀ L m env elt x scope cl s (fun _ => True) (fun i v => ∃ t, v = .int (0 + (i : Int)) t) Fin k i (refs.map Value.ref) (rowsL ++ base) := by
    intro k
    induction k with
    | zero =>
      intro i refs rowsL e hl hR
      exact CompRest.zero (fin refs rowsL (by omega) hR)
    | succ k ih =>
      intro i refs rowsL e hl hR
      refine CompRest.succ fun v I oI C oC D m₂ h tk E' hv nsC hx F N off ap => ?_
      obtain ⟨t, rfl⟩ := hv
      rw [Int.zero_add] at hx
      refine turn i t I oI C oC D _ m₂ _ h tk E' _ (by omega) nsC hx F N fun D1 vs' h' tk' hi hlt F' N' => ?_
      refine ⟨h', tk', ((D1, W.listOf vs'.toArray 0) :: rowsL) ++ base, rfl, F', fun p hp => N' p ?_, Off3.of fun p hp => ?_, trivial, ?_⟩
      · simp only [List.mem_cons, List.mem_append] at hp ⊢
        rcases hp with h | h | h | (h | h) | h <;> simp [h]
      · rcases List.mem_append.mp hp with hp | hp
        · rcases List.mem_cons.mp hp with rfl | hp
          · exact ⟨Nat.ne_of_gt (hlt (I, oI) (.head _)), Nat.ne_of_gt (hlt (C, oC) (.tail _ (.head _))), Nat.ne_of_gt (hlt (D, _) (.tail _ (.tail _ (.head _))))⟩
          · exact off.mem p (List.mem_append_left _ hp)
        · exact off.mem p (List.mem_append_right _ hp)
      · have z := ih (i + 1) (refs ++ [D1]) ((D1, W.listOf vs'.toArray 0) :: rowsL) (by omega) (by simp [hl]) ⟨fun j q hj => ?_, fun p hp => ?_⟩
        · rw [List.map_append] at z; exact z
        · by_cases hj2 : j < refs.length
          · rw [List.getElem?_append_left hj2] at hj
            obtain ⟨vs, a, b⟩ := hR.each j q hj
            exact ⟨vs, a, .tail _ b⟩
          · rw [List.getElem?_append_right (Nat.not_lt.mp hj2)] at hj
            have e0 : j - refs.length = 0 := by
              have := (List.getElem?_eq_some_iff.mp hj).1
              simp at this; omega
            rw [e0] at hj
            have eq : D1 = q := by simpa using hj
            subst eq
            have ej : j = i := by omega
            subst ej
            exact ⟨vs', hi, .head _⟩
        · rcases List.mem_cons.mp hp with rfl | hp
          · obtain ⟨b, hb, eb⟩ := hlo
            rw [← eb]
            exact hlt b (.tail _ (.tail _ (.tail _ (List.mem_append_right _ hb))))
          · exact hR.above p hp
  exact go n 0 [] [] (by omega) rfl ⟨fun j q h => by simp at h, fun p hp => by cases hp⟩
theorem off1_mem {D : Addr} : ∀ {l : List (Addr × Obj)}, Off1 D l → ∀ p ∈ l, p.1 ≠ D
  | [], _, _, h => nomatch h
  | _ :: _, x, p, h => by
    rcases List.mem_cons.mp h with rfl | h
    · exact x.1
    · exact off1_mem x.2 p h
theorem st1 : ∀ (w : World) (p : Program) (loose : List Str) (mean : ExcName → Option Value) (mg mb : Str → Option Value) (h₀ : Heap) (s : Shared) (L fa : Addr) (m : Str → Option Value) (oC oA oB : Obj) (Q : Flow → Shared → Prop) (E : Value → Shared → Prop)
    (_ : (Mine.hd.heap_39 w.params).In h₀) (_ : Top p loose mean mg mb h₀) (_ : Fr h₀ L s.heap m) (_ : News h₀ L s.heap [(L + 1, oC), (38, oA), (78, oB)]) (_ : oC.data = .cell none) (_ : @LT.lt Nat _ 78 L)
    (_ : ∀ D refs rowsL oC' h' tk', refs.length = 32 → RowsIn (L + 1) refs rowsL → oC'.data = .cell (some (.ref D)) → D ≠ L + 1 → D ≠ 38 → D ≠ 78 → (∀ p ∈ rowsL, p.1 ≠ D) → Fr h₀ L h' m → News h₀ L h' ((L + 1, oC') :: (38, oA) :: (78, oB) :: (D, lst (refs.map Value.ref)) :: rowsL) → Q .next { s with heap := h', toks := tk' }),
    wpAny (model PySem.Challenge.rw_oy0064_01.row.prog w) (callerA.deeper (lawE L fa)) (exec (lawS 0) (lawE L fa)) Q E s := by
  k_fill
  intro w p loose mean mg mb h₀ s L fa m oC oA oB Q E X T F N dC hL hret
  have e : lawS 0 = lawS 0 := rfl
  conv at e => rhs; whnf
  rw [e]
  clear e
  have hsw := 0
  repeat ((fail_if_success (with_reducible show wpAny _ _ (eval (Expr.ListComp _ _ _ _) _) _ _ _)); first | (k_unfold; (try dsimp only)) | walk1)
  have hll : @LT.lt Nat _ 78 (L + 1) := Nat.lt_succ_of_lt hL
  have hl38 : @LT.lt Nat _ 38 (L + 1) := Nat.lt_trans (by decide) hll
  refine ListComp_U F rfl (by decide) rfl (by decide) rfl ?_
  repeat ((fail_if_success (with_reducible show CompSrc _ _ _ _ _ _ _ _ _ _ _ _ _ _)); first | (k_unfold; (try dsimp only)) | walk1)
  rename_i F2 N2 keep2
  refine CompSrc.range (n := 32) rfl F2 N2 (by assumption) rfl rfl (by decide) fun g => compRows (lo := L + 1) ⟨(L + 1, oC), .head _, rfl⟩ (fun i t I2 oI2 C2 oC2 D2 ys2 m2 nw2 h4 tk4 E2 Q2 hi nsC2 hx2 F4 N4 hk => ?_) fun refs rowsL hl hR => ?_
  all_goals dsimp only
  · repeat ((fail_if_success (with_reducible show wpAny _ _ (call (Value.ref 64) _) _ _ _)); first | (k_unfold; (try dsimp only)) | walk1)
    exact lawRowK X T F4 N4 rfl (by show 1 + claimMargin + 1 + 15 < recursionLimit; decide) (by show 4 + 3 + 150 < cLine; decide) hi hk
  · intro D h3 tk3 F3 N3 off3
    have offD : ∀ p ∈ rowsL ++ [(L + 1, oC), (38, oA), (78, oB)], p.1 ≠ D := off1_mem off3
    have N5 : News h₀ L h3 ((L + 1, oC) :: (38, oA) :: (78, oB) :: (D, lst (List.map Value.ref refs)) :: rowsL) := fun p hp => N3 p (by
      simp only [List.mem_cons, List.mem_append, List.not_mem_nil, or_false] at hp ⊢
      rcases hp with h | h | h | h | h <;> simp [h])
    refine storeX_C (cn := Str.ofString "law") (cs := lawSc) (ccd := .ref 80) (cl := cellsFrom (L + 1) lawSc.names []) F3 N5 rfl (UpdF.head fun p hp => ?_) dC fun h5 o5 F5 N6 d5 => ?_
    · simp only [List.mem_cons] at hp
      rcases hp with rfl | rfl | rfl | hp
      · exact Nat.ne_of_lt hl38
      · exact Nat.ne_of_lt hll
      · exact (offD (L + 1, oC) (List.mem_append_right _ (.head _))).symm
      · exact Nat.ne_of_gt (hR.above p hp)
    · exact hret D refs rowsL o5 h5 _ hl hR d5 (offD (L + 1, oC) (List.mem_append_right _ (.head _))).symm (offD (38, oA) (List.mem_append_right _ (.tail _ (.head _)))).symm (offD (78, oB) (List.mem_append_right _ (.tail _ (.tail _ (.head _))))).symm (fun p hp => offD p (List.mem_append_left _ hp)) F5 N6
end PartSt1
section PartSt2
open PySem PySem.W PySem.Calls PyProof.Rows PyProof.Rows.LCg
set_option maxRecDepth 100000
set_option maxHeartbeats 4000000
theorem row_len : ∀ i : Nat, i < 32 → (rowZ i).length ≤ 6 := by decide +kernel
theorem row_mem : ∀ i : Nat, i < 32 → ∀ n ∈ (rowZ i).drop (1 : Int).toNat, 0 ≤ n ∧ n < 5 := by decide +kernel
theorem row_sum : ∀ i : Nat, i < 32 → (((rowZ i).drop (1 : Int).toNat).map fun x => (2 : Int) ^ x.toNat).sum = (i : Int) := by decide +kernel
theorem st2 : ∀ (w : World) (p : Program) (loose : List Str) (mean : ExcName → Option Value) (mg mb : Str → Option Value) (h₀ : Heap) (s : Shared) (L fa R : Addr) (m : Str → Option Value) (oC oA oB : Obj) (refs : List Addr) (rowsL : List (Addr × Obj)) (Q : Flow → Shared → Prop) (E : Value → Shared → Prop)
    (_ : (Mine.hd.heap_39 w.params).In h₀) (_ : Top p loose mean mg mb h₀) (_ : Fr h₀ L s.heap m) (_ : News h₀ L s.heap ((L + 1, oC) :: (38, oA) :: (78, oB) :: (R, lst (refs.map Value.ref)) :: rowsL)) (_ : oC.data = .cell (some (.ref R))) (_ : refs.length = 32) (_ : RowsIn (L + 1) refs rowsL)
    (_ : ∀ h' tk', Fr h₀ L h' m → News h₀ L h' ((L + 1, oC) :: (38, oA) :: (78, oB) :: (R, lst (refs.map Value.ref)) :: rowsL) → Q .next { s with heap := h', toks := tk' }),
    wpAny (model PySem.Challenge.rw_oy0064_01.row.prog w) (callerA.deeper (lawE L fa)) (exec (lawS 1) (lawE L fa)) Q E s := by
  k_fill
  intro w p loose mean mg mb h₀ s L fa R m oC oA oB refs rowsL Q E X T F N dC hl hR hret
  have e : lawS 1 = lawS 1 := rfl
  conv at e => rhs; whnf
  rw [e]
  clear e
  repeat ((fail_if_success (with_reducible show wpAny _ _ (eval (Expr.ListComp _ _ _ _) _) _ _ _)); first | (k_unfold; (try dsimp only)) | walk1)
  refine ListComp_U F rfl (by decide) rfl (by decide) rfl ?_
  repeat ((fail_if_success (with_reducible show CompSrc _ _ _ _ _ _ _ _ _ _ _ _ _ _)); first | (k_unfold; (try dsimp only)) | walk1)
  refine CompSrc.ledger (k := (refs.map Value.ref).length) rfl F N (.tail _ (.tail _ (.tail _ (.head _)))) (by rw [List.size_toArray, List.length_map, hl, sizeLine_eq]; decide) fun g => compMapG ((List.range 32).map fun (k : Nat) => (k : Int)) (by simp [hl]) (fun i v z I2 oI2 C2 oC2 D2 ys2 m2 h4 tk4 E2 hv hz nsC2 hx2 off2 F4 N4 => ?_) (.inr ⟨_, .tail _ (.tail _ (.tail _ (.head _))), rfl, _, rfl⟩) fun ys2 hys2 => ?_
  all_goals (try dsimp only)
  · have hi : i < 32 := by
      have := (List.getElem?_eq_some_iff.mp hz).1
      simpa using this
    have ez : z = (i : Int) := by simpa [hi] using hz.symm
    subst ez
    have hi2 : i < refs.length := by omega
    have ev : v = .ref refs[i] := by simpa [hi2] using hv.symm
    subst ev
    obtain ⟨vs, hvs, hm⟩ := hR.each i refs[i] (by simp [hi2])
    generalize refs[i] = q at *
    repeat ((fail_if_success (with_reducible show wpAny _ _ (eval (Expr.ListComp _ _ _ _) _) _ _ _)); first | (k_unfold; (try dsimp only)) | walk1)
    refine ListComp_U F4 rfl (by decide) rfl (by decide) rfl ?_
    repeat ((fail_if_success (with_reducible show wpAny _ _ (subscriptTail _ _ _ _) _ _ _)); first | (k_unfold; (try dsimp only)) | walk1)
    have hm4 : (q, W.listOf vs.toArray 0) ∈ (I2, oI2) :: (C2, oC2) :: (D2, lst ys2) :: (L + 1, oC) :: (38, oA) :: (78, oB) :: (R, lst (refs.map Value.ref)) :: rowsL := .tail _ (.tail _ (.tail _ (.tail _ (.tail _ (.tail _ (.tail _ hm))))))
    refine slice_fromK F4 N4 hm4 hvs (by decide) (Nat.le_trans (row_len i hi) (by decide)) fun D5 h5 vs5 i5 F5 N5 l5 => ?_
    refine CompSrc.ledger (k := 0) rfl F5 N5 (.head _) (by rw [List.size_toArray, i5.length, List.length_drop, sizeLine_eq]; have := row_len i hi; omega) fun g => compMap (fun x => 2 ^ x.toNat) i5 (fun n t I6 oI6 C6 oC6 D6 ys6 m6 h6 tk6 E6 hn nsC6 hx6 F6 N6 => ?_) (.inr ⟨_, .head _, rfl, _, rfl⟩) fun ys6 hys6 => ?_
    all_goals (try dsimp only)
    · have hb := row_mem i hi n hn
      obtain ⟨hb1, hb2⟩ := hb
      k_steps
      exact ElEnd.intro F6 N6 (fun p hp => hp) rfl
    · intro D7 h7 tk7 F7 N7 off7
      k_steps
      exact ElEnd.intro (by assumption) (by assumption) (fun p hp => .tail _ (.tail _ hp)) (row_sum i hi)
  · intro D h3 tk3 F3 N3 off3
    repeat ((fail_if_success (with_reducible show wpAny _ _ (call (Value.type "list") _) _ _ _)); first | (k_unfold; (try dsimp only)) | walk1)
    rename_i rgX F5 N5 _
    refine kll_range rfl F5 N5 rgX rfl rfl (by decide) fun D' vs' c' h' tk' F' N' l1 hI' => ?_
    have N6 : News h₀ L h' ((L + 1, oC) :: (38, oA) :: (78, oB) :: (R, lst (refs.map Value.ref)) :: rowsL) := fun p hp => N' p (.tail _ (.tail _ hp))
    refine ke_ne_ints ⟨_, (N' _ (.tail _ (.head _))).1, rfl, _, rfl⟩ ⟨_, (N' _ (.head _)).1, rfl, _, rfl⟩ hys2 hI' (by show 4 + 3 + 64 < cLine; decide) ?_
    rw [show (!decide (((List.range 32).map fun (k : Nat) => (k : Int)) = rangeKs 0 ((32 + 0 - Nat.succ 0) / 1 + 1))) = false by decide +kernel]
    k_steps
    exact hret _ _ F' N6
end PartSt2
section PartListLt
open PySem PySem.W PySem.Calls PyProof.Rows PyProof.Rows.LCg
open PySem.AutoSeq1 (wpAny_loadPart')
set_option maxRecDepth 100000
set_option maxHeartbeats 4000000
noncomputable def cmpLt : List Int → List Int → Bool
  | [], [] => false
  | [], _ :: _ => true
  | _ :: _, [] => false
  | x :: xs, y :: ys => if x = y then cmpLt xs ys else decide (x < y)

theorem lt_loop (l b : Addr) (vs us : List Value) (ns ms : List Int) (n n2 : Nat) (hi : IntsAre vs ns) (hj : IntsAre us ms) (k : Nat) :
    ∀ i : Nat, ns.length - i = k → i ≤ ns.length → i ≤ ms.length → Meets (Builtin.«list.__eq__.loop» ⟨[.ref l, .ref b, rawInt i, rawInt 0], []⟩)
      (fun _ R s => s.heap.get? l = some { cls := .type "list", dict := none, data := .seq vs.toArray n, slots := #[] } ∧ s.heap.get? b = some { cls := .type "list", dict := none, data := .seq us.toArray n2, slots := #[] } ∧
        R (.ok (.ret (.bool (cmpLt (ns.drop i) (ms.drop i))))) s) := by
  have e1 := hi.length
  have e2 := hj.length
  induction k with
  | zero =>
    intro i hk h1 h2 prog w A R s h
    obtain ⟨hp, g, d, tk, os⟩ := s; obtain ⟨hl, hb, h⟩ := h
    wp_walk using wpAny_loadPart' hl, wpAny_loadPart' hb
    have hi1 : vs.toArray[((i : Nat) : Int).toNat]? = none := by simp; omega
    rw [hi1]
    wp_walk using wpAny_loadPart' hl, wpAny_loadPart' hb
    have hd : ns.drop i = [] := by simp; omega
    rw [hd] at h
    have ez : decide (vs.toArray.size < us.toArray.size) = cmpLt [] (ms.drop i) := by
      cases hq : ms.drop i with
      | nil =>
        have := congrArg List.length hq
        simp at this
        simp [cmpLt]; omega
      | cons y ys =>
        have := congrArg List.length hq
        simp at this
        simp [cmpLt]; omega
    rw [← ez] at h
    exact h
  | succ k ih =>
    intro i hk h1 h2 prog w A R s h
    obtain ⟨hp, g, d, tk, os⟩ := s; obtain ⟨hl, hb, h⟩ := h
    wp_walk using wpAny_loadPart' hl, wpAny_loadPart' hb
    have hlt : i < ns.length := by omega
    obtain ⟨tx, hx⟩ := hi.get i ns[i] (by simp [hlt])
    have hi1 : vs.toArray[((i : Nat) : Int).toNat]? = some (.int ns[i] tx) := by simpa using hx
    have d1 : ns.drop i = ns[i] :: ns.drop (i + 1) := List.drop_eq_getElem_cons hlt
    have hc : ((i : Int) + 1) = ((i + 1 : Nat) : Int) := by push_cast; rfl
    by_cases hlt2 : i < ms.length
    · obtain ⟨ty, hy⟩ := hj.get i ms[i] (by simp [hlt2])
      have hi2 : us.toArray[((i : Nat) : Int).toNat]? = some (.int ms[i] ty) := by simpa using hy
      have d2 : ms.drop i = ms[i] :: ms.drop (i + 1) := List.drop_eq_getElem_cons hlt2
      rw [d1, d2] at h
      rw [hi1, hi2]
      refine wpAny_bind (wpAny_eqBool_int ?_)
      by_cases he : ns[i] = ms[i]
      · have hb' : (ns[i] == ms[i]) = true := by simpa using he
        rw [hb']
        wp_walk
        rw [hc]
        exact ⟨plainId_quiet MeetsSeq3.plain_eq_loop _, codeAny_builtin MeetsSeq3.entry_eq_loop (by
          rw [Around.under_plainId MeetsSeq3.plain_eq_loop _]
          exact ih (i + 1) (by omega) (by omega) (by omega) prog w A R _ ⟨hl, hb, by simpa [cmpLt, he] using h⟩)⟩
      · have hb' : (ns[i] == ms[i]) = false := by simpa using he
        rw [hb']
        wp_walk using wpAny_loadPart' hl, wpAny_loadPart' hb
        rw [hi1, hi2]
        refine wpAny_bind ?_
        show wpAny _ _ (compareOp .Lt (.int ns[i] tx) (.int ms[i] ty)) _ _ _
        refine wpAny_lt_int ?_
        wp_walk
        simpa [cmpLt, he, Int.not_lt] using h
    · have hi2 : us.toArray[((i : Nat) : Int).toNat]? = none := by simp; omega
      rw [hi1, hi2]
      wp_walk using wpAny_loadPart' hl, wpAny_loadPart' hb
      have d2 : ms.drop i = [] := by simp; omega
      rw [d1, d2] at h
      have ez : decide (vs.toArray.size < us.toArray.size) = cmpLt (ns[i] :: ns.drop (i + 1)) [] := by simp [cmpLt]; omega
      rw [← ez] at h
      exact h
theorem list_lt (l b : Addr) (vs us : List Value) (ns ms : List Int) (n n2 : Nat) (hi : IntsAre vs ns) (hj : IntsAre us ms) :
    Meets (Builtin.«list.__lt__» ⟨[.ref l, .ref b], []⟩)
      (fun _ R s => s.heap.get? l = some { cls := .type "list", dict := none, data := .seq vs.toArray n, slots := #[] } ∧ s.heap.get? b = some { cls := .type "list", dict := none, data := .seq us.toArray n2, slots := #[] } ∧
        R (.ok (.ret (.bool (cmpLt ns ms)))) s) := by
  intro prog w A R s h
  obtain ⟨hp, g, d, tk, os⟩ := s; obtain ⟨hl, hb, h⟩ := h
  have f3 := AutoSeq1.sub_list_list
  wp_walk using wpAny_loadPart' hl, wpAny_loadPart' hb
  exact ⟨plainId_quiet MeetsSeq3.plain_eq_loop _, codeAny_builtin MeetsSeq3.entry_eq_loop (by
    rw [Around.under_plainId MeetsSeq3.plain_eq_loop _]
    exact lt_loop l b vs us ns ms n n2 hi hj _ 0 rfl (Nat.zero_le _) (Nat.zero_le _) prog w A R _ ⟨hl, hb, by simpa using h⟩)⟩
theorem lt_ints {prog : Program} {w : World} {A : Around} {E : Value → Shared → Prop} {s : Shared} {l b : Addr} {vs us : List Value} {ns ms : List Int} {n n2 : Nat} {Q : Value → Shared → Prop}
    (hl : s.heap.get? l = some { cls := .type "list", dict := none, data := .seq vs.toArray n, slots := #[] }) (hb : s.heap.get? b = some { cls := .type "list", dict := none, data := .seq us.toArray n2, slots := #[] }) (hi : IntsAre vs ns) (hj : IntsAre us ms) (hu : A.units < cLine)
    (h : Q (.bool (cmpLt ns ms)) s) : wpAny (model prog w) A (compareOp .Lt (.ref l) (.ref b)) Q E s := by
  show wpAny _ _ (richCompare .Lt (.ref l) (.ref b)) _ _ _
  exact richCompare_meets_room (op := .Lt) ⟨_, hl, rfl⟩ ⟨_, hb, rfl⟩ PySem.F.slot_list_lt PySem.F.entry_list_lt (PySem.F.args_list_lt_2 _ _) (list_lt l b vs us ns ms n n2 hi hj)
    ⟨hl, hb, show Value.bool (cmpLt ns ms) ≠ Value.notImplemented ∧ Q (.bool (cmpLt ns ms)) s from ⟨(fun x => nomatch x), h⟩⟩ hu

theorem gt_loop (l b : Addr) (vs us : List Value) (ns ms : List Int) (n n2 : Nat) (hi : IntsAre vs ns) (hj : IntsAre us ms) (k : Nat) :
    ∀ i : Nat, ns.length - i = k → i ≤ ns.length → i ≤ ms.length → Meets (Builtin.«list.__eq__.loop» ⟨[.ref l, .ref b, rawInt i, rawInt 4], []⟩)
      (fun _ R s => s.heap.get? l = some { cls := .type "list", dict := none, data := .seq vs.toArray n, slots := #[] } ∧ s.heap.get? b = some { cls := .type "list", dict := none, data := .seq us.toArray n2, slots := #[] } ∧
        R (.ok (.ret (.bool (cmpLt (ms.drop i) (ns.drop i))))) s) := by
  have e1 := hi.length
  have e2 := hj.length
  induction k with
  | zero =>
    intro i hk h1 h2 prog w A R s h
    obtain ⟨hp, g, d, tk, os⟩ := s; obtain ⟨hl, hb, h⟩ := h
    wp_walk using wpAny_loadPart' hl, wpAny_loadPart' hb
    have hi1 : vs.toArray[((i : Nat) : Int).toNat]? = none := by simp; omega
    rw [hi1]
    wp_walk using wpAny_loadPart' hl, wpAny_loadPart' hb
    have hd : ns.drop i = [] := by simp; omega
    rw [hd] at h
    have ez : decide (vs.toArray.size > us.toArray.size) = cmpLt (ms.drop i) [] := by
      cases hq : ms.drop i with
      | nil =>
        have := congrArg List.length hq
        simp at this
        simp [cmpLt]; omega
      | cons y ys =>
        have := congrArg List.length hq
        simp at this
        simp [cmpLt]; omega
    rw [← ez] at h
    exact h
  | succ k ih =>
    intro i hk h1 h2 prog w A R s h
    obtain ⟨hp, g, d, tk, os⟩ := s; obtain ⟨hl, hb, h⟩ := h
    wp_walk using wpAny_loadPart' hl, wpAny_loadPart' hb
    have hlt : i < ns.length := by omega
    obtain ⟨tx, hx⟩ := hi.get i ns[i] (by simp [hlt])
    have hi1 : vs.toArray[((i : Nat) : Int).toNat]? = some (.int ns[i] tx) := by simpa using hx
    have d1 : ns.drop i = ns[i] :: ns.drop (i + 1) := List.drop_eq_getElem_cons hlt
    have hc : ((i : Int) + 1) = ((i + 1 : Nat) : Int) := by push_cast; rfl
    by_cases hlt2 : i < ms.length
    · obtain ⟨ty, hy⟩ := hj.get i ms[i] (by simp [hlt2])
      have hi2 : us.toArray[((i : Nat) : Int).toNat]? = some (.int ms[i] ty) := by simpa using hy
      have d2 : ms.drop i = ms[i] :: ms.drop (i + 1) := List.drop_eq_getElem_cons hlt2
      rw [d1, d2] at h
      rw [hi1, hi2]
      refine wpAny_bind (wpAny_eqBool_int ?_)
      by_cases he : ns[i] = ms[i]
      · have hb' : (ns[i] == ms[i]) = true := by simpa using he
        rw [hb']
        wp_walk
        rw [hc]
        exact ⟨plainId_quiet MeetsSeq3.plain_eq_loop _, codeAny_builtin MeetsSeq3.entry_eq_loop (by
          rw [Around.under_plainId MeetsSeq3.plain_eq_loop _]
          exact ih (i + 1) (by omega) (by omega) (by omega) prog w A R _ ⟨hl, hb, by simpa [cmpLt, he] using h⟩)⟩
      · have hb' : (ns[i] == ms[i]) = false := by simpa using he
        rw [hb']
        wp_walk using wpAny_loadPart' hl, wpAny_loadPart' hb
        rw [hi1, hi2]
        refine wpAny_bind ?_
        show wpAny _ _ (compareOp .Gt (.int ns[i] tx) (.int ms[i] ty)) _ _ _
        refine PyProof.Rows.gt_int ?_
        wp_walk
        simpa [cmpLt, he, Ne.symm he] using h
    · have hi2 : us.toArray[((i : Nat) : Int).toNat]? = none := by simp; omega
      rw [hi1, hi2]
      wp_walk using wpAny_loadPart' hl, wpAny_loadPart' hb
      have d2 : ms.drop i = [] := by simp; omega
      rw [d1, d2] at h
      have ez : decide (vs.toArray.size > us.toArray.size) = cmpLt [] (ns[i] :: ns.drop (i + 1)) := by simp [cmpLt]; omega
      rw [← ez] at h
      exact h
theorem list_gt (l b : Addr) (vs us : List Value) (ns ms : List Int) (n n2 : Nat) (hi : IntsAre vs ns) (hj : IntsAre us ms) :
    Meets (Builtin.«list.__gt__» ⟨[.ref l, .ref b], []⟩)
      (fun _ R s => s.heap.get? l = some { cls := .type "list", dict := none, data := .seq vs.toArray n, slots := #[] } ∧ s.heap.get? b = some { cls := .type "list", dict := none, data := .seq us.toArray n2, slots := #[] } ∧
        R (.ok (.ret (.bool (cmpLt ms ns)))) s) := by
  intro prog w A R s h
  obtain ⟨hp, g, d, tk, os⟩ := s; obtain ⟨hl, hb, h⟩ := h
  have f3 := AutoSeq1.sub_list_list
  wp_walk using wpAny_loadPart' hl, wpAny_loadPart' hb
  exact ⟨plainId_quiet MeetsSeq3.plain_eq_loop _, codeAny_builtin MeetsSeq3.entry_eq_loop (by
    rw [Around.under_plainId MeetsSeq3.plain_eq_loop _]
    exact gt_loop l b vs us ns ms n n2 hi hj _ 0 rfl (Nat.zero_le _) (Nat.zero_le _) prog w A R _ ⟨hl, hb, by simpa using h⟩)⟩
theorem gt_ints {prog : Program} {w : World} {A : Around} {E : Value → Shared → Prop} {s : Shared} {l b : Addr} {vs us : List Value} {ns ms : List Int} {n n2 : Nat} {Q : Value → Shared → Prop}
    (hl : s.heap.get? l = some { cls := .type "list", dict := none, data := .seq vs.toArray n, slots := #[] }) (hb : s.heap.get? b = some { cls := .type "list", dict := none, data := .seq us.toArray n2, slots := #[] }) (hi : IntsAre vs ns) (hj : IntsAre us ms) (hu : A.units < cLine)
    (h : Q (.bool (cmpLt ms ns)) s) : wpAny (model prog w) A (compareOp .Gt (.ref l) (.ref b)) Q E s := by
  show wpAny _ _ (richCompare .Gt (.ref l) (.ref b)) _ _ _
  exact richCompare_meets_room (op := .Gt) ⟨_, hl, rfl⟩ ⟨_, hb, rfl⟩ PySem.F.slot_list_gt PySem.F.entry_list_gt (PySem.F.args_list_gt_2 _ _) (list_gt l b vs us ns ms n n2 hi hj)
    ⟨hl, hb, show Value.bool (cmpLt ms ns) ≠ Value.notImplemented ∧ Q (.bool (cmpLt ms ns)) s from ⟨(fun x => nomatch x), h⟩⟩ hu
end PartListLt
section PartThree
open PySem PySem.W PySem.Calls PyProof.Rows PyProof.Rows.LCg
set_option maxRecDepth 100000
set_option maxHeartbeats 4000000
theorem threeI : ∀ (w : World) (p : Program) (loose : List Str) (mean : ExcName → Option Value) (mg mb : Str → Option Value) (A : Around) (news : List (Addr × Obj)) (h₀ : Heap) (s : Shared)
    (a b : Int) (t u : Tok) (Q E : Value → Shared → Prop)
    (_ : (Mine.hd.heap_39 w.params).In h₀) (_ : Top p loose mean mg mb h₀) (_ : A.handled = none) (_ : LedT h₀ s.heap news) (_ : A.depth + 5 < recursionLimit) (_ : A.units + 150 < cLine)
    (_ : ∀ k h' tk', LedT h₀ h' news → Q (.int (b2i (decide (b < a)) - b2i (decide (a < b))) k) { s with heap := h', toks := tk' }),
    wpAny (model PySem.Challenge.rw_oy0064_01.row.prog w) A (call (.ref 28) [.int a t, .int b u]) Q E s := by
  k_fill
  intro w p loose mean mg mb A news h₀ s a b t u Q E X T hAh D hd hu hret
  refine wpAny_call ?_
  k_dflt (refine' enterT D X T ?k6 ?k7 ?k8 ?k9 ?kB ?_ ?c2 ?c3 ?c4 ?c5; (case k6 => k_is); (case k7 => k_is); (case k8 => omega); (case k9 => exact BindsTo.of_eq rfl); (case c5 => decide); (case kB => exact locs rfl); (case c2 => exact rfl); (case c3 => exact rfl); (case c4 => exact rfl); k_whole)
  intro L' h' tk' eL F' N' hlt
  dsimp only
  k_steps
  exact hret _ _ _ (LedT.of F' N')
theorem threeL : ∀ (w : World) (p : Program) (loose : List Str) (mean : ExcName → Option Value) (mg mb : Str → Option Value) (A : Around) (news : List (Addr × Obj)) (h₀ : Heap) (s : Shared)
    (l1 l2 : Addr) (vs1 vs2 : List Value) (ns1 ns2 : List Int) (n1 n2 : Nat) (Q E : Value → Shared → Prop)
    (_ : (Mine.hd.heap_39 w.params).In h₀) (_ : Top p loose mean mg mb h₀) (_ : A.handled = none) (_ : LedT h₀ s.heap news) (_ : A.depth + 5 < recursionLimit) (_ : A.units + 150 < cLine)
    (_ : (l1, W.listOf vs1.toArray n1) ∈ news) (_ : IntsAre vs1 ns1) (_ : (l2, W.listOf vs2.toArray n2) ∈ news) (_ : IntsAre vs2 ns2)
    (_ : ∀ k h' tk', LedT h₀ h' news → Q (.int (b2i (cmpLt ns2 ns1) - b2i (cmpLt ns1 ns2)) k) { s with heap := h', toks := tk' }),
    wpAny (model PySem.Challenge.rw_oy0064_01.row.prog w) A (call (.ref 28) [.ref l1, .ref l2]) Q E s := by
  k_fill
  intro w p loose mean mg mb A news h₀ s l1 l2 vs1 vs2 ns1 ns2 n1 n2 Q E X T hAh D hd hu m1 i1 m2 i2 hret
  refine wpAny_call ?_
  k_dflt (refine' enterT D X T ?k6 ?k7 ?k8 ?k9 ?kB ?_ ?c2 ?c3 ?c4 ?c5; (case k6 => k_is); (case k7 => k_is); (case k8 => omega); (case k9 => exact BindsTo.of_eq rfl); (case c5 => decide); (case kB => exact locs rfl); (case c2 => exact rfl); (case c3 => exact rfl); (case c4 => exact rfl); k_whole)
  intro L' h' tk' eL F' N' hlt
  dsimp only
  repeat ((fail_if_success (with_reducible show wpAny _ _ (compareOp _ _ _) _ _ _)); first | (k_unfold; (try dsimp only)) | walk1)
  refine gt_ints (N' _ m1).1 (N' _ m2).1 i1 i2 (by show A.units + 3 < _; omega) ?_
  repeat ((fail_if_success (with_reducible show wpAny _ _ (compareOp _ _ _) _ _ _)); first | (k_unfold; (try dsimp only)) | walk1)
  refine lt_ints (N' _ m1).1 (N' _ m2).1 i1 i2 (by show A.units + 3 < _; omega) ?_
  k_steps
  exact hret _ _ _ (LedT.of F' N')
end PartThree
section PartLam
open PySem PySem.W PySem.Calls PyProof.Rows PyProof.Rows.LCg
set_option maxRecDepth 100000
set_option maxHeartbeats 4000000
section
variable {prog : Program} {w : World} {A : Around} {s : Shared} {h₀ : Heap} {news : List (Addr × Obj)} {p : Program} {loose : List Str} {mean : ExcName → Option Value} {mg mb : Str → Option Value}
    {R : Result → Shared → Prop} {name qual : Str} {params : Arguments} {body : PySem.Expr} {scope : Scope} {cl : List (Str × Addr)} {pm ctv : Value} {c' f : Addr} {args : Args} {binds : List (Str × Value)}
theorem enterL (D : LedT h₀ s.heap news) (T : Top p loose mean mg mb h₀)
    (ho : (f, kla_obj name qual params body scope cl pm c' ctv) ∈ news) (hcd : s.heap.CodeRec (.ref c') qual) (hroom : A.depth < recursionLimit)
    (hbind : bindArgs (kla_fn name qual params body scope cl pm (.ref c') ctv) args = pure binds) (hloc : ∀ y ∈ binds, scope.names.lookup y.1 = some .local)
    (h : ∀ L' h₁ tk₁, L' = s.heap.objs.size → Fr h₀ L' h₁ (fun y => binds.reverse.lookup y) → News h₀ L' h₁ news → (∀ p ∈ news, p.1 < L') →
      wpAny (model prog w) (A.deeper (envX qual scope L' f (.ref c') cl)) (eval body (envX qual scope L' f (.ref c') cl))
        (fun v s' => R (.ok (.ret v)) s')
        (fun e s' => wpAny (model prog w) (A.deeper (envX qual scope L' f (.ref c') cl)) (leaving (envX qual scope L' f (.ref c') cl) e) (fun _ s'' => R (.error e) s'') (fun e' s'' => R (.error e') s'') s')
        { s with heap := h₁, toks := tk₁ })
    (hco : scope.isCoroutine = false := by rfl) (hgen : scope.isGenerator = false := by rfl) (hk : scope.kind = .function := by rfl)
    (hcell : ∀ x ∈ scope.names, x.2 ≠ .cell := by decide) : codeAny (model prog w) A (.call (.ref f) args) R s := by
  refine kla_callFunE hroom (D.has _ ho).1 rfl hco hgen rfl hcd ?_
  rw [hbind]
  refine wpAny_pure (wpAny_newFunctionEnv hcell hloc (fun h₁ hns hsb => ⟨((T.nolimit).keeps D.keep).fresh _ hsb, ?_⟩) hk)
  show codeAny _ _ (.expr body (envX qual scope s.heap.objs.size f (.ref c') cl)) _ _
  have hk₁ : ∀ b o, s.heap.get? b = some o → h₁.get? b = some o := fun b o e => hsb.extBut b o (Nat.ne_of_lt (Heap.lt_size e)) (Heap.get?_push_of_some _ e)
  exact kla_codeExpr (h s.heap.objs.size h₁ _ rfl ⟨hns, fun b o e => hk₁ b o (D.keep b o e), D.size⟩
    (fun p hp => ⟨hk₁ _ _ (D.has p hp).1, Nat.ne_of_lt (Heap.lt_size (D.has p hp).1), (D.has p hp).2⟩) fun p hp => Heap.lt_size (D.has p hp).1)
end
noncomputable def lamParts : Arguments × PySem.Expr × Scope := match lawS 2 with
  | .Assign _ (.Call _ _ [k] _) _ => match k.value with
    | .Call _ [.Lambda p b sc _] _ _ => (p, b, sc)
    | _ => default
  | _ => default
theorem threeLK {w : World} {p : Program} {loose : List Str} {mean : ExcName → Option Value} {mg mb : Str → Option Value} {A : Around} {news : List (Addr × Obj)} {h₀ : Heap} {s : Shared} {L : Addr} {m : Str → Option Value}
    {l1 l2 : Addr} {vs1 vs2 : List Value} {ns1 ns2 : List Int} {n1 n2 : Nat} {Q E : Value → Shared → Prop}
    (X : (Mine.hd.heap_39 w.params).In h₀) (T : Top p loose mean mg mb h₀) (F : Fr h₀ L s.heap m) (N : News h₀ L s.heap news) (hAh : A.handled = none) (hd : A.depth + 5 < recursionLimit) (hu : A.units + 150 < cLine)
    (m1 : (l1, W.listOf vs1.toArray n1) ∈ news) (i1 : IntsAre vs1 ns1) (m2 : (l2, W.listOf vs2.toArray n2) ∈ news) (i2 : IntsAre vs2 ns2)
    (h : ∀ k h' tk', Fr h₀ L h' m → News h₀ L h' news → Q (.int (b2i (cmpLt ns2 ns1) - b2i (cmpLt ns1 ns2)) k) { s with heap := h', toks := tk' }) :
    wpAny (model PySem.Challenge.rw_oy0064_01.row.prog w) A (call (.ref 28) [.ref l1, .ref l2]) Q E s := by
  obtain ⟨oL, ho, D⟩ := inS F N
  refine threeL w p loose mean mg mb A _ h₀ s l1 l2 vs1 vs2 ns1 ns2 n1 n2 Q E X T hAh D hd hu (.tail _ m1) i1 (.tail _ m2) i2 fun k h' tk' D' => ?_
  obtain ⟨F', N'⟩ := outS (extra := []) F N ho D' (fun _ h => nomatch h)
  exact h k h' tk' F' N'
theorem threeIK {w : World} {p : Program} {loose : List Str} {mean : ExcName → Option Value} {mg mb : Str → Option Value} {A : Around} {news : List (Addr × Obj)} {h₀ : Heap} {s : Shared} {L : Addr} {m : Str → Option Value}
    {a b : Int} {t u : Tok} {Q E : Value → Shared → Prop}
    (X : (Mine.hd.heap_39 w.params).In h₀) (T : Top p loose mean mg mb h₀) (F : Fr h₀ L s.heap m) (N : News h₀ L s.heap news) (hAh : A.handled = none) (hd : A.depth + 5 < recursionLimit) (hu : A.units + 150 < cLine)
    (h : ∀ k h' tk', Fr h₀ L h' m → News h₀ L h' news → Q (.int (b2i (decide (b < a)) - b2i (decide (a < b))) k) { s with heap := h', toks := tk' }) :
    wpAny (model PySem.Challenge.rw_oy0064_01.row.prog w) A (call (.ref 28) [.int a t, .int b u]) Q E s := by
  obtain ⟨oL, ho, D⟩ := inS F N
  refine threeI w p loose mean mg mb A _ h₀ s a b t u Q E X T hAh D hd hu fun k h' tk' D' => ?_
  obtain ⟨F', N'⟩ := outS (extra := []) F N ho D' (fun _ h => nomatch h)
  exact h k h' tk' F' N'
noncomputable def cz (i j : Nat) : Int := b2i (cmpLt (rowZ j) (rowZ i)) - b2i (cmpLt (rowZ i) (rowZ j))
theorem lamCall : ∀ (w : World) (p : Program) (loose : List Str) (mean : ExcName → Option Value) (mg mb : Str → Option Value) (A : Around) (news : List (Addr × Obj)) (h₀ : Heap) (s : Shared)
    (L f c' R : Addr) (qual : Str) (pm ctv : Value) (oc oC : Obj) (vs : Array Value) (t0 : Tok) (refs : List Addr) (i j : Nat) (t u : Tok) (Q E : Value → Shared → Prop)
    (_ : (Mine.hd.heap_39 w.params).In h₀) (_ : Top p loose mean mg mb h₀) (_ : A.handled = none) (_ : LedT h₀ s.heap news) (_ : A.depth + 15 < recursionLimit) (_ : A.units + 200 < cLine)
    (_ : (f, kla_obj (Str.ofString "<lambda>") qual lamParts.1 lamParts.2.1 lamParts.2.2 [(Str.ofString "rows", L + 1)] pm c' ctv) ∈ news) (_ : (c', oc) ∈ news) (_ : oc.data = .fields vs) (_ : vs[1]? = some (.str qual t0))
    (_ : (L + 1, oC) ∈ news) (_ : oC.data = .cell (some (.ref R))) (_ : (R, lst (refs.map Value.ref)) ∈ news) (_ : refs.length = 32) (_ : ∀ j q, refs[j]? = some q → ∃ vs, IntsAre vs (rowZ j) ∧ (q, W.listOf vs.toArray 0) ∈ news) (_ : i < 32) (_ : j < 32)
    (_ : ∀ k h' tk', LedT h₀ h' news → Q (.int (cz i j) k) { s with heap := h', toks := tk' }),
    wpAny (model PySem.Challenge.rw_oy0064_01.row.prog w) A (call (.ref f) [.int (i : Nat) t, .int (j : Nat) u]) Q E s := by
  k_with "eval Name" => (first | (refine nameX_F (N := by assumption) (hc := by rfl) (hm := by assumption) (hd := by assumption) ?_) | (refine nameX_L (F := by assumption) (hv := by rfl) ?_) | (refine nameX_K (F := by assumption) (X := by assumption) (T := topRead_of (by assumption)) (e := by k_is) ?_))
  k_fill
  intro w p loose mean mg mb A news h₀ s L f c' R qual pm ctv oc oC vs t0 refs i j t u Q E X T hAh D hd hu hf hc' dc vc hC dC hR hl32 heach hi hj hret
  have e : lamParts = lamParts := rfl
  conv at e => rhs; whnf
  rw [e] at hf
  clear e
  dsimp only at hf
  refine wpAny_call ?_
  refine enterL (binds := [(Str.ofString "one", .int (i : Nat) t), (Str.ofString "other", .int (j : Nat) u)]) D T hf ⟨c', oc, vs, t0, rfl, (D.has _ hc').1, dc, vc⟩ (by omega) (by kernel_rfl!) (locs rfl) fun L' h' tk' eL F' N' hlt => ?_
  dsimp only
  have hi2 : i < refs.length := by omega
  have hj2 : j < refs.length := by omega
  obtain ⟨vi, hvi, hmi⟩ := heach i refs[i] (by simp [hi2])
  obtain ⟨vj, hvj, hmj⟩ := heach j refs[j] (by simp [hj2])
  iterate 1 (first | (k_unfold; (try dsimp only)) | walk1)
  refine nameX_K F' X (topRead_of T) (by k_is) ?_
  iterate 3 (first | (k_unfold; (try dsimp only)) | walk1)
  refine nameX_F N' rfl hC dC ?_
  refine nameX_L F' rfl ?_
  have hRl : (Shared.mk h' s.gens s.drawn tk' s.os).heap.IsList R (refs.map Value.ref).toArray := ⟨_, (N' _ hR).1, rfl, _, rfl⟩
  refine subscriptTail_builtin hRl.typeIs slot_list_getitem.lookup (wpAny_getItem_list hRl (Int.natCast_nonneg _) (by omega) (x := .ref refs[i]) (by simp [hi2]) ?_) (by with_unfolding_all rfl) (by intro _; with_unfolding_all rfl)
  iterate 2 (first | (k_unfold; (try dsimp only)) | walk1)
  refine nameX_F N' rfl hC dC ?_
  refine nameX_L F' rfl ?_
  refine subscriptTail_builtin hRl.typeIs slot_list_getitem.lookup (wpAny_getItem_list hRl (Int.natCast_nonneg _) (by omega) (x := .ref refs[j]) (by simp [hj2]) ?_) (by with_unfolding_all rfl) (by intro _; with_unfolding_all rfl)
  iterate 2 (first | (k_unfold; (try dsimp only)) | walk1)
  trace_state
  refine threeLK X T F' N' hAh (by show A.depth + 1 + 5 < _; omega) (by show A.units + _ + 150 < _; omega) hmi hvi hmj hvj fun k h2 tk2 F2 N2 => ?_
  exact hret k h2 tk2 (LedT.of F2 N2)
  k_with_none
end PartLam
end Mine
end GroupK
section PartMLem
open PySem PySem.W PySem.Calls PyProof.Rows PySem.W.X
set_option maxRecDepth 100000
set_option maxHeartbeats 20000000
namespace Mine
section
variable {prog : Program} {w : World} {A : Around} {E : Value → Shared → Prop} {s : Shared} {h₀ : Heap} {chg news : List (Addr × Obj)} {α β : Type}
theorem mOld0 {h : Heap} {a : Addr} {o : Obj} (D : Mem h₀ h [] news) (e : h₀.get? a = some o) : h.get? a = some o := D.keep a o e (by rw [show away [] a = true from rfl, Bool.or_true])
theorem mAlloc {o : Obj} {Q : Addr → Shared → Prop} (D : Mem h₀ s.heap chg news) (hf : o.isFreed = false) (h : ∀ a h', Mem h₀ h' chg ((a, o) :: news) → Q a { s with heap := h' }) : wpAny (model prog w) A (alloc o) Q E s := wpAny_alloc (h _ _ (D.alloc hf))
theorem mAllocO {o : Obj} {Q : Addr → Shared → Prop} (o' : Obj) (D : Mem h₀ s.heap chg news) (e : o = o') (hf : o'.isFreed = false) (h : ∀ a h', Mem h₀ h' chg ((a, o') :: news) → Q a { s with heap := h' }) : wpAny (model prog w) A (alloc o) Q E s := by
  subst e; exact wpAny_alloc (h _ _ (D.alloc hf))
theorem bAlloc {o : Obj} {f : Addr → Sem β} {Q : β → Shared → Prop} (D : Mem h₀ s.heap chg news) (hf : o.isFreed = false) (h : ∀ a h', Mem h₀ h' chg ((a, o) :: news) → wpAny (model prog w) A (f a) Q E { s with heap := h' }) : wpAny (model prog w) A (alloc o >>= f) Q E s := wpAny_bind (wpAny_alloc (h _ _ (D.alloc hf)))
theorem bUpd {a : Addr} {q : Option Value} {u : Obj → Obj} {o : Obj} {f : Unit → Sem β} {Q : β → Shared → Prop} (D : Mem h₀ s.heap chg news) (i : Nat) (hi : news[i]? = some (a, o)) (hf : (u o).isFreed = false)
    (h : ∀ h', Mem h₀ h' chg (news.set i (a, u o)) → wpAny (model prog w) A (f ()) Q E { s with heap := h' }) : wpAny (model prog w) A (updatePart a q u >>= f) Q E s := wpAny_bind (wpAny_updatePart (D.at i a o hi) (h _ (D.update hi hf)))
theorem mUpd {a : Addr} {q : Option Value} {u : Obj → Obj} {o : Obj} {Q : Unit → Shared → Prop} (D : Mem h₀ s.heap chg news) (i : Nat) (hi : news[i]? = some (a, o)) (hf : (u o).isFreed = false)
    (h : ∀ h', Mem h₀ h' chg (news.set i (a, u o)) → Q () { s with heap := h' }) : wpAny (model prog w) A (updatePart a q u) Q E s := wpAny_updatePart (D.at i a o hi) (h _ (D.update hi hf))
theorem bLoadPart {a : Addr} {q : Option Value} {o : Obj} {f : Obj → Sem β} {Q : β → Shared → Prop} (D : Mem h₀ s.heap chg news) (i : Nat) (hi : news[i]? = some (a, o)) (h : wpAny (model prog w) A (f o) Q E s) : wpAny (model prog w) A (loadPart a q >>= f) Q E s := wpAny_bind (wpAny_loadPart (D.at i a o hi) h)
theorem bLoad {a : Addr} {o : Obj} {f : Obj → Sem β} {Q : β → Shared → Prop} (D : Mem h₀ s.heap chg news) (i : Nat) (hi : news[i]? = some (a, o)) (h : wpAny (model prog w) A (f o) Q E s) : wpAny (model prog w) A (load a >>= f) Q E s := wpAny_bind (wpAny_load (D.at i a o hi) h)
theorem bEq {m : Sem α} {v : α} {f : α → Sem β} {Q : β → Shared → Prop} (e : m = pure v) (h : wpAny (model prog w) A (f v) Q E s) : wpAny (model prog w) A (m >>= f) Q E s := wpAny_bind (wpAny_of_eq e h)
theorem bPure {v : α} {f : α → Sem β} {Q : β → Shared → Prop} (h : wpAny (model prog w) A (f v) Q E s) : wpAny (model prog w) A (pure v >>= f) Q E s := wpAny_bind (wpAny_pure h)
theorem bRule {t : String} {f : Unit → Sem β} {Q : β → Shared → Prop} (h : wpAny (model prog w) A (f ()) Q E s) : wpAny (model prog w) A (rule t >>= f) Q E s := wpAny_bind (wpAny_rule h)
theorem bAssoc {γ : Type} {m : Sem γ} {g : γ → Sem α} {f : α → Sem β} {Q : β → Shared → Prop} (h : wpAny (model prog w) A (m >>= fun x => g x >>= f) Q E s) : wpAny (model prog w) A ((m >>= g) >>= f) Q E s := by rw [bind_assoc]; exact h
theorem iteF {c : Prop} [Decidable c] {x y : Sem α} {Q : α → Shared → Prop} (hc : ¬ c) (h : wpAny (model prog w) A y Q E s) : wpAny (model prog w) A (if c then x else y) Q E s := by rw [if_neg hc]; exact h
theorem iteFb {b : Bool} {x y : Sem α} {Q : α → Shared → Prop} (hc : b = false) (h : wpAny (model prog w) A y Q E s) : wpAny (model prog w) A (if b = true then x else y) Q E s := by rw [if_neg (by rw [hc]; exact Bool.false_ne_true)]; exact h
theorem iteTb {b : Bool} {x y : Sem α} {Q : α → Shared → Prop} (hc : b = true) (h : wpAny (model prog w) A x Q E s) : wpAny (model prog w) A (if b = true then x else y) Q E s := by rw [if_pos hc]; exact h
theorem iteFd {c : Prop} [Decidable c] {x y : Sem α} {Q : α → Shared → Prop} (hc : decide c = false) (h : wpAny (model prog w) A y Q E s) : wpAny (model prog w) A (if c then x else y) Q E s := by rw [if_neg (of_decide_eq_false hc)]; exact h
theorem iteTd {c : Prop} [Decidable c] {x y : Sem α} {Q : α → Shared → Prop} (hc : decide c = true) (h : wpAny (model prog w) A x Q E s) : wpAny (model prog w) A (if c then x else y) Q E s := by rw [if_pos (of_decide_eq_true hc)]; exact h
theorem iteT {c : Prop} [Decidable c] {x y : Sem α} {Q : α → Shared → Prop} (hc : c) (h : wpAny (model prog w) A x Q E s) : wpAny (model prog w) A (if c then x else y) Q E s := by rw [if_pos hc]; exact h
theorem bNsGet {n : Addr} {name : Str} {o : Obj} {r : Option Value} {f : Option Value → Sem β} {Q : β → Shared → Prop} (D : Mem h₀ s.heap chg news) (i : Nat) (hi : news[i]? = some (n, o)) (e : nsLook name o = pure r) (h : wpAny (model prog w) A (f r) Q E s) : wpAny (model prog w) A (nsGet n name >>= f) Q E s := by
  unfold nsGet
  exact wpAny_bind (wpAny_bind (wpAny_loadPart (D.at i n o hi) (wpAny_of_eq e h)))
theorem bUpdO {a : Addr} {q : Option Value} {u : Obj → Obj} {o : Obj} {f : Unit → Sem β} {Q : β → Shared → Prop} (o' : Obj) (D : Mem h₀ s.heap chg news) (i : Nat) (hi : news[i]? = some (a, o)) (hu : u o = o') (hf : o'.isFreed = false)
    (h : ∀ h', Mem h₀ h' chg (news.set i (a, o')) → wpAny (model prog w) A (f ()) Q E { s with heap := h' }) : wpAny (model prog w) A (updatePart a q u >>= f) Q E s := by
  subst hu; exact bUpd D i hi hf h
theorem mUpdO {a : Addr} {q : Option Value} {u : Obj → Obj} {o : Obj} {Q : Unit → Shared → Prop} (o' : Obj) (D : Mem h₀ s.heap chg news) (i : Nat) (hi : news[i]? = some (a, o)) (hu : u o = o') (hf : o'.isFreed = false)
    (h : ∀ h', Mem h₀ h' chg (news.set i (a, o')) → Q () { s with heap := h' }) : wpAny (model prog w) A (updatePart a q u) Q E s := by
  subst hu; exact mUpd D i hi hf h
theorem mSlot {a : Addr} {k : Nat} {v : Option Value} {o : Obj} {Q : Unit → Shared → Prop} (o' : Obj) (D : Mem h₀ s.heap chg news) (i : Nat) (hi : news[i]? = some (a, o)) (hk : decide (k ≥ sizeLine) = false)
    (hu : ({ o with slots := (o.slots ++ Array.replicate (k + 1 - o.slots.size) none).setIfInBounds k v } : Obj) = o') (hf : o'.isFreed = false)
    (h : ∀ h', Mem h₀ h' chg (news.set i (a, o')) → Q () { s with heap := h' }) : wpAny (model prog w) A (setSlotAt a k v) Q E s := by
  unfold setSlotAt
  refine iteFd hk ?_
  exact mUpdO o' D i hi hu hf h
theorem mDel {n : Addr} {name : Str} {o : Obj} {Q : Bool → Shared → Prop} (o' : Obj) (D : Mem h₀ s.heap chg news) (i : Nat) (hi : news[i]? = some (n, o)) (e : nsHas name o = pure true) (hu : Obj.dropName name o = o') (hf : o'.isFreed = false)
    (h : ∀ h', Mem h₀ h' chg (news.set i (n, o')) → Q true { s with heap := h' }) : wpAny (model prog w) A (nsDel n name) Q E s := by
  unfold nsDel
  refine wpAny_bind (wpAny_loadPart (D.at i n o hi) (wpAny_bind (wpAny_of_eq e ?_)))
  exact iteT rfl (bUpdO o' D i hi hu hf fun h' D' => wpAny_pure (h h' D'))
theorem mCls {a : Addr} {u : ClassData → ClassData} {o : Obj} {c : ClassData} {Q : Unit → Shared → Prop} (o' : Obj) (D : Mem h₀ s.heap chg news) (i : Nat) (hi : news[i]? = some (a, o)) (hd : o.data = .cls c) (hu : Obj.mapCls u o = o') (hf : o'.isFreed = false) (hp : o'.data.pastItsLine = none)
    (h : ∀ h', Mem h₀ h' chg (news.set i (a, o')) → Q () { s with heap := h' }) : wpAny (model prog w) A (updateCls a u) Q E s := by
  unfold updateCls
  refine wpAny_bind (wpAny_load (D.at i a o hi) ?_)
  rw [hd]
  refine bUpdO o' D i hi hu hf fun h' D' => ?_
  have hl : i < news.length := (List.getElem?_eq_some_iff.mp hi).1
  refine wpAny_bind (wpAny_loadPart (D'.at i a o' (by rw [List.getElem?_set_self hl])) ?_)
  rw [hp]
  exact wpAny_pure (h h' D')
theorem mSet {n : Addr} {name : Str} {v : Value} {o : Obj} {es : Array DictEntry} {m : Nat} {Q : Unit → Shared → Prop} (o' : Int → Tok → Obj) (D : Mem h₀ s.heap chg news) (i : Nat) (hi : news[i]? = some (n, o)) (hd : o.data = .dict es m) (hr : aRefKeyMayBeTheName name es = false)
    (hu : ∀ hh t, Obj.putName name hh (.str name t) v o = o' hh t) (hf : ∀ hh t, (o' hh t).isFreed = false)
    (h : ∀ hh tk h' t', Mem h₀ h' chg (news.set i (n, o' hh tk)) → Q () { s with heap := h', toks := t' }) : wpAny (model prog w) A (nsSet n name v) Q E s := by
  unfold nsSet
  unfold strHash
  refine wpAny_bind (wpAny_bind (wpAny_askSetting (wpAny_pure ?_)))
  refine wpAny_bind (wpAny_mkText ?_)
  refine wpAny_bind (wpAny_loadPart (D.at i n o hi) ?_)
  rw [hd]
  refine iteFb hr ?_
  exact mUpdO _ D i hi (hu _ _) (hf _ _) fun h' D' => h _ _ h' _ D'
theorem mCollect {l : Addr} {o : Obj} {vs : List Value} {k : Nat} {Q : List Value → Shared → Prop} (D : Mem h₀ s.heap chg news) (hl : s.heap.get? l = some o) (hc : o.cls = .type "list") (hd : o.data = .seq vs.toArray k) (hz : vs.length ≤ sizeLine)
    (h : ∀ a h', Mem h₀ h' chg ((a, (Obj.mapSeq (· ++ vs.toArray)) (seqObj "list" #[] 0)) :: news) → Q vs { s with heap := h' }) : wpAny (model prog w) A (collect (.ref l)) Q E s :=
  collect_list ⟨o, hl, hc, k, hd⟩ (h _ _ ((D.alloc (o := seqObj "list" #[] 0) rfl).update (i := 0) rfl rfl)) hz
theorem qEq {p p' : α} {Q : α → Shared → Prop} (e : p = p') (h : Q p' s) : Q p s := e ▸ h
end
end Mine
end PartMLem
section PartSupC
open PySem PySem.W PySem.Calls PyProof.Rows PySem.W.X
set_option maxRecDepth 100000
set_option maxHeartbeats 8000000
namespace Mine
local macro_rules | `(tactic| x_close) => `(tactic| (apply_assumption; assumption))
theorem supCall {w : World} {A : Around} {Q E : Value → Shared → Prop} {h : Heap} {g : Array GenState} {d : Drawn} {t : Nat} {os : OsState} {a : Addr} {nm qn : Str} {ns : Addr} {hd : Bool} {sn : List Str} {sl : Array (Option Value)}
   (ha : h.get? a = some { cls := .type "type", data := .cls { name := nm, bases := [.type "object"], mro := [.ref a, .type "object"], ns := ns, qualname := qn, hasDict := hd, slotNames := sn }, slots := sl })
   (hQ : ∀ so h' t', Mem h h' [] [(so, { cls := .type "super", data := .fields #[.ref a, .ref a, .ref a] })] → Q (.ref so) ⟨h', g, d, t', os⟩) :
   wpAny (model PySem.Challenge.rw_oy0064_01.row.prog w) A (call (.type "super") [.ref a, .ref a]) Q E ⟨h, g, d, t, os⟩ := by
  x_run
end Mine
end PartSupC
section PartSupG
open PySem PySem.W PySem.Calls PyProof.Rows PySem.W.X
set_option maxRecDepth 100000
set_option maxHeartbeats 8000000
namespace Mine
structure LM (h₀ h : Heap) (news : List (Addr × Obj)) : Prop where
  keep : ∀ b o, h₀.get? b = some o → h.get? b = some o
  nw : ∀ p ∈ news, h.get? p.1 = some p.2 ∧ h₀.get? p.1 = none
  pw : (news.map (·.1)).Pairwise (· ≠ ·)
theorem LM.of {h₀ h : Heap} {news : List (Addr × Obj)} (D : Mem h₀ h [] news) : LM h₀ h news := ⟨fun _ _ e => mOld0 D e, D.nw, D.ord.imp fun z => Nat.ne_of_gt z⟩
theorem LM.start (h : Heap) : LM h h [] := LM.of (Mem.start h)
theorem LM.trans {h₀ h h' : Heap} {n1 n2 : List (Addr × Obj)} (D : LM h₀ h n1) (D' : LM h h' n2) : LM h₀ h' (n2 ++ n1) := by
  refine ⟨fun b o e => D'.keep b o (D.keep b o e), fun p hp => ?_, ?_⟩
  · rcases List.mem_append.mp hp with hp | hp
    · refine ⟨(D'.nw p hp).1, ?_⟩
      cases q : h₀.get? p.1 with
      | none => rfl
      | some o => have z := (D'.nw p hp).2; rw [D.keep _ _ q] at z; cases z
    · exact ⟨D'.keep _ _ (D.nw p hp).1, (D.nw p hp).2⟩
  · rw [List.map_append]
    refine List.pairwise_append.mpr ⟨D'.pw, D.pw, fun x hx y hy e => ?_⟩
    obtain ⟨p, hp, rfl⟩ := List.mem_map.mp hx
    obtain ⟨q, hq, rfl⟩ := List.mem_map.mp hy
    have z := (D'.nw p hp).2
    rw [e, (D.nw q hq).1] at z
    cases z
theorem LM.at {h₀ h : Heap} {news : List (Addr × Obj)} (D : LM h₀ h news) (i : Nat) {a : Addr} {o : Obj} (hi : news[i]? = some (a, o)) : h.get? a = some o := (D.nw _ (List.mem_of_getElem? hi)).1
local macro_rules | `(tactic| x_close) => `(tactic| (apply_assumption; assumption))
theorem cmGet {w : World} {A : Around} {Q E : Value → Shared → Prop} {h : Heap} {g : Array GenState} {d : Drawn} {t : Nat} {os : OsState} {a : Addr} {nm qn : Str} {ns : Addr} {hd : Bool} {sn : List Str} {sl : Array (Option Value)}
   (ha : h.get? a = some { cls := .type "type", data := .cls { name := nm, bases := [.type "object"], mro := [.ref a, .type "object"], ns := ns, qualname := qn, hasDict := hd, slotNames := sn }, slots := sl })
   (hQ : ∀ mo h' t', Mem h h' [] [(mo, { cls := .type "builtin_function_or_method", data := .fields #[.builtin "object.__init_subclass__", .ref a] })] → Q (.ref mo) ⟨h', g, d, t', os⟩) :
   wpAny (model PySem.Challenge.rw_oy0064_01.row.prog w) A (call (.builtin "classmethod_descriptor.__get__") [.builtin "object.__init_subclass__", .none, .ref a]) Q E ⟨h, g, d, t, os⟩ := by
  x_run
theorem callEq {prog : Program} {w : World} {A : Around} {Q E : Value → Shared → Prop} {s : Shared} {f : Value} {l l' : List Value} (e : l = l') (h : wpAny (model prog w) A (call f l') Q E s) : wpAny (model prog w) A (call f l) Q E s := e ▸ h
theorem supGa {w : World} {A : Around} {Q E : Value → Shared → Prop} {h : Heap} {g : Array GenState} {d : Drawn} {t : Nat} {os : OsState} {a so : Addr} {nm qn : Str} {ns : Addr} {hd : Bool} {sn : List Str} {sl : Array (Option Value)}
   (X : (Mine.hd.heap_39 w.params).In h) (ha : h.get? a = some { cls := .type "type", data := .cls { name := nm, bases := [.type "object"], mro := [.ref a, .type "object"], ns := ns, qualname := qn, hasDict := hd, slotNames := sn }, slots := sl })
   (hso : h.get? so = some { cls := .type "super", data := .fields #[.ref a, .ref a, .ref a] })
   (hQ : ∀ mo h' t', Mem h h' [] [(mo, { cls := .type "builtin_function_or_method", data := .fields #[.builtin "object.__init_subclass__", .ref a] })] → Q (.ref mo) ⟨h', g, d, t', os⟩) :
   wpAny (model PySem.Challenge.rw_oy0064_01.row.prog w) A (getAttr (.ref so) (Str.ofString "__init_subclass__")) Q E ⟨h, g, d, t, os⟩ := by
  have hno : Looks (model PySem.Challenge.rw_oy0064_01.row.prog w) h (opaqueClassAbove (.ref a)) none := looks_opaque X (by kernel_rfl)
  have hlk := F.ks_slot_super_ga.lookup
  have hT : ∀ t', (⟨h, g, d, t', os⟩ : Shared).TypeIs (.ref so) "super" := fun _ => ⟨_, hso, rfl⟩
  have e1 : (List.dropWhile (fun x => x != Value.ref a) [Value.ref a, .type "object"]).drop 1 = [.type "object"] := by simp
  have eA : classOwn (.type "object") (Str.ofString "__init_subclass__") = pure (some (.builtin "object.__init_subclass__")) := by kernel_rfl
  have eB : typeOf (.builtin "object.__init_subclass__") = pure (.type "classmethod_descriptor") := by kernel_rfl
  have eC : typeLookup (.type "classmethod_descriptor") (Str.ofString "__get__") = pure (some (.builtin "classmethod_descriptor.__get__")) := by rw [typeLookup_type, builtinLookup_eq_fast]; kernel_rfl
  unfold getAttr getAttrBy
  iterate 12 (first | (with_reducible refine wpAny_bind (wpAny_typeOf (hT _) ?_)) | (first | (with_reducible refine bEq (by with_reducible assumption) ?_) | (with_reducible refine bLoad (by assumption) 0 rfl ?_) | (with_reducible refine bLoad (by assumption) 1 rfl ?_) | (with_reducible refine bLoad (by assumption) 2 rfl ?_) | (with_reducible refine bLoadPart (by assumption) 0 rfl ?_) | (with_reducible refine bLoadPart (by assumption) 1 rfl ?_) | (with_reducible refine bLoadPart (by assumption) 2 rfl ?_) | (with_reducible refine wpAny_of_eq (by with_reducible assumption) ?_) | (with_reducible refine bNsGet (r := none) (by assumption) 0 rfl (by kernel_rfl!) ?_) | (with_reducible refine bNsGet (r := none) (by assumption) 1 rfl (by kernel_rfl!) ?_) | (with_reducible refine bNsGet (r := none) (by assumption) 2 rfl (by kernel_rfl!) ?_) | (with_reducible refine wpAny_load (mOld0 (by assumption) (by assumption)) ?_) | (with_reducible refine wpAny_loadPart (mOld0 (by assumption) (by assumption)) ?_) | (with_reducible refine wpAny_bind (wpAny_load (mOld0 (by assumption) (by assumption)) ?_)) | (with_reducible refine wpAny_bind (wpAny_loadPart (mOld0 (by assumption) (by assumption)) ?_)) | (with_reducible refine wpAny_load (by assumption) ?_) | (with_reducible refine wpAny_loadPart (by assumption) ?_) | (with_reducible refine wpAny_bind (wpAny_load (by assumption) ?_)) | (with_reducible refine wpAny_bind (wpAny_loadPart (by assumption) ?_)) | (with_reducible refine wpAny_fresh ?_) | (with_reducible refine bPure ?_) | (with_reducible refine bAssoc ?_) | (with_reducible refine bRule ?_) | (with_reducible refine wpAny_pure ?_) | (with_reducible refine wpAny_holding ?_) | (with_reducible refine iteFb (by with_reducible assumption) ?_) | (with_reducible refine iteTb (by with_reducible assumption) ?_) | (with_reducible refine iteTd (by kernel_rfl!) ?_) | (with_reducible refine iteFd (by kernel_rfl!) ?_) | (with_reducible refine wpAny_bind ?_) | ((with_reducible show wpAny _ _ (typeLookup (Value.ref _) _) _ _ _); unfold typeLookup) | ((fail_if_success (with_reducible show wpAny _ _ (setSlotAt _ _ _) _ _ _)); (fail_if_success (with_reducible show wpAny _ _ (nsDel _ _) _ _ _)); (fail_if_success (with_reducible show wpAny _ _ (nsSet _ _ _) _ _ _)); (fail_if_success (with_reducible show wpAny _ _ (updateCls _ _) _ _ _)); (fail_if_success (with_reducible show wpAny _ _ (Sem.tryCatch _ _) _ _ _)); wp_delta)))
  refine wpAny_of_eq (show (if onTheHeap (.type "super") then typeLookup (.type "super") "__getattr__" else pure none) = pure none from rfl) ?_
  refine wpAny_bind (wpAny_attempt (wpAny_holding ?_))
  unfold callGetattribute boundAndCalled
  show wpAny _ _ (bindSpecial (.builtin "super.__getattribute__") (.ref so) >>= _) _ _ _
  refine wpAny_bind (wpAny_of_eq (F.ks_slot_super_ga.bind _) ?_)
  refine wpAny_mono (Q := fun v s' => ∃ mo h' t', Mem h h' [] [(mo, { cls := .type "builtin_function_or_method", data := .fields #[.builtin "object.__init_subclass__", .ref a] })] ∧ v = .ref mo ∧ s' = ⟨h', g, d, t', os⟩) (E := fun _ _ => False)
    (wpAny_call_entry F.ks_slot_super_ga (hT _) F.ks_entry_super_ga ?_ (F.ks_gaArgs_super _ _)) (fun v s' hv => ?_) fun _ _ z => z.elim
  · unfold Builtin.«super.__getattribute__»
    dsimp only
    repeat (first | (with_reducible refine wpAny_bind (ks_wpAny_notOpaque hno ?_)) | (with_reducible refine ks_wpAny_notOpaque hno ?_) | (first | (with_reducible refine bEq (by with_reducible assumption) ?_) | (with_reducible refine bLoad (by assumption) 0 rfl ?_) | (with_reducible refine bLoad (by assumption) 1 rfl ?_) | (with_reducible refine bLoad (by assumption) 2 rfl ?_) | (with_reducible refine bLoadPart (by assumption) 0 rfl ?_) | (with_reducible refine bLoadPart (by assumption) 1 rfl ?_) | (with_reducible refine bLoadPart (by assumption) 2 rfl ?_) | (with_reducible refine wpAny_of_eq (by with_reducible assumption) ?_) | (with_reducible refine bNsGet (r := none) (by assumption) 0 rfl (by kernel_rfl!) ?_) | (with_reducible refine bNsGet (r := none) (by assumption) 1 rfl (by kernel_rfl!) ?_) | (with_reducible refine bNsGet (r := none) (by assumption) 2 rfl (by kernel_rfl!) ?_) | (with_reducible refine wpAny_load (mOld0 (by assumption) (by assumption)) ?_) | (with_reducible refine wpAny_loadPart (mOld0 (by assumption) (by assumption)) ?_) | (with_reducible refine wpAny_bind (wpAny_load (mOld0 (by assumption) (by assumption)) ?_)) | (with_reducible refine wpAny_bind (wpAny_loadPart (mOld0 (by assumption) (by assumption)) ?_)) | (with_reducible refine wpAny_load (by assumption) ?_) | (with_reducible refine wpAny_loadPart (by assumption) ?_) | (with_reducible refine wpAny_bind (wpAny_load (by assumption) ?_)) | (with_reducible refine wpAny_bind (wpAny_loadPart (by assumption) ?_)) | (with_reducible refine wpAny_fresh ?_) | (with_reducible refine bPure ?_) | (with_reducible refine bAssoc ?_) | (with_reducible refine bRule ?_) | (with_reducible refine wpAny_pure ?_) | (with_reducible refine wpAny_holding ?_) | (with_reducible refine iteFb (by with_reducible assumption) ?_) | (with_reducible refine iteTb (by with_reducible assumption) ?_) | (with_reducible refine iteTd (by kernel_rfl!) ?_) | (with_reducible refine iteFd (by kernel_rfl!) ?_) | (with_reducible refine wpAny_bind ?_) | ((with_reducible show wpAny _ _ (typeLookup (Value.ref _) _) _ _ _); unfold typeLookup) | ((fail_if_success (with_reducible show wpAny _ _ (setSlotAt _ _ _) _ _ _)); (fail_if_success (with_reducible show wpAny _ _ (nsDel _ _) _ _ _)); (fail_if_success (with_reducible show wpAny _ _ (nsSet _ _ _) _ _ _)); (fail_if_success (with_reducible show wpAny _ _ (updateCls _ _) _ _ _)); (fail_if_success (with_reducible show wpAny _ _ (Sem.tryCatch _ _) _ _ _)); wp_delta)))
    (generalize hL : List.drop 1 (List.dropWhile _ _) = Lst); obtain rfl : Lst = [.type "object"] := hL.symm.trans (by simp); clear hL
    repeat (first | (with_reducible refine bEq (by with_reducible assumption) ?_) | (with_reducible refine bLoad (by assumption) 0 rfl ?_) | (with_reducible refine bLoad (by assumption) 1 rfl ?_) | (with_reducible refine bLoad (by assumption) 2 rfl ?_) | (with_reducible refine bLoadPart (by assumption) 0 rfl ?_) | (with_reducible refine bLoadPart (by assumption) 1 rfl ?_) | (with_reducible refine bLoadPart (by assumption) 2 rfl ?_) | (with_reducible refine wpAny_of_eq (by with_reducible assumption) ?_) | (with_reducible refine bNsGet (r := none) (by assumption) 0 rfl (by kernel_rfl!) ?_) | (with_reducible refine bNsGet (r := none) (by assumption) 1 rfl (by kernel_rfl!) ?_) | (with_reducible refine bNsGet (r := none) (by assumption) 2 rfl (by kernel_rfl!) ?_) | (with_reducible refine wpAny_load (mOld0 (by assumption) (by assumption)) ?_) | (with_reducible refine wpAny_loadPart (mOld0 (by assumption) (by assumption)) ?_) | (with_reducible refine wpAny_bind (wpAny_load (mOld0 (by assumption) (by assumption)) ?_)) | (with_reducible refine wpAny_bind (wpAny_loadPart (mOld0 (by assumption) (by assumption)) ?_)) | (with_reducible refine wpAny_load (by assumption) ?_) | (with_reducible refine wpAny_loadPart (by assumption) ?_) | (with_reducible refine wpAny_bind (wpAny_load (by assumption) ?_)) | (with_reducible refine wpAny_bind (wpAny_loadPart (by assumption) ?_)) | (with_reducible refine wpAny_fresh ?_) | (with_reducible refine bPure ?_) | (with_reducible refine bAssoc ?_) | (with_reducible refine bRule ?_) | (with_reducible refine wpAny_pure ?_) | (with_reducible refine wpAny_holding ?_) | (with_reducible refine iteFb (by with_reducible assumption) ?_) | (with_reducible refine iteTb (by with_reducible assumption) ?_) | (with_reducible refine iteTd (by kernel_rfl!) ?_) | (with_reducible refine iteFd (by kernel_rfl!) ?_) | (with_reducible refine wpAny_bind ?_) | ((with_reducible show wpAny _ _ (typeLookup (Value.ref _) _) _ _ _); unfold typeLookup) | ((fail_if_success (with_reducible show wpAny _ _ (setSlotAt _ _ _) _ _ _)); (fail_if_success (with_reducible show wpAny _ _ (nsDel _ _) _ _ _)); (fail_if_success (with_reducible show wpAny _ _ (nsSet _ _ _) _ _ _)); (fail_if_success (with_reducible show wpAny _ _ (updateCls _ _) _ _ _)); (fail_if_success (with_reducible show wpAny _ _ (Sem.tryCatch _ _) _ _ _)); wp_delta))
    refine callEq (l' := [.builtin "object.__init_subclass__", .none, .ref a]) (by simp) ?_
    refine cmGet ha fun mo h' t' D' => ?_
    repeat (first | (with_reducible refine bEq (by with_reducible assumption) ?_) | (with_reducible refine bLoad (by assumption) 0 rfl ?_) | (with_reducible refine bLoad (by assumption) 1 rfl ?_) | (with_reducible refine bLoad (by assumption) 2 rfl ?_) | (with_reducible refine bLoadPart (by assumption) 0 rfl ?_) | (with_reducible refine bLoadPart (by assumption) 1 rfl ?_) | (with_reducible refine bLoadPart (by assumption) 2 rfl ?_) | (with_reducible refine wpAny_of_eq (by with_reducible assumption) ?_) | (with_reducible refine bNsGet (r := none) (by assumption) 0 rfl (by kernel_rfl!) ?_) | (with_reducible refine bNsGet (r := none) (by assumption) 1 rfl (by kernel_rfl!) ?_) | (with_reducible refine bNsGet (r := none) (by assumption) 2 rfl (by kernel_rfl!) ?_) | (with_reducible refine wpAny_load (mOld0 (by assumption) (by assumption)) ?_) | (with_reducible refine wpAny_loadPart (mOld0 (by assumption) (by assumption)) ?_) | (with_reducible refine wpAny_bind (wpAny_load (mOld0 (by assumption) (by assumption)) ?_)) | (with_reducible refine wpAny_bind (wpAny_loadPart (mOld0 (by assumption) (by assumption)) ?_)) | (with_reducible refine wpAny_load (by assumption) ?_) | (with_reducible refine wpAny_loadPart (by assumption) ?_) | (with_reducible refine wpAny_bind (wpAny_load (by assumption) ?_)) | (with_reducible refine wpAny_bind (wpAny_loadPart (by assumption) ?_)) | (with_reducible refine wpAny_fresh ?_) | (with_reducible refine bPure ?_) | (with_reducible refine bAssoc ?_) | (with_reducible refine bRule ?_) | (with_reducible refine wpAny_pure ?_) | (with_reducible refine wpAny_holding ?_) | (with_reducible refine iteFb (by with_reducible assumption) ?_) | (with_reducible refine iteTb (by with_reducible assumption) ?_) | (with_reducible refine iteTd (by kernel_rfl!) ?_) | (with_reducible refine iteFd (by kernel_rfl!) ?_) | (with_reducible refine wpAny_bind ?_) | ((with_reducible show wpAny _ _ (typeLookup (Value.ref _) _) _ _ _); unfold typeLookup) | ((fail_if_success (with_reducible show wpAny _ _ (setSlotAt _ _ _) _ _ _)); (fail_if_success (with_reducible show wpAny _ _ (nsDel _ _) _ _ _)); (fail_if_success (with_reducible show wpAny _ _ (nsSet _ _ _) _ _ _)); (fail_if_success (with_reducible show wpAny _ _ (updateCls _ _) _ _ _)); (fail_if_success (with_reducible show wpAny _ _ (Sem.tryCatch _ _) _ _ _)); wp_delta))
    exact ⟨_, rfl, mo, h', t', D', rfl, rfl⟩
  · obtain ⟨mo, h', t', D', rfl, rfl⟩ := hv
    dsimp only
    repeat (first | (with_reducible refine bEq (by with_reducible assumption) ?_) | (with_reducible refine bLoad (by assumption) 0 rfl ?_) | (with_reducible refine bLoad (by assumption) 1 rfl ?_) | (with_reducible refine bLoad (by assumption) 2 rfl ?_) | (with_reducible refine bLoadPart (by assumption) 0 rfl ?_) | (with_reducible refine bLoadPart (by assumption) 1 rfl ?_) | (with_reducible refine bLoadPart (by assumption) 2 rfl ?_) | (with_reducible refine wpAny_of_eq (by with_reducible assumption) ?_) | (with_reducible refine bNsGet (r := none) (by assumption) 0 rfl (by kernel_rfl!) ?_) | (with_reducible refine bNsGet (r := none) (by assumption) 1 rfl (by kernel_rfl!) ?_) | (with_reducible refine bNsGet (r := none) (by assumption) 2 rfl (by kernel_rfl!) ?_) | (with_reducible refine wpAny_load (mOld0 (by assumption) (by assumption)) ?_) | (with_reducible refine wpAny_loadPart (mOld0 (by assumption) (by assumption)) ?_) | (with_reducible refine wpAny_bind (wpAny_load (mOld0 (by assumption) (by assumption)) ?_)) | (with_reducible refine wpAny_bind (wpAny_loadPart (mOld0 (by assumption) (by assumption)) ?_)) | (with_reducible refine wpAny_load (by assumption) ?_) | (with_reducible refine wpAny_loadPart (by assumption) ?_) | (with_reducible refine wpAny_bind (wpAny_load (by assumption) ?_)) | (with_reducible refine wpAny_bind (wpAny_loadPart (by assumption) ?_)) | (with_reducible refine wpAny_fresh ?_) | (with_reducible refine bPure ?_) | (with_reducible refine bAssoc ?_) | (with_reducible refine bRule ?_) | (with_reducible refine wpAny_pure ?_) | (with_reducible refine wpAny_holding ?_) | (with_reducible refine iteFb (by with_reducible assumption) ?_) | (with_reducible refine iteTb (by with_reducible assumption) ?_) | (with_reducible refine iteTd (by kernel_rfl!) ?_) | (with_reducible refine iteFd (by kernel_rfl!) ?_) | (with_reducible refine wpAny_bind ?_) | ((with_reducible show wpAny _ _ (typeLookup (Value.ref _) _) _ _ _); unfold typeLookup) | ((fail_if_success (with_reducible show wpAny _ _ (setSlotAt _ _ _) _ _ _)); (fail_if_success (with_reducible show wpAny _ _ (nsDel _ _) _ _ _)); (fail_if_success (with_reducible show wpAny _ _ (nsSet _ _ _) _ _ _)); (fail_if_success (with_reducible show wpAny _ _ (updateCls _ _) _ _ _)); (fail_if_success (with_reducible show wpAny _ _ (Sem.tryCatch _ _) _ _ _)); wp_delta))
    exact hQ _ _ _ D'
local macro_rules | `(tactic| x_close) => `(tactic| (apply_assumption; first | assumption | exact Mem.start _))
theorem iSub {w : World} {A : Around} {Q E : Value → Shared → Prop} {h : Heap} {g : Array GenState} {d : Drawn} {t : Nat} {os : OsState} {a mo : Addr} {ns : Addr} {hd : Bool} {sn : List Str} {v0 v2 v3 : Value}
   (ha : h.get? a = some { cls := .type "type", data := .cls { name := Str.ofString "K", bases := [.type "object"], mro := [.ref a, .type "object"], ns := ns, qualname := Str.ofString "cmp_to_key.<locals>.K", hasDict := hd, slotNames := sn }, slots := #[some v0, none, some v2, some v3, some (.builtin "object.__new__"), some (.bool false)] })
   (hm : h.get? mo = some { cls := .type "builtin_function_or_method", data := .fields #[.builtin "object.__init_subclass__", .ref a] })
   (hQ : ∀ h' t', Mem h h' [] [] → Q .none ⟨h', g, d, t', os⟩) :
   wpAny (model PySem.Challenge.rw_oy0064_01.row.prog w) A (call (.ref mo) []) Q E ⟨h, g, d, t, os⟩ := by
  x_run
end Mine
end PartSupG
section PartTN
open PySem PySem.W PySem.Calls PyProof.Rows PySem.W.X
set_option maxRecDepth 100000
set_option maxHeartbeats 20000000
namespace Mine
/-- an entry -/
noncomputable abbrev En (hs : Nat → Int) (ks : Nat → Tok) (i : Nat) (n : String) (v : Value) : DictEntry := ⟨hs i, .str (Str.ofString n) (ks i), v⟩
noncomputable abbrev ents (hs : Nat → Int) (ks : Nat → Tok) (v0 v1 v2 : Value) (sl f1 f2 f3 f4 f5 f6 sa : Addr) : Array DictEntry :=
  #[En hs ks 0 "__module__" v0, En hs ks 1 "__qualname__" v1, En hs ks 2 "__firstlineno__" v2, En hs ks 3 "__slots__" (.ref sl), En hs ks 4 "__init__" (.ref f1), En hs ks 5 "__lt__" (.ref f2), En hs ks 6 "__gt__" (.ref f3), En hs ks 7 "__eq__" (.ref f4),
    En hs ks 8 "__le__" (.ref f5), En hs ks 9 "__ge__" (.ref f6), En hs ks 10 "__hash__" .none, En hs ks 11 "__static_attributes__" (.ref sa)]
theorem sRead {w : World} {A : Around} {Q : Builtin.Slots.Plan → Shared → Prop} {E : Value → Shared → Prop} {h₀ h : Heap} {g : Array GenState} {d : Drawn} {t : Nat} {os : OsState} {chg news : List (Addr × Obj)}
   {sl f1 f2 f3 f4 f5 f6 sa : Addr} {hs : Nat → Int} {ks : Nat → Tok} {v0 v2 : Value} {qn : Str} {qt st : Tok} {k : Nat}
   (D : Mem h₀ h chg news) (hsl : h.get? sl = some { cls := .type "list", data := .seq #[.str (Str.ofString "obj") st] k })
   (hQ : ∀ a o h', Mem h₀ h' chg ((a, o) :: news) → Q { names := [Str.ofString "obj"], dict := false, weak := false, inherited := [] } ⟨h', g, d, t, os⟩) :
   wpAny (model PySem.Challenge.rw_oy0064_01.row.prog w) A (Builtin.Slots.read (Str.ofString "K") [.type "object"] (ents hs ks v0 (.str qn qt) v2 sl f1 f2 f3 f4 f5 f6 sa)) Q E ⟨h, g, d, t, os⟩ := by
  have e9 : Builtin.Slots.bestBase [.type "object"] = pure (.type "object") := by kernel_rfl
  have e10 : Builtin.Slots.slotNamesOf (.type "object") = pure [] := by kernel_rfl
  have e11 : Builtin.Slots.givesDict (.type "object") = pure false := by kernel_rfl
  have e12 : Builtin.Slots.givesWeak (.type "object") = pure false := by kernel_rfl
  have e13 : Builtin.Slots.varSize (.type "object") = pure false := by kernel_rfl
  have eI : Builtin.Slots.isIdentifier (Str.ofString "obj") = some true := by kernel_rfl
  unfold Builtin.Slots.read
  repeat ((fail_if_success (with_reducible show wpAny _ _ (collect _) _ _ _)); (fail_if_success (with_reducible show wpAny _ _ (collect _ >>= _) _ _ _)); (first | (with_reducible refine bEq (by with_reducible assumption) ?_) | (with_reducible refine bLoad (by assumption) 0 rfl ?_) | (with_reducible refine bLoad (by assumption) 1 rfl ?_) | (with_reducible refine bLoad (by assumption) 2 rfl ?_) | (with_reducible refine bLoadPart (by assumption) 0 rfl ?_) | (with_reducible refine bLoadPart (by assumption) 1 rfl ?_) | (with_reducible refine bLoadPart (by assumption) 2 rfl ?_) | (with_reducible refine wpAny_of_eq (by with_reducible assumption) ?_) | (with_reducible refine bNsGet (r := none) (by assumption) 0 rfl (by kernel_rfl!) ?_) | (with_reducible refine bNsGet (r := none) (by assumption) 1 rfl (by kernel_rfl!) ?_) | (with_reducible refine bNsGet (r := none) (by assumption) 2 rfl (by kernel_rfl!) ?_) | (with_reducible refine wpAny_load (mOld0 (by assumption) (by assumption)) ?_) | (with_reducible refine wpAny_loadPart (mOld0 (by assumption) (by assumption)) ?_) | (with_reducible refine wpAny_bind (wpAny_load (mOld0 (by assumption) (by assumption)) ?_)) | (with_reducible refine wpAny_bind (wpAny_loadPart (mOld0 (by assumption) (by assumption)) ?_)) | (with_reducible refine wpAny_load (by assumption) ?_) | (with_reducible refine wpAny_loadPart (by assumption) ?_) | (with_reducible refine wpAny_bind (wpAny_load (by assumption) ?_)) | (with_reducible refine wpAny_bind (wpAny_loadPart (by assumption) ?_)) | (with_reducible refine wpAny_fresh ?_) | (with_reducible refine bPure ?_) | (with_reducible refine bAssoc ?_) | (with_reducible refine bRule ?_) | (with_reducible refine wpAny_pure ?_) | (with_reducible refine wpAny_holding ?_) | (with_reducible refine iteFb (by with_reducible assumption) ?_) | (with_reducible refine iteTb (by with_reducible assumption) ?_) | (with_reducible refine iteTd (by kernel_rfl!) ?_) | (with_reducible refine iteFd (by kernel_rfl!) ?_) | (with_reducible refine wpAny_bind ?_) | ((with_reducible show wpAny _ _ (typeLookup (Value.ref _) _) _ _ _); unfold typeLookup) | ((fail_if_success (with_reducible show wpAny _ _ (setSlotAt _ _ _) _ _ _)); (fail_if_success (with_reducible show wpAny _ _ (nsDel _ _) _ _ _)); (fail_if_success (with_reducible show wpAny _ _ (nsSet _ _ _) _ _ _)); (fail_if_success (with_reducible show wpAny _ _ (updateCls _ _) _ _ _)); (fail_if_success (with_reducible show wpAny _ _ (Sem.tryCatch _ _) _ _ _)); wp_delta)))
  try with_reducible refine wpAny_bind ?_
  refine mCollect (s := ⟨h, g, d, t, os⟩) D hsl rfl (vs := [.str (Str.ofString "obj") st]) rfl (Nat.le_of_ble_eq_true rfl) ?_
  intro gl h' D'
  repeat (first | (with_reducible refine bEq (by with_reducible assumption) ?_) | (with_reducible refine bLoad (by assumption) 0 rfl ?_) | (with_reducible refine bLoad (by assumption) 1 rfl ?_) | (with_reducible refine bLoad (by assumption) 2 rfl ?_) | (with_reducible refine bLoadPart (by assumption) 0 rfl ?_) | (with_reducible refine bLoadPart (by assumption) 1 rfl ?_) | (with_reducible refine bLoadPart (by assumption) 2 rfl ?_) | (with_reducible refine wpAny_of_eq (by with_reducible assumption) ?_) | (with_reducible refine bNsGet (r := none) (by assumption) 0 rfl (by kernel_rfl!) ?_) | (with_reducible refine bNsGet (r := none) (by assumption) 1 rfl (by kernel_rfl!) ?_) | (with_reducible refine bNsGet (r := none) (by assumption) 2 rfl (by kernel_rfl!) ?_) | (with_reducible refine wpAny_load (mOld0 (by assumption) (by assumption)) ?_) | (with_reducible refine wpAny_loadPart (mOld0 (by assumption) (by assumption)) ?_) | (with_reducible refine wpAny_bind (wpAny_load (mOld0 (by assumption) (by assumption)) ?_)) | (with_reducible refine wpAny_bind (wpAny_loadPart (mOld0 (by assumption) (by assumption)) ?_)) | (with_reducible refine wpAny_load (by assumption) ?_) | (with_reducible refine wpAny_loadPart (by assumption) ?_) | (with_reducible refine wpAny_bind (wpAny_load (by assumption) ?_)) | (with_reducible refine wpAny_bind (wpAny_loadPart (by assumption) ?_)) | (with_reducible refine wpAny_fresh ?_) | (with_reducible refine bPure ?_) | (with_reducible refine bAssoc ?_) | (with_reducible refine bRule ?_) | (with_reducible refine wpAny_pure ?_) | (with_reducible refine wpAny_holding ?_) | (with_reducible refine iteFb (by with_reducible assumption) ?_) | (with_reducible refine iteTb (by with_reducible assumption) ?_) | (with_reducible refine iteTd (by kernel_rfl!) ?_) | (with_reducible refine iteFd (by kernel_rfl!) ?_) | (with_reducible refine wpAny_bind ?_) | ((with_reducible show wpAny _ _ (typeLookup (Value.ref _) _) _ _ _); unfold typeLookup) | ((fail_if_success (with_reducible show wpAny _ _ (setSlotAt _ _ _) _ _ _)); (fail_if_success (with_reducible show wpAny _ _ (nsDel _ _) _ _ _)); (fail_if_success (with_reducible show wpAny _ _ (nsSet _ _ _) _ _ _)); (fail_if_success (with_reducible show wpAny _ _ (updateCls _ _) _ _ _)); (fail_if_success (with_reducible show wpAny _ _ (Sem.tryCatch _ _) _ _ _)); wp_delta))
  rw [eI]
  repeat (first | (with_reducible refine bEq (by with_reducible assumption) ?_) | (with_reducible refine bLoad (by assumption) 0 rfl ?_) | (with_reducible refine bLoad (by assumption) 1 rfl ?_) | (with_reducible refine bLoad (by assumption) 2 rfl ?_) | (with_reducible refine bLoadPart (by assumption) 0 rfl ?_) | (with_reducible refine bLoadPart (by assumption) 1 rfl ?_) | (with_reducible refine bLoadPart (by assumption) 2 rfl ?_) | (with_reducible refine wpAny_of_eq (by with_reducible assumption) ?_) | (with_reducible refine bNsGet (r := none) (by assumption) 0 rfl (by kernel_rfl!) ?_) | (with_reducible refine bNsGet (r := none) (by assumption) 1 rfl (by kernel_rfl!) ?_) | (with_reducible refine bNsGet (r := none) (by assumption) 2 rfl (by kernel_rfl!) ?_) | (with_reducible refine wpAny_load (mOld0 (by assumption) (by assumption)) ?_) | (with_reducible refine wpAny_loadPart (mOld0 (by assumption) (by assumption)) ?_) | (with_reducible refine wpAny_bind (wpAny_load (mOld0 (by assumption) (by assumption)) ?_)) | (with_reducible refine wpAny_bind (wpAny_loadPart (mOld0 (by assumption) (by assumption)) ?_)) | (with_reducible refine wpAny_load (by assumption) ?_) | (with_reducible refine wpAny_loadPart (by assumption) ?_) | (with_reducible refine wpAny_bind (wpAny_load (by assumption) ?_)) | (with_reducible refine wpAny_bind (wpAny_loadPart (by assumption) ?_)) | (with_reducible refine wpAny_fresh ?_) | (with_reducible refine bPure ?_) | (with_reducible refine bAssoc ?_) | (with_reducible refine bRule ?_) | (with_reducible refine wpAny_pure ?_) | (with_reducible refine wpAny_holding ?_) | (with_reducible refine iteFb (by with_reducible assumption) ?_) | (with_reducible refine iteTb (by with_reducible assumption) ?_) | (with_reducible refine iteTd (by kernel_rfl!) ?_) | (with_reducible refine iteFd (by kernel_rfl!) ?_) | (with_reducible refine wpAny_bind ?_) | ((with_reducible show wpAny _ _ (typeLookup (Value.ref _) _) _ _ _); unfold typeLookup) | ((fail_if_success (with_reducible show wpAny _ _ (setSlotAt _ _ _) _ _ _)); (fail_if_success (with_reducible show wpAny _ _ (nsDel _ _) _ _ _)); (fail_if_success (with_reducible show wpAny _ _ (nsSet _ _ _) _ _ _)); (fail_if_success (with_reducible show wpAny _ _ (updateCls _ _) _ _ _)); (fail_if_success (with_reducible show wpAny _ _ (Sem.tryCatch _ _) _ _ _)); wp_delta))
  refine qEq (p' := { names := [Str.ofString "obj"], dict := false, weak := false, inherited := [] }) (by kernel_rfl!) ?_
  exact hQ _ _ _ D'
/-- the class -/
noncomputable abbrev cO (mro : List Value) (ns : Addr) (qn : Str) (hd : Bool) (sn : List Str) (sl : Array (Option Value)) : Obj := { cls := .type "type", data := .cls { name := Str.ofString "K", bases := [.type "object"], mro := mro, ns := ns, qualname := qn, hasDict := hd, slotNames := sn }, slots := sl }
/-- its names, when the qualified name is out -/
noncomputable abbrev ents1 (hs : Nat → Int) (ks : Nat → Tok) (v0 v2 : Value) (sl f1 f2 f3 f4 f5 f6 sa : Addr) : List DictEntry :=
  [En hs ks 0 "__module__" v0, En hs ks 2 "__firstlineno__" v2, En hs ks 3 "__slots__" (.ref sl), En hs ks 4 "__init__" (.ref f1), En hs ks 5 "__lt__" (.ref f2), En hs ks 6 "__gt__" (.ref f3), En hs ks 7 "__eq__" (.ref f4),
    En hs ks 8 "__le__" (.ref f5), En hs ks 9 "__ge__" (.ref f6), En hs ks 10 "__hash__" .none, En hs ks 11 "__static_attributes__" (.ref sa)]
/-- its names at the end -/
noncomputable abbrev entsF (hs : Nat → Int) (ks : Nat → Tok) (v0 v2 : Value) (sl f1 f2 f3 f4 f5 f6 sa md : Addr) (hh1 hh2 : Int) (tk1 tk2 : Tok) : List DictEntry :=
  ents1 hs ks v0 v2 sl f1 f2 f3 f4 f5 f6 sa ++ [(⟨hh1, .str (Str.ofString "obj") tk1, .ref md⟩ : DictEntry), (⟨hh2, .str (Str.ofString "__doc__") tk2, .none⟩ : DictEntry)]
noncomputable abbrev mdO (a : Addr) (t : Tok) : Obj := { cls := .type "member_descriptor", data := .fields #[.str (Str.ofString "obj") t, .ref a, .builtin "proto.slot", .builtin "proto.slot#set", rawInt 0] }
noncomputable abbrev cF (a ns bt : Addr) (nt qt : Tok) (qn : Str) : Obj := cO [.ref a, .type "object"] ns qn false [Str.ofString "obj"] #[some (.ref bt), none, some (.str (Str.ofString "K") nt), some (.str qn qt), some (.builtin "object.__new__"), some (.bool false)]
noncomputable abbrev nsF (hs : Nat → Int) (ks : Nat → Tok) (v0 v2 : Value) (sl f1 f2 f3 f4 f5 f6 sa md : Addr) (hh1 hh2 : Int) (tk1 tk2 : Tok) : Obj := { cls := .type "dict", data := .dict (entsF hs ks v0 v2 sl f1 f2 f3 f4 f5 f6 sa md hh1 hh2 tk1 tk2).toArray 3 }
theorem tnew {w : World} {A : Around} {Q : Fin → Shared → Prop} {E : Value → Shared → Prop} {h : Heap} {g : Array GenState} {d : Drawn} {t : Nat} {os : OsState}
   {n bt sl f1 f2 f3 f4 f5 f6 sa : Addr} {d1 d2 d3 d4 d5 d6 dsa : Option Addr} {x1 x2 x3 x4 x5 x6 xsa : Data} {s1 s2 s3 s4 s5 s6 ssa : Array (Option Value)} {hs : Nat → Int} {ks : Nat → Tok} {mn qn : Str} {mt qt nt st ft : Tok} {fl : Int} {cnt : Nat}
   (hn : h.get? n = some { cls := .type "dict", data := .dict (ents hs ks (.str mn mt) (.str qn qt) (.int fl ft) sl f1 f2 f3 f4 f5 f6 sa) cnt }) (hbt : h.get? bt = some { cls := .type "tuple", data := .seq #[.type "object"] })
   (hsl : h.get? sl = some { cls := .type "list", data := .seq #[.str (Str.ofString "obj") st] })
   (hf1 : h.get? f1 = some ⟨.type "function", d1, x1, s1⟩) (hf2 : h.get? f2 = some ⟨.type "function", d2, x2, s2⟩) (hf3 : h.get? f3 = some ⟨.type "function", d3, x3, s3⟩) (hf4 : h.get? f4 = some ⟨.type "function", d4, x4, s4⟩) (hf5 : h.get? f5 = some ⟨.type "function", d5, x5, s5⟩) (hf6 : h.get? f6 = some ⟨.type "function", d6, x6, s6⟩) (hsa : h.get? sa = some ⟨.type "tuple", dsa, xsa, ssa⟩)
   (hb : n ≠ sysModules) (X : (Mine.hd.heap_39 w.params).In h) (hqn : qn = Str.ofString "cmp_to_key.<locals>.K")
   (hQ : ∀ gl ogl ns md a so sob mo mob hh1 hh2 tk1 tk2 tk h' t', LM h h' [(mo, mob), (so, sob), (md, mdO a tk), (a, cF a ns bt nt qt qn), (ns, nsF hs ks (.str mn mt) (.int fl ft) sl f1 f2 f3 f4 f5 f6 sa md hh1 hh2 tk1 tk2), (gl, ogl)] → Q (.done (.ret (.ref a))) ⟨h', g, d, t', os⟩) :
   wpAny (model PySem.Challenge.rw_oy0064_01.row.prog w) A (Builtin.«type.__new__» ⟨[.type "type", .str (Str.ofString "K") nt, .ref bt, .ref n], []⟩) Q E ⟨h, g, d, t, os⟩ := by
  have D := Mem.start h
  have n1 : typeLookup (.type "str") (Str.ofString "__set_name__") = pure none := by rw [typeLookup_type, builtinLookup_eq_fast]; kernel_rfl
  have n2 : typeLookup (.type "int") (Str.ofString "__set_name__") = pure none := by rw [typeLookup_type, builtinLookup_eq_fast]; kernel_rfl
  have n3 : typeLookup (.type "list") (Str.ofString "__set_name__") = pure none := by rw [typeLookup_type, builtinLookup_eq_fast]; kernel_rfl
  have n4 : typeLookup (.type "function") (Str.ofString "__set_name__") = pure none := by rw [typeLookup_type, builtinLookup_eq_fast]; kernel_rfl
  have n5 : typeLookup (.type "NoneType") (Str.ofString "__set_name__") = pure none := by rw [typeLookup_type, builtinLookup_eq_fast]; kernel_rfl
  have n6 : typeLookup (.type "tuple") (Str.ofString "__set_name__") = pure none := by rw [typeLookup_type, builtinLookup_eq_fast]; kernel_rfl
  have n7 : typeLookup (.type "member_descriptor") (Str.ofString "__set_name__") = pure none := by rw [typeLookup_type, builtinLookup_eq_fast]; kernel_rfl
  have e1 : isSubtype (.type "tuple") (.type "tuple") = pure true := by kernel_rfl
  have e2 : isSubtype (.type "dict") (.type "dict") = pure true := by kernel_rfl
  have e3 : isSubtype (.type "type") (.type "type") = pure true := by kernel_rfl
  have e4 : Builtin.notOverATurnedClass [.type "object"] = pure () := by kernel_rfl
  have e5 : Builtin.extendedBase [.type "object"] = pure (.type "object") := by kernel_rfl
  have e6 : typeOf (.type "object") = pure (.type "type") := by kernel_rfl
  have e8 : typeLookup (.type "dict") (Str.ofString "__iter__") = pure (some (.builtin "dict.__iter__")) := by kernel_rfl
  have e14 : isType (.type "object") = pure true := by kernel_rfl
  have eN : (n == sysModules) = false := by simpa using hb
  have eM : typeLookup (.type "type") (Str.ofString "mro") = pure (some (.builtin "type.mro")) := by rw [typeLookup_type, builtinLookup_eq_fast]; kernel_rfl
  have eL : Builtin.linearize [.type "object"] mroOf = pure [.type "object"] := by kernel_rfl
  have eMb : Bind.madeBy (.type "object") = pure (some "object.__new__") := by kernel_rfl
  have e12 : Builtin.Slots.givesWeak (.type "object") = pure false := by kernel_rfl
  have e11 : Builtin.Slots.givesDict (.type "object") = pure false := by kernel_rfl
  have eCN : classOwn (.type "object") (Str.ofString "__new__") = pure (some (.builtin "object.__new__")) := by kernel_rfl
  unfold Builtin.«type.__new__»
  repeat ((fail_if_success (with_reducible show wpAny _ _ (Builtin.notOverATurnedClass _) _ _ _)); (first | (with_reducible refine bEq (by with_reducible assumption) ?_) | (with_reducible refine bLoad (by assumption) 0 rfl ?_) | (with_reducible refine bLoad (by assumption) 1 rfl ?_) | (with_reducible refine bLoad (by assumption) 2 rfl ?_) | (with_reducible refine bLoadPart (by assumption) 0 rfl ?_) | (with_reducible refine bLoadPart (by assumption) 1 rfl ?_) | (with_reducible refine bLoadPart (by assumption) 2 rfl ?_) | (with_reducible refine wpAny_of_eq (by with_reducible assumption) ?_) | (with_reducible refine bNsGet (r := none) (by assumption) 0 rfl (by kernel_rfl!) ?_) | (with_reducible refine bNsGet (r := none) (by assumption) 1 rfl (by kernel_rfl!) ?_) | (with_reducible refine bNsGet (r := none) (by assumption) 2 rfl (by kernel_rfl!) ?_) | (with_reducible refine wpAny_load (mOld0 (by assumption) (by assumption)) ?_) | (with_reducible refine wpAny_loadPart (mOld0 (by assumption) (by assumption)) ?_) | (with_reducible refine wpAny_bind (wpAny_load (mOld0 (by assumption) (by assumption)) ?_)) | (with_reducible refine wpAny_bind (wpAny_loadPart (mOld0 (by assumption) (by assumption)) ?_)) | (with_reducible refine wpAny_load (by assumption) ?_) | (with_reducible refine wpAny_loadPart (by assumption) ?_) | (with_reducible refine wpAny_bind (wpAny_load (by assumption) ?_)) | (with_reducible refine wpAny_bind (wpAny_loadPart (by assumption) ?_)) | (with_reducible refine wpAny_fresh ?_) | (with_reducible refine bPure ?_) | (with_reducible refine bAssoc ?_) | (with_reducible refine bRule ?_) | (with_reducible refine wpAny_pure ?_) | (with_reducible refine wpAny_holding ?_) | (with_reducible refine iteFb (by with_reducible assumption) ?_) | (with_reducible refine iteTb (by with_reducible assumption) ?_) | (with_reducible refine iteTd (by kernel_rfl!) ?_) | (with_reducible refine iteFd (by kernel_rfl!) ?_) | (with_reducible refine wpAny_bind ?_) | ((with_reducible show wpAny _ _ (typeLookup (Value.ref _) _) _ _ _); unfold typeLookup) | ((fail_if_success (with_reducible show wpAny _ _ (setSlotAt _ _ _) _ _ _)); (fail_if_success (with_reducible show wpAny _ _ (nsDel _ _) _ _ _)); (fail_if_success (with_reducible show wpAny _ _ (nsSet _ _ _) _ _ _)); (fail_if_success (with_reducible show wpAny _ _ (updateCls _ _) _ _ _)); (fail_if_success (with_reducible show wpAny _ _ (Sem.tryCatch _ _) _ _ _)); wp_delta)))
  (generalize hB : (if List.isEmpty (_ : List Value) = true then (_ : List Value) else _) = B); obtain rfl : B = [.type "object"] := hB.symm.trans rfl; clear hB
  repeat ((fail_if_success (with_reducible show wpAny _ _ (Builtin.Slots.read _ _ _) _ _ _)); (fail_if_success (with_reducible show wpAny _ _ (Builtin.Slots.read _ _ _ >>= _) _ _ _)); (first | (with_reducible refine bEq (by with_reducible assumption) ?_) | (with_reducible refine bLoad (by assumption) 0 rfl ?_) | (with_reducible refine bLoad (by assumption) 1 rfl ?_) | (with_reducible refine bLoad (by assumption) 2 rfl ?_) | (with_reducible refine bLoadPart (by assumption) 0 rfl ?_) | (with_reducible refine bLoadPart (by assumption) 1 rfl ?_) | (with_reducible refine bLoadPart (by assumption) 2 rfl ?_) | (with_reducible refine wpAny_of_eq (by with_reducible assumption) ?_) | (with_reducible refine bNsGet (r := none) (by assumption) 0 rfl (by kernel_rfl!) ?_) | (with_reducible refine bNsGet (r := none) (by assumption) 1 rfl (by kernel_rfl!) ?_) | (with_reducible refine bNsGet (r := none) (by assumption) 2 rfl (by kernel_rfl!) ?_) | (with_reducible refine wpAny_load (mOld0 (by assumption) (by assumption)) ?_) | (with_reducible refine wpAny_loadPart (mOld0 (by assumption) (by assumption)) ?_) | (with_reducible refine wpAny_bind (wpAny_load (mOld0 (by assumption) (by assumption)) ?_)) | (with_reducible refine wpAny_bind (wpAny_loadPart (mOld0 (by assumption) (by assumption)) ?_)) | (with_reducible refine wpAny_load (by assumption) ?_) | (with_reducible refine wpAny_loadPart (by assumption) ?_) | (with_reducible refine wpAny_bind (wpAny_load (by assumption) ?_)) | (with_reducible refine wpAny_bind (wpAny_loadPart (by assumption) ?_)) | (with_reducible refine wpAny_fresh ?_) | (with_reducible refine bPure ?_) | (with_reducible refine bAssoc ?_) | (with_reducible refine bRule ?_) | (with_reducible refine wpAny_pure ?_) | (with_reducible refine wpAny_holding ?_) | (with_reducible refine iteFb (by with_reducible assumption) ?_) | (with_reducible refine iteTb (by with_reducible assumption) ?_) | (with_reducible refine iteTd (by kernel_rfl!) ?_) | (with_reducible refine iteFd (by kernel_rfl!) ?_) | (with_reducible refine wpAny_bind ?_) | ((with_reducible show wpAny _ _ (typeLookup (Value.ref _) _) _ _ _); unfold typeLookup) | ((fail_if_success (with_reducible show wpAny _ _ (setSlotAt _ _ _) _ _ _)); (fail_if_success (with_reducible show wpAny _ _ (nsDel _ _) _ _ _)); (fail_if_success (with_reducible show wpAny _ _ (nsSet _ _ _) _ _ _)); (fail_if_success (with_reducible show wpAny _ _ (updateCls _ _) _ _ _)); (fail_if_success (with_reducible show wpAny _ _ (Sem.tryCatch _ _) _ _ _)); wp_delta)))
  try with_reducible refine wpAny_bind ?_
  refine sRead (by assumption) (Mem.old (by assumption) _ _ hsl rfl) fun gl ogl h' D' => ?_
  repeat (first | (with_reducible refine bEq (by with_reducible assumption) ?_) | (with_reducible refine bLoad (by assumption) 0 rfl ?_) | (with_reducible refine bLoad (by assumption) 1 rfl ?_) | (with_reducible refine bLoad (by assumption) 2 rfl ?_) | (with_reducible refine bLoadPart (by assumption) 0 rfl ?_) | (with_reducible refine bLoadPart (by assumption) 1 rfl ?_) | (with_reducible refine bLoadPart (by assumption) 2 rfl ?_) | (with_reducible refine wpAny_of_eq (by with_reducible assumption) ?_) | (with_reducible refine bNsGet (r := none) (by assumption) 0 rfl (by kernel_rfl!) ?_) | (with_reducible refine bNsGet (r := none) (by assumption) 1 rfl (by kernel_rfl!) ?_) | (with_reducible refine bNsGet (r := none) (by assumption) 2 rfl (by kernel_rfl!) ?_) | (with_reducible refine wpAny_load (mOld0 (by assumption) (by assumption)) ?_) | (with_reducible refine wpAny_loadPart (mOld0 (by assumption) (by assumption)) ?_) | (with_reducible refine wpAny_bind (wpAny_load (mOld0 (by assumption) (by assumption)) ?_)) | (with_reducible refine wpAny_bind (wpAny_loadPart (mOld0 (by assumption) (by assumption)) ?_)) | (with_reducible refine wpAny_load (by assumption) ?_) | (with_reducible refine wpAny_loadPart (by assumption) ?_) | (with_reducible refine wpAny_bind (wpAny_load (by assumption) ?_)) | (with_reducible refine wpAny_bind (wpAny_loadPart (by assumption) ?_)) | (with_reducible refine wpAny_fresh ?_) | (with_reducible refine bPure ?_) | (with_reducible refine bAssoc ?_) | (with_reducible refine bRule ?_) | (with_reducible refine wpAny_pure ?_) | (with_reducible refine wpAny_holding ?_) | (with_reducible refine iteFb (by with_reducible assumption) ?_) | (with_reducible refine iteTb (by with_reducible assumption) ?_) | (with_reducible refine iteTd (by kernel_rfl!) ?_) | (with_reducible refine iteFd (by kernel_rfl!) ?_) | (with_reducible refine wpAny_bind ?_) | ((with_reducible show wpAny _ _ (typeLookup (Value.ref _) _) _ _ _); unfold typeLookup) | ((fail_if_success (with_reducible show wpAny _ _ (setSlotAt _ _ _) _ _ _)); (fail_if_success (with_reducible show wpAny _ _ (nsDel _ _) _ _ _)); (fail_if_success (with_reducible show wpAny _ _ (nsSet _ _ _) _ _ _)); (fail_if_success (with_reducible show wpAny _ _ (updateCls _ _) _ _ _)); (fail_if_success (with_reducible show wpAny _ _ (Sem.tryCatch _ _) _ _ _)); wp_delta))
  refine mAlloc (by assumption) rfl fun ns h2 D2 => ?_
  repeat (first | (with_reducible refine bEq (by with_reducible assumption) ?_) | (with_reducible refine bLoad (by assumption) 0 rfl ?_) | (with_reducible refine bLoad (by assumption) 1 rfl ?_) | (with_reducible refine bLoad (by assumption) 2 rfl ?_) | (with_reducible refine bLoadPart (by assumption) 0 rfl ?_) | (with_reducible refine bLoadPart (by assumption) 1 rfl ?_) | (with_reducible refine bLoadPart (by assumption) 2 rfl ?_) | (with_reducible refine wpAny_of_eq (by with_reducible assumption) ?_) | (with_reducible refine bNsGet (r := none) (by assumption) 0 rfl (by kernel_rfl!) ?_) | (with_reducible refine bNsGet (r := none) (by assumption) 1 rfl (by kernel_rfl!) ?_) | (with_reducible refine bNsGet (r := none) (by assumption) 2 rfl (by kernel_rfl!) ?_) | (with_reducible refine wpAny_load (mOld0 (by assumption) (by assumption)) ?_) | (with_reducible refine wpAny_loadPart (mOld0 (by assumption) (by assumption)) ?_) | (with_reducible refine wpAny_bind (wpAny_load (mOld0 (by assumption) (by assumption)) ?_)) | (with_reducible refine wpAny_bind (wpAny_loadPart (mOld0 (by assumption) (by assumption)) ?_)) | (with_reducible refine wpAny_load (by assumption) ?_) | (with_reducible refine wpAny_loadPart (by assumption) ?_) | (with_reducible refine wpAny_bind (wpAny_load (by assumption) ?_)) | (with_reducible refine wpAny_bind (wpAny_loadPart (by assumption) ?_)) | (with_reducible refine wpAny_fresh ?_) | (with_reducible refine bPure ?_) | (with_reducible refine bAssoc ?_) | (with_reducible refine bRule ?_) | (with_reducible refine wpAny_pure ?_) | (with_reducible refine wpAny_holding ?_) | (with_reducible refine iteFb (by with_reducible assumption) ?_) | (with_reducible refine iteTb (by with_reducible assumption) ?_) | (with_reducible refine iteTd (by kernel_rfl!) ?_) | (with_reducible refine iteFd (by kernel_rfl!) ?_) | (with_reducible refine wpAny_bind ?_) | ((with_reducible show wpAny _ _ (typeLookup (Value.ref _) _) _ _ _); unfold typeLookup) | ((fail_if_success (with_reducible show wpAny _ _ (setSlotAt _ _ _) _ _ _)); (fail_if_success (with_reducible show wpAny _ _ (nsDel _ _) _ _ _)); (fail_if_success (with_reducible show wpAny _ _ (nsSet _ _ _) _ _ _)); (fail_if_success (with_reducible show wpAny _ _ (updateCls _ _) _ _ _)); (fail_if_success (with_reducible show wpAny _ _ (Sem.tryCatch _ _) _ _ _)); wp_delta))
  refine mAlloc (by assumption) rfl fun a h3 D3 => ?_
  repeat (first | (with_reducible refine bEq (by with_reducible assumption) ?_) | (with_reducible refine bLoad (by assumption) 0 rfl ?_) | (with_reducible refine bLoad (by assumption) 1 rfl ?_) | (with_reducible refine bLoad (by assumption) 2 rfl ?_) | (with_reducible refine bLoadPart (by assumption) 0 rfl ?_) | (with_reducible refine bLoadPart (by assumption) 1 rfl ?_) | (with_reducible refine bLoadPart (by assumption) 2 rfl ?_) | (with_reducible refine wpAny_of_eq (by with_reducible assumption) ?_) | (with_reducible refine bNsGet (r := none) (by assumption) 0 rfl (by kernel_rfl!) ?_) | (with_reducible refine bNsGet (r := none) (by assumption) 1 rfl (by kernel_rfl!) ?_) | (with_reducible refine bNsGet (r := none) (by assumption) 2 rfl (by kernel_rfl!) ?_) | (with_reducible refine wpAny_load (mOld0 (by assumption) (by assumption)) ?_) | (with_reducible refine wpAny_loadPart (mOld0 (by assumption) (by assumption)) ?_) | (with_reducible refine wpAny_bind (wpAny_load (mOld0 (by assumption) (by assumption)) ?_)) | (with_reducible refine wpAny_bind (wpAny_loadPart (mOld0 (by assumption) (by assumption)) ?_)) | (with_reducible refine wpAny_load (by assumption) ?_) | (with_reducible refine wpAny_loadPart (by assumption) ?_) | (with_reducible refine wpAny_bind (wpAny_load (by assumption) ?_)) | (with_reducible refine wpAny_bind (wpAny_loadPart (by assumption) ?_)) | (with_reducible refine wpAny_fresh ?_) | (with_reducible refine bPure ?_) | (with_reducible refine bAssoc ?_) | (with_reducible refine bRule ?_) | (with_reducible refine wpAny_pure ?_) | (with_reducible refine wpAny_holding ?_) | (with_reducible refine iteFb (by with_reducible assumption) ?_) | (with_reducible refine iteTb (by with_reducible assumption) ?_) | (with_reducible refine iteTd (by kernel_rfl!) ?_) | (with_reducible refine iteFd (by kernel_rfl!) ?_) | (with_reducible refine wpAny_bind ?_) | ((with_reducible show wpAny _ _ (typeLookup (Value.ref _) _) _ _ _); unfold typeLookup) | ((fail_if_success (with_reducible show wpAny _ _ (setSlotAt _ _ _) _ _ _)); (fail_if_success (with_reducible show wpAny _ _ (nsDel _ _) _ _ _)); (fail_if_success (with_reducible show wpAny _ _ (nsSet _ _ _) _ _ _)); (fail_if_success (with_reducible show wpAny _ _ (updateCls _ _) _ _ _)); (fail_if_success (with_reducible show wpAny _ _ (Sem.tryCatch _ _) _ _ _)); wp_delta))
  refine mSlot (cO [] ns qn true [] #[some (.ref bt)]) (by assumption) 0 rfl (by kernel_rfl!) (by kernel_rfl!) rfl fun h4 D4 => ?_
  repeat (first | (with_reducible refine bEq (by with_reducible assumption) ?_) | (with_reducible refine bLoad (by assumption) 0 rfl ?_) | (with_reducible refine bLoad (by assumption) 1 rfl ?_) | (with_reducible refine bLoad (by assumption) 2 rfl ?_) | (with_reducible refine bLoadPart (by assumption) 0 rfl ?_) | (with_reducible refine bLoadPart (by assumption) 1 rfl ?_) | (with_reducible refine bLoadPart (by assumption) 2 rfl ?_) | (with_reducible refine wpAny_of_eq (by with_reducible assumption) ?_) | (with_reducible refine bNsGet (r := none) (by assumption) 0 rfl (by kernel_rfl!) ?_) | (with_reducible refine bNsGet (r := none) (by assumption) 1 rfl (by kernel_rfl!) ?_) | (with_reducible refine bNsGet (r := none) (by assumption) 2 rfl (by kernel_rfl!) ?_) | (with_reducible refine wpAny_load (mOld0 (by assumption) (by assumption)) ?_) | (with_reducible refine wpAny_loadPart (mOld0 (by assumption) (by assumption)) ?_) | (with_reducible refine wpAny_bind (wpAny_load (mOld0 (by assumption) (by assumption)) ?_)) | (with_reducible refine wpAny_bind (wpAny_loadPart (mOld0 (by assumption) (by assumption)) ?_)) | (with_reducible refine wpAny_load (by assumption) ?_) | (with_reducible refine wpAny_loadPart (by assumption) ?_) | (with_reducible refine wpAny_bind (wpAny_load (by assumption) ?_)) | (with_reducible refine wpAny_bind (wpAny_loadPart (by assumption) ?_)) | (with_reducible refine wpAny_fresh ?_) | (with_reducible refine bPure ?_) | (with_reducible refine bAssoc ?_) | (with_reducible refine bRule ?_) | (with_reducible refine wpAny_pure ?_) | (with_reducible refine wpAny_holding ?_) | (with_reducible refine iteFb (by with_reducible assumption) ?_) | (with_reducible refine iteTb (by with_reducible assumption) ?_) | (with_reducible refine iteTd (by kernel_rfl!) ?_) | (with_reducible refine iteFd (by kernel_rfl!) ?_) | (with_reducible refine wpAny_bind ?_) | ((with_reducible show wpAny _ _ (typeLookup (Value.ref _) _) _ _ _); unfold typeLookup) | ((fail_if_success (with_reducible show wpAny _ _ (setSlotAt _ _ _) _ _ _)); (fail_if_success (with_reducible show wpAny _ _ (nsDel _ _) _ _ _)); (fail_if_success (with_reducible show wpAny _ _ (nsSet _ _ _) _ _ _)); (fail_if_success (with_reducible show wpAny _ _ (updateCls _ _) _ _ _)); (fail_if_success (with_reducible show wpAny _ _ (Sem.tryCatch _ _) _ _ _)); wp_delta))
  refine mSlot (cO [] ns qn true [] #[some (.ref bt), none, some (.str (Str.ofString "K") nt)]) (by assumption) 0 rfl (by kernel_rfl!) (by kernel_rfl!) rfl fun h5 D5 => ?_
  repeat (first | (with_reducible refine bEq (by with_reducible assumption) ?_) | (with_reducible refine bLoad (by assumption) 0 rfl ?_) | (with_reducible refine bLoad (by assumption) 1 rfl ?_) | (with_reducible refine bLoad (by assumption) 2 rfl ?_) | (with_reducible refine bLoadPart (by assumption) 0 rfl ?_) | (with_reducible refine bLoadPart (by assumption) 1 rfl ?_) | (with_reducible refine bLoadPart (by assumption) 2 rfl ?_) | (with_reducible refine wpAny_of_eq (by with_reducible assumption) ?_) | (with_reducible refine bNsGet (r := none) (by assumption) 0 rfl (by kernel_rfl!) ?_) | (with_reducible refine bNsGet (r := none) (by assumption) 1 rfl (by kernel_rfl!) ?_) | (with_reducible refine bNsGet (r := none) (by assumption) 2 rfl (by kernel_rfl!) ?_) | (with_reducible refine wpAny_load (mOld0 (by assumption) (by assumption)) ?_) | (with_reducible refine wpAny_loadPart (mOld0 (by assumption) (by assumption)) ?_) | (with_reducible refine wpAny_bind (wpAny_load (mOld0 (by assumption) (by assumption)) ?_)) | (with_reducible refine wpAny_bind (wpAny_loadPart (mOld0 (by assumption) (by assumption)) ?_)) | (with_reducible refine wpAny_load (by assumption) ?_) | (with_reducible refine wpAny_loadPart (by assumption) ?_) | (with_reducible refine wpAny_bind (wpAny_load (by assumption) ?_)) | (with_reducible refine wpAny_bind (wpAny_loadPart (by assumption) ?_)) | (with_reducible refine wpAny_fresh ?_) | (with_reducible refine bPure ?_) | (with_reducible refine bAssoc ?_) | (with_reducible refine bRule ?_) | (with_reducible refine wpAny_pure ?_) | (with_reducible refine wpAny_holding ?_) | (with_reducible refine iteFb (by with_reducible assumption) ?_) | (with_reducible refine iteTb (by with_reducible assumption) ?_) | (with_reducible refine iteTd (by kernel_rfl!) ?_) | (with_reducible refine iteFd (by kernel_rfl!) ?_) | (with_reducible refine wpAny_bind ?_) | ((with_reducible show wpAny _ _ (typeLookup (Value.ref _) _) _ _ _); unfold typeLookup) | ((fail_if_success (with_reducible show wpAny _ _ (setSlotAt _ _ _) _ _ _)); (fail_if_success (with_reducible show wpAny _ _ (nsDel _ _) _ _ _)); (fail_if_success (with_reducible show wpAny _ _ (nsSet _ _ _) _ _ _)); (fail_if_success (with_reducible show wpAny _ _ (updateCls _ _) _ _ _)); (fail_if_success (with_reducible show wpAny _ _ (Sem.tryCatch _ _) _ _ _)); wp_delta))
  refine mSlot (cO [] ns qn true [] #[some (.ref bt), none, some (.str (Str.ofString "K") nt), some (.str qn qt)]) (by assumption) 0 rfl (by kernel_rfl!) (by kernel_rfl!) rfl fun h6 D6 => ?_
  repeat (first | (with_reducible refine bEq (by with_reducible assumption) ?_) | (with_reducible refine bLoad (by assumption) 0 rfl ?_) | (with_reducible refine bLoad (by assumption) 1 rfl ?_) | (with_reducible refine bLoad (by assumption) 2 rfl ?_) | (with_reducible refine bLoadPart (by assumption) 0 rfl ?_) | (with_reducible refine bLoadPart (by assumption) 1 rfl ?_) | (with_reducible refine bLoadPart (by assumption) 2 rfl ?_) | (with_reducible refine wpAny_of_eq (by with_reducible assumption) ?_) | (with_reducible refine bNsGet (r := none) (by assumption) 0 rfl (by kernel_rfl!) ?_) | (with_reducible refine bNsGet (r := none) (by assumption) 1 rfl (by kernel_rfl!) ?_) | (with_reducible refine bNsGet (r := none) (by assumption) 2 rfl (by kernel_rfl!) ?_) | (with_reducible refine wpAny_load (mOld0 (by assumption) (by assumption)) ?_) | (with_reducible refine wpAny_loadPart (mOld0 (by assumption) (by assumption)) ?_) | (with_reducible refine wpAny_bind (wpAny_load (mOld0 (by assumption) (by assumption)) ?_)) | (with_reducible refine wpAny_bind (wpAny_loadPart (mOld0 (by assumption) (by assumption)) ?_)) | (with_reducible refine wpAny_load (by assumption) ?_) | (with_reducible refine wpAny_loadPart (by assumption) ?_) | (with_reducible refine wpAny_bind (wpAny_load (by assumption) ?_)) | (with_reducible refine wpAny_bind (wpAny_loadPart (by assumption) ?_)) | (with_reducible refine wpAny_fresh ?_) | (with_reducible refine bPure ?_) | (with_reducible refine bAssoc ?_) | (with_reducible refine bRule ?_) | (with_reducible refine wpAny_pure ?_) | (with_reducible refine wpAny_holding ?_) | (with_reducible refine iteFb (by with_reducible assumption) ?_) | (with_reducible refine iteTb (by with_reducible assumption) ?_) | (with_reducible refine iteTd (by kernel_rfl!) ?_) | (with_reducible refine iteFd (by kernel_rfl!) ?_) | (with_reducible refine wpAny_bind ?_) | ((with_reducible show wpAny _ _ (typeLookup (Value.ref _) _) _ _ _); unfold typeLookup) | ((fail_if_success (with_reducible show wpAny _ _ (setSlotAt _ _ _) _ _ _)); (fail_if_success (with_reducible show wpAny _ _ (nsDel _ _) _ _ _)); (fail_if_success (with_reducible show wpAny _ _ (nsSet _ _ _) _ _ _)); (fail_if_success (with_reducible show wpAny _ _ (updateCls _ _) _ _ _)); (fail_if_success (with_reducible show wpAny _ _ (Sem.tryCatch _ _) _ _ _)); wp_delta))
  refine mDel { cls := .type "dict", data := .dict (ents1 hs ks (.str mn mt) (.int fl ft) sl f1 f2 f3 f4 f5 f6 sa).toArray 1 } (by assumption) 1 rfl (by kernel_rfl!) (by kernel_rfl!) rfl fun h7 D7 => ?_
  repeat (first | (with_reducible refine bEq (by with_reducible assumption) ?_) | (with_reducible refine bLoad (by assumption) 0 rfl ?_) | (with_reducible refine bLoad (by assumption) 1 rfl ?_) | (with_reducible refine bLoad (by assumption) 2 rfl ?_) | (with_reducible refine bLoadPart (by assumption) 0 rfl ?_) | (with_reducible refine bLoadPart (by assumption) 1 rfl ?_) | (with_reducible refine bLoadPart (by assumption) 2 rfl ?_) | (with_reducible refine wpAny_of_eq (by with_reducible assumption) ?_) | (with_reducible refine bNsGet (r := none) (by assumption) 0 rfl (by kernel_rfl!) ?_) | (with_reducible refine bNsGet (r := none) (by assumption) 1 rfl (by kernel_rfl!) ?_) | (with_reducible refine bNsGet (r := none) (by assumption) 2 rfl (by kernel_rfl!) ?_) | (with_reducible refine wpAny_load (mOld0 (by assumption) (by assumption)) ?_) | (with_reducible refine wpAny_loadPart (mOld0 (by assumption) (by assumption)) ?_) | (with_reducible refine wpAny_bind (wpAny_load (mOld0 (by assumption) (by assumption)) ?_)) | (with_reducible refine wpAny_bind (wpAny_loadPart (mOld0 (by assumption) (by assumption)) ?_)) | (with_reducible refine wpAny_load (by assumption) ?_) | (with_reducible refine wpAny_loadPart (by assumption) ?_) | (with_reducible refine wpAny_bind (wpAny_load (by assumption) ?_)) | (with_reducible refine wpAny_bind (wpAny_loadPart (by assumption) ?_)) | (with_reducible refine wpAny_fresh ?_) | (with_reducible refine bPure ?_) | (with_reducible refine bAssoc ?_) | (with_reducible refine bRule ?_) | (with_reducible refine wpAny_pure ?_) | (with_reducible refine wpAny_holding ?_) | (with_reducible refine iteFb (by with_reducible assumption) ?_) | (with_reducible refine iteTb (by with_reducible assumption) ?_) | (with_reducible refine iteTd (by kernel_rfl!) ?_) | (with_reducible refine iteFd (by kernel_rfl!) ?_) | (with_reducible refine wpAny_bind ?_) | ((with_reducible show wpAny _ _ (typeLookup (Value.ref _) _) _ _ _); unfold typeLookup) | ((fail_if_success (with_reducible show wpAny _ _ (setSlotAt _ _ _) _ _ _)); (fail_if_success (with_reducible show wpAny _ _ (nsDel _ _) _ _ _)); (fail_if_success (with_reducible show wpAny _ _ (nsSet _ _ _) _ _ _)); (fail_if_success (with_reducible show wpAny _ _ (updateCls _ _) _ _ _)); (fail_if_success (with_reducible show wpAny _ _ (Sem.tryCatch _ _) _ _ _)); wp_delta))
  (generalize hF : List.filter (fun x => x != Value.ref a) [Value.ref a, Value.type "object"] = F); obtain rfl : F = [.type "object"] := hF.symm.trans (by simp); clear hF
  repeat (first | (with_reducible refine bEq (by with_reducible assumption) ?_) | (with_reducible refine bLoad (by assumption) 0 rfl ?_) | (with_reducible refine bLoad (by assumption) 1 rfl ?_) | (with_reducible refine bLoad (by assumption) 2 rfl ?_) | (with_reducible refine bLoadPart (by assumption) 0 rfl ?_) | (with_reducible refine bLoadPart (by assumption) 1 rfl ?_) | (with_reducible refine bLoadPart (by assumption) 2 rfl ?_) | (with_reducible refine wpAny_of_eq (by with_reducible assumption) ?_) | (with_reducible refine bNsGet (r := none) (by assumption) 0 rfl (by kernel_rfl!) ?_) | (with_reducible refine bNsGet (r := none) (by assumption) 1 rfl (by kernel_rfl!) ?_) | (with_reducible refine bNsGet (r := none) (by assumption) 2 rfl (by kernel_rfl!) ?_) | (with_reducible refine wpAny_load (mOld0 (by assumption) (by assumption)) ?_) | (with_reducible refine wpAny_loadPart (mOld0 (by assumption) (by assumption)) ?_) | (with_reducible refine wpAny_bind (wpAny_load (mOld0 (by assumption) (by assumption)) ?_)) | (with_reducible refine wpAny_bind (wpAny_loadPart (mOld0 (by assumption) (by assumption)) ?_)) | (with_reducible refine wpAny_load (by assumption) ?_) | (with_reducible refine wpAny_loadPart (by assumption) ?_) | (with_reducible refine wpAny_bind (wpAny_load (by assumption) ?_)) | (with_reducible refine wpAny_bind (wpAny_loadPart (by assumption) ?_)) | (with_reducible refine wpAny_fresh ?_) | (with_reducible refine bPure ?_) | (with_reducible refine bAssoc ?_) | (with_reducible refine bRule ?_) | (with_reducible refine wpAny_pure ?_) | (with_reducible refine wpAny_holding ?_) | (with_reducible refine iteFb (by with_reducible assumption) ?_) | (with_reducible refine iteTb (by with_reducible assumption) ?_) | (with_reducible refine iteTd (by kernel_rfl!) ?_) | (with_reducible refine iteFd (by kernel_rfl!) ?_) | (with_reducible refine wpAny_bind ?_) | ((with_reducible show wpAny _ _ (typeLookup (Value.ref _) _) _ _ _); unfold typeLookup) | ((fail_if_success (with_reducible show wpAny _ _ (setSlotAt _ _ _) _ _ _)); (fail_if_success (with_reducible show wpAny _ _ (nsDel _ _) _ _ _)); (fail_if_success (with_reducible show wpAny _ _ (nsSet _ _ _) _ _ _)); (fail_if_success (with_reducible show wpAny _ _ (updateCls _ _) _ _ _)); (fail_if_success (with_reducible show wpAny _ _ (Sem.tryCatch _ _) _ _ _)); wp_delta))
  refine mCls (cO [.ref a, .type "object"] ns qn true [] #[some (.ref bt), none, some (.str (Str.ofString "K") nt), some (.str qn qt)]) (by assumption) 0 rfl rfl (by kernel_rfl!) rfl (by kernel_rfl!) fun h8 D8 => ?_
  repeat (first | (with_reducible refine bEq (by with_reducible assumption) ?_) | (with_reducible refine bLoad (by assumption) 0 rfl ?_) | (with_reducible refine bLoad (by assumption) 1 rfl ?_) | (with_reducible refine bLoad (by assumption) 2 rfl ?_) | (with_reducible refine bLoadPart (by assumption) 0 rfl ?_) | (with_reducible refine bLoadPart (by assumption) 1 rfl ?_) | (with_reducible refine bLoadPart (by assumption) 2 rfl ?_) | (with_reducible refine wpAny_of_eq (by with_reducible assumption) ?_) | (with_reducible refine bNsGet (r := none) (by assumption) 0 rfl (by kernel_rfl!) ?_) | (with_reducible refine bNsGet (r := none) (by assumption) 1 rfl (by kernel_rfl!) ?_) | (with_reducible refine bNsGet (r := none) (by assumption) 2 rfl (by kernel_rfl!) ?_) | (with_reducible refine wpAny_load (mOld0 (by assumption) (by assumption)) ?_) | (with_reducible refine wpAny_loadPart (mOld0 (by assumption) (by assumption)) ?_) | (with_reducible refine wpAny_bind (wpAny_load (mOld0 (by assumption) (by assumption)) ?_)) | (with_reducible refine wpAny_bind (wpAny_loadPart (mOld0 (by assumption) (by assumption)) ?_)) | (with_reducible refine wpAny_load (by assumption) ?_) | (with_reducible refine wpAny_loadPart (by assumption) ?_) | (with_reducible refine wpAny_bind (wpAny_load (by assumption) ?_)) | (with_reducible refine wpAny_bind (wpAny_loadPart (by assumption) ?_)) | (with_reducible refine wpAny_fresh ?_) | (with_reducible refine bPure ?_) | (with_reducible refine bAssoc ?_) | (with_reducible refine bRule ?_) | (with_reducible refine wpAny_pure ?_) | (with_reducible refine wpAny_holding ?_) | (with_reducible refine iteFb (by with_reducible assumption) ?_) | (with_reducible refine iteTb (by with_reducible assumption) ?_) | (with_reducible refine iteTd (by kernel_rfl!) ?_) | (with_reducible refine iteFd (by kernel_rfl!) ?_) | (with_reducible refine wpAny_bind ?_) | ((with_reducible show wpAny _ _ (typeLookup (Value.ref _) _) _ _ _); unfold typeLookup) | ((fail_if_success (with_reducible show wpAny _ _ (setSlotAt _ _ _) _ _ _)); (fail_if_success (with_reducible show wpAny _ _ (nsDel _ _) _ _ _)); (fail_if_success (with_reducible show wpAny _ _ (nsSet _ _ _) _ _ _)); (fail_if_success (with_reducible show wpAny _ _ (updateCls _ _) _ _ _)); (fail_if_success (with_reducible show wpAny _ _ (Sem.tryCatch _ _) _ _ _)); wp_delta))
  refine mSlot (cO [.ref a, .type "object"] ns qn true [] #[some (.ref bt), none, some (.str (Str.ofString "K") nt), some (.str qn qt), some (.builtin "object.__new__")]) (by assumption) 0 rfl (by kernel_rfl!) (by kernel_rfl!) rfl fun h9 D9 => ?_
  repeat (first | (with_reducible refine bEq (by with_reducible assumption) ?_) | (with_reducible refine bLoad (by assumption) 0 rfl ?_) | (with_reducible refine bLoad (by assumption) 1 rfl ?_) | (with_reducible refine bLoad (by assumption) 2 rfl ?_) | (with_reducible refine bLoadPart (by assumption) 0 rfl ?_) | (with_reducible refine bLoadPart (by assumption) 1 rfl ?_) | (with_reducible refine bLoadPart (by assumption) 2 rfl ?_) | (with_reducible refine wpAny_of_eq (by with_reducible assumption) ?_) | (with_reducible refine bNsGet (r := none) (by assumption) 0 rfl (by kernel_rfl!) ?_) | (with_reducible refine bNsGet (r := none) (by assumption) 1 rfl (by kernel_rfl!) ?_) | (with_reducible refine bNsGet (r := none) (by assumption) 2 rfl (by kernel_rfl!) ?_) | (with_reducible refine wpAny_load (mOld0 (by assumption) (by assumption)) ?_) | (with_reducible refine wpAny_loadPart (mOld0 (by assumption) (by assumption)) ?_) | (with_reducible refine wpAny_bind (wpAny_load (mOld0 (by assumption) (by assumption)) ?_)) | (with_reducible refine wpAny_bind (wpAny_loadPart (mOld0 (by assumption) (by assumption)) ?_)) | (with_reducible refine wpAny_load (by assumption) ?_) | (with_reducible refine wpAny_loadPart (by assumption) ?_) | (with_reducible refine wpAny_bind (wpAny_load (by assumption) ?_)) | (with_reducible refine wpAny_bind (wpAny_loadPart (by assumption) ?_)) | (with_reducible refine wpAny_fresh ?_) | (with_reducible refine bPure ?_) | (with_reducible refine bAssoc ?_) | (with_reducible refine bRule ?_) | (with_reducible refine wpAny_pure ?_) | (with_reducible refine wpAny_holding ?_) | (with_reducible refine iteFb (by with_reducible assumption) ?_) | (with_reducible refine iteTb (by with_reducible assumption) ?_) | (with_reducible refine iteTd (by kernel_rfl!) ?_) | (with_reducible refine iteFd (by kernel_rfl!) ?_) | (with_reducible refine wpAny_bind ?_) | ((with_reducible show wpAny _ _ (typeLookup (Value.ref _) _) _ _ _); unfold typeLookup) | ((fail_if_success (with_reducible show wpAny _ _ (setSlotAt _ _ _) _ _ _)); (fail_if_success (with_reducible show wpAny _ _ (nsDel _ _) _ _ _)); (fail_if_success (with_reducible show wpAny _ _ (nsSet _ _ _) _ _ _)); (fail_if_success (with_reducible show wpAny _ _ (updateCls _ _) _ _ _)); (fail_if_success (with_reducible show wpAny _ _ (Sem.tryCatch _ _) _ _ _)); wp_delta))
  refine mAllocO { cls := .type "member_descriptor", data := .fields #[.str (Str.ofString "obj") t, .ref a, .builtin "proto.slot", .builtin "proto.slot#set", rawInt 0] } (by assumption) (by kernel_rfl!) rfl fun md h10 D10 => ?_
  repeat (first | (with_reducible refine bEq (by with_reducible assumption) ?_) | (with_reducible refine bLoad (by assumption) 0 rfl ?_) | (with_reducible refine bLoad (by assumption) 1 rfl ?_) | (with_reducible refine bLoad (by assumption) 2 rfl ?_) | (with_reducible refine bLoadPart (by assumption) 0 rfl ?_) | (with_reducible refine bLoadPart (by assumption) 1 rfl ?_) | (with_reducible refine bLoadPart (by assumption) 2 rfl ?_) | (with_reducible refine wpAny_of_eq (by with_reducible assumption) ?_) | (with_reducible refine bNsGet (r := none) (by assumption) 0 rfl (by kernel_rfl!) ?_) | (with_reducible refine bNsGet (r := none) (by assumption) 1 rfl (by kernel_rfl!) ?_) | (with_reducible refine bNsGet (r := none) (by assumption) 2 rfl (by kernel_rfl!) ?_) | (with_reducible refine wpAny_load (mOld0 (by assumption) (by assumption)) ?_) | (with_reducible refine wpAny_loadPart (mOld0 (by assumption) (by assumption)) ?_) | (with_reducible refine wpAny_bind (wpAny_load (mOld0 (by assumption) (by assumption)) ?_)) | (with_reducible refine wpAny_bind (wpAny_loadPart (mOld0 (by assumption) (by assumption)) ?_)) | (with_reducible refine wpAny_load (by assumption) ?_) | (with_reducible refine wpAny_loadPart (by assumption) ?_) | (with_reducible refine wpAny_bind (wpAny_load (by assumption) ?_)) | (with_reducible refine wpAny_bind (wpAny_loadPart (by assumption) ?_)) | (with_reducible refine wpAny_fresh ?_) | (with_reducible refine bPure ?_) | (with_reducible refine bAssoc ?_) | (with_reducible refine bRule ?_) | (with_reducible refine wpAny_pure ?_) | (with_reducible refine wpAny_holding ?_) | (with_reducible refine iteFb (by with_reducible assumption) ?_) | (with_reducible refine iteTb (by with_reducible assumption) ?_) | (with_reducible refine iteTd (by kernel_rfl!) ?_) | (with_reducible refine iteFd (by kernel_rfl!) ?_) | (with_reducible refine wpAny_bind ?_) | ((with_reducible show wpAny _ _ (typeLookup (Value.ref _) _) _ _ _); unfold typeLookup) | ((fail_if_success (with_reducible show wpAny _ _ (setSlotAt _ _ _) _ _ _)); (fail_if_success (with_reducible show wpAny _ _ (nsDel _ _) _ _ _)); (fail_if_success (with_reducible show wpAny _ _ (nsSet _ _ _) _ _ _)); (fail_if_success (with_reducible show wpAny _ _ (updateCls _ _) _ _ _)); (fail_if_success (with_reducible show wpAny _ _ (Sem.tryCatch _ _) _ _ _)); wp_delta))
  refine mSet (fun hh tk => { cls := .type "dict", data := .dict (ents1 hs ks (.str mn mt) (.int fl ft) sl f1 f2 f3 f4 f5 f6 sa ++ [(⟨hh, .str (Str.ofString "obj") tk, .ref md⟩ : DictEntry)]).toArray 2 }) (by assumption) 2 rfl rfl (by kernel_rfl!) (by intro _ _; kernel_rfl!) (by intro _ _; rfl) fun hh1 tk1 h11 t11 D11 => ?_
  repeat (first | (with_reducible refine bEq (by with_reducible assumption) ?_) | (with_reducible refine bLoad (by assumption) 0 rfl ?_) | (with_reducible refine bLoad (by assumption) 1 rfl ?_) | (with_reducible refine bLoad (by assumption) 2 rfl ?_) | (with_reducible refine bLoadPart (by assumption) 0 rfl ?_) | (with_reducible refine bLoadPart (by assumption) 1 rfl ?_) | (with_reducible refine bLoadPart (by assumption) 2 rfl ?_) | (with_reducible refine wpAny_of_eq (by with_reducible assumption) ?_) | (with_reducible refine bNsGet (r := none) (by assumption) 0 rfl (by kernel_rfl!) ?_) | (with_reducible refine bNsGet (r := none) (by assumption) 1 rfl (by kernel_rfl!) ?_) | (with_reducible refine bNsGet (r := none) (by assumption) 2 rfl (by kernel_rfl!) ?_) | (with_reducible refine wpAny_load (mOld0 (by assumption) (by assumption)) ?_) | (with_reducible refine wpAny_loadPart (mOld0 (by assumption) (by assumption)) ?_) | (with_reducible refine wpAny_bind (wpAny_load (mOld0 (by assumption) (by assumption)) ?_)) | (with_reducible refine wpAny_bind (wpAny_loadPart (mOld0 (by assumption) (by assumption)) ?_)) | (with_reducible refine wpAny_load (by assumption) ?_) | (with_reducible refine wpAny_loadPart (by assumption) ?_) | (with_reducible refine wpAny_bind (wpAny_load (by assumption) ?_)) | (with_reducible refine wpAny_bind (wpAny_loadPart (by assumption) ?_)) | (with_reducible refine wpAny_fresh ?_) | (with_reducible refine bPure ?_) | (with_reducible refine bAssoc ?_) | (with_reducible refine bRule ?_) | (with_reducible refine wpAny_pure ?_) | (with_reducible refine wpAny_holding ?_) | (with_reducible refine iteFb (by with_reducible assumption) ?_) | (with_reducible refine iteTb (by with_reducible assumption) ?_) | (with_reducible refine iteTd (by kernel_rfl!) ?_) | (with_reducible refine iteFd (by kernel_rfl!) ?_) | (with_reducible refine wpAny_bind ?_) | ((with_reducible show wpAny _ _ (typeLookup (Value.ref _) _) _ _ _); unfold typeLookup) | ((fail_if_success (with_reducible show wpAny _ _ (setSlotAt _ _ _) _ _ _)); (fail_if_success (with_reducible show wpAny _ _ (nsDel _ _) _ _ _)); (fail_if_success (with_reducible show wpAny _ _ (nsSet _ _ _) _ _ _)); (fail_if_success (with_reducible show wpAny _ _ (updateCls _ _) _ _ _)); (fail_if_success (with_reducible show wpAny _ _ (Sem.tryCatch _ _) _ _ _)); wp_delta))
  refine mCls (cO [.ref a, .type "object"] ns qn false [Str.ofString "obj"] #[some (.ref bt), none, some (.str (Str.ofString "K") nt), some (.str qn qt), some (.builtin "object.__new__")]) (by assumption) 1 rfl rfl (by kernel_rfl!) rfl (by kernel_rfl!) fun h12 D12 => ?_
  repeat (first | (with_reducible refine bEq (by with_reducible assumption) ?_) | (with_reducible refine bLoad (by assumption) 0 rfl ?_) | (with_reducible refine bLoad (by assumption) 1 rfl ?_) | (with_reducible refine bLoad (by assumption) 2 rfl ?_) | (with_reducible refine bLoadPart (by assumption) 0 rfl ?_) | (with_reducible refine bLoadPart (by assumption) 1 rfl ?_) | (with_reducible refine bLoadPart (by assumption) 2 rfl ?_) | (with_reducible refine wpAny_of_eq (by with_reducible assumption) ?_) | (with_reducible refine bNsGet (r := none) (by assumption) 0 rfl (by kernel_rfl!) ?_) | (with_reducible refine bNsGet (r := none) (by assumption) 1 rfl (by kernel_rfl!) ?_) | (with_reducible refine bNsGet (r := none) (by assumption) 2 rfl (by kernel_rfl!) ?_) | (with_reducible refine wpAny_load (mOld0 (by assumption) (by assumption)) ?_) | (with_reducible refine wpAny_loadPart (mOld0 (by assumption) (by assumption)) ?_) | (with_reducible refine wpAny_bind (wpAny_load (mOld0 (by assumption) (by assumption)) ?_)) | (with_reducible refine wpAny_bind (wpAny_loadPart (mOld0 (by assumption) (by assumption)) ?_)) | (with_reducible refine wpAny_load (by assumption) ?_) | (with_reducible refine wpAny_loadPart (by assumption) ?_) | (with_reducible refine wpAny_bind (wpAny_load (by assumption) ?_)) | (with_reducible refine wpAny_bind (wpAny_loadPart (by assumption) ?_)) | (with_reducible refine wpAny_fresh ?_) | (with_reducible refine bPure ?_) | (with_reducible refine bAssoc ?_) | (with_reducible refine bRule ?_) | (with_reducible refine wpAny_pure ?_) | (with_reducible refine wpAny_holding ?_) | (with_reducible refine iteFb (by with_reducible assumption) ?_) | (with_reducible refine iteTb (by with_reducible assumption) ?_) | (with_reducible refine iteTd (by kernel_rfl!) ?_) | (with_reducible refine iteFd (by kernel_rfl!) ?_) | (with_reducible refine wpAny_bind ?_) | ((with_reducible show wpAny _ _ (typeLookup (Value.ref _) _) _ _ _); unfold typeLookup) | ((fail_if_success (with_reducible show wpAny _ _ (setSlotAt _ _ _) _ _ _)); (fail_if_success (with_reducible show wpAny _ _ (nsDel _ _) _ _ _)); (fail_if_success (with_reducible show wpAny _ _ (nsSet _ _ _) _ _ _)); (fail_if_success (with_reducible show wpAny _ _ (updateCls _ _) _ _ _)); (fail_if_success (with_reducible show wpAny _ _ (Sem.tryCatch _ _) _ _ _)); wp_delta))
  refine mSlot (cO [.ref a, .type "object"] ns qn false [Str.ofString "obj"] #[some (.ref bt), none, some (.str (Str.ofString "K") nt), some (.str qn qt), some (.builtin "object.__new__"), some (.bool false)]) (by assumption) 1 rfl (by kernel_rfl!) (by kernel_rfl!) rfl fun h13 D13 => ?_
  repeat (first | (with_reducible refine bEq (by with_reducible assumption) ?_) | (with_reducible refine bLoad (by assumption) 0 rfl ?_) | (with_reducible refine bLoad (by assumption) 1 rfl ?_) | (with_reducible refine bLoad (by assumption) 2 rfl ?_) | (with_reducible refine bLoadPart (by assumption) 0 rfl ?_) | (with_reducible refine bLoadPart (by assumption) 1 rfl ?_) | (with_reducible refine bLoadPart (by assumption) 2 rfl ?_) | (with_reducible refine wpAny_of_eq (by with_reducible assumption) ?_) | (with_reducible refine bNsGet (r := none) (by assumption) 0 rfl (by kernel_rfl!) ?_) | (with_reducible refine bNsGet (r := none) (by assumption) 1 rfl (by kernel_rfl!) ?_) | (with_reducible refine bNsGet (r := none) (by assumption) 2 rfl (by kernel_rfl!) ?_) | (with_reducible refine wpAny_load (mOld0 (by assumption) (by assumption)) ?_) | (with_reducible refine wpAny_loadPart (mOld0 (by assumption) (by assumption)) ?_) | (with_reducible refine wpAny_bind (wpAny_load (mOld0 (by assumption) (by assumption)) ?_)) | (with_reducible refine wpAny_bind (wpAny_loadPart (mOld0 (by assumption) (by assumption)) ?_)) | (with_reducible refine wpAny_load (by assumption) ?_) | (with_reducible refine wpAny_loadPart (by assumption) ?_) | (with_reducible refine wpAny_bind (wpAny_load (by assumption) ?_)) | (with_reducible refine wpAny_bind (wpAny_loadPart (by assumption) ?_)) | (with_reducible refine wpAny_fresh ?_) | (with_reducible refine bPure ?_) | (with_reducible refine bAssoc ?_) | (with_reducible refine bRule ?_) | (with_reducible refine wpAny_pure ?_) | (with_reducible refine wpAny_holding ?_) | (with_reducible refine iteFb (by with_reducible assumption) ?_) | (with_reducible refine iteTb (by with_reducible assumption) ?_) | (with_reducible refine iteTd (by kernel_rfl!) ?_) | (with_reducible refine iteFd (by kernel_rfl!) ?_) | (with_reducible refine wpAny_bind ?_) | ((with_reducible show wpAny _ _ (typeLookup (Value.ref _) _) _ _ _); unfold typeLookup) | ((fail_if_success (with_reducible show wpAny _ _ (setSlotAt _ _ _) _ _ _)); (fail_if_success (with_reducible show wpAny _ _ (nsDel _ _) _ _ _)); (fail_if_success (with_reducible show wpAny _ _ (nsSet _ _ _) _ _ _)); (fail_if_success (with_reducible show wpAny _ _ (updateCls _ _) _ _ _)); (fail_if_success (with_reducible show wpAny _ _ (Sem.tryCatch _ _) _ _ _)); wp_delta))
  refine mSet (fun hh tk => { cls := .type "dict", data := .dict (entsF hs ks (.str mn mt) (.int fl ft) sl f1 f2 f3 f4 f5 f6 sa md hh1 hh tk1 tk).toArray 3 }) (by assumption) 2 rfl rfl (by kernel_rfl!) (by intro _ _; kernel_rfl!) (by intro _ _; rfl) fun hh2 tk2 h14 t14 D14 => ?_
  repeat (first | (with_reducible refine bEq (by with_reducible assumption) ?_) | (with_reducible refine bLoad (by assumption) 0 rfl ?_) | (with_reducible refine bLoad (by assumption) 1 rfl ?_) | (with_reducible refine bLoad (by assumption) 2 rfl ?_) | (with_reducible refine bLoadPart (by assumption) 0 rfl ?_) | (with_reducible refine bLoadPart (by assumption) 1 rfl ?_) | (with_reducible refine bLoadPart (by assumption) 2 rfl ?_) | (with_reducible refine wpAny_of_eq (by with_reducible assumption) ?_) | (with_reducible refine bNsGet (r := none) (by assumption) 0 rfl (by kernel_rfl!) ?_) | (with_reducible refine bNsGet (r := none) (by assumption) 1 rfl (by kernel_rfl!) ?_) | (with_reducible refine bNsGet (r := none) (by assumption) 2 rfl (by kernel_rfl!) ?_) | (with_reducible refine wpAny_load (mOld0 (by assumption) (by assumption)) ?_) | (with_reducible refine wpAny_loadPart (mOld0 (by assumption) (by assumption)) ?_) | (with_reducible refine wpAny_bind (wpAny_load (mOld0 (by assumption) (by assumption)) ?_)) | (with_reducible refine wpAny_bind (wpAny_loadPart (mOld0 (by assumption) (by assumption)) ?_)) | (with_reducible refine wpAny_load (by assumption) ?_) | (with_reducible refine wpAny_loadPart (by assumption) ?_) | (with_reducible refine wpAny_bind (wpAny_load (by assumption) ?_)) | (with_reducible refine wpAny_bind (wpAny_loadPart (by assumption) ?_)) | (with_reducible refine wpAny_fresh ?_) | (with_reducible refine bPure ?_) | (with_reducible refine bAssoc ?_) | (with_reducible refine bRule ?_) | (with_reducible refine wpAny_pure ?_) | (with_reducible refine wpAny_holding ?_) | (with_reducible refine iteFb (by with_reducible assumption) ?_) | (with_reducible refine iteTb (by with_reducible assumption) ?_) | (with_reducible refine iteTd (by kernel_rfl!) ?_) | (with_reducible refine iteFd (by kernel_rfl!) ?_) | (with_reducible refine wpAny_bind ?_) | ((with_reducible show wpAny _ _ (typeLookup (Value.ref _) _) _ _ _); unfold typeLookup) | ((fail_if_success (with_reducible show wpAny _ _ (setSlotAt _ _ _) _ _ _)); (fail_if_success (with_reducible show wpAny _ _ (nsDel _ _) _ _ _)); (fail_if_success (with_reducible show wpAny _ _ (nsSet _ _ _) _ _ _)); (fail_if_success (with_reducible show wpAny _ _ (updateCls _ _) _ _ _)); (fail_if_success (with_reducible show wpAny _ _ (Sem.tryCatch _ _) _ _ _)); wp_delta))
  refine wpAny_tryCatch ?_
  have DZ : Mem h h14 [] [(md, mdO a t), (a, cF a ns bt nt qt qn), (ns, nsF hs ks (.str mn mt) (.int fl ft) sl f1 f2 f3 f4 f5 f6 sa md hh1 hh2 tk1 tk2), (gl, ogl)] := D14
  clear D D' D2 D3 D4 D5 D6 D7 D8 D9 D10 D11 D12 D13 D14
  refine wpAny_mono (Q := fun _ s' => ∃ so sob mo mob h' t', LM h h' [(mo, mob), (so, sob), (md, mdO a t), (a, cF a ns bt nt qt qn), (ns, nsF hs ks (.str mn mt) (.int fl ft) sl f1 f2 f3 f4 f5 f6 sa md hh1 hh2 tk1 tk2), (gl, ogl)] ∧ s' = ⟨h', g, d, t', os⟩) (E := fun _ _ => False) ?hk ?_ (fun _ _ hE => hE.elim)
  case hk =>
    subst hqn
    dsimp only
    repeat (first | (with_reducible refine bEq (by with_reducible assumption) ?_) | (with_reducible refine bLoad (by assumption) 0 rfl ?_) | (with_reducible refine bLoad (by assumption) 1 rfl ?_) | (with_reducible refine bLoad (by assumption) 2 rfl ?_) | (with_reducible refine bLoadPart (by assumption) 0 rfl ?_) | (with_reducible refine bLoadPart (by assumption) 1 rfl ?_) | (with_reducible refine bLoadPart (by assumption) 2 rfl ?_) | (with_reducible refine wpAny_of_eq (by with_reducible assumption) ?_) | (with_reducible refine bNsGet (r := none) (by assumption) 0 rfl (by kernel_rfl!) ?_) | (with_reducible refine bNsGet (r := none) (by assumption) 1 rfl (by kernel_rfl!) ?_) | (with_reducible refine bNsGet (r := none) (by assumption) 2 rfl (by kernel_rfl!) ?_) | (with_reducible refine wpAny_load (mOld0 (by assumption) (by assumption)) ?_) | (with_reducible refine wpAny_loadPart (mOld0 (by assumption) (by assumption)) ?_) | (with_reducible refine wpAny_bind (wpAny_load (mOld0 (by assumption) (by assumption)) ?_)) | (with_reducible refine wpAny_bind (wpAny_loadPart (mOld0 (by assumption) (by assumption)) ?_)) | (with_reducible refine wpAny_load (by assumption) ?_) | (with_reducible refine wpAny_loadPart (by assumption) ?_) | (with_reducible refine wpAny_bind (wpAny_load (by assumption) ?_)) | (with_reducible refine wpAny_bind (wpAny_loadPart (by assumption) ?_)) | (with_reducible refine wpAny_fresh ?_) | (with_reducible refine bPure ?_) | (with_reducible refine bAssoc ?_) | (with_reducible refine bRule ?_) | (with_reducible refine wpAny_pure ?_) | (with_reducible refine wpAny_holding ?_) | (with_reducible refine iteFb (by with_reducible assumption) ?_) | (with_reducible refine iteTb (by with_reducible assumption) ?_) | (with_reducible refine iteTd (by kernel_rfl!) ?_) | (with_reducible refine iteFd (by kernel_rfl!) ?_) | (with_reducible refine wpAny_bind ?_) | ((with_reducible show wpAny _ _ (typeLookup (Value.ref _) _) _ _ _); unfold typeLookup) | ((fail_if_success (with_reducible show wpAny _ _ (setSlotAt _ _ _) _ _ _)); (fail_if_success (with_reducible show wpAny _ _ (nsDel _ _) _ _ _)); (fail_if_success (with_reducible show wpAny _ _ (nsSet _ _ _) _ _ _)); (fail_if_success (with_reducible show wpAny _ _ (updateCls _ _) _ _ _)); (fail_if_success (with_reducible show wpAny _ _ (Sem.tryCatch _ _) _ _ _)); wp_delta))
    refine supCall (DZ.at 1 _ _ rfl) fun so h' t' D' => ?_
    have L1 := (LM.of DZ).trans (LM.of D')
    refine wpAny_bind (wpAny_holding ?_)
    refine supGa (X.keeps L1.keep) (L1.at 2 rfl) (L1.at 0 rfl) fun mo h2 t2 D2 => ?_
    have L2 := L1.trans (LM.of D2)
    refine wpAny_bind (iSub (L2.at 3 rfl) (L2.at 0 rfl) fun h3 t3 D3 => ?_)
    exact wpAny_pure ⟨so, _, mo, _, h3, t3, L2.trans (LM.of D3), rfl⟩
  rintro _ _ ⟨so, sob, mo, mob, h15, t15, D15, rfl⟩
  exact wpAny_pure (hQ _ _ _ _ _ _ _ _ _ _ _ _ _ _ _ _ D15)
end Mine
end PartTN
section PartTC
open PySem PySem.W PySem.Calls PyProof.Rows PySem.W.X
set_option maxRecDepth 100000
set_option maxHeartbeats 8000000
namespace Mine
local macro_rules | `(tactic| x_close) => `(tactic| (apply_assumption; first | assumption | exact Mem.start _))
theorem tInit {w : World} {A : Around} {Q E : Value → Shared → Prop} {h : Heap} {g : Array GenState} {d : Drawn} {t : Nat} {os : OsState} {a bt n : Addr} {nt : Tok} {ns : Addr} {hd : Bool} {sn : List Str} {v0 v2 v3 : Value}
   (ha : h.get? a = some { cls := .type "type", data := .cls { name := Str.ofString "K", bases := [.type "object"], mro := [.ref a, .type "object"], ns := ns, qualname := Str.ofString "cmp_to_key.<locals>.K", hasDict := hd, slotNames := sn }, slots := #[some v0, none, some v2, some v3, some (.builtin "object.__new__"), some (.bool false)] })
   (hQ : ∀ h' t', Mem h h' [] [] → Q .none ⟨h', g, d, t', os⟩) :
   wpAny (model PySem.Challenge.rw_oy0064_01.row.prog w) A (call (.builtin "type.__init__") [.ref a, .str (Str.ofString "K") nt, .ref bt, .ref n]) Q E ⟨h, g, d, t, os⟩ := by
  x_run
theorem tcall {w : World} {A : Around} {Q : Value → Shared → Prop} {E : Value → Shared → Prop} {h : Heap} {g : Array GenState} {d : Drawn} {t : Nat} {os : OsState}
   {n bt sl f1 f2 f3 f4 f5 f6 sa : Addr} {d1 d2 d3 d4 d5 d6 dsa : Option Addr} {x1 x2 x3 x4 x5 x6 xsa : Data} {s1 s2 s3 s4 s5 s6 ssa : Array (Option Value)} {hs : Nat → Int} {ks : Nat → Tok} {mn qn : Str} {mt qt nt st ft : Tok} {fl : Int} {cnt : Nat}
   (hn : h.get? n = some { cls := .type "dict", data := .dict (ents hs ks (.str mn mt) (.str qn qt) (.int fl ft) sl f1 f2 f3 f4 f5 f6 sa) cnt }) (hbt : h.get? bt = some { cls := .type "tuple", data := .seq #[.type "object"] })
   (hsl : h.get? sl = some { cls := .type "list", data := .seq #[.str (Str.ofString "obj") st] })
   (hf1 : h.get? f1 = some ⟨.type "function", d1, x1, s1⟩) (hf2 : h.get? f2 = some ⟨.type "function", d2, x2, s2⟩) (hf3 : h.get? f3 = some ⟨.type "function", d3, x3, s3⟩) (hf4 : h.get? f4 = some ⟨.type "function", d4, x4, s4⟩) (hf5 : h.get? f5 = some ⟨.type "function", d5, x5, s5⟩) (hf6 : h.get? f6 = some ⟨.type "function", d6, x6, s6⟩) (hsa : h.get? sa = some ⟨.type "tuple", dsa, xsa, ssa⟩)
   (hb : n ≠ sysModules) (X : (Mine.hd.heap_39 w.params).In h) (hqn : qn = Str.ofString "cmp_to_key.<locals>.K")
   (hQ : ∀ gl ogl ns md a so sob mo mob hh1 hh2 tk1 tk2 tk h' t', LM h h' [(mo, mob), (so, sob), (md, mdO a tk), (a, cF a ns bt nt qt qn), (ns, nsF hs ks (.str mn mt) (.int fl ft) sl f1 f2 f3 f4 f5 f6 sa md hh1 hh2 tk1 tk2), (gl, ogl)] → Q (.ref a) ⟨h', g, d, t', os⟩) :
   wpAny (model PySem.Challenge.rw_oy0064_01.row.prog w) A (call (.type "type") [.str (Str.ofString "K") nt, .ref bt, .ref n]) Q E ⟨h, g, d, t, os⟩ := by
  refine wpAny_call (codeAny_of_tree ?_)
  show wpAny _ _ (callAny (.type "type") _) _ _ _
  unfold callAny
  refine wpAny_pure ⟨Code.quiet_builtin _ (by decide +kernel), codeAny_builtin entry_typeCall ?_⟩
  have m1 : Bind.madeBy (.type "type") = pure (some "type.__new__") := by kernel_rfl
  have m2 : checkTypeCall "type" ⟨[.str (Str.ofString "K") nt, .ref bt, .ref n], []⟩ = pure () := by kernel_rfl
  unfold Builtin.«type.__call__»
  repeat (first | (with_reducible refine bEq (by with_reducible assumption) ?_) | (with_reducible refine bLoad (by assumption) 0 rfl ?_) | (with_reducible refine bLoad (by assumption) 1 rfl ?_) | (with_reducible refine bLoad (by assumption) 2 rfl ?_) | (with_reducible refine bLoadPart (by assumption) 0 rfl ?_) | (with_reducible refine bLoadPart (by assumption) 1 rfl ?_) | (with_reducible refine bLoadPart (by assumption) 2 rfl ?_) | (with_reducible refine wpAny_of_eq (by with_reducible assumption) ?_) | (with_reducible refine bNsGet (r := none) (by assumption) 0 rfl (by kernel_rfl!) ?_) | (with_reducible refine bNsGet (r := none) (by assumption) 1 rfl (by kernel_rfl!) ?_) | (with_reducible refine bNsGet (r := none) (by assumption) 2 rfl (by kernel_rfl!) ?_) | (with_reducible refine wpAny_load (mOld0 (by assumption) (by assumption)) ?_) | (with_reducible refine wpAny_loadPart (mOld0 (by assumption) (by assumption)) ?_) | (with_reducible refine wpAny_bind (wpAny_load (mOld0 (by assumption) (by assumption)) ?_)) | (with_reducible refine wpAny_bind (wpAny_loadPart (mOld0 (by assumption) (by assumption)) ?_)) | (with_reducible refine wpAny_load (by assumption) ?_) | (with_reducible refine wpAny_loadPart (by assumption) ?_) | (with_reducible refine wpAny_bind (wpAny_load (by assumption) ?_)) | (with_reducible refine wpAny_bind (wpAny_loadPart (by assumption) ?_)) | (with_reducible refine wpAny_fresh ?_) | (with_reducible refine bPure ?_) | (with_reducible refine bAssoc ?_) | (with_reducible refine bRule ?_) | (with_reducible refine wpAny_pure ?_) | (with_reducible refine wpAny_holding ?_) | (with_reducible refine iteFb (by with_reducible assumption) ?_) | (with_reducible refine iteTb (by with_reducible assumption) ?_) | (with_reducible refine iteTd (by kernel_rfl!) ?_) | (with_reducible refine iteFd (by kernel_rfl!) ?_) | (with_reducible refine wpAny_bind ?_) | ((with_reducible show wpAny _ _ (typeLookup (Value.ref _) _) _ _ _); unfold typeLookup) | ((fail_if_success (with_reducible show wpAny _ _ (setSlotAt _ _ _) _ _ _)); (fail_if_success (with_reducible show wpAny _ _ (nsDel _ _) _ _ _)); (fail_if_success (with_reducible show wpAny _ _ (nsSet _ _ _) _ _ _)); (fail_if_success (with_reducible show wpAny _ _ (updateCls _ _) _ _ _)); (fail_if_success (with_reducible show wpAny _ _ (Sem.tryCatch _ _) _ _ _)); wp_delta))
  have c1 : ∀ x y z, checkBuiltinCall "type.__new__" ⟨[.type "type", .str (Str.ofString "K") x, .ref y, .ref z], []⟩ = pure () := fun _ _ _ => by kernel_rfl
  refine wpAny_call (codeAny_call_builtin_at (b := Builtin.«type.__new__») (Code.quiet_builtin _ (by decide +kernel)) (entryFor_of_fast (by kernel_rfl)) (wpAny_of_eq (c1 _ _ _) ?_))
  refine tnew hn hbt hsl hf1 hf2 hf3 hf4 hf5 hf6 hsa hb X hqn fun gl ogl ns md a so sob mo mob hh1 hh2 tk1 tk2 tk h' t' L => ?_
  have ha := L.at 3 rfl
  have i1 : typeLookup (.type "type") (Str.ofString "__init__") = pure (some (.builtin "type.__init__")) := by rw [typeLookup_type, builtinLookup_eq_fast]; kernel_rfl
  have i2 : bindSpecial (.builtin "type.__init__") (.ref a) = pure (.builtin "type.__init__", [.ref a]) := by kernel_rfl
  have i3 : isSubtype (.type "type") (.type "type") = pure true := by kernel_rfl
  dsimp only
  repeat (first | (with_reducible refine bEq (by with_reducible assumption) ?_) | (with_reducible refine bLoad (by assumption) 0 rfl ?_) | (with_reducible refine bLoad (by assumption) 1 rfl ?_) | (with_reducible refine bLoad (by assumption) 2 rfl ?_) | (with_reducible refine bLoadPart (by assumption) 0 rfl ?_) | (with_reducible refine bLoadPart (by assumption) 1 rfl ?_) | (with_reducible refine bLoadPart (by assumption) 2 rfl ?_) | (with_reducible refine wpAny_of_eq (by with_reducible assumption) ?_) | (with_reducible refine bNsGet (r := none) (by assumption) 0 rfl (by kernel_rfl!) ?_) | (with_reducible refine bNsGet (r := none) (by assumption) 1 rfl (by kernel_rfl!) ?_) | (with_reducible refine bNsGet (r := none) (by assumption) 2 rfl (by kernel_rfl!) ?_) | (with_reducible refine wpAny_load (mOld0 (by assumption) (by assumption)) ?_) | (with_reducible refine wpAny_loadPart (mOld0 (by assumption) (by assumption)) ?_) | (with_reducible refine wpAny_bind (wpAny_load (mOld0 (by assumption) (by assumption)) ?_)) | (with_reducible refine wpAny_bind (wpAny_loadPart (mOld0 (by assumption) (by assumption)) ?_)) | (with_reducible refine wpAny_load (by assumption) ?_) | (with_reducible refine wpAny_loadPart (by assumption) ?_) | (with_reducible refine wpAny_bind (wpAny_load (by assumption) ?_)) | (with_reducible refine wpAny_bind (wpAny_loadPart (by assumption) ?_)) | (with_reducible refine wpAny_fresh ?_) | (with_reducible refine bPure ?_) | (with_reducible refine bAssoc ?_) | (with_reducible refine bRule ?_) | (with_reducible refine wpAny_pure ?_) | (with_reducible refine wpAny_holding ?_) | (with_reducible refine iteFb (by with_reducible assumption) ?_) | (with_reducible refine iteTb (by with_reducible assumption) ?_) | (with_reducible refine iteTd (by kernel_rfl!) ?_) | (with_reducible refine iteFd (by kernel_rfl!) ?_) | (with_reducible refine wpAny_bind ?_) | ((with_reducible show wpAny _ _ (typeLookup (Value.ref _) _) _ _ _); unfold typeLookup) | ((fail_if_success (with_reducible show wpAny _ _ (setSlotAt _ _ _) _ _ _)); (fail_if_success (with_reducible show wpAny _ _ (nsDel _ _) _ _ _)); (fail_if_success (with_reducible show wpAny _ _ (nsSet _ _ _) _ _ _)); (fail_if_success (with_reducible show wpAny _ _ (updateCls _ _) _ _ _)); (fail_if_success (with_reducible show wpAny _ _ (Sem.tryCatch _ _) _ _ _)); wp_delta))
  subst hqn
  refine tInit ha fun h2 t2 D2 => ?_
  repeat (first | (with_reducible refine bEq (by with_reducible assumption) ?_) | (with_reducible refine bLoad (by assumption) 0 rfl ?_) | (with_reducible refine bLoad (by assumption) 1 rfl ?_) | (with_reducible refine bLoad (by assumption) 2 rfl ?_) | (with_reducible refine bLoadPart (by assumption) 0 rfl ?_) | (with_reducible refine bLoadPart (by assumption) 1 rfl ?_) | (with_reducible refine bLoadPart (by assumption) 2 rfl ?_) | (with_reducible refine wpAny_of_eq (by with_reducible assumption) ?_) | (with_reducible refine bNsGet (r := none) (by assumption) 0 rfl (by kernel_rfl!) ?_) | (with_reducible refine bNsGet (r := none) (by assumption) 1 rfl (by kernel_rfl!) ?_) | (with_reducible refine bNsGet (r := none) (by assumption) 2 rfl (by kernel_rfl!) ?_) | (with_reducible refine wpAny_load (mOld0 (by assumption) (by assumption)) ?_) | (with_reducible refine wpAny_loadPart (mOld0 (by assumption) (by assumption)) ?_) | (with_reducible refine wpAny_bind (wpAny_load (mOld0 (by assumption) (by assumption)) ?_)) | (with_reducible refine wpAny_bind (wpAny_loadPart (mOld0 (by assumption) (by assumption)) ?_)) | (with_reducible refine wpAny_load (by assumption) ?_) | (with_reducible refine wpAny_loadPart (by assumption) ?_) | (with_reducible refine wpAny_bind (wpAny_load (by assumption) ?_)) | (with_reducible refine wpAny_bind (wpAny_loadPart (by assumption) ?_)) | (with_reducible refine wpAny_fresh ?_) | (with_reducible refine bPure ?_) | (with_reducible refine bAssoc ?_) | (with_reducible refine bRule ?_) | (with_reducible refine wpAny_pure ?_) | (with_reducible refine wpAny_holding ?_) | (with_reducible refine iteFb (by with_reducible assumption) ?_) | (with_reducible refine iteTb (by with_reducible assumption) ?_) | (with_reducible refine iteTd (by kernel_rfl!) ?_) | (with_reducible refine iteFd (by kernel_rfl!) ?_) | (with_reducible refine wpAny_bind ?_) | ((with_reducible show wpAny _ _ (typeLookup (Value.ref _) _) _ _ _); unfold typeLookup) | ((fail_if_success (with_reducible show wpAny _ _ (setSlotAt _ _ _) _ _ _)); (fail_if_success (with_reducible show wpAny _ _ (nsDel _ _) _ _ _)); (fail_if_success (with_reducible show wpAny _ _ (nsSet _ _ _) _ _ _)); (fail_if_success (with_reducible show wpAny _ _ (updateCls _ _) _ _ _)); (fail_if_success (with_reducible show wpAny _ _ (Sem.tryCatch _ _) _ _ _)); wp_delta))
  exact hQ _ _ _ _ _ _ _ _ _ _ _ _ _ _ _ _ (L.trans (LM.of D2))
end Mine
end PartTC
section PartLXd
open PySem PySem.W PySem.Calls PyProof.Rows PySem.W.X
set_option maxRecDepth 100000
set_option maxHeartbeats 8000000
namespace Mine
/-- a ledger over a base of which one object, at T, may turn -/
structure LX (h₀ h : Heap) (T : Addr) (news : List (Addr × Obj)) : Prop where
  keep : ∀ b o, h₀.get? b = some o → b ≠ T → h.get? b = some o
  nw : ∀ p ∈ news, h.get? p.1 = some p.2 ∧ (h₀.get? p.1 = none ∨ p.1 = T)
  pw : (news.map (·.1)).Pairwise (· ≠ ·)
  tin : T ∈ news.map (·.1)
theorem LX.start {h : Heap} {T : Addr} {o : Obj} (e : h.get? T = some o) : LX h h T [(T, o)] :=
  ⟨fun _ _ e _ => e, fun p hp => by rw [List.mem_singleton] at hp; subst hp; exact ⟨e, .inr rfl⟩, List.pairwise_singleton _ _, .head _⟩
section
variable {h₀ h h' : Heap} {T : Addr} {news n2 : List (Addr × Obj)}
theorem LX.at (D : LX h₀ h T news) (i : Nat) {a : Addr} {o : Obj} (hi : news[i]? = some (a, o)) : h.get? a = some o := (D.nw _ (List.mem_of_getElem? hi)).1
theorem LX.old (D : LX h₀ h T news) {a : Addr} {o : Obj} (e : h₀.get? a = some o) (hT : a ≠ T) : h.get? a = some o := D.keep a o e hT
theorem LX.ns {a : Addr} {m : Str → Option Value} (D : LX h₀ h T news) (n : h₀.Ns a m) (hT : a ≠ T) : h.Ns a m := let ⟨o, es, ep, e, r⟩ := n; ⟨o, es, ep, D.old e hT, r⟩
theorem LX.sub {news' : List (Addr × Obj)} (D : LX h₀ h T news) (hs : news'.Sublist news) (ht : T ∈ news'.map (·.1)) : LX h₀ h T news' := ⟨D.keep, fun p hp => D.nw p (hs.subset hp), D.pw.sublist (hs.map _), ht⟩
theorem LX.perm {news' : List (Addr × Obj)} (D : LX h₀ h T news) (hp : news.Perm news') : LX h₀ h T news' := ⟨D.keep, fun p hm => D.nw p (hp.symm.subset hm), ((hp.map _).pairwise_iff (fun e => Ne.symm e)).mp D.pw, (hp.map _).subset D.tin⟩
theorem LX.has (D : LX h₀ h T news) : ∃ o, h.get? T = some o := by
  obtain ⟨p, hp, e⟩ := List.mem_map.mp D.tin
  exact ⟨p.2, e ▸ (D.nw p hp).1⟩
theorem LX.fresh (D : LX h₀ h T news) {a : Addr} (e : h.get? a = none) : h₀.get? a = none := by
  cases q : h₀.get? a with
  | none => rfl
  | some o =>
    by_cases hT : a = T
    · subst hT
      obtain ⟨o', e'⟩ := D.has
      rw [e] at e'; cases e'
    · rw [D.keep a o q hT] at e; cases e
theorem LX.trans (D : LX h₀ h T news) (D' : LM h h' n2) : LX h₀ h' T (n2 ++ news) := by
  refine ⟨fun b o e ne => D'.keep b o (D.keep b o e ne), fun p hp => ?_, ?_, by rw [List.map_append]; exact List.mem_append_right _ D.tin⟩
  · rcases List.mem_append.mp hp with hp | hp
    · exact ⟨(D'.nw p hp).1, .inl (D.fresh (D'.nw p hp).2)⟩
    · exact ⟨D'.keep _ _ (D.nw p hp).1, (D.nw p hp).2⟩
  · rw [List.map_append]
    refine List.pairwise_append.mpr ⟨D'.pw, D.pw, fun x hx y hy e => ?_⟩
    obtain ⟨p, hp, rfl⟩ := List.mem_map.mp hx
    obtain ⟨q, hq, rfl⟩ := List.mem_map.mp hy
    have z := (D'.nw p hp).2
    rw [e, (D.nw q hq).1] at z
    cases z
theorem LX.alloc (D : LX h₀ h T news) {o : Obj} (hf : o.isFreed = false) : LX h₀ (h.push o) T ((h.objs.size, o) :: news) :=
  D.trans (n2 := [(h.objs.size, o)]) (LM.of ((Mem.start h).alloc hf))
theorem LX.update (D : LX h₀ h T news) {i : Nat} {a : Addr} {o : Obj} {f : Obj → Obj} (hi : news[i]? = some (a, o)) (hf : (f o).isFreed = false) : LX h₀ (h.update a f) T (news.set i (a, f o)) := by
  have ho := D.at i hi
  have z := D.nw (a, o) (List.mem_of_getElem? hi)
  have sp := pairwise_split hi
  have hs : Heap.SameBut a h (h.update a f) := Heap.SameBut.update ..
  have pw' := D.pw
  rw [sp, List.map_append, List.map_cons] at pw'
  have p1 : ∀ p ∈ news.take i, p.1 ≠ a := fun p hp => (List.pairwise_append.mp pw').2.2 p.1 (List.mem_map_of_mem hp) a (.head _)
  have p2 : ∀ p ∈ news.drop (i + 1), p.1 ≠ a := fun p hp => Ne.symm ((List.pairwise_cons.mp (List.pairwise_append.mp pw').2.1).1 p.1 (List.mem_map_of_mem hp))
  have ge : (h.update a f).get? a = some (f o) := by first | exact Heap.get?_update_self f ho hf | exact Heap.get?_update_self _ ho hf
  have e : news.set i (a, f o) = news.take i ++ (a, f o) :: news.drop (i + 1) := by
    obtain ⟨hl, _⟩ := List.getElem?_eq_some_iff.mp hi
    exact List.set_eq_take_append_cons_drop.trans (if_pos hl)
  have em : (news.set i (a, f o)).map (·.1) = news.map (·.1) := by
    rw [e, sp]
    simp only [List.map_append, List.map_cons]
    rw [← sp]
  refine ⟨fun b o' e' ne => ?_, fun p hp => ?_, by rw [em]; exact D.pw, by rw [em]; exact D.tin⟩
  · refine (hs.2 b fun q => ?_).trans (D.keep b o' e' ne)
    subst q
    rcases z.2 with q | q
    · rw [e'] at q; cases q
    · exact ne q
  · rw [e] at hp
    rcases List.mem_append.mp hp with hp | hp
    · have y := D.nw p (by rw [sp]; exact List.mem_append.mpr (.inl hp))
      exact ⟨(hs.2 _ (p1 p hp)).trans y.1, y.2⟩
    · rcases List.mem_cons.mp hp with rfl | hp
      · exact ⟨ge, z.2⟩
      · have y := D.nw p (by rw [sp]; exact List.mem_append.mpr (.inr (.tail _ hp)))
        exact ⟨(hs.2 _ (p2 p hp)).trans y.1, y.2⟩
end
section
variable {prog : Program} {w : World} {A : Around} {E : Value → Shared → Prop} {h₀ hp : Heap} {g : Array GenState} {d : Drawn} {t : Nat} {os : OsState} {T : Addr} {news : List (Addr × Obj)} {α β : Type}
theorem fresh5 {Q : Tok → Shared → Prop} (h : Q t ⟨hp, g, d, t + 1, os⟩) : wpAny (model prog w) A fresh Q E ⟨hp, g, d, t, os⟩ := wpAny_fresh h
theorem text5 {x : Str} {Q : Value → Shared → Prop} (h : Q (.str x t) ⟨hp, g, d, t + 1, os⟩) : wpAny (model prog w) A (mkText x) Q E ⟨hp, g, d, t, os⟩ := wpAny_mkText h
theorem xAlloc {o : Obj} {Q : Addr → Shared → Prop} (D : LX h₀ hp T news) (hf : o.isFreed = false) (h : ∀ a h', LX h₀ h' T ((a, o) :: news) → Q a ⟨h', g, d, t, os⟩) : wpAny (model prog w) A (alloc o) Q E ⟨hp, g, d, t, os⟩ := wpAny_alloc (h _ _ (D.alloc hf))
theorem xAllocO {o : Obj} {Q : Addr → Shared → Prop} (o' : Obj) (D : LX h₀ hp T news) (e : o = o') (hf : o'.isFreed = false) (h : ∀ a h', LX h₀ h' T ((a, o') :: news) → Q a ⟨h', g, d, t, os⟩) : wpAny (model prog w) A (alloc o) Q E ⟨hp, g, d, t, os⟩ := by
  subst e; exact wpAny_alloc (h _ _ (D.alloc hf))
theorem xUpdO {a : Addr} {q : Option Value} {u : Obj → Obj} {o : Obj} {Q : Unit → Shared → Prop} (o' : Obj) (D : LX h₀ hp T news) (i : Nat) (hi : news[i]? = some (a, o)) (hu : u o = o') (hf : o'.isFreed = false)
    (h : ∀ h', LX h₀ h' T (news.set i (a, o')) → Q () ⟨h', g, d, t, os⟩) : wpAny (model prog w) A (updatePart a q u) Q E ⟨hp, g, d, t, os⟩ := by
  subst hu; exact wpAny_updatePart (D.at i hi) (h _ (D.update hi hf))
theorem xNsGet {n : Addr} {name : Str} {o : Obj} {r : Option Value} {Q : Option Value → Shared → Prop} (D : LX h₀ hp T news) (i : Nat) (hi : news[i]? = some (n, o)) (e : nsLook name o = pure r) (h : Q r ⟨hp, g, d, t, os⟩) : wpAny (model prog w) A (nsGet n name) Q E ⟨hp, g, d, t, os⟩ := by
  unfold nsGet
  exact wpAny_bind (wpAny_loadPart (D.at i hi) (wpAny_of_eq e h))
theorem xSet {n : Addr} {name : Str} {v : Value} {o : Obj} {es : Array DictEntry} {m : Nat} {Q : Unit → Shared → Prop} (o' : Value → Int → Tok → Obj) (D : LX h₀ hp T news) (i : Nat) (hi : news[i]? = some (n, o)) (hd : o.data = .dict es m) (hr : aRefKeyMayBeTheName name es = false)
    (hu : ∀ hh t, Obj.putName name hh (.str name t) v o = o' v hh t) (hf : ∀ hh t, (o' v hh t).isFreed = false)
    (h : ∀ hh tk h' t', LX h₀ h' T (news.set i (n, o' v hh tk)) → Q () ⟨h', g, d, t', os⟩) : wpAny (model prog w) A (nsSet n name v) Q E ⟨hp, g, d, t, os⟩ := by
  unfold nsSet
  unfold strHash
  refine wpAny_bind (wpAny_bind (wpAny_askSetting (wpAny_pure ?_)))
  refine wpAny_bind (text5 ?_)
  refine wpAny_bind (wpAny_loadPart (D.at i hi) ?_)
  rw [hd]
  refine iteFb hr ?_
  exact xUpdO _ D i hi (hu _ _) (hf _ _) fun h' D' => h _ _ h' _ D'
theorem xSet2 {n : Addr} {name : Str} {v : Value} {o : Obj} {x0 x1 : Addr × Obj} {rest : List (Addr × Obj)} {es : Array DictEntry} {m : Nat} {Q : Unit → Shared → Prop} (o' : Value → Int → Tok → Obj) (D : LX h₀ hp T (x0 :: x1 :: (n, o) :: rest)) (hd : o.data = .dict es m) (hr : aRefKeyMayBeTheName name es = false)
    (hu : ∀ hh t, Obj.putName name hh (.str name t) v o = o' v hh t) (hf : ∀ hh t, (o' v hh t).isFreed = false)
    (h : ∀ hh tk h' t', LX h₀ h' T (x0 :: x1 :: (n, o' v hh tk) :: rest) → Q () ⟨h', g, d, t', os⟩) : wpAny (model prog w) A (nsSet n name v) Q E ⟨hp, g, d, t, os⟩ := xSet o' D 2 rfl hd hr hu hf fun hh tk h' t' D' => h hh tk h' t' D'
theorem xAlloc3 {o : Obj} {x0 x1 x2 : Addr × Obj} {rest : List (Addr × Obj)} {Q : Addr → Shared → Prop} (D : LX h₀ hp T (x0 :: x1 :: x2 :: rest)) (hf : o.isFreed = false) (h : ∀ a h', LX h₀ h' T (x0 :: x1 :: x2 :: (a, o) :: rest) → Q a ⟨h', g, d, t, os⟩) : wpAny (model prog w) A (alloc o) Q E ⟨hp, g, d, t, os⟩ :=
  xAlloc D hf fun a h' D' => h a h' (D'.perm ((List.perm_append_comm (l₁ := [(a, o)]) (l₂ := [x0, x1, x2])).append_right rest))
end
end Mine
end PartLXd
section PartPR
open PySem PySem.W PySem.Calls PyProof.Rows PySem.W.X
set_option maxRecDepth 100000
set_option maxHeartbeats 8000000
namespace Mine
local macro_rules | `(tactic| x_close) => `(tactic| (apply_assumption; first | assumption | exact Mem.start _))
theorem tgaPrep {w : World} {A : Around} {Q E : Value → Shared → Prop} {h : Heap} {g : Array GenState} {d : Drawn} {t k : Nat} {os : OsState}
   (hQ : ∀ mo h' t', Mem h h' [] [(mo, { cls := .type "builtin_function_or_method", data := .fields #[.builtin "type.__prepare__", .type "type"] })] → Q (.ref mo) ⟨h', g, d, t', os⟩) :
   wpAny (model PySem.Challenge.rw_oy0064_01.row.prog w) A (call (.builtin "type.__getattribute__") [.type "type", .str (Str.ofString "__prepare__") k]) Q E ⟨h, g, d, t, os⟩ := by
  x_run
theorem getPrep {w : World} {A : Around} {Q E : Value → Shared → Prop} {h : Heap} {g : Array GenState} {d : Drawn} {t k : Nat} {os : OsState}
   (hQ : ∀ mo h' t', Mem h h' [] [(mo, { cls := .type "builtin_function_or_method", data := .fields #[.builtin "type.__prepare__", .type "type"] })] → Q (.ref mo) ⟨h', g, d, t', os⟩) :
   wpAny (model PySem.Challenge.rw_oy0064_01.row.prog w) A (getAttrBy (.type "type") (.str (Str.ofString "__prepare__") k) false) Q E ⟨h, g, d, t, os⟩ := by
  have p1 : typeLookup (.type "type") (Str.ofString "__getattribute__") = pure (some (.builtin "type.__getattribute__")) := by rw [typeLookup_type, builtinLookup_eq_fast]; kernel_rfl
  have p2 : typeOf (.type "type") = pure (.type "type") := by kernel_rfl
  have p3 : bindSpecial (.builtin "type.__getattribute__") (.type "type") = pure (.builtin "type.__getattribute__", [.type "type"]) := by kernel_rfl
  unfold getAttrBy
  repeat (first | (with_reducible refine wpAny_of_eq (by with_reducible assumption) ?_) | (with_reducible refine bEq (by with_reducible assumption) ?_) | (with_reducible refine bPure ?_) | (with_reducible refine bAssoc ?_) | (with_reducible refine bRule ?_) | (with_reducible refine wpAny_pure ?_) | (with_reducible refine wpAny_holding ?_) | (with_reducible refine wpAny_standAt ?_) | (with_reducible refine wpAny_point ?_) | (with_reducible refine wpAny_rule ?_) | (with_reducible refine wpAny_fresh ?_) | (with_reducible refine wpAny_attempt ?_) | ((with_reducible show wpAny _ _ (loadPart _ _) _ _ _); (with_reducible first | refine wpAny_loadPart (LX.at (by assumption) 0 rfl) ?_ | refine wpAny_loadPart (LX.at (by assumption) 1 rfl) ?_ | refine wpAny_loadPart (LX.at (by assumption) 2 rfl) ?_ | refine wpAny_loadPart (LX.at (by assumption) 3 rfl) ?_ | refine wpAny_loadPart (LX.at (by assumption) 4 rfl) ?_ | refine wpAny_loadPart (LX.at (by assumption) 5 rfl) ?_ | refine wpAny_loadPart (LX.at (by assumption) 6 rfl) ?_ | refine wpAny_loadPart (LX.at (by assumption) 7 rfl) ?_ | refine wpAny_loadPart (LX.old (by assumption) (by assumption) (by decide)) ?_ | refine wpAny_loadPart (by assumption) ?_)) | ((with_reducible show wpAny _ _ (load _) _ _ _); (with_reducible first | refine wpAny_load (LX.at (by assumption) 0 rfl) ?_ | refine wpAny_load (LX.at (by assumption) 1 rfl) ?_ | refine wpAny_load (LX.at (by assumption) 2 rfl) ?_ | refine wpAny_load (LX.at (by assumption) 3 rfl) ?_ | refine wpAny_load (LX.at (by assumption) 4 rfl) ?_ | refine wpAny_load (LX.at (by assumption) 5 rfl) ?_ | refine wpAny_load (LX.at (by assumption) 6 rfl) ?_ | refine wpAny_load (LX.at (by assumption) 7 rfl) ?_ | refine wpAny_load (LX.old (by assumption) (by assumption) (by decide)) ?_ | refine wpAny_load (by assumption) ?_)) | (with_reducible refine iteFb (by with_reducible assumption) ?_) | (with_reducible refine iteTb (by with_reducible assumption) ?_) | (with_reducible refine iteTd (by kernel_rfl!) ?_) | (with_reducible refine iteFd (by kernel_rfl!) ?_) | (with_reducible refine wpAny_bind ?_) | ((with_reducible show wpAny _ _ (typeLookup (Value.ref _) _) _ _ _); unfold typeLookup) | ((fail_if_success (with_reducible show wpAny _ _ (alloc _) _ _ _)); (fail_if_success (with_reducible show wpAny _ _ (updatePart _ _ _) _ _ _)); (fail_if_success (with_reducible show wpAny _ _ (nsSet _ _ _) _ _ _)); (fail_if_success (with_reducible show wpAny _ _ (enterFrame) _ _ _)); (fail_if_success (with_reducible show wpAny _ _ (nsGet _ _) _ _ _)); (fail_if_success (with_reducible show wpAny _ _ (call _ _ _) _ _ _)); (fail_if_success (with_reducible show wpAny _ _ (Sem.tryCatch _ _) _ _ _)); (fail_if_success (with_reducible show wpAny _ _ (Sem.onRaise _ _) _ _ _)); wp_delta))
  refine tgaPrep fun mo h' t' D' => ?_
  repeat (first | (with_reducible refine wpAny_of_eq (by with_reducible assumption) ?_) | (with_reducible refine bEq (by with_reducible assumption) ?_) | (with_reducible refine bPure ?_) | (with_reducible refine bAssoc ?_) | (with_reducible refine bRule ?_) | (with_reducible refine wpAny_pure ?_) | (with_reducible refine wpAny_holding ?_) | (with_reducible refine wpAny_standAt ?_) | (with_reducible refine wpAny_point ?_) | (with_reducible refine wpAny_rule ?_) | (with_reducible refine wpAny_fresh ?_) | (with_reducible refine wpAny_attempt ?_) | ((with_reducible show wpAny _ _ (loadPart _ _) _ _ _); (with_reducible first | refine wpAny_loadPart (LX.at (by assumption) 0 rfl) ?_ | refine wpAny_loadPart (LX.at (by assumption) 1 rfl) ?_ | refine wpAny_loadPart (LX.at (by assumption) 2 rfl) ?_ | refine wpAny_loadPart (LX.at (by assumption) 3 rfl) ?_ | refine wpAny_loadPart (LX.at (by assumption) 4 rfl) ?_ | refine wpAny_loadPart (LX.at (by assumption) 5 rfl) ?_ | refine wpAny_loadPart (LX.at (by assumption) 6 rfl) ?_ | refine wpAny_loadPart (LX.at (by assumption) 7 rfl) ?_ | refine wpAny_loadPart (LX.old (by assumption) (by assumption) (by decide)) ?_ | refine wpAny_loadPart (by assumption) ?_)) | ((with_reducible show wpAny _ _ (load _) _ _ _); (with_reducible first | refine wpAny_load (LX.at (by assumption) 0 rfl) ?_ | refine wpAny_load (LX.at (by assumption) 1 rfl) ?_ | refine wpAny_load (LX.at (by assumption) 2 rfl) ?_ | refine wpAny_load (LX.at (by assumption) 3 rfl) ?_ | refine wpAny_load (LX.at (by assumption) 4 rfl) ?_ | refine wpAny_load (LX.at (by assumption) 5 rfl) ?_ | refine wpAny_load (LX.at (by assumption) 6 rfl) ?_ | refine wpAny_load (LX.at (by assumption) 7 rfl) ?_ | refine wpAny_load (LX.old (by assumption) (by assumption) (by decide)) ?_ | refine wpAny_load (by assumption) ?_)) | (with_reducible refine iteFb (by with_reducible assumption) ?_) | (with_reducible refine iteTb (by with_reducible assumption) ?_) | (with_reducible refine iteTd (by kernel_rfl!) ?_) | (with_reducible refine iteFd (by kernel_rfl!) ?_) | (with_reducible refine wpAny_bind ?_) | ((with_reducible show wpAny _ _ (typeLookup (Value.ref _) _) _ _ _); unfold typeLookup) | ((fail_if_success (with_reducible show wpAny _ _ (alloc _) _ _ _)); (fail_if_success (with_reducible show wpAny _ _ (updatePart _ _ _) _ _ _)); (fail_if_success (with_reducible show wpAny _ _ (nsSet _ _ _) _ _ _)); (fail_if_success (with_reducible show wpAny _ _ (enterFrame) _ _ _)); (fail_if_success (with_reducible show wpAny _ _ (nsGet _ _) _ _ _)); (fail_if_success (with_reducible show wpAny _ _ (call _ _ _) _ _ _)); (fail_if_success (with_reducible show wpAny _ _ (Sem.tryCatch _ _) _ _ _)); (fail_if_success (with_reducible show wpAny _ _ (Sem.onRaise _ _) _ _ _)); wp_delta))
  exact hQ _ _ _ D'
theorem callPrep {w : World} {A : Around} {Q E : Value → Shared → Prop} {h : Heap} {g : Array GenState} {d : Drawn} {t k : Nat} {os : OsState} {mo bt : Addr}
   (hm : h.get? mo = some { cls := .type "builtin_function_or_method", data := .fields #[.builtin "type.__prepare__", .type "type"] }) (hs : sysModules < h.objs.size)
   (hQ : ∀ n h' t', n ≠ sysModules → Mem h h' [] [(n, { cls := .type "dict", data := .dict #[] })] → Q (.ref n) ⟨h', g, d, t', os⟩) :
   wpAny (model PySem.Challenge.rw_oy0064_01.row.prog w) A (call (.ref mo) [.str (Str.ofString "K") k, .ref bt]) Q E ⟨h, g, d, t, os⟩ := by
  refine wpAny_call (codeAny_of_tree ?_)
  show wpAny _ _ (callAny (.ref mo) _) _ _ _
  unfold callAny
  repeat ((fail_if_success (with_reducible show wpAny _ _ (checkBoundCall _ _ >>= _) _ _ _)); (fail_if_success (with_reducible show wpAny _ _ (checkBoundCall _ _) _ _ _)); (first | (with_reducible refine wpAny_of_eq (by with_reducible assumption) ?_) | (with_reducible refine bEq (by with_reducible assumption) ?_) | (with_reducible refine bPure ?_) | (with_reducible refine bAssoc ?_) | (with_reducible refine bRule ?_) | (with_reducible refine wpAny_pure ?_) | (with_reducible refine wpAny_holding ?_) | (with_reducible refine wpAny_standAt ?_) | (with_reducible refine wpAny_point ?_) | (with_reducible refine wpAny_rule ?_) | (with_reducible refine wpAny_fresh ?_) | (with_reducible refine wpAny_attempt ?_) | ((with_reducible show wpAny _ _ (loadPart _ _) _ _ _); (with_reducible first | refine wpAny_loadPart (LX.at (by assumption) 0 rfl) ?_ | refine wpAny_loadPart (LX.at (by assumption) 1 rfl) ?_ | refine wpAny_loadPart (LX.at (by assumption) 2 rfl) ?_ | refine wpAny_loadPart (LX.at (by assumption) 3 rfl) ?_ | refine wpAny_loadPart (LX.at (by assumption) 4 rfl) ?_ | refine wpAny_loadPart (LX.at (by assumption) 5 rfl) ?_ | refine wpAny_loadPart (LX.at (by assumption) 6 rfl) ?_ | refine wpAny_loadPart (LX.at (by assumption) 7 rfl) ?_ | refine wpAny_loadPart (LX.old (by assumption) (by assumption) (by decide)) ?_ | refine wpAny_loadPart (by assumption) ?_)) | ((with_reducible show wpAny _ _ (load _) _ _ _); (with_reducible first | refine wpAny_load (LX.at (by assumption) 0 rfl) ?_ | refine wpAny_load (LX.at (by assumption) 1 rfl) ?_ | refine wpAny_load (LX.at (by assumption) 2 rfl) ?_ | refine wpAny_load (LX.at (by assumption) 3 rfl) ?_ | refine wpAny_load (LX.at (by assumption) 4 rfl) ?_ | refine wpAny_load (LX.at (by assumption) 5 rfl) ?_ | refine wpAny_load (LX.at (by assumption) 6 rfl) ?_ | refine wpAny_load (LX.at (by assumption) 7 rfl) ?_ | refine wpAny_load (LX.old (by assumption) (by assumption) (by decide)) ?_ | refine wpAny_load (by assumption) ?_)) | (with_reducible refine iteFb (by with_reducible assumption) ?_) | (with_reducible refine iteTb (by with_reducible assumption) ?_) | (with_reducible refine iteTd (by kernel_rfl!) ?_) | (with_reducible refine iteFd (by kernel_rfl!) ?_) | (with_reducible refine wpAny_bind ?_) | ((with_reducible show wpAny _ _ (typeLookup (Value.ref _) _) _ _ _); unfold typeLookup) | ((fail_if_success (with_reducible show wpAny _ _ (alloc _) _ _ _)); (fail_if_success (with_reducible show wpAny _ _ (updatePart _ _ _) _ _ _)); (fail_if_success (with_reducible show wpAny _ _ (nsSet _ _ _) _ _ _)); (fail_if_success (with_reducible show wpAny _ _ (enterFrame) _ _ _)); (fail_if_success (with_reducible show wpAny _ _ (nsGet _ _) _ _ _)); (fail_if_success (with_reducible show wpAny _ _ (call _ _ _) _ _ _)); (fail_if_success (with_reducible show wpAny _ _ (Sem.tryCatch _ _) _ _ _)); (fail_if_success (with_reducible show wpAny _ _ (Sem.onRaise _ _) _ _ _)); wp_delta)))
  try with_reducible refine wpAny_bind ?_
  refine wpAny_of_eq (a := ()) (by kernel_rfl!) ?_
  repeat (first | (with_reducible refine wpAny_of_eq (by with_reducible assumption) ?_) | (with_reducible refine bEq (by with_reducible assumption) ?_) | (with_reducible refine bPure ?_) | (with_reducible refine bAssoc ?_) | (with_reducible refine bRule ?_) | (with_reducible refine wpAny_pure ?_) | (with_reducible refine wpAny_holding ?_) | (with_reducible refine wpAny_standAt ?_) | (with_reducible refine wpAny_point ?_) | (with_reducible refine wpAny_rule ?_) | (with_reducible refine wpAny_fresh ?_) | (with_reducible refine wpAny_attempt ?_) | ((with_reducible show wpAny _ _ (loadPart _ _) _ _ _); (with_reducible first | refine wpAny_loadPart (LX.at (by assumption) 0 rfl) ?_ | refine wpAny_loadPart (LX.at (by assumption) 1 rfl) ?_ | refine wpAny_loadPart (LX.at (by assumption) 2 rfl) ?_ | refine wpAny_loadPart (LX.at (by assumption) 3 rfl) ?_ | refine wpAny_loadPart (LX.at (by assumption) 4 rfl) ?_ | refine wpAny_loadPart (LX.at (by assumption) 5 rfl) ?_ | refine wpAny_loadPart (LX.at (by assumption) 6 rfl) ?_ | refine wpAny_loadPart (LX.at (by assumption) 7 rfl) ?_ | refine wpAny_loadPart (LX.old (by assumption) (by assumption) (by decide)) ?_ | refine wpAny_loadPart (by assumption) ?_)) | ((with_reducible show wpAny _ _ (load _) _ _ _); (with_reducible first | refine wpAny_load (LX.at (by assumption) 0 rfl) ?_ | refine wpAny_load (LX.at (by assumption) 1 rfl) ?_ | refine wpAny_load (LX.at (by assumption) 2 rfl) ?_ | refine wpAny_load (LX.at (by assumption) 3 rfl) ?_ | refine wpAny_load (LX.at (by assumption) 4 rfl) ?_ | refine wpAny_load (LX.at (by assumption) 5 rfl) ?_ | refine wpAny_load (LX.at (by assumption) 6 rfl) ?_ | refine wpAny_load (LX.at (by assumption) 7 rfl) ?_ | refine wpAny_load (LX.old (by assumption) (by assumption) (by decide)) ?_ | refine wpAny_load (by assumption) ?_)) | (with_reducible refine iteFb (by with_reducible assumption) ?_) | (with_reducible refine iteTb (by with_reducible assumption) ?_) | (with_reducible refine iteTd (by kernel_rfl!) ?_) | (with_reducible refine iteFd (by kernel_rfl!) ?_) | (with_reducible refine wpAny_bind ?_) | ((with_reducible show wpAny _ _ (typeLookup (Value.ref _) _) _ _ _); unfold typeLookup) | ((fail_if_success (with_reducible show wpAny _ _ (alloc _) _ _ _)); (fail_if_success (with_reducible show wpAny _ _ (updatePart _ _ _) _ _ _)); (fail_if_success (with_reducible show wpAny _ _ (nsSet _ _ _) _ _ _)); (fail_if_success (with_reducible show wpAny _ _ (enterFrame) _ _ _)); (fail_if_success (with_reducible show wpAny _ _ (nsGet _ _) _ _ _)); (fail_if_success (with_reducible show wpAny _ _ (call _ _ _) _ _ _)); (fail_if_success (with_reducible show wpAny _ _ (Sem.tryCatch _ _) _ _ _)); (fail_if_success (with_reducible show wpAny _ _ (Sem.onRaise _ _) _ _ _)); wp_delta))
  refine ⟨Code.quiet_builtin _ (by decide +kernel), codeAny_builtin (b := Builtin.«type.__prepare__») (entryFor_of_fast (by kernel_rfl)) ?_⟩
  unfold Builtin.«type.__prepare__»
  repeat (first | (with_reducible refine wpAny_of_eq (by with_reducible assumption) ?_) | (with_reducible refine bEq (by with_reducible assumption) ?_) | (with_reducible refine bPure ?_) | (with_reducible refine bAssoc ?_) | (with_reducible refine bRule ?_) | (with_reducible refine wpAny_pure ?_) | (with_reducible refine wpAny_holding ?_) | (with_reducible refine wpAny_standAt ?_) | (with_reducible refine wpAny_point ?_) | (with_reducible refine wpAny_rule ?_) | (with_reducible refine wpAny_fresh ?_) | (with_reducible refine wpAny_attempt ?_) | ((with_reducible show wpAny _ _ (loadPart _ _) _ _ _); (with_reducible first | refine wpAny_loadPart (LX.at (by assumption) 0 rfl) ?_ | refine wpAny_loadPart (LX.at (by assumption) 1 rfl) ?_ | refine wpAny_loadPart (LX.at (by assumption) 2 rfl) ?_ | refine wpAny_loadPart (LX.at (by assumption) 3 rfl) ?_ | refine wpAny_loadPart (LX.at (by assumption) 4 rfl) ?_ | refine wpAny_loadPart (LX.at (by assumption) 5 rfl) ?_ | refine wpAny_loadPart (LX.at (by assumption) 6 rfl) ?_ | refine wpAny_loadPart (LX.at (by assumption) 7 rfl) ?_ | refine wpAny_loadPart (LX.old (by assumption) (by assumption) (by decide)) ?_ | refine wpAny_loadPart (by assumption) ?_)) | ((with_reducible show wpAny _ _ (load _) _ _ _); (with_reducible first | refine wpAny_load (LX.at (by assumption) 0 rfl) ?_ | refine wpAny_load (LX.at (by assumption) 1 rfl) ?_ | refine wpAny_load (LX.at (by assumption) 2 rfl) ?_ | refine wpAny_load (LX.at (by assumption) 3 rfl) ?_ | refine wpAny_load (LX.at (by assumption) 4 rfl) ?_ | refine wpAny_load (LX.at (by assumption) 5 rfl) ?_ | refine wpAny_load (LX.at (by assumption) 6 rfl) ?_ | refine wpAny_load (LX.at (by assumption) 7 rfl) ?_ | refine wpAny_load (LX.old (by assumption) (by assumption) (by decide)) ?_ | refine wpAny_load (by assumption) ?_)) | (with_reducible refine iteFb (by with_reducible assumption) ?_) | (with_reducible refine iteTb (by with_reducible assumption) ?_) | (with_reducible refine iteTd (by kernel_rfl!) ?_) | (with_reducible refine iteFd (by kernel_rfl!) ?_) | (with_reducible refine wpAny_bind ?_) | ((with_reducible show wpAny _ _ (typeLookup (Value.ref _) _) _ _ _); unfold typeLookup) | ((fail_if_success (with_reducible show wpAny _ _ (alloc _) _ _ _)); (fail_if_success (with_reducible show wpAny _ _ (updatePart _ _ _) _ _ _)); (fail_if_success (with_reducible show wpAny _ _ (nsSet _ _ _) _ _ _)); (fail_if_success (with_reducible show wpAny _ _ (enterFrame) _ _ _)); (fail_if_success (with_reducible show wpAny _ _ (nsGet _ _) _ _ _)); (fail_if_success (with_reducible show wpAny _ _ (call _ _ _) _ _ _)); (fail_if_success (with_reducible show wpAny _ _ (Sem.tryCatch _ _) _ _ _)); (fail_if_success (with_reducible show wpAny _ _ (Sem.onRaise _ _) _ _ _)); wp_delta))
  refine wpAny_alloc ?_
  have D := (Mem.start h).alloc (o := { cls := .type "dict", data := .dict #[] }) rfl
  repeat (first | (with_reducible refine wpAny_of_eq (by with_reducible assumption) ?_) | (with_reducible refine bEq (by with_reducible assumption) ?_) | (with_reducible refine bPure ?_) | (with_reducible refine bAssoc ?_) | (with_reducible refine bRule ?_) | (with_reducible refine wpAny_pure ?_) | (with_reducible refine wpAny_holding ?_) | (with_reducible refine wpAny_standAt ?_) | (with_reducible refine wpAny_point ?_) | (with_reducible refine wpAny_rule ?_) | (with_reducible refine wpAny_fresh ?_) | (with_reducible refine wpAny_attempt ?_) | ((with_reducible show wpAny _ _ (loadPart _ _) _ _ _); (with_reducible first | refine wpAny_loadPart (LX.at (by assumption) 0 rfl) ?_ | refine wpAny_loadPart (LX.at (by assumption) 1 rfl) ?_ | refine wpAny_loadPart (LX.at (by assumption) 2 rfl) ?_ | refine wpAny_loadPart (LX.at (by assumption) 3 rfl) ?_ | refine wpAny_loadPart (LX.at (by assumption) 4 rfl) ?_ | refine wpAny_loadPart (LX.at (by assumption) 5 rfl) ?_ | refine wpAny_loadPart (LX.at (by assumption) 6 rfl) ?_ | refine wpAny_loadPart (LX.at (by assumption) 7 rfl) ?_ | refine wpAny_loadPart (LX.old (by assumption) (by assumption) (by decide)) ?_ | refine wpAny_loadPart (by assumption) ?_)) | ((with_reducible show wpAny _ _ (load _) _ _ _); (with_reducible first | refine wpAny_load (LX.at (by assumption) 0 rfl) ?_ | refine wpAny_load (LX.at (by assumption) 1 rfl) ?_ | refine wpAny_load (LX.at (by assumption) 2 rfl) ?_ | refine wpAny_load (LX.at (by assumption) 3 rfl) ?_ | refine wpAny_load (LX.at (by assumption) 4 rfl) ?_ | refine wpAny_load (LX.at (by assumption) 5 rfl) ?_ | refine wpAny_load (LX.at (by assumption) 6 rfl) ?_ | refine wpAny_load (LX.at (by assumption) 7 rfl) ?_ | refine wpAny_load (LX.old (by assumption) (by assumption) (by decide)) ?_ | refine wpAny_load (by assumption) ?_)) | (with_reducible refine iteFb (by with_reducible assumption) ?_) | (with_reducible refine iteTb (by with_reducible assumption) ?_) | (with_reducible refine iteTd (by kernel_rfl!) ?_) | (with_reducible refine iteFd (by kernel_rfl!) ?_) | (with_reducible refine wpAny_bind ?_) | ((with_reducible show wpAny _ _ (typeLookup (Value.ref _) _) _ _ _); unfold typeLookup) | ((fail_if_success (with_reducible show wpAny _ _ (alloc _) _ _ _)); (fail_if_success (with_reducible show wpAny _ _ (updatePart _ _ _) _ _ _)); (fail_if_success (with_reducible show wpAny _ _ (nsSet _ _ _) _ _ _)); (fail_if_success (with_reducible show wpAny _ _ (enterFrame) _ _ _)); (fail_if_success (with_reducible show wpAny _ _ (nsGet _ _) _ _ _)); (fail_if_success (with_reducible show wpAny _ _ (call _ _ _) _ _ _)); (fail_if_success (with_reducible show wpAny _ _ (Sem.tryCatch _ _) _ _ _)); (fail_if_success (with_reducible show wpAny _ _ (Sem.onRaise _ _) _ _ _)); wp_delta))
  exact hQ _ _ _ (Nat.ne_of_gt hs) D
end Mine
end PartPR
section PartFD
open PySem PySem.W PySem.Calls PyProof.Rows PySem.W.X
set_option maxRecDepth 100000
set_option maxHeartbeats 8000000
namespace Mine
/-- texts made one after another -/
theorem mapM_text {prog : Program} {w : World} {A : Around} {E : Value → Shared → Prop} {hp : Heap} {g : Array GenState} {d : Drawn} {os : OsState} : ∀ (l : List Str) (t : Nat) (Q : List Value → Shared → Prop), (∀ vs t', Q vs ⟨hp, g, d, t', os⟩) → wpAny (model prog w) A (l.mapM mkText) Q E ⟨hp, g, d, t, os⟩
  | [], t, Q, h => by
    rw [List.mapM_nil]
    exact wpAny_pure (h [] t)
  | x :: l, t, Q, h => by
    rw [List.mapM_cons]
    refine wpAny_bind (text5 (wpAny_bind (mapM_text l _ _ fun vs t' => wpAny_pure ?_)))
    exact h _ t'
section
variable {w : World} {A : Around} {E : Value → Shared → Prop} {h₀ h : Heap} {g : Array GenState} {d : Drawn} {t : Nat} {os : OsState} {T : Addr} {news : List (Addr × Obj)}
noncomputable abbrev codeO (name qual file : Str) (k0 k1 k2 k18 : Tok) (v3 v4 v5 v6 v7 v8 v9 v10 v12 v13 v14 v15 v16 v17 : Value) (tb : Addr) : Obj :=
  { cls := .type "code", data := .fields #[.str name k0, .str qual k1, .str file k2, v3, v4, v5, v6, v7, v8, v9, v10, .ref tb, v12, v13, v14, v15, v16, v17, .str file k18] }
theorem tabGrow {ps : Array Value} {pos : Pos} {c : Value} (hno : codeAmong pos ps.toList = none) : Obj.mapFields (fun vs => if (codeAmong pos vs.toList).isSome then vs else vs ++ #[rawInt pos.line, rawInt pos.col, c]) (tabObj ps) = tabObj (ps ++ #[rawInt pos.line, rawInt pos.col, c]) := by
  show ({ cls := _, dict := _, data := .fields (if (codeAmong pos ps.toList).isSome then ps else ps ++ #[rawInt pos.line, rawInt pos.col, c]), slots := _ } : Obj) = _
  rw [hno]; rfl
theorem fCode {env : Env} {kc tbl : Addr} {VS ps : Array Value} {pos : Pos} {fl : Nat} {name qual : Str} {p : Arguments} {scope : Scope} {body : FuncBody} {file : Str} {tf t7 t10 : Tok} {flags text : Int} {inF : Bool} {l1 l2 fns : List Str} {Q : Value → Shared → Prop}
   (D : LX h₀ h T news) (i j : Nat) (hk : news[i]? = some (kc, { cls := .type "code", data := .fields VS })) (ht : news[j]? = some (tbl, tabObj ps)) (hc : env.code = .ref kc)
   (v11 : VS.getD 11 .none = .ref tbl) (v18 : VS.getD 18 .none = .str file tf) (v7 : VS.getD 7 .none = .int flags t7) (v9 : VS.getD 9 .none = .bool inF) (v10 : VS.getD 10 .none = .int text t10)
   (hno : codeAmong pos ps.toList = none) (hyes : ∀ c, codeAmong pos (ps ++ #[rawInt pos.line, rawInt pos.col, .ref c]).toList = some (.ref c)) (hfree : scope.freeNames = fns) (hloc : localNames p scope body = some (l1, l2))
   (hQ : ∀ kf tb2 a1 a2 a3 a4 o1 o2 o3 o4 k0 k1 k2 k18 v3 v4 v5 v6 v7 v8 v9 v10 v12 v13 v14 v15 v16 v17 h' t',
      LX h₀ h' T (((kf, codeO name qual file k0 k1 k2 k18 v3 v4 v5 v6 v7 v8 v9 v10 v12 v13 v14 v15 v16 v17 tb2) :: (a4, o4) :: (a3, o3) :: (a2, o2) :: (tb2, tabObj #[]) :: (a1, o1) :: news).set (j + 6) (tbl, tabObj (ps ++ #[rawInt pos.line, rawInt pos.col, .ref kf]))) →
      Q (.ref kf) ⟨h', g, d, t', os⟩) :
   wpAny (model PySem.Challenge.rw_oy0064_01.row.prog w) A (functionCode env pos fl name qual p scope body) Q E ⟨h, g, d, t, os⟩ := by
  unfold functionCode codeAt
  have c0 : (env.code == Value.none) = false := by rw [hc]; rfl
  rw [hc]
  have kk := D.at i hk
  have kt := D.at j ht
  refine iteFd (by rfl) ?_
  repeat (first | (with_reducible refine wpAny_of_eq (by with_reducible assumption) ?_) | (with_reducible refine bEq (by with_reducible assumption) ?_) | (with_reducible refine bPure ?_) | (with_reducible refine bAssoc ?_) | (with_reducible refine bRule ?_) | (with_reducible refine wpAny_pure ?_) | (with_reducible refine wpAny_holding ?_) | (with_reducible refine wpAny_standAt ?_) | (with_reducible refine wpAny_point ?_) | (with_reducible refine wpAny_rule ?_) | (with_reducible refine fresh5 ?_) | (with_reducible refine wpAny_attempt ?_) | ((with_reducible show wpAny _ _ (loadPart _ _) _ _ _); (with_reducible first | refine wpAny_loadPart (by assumption) ?_ | refine wpAny_loadPart (LX.old (by assumption) (by assumption) (by decide)) ?_ | refine wpAny_loadPart (LX.at (by assumption) 0 rfl) ?_ | refine wpAny_loadPart (LX.at (by assumption) 1 rfl) ?_ | refine wpAny_loadPart (LX.at (by assumption) 2 rfl) ?_ | refine wpAny_loadPart (LX.at (by assumption) 3 rfl) ?_ | refine wpAny_loadPart (LX.at (by assumption) 4 rfl) ?_ | refine wpAny_loadPart (LX.at (by assumption) 5 rfl) ?_ | refine wpAny_loadPart (LX.at (by assumption) 6 rfl) ?_ | refine wpAny_loadPart (LX.at (by assumption) 7 rfl) ?_ | refine wpAny_loadPart (LX.at (by assumption) 8 rfl) ?_ | refine wpAny_loadPart (LX.at (by assumption) 9 rfl) ?_ | refine wpAny_loadPart (LX.at (by assumption) 10 rfl) ?_ | refine wpAny_loadPart (LX.at (by assumption) 11 rfl) ?_ | refine wpAny_loadPart (LX.at (by assumption) 12 rfl) ?_)) | ((with_reducible show wpAny _ _ (load _) _ _ _); (with_reducible first | refine wpAny_load (by assumption) ?_ | refine wpAny_load (LX.old (by assumption) (by assumption) (by decide)) ?_ | refine wpAny_load (LX.at (by assumption) 0 rfl) ?_ | refine wpAny_load (LX.at (by assumption) 1 rfl) ?_ | refine wpAny_load (LX.at (by assumption) 2 rfl) ?_ | refine wpAny_load (LX.at (by assumption) 3 rfl) ?_ | refine wpAny_load (LX.at (by assumption) 4 rfl) ?_ | refine wpAny_load (LX.at (by assumption) 5 rfl) ?_ | refine wpAny_load (LX.at (by assumption) 6 rfl) ?_ | refine wpAny_load (LX.at (by assumption) 7 rfl) ?_ | refine wpAny_load (LX.at (by assumption) 8 rfl) ?_ | refine wpAny_load (LX.at (by assumption) 9 rfl) ?_ | refine wpAny_load (LX.at (by assumption) 10 rfl) ?_ | refine wpAny_load (LX.at (by assumption) 11 rfl) ?_ | refine wpAny_load (LX.at (by assumption) 12 rfl) ?_)) | (with_reducible refine iteFb (by with_reducible assumption) ?_) | (with_reducible refine iteTb (by with_reducible assumption) ?_) | (with_reducible refine iteTd (by kernel_rfl!) ?_) | (with_reducible refine iteFd (by kernel_rfl!) ?_) | (with_reducible refine wpAny_bind ?_) | ((with_reducible show wpAny _ _ (typeLookup (Value.ref _) _) _ _ _); unfold typeLookup) | ((fail_if_success (with_reducible show wpAny _ _ (alloc _) _ _ _)); (fail_if_success (with_reducible show wpAny _ _ (updatePart _ _ _) _ _ _)); (fail_if_success (with_reducible show wpAny _ _ (nsSet _ _ _) _ _ _)); (fail_if_success (with_reducible show wpAny _ _ (enterFrame) _ _ _)); (fail_if_success (with_reducible show wpAny _ _ (nsGet _ _) _ _ _)); (fail_if_success (with_reducible show wpAny _ _ (List.mapM mkText _) _ _ _)); (fail_if_success (with_reducible show wpAny _ _ (functionCode _ _ _ _ _ _ _ _) _ _ _)); (fail_if_success (with_reducible show wpAny _ _ (makeFunction _ _ _ _ _ _ _ _ _ _ _) _ _ _)); (fail_if_success (with_reducible show wpAny _ _ (getAttrBy _ _ _) _ _ _)); (fail_if_success (with_reducible show wpAny _ _ (run _) _ _ _)); (fail_if_success (with_reducible show wpAny _ _ (call _ _ _) _ _ _)); (fail_if_success (with_reducible show wpAny _ _ (Sem.tryCatch _ _) _ _ _)); (fail_if_success (with_reducible show wpAny _ _ (Sem.onRaise _ _) _ _ _)); wp_delta))
  rw [v11]
  repeat (first | (with_reducible refine wpAny_of_eq (by with_reducible assumption) ?_) | (with_reducible refine bEq (by with_reducible assumption) ?_) | (with_reducible refine bPure ?_) | (with_reducible refine bAssoc ?_) | (with_reducible refine bRule ?_) | (with_reducible refine wpAny_pure ?_) | (with_reducible refine wpAny_holding ?_) | (with_reducible refine wpAny_standAt ?_) | (with_reducible refine wpAny_point ?_) | (with_reducible refine wpAny_rule ?_) | (with_reducible refine fresh5 ?_) | (with_reducible refine wpAny_attempt ?_) | ((with_reducible show wpAny _ _ (loadPart _ _) _ _ _); (with_reducible first | refine wpAny_loadPart (by assumption) ?_ | refine wpAny_loadPart (LX.old (by assumption) (by assumption) (by decide)) ?_ | refine wpAny_loadPart (LX.at (by assumption) 0 rfl) ?_ | refine wpAny_loadPart (LX.at (by assumption) 1 rfl) ?_ | refine wpAny_loadPart (LX.at (by assumption) 2 rfl) ?_ | refine wpAny_loadPart (LX.at (by assumption) 3 rfl) ?_ | refine wpAny_loadPart (LX.at (by assumption) 4 rfl) ?_ | refine wpAny_loadPart (LX.at (by assumption) 5 rfl) ?_ | refine wpAny_loadPart (LX.at (by assumption) 6 rfl) ?_ | refine wpAny_loadPart (LX.at (by assumption) 7 rfl) ?_ | refine wpAny_loadPart (LX.at (by assumption) 8 rfl) ?_ | refine wpAny_loadPart (LX.at (by assumption) 9 rfl) ?_ | refine wpAny_loadPart (LX.at (by assumption) 10 rfl) ?_ | refine wpAny_loadPart (LX.at (by assumption) 11 rfl) ?_ | refine wpAny_loadPart (LX.at (by assumption) 12 rfl) ?_)) | ((with_reducible show wpAny _ _ (load _) _ _ _); (with_reducible first | refine wpAny_load (by assumption) ?_ | refine wpAny_load (LX.old (by assumption) (by assumption) (by decide)) ?_ | refine wpAny_load (LX.at (by assumption) 0 rfl) ?_ | refine wpAny_load (LX.at (by assumption) 1 rfl) ?_ | refine wpAny_load (LX.at (by assumption) 2 rfl) ?_ | refine wpAny_load (LX.at (by assumption) 3 rfl) ?_ | refine wpAny_load (LX.at (by assumption) 4 rfl) ?_ | refine wpAny_load (LX.at (by assumption) 5 rfl) ?_ | refine wpAny_load (LX.at (by assumption) 6 rfl) ?_ | refine wpAny_load (LX.at (by assumption) 7 rfl) ?_ | refine wpAny_load (LX.at (by assumption) 8 rfl) ?_ | refine wpAny_load (LX.at (by assumption) 9 rfl) ?_ | refine wpAny_load (LX.at (by assumption) 10 rfl) ?_ | refine wpAny_load (LX.at (by assumption) 11 rfl) ?_ | refine wpAny_load (LX.at (by assumption) 12 rfl) ?_)) | (with_reducible refine iteFb (by with_reducible assumption) ?_) | (with_reducible refine iteTb (by with_reducible assumption) ?_) | (with_reducible refine iteTd (by kernel_rfl!) ?_) | (with_reducible refine iteFd (by kernel_rfl!) ?_) | (with_reducible refine wpAny_bind ?_) | ((with_reducible show wpAny _ _ (typeLookup (Value.ref _) _) _ _ _); unfold typeLookup) | ((fail_if_success (with_reducible show wpAny _ _ (alloc _) _ _ _)); (fail_if_success (with_reducible show wpAny _ _ (updatePart _ _ _) _ _ _)); (fail_if_success (with_reducible show wpAny _ _ (nsSet _ _ _) _ _ _)); (fail_if_success (with_reducible show wpAny _ _ (enterFrame) _ _ _)); (fail_if_success (with_reducible show wpAny _ _ (nsGet _ _) _ _ _)); (fail_if_success (with_reducible show wpAny _ _ (List.mapM mkText _) _ _ _)); (fail_if_success (with_reducible show wpAny _ _ (functionCode _ _ _ _ _ _ _ _) _ _ _)); (fail_if_success (with_reducible show wpAny _ _ (makeFunction _ _ _ _ _ _ _ _ _ _ _) _ _ _)); (fail_if_success (with_reducible show wpAny _ _ (getAttrBy _ _ _) _ _ _)); (fail_if_success (with_reducible show wpAny _ _ (run _) _ _ _)); (fail_if_success (with_reducible show wpAny _ _ (call _ _ _) _ _ _)); (fail_if_success (with_reducible show wpAny _ _ (Sem.tryCatch _ _) _ _ _)); (fail_if_success (with_reducible show wpAny _ _ (Sem.onRaise _ _) _ _ _)); wp_delta))
  rw [hno, v18, v7, v9, v10]
  repeat (first | (with_reducible refine wpAny_of_eq (by with_reducible assumption) ?_) | (with_reducible refine bEq (by with_reducible assumption) ?_) | (with_reducible refine bPure ?_) | (with_reducible refine bAssoc ?_) | (with_reducible refine bRule ?_) | (with_reducible refine wpAny_pure ?_) | (with_reducible refine wpAny_holding ?_) | (with_reducible refine wpAny_standAt ?_) | (with_reducible refine wpAny_point ?_) | (with_reducible refine wpAny_rule ?_) | (with_reducible refine fresh5 ?_) | (with_reducible refine wpAny_attempt ?_) | ((with_reducible show wpAny _ _ (loadPart _ _) _ _ _); (with_reducible first | refine wpAny_loadPart (by assumption) ?_ | refine wpAny_loadPart (LX.old (by assumption) (by assumption) (by decide)) ?_ | refine wpAny_loadPart (LX.at (by assumption) 0 rfl) ?_ | refine wpAny_loadPart (LX.at (by assumption) 1 rfl) ?_ | refine wpAny_loadPart (LX.at (by assumption) 2 rfl) ?_ | refine wpAny_loadPart (LX.at (by assumption) 3 rfl) ?_ | refine wpAny_loadPart (LX.at (by assumption) 4 rfl) ?_ | refine wpAny_loadPart (LX.at (by assumption) 5 rfl) ?_ | refine wpAny_loadPart (LX.at (by assumption) 6 rfl) ?_ | refine wpAny_loadPart (LX.at (by assumption) 7 rfl) ?_ | refine wpAny_loadPart (LX.at (by assumption) 8 rfl) ?_ | refine wpAny_loadPart (LX.at (by assumption) 9 rfl) ?_ | refine wpAny_loadPart (LX.at (by assumption) 10 rfl) ?_ | refine wpAny_loadPart (LX.at (by assumption) 11 rfl) ?_ | refine wpAny_loadPart (LX.at (by assumption) 12 rfl) ?_)) | ((with_reducible show wpAny _ _ (load _) _ _ _); (with_reducible first | refine wpAny_load (by assumption) ?_ | refine wpAny_load (LX.old (by assumption) (by assumption) (by decide)) ?_ | refine wpAny_load (LX.at (by assumption) 0 rfl) ?_ | refine wpAny_load (LX.at (by assumption) 1 rfl) ?_ | refine wpAny_load (LX.at (by assumption) 2 rfl) ?_ | refine wpAny_load (LX.at (by assumption) 3 rfl) ?_ | refine wpAny_load (LX.at (by assumption) 4 rfl) ?_ | refine wpAny_load (LX.at (by assumption) 5 rfl) ?_ | refine wpAny_load (LX.at (by assumption) 6 rfl) ?_ | refine wpAny_load (LX.at (by assumption) 7 rfl) ?_ | refine wpAny_load (LX.at (by assumption) 8 rfl) ?_ | refine wpAny_load (LX.at (by assumption) 9 rfl) ?_ | refine wpAny_load (LX.at (by assumption) 10 rfl) ?_ | refine wpAny_load (LX.at (by assumption) 11 rfl) ?_ | refine wpAny_load (LX.at (by assumption) 12 rfl) ?_)) | (with_reducible refine iteFb (by with_reducible assumption) ?_) | (with_reducible refine iteTb (by with_reducible assumption) ?_) | (with_reducible refine iteTd (by kernel_rfl!) ?_) | (with_reducible refine iteFd (by kernel_rfl!) ?_) | (with_reducible refine wpAny_bind ?_) | ((with_reducible show wpAny _ _ (typeLookup (Value.ref _) _) _ _ _); unfold typeLookup) | ((fail_if_success (with_reducible show wpAny _ _ (alloc _) _ _ _)); (fail_if_success (with_reducible show wpAny _ _ (updatePart _ _ _) _ _ _)); (fail_if_success (with_reducible show wpAny _ _ (nsSet _ _ _) _ _ _)); (fail_if_success (with_reducible show wpAny _ _ (enterFrame) _ _ _)); (fail_if_success (with_reducible show wpAny _ _ (nsGet _ _) _ _ _)); (fail_if_success (with_reducible show wpAny _ _ (List.mapM mkText _) _ _ _)); (fail_if_success (with_reducible show wpAny _ _ (functionCode _ _ _ _ _ _ _ _) _ _ _)); (fail_if_success (with_reducible show wpAny _ _ (makeFunction _ _ _ _ _ _ _ _ _ _ _) _ _ _)); (fail_if_success (with_reducible show wpAny _ _ (getAttrBy _ _ _) _ _ _)); (fail_if_success (with_reducible show wpAny _ _ (run _) _ _ _)); (fail_if_success (with_reducible show wpAny _ _ (call _ _ _) _ _ _)); (fail_if_success (with_reducible show wpAny _ _ (Sem.tryCatch _ _) _ _ _)); (fail_if_success (with_reducible show wpAny _ _ (Sem.onRaise _ _) _ _ _)); wp_delta))
  refine mapM_text _ _ _ fun vs1 u1 => ?_
  repeat (first | (with_reducible refine wpAny_of_eq (by with_reducible assumption) ?_) | (with_reducible refine bEq (by with_reducible assumption) ?_) | (with_reducible refine bPure ?_) | (with_reducible refine bAssoc ?_) | (with_reducible refine bRule ?_) | (with_reducible refine wpAny_pure ?_) | (with_reducible refine wpAny_holding ?_) | (with_reducible refine wpAny_standAt ?_) | (with_reducible refine wpAny_point ?_) | (with_reducible refine wpAny_rule ?_) | (with_reducible refine fresh5 ?_) | (with_reducible refine wpAny_attempt ?_) | ((with_reducible show wpAny _ _ (loadPart _ _) _ _ _); (with_reducible first | refine wpAny_loadPart (by assumption) ?_ | refine wpAny_loadPart (LX.old (by assumption) (by assumption) (by decide)) ?_ | refine wpAny_loadPart (LX.at (by assumption) 0 rfl) ?_ | refine wpAny_loadPart (LX.at (by assumption) 1 rfl) ?_ | refine wpAny_loadPart (LX.at (by assumption) 2 rfl) ?_ | refine wpAny_loadPart (LX.at (by assumption) 3 rfl) ?_ | refine wpAny_loadPart (LX.at (by assumption) 4 rfl) ?_ | refine wpAny_loadPart (LX.at (by assumption) 5 rfl) ?_ | refine wpAny_loadPart (LX.at (by assumption) 6 rfl) ?_ | refine wpAny_loadPart (LX.at (by assumption) 7 rfl) ?_ | refine wpAny_loadPart (LX.at (by assumption) 8 rfl) ?_ | refine wpAny_loadPart (LX.at (by assumption) 9 rfl) ?_ | refine wpAny_loadPart (LX.at (by assumption) 10 rfl) ?_ | refine wpAny_loadPart (LX.at (by assumption) 11 rfl) ?_ | refine wpAny_loadPart (LX.at (by assumption) 12 rfl) ?_)) | ((with_reducible show wpAny _ _ (load _) _ _ _); (with_reducible first | refine wpAny_load (by assumption) ?_ | refine wpAny_load (LX.old (by assumption) (by assumption) (by decide)) ?_ | refine wpAny_load (LX.at (by assumption) 0 rfl) ?_ | refine wpAny_load (LX.at (by assumption) 1 rfl) ?_ | refine wpAny_load (LX.at (by assumption) 2 rfl) ?_ | refine wpAny_load (LX.at (by assumption) 3 rfl) ?_ | refine wpAny_load (LX.at (by assumption) 4 rfl) ?_ | refine wpAny_load (LX.at (by assumption) 5 rfl) ?_ | refine wpAny_load (LX.at (by assumption) 6 rfl) ?_ | refine wpAny_load (LX.at (by assumption) 7 rfl) ?_ | refine wpAny_load (LX.at (by assumption) 8 rfl) ?_ | refine wpAny_load (LX.at (by assumption) 9 rfl) ?_ | refine wpAny_load (LX.at (by assumption) 10 rfl) ?_ | refine wpAny_load (LX.at (by assumption) 11 rfl) ?_ | refine wpAny_load (LX.at (by assumption) 12 rfl) ?_)) | (with_reducible refine iteFb (by with_reducible assumption) ?_) | (with_reducible refine iteTb (by with_reducible assumption) ?_) | (with_reducible refine iteTd (by kernel_rfl!) ?_) | (with_reducible refine iteFd (by kernel_rfl!) ?_) | (with_reducible refine wpAny_bind ?_) | ((with_reducible show wpAny _ _ (typeLookup (Value.ref _) _) _ _ _); unfold typeLookup) | ((fail_if_success (with_reducible show wpAny _ _ (alloc _) _ _ _)); (fail_if_success (with_reducible show wpAny _ _ (updatePart _ _ _) _ _ _)); (fail_if_success (with_reducible show wpAny _ _ (nsSet _ _ _) _ _ _)); (fail_if_success (with_reducible show wpAny _ _ (enterFrame) _ _ _)); (fail_if_success (with_reducible show wpAny _ _ (nsGet _ _) _ _ _)); (fail_if_success (with_reducible show wpAny _ _ (List.mapM mkText _) _ _ _)); (fail_if_success (with_reducible show wpAny _ _ (functionCode _ _ _ _ _ _ _ _) _ _ _)); (fail_if_success (with_reducible show wpAny _ _ (makeFunction _ _ _ _ _ _ _ _ _ _ _) _ _ _)); (fail_if_success (with_reducible show wpAny _ _ (getAttrBy _ _ _) _ _ _)); (fail_if_success (with_reducible show wpAny _ _ (run _) _ _ _)); (fail_if_success (with_reducible show wpAny _ _ (call _ _ _) _ _ _)); (fail_if_success (with_reducible show wpAny _ _ (Sem.tryCatch _ _) _ _ _)); (fail_if_success (with_reducible show wpAny _ _ (Sem.onRaise _ _) _ _ _)); wp_delta))
  refine xAlloc (by assumption) rfl fun a1 h1 D1 => ?_
  repeat (first | (with_reducible refine wpAny_of_eq (by with_reducible assumption) ?_) | (with_reducible refine bEq (by with_reducible assumption) ?_) | (with_reducible refine bPure ?_) | (with_reducible refine bAssoc ?_) | (with_reducible refine bRule ?_) | (with_reducible refine wpAny_pure ?_) | (with_reducible refine wpAny_holding ?_) | (with_reducible refine wpAny_standAt ?_) | (with_reducible refine wpAny_point ?_) | (with_reducible refine wpAny_rule ?_) | (with_reducible refine fresh5 ?_) | (with_reducible refine wpAny_attempt ?_) | ((with_reducible show wpAny _ _ (loadPart _ _) _ _ _); (with_reducible first | refine wpAny_loadPart (by assumption) ?_ | refine wpAny_loadPart (LX.old (by assumption) (by assumption) (by decide)) ?_ | refine wpAny_loadPart (LX.at (by assumption) 0 rfl) ?_ | refine wpAny_loadPart (LX.at (by assumption) 1 rfl) ?_ | refine wpAny_loadPart (LX.at (by assumption) 2 rfl) ?_ | refine wpAny_loadPart (LX.at (by assumption) 3 rfl) ?_ | refine wpAny_loadPart (LX.at (by assumption) 4 rfl) ?_ | refine wpAny_loadPart (LX.at (by assumption) 5 rfl) ?_ | refine wpAny_loadPart (LX.at (by assumption) 6 rfl) ?_ | refine wpAny_loadPart (LX.at (by assumption) 7 rfl) ?_ | refine wpAny_loadPart (LX.at (by assumption) 8 rfl) ?_ | refine wpAny_loadPart (LX.at (by assumption) 9 rfl) ?_ | refine wpAny_loadPart (LX.at (by assumption) 10 rfl) ?_ | refine wpAny_loadPart (LX.at (by assumption) 11 rfl) ?_ | refine wpAny_loadPart (LX.at (by assumption) 12 rfl) ?_)) | ((with_reducible show wpAny _ _ (load _) _ _ _); (with_reducible first | refine wpAny_load (by assumption) ?_ | refine wpAny_load (LX.old (by assumption) (by assumption) (by decide)) ?_ | refine wpAny_load (LX.at (by assumption) 0 rfl) ?_ | refine wpAny_load (LX.at (by assumption) 1 rfl) ?_ | refine wpAny_load (LX.at (by assumption) 2 rfl) ?_ | refine wpAny_load (LX.at (by assumption) 3 rfl) ?_ | refine wpAny_load (LX.at (by assumption) 4 rfl) ?_ | refine wpAny_load (LX.at (by assumption) 5 rfl) ?_ | refine wpAny_load (LX.at (by assumption) 6 rfl) ?_ | refine wpAny_load (LX.at (by assumption) 7 rfl) ?_ | refine wpAny_load (LX.at (by assumption) 8 rfl) ?_ | refine wpAny_load (LX.at (by assumption) 9 rfl) ?_ | refine wpAny_load (LX.at (by assumption) 10 rfl) ?_ | refine wpAny_load (LX.at (by assumption) 11 rfl) ?_ | refine wpAny_load (LX.at (by assumption) 12 rfl) ?_)) | (with_reducible refine iteFb (by with_reducible assumption) ?_) | (with_reducible refine iteTb (by with_reducible assumption) ?_) | (with_reducible refine iteTd (by kernel_rfl!) ?_) | (with_reducible refine iteFd (by kernel_rfl!) ?_) | (with_reducible refine wpAny_bind ?_) | ((with_reducible show wpAny _ _ (typeLookup (Value.ref _) _) _ _ _); unfold typeLookup) | ((fail_if_success (with_reducible show wpAny _ _ (alloc _) _ _ _)); (fail_if_success (with_reducible show wpAny _ _ (updatePart _ _ _) _ _ _)); (fail_if_success (with_reducible show wpAny _ _ (nsSet _ _ _) _ _ _)); (fail_if_success (with_reducible show wpAny _ _ (enterFrame) _ _ _)); (fail_if_success (with_reducible show wpAny _ _ (nsGet _ _) _ _ _)); (fail_if_success (with_reducible show wpAny _ _ (List.mapM mkText _) _ _ _)); (fail_if_success (with_reducible show wpAny _ _ (functionCode _ _ _ _ _ _ _ _) _ _ _)); (fail_if_success (with_reducible show wpAny _ _ (makeFunction _ _ _ _ _ _ _ _ _ _ _) _ _ _)); (fail_if_success (with_reducible show wpAny _ _ (getAttrBy _ _ _) _ _ _)); (fail_if_success (with_reducible show wpAny _ _ (run _) _ _ _)); (fail_if_success (with_reducible show wpAny _ _ (call _ _ _) _ _ _)); (fail_if_success (with_reducible show wpAny _ _ (Sem.tryCatch _ _) _ _ _)); (fail_if_success (with_reducible show wpAny _ _ (Sem.onRaise _ _) _ _ _)); wp_delta))
  refine xAllocO (tabObj #[]) (by assumption) rfl rfl fun tb2 h2 D2 => ?_
  rw [hloc]
  repeat (first | (with_reducible refine wpAny_of_eq (by with_reducible assumption) ?_) | (with_reducible refine bEq (by with_reducible assumption) ?_) | (with_reducible refine bPure ?_) | (with_reducible refine bAssoc ?_) | (with_reducible refine bRule ?_) | (with_reducible refine wpAny_pure ?_) | (with_reducible refine wpAny_holding ?_) | (with_reducible refine wpAny_standAt ?_) | (with_reducible refine wpAny_point ?_) | (with_reducible refine wpAny_rule ?_) | (with_reducible refine fresh5 ?_) | (with_reducible refine wpAny_attempt ?_) | ((with_reducible show wpAny _ _ (loadPart _ _) _ _ _); (with_reducible first | refine wpAny_loadPart (by assumption) ?_ | refine wpAny_loadPart (LX.old (by assumption) (by assumption) (by decide)) ?_ | refine wpAny_loadPart (LX.at (by assumption) 0 rfl) ?_ | refine wpAny_loadPart (LX.at (by assumption) 1 rfl) ?_ | refine wpAny_loadPart (LX.at (by assumption) 2 rfl) ?_ | refine wpAny_loadPart (LX.at (by assumption) 3 rfl) ?_ | refine wpAny_loadPart (LX.at (by assumption) 4 rfl) ?_ | refine wpAny_loadPart (LX.at (by assumption) 5 rfl) ?_ | refine wpAny_loadPart (LX.at (by assumption) 6 rfl) ?_ | refine wpAny_loadPart (LX.at (by assumption) 7 rfl) ?_ | refine wpAny_loadPart (LX.at (by assumption) 8 rfl) ?_ | refine wpAny_loadPart (LX.at (by assumption) 9 rfl) ?_ | refine wpAny_loadPart (LX.at (by assumption) 10 rfl) ?_ | refine wpAny_loadPart (LX.at (by assumption) 11 rfl) ?_ | refine wpAny_loadPart (LX.at (by assumption) 12 rfl) ?_)) | ((with_reducible show wpAny _ _ (load _) _ _ _); (with_reducible first | refine wpAny_load (by assumption) ?_ | refine wpAny_load (LX.old (by assumption) (by assumption) (by decide)) ?_ | refine wpAny_load (LX.at (by assumption) 0 rfl) ?_ | refine wpAny_load (LX.at (by assumption) 1 rfl) ?_ | refine wpAny_load (LX.at (by assumption) 2 rfl) ?_ | refine wpAny_load (LX.at (by assumption) 3 rfl) ?_ | refine wpAny_load (LX.at (by assumption) 4 rfl) ?_ | refine wpAny_load (LX.at (by assumption) 5 rfl) ?_ | refine wpAny_load (LX.at (by assumption) 6 rfl) ?_ | refine wpAny_load (LX.at (by assumption) 7 rfl) ?_ | refine wpAny_load (LX.at (by assumption) 8 rfl) ?_ | refine wpAny_load (LX.at (by assumption) 9 rfl) ?_ | refine wpAny_load (LX.at (by assumption) 10 rfl) ?_ | refine wpAny_load (LX.at (by assumption) 11 rfl) ?_ | refine wpAny_load (LX.at (by assumption) 12 rfl) ?_)) | (with_reducible refine iteFb (by with_reducible assumption) ?_) | (with_reducible refine iteTb (by with_reducible assumption) ?_) | (with_reducible refine iteTd (by kernel_rfl!) ?_) | (with_reducible refine iteFd (by kernel_rfl!) ?_) | (with_reducible refine wpAny_bind ?_) | ((with_reducible show wpAny _ _ (typeLookup (Value.ref _) _) _ _ _); unfold typeLookup) | ((fail_if_success (with_reducible show wpAny _ _ (alloc _) _ _ _)); (fail_if_success (with_reducible show wpAny _ _ (updatePart _ _ _) _ _ _)); (fail_if_success (with_reducible show wpAny _ _ (nsSet _ _ _) _ _ _)); (fail_if_success (with_reducible show wpAny _ _ (enterFrame) _ _ _)); (fail_if_success (with_reducible show wpAny _ _ (nsGet _ _) _ _ _)); (fail_if_success (with_reducible show wpAny _ _ (List.mapM mkText _) _ _ _)); (fail_if_success (with_reducible show wpAny _ _ (functionCode _ _ _ _ _ _ _ _) _ _ _)); (fail_if_success (with_reducible show wpAny _ _ (makeFunction _ _ _ _ _ _ _ _ _ _ _) _ _ _)); (fail_if_success (with_reducible show wpAny _ _ (getAttrBy _ _ _) _ _ _)); (fail_if_success (with_reducible show wpAny _ _ (run _) _ _ _)); (fail_if_success (with_reducible show wpAny _ _ (call _ _ _) _ _ _)); (fail_if_success (with_reducible show wpAny _ _ (Sem.tryCatch _ _) _ _ _)); (fail_if_success (with_reducible show wpAny _ _ (Sem.onRaise _ _) _ _ _)); wp_delta))
  refine mapM_text _ _ _ fun vs2 u2 => ?_
  repeat (first | (with_reducible refine wpAny_of_eq (by with_reducible assumption) ?_) | (with_reducible refine bEq (by with_reducible assumption) ?_) | (with_reducible refine bPure ?_) | (with_reducible refine bAssoc ?_) | (with_reducible refine bRule ?_) | (with_reducible refine wpAny_pure ?_) | (with_reducible refine wpAny_holding ?_) | (with_reducible refine wpAny_standAt ?_) | (with_reducible refine wpAny_point ?_) | (with_reducible refine wpAny_rule ?_) | (with_reducible refine fresh5 ?_) | (with_reducible refine wpAny_attempt ?_) | ((with_reducible show wpAny _ _ (loadPart _ _) _ _ _); (with_reducible first | refine wpAny_loadPart (by assumption) ?_ | refine wpAny_loadPart (LX.old (by assumption) (by assumption) (by decide)) ?_ | refine wpAny_loadPart (LX.at (by assumption) 0 rfl) ?_ | refine wpAny_loadPart (LX.at (by assumption) 1 rfl) ?_ | refine wpAny_loadPart (LX.at (by assumption) 2 rfl) ?_ | refine wpAny_loadPart (LX.at (by assumption) 3 rfl) ?_ | refine wpAny_loadPart (LX.at (by assumption) 4 rfl) ?_ | refine wpAny_loadPart (LX.at (by assumption) 5 rfl) ?_ | refine wpAny_loadPart (LX.at (by assumption) 6 rfl) ?_ | refine wpAny_loadPart (LX.at (by assumption) 7 rfl) ?_ | refine wpAny_loadPart (LX.at (by assumption) 8 rfl) ?_ | refine wpAny_loadPart (LX.at (by assumption) 9 rfl) ?_ | refine wpAny_loadPart (LX.at (by assumption) 10 rfl) ?_ | refine wpAny_loadPart (LX.at (by assumption) 11 rfl) ?_ | refine wpAny_loadPart (LX.at (by assumption) 12 rfl) ?_)) | ((with_reducible show wpAny _ _ (load _) _ _ _); (with_reducible first | refine wpAny_load (by assumption) ?_ | refine wpAny_load (LX.old (by assumption) (by assumption) (by decide)) ?_ | refine wpAny_load (LX.at (by assumption) 0 rfl) ?_ | refine wpAny_load (LX.at (by assumption) 1 rfl) ?_ | refine wpAny_load (LX.at (by assumption) 2 rfl) ?_ | refine wpAny_load (LX.at (by assumption) 3 rfl) ?_ | refine wpAny_load (LX.at (by assumption) 4 rfl) ?_ | refine wpAny_load (LX.at (by assumption) 5 rfl) ?_ | refine wpAny_load (LX.at (by assumption) 6 rfl) ?_ | refine wpAny_load (LX.at (by assumption) 7 rfl) ?_ | refine wpAny_load (LX.at (by assumption) 8 rfl) ?_ | refine wpAny_load (LX.at (by assumption) 9 rfl) ?_ | refine wpAny_load (LX.at (by assumption) 10 rfl) ?_ | refine wpAny_load (LX.at (by assumption) 11 rfl) ?_ | refine wpAny_load (LX.at (by assumption) 12 rfl) ?_)) | (with_reducible refine iteFb (by with_reducible assumption) ?_) | (with_reducible refine iteTb (by with_reducible assumption) ?_) | (with_reducible refine iteTd (by kernel_rfl!) ?_) | (with_reducible refine iteFd (by kernel_rfl!) ?_) | (with_reducible refine wpAny_bind ?_) | ((with_reducible show wpAny _ _ (typeLookup (Value.ref _) _) _ _ _); unfold typeLookup) | ((fail_if_success (with_reducible show wpAny _ _ (alloc _) _ _ _)); (fail_if_success (with_reducible show wpAny _ _ (updatePart _ _ _) _ _ _)); (fail_if_success (with_reducible show wpAny _ _ (nsSet _ _ _) _ _ _)); (fail_if_success (with_reducible show wpAny _ _ (enterFrame) _ _ _)); (fail_if_success (with_reducible show wpAny _ _ (nsGet _ _) _ _ _)); (fail_if_success (with_reducible show wpAny _ _ (List.mapM mkText _) _ _ _)); (fail_if_success (with_reducible show wpAny _ _ (functionCode _ _ _ _ _ _ _ _) _ _ _)); (fail_if_success (with_reducible show wpAny _ _ (makeFunction _ _ _ _ _ _ _ _ _ _ _) _ _ _)); (fail_if_success (with_reducible show wpAny _ _ (getAttrBy _ _ _) _ _ _)); (fail_if_success (with_reducible show wpAny _ _ (run _) _ _ _)); (fail_if_success (with_reducible show wpAny _ _ (call _ _ _) _ _ _)); (fail_if_success (with_reducible show wpAny _ _ (Sem.tryCatch _ _) _ _ _)); (fail_if_success (with_reducible show wpAny _ _ (Sem.onRaise _ _) _ _ _)); wp_delta))
  refine xAlloc (by assumption) rfl fun a2 h3 D3 => ?_
  repeat (first | (with_reducible refine wpAny_of_eq (by with_reducible assumption) ?_) | (with_reducible refine bEq (by with_reducible assumption) ?_) | (with_reducible refine bPure ?_) | (with_reducible refine bAssoc ?_) | (with_reducible refine bRule ?_) | (with_reducible refine wpAny_pure ?_) | (with_reducible refine wpAny_holding ?_) | (with_reducible refine wpAny_standAt ?_) | (with_reducible refine wpAny_point ?_) | (with_reducible refine wpAny_rule ?_) | (with_reducible refine fresh5 ?_) | (with_reducible refine wpAny_attempt ?_) | ((with_reducible show wpAny _ _ (loadPart _ _) _ _ _); (with_reducible first | refine wpAny_loadPart (by assumption) ?_ | refine wpAny_loadPart (LX.old (by assumption) (by assumption) (by decide)) ?_ | refine wpAny_loadPart (LX.at (by assumption) 0 rfl) ?_ | refine wpAny_loadPart (LX.at (by assumption) 1 rfl) ?_ | refine wpAny_loadPart (LX.at (by assumption) 2 rfl) ?_ | refine wpAny_loadPart (LX.at (by assumption) 3 rfl) ?_ | refine wpAny_loadPart (LX.at (by assumption) 4 rfl) ?_ | refine wpAny_loadPart (LX.at (by assumption) 5 rfl) ?_ | refine wpAny_loadPart (LX.at (by assumption) 6 rfl) ?_ | refine wpAny_loadPart (LX.at (by assumption) 7 rfl) ?_ | refine wpAny_loadPart (LX.at (by assumption) 8 rfl) ?_ | refine wpAny_loadPart (LX.at (by assumption) 9 rfl) ?_ | refine wpAny_loadPart (LX.at (by assumption) 10 rfl) ?_ | refine wpAny_loadPart (LX.at (by assumption) 11 rfl) ?_ | refine wpAny_loadPart (LX.at (by assumption) 12 rfl) ?_)) | ((with_reducible show wpAny _ _ (load _) _ _ _); (with_reducible first | refine wpAny_load (by assumption) ?_ | refine wpAny_load (LX.old (by assumption) (by assumption) (by decide)) ?_ | refine wpAny_load (LX.at (by assumption) 0 rfl) ?_ | refine wpAny_load (LX.at (by assumption) 1 rfl) ?_ | refine wpAny_load (LX.at (by assumption) 2 rfl) ?_ | refine wpAny_load (LX.at (by assumption) 3 rfl) ?_ | refine wpAny_load (LX.at (by assumption) 4 rfl) ?_ | refine wpAny_load (LX.at (by assumption) 5 rfl) ?_ | refine wpAny_load (LX.at (by assumption) 6 rfl) ?_ | refine wpAny_load (LX.at (by assumption) 7 rfl) ?_ | refine wpAny_load (LX.at (by assumption) 8 rfl) ?_ | refine wpAny_load (LX.at (by assumption) 9 rfl) ?_ | refine wpAny_load (LX.at (by assumption) 10 rfl) ?_ | refine wpAny_load (LX.at (by assumption) 11 rfl) ?_ | refine wpAny_load (LX.at (by assumption) 12 rfl) ?_)) | (with_reducible refine iteFb (by with_reducible assumption) ?_) | (with_reducible refine iteTb (by with_reducible assumption) ?_) | (with_reducible refine iteTd (by kernel_rfl!) ?_) | (with_reducible refine iteFd (by kernel_rfl!) ?_) | (with_reducible refine wpAny_bind ?_) | ((with_reducible show wpAny _ _ (typeLookup (Value.ref _) _) _ _ _); unfold typeLookup) | ((fail_if_success (with_reducible show wpAny _ _ (alloc _) _ _ _)); (fail_if_success (with_reducible show wpAny _ _ (updatePart _ _ _) _ _ _)); (fail_if_success (with_reducible show wpAny _ _ (nsSet _ _ _) _ _ _)); (fail_if_success (with_reducible show wpAny _ _ (enterFrame) _ _ _)); (fail_if_success (with_reducible show wpAny _ _ (nsGet _ _) _ _ _)); (fail_if_success (with_reducible show wpAny _ _ (List.mapM mkText _) _ _ _)); (fail_if_success (with_reducible show wpAny _ _ (functionCode _ _ _ _ _ _ _ _) _ _ _)); (fail_if_success (with_reducible show wpAny _ _ (makeFunction _ _ _ _ _ _ _ _ _ _ _) _ _ _)); (fail_if_success (with_reducible show wpAny _ _ (getAttrBy _ _ _) _ _ _)); (fail_if_success (with_reducible show wpAny _ _ (run _) _ _ _)); (fail_if_success (with_reducible show wpAny _ _ (call _ _ _) _ _ _)); (fail_if_success (with_reducible show wpAny _ _ (Sem.tryCatch _ _) _ _ _)); (fail_if_success (with_reducible show wpAny _ _ (Sem.onRaise _ _) _ _ _)); wp_delta))
  refine mapM_text _ _ _ fun vs3 u3 => ?_
  repeat (first | (with_reducible refine wpAny_of_eq (by with_reducible assumption) ?_) | (with_reducible refine bEq (by with_reducible assumption) ?_) | (with_reducible refine bPure ?_) | (with_reducible refine bAssoc ?_) | (with_reducible refine bRule ?_) | (with_reducible refine wpAny_pure ?_) | (with_reducible refine wpAny_holding ?_) | (with_reducible refine wpAny_standAt ?_) | (with_reducible refine wpAny_point ?_) | (with_reducible refine wpAny_rule ?_) | (with_reducible refine fresh5 ?_) | (with_reducible refine wpAny_attempt ?_) | ((with_reducible show wpAny _ _ (loadPart _ _) _ _ _); (with_reducible first | refine wpAny_loadPart (by assumption) ?_ | refine wpAny_loadPart (LX.old (by assumption) (by assumption) (by decide)) ?_ | refine wpAny_loadPart (LX.at (by assumption) 0 rfl) ?_ | refine wpAny_loadPart (LX.at (by assumption) 1 rfl) ?_ | refine wpAny_loadPart (LX.at (by assumption) 2 rfl) ?_ | refine wpAny_loadPart (LX.at (by assumption) 3 rfl) ?_ | refine wpAny_loadPart (LX.at (by assumption) 4 rfl) ?_ | refine wpAny_loadPart (LX.at (by assumption) 5 rfl) ?_ | refine wpAny_loadPart (LX.at (by assumption) 6 rfl) ?_ | refine wpAny_loadPart (LX.at (by assumption) 7 rfl) ?_ | refine wpAny_loadPart (LX.at (by assumption) 8 rfl) ?_ | refine wpAny_loadPart (LX.at (by assumption) 9 rfl) ?_ | refine wpAny_loadPart (LX.at (by assumption) 10 rfl) ?_ | refine wpAny_loadPart (LX.at (by assumption) 11 rfl) ?_ | refine wpAny_loadPart (LX.at (by assumption) 12 rfl) ?_)) | ((with_reducible show wpAny _ _ (load _) _ _ _); (with_reducible first | refine wpAny_load (by assumption) ?_ | refine wpAny_load (LX.old (by assumption) (by assumption) (by decide)) ?_ | refine wpAny_load (LX.at (by assumption) 0 rfl) ?_ | refine wpAny_load (LX.at (by assumption) 1 rfl) ?_ | refine wpAny_load (LX.at (by assumption) 2 rfl) ?_ | refine wpAny_load (LX.at (by assumption) 3 rfl) ?_ | refine wpAny_load (LX.at (by assumption) 4 rfl) ?_ | refine wpAny_load (LX.at (by assumption) 5 rfl) ?_ | refine wpAny_load (LX.at (by assumption) 6 rfl) ?_ | refine wpAny_load (LX.at (by assumption) 7 rfl) ?_ | refine wpAny_load (LX.at (by assumption) 8 rfl) ?_ | refine wpAny_load (LX.at (by assumption) 9 rfl) ?_ | refine wpAny_load (LX.at (by assumption) 10 rfl) ?_ | refine wpAny_load (LX.at (by assumption) 11 rfl) ?_ | refine wpAny_load (LX.at (by assumption) 12 rfl) ?_)) | (with_reducible refine iteFb (by with_reducible assumption) ?_) | (with_reducible refine iteTb (by with_reducible assumption) ?_) | (with_reducible refine iteTd (by kernel_rfl!) ?_) | (with_reducible refine iteFd (by kernel_rfl!) ?_) | (with_reducible refine wpAny_bind ?_) | ((with_reducible show wpAny _ _ (typeLookup (Value.ref _) _) _ _ _); unfold typeLookup) | ((fail_if_success (with_reducible show wpAny _ _ (alloc _) _ _ _)); (fail_if_success (with_reducible show wpAny _ _ (updatePart _ _ _) _ _ _)); (fail_if_success (with_reducible show wpAny _ _ (nsSet _ _ _) _ _ _)); (fail_if_success (with_reducible show wpAny _ _ (enterFrame) _ _ _)); (fail_if_success (with_reducible show wpAny _ _ (nsGet _ _) _ _ _)); (fail_if_success (with_reducible show wpAny _ _ (List.mapM mkText _) _ _ _)); (fail_if_success (with_reducible show wpAny _ _ (functionCode _ _ _ _ _ _ _ _) _ _ _)); (fail_if_success (with_reducible show wpAny _ _ (makeFunction _ _ _ _ _ _ _ _ _ _ _) _ _ _)); (fail_if_success (with_reducible show wpAny _ _ (getAttrBy _ _ _) _ _ _)); (fail_if_success (with_reducible show wpAny _ _ (run _) _ _ _)); (fail_if_success (with_reducible show wpAny _ _ (call _ _ _) _ _ _)); (fail_if_success (with_reducible show wpAny _ _ (Sem.tryCatch _ _) _ _ _)); (fail_if_success (with_reducible show wpAny _ _ (Sem.onRaise _ _) _ _ _)); wp_delta))
  refine xAlloc (by assumption) rfl fun a3 h4 D4 => ?_
  repeat (first | (with_reducible refine wpAny_of_eq (by with_reducible assumption) ?_) | (with_reducible refine bEq (by with_reducible assumption) ?_) | (with_reducible refine bPure ?_) | (with_reducible refine bAssoc ?_) | (with_reducible refine bRule ?_) | (with_reducible refine wpAny_pure ?_) | (with_reducible refine wpAny_holding ?_) | (with_reducible refine wpAny_standAt ?_) | (with_reducible refine wpAny_point ?_) | (with_reducible refine wpAny_rule ?_) | (with_reducible refine fresh5 ?_) | (with_reducible refine wpAny_attempt ?_) | ((with_reducible show wpAny _ _ (loadPart _ _) _ _ _); (with_reducible first | refine wpAny_loadPart (by assumption) ?_ | refine wpAny_loadPart (LX.old (by assumption) (by assumption) (by decide)) ?_ | refine wpAny_loadPart (LX.at (by assumption) 0 rfl) ?_ | refine wpAny_loadPart (LX.at (by assumption) 1 rfl) ?_ | refine wpAny_loadPart (LX.at (by assumption) 2 rfl) ?_ | refine wpAny_loadPart (LX.at (by assumption) 3 rfl) ?_ | refine wpAny_loadPart (LX.at (by assumption) 4 rfl) ?_ | refine wpAny_loadPart (LX.at (by assumption) 5 rfl) ?_ | refine wpAny_loadPart (LX.at (by assumption) 6 rfl) ?_ | refine wpAny_loadPart (LX.at (by assumption) 7 rfl) ?_ | refine wpAny_loadPart (LX.at (by assumption) 8 rfl) ?_ | refine wpAny_loadPart (LX.at (by assumption) 9 rfl) ?_ | refine wpAny_loadPart (LX.at (by assumption) 10 rfl) ?_ | refine wpAny_loadPart (LX.at (by assumption) 11 rfl) ?_ | refine wpAny_loadPart (LX.at (by assumption) 12 rfl) ?_)) | ((with_reducible show wpAny _ _ (load _) _ _ _); (with_reducible first | refine wpAny_load (by assumption) ?_ | refine wpAny_load (LX.old (by assumption) (by assumption) (by decide)) ?_ | refine wpAny_load (LX.at (by assumption) 0 rfl) ?_ | refine wpAny_load (LX.at (by assumption) 1 rfl) ?_ | refine wpAny_load (LX.at (by assumption) 2 rfl) ?_ | refine wpAny_load (LX.at (by assumption) 3 rfl) ?_ | refine wpAny_load (LX.at (by assumption) 4 rfl) ?_ | refine wpAny_load (LX.at (by assumption) 5 rfl) ?_ | refine wpAny_load (LX.at (by assumption) 6 rfl) ?_ | refine wpAny_load (LX.at (by assumption) 7 rfl) ?_ | refine wpAny_load (LX.at (by assumption) 8 rfl) ?_ | refine wpAny_load (LX.at (by assumption) 9 rfl) ?_ | refine wpAny_load (LX.at (by assumption) 10 rfl) ?_ | refine wpAny_load (LX.at (by assumption) 11 rfl) ?_ | refine wpAny_load (LX.at (by assumption) 12 rfl) ?_)) | (with_reducible refine iteFb (by with_reducible assumption) ?_) | (with_reducible refine iteTb (by with_reducible assumption) ?_) | (with_reducible refine iteTd (by kernel_rfl!) ?_) | (with_reducible refine iteFd (by kernel_rfl!) ?_) | (with_reducible refine wpAny_bind ?_) | ((with_reducible show wpAny _ _ (typeLookup (Value.ref _) _) _ _ _); unfold typeLookup) | ((fail_if_success (with_reducible show wpAny _ _ (alloc _) _ _ _)); (fail_if_success (with_reducible show wpAny _ _ (updatePart _ _ _) _ _ _)); (fail_if_success (with_reducible show wpAny _ _ (nsSet _ _ _) _ _ _)); (fail_if_success (with_reducible show wpAny _ _ (enterFrame) _ _ _)); (fail_if_success (with_reducible show wpAny _ _ (nsGet _ _) _ _ _)); (fail_if_success (with_reducible show wpAny _ _ (List.mapM mkText _) _ _ _)); (fail_if_success (with_reducible show wpAny _ _ (functionCode _ _ _ _ _ _ _ _) _ _ _)); (fail_if_success (with_reducible show wpAny _ _ (makeFunction _ _ _ _ _ _ _ _ _ _ _) _ _ _)); (fail_if_success (with_reducible show wpAny _ _ (getAttrBy _ _ _) _ _ _)); (fail_if_success (with_reducible show wpAny _ _ (run _) _ _ _)); (fail_if_success (with_reducible show wpAny _ _ (call _ _ _) _ _ _)); (fail_if_success (with_reducible show wpAny _ _ (Sem.tryCatch _ _) _ _ _)); (fail_if_success (with_reducible show wpAny _ _ (Sem.onRaise _ _) _ _ _)); wp_delta))
  refine xAlloc (by assumption) rfl fun a4 h5 D5 => ?_
  repeat (first | (with_reducible refine wpAny_of_eq (by with_reducible assumption) ?_) | (with_reducible refine bEq (by with_reducible assumption) ?_) | (with_reducible refine bPure ?_) | (with_reducible refine bAssoc ?_) | (with_reducible refine bRule ?_) | (with_reducible refine wpAny_pure ?_) | (with_reducible refine wpAny_holding ?_) | (with_reducible refine wpAny_standAt ?_) | (with_reducible refine wpAny_point ?_) | (with_reducible refine wpAny_rule ?_) | (with_reducible refine fresh5 ?_) | (with_reducible refine wpAny_attempt ?_) | ((with_reducible show wpAny _ _ (loadPart _ _) _ _ _); (with_reducible first | refine wpAny_loadPart (by assumption) ?_ | refine wpAny_loadPart (LX.old (by assumption) (by assumption) (by decide)) ?_ | refine wpAny_loadPart (LX.at (by assumption) 0 rfl) ?_ | refine wpAny_loadPart (LX.at (by assumption) 1 rfl) ?_ | refine wpAny_loadPart (LX.at (by assumption) 2 rfl) ?_ | refine wpAny_loadPart (LX.at (by assumption) 3 rfl) ?_ | refine wpAny_loadPart (LX.at (by assumption) 4 rfl) ?_ | refine wpAny_loadPart (LX.at (by assumption) 5 rfl) ?_ | refine wpAny_loadPart (LX.at (by assumption) 6 rfl) ?_ | refine wpAny_loadPart (LX.at (by assumption) 7 rfl) ?_ | refine wpAny_loadPart (LX.at (by assumption) 8 rfl) ?_ | refine wpAny_loadPart (LX.at (by assumption) 9 rfl) ?_ | refine wpAny_loadPart (LX.at (by assumption) 10 rfl) ?_ | refine wpAny_loadPart (LX.at (by assumption) 11 rfl) ?_ | refine wpAny_loadPart (LX.at (by assumption) 12 rfl) ?_)) | ((with_reducible show wpAny _ _ (load _) _ _ _); (with_reducible first | refine wpAny_load (by assumption) ?_ | refine wpAny_load (LX.old (by assumption) (by assumption) (by decide)) ?_ | refine wpAny_load (LX.at (by assumption) 0 rfl) ?_ | refine wpAny_load (LX.at (by assumption) 1 rfl) ?_ | refine wpAny_load (LX.at (by assumption) 2 rfl) ?_ | refine wpAny_load (LX.at (by assumption) 3 rfl) ?_ | refine wpAny_load (LX.at (by assumption) 4 rfl) ?_ | refine wpAny_load (LX.at (by assumption) 5 rfl) ?_ | refine wpAny_load (LX.at (by assumption) 6 rfl) ?_ | refine wpAny_load (LX.at (by assumption) 7 rfl) ?_ | refine wpAny_load (LX.at (by assumption) 8 rfl) ?_ | refine wpAny_load (LX.at (by assumption) 9 rfl) ?_ | refine wpAny_load (LX.at (by assumption) 10 rfl) ?_ | refine wpAny_load (LX.at (by assumption) 11 rfl) ?_ | refine wpAny_load (LX.at (by assumption) 12 rfl) ?_)) | (with_reducible refine iteFb (by with_reducible assumption) ?_) | (with_reducible refine iteTb (by with_reducible assumption) ?_) | (with_reducible refine iteTd (by kernel_rfl!) ?_) | (with_reducible refine iteFd (by kernel_rfl!) ?_) | (with_reducible refine wpAny_bind ?_) | ((with_reducible show wpAny _ _ (typeLookup (Value.ref _) _) _ _ _); unfold typeLookup) | ((fail_if_success (with_reducible show wpAny _ _ (alloc _) _ _ _)); (fail_if_success (with_reducible show wpAny _ _ (updatePart _ _ _) _ _ _)); (fail_if_success (with_reducible show wpAny _ _ (nsSet _ _ _) _ _ _)); (fail_if_success (with_reducible show wpAny _ _ (enterFrame) _ _ _)); (fail_if_success (with_reducible show wpAny _ _ (nsGet _ _) _ _ _)); (fail_if_success (with_reducible show wpAny _ _ (List.mapM mkText _) _ _ _)); (fail_if_success (with_reducible show wpAny _ _ (functionCode _ _ _ _ _ _ _ _) _ _ _)); (fail_if_success (with_reducible show wpAny _ _ (makeFunction _ _ _ _ _ _ _ _ _ _ _) _ _ _)); (fail_if_success (with_reducible show wpAny _ _ (getAttrBy _ _ _) _ _ _)); (fail_if_success (with_reducible show wpAny _ _ (run _) _ _ _)); (fail_if_success (with_reducible show wpAny _ _ (call _ _ _) _ _ _)); (fail_if_success (with_reducible show wpAny _ _ (Sem.tryCatch _ _) _ _ _)); (fail_if_success (with_reducible show wpAny _ _ (Sem.onRaise _ _) _ _ _)); wp_delta))
  refine xAllocO (codeO name qual file _ _ _ _ _ _ _ _ _ _ _ _ _ _ _ _ _ _ tb2) (by assumption) rfl rfl fun kf h6 D6 => ?_
  have kt6 := D6.at (j + 6) (a := tbl) (o := tabObj ps) (by simpa using ht)
  repeat (first | (with_reducible refine wpAny_of_eq (by with_reducible assumption) ?_) | (with_reducible refine bEq (by with_reducible assumption) ?_) | (with_reducible refine bPure ?_) | (with_reducible refine bAssoc ?_) | (with_reducible refine bRule ?_) | (with_reducible refine wpAny_pure ?_) | (with_reducible refine wpAny_holding ?_) | (with_reducible refine wpAny_standAt ?_) | (with_reducible refine wpAny_point ?_) | (with_reducible refine wpAny_rule ?_) | (with_reducible refine fresh5 ?_) | (with_reducible refine wpAny_attempt ?_) | ((with_reducible show wpAny _ _ (loadPart _ _) _ _ _); (with_reducible first | refine wpAny_loadPart (by assumption) ?_ | refine wpAny_loadPart (LX.old (by assumption) (by assumption) (by decide)) ?_ | refine wpAny_loadPart (LX.at (by assumption) 0 rfl) ?_ | refine wpAny_loadPart (LX.at (by assumption) 1 rfl) ?_ | refine wpAny_loadPart (LX.at (by assumption) 2 rfl) ?_ | refine wpAny_loadPart (LX.at (by assumption) 3 rfl) ?_ | refine wpAny_loadPart (LX.at (by assumption) 4 rfl) ?_ | refine wpAny_loadPart (LX.at (by assumption) 5 rfl) ?_ | refine wpAny_loadPart (LX.at (by assumption) 6 rfl) ?_ | refine wpAny_loadPart (LX.at (by assumption) 7 rfl) ?_ | refine wpAny_loadPart (LX.at (by assumption) 8 rfl) ?_ | refine wpAny_loadPart (LX.at (by assumption) 9 rfl) ?_ | refine wpAny_loadPart (LX.at (by assumption) 10 rfl) ?_ | refine wpAny_loadPart (LX.at (by assumption) 11 rfl) ?_ | refine wpAny_loadPart (LX.at (by assumption) 12 rfl) ?_)) | ((with_reducible show wpAny _ _ (load _) _ _ _); (with_reducible first | refine wpAny_load (by assumption) ?_ | refine wpAny_load (LX.old (by assumption) (by assumption) (by decide)) ?_ | refine wpAny_load (LX.at (by assumption) 0 rfl) ?_ | refine wpAny_load (LX.at (by assumption) 1 rfl) ?_ | refine wpAny_load (LX.at (by assumption) 2 rfl) ?_ | refine wpAny_load (LX.at (by assumption) 3 rfl) ?_ | refine wpAny_load (LX.at (by assumption) 4 rfl) ?_ | refine wpAny_load (LX.at (by assumption) 5 rfl) ?_ | refine wpAny_load (LX.at (by assumption) 6 rfl) ?_ | refine wpAny_load (LX.at (by assumption) 7 rfl) ?_ | refine wpAny_load (LX.at (by assumption) 8 rfl) ?_ | refine wpAny_load (LX.at (by assumption) 9 rfl) ?_ | refine wpAny_load (LX.at (by assumption) 10 rfl) ?_ | refine wpAny_load (LX.at (by assumption) 11 rfl) ?_ | refine wpAny_load (LX.at (by assumption) 12 rfl) ?_)) | (with_reducible refine iteFb (by with_reducible assumption) ?_) | (with_reducible refine iteTb (by with_reducible assumption) ?_) | (with_reducible refine iteTd (by kernel_rfl!) ?_) | (with_reducible refine iteFd (by kernel_rfl!) ?_) | (with_reducible refine wpAny_bind ?_) | ((with_reducible show wpAny _ _ (typeLookup (Value.ref _) _) _ _ _); unfold typeLookup) | ((fail_if_success (with_reducible show wpAny _ _ (alloc _) _ _ _)); (fail_if_success (with_reducible show wpAny _ _ (updatePart _ _ _) _ _ _)); (fail_if_success (with_reducible show wpAny _ _ (nsSet _ _ _) _ _ _)); (fail_if_success (with_reducible show wpAny _ _ (enterFrame) _ _ _)); (fail_if_success (with_reducible show wpAny _ _ (nsGet _ _) _ _ _)); (fail_if_success (with_reducible show wpAny _ _ (List.mapM mkText _) _ _ _)); (fail_if_success (with_reducible show wpAny _ _ (functionCode _ _ _ _ _ _ _ _) _ _ _)); (fail_if_success (with_reducible show wpAny _ _ (makeFunction _ _ _ _ _ _ _ _ _ _ _) _ _ _)); (fail_if_success (with_reducible show wpAny _ _ (getAttrBy _ _ _) _ _ _)); (fail_if_success (with_reducible show wpAny _ _ (run _) _ _ _)); (fail_if_success (with_reducible show wpAny _ _ (call _ _ _) _ _ _)); (fail_if_success (with_reducible show wpAny _ _ (Sem.tryCatch _ _) _ _ _)); (fail_if_success (with_reducible show wpAny _ _ (Sem.onRaise _ _) _ _ _)); wp_delta))
  refine xUpdO (tabObj (ps ++ #[rawInt pos.line, rawInt pos.col, .ref kf])) D6 (j + 6) (o := tabObj ps) ?hj (tabGrow hno) rfl fun h7 D7 => ?_
  case hj => exact ht
  have hl7 : j < news.length := (List.getElem?_eq_some_iff.mp ht).1
  have kt7 := D7.at (j + 6) (a := tbl) (o := tabObj (ps ++ #[rawInt pos.line, rawInt pos.col, .ref kf])) (by rw [List.getElem?_set_self (by simp only [List.length_cons]; omega)])
  refine wpAny_bind ?_
  unfold fieldsOf
  refine wpAny_bind (wpAny_load kt7 (wpAny_pure ?_))
  rw [hyes]
  refine wpAny_pure ?_
  exact hQ _ _ _ _ _ _ _ _ _ _ _ _ _ _ _ _ _ _ _ _ _ _ _ _ _ _ _ _ _ _ D7
noncomputable abbrev funO (name qual : Str) (params : Arguments) (body : List Stmt) (scope : Scope) (cls : List (Str × Addr)) (ct : Value) (kf : Addr) (nv : Value) : Obj :=
  { cls := .type "function", data := .func { name := name, qualname := qual, params := params, body := .stmts body, scope := scope, globals := 3, closure := cls, closureTuple := ct, code := .ref kf, builtins := builtinsNs, defaults := .none, kwdefaults := .none, annotations := none, pyModule := nv, doc := .none } }
theorem fFunC {env : Env} {kc tbl : Addr} {VS ps : Array Value} {pos : Pos} {fl : Nat} {name qual : Str} {p : Arguments} {scope : Scope} {body : List Stmt} {file : Str} {tf t7 t10 : Tok} {flags text : Int} {inF : Bool} {l1 l2 fns : List Str} {Q : Value → Shared → Prop}
   {mg : Str → Option Value} {bm cl : Addr} {nv : Value} {osl : Array (Option Value)}
   (D : LX h₀ h T news) (i j : Nat) (hk : news[i]? = some (kc, { cls := .type "code", data := .fields VS })) (ht : news[j]? = some (tbl, tabObj ps)) (hc : env.code = .ref kc)
   (v11 : VS.getD 11 .none = .ref tbl) (v18 : VS.getD 18 .none = .str file tf) (v7 : VS.getD 7 .none = .int flags t7) (v9 : VS.getD 9 .none = .bool inF) (v10 : VS.getD 10 .none = .int text t10)
   (hno : codeAmong pos ps.toList = none) (hyes : ∀ c, codeAmong pos (ps ++ #[rawInt pos.line, rawInt pos.col, .ref c]).toList = some (.ref c)) (hfree : scope.freeNames = fns) (hloc : localNames p scope (.stmts body) = some (l1, l2))
   (hg : env.globals = 3) (hN : h₀.Ns 3 mg) (hT : 3 ≠ T) (m1 : mg (Str.ofString "__builtins__") = some (.ref bm)) (m2 : bm ≠ builtinsNs) (m3 : h₀.get? bm = some ⟨.type "module", some builtinsNs, .plain, osl⟩) (m8 : bm ≠ T) (n1 : mg (Str.ofString "__name__") = some nv)
   (hcl : closureFor scope env = pure [(Str.ofString "mycmp", cl)]) (hkw : p.kwonlyargs = []) (hdoc : docOf body = none)
   (hQ : ∀ fa ct kf tb2 a1 a2 a3 a4 o0 o1 o2 o3 o4 k0 k1 k2 k18 v3 v4 v5 v6 v7 v8 v9 v10 v12 v13 v14 v15 v16 v17 h' t',
      LX h₀ h' T ((fa, funO name qual p body scope [(Str.ofString "mycmp", cl)] (.ref ct) kf nv) :: (((kf, codeO name qual file k0 k1 k2 k18 v3 v4 v5 v6 v7 v8 v9 v10 v12 v13 v14 v15 v16 v17 tb2) :: (a4, o4) :: (a3, o3) :: (a2, o2) :: (tb2, tabObj #[]) :: (a1, o1) :: (ct, o0) :: news).set (j + 1 + 6) (tbl, tabObj (ps ++ #[rawInt pos.line, rawInt pos.col, .ref kf])))) →
      Q (.ref fa) ⟨h', g, d, t', os⟩) :
   wpAny (model PySem.Challenge.rw_oy0064_01.row.prog w) A (makeFunction name qual p (.stmts body) scope env [] [] [] pos fl) Q E ⟨h, g, d, t, os⟩ := by
  have m7 : (bm == builtinsNs) = false := by simpa using m2
  unfold makeFunction
  rw [hcl, hkw, hg]
  repeat (first | (with_reducible refine wpAny_of_eq (by with_reducible assumption) ?_) | (with_reducible refine bEq (by with_reducible assumption) ?_) | (with_reducible refine bPure ?_) | (with_reducible refine bAssoc ?_) | (with_reducible refine bRule ?_) | (with_reducible refine wpAny_pure ?_) | (with_reducible refine wpAny_holding ?_) | (with_reducible refine wpAny_standAt ?_) | (with_reducible refine wpAny_point ?_) | (with_reducible refine wpAny_rule ?_) | (with_reducible refine fresh5 ?_) | (with_reducible refine wpAny_attempt ?_) | ((with_reducible show wpAny _ _ (loadPart _ _) _ _ _); (with_reducible first | refine wpAny_loadPart (by assumption) ?_ | refine wpAny_loadPart (LX.old (by assumption) (by assumption) (by decide)) ?_ | refine wpAny_loadPart (LX.at (by assumption) 0 rfl) ?_ | refine wpAny_loadPart (LX.at (by assumption) 1 rfl) ?_ | refine wpAny_loadPart (LX.at (by assumption) 2 rfl) ?_ | refine wpAny_loadPart (LX.at (by assumption) 3 rfl) ?_ | refine wpAny_loadPart (LX.at (by assumption) 4 rfl) ?_ | refine wpAny_loadPart (LX.at (by assumption) 5 rfl) ?_ | refine wpAny_loadPart (LX.at (by assumption) 6 rfl) ?_ | refine wpAny_loadPart (LX.at (by assumption) 7 rfl) ?_ | refine wpAny_loadPart (LX.at (by assumption) 8 rfl) ?_ | refine wpAny_loadPart (LX.at (by assumption) 9 rfl) ?_ | refine wpAny_loadPart (LX.at (by assumption) 10 rfl) ?_ | refine wpAny_loadPart (LX.at (by assumption) 11 rfl) ?_ | refine wpAny_loadPart (LX.at (by assumption) 12 rfl) ?_)) | ((with_reducible show wpAny _ _ (load _) _ _ _); (with_reducible first | refine wpAny_load (by assumption) ?_ | refine wpAny_load (LX.old (by assumption) (by assumption) (by decide)) ?_ | refine wpAny_load (LX.at (by assumption) 0 rfl) ?_ | refine wpAny_load (LX.at (by assumption) 1 rfl) ?_ | refine wpAny_load (LX.at (by assumption) 2 rfl) ?_ | refine wpAny_load (LX.at (by assumption) 3 rfl) ?_ | refine wpAny_load (LX.at (by assumption) 4 rfl) ?_ | refine wpAny_load (LX.at (by assumption) 5 rfl) ?_ | refine wpAny_load (LX.at (by assumption) 6 rfl) ?_ | refine wpAny_load (LX.at (by assumption) 7 rfl) ?_ | refine wpAny_load (LX.at (by assumption) 8 rfl) ?_ | refine wpAny_load (LX.at (by assumption) 9 rfl) ?_ | refine wpAny_load (LX.at (by assumption) 10 rfl) ?_ | refine wpAny_load (LX.at (by assumption) 11 rfl) ?_ | refine wpAny_load (LX.at (by assumption) 12 rfl) ?_)) | (with_reducible refine iteFb (by with_reducible assumption) ?_) | (with_reducible refine iteTb (by with_reducible assumption) ?_) | (with_reducible refine iteTd (by kernel_rfl!) ?_) | (with_reducible refine iteFd (by kernel_rfl!) ?_) | (with_reducible refine wpAny_bind ?_) | ((with_reducible show wpAny _ _ (typeLookup (Value.ref _) _) _ _ _); unfold typeLookup) | ((fail_if_success (with_reducible show wpAny _ _ (alloc _) _ _ _)); (fail_if_success (with_reducible show wpAny _ _ (updatePart _ _ _) _ _ _)); (fail_if_success (with_reducible show wpAny _ _ (nsSet _ _ _) _ _ _)); (fail_if_success (with_reducible show wpAny _ _ (enterFrame) _ _ _)); (fail_if_success (with_reducible show wpAny _ _ (nsGet _ _) _ _ _)); (fail_if_success (with_reducible show wpAny _ _ (List.mapM mkText _) _ _ _)); (fail_if_success (with_reducible show wpAny _ _ (functionCode _ _ _ _ _ _ _ _) _ _ _)); (fail_if_success (with_reducible show wpAny _ _ (makeFunction _ _ _ _ _ _ _ _ _ _ _) _ _ _)); (fail_if_success (with_reducible show wpAny _ _ (getAttrBy _ _ _) _ _ _)); (fail_if_success (with_reducible show wpAny _ _ (run _) _ _ _)); (fail_if_success (with_reducible show wpAny _ _ (call _ _ _) _ _ _)); (fail_if_success (with_reducible show wpAny _ _ (Sem.tryCatch _ _) _ _ _)); (fail_if_success (with_reducible show wpAny _ _ (Sem.onRaise _ _) _ _ _)); wp_delta))
  refine xAlloc (by assumption) rfl fun ct h1 D1 => ?_
  repeat (first | (with_reducible refine wpAny_of_eq (by with_reducible assumption) ?_) | (with_reducible refine bEq (by with_reducible assumption) ?_) | (with_reducible refine bPure ?_) | (with_reducible refine bAssoc ?_) | (with_reducible refine bRule ?_) | (with_reducible refine wpAny_pure ?_) | (with_reducible refine wpAny_holding ?_) | (with_reducible refine wpAny_standAt ?_) | (with_reducible refine wpAny_point ?_) | (with_reducible refine wpAny_rule ?_) | (with_reducible refine fresh5 ?_) | (with_reducible refine wpAny_attempt ?_) | ((with_reducible show wpAny _ _ (loadPart _ _) _ _ _); (with_reducible first | refine wpAny_loadPart (by assumption) ?_ | refine wpAny_loadPart (LX.old (by assumption) (by assumption) (by decide)) ?_ | refine wpAny_loadPart (LX.at (by assumption) 0 rfl) ?_ | refine wpAny_loadPart (LX.at (by assumption) 1 rfl) ?_ | refine wpAny_loadPart (LX.at (by assumption) 2 rfl) ?_ | refine wpAny_loadPart (LX.at (by assumption) 3 rfl) ?_ | refine wpAny_loadPart (LX.at (by assumption) 4 rfl) ?_ | refine wpAny_loadPart (LX.at (by assumption) 5 rfl) ?_ | refine wpAny_loadPart (LX.at (by assumption) 6 rfl) ?_ | refine wpAny_loadPart (LX.at (by assumption) 7 rfl) ?_ | refine wpAny_loadPart (LX.at (by assumption) 8 rfl) ?_ | refine wpAny_loadPart (LX.at (by assumption) 9 rfl) ?_ | refine wpAny_loadPart (LX.at (by assumption) 10 rfl) ?_ | refine wpAny_loadPart (LX.at (by assumption) 11 rfl) ?_ | refine wpAny_loadPart (LX.at (by assumption) 12 rfl) ?_)) | ((with_reducible show wpAny _ _ (load _) _ _ _); (with_reducible first | refine wpAny_load (by assumption) ?_ | refine wpAny_load (LX.old (by assumption) (by assumption) (by decide)) ?_ | refine wpAny_load (LX.at (by assumption) 0 rfl) ?_ | refine wpAny_load (LX.at (by assumption) 1 rfl) ?_ | refine wpAny_load (LX.at (by assumption) 2 rfl) ?_ | refine wpAny_load (LX.at (by assumption) 3 rfl) ?_ | refine wpAny_load (LX.at (by assumption) 4 rfl) ?_ | refine wpAny_load (LX.at (by assumption) 5 rfl) ?_ | refine wpAny_load (LX.at (by assumption) 6 rfl) ?_ | refine wpAny_load (LX.at (by assumption) 7 rfl) ?_ | refine wpAny_load (LX.at (by assumption) 8 rfl) ?_ | refine wpAny_load (LX.at (by assumption) 9 rfl) ?_ | refine wpAny_load (LX.at (by assumption) 10 rfl) ?_ | refine wpAny_load (LX.at (by assumption) 11 rfl) ?_ | refine wpAny_load (LX.at (by assumption) 12 rfl) ?_)) | (with_reducible refine iteFb (by with_reducible assumption) ?_) | (with_reducible refine iteTb (by with_reducible assumption) ?_) | (with_reducible refine iteTd (by kernel_rfl!) ?_) | (with_reducible refine iteFd (by kernel_rfl!) ?_) | (with_reducible refine wpAny_bind ?_) | ((with_reducible show wpAny _ _ (typeLookup (Value.ref _) _) _ _ _); unfold typeLookup) | ((fail_if_success (with_reducible show wpAny _ _ (alloc _) _ _ _)); (fail_if_success (with_reducible show wpAny _ _ (updatePart _ _ _) _ _ _)); (fail_if_success (with_reducible show wpAny _ _ (nsSet _ _ _) _ _ _)); (fail_if_success (with_reducible show wpAny _ _ (enterFrame) _ _ _)); (fail_if_success (with_reducible show wpAny _ _ (nsGet _ _) _ _ _)); (fail_if_success (with_reducible show wpAny _ _ (List.mapM mkText _) _ _ _)); (fail_if_success (with_reducible show wpAny _ _ (functionCode _ _ _ _ _ _ _ _) _ _ _)); (fail_if_success (with_reducible show wpAny _ _ (makeFunction _ _ _ _ _ _ _ _ _ _ _) _ _ _)); (fail_if_success (with_reducible show wpAny _ _ (getAttrBy _ _ _) _ _ _)); (fail_if_success (with_reducible show wpAny _ _ (run _) _ _ _)); (fail_if_success (with_reducible show wpAny _ _ (call _ _ _) _ _ _)); (fail_if_success (with_reducible show wpAny _ _ (Sem.tryCatch _ _) _ _ _)); (fail_if_success (with_reducible show wpAny _ _ (Sem.onRaise _ _) _ _ _)); wp_delta))
  refine fCode D1 (i + 1) (j + 1) hk ht hc v11 v18 v7 v9 v10 hno hyes hfree hloc fun kf tb2 a1 a2 a3 a4 o1 o2 o3 o4 k0 k1 k2 k18 v3 v4 v5 v6 v7 v8 v9 v10 v12 v13 v14 v15 v16 v17 h2 t2 D2 => ?_
  repeat (first | (with_reducible refine wpAny_of_eq (by with_reducible assumption) ?_) | (with_reducible refine bEq (by with_reducible assumption) ?_) | (with_reducible refine bPure ?_) | (with_reducible refine bAssoc ?_) | (with_reducible refine bRule ?_) | (with_reducible refine wpAny_pure ?_) | (with_reducible refine wpAny_holding ?_) | (with_reducible refine wpAny_standAt ?_) | (with_reducible refine wpAny_point ?_) | (with_reducible refine wpAny_rule ?_) | (with_reducible refine fresh5 ?_) | (with_reducible refine wpAny_attempt ?_) | ((with_reducible show wpAny _ _ (loadPart _ _) _ _ _); (with_reducible first | refine wpAny_loadPart (by assumption) ?_ | refine wpAny_loadPart (LX.old (by assumption) (by assumption) (by decide)) ?_ | refine wpAny_loadPart (LX.at (by assumption) 0 rfl) ?_ | refine wpAny_loadPart (LX.at (by assumption) 1 rfl) ?_ | refine wpAny_loadPart (LX.at (by assumption) 2 rfl) ?_ | refine wpAny_loadPart (LX.at (by assumption) 3 rfl) ?_ | refine wpAny_loadPart (LX.at (by assumption) 4 rfl) ?_ | refine wpAny_loadPart (LX.at (by assumption) 5 rfl) ?_ | refine wpAny_loadPart (LX.at (by assumption) 6 rfl) ?_ | refine wpAny_loadPart (LX.at (by assumption) 7 rfl) ?_ | refine wpAny_loadPart (LX.at (by assumption) 8 rfl) ?_ | refine wpAny_loadPart (LX.at (by assumption) 9 rfl) ?_ | refine wpAny_loadPart (LX.at (by assumption) 10 rfl) ?_ | refine wpAny_loadPart (LX.at (by assumption) 11 rfl) ?_ | refine wpAny_loadPart (LX.at (by assumption) 12 rfl) ?_)) | ((with_reducible show wpAny _ _ (load _) _ _ _); (with_reducible first | refine wpAny_load (by assumption) ?_ | refine wpAny_load (LX.old (by assumption) (by assumption) (by decide)) ?_ | refine wpAny_load (LX.at (by assumption) 0 rfl) ?_ | refine wpAny_load (LX.at (by assumption) 1 rfl) ?_ | refine wpAny_load (LX.at (by assumption) 2 rfl) ?_ | refine wpAny_load (LX.at (by assumption) 3 rfl) ?_ | refine wpAny_load (LX.at (by assumption) 4 rfl) ?_ | refine wpAny_load (LX.at (by assumption) 5 rfl) ?_ | refine wpAny_load (LX.at (by assumption) 6 rfl) ?_ | refine wpAny_load (LX.at (by assumption) 7 rfl) ?_ | refine wpAny_load (LX.at (by assumption) 8 rfl) ?_ | refine wpAny_load (LX.at (by assumption) 9 rfl) ?_ | refine wpAny_load (LX.at (by assumption) 10 rfl) ?_ | refine wpAny_load (LX.at (by assumption) 11 rfl) ?_ | refine wpAny_load (LX.at (by assumption) 12 rfl) ?_)) | (with_reducible refine iteFb (by with_reducible assumption) ?_) | (with_reducible refine iteTb (by with_reducible assumption) ?_) | (with_reducible refine iteTd (by kernel_rfl!) ?_) | (with_reducible refine iteFd (by kernel_rfl!) ?_) | (with_reducible refine wpAny_bind ?_) | ((with_reducible show wpAny _ _ (typeLookup (Value.ref _) _) _ _ _); unfold typeLookup) | ((fail_if_success (with_reducible show wpAny _ _ (alloc _) _ _ _)); (fail_if_success (with_reducible show wpAny _ _ (updatePart _ _ _) _ _ _)); (fail_if_success (with_reducible show wpAny _ _ (nsSet _ _ _) _ _ _)); (fail_if_success (with_reducible show wpAny _ _ (enterFrame) _ _ _)); (fail_if_success (with_reducible show wpAny _ _ (nsGet _ _) _ _ _)); (fail_if_success (with_reducible show wpAny _ _ (List.mapM mkText _) _ _ _)); (fail_if_success (with_reducible show wpAny _ _ (functionCode _ _ _ _ _ _ _ _) _ _ _)); (fail_if_success (with_reducible show wpAny _ _ (makeFunction _ _ _ _ _ _ _ _ _ _ _) _ _ _)); (fail_if_success (with_reducible show wpAny _ _ (getAttrBy _ _ _) _ _ _)); (fail_if_success (with_reducible show wpAny _ _ (run _) _ _ _)); (fail_if_success (with_reducible show wpAny _ _ (call _ _ _) _ _ _)); (fail_if_success (with_reducible show wpAny _ _ (Sem.tryCatch _ _) _ _ _)); (fail_if_success (with_reducible show wpAny _ _ (Sem.onRaise _ _) _ _ _)); wp_delta))
  refine wpAny_nsGet (D2.ns hN hT) ?_
  rw [m1]
  have m9 := D2.old m3 m8
  repeat (first | (with_reducible refine wpAny_of_eq (by with_reducible assumption) ?_) | (with_reducible refine bEq (by with_reducible assumption) ?_) | (with_reducible refine bPure ?_) | (with_reducible refine bAssoc ?_) | (with_reducible refine bRule ?_) | (with_reducible refine wpAny_pure ?_) | (with_reducible refine wpAny_holding ?_) | (with_reducible refine wpAny_standAt ?_) | (with_reducible refine wpAny_point ?_) | (with_reducible refine wpAny_rule ?_) | (with_reducible refine fresh5 ?_) | (with_reducible refine wpAny_attempt ?_) | ((with_reducible show wpAny _ _ (loadPart _ _) _ _ _); (with_reducible first | refine wpAny_loadPart (by assumption) ?_ | refine wpAny_loadPart (LX.old (by assumption) (by assumption) (by decide)) ?_ | refine wpAny_loadPart (LX.at (by assumption) 0 rfl) ?_ | refine wpAny_loadPart (LX.at (by assumption) 1 rfl) ?_ | refine wpAny_loadPart (LX.at (by assumption) 2 rfl) ?_ | refine wpAny_loadPart (LX.at (by assumption) 3 rfl) ?_ | refine wpAny_loadPart (LX.at (by assumption) 4 rfl) ?_ | refine wpAny_loadPart (LX.at (by assumption) 5 rfl) ?_ | refine wpAny_loadPart (LX.at (by assumption) 6 rfl) ?_ | refine wpAny_loadPart (LX.at (by assumption) 7 rfl) ?_ | refine wpAny_loadPart (LX.at (by assumption) 8 rfl) ?_ | refine wpAny_loadPart (LX.at (by assumption) 9 rfl) ?_ | refine wpAny_loadPart (LX.at (by assumption) 10 rfl) ?_ | refine wpAny_loadPart (LX.at (by assumption) 11 rfl) ?_ | refine wpAny_loadPart (LX.at (by assumption) 12 rfl) ?_)) | ((with_reducible show wpAny _ _ (load _) _ _ _); (with_reducible first | refine wpAny_load (by assumption) ?_ | refine wpAny_load (LX.old (by assumption) (by assumption) (by decide)) ?_ | refine wpAny_load (LX.at (by assumption) 0 rfl) ?_ | refine wpAny_load (LX.at (by assumption) 1 rfl) ?_ | refine wpAny_load (LX.at (by assumption) 2 rfl) ?_ | refine wpAny_load (LX.at (by assumption) 3 rfl) ?_ | refine wpAny_load (LX.at (by assumption) 4 rfl) ?_ | refine wpAny_load (LX.at (by assumption) 5 rfl) ?_ | refine wpAny_load (LX.at (by assumption) 6 rfl) ?_ | refine wpAny_load (LX.at (by assumption) 7 rfl) ?_ | refine wpAny_load (LX.at (by assumption) 8 rfl) ?_ | refine wpAny_load (LX.at (by assumption) 9 rfl) ?_ | refine wpAny_load (LX.at (by assumption) 10 rfl) ?_ | refine wpAny_load (LX.at (by assumption) 11 rfl) ?_ | refine wpAny_load (LX.at (by assumption) 12 rfl) ?_)) | (with_reducible refine iteFb (by with_reducible assumption) ?_) | (with_reducible refine iteTb (by with_reducible assumption) ?_) | (with_reducible refine iteTd (by kernel_rfl!) ?_) | (with_reducible refine iteFd (by kernel_rfl!) ?_) | (with_reducible refine wpAny_bind ?_) | ((with_reducible show wpAny _ _ (typeLookup (Value.ref _) _) _ _ _); unfold typeLookup) | ((fail_if_success (with_reducible show wpAny _ _ (alloc _) _ _ _)); (fail_if_success (with_reducible show wpAny _ _ (updatePart _ _ _) _ _ _)); (fail_if_success (with_reducible show wpAny _ _ (nsSet _ _ _) _ _ _)); (fail_if_success (with_reducible show wpAny _ _ (enterFrame) _ _ _)); (fail_if_success (with_reducible show wpAny _ _ (nsGet _ _) _ _ _)); (fail_if_success (with_reducible show wpAny _ _ (List.mapM mkText _) _ _ _)); (fail_if_success (with_reducible show wpAny _ _ (functionCode _ _ _ _ _ _ _ _) _ _ _)); (fail_if_success (with_reducible show wpAny _ _ (makeFunction _ _ _ _ _ _ _ _ _ _ _) _ _ _)); (fail_if_success (with_reducible show wpAny _ _ (getAttrBy _ _ _) _ _ _)); (fail_if_success (with_reducible show wpAny _ _ (run _) _ _ _)); (fail_if_success (with_reducible show wpAny _ _ (call _ _ _) _ _ _)); (fail_if_success (with_reducible show wpAny _ _ (Sem.tryCatch _ _) _ _ _)); (fail_if_success (with_reducible show wpAny _ _ (Sem.onRaise _ _) _ _ _)); wp_delta))
  refine wpAny_nsGet (D2.ns hN hT) ?_
  rw [n1]
  repeat (first | (with_reducible refine wpAny_of_eq (by with_reducible assumption) ?_) | (with_reducible refine bEq (by with_reducible assumption) ?_) | (with_reducible refine bPure ?_) | (with_reducible refine bAssoc ?_) | (with_reducible refine bRule ?_) | (with_reducible refine wpAny_pure ?_) | (with_reducible refine wpAny_holding ?_) | (with_reducible refine wpAny_standAt ?_) | (with_reducible refine wpAny_point ?_) | (with_reducible refine wpAny_rule ?_) | (with_reducible refine fresh5 ?_) | (with_reducible refine wpAny_attempt ?_) | ((with_reducible show wpAny _ _ (loadPart _ _) _ _ _); (with_reducible first | refine wpAny_loadPart (by assumption) ?_ | refine wpAny_loadPart (LX.old (by assumption) (by assumption) (by decide)) ?_ | refine wpAny_loadPart (LX.at (by assumption) 0 rfl) ?_ | refine wpAny_loadPart (LX.at (by assumption) 1 rfl) ?_ | refine wpAny_loadPart (LX.at (by assumption) 2 rfl) ?_ | refine wpAny_loadPart (LX.at (by assumption) 3 rfl) ?_ | refine wpAny_loadPart (LX.at (by assumption) 4 rfl) ?_ | refine wpAny_loadPart (LX.at (by assumption) 5 rfl) ?_ | refine wpAny_loadPart (LX.at (by assumption) 6 rfl) ?_ | refine wpAny_loadPart (LX.at (by assumption) 7 rfl) ?_ | refine wpAny_loadPart (LX.at (by assumption) 8 rfl) ?_ | refine wpAny_loadPart (LX.at (by assumption) 9 rfl) ?_ | refine wpAny_loadPart (LX.at (by assumption) 10 rfl) ?_ | refine wpAny_loadPart (LX.at (by assumption) 11 rfl) ?_ | refine wpAny_loadPart (LX.at (by assumption) 12 rfl) ?_)) | ((with_reducible show wpAny _ _ (load _) _ _ _); (with_reducible first | refine wpAny_load (by assumption) ?_ | refine wpAny_load (LX.old (by assumption) (by assumption) (by decide)) ?_ | refine wpAny_load (LX.at (by assumption) 0 rfl) ?_ | refine wpAny_load (LX.at (by assumption) 1 rfl) ?_ | refine wpAny_load (LX.at (by assumption) 2 rfl) ?_ | refine wpAny_load (LX.at (by assumption) 3 rfl) ?_ | refine wpAny_load (LX.at (by assumption) 4 rfl) ?_ | refine wpAny_load (LX.at (by assumption) 5 rfl) ?_ | refine wpAny_load (LX.at (by assumption) 6 rfl) ?_ | refine wpAny_load (LX.at (by assumption) 7 rfl) ?_ | refine wpAny_load (LX.at (by assumption) 8 rfl) ?_ | refine wpAny_load (LX.at (by assumption) 9 rfl) ?_ | refine wpAny_load (LX.at (by assumption) 10 rfl) ?_ | refine wpAny_load (LX.at (by assumption) 11 rfl) ?_ | refine wpAny_load (LX.at (by assumption) 12 rfl) ?_)) | (with_reducible refine iteFb (by with_reducible assumption) ?_) | (with_reducible refine iteTb (by with_reducible assumption) ?_) | (with_reducible refine iteTd (by kernel_rfl!) ?_) | (with_reducible refine iteFd (by kernel_rfl!) ?_) | (with_reducible refine wpAny_bind ?_) | ((with_reducible show wpAny _ _ (typeLookup (Value.ref _) _) _ _ _); unfold typeLookup) | ((fail_if_success (with_reducible show wpAny _ _ (alloc _) _ _ _)); (fail_if_success (with_reducible show wpAny _ _ (updatePart _ _ _) _ _ _)); (fail_if_success (with_reducible show wpAny _ _ (nsSet _ _ _) _ _ _)); (fail_if_success (with_reducible show wpAny _ _ (enterFrame) _ _ _)); (fail_if_success (with_reducible show wpAny _ _ (nsGet _ _) _ _ _)); (fail_if_success (with_reducible show wpAny _ _ (List.mapM mkText _) _ _ _)); (fail_if_success (with_reducible show wpAny _ _ (functionCode _ _ _ _ _ _ _ _) _ _ _)); (fail_if_success (with_reducible show wpAny _ _ (makeFunction _ _ _ _ _ _ _ _ _ _ _) _ _ _)); (fail_if_success (with_reducible show wpAny _ _ (getAttrBy _ _ _) _ _ _)); (fail_if_success (with_reducible show wpAny _ _ (run _) _ _ _)); (fail_if_success (with_reducible show wpAny _ _ (call _ _ _) _ _ _)); (fail_if_success (with_reducible show wpAny _ _ (Sem.tryCatch _ _) _ _ _)); (fail_if_success (with_reducible show wpAny _ _ (Sem.onRaise _ _) _ _ _)); wp_delta))
  rw [hdoc]
  repeat (first | (with_reducible refine wpAny_of_eq (by with_reducible assumption) ?_) | (with_reducible refine bEq (by with_reducible assumption) ?_) | (with_reducible refine bPure ?_) | (with_reducible refine bAssoc ?_) | (with_reducible refine bRule ?_) | (with_reducible refine wpAny_pure ?_) | (with_reducible refine wpAny_holding ?_) | (with_reducible refine wpAny_standAt ?_) | (with_reducible refine wpAny_point ?_) | (with_reducible refine wpAny_rule ?_) | (with_reducible refine fresh5 ?_) | (with_reducible refine wpAny_attempt ?_) | ((with_reducible show wpAny _ _ (loadPart _ _) _ _ _); (with_reducible first | refine wpAny_loadPart (by assumption) ?_ | refine wpAny_loadPart (LX.old (by assumption) (by assumption) (by decide)) ?_ | refine wpAny_loadPart (LX.at (by assumption) 0 rfl) ?_ | refine wpAny_loadPart (LX.at (by assumption) 1 rfl) ?_ | refine wpAny_loadPart (LX.at (by assumption) 2 rfl) ?_ | refine wpAny_loadPart (LX.at (by assumption) 3 rfl) ?_ | refine wpAny_loadPart (LX.at (by assumption) 4 rfl) ?_ | refine wpAny_loadPart (LX.at (by assumption) 5 rfl) ?_ | refine wpAny_loadPart (LX.at (by assumption) 6 rfl) ?_ | refine wpAny_loadPart (LX.at (by assumption) 7 rfl) ?_ | refine wpAny_loadPart (LX.at (by assumption) 8 rfl) ?_ | refine wpAny_loadPart (LX.at (by assumption) 9 rfl) ?_ | refine wpAny_loadPart (LX.at (by assumption) 10 rfl) ?_ | refine wpAny_loadPart (LX.at (by assumption) 11 rfl) ?_ | refine wpAny_loadPart (LX.at (by assumption) 12 rfl) ?_)) | ((with_reducible show wpAny _ _ (load _) _ _ _); (with_reducible first | refine wpAny_load (by assumption) ?_ | refine wpAny_load (LX.old (by assumption) (by assumption) (by decide)) ?_ | refine wpAny_load (LX.at (by assumption) 0 rfl) ?_ | refine wpAny_load (LX.at (by assumption) 1 rfl) ?_ | refine wpAny_load (LX.at (by assumption) 2 rfl) ?_ | refine wpAny_load (LX.at (by assumption) 3 rfl) ?_ | refine wpAny_load (LX.at (by assumption) 4 rfl) ?_ | refine wpAny_load (LX.at (by assumption) 5 rfl) ?_ | refine wpAny_load (LX.at (by assumption) 6 rfl) ?_ | refine wpAny_load (LX.at (by assumption) 7 rfl) ?_ | refine wpAny_load (LX.at (by assumption) 8 rfl) ?_ | refine wpAny_load (LX.at (by assumption) 9 rfl) ?_ | refine wpAny_load (LX.at (by assumption) 10 rfl) ?_ | refine wpAny_load (LX.at (by assumption) 11 rfl) ?_ | refine wpAny_load (LX.at (by assumption) 12 rfl) ?_)) | (with_reducible refine iteFb (by with_reducible assumption) ?_) | (with_reducible refine iteTb (by with_reducible assumption) ?_) | (with_reducible refine iteTd (by kernel_rfl!) ?_) | (with_reducible refine iteFd (by kernel_rfl!) ?_) | (with_reducible refine wpAny_bind ?_) | ((with_reducible show wpAny _ _ (typeLookup (Value.ref _) _) _ _ _); unfold typeLookup) | ((fail_if_success (with_reducible show wpAny _ _ (alloc _) _ _ _)); (fail_if_success (with_reducible show wpAny _ _ (updatePart _ _ _) _ _ _)); (fail_if_success (with_reducible show wpAny _ _ (nsSet _ _ _) _ _ _)); (fail_if_success (with_reducible show wpAny _ _ (enterFrame) _ _ _)); (fail_if_success (with_reducible show wpAny _ _ (nsGet _ _) _ _ _)); (fail_if_success (with_reducible show wpAny _ _ (List.mapM mkText _) _ _ _)); (fail_if_success (with_reducible show wpAny _ _ (functionCode _ _ _ _ _ _ _ _) _ _ _)); (fail_if_success (with_reducible show wpAny _ _ (makeFunction _ _ _ _ _ _ _ _ _ _ _) _ _ _)); (fail_if_success (with_reducible show wpAny _ _ (getAttrBy _ _ _) _ _ _)); (fail_if_success (with_reducible show wpAny _ _ (run _) _ _ _)); (fail_if_success (with_reducible show wpAny _ _ (call _ _ _) _ _ _)); (fail_if_success (with_reducible show wpAny _ _ (Sem.tryCatch _ _) _ _ _)); (fail_if_success (with_reducible show wpAny _ _ (Sem.onRaise _ _) _ _ _)); wp_delta))
  refine xAllocO (funO name qual p body scope [(Str.ofString "mycmp", cl)] (.ref ct) kf nv) D2 rfl rfl fun fa h3 D3 => ?_
  repeat (first | (with_reducible refine wpAny_of_eq (by with_reducible assumption) ?_) | (with_reducible refine bEq (by with_reducible assumption) ?_) | (with_reducible refine bPure ?_) | (with_reducible refine bAssoc ?_) | (with_reducible refine bRule ?_) | (with_reducible refine wpAny_pure ?_) | (with_reducible refine wpAny_holding ?_) | (with_reducible refine wpAny_standAt ?_) | (with_reducible refine wpAny_point ?_) | (with_reducible refine wpAny_rule ?_) | (with_reducible refine fresh5 ?_) | (with_reducible refine wpAny_attempt ?_) | ((with_reducible show wpAny _ _ (loadPart _ _) _ _ _); (with_reducible first | refine wpAny_loadPart (by assumption) ?_ | refine wpAny_loadPart (LX.old (by assumption) (by assumption) (by decide)) ?_ | refine wpAny_loadPart (LX.at (by assumption) 0 rfl) ?_ | refine wpAny_loadPart (LX.at (by assumption) 1 rfl) ?_ | refine wpAny_loadPart (LX.at (by assumption) 2 rfl) ?_ | refine wpAny_loadPart (LX.at (by assumption) 3 rfl) ?_ | refine wpAny_loadPart (LX.at (by assumption) 4 rfl) ?_ | refine wpAny_loadPart (LX.at (by assumption) 5 rfl) ?_ | refine wpAny_loadPart (LX.at (by assumption) 6 rfl) ?_ | refine wpAny_loadPart (LX.at (by assumption) 7 rfl) ?_ | refine wpAny_loadPart (LX.at (by assumption) 8 rfl) ?_ | refine wpAny_loadPart (LX.at (by assumption) 9 rfl) ?_ | refine wpAny_loadPart (LX.at (by assumption) 10 rfl) ?_ | refine wpAny_loadPart (LX.at (by assumption) 11 rfl) ?_ | refine wpAny_loadPart (LX.at (by assumption) 12 rfl) ?_)) | ((with_reducible show wpAny _ _ (load _) _ _ _); (with_reducible first | refine wpAny_load (by assumption) ?_ | refine wpAny_load (LX.old (by assumption) (by assumption) (by decide)) ?_ | refine wpAny_load (LX.at (by assumption) 0 rfl) ?_ | refine wpAny_load (LX.at (by assumption) 1 rfl) ?_ | refine wpAny_load (LX.at (by assumption) 2 rfl) ?_ | refine wpAny_load (LX.at (by assumption) 3 rfl) ?_ | refine wpAny_load (LX.at (by assumption) 4 rfl) ?_ | refine wpAny_load (LX.at (by assumption) 5 rfl) ?_ | refine wpAny_load (LX.at (by assumption) 6 rfl) ?_ | refine wpAny_load (LX.at (by assumption) 7 rfl) ?_ | refine wpAny_load (LX.at (by assumption) 8 rfl) ?_ | refine wpAny_load (LX.at (by assumption) 9 rfl) ?_ | refine wpAny_load (LX.at (by assumption) 10 rfl) ?_ | refine wpAny_load (LX.at (by assumption) 11 rfl) ?_ | refine wpAny_load (LX.at (by assumption) 12 rfl) ?_)) | (with_reducible refine iteFb (by with_reducible assumption) ?_) | (with_reducible refine iteTb (by with_reducible assumption) ?_) | (with_reducible refine iteTd (by kernel_rfl!) ?_) | (with_reducible refine iteFd (by kernel_rfl!) ?_) | (with_reducible refine wpAny_bind ?_) | ((with_reducible show wpAny _ _ (typeLookup (Value.ref _) _) _ _ _); unfold typeLookup) | ((fail_if_success (with_reducible show wpAny _ _ (alloc _) _ _ _)); (fail_if_success (with_reducible show wpAny _ _ (updatePart _ _ _) _ _ _)); (fail_if_success (with_reducible show wpAny _ _ (nsSet _ _ _) _ _ _)); (fail_if_success (with_reducible show wpAny _ _ (enterFrame) _ _ _)); (fail_if_success (with_reducible show wpAny _ _ (nsGet _ _) _ _ _)); (fail_if_success (with_reducible show wpAny _ _ (List.mapM mkText _) _ _ _)); (fail_if_success (with_reducible show wpAny _ _ (functionCode _ _ _ _ _ _ _ _) _ _ _)); (fail_if_success (with_reducible show wpAny _ _ (makeFunction _ _ _ _ _ _ _ _ _ _ _) _ _ _)); (fail_if_success (with_reducible show wpAny _ _ (getAttrBy _ _ _) _ _ _)); (fail_if_success (with_reducible show wpAny _ _ (run _) _ _ _)); (fail_if_success (with_reducible show wpAny _ _ (call _ _ _) _ _ _)); (fail_if_success (with_reducible show wpAny _ _ (Sem.tryCatch _ _) _ _ _)); (fail_if_success (with_reducible show wpAny _ _ (Sem.onRaise _ _) _ _ _)); wp_delta))
  exact hQ _ _ _ _ _ _ _ _ _ _ _ _ _ _ _ _ _ _ _ _ _ _ _ _ _ _ _ _ _ _ _ _ _ D3
theorem fFunN {env : Env} {kc tbl : Addr} {VS ps : Array Value} {pos : Pos} {fl : Nat} {name qual : Str} {p : Arguments} {scope : Scope} {body : List Stmt} {file : Str} {tf t7 t10 : Tok} {flags text : Int} {inF : Bool} {l1 l2 fns : List Str} {Q : Value → Shared → Prop}
   {mg : Str → Option Value} {bm : Addr} {nv : Value} {osl : Array (Option Value)}
   (D : LX h₀ h T news) (i j : Nat) (hk : news[i]? = some (kc, { cls := .type "code", data := .fields VS })) (ht : news[j]? = some (tbl, tabObj ps)) (hc : env.code = .ref kc)
   (v11 : VS.getD 11 .none = .ref tbl) (v18 : VS.getD 18 .none = .str file tf) (v7 : VS.getD 7 .none = .int flags t7) (v9 : VS.getD 9 .none = .bool inF) (v10 : VS.getD 10 .none = .int text t10)
   (hno : codeAmong pos ps.toList = none) (hyes : ∀ c, codeAmong pos (ps ++ #[rawInt pos.line, rawInt pos.col, .ref c]).toList = some (.ref c)) (hfree : scope.freeNames = fns) (hloc : localNames p scope (.stmts body) = some (l1, l2))
   (hg : env.globals = 3) (hN : h₀.Ns 3 mg) (hT : 3 ≠ T) (m1 : mg (Str.ofString "__builtins__") = some (.ref bm)) (m2 : bm ≠ builtinsNs) (m3 : h₀.get? bm = some ⟨.type "module", some builtinsNs, .plain, osl⟩) (m8 : bm ≠ T) (n1 : mg (Str.ofString "__name__") = some nv)
   (hcl : closureFor scope env = pure []) (hkw : p.kwonlyargs = []) (hdoc : docOf body = none)
   (hQ : ∀ fa kf tb2 a1 a2 a3 a4 o1 o2 o3 o4 k0 k1 k2 k18 v3 v4 v5 v6 v7 v8 v9 v10 v12 v13 v14 v15 v16 v17 h' t',
      LX h₀ h' T ((fa, funO name qual p body scope [] .none kf nv) :: (((kf, codeO name qual file k0 k1 k2 k18 v3 v4 v5 v6 v7 v8 v9 v10 v12 v13 v14 v15 v16 v17 tb2) :: (a4, o4) :: (a3, o3) :: (a2, o2) :: (tb2, tabObj #[]) :: (a1, o1)   :: news).set (j + 6) (tbl, tabObj (ps ++ #[rawInt pos.line, rawInt pos.col, .ref kf])))) →
      Q (.ref fa) ⟨h', g, d, t', os⟩) :
   wpAny (model PySem.Challenge.rw_oy0064_01.row.prog w) A (makeFunction name qual p (.stmts body) scope env [] [] [] pos fl) Q E ⟨h, g, d, t, os⟩ := by
  have m7 : (bm == builtinsNs) = false := by simpa using m2
  unfold makeFunction
  rw [hcl, hkw, hg]
  repeat (first | (with_reducible refine wpAny_of_eq (by with_reducible assumption) ?_) | (with_reducible refine bEq (by with_reducible assumption) ?_) | (with_reducible refine bPure ?_) | (with_reducible refine bAssoc ?_) | (with_reducible refine bRule ?_) | (with_reducible refine wpAny_pure ?_) | (with_reducible refine wpAny_holding ?_) | (with_reducible refine wpAny_standAt ?_) | (with_reducible refine wpAny_point ?_) | (with_reducible refine wpAny_rule ?_) | (with_reducible refine fresh5 ?_) | (with_reducible refine wpAny_attempt ?_) | ((with_reducible show wpAny _ _ (loadPart _ _) _ _ _); (with_reducible first | refine wpAny_loadPart (by assumption) ?_ | refine wpAny_loadPart (LX.old (by assumption) (by assumption) (by decide)) ?_ | refine wpAny_loadPart (LX.at (by assumption) 0 rfl) ?_ | refine wpAny_loadPart (LX.at (by assumption) 1 rfl) ?_ | refine wpAny_loadPart (LX.at (by assumption) 2 rfl) ?_ | refine wpAny_loadPart (LX.at (by assumption) 3 rfl) ?_ | refine wpAny_loadPart (LX.at (by assumption) 4 rfl) ?_ | refine wpAny_loadPart (LX.at (by assumption) 5 rfl) ?_ | refine wpAny_loadPart (LX.at (by assumption) 6 rfl) ?_ | refine wpAny_loadPart (LX.at (by assumption) 7 rfl) ?_ | refine wpAny_loadPart (LX.at (by assumption) 8 rfl) ?_ | refine wpAny_loadPart (LX.at (by assumption) 9 rfl) ?_ | refine wpAny_loadPart (LX.at (by assumption) 10 rfl) ?_ | refine wpAny_loadPart (LX.at (by assumption) 11 rfl) ?_ | refine wpAny_loadPart (LX.at (by assumption) 12 rfl) ?_)) | ((with_reducible show wpAny _ _ (load _) _ _ _); (with_reducible first | refine wpAny_load (by assumption) ?_ | refine wpAny_load (LX.old (by assumption) (by assumption) (by decide)) ?_ | refine wpAny_load (LX.at (by assumption) 0 rfl) ?_ | refine wpAny_load (LX.at (by assumption) 1 rfl) ?_ | refine wpAny_load (LX.at (by assumption) 2 rfl) ?_ | refine wpAny_load (LX.at (by assumption) 3 rfl) ?_ | refine wpAny_load (LX.at (by assumption) 4 rfl) ?_ | refine wpAny_load (LX.at (by assumption) 5 rfl) ?_ | refine wpAny_load (LX.at (by assumption) 6 rfl) ?_ | refine wpAny_load (LX.at (by assumption) 7 rfl) ?_ | refine wpAny_load (LX.at (by assumption) 8 rfl) ?_ | refine wpAny_load (LX.at (by assumption) 9 rfl) ?_ | refine wpAny_load (LX.at (by assumption) 10 rfl) ?_ | refine wpAny_load (LX.at (by assumption) 11 rfl) ?_ | refine wpAny_load (LX.at (by assumption) 12 rfl) ?_)) | (with_reducible refine iteFb (by with_reducible assumption) ?_) | (with_reducible refine iteTb (by with_reducible assumption) ?_) | (with_reducible refine iteTd (by kernel_rfl!) ?_) | (with_reducible refine iteFd (by kernel_rfl!) ?_) | (with_reducible refine wpAny_bind ?_) | ((with_reducible show wpAny _ _ (typeLookup (Value.ref _) _) _ _ _); unfold typeLookup) | ((fail_if_success (with_reducible show wpAny _ _ (alloc _) _ _ _)); (fail_if_success (with_reducible show wpAny _ _ (updatePart _ _ _) _ _ _)); (fail_if_success (with_reducible show wpAny _ _ (nsSet _ _ _) _ _ _)); (fail_if_success (with_reducible show wpAny _ _ (enterFrame) _ _ _)); (fail_if_success (with_reducible show wpAny _ _ (nsGet _ _) _ _ _)); (fail_if_success (with_reducible show wpAny _ _ (List.mapM mkText _) _ _ _)); (fail_if_success (with_reducible show wpAny _ _ (functionCode _ _ _ _ _ _ _ _) _ _ _)); (fail_if_success (with_reducible show wpAny _ _ (makeFunction _ _ _ _ _ _ _ _ _ _ _) _ _ _)); (fail_if_success (with_reducible show wpAny _ _ (getAttrBy _ _ _) _ _ _)); (fail_if_success (with_reducible show wpAny _ _ (run _) _ _ _)); (fail_if_success (with_reducible show wpAny _ _ (call _ _ _) _ _ _)); (fail_if_success (with_reducible show wpAny _ _ (Sem.tryCatch _ _) _ _ _)); (fail_if_success (with_reducible show wpAny _ _ (Sem.onRaise _ _) _ _ _)); wp_delta))
  refine fCode D i j hk ht hc v11 v18 v7 v9 v10 hno hyes hfree hloc fun kf tb2 a1 a2 a3 a4 o1 o2 o3 o4 k0 k1 k2 k18 v3 v4 v5 v6 v7 v8 v9 v10 v12 v13 v14 v15 v16 v17 h2 t2 D2 => ?_
  repeat (first | (with_reducible refine wpAny_of_eq (by with_reducible assumption) ?_) | (with_reducible refine bEq (by with_reducible assumption) ?_) | (with_reducible refine bPure ?_) | (with_reducible refine bAssoc ?_) | (with_reducible refine bRule ?_) | (with_reducible refine wpAny_pure ?_) | (with_reducible refine wpAny_holding ?_) | (with_reducible refine wpAny_standAt ?_) | (with_reducible refine wpAny_point ?_) | (with_reducible refine wpAny_rule ?_) | (with_reducible refine fresh5 ?_) | (with_reducible refine wpAny_attempt ?_) | ((with_reducible show wpAny _ _ (loadPart _ _) _ _ _); (with_reducible first | refine wpAny_loadPart (by assumption) ?_ | refine wpAny_loadPart (LX.old (by assumption) (by assumption) (by decide)) ?_ | refine wpAny_loadPart (LX.at (by assumption) 0 rfl) ?_ | refine wpAny_loadPart (LX.at (by assumption) 1 rfl) ?_ | refine wpAny_loadPart (LX.at (by assumption) 2 rfl) ?_ | refine wpAny_loadPart (LX.at (by assumption) 3 rfl) ?_ | refine wpAny_loadPart (LX.at (by assumption) 4 rfl) ?_ | refine wpAny_loadPart (LX.at (by assumption) 5 rfl) ?_ | refine wpAny_loadPart (LX.at (by assumption) 6 rfl) ?_ | refine wpAny_loadPart (LX.at (by assumption) 7 rfl) ?_ | refine wpAny_loadPart (LX.at (by assumption) 8 rfl) ?_ | refine wpAny_loadPart (LX.at (by assumption) 9 rfl) ?_ | refine wpAny_loadPart (LX.at (by assumption) 10 rfl) ?_ | refine wpAny_loadPart (LX.at (by assumption) 11 rfl) ?_ | refine wpAny_loadPart (LX.at (by assumption) 12 rfl) ?_)) | ((with_reducible show wpAny _ _ (load _) _ _ _); (with_reducible first | refine wpAny_load (by assumption) ?_ | refine wpAny_load (LX.old (by assumption) (by assumption) (by decide)) ?_ | refine wpAny_load (LX.at (by assumption) 0 rfl) ?_ | refine wpAny_load (LX.at (by assumption) 1 rfl) ?_ | refine wpAny_load (LX.at (by assumption) 2 rfl) ?_ | refine wpAny_load (LX.at (by assumption) 3 rfl) ?_ | refine wpAny_load (LX.at (by assumption) 4 rfl) ?_ | refine wpAny_load (LX.at (by assumption) 5 rfl) ?_ | refine wpAny_load (LX.at (by assumption) 6 rfl) ?_ | refine wpAny_load (LX.at (by assumption) 7 rfl) ?_ | refine wpAny_load (LX.at (by assumption) 8 rfl) ?_ | refine wpAny_load (LX.at (by assumption) 9 rfl) ?_ | refine wpAny_load (LX.at (by assumption) 10 rfl) ?_ | refine wpAny_load (LX.at (by assumption) 11 rfl) ?_ | refine wpAny_load (LX.at (by assumption) 12 rfl) ?_)) | (with_reducible refine iteFb (by with_reducible assumption) ?_) | (with_reducible refine iteTb (by with_reducible assumption) ?_) | (with_reducible refine iteTd (by kernel_rfl!) ?_) | (with_reducible refine iteFd (by kernel_rfl!) ?_) | (with_reducible refine wpAny_bind ?_) | ((with_reducible show wpAny _ _ (typeLookup (Value.ref _) _) _ _ _); unfold typeLookup) | ((fail_if_success (with_reducible show wpAny _ _ (alloc _) _ _ _)); (fail_if_success (with_reducible show wpAny _ _ (updatePart _ _ _) _ _ _)); (fail_if_success (with_reducible show wpAny _ _ (nsSet _ _ _) _ _ _)); (fail_if_success (with_reducible show wpAny _ _ (enterFrame) _ _ _)); (fail_if_success (with_reducible show wpAny _ _ (nsGet _ _) _ _ _)); (fail_if_success (with_reducible show wpAny _ _ (List.mapM mkText _) _ _ _)); (fail_if_success (with_reducible show wpAny _ _ (functionCode _ _ _ _ _ _ _ _) _ _ _)); (fail_if_success (with_reducible show wpAny _ _ (makeFunction _ _ _ _ _ _ _ _ _ _ _) _ _ _)); (fail_if_success (with_reducible show wpAny _ _ (getAttrBy _ _ _) _ _ _)); (fail_if_success (with_reducible show wpAny _ _ (run _) _ _ _)); (fail_if_success (with_reducible show wpAny _ _ (call _ _ _) _ _ _)); (fail_if_success (with_reducible show wpAny _ _ (Sem.tryCatch _ _) _ _ _)); (fail_if_success (with_reducible show wpAny _ _ (Sem.onRaise _ _) _ _ _)); wp_delta))
  refine wpAny_nsGet (D2.ns hN hT) ?_
  rw [m1]
  have m9 := D2.old m3 m8
  repeat (first | (with_reducible refine wpAny_of_eq (by with_reducible assumption) ?_) | (with_reducible refine bEq (by with_reducible assumption) ?_) | (with_reducible refine bPure ?_) | (with_reducible refine bAssoc ?_) | (with_reducible refine bRule ?_) | (with_reducible refine wpAny_pure ?_) | (with_reducible refine wpAny_holding ?_) | (with_reducible refine wpAny_standAt ?_) | (with_reducible refine wpAny_point ?_) | (with_reducible refine wpAny_rule ?_) | (with_reducible refine fresh5 ?_) | (with_reducible refine wpAny_attempt ?_) | ((with_reducible show wpAny _ _ (loadPart _ _) _ _ _); (with_reducible first | refine wpAny_loadPart (by assumption) ?_ | refine wpAny_loadPart (LX.old (by assumption) (by assumption) (by decide)) ?_ | refine wpAny_loadPart (LX.at (by assumption) 0 rfl) ?_ | refine wpAny_loadPart (LX.at (by assumption) 1 rfl) ?_ | refine wpAny_loadPart (LX.at (by assumption) 2 rfl) ?_ | refine wpAny_loadPart (LX.at (by assumption) 3 rfl) ?_ | refine wpAny_loadPart (LX.at (by assumption) 4 rfl) ?_ | refine wpAny_loadPart (LX.at (by assumption) 5 rfl) ?_ | refine wpAny_loadPart (LX.at (by assumption) 6 rfl) ?_ | refine wpAny_loadPart (LX.at (by assumption) 7 rfl) ?_ | refine wpAny_loadPart (LX.at (by assumption) 8 rfl) ?_ | refine wpAny_loadPart (LX.at (by assumption) 9 rfl) ?_ | refine wpAny_loadPart (LX.at (by assumption) 10 rfl) ?_ | refine wpAny_loadPart (LX.at (by assumption) 11 rfl) ?_ | refine wpAny_loadPart (LX.at (by assumption) 12 rfl) ?_)) | ((with_reducible show wpAny _ _ (load _) _ _ _); (with_reducible first | refine wpAny_load (by assumption) ?_ | refine wpAny_load (LX.old (by assumption) (by assumption) (by decide)) ?_ | refine wpAny_load (LX.at (by assumption) 0 rfl) ?_ | refine wpAny_load (LX.at (by assumption) 1 rfl) ?_ | refine wpAny_load (LX.at (by assumption) 2 rfl) ?_ | refine wpAny_load (LX.at (by assumption) 3 rfl) ?_ | refine wpAny_load (LX.at (by assumption) 4 rfl) ?_ | refine wpAny_load (LX.at (by assumption) 5 rfl) ?_ | refine wpAny_load (LX.at (by assumption) 6 rfl) ?_ | refine wpAny_load (LX.at (by assumption) 7 rfl) ?_ | refine wpAny_load (LX.at (by assumption) 8 rfl) ?_ | refine wpAny_load (LX.at (by assumption) 9 rfl) ?_ | refine wpAny_load (LX.at (by assumption) 10 rfl) ?_ | refine wpAny_load (LX.at (by assumption) 11 rfl) ?_ | refine wpAny_load (LX.at (by assumption) 12 rfl) ?_)) | (with_reducible refine iteFb (by with_reducible assumption) ?_) | (with_reducible refine iteTb (by with_reducible assumption) ?_) | (with_reducible refine iteTd (by kernel_rfl!) ?_) | (with_reducible refine iteFd (by kernel_rfl!) ?_) | (with_reducible refine wpAny_bind ?_) | ((with_reducible show wpAny _ _ (typeLookup (Value.ref _) _) _ _ _); unfold typeLookup) | ((fail_if_success (with_reducible show wpAny _ _ (alloc _) _ _ _)); (fail_if_success (with_reducible show wpAny _ _ (updatePart _ _ _) _ _ _)); (fail_if_success (with_reducible show wpAny _ _ (nsSet _ _ _) _ _ _)); (fail_if_success (with_reducible show wpAny _ _ (enterFrame) _ _ _)); (fail_if_success (with_reducible show wpAny _ _ (nsGet _ _) _ _ _)); (fail_if_success (with_reducible show wpAny _ _ (List.mapM mkText _) _ _ _)); (fail_if_success (with_reducible show wpAny _ _ (functionCode _ _ _ _ _ _ _ _) _ _ _)); (fail_if_success (with_reducible show wpAny _ _ (makeFunction _ _ _ _ _ _ _ _ _ _ _) _ _ _)); (fail_if_success (with_reducible show wpAny _ _ (getAttrBy _ _ _) _ _ _)); (fail_if_success (with_reducible show wpAny _ _ (run _) _ _ _)); (fail_if_success (with_reducible show wpAny _ _ (call _ _ _) _ _ _)); (fail_if_success (with_reducible show wpAny _ _ (Sem.tryCatch _ _) _ _ _)); (fail_if_success (with_reducible show wpAny _ _ (Sem.onRaise _ _) _ _ _)); wp_delta))
  refine wpAny_nsGet (D2.ns hN hT) ?_
  rw [n1]
  repeat (first | (with_reducible refine wpAny_of_eq (by with_reducible assumption) ?_) | (with_reducible refine bEq (by with_reducible assumption) ?_) | (with_reducible refine bPure ?_) | (with_reducible refine bAssoc ?_) | (with_reducible refine bRule ?_) | (with_reducible refine wpAny_pure ?_) | (with_reducible refine wpAny_holding ?_) | (with_reducible refine wpAny_standAt ?_) | (with_reducible refine wpAny_point ?_) | (with_reducible refine wpAny_rule ?_) | (with_reducible refine fresh5 ?_) | (with_reducible refine wpAny_attempt ?_) | ((with_reducible show wpAny _ _ (loadPart _ _) _ _ _); (with_reducible first | refine wpAny_loadPart (by assumption) ?_ | refine wpAny_loadPart (LX.old (by assumption) (by assumption) (by decide)) ?_ | refine wpAny_loadPart (LX.at (by assumption) 0 rfl) ?_ | refine wpAny_loadPart (LX.at (by assumption) 1 rfl) ?_ | refine wpAny_loadPart (LX.at (by assumption) 2 rfl) ?_ | refine wpAny_loadPart (LX.at (by assumption) 3 rfl) ?_ | refine wpAny_loadPart (LX.at (by assumption) 4 rfl) ?_ | refine wpAny_loadPart (LX.at (by assumption) 5 rfl) ?_ | refine wpAny_loadPart (LX.at (by assumption) 6 rfl) ?_ | refine wpAny_loadPart (LX.at (by assumption) 7 rfl) ?_ | refine wpAny_loadPart (LX.at (by assumption) 8 rfl) ?_ | refine wpAny_loadPart (LX.at (by assumption) 9 rfl) ?_ | refine wpAny_loadPart (LX.at (by assumption) 10 rfl) ?_ | refine wpAny_loadPart (LX.at (by assumption) 11 rfl) ?_ | refine wpAny_loadPart (LX.at (by assumption) 12 rfl) ?_)) | ((with_reducible show wpAny _ _ (load _) _ _ _); (with_reducible first | refine wpAny_load (by assumption) ?_ | refine wpAny_load (LX.old (by assumption) (by assumption) (by decide)) ?_ | refine wpAny_load (LX.at (by assumption) 0 rfl) ?_ | refine wpAny_load (LX.at (by assumption) 1 rfl) ?_ | refine wpAny_load (LX.at (by assumption) 2 rfl) ?_ | refine wpAny_load (LX.at (by assumption) 3 rfl) ?_ | refine wpAny_load (LX.at (by assumption) 4 rfl) ?_ | refine wpAny_load (LX.at (by assumption) 5 rfl) ?_ | refine wpAny_load (LX.at (by assumption) 6 rfl) ?_ | refine wpAny_load (LX.at (by assumption) 7 rfl) ?_ | refine wpAny_load (LX.at (by assumption) 8 rfl) ?_ | refine wpAny_load (LX.at (by assumption) 9 rfl) ?_ | refine wpAny_load (LX.at (by assumption) 10 rfl) ?_ | refine wpAny_load (LX.at (by assumption) 11 rfl) ?_ | refine wpAny_load (LX.at (by assumption) 12 rfl) ?_)) | (with_reducible refine iteFb (by with_reducible assumption) ?_) | (with_reducible refine iteTb (by with_reducible assumption) ?_) | (with_reducible refine iteTd (by kernel_rfl!) ?_) | (with_reducible refine iteFd (by kernel_rfl!) ?_) | (with_reducible refine wpAny_bind ?_) | ((with_reducible show wpAny _ _ (typeLookup (Value.ref _) _) _ _ _); unfold typeLookup) | ((fail_if_success (with_reducible show wpAny _ _ (alloc _) _ _ _)); (fail_if_success (with_reducible show wpAny _ _ (updatePart _ _ _) _ _ _)); (fail_if_success (with_reducible show wpAny _ _ (nsSet _ _ _) _ _ _)); (fail_if_success (with_reducible show wpAny _ _ (enterFrame) _ _ _)); (fail_if_success (with_reducible show wpAny _ _ (nsGet _ _) _ _ _)); (fail_if_success (with_reducible show wpAny _ _ (List.mapM mkText _) _ _ _)); (fail_if_success (with_reducible show wpAny _ _ (functionCode _ _ _ _ _ _ _ _) _ _ _)); (fail_if_success (with_reducible show wpAny _ _ (makeFunction _ _ _ _ _ _ _ _ _ _ _) _ _ _)); (fail_if_success (with_reducible show wpAny _ _ (getAttrBy _ _ _) _ _ _)); (fail_if_success (with_reducible show wpAny _ _ (run _) _ _ _)); (fail_if_success (with_reducible show wpAny _ _ (call _ _ _) _ _ _)); (fail_if_success (with_reducible show wpAny _ _ (Sem.tryCatch _ _) _ _ _)); (fail_if_success (with_reducible show wpAny _ _ (Sem.onRaise _ _) _ _ _)); wp_delta))
  rw [hdoc]
  repeat (first | (with_reducible refine wpAny_of_eq (by with_reducible assumption) ?_) | (with_reducible refine bEq (by with_reducible assumption) ?_) | (with_reducible refine bPure ?_) | (with_reducible refine bAssoc ?_) | (with_reducible refine bRule ?_) | (with_reducible refine wpAny_pure ?_) | (with_reducible refine wpAny_holding ?_) | (with_reducible refine wpAny_standAt ?_) | (with_reducible refine wpAny_point ?_) | (with_reducible refine wpAny_rule ?_) | (with_reducible refine fresh5 ?_) | (with_reducible refine wpAny_attempt ?_) | ((with_reducible show wpAny _ _ (loadPart _ _) _ _ _); (with_reducible first | refine wpAny_loadPart (by assumption) ?_ | refine wpAny_loadPart (LX.old (by assumption) (by assumption) (by decide)) ?_ | refine wpAny_loadPart (LX.at (by assumption) 0 rfl) ?_ | refine wpAny_loadPart (LX.at (by assumption) 1 rfl) ?_ | refine wpAny_loadPart (LX.at (by assumption) 2 rfl) ?_ | refine wpAny_loadPart (LX.at (by assumption) 3 rfl) ?_ | refine wpAny_loadPart (LX.at (by assumption) 4 rfl) ?_ | refine wpAny_loadPart (LX.at (by assumption) 5 rfl) ?_ | refine wpAny_loadPart (LX.at (by assumption) 6 rfl) ?_ | refine wpAny_loadPart (LX.at (by assumption) 7 rfl) ?_ | refine wpAny_loadPart (LX.at (by assumption) 8 rfl) ?_ | refine wpAny_loadPart (LX.at (by assumption) 9 rfl) ?_ | refine wpAny_loadPart (LX.at (by assumption) 10 rfl) ?_ | refine wpAny_loadPart (LX.at (by assumption) 11 rfl) ?_ | refine wpAny_loadPart (LX.at (by assumption) 12 rfl) ?_)) | ((with_reducible show wpAny _ _ (load _) _ _ _); (with_reducible first | refine wpAny_load (by assumption) ?_ | refine wpAny_load (LX.old (by assumption) (by assumption) (by decide)) ?_ | refine wpAny_load (LX.at (by assumption) 0 rfl) ?_ | refine wpAny_load (LX.at (by assumption) 1 rfl) ?_ | refine wpAny_load (LX.at (by assumption) 2 rfl) ?_ | refine wpAny_load (LX.at (by assumption) 3 rfl) ?_ | refine wpAny_load (LX.at (by assumption) 4 rfl) ?_ | refine wpAny_load (LX.at (by assumption) 5 rfl) ?_ | refine wpAny_load (LX.at (by assumption) 6 rfl) ?_ | refine wpAny_load (LX.at (by assumption) 7 rfl) ?_ | refine wpAny_load (LX.at (by assumption) 8 rfl) ?_ | refine wpAny_load (LX.at (by assumption) 9 rfl) ?_ | refine wpAny_load (LX.at (by assumption) 10 rfl) ?_ | refine wpAny_load (LX.at (by assumption) 11 rfl) ?_ | refine wpAny_load (LX.at (by assumption) 12 rfl) ?_)) | (with_reducible refine iteFb (by with_reducible assumption) ?_) | (with_reducible refine iteTb (by with_reducible assumption) ?_) | (with_reducible refine iteTd (by kernel_rfl!) ?_) | (with_reducible refine iteFd (by kernel_rfl!) ?_) | (with_reducible refine wpAny_bind ?_) | ((with_reducible show wpAny _ _ (typeLookup (Value.ref _) _) _ _ _); unfold typeLookup) | ((fail_if_success (with_reducible show wpAny _ _ (alloc _) _ _ _)); (fail_if_success (with_reducible show wpAny _ _ (updatePart _ _ _) _ _ _)); (fail_if_success (with_reducible show wpAny _ _ (nsSet _ _ _) _ _ _)); (fail_if_success (with_reducible show wpAny _ _ (enterFrame) _ _ _)); (fail_if_success (with_reducible show wpAny _ _ (nsGet _ _) _ _ _)); (fail_if_success (with_reducible show wpAny _ _ (List.mapM mkText _) _ _ _)); (fail_if_success (with_reducible show wpAny _ _ (functionCode _ _ _ _ _ _ _ _) _ _ _)); (fail_if_success (with_reducible show wpAny _ _ (makeFunction _ _ _ _ _ _ _ _ _ _ _) _ _ _)); (fail_if_success (with_reducible show wpAny _ _ (getAttrBy _ _ _) _ _ _)); (fail_if_success (with_reducible show wpAny _ _ (run _) _ _ _)); (fail_if_success (with_reducible show wpAny _ _ (call _ _ _) _ _ _)); (fail_if_success (with_reducible show wpAny _ _ (Sem.tryCatch _ _) _ _ _)); (fail_if_success (with_reducible show wpAny _ _ (Sem.onRaise _ _) _ _ _)); wp_delta))
  refine xAllocO (funO name qual p body scope [] .none kf nv) D2 rfl rfl fun fa h3 D3 => ?_
  repeat (first | (with_reducible refine wpAny_of_eq (by with_reducible assumption) ?_) | (with_reducible refine bEq (by with_reducible assumption) ?_) | (with_reducible refine bPure ?_) | (with_reducible refine bAssoc ?_) | (with_reducible refine bRule ?_) | (with_reducible refine wpAny_pure ?_) | (with_reducible refine wpAny_holding ?_) | (with_reducible refine wpAny_standAt ?_) | (with_reducible refine wpAny_point ?_) | (with_reducible refine wpAny_rule ?_) | (with_reducible refine fresh5 ?_) | (with_reducible refine wpAny_attempt ?_) | ((with_reducible show wpAny _ _ (loadPart _ _) _ _ _); (with_reducible first | refine wpAny_loadPart (by assumption) ?_ | refine wpAny_loadPart (LX.old (by assumption) (by assumption) (by decide)) ?_ | refine wpAny_loadPart (LX.at (by assumption) 0 rfl) ?_ | refine wpAny_loadPart (LX.at (by assumption) 1 rfl) ?_ | refine wpAny_loadPart (LX.at (by assumption) 2 rfl) ?_ | refine wpAny_loadPart (LX.at (by assumption) 3 rfl) ?_ | refine wpAny_loadPart (LX.at (by assumption) 4 rfl) ?_ | refine wpAny_loadPart (LX.at (by assumption) 5 rfl) ?_ | refine wpAny_loadPart (LX.at (by assumption) 6 rfl) ?_ | refine wpAny_loadPart (LX.at (by assumption) 7 rfl) ?_ | refine wpAny_loadPart (LX.at (by assumption) 8 rfl) ?_ | refine wpAny_loadPart (LX.at (by assumption) 9 rfl) ?_ | refine wpAny_loadPart (LX.at (by assumption) 10 rfl) ?_ | refine wpAny_loadPart (LX.at (by assumption) 11 rfl) ?_ | refine wpAny_loadPart (LX.at (by assumption) 12 rfl) ?_)) | ((with_reducible show wpAny _ _ (load _) _ _ _); (with_reducible first | refine wpAny_load (by assumption) ?_ | refine wpAny_load (LX.old (by assumption) (by assumption) (by decide)) ?_ | refine wpAny_load (LX.at (by assumption) 0 rfl) ?_ | refine wpAny_load (LX.at (by assumption) 1 rfl) ?_ | refine wpAny_load (LX.at (by assumption) 2 rfl) ?_ | refine wpAny_load (LX.at (by assumption) 3 rfl) ?_ | refine wpAny_load (LX.at (by assumption) 4 rfl) ?_ | refine wpAny_load (LX.at (by assumption) 5 rfl) ?_ | refine wpAny_load (LX.at (by assumption) 6 rfl) ?_ | refine wpAny_load (LX.at (by assumption) 7 rfl) ?_ | refine wpAny_load (LX.at (by assumption) 8 rfl) ?_ | refine wpAny_load (LX.at (by assumption) 9 rfl) ?_ | refine wpAny_load (LX.at (by assumption) 10 rfl) ?_ | refine wpAny_load (LX.at (by assumption) 11 rfl) ?_ | refine wpAny_load (LX.at (by assumption) 12 rfl) ?_)) | (with_reducible refine iteFb (by with_reducible assumption) ?_) | (with_reducible refine iteTb (by with_reducible assumption) ?_) | (with_reducible refine iteTd (by kernel_rfl!) ?_) | (with_reducible refine iteFd (by kernel_rfl!) ?_) | (with_reducible refine wpAny_bind ?_) | ((with_reducible show wpAny _ _ (typeLookup (Value.ref _) _) _ _ _); unfold typeLookup) | ((fail_if_success (with_reducible show wpAny _ _ (alloc _) _ _ _)); (fail_if_success (with_reducible show wpAny _ _ (updatePart _ _ _) _ _ _)); (fail_if_success (with_reducible show wpAny _ _ (nsSet _ _ _) _ _ _)); (fail_if_success (with_reducible show wpAny _ _ (enterFrame) _ _ _)); (fail_if_success (with_reducible show wpAny _ _ (nsGet _ _) _ _ _)); (fail_if_success (with_reducible show wpAny _ _ (List.mapM mkText _) _ _ _)); (fail_if_success (with_reducible show wpAny _ _ (functionCode _ _ _ _ _ _ _ _) _ _ _)); (fail_if_success (with_reducible show wpAny _ _ (makeFunction _ _ _ _ _ _ _ _ _ _ _) _ _ _)); (fail_if_success (with_reducible show wpAny _ _ (getAttrBy _ _ _) _ _ _)); (fail_if_success (with_reducible show wpAny _ _ (run _) _ _ _)); (fail_if_success (with_reducible show wpAny _ _ (call _ _ _) _ _ _)); (fail_if_success (with_reducible show wpAny _ _ (Sem.tryCatch _ _) _ _ _)); (fail_if_success (with_reducible show wpAny _ _ (Sem.onRaise _ _) _ _ _)); wp_delta))
  exact hQ _ _ _ _ _ _ _ _ _ _ _ _ _ _ _ _ _ _ _ _ _ _ _ _ _ _ _ _ _ _ _ D3
theorem fFunC3 {env : Env} {kc tbl n : Addr} {on : Obj} {rest : List (Addr × Obj)} {VS ps : Array Value} {pos : Pos} {fl : Nat} {name qual : Str} {p : Arguments} {scope : Scope} {body : List Stmt} {file : Str} {tf t7 t10 : Tok} {flags text : Int} {inF : Bool} {l1 l2 fns : List Str} {Q : Value → Shared → Prop}
   {mg : Str → Option Value} {bm cl : Addr} {nv : Value} {osl : Array (Option Value)}
   (D : LX h₀ h T ((kc, { cls := .type "code", data := .fields VS }) :: (tbl, tabObj ps) :: (n, on) :: rest)) (hc : env.code = .ref kc)
   (v11 : VS.getD 11 .none = .ref tbl) (v18 : VS.getD 18 .none = .str file tf) (v7 : VS.getD 7 .none = .int flags t7) (v9 : VS.getD 9 .none = .bool inF) (v10 : VS.getD 10 .none = .int text t10)
   (hno : codeAmong pos ps.toList = none) (hyes : ∀ c, codeAmong pos (ps ++ #[rawInt pos.line, rawInt pos.col, .ref c]).toList = some (.ref c)) (hfree : scope.freeNames = fns) (hloc : localNames p scope (.stmts body) = some (l1, l2))
   (hg : env.globals = 3) (hN : h₀.Ns 3 mg) (hT : 3 ≠ T) (m1 : mg (Str.ofString "__builtins__") = some (.ref bm)) (m2 : bm ≠ builtinsNs) (m3 : h₀.get? bm = some ⟨.type "module", some builtinsNs, .plain, osl⟩) (m8 : bm ≠ T) (n1 : mg (Str.ofString "__name__") = some nv)
   (hcl : closureFor scope env = pure [(Str.ofString "mycmp", cl)]) (hkw : p.kwonlyargs = []) (hdoc : docOf body = none)
   (hQ : ∀ fa ct kf tb2 k0 k1 k2 k18 v3 v4 v5 v6 v7 v8 v9 v10 v12 v13 v14 v15 v16 v17 h' t',
      LX h₀ h' T ((kc, { cls := .type "code", data := .fields VS }) :: (tbl, tabObj (ps ++ #[rawInt pos.line, rawInt pos.col, .ref kf])) :: (n, on) :: (fa, funO name qual p body scope [(Str.ofString "mycmp", cl)] (.ref ct) kf nv) :: (kf, codeO name qual file k0 k1 k2 k18 v3 v4 v5 v6 v7 v8 v9 v10 v12 v13 v14 v15 v16 v17 tb2) :: rest) →
      Q (.ref fa) ⟨h', g, d, t', os⟩) :
   wpAny (model PySem.Challenge.rw_oy0064_01.row.prog w) A (makeFunction name qual p (.stmts body) scope env [] [] [] pos fl) Q E ⟨h, g, d, t, os⟩ := by
  refine fFunC D 0 1 rfl rfl hc v11 v18 v7 v9 v10 hno hyes hfree hloc hg hN hT m1 m2 m3 m8 n1 hcl hkw hdoc fun fa ct kf tb2 a1 a2 a3 a4 o0 o1 o2 o3 o4 k0 k1 k2 k18 v3 v4 v5 v6 v7 v8 v9 v10 v12 v13 v14 v15 v16 v17 h' t' D' => ?_
  have z := D'.tin
  have D2 : LX h₀ h' T ((fa, funO name qual p body scope [(Str.ofString "mycmp", cl)] (.ref ct) kf nv) :: (kf, codeO name qual file k0 k1 k2 k18 v3 v4 v5 v6 v7 v8 v9 v10 v12 v13 v14 v15 v16 v17 tb2) :: (kc, { cls := .type "code", data := .fields VS }) :: (tbl, tabObj (ps ++ #[rawInt pos.line, rawInt pos.col, .ref kf])) :: (n, on) :: rest) := by
    refine LX.sub D' (.cons₂ _ (.cons₂ _ (.cons _ (.cons _ (.cons _ (.cons _ (.cons _ (.cons _ (.refl _))))))))) ?_
    have z := D.tin
    simp only [List.map_cons, List.mem_cons] at z ⊢
    rcases z with z | z | z | z <;> simp [z]
  have D3 := LX.perm D2 ((List.perm_append_comm (l₁ := [(fa, funO name qual p body scope [(Str.ofString "mycmp", cl)] (.ref ct) kf nv), (kf, codeO name qual file k0 k1 k2 k18 v3 v4 v5 v6 v7 v8 v9 v10 v12 v13 v14 v15 v16 v17 tb2)]) (l₂ := [(kc, { cls := .type "code", data := .fields VS }), (tbl, tabObj (ps ++ #[rawInt pos.line, rawInt pos.col, .ref kf])), (n, on)])).append_right rest)
  exact hQ fa ct kf tb2 k0 k1 k2 k18 v3 v4 v5 v6 v7 v8 v9 v10 v12 v13 v14 v15 v16 v17 h' t' D3
theorem fFunN3 {env : Env} {kc tbl n : Addr} {on : Obj} {rest : List (Addr × Obj)} {VS ps : Array Value} {pos : Pos} {fl : Nat} {name qual : Str} {p : Arguments} {scope : Scope} {body : List Stmt} {file : Str} {tf t7 t10 : Tok} {flags text : Int} {inF : Bool} {l1 l2 fns : List Str} {Q : Value → Shared → Prop}
   {mg : Str → Option Value} {bm : Addr} {nv : Value} {osl : Array (Option Value)}
   (D : LX h₀ h T ((kc, { cls := .type "code", data := .fields VS }) :: (tbl, tabObj ps) :: (n, on) :: rest)) (hc : env.code = .ref kc)
   (v11 : VS.getD 11 .none = .ref tbl) (v18 : VS.getD 18 .none = .str file tf) (v7 : VS.getD 7 .none = .int flags t7) (v9 : VS.getD 9 .none = .bool inF) (v10 : VS.getD 10 .none = .int text t10)
   (hno : codeAmong pos ps.toList = none) (hyes : ∀ c, codeAmong pos (ps ++ #[rawInt pos.line, rawInt pos.col, .ref c]).toList = some (.ref c)) (hfree : scope.freeNames = fns) (hloc : localNames p scope (.stmts body) = some (l1, l2))
   (hg : env.globals = 3) (hN : h₀.Ns 3 mg) (hT : 3 ≠ T) (m1 : mg (Str.ofString "__builtins__") = some (.ref bm)) (m2 : bm ≠ builtinsNs) (m3 : h₀.get? bm = some ⟨.type "module", some builtinsNs, .plain, osl⟩) (m8 : bm ≠ T) (n1 : mg (Str.ofString "__name__") = some nv)
   (hcl : closureFor scope env = pure []) (hkw : p.kwonlyargs = []) (hdoc : docOf body = none)
   (hQ : ∀ fa kf tb2 k0 k1 k2 k18 v3 v4 v5 v6 v7 v8 v9 v10 v12 v13 v14 v15 v16 v17 h' t',
      LX h₀ h' T ((kc, { cls := .type "code", data := .fields VS }) :: (tbl, tabObj (ps ++ #[rawInt pos.line, rawInt pos.col, .ref kf])) :: (n, on) :: (fa, funO name qual p body scope [] .none kf nv) :: (kf, codeO name qual file k0 k1 k2 k18 v3 v4 v5 v6 v7 v8 v9 v10 v12 v13 v14 v15 v16 v17 tb2) :: rest) →
      Q (.ref fa) ⟨h', g, d, t', os⟩) :
   wpAny (model PySem.Challenge.rw_oy0064_01.row.prog w) A (makeFunction name qual p (.stmts body) scope env [] [] [] pos fl) Q E ⟨h, g, d, t, os⟩ := by
  refine fFunN D 0 1 rfl rfl hc v11 v18 v7 v9 v10 hno hyes hfree hloc hg hN hT m1 m2 m3 m8 n1 hcl hkw hdoc fun fa kf tb2 a1 a2 a3 a4 o1 o2 o3 o4 k0 k1 k2 k18 v3 v4 v5 v6 v7 v8 v9 v10 v12 v13 v14 v15 v16 v17 h' t' D' => ?_
  have z := D'.tin
  have D2 : LX h₀ h' T ((fa, funO name qual p body scope [] .none kf nv) :: (kf, codeO name qual file k0 k1 k2 k18 v3 v4 v5 v6 v7 v8 v9 v10 v12 v13 v14 v15 v16 v17 tb2) :: (kc, { cls := .type "code", data := .fields VS }) :: (tbl, tabObj (ps ++ #[rawInt pos.line, rawInt pos.col, .ref kf])) :: (n, on) :: rest) := by
    refine LX.sub D' (.cons₂ _ (.cons₂ _ (.cons _ (.cons _ (.cons _ (.cons _ (.cons _ (.refl _)))))))) ?_
    have z := D.tin
    simp only [List.map_cons, List.mem_cons] at z ⊢
    rcases z with z | z | z | z <;> simp [z]
  have D3 := LX.perm D2 ((List.perm_append_comm (l₁ := [(fa, funO name qual p body scope [] .none kf nv), (kf, codeO name qual file k0 k1 k2 k18 v3 v4 v5 v6 v7 v8 v9 v10 v12 v13 v14 v15 v16 v17 tb2)]) (l₂ := [(kc, { cls := .type "code", data := .fields VS }), (tbl, tabObj (ps ++ #[rawInt pos.line, rawInt pos.col, .ref kf])), (n, on)])).append_right rest)
  exact hQ fa kf tb2 k0 k1 k2 k18 v3 v4 v5 v6 v7 v8 v9 v10 v12 v13 v14 v15 v16 v17 h' t' D3
end
end Mine
end PartFD
section PartCB
open PySem PySem.W PySem.Calls PyProof.Rows PySem.W.X
set_option maxRecDepth 100000
set_option maxHeartbeats 8000000
namespace Mine
theorem callKw {prog : Program} {w : World} {A : Around} {Q E : Value → Shared → Prop} {s : Shared} {f : Value} {l : List Value} {kw : List (Str × Value)} (e : kw = []) (h : wpAny (model prog w) A (call f l) Q E s) : wpAny (model prog w) A (call f l kw) Q E s := by subst e; exact h
theorem envAs {prog : Program} {w : World} {A : Around} {l : List Stmt} {Q : Flow → Shared → Prop} {E : Value → Shared → Prop} {s : Shared} {sc : Scope} {lo gl bi : Addr} {cells : List (Str × Addr)} {qual : Str} {func frame : Option Addr} {code : Value}
   (cells' : List (Str × Addr)) (qual' : Str) (e1 : cells = cells') (e2 : qual = qual') (h : wpAny (model prog w) A (execs l ⟨sc, lo, gl, cells', qual', func, code, frame, bi⟩) Q E s) : wpAny (model prog w) A (execs l ⟨sc, lo, gl, cells, qual, func, code, frame, bi⟩) Q E s := by subst e1 e2; exact h
noncomputable abbrev dO (es : List DictEntry) (k : Nat) : Obj := { cls := .type "dict", data := .dict es.toArray k }
noncomputable abbrev eN (hh : Int) (tk : Tok) (n : String) (v : Value) : DictEntry := ⟨hh, .str (Str.ofString n) tk, v⟩
/-- cmp_to_key's own record, and the defs of its class -/
noncomputable def defK : Stmt := PySem.Challenge.pw_oy0064_01.main.body.getD 7 (.Pass ⟨0, 0, 0, 0⟩)
noncomputable def clsBody (_ : Params) : List Stmt := match defK with | .FunctionDef _ _ (.ClassDef _ _ _ body _ _ _ _ _ _ _ :: _) _ _ _ _ _ _ _ => body | _ => []
/-- what comes after is called by names -/
theorem hideQ {α : Type} {prog : Program} {w : World} {A : Around} {m : Sem α} {Q : α → Shared → Prop} {E : Value → Shared → Prop} {s : Shared}
   (H : ∀ A' Q' E', A = A' → Q = Q' → E = E' → wpAny (model prog w) A' m Q' E' s) : wpAny (model prog w) A m Q E s := H _ _ _ rfl rfl rfl
noncomputable def defAt (P : Params) (k : Nat) : Arguments × List Stmt × Scope := match (clsBody P)[k]? with | some (.FunctionDef _ args body _ _ _ scope _ _ _) => (args, body, scope) | _ => (default, [], default)
noncomputable abbrev funK (P : Params) (k : Nat) (name : String) (cls : List (Str × Addr)) (ct : Value) (kf : Addr) : Obj :=
  funO (Str.ofString name) (Str.ofString ("cmp_to_key.<locals>.K." ++ name)) (defAt P k).1 (defAt P k).2.1 (defAt P k).2.2 cls ct kf (.str (Str.ofString "law_oy0064_01") 278)
theorem LX.eq {h₀ h : Heap} {T : Addr} {n1 n2 : List (Addr × Obj)} (e : n1 = n2) (D : LX h₀ h T n1) : LX h₀ h T n2 := e ▸ D
theorem cls43 : ∀ (w : World) (p : Program) (loose : List Str) (mean : ExcName → Option Value) (mg mb : Str → Option Value) (A : Around) (Q E : Value → Shared → Prop) (h : Heap) (g : Array GenState) (d : Drawn) (t : Nat) (os : OsState) (f : Addr)
   (_ : (Mine.hd.heap_39 w.params).In h) (_ : h.get? 38 = some (tabObj #[])) (_ : Top p loose mean mg mb h) (_ : A.depth + 3 < recursionLimit)
   (_ : ∀ md a ns bt qt mt ft sl f1 f2 f3 f4 f5 f6 sa (hs : Nat → Int) (ks : Nat → Tok) ih1 ih2 ik1 ik2 ik cl ct kf0 kf1 tb0 tb1 file c0k0 c0k1 c0k2 c0k18 c0w3 c0w4 c0w5 c0w6 c0w7 c0w8 c0w9 c0w10 c0w12 c0w13 c0w14 c0w15 c0w16 c0w17 c1k0 c1k1 c1k2 c1k18 c1w3 c1w4 c1w5 c1w6 c1w7 c1w8 c1w9 c1w10 c1w12 c1w13 c1w14 c1w15 c1w16 c1w17 tabE h' t', LX h h' 38
     [(md, mdO a ik), (a, cF a ns bt t qt (Str.ofString "cmp_to_key.<locals>.K")), (ns, nsF hs ks (.str (Str.ofString "cpy313.functools") mt) (.int 53 ft) sl f1 f2 f3 f4 f5 f6 sa md ih1 ih2 ik1 ik2),
      (f2, funK w.params 3 "__lt__" [(Str.ofString "mycmp", cl)] (.ref ct) kf1), (kf1, codeO (Str.ofString "__lt__") (Str.ofString "cmp_to_key.<locals>.K.__lt__") file c1k0 c1k1 c1k2 c1k18 c1w3 c1w4 c1w5 c1w6 c1w7 c1w8 c1w9 c1w10 c1w12 c1w13 c1w14 c1w15 c1w16 c1w17 tb1), (f1, funK w.params 2 "__init__" [] .none kf0), (kf0, codeO (Str.ofString "__init__") (Str.ofString "cmp_to_key.<locals>.K.__init__") file c0k0 c0k1 c0k2 c0k18 c0w3 c0w4 c0w5 c0w6 c0w7 c0w8 c0w9 c0w10 c0w12 c0w13 c0w14 c0w15 c0w16 c0w17 tb0),
      (cl, { cls := .type "cell", data := .cell (some (.ref f)) }), (38, tabObj tabE)] → Q (.ref a) ⟨h', g, d, t', os⟩),
   wpAny (model PySem.Challenge.rw_oy0064_01.row.prog w) A (call (.ref 43) [.ref f]) Q E ⟨h, g, d, t, os⟩ := by
  k_fill
  intro w p loose mean mg mb A Q E h g d t os f X h38 T hroom hQ
  have hlim := T.nolimit
  have b1 : mb (Str.ofString "__build_class__") = some (.builtin "__build_class__") := (T.builtins _ (by decide)).trans (by kernel_rfl)
  have b2 : mb (Str.ofString "object") = some (.type "object") := (T.builtins _ (by decide)).trans (by kernel_rfl)
  obtain ⟨bm, ⟨oc, od, odt, osl⟩, m1, m2, m3, m4, m5, m6⟩ := T.bmain
  dsimp only at m4 m5 m6
  subst m4 m5 m6
  have m7 : (bm == builtinsNs) = false := by simpa using m2
  have m8 : bm ≠ 38 := fun e => by subst e; rw [h38] at m3; cases m3
  have n1 := mg_of X T.g (n := Str.ofString "__name__") (by k_is)
  have g1 : mg (Str.ofString "object") = none := mg_none_of X T.g (by k_is)
  refine wpAny_call ?_
  k_dflt (refine' codeAny_call_function ?r ?k1 ?a ?b ?c ?e ?k2 ?_; (case r => show A.depth < _; omega); (case k1 => exact X _ _ (by k_is)); (case a => exact rfl); (case b => exact rfl); (case c => exact rfl); (case e => exact rfl); (case k2 => exact codeRec_of X (by k_is)))
  have D0 := LX.start h38
  refine wpAny_of_eq (a := [(Str.ofString "mycmp", .ref f)]) (by kernel_rfl!) ?_
  unfold newFunctionEnv
  repeat (first | (with_reducible refine wpAny_of_eq (by with_reducible assumption) ?_) | (with_reducible refine bEq (by with_reducible assumption) ?_) | (with_reducible refine bPure ?_) | (with_reducible refine bAssoc ?_) | (with_reducible refine bRule ?_) | (with_reducible refine wpAny_pure ?_) | (with_reducible refine wpAny_holding ?_) | (with_reducible refine wpAny_standAt ?_) | (with_reducible refine wpAny_point ?_) | (with_reducible refine wpAny_rule ?_) | (with_reducible refine fresh5 ?_) | (with_reducible refine wpAny_attempt ?_) | ((with_reducible show wpAny _ _ (loadPart _ _) _ _ _); (with_reducible first | refine wpAny_loadPart (by assumption) ?_ | refine wpAny_loadPart (LX.old (by assumption) (by assumption) (by decide)) ?_ | refine wpAny_loadPart (LX.at (by assumption) 0 rfl) ?_ | refine wpAny_loadPart (LX.at (by assumption) 1 rfl) ?_ | refine wpAny_loadPart (LX.at (by assumption) 2 rfl) ?_ | refine wpAny_loadPart (LX.at (by assumption) 3 rfl) ?_ | refine wpAny_loadPart (LX.at (by assumption) 4 rfl) ?_ | refine wpAny_loadPart (LX.at (by assumption) 5 rfl) ?_ | refine wpAny_loadPart (LX.at (by assumption) 6 rfl) ?_ | refine wpAny_loadPart (LX.at (by assumption) 7 rfl) ?_ | refine wpAny_loadPart (LX.at (by assumption) 8 rfl) ?_ | refine wpAny_loadPart (LX.at (by assumption) 9 rfl) ?_ | refine wpAny_loadPart (LX.at (by assumption) 10 rfl) ?_ | refine wpAny_loadPart (LX.at (by assumption) 11 rfl) ?_ | refine wpAny_loadPart (LX.at (by assumption) 12 rfl) ?_)) | ((with_reducible show wpAny _ _ (load _) _ _ _); (with_reducible first | refine wpAny_load (by assumption) ?_ | refine wpAny_load (LX.old (by assumption) (by assumption) (by decide)) ?_ | refine wpAny_load (LX.at (by assumption) 0 rfl) ?_ | refine wpAny_load (LX.at (by assumption) 1 rfl) ?_ | refine wpAny_load (LX.at (by assumption) 2 rfl) ?_ | refine wpAny_load (LX.at (by assumption) 3 rfl) ?_ | refine wpAny_load (LX.at (by assumption) 4 rfl) ?_ | refine wpAny_load (LX.at (by assumption) 5 rfl) ?_ | refine wpAny_load (LX.at (by assumption) 6 rfl) ?_ | refine wpAny_load (LX.at (by assumption) 7 rfl) ?_ | refine wpAny_load (LX.at (by assumption) 8 rfl) ?_ | refine wpAny_load (LX.at (by assumption) 9 rfl) ?_ | refine wpAny_load (LX.at (by assumption) 10 rfl) ?_ | refine wpAny_load (LX.at (by assumption) 11 rfl) ?_ | refine wpAny_load (LX.at (by assumption) 12 rfl) ?_)) | (with_reducible refine iteFb (by with_reducible assumption) ?_) | (with_reducible refine iteTb (by with_reducible assumption) ?_) | (with_reducible refine iteTd (by kernel_rfl!) ?_) | (with_reducible refine iteFd (by kernel_rfl!) ?_) | (with_reducible refine wpAny_bind ?_) | ((with_reducible show wpAny _ _ (typeLookup (Value.ref _) _) _ _ _); unfold typeLookup) | ((fail_if_success (with_reducible show wpAny _ _ (alloc _) _ _ _)); (fail_if_success (with_reducible show wpAny _ _ (updatePart _ _ _) _ _ _)); (fail_if_success (with_reducible show wpAny _ _ (nsSet _ _ _) _ _ _)); (fail_if_success (with_reducible show wpAny _ _ (enterFrame) _ _ _)); (fail_if_success (with_reducible show wpAny _ _ (nsGet _ _) _ _ _)); (fail_if_success (with_reducible show wpAny _ _ (List.mapM mkText _) _ _ _)); (fail_if_success (with_reducible show wpAny _ _ (functionCode _ _ _ _ _ _ _ _) _ _ _)); (fail_if_success (with_reducible show wpAny _ _ (makeFunction _ _ _ _ _ _ _ _ _ _ _) _ _ _)); (fail_if_success (with_reducible show wpAny _ _ (getAttrBy _ _ _) _ _ _)); (fail_if_success (with_reducible show wpAny _ _ (run _) _ _ _)); (fail_if_success (with_reducible show wpAny _ _ (call _ _ _) _ _ _)); (fail_if_success (with_reducible show wpAny _ _ (Sem.tryCatch _ _) _ _ _)); (fail_if_success (with_reducible show wpAny _ _ (Sem.onRaise _ _) _ _ _)); wp_delta))
  refine xAllocO { cls := .type "frame", data := .dict #[] } (by assumption) (by kernel_rfl!) rfl fun L h1 D1 => ?_
  repeat (first | (with_reducible refine wpAny_of_eq (by with_reducible assumption) ?_) | (with_reducible refine bEq (by with_reducible assumption) ?_) | (with_reducible refine bPure ?_) | (with_reducible refine bAssoc ?_) | (with_reducible refine bRule ?_) | (with_reducible refine wpAny_pure ?_) | (with_reducible refine wpAny_holding ?_) | (with_reducible refine wpAny_standAt ?_) | (with_reducible refine wpAny_point ?_) | (with_reducible refine wpAny_rule ?_) | (with_reducible refine fresh5 ?_) | (with_reducible refine wpAny_attempt ?_) | ((with_reducible show wpAny _ _ (loadPart _ _) _ _ _); (with_reducible first | refine wpAny_loadPart (by assumption) ?_ | refine wpAny_loadPart (LX.old (by assumption) (by assumption) (by decide)) ?_ | refine wpAny_loadPart (LX.at (by assumption) 0 rfl) ?_ | refine wpAny_loadPart (LX.at (by assumption) 1 rfl) ?_ | refine wpAny_loadPart (LX.at (by assumption) 2 rfl) ?_ | refine wpAny_loadPart (LX.at (by assumption) 3 rfl) ?_ | refine wpAny_loadPart (LX.at (by assumption) 4 rfl) ?_ | refine wpAny_loadPart (LX.at (by assumption) 5 rfl) ?_ | refine wpAny_loadPart (LX.at (by assumption) 6 rfl) ?_ | refine wpAny_loadPart (LX.at (by assumption) 7 rfl) ?_ | refine wpAny_loadPart (LX.at (by assumption) 8 rfl) ?_ | refine wpAny_loadPart (LX.at (by assumption) 9 rfl) ?_ | refine wpAny_loadPart (LX.at (by assumption) 10 rfl) ?_ | refine wpAny_loadPart (LX.at (by assumption) 11 rfl) ?_ | refine wpAny_loadPart (LX.at (by assumption) 12 rfl) ?_)) | ((with_reducible show wpAny _ _ (load _) _ _ _); (with_reducible first | refine wpAny_load (by assumption) ?_ | refine wpAny_load (LX.old (by assumption) (by assumption) (by decide)) ?_ | refine wpAny_load (LX.at (by assumption) 0 rfl) ?_ | refine wpAny_load (LX.at (by assumption) 1 rfl) ?_ | refine wpAny_load (LX.at (by assumption) 2 rfl) ?_ | refine wpAny_load (LX.at (by assumption) 3 rfl) ?_ | refine wpAny_load (LX.at (by assumption) 4 rfl) ?_ | refine wpAny_load (LX.at (by assumption) 5 rfl) ?_ | refine wpAny_load (LX.at (by assumption) 6 rfl) ?_ | refine wpAny_load (LX.at (by assumption) 7 rfl) ?_ | refine wpAny_load (LX.at (by assumption) 8 rfl) ?_ | refine wpAny_load (LX.at (by assumption) 9 rfl) ?_ | refine wpAny_load (LX.at (by assumption) 10 rfl) ?_ | refine wpAny_load (LX.at (by assumption) 11 rfl) ?_ | refine wpAny_load (LX.at (by assumption) 12 rfl) ?_)) | (with_reducible refine iteFb (by with_reducible assumption) ?_) | (with_reducible refine iteTb (by with_reducible assumption) ?_) | (with_reducible refine iteTd (by kernel_rfl!) ?_) | (with_reducible refine iteFd (by kernel_rfl!) ?_) | (with_reducible refine wpAny_bind ?_) | ((with_reducible show wpAny _ _ (typeLookup (Value.ref _) _) _ _ _); unfold typeLookup) | ((fail_if_success (with_reducible show wpAny _ _ (alloc _) _ _ _)); (fail_if_success (with_reducible show wpAny _ _ (updatePart _ _ _) _ _ _)); (fail_if_success (with_reducible show wpAny _ _ (nsSet _ _ _) _ _ _)); (fail_if_success (with_reducible show wpAny _ _ (enterFrame) _ _ _)); (fail_if_success (with_reducible show wpAny _ _ (nsGet _ _) _ _ _)); (fail_if_success (with_reducible show wpAny _ _ (List.mapM mkText _) _ _ _)); (fail_if_success (with_reducible show wpAny _ _ (functionCode _ _ _ _ _ _ _ _) _ _ _)); (fail_if_success (with_reducible show wpAny _ _ (makeFunction _ _ _ _ _ _ _ _ _ _ _) _ _ _)); (fail_if_success (with_reducible show wpAny _ _ (getAttrBy _ _ _) _ _ _)); (fail_if_success (with_reducible show wpAny _ _ (run _) _ _ _)); (fail_if_success (with_reducible show wpAny _ _ (call _ _ _) _ _ _)); (fail_if_success (with_reducible show wpAny _ _ (Sem.tryCatch _ _) _ _ _)); (fail_if_success (with_reducible show wpAny _ _ (Sem.onRaise _ _) _ _ _)); wp_delta))
  refine xAllocO { cls := .type "cell", data := .cell none } (by assumption) (by kernel_rfl!) rfl fun cl h2 D2 => ?_
  repeat (first | (with_reducible refine wpAny_of_eq (by with_reducible assumption) ?_) | (with_reducible refine bEq (by with_reducible assumption) ?_) | (with_reducible refine bPure ?_) | (with_reducible refine bAssoc ?_) | (with_reducible refine bRule ?_) | (with_reducible refine wpAny_pure ?_) | (with_reducible refine wpAny_holding ?_) | (with_reducible refine wpAny_standAt ?_) | (with_reducible refine wpAny_point ?_) | (with_reducible refine wpAny_rule ?_) | (with_reducible refine fresh5 ?_) | (with_reducible refine wpAny_attempt ?_) | ((with_reducible show wpAny _ _ (loadPart _ _) _ _ _); (with_reducible first | refine wpAny_loadPart (by assumption) ?_ | refine wpAny_loadPart (LX.old (by assumption) (by assumption) (by decide)) ?_ | refine wpAny_loadPart (LX.at (by assumption) 0 rfl) ?_ | refine wpAny_loadPart (LX.at (by assumption) 1 rfl) ?_ | refine wpAny_loadPart (LX.at (by assumption) 2 rfl) ?_ | refine wpAny_loadPart (LX.at (by assumption) 3 rfl) ?_ | refine wpAny_loadPart (LX.at (by assumption) 4 rfl) ?_ | refine wpAny_loadPart (LX.at (by assumption) 5 rfl) ?_ | refine wpAny_loadPart (LX.at (by assumption) 6 rfl) ?_ | refine wpAny_loadPart (LX.at (by assumption) 7 rfl) ?_ | refine wpAny_loadPart (LX.at (by assumption) 8 rfl) ?_ | refine wpAny_loadPart (LX.at (by assumption) 9 rfl) ?_ | refine wpAny_loadPart (LX.at (by assumption) 10 rfl) ?_ | refine wpAny_loadPart (LX.at (by assumption) 11 rfl) ?_ | refine wpAny_loadPart (LX.at (by assumption) 12 rfl) ?_)) | ((with_reducible show wpAny _ _ (load _) _ _ _); (with_reducible first | refine wpAny_load (by assumption) ?_ | refine wpAny_load (LX.old (by assumption) (by assumption) (by decide)) ?_ | refine wpAny_load (LX.at (by assumption) 0 rfl) ?_ | refine wpAny_load (LX.at (by assumption) 1 rfl) ?_ | refine wpAny_load (LX.at (by assumption) 2 rfl) ?_ | refine wpAny_load (LX.at (by assumption) 3 rfl) ?_ | refine wpAny_load (LX.at (by assumption) 4 rfl) ?_ | refine wpAny_load (LX.at (by assumption) 5 rfl) ?_ | refine wpAny_load (LX.at (by assumption) 6 rfl) ?_ | refine wpAny_load (LX.at (by assumption) 7 rfl) ?_ | refine wpAny_load (LX.at (by assumption) 8 rfl) ?_ | refine wpAny_load (LX.at (by assumption) 9 rfl) ?_ | refine wpAny_load (LX.at (by assumption) 10 rfl) ?_ | refine wpAny_load (LX.at (by assumption) 11 rfl) ?_ | refine wpAny_load (LX.at (by assumption) 12 rfl) ?_)) | (with_reducible refine iteFb (by with_reducible assumption) ?_) | (with_reducible refine iteTb (by with_reducible assumption) ?_) | (with_reducible refine iteTd (by kernel_rfl!) ?_) | (with_reducible refine iteFd (by kernel_rfl!) ?_) | (with_reducible refine wpAny_bind ?_) | ((with_reducible show wpAny _ _ (typeLookup (Value.ref _) _) _ _ _); unfold typeLookup) | ((fail_if_success (with_reducible show wpAny _ _ (alloc _) _ _ _)); (fail_if_success (with_reducible show wpAny _ _ (updatePart _ _ _) _ _ _)); (fail_if_success (with_reducible show wpAny _ _ (nsSet _ _ _) _ _ _)); (fail_if_success (with_reducible show wpAny _ _ (enterFrame) _ _ _)); (fail_if_success (with_reducible show wpAny _ _ (nsGet _ _) _ _ _)); (fail_if_success (with_reducible show wpAny _ _ (List.mapM mkText _) _ _ _)); (fail_if_success (with_reducible show wpAny _ _ (functionCode _ _ _ _ _ _ _ _) _ _ _)); (fail_if_success (with_reducible show wpAny _ _ (makeFunction _ _ _ _ _ _ _ _ _ _ _) _ _ _)); (fail_if_success (with_reducible show wpAny _ _ (getAttrBy _ _ _) _ _ _)); (fail_if_success (with_reducible show wpAny _ _ (run _) _ _ _)); (fail_if_success (with_reducible show wpAny _ _ (call _ _ _) _ _ _)); (fail_if_success (with_reducible show wpAny _ _ (Sem.tryCatch _ _) _ _ _)); (fail_if_success (with_reducible show wpAny _ _ (Sem.onRaise _ _) _ _ _)); wp_delta))
  refine xUpdO { cls := .type "cell", data := .cell (some (.ref f)) } (by assumption) 0 rfl (by kernel_rfl!) rfl fun h3 D3 => ?_
  repeat (first | (with_reducible refine wpAny_of_eq (by with_reducible assumption) ?_) | (with_reducible refine bEq (by with_reducible assumption) ?_) | (with_reducible refine bPure ?_) | (with_reducible refine bAssoc ?_) | (with_reducible refine bRule ?_) | (with_reducible refine wpAny_pure ?_) | (with_reducible refine wpAny_holding ?_) | (with_reducible refine wpAny_standAt ?_) | (with_reducible refine wpAny_point ?_) | (with_reducible refine wpAny_rule ?_) | (with_reducible refine fresh5 ?_) | (with_reducible refine wpAny_attempt ?_) | ((with_reducible show wpAny _ _ (loadPart _ _) _ _ _); (with_reducible first | refine wpAny_loadPart (by assumption) ?_ | refine wpAny_loadPart (LX.old (by assumption) (by assumption) (by decide)) ?_ | refine wpAny_loadPart (LX.at (by assumption) 0 rfl) ?_ | refine wpAny_loadPart (LX.at (by assumption) 1 rfl) ?_ | refine wpAny_loadPart (LX.at (by assumption) 2 rfl) ?_ | refine wpAny_loadPart (LX.at (by assumption) 3 rfl) ?_ | refine wpAny_loadPart (LX.at (by assumption) 4 rfl) ?_ | refine wpAny_loadPart (LX.at (by assumption) 5 rfl) ?_ | refine wpAny_loadPart (LX.at (by assumption) 6 rfl) ?_ | refine wpAny_loadPart (LX.at (by assumption) 7 rfl) ?_ | refine wpAny_loadPart (LX.at (by assumption) 8 rfl) ?_ | refine wpAny_loadPart (LX.at (by assumption) 9 rfl) ?_ | refine wpAny_loadPart (LX.at (by assumption) 10 rfl) ?_ | refine wpAny_loadPart (LX.at (by assumption) 11 rfl) ?_ | refine wpAny_loadPart (LX.at (by assumption) 12 rfl) ?_)) | ((with_reducible show wpAny _ _ (load _) _ _ _); (with_reducible first | refine wpAny_load (by assumption) ?_ | refine wpAny_load (LX.old (by assumption) (by assumption) (by decide)) ?_ | refine wpAny_load (LX.at (by assumption) 0 rfl) ?_ | refine wpAny_load (LX.at (by assumption) 1 rfl) ?_ | refine wpAny_load (LX.at (by assumption) 2 rfl) ?_ | refine wpAny_load (LX.at (by assumption) 3 rfl) ?_ | refine wpAny_load (LX.at (by assumption) 4 rfl) ?_ | refine wpAny_load (LX.at (by assumption) 5 rfl) ?_ | refine wpAny_load (LX.at (by assumption) 6 rfl) ?_ | refine wpAny_load (LX.at (by assumption) 7 rfl) ?_ | refine wpAny_load (LX.at (by assumption) 8 rfl) ?_ | refine wpAny_load (LX.at (by assumption) 9 rfl) ?_ | refine wpAny_load (LX.at (by assumption) 10 rfl) ?_ | refine wpAny_load (LX.at (by assumption) 11 rfl) ?_ | refine wpAny_load (LX.at (by assumption) 12 rfl) ?_)) | (with_reducible refine iteFb (by with_reducible assumption) ?_) | (with_reducible refine iteTb (by with_reducible assumption) ?_) | (with_reducible refine iteTd (by kernel_rfl!) ?_) | (with_reducible refine iteFd (by kernel_rfl!) ?_) | (with_reducible refine wpAny_bind ?_) | ((with_reducible show wpAny _ _ (typeLookup (Value.ref _) _) _ _ _); unfold typeLookup) | ((fail_if_success (with_reducible show wpAny _ _ (alloc _) _ _ _)); (fail_if_success (with_reducible show wpAny _ _ (updatePart _ _ _) _ _ _)); (fail_if_success (with_reducible show wpAny _ _ (nsSet _ _ _) _ _ _)); (fail_if_success (with_reducible show wpAny _ _ (enterFrame) _ _ _)); (fail_if_success (with_reducible show wpAny _ _ (nsGet _ _) _ _ _)); (fail_if_success (with_reducible show wpAny _ _ (List.mapM mkText _) _ _ _)); (fail_if_success (with_reducible show wpAny _ _ (functionCode _ _ _ _ _ _ _ _) _ _ _)); (fail_if_success (with_reducible show wpAny _ _ (makeFunction _ _ _ _ _ _ _ _ _ _ _) _ _ _)); (fail_if_success (with_reducible show wpAny _ _ (getAttrBy _ _ _) _ _ _)); (fail_if_success (with_reducible show wpAny _ _ (run _) _ _ _)); (fail_if_success (with_reducible show wpAny _ _ (call _ _ _) _ _ _)); (fail_if_success (with_reducible show wpAny _ _ (Sem.tryCatch _ _) _ _ _)); (fail_if_success (with_reducible show wpAny _ _ (Sem.onRaise _ _) _ _ _)); wp_delta))
  have kAll : ∀ b o, h.get? b = some o → h3.get? b = some o := fun b o e => by
    by_cases hb : b = 38
    · subst hb; rw [h38] at e; cases e; exact D3.at 2 rfl
    · exact D3.keep b o e hb
  refine ⟨hlim.keeps kAll, codeAny_func ?_⟩
  dsimp only
  refine hideQ fun A1 K1 E1 hA1 hK1 hE1 => ?_
  have hr1 : A1.depth = A.depth + 1 := by rw [← hA1]; rfl
  refine envAs [(Str.ofString "mycmp", cl)] (Str.ofString "cmp_to_key.<locals>.") (by kernel_rfl!) (by kernel_rfl!) ?_
  repeat (first | (with_reducible refine wpAny_of_eq (by with_reducible assumption) ?_) | (with_reducible refine bEq (by with_reducible assumption) ?_) | (with_reducible refine bPure ?_) | (with_reducible refine bAssoc ?_) | (with_reducible refine bRule ?_) | (with_reducible refine wpAny_pure ?_) | (with_reducible refine wpAny_holding ?_) | (with_reducible refine wpAny_standAt ?_) | (with_reducible refine wpAny_point ?_) | (with_reducible refine wpAny_rule ?_) | (with_reducible refine fresh5 ?_) | (with_reducible refine wpAny_attempt ?_) | ((with_reducible show wpAny _ _ (loadPart _ _) _ _ _); (with_reducible first | refine wpAny_loadPart (by assumption) ?_ | refine wpAny_loadPart (LX.old (by assumption) (by assumption) (by decide)) ?_ | refine wpAny_loadPart (LX.at (by assumption) 0 rfl) ?_ | refine wpAny_loadPart (LX.at (by assumption) 1 rfl) ?_ | refine wpAny_loadPart (LX.at (by assumption) 2 rfl) ?_ | refine wpAny_loadPart (LX.at (by assumption) 3 rfl) ?_ | refine wpAny_loadPart (LX.at (by assumption) 4 rfl) ?_ | refine wpAny_loadPart (LX.at (by assumption) 5 rfl) ?_ | refine wpAny_loadPart (LX.at (by assumption) 6 rfl) ?_ | refine wpAny_loadPart (LX.at (by assumption) 7 rfl) ?_ | refine wpAny_loadPart (LX.at (by assumption) 8 rfl) ?_ | refine wpAny_loadPart (LX.at (by assumption) 9 rfl) ?_ | refine wpAny_loadPart (LX.at (by assumption) 10 rfl) ?_ | refine wpAny_loadPart (LX.at (by assumption) 11 rfl) ?_ | refine wpAny_loadPart (LX.at (by assumption) 12 rfl) ?_)) | ((with_reducible show wpAny _ _ (load _) _ _ _); (with_reducible first | refine wpAny_load (by assumption) ?_ | refine wpAny_load (LX.old (by assumption) (by assumption) (by decide)) ?_ | refine wpAny_load (LX.at (by assumption) 0 rfl) ?_ | refine wpAny_load (LX.at (by assumption) 1 rfl) ?_ | refine wpAny_load (LX.at (by assumption) 2 rfl) ?_ | refine wpAny_load (LX.at (by assumption) 3 rfl) ?_ | refine wpAny_load (LX.at (by assumption) 4 rfl) ?_ | refine wpAny_load (LX.at (by assumption) 5 rfl) ?_ | refine wpAny_load (LX.at (by assumption) 6 rfl) ?_ | refine wpAny_load (LX.at (by assumption) 7 rfl) ?_ | refine wpAny_load (LX.at (by assumption) 8 rfl) ?_ | refine wpAny_load (LX.at (by assumption) 9 rfl) ?_ | refine wpAny_load (LX.at (by assumption) 10 rfl) ?_ | refine wpAny_load (LX.at (by assumption) 11 rfl) ?_ | refine wpAny_load (LX.at (by assumption) 12 rfl) ?_)) | (with_reducible refine iteFb (by with_reducible assumption) ?_) | (with_reducible refine iteTb (by with_reducible assumption) ?_) | (with_reducible refine iteTd (by kernel_rfl!) ?_) | (with_reducible refine iteFd (by kernel_rfl!) ?_) | (with_reducible refine wpAny_bind ?_) | ((with_reducible show wpAny _ _ (typeLookup (Value.ref _) _) _ _ _); unfold typeLookup) | ((fail_if_success (with_reducible show wpAny _ _ (alloc _) _ _ _)); (fail_if_success (with_reducible show wpAny _ _ (updatePart _ _ _) _ _ _)); (fail_if_success (with_reducible show wpAny _ _ (nsSet _ _ _) _ _ _)); (fail_if_success (with_reducible show wpAny _ _ (enterFrame) _ _ _)); (fail_if_success (with_reducible show wpAny _ _ (nsGet _ _) _ _ _)); (fail_if_success (with_reducible show wpAny _ _ (List.mapM mkText _) _ _ _)); (fail_if_success (with_reducible show wpAny _ _ (functionCode _ _ _ _ _ _ _ _) _ _ _)); (fail_if_success (with_reducible show wpAny _ _ (makeFunction _ _ _ _ _ _ _ _ _ _ _) _ _ _)); (fail_if_success (with_reducible show wpAny _ _ (getAttrBy _ _ _) _ _ _)); (fail_if_success (with_reducible show wpAny _ _ (run _) _ _ _)); (fail_if_success (with_reducible show wpAny _ _ (call _ _ _) _ _ _)); (fail_if_success (with_reducible show wpAny _ _ (Sem.tryCatch _ _) _ _ _)); (fail_if_success (with_reducible show wpAny _ _ (Sem.onRaise _ _) _ _ _)); wp_delta))
  refine wpAny_nsGet (D3.ns T.b (show builtinsNs ≠ 38 by decide)) ?_
  rw [b1]
  repeat (first | (with_reducible refine wpAny_of_eq (by with_reducible assumption) ?_) | (with_reducible refine bEq (by with_reducible assumption) ?_) | (with_reducible refine bPure ?_) | (with_reducible refine bAssoc ?_) | (with_reducible refine bRule ?_) | (with_reducible refine wpAny_pure ?_) | (with_reducible refine wpAny_holding ?_) | (with_reducible refine wpAny_standAt ?_) | (with_reducible refine wpAny_point ?_) | (with_reducible refine wpAny_rule ?_) | (with_reducible refine fresh5 ?_) | (with_reducible refine wpAny_attempt ?_) | ((with_reducible show wpAny _ _ (loadPart _ _) _ _ _); (with_reducible first | refine wpAny_loadPart (by assumption) ?_ | refine wpAny_loadPart (LX.old (by assumption) (by assumption) (by decide)) ?_ | refine wpAny_loadPart (LX.at (by assumption) 0 rfl) ?_ | refine wpAny_loadPart (LX.at (by assumption) 1 rfl) ?_ | refine wpAny_loadPart (LX.at (by assumption) 2 rfl) ?_ | refine wpAny_loadPart (LX.at (by assumption) 3 rfl) ?_ | refine wpAny_loadPart (LX.at (by assumption) 4 rfl) ?_ | refine wpAny_loadPart (LX.at (by assumption) 5 rfl) ?_ | refine wpAny_loadPart (LX.at (by assumption) 6 rfl) ?_ | refine wpAny_loadPart (LX.at (by assumption) 7 rfl) ?_ | refine wpAny_loadPart (LX.at (by assumption) 8 rfl) ?_ | refine wpAny_loadPart (LX.at (by assumption) 9 rfl) ?_ | refine wpAny_loadPart (LX.at (by assumption) 10 rfl) ?_ | refine wpAny_loadPart (LX.at (by assumption) 11 rfl) ?_ | refine wpAny_loadPart (LX.at (by assumption) 12 rfl) ?_)) | ((with_reducible show wpAny _ _ (load _) _ _ _); (with_reducible first | refine wpAny_load (by assumption) ?_ | refine wpAny_load (LX.old (by assumption) (by assumption) (by decide)) ?_ | refine wpAny_load (LX.at (by assumption) 0 rfl) ?_ | refine wpAny_load (LX.at (by assumption) 1 rfl) ?_ | refine wpAny_load (LX.at (by assumption) 2 rfl) ?_ | refine wpAny_load (LX.at (by assumption) 3 rfl) ?_ | refine wpAny_load (LX.at (by assumption) 4 rfl) ?_ | refine wpAny_load (LX.at (by assumption) 5 rfl) ?_ | refine wpAny_load (LX.at (by assumption) 6 rfl) ?_ | refine wpAny_load (LX.at (by assumption) 7 rfl) ?_ | refine wpAny_load (LX.at (by assumption) 8 rfl) ?_ | refine wpAny_load (LX.at (by assumption) 9 rfl) ?_ | refine wpAny_load (LX.at (by assumption) 10 rfl) ?_ | refine wpAny_load (LX.at (by assumption) 11 rfl) ?_ | refine wpAny_load (LX.at (by assumption) 12 rfl) ?_)) | (with_reducible refine iteFb (by with_reducible assumption) ?_) | (with_reducible refine iteTb (by with_reducible assumption) ?_) | (with_reducible refine iteTd (by kernel_rfl!) ?_) | (with_reducible refine iteFd (by kernel_rfl!) ?_) | (with_reducible refine wpAny_bind ?_) | ((with_reducible show wpAny _ _ (typeLookup (Value.ref _) _) _ _ _); unfold typeLookup) | ((fail_if_success (with_reducible show wpAny _ _ (alloc _) _ _ _)); (fail_if_success (with_reducible show wpAny _ _ (updatePart _ _ _) _ _ _)); (fail_if_success (with_reducible show wpAny _ _ (nsSet _ _ _) _ _ _)); (fail_if_success (with_reducible show wpAny _ _ (enterFrame) _ _ _)); (fail_if_success (with_reducible show wpAny _ _ (nsGet _ _) _ _ _)); (fail_if_success (with_reducible show wpAny _ _ (List.mapM mkText _) _ _ _)); (fail_if_success (with_reducible show wpAny _ _ (functionCode _ _ _ _ _ _ _ _) _ _ _)); (fail_if_success (with_reducible show wpAny _ _ (makeFunction _ _ _ _ _ _ _ _ _ _ _) _ _ _)); (fail_if_success (with_reducible show wpAny _ _ (getAttrBy _ _ _) _ _ _)); (fail_if_success (with_reducible show wpAny _ _ (run _) _ _ _)); (fail_if_success (with_reducible show wpAny _ _ (call _ _ _) _ _ _)); (fail_if_success (with_reducible show wpAny _ _ (Sem.tryCatch _ _) _ _ _)); (fail_if_success (with_reducible show wpAny _ _ (Sem.onRaise _ _) _ _ _)); wp_delta))
  refine wpAny_nsGet (D3.ns T.g (show mainGlobals ≠ 38 by decide)) ?_
  rw [g1]
  repeat (first | (with_reducible refine wpAny_of_eq (by with_reducible assumption) ?_) | (with_reducible refine bEq (by with_reducible assumption) ?_) | (with_reducible refine bPure ?_) | (with_reducible refine bAssoc ?_) | (with_reducible refine bRule ?_) | (with_reducible refine wpAny_pure ?_) | (with_reducible refine wpAny_holding ?_) | (with_reducible refine wpAny_standAt ?_) | (with_reducible refine wpAny_point ?_) | (with_reducible refine wpAny_rule ?_) | (with_reducible refine fresh5 ?_) | (with_reducible refine wpAny_attempt ?_) | ((with_reducible show wpAny _ _ (loadPart _ _) _ _ _); (with_reducible first | refine wpAny_loadPart (by assumption) ?_ | refine wpAny_loadPart (LX.old (by assumption) (by assumption) (by decide)) ?_ | refine wpAny_loadPart (LX.at (by assumption) 0 rfl) ?_ | refine wpAny_loadPart (LX.at (by assumption) 1 rfl) ?_ | refine wpAny_loadPart (LX.at (by assumption) 2 rfl) ?_ | refine wpAny_loadPart (LX.at (by assumption) 3 rfl) ?_ | refine wpAny_loadPart (LX.at (by assumption) 4 rfl) ?_ | refine wpAny_loadPart (LX.at (by assumption) 5 rfl) ?_ | refine wpAny_loadPart (LX.at (by assumption) 6 rfl) ?_ | refine wpAny_loadPart (LX.at (by assumption) 7 rfl) ?_ | refine wpAny_loadPart (LX.at (by assumption) 8 rfl) ?_ | refine wpAny_loadPart (LX.at (by assumption) 9 rfl) ?_ | refine wpAny_loadPart (LX.at (by assumption) 10 rfl) ?_ | refine wpAny_loadPart (LX.at (by assumption) 11 rfl) ?_ | refine wpAny_loadPart (LX.at (by assumption) 12 rfl) ?_)) | ((with_reducible show wpAny _ _ (load _) _ _ _); (with_reducible first | refine wpAny_load (by assumption) ?_ | refine wpAny_load (LX.old (by assumption) (by assumption) (by decide)) ?_ | refine wpAny_load (LX.at (by assumption) 0 rfl) ?_ | refine wpAny_load (LX.at (by assumption) 1 rfl) ?_ | refine wpAny_load (LX.at (by assumption) 2 rfl) ?_ | refine wpAny_load (LX.at (by assumption) 3 rfl) ?_ | refine wpAny_load (LX.at (by assumption) 4 rfl) ?_ | refine wpAny_load (LX.at (by assumption) 5 rfl) ?_ | refine wpAny_load (LX.at (by assumption) 6 rfl) ?_ | refine wpAny_load (LX.at (by assumption) 7 rfl) ?_ | refine wpAny_load (LX.at (by assumption) 8 rfl) ?_ | refine wpAny_load (LX.at (by assumption) 9 rfl) ?_ | refine wpAny_load (LX.at (by assumption) 10 rfl) ?_ | refine wpAny_load (LX.at (by assumption) 11 rfl) ?_ | refine wpAny_load (LX.at (by assumption) 12 rfl) ?_)) | (with_reducible refine iteFb (by with_reducible assumption) ?_) | (with_reducible refine iteTb (by with_reducible assumption) ?_) | (with_reducible refine iteTd (by kernel_rfl!) ?_) | (with_reducible refine iteFd (by kernel_rfl!) ?_) | (with_reducible refine wpAny_bind ?_) | ((with_reducible show wpAny _ _ (typeLookup (Value.ref _) _) _ _ _); unfold typeLookup) | ((fail_if_success (with_reducible show wpAny _ _ (alloc _) _ _ _)); (fail_if_success (with_reducible show wpAny _ _ (updatePart _ _ _) _ _ _)); (fail_if_success (with_reducible show wpAny _ _ (nsSet _ _ _) _ _ _)); (fail_if_success (with_reducible show wpAny _ _ (enterFrame) _ _ _)); (fail_if_success (with_reducible show wpAny _ _ (nsGet _ _) _ _ _)); (fail_if_success (with_reducible show wpAny _ _ (List.mapM mkText _) _ _ _)); (fail_if_success (with_reducible show wpAny _ _ (functionCode _ _ _ _ _ _ _ _) _ _ _)); (fail_if_success (with_reducible show wpAny _ _ (makeFunction _ _ _ _ _ _ _ _ _ _ _) _ _ _)); (fail_if_success (with_reducible show wpAny _ _ (getAttrBy _ _ _) _ _ _)); (fail_if_success (with_reducible show wpAny _ _ (run _) _ _ _)); (fail_if_success (with_reducible show wpAny _ _ (call _ _ _) _ _ _)); (fail_if_success (with_reducible show wpAny _ _ (Sem.tryCatch _ _) _ _ _)); (fail_if_success (with_reducible show wpAny _ _ (Sem.onRaise _ _) _ _ _)); wp_delta))
  refine wpAny_nsGet (D3.ns T.b (show builtinsNs ≠ 38 by decide)) ?_
  rw [b2]
  repeat (first | (with_reducible refine wpAny_of_eq (by with_reducible assumption) ?_) | (with_reducible refine bEq (by with_reducible assumption) ?_) | (with_reducible refine bPure ?_) | (with_reducible refine bAssoc ?_) | (with_reducible refine bRule ?_) | (with_reducible refine wpAny_pure ?_) | (with_reducible refine wpAny_holding ?_) | (with_reducible refine wpAny_standAt ?_) | (with_reducible refine wpAny_point ?_) | (with_reducible refine wpAny_rule ?_) | (with_reducible refine fresh5 ?_) | (with_reducible refine wpAny_attempt ?_) | ((with_reducible show wpAny _ _ (loadPart _ _) _ _ _); (with_reducible first | refine wpAny_loadPart (by assumption) ?_ | refine wpAny_loadPart (LX.old (by assumption) (by assumption) (by decide)) ?_ | refine wpAny_loadPart (LX.at (by assumption) 0 rfl) ?_ | refine wpAny_loadPart (LX.at (by assumption) 1 rfl) ?_ | refine wpAny_loadPart (LX.at (by assumption) 2 rfl) ?_ | refine wpAny_loadPart (LX.at (by assumption) 3 rfl) ?_ | refine wpAny_loadPart (LX.at (by assumption) 4 rfl) ?_ | refine wpAny_loadPart (LX.at (by assumption) 5 rfl) ?_ | refine wpAny_loadPart (LX.at (by assumption) 6 rfl) ?_ | refine wpAny_loadPart (LX.at (by assumption) 7 rfl) ?_ | refine wpAny_loadPart (LX.at (by assumption) 8 rfl) ?_ | refine wpAny_loadPart (LX.at (by assumption) 9 rfl) ?_ | refine wpAny_loadPart (LX.at (by assumption) 10 rfl) ?_ | refine wpAny_loadPart (LX.at (by assumption) 11 rfl) ?_ | refine wpAny_loadPart (LX.at (by assumption) 12 rfl) ?_)) | ((with_reducible show wpAny _ _ (load _) _ _ _); (with_reducible first | refine wpAny_load (by assumption) ?_ | refine wpAny_load (LX.old (by assumption) (by assumption) (by decide)) ?_ | refine wpAny_load (LX.at (by assumption) 0 rfl) ?_ | refine wpAny_load (LX.at (by assumption) 1 rfl) ?_ | refine wpAny_load (LX.at (by assumption) 2 rfl) ?_ | refine wpAny_load (LX.at (by assumption) 3 rfl) ?_ | refine wpAny_load (LX.at (by assumption) 4 rfl) ?_ | refine wpAny_load (LX.at (by assumption) 5 rfl) ?_ | refine wpAny_load (LX.at (by assumption) 6 rfl) ?_ | refine wpAny_load (LX.at (by assumption) 7 rfl) ?_ | refine wpAny_load (LX.at (by assumption) 8 rfl) ?_ | refine wpAny_load (LX.at (by assumption) 9 rfl) ?_ | refine wpAny_load (LX.at (by assumption) 10 rfl) ?_ | refine wpAny_load (LX.at (by assumption) 11 rfl) ?_ | refine wpAny_load (LX.at (by assumption) 12 rfl) ?_)) | (with_reducible refine iteFb (by with_reducible assumption) ?_) | (with_reducible refine iteTb (by with_reducible assumption) ?_) | (with_reducible refine iteTd (by kernel_rfl!) ?_) | (with_reducible refine iteFd (by kernel_rfl!) ?_) | (with_reducible refine wpAny_bind ?_) | ((with_reducible show wpAny _ _ (typeLookup (Value.ref _) _) _ _ _); unfold typeLookup) | ((fail_if_success (with_reducible show wpAny _ _ (alloc _) _ _ _)); (fail_if_success (with_reducible show wpAny _ _ (updatePart _ _ _) _ _ _)); (fail_if_success (with_reducible show wpAny _ _ (nsSet _ _ _) _ _ _)); (fail_if_success (with_reducible show wpAny _ _ (enterFrame) _ _ _)); (fail_if_success (with_reducible show wpAny _ _ (nsGet _ _) _ _ _)); (fail_if_success (with_reducible show wpAny _ _ (List.mapM mkText _) _ _ _)); (fail_if_success (with_reducible show wpAny _ _ (functionCode _ _ _ _ _ _ _ _) _ _ _)); (fail_if_success (with_reducible show wpAny _ _ (makeFunction _ _ _ _ _ _ _ _ _ _ _) _ _ _)); (fail_if_success (with_reducible show wpAny _ _ (getAttrBy _ _ _) _ _ _)); (fail_if_success (with_reducible show wpAny _ _ (run _) _ _ _)); (fail_if_success (with_reducible show wpAny _ _ (call _ _ _) _ _ _)); (fail_if_success (with_reducible show wpAny _ _ (Sem.tryCatch _ _) _ _ _)); (fail_if_success (with_reducible show wpAny _ _ (Sem.onRaise _ _) _ _ _)); wp_delta))
  have e3 : isSubtype (.type "type") (.type "type") = pure true := by kernel_rfl
  have e6 : typeOf (.type "object") = pure (.type "type") := by kernel_rfl
  have e14 : isType (.type "object") = pure true := by kernel_rfl
  have e15 : isType (.type "type") = pure true := by kernel_rfl
  refine xAllocO { cls := .type "tuple", data := .seq #[.type "object"] } (by assumption) (by kernel_rfl!) rfl fun bt h4 D4 => ?_
  repeat (first | (with_reducible refine wpAny_of_eq (by with_reducible assumption) ?_) | (with_reducible refine bEq (by with_reducible assumption) ?_) | (with_reducible refine bPure ?_) | (with_reducible refine bAssoc ?_) | (with_reducible refine bRule ?_) | (with_reducible refine wpAny_pure ?_) | (with_reducible refine wpAny_holding ?_) | (with_reducible refine wpAny_standAt ?_) | (with_reducible refine wpAny_point ?_) | (with_reducible refine wpAny_rule ?_) | (with_reducible refine fresh5 ?_) | (with_reducible refine wpAny_attempt ?_) | ((with_reducible show wpAny _ _ (loadPart _ _) _ _ _); (with_reducible first | refine wpAny_loadPart (by assumption) ?_ | refine wpAny_loadPart (LX.old (by assumption) (by assumption) (by decide)) ?_ | refine wpAny_loadPart (LX.at (by assumption) 0 rfl) ?_ | refine wpAny_loadPart (LX.at (by assumption) 1 rfl) ?_ | refine wpAny_loadPart (LX.at (by assumption) 2 rfl) ?_ | refine wpAny_loadPart (LX.at (by assumption) 3 rfl) ?_ | refine wpAny_loadPart (LX.at (by assumption) 4 rfl) ?_ | refine wpAny_loadPart (LX.at (by assumption) 5 rfl) ?_ | refine wpAny_loadPart (LX.at (by assumption) 6 rfl) ?_ | refine wpAny_loadPart (LX.at (by assumption) 7 rfl) ?_ | refine wpAny_loadPart (LX.at (by assumption) 8 rfl) ?_ | refine wpAny_loadPart (LX.at (by assumption) 9 rfl) ?_ | refine wpAny_loadPart (LX.at (by assumption) 10 rfl) ?_ | refine wpAny_loadPart (LX.at (by assumption) 11 rfl) ?_ | refine wpAny_loadPart (LX.at (by assumption) 12 rfl) ?_)) | ((with_reducible show wpAny _ _ (load _) _ _ _); (with_reducible first | refine wpAny_load (by assumption) ?_ | refine wpAny_load (LX.old (by assumption) (by assumption) (by decide)) ?_ | refine wpAny_load (LX.at (by assumption) 0 rfl) ?_ | refine wpAny_load (LX.at (by assumption) 1 rfl) ?_ | refine wpAny_load (LX.at (by assumption) 2 rfl) ?_ | refine wpAny_load (LX.at (by assumption) 3 rfl) ?_ | refine wpAny_load (LX.at (by assumption) 4 rfl) ?_ | refine wpAny_load (LX.at (by assumption) 5 rfl) ?_ | refine wpAny_load (LX.at (by assumption) 6 rfl) ?_ | refine wpAny_load (LX.at (by assumption) 7 rfl) ?_ | refine wpAny_load (LX.at (by assumption) 8 rfl) ?_ | refine wpAny_load (LX.at (by assumption) 9 rfl) ?_ | refine wpAny_load (LX.at (by assumption) 10 rfl) ?_ | refine wpAny_load (LX.at (by assumption) 11 rfl) ?_ | refine wpAny_load (LX.at (by assumption) 12 rfl) ?_)) | (with_reducible refine iteFb (by with_reducible assumption) ?_) | (with_reducible refine iteTb (by with_reducible assumption) ?_) | (with_reducible refine iteTd (by kernel_rfl!) ?_) | (with_reducible refine iteFd (by kernel_rfl!) ?_) | (with_reducible refine wpAny_bind ?_) | ((with_reducible show wpAny _ _ (typeLookup (Value.ref _) _) _ _ _); unfold typeLookup) | ((fail_if_success (with_reducible show wpAny _ _ (alloc _) _ _ _)); (fail_if_success (with_reducible show wpAny _ _ (updatePart _ _ _) _ _ _)); (fail_if_success (with_reducible show wpAny _ _ (nsSet _ _ _) _ _ _)); (fail_if_success (with_reducible show wpAny _ _ (enterFrame) _ _ _)); (fail_if_success (with_reducible show wpAny _ _ (nsGet _ _) _ _ _)); (fail_if_success (with_reducible show wpAny _ _ (List.mapM mkText _) _ _ _)); (fail_if_success (with_reducible show wpAny _ _ (functionCode _ _ _ _ _ _ _ _) _ _ _)); (fail_if_success (with_reducible show wpAny _ _ (makeFunction _ _ _ _ _ _ _ _ _ _ _) _ _ _)); (fail_if_success (with_reducible show wpAny _ _ (getAttrBy _ _ _) _ _ _)); (fail_if_success (with_reducible show wpAny _ _ (run _) _ _ _)); (fail_if_success (with_reducible show wpAny _ _ (call _ _ _) _ _ _)); (fail_if_success (with_reducible show wpAny _ _ (Sem.tryCatch _ _) _ _ _)); (fail_if_success (with_reducible show wpAny _ _ (Sem.onRaise _ _) _ _ _)); wp_delta))
  dsimp only

  refine getPrep fun mo h5 t5 D5' => ?_
  have D5 := D4.trans (LM.of D5')
  repeat (first | (with_reducible refine wpAny_of_eq (by with_reducible assumption) ?_) | (with_reducible refine bEq (by with_reducible assumption) ?_) | (with_reducible refine bPure ?_) | (with_reducible refine bAssoc ?_) | (with_reducible refine bRule ?_) | (with_reducible refine wpAny_pure ?_) | (with_reducible refine wpAny_holding ?_) | (with_reducible refine wpAny_standAt ?_) | (with_reducible refine wpAny_point ?_) | (with_reducible refine wpAny_rule ?_) | (with_reducible refine fresh5 ?_) | (with_reducible refine wpAny_attempt ?_) | ((with_reducible show wpAny _ _ (loadPart _ _) _ _ _); (with_reducible first | refine wpAny_loadPart (by assumption) ?_ | refine wpAny_loadPart (LX.old (by assumption) (by assumption) (by decide)) ?_ | refine wpAny_loadPart (LX.at (by assumption) 0 rfl) ?_ | refine wpAny_loadPart (LX.at (by assumption) 1 rfl) ?_ | refine wpAny_loadPart (LX.at (by assumption) 2 rfl) ?_ | refine wpAny_loadPart (LX.at (by assumption) 3 rfl) ?_ | refine wpAny_loadPart (LX.at (by assumption) 4 rfl) ?_ | refine wpAny_loadPart (LX.at (by assumption) 5 rfl) ?_ | refine wpAny_loadPart (LX.at (by assumption) 6 rfl) ?_ | refine wpAny_loadPart (LX.at (by assumption) 7 rfl) ?_ | refine wpAny_loadPart (LX.at (by assumption) 8 rfl) ?_ | refine wpAny_loadPart (LX.at (by assumption) 9 rfl) ?_ | refine wpAny_loadPart (LX.at (by assumption) 10 rfl) ?_ | refine wpAny_loadPart (LX.at (by assumption) 11 rfl) ?_ | refine wpAny_loadPart (LX.at (by assumption) 12 rfl) ?_)) | ((with_reducible show wpAny _ _ (load _) _ _ _); (with_reducible first | refine wpAny_load (by assumption) ?_ | refine wpAny_load (LX.old (by assumption) (by assumption) (by decide)) ?_ | refine wpAny_load (LX.at (by assumption) 0 rfl) ?_ | refine wpAny_load (LX.at (by assumption) 1 rfl) ?_ | refine wpAny_load (LX.at (by assumption) 2 rfl) ?_ | refine wpAny_load (LX.at (by assumption) 3 rfl) ?_ | refine wpAny_load (LX.at (by assumption) 4 rfl) ?_ | refine wpAny_load (LX.at (by assumption) 5 rfl) ?_ | refine wpAny_load (LX.at (by assumption) 6 rfl) ?_ | refine wpAny_load (LX.at (by assumption) 7 rfl) ?_ | refine wpAny_load (LX.at (by assumption) 8 rfl) ?_ | refine wpAny_load (LX.at (by assumption) 9 rfl) ?_ | refine wpAny_load (LX.at (by assumption) 10 rfl) ?_ | refine wpAny_load (LX.at (by assumption) 11 rfl) ?_ | refine wpAny_load (LX.at (by assumption) 12 rfl) ?_)) | (with_reducible refine iteFb (by with_reducible assumption) ?_) | (with_reducible refine iteTb (by with_reducible assumption) ?_) | (with_reducible refine iteTd (by kernel_rfl!) ?_) | (with_reducible refine iteFd (by kernel_rfl!) ?_) | (with_reducible refine wpAny_bind ?_) | ((with_reducible show wpAny _ _ (typeLookup (Value.ref _) _) _ _ _); unfold typeLookup) | ((fail_if_success (with_reducible show wpAny _ _ (alloc _) _ _ _)); (fail_if_success (with_reducible show wpAny _ _ (updatePart _ _ _) _ _ _)); (fail_if_success (with_reducible show wpAny _ _ (nsSet _ _ _) _ _ _)); (fail_if_success (with_reducible show wpAny _ _ (enterFrame) _ _ _)); (fail_if_success (with_reducible show wpAny _ _ (nsGet _ _) _ _ _)); (fail_if_success (with_reducible show wpAny _ _ (List.mapM mkText _) _ _ _)); (fail_if_success (with_reducible show wpAny _ _ (functionCode _ _ _ _ _ _ _ _) _ _ _)); (fail_if_success (with_reducible show wpAny _ _ (makeFunction _ _ _ _ _ _ _ _ _ _ _) _ _ _)); (fail_if_success (with_reducible show wpAny _ _ (getAttrBy _ _ _) _ _ _)); (fail_if_success (with_reducible show wpAny _ _ (run _) _ _ _)); (fail_if_success (with_reducible show wpAny _ _ (call _ _ _) _ _ _)); (fail_if_success (with_reducible show wpAny _ _ (Sem.tryCatch _ _) _ _ _)); (fail_if_success (with_reducible show wpAny _ _ (Sem.onRaise _ _) _ _ _)); wp_delta))
  have hs5 : sysModules < h5.objs.size := Nat.lt_trans (show (1 : Nat) < 38 by decide) (Heap.lt_size (D5.at 4 rfl))
  refine callPrep (D5.at 0 rfl) hs5 fun n h6 t6 hn D6' => ?_
  have D6 := D5.trans (LM.of D6')
  repeat (first | (with_reducible refine wpAny_of_eq (by with_reducible assumption) ?_) | (with_reducible refine bEq (by with_reducible assumption) ?_) | (with_reducible refine bPure ?_) | (with_reducible refine bAssoc ?_) | (with_reducible refine bRule ?_) | (with_reducible refine wpAny_pure ?_) | (with_reducible refine wpAny_holding ?_) | (with_reducible refine wpAny_standAt ?_) | (with_reducible refine wpAny_point ?_) | (with_reducible refine wpAny_rule ?_) | (with_reducible refine fresh5 ?_) | (with_reducible refine wpAny_attempt ?_) | ((with_reducible show wpAny _ _ (loadPart _ _) _ _ _); (with_reducible first | refine wpAny_loadPart (by assumption) ?_ | refine wpAny_loadPart (LX.old (by assumption) (by assumption) (by decide)) ?_ | refine wpAny_loadPart (LX.at (by assumption) 0 rfl) ?_ | refine wpAny_loadPart (LX.at (by assumption) 1 rfl) ?_ | refine wpAny_loadPart (LX.at (by assumption) 2 rfl) ?_ | refine wpAny_loadPart (LX.at (by assumption) 3 rfl) ?_ | refine wpAny_loadPart (LX.at (by assumption) 4 rfl) ?_ | refine wpAny_loadPart (LX.at (by assumption) 5 rfl) ?_ | refine wpAny_loadPart (LX.at (by assumption) 6 rfl) ?_ | refine wpAny_loadPart (LX.at (by assumption) 7 rfl) ?_ | refine wpAny_loadPart (LX.at (by assumption) 8 rfl) ?_ | refine wpAny_loadPart (LX.at (by assumption) 9 rfl) ?_ | refine wpAny_loadPart (LX.at (by assumption) 10 rfl) ?_ | refine wpAny_loadPart (LX.at (by assumption) 11 rfl) ?_ | refine wpAny_loadPart (LX.at (by assumption) 12 rfl) ?_)) | ((with_reducible show wpAny _ _ (load _) _ _ _); (with_reducible first | refine wpAny_load (by assumption) ?_ | refine wpAny_load (LX.old (by assumption) (by assumption) (by decide)) ?_ | refine wpAny_load (LX.at (by assumption) 0 rfl) ?_ | refine wpAny_load (LX.at (by assumption) 1 rfl) ?_ | refine wpAny_load (LX.at (by assumption) 2 rfl) ?_ | refine wpAny_load (LX.at (by assumption) 3 rfl) ?_ | refine wpAny_load (LX.at (by assumption) 4 rfl) ?_ | refine wpAny_load (LX.at (by assumption) 5 rfl) ?_ | refine wpAny_load (LX.at (by assumption) 6 rfl) ?_ | refine wpAny_load (LX.at (by assumption) 7 rfl) ?_ | refine wpAny_load (LX.at (by assumption) 8 rfl) ?_ | refine wpAny_load (LX.at (by assumption) 9 rfl) ?_ | refine wpAny_load (LX.at (by assumption) 10 rfl) ?_ | refine wpAny_load (LX.at (by assumption) 11 rfl) ?_ | refine wpAny_load (LX.at (by assumption) 12 rfl) ?_)) | (with_reducible refine iteFb (by with_reducible assumption) ?_) | (with_reducible refine iteTb (by with_reducible assumption) ?_) | (with_reducible refine iteTd (by kernel_rfl!) ?_) | (with_reducible refine iteFd (by kernel_rfl!) ?_) | (with_reducible refine wpAny_bind ?_) | ((with_reducible show wpAny _ _ (typeLookup (Value.ref _) _) _ _ _); unfold typeLookup) | ((fail_if_success (with_reducible show wpAny _ _ (alloc _) _ _ _)); (fail_if_success (with_reducible show wpAny _ _ (updatePart _ _ _) _ _ _)); (fail_if_success (with_reducible show wpAny _ _ (nsSet _ _ _) _ _ _)); (fail_if_success (with_reducible show wpAny _ _ (enterFrame) _ _ _)); (fail_if_success (with_reducible show wpAny _ _ (nsGet _ _) _ _ _)); (fail_if_success (with_reducible show wpAny _ _ (List.mapM mkText _) _ _ _)); (fail_if_success (with_reducible show wpAny _ _ (functionCode _ _ _ _ _ _ _ _) _ _ _)); (fail_if_success (with_reducible show wpAny _ _ (makeFunction _ _ _ _ _ _ _ _ _ _ _) _ _ _)); (fail_if_success (with_reducible show wpAny _ _ (getAttrBy _ _ _) _ _ _)); (fail_if_success (with_reducible show wpAny _ _ (run _) _ _ _)); (fail_if_success (with_reducible show wpAny _ _ (call _ _ _) _ _ _)); (fail_if_success (with_reducible show wpAny _ _ (Sem.tryCatch _ _) _ _ _)); (fail_if_success (with_reducible show wpAny _ _ (Sem.onRaise _ _) _ _ _)); wp_delta))

  have hn' : (n == sysModules) = false := by simpa using hn
  have q1 : typeLookup (.type "dict") (Str.ofString "__getitem__") = pure (some (.builtin "dict.__getitem__")) := by rw [typeLookup_type, builtinLookup_eq_fast]; kernel_rfl
  have k42 := X 42 _ (by k_is)
  repeat (first | (with_reducible refine wpAny_of_eq (by with_reducible assumption) ?_) | (with_reducible refine bEq (by with_reducible assumption) ?_) | (with_reducible refine bPure ?_) | (with_reducible refine bAssoc ?_) | (with_reducible refine bRule ?_) | (with_reducible refine wpAny_pure ?_) | (with_reducible refine wpAny_holding ?_) | (with_reducible refine wpAny_standAt ?_) | (with_reducible refine wpAny_point ?_) | (with_reducible refine wpAny_rule ?_) | (with_reducible refine fresh5 ?_) | (with_reducible refine wpAny_attempt ?_) | ((with_reducible show wpAny _ _ (loadPart _ _) _ _ _); (with_reducible first | refine wpAny_loadPart (by assumption) ?_ | refine wpAny_loadPart (LX.old (by assumption) (by assumption) (by decide)) ?_ | refine wpAny_loadPart (LX.at (by assumption) 0 rfl) ?_ | refine wpAny_loadPart (LX.at (by assumption) 1 rfl) ?_ | refine wpAny_loadPart (LX.at (by assumption) 2 rfl) ?_ | refine wpAny_loadPart (LX.at (by assumption) 3 rfl) ?_ | refine wpAny_loadPart (LX.at (by assumption) 4 rfl) ?_ | refine wpAny_loadPart (LX.at (by assumption) 5 rfl) ?_ | refine wpAny_loadPart (LX.at (by assumption) 6 rfl) ?_ | refine wpAny_loadPart (LX.at (by assumption) 7 rfl) ?_ | refine wpAny_loadPart (LX.at (by assumption) 8 rfl) ?_ | refine wpAny_loadPart (LX.at (by assumption) 9 rfl) ?_ | refine wpAny_loadPart (LX.at (by assumption) 10 rfl) ?_ | refine wpAny_loadPart (LX.at (by assumption) 11 rfl) ?_ | refine wpAny_loadPart (LX.at (by assumption) 12 rfl) ?_)) | ((with_reducible show wpAny _ _ (load _) _ _ _); (with_reducible first | refine wpAny_load (by assumption) ?_ | refine wpAny_load (LX.old (by assumption) (by assumption) (by decide)) ?_ | refine wpAny_load (LX.at (by assumption) 0 rfl) ?_ | refine wpAny_load (LX.at (by assumption) 1 rfl) ?_ | refine wpAny_load (LX.at (by assumption) 2 rfl) ?_ | refine wpAny_load (LX.at (by assumption) 3 rfl) ?_ | refine wpAny_load (LX.at (by assumption) 4 rfl) ?_ | refine wpAny_load (LX.at (by assumption) 5 rfl) ?_ | refine wpAny_load (LX.at (by assumption) 6 rfl) ?_ | refine wpAny_load (LX.at (by assumption) 7 rfl) ?_ | refine wpAny_load (LX.at (by assumption) 8 rfl) ?_ | refine wpAny_load (LX.at (by assumption) 9 rfl) ?_ | refine wpAny_load (LX.at (by assumption) 10 rfl) ?_ | refine wpAny_load (LX.at (by assumption) 11 rfl) ?_ | refine wpAny_load (LX.at (by assumption) 12 rfl) ?_)) | (with_reducible refine iteFb (by with_reducible assumption) ?_) | (with_reducible refine iteTb (by with_reducible assumption) ?_) | (with_reducible refine iteTd (by kernel_rfl!) ?_) | (with_reducible refine iteFd (by kernel_rfl!) ?_) | (with_reducible refine wpAny_bind ?_) | ((with_reducible show wpAny _ _ (typeLookup (Value.ref _) _) _ _ _); unfold typeLookup) | ((fail_if_success (with_reducible show wpAny _ _ (alloc _) _ _ _)); (fail_if_success (with_reducible show wpAny _ _ (updatePart _ _ _) _ _ _)); (fail_if_success (with_reducible show wpAny _ _ (nsSet _ _ _) _ _ _)); (fail_if_success (with_reducible show wpAny _ _ (enterFrame) _ _ _)); (fail_if_success (with_reducible show wpAny _ _ (nsGet _ _) _ _ _)); (fail_if_success (with_reducible show wpAny _ _ (List.mapM mkText _) _ _ _)); (fail_if_success (with_reducible show wpAny _ _ (functionCode _ _ _ _ _ _ _ _) _ _ _)); (fail_if_success (with_reducible show wpAny _ _ (makeFunction _ _ _ _ _ _ _ _ _ _ _) _ _ _)); (fail_if_success (with_reducible show wpAny _ _ (getAttrBy _ _ _) _ _ _)); (fail_if_success (with_reducible show wpAny _ _ (run _) _ _ _)); (fail_if_success (with_reducible show wpAny _ _ (call _ _ _) _ _ _)); (fail_if_success (with_reducible show wpAny _ _ (Sem.tryCatch _ _) _ _ _)); (fail_if_success (with_reducible show wpAny _ _ (Sem.onRaise _ _) _ _ _)); wp_delta))
  refine mapM_text _ _ _ fun vsK uK => ?_
  repeat (first | (with_reducible refine wpAny_of_eq (by with_reducible assumption) ?_) | (with_reducible refine bEq (by with_reducible assumption) ?_) | (with_reducible refine bPure ?_) | (with_reducible refine bAssoc ?_) | (with_reducible refine bRule ?_) | (with_reducible refine wpAny_pure ?_) | (with_reducible refine wpAny_holding ?_) | (with_reducible refine wpAny_standAt ?_) | (with_reducible refine wpAny_point ?_) | (with_reducible refine wpAny_rule ?_) | (with_reducible refine fresh5 ?_) | (with_reducible refine wpAny_attempt ?_) | ((with_reducible show wpAny _ _ (loadPart _ _) _ _ _); (with_reducible first | refine wpAny_loadPart (by assumption) ?_ | refine wpAny_loadPart (LX.old (by assumption) (by assumption) (by decide)) ?_ | refine wpAny_loadPart (LX.at (by assumption) 0 rfl) ?_ | refine wpAny_loadPart (LX.at (by assumption) 1 rfl) ?_ | refine wpAny_loadPart (LX.at (by assumption) 2 rfl) ?_ | refine wpAny_loadPart (LX.at (by assumption) 3 rfl) ?_ | refine wpAny_loadPart (LX.at (by assumption) 4 rfl) ?_ | refine wpAny_loadPart (LX.at (by assumption) 5 rfl) ?_ | refine wpAny_loadPart (LX.at (by assumption) 6 rfl) ?_ | refine wpAny_loadPart (LX.at (by assumption) 7 rfl) ?_ | refine wpAny_loadPart (LX.at (by assumption) 8 rfl) ?_ | refine wpAny_loadPart (LX.at (by assumption) 9 rfl) ?_ | refine wpAny_loadPart (LX.at (by assumption) 10 rfl) ?_ | refine wpAny_loadPart (LX.at (by assumption) 11 rfl) ?_ | refine wpAny_loadPart (LX.at (by assumption) 12 rfl) ?_)) | ((with_reducible show wpAny _ _ (load _) _ _ _); (with_reducible first | refine wpAny_load (by assumption) ?_ | refine wpAny_load (LX.old (by assumption) (by assumption) (by decide)) ?_ | refine wpAny_load (LX.at (by assumption) 0 rfl) ?_ | refine wpAny_load (LX.at (by assumption) 1 rfl) ?_ | refine wpAny_load (LX.at (by assumption) 2 rfl) ?_ | refine wpAny_load (LX.at (by assumption) 3 rfl) ?_ | refine wpAny_load (LX.at (by assumption) 4 rfl) ?_ | refine wpAny_load (LX.at (by assumption) 5 rfl) ?_ | refine wpAny_load (LX.at (by assumption) 6 rfl) ?_ | refine wpAny_load (LX.at (by assumption) 7 rfl) ?_ | refine wpAny_load (LX.at (by assumption) 8 rfl) ?_ | refine wpAny_load (LX.at (by assumption) 9 rfl) ?_ | refine wpAny_load (LX.at (by assumption) 10 rfl) ?_ | refine wpAny_load (LX.at (by assumption) 11 rfl) ?_ | refine wpAny_load (LX.at (by assumption) 12 rfl) ?_)) | (with_reducible refine iteFb (by with_reducible assumption) ?_) | (with_reducible refine iteTb (by with_reducible assumption) ?_) | (with_reducible refine iteTd (by kernel_rfl!) ?_) | (with_reducible refine iteFd (by kernel_rfl!) ?_) | (with_reducible refine wpAny_bind ?_) | ((with_reducible show wpAny _ _ (typeLookup (Value.ref _) _) _ _ _); unfold typeLookup) | ((fail_if_success (with_reducible show wpAny _ _ (alloc _) _ _ _)); (fail_if_success (with_reducible show wpAny _ _ (updatePart _ _ _) _ _ _)); (fail_if_success (with_reducible show wpAny _ _ (nsSet _ _ _) _ _ _)); (fail_if_success (with_reducible show wpAny _ _ (enterFrame) _ _ _)); (fail_if_success (with_reducible show wpAny _ _ (nsGet _ _) _ _ _)); (fail_if_success (with_reducible show wpAny _ _ (List.mapM mkText _) _ _ _)); (fail_if_success (with_reducible show wpAny _ _ (functionCode _ _ _ _ _ _ _ _) _ _ _)); (fail_if_success (with_reducible show wpAny _ _ (makeFunction _ _ _ _ _ _ _ _ _ _ _) _ _ _)); (fail_if_success (with_reducible show wpAny _ _ (getAttrBy _ _ _) _ _ _)); (fail_if_success (with_reducible show wpAny _ _ (run _) _ _ _)); (fail_if_success (with_reducible show wpAny _ _ (call _ _ _) _ _ _)); (fail_if_success (with_reducible show wpAny _ _ (Sem.tryCatch _ _) _ _ _)); (fail_if_success (with_reducible show wpAny _ _ (Sem.onRaise _ _) _ _ _)); wp_delta))
  refine xAlloc (by assumption) rfl fun ft h7 D7 => ?_
  repeat (first | (with_reducible refine wpAny_of_eq (by with_reducible assumption) ?_) | (with_reducible refine bEq (by with_reducible assumption) ?_) | (with_reducible refine bPure ?_) | (with_reducible refine bAssoc ?_) | (with_reducible refine bRule ?_) | (with_reducible refine wpAny_pure ?_) | (with_reducible refine wpAny_holding ?_) | (with_reducible refine wpAny_standAt ?_) | (with_reducible refine wpAny_point ?_) | (with_reducible refine wpAny_rule ?_) | (with_reducible refine fresh5 ?_) | (with_reducible refine wpAny_attempt ?_) | ((with_reducible show wpAny _ _ (loadPart _ _) _ _ _); (with_reducible first | refine wpAny_loadPart (by assumption) ?_ | refine wpAny_loadPart (LX.old (by assumption) (by assumption) (by decide)) ?_ | refine wpAny_loadPart (LX.at (by assumption) 0 rfl) ?_ | refine wpAny_loadPart (LX.at (by assumption) 1 rfl) ?_ | refine wpAny_loadPart (LX.at (by assumption) 2 rfl) ?_ | refine wpAny_loadPart (LX.at (by assumption) 3 rfl) ?_ | refine wpAny_loadPart (LX.at (by assumption) 4 rfl) ?_ | refine wpAny_loadPart (LX.at (by assumption) 5 rfl) ?_ | refine wpAny_loadPart (LX.at (by assumption) 6 rfl) ?_ | refine wpAny_loadPart (LX.at (by assumption) 7 rfl) ?_ | refine wpAny_loadPart (LX.at (by assumption) 8 rfl) ?_ | refine wpAny_loadPart (LX.at (by assumption) 9 rfl) ?_ | refine wpAny_loadPart (LX.at (by assumption) 10 rfl) ?_ | refine wpAny_loadPart (LX.at (by assumption) 11 rfl) ?_ | refine wpAny_loadPart (LX.at (by assumption) 12 rfl) ?_)) | ((with_reducible show wpAny _ _ (load _) _ _ _); (with_reducible first | refine wpAny_load (by assumption) ?_ | refine wpAny_load (LX.old (by assumption) (by assumption) (by decide)) ?_ | refine wpAny_load (LX.at (by assumption) 0 rfl) ?_ | refine wpAny_load (LX.at (by assumption) 1 rfl) ?_ | refine wpAny_load (LX.at (by assumption) 2 rfl) ?_ | refine wpAny_load (LX.at (by assumption) 3 rfl) ?_ | refine wpAny_load (LX.at (by assumption) 4 rfl) ?_ | refine wpAny_load (LX.at (by assumption) 5 rfl) ?_ | refine wpAny_load (LX.at (by assumption) 6 rfl) ?_ | refine wpAny_load (LX.at (by assumption) 7 rfl) ?_ | refine wpAny_load (LX.at (by assumption) 8 rfl) ?_ | refine wpAny_load (LX.at (by assumption) 9 rfl) ?_ | refine wpAny_load (LX.at (by assumption) 10 rfl) ?_ | refine wpAny_load (LX.at (by assumption) 11 rfl) ?_ | refine wpAny_load (LX.at (by assumption) 12 rfl) ?_)) | (with_reducible refine iteFb (by with_reducible assumption) ?_) | (with_reducible refine iteTb (by with_reducible assumption) ?_) | (with_reducible refine iteTd (by kernel_rfl!) ?_) | (with_reducible refine iteFd (by kernel_rfl!) ?_) | (with_reducible refine wpAny_bind ?_) | ((with_reducible show wpAny _ _ (typeLookup (Value.ref _) _) _ _ _); unfold typeLookup) | ((fail_if_success (with_reducible show wpAny _ _ (alloc _) _ _ _)); (fail_if_success (with_reducible show wpAny _ _ (updatePart _ _ _) _ _ _)); (fail_if_success (with_reducible show wpAny _ _ (nsSet _ _ _) _ _ _)); (fail_if_success (with_reducible show wpAny _ _ (enterFrame) _ _ _)); (fail_if_success (with_reducible show wpAny _ _ (nsGet _ _) _ _ _)); (fail_if_success (with_reducible show wpAny _ _ (List.mapM mkText _) _ _ _)); (fail_if_success (with_reducible show wpAny _ _ (functionCode _ _ _ _ _ _ _ _) _ _ _)); (fail_if_success (with_reducible show wpAny _ _ (makeFunction _ _ _ _ _ _ _ _ _ _ _) _ _ _)); (fail_if_success (with_reducible show wpAny _ _ (getAttrBy _ _ _) _ _ _)); (fail_if_success (with_reducible show wpAny _ _ (run _) _ _ _)); (fail_if_success (with_reducible show wpAny _ _ (call _ _ _) _ _ _)); (fail_if_success (with_reducible show wpAny _ _ (Sem.tryCatch _ _) _ _ _)); (fail_if_success (with_reducible show wpAny _ _ (Sem.onRaise _ _) _ _ _)); wp_delta))
  refine xAllocO (tabObj #[]) (by assumption) (by kernel_rfl!) rfl fun tbl h8 D8 => ?_
  repeat (first | (with_reducible refine wpAny_of_eq (by with_reducible assumption) ?_) | (with_reducible refine bEq (by with_reducible assumption) ?_) | (with_reducible refine bPure ?_) | (with_reducible refine bAssoc ?_) | (with_reducible refine bRule ?_) | (with_reducible refine wpAny_pure ?_) | (with_reducible refine wpAny_holding ?_) | (with_reducible refine wpAny_standAt ?_) | (with_reducible refine wpAny_point ?_) | (with_reducible refine wpAny_rule ?_) | (with_reducible refine fresh5 ?_) | (with_reducible refine wpAny_attempt ?_) | ((with_reducible show wpAny _ _ (loadPart _ _) _ _ _); (with_reducible first | refine wpAny_loadPart (by assumption) ?_ | refine wpAny_loadPart (LX.old (by assumption) (by assumption) (by decide)) ?_ | refine wpAny_loadPart (LX.at (by assumption) 0 rfl) ?_ | refine wpAny_loadPart (LX.at (by assumption) 1 rfl) ?_ | refine wpAny_loadPart (LX.at (by assumption) 2 rfl) ?_ | refine wpAny_loadPart (LX.at (by assumption) 3 rfl) ?_ | refine wpAny_loadPart (LX.at (by assumption) 4 rfl) ?_ | refine wpAny_loadPart (LX.at (by assumption) 5 rfl) ?_ | refine wpAny_loadPart (LX.at (by assumption) 6 rfl) ?_ | refine wpAny_loadPart (LX.at (by assumption) 7 rfl) ?_ | refine wpAny_loadPart (LX.at (by assumption) 8 rfl) ?_ | refine wpAny_loadPart (LX.at (by assumption) 9 rfl) ?_ | refine wpAny_loadPart (LX.at (by assumption) 10 rfl) ?_ | refine wpAny_loadPart (LX.at (by assumption) 11 rfl) ?_ | refine wpAny_loadPart (LX.at (by assumption) 12 rfl) ?_)) | ((with_reducible show wpAny _ _ (load _) _ _ _); (with_reducible first | refine wpAny_load (by assumption) ?_ | refine wpAny_load (LX.old (by assumption) (by assumption) (by decide)) ?_ | refine wpAny_load (LX.at (by assumption) 0 rfl) ?_ | refine wpAny_load (LX.at (by assumption) 1 rfl) ?_ | refine wpAny_load (LX.at (by assumption) 2 rfl) ?_ | refine wpAny_load (LX.at (by assumption) 3 rfl) ?_ | refine wpAny_load (LX.at (by assumption) 4 rfl) ?_ | refine wpAny_load (LX.at (by assumption) 5 rfl) ?_ | refine wpAny_load (LX.at (by assumption) 6 rfl) ?_ | refine wpAny_load (LX.at (by assumption) 7 rfl) ?_ | refine wpAny_load (LX.at (by assumption) 8 rfl) ?_ | refine wpAny_load (LX.at (by assumption) 9 rfl) ?_ | refine wpAny_load (LX.at (by assumption) 10 rfl) ?_ | refine wpAny_load (LX.at (by assumption) 11 rfl) ?_ | refine wpAny_load (LX.at (by assumption) 12 rfl) ?_)) | (with_reducible refine iteFb (by with_reducible assumption) ?_) | (with_reducible refine iteTb (by with_reducible assumption) ?_) | (with_reducible refine iteTd (by kernel_rfl!) ?_) | (with_reducible refine iteFd (by kernel_rfl!) ?_) | (with_reducible refine wpAny_bind ?_) | ((with_reducible show wpAny _ _ (typeLookup (Value.ref _) _) _ _ _); unfold typeLookup) | ((fail_if_success (with_reducible show wpAny _ _ (alloc _) _ _ _)); (fail_if_success (with_reducible show wpAny _ _ (updatePart _ _ _) _ _ _)); (fail_if_success (with_reducible show wpAny _ _ (nsSet _ _ _) _ _ _)); (fail_if_success (with_reducible show wpAny _ _ (enterFrame) _ _ _)); (fail_if_success (with_reducible show wpAny _ _ (nsGet _ _) _ _ _)); (fail_if_success (with_reducible show wpAny _ _ (List.mapM mkText _) _ _ _)); (fail_if_success (with_reducible show wpAny _ _ (functionCode _ _ _ _ _ _ _ _) _ _ _)); (fail_if_success (with_reducible show wpAny _ _ (makeFunction _ _ _ _ _ _ _ _ _ _ _) _ _ _)); (fail_if_success (with_reducible show wpAny _ _ (getAttrBy _ _ _) _ _ _)); (fail_if_success (with_reducible show wpAny _ _ (run _) _ _ _)); (fail_if_success (with_reducible show wpAny _ _ (call _ _ _) _ _ _)); (fail_if_success (with_reducible show wpAny _ _ (Sem.tryCatch _ _) _ _ _)); (fail_if_success (with_reducible show wpAny _ _ (Sem.onRaise _ _) _ _ _)); wp_delta))
  refine xAlloc (by assumption) rfl fun kc h9 D9 => ?_
  repeat (first | (with_reducible refine wpAny_of_eq (by with_reducible assumption) ?_) | (with_reducible refine bEq (by with_reducible assumption) ?_) | (with_reducible refine bPure ?_) | (with_reducible refine bAssoc ?_) | (with_reducible refine bRule ?_) | (with_reducible refine wpAny_pure ?_) | (with_reducible refine wpAny_holding ?_) | (with_reducible refine wpAny_standAt ?_) | (with_reducible refine wpAny_point ?_) | (with_reducible refine wpAny_rule ?_) | (with_reducible refine fresh5 ?_) | (with_reducible refine wpAny_attempt ?_) | ((with_reducible show wpAny _ _ (loadPart _ _) _ _ _); (with_reducible first | refine wpAny_loadPart (by assumption) ?_ | refine wpAny_loadPart (LX.old (by assumption) (by assumption) (by decide)) ?_ | refine wpAny_loadPart (LX.at (by assumption) 0 rfl) ?_ | refine wpAny_loadPart (LX.at (by assumption) 1 rfl) ?_ | refine wpAny_loadPart (LX.at (by assumption) 2 rfl) ?_ | refine wpAny_loadPart (LX.at (by assumption) 3 rfl) ?_ | refine wpAny_loadPart (LX.at (by assumption) 4 rfl) ?_ | refine wpAny_loadPart (LX.at (by assumption) 5 rfl) ?_ | refine wpAny_loadPart (LX.at (by assumption) 6 rfl) ?_ | refine wpAny_loadPart (LX.at (by assumption) 7 rfl) ?_ | refine wpAny_loadPart (LX.at (by assumption) 8 rfl) ?_ | refine wpAny_loadPart (LX.at (by assumption) 9 rfl) ?_ | refine wpAny_loadPart (LX.at (by assumption) 10 rfl) ?_ | refine wpAny_loadPart (LX.at (by assumption) 11 rfl) ?_ | refine wpAny_loadPart (LX.at (by assumption) 12 rfl) ?_)) | ((with_reducible show wpAny _ _ (load _) _ _ _); (with_reducible first | refine wpAny_load (by assumption) ?_ | refine wpAny_load (LX.old (by assumption) (by assumption) (by decide)) ?_ | refine wpAny_load (LX.at (by assumption) 0 rfl) ?_ | refine wpAny_load (LX.at (by assumption) 1 rfl) ?_ | refine wpAny_load (LX.at (by assumption) 2 rfl) ?_ | refine wpAny_load (LX.at (by assumption) 3 rfl) ?_ | refine wpAny_load (LX.at (by assumption) 4 rfl) ?_ | refine wpAny_load (LX.at (by assumption) 5 rfl) ?_ | refine wpAny_load (LX.at (by assumption) 6 rfl) ?_ | refine wpAny_load (LX.at (by assumption) 7 rfl) ?_ | refine wpAny_load (LX.at (by assumption) 8 rfl) ?_ | refine wpAny_load (LX.at (by assumption) 9 rfl) ?_ | refine wpAny_load (LX.at (by assumption) 10 rfl) ?_ | refine wpAny_load (LX.at (by assumption) 11 rfl) ?_ | refine wpAny_load (LX.at (by assumption) 12 rfl) ?_)) | (with_reducible refine iteFb (by with_reducible assumption) ?_) | (with_reducible refine iteTb (by with_reducible assumption) ?_) | (with_reducible refine iteTd (by kernel_rfl!) ?_) | (with_reducible refine iteFd (by kernel_rfl!) ?_) | (with_reducible refine wpAny_bind ?_) | ((with_reducible show wpAny _ _ (typeLookup (Value.ref _) _) _ _ _); unfold typeLookup) | ((fail_if_success (with_reducible show wpAny _ _ (alloc _) _ _ _)); (fail_if_success (with_reducible show wpAny _ _ (updatePart _ _ _) _ _ _)); (fail_if_success (with_reducible show wpAny _ _ (nsSet _ _ _) _ _ _)); (fail_if_success (with_reducible show wpAny _ _ (enterFrame) _ _ _)); (fail_if_success (with_reducible show wpAny _ _ (nsGet _ _) _ _ _)); (fail_if_success (with_reducible show wpAny _ _ (List.mapM mkText _) _ _ _)); (fail_if_success (with_reducible show wpAny _ _ (functionCode _ _ _ _ _ _ _ _) _ _ _)); (fail_if_success (with_reducible show wpAny _ _ (makeFunction _ _ _ _ _ _ _ _ _ _ _) _ _ _)); (fail_if_success (with_reducible show wpAny _ _ (getAttrBy _ _ _) _ _ _)); (fail_if_success (with_reducible show wpAny _ _ (run _) _ _ _)); (fail_if_success (with_reducible show wpAny _ _ (call _ _ _) _ _ _)); (fail_if_success (with_reducible show wpAny _ _ (Sem.tryCatch _ _) _ _ _)); (fail_if_success (with_reducible show wpAny _ _ (Sem.onRaise _ _) _ _ _)); wp_delta))
  refine xUpdO (tabObj #[rawInt 53, rawInt 4, .ref kc]) (by assumption) 8 rfl (by kernel_rfl!) rfl fun h10 D10 => ?_
  repeat (first | (with_reducible refine wpAny_of_eq (by with_reducible assumption) ?_) | (with_reducible refine bEq (by with_reducible assumption) ?_) | (with_reducible refine bPure ?_) | (with_reducible refine bAssoc ?_) | (with_reducible refine bRule ?_) | (with_reducible refine wpAny_pure ?_) | (with_reducible refine wpAny_holding ?_) | (with_reducible refine wpAny_standAt ?_) | (with_reducible refine wpAny_point ?_) | (with_reducible refine wpAny_rule ?_) | (with_reducible refine fresh5 ?_) | (with_reducible refine wpAny_attempt ?_) | ((with_reducible show wpAny _ _ (loadPart _ _) _ _ _); (with_reducible first | refine wpAny_loadPart (by assumption) ?_ | refine wpAny_loadPart (LX.old (by assumption) (by assumption) (by decide)) ?_ | refine wpAny_loadPart (LX.at (by assumption) 0 rfl) ?_ | refine wpAny_loadPart (LX.at (by assumption) 1 rfl) ?_ | refine wpAny_loadPart (LX.at (by assumption) 2 rfl) ?_ | refine wpAny_loadPart (LX.at (by assumption) 3 rfl) ?_ | refine wpAny_loadPart (LX.at (by assumption) 4 rfl) ?_ | refine wpAny_loadPart (LX.at (by assumption) 5 rfl) ?_ | refine wpAny_loadPart (LX.at (by assumption) 6 rfl) ?_ | refine wpAny_loadPart (LX.at (by assumption) 7 rfl) ?_ | refine wpAny_loadPart (LX.at (by assumption) 8 rfl) ?_ | refine wpAny_loadPart (LX.at (by assumption) 9 rfl) ?_ | refine wpAny_loadPart (LX.at (by assumption) 10 rfl) ?_ | refine wpAny_loadPart (LX.at (by assumption) 11 rfl) ?_ | refine wpAny_loadPart (LX.at (by assumption) 12 rfl) ?_)) | ((with_reducible show wpAny _ _ (load _) _ _ _); (with_reducible first | refine wpAny_load (by assumption) ?_ | refine wpAny_load (LX.old (by assumption) (by assumption) (by decide)) ?_ | refine wpAny_load (LX.at (by assumption) 0 rfl) ?_ | refine wpAny_load (LX.at (by assumption) 1 rfl) ?_ | refine wpAny_load (LX.at (by assumption) 2 rfl) ?_ | refine wpAny_load (LX.at (by assumption) 3 rfl) ?_ | refine wpAny_load (LX.at (by assumption) 4 rfl) ?_ | refine wpAny_load (LX.at (by assumption) 5 rfl) ?_ | refine wpAny_load (LX.at (by assumption) 6 rfl) ?_ | refine wpAny_load (LX.at (by assumption) 7 rfl) ?_ | refine wpAny_load (LX.at (by assumption) 8 rfl) ?_ | refine wpAny_load (LX.at (by assumption) 9 rfl) ?_ | refine wpAny_load (LX.at (by assumption) 10 rfl) ?_ | refine wpAny_load (LX.at (by assumption) 11 rfl) ?_ | refine wpAny_load (LX.at (by assumption) 12 rfl) ?_)) | (with_reducible refine iteFb (by with_reducible assumption) ?_) | (with_reducible refine iteTb (by with_reducible assumption) ?_) | (with_reducible refine iteTd (by kernel_rfl!) ?_) | (with_reducible refine iteFd (by kernel_rfl!) ?_) | (with_reducible refine wpAny_bind ?_) | ((with_reducible show wpAny _ _ (typeLookup (Value.ref _) _) _ _ _); unfold typeLookup) | ((fail_if_success (with_reducible show wpAny _ _ (alloc _) _ _ _)); (fail_if_success (with_reducible show wpAny _ _ (updatePart _ _ _) _ _ _)); (fail_if_success (with_reducible show wpAny _ _ (nsSet _ _ _) _ _ _)); (fail_if_success (with_reducible show wpAny _ _ (enterFrame) _ _ _)); (fail_if_success (with_reducible show wpAny _ _ (nsGet _ _) _ _ _)); (fail_if_success (with_reducible show wpAny _ _ (List.mapM mkText _) _ _ _)); (fail_if_success (with_reducible show wpAny _ _ (functionCode _ _ _ _ _ _ _ _) _ _ _)); (fail_if_success (with_reducible show wpAny _ _ (makeFunction _ _ _ _ _ _ _ _ _ _ _) _ _ _)); (fail_if_success (with_reducible show wpAny _ _ (getAttrBy _ _ _) _ _ _)); (fail_if_success (with_reducible show wpAny _ _ (run _) _ _ _)); (fail_if_success (with_reducible show wpAny _ _ (call _ _ _) _ _ _)); (fail_if_success (with_reducible show wpAny _ _ (Sem.tryCatch _ _) _ _ _)); (fail_if_success (with_reducible show wpAny _ _ (Sem.onRaise _ _) _ _ _)); wp_delta))
  refine wpAny_nsGet (D10.ns T.g (show mainGlobals ≠ 38 by decide)) ?_
  rw [m1]
  have m9 := D10.old m3 m8
  repeat (first | (with_reducible refine wpAny_of_eq (by with_reducible assumption) ?_) | (with_reducible refine bEq (by with_reducible assumption) ?_) | (with_reducible refine bPure ?_) | (with_reducible refine bAssoc ?_) | (with_reducible refine bRule ?_) | (with_reducible refine wpAny_pure ?_) | (with_reducible refine wpAny_holding ?_) | (with_reducible refine wpAny_standAt ?_) | (with_reducible refine wpAny_point ?_) | (with_reducible refine wpAny_rule ?_) | (with_reducible refine fresh5 ?_) | (with_reducible refine wpAny_attempt ?_) | ((with_reducible show wpAny _ _ (loadPart _ _) _ _ _); (with_reducible first | refine wpAny_loadPart (by assumption) ?_ | refine wpAny_loadPart (LX.old (by assumption) (by assumption) (by decide)) ?_ | refine wpAny_loadPart (LX.at (by assumption) 0 rfl) ?_ | refine wpAny_loadPart (LX.at (by assumption) 1 rfl) ?_ | refine wpAny_loadPart (LX.at (by assumption) 2 rfl) ?_ | refine wpAny_loadPart (LX.at (by assumption) 3 rfl) ?_ | refine wpAny_loadPart (LX.at (by assumption) 4 rfl) ?_ | refine wpAny_loadPart (LX.at (by assumption) 5 rfl) ?_ | refine wpAny_loadPart (LX.at (by assumption) 6 rfl) ?_ | refine wpAny_loadPart (LX.at (by assumption) 7 rfl) ?_ | refine wpAny_loadPart (LX.at (by assumption) 8 rfl) ?_ | refine wpAny_loadPart (LX.at (by assumption) 9 rfl) ?_ | refine wpAny_loadPart (LX.at (by assumption) 10 rfl) ?_ | refine wpAny_loadPart (LX.at (by assumption) 11 rfl) ?_ | refine wpAny_loadPart (LX.at (by assumption) 12 rfl) ?_)) | ((with_reducible show wpAny _ _ (load _) _ _ _); (with_reducible first | refine wpAny_load (by assumption) ?_ | refine wpAny_load (LX.old (by assumption) (by assumption) (by decide)) ?_ | refine wpAny_load (LX.at (by assumption) 0 rfl) ?_ | refine wpAny_load (LX.at (by assumption) 1 rfl) ?_ | refine wpAny_load (LX.at (by assumption) 2 rfl) ?_ | refine wpAny_load (LX.at (by assumption) 3 rfl) ?_ | refine wpAny_load (LX.at (by assumption) 4 rfl) ?_ | refine wpAny_load (LX.at (by assumption) 5 rfl) ?_ | refine wpAny_load (LX.at (by assumption) 6 rfl) ?_ | refine wpAny_load (LX.at (by assumption) 7 rfl) ?_ | refine wpAny_load (LX.at (by assumption) 8 rfl) ?_ | refine wpAny_load (LX.at (by assumption) 9 rfl) ?_ | refine wpAny_load (LX.at (by assumption) 10 rfl) ?_ | refine wpAny_load (LX.at (by assumption) 11 rfl) ?_ | refine wpAny_load (LX.at (by assumption) 12 rfl) ?_)) | (with_reducible refine iteFb (by with_reducible assumption) ?_) | (with_reducible refine iteTb (by with_reducible assumption) ?_) | (with_reducible refine iteTd (by kernel_rfl!) ?_) | (with_reducible refine iteFd (by kernel_rfl!) ?_) | (with_reducible refine wpAny_bind ?_) | ((with_reducible show wpAny _ _ (typeLookup (Value.ref _) _) _ _ _); unfold typeLookup) | ((fail_if_success (with_reducible show wpAny _ _ (alloc _) _ _ _)); (fail_if_success (with_reducible show wpAny _ _ (updatePart _ _ _) _ _ _)); (fail_if_success (with_reducible show wpAny _ _ (nsSet _ _ _) _ _ _)); (fail_if_success (with_reducible show wpAny _ _ (enterFrame) _ _ _)); (fail_if_success (with_reducible show wpAny _ _ (nsGet _ _) _ _ _)); (fail_if_success (with_reducible show wpAny _ _ (List.mapM mkText _) _ _ _)); (fail_if_success (with_reducible show wpAny _ _ (functionCode _ _ _ _ _ _ _ _) _ _ _)); (fail_if_success (with_reducible show wpAny _ _ (makeFunction _ _ _ _ _ _ _ _ _ _ _) _ _ _)); (fail_if_success (with_reducible show wpAny _ _ (getAttrBy _ _ _) _ _ _)); (fail_if_success (with_reducible show wpAny _ _ (run _) _ _ _)); (fail_if_success (with_reducible show wpAny _ _ (call _ _ _) _ _ _)); (fail_if_success (with_reducible show wpAny _ _ (Sem.tryCatch _ _) _ _ _)); (fail_if_success (with_reducible show wpAny _ _ (Sem.onRaise _ _) _ _ _)); wp_delta))
  refine wpAny_nsGet (D10.ns T.g (show mainGlobals ≠ 38 by decide)) ?_
  rw [n1]
  refine xAlloc (by assumption) rfl fun fr h11 D11 => ?_
  repeat (first | (with_reducible refine wpAny_of_eq (by with_reducible assumption) ?_) | (with_reducible refine bEq (by with_reducible assumption) ?_) | (with_reducible refine bPure ?_) | (with_reducible refine bAssoc ?_) | (with_reducible refine bRule ?_) | (with_reducible refine wpAny_pure ?_) | (with_reducible refine wpAny_holding ?_) | (with_reducible refine wpAny_standAt ?_) | (with_reducible refine wpAny_point ?_) | (with_reducible refine wpAny_rule ?_) | (with_reducible refine fresh5 ?_) | (with_reducible refine wpAny_attempt ?_) | ((with_reducible show wpAny _ _ (loadPart _ _) _ _ _); (with_reducible first | refine wpAny_loadPart (by assumption) ?_ | refine wpAny_loadPart (LX.old (by assumption) (by assumption) (by decide)) ?_ | refine wpAny_loadPart (LX.at (by assumption) 0 rfl) ?_ | refine wpAny_loadPart (LX.at (by assumption) 1 rfl) ?_ | refine wpAny_loadPart (LX.at (by assumption) 2 rfl) ?_ | refine wpAny_loadPart (LX.at (by assumption) 3 rfl) ?_ | refine wpAny_loadPart (LX.at (by assumption) 4 rfl) ?_ | refine wpAny_loadPart (LX.at (by assumption) 5 rfl) ?_ | refine wpAny_loadPart (LX.at (by assumption) 6 rfl) ?_ | refine wpAny_loadPart (LX.at (by assumption) 7 rfl) ?_ | refine wpAny_loadPart (LX.at (by assumption) 8 rfl) ?_ | refine wpAny_loadPart (LX.at (by assumption) 9 rfl) ?_ | refine wpAny_loadPart (LX.at (by assumption) 10 rfl) ?_ | refine wpAny_loadPart (LX.at (by assumption) 11 rfl) ?_ | refine wpAny_loadPart (LX.at (by assumption) 12 rfl) ?_)) | ((with_reducible show wpAny _ _ (load _) _ _ _); (with_reducible first | refine wpAny_load (by assumption) ?_ | refine wpAny_load (LX.old (by assumption) (by assumption) (by decide)) ?_ | refine wpAny_load (LX.at (by assumption) 0 rfl) ?_ | refine wpAny_load (LX.at (by assumption) 1 rfl) ?_ | refine wpAny_load (LX.at (by assumption) 2 rfl) ?_ | refine wpAny_load (LX.at (by assumption) 3 rfl) ?_ | refine wpAny_load (LX.at (by assumption) 4 rfl) ?_ | refine wpAny_load (LX.at (by assumption) 5 rfl) ?_ | refine wpAny_load (LX.at (by assumption) 6 rfl) ?_ | refine wpAny_load (LX.at (by assumption) 7 rfl) ?_ | refine wpAny_load (LX.at (by assumption) 8 rfl) ?_ | refine wpAny_load (LX.at (by assumption) 9 rfl) ?_ | refine wpAny_load (LX.at (by assumption) 10 rfl) ?_ | refine wpAny_load (LX.at (by assumption) 11 rfl) ?_ | refine wpAny_load (LX.at (by assumption) 12 rfl) ?_)) | (with_reducible refine iteFb (by with_reducible assumption) ?_) | (with_reducible refine iteTb (by with_reducible assumption) ?_) | (with_reducible refine iteTd (by kernel_rfl!) ?_) | (with_reducible refine iteFd (by kernel_rfl!) ?_) | (with_reducible refine wpAny_bind ?_) | ((with_reducible show wpAny _ _ (typeLookup (Value.ref _) _) _ _ _); unfold typeLookup) | ((fail_if_success (with_reducible show wpAny _ _ (alloc _) _ _ _)); (fail_if_success (with_reducible show wpAny _ _ (updatePart _ _ _) _ _ _)); (fail_if_success (with_reducible show wpAny _ _ (nsSet _ _ _) _ _ _)); (fail_if_success (with_reducible show wpAny _ _ (enterFrame) _ _ _)); (fail_if_success (with_reducible show wpAny _ _ (nsGet _ _) _ _ _)); (fail_if_success (with_reducible show wpAny _ _ (List.mapM mkText _) _ _ _)); (fail_if_success (with_reducible show wpAny _ _ (functionCode _ _ _ _ _ _ _ _) _ _ _)); (fail_if_success (with_reducible show wpAny _ _ (makeFunction _ _ _ _ _ _ _ _ _ _ _) _ _ _)); (fail_if_success (with_reducible show wpAny _ _ (getAttrBy _ _ _) _ _ _)); (fail_if_success (with_reducible show wpAny _ _ (run _) _ _ _)); (fail_if_success (with_reducible show wpAny _ _ (call _ _ _) _ _ _)); (fail_if_success (with_reducible show wpAny _ _ (Sem.tryCatch _ _) _ _ _)); (fail_if_success (with_reducible show wpAny _ _ (Sem.onRaise _ _) _ _ _)); wp_delta))
  have nl11 : h11.NoLimit := let ⟨mc, a, r⟩ := T.nolimit; ⟨mc, D11.ns a (show cStatics ≠ 38 by decide), r⟩
  refine wpAny_enterFrame nl11 (show A1.depth < _ by omega) ?_
  repeat (first | (with_reducible refine wpAny_of_eq (by with_reducible assumption) ?_) | (with_reducible refine bEq (by with_reducible assumption) ?_) | (with_reducible refine bPure ?_) | (with_reducible refine bAssoc ?_) | (with_reducible refine bRule ?_) | (with_reducible refine wpAny_pure ?_) | (with_reducible refine wpAny_holding ?_) | (with_reducible refine wpAny_standAt ?_) | (with_reducible refine wpAny_point ?_) | (with_reducible refine wpAny_rule ?_) | (with_reducible refine fresh5 ?_) | (with_reducible refine wpAny_attempt ?_) | ((with_reducible show wpAny _ _ (loadPart _ _) _ _ _); (with_reducible first | refine wpAny_loadPart (by assumption) ?_ | refine wpAny_loadPart (LX.old (by assumption) (by assumption) (by decide)) ?_ | refine wpAny_loadPart (LX.at (by assumption) 0 rfl) ?_ | refine wpAny_loadPart (LX.at (by assumption) 1 rfl) ?_ | refine wpAny_loadPart (LX.at (by assumption) 2 rfl) ?_ | refine wpAny_loadPart (LX.at (by assumption) 3 rfl) ?_ | refine wpAny_loadPart (LX.at (by assumption) 4 rfl) ?_ | refine wpAny_loadPart (LX.at (by assumption) 5 rfl) ?_ | refine wpAny_loadPart (LX.at (by assumption) 6 rfl) ?_ | refine wpAny_loadPart (LX.at (by assumption) 7 rfl) ?_ | refine wpAny_loadPart (LX.at (by assumption) 8 rfl) ?_ | refine wpAny_loadPart (LX.at (by assumption) 9 rfl) ?_ | refine wpAny_loadPart (LX.at (by assumption) 10 rfl) ?_ | refine wpAny_loadPart (LX.at (by assumption) 11 rfl) ?_ | refine wpAny_loadPart (LX.at (by assumption) 12 rfl) ?_)) | ((with_reducible show wpAny _ _ (load _) _ _ _); (with_reducible first | refine wpAny_load (by assumption) ?_ | refine wpAny_load (LX.old (by assumption) (by assumption) (by decide)) ?_ | refine wpAny_load (LX.at (by assumption) 0 rfl) ?_ | refine wpAny_load (LX.at (by assumption) 1 rfl) ?_ | refine wpAny_load (LX.at (by assumption) 2 rfl) ?_ | refine wpAny_load (LX.at (by assumption) 3 rfl) ?_ | refine wpAny_load (LX.at (by assumption) 4 rfl) ?_ | refine wpAny_load (LX.at (by assumption) 5 rfl) ?_ | refine wpAny_load (LX.at (by assumption) 6 rfl) ?_ | refine wpAny_load (LX.at (by assumption) 7 rfl) ?_ | refine wpAny_load (LX.at (by assumption) 8 rfl) ?_ | refine wpAny_load (LX.at (by assumption) 9 rfl) ?_ | refine wpAny_load (LX.at (by assumption) 10 rfl) ?_ | refine wpAny_load (LX.at (by assumption) 11 rfl) ?_ | refine wpAny_load (LX.at (by assumption) 12 rfl) ?_)) | (with_reducible refine iteFb (by with_reducible assumption) ?_) | (with_reducible refine iteTb (by with_reducible assumption) ?_) | (with_reducible refine iteTd (by kernel_rfl!) ?_) | (with_reducible refine iteFd (by kernel_rfl!) ?_) | (with_reducible refine wpAny_bind ?_) | ((with_reducible show wpAny _ _ (typeLookup (Value.ref _) _) _ _ _); unfold typeLookup) | ((fail_if_success (with_reducible show wpAny _ _ (alloc _) _ _ _)); (fail_if_success (with_reducible show wpAny _ _ (updatePart _ _ _) _ _ _)); (fail_if_success (with_reducible show wpAny _ _ (nsSet _ _ _) _ _ _)); (fail_if_success (with_reducible show wpAny _ _ (enterFrame) _ _ _)); (fail_if_success (with_reducible show wpAny _ _ (nsGet _ _) _ _ _)); (fail_if_success (with_reducible show wpAny _ _ (List.mapM mkText _) _ _ _)); (fail_if_success (with_reducible show wpAny _ _ (functionCode _ _ _ _ _ _ _ _) _ _ _)); (fail_if_success (with_reducible show wpAny _ _ (makeFunction _ _ _ _ _ _ _ _ _ _ _) _ _ _)); (fail_if_success (with_reducible show wpAny _ _ (getAttrBy _ _ _) _ _ _)); (fail_if_success (with_reducible show wpAny _ _ (run _) _ _ _)); (fail_if_success (with_reducible show wpAny _ _ (call _ _ _) _ _ _)); (fail_if_success (with_reducible show wpAny _ _ (Sem.tryCatch _ _) _ _ _)); (fail_if_success (with_reducible show wpAny _ _ (Sem.onRaise _ _) _ _ _)); wp_delta))
  refine wpAny_onRaise ?_
  repeat (first | (with_reducible refine wpAny_of_eq (by with_reducible assumption) ?_) | (with_reducible refine bEq (by with_reducible assumption) ?_) | (with_reducible refine bPure ?_) | (with_reducible refine bAssoc ?_) | (with_reducible refine bRule ?_) | (with_reducible refine wpAny_pure ?_) | (with_reducible refine wpAny_holding ?_) | (with_reducible refine wpAny_standAt ?_) | (with_reducible refine wpAny_point ?_) | (with_reducible refine wpAny_rule ?_) | (with_reducible refine fresh5 ?_) | (with_reducible refine wpAny_attempt ?_) | ((with_reducible show wpAny _ _ (loadPart _ _) _ _ _); (with_reducible first | refine wpAny_loadPart (by assumption) ?_ | refine wpAny_loadPart (LX.old (by assumption) (by assumption) (by decide)) ?_ | refine wpAny_loadPart (LX.at (by assumption) 0 rfl) ?_ | refine wpAny_loadPart (LX.at (by assumption) 1 rfl) ?_ | refine wpAny_loadPart (LX.at (by assumption) 2 rfl) ?_ | refine wpAny_loadPart (LX.at (by assumption) 3 rfl) ?_ | refine wpAny_loadPart (LX.at (by assumption) 4 rfl) ?_ | refine wpAny_loadPart (LX.at (by assumption) 5 rfl) ?_ | refine wpAny_loadPart (LX.at (by assumption) 6 rfl) ?_ | refine wpAny_loadPart (LX.at (by assumption) 7 rfl) ?_ | refine wpAny_loadPart (LX.at (by assumption) 8 rfl) ?_ | refine wpAny_loadPart (LX.at (by assumption) 9 rfl) ?_ | refine wpAny_loadPart (LX.at (by assumption) 10 rfl) ?_ | refine wpAny_loadPart (LX.at (by assumption) 11 rfl) ?_ | refine wpAny_loadPart (LX.at (by assumption) 12 rfl) ?_)) | ((with_reducible show wpAny _ _ (load _) _ _ _); (with_reducible first | refine wpAny_load (by assumption) ?_ | refine wpAny_load (LX.old (by assumption) (by assumption) (by decide)) ?_ | refine wpAny_load (LX.at (by assumption) 0 rfl) ?_ | refine wpAny_load (LX.at (by assumption) 1 rfl) ?_ | refine wpAny_load (LX.at (by assumption) 2 rfl) ?_ | refine wpAny_load (LX.at (by assumption) 3 rfl) ?_ | refine wpAny_load (LX.at (by assumption) 4 rfl) ?_ | refine wpAny_load (LX.at (by assumption) 5 rfl) ?_ | refine wpAny_load (LX.at (by assumption) 6 rfl) ?_ | refine wpAny_load (LX.at (by assumption) 7 rfl) ?_ | refine wpAny_load (LX.at (by assumption) 8 rfl) ?_ | refine wpAny_load (LX.at (by assumption) 9 rfl) ?_ | refine wpAny_load (LX.at (by assumption) 10 rfl) ?_ | refine wpAny_load (LX.at (by assumption) 11 rfl) ?_ | refine wpAny_load (LX.at (by assumption) 12 rfl) ?_)) | (with_reducible refine iteFb (by with_reducible assumption) ?_) | (with_reducible refine iteTb (by with_reducible assumption) ?_) | (with_reducible refine iteTd (by kernel_rfl!) ?_) | (with_reducible refine iteFd (by kernel_rfl!) ?_) | (with_reducible refine wpAny_bind ?_) | ((with_reducible show wpAny _ _ (typeLookup (Value.ref _) _) _ _ _); unfold typeLookup) | ((fail_if_success (with_reducible show wpAny _ _ (alloc _) _ _ _)); (fail_if_success (with_reducible show wpAny _ _ (updatePart _ _ _) _ _ _)); (fail_if_success (with_reducible show wpAny _ _ (nsSet _ _ _) _ _ _)); (fail_if_success (with_reducible show wpAny _ _ (enterFrame) _ _ _)); (fail_if_success (with_reducible show wpAny _ _ (nsGet _ _) _ _ _)); (fail_if_success (with_reducible show wpAny _ _ (List.mapM mkText _) _ _ _)); (fail_if_success (with_reducible show wpAny _ _ (functionCode _ _ _ _ _ _ _ _) _ _ _)); (fail_if_success (with_reducible show wpAny _ _ (makeFunction _ _ _ _ _ _ _ _ _ _ _) _ _ _)); (fail_if_success (with_reducible show wpAny _ _ (getAttrBy _ _ _) _ _ _)); (fail_if_success (with_reducible show wpAny _ _ (run _) _ _ _)); (fail_if_success (with_reducible show wpAny _ _ (call _ _ _) _ _ _)); (fail_if_success (with_reducible show wpAny _ _ (Sem.tryCatch _ _) _ _ _)); (fail_if_success (with_reducible show wpAny _ _ (Sem.onRaise _ _) _ _ _)); wp_delta))
  refine xNsGet (r := none) (by assumption) 4 rfl (by kernel_rfl!) ?_
  repeat (first | (with_reducible refine wpAny_of_eq (by with_reducible assumption) ?_) | (with_reducible refine bEq (by with_reducible assumption) ?_) | (with_reducible refine bPure ?_) | (with_reducible refine bAssoc ?_) | (with_reducible refine bRule ?_) | (with_reducible refine wpAny_pure ?_) | (with_reducible refine wpAny_holding ?_) | (with_reducible refine wpAny_standAt ?_) | (with_reducible refine wpAny_point ?_) | (with_reducible refine wpAny_rule ?_) | (with_reducible refine fresh5 ?_) | (with_reducible refine wpAny_attempt ?_) | ((with_reducible show wpAny _ _ (loadPart _ _) _ _ _); (with_reducible first | refine wpAny_loadPart (by assumption) ?_ | refine wpAny_loadPart (LX.old (by assumption) (by assumption) (by decide)) ?_ | refine wpAny_loadPart (LX.at (by assumption) 0 rfl) ?_ | refine wpAny_loadPart (LX.at (by assumption) 1 rfl) ?_ | refine wpAny_loadPart (LX.at (by assumption) 2 rfl) ?_ | refine wpAny_loadPart (LX.at (by assumption) 3 rfl) ?_ | refine wpAny_loadPart (LX.at (by assumption) 4 rfl) ?_ | refine wpAny_loadPart (LX.at (by assumption) 5 rfl) ?_ | refine wpAny_loadPart (LX.at (by assumption) 6 rfl) ?_ | refine wpAny_loadPart (LX.at (by assumption) 7 rfl) ?_ | refine wpAny_loadPart (LX.at (by assumption) 8 rfl) ?_ | refine wpAny_loadPart (LX.at (by assumption) 9 rfl) ?_ | refine wpAny_loadPart (LX.at (by assumption) 10 rfl) ?_ | refine wpAny_loadPart (LX.at (by assumption) 11 rfl) ?_ | refine wpAny_loadPart (LX.at (by assumption) 12 rfl) ?_)) | ((with_reducible show wpAny _ _ (load _) _ _ _); (with_reducible first | refine wpAny_load (by assumption) ?_ | refine wpAny_load (LX.old (by assumption) (by assumption) (by decide)) ?_ | refine wpAny_load (LX.at (by assumption) 0 rfl) ?_ | refine wpAny_load (LX.at (by assumption) 1 rfl) ?_ | refine wpAny_load (LX.at (by assumption) 2 rfl) ?_ | refine wpAny_load (LX.at (by assumption) 3 rfl) ?_ | refine wpAny_load (LX.at (by assumption) 4 rfl) ?_ | refine wpAny_load (LX.at (by assumption) 5 rfl) ?_ | refine wpAny_load (LX.at (by assumption) 6 rfl) ?_ | refine wpAny_load (LX.at (by assumption) 7 rfl) ?_ | refine wpAny_load (LX.at (by assumption) 8 rfl) ?_ | refine wpAny_load (LX.at (by assumption) 9 rfl) ?_ | refine wpAny_load (LX.at (by assumption) 10 rfl) ?_ | refine wpAny_load (LX.at (by assumption) 11 rfl) ?_ | refine wpAny_load (LX.at (by assumption) 12 rfl) ?_)) | (with_reducible refine iteFb (by with_reducible assumption) ?_) | (with_reducible refine iteTb (by with_reducible assumption) ?_) | (with_reducible refine iteTd (by kernel_rfl!) ?_) | (with_reducible refine iteFd (by kernel_rfl!) ?_) | (with_reducible refine wpAny_bind ?_) | ((with_reducible show wpAny _ _ (typeLookup (Value.ref _) _) _ _ _); unfold typeLookup) | ((fail_if_success (with_reducible show wpAny _ _ (alloc _) _ _ _)); (fail_if_success (with_reducible show wpAny _ _ (updatePart _ _ _) _ _ _)); (fail_if_success (with_reducible show wpAny _ _ (nsSet _ _ _) _ _ _)); (fail_if_success (with_reducible show wpAny _ _ (enterFrame) _ _ _)); (fail_if_success (with_reducible show wpAny _ _ (nsGet _ _) _ _ _)); (fail_if_success (with_reducible show wpAny _ _ (List.mapM mkText _) _ _ _)); (fail_if_success (with_reducible show wpAny _ _ (functionCode _ _ _ _ _ _ _ _) _ _ _)); (fail_if_success (with_reducible show wpAny _ _ (makeFunction _ _ _ _ _ _ _ _ _ _ _) _ _ _)); (fail_if_success (with_reducible show wpAny _ _ (getAttrBy _ _ _) _ _ _)); (fail_if_success (with_reducible show wpAny _ _ (run _) _ _ _)); (fail_if_success (with_reducible show wpAny _ _ (call _ _ _) _ _ _)); (fail_if_success (with_reducible show wpAny _ _ (Sem.tryCatch _ _) _ _ _)); (fail_if_success (with_reducible show wpAny _ _ (Sem.onRaise _ _) _ _ _)); wp_delta))
  refine wpAny_nsGet (D11.ns T.g (show mainGlobals ≠ 38 by decide)) ?_
  rw [n1]
  repeat (first | (with_reducible refine wpAny_of_eq (by with_reducible assumption) ?_) | (with_reducible refine bEq (by with_reducible assumption) ?_) | (with_reducible refine bPure ?_) | (with_reducible refine bAssoc ?_) | (with_reducible refine bRule ?_) | (with_reducible refine wpAny_pure ?_) | (with_reducible refine wpAny_holding ?_) | (with_reducible refine wpAny_standAt ?_) | (with_reducible refine wpAny_point ?_) | (with_reducible refine wpAny_rule ?_) | (with_reducible refine fresh5 ?_) | (with_reducible refine wpAny_attempt ?_) | ((with_reducible show wpAny _ _ (loadPart _ _) _ _ _); (with_reducible first | refine wpAny_loadPart (by assumption) ?_ | refine wpAny_loadPart (LX.old (by assumption) (by assumption) (by decide)) ?_ | refine wpAny_loadPart (LX.at (by assumption) 0 rfl) ?_ | refine wpAny_loadPart (LX.at (by assumption) 1 rfl) ?_ | refine wpAny_loadPart (LX.at (by assumption) 2 rfl) ?_ | refine wpAny_loadPart (LX.at (by assumption) 3 rfl) ?_ | refine wpAny_loadPart (LX.at (by assumption) 4 rfl) ?_ | refine wpAny_loadPart (LX.at (by assumption) 5 rfl) ?_ | refine wpAny_loadPart (LX.at (by assumption) 6 rfl) ?_ | refine wpAny_loadPart (LX.at (by assumption) 7 rfl) ?_ | refine wpAny_loadPart (LX.at (by assumption) 8 rfl) ?_ | refine wpAny_loadPart (LX.at (by assumption) 9 rfl) ?_ | refine wpAny_loadPart (LX.at (by assumption) 10 rfl) ?_ | refine wpAny_loadPart (LX.at (by assumption) 11 rfl) ?_ | refine wpAny_loadPart (LX.at (by assumption) 12 rfl) ?_)) | ((with_reducible show wpAny _ _ (load _) _ _ _); (with_reducible first | refine wpAny_load (by assumption) ?_ | refine wpAny_load (LX.old (by assumption) (by assumption) (by decide)) ?_ | refine wpAny_load (LX.at (by assumption) 0 rfl) ?_ | refine wpAny_load (LX.at (by assumption) 1 rfl) ?_ | refine wpAny_load (LX.at (by assumption) 2 rfl) ?_ | refine wpAny_load (LX.at (by assumption) 3 rfl) ?_ | refine wpAny_load (LX.at (by assumption) 4 rfl) ?_ | refine wpAny_load (LX.at (by assumption) 5 rfl) ?_ | refine wpAny_load (LX.at (by assumption) 6 rfl) ?_ | refine wpAny_load (LX.at (by assumption) 7 rfl) ?_ | refine wpAny_load (LX.at (by assumption) 8 rfl) ?_ | refine wpAny_load (LX.at (by assumption) 9 rfl) ?_ | refine wpAny_load (LX.at (by assumption) 10 rfl) ?_ | refine wpAny_load (LX.at (by assumption) 11 rfl) ?_ | refine wpAny_load (LX.at (by assumption) 12 rfl) ?_)) | (with_reducible refine iteFb (by with_reducible assumption) ?_) | (with_reducible refine iteTb (by with_reducible assumption) ?_) | (with_reducible refine iteTd (by kernel_rfl!) ?_) | (with_reducible refine iteFd (by kernel_rfl!) ?_) | (with_reducible refine wpAny_bind ?_) | ((with_reducible show wpAny _ _ (typeLookup (Value.ref _) _) _ _ _); unfold typeLookup) | ((fail_if_success (with_reducible show wpAny _ _ (alloc _) _ _ _)); (fail_if_success (with_reducible show wpAny _ _ (updatePart _ _ _) _ _ _)); (fail_if_success (with_reducible show wpAny _ _ (nsSet _ _ _) _ _ _)); (fail_if_success (with_reducible show wpAny _ _ (enterFrame) _ _ _)); (fail_if_success (with_reducible show wpAny _ _ (nsGet _ _) _ _ _)); (fail_if_success (with_reducible show wpAny _ _ (List.mapM mkText _) _ _ _)); (fail_if_success (with_reducible show wpAny _ _ (functionCode _ _ _ _ _ _ _ _) _ _ _)); (fail_if_success (with_reducible show wpAny _ _ (makeFunction _ _ _ _ _ _ _ _ _ _ _) _ _ _)); (fail_if_success (with_reducible show wpAny _ _ (getAttrBy _ _ _) _ _ _)); (fail_if_success (with_reducible show wpAny _ _ (run _) _ _ _)); (fail_if_success (with_reducible show wpAny _ _ (call _ _ _) _ _ _)); (fail_if_success (with_reducible show wpAny _ _ (Sem.tryCatch _ _) _ _ _)); (fail_if_success (with_reducible show wpAny _ _ (Sem.onRaise _ _) _ _ _)); wp_delta))
  refine xSet (fun v hh tk => dO [eN hh tk "__module__" v] 1) (by assumption) 4 rfl rfl (by kernel_rfl!) (by intro _ _; kernel_rfl!) (fun _ _ => rfl) fun hh0 tk0 h12 t12 D12 => ?_
  repeat (first | (with_reducible refine wpAny_of_eq (by with_reducible assumption) ?_) | (with_reducible refine bEq (by with_reducible assumption) ?_) | (with_reducible refine bPure ?_) | (with_reducible refine bAssoc ?_) | (with_reducible refine bRule ?_) | (with_reducible refine wpAny_pure ?_) | (with_reducible refine wpAny_holding ?_) | (with_reducible refine wpAny_standAt ?_) | (with_reducible refine wpAny_point ?_) | (with_reducible refine wpAny_rule ?_) | (with_reducible refine fresh5 ?_) | (with_reducible refine wpAny_attempt ?_) | ((with_reducible show wpAny _ _ (loadPart _ _) _ _ _); (with_reducible first | refine wpAny_loadPart (by assumption) ?_ | refine wpAny_loadPart (LX.old (by assumption) (by assumption) (by decide)) ?_ | refine wpAny_loadPart (LX.at (by assumption) 0 rfl) ?_ | refine wpAny_loadPart (LX.at (by assumption) 1 rfl) ?_ | refine wpAny_loadPart (LX.at (by assumption) 2 rfl) ?_ | refine wpAny_loadPart (LX.at (by assumption) 3 rfl) ?_ | refine wpAny_loadPart (LX.at (by assumption) 4 rfl) ?_ | refine wpAny_loadPart (LX.at (by assumption) 5 rfl) ?_ | refine wpAny_loadPart (LX.at (by assumption) 6 rfl) ?_ | refine wpAny_loadPart (LX.at (by assumption) 7 rfl) ?_ | refine wpAny_loadPart (LX.at (by assumption) 8 rfl) ?_ | refine wpAny_loadPart (LX.at (by assumption) 9 rfl) ?_ | refine wpAny_loadPart (LX.at (by assumption) 10 rfl) ?_ | refine wpAny_loadPart (LX.at (by assumption) 11 rfl) ?_ | refine wpAny_loadPart (LX.at (by assumption) 12 rfl) ?_)) | ((with_reducible show wpAny _ _ (load _) _ _ _); (with_reducible first | refine wpAny_load (by assumption) ?_ | refine wpAny_load (LX.old (by assumption) (by assumption) (by decide)) ?_ | refine wpAny_load (LX.at (by assumption) 0 rfl) ?_ | refine wpAny_load (LX.at (by assumption) 1 rfl) ?_ | refine wpAny_load (LX.at (by assumption) 2 rfl) ?_ | refine wpAny_load (LX.at (by assumption) 3 rfl) ?_ | refine wpAny_load (LX.at (by assumption) 4 rfl) ?_ | refine wpAny_load (LX.at (by assumption) 5 rfl) ?_ | refine wpAny_load (LX.at (by assumption) 6 rfl) ?_ | refine wpAny_load (LX.at (by assumption) 7 rfl) ?_ | refine wpAny_load (LX.at (by assumption) 8 rfl) ?_ | refine wpAny_load (LX.at (by assumption) 9 rfl) ?_ | refine wpAny_load (LX.at (by assumption) 10 rfl) ?_ | refine wpAny_load (LX.at (by assumption) 11 rfl) ?_ | refine wpAny_load (LX.at (by assumption) 12 rfl) ?_)) | (with_reducible refine iteFb (by with_reducible assumption) ?_) | (with_reducible refine iteTb (by with_reducible assumption) ?_) | (with_reducible refine iteTd (by kernel_rfl!) ?_) | (with_reducible refine iteFd (by kernel_rfl!) ?_) | (with_reducible refine wpAny_bind ?_) | ((with_reducible show wpAny _ _ (typeLookup (Value.ref _) _) _ _ _); unfold typeLookup) | ((fail_if_success (with_reducible show wpAny _ _ (alloc _) _ _ _)); (fail_if_success (with_reducible show wpAny _ _ (updatePart _ _ _) _ _ _)); (fail_if_success (with_reducible show wpAny _ _ (nsSet _ _ _) _ _ _)); (fail_if_success (with_reducible show wpAny _ _ (enterFrame) _ _ _)); (fail_if_success (with_reducible show wpAny _ _ (nsGet _ _) _ _ _)); (fail_if_success (with_reducible show wpAny _ _ (List.mapM mkText _) _ _ _)); (fail_if_success (with_reducible show wpAny _ _ (functionCode _ _ _ _ _ _ _ _) _ _ _)); (fail_if_success (with_reducible show wpAny _ _ (makeFunction _ _ _ _ _ _ _ _ _ _ _) _ _ _)); (fail_if_success (with_reducible show wpAny _ _ (getAttrBy _ _ _) _ _ _)); (fail_if_success (with_reducible show wpAny _ _ (run _) _ _ _)); (fail_if_success (with_reducible show wpAny _ _ (call _ _ _) _ _ _)); (fail_if_success (with_reducible show wpAny _ _ (Sem.tryCatch _ _) _ _ _)); (fail_if_success (with_reducible show wpAny _ _ (Sem.onRaise _ _) _ _ _)); wp_delta))
  refine xSet (fun _ hh tk => dO [eN hh0 tk0 "__module__" (.str (Str.ofString "law_oy0064_01") 278), eN hh tk "__qualname__" (.str (Str.ofString "cmp_to_key.<locals>.K") t12)] 2) (by assumption) 4 rfl rfl (by kernel_rfl!) (by intro _ _; kernel_rfl!) (fun _ _ => rfl) fun hh1 tk1 h13 t13 D13 => ?_
  repeat (first | (with_reducible refine wpAny_of_eq (by with_reducible assumption) ?_) | (with_reducible refine bEq (by with_reducible assumption) ?_) | (with_reducible refine bPure ?_) | (with_reducible refine bAssoc ?_) | (with_reducible refine bRule ?_) | (with_reducible refine wpAny_pure ?_) | (with_reducible refine wpAny_holding ?_) | (with_reducible refine wpAny_standAt ?_) | (with_reducible refine wpAny_point ?_) | (with_reducible refine wpAny_rule ?_) | (with_reducible refine fresh5 ?_) | (with_reducible refine wpAny_attempt ?_) | ((with_reducible show wpAny _ _ (loadPart _ _) _ _ _); (with_reducible first | refine wpAny_loadPart (by assumption) ?_ | refine wpAny_loadPart (LX.old (by assumption) (by assumption) (by decide)) ?_ | refine wpAny_loadPart (LX.at (by assumption) 0 rfl) ?_ | refine wpAny_loadPart (LX.at (by assumption) 1 rfl) ?_ | refine wpAny_loadPart (LX.at (by assumption) 2 rfl) ?_ | refine wpAny_loadPart (LX.at (by assumption) 3 rfl) ?_ | refine wpAny_loadPart (LX.at (by assumption) 4 rfl) ?_ | refine wpAny_loadPart (LX.at (by assumption) 5 rfl) ?_ | refine wpAny_loadPart (LX.at (by assumption) 6 rfl) ?_ | refine wpAny_loadPart (LX.at (by assumption) 7 rfl) ?_ | refine wpAny_loadPart (LX.at (by assumption) 8 rfl) ?_ | refine wpAny_loadPart (LX.at (by assumption) 9 rfl) ?_ | refine wpAny_loadPart (LX.at (by assumption) 10 rfl) ?_ | refine wpAny_loadPart (LX.at (by assumption) 11 rfl) ?_ | refine wpAny_loadPart (LX.at (by assumption) 12 rfl) ?_)) | ((with_reducible show wpAny _ _ (load _) _ _ _); (with_reducible first | refine wpAny_load (by assumption) ?_ | refine wpAny_load (LX.old (by assumption) (by assumption) (by decide)) ?_ | refine wpAny_load (LX.at (by assumption) 0 rfl) ?_ | refine wpAny_load (LX.at (by assumption) 1 rfl) ?_ | refine wpAny_load (LX.at (by assumption) 2 rfl) ?_ | refine wpAny_load (LX.at (by assumption) 3 rfl) ?_ | refine wpAny_load (LX.at (by assumption) 4 rfl) ?_ | refine wpAny_load (LX.at (by assumption) 5 rfl) ?_ | refine wpAny_load (LX.at (by assumption) 6 rfl) ?_ | refine wpAny_load (LX.at (by assumption) 7 rfl) ?_ | refine wpAny_load (LX.at (by assumption) 8 rfl) ?_ | refine wpAny_load (LX.at (by assumption) 9 rfl) ?_ | refine wpAny_load (LX.at (by assumption) 10 rfl) ?_ | refine wpAny_load (LX.at (by assumption) 11 rfl) ?_ | refine wpAny_load (LX.at (by assumption) 12 rfl) ?_)) | (with_reducible refine iteFb (by with_reducible assumption) ?_) | (with_reducible refine iteTb (by with_reducible assumption) ?_) | (with_reducible refine iteTd (by kernel_rfl!) ?_) | (with_reducible refine iteFd (by kernel_rfl!) ?_) | (with_reducible refine wpAny_bind ?_) | ((with_reducible show wpAny _ _ (typeLookup (Value.ref _) _) _ _ _); unfold typeLookup) | ((fail_if_success (with_reducible show wpAny _ _ (alloc _) _ _ _)); (fail_if_success (with_reducible show wpAny _ _ (updatePart _ _ _) _ _ _)); (fail_if_success (with_reducible show wpAny _ _ (nsSet _ _ _) _ _ _)); (fail_if_success (with_reducible show wpAny _ _ (enterFrame) _ _ _)); (fail_if_success (with_reducible show wpAny _ _ (nsGet _ _) _ _ _)); (fail_if_success (with_reducible show wpAny _ _ (List.mapM mkText _) _ _ _)); (fail_if_success (with_reducible show wpAny _ _ (functionCode _ _ _ _ _ _ _ _) _ _ _)); (fail_if_success (with_reducible show wpAny _ _ (makeFunction _ _ _ _ _ _ _ _ _ _ _) _ _ _)); (fail_if_success (with_reducible show wpAny _ _ (getAttrBy _ _ _) _ _ _)); (fail_if_success (with_reducible show wpAny _ _ (run _) _ _ _)); (fail_if_success (with_reducible show wpAny _ _ (call _ _ _) _ _ _)); (fail_if_success (with_reducible show wpAny _ _ (Sem.tryCatch _ _) _ _ _)); (fail_if_success (with_reducible show wpAny _ _ (Sem.onRaise _ _) _ _ _)); wp_delta))
  refine xSet (fun _ hh tk => dO [eN hh0 tk0 "__module__" (.str (Str.ofString "law_oy0064_01") 278), eN hh1 tk1 "__qualname__" (.str (Str.ofString "cmp_to_key.<locals>.K") t12), eN hh tk "__firstlineno__" (.int 53 t13)] 3) (by assumption) 4 rfl rfl (by kernel_rfl!) (by intro _ _; kernel_rfl!) (fun _ _ => rfl) fun hh2 tk2 h14 t14 D14 => ?_
  repeat (first | (with_reducible refine wpAny_of_eq (by with_reducible assumption) ?_) | (with_reducible refine bEq (by with_reducible assumption) ?_) | (with_reducible refine bPure ?_) | (with_reducible refine bAssoc ?_) | (with_reducible refine bRule ?_) | (with_reducible refine wpAny_pure ?_) | (with_reducible refine wpAny_holding ?_) | (with_reducible refine wpAny_standAt ?_) | (with_reducible refine wpAny_point ?_) | (with_reducible refine wpAny_rule ?_) | (with_reducible refine fresh5 ?_) | (with_reducible refine wpAny_attempt ?_) | ((with_reducible show wpAny _ _ (loadPart _ _) _ _ _); (with_reducible first | refine wpAny_loadPart (by assumption) ?_ | refine wpAny_loadPart (LX.old (by assumption) (by assumption) (by decide)) ?_ | refine wpAny_loadPart (LX.at (by assumption) 0 rfl) ?_ | refine wpAny_loadPart (LX.at (by assumption) 1 rfl) ?_ | refine wpAny_loadPart (LX.at (by assumption) 2 rfl) ?_ | refine wpAny_loadPart (LX.at (by assumption) 3 rfl) ?_ | refine wpAny_loadPart (LX.at (by assumption) 4 rfl) ?_ | refine wpAny_loadPart (LX.at (by assumption) 5 rfl) ?_ | refine wpAny_loadPart (LX.at (by assumption) 6 rfl) ?_ | refine wpAny_loadPart (LX.at (by assumption) 7 rfl) ?_ | refine wpAny_loadPart (LX.at (by assumption) 8 rfl) ?_ | refine wpAny_loadPart (LX.at (by assumption) 9 rfl) ?_ | refine wpAny_loadPart (LX.at (by assumption) 10 rfl) ?_ | refine wpAny_loadPart (LX.at (by assumption) 11 rfl) ?_ | refine wpAny_loadPart (LX.at (by assumption) 12 rfl) ?_)) | ((with_reducible show wpAny _ _ (load _) _ _ _); (with_reducible first | refine wpAny_load (by assumption) ?_ | refine wpAny_load (LX.old (by assumption) (by assumption) (by decide)) ?_ | refine wpAny_load (LX.at (by assumption) 0 rfl) ?_ | refine wpAny_load (LX.at (by assumption) 1 rfl) ?_ | refine wpAny_load (LX.at (by assumption) 2 rfl) ?_ | refine wpAny_load (LX.at (by assumption) 3 rfl) ?_ | refine wpAny_load (LX.at (by assumption) 4 rfl) ?_ | refine wpAny_load (LX.at (by assumption) 5 rfl) ?_ | refine wpAny_load (LX.at (by assumption) 6 rfl) ?_ | refine wpAny_load (LX.at (by assumption) 7 rfl) ?_ | refine wpAny_load (LX.at (by assumption) 8 rfl) ?_ | refine wpAny_load (LX.at (by assumption) 9 rfl) ?_ | refine wpAny_load (LX.at (by assumption) 10 rfl) ?_ | refine wpAny_load (LX.at (by assumption) 11 rfl) ?_ | refine wpAny_load (LX.at (by assumption) 12 rfl) ?_)) | (with_reducible refine iteFb (by with_reducible assumption) ?_) | (with_reducible refine iteTb (by with_reducible assumption) ?_) | (with_reducible refine iteTd (by kernel_rfl!) ?_) | (with_reducible refine iteFd (by kernel_rfl!) ?_) | (with_reducible refine wpAny_bind ?_) | ((with_reducible show wpAny _ _ (typeLookup (Value.ref _) _) _ _ _); unfold typeLookup) | ((fail_if_success (with_reducible show wpAny _ _ (alloc _) _ _ _)); (fail_if_success (with_reducible show wpAny _ _ (updatePart _ _ _) _ _ _)); (fail_if_success (with_reducible show wpAny _ _ (nsSet _ _ _) _ _ _)); (fail_if_success (with_reducible show wpAny _ _ (enterFrame) _ _ _)); (fail_if_success (with_reducible show wpAny _ _ (nsGet _ _) _ _ _)); (fail_if_success (with_reducible show wpAny _ _ (List.mapM mkText _) _ _ _)); (fail_if_success (with_reducible show wpAny _ _ (functionCode _ _ _ _ _ _ _ _) _ _ _)); (fail_if_success (with_reducible show wpAny _ _ (makeFunction _ _ _ _ _ _ _ _ _ _ _) _ _ _)); (fail_if_success (with_reducible show wpAny _ _ (getAttrBy _ _ _) _ _ _)); (fail_if_success (with_reducible show wpAny _ _ (run _) _ _ _)); (fail_if_success (with_reducible show wpAny _ _ (call _ _ _) _ _ _)); (fail_if_success (with_reducible show wpAny _ _ (Sem.tryCatch _ _) _ _ _)); (fail_if_success (with_reducible show wpAny _ _ (Sem.onRaise _ _) _ _ _)); wp_delta))
  refine wpAny_run (codeAny_body (by kernel_rfl!) (by kernel_rfl!) ?_)
  refine hideQ fun A9 K9 E9 hA9 hK9 hE9 => ?_
  refine envAs [(Str.ofString "mycmp", cl)] (Str.ofString "cmp_to_key.<locals>.K.") (by kernel_rfl!) (by kernel_rfl!) ?_
  repeat (first | (with_reducible refine wpAny_of_eq (by with_reducible assumption) ?_) | (with_reducible refine bEq (by with_reducible assumption) ?_) | (with_reducible refine bPure ?_) | (with_reducible refine bAssoc ?_) | (with_reducible refine bRule ?_) | (with_reducible refine wpAny_pure ?_) | (with_reducible refine wpAny_holding ?_) | (with_reducible refine wpAny_standAt ?_) | (with_reducible refine wpAny_point ?_) | (with_reducible refine wpAny_rule ?_) | (with_reducible refine fresh5 ?_) | (with_reducible refine wpAny_attempt ?_) | ((with_reducible show wpAny _ _ (loadPart _ _) _ _ _); (with_reducible first | refine wpAny_loadPart (by assumption) ?_ | refine wpAny_loadPart (LX.old (by assumption) (by assumption) (by decide)) ?_ | refine wpAny_loadPart (LX.at (by assumption) 0 rfl) ?_ | refine wpAny_loadPart (LX.at (by assumption) 1 rfl) ?_ | refine wpAny_loadPart (LX.at (by assumption) 2 rfl) ?_ | refine wpAny_loadPart (LX.at (by assumption) 3 rfl) ?_ | refine wpAny_loadPart (LX.at (by assumption) 4 rfl) ?_ | refine wpAny_loadPart (LX.at (by assumption) 5 rfl) ?_ | refine wpAny_loadPart (LX.at (by assumption) 6 rfl) ?_ | refine wpAny_loadPart (LX.at (by assumption) 7 rfl) ?_ | refine wpAny_loadPart (LX.at (by assumption) 8 rfl) ?_ | refine wpAny_loadPart (LX.at (by assumption) 9 rfl) ?_ | refine wpAny_loadPart (LX.at (by assumption) 10 rfl) ?_ | refine wpAny_loadPart (LX.at (by assumption) 11 rfl) ?_ | refine wpAny_loadPart (LX.at (by assumption) 12 rfl) ?_)) | ((with_reducible show wpAny _ _ (load _) _ _ _); (with_reducible first | refine wpAny_load (by assumption) ?_ | refine wpAny_load (LX.old (by assumption) (by assumption) (by decide)) ?_ | refine wpAny_load (LX.at (by assumption) 0 rfl) ?_ | refine wpAny_load (LX.at (by assumption) 1 rfl) ?_ | refine wpAny_load (LX.at (by assumption) 2 rfl) ?_ | refine wpAny_load (LX.at (by assumption) 3 rfl) ?_ | refine wpAny_load (LX.at (by assumption) 4 rfl) ?_ | refine wpAny_load (LX.at (by assumption) 5 rfl) ?_ | refine wpAny_load (LX.at (by assumption) 6 rfl) ?_ | refine wpAny_load (LX.at (by assumption) 7 rfl) ?_ | refine wpAny_load (LX.at (by assumption) 8 rfl) ?_ | refine wpAny_load (LX.at (by assumption) 9 rfl) ?_ | refine wpAny_load (LX.at (by assumption) 10 rfl) ?_ | refine wpAny_load (LX.at (by assumption) 11 rfl) ?_ | refine wpAny_load (LX.at (by assumption) 12 rfl) ?_)) | (with_reducible refine iteFb (by with_reducible assumption) ?_) | (with_reducible refine iteTb (by with_reducible assumption) ?_) | (with_reducible refine iteTd (by kernel_rfl!) ?_) | (with_reducible refine iteFd (by kernel_rfl!) ?_) | (with_reducible refine wpAny_bind ?_) | ((with_reducible show wpAny _ _ (typeLookup (Value.ref _) _) _ _ _); unfold typeLookup) | ((fail_if_success (with_reducible show wpAny _ _ (alloc _) _ _ _)); (fail_if_success (with_reducible show wpAny _ _ (updatePart _ _ _) _ _ _)); (fail_if_success (with_reducible show wpAny _ _ (nsSet _ _ _) _ _ _)); (fail_if_success (with_reducible show wpAny _ _ (enterFrame) _ _ _)); (fail_if_success (with_reducible show wpAny _ _ (nsGet _ _) _ _ _)); (fail_if_success (with_reducible show wpAny _ _ (List.mapM mkText _) _ _ _)); (fail_if_success (with_reducible show wpAny _ _ (functionCode _ _ _ _ _ _ _ _) _ _ _)); (fail_if_success (with_reducible show wpAny _ _ (makeFunction _ _ _ _ _ _ _ _ _ _ _) _ _ _)); (fail_if_success (with_reducible show wpAny _ _ (getAttrBy _ _ _) _ _ _)); (fail_if_success (with_reducible show wpAny _ _ (run _) _ _ _)); (fail_if_success (with_reducible show wpAny _ _ (call _ _ _) _ _ _)); (fail_if_success (with_reducible show wpAny _ _ (Sem.tryCatch _ _) _ _ _)); (fail_if_success (with_reducible show wpAny _ _ (Sem.onRaise _ _) _ _ _)); wp_delta))
  have DC : LX h h14 38 ((kc, _) :: (tbl, tabObj #[]) :: (n, dO [eN hh0 tk0 "__module__" (.str (Str.ofString "law_oy0064_01") 278), eN hh1 tk1 "__qualname__" (.str (Str.ofString "cmp_to_key.<locals>.K") t12), eN hh2 tk2 "__firstlineno__" (.int 53 t13)] 3) :: (bt, _) :: (cl, _) :: (L, _) :: (38, _) :: []) := LX.sub D14 (.cons _ (.cons_cons _ (.cons_cons _ (.cons _ (.cons_cons _ (.cons _ (.cons_cons _ (.cons_cons _ (.cons_cons _ (.cons_cons _ .slnil)))))))))) (.tail _ (.tail _ (.tail _ (.tail _ (.tail _ (.tail _ (.head _)))))))
  clear D0 D1 D2 D3 D4 D5 D5' D6 D6' D7 D8 D9 D10 D11 D12 D13 D14
  refine xSet2 (fun _ _ _ => dO [eN hh0 tk0 "__module__" (.str (Str.ofString "cpy313.functools") t14), eN hh1 tk1 "__qualname__" (.str (Str.ofString "cmp_to_key.<locals>.K") t12), eN hh2 tk2 "__firstlineno__" (.int 53 t13)] 3) DC rfl (by kernel_rfl!) (by intro _ _; kernel_rfl!) (fun _ _ => rfl) fun _ _ h15 t15 D15 => ?_
  clear DC
  repeat (first | (with_reducible refine wpAny_of_eq (by with_reducible assumption) ?_) | (with_reducible refine bEq (by with_reducible assumption) ?_) | (with_reducible refine bPure ?_) | (with_reducible refine bAssoc ?_) | (with_reducible refine bRule ?_) | (with_reducible refine wpAny_pure ?_) | (with_reducible refine wpAny_holding ?_) | (with_reducible refine wpAny_standAt ?_) | (with_reducible refine wpAny_point ?_) | (with_reducible refine wpAny_rule ?_) | (with_reducible refine fresh5 ?_) | (with_reducible refine wpAny_attempt ?_) | ((with_reducible show wpAny _ _ (loadPart _ _) _ _ _); (with_reducible first | refine wpAny_loadPart (by assumption) ?_ | refine wpAny_loadPart (LX.old (by assumption) (by assumption) (by decide)) ?_ | refine wpAny_loadPart (LX.at (by assumption) 0 rfl) ?_ | refine wpAny_loadPart (LX.at (by assumption) 1 rfl) ?_ | refine wpAny_loadPart (LX.at (by assumption) 2 rfl) ?_ | refine wpAny_loadPart (LX.at (by assumption) 3 rfl) ?_ | refine wpAny_loadPart (LX.at (by assumption) 4 rfl) ?_ | refine wpAny_loadPart (LX.at (by assumption) 5 rfl) ?_ | refine wpAny_loadPart (LX.at (by assumption) 6 rfl) ?_ | refine wpAny_loadPart (LX.at (by assumption) 7 rfl) ?_ | refine wpAny_loadPart (LX.at (by assumption) 8 rfl) ?_ | refine wpAny_loadPart (LX.at (by assumption) 9 rfl) ?_ | refine wpAny_loadPart (LX.at (by assumption) 10 rfl) ?_ | refine wpAny_loadPart (LX.at (by assumption) 11 rfl) ?_ | refine wpAny_loadPart (LX.at (by assumption) 12 rfl) ?_)) | ((with_reducible show wpAny _ _ (load _) _ _ _); (with_reducible first | refine wpAny_load (by assumption) ?_ | refine wpAny_load (LX.old (by assumption) (by assumption) (by decide)) ?_ | refine wpAny_load (LX.at (by assumption) 0 rfl) ?_ | refine wpAny_load (LX.at (by assumption) 1 rfl) ?_ | refine wpAny_load (LX.at (by assumption) 2 rfl) ?_ | refine wpAny_load (LX.at (by assumption) 3 rfl) ?_ | refine wpAny_load (LX.at (by assumption) 4 rfl) ?_ | refine wpAny_load (LX.at (by assumption) 5 rfl) ?_ | refine wpAny_load (LX.at (by assumption) 6 rfl) ?_ | refine wpAny_load (LX.at (by assumption) 7 rfl) ?_ | refine wpAny_load (LX.at (by assumption) 8 rfl) ?_ | refine wpAny_load (LX.at (by assumption) 9 rfl) ?_ | refine wpAny_load (LX.at (by assumption) 10 rfl) ?_ | refine wpAny_load (LX.at (by assumption) 11 rfl) ?_ | refine wpAny_load (LX.at (by assumption) 12 rfl) ?_)) | (with_reducible refine iteFb (by with_reducible assumption) ?_) | (with_reducible refine iteTb (by with_reducible assumption) ?_) | (with_reducible refine iteTd (by kernel_rfl!) ?_) | (with_reducible refine iteFd (by kernel_rfl!) ?_) | (with_reducible refine wpAny_bind ?_) | ((with_reducible show wpAny _ _ (typeLookup (Value.ref _) _) _ _ _); unfold typeLookup) | ((fail_if_success (with_reducible show wpAny _ _ (alloc _) _ _ _)); (fail_if_success (with_reducible show wpAny _ _ (updatePart _ _ _) _ _ _)); (fail_if_success (with_reducible show wpAny _ _ (nsSet _ _ _) _ _ _)); (fail_if_success (with_reducible show wpAny _ _ (enterFrame) _ _ _)); (fail_if_success (with_reducible show wpAny _ _ (nsGet _ _) _ _ _)); (fail_if_success (with_reducible show wpAny _ _ (List.mapM mkText _) _ _ _)); (fail_if_success (with_reducible show wpAny _ _ (functionCode _ _ _ _ _ _ _ _) _ _ _)); (fail_if_success (with_reducible show wpAny _ _ (makeFunction _ _ _ _ _ _ _ _ _ _ _) _ _ _)); (fail_if_success (with_reducible show wpAny _ _ (getAttrBy _ _ _) _ _ _)); (fail_if_success (with_reducible show wpAny _ _ (run _) _ _ _)); (fail_if_success (with_reducible show wpAny _ _ (call _ _ _) _ _ _)); (fail_if_success (with_reducible show wpAny _ _ (Sem.tryCatch _ _) _ _ _)); (fail_if_success (with_reducible show wpAny _ _ (Sem.onRaise _ _) _ _ _)); wp_delta))
  refine xAlloc3 (o := { cls := .type "list", data := .seq #[.str (Str.ofString "obj") t15] }) D15 rfl fun sl h16 D16 => ?_
  clear D15
  repeat (first | (with_reducible refine wpAny_of_eq (by with_reducible assumption) ?_) | (with_reducible refine bEq (by with_reducible assumption) ?_) | (with_reducible refine bPure ?_) | (with_reducible refine bAssoc ?_) | (with_reducible refine bRule ?_) | (with_reducible refine wpAny_pure ?_) | (with_reducible refine wpAny_holding ?_) | (with_reducible refine wpAny_standAt ?_) | (with_reducible refine wpAny_point ?_) | (with_reducible refine wpAny_rule ?_) | (with_reducible refine fresh5 ?_) | (with_reducible refine wpAny_attempt ?_) | ((with_reducible show wpAny _ _ (loadPart _ _) _ _ _); (with_reducible first | refine wpAny_loadPart (by assumption) ?_ | refine wpAny_loadPart (LX.old (by assumption) (by assumption) (by decide)) ?_ | refine wpAny_loadPart (LX.at (by assumption) 0 rfl) ?_ | refine wpAny_loadPart (LX.at (by assumption) 1 rfl) ?_ | refine wpAny_loadPart (LX.at (by assumption) 2 rfl) ?_ | refine wpAny_loadPart (LX.at (by assumption) 3 rfl) ?_ | refine wpAny_loadPart (LX.at (by assumption) 4 rfl) ?_ | refine wpAny_loadPart (LX.at (by assumption) 5 rfl) ?_ | refine wpAny_loadPart (LX.at (by assumption) 6 rfl) ?_ | refine wpAny_loadPart (LX.at (by assumption) 7 rfl) ?_ | refine wpAny_loadPart (LX.at (by assumption) 8 rfl) ?_ | refine wpAny_loadPart (LX.at (by assumption) 9 rfl) ?_ | refine wpAny_loadPart (LX.at (by assumption) 10 rfl) ?_ | refine wpAny_loadPart (LX.at (by assumption) 11 rfl) ?_ | refine wpAny_loadPart (LX.at (by assumption) 12 rfl) ?_)) | ((with_reducible show wpAny _ _ (load _) _ _ _); (with_reducible first | refine wpAny_load (by assumption) ?_ | refine wpAny_load (LX.old (by assumption) (by assumption) (by decide)) ?_ | refine wpAny_load (LX.at (by assumption) 0 rfl) ?_ | refine wpAny_load (LX.at (by assumption) 1 rfl) ?_ | refine wpAny_load (LX.at (by assumption) 2 rfl) ?_ | refine wpAny_load (LX.at (by assumption) 3 rfl) ?_ | refine wpAny_load (LX.at (by assumption) 4 rfl) ?_ | refine wpAny_load (LX.at (by assumption) 5 rfl) ?_ | refine wpAny_load (LX.at (by assumption) 6 rfl) ?_ | refine wpAny_load (LX.at (by assumption) 7 rfl) ?_ | refine wpAny_load (LX.at (by assumption) 8 rfl) ?_ | refine wpAny_load (LX.at (by assumption) 9 rfl) ?_ | refine wpAny_load (LX.at (by assumption) 10 rfl) ?_ | refine wpAny_load (LX.at (by assumption) 11 rfl) ?_ | refine wpAny_load (LX.at (by assumption) 12 rfl) ?_)) | (with_reducible refine iteFb (by with_reducible assumption) ?_) | (with_reducible refine iteTb (by with_reducible assumption) ?_) | (with_reducible refine iteTd (by kernel_rfl!) ?_) | (with_reducible refine iteFd (by kernel_rfl!) ?_) | (with_reducible refine wpAny_bind ?_) | ((with_reducible show wpAny _ _ (typeLookup (Value.ref _) _) _ _ _); unfold typeLookup) | ((fail_if_success (with_reducible show wpAny _ _ (alloc _) _ _ _)); (fail_if_success (with_reducible show wpAny _ _ (updatePart _ _ _) _ _ _)); (fail_if_success (with_reducible show wpAny _ _ (nsSet _ _ _) _ _ _)); (fail_if_success (with_reducible show wpAny _ _ (enterFrame) _ _ _)); (fail_if_success (with_reducible show wpAny _ _ (nsGet _ _) _ _ _)); (fail_if_success (with_reducible show wpAny _ _ (List.mapM mkText _) _ _ _)); (fail_if_success (with_reducible show wpAny _ _ (functionCode _ _ _ _ _ _ _ _) _ _ _)); (fail_if_success (with_reducible show wpAny _ _ (makeFunction _ _ _ _ _ _ _ _ _ _ _) _ _ _)); (fail_if_success (with_reducible show wpAny _ _ (getAttrBy _ _ _) _ _ _)); (fail_if_success (with_reducible show wpAny _ _ (run _) _ _ _)); (fail_if_success (with_reducible show wpAny _ _ (call _ _ _) _ _ _)); (fail_if_success (with_reducible show wpAny _ _ (Sem.tryCatch _ _) _ _ _)); (fail_if_success (with_reducible show wpAny _ _ (Sem.onRaise _ _) _ _ _)); wp_delta))
  refine xSet2 (fun _ hh tk => dO [eN hh0 tk0 "__module__" (.str (Str.ofString "cpy313.functools") t14), eN hh1 tk1 "__qualname__" (.str (Str.ofString "cmp_to_key.<locals>.K") t12), eN hh2 tk2 "__firstlineno__" (.int 53 t13), eN hh tk "__slots__" (.ref sl)] 4) D16 rfl (by kernel_rfl!) (by intro _ _; kernel_rfl!) (fun _ _ => rfl) fun hh3 tk3 hs3 ts3 Ds3 => ?_
  clear D16
  repeat (first | (with_reducible refine wpAny_of_eq (by with_reducible assumption) ?_) | (with_reducible refine bEq (by with_reducible assumption) ?_) | (with_reducible refine bPure ?_) | (with_reducible refine bAssoc ?_) | (with_reducible refine bRule ?_) | (with_reducible refine wpAny_pure ?_) | (with_reducible refine wpAny_holding ?_) | (with_reducible refine wpAny_standAt ?_) | (with_reducible refine wpAny_point ?_) | (with_reducible refine wpAny_rule ?_) | (with_reducible refine fresh5 ?_) | (with_reducible refine wpAny_attempt ?_) | ((with_reducible show wpAny _ _ (loadPart _ _) _ _ _); (with_reducible first | refine wpAny_loadPart (by assumption) ?_ | refine wpAny_loadPart (LX.old (by assumption) (by assumption) (by decide)) ?_ | refine wpAny_loadPart (LX.at (by assumption) 0 rfl) ?_ | refine wpAny_loadPart (LX.at (by assumption) 1 rfl) ?_ | refine wpAny_loadPart (LX.at (by assumption) 2 rfl) ?_ | refine wpAny_loadPart (LX.at (by assumption) 3 rfl) ?_ | refine wpAny_loadPart (LX.at (by assumption) 4 rfl) ?_ | refine wpAny_loadPart (LX.at (by assumption) 5 rfl) ?_ | refine wpAny_loadPart (LX.at (by assumption) 6 rfl) ?_ | refine wpAny_loadPart (LX.at (by assumption) 7 rfl) ?_ | refine wpAny_loadPart (LX.at (by assumption) 8 rfl) ?_ | refine wpAny_loadPart (LX.at (by assumption) 9 rfl) ?_ | refine wpAny_loadPart (LX.at (by assumption) 10 rfl) ?_ | refine wpAny_loadPart (LX.at (by assumption) 11 rfl) ?_ | refine wpAny_loadPart (LX.at (by assumption) 12 rfl) ?_)) | ((with_reducible show wpAny _ _ (load _) _ _ _); (with_reducible first | refine wpAny_load (by assumption) ?_ | refine wpAny_load (LX.old (by assumption) (by assumption) (by decide)) ?_ | refine wpAny_load (LX.at (by assumption) 0 rfl) ?_ | refine wpAny_load (LX.at (by assumption) 1 rfl) ?_ | refine wpAny_load (LX.at (by assumption) 2 rfl) ?_ | refine wpAny_load (LX.at (by assumption) 3 rfl) ?_ | refine wpAny_load (LX.at (by assumption) 4 rfl) ?_ | refine wpAny_load (LX.at (by assumption) 5 rfl) ?_ | refine wpAny_load (LX.at (by assumption) 6 rfl) ?_ | refine wpAny_load (LX.at (by assumption) 7 rfl) ?_ | refine wpAny_load (LX.at (by assumption) 8 rfl) ?_ | refine wpAny_load (LX.at (by assumption) 9 rfl) ?_ | refine wpAny_load (LX.at (by assumption) 10 rfl) ?_ | refine wpAny_load (LX.at (by assumption) 11 rfl) ?_ | refine wpAny_load (LX.at (by assumption) 12 rfl) ?_)) | (with_reducible refine iteFb (by with_reducible assumption) ?_) | (with_reducible refine iteTb (by with_reducible assumption) ?_) | (with_reducible refine iteTd (by kernel_rfl!) ?_) | (with_reducible refine iteFd (by kernel_rfl!) ?_) | (with_reducible refine wpAny_bind ?_) | ((with_reducible show wpAny _ _ (typeLookup (Value.ref _) _) _ _ _); unfold typeLookup) | ((fail_if_success (with_reducible show wpAny _ _ (alloc _) _ _ _)); (fail_if_success (with_reducible show wpAny _ _ (updatePart _ _ _) _ _ _)); (fail_if_success (with_reducible show wpAny _ _ (nsSet _ _ _) _ _ _)); (fail_if_success (with_reducible show wpAny _ _ (enterFrame) _ _ _)); (fail_if_success (with_reducible show wpAny _ _ (nsGet _ _) _ _ _)); (fail_if_success (with_reducible show wpAny _ _ (List.mapM mkText _) _ _ _)); (fail_if_success (with_reducible show wpAny _ _ (functionCode _ _ _ _ _ _ _ _) _ _ _)); (fail_if_success (with_reducible show wpAny _ _ (makeFunction _ _ _ _ _ _ _ _ _ _ _) _ _ _)); (fail_if_success (with_reducible show wpAny _ _ (getAttrBy _ _ _) _ _ _)); (fail_if_success (with_reducible show wpAny _ _ (run _) _ _ _)); (fail_if_success (with_reducible show wpAny _ _ (call _ _ _) _ _ _)); (fail_if_success (with_reducible show wpAny _ _ (Sem.tryCatch _ _) _ _ _)); (fail_if_success (with_reducible show wpAny _ _ (Sem.onRaise _ _) _ _ _)); wp_delta))
  -- __init__
  refine fFunN3 (fns := []) Ds3 rfl rfl rfl rfl rfl rfl (by kernel_rfl!) (fun _ => by kernel_rfl!) (by unfold Scope.freeNames; first | kernel_rfl! | (simp only [List.filter, List.map]; simp [List.mergeSort]; done) | (simp; done)) rfl rfl T.g (by decide) m1 m2 m3 m8 n1 (by kernel_rfl!) rfl (by kernel_rfl!) fun f1 kf0 tb0 k00 k10 k20 k180 w30 w40 w50 w60 w70 w80 w90 w100 w120 w130 w140 w150 w160 w170 hf0 tf0 Df0 => ?_
  clear Ds3
  repeat (first | (with_reducible refine wpAny_of_eq (by with_reducible assumption) ?_) | (with_reducible refine bEq (by with_reducible assumption) ?_) | (with_reducible refine bPure ?_) | (with_reducible refine bAssoc ?_) | (with_reducible refine bRule ?_) | (with_reducible refine wpAny_pure ?_) | (with_reducible refine wpAny_holding ?_) | (with_reducible refine wpAny_standAt ?_) | (with_reducible refine wpAny_point ?_) | (with_reducible refine wpAny_rule ?_) | (with_reducible refine fresh5 ?_) | (with_reducible refine wpAny_attempt ?_) | ((with_reducible show wpAny _ _ (loadPart _ _) _ _ _); (with_reducible first | refine wpAny_loadPart (by assumption) ?_ | refine wpAny_loadPart (LX.old (by assumption) (by assumption) (by decide)) ?_ | refine wpAny_loadPart (LX.at (by assumption) 0 rfl) ?_ | refine wpAny_loadPart (LX.at (by assumption) 1 rfl) ?_ | refine wpAny_loadPart (LX.at (by assumption) 2 rfl) ?_ | refine wpAny_loadPart (LX.at (by assumption) 3 rfl) ?_ | refine wpAny_loadPart (LX.at (by assumption) 4 rfl) ?_ | refine wpAny_loadPart (LX.at (by assumption) 5 rfl) ?_ | refine wpAny_loadPart (LX.at (by assumption) 6 rfl) ?_ | refine wpAny_loadPart (LX.at (by assumption) 7 rfl) ?_ | refine wpAny_loadPart (LX.at (by assumption) 8 rfl) ?_ | refine wpAny_loadPart (LX.at (by assumption) 9 rfl) ?_ | refine wpAny_loadPart (LX.at (by assumption) 10 rfl) ?_ | refine wpAny_loadPart (LX.at (by assumption) 11 rfl) ?_ | refine wpAny_loadPart (LX.at (by assumption) 12 rfl) ?_)) | ((with_reducible show wpAny _ _ (load _) _ _ _); (with_reducible first | refine wpAny_load (by assumption) ?_ | refine wpAny_load (LX.old (by assumption) (by assumption) (by decide)) ?_ | refine wpAny_load (LX.at (by assumption) 0 rfl) ?_ | refine wpAny_load (LX.at (by assumption) 1 rfl) ?_ | refine wpAny_load (LX.at (by assumption) 2 rfl) ?_ | refine wpAny_load (LX.at (by assumption) 3 rfl) ?_ | refine wpAny_load (LX.at (by assumption) 4 rfl) ?_ | refine wpAny_load (LX.at (by assumption) 5 rfl) ?_ | refine wpAny_load (LX.at (by assumption) 6 rfl) ?_ | refine wpAny_load (LX.at (by assumption) 7 rfl) ?_ | refine wpAny_load (LX.at (by assumption) 8 rfl) ?_ | refine wpAny_load (LX.at (by assumption) 9 rfl) ?_ | refine wpAny_load (LX.at (by assumption) 10 rfl) ?_ | refine wpAny_load (LX.at (by assumption) 11 rfl) ?_ | refine wpAny_load (LX.at (by assumption) 12 rfl) ?_)) | (with_reducible refine iteFb (by with_reducible assumption) ?_) | (with_reducible refine iteTb (by with_reducible assumption) ?_) | (with_reducible refine iteTd (by kernel_rfl!) ?_) | (with_reducible refine iteFd (by kernel_rfl!) ?_) | (with_reducible refine wpAny_bind ?_) | ((with_reducible show wpAny _ _ (typeLookup (Value.ref _) _) _ _ _); unfold typeLookup) | ((fail_if_success (with_reducible show wpAny _ _ (alloc _) _ _ _)); (fail_if_success (with_reducible show wpAny _ _ (updatePart _ _ _) _ _ _)); (fail_if_success (with_reducible show wpAny _ _ (nsSet _ _ _) _ _ _)); (fail_if_success (with_reducible show wpAny _ _ (enterFrame) _ _ _)); (fail_if_success (with_reducible show wpAny _ _ (nsGet _ _) _ _ _)); (fail_if_success (with_reducible show wpAny _ _ (List.mapM mkText _) _ _ _)); (fail_if_success (with_reducible show wpAny _ _ (functionCode _ _ _ _ _ _ _ _) _ _ _)); (fail_if_success (with_reducible show wpAny _ _ (makeFunction _ _ _ _ _ _ _ _ _ _ _) _ _ _)); (fail_if_success (with_reducible show wpAny _ _ (getAttrBy _ _ _) _ _ _)); (fail_if_success (with_reducible show wpAny _ _ (run _) _ _ _)); (fail_if_success (with_reducible show wpAny _ _ (call _ _ _) _ _ _)); (fail_if_success (with_reducible show wpAny _ _ (Sem.tryCatch _ _) _ _ _)); (fail_if_success (with_reducible show wpAny _ _ (Sem.onRaise _ _) _ _ _)); wp_delta))
  refine xSet2 (fun _ hh tk => dO [eN hh0 tk0 "__module__" (.str (Str.ofString "cpy313.functools") t14), eN hh1 tk1 "__qualname__" (.str (Str.ofString "cmp_to_key.<locals>.K") t12), eN hh2 tk2 "__firstlineno__" (.int 53 t13), eN hh3 tk3 "__slots__" (.ref sl), eN hh tk "__init__" (.ref f1)] 5) Df0 rfl (by kernel_rfl!) (by intro _ _; kernel_rfl!) (fun _ _ => rfl) fun hh4 tk4 hs4 ts4 Ds4 => ?_
  clear Df0
  repeat (first | (with_reducible refine wpAny_of_eq (by with_reducible assumption) ?_) | (with_reducible refine bEq (by with_reducible assumption) ?_) | (with_reducible refine bPure ?_) | (with_reducible refine bAssoc ?_) | (with_reducible refine bRule ?_) | (with_reducible refine wpAny_pure ?_) | (with_reducible refine wpAny_holding ?_) | (with_reducible refine wpAny_standAt ?_) | (with_reducible refine wpAny_point ?_) | (with_reducible refine wpAny_rule ?_) | (with_reducible refine fresh5 ?_) | (with_reducible refine wpAny_attempt ?_) | ((with_reducible show wpAny _ _ (loadPart _ _) _ _ _); (with_reducible first | refine wpAny_loadPart (by assumption) ?_ | refine wpAny_loadPart (LX.old (by assumption) (by assumption) (by decide)) ?_ | refine wpAny_loadPart (LX.at (by assumption) 0 rfl) ?_ | refine wpAny_loadPart (LX.at (by assumption) 1 rfl) ?_ | refine wpAny_loadPart (LX.at (by assumption) 2 rfl) ?_ | refine wpAny_loadPart (LX.at (by assumption) 3 rfl) ?_ | refine wpAny_loadPart (LX.at (by assumption) 4 rfl) ?_ | refine wpAny_loadPart (LX.at (by assumption) 5 rfl) ?_ | refine wpAny_loadPart (LX.at (by assumption) 6 rfl) ?_ | refine wpAny_loadPart (LX.at (by assumption) 7 rfl) ?_ | refine wpAny_loadPart (LX.at (by assumption) 8 rfl) ?_ | refine wpAny_loadPart (LX.at (by assumption) 9 rfl) ?_ | refine wpAny_loadPart (LX.at (by assumption) 10 rfl) ?_ | refine wpAny_loadPart (LX.at (by assumption) 11 rfl) ?_ | refine wpAny_loadPart (LX.at (by assumption) 12 rfl) ?_)) | ((with_reducible show wpAny _ _ (load _) _ _ _); (with_reducible first | refine wpAny_load (by assumption) ?_ | refine wpAny_load (LX.old (by assumption) (by assumption) (by decide)) ?_ | refine wpAny_load (LX.at (by assumption) 0 rfl) ?_ | refine wpAny_load (LX.at (by assumption) 1 rfl) ?_ | refine wpAny_load (LX.at (by assumption) 2 rfl) ?_ | refine wpAny_load (LX.at (by assumption) 3 rfl) ?_ | refine wpAny_load (LX.at (by assumption) 4 rfl) ?_ | refine wpAny_load (LX.at (by assumption) 5 rfl) ?_ | refine wpAny_load (LX.at (by assumption) 6 rfl) ?_ | refine wpAny_load (LX.at (by assumption) 7 rfl) ?_ | refine wpAny_load (LX.at (by assumption) 8 rfl) ?_ | refine wpAny_load (LX.at (by assumption) 9 rfl) ?_ | refine wpAny_load (LX.at (by assumption) 10 rfl) ?_ | refine wpAny_load (LX.at (by assumption) 11 rfl) ?_ | refine wpAny_load (LX.at (by assumption) 12 rfl) ?_)) | (with_reducible refine iteFb (by with_reducible assumption) ?_) | (with_reducible refine iteTb (by with_reducible assumption) ?_) | (with_reducible refine iteTd (by kernel_rfl!) ?_) | (with_reducible refine iteFd (by kernel_rfl!) ?_) | (with_reducible refine wpAny_bind ?_) | ((with_reducible show wpAny _ _ (typeLookup (Value.ref _) _) _ _ _); unfold typeLookup) | ((fail_if_success (with_reducible show wpAny _ _ (alloc _) _ _ _)); (fail_if_success (with_reducible show wpAny _ _ (updatePart _ _ _) _ _ _)); (fail_if_success (with_reducible show wpAny _ _ (nsSet _ _ _) _ _ _)); (fail_if_success (with_reducible show wpAny _ _ (enterFrame) _ _ _)); (fail_if_success (with_reducible show wpAny _ _ (nsGet _ _) _ _ _)); (fail_if_success (with_reducible show wpAny _ _ (List.mapM mkText _) _ _ _)); (fail_if_success (with_reducible show wpAny _ _ (functionCode _ _ _ _ _ _ _ _) _ _ _)); (fail_if_success (with_reducible show wpAny _ _ (makeFunction _ _ _ _ _ _ _ _ _ _ _) _ _ _)); (fail_if_success (with_reducible show wpAny _ _ (getAttrBy _ _ _) _ _ _)); (fail_if_success (with_reducible show wpAny _ _ (run _) _ _ _)); (fail_if_success (with_reducible show wpAny _ _ (call _ _ _) _ _ _)); (fail_if_success (with_reducible show wpAny _ _ (Sem.tryCatch _ _) _ _ _)); (fail_if_success (with_reducible show wpAny _ _ (Sem.onRaise _ _) _ _ _)); wp_delta))
  -- __lt__
  refine fFunC3 (cl := cl) (fns := [Str.ofString "mycmp"]) Ds4 rfl rfl rfl rfl rfl rfl (by kernel_rfl!) (fun _ => by kernel_rfl!) (by unfold Scope.freeNames; first | kernel_rfl! | (simp only [List.filter, List.map]; simp [List.mergeSort]; done) | (simp; done)) rfl rfl T.g (by decide) m1 m2 m3 m8 n1 (by kernel_rfl!) rfl (by kernel_rfl!) fun f2 ct1 kf1 tb1 k01 k11 k21 k181 w31 w41 w51 w61 w71 w81 w91 w101 w121 w131 w141 w151 w161 w171 hf1 tf1 Df1 => ?_
  clear Ds4
  repeat (first | (with_reducible refine wpAny_of_eq (by with_reducible assumption) ?_) | (with_reducible refine bEq (by with_reducible assumption) ?_) | (with_reducible refine bPure ?_) | (with_reducible refine bAssoc ?_) | (with_reducible refine bRule ?_) | (with_reducible refine wpAny_pure ?_) | (with_reducible refine wpAny_holding ?_) | (with_reducible refine wpAny_standAt ?_) | (with_reducible refine wpAny_point ?_) | (with_reducible refine wpAny_rule ?_) | (with_reducible refine fresh5 ?_) | (with_reducible refine wpAny_attempt ?_) | ((with_reducible show wpAny _ _ (loadPart _ _) _ _ _); (with_reducible first | refine wpAny_loadPart (by assumption) ?_ | refine wpAny_loadPart (LX.old (by assumption) (by assumption) (by decide)) ?_ | refine wpAny_loadPart (LX.at (by assumption) 0 rfl) ?_ | refine wpAny_loadPart (LX.at (by assumption) 1 rfl) ?_ | refine wpAny_loadPart (LX.at (by assumption) 2 rfl) ?_ | refine wpAny_loadPart (LX.at (by assumption) 3 rfl) ?_ | refine wpAny_loadPart (LX.at (by assumption) 4 rfl) ?_ | refine wpAny_loadPart (LX.at (by assumption) 5 rfl) ?_ | refine wpAny_loadPart (LX.at (by assumption) 6 rfl) ?_ | refine wpAny_loadPart (LX.at (by assumption) 7 rfl) ?_ | refine wpAny_loadPart (LX.at (by assumption) 8 rfl) ?_ | refine wpAny_loadPart (LX.at (by assumption) 9 rfl) ?_ | refine wpAny_loadPart (LX.at (by assumption) 10 rfl) ?_ | refine wpAny_loadPart (LX.at (by assumption) 11 rfl) ?_ | refine wpAny_loadPart (LX.at (by assumption) 12 rfl) ?_)) | ((with_reducible show wpAny _ _ (load _) _ _ _); (with_reducible first | refine wpAny_load (by assumption) ?_ | refine wpAny_load (LX.old (by assumption) (by assumption) (by decide)) ?_ | refine wpAny_load (LX.at (by assumption) 0 rfl) ?_ | refine wpAny_load (LX.at (by assumption) 1 rfl) ?_ | refine wpAny_load (LX.at (by assumption) 2 rfl) ?_ | refine wpAny_load (LX.at (by assumption) 3 rfl) ?_ | refine wpAny_load (LX.at (by assumption) 4 rfl) ?_ | refine wpAny_load (LX.at (by assumption) 5 rfl) ?_ | refine wpAny_load (LX.at (by assumption) 6 rfl) ?_ | refine wpAny_load (LX.at (by assumption) 7 rfl) ?_ | refine wpAny_load (LX.at (by assumption) 8 rfl) ?_ | refine wpAny_load (LX.at (by assumption) 9 rfl) ?_ | refine wpAny_load (LX.at (by assumption) 10 rfl) ?_ | refine wpAny_load (LX.at (by assumption) 11 rfl) ?_ | refine wpAny_load (LX.at (by assumption) 12 rfl) ?_)) | (with_reducible refine iteFb (by with_reducible assumption) ?_) | (with_reducible refine iteTb (by with_reducible assumption) ?_) | (with_reducible refine iteTd (by kernel_rfl!) ?_) | (with_reducible refine iteFd (by kernel_rfl!) ?_) | (with_reducible refine wpAny_bind ?_) | ((with_reducible show wpAny _ _ (typeLookup (Value.ref _) _) _ _ _); unfold typeLookup) | ((fail_if_success (with_reducible show wpAny _ _ (alloc _) _ _ _)); (fail_if_success (with_reducible show wpAny _ _ (updatePart _ _ _) _ _ _)); (fail_if_success (with_reducible show wpAny _ _ (nsSet _ _ _) _ _ _)); (fail_if_success (with_reducible show wpAny _ _ (enterFrame) _ _ _)); (fail_if_success (with_reducible show wpAny _ _ (nsGet _ _) _ _ _)); (fail_if_success (with_reducible show wpAny _ _ (List.mapM mkText _) _ _ _)); (fail_if_success (with_reducible show wpAny _ _ (functionCode _ _ _ _ _ _ _ _) _ _ _)); (fail_if_success (with_reducible show wpAny _ _ (makeFunction _ _ _ _ _ _ _ _ _ _ _) _ _ _)); (fail_if_success (with_reducible show wpAny _ _ (getAttrBy _ _ _) _ _ _)); (fail_if_success (with_reducible show wpAny _ _ (run _) _ _ _)); (fail_if_success (with_reducible show wpAny _ _ (call _ _ _) _ _ _)); (fail_if_success (with_reducible show wpAny _ _ (Sem.tryCatch _ _) _ _ _)); (fail_if_success (with_reducible show wpAny _ _ (Sem.onRaise _ _) _ _ _)); wp_delta))
  refine xSet2 (fun _ hh tk => dO [eN hh0 tk0 "__module__" (.str (Str.ofString "cpy313.functools") t14), eN hh1 tk1 "__qualname__" (.str (Str.ofString "cmp_to_key.<locals>.K") t12), eN hh2 tk2 "__firstlineno__" (.int 53 t13), eN hh3 tk3 "__slots__" (.ref sl), eN hh4 tk4 "__init__" (.ref f1), eN hh tk "__lt__" (.ref f2)] 6) Df1 rfl (by kernel_rfl!) (by intro _ _; kernel_rfl!) (fun _ _ => rfl) fun hh5 tk5 hs5 ts5 Ds5 => ?_
  clear Df1
  repeat (first | (with_reducible refine wpAny_of_eq (by with_reducible assumption) ?_) | (with_reducible refine bEq (by with_reducible assumption) ?_) | (with_reducible refine bPure ?_) | (with_reducible refine bAssoc ?_) | (with_reducible refine bRule ?_) | (with_reducible refine wpAny_pure ?_) | (with_reducible refine wpAny_holding ?_) | (with_reducible refine wpAny_standAt ?_) | (with_reducible refine wpAny_point ?_) | (with_reducible refine wpAny_rule ?_) | (with_reducible refine fresh5 ?_) | (with_reducible refine wpAny_attempt ?_) | ((with_reducible show wpAny _ _ (loadPart _ _) _ _ _); (with_reducible first | refine wpAny_loadPart (by assumption) ?_ | refine wpAny_loadPart (LX.old (by assumption) (by assumption) (by decide)) ?_ | refine wpAny_loadPart (LX.at (by assumption) 0 rfl) ?_ | refine wpAny_loadPart (LX.at (by assumption) 1 rfl) ?_ | refine wpAny_loadPart (LX.at (by assumption) 2 rfl) ?_ | refine wpAny_loadPart (LX.at (by assumption) 3 rfl) ?_ | refine wpAny_loadPart (LX.at (by assumption) 4 rfl) ?_ | refine wpAny_loadPart (LX.at (by assumption) 5 rfl) ?_ | refine wpAny_loadPart (LX.at (by assumption) 6 rfl) ?_ | refine wpAny_loadPart (LX.at (by assumption) 7 rfl) ?_ | refine wpAny_loadPart (LX.at (by assumption) 8 rfl) ?_ | refine wpAny_loadPart (LX.at (by assumption) 9 rfl) ?_ | refine wpAny_loadPart (LX.at (by assumption) 10 rfl) ?_ | refine wpAny_loadPart (LX.at (by assumption) 11 rfl) ?_ | refine wpAny_loadPart (LX.at (by assumption) 12 rfl) ?_)) | ((with_reducible show wpAny _ _ (load _) _ _ _); (with_reducible first | refine wpAny_load (by assumption) ?_ | refine wpAny_load (LX.old (by assumption) (by assumption) (by decide)) ?_ | refine wpAny_load (LX.at (by assumption) 0 rfl) ?_ | refine wpAny_load (LX.at (by assumption) 1 rfl) ?_ | refine wpAny_load (LX.at (by assumption) 2 rfl) ?_ | refine wpAny_load (LX.at (by assumption) 3 rfl) ?_ | refine wpAny_load (LX.at (by assumption) 4 rfl) ?_ | refine wpAny_load (LX.at (by assumption) 5 rfl) ?_ | refine wpAny_load (LX.at (by assumption) 6 rfl) ?_ | refine wpAny_load (LX.at (by assumption) 7 rfl) ?_ | refine wpAny_load (LX.at (by assumption) 8 rfl) ?_ | refine wpAny_load (LX.at (by assumption) 9 rfl) ?_ | refine wpAny_load (LX.at (by assumption) 10 rfl) ?_ | refine wpAny_load (LX.at (by assumption) 11 rfl) ?_ | refine wpAny_load (LX.at (by assumption) 12 rfl) ?_)) | (with_reducible refine iteFb (by with_reducible assumption) ?_) | (with_reducible refine iteTb (by with_reducible assumption) ?_) | (with_reducible refine iteTd (by kernel_rfl!) ?_) | (with_reducible refine iteFd (by kernel_rfl!) ?_) | (with_reducible refine wpAny_bind ?_) | ((with_reducible show wpAny _ _ (typeLookup (Value.ref _) _) _ _ _); unfold typeLookup) | ((fail_if_success (with_reducible show wpAny _ _ (alloc _) _ _ _)); (fail_if_success (with_reducible show wpAny _ _ (updatePart _ _ _) _ _ _)); (fail_if_success (with_reducible show wpAny _ _ (nsSet _ _ _) _ _ _)); (fail_if_success (with_reducible show wpAny _ _ (enterFrame) _ _ _)); (fail_if_success (with_reducible show wpAny _ _ (nsGet _ _) _ _ _)); (fail_if_success (with_reducible show wpAny _ _ (List.mapM mkText _) _ _ _)); (fail_if_success (with_reducible show wpAny _ _ (functionCode _ _ _ _ _ _ _ _) _ _ _)); (fail_if_success (with_reducible show wpAny _ _ (makeFunction _ _ _ _ _ _ _ _ _ _ _) _ _ _)); (fail_if_success (with_reducible show wpAny _ _ (getAttrBy _ _ _) _ _ _)); (fail_if_success (with_reducible show wpAny _ _ (run _) _ _ _)); (fail_if_success (with_reducible show wpAny _ _ (call _ _ _) _ _ _)); (fail_if_success (with_reducible show wpAny _ _ (Sem.tryCatch _ _) _ _ _)); (fail_if_success (with_reducible show wpAny _ _ (Sem.onRaise _ _) _ _ _)); wp_delta))
  -- __gt__
  refine fFunC3 (cl := cl) (fns := [Str.ofString "mycmp"]) Ds5 rfl rfl rfl rfl rfl rfl (by kernel_rfl!) (fun _ => by kernel_rfl!) (by unfold Scope.freeNames; first | kernel_rfl! | (simp only [List.filter, List.map]; simp [List.mergeSort]; done) | (simp; done)) rfl rfl T.g (by decide) m1 m2 m3 m8 n1 (by kernel_rfl!) rfl (by kernel_rfl!) fun f3 ct2 kf2 tb2 k02 k12 k22 k182 w32 w42 w52 w62 w72 w82 w92 w102 w122 w132 w142 w152 w162 w172 hf2 tf2 Df2 => ?_
  clear Ds5
  repeat (first | (with_reducible refine wpAny_of_eq (by with_reducible assumption) ?_) | (with_reducible refine bEq (by with_reducible assumption) ?_) | (with_reducible refine bPure ?_) | (with_reducible refine bAssoc ?_) | (with_reducible refine bRule ?_) | (with_reducible refine wpAny_pure ?_) | (with_reducible refine wpAny_holding ?_) | (with_reducible refine wpAny_standAt ?_) | (with_reducible refine wpAny_point ?_) | (with_reducible refine wpAny_rule ?_) | (with_reducible refine fresh5 ?_) | (with_reducible refine wpAny_attempt ?_) | ((with_reducible show wpAny _ _ (loadPart _ _) _ _ _); (with_reducible first | refine wpAny_loadPart (by assumption) ?_ | refine wpAny_loadPart (LX.old (by assumption) (by assumption) (by decide)) ?_ | refine wpAny_loadPart (LX.at (by assumption) 0 rfl) ?_ | refine wpAny_loadPart (LX.at (by assumption) 1 rfl) ?_ | refine wpAny_loadPart (LX.at (by assumption) 2 rfl) ?_ | refine wpAny_loadPart (LX.at (by assumption) 3 rfl) ?_ | refine wpAny_loadPart (LX.at (by assumption) 4 rfl) ?_ | refine wpAny_loadPart (LX.at (by assumption) 5 rfl) ?_ | refine wpAny_loadPart (LX.at (by assumption) 6 rfl) ?_ | refine wpAny_loadPart (LX.at (by assumption) 7 rfl) ?_ | refine wpAny_loadPart (LX.at (by assumption) 8 rfl) ?_ | refine wpAny_loadPart (LX.at (by assumption) 9 rfl) ?_ | refine wpAny_loadPart (LX.at (by assumption) 10 rfl) ?_ | refine wpAny_loadPart (LX.at (by assumption) 11 rfl) ?_ | refine wpAny_loadPart (LX.at (by assumption) 12 rfl) ?_)) | ((with_reducible show wpAny _ _ (load _) _ _ _); (with_reducible first | refine wpAny_load (by assumption) ?_ | refine wpAny_load (LX.old (by assumption) (by assumption) (by decide)) ?_ | refine wpAny_load (LX.at (by assumption) 0 rfl) ?_ | refine wpAny_load (LX.at (by assumption) 1 rfl) ?_ | refine wpAny_load (LX.at (by assumption) 2 rfl) ?_ | refine wpAny_load (LX.at (by assumption) 3 rfl) ?_ | refine wpAny_load (LX.at (by assumption) 4 rfl) ?_ | refine wpAny_load (LX.at (by assumption) 5 rfl) ?_ | refine wpAny_load (LX.at (by assumption) 6 rfl) ?_ | refine wpAny_load (LX.at (by assumption) 7 rfl) ?_ | refine wpAny_load (LX.at (by assumption) 8 rfl) ?_ | refine wpAny_load (LX.at (by assumption) 9 rfl) ?_ | refine wpAny_load (LX.at (by assumption) 10 rfl) ?_ | refine wpAny_load (LX.at (by assumption) 11 rfl) ?_ | refine wpAny_load (LX.at (by assumption) 12 rfl) ?_)) | (with_reducible refine iteFb (by with_reducible assumption) ?_) | (with_reducible refine iteTb (by with_reducible assumption) ?_) | (with_reducible refine iteTd (by kernel_rfl!) ?_) | (with_reducible refine iteFd (by kernel_rfl!) ?_) | (with_reducible refine wpAny_bind ?_) | ((with_reducible show wpAny _ _ (typeLookup (Value.ref _) _) _ _ _); unfold typeLookup) | ((fail_if_success (with_reducible show wpAny _ _ (alloc _) _ _ _)); (fail_if_success (with_reducible show wpAny _ _ (updatePart _ _ _) _ _ _)); (fail_if_success (with_reducible show wpAny _ _ (nsSet _ _ _) _ _ _)); (fail_if_success (with_reducible show wpAny _ _ (enterFrame) _ _ _)); (fail_if_success (with_reducible show wpAny _ _ (nsGet _ _) _ _ _)); (fail_if_success (with_reducible show wpAny _ _ (List.mapM mkText _) _ _ _)); (fail_if_success (with_reducible show wpAny _ _ (functionCode _ _ _ _ _ _ _ _) _ _ _)); (fail_if_success (with_reducible show wpAny _ _ (makeFunction _ _ _ _ _ _ _ _ _ _ _) _ _ _)); (fail_if_success (with_reducible show wpAny _ _ (getAttrBy _ _ _) _ _ _)); (fail_if_success (with_reducible show wpAny _ _ (run _) _ _ _)); (fail_if_success (with_reducible show wpAny _ _ (call _ _ _) _ _ _)); (fail_if_success (with_reducible show wpAny _ _ (Sem.tryCatch _ _) _ _ _)); (fail_if_success (with_reducible show wpAny _ _ (Sem.onRaise _ _) _ _ _)); wp_delta))
  refine xSet2 (fun _ hh tk => dO [eN hh0 tk0 "__module__" (.str (Str.ofString "cpy313.functools") t14), eN hh1 tk1 "__qualname__" (.str (Str.ofString "cmp_to_key.<locals>.K") t12), eN hh2 tk2 "__firstlineno__" (.int 53 t13), eN hh3 tk3 "__slots__" (.ref sl), eN hh4 tk4 "__init__" (.ref f1), eN hh5 tk5 "__lt__" (.ref f2), eN hh tk "__gt__" (.ref f3)] 7) Df2 rfl (by kernel_rfl!) (by intro _ _; kernel_rfl!) (fun _ _ => rfl) fun hh6 tk6 hs6 ts6 Ds6 => ?_
  clear Df2
  repeat (first | (with_reducible refine wpAny_of_eq (by with_reducible assumption) ?_) | (with_reducible refine bEq (by with_reducible assumption) ?_) | (with_reducible refine bPure ?_) | (with_reducible refine bAssoc ?_) | (with_reducible refine bRule ?_) | (with_reducible refine wpAny_pure ?_) | (with_reducible refine wpAny_holding ?_) | (with_reducible refine wpAny_standAt ?_) | (with_reducible refine wpAny_point ?_) | (with_reducible refine wpAny_rule ?_) | (with_reducible refine fresh5 ?_) | (with_reducible refine wpAny_attempt ?_) | ((with_reducible show wpAny _ _ (loadPart _ _) _ _ _); (with_reducible first | refine wpAny_loadPart (by assumption) ?_ | refine wpAny_loadPart (LX.old (by assumption) (by assumption) (by decide)) ?_ | refine wpAny_loadPart (LX.at (by assumption) 0 rfl) ?_ | refine wpAny_loadPart (LX.at (by assumption) 1 rfl) ?_ | refine wpAny_loadPart (LX.at (by assumption) 2 rfl) ?_ | refine wpAny_loadPart (LX.at (by assumption) 3 rfl) ?_ | refine wpAny_loadPart (LX.at (by assumption) 4 rfl) ?_ | refine wpAny_loadPart (LX.at (by assumption) 5 rfl) ?_ | refine wpAny_loadPart (LX.at (by assumption) 6 rfl) ?_ | refine wpAny_loadPart (LX.at (by assumption) 7 rfl) ?_ | refine wpAny_loadPart (LX.at (by assumption) 8 rfl) ?_ | refine wpAny_loadPart (LX.at (by assumption) 9 rfl) ?_ | refine wpAny_loadPart (LX.at (by assumption) 10 rfl) ?_ | refine wpAny_loadPart (LX.at (by assumption) 11 rfl) ?_ | refine wpAny_loadPart (LX.at (by assumption) 12 rfl) ?_)) | ((with_reducible show wpAny _ _ (load _) _ _ _); (with_reducible first | refine wpAny_load (by assumption) ?_ | refine wpAny_load (LX.old (by assumption) (by assumption) (by decide)) ?_ | refine wpAny_load (LX.at (by assumption) 0 rfl) ?_ | refine wpAny_load (LX.at (by assumption) 1 rfl) ?_ | refine wpAny_load (LX.at (by assumption) 2 rfl) ?_ | refine wpAny_load (LX.at (by assumption) 3 rfl) ?_ | refine wpAny_load (LX.at (by assumption) 4 rfl) ?_ | refine wpAny_load (LX.at (by assumption) 5 rfl) ?_ | refine wpAny_load (LX.at (by assumption) 6 rfl) ?_ | refine wpAny_load (LX.at (by assumption) 7 rfl) ?_ | refine wpAny_load (LX.at (by assumption) 8 rfl) ?_ | refine wpAny_load (LX.at (by assumption) 9 rfl) ?_ | refine wpAny_load (LX.at (by assumption) 10 rfl) ?_ | refine wpAny_load (LX.at (by assumption) 11 rfl) ?_ | refine wpAny_load (LX.at (by assumption) 12 rfl) ?_)) | (with_reducible refine iteFb (by with_reducible assumption) ?_) | (with_reducible refine iteTb (by with_reducible assumption) ?_) | (with_reducible refine iteTd (by kernel_rfl!) ?_) | (with_reducible refine iteFd (by kernel_rfl!) ?_) | (with_reducible refine wpAny_bind ?_) | ((with_reducible show wpAny _ _ (typeLookup (Value.ref _) _) _ _ _); unfold typeLookup) | ((fail_if_success (with_reducible show wpAny _ _ (alloc _) _ _ _)); (fail_if_success (with_reducible show wpAny _ _ (updatePart _ _ _) _ _ _)); (fail_if_success (with_reducible show wpAny _ _ (nsSet _ _ _) _ _ _)); (fail_if_success (with_reducible show wpAny _ _ (enterFrame) _ _ _)); (fail_if_success (with_reducible show wpAny _ _ (nsGet _ _) _ _ _)); (fail_if_success (with_reducible show wpAny _ _ (List.mapM mkText _) _ _ _)); (fail_if_success (with_reducible show wpAny _ _ (functionCode _ _ _ _ _ _ _ _) _ _ _)); (fail_if_success (with_reducible show wpAny _ _ (makeFunction _ _ _ _ _ _ _ _ _ _ _) _ _ _)); (fail_if_success (with_reducible show wpAny _ _ (getAttrBy _ _ _) _ _ _)); (fail_if_success (with_reducible show wpAny _ _ (run _) _ _ _)); (fail_if_success (with_reducible show wpAny _ _ (call _ _ _) _ _ _)); (fail_if_success (with_reducible show wpAny _ _ (Sem.tryCatch _ _) _ _ _)); (fail_if_success (with_reducible show wpAny _ _ (Sem.onRaise _ _) _ _ _)); wp_delta))
  -- __eq__
  refine fFunC3 (cl := cl) (fns := [Str.ofString "mycmp"]) Ds6 rfl rfl rfl rfl rfl rfl (by kernel_rfl!) (fun _ => by kernel_rfl!) (by unfold Scope.freeNames; first | kernel_rfl! | (simp only [List.filter, List.map]; simp [List.mergeSort]; done) | (simp; done)) rfl rfl T.g (by decide) m1 m2 m3 m8 n1 (by kernel_rfl!) rfl (by kernel_rfl!) fun f4 ct3 kf3 tb3 k03 k13 k23 k183 w33 w43 w53 w63 w73 w83 w93 w103 w123 w133 w143 w153 w163 w173 hf3 tf3 Df3 => ?_
  clear Ds6
  repeat (first | (with_reducible refine wpAny_of_eq (by with_reducible assumption) ?_) | (with_reducible refine bEq (by with_reducible assumption) ?_) | (with_reducible refine bPure ?_) | (with_reducible refine bAssoc ?_) | (with_reducible refine bRule ?_) | (with_reducible refine wpAny_pure ?_) | (with_reducible refine wpAny_holding ?_) | (with_reducible refine wpAny_standAt ?_) | (with_reducible refine wpAny_point ?_) | (with_reducible refine wpAny_rule ?_) | (with_reducible refine fresh5 ?_) | (with_reducible refine wpAny_attempt ?_) | ((with_reducible show wpAny _ _ (loadPart _ _) _ _ _); (with_reducible first | refine wpAny_loadPart (by assumption) ?_ | refine wpAny_loadPart (LX.old (by assumption) (by assumption) (by decide)) ?_ | refine wpAny_loadPart (LX.at (by assumption) 0 rfl) ?_ | refine wpAny_loadPart (LX.at (by assumption) 1 rfl) ?_ | refine wpAny_loadPart (LX.at (by assumption) 2 rfl) ?_ | refine wpAny_loadPart (LX.at (by assumption) 3 rfl) ?_ | refine wpAny_loadPart (LX.at (by assumption) 4 rfl) ?_ | refine wpAny_loadPart (LX.at (by assumption) 5 rfl) ?_ | refine wpAny_loadPart (LX.at (by assumption) 6 rfl) ?_ | refine wpAny_loadPart (LX.at (by assumption) 7 rfl) ?_ | refine wpAny_loadPart (LX.at (by assumption) 8 rfl) ?_ | refine wpAny_loadPart (LX.at (by assumption) 9 rfl) ?_ | refine wpAny_loadPart (LX.at (by assumption) 10 rfl) ?_ | refine wpAny_loadPart (LX.at (by assumption) 11 rfl) ?_ | refine wpAny_loadPart (LX.at (by assumption) 12 rfl) ?_)) | ((with_reducible show wpAny _ _ (load _) _ _ _); (with_reducible first | refine wpAny_load (by assumption) ?_ | refine wpAny_load (LX.old (by assumption) (by assumption) (by decide)) ?_ | refine wpAny_load (LX.at (by assumption) 0 rfl) ?_ | refine wpAny_load (LX.at (by assumption) 1 rfl) ?_ | refine wpAny_load (LX.at (by assumption) 2 rfl) ?_ | refine wpAny_load (LX.at (by assumption) 3 rfl) ?_ | refine wpAny_load (LX.at (by assumption) 4 rfl) ?_ | refine wpAny_load (LX.at (by assumption) 5 rfl) ?_ | refine wpAny_load (LX.at (by assumption) 6 rfl) ?_ | refine wpAny_load (LX.at (by assumption) 7 rfl) ?_ | refine wpAny_load (LX.at (by assumption) 8 rfl) ?_ | refine wpAny_load (LX.at (by assumption) 9 rfl) ?_ | refine wpAny_load (LX.at (by assumption) 10 rfl) ?_ | refine wpAny_load (LX.at (by assumption) 11 rfl) ?_ | refine wpAny_load (LX.at (by assumption) 12 rfl) ?_)) | (with_reducible refine iteFb (by with_reducible assumption) ?_) | (with_reducible refine iteTb (by with_reducible assumption) ?_) | (with_reducible refine iteTd (by kernel_rfl!) ?_) | (with_reducible refine iteFd (by kernel_rfl!) ?_) | (with_reducible refine wpAny_bind ?_) | ((with_reducible show wpAny _ _ (typeLookup (Value.ref _) _) _ _ _); unfold typeLookup) | ((fail_if_success (with_reducible show wpAny _ _ (alloc _) _ _ _)); (fail_if_success (with_reducible show wpAny _ _ (updatePart _ _ _) _ _ _)); (fail_if_success (with_reducible show wpAny _ _ (nsSet _ _ _) _ _ _)); (fail_if_success (with_reducible show wpAny _ _ (enterFrame) _ _ _)); (fail_if_success (with_reducible show wpAny _ _ (nsGet _ _) _ _ _)); (fail_if_success (with_reducible show wpAny _ _ (List.mapM mkText _) _ _ _)); (fail_if_success (with_reducible show wpAny _ _ (functionCode _ _ _ _ _ _ _ _) _ _ _)); (fail_if_success (with_reducible show wpAny _ _ (makeFunction _ _ _ _ _ _ _ _ _ _ _) _ _ _)); (fail_if_success (with_reducible show wpAny _ _ (getAttrBy _ _ _) _ _ _)); (fail_if_success (with_reducible show wpAny _ _ (run _) _ _ _)); (fail_if_success (with_reducible show wpAny _ _ (call _ _ _) _ _ _)); (fail_if_success (with_reducible show wpAny _ _ (Sem.tryCatch _ _) _ _ _)); (fail_if_success (with_reducible show wpAny _ _ (Sem.onRaise _ _) _ _ _)); wp_delta))
  refine xSet2 (fun _ hh tk => dO [eN hh0 tk0 "__module__" (.str (Str.ofString "cpy313.functools") t14), eN hh1 tk1 "__qualname__" (.str (Str.ofString "cmp_to_key.<locals>.K") t12), eN hh2 tk2 "__firstlineno__" (.int 53 t13), eN hh3 tk3 "__slots__" (.ref sl), eN hh4 tk4 "__init__" (.ref f1), eN hh5 tk5 "__lt__" (.ref f2), eN hh6 tk6 "__gt__" (.ref f3), eN hh tk "__eq__" (.ref f4)] 8) Df3 rfl (by kernel_rfl!) (by intro _ _; kernel_rfl!) (fun _ _ => rfl) fun hh7 tk7 hs7 ts7 Ds7 => ?_
  clear Df3
  repeat (first | (with_reducible refine wpAny_of_eq (by with_reducible assumption) ?_) | (with_reducible refine bEq (by with_reducible assumption) ?_) | (with_reducible refine bPure ?_) | (with_reducible refine bAssoc ?_) | (with_reducible refine bRule ?_) | (with_reducible refine wpAny_pure ?_) | (with_reducible refine wpAny_holding ?_) | (with_reducible refine wpAny_standAt ?_) | (with_reducible refine wpAny_point ?_) | (with_reducible refine wpAny_rule ?_) | (with_reducible refine fresh5 ?_) | (with_reducible refine wpAny_attempt ?_) | ((with_reducible show wpAny _ _ (loadPart _ _) _ _ _); (with_reducible first | refine wpAny_loadPart (by assumption) ?_ | refine wpAny_loadPart (LX.old (by assumption) (by assumption) (by decide)) ?_ | refine wpAny_loadPart (LX.at (by assumption) 0 rfl) ?_ | refine wpAny_loadPart (LX.at (by assumption) 1 rfl) ?_ | refine wpAny_loadPart (LX.at (by assumption) 2 rfl) ?_ | refine wpAny_loadPart (LX.at (by assumption) 3 rfl) ?_ | refine wpAny_loadPart (LX.at (by assumption) 4 rfl) ?_ | refine wpAny_loadPart (LX.at (by assumption) 5 rfl) ?_ | refine wpAny_loadPart (LX.at (by assumption) 6 rfl) ?_ | refine wpAny_loadPart (LX.at (by assumption) 7 rfl) ?_ | refine wpAny_loadPart (LX.at (by assumption) 8 rfl) ?_ | refine wpAny_loadPart (LX.at (by assumption) 9 rfl) ?_ | refine wpAny_loadPart (LX.at (by assumption) 10 rfl) ?_ | refine wpAny_loadPart (LX.at (by assumption) 11 rfl) ?_ | refine wpAny_loadPart (LX.at (by assumption) 12 rfl) ?_)) | ((with_reducible show wpAny _ _ (load _) _ _ _); (with_reducible first | refine wpAny_load (by assumption) ?_ | refine wpAny_load (LX.old (by assumption) (by assumption) (by decide)) ?_ | refine wpAny_load (LX.at (by assumption) 0 rfl) ?_ | refine wpAny_load (LX.at (by assumption) 1 rfl) ?_ | refine wpAny_load (LX.at (by assumption) 2 rfl) ?_ | refine wpAny_load (LX.at (by assumption) 3 rfl) ?_ | refine wpAny_load (LX.at (by assumption) 4 rfl) ?_ | refine wpAny_load (LX.at (by assumption) 5 rfl) ?_ | refine wpAny_load (LX.at (by assumption) 6 rfl) ?_ | refine wpAny_load (LX.at (by assumption) 7 rfl) ?_ | refine wpAny_load (LX.at (by assumption) 8 rfl) ?_ | refine wpAny_load (LX.at (by assumption) 9 rfl) ?_ | refine wpAny_load (LX.at (by assumption) 10 rfl) ?_ | refine wpAny_load (LX.at (by assumption) 11 rfl) ?_ | refine wpAny_load (LX.at (by assumption) 12 rfl) ?_)) | (with_reducible refine iteFb (by with_reducible assumption) ?_) | (with_reducible refine iteTb (by with_reducible assumption) ?_) | (with_reducible refine iteTd (by kernel_rfl!) ?_) | (with_reducible refine iteFd (by kernel_rfl!) ?_) | (with_reducible refine wpAny_bind ?_) | ((with_reducible show wpAny _ _ (typeLookup (Value.ref _) _) _ _ _); unfold typeLookup) | ((fail_if_success (with_reducible show wpAny _ _ (alloc _) _ _ _)); (fail_if_success (with_reducible show wpAny _ _ (updatePart _ _ _) _ _ _)); (fail_if_success (with_reducible show wpAny _ _ (nsSet _ _ _) _ _ _)); (fail_if_success (with_reducible show wpAny _ _ (enterFrame) _ _ _)); (fail_if_success (with_reducible show wpAny _ _ (nsGet _ _) _ _ _)); (fail_if_success (with_reducible show wpAny _ _ (List.mapM mkText _) _ _ _)); (fail_if_success (with_reducible show wpAny _ _ (functionCode _ _ _ _ _ _ _ _) _ _ _)); (fail_if_success (with_reducible show wpAny _ _ (makeFunction _ _ _ _ _ _ _ _ _ _ _) _ _ _)); (fail_if_success (with_reducible show wpAny _ _ (getAttrBy _ _ _) _ _ _)); (fail_if_success (with_reducible show wpAny _ _ (run _) _ _ _)); (fail_if_success (with_reducible show wpAny _ _ (call _ _ _) _ _ _)); (fail_if_success (with_reducible show wpAny _ _ (Sem.tryCatch _ _) _ _ _)); (fail_if_success (with_reducible show wpAny _ _ (Sem.onRaise _ _) _ _ _)); wp_delta))
  -- __le__
  refine fFunC3 (cl := cl) (fns := [Str.ofString "mycmp"]) Ds7 rfl rfl rfl rfl rfl rfl (by kernel_rfl!) (fun _ => by kernel_rfl!) (by unfold Scope.freeNames; first | kernel_rfl! | (simp only [List.filter, List.map]; simp [List.mergeSort]; done) | (simp; done)) rfl rfl T.g (by decide) m1 m2 m3 m8 n1 (by kernel_rfl!) rfl (by kernel_rfl!) fun f5 ct4 kf4 tb4 k04 k14 k24 k184 w34 w44 w54 w64 w74 w84 w94 w104 w124 w134 w144 w154 w164 w174 hf4 tf4 Df4 => ?_
  clear Ds7
  repeat (first | (with_reducible refine wpAny_of_eq (by with_reducible assumption) ?_) | (with_reducible refine bEq (by with_reducible assumption) ?_) | (with_reducible refine bPure ?_) | (with_reducible refine bAssoc ?_) | (with_reducible refine bRule ?_) | (with_reducible refine wpAny_pure ?_) | (with_reducible refine wpAny_holding ?_) | (with_reducible refine wpAny_standAt ?_) | (with_reducible refine wpAny_point ?_) | (with_reducible refine wpAny_rule ?_) | (with_reducible refine fresh5 ?_) | (with_reducible refine wpAny_attempt ?_) | ((with_reducible show wpAny _ _ (loadPart _ _) _ _ _); (with_reducible first | refine wpAny_loadPart (by assumption) ?_ | refine wpAny_loadPart (LX.old (by assumption) (by assumption) (by decide)) ?_ | refine wpAny_loadPart (LX.at (by assumption) 0 rfl) ?_ | refine wpAny_loadPart (LX.at (by assumption) 1 rfl) ?_ | refine wpAny_loadPart (LX.at (by assumption) 2 rfl) ?_ | refine wpAny_loadPart (LX.at (by assumption) 3 rfl) ?_ | refine wpAny_loadPart (LX.at (by assumption) 4 rfl) ?_ | refine wpAny_loadPart (LX.at (by assumption) 5 rfl) ?_ | refine wpAny_loadPart (LX.at (by assumption) 6 rfl) ?_ | refine wpAny_loadPart (LX.at (by assumption) 7 rfl) ?_ | refine wpAny_loadPart (LX.at (by assumption) 8 rfl) ?_ | refine wpAny_loadPart (LX.at (by assumption) 9 rfl) ?_ | refine wpAny_loadPart (LX.at (by assumption) 10 rfl) ?_ | refine wpAny_loadPart (LX.at (by assumption) 11 rfl) ?_ | refine wpAny_loadPart (LX.at (by assumption) 12 rfl) ?_)) | ((with_reducible show wpAny _ _ (load _) _ _ _); (with_reducible first | refine wpAny_load (by assumption) ?_ | refine wpAny_load (LX.old (by assumption) (by assumption) (by decide)) ?_ | refine wpAny_load (LX.at (by assumption) 0 rfl) ?_ | refine wpAny_load (LX.at (by assumption) 1 rfl) ?_ | refine wpAny_load (LX.at (by assumption) 2 rfl) ?_ | refine wpAny_load (LX.at (by assumption) 3 rfl) ?_ | refine wpAny_load (LX.at (by assumption) 4 rfl) ?_ | refine wpAny_load (LX.at (by assumption) 5 rfl) ?_ | refine wpAny_load (LX.at (by assumption) 6 rfl) ?_ | refine wpAny_load (LX.at (by assumption) 7 rfl) ?_ | refine wpAny_load (LX.at (by assumption) 8 rfl) ?_ | refine wpAny_load (LX.at (by assumption) 9 rfl) ?_ | refine wpAny_load (LX.at (by assumption) 10 rfl) ?_ | refine wpAny_load (LX.at (by assumption) 11 rfl) ?_ | refine wpAny_load (LX.at (by assumption) 12 rfl) ?_)) | (with_reducible refine iteFb (by with_reducible assumption) ?_) | (with_reducible refine iteTb (by with_reducible assumption) ?_) | (with_reducible refine iteTd (by kernel_rfl!) ?_) | (with_reducible refine iteFd (by kernel_rfl!) ?_) | (with_reducible refine wpAny_bind ?_) | ((with_reducible show wpAny _ _ (typeLookup (Value.ref _) _) _ _ _); unfold typeLookup) | ((fail_if_success (with_reducible show wpAny _ _ (alloc _) _ _ _)); (fail_if_success (with_reducible show wpAny _ _ (updatePart _ _ _) _ _ _)); (fail_if_success (with_reducible show wpAny _ _ (nsSet _ _ _) _ _ _)); (fail_if_success (with_reducible show wpAny _ _ (enterFrame) _ _ _)); (fail_if_success (with_reducible show wpAny _ _ (nsGet _ _) _ _ _)); (fail_if_success (with_reducible show wpAny _ _ (List.mapM mkText _) _ _ _)); (fail_if_success (with_reducible show wpAny _ _ (functionCode _ _ _ _ _ _ _ _) _ _ _)); (fail_if_success (with_reducible show wpAny _ _ (makeFunction _ _ _ _ _ _ _ _ _ _ _) _ _ _)); (fail_if_success (with_reducible show wpAny _ _ (getAttrBy _ _ _) _ _ _)); (fail_if_success (with_reducible show wpAny _ _ (run _) _ _ _)); (fail_if_success (with_reducible show wpAny _ _ (call _ _ _) _ _ _)); (fail_if_success (with_reducible show wpAny _ _ (Sem.tryCatch _ _) _ _ _)); (fail_if_success (with_reducible show wpAny _ _ (Sem.onRaise _ _) _ _ _)); wp_delta))
  refine xSet2 (fun _ hh tk => dO [eN hh0 tk0 "__module__" (.str (Str.ofString "cpy313.functools") t14), eN hh1 tk1 "__qualname__" (.str (Str.ofString "cmp_to_key.<locals>.K") t12), eN hh2 tk2 "__firstlineno__" (.int 53 t13), eN hh3 tk3 "__slots__" (.ref sl), eN hh4 tk4 "__init__" (.ref f1), eN hh5 tk5 "__lt__" (.ref f2), eN hh6 tk6 "__gt__" (.ref f3), eN hh7 tk7 "__eq__" (.ref f4), eN hh tk "__le__" (.ref f5)] 9) Df4 rfl (by kernel_rfl!) (by intro _ _; kernel_rfl!) (fun _ _ => rfl) fun hh8 tk8 hs8 ts8 Ds8 => ?_
  clear Df4
  repeat (first | (with_reducible refine wpAny_of_eq (by with_reducible assumption) ?_) | (with_reducible refine bEq (by with_reducible assumption) ?_) | (with_reducible refine bPure ?_) | (with_reducible refine bAssoc ?_) | (with_reducible refine bRule ?_) | (with_reducible refine wpAny_pure ?_) | (with_reducible refine wpAny_holding ?_) | (with_reducible refine wpAny_standAt ?_) | (with_reducible refine wpAny_point ?_) | (with_reducible refine wpAny_rule ?_) | (with_reducible refine fresh5 ?_) | (with_reducible refine wpAny_attempt ?_) | ((with_reducible show wpAny _ _ (loadPart _ _) _ _ _); (with_reducible first | refine wpAny_loadPart (by assumption) ?_ | refine wpAny_loadPart (LX.old (by assumption) (by assumption) (by decide)) ?_ | refine wpAny_loadPart (LX.at (by assumption) 0 rfl) ?_ | refine wpAny_loadPart (LX.at (by assumption) 1 rfl) ?_ | refine wpAny_loadPart (LX.at (by assumption) 2 rfl) ?_ | refine wpAny_loadPart (LX.at (by assumption) 3 rfl) ?_ | refine wpAny_loadPart (LX.at (by assumption) 4 rfl) ?_ | refine wpAny_loadPart (LX.at (by assumption) 5 rfl) ?_ | refine wpAny_loadPart (LX.at (by assumption) 6 rfl) ?_ | refine wpAny_loadPart (LX.at (by assumption) 7 rfl) ?_ | refine wpAny_loadPart (LX.at (by assumption) 8 rfl) ?_ | refine wpAny_loadPart (LX.at (by assumption) 9 rfl) ?_ | refine wpAny_loadPart (LX.at (by assumption) 10 rfl) ?_ | refine wpAny_loadPart (LX.at (by assumption) 11 rfl) ?_ | refine wpAny_loadPart (LX.at (by assumption) 12 rfl) ?_)) | ((with_reducible show wpAny _ _ (load _) _ _ _); (with_reducible first | refine wpAny_load (by assumption) ?_ | refine wpAny_load (LX.old (by assumption) (by assumption) (by decide)) ?_ | refine wpAny_load (LX.at (by assumption) 0 rfl) ?_ | refine wpAny_load (LX.at (by assumption) 1 rfl) ?_ | refine wpAny_load (LX.at (by assumption) 2 rfl) ?_ | refine wpAny_load (LX.at (by assumption) 3 rfl) ?_ | refine wpAny_load (LX.at (by assumption) 4 rfl) ?_ | refine wpAny_load (LX.at (by assumption) 5 rfl) ?_ | refine wpAny_load (LX.at (by assumption) 6 rfl) ?_ | refine wpAny_load (LX.at (by assumption) 7 rfl) ?_ | refine wpAny_load (LX.at (by assumption) 8 rfl) ?_ | refine wpAny_load (LX.at (by assumption) 9 rfl) ?_ | refine wpAny_load (LX.at (by assumption) 10 rfl) ?_ | refine wpAny_load (LX.at (by assumption) 11 rfl) ?_ | refine wpAny_load (LX.at (by assumption) 12 rfl) ?_)) | (with_reducible refine iteFb (by with_reducible assumption) ?_) | (with_reducible refine iteTb (by with_reducible assumption) ?_) | (with_reducible refine iteTd (by kernel_rfl!) ?_) | (with_reducible refine iteFd (by kernel_rfl!) ?_) | (with_reducible refine wpAny_bind ?_) | ((with_reducible show wpAny _ _ (typeLookup (Value.ref _) _) _ _ _); unfold typeLookup) | ((fail_if_success (with_reducible show wpAny _ _ (alloc _) _ _ _)); (fail_if_success (with_reducible show wpAny _ _ (updatePart _ _ _) _ _ _)); (fail_if_success (with_reducible show wpAny _ _ (nsSet _ _ _) _ _ _)); (fail_if_success (with_reducible show wpAny _ _ (enterFrame) _ _ _)); (fail_if_success (with_reducible show wpAny _ _ (nsGet _ _) _ _ _)); (fail_if_success (with_reducible show wpAny _ _ (List.mapM mkText _) _ _ _)); (fail_if_success (with_reducible show wpAny _ _ (functionCode _ _ _ _ _ _ _ _) _ _ _)); (fail_if_success (with_reducible show wpAny _ _ (makeFunction _ _ _ _ _ _ _ _ _ _ _) _ _ _)); (fail_if_success (with_reducible show wpAny _ _ (getAttrBy _ _ _) _ _ _)); (fail_if_success (with_reducible show wpAny _ _ (run _) _ _ _)); (fail_if_success (with_reducible show wpAny _ _ (call _ _ _) _ _ _)); (fail_if_success (with_reducible show wpAny _ _ (Sem.tryCatch _ _) _ _ _)); (fail_if_success (with_reducible show wpAny _ _ (Sem.onRaise _ _) _ _ _)); wp_delta))
  -- __ge__
  refine fFunC3 (cl := cl) (fns := [Str.ofString "mycmp"]) Ds8 rfl rfl rfl rfl rfl rfl (by kernel_rfl!) (fun _ => by kernel_rfl!) (by unfold Scope.freeNames; first | kernel_rfl! | (simp only [List.filter, List.map]; simp [List.mergeSort]; done) | (simp; done)) rfl rfl T.g (by decide) m1 m2 m3 m8 n1 (by kernel_rfl!) rfl (by kernel_rfl!) fun f6 ct5 kf5 tb5 k05 k15 k25 k185 w35 w45 w55 w65 w75 w85 w95 w105 w125 w135 w145 w155 w165 w175 hf5 tf5 Df5 => ?_
  clear Ds8
  repeat (first | (with_reducible refine wpAny_of_eq (by with_reducible assumption) ?_) | (with_reducible refine bEq (by with_reducible assumption) ?_) | (with_reducible refine bPure ?_) | (with_reducible refine bAssoc ?_) | (with_reducible refine bRule ?_) | (with_reducible refine wpAny_pure ?_) | (with_reducible refine wpAny_holding ?_) | (with_reducible refine wpAny_standAt ?_) | (with_reducible refine wpAny_point ?_) | (with_reducible refine wpAny_rule ?_) | (with_reducible refine fresh5 ?_) | (with_reducible refine wpAny_attempt ?_) | ((with_reducible show wpAny _ _ (loadPart _ _) _ _ _); (with_reducible first | refine wpAny_loadPart (by assumption) ?_ | refine wpAny_loadPart (LX.old (by assumption) (by assumption) (by decide)) ?_ | refine wpAny_loadPart (LX.at (by assumption) 0 rfl) ?_ | refine wpAny_loadPart (LX.at (by assumption) 1 rfl) ?_ | refine wpAny_loadPart (LX.at (by assumption) 2 rfl) ?_ | refine wpAny_loadPart (LX.at (by assumption) 3 rfl) ?_ | refine wpAny_loadPart (LX.at (by assumption) 4 rfl) ?_ | refine wpAny_loadPart (LX.at (by assumption) 5 rfl) ?_ | refine wpAny_loadPart (LX.at (by assumption) 6 rfl) ?_ | refine wpAny_loadPart (LX.at (by assumption) 7 rfl) ?_ | refine wpAny_loadPart (LX.at (by assumption) 8 rfl) ?_ | refine wpAny_loadPart (LX.at (by assumption) 9 rfl) ?_ | refine wpAny_loadPart (LX.at (by assumption) 10 rfl) ?_ | refine wpAny_loadPart (LX.at (by assumption) 11 rfl) ?_ | refine wpAny_loadPart (LX.at (by assumption) 12 rfl) ?_)) | ((with_reducible show wpAny _ _ (load _) _ _ _); (with_reducible first | refine wpAny_load (by assumption) ?_ | refine wpAny_load (LX.old (by assumption) (by assumption) (by decide)) ?_ | refine wpAny_load (LX.at (by assumption) 0 rfl) ?_ | refine wpAny_load (LX.at (by assumption) 1 rfl) ?_ | refine wpAny_load (LX.at (by assumption) 2 rfl) ?_ | refine wpAny_load (LX.at (by assumption) 3 rfl) ?_ | refine wpAny_load (LX.at (by assumption) 4 rfl) ?_ | refine wpAny_load (LX.at (by assumption) 5 rfl) ?_ | refine wpAny_load (LX.at (by assumption) 6 rfl) ?_ | refine wpAny_load (LX.at (by assumption) 7 rfl) ?_ | refine wpAny_load (LX.at (by assumption) 8 rfl) ?_ | refine wpAny_load (LX.at (by assumption) 9 rfl) ?_ | refine wpAny_load (LX.at (by assumption) 10 rfl) ?_ | refine wpAny_load (LX.at (by assumption) 11 rfl) ?_ | refine wpAny_load (LX.at (by assumption) 12 rfl) ?_)) | (with_reducible refine iteFb (by with_reducible assumption) ?_) | (with_reducible refine iteTb (by with_reducible assumption) ?_) | (with_reducible refine iteTd (by kernel_rfl!) ?_) | (with_reducible refine iteFd (by kernel_rfl!) ?_) | (with_reducible refine wpAny_bind ?_) | ((with_reducible show wpAny _ _ (typeLookup (Value.ref _) _) _ _ _); unfold typeLookup) | ((fail_if_success (with_reducible show wpAny _ _ (alloc _) _ _ _)); (fail_if_success (with_reducible show wpAny _ _ (updatePart _ _ _) _ _ _)); (fail_if_success (with_reducible show wpAny _ _ (nsSet _ _ _) _ _ _)); (fail_if_success (with_reducible show wpAny _ _ (enterFrame) _ _ _)); (fail_if_success (with_reducible show wpAny _ _ (nsGet _ _) _ _ _)); (fail_if_success (with_reducible show wpAny _ _ (List.mapM mkText _) _ _ _)); (fail_if_success (with_reducible show wpAny _ _ (functionCode _ _ _ _ _ _ _ _) _ _ _)); (fail_if_success (with_reducible show wpAny _ _ (makeFunction _ _ _ _ _ _ _ _ _ _ _) _ _ _)); (fail_if_success (with_reducible show wpAny _ _ (getAttrBy _ _ _) _ _ _)); (fail_if_success (with_reducible show wpAny _ _ (run _) _ _ _)); (fail_if_success (with_reducible show wpAny _ _ (call _ _ _) _ _ _)); (fail_if_success (with_reducible show wpAny _ _ (Sem.tryCatch _ _) _ _ _)); (fail_if_success (with_reducible show wpAny _ _ (Sem.onRaise _ _) _ _ _)); wp_delta))
  refine xSet2 (fun _ hh tk => dO [eN hh0 tk0 "__module__" (.str (Str.ofString "cpy313.functools") t14), eN hh1 tk1 "__qualname__" (.str (Str.ofString "cmp_to_key.<locals>.K") t12), eN hh2 tk2 "__firstlineno__" (.int 53 t13), eN hh3 tk3 "__slots__" (.ref sl), eN hh4 tk4 "__init__" (.ref f1), eN hh5 tk5 "__lt__" (.ref f2), eN hh6 tk6 "__gt__" (.ref f3), eN hh7 tk7 "__eq__" (.ref f4), eN hh8 tk8 "__le__" (.ref f5), eN hh tk "__ge__" (.ref f6)] 10) Df5 rfl (by kernel_rfl!) (by intro _ _; kernel_rfl!) (fun _ _ => rfl) fun hh9 tk9 hs9 ts9 Ds9 => ?_
  clear Df5
  repeat (first | (with_reducible refine wpAny_of_eq (by with_reducible assumption) ?_) | (with_reducible refine bEq (by with_reducible assumption) ?_) | (with_reducible refine bPure ?_) | (with_reducible refine bAssoc ?_) | (with_reducible refine bRule ?_) | (with_reducible refine wpAny_pure ?_) | (with_reducible refine wpAny_holding ?_) | (with_reducible refine wpAny_standAt ?_) | (with_reducible refine wpAny_point ?_) | (with_reducible refine wpAny_rule ?_) | (with_reducible refine fresh5 ?_) | (with_reducible refine wpAny_attempt ?_) | ((with_reducible show wpAny _ _ (loadPart _ _) _ _ _); (with_reducible first | refine wpAny_loadPart (by assumption) ?_ | refine wpAny_loadPart (LX.old (by assumption) (by assumption) (by decide)) ?_ | refine wpAny_loadPart (LX.at (by assumption) 0 rfl) ?_ | refine wpAny_loadPart (LX.at (by assumption) 1 rfl) ?_ | refine wpAny_loadPart (LX.at (by assumption) 2 rfl) ?_ | refine wpAny_loadPart (LX.at (by assumption) 3 rfl) ?_ | refine wpAny_loadPart (LX.at (by assumption) 4 rfl) ?_ | refine wpAny_loadPart (LX.at (by assumption) 5 rfl) ?_ | refine wpAny_loadPart (LX.at (by assumption) 6 rfl) ?_ | refine wpAny_loadPart (LX.at (by assumption) 7 rfl) ?_ | refine wpAny_loadPart (LX.at (by assumption) 8 rfl) ?_ | refine wpAny_loadPart (LX.at (by assumption) 9 rfl) ?_ | refine wpAny_loadPart (LX.at (by assumption) 10 rfl) ?_ | refine wpAny_loadPart (LX.at (by assumption) 11 rfl) ?_ | refine wpAny_loadPart (LX.at (by assumption) 12 rfl) ?_)) | ((with_reducible show wpAny _ _ (load _) _ _ _); (with_reducible first | refine wpAny_load (by assumption) ?_ | refine wpAny_load (LX.old (by assumption) (by assumption) (by decide)) ?_ | refine wpAny_load (LX.at (by assumption) 0 rfl) ?_ | refine wpAny_load (LX.at (by assumption) 1 rfl) ?_ | refine wpAny_load (LX.at (by assumption) 2 rfl) ?_ | refine wpAny_load (LX.at (by assumption) 3 rfl) ?_ | refine wpAny_load (LX.at (by assumption) 4 rfl) ?_ | refine wpAny_load (LX.at (by assumption) 5 rfl) ?_ | refine wpAny_load (LX.at (by assumption) 6 rfl) ?_ | refine wpAny_load (LX.at (by assumption) 7 rfl) ?_ | refine wpAny_load (LX.at (by assumption) 8 rfl) ?_ | refine wpAny_load (LX.at (by assumption) 9 rfl) ?_ | refine wpAny_load (LX.at (by assumption) 10 rfl) ?_ | refine wpAny_load (LX.at (by assumption) 11 rfl) ?_ | refine wpAny_load (LX.at (by assumption) 12 rfl) ?_)) | (with_reducible refine iteFb (by with_reducible assumption) ?_) | (with_reducible refine iteTb (by with_reducible assumption) ?_) | (with_reducible refine iteTd (by kernel_rfl!) ?_) | (with_reducible refine iteFd (by kernel_rfl!) ?_) | (with_reducible refine wpAny_bind ?_) | ((with_reducible show wpAny _ _ (typeLookup (Value.ref _) _) _ _ _); unfold typeLookup) | ((fail_if_success (with_reducible show wpAny _ _ (alloc _) _ _ _)); (fail_if_success (with_reducible show wpAny _ _ (updatePart _ _ _) _ _ _)); (fail_if_success (with_reducible show wpAny _ _ (nsSet _ _ _) _ _ _)); (fail_if_success (with_reducible show wpAny _ _ (enterFrame) _ _ _)); (fail_if_success (with_reducible show wpAny _ _ (nsGet _ _) _ _ _)); (fail_if_success (with_reducible show wpAny _ _ (List.mapM mkText _) _ _ _)); (fail_if_success (with_reducible show wpAny _ _ (functionCode _ _ _ _ _ _ _ _) _ _ _)); (fail_if_success (with_reducible show wpAny _ _ (makeFunction _ _ _ _ _ _ _ _ _ _ _) _ _ _)); (fail_if_success (with_reducible show wpAny _ _ (getAttrBy _ _ _) _ _ _)); (fail_if_success (with_reducible show wpAny _ _ (run _) _ _ _)); (fail_if_success (with_reducible show wpAny _ _ (call _ _ _) _ _ _)); (fail_if_success (with_reducible show wpAny _ _ (Sem.tryCatch _ _) _ _ _)); (fail_if_success (with_reducible show wpAny _ _ (Sem.onRaise _ _) _ _ _)); wp_delta))
  refine xSet2 (fun _ hh tk => dO [eN hh0 tk0 "__module__" (.str (Str.ofString "cpy313.functools") t14), eN hh1 tk1 "__qualname__" (.str (Str.ofString "cmp_to_key.<locals>.K") t12), eN hh2 tk2 "__firstlineno__" (.int 53 t13), eN hh3 tk3 "__slots__" (.ref sl), eN hh4 tk4 "__init__" (.ref f1), eN hh5 tk5 "__lt__" (.ref f2), eN hh6 tk6 "__gt__" (.ref f3), eN hh7 tk7 "__eq__" (.ref f4), eN hh8 tk8 "__le__" (.ref f5), eN hh9 tk9 "__ge__" (.ref f6), eN hh tk "__hash__" .none] 11) Ds9 rfl (by kernel_rfl!) (by intro _ _; kernel_rfl!) (fun _ _ => rfl) fun hh10 tk10 hs10 ts10 Ds10 => ?_
  clear Ds9
  repeat (first | (with_reducible refine wpAny_of_eq (by with_reducible assumption) ?_) | (with_reducible refine bEq (by with_reducible assumption) ?_) | (with_reducible refine bPure ?_) | (with_reducible refine bAssoc ?_) | (with_reducible refine bRule ?_) | (with_reducible refine wpAny_pure ?_) | (with_reducible refine wpAny_holding ?_) | (with_reducible refine wpAny_standAt ?_) | (with_reducible refine wpAny_point ?_) | (with_reducible refine wpAny_rule ?_) | (with_reducible refine fresh5 ?_) | (with_reducible refine wpAny_attempt ?_) | ((with_reducible show wpAny _ _ (loadPart _ _) _ _ _); (with_reducible first | refine wpAny_loadPart (by assumption) ?_ | refine wpAny_loadPart (LX.old (by assumption) (by assumption) (by decide)) ?_ | refine wpAny_loadPart (LX.at (by assumption) 0 rfl) ?_ | refine wpAny_loadPart (LX.at (by assumption) 1 rfl) ?_ | refine wpAny_loadPart (LX.at (by assumption) 2 rfl) ?_ | refine wpAny_loadPart (LX.at (by assumption) 3 rfl) ?_ | refine wpAny_loadPart (LX.at (by assumption) 4 rfl) ?_ | refine wpAny_loadPart (LX.at (by assumption) 5 rfl) ?_ | refine wpAny_loadPart (LX.at (by assumption) 6 rfl) ?_ | refine wpAny_loadPart (LX.at (by assumption) 7 rfl) ?_ | refine wpAny_loadPart (LX.at (by assumption) 8 rfl) ?_ | refine wpAny_loadPart (LX.at (by assumption) 9 rfl) ?_ | refine wpAny_loadPart (LX.at (by assumption) 10 rfl) ?_ | refine wpAny_loadPart (LX.at (by assumption) 11 rfl) ?_ | refine wpAny_loadPart (LX.at (by assumption) 12 rfl) ?_)) | ((with_reducible show wpAny _ _ (load _) _ _ _); (with_reducible first | refine wpAny_load (by assumption) ?_ | refine wpAny_load (LX.old (by assumption) (by assumption) (by decide)) ?_ | refine wpAny_load (LX.at (by assumption) 0 rfl) ?_ | refine wpAny_load (LX.at (by assumption) 1 rfl) ?_ | refine wpAny_load (LX.at (by assumption) 2 rfl) ?_ | refine wpAny_load (LX.at (by assumption) 3 rfl) ?_ | refine wpAny_load (LX.at (by assumption) 4 rfl) ?_ | refine wpAny_load (LX.at (by assumption) 5 rfl) ?_ | refine wpAny_load (LX.at (by assumption) 6 rfl) ?_ | refine wpAny_load (LX.at (by assumption) 7 rfl) ?_ | refine wpAny_load (LX.at (by assumption) 8 rfl) ?_ | refine wpAny_load (LX.at (by assumption) 9 rfl) ?_ | refine wpAny_load (LX.at (by assumption) 10 rfl) ?_ | refine wpAny_load (LX.at (by assumption) 11 rfl) ?_ | refine wpAny_load (LX.at (by assumption) 12 rfl) ?_)) | (with_reducible refine iteFb (by with_reducible assumption) ?_) | (with_reducible refine iteTb (by with_reducible assumption) ?_) | (with_reducible refine iteTd (by kernel_rfl!) ?_) | (with_reducible refine iteFd (by kernel_rfl!) ?_) | (with_reducible refine wpAny_bind ?_) | ((with_reducible show wpAny _ _ (typeLookup (Value.ref _) _) _ _ _); unfold typeLookup) | ((fail_if_success (with_reducible show wpAny _ _ (alloc _) _ _ _)); (fail_if_success (with_reducible show wpAny _ _ (updatePart _ _ _) _ _ _)); (fail_if_success (with_reducible show wpAny _ _ (nsSet _ _ _) _ _ _)); (fail_if_success (with_reducible show wpAny _ _ (enterFrame) _ _ _)); (fail_if_success (with_reducible show wpAny _ _ (nsGet _ _) _ _ _)); (fail_if_success (with_reducible show wpAny _ _ (List.mapM mkText _) _ _ _)); (fail_if_success (with_reducible show wpAny _ _ (functionCode _ _ _ _ _ _ _ _) _ _ _)); (fail_if_success (with_reducible show wpAny _ _ (makeFunction _ _ _ _ _ _ _ _ _ _ _) _ _ _)); (fail_if_success (with_reducible show wpAny _ _ (getAttrBy _ _ _) _ _ _)); (fail_if_success (with_reducible show wpAny _ _ (run _) _ _ _)); (fail_if_success (with_reducible show wpAny _ _ (call _ _ _) _ _ _)); (fail_if_success (with_reducible show wpAny _ _ (Sem.tryCatch _ _) _ _ _)); (fail_if_success (with_reducible show wpAny _ _ (Sem.onRaise _ _) _ _ _)); wp_delta))
  subst hA9 hK9 hE9
  dsimp only
  repeat (first | (with_reducible refine wpAny_of_eq (by with_reducible assumption) ?_) | (with_reducible refine bEq (by with_reducible assumption) ?_) | (with_reducible refine bPure ?_) | (with_reducible refine bAssoc ?_) | (with_reducible refine bRule ?_) | (with_reducible refine wpAny_pure ?_) | (with_reducible refine wpAny_holding ?_) | (with_reducible refine wpAny_standAt ?_) | (with_reducible refine wpAny_point ?_) | (with_reducible refine wpAny_rule ?_) | (with_reducible refine fresh5 ?_) | (with_reducible refine wpAny_attempt ?_) | ((with_reducible show wpAny _ _ (loadPart _ _) _ _ _); (with_reducible first | refine wpAny_loadPart (by assumption) ?_ | refine wpAny_loadPart (LX.old (by assumption) (by assumption) (by decide)) ?_ | refine wpAny_loadPart (LX.at (by assumption) 0 rfl) ?_ | refine wpAny_loadPart (LX.at (by assumption) 1 rfl) ?_ | refine wpAny_loadPart (LX.at (by assumption) 2 rfl) ?_ | refine wpAny_loadPart (LX.at (by assumption) 3 rfl) ?_ | refine wpAny_loadPart (LX.at (by assumption) 4 rfl) ?_ | refine wpAny_loadPart (LX.at (by assumption) 5 rfl) ?_ | refine wpAny_loadPart (LX.at (by assumption) 6 rfl) ?_ | refine wpAny_loadPart (LX.at (by assumption) 7 rfl) ?_ | refine wpAny_loadPart (LX.at (by assumption) 8 rfl) ?_ | refine wpAny_loadPart (LX.at (by assumption) 9 rfl) ?_ | refine wpAny_loadPart (LX.at (by assumption) 10 rfl) ?_ | refine wpAny_loadPart (LX.at (by assumption) 11 rfl) ?_ | refine wpAny_loadPart (LX.at (by assumption) 12 rfl) ?_)) | ((with_reducible show wpAny _ _ (load _) _ _ _); (with_reducible first | refine wpAny_load (by assumption) ?_ | refine wpAny_load (LX.old (by assumption) (by assumption) (by decide)) ?_ | refine wpAny_load (LX.at (by assumption) 0 rfl) ?_ | refine wpAny_load (LX.at (by assumption) 1 rfl) ?_ | refine wpAny_load (LX.at (by assumption) 2 rfl) ?_ | refine wpAny_load (LX.at (by assumption) 3 rfl) ?_ | refine wpAny_load (LX.at (by assumption) 4 rfl) ?_ | refine wpAny_load (LX.at (by assumption) 5 rfl) ?_ | refine wpAny_load (LX.at (by assumption) 6 rfl) ?_ | refine wpAny_load (LX.at (by assumption) 7 rfl) ?_ | refine wpAny_load (LX.at (by assumption) 8 rfl) ?_ | refine wpAny_load (LX.at (by assumption) 9 rfl) ?_ | refine wpAny_load (LX.at (by assumption) 10 rfl) ?_ | refine wpAny_load (LX.at (by assumption) 11 rfl) ?_ | refine wpAny_load (LX.at (by assumption) 12 rfl) ?_)) | (with_reducible refine iteFb (by with_reducible assumption) ?_) | (with_reducible refine iteTb (by with_reducible assumption) ?_) | (with_reducible refine iteTd (by kernel_rfl!) ?_) | (with_reducible refine iteFd (by kernel_rfl!) ?_) | (with_reducible refine wpAny_bind ?_) | ((with_reducible show wpAny _ _ (typeLookup (Value.ref _) _) _ _ _); unfold typeLookup) | ((fail_if_success (with_reducible show wpAny _ _ (alloc _) _ _ _)); (fail_if_success (with_reducible show wpAny _ _ (updatePart _ _ _) _ _ _)); (fail_if_success (with_reducible show wpAny _ _ (nsSet _ _ _) _ _ _)); (fail_if_success (with_reducible show wpAny _ _ (enterFrame) _ _ _)); (fail_if_success (with_reducible show wpAny _ _ (nsGet _ _) _ _ _)); (fail_if_success (with_reducible show wpAny _ _ (List.mapM mkText _) _ _ _)); (fail_if_success (with_reducible show wpAny _ _ (functionCode _ _ _ _ _ _ _ _) _ _ _)); (fail_if_success (with_reducible show wpAny _ _ (makeFunction _ _ _ _ _ _ _ _ _ _ _) _ _ _)); (fail_if_success (with_reducible show wpAny _ _ (getAttrBy _ _ _) _ _ _)); (fail_if_success (with_reducible show wpAny _ _ (run _) _ _ _)); (fail_if_success (with_reducible show wpAny _ _ (call _ _ _) _ _ _)); (fail_if_success (with_reducible show wpAny _ _ (Sem.tryCatch _ _) _ _ _)); (fail_if_success (with_reducible show wpAny _ _ (Sem.onRaise _ _) _ _ _)); wp_delta))
  refine wpAny_onRaise ?_
  repeat (first | (with_reducible refine wpAny_of_eq (by with_reducible assumption) ?_) | (with_reducible refine bEq (by with_reducible assumption) ?_) | (with_reducible refine bPure ?_) | (with_reducible refine bAssoc ?_) | (with_reducible refine bRule ?_) | (with_reducible refine wpAny_pure ?_) | (with_reducible refine wpAny_holding ?_) | (with_reducible refine wpAny_standAt ?_) | (with_reducible refine wpAny_point ?_) | (with_reducible refine wpAny_rule ?_) | (with_reducible refine fresh5 ?_) | (with_reducible refine wpAny_attempt ?_) | ((with_reducible show wpAny _ _ (loadPart _ _) _ _ _); (with_reducible first | refine wpAny_loadPart (by assumption) ?_ | refine wpAny_loadPart (LX.old (by assumption) (by assumption) (by decide)) ?_ | refine wpAny_loadPart (LX.at (by assumption) 0 rfl) ?_ | refine wpAny_loadPart (LX.at (by assumption) 1 rfl) ?_ | refine wpAny_loadPart (LX.at (by assumption) 2 rfl) ?_ | refine wpAny_loadPart (LX.at (by assumption) 3 rfl) ?_ | refine wpAny_loadPart (LX.at (by assumption) 4 rfl) ?_ | refine wpAny_loadPart (LX.at (by assumption) 5 rfl) ?_ | refine wpAny_loadPart (LX.at (by assumption) 6 rfl) ?_ | refine wpAny_loadPart (LX.at (by assumption) 7 rfl) ?_ | refine wpAny_loadPart (LX.at (by assumption) 8 rfl) ?_ | refine wpAny_loadPart (LX.at (by assumption) 9 rfl) ?_ | refine wpAny_loadPart (LX.at (by assumption) 10 rfl) ?_ | refine wpAny_loadPart (LX.at (by assumption) 11 rfl) ?_ | refine wpAny_loadPart (LX.at (by assumption) 12 rfl) ?_)) | ((with_reducible show wpAny _ _ (load _) _ _ _); (with_reducible first | refine wpAny_load (by assumption) ?_ | refine wpAny_load (LX.old (by assumption) (by assumption) (by decide)) ?_ | refine wpAny_load (LX.at (by assumption) 0 rfl) ?_ | refine wpAny_load (LX.at (by assumption) 1 rfl) ?_ | refine wpAny_load (LX.at (by assumption) 2 rfl) ?_ | refine wpAny_load (LX.at (by assumption) 3 rfl) ?_ | refine wpAny_load (LX.at (by assumption) 4 rfl) ?_ | refine wpAny_load (LX.at (by assumption) 5 rfl) ?_ | refine wpAny_load (LX.at (by assumption) 6 rfl) ?_ | refine wpAny_load (LX.at (by assumption) 7 rfl) ?_ | refine wpAny_load (LX.at (by assumption) 8 rfl) ?_ | refine wpAny_load (LX.at (by assumption) 9 rfl) ?_ | refine wpAny_load (LX.at (by assumption) 10 rfl) ?_ | refine wpAny_load (LX.at (by assumption) 11 rfl) ?_ | refine wpAny_load (LX.at (by assumption) 12 rfl) ?_)) | (with_reducible refine iteFb (by with_reducible assumption) ?_) | (with_reducible refine iteTb (by with_reducible assumption) ?_) | (with_reducible refine iteTd (by kernel_rfl!) ?_) | (with_reducible refine iteFd (by kernel_rfl!) ?_) | (with_reducible refine wpAny_bind ?_) | ((with_reducible show wpAny _ _ (typeLookup (Value.ref _) _) _ _ _); unfold typeLookup) | ((fail_if_success (with_reducible show wpAny _ _ (alloc _) _ _ _)); (fail_if_success (with_reducible show wpAny _ _ (updatePart _ _ _) _ _ _)); (fail_if_success (with_reducible show wpAny _ _ (nsSet _ _ _) _ _ _)); (fail_if_success (with_reducible show wpAny _ _ (enterFrame) _ _ _)); (fail_if_success (with_reducible show wpAny _ _ (nsGet _ _) _ _ _)); (fail_if_success (with_reducible show wpAny _ _ (List.mapM mkText _) _ _ _)); (fail_if_success (with_reducible show wpAny _ _ (functionCode _ _ _ _ _ _ _ _) _ _ _)); (fail_if_success (with_reducible show wpAny _ _ (makeFunction _ _ _ _ _ _ _ _ _ _ _) _ _ _)); (fail_if_success (with_reducible show wpAny _ _ (getAttrBy _ _ _) _ _ _)); (fail_if_success (with_reducible show wpAny _ _ (run _) _ _ _)); (fail_if_success (with_reducible show wpAny _ _ (call _ _ _) _ _ _)); (fail_if_success (with_reducible show wpAny _ _ (Sem.tryCatch _ _) _ _ _)); (fail_if_success (with_reducible show wpAny _ _ (Sem.onRaise _ _) _ _ _)); wp_delta))
  refine mapM_text _ _ _ fun vsS uS => ?_
  repeat (first | (with_reducible refine wpAny_of_eq (by with_reducible assumption) ?_) | (with_reducible refine bEq (by with_reducible assumption) ?_) | (with_reducible refine bPure ?_) | (with_reducible refine bAssoc ?_) | (with_reducible refine bRule ?_) | (with_reducible refine wpAny_pure ?_) | (with_reducible refine wpAny_holding ?_) | (with_reducible refine wpAny_standAt ?_) | (with_reducible refine wpAny_point ?_) | (with_reducible refine wpAny_rule ?_) | (with_reducible refine fresh5 ?_) | (with_reducible refine wpAny_attempt ?_) | ((with_reducible show wpAny _ _ (loadPart _ _) _ _ _); (with_reducible first | refine wpAny_loadPart (by assumption) ?_ | refine wpAny_loadPart (LX.old (by assumption) (by assumption) (by decide)) ?_ | refine wpAny_loadPart (LX.at (by assumption) 0 rfl) ?_ | refine wpAny_loadPart (LX.at (by assumption) 1 rfl) ?_ | refine wpAny_loadPart (LX.at (by assumption) 2 rfl) ?_ | refine wpAny_loadPart (LX.at (by assumption) 3 rfl) ?_ | refine wpAny_loadPart (LX.at (by assumption) 4 rfl) ?_ | refine wpAny_loadPart (LX.at (by assumption) 5 rfl) ?_ | refine wpAny_loadPart (LX.at (by assumption) 6 rfl) ?_ | refine wpAny_loadPart (LX.at (by assumption) 7 rfl) ?_ | refine wpAny_loadPart (LX.at (by assumption) 8 rfl) ?_ | refine wpAny_loadPart (LX.at (by assumption) 9 rfl) ?_ | refine wpAny_loadPart (LX.at (by assumption) 10 rfl) ?_ | refine wpAny_loadPart (LX.at (by assumption) 11 rfl) ?_ | refine wpAny_loadPart (LX.at (by assumption) 12 rfl) ?_)) | ((with_reducible show wpAny _ _ (load _) _ _ _); (with_reducible first | refine wpAny_load (by assumption) ?_ | refine wpAny_load (LX.old (by assumption) (by assumption) (by decide)) ?_ | refine wpAny_load (LX.at (by assumption) 0 rfl) ?_ | refine wpAny_load (LX.at (by assumption) 1 rfl) ?_ | refine wpAny_load (LX.at (by assumption) 2 rfl) ?_ | refine wpAny_load (LX.at (by assumption) 3 rfl) ?_ | refine wpAny_load (LX.at (by assumption) 4 rfl) ?_ | refine wpAny_load (LX.at (by assumption) 5 rfl) ?_ | refine wpAny_load (LX.at (by assumption) 6 rfl) ?_ | refine wpAny_load (LX.at (by assumption) 7 rfl) ?_ | refine wpAny_load (LX.at (by assumption) 8 rfl) ?_ | refine wpAny_load (LX.at (by assumption) 9 rfl) ?_ | refine wpAny_load (LX.at (by assumption) 10 rfl) ?_ | refine wpAny_load (LX.at (by assumption) 11 rfl) ?_ | refine wpAny_load (LX.at (by assumption) 12 rfl) ?_)) | (with_reducible refine iteFb (by with_reducible assumption) ?_) | (with_reducible refine iteTb (by with_reducible assumption) ?_) | (with_reducible refine iteTd (by kernel_rfl!) ?_) | (with_reducible refine iteFd (by kernel_rfl!) ?_) | (with_reducible refine wpAny_bind ?_) | ((with_reducible show wpAny _ _ (typeLookup (Value.ref _) _) _ _ _); unfold typeLookup) | ((fail_if_success (with_reducible show wpAny _ _ (alloc _) _ _ _)); (fail_if_success (with_reducible show wpAny _ _ (updatePart _ _ _) _ _ _)); (fail_if_success (with_reducible show wpAny _ _ (nsSet _ _ _) _ _ _)); (fail_if_success (with_reducible show wpAny _ _ (enterFrame) _ _ _)); (fail_if_success (with_reducible show wpAny _ _ (nsGet _ _) _ _ _)); (fail_if_success (with_reducible show wpAny _ _ (List.mapM mkText _) _ _ _)); (fail_if_success (with_reducible show wpAny _ _ (functionCode _ _ _ _ _ _ _ _) _ _ _)); (fail_if_success (with_reducible show wpAny _ _ (makeFunction _ _ _ _ _ _ _ _ _ _ _) _ _ _)); (fail_if_success (with_reducible show wpAny _ _ (getAttrBy _ _ _) _ _ _)); (fail_if_success (with_reducible show wpAny _ _ (run _) _ _ _)); (fail_if_success (with_reducible show wpAny _ _ (call _ _ _) _ _ _)); (fail_if_success (with_reducible show wpAny _ _ (Sem.tryCatch _ _) _ _ _)); (fail_if_success (with_reducible show wpAny _ _ (Sem.onRaise _ _) _ _ _)); wp_delta))
  refine xAlloc3 Ds10 rfl fun sa hsa Dsa => ?_
  clear Ds10
  repeat (first | (with_reducible refine wpAny_of_eq (by with_reducible assumption) ?_) | (with_reducible refine bEq (by with_reducible assumption) ?_) | (with_reducible refine bPure ?_) | (with_reducible refine bAssoc ?_) | (with_reducible refine bRule ?_) | (with_reducible refine wpAny_pure ?_) | (with_reducible refine wpAny_holding ?_) | (with_reducible refine wpAny_standAt ?_) | (with_reducible refine wpAny_point ?_) | (with_reducible refine wpAny_rule ?_) | (with_reducible refine fresh5 ?_) | (with_reducible refine wpAny_attempt ?_) | ((with_reducible show wpAny _ _ (loadPart _ _) _ _ _); (with_reducible first | refine wpAny_loadPart (by assumption) ?_ | refine wpAny_loadPart (LX.old (by assumption) (by assumption) (by decide)) ?_ | refine wpAny_loadPart (LX.at (by assumption) 0 rfl) ?_ | refine wpAny_loadPart (LX.at (by assumption) 1 rfl) ?_ | refine wpAny_loadPart (LX.at (by assumption) 2 rfl) ?_ | refine wpAny_loadPart (LX.at (by assumption) 3 rfl) ?_ | refine wpAny_loadPart (LX.at (by assumption) 4 rfl) ?_ | refine wpAny_loadPart (LX.at (by assumption) 5 rfl) ?_ | refine wpAny_loadPart (LX.at (by assumption) 6 rfl) ?_ | refine wpAny_loadPart (LX.at (by assumption) 7 rfl) ?_ | refine wpAny_loadPart (LX.at (by assumption) 8 rfl) ?_ | refine wpAny_loadPart (LX.at (by assumption) 9 rfl) ?_ | refine wpAny_loadPart (LX.at (by assumption) 10 rfl) ?_ | refine wpAny_loadPart (LX.at (by assumption) 11 rfl) ?_ | refine wpAny_loadPart (LX.at (by assumption) 12 rfl) ?_)) | ((with_reducible show wpAny _ _ (load _) _ _ _); (with_reducible first | refine wpAny_load (by assumption) ?_ | refine wpAny_load (LX.old (by assumption) (by assumption) (by decide)) ?_ | refine wpAny_load (LX.at (by assumption) 0 rfl) ?_ | refine wpAny_load (LX.at (by assumption) 1 rfl) ?_ | refine wpAny_load (LX.at (by assumption) 2 rfl) ?_ | refine wpAny_load (LX.at (by assumption) 3 rfl) ?_ | refine wpAny_load (LX.at (by assumption) 4 rfl) ?_ | refine wpAny_load (LX.at (by assumption) 5 rfl) ?_ | refine wpAny_load (LX.at (by assumption) 6 rfl) ?_ | refine wpAny_load (LX.at (by assumption) 7 rfl) ?_ | refine wpAny_load (LX.at (by assumption) 8 rfl) ?_ | refine wpAny_load (LX.at (by assumption) 9 rfl) ?_ | refine wpAny_load (LX.at (by assumption) 10 rfl) ?_ | refine wpAny_load (LX.at (by assumption) 11 rfl) ?_ | refine wpAny_load (LX.at (by assumption) 12 rfl) ?_)) | (with_reducible refine iteFb (by with_reducible assumption) ?_) | (with_reducible refine iteTb (by with_reducible assumption) ?_) | (with_reducible refine iteTd (by kernel_rfl!) ?_) | (with_reducible refine iteFd (by kernel_rfl!) ?_) | (with_reducible refine wpAny_bind ?_) | ((with_reducible show wpAny _ _ (typeLookup (Value.ref _) _) _ _ _); unfold typeLookup) | ((fail_if_success (with_reducible show wpAny _ _ (alloc _) _ _ _)); (fail_if_success (with_reducible show wpAny _ _ (updatePart _ _ _) _ _ _)); (fail_if_success (with_reducible show wpAny _ _ (nsSet _ _ _) _ _ _)); (fail_if_success (with_reducible show wpAny _ _ (enterFrame) _ _ _)); (fail_if_success (with_reducible show wpAny _ _ (nsGet _ _) _ _ _)); (fail_if_success (with_reducible show wpAny _ _ (List.mapM mkText _) _ _ _)); (fail_if_success (with_reducible show wpAny _ _ (functionCode _ _ _ _ _ _ _ _) _ _ _)); (fail_if_success (with_reducible show wpAny _ _ (makeFunction _ _ _ _ _ _ _ _ _ _ _) _ _ _)); (fail_if_success (with_reducible show wpAny _ _ (getAttrBy _ _ _) _ _ _)); (fail_if_success (with_reducible show wpAny _ _ (run _) _ _ _)); (fail_if_success (with_reducible show wpAny _ _ (call _ _ _) _ _ _)); (fail_if_success (with_reducible show wpAny _ _ (Sem.tryCatch _ _) _ _ _)); (fail_if_success (with_reducible show wpAny _ _ (Sem.onRaise _ _) _ _ _)); wp_delta))
  refine xSet2 (fun _ hh tk => dO [eN hh0 tk0 "__module__" (.str (Str.ofString "cpy313.functools") t14), eN hh1 tk1 "__qualname__" (.str (Str.ofString "cmp_to_key.<locals>.K") t12), eN hh2 tk2 "__firstlineno__" (.int 53 t13), eN hh3 tk3 "__slots__" (.ref sl), eN hh4 tk4 "__init__" (.ref f1), eN hh5 tk5 "__lt__" (.ref f2), eN hh6 tk6 "__gt__" (.ref f3), eN hh7 tk7 "__eq__" (.ref f4), eN hh8 tk8 "__le__" (.ref f5), eN hh9 tk9 "__ge__" (.ref f6), eN hh10 tk10 "__hash__" .none, eN hh tk "__static_attributes__" (.ref sa)] 12) Dsa rfl (by kernel_rfl!) (by intro _ _; kernel_rfl!) (fun _ _ => rfl) fun hh11 tk11 hs11 ts11 Ds11 => ?_
  clear Dsa
  repeat (first | (with_reducible refine wpAny_of_eq (by with_reducible assumption) ?_) | (with_reducible refine bEq (by with_reducible assumption) ?_) | (with_reducible refine bPure ?_) | (with_reducible refine bAssoc ?_) | (with_reducible refine bRule ?_) | (with_reducible refine wpAny_pure ?_) | (with_reducible refine wpAny_holding ?_) | (with_reducible refine wpAny_standAt ?_) | (with_reducible refine wpAny_point ?_) | (with_reducible refine wpAny_rule ?_) | (with_reducible refine fresh5 ?_) | (with_reducible refine wpAny_attempt ?_) | ((with_reducible show wpAny _ _ (loadPart _ _) _ _ _); (with_reducible first | refine wpAny_loadPart (by assumption) ?_ | refine wpAny_loadPart (LX.old (by assumption) (by assumption) (by decide)) ?_ | refine wpAny_loadPart (LX.at (by assumption) 0 rfl) ?_ | refine wpAny_loadPart (LX.at (by assumption) 1 rfl) ?_ | refine wpAny_loadPart (LX.at (by assumption) 2 rfl) ?_ | refine wpAny_loadPart (LX.at (by assumption) 3 rfl) ?_ | refine wpAny_loadPart (LX.at (by assumption) 4 rfl) ?_ | refine wpAny_loadPart (LX.at (by assumption) 5 rfl) ?_ | refine wpAny_loadPart (LX.at (by assumption) 6 rfl) ?_ | refine wpAny_loadPart (LX.at (by assumption) 7 rfl) ?_ | refine wpAny_loadPart (LX.at (by assumption) 8 rfl) ?_ | refine wpAny_loadPart (LX.at (by assumption) 9 rfl) ?_ | refine wpAny_loadPart (LX.at (by assumption) 10 rfl) ?_ | refine wpAny_loadPart (LX.at (by assumption) 11 rfl) ?_ | refine wpAny_loadPart (LX.at (by assumption) 12 rfl) ?_)) | ((with_reducible show wpAny _ _ (load _) _ _ _); (with_reducible first | refine wpAny_load (by assumption) ?_ | refine wpAny_load (LX.old (by assumption) (by assumption) (by decide)) ?_ | refine wpAny_load (LX.at (by assumption) 0 rfl) ?_ | refine wpAny_load (LX.at (by assumption) 1 rfl) ?_ | refine wpAny_load (LX.at (by assumption) 2 rfl) ?_ | refine wpAny_load (LX.at (by assumption) 3 rfl) ?_ | refine wpAny_load (LX.at (by assumption) 4 rfl) ?_ | refine wpAny_load (LX.at (by assumption) 5 rfl) ?_ | refine wpAny_load (LX.at (by assumption) 6 rfl) ?_ | refine wpAny_load (LX.at (by assumption) 7 rfl) ?_ | refine wpAny_load (LX.at (by assumption) 8 rfl) ?_ | refine wpAny_load (LX.at (by assumption) 9 rfl) ?_ | refine wpAny_load (LX.at (by assumption) 10 rfl) ?_ | refine wpAny_load (LX.at (by assumption) 11 rfl) ?_ | refine wpAny_load (LX.at (by assumption) 12 rfl) ?_)) | (with_reducible refine iteFb (by with_reducible assumption) ?_) | (with_reducible refine iteTb (by with_reducible assumption) ?_) | (with_reducible refine iteTd (by kernel_rfl!) ?_) | (with_reducible refine iteFd (by kernel_rfl!) ?_) | (with_reducible refine wpAny_bind ?_) | ((with_reducible show wpAny _ _ (typeLookup (Value.ref _) _) _ _ _); unfold typeLookup) | ((fail_if_success (with_reducible show wpAny _ _ (alloc _) _ _ _)); (fail_if_success (with_reducible show wpAny _ _ (updatePart _ _ _) _ _ _)); (fail_if_success (with_reducible show wpAny _ _ (nsSet _ _ _) _ _ _)); (fail_if_success (with_reducible show wpAny _ _ (enterFrame) _ _ _)); (fail_if_success (with_reducible show wpAny _ _ (nsGet _ _) _ _ _)); (fail_if_success (with_reducible show wpAny _ _ (List.mapM mkText _) _ _ _)); (fail_if_success (with_reducible show wpAny _ _ (functionCode _ _ _ _ _ _ _ _) _ _ _)); (fail_if_success (with_reducible show wpAny _ _ (makeFunction _ _ _ _ _ _ _ _ _ _ _) _ _ _)); (fail_if_success (with_reducible show wpAny _ _ (getAttrBy _ _ _) _ _ _)); (fail_if_success (with_reducible show wpAny _ _ (run _) _ _ _)); (fail_if_success (with_reducible show wpAny _ _ (call _ _ _) _ _ _)); (fail_if_success (with_reducible show wpAny _ _ (Sem.tryCatch _ _) _ _ _)); (fail_if_success (with_reducible show wpAny _ _ (Sem.onRaise _ _) _ _ _)); wp_delta))
  refine callKw (by kernel_rfl!) ?_
  have X' : (Mine.hd.heap_39 w.params).In hs11 := fun a o e => Ds11.keep a o (X a o e) (fun q => by subst q; rw [show (Mine.hd.heap_39 w.params).lookup 38 = none from by kernel_rfl] at e; cases e)
  refine tcall (hs := fun i => match i with | 0 => hh0 | 1 => hh1 | 2 => hh2 | 3 => hh3 | 4 => hh4 | 5 => hh5 | 6 => hh6 | 7 => hh7 | 8 => hh8 | 9 => hh9 | 10 => hh10 | 11 => hh11 | _ => 0) (ks := fun i => match i with | 0 => tk0 | 1 => tk1 | 2 => tk2 | 3 => tk3 | 4 => tk4 | 5 => tk5 | 6 => tk6 | 7 => tk7 | 8 => tk8 | 9 => tk9 | 10 => tk10 | 11 => tk11 | _ => 0) (Ds11.at 2 rfl) (Ds11.at 17 rfl) (Ds11.at 16 rfl) (Ds11.at 14 rfl) (Ds11.at 12 rfl) (Ds11.at 10 rfl) (Ds11.at 8 rfl) (Ds11.at 6 rfl) (Ds11.at 4 rfl) (Ds11.at 3 rfl) hn X' rfl fun gl ogl ns md a so sob mo mob ih1 ih2 ik1 ik2 ik hx tx L6 => ?_
  have Dx := Ds11.trans L6
  clear Ds11
  repeat (first | (with_reducible refine wpAny_of_eq (by with_reducible assumption) ?_) | (with_reducible refine bEq (by with_reducible assumption) ?_) | (with_reducible refine bPure ?_) | (with_reducible refine bAssoc ?_) | (with_reducible refine bRule ?_) | (with_reducible refine wpAny_pure ?_) | (with_reducible refine wpAny_holding ?_) | (with_reducible refine wpAny_standAt ?_) | (with_reducible refine wpAny_point ?_) | (with_reducible refine wpAny_rule ?_) | (with_reducible refine fresh5 ?_) | (with_reducible refine wpAny_attempt ?_) | ((with_reducible show wpAny _ _ (loadPart _ _) _ _ _); (with_reducible first | refine wpAny_loadPart (by assumption) ?_ | refine wpAny_loadPart (LX.old (by assumption) (by assumption) (by decide)) ?_ | refine wpAny_loadPart (LX.at (by assumption) 0 rfl) ?_ | refine wpAny_loadPart (LX.at (by assumption) 1 rfl) ?_ | refine wpAny_loadPart (LX.at (by assumption) 2 rfl) ?_ | refine wpAny_loadPart (LX.at (by assumption) 3 rfl) ?_ | refine wpAny_loadPart (LX.at (by assumption) 4 rfl) ?_ | refine wpAny_loadPart (LX.at (by assumption) 5 rfl) ?_ | refine wpAny_loadPart (LX.at (by assumption) 6 rfl) ?_ | refine wpAny_loadPart (LX.at (by assumption) 7 rfl) ?_ | refine wpAny_loadPart (LX.at (by assumption) 8 rfl) ?_ | refine wpAny_loadPart (LX.at (by assumption) 9 rfl) ?_ | refine wpAny_loadPart (LX.at (by assumption) 10 rfl) ?_ | refine wpAny_loadPart (LX.at (by assumption) 11 rfl) ?_ | refine wpAny_loadPart (LX.at (by assumption) 12 rfl) ?_)) | ((with_reducible show wpAny _ _ (load _) _ _ _); (with_reducible first | refine wpAny_load (by assumption) ?_ | refine wpAny_load (LX.old (by assumption) (by assumption) (by decide)) ?_ | refine wpAny_load (LX.at (by assumption) 0 rfl) ?_ | refine wpAny_load (LX.at (by assumption) 1 rfl) ?_ | refine wpAny_load (LX.at (by assumption) 2 rfl) ?_ | refine wpAny_load (LX.at (by assumption) 3 rfl) ?_ | refine wpAny_load (LX.at (by assumption) 4 rfl) ?_ | refine wpAny_load (LX.at (by assumption) 5 rfl) ?_ | refine wpAny_load (LX.at (by assumption) 6 rfl) ?_ | refine wpAny_load (LX.at (by assumption) 7 rfl) ?_ | refine wpAny_load (LX.at (by assumption) 8 rfl) ?_ | refine wpAny_load (LX.at (by assumption) 9 rfl) ?_ | refine wpAny_load (LX.at (by assumption) 10 rfl) ?_ | refine wpAny_load (LX.at (by assumption) 11 rfl) ?_ | refine wpAny_load (LX.at (by assumption) 12 rfl) ?_)) | (with_reducible refine iteFb (by with_reducible assumption) ?_) | (with_reducible refine iteTb (by with_reducible assumption) ?_) | (with_reducible refine iteTd (by kernel_rfl!) ?_) | (with_reducible refine iteFd (by kernel_rfl!) ?_) | (with_reducible refine wpAny_bind ?_) | ((with_reducible show wpAny _ _ (typeLookup (Value.ref _) _) _ _ _); unfold typeLookup) | ((fail_if_success (with_reducible show wpAny _ _ (alloc _) _ _ _)); (fail_if_success (with_reducible show wpAny _ _ (updatePart _ _ _) _ _ _)); (fail_if_success (with_reducible show wpAny _ _ (nsSet _ _ _) _ _ _)); (fail_if_success (with_reducible show wpAny _ _ (enterFrame) _ _ _)); (fail_if_success (with_reducible show wpAny _ _ (nsGet _ _) _ _ _)); (fail_if_success (with_reducible show wpAny _ _ (List.mapM mkText _) _ _ _)); (fail_if_success (with_reducible show wpAny _ _ (functionCode _ _ _ _ _ _ _ _) _ _ _)); (fail_if_success (with_reducible show wpAny _ _ (makeFunction _ _ _ _ _ _ _ _ _ _ _) _ _ _)); (fail_if_success (with_reducible show wpAny _ _ (getAttrBy _ _ _) _ _ _)); (fail_if_success (with_reducible show wpAny _ _ (run _) _ _ _)); (fail_if_success (with_reducible show wpAny _ _ (call _ _ _) _ _ _)); (fail_if_success (with_reducible show wpAny _ _ (Sem.tryCatch _ _) _ _ _)); (fail_if_success (with_reducible show wpAny _ _ (Sem.onRaise _ _) _ _ _)); wp_delta))
  -- frK
  refine xSet (fun v hh tk => { cls := .type "frame", data := .dict #[eN hh tk "K" v] 1 }) Dx 25 rfl rfl (by kernel_rfl!) (by intro _ _; kernel_rfl!) (fun _ _ => rfl) fun hhK tkK hK tK DK => ?_
  clear Dx
  have kL := DK.at 25 (a := L) (o := { cls := .type "frame", data := .dict #[eN hhK tkK "K" (.ref a)] 1 }) rfl
  repeat (first | (with_reducible refine wpAny_of_eq (by with_reducible assumption) ?_) | (with_reducible refine bEq (by with_reducible assumption) ?_) | (with_reducible refine bPure ?_) | (with_reducible refine bAssoc ?_) | (with_reducible refine bRule ?_) | (with_reducible refine wpAny_pure ?_) | (with_reducible refine wpAny_holding ?_) | (with_reducible refine wpAny_standAt ?_) | (with_reducible refine wpAny_point ?_) | (with_reducible refine wpAny_rule ?_) | (with_reducible refine fresh5 ?_) | (with_reducible refine wpAny_attempt ?_) | ((with_reducible show wpAny _ _ (loadPart _ _) _ _ _); (with_reducible first | refine wpAny_loadPart (by assumption) ?_ | refine wpAny_loadPart (LX.old (by assumption) (by assumption) (by decide)) ?_ | refine wpAny_loadPart (LX.at (by assumption) 0 rfl) ?_ | refine wpAny_loadPart (LX.at (by assumption) 1 rfl) ?_ | refine wpAny_loadPart (LX.at (by assumption) 2 rfl) ?_ | refine wpAny_loadPart (LX.at (by assumption) 3 rfl) ?_ | refine wpAny_loadPart (LX.at (by assumption) 4 rfl) ?_ | refine wpAny_loadPart (LX.at (by assumption) 5 rfl) ?_ | refine wpAny_loadPart (LX.at (by assumption) 6 rfl) ?_ | refine wpAny_loadPart (LX.at (by assumption) 7 rfl) ?_ | refine wpAny_loadPart (LX.at (by assumption) 8 rfl) ?_ | refine wpAny_loadPart (LX.at (by assumption) 9 rfl) ?_ | refine wpAny_loadPart (LX.at (by assumption) 10 rfl) ?_ | refine wpAny_loadPart (LX.at (by assumption) 11 rfl) ?_ | refine wpAny_loadPart (LX.at (by assumption) 12 rfl) ?_)) | ((with_reducible show wpAny _ _ (load _) _ _ _); (with_reducible first | refine wpAny_load (by assumption) ?_ | refine wpAny_load (LX.old (by assumption) (by assumption) (by decide)) ?_ | refine wpAny_load (LX.at (by assumption) 0 rfl) ?_ | refine wpAny_load (LX.at (by assumption) 1 rfl) ?_ | refine wpAny_load (LX.at (by assumption) 2 rfl) ?_ | refine wpAny_load (LX.at (by assumption) 3 rfl) ?_ | refine wpAny_load (LX.at (by assumption) 4 rfl) ?_ | refine wpAny_load (LX.at (by assumption) 5 rfl) ?_ | refine wpAny_load (LX.at (by assumption) 6 rfl) ?_ | refine wpAny_load (LX.at (by assumption) 7 rfl) ?_ | refine wpAny_load (LX.at (by assumption) 8 rfl) ?_ | refine wpAny_load (LX.at (by assumption) 9 rfl) ?_ | refine wpAny_load (LX.at (by assumption) 10 rfl) ?_ | refine wpAny_load (LX.at (by assumption) 11 rfl) ?_ | refine wpAny_load (LX.at (by assumption) 12 rfl) ?_)) | (with_reducible refine iteFb (by with_reducible assumption) ?_) | (with_reducible refine iteTb (by with_reducible assumption) ?_) | (with_reducible refine iteTd (by kernel_rfl!) ?_) | (with_reducible refine iteFd (by kernel_rfl!) ?_) | (with_reducible refine wpAny_bind ?_) | ((with_reducible show wpAny _ _ (typeLookup (Value.ref _) _) _ _ _); unfold typeLookup) | ((fail_if_success (with_reducible show wpAny _ _ (alloc _) _ _ _)); (fail_if_success (with_reducible show wpAny _ _ (updatePart _ _ _) _ _ _)); (fail_if_success (with_reducible show wpAny _ _ (nsSet _ _ _) _ _ _)); (fail_if_success (with_reducible show wpAny _ _ (enterFrame) _ _ _)); (fail_if_success (with_reducible show wpAny _ _ (nsGet _ _) _ _ _)); (fail_if_success (with_reducible show wpAny _ _ (List.mapM mkText _) _ _ _)); (fail_if_success (with_reducible show wpAny _ _ (functionCode _ _ _ _ _ _ _ _) _ _ _)); (fail_if_success (with_reducible show wpAny _ _ (makeFunction _ _ _ _ _ _ _ _ _ _ _) _ _ _)); (fail_if_success (with_reducible show wpAny _ _ (getAttrBy _ _ _) _ _ _)); (fail_if_success (with_reducible show wpAny _ _ (run _) _ _ _)); (fail_if_success (with_reducible show wpAny _ _ (call _ _ _) _ _ _)); (fail_if_success (with_reducible show wpAny _ _ (Sem.tryCatch _ _) _ _ _)); (fail_if_success (with_reducible show wpAny _ _ (Sem.onRaise _ _) _ _ _)); wp_delta))
  refine xNsGet (r := some (.ref a)) DK 25 rfl (by kernel_rfl!) ?_
  repeat (first | (with_reducible refine wpAny_of_eq (by with_reducible assumption) ?_) | (with_reducible refine bEq (by with_reducible assumption) ?_) | (with_reducible refine bPure ?_) | (with_reducible refine bAssoc ?_) | (with_reducible refine bRule ?_) | (with_reducible refine wpAny_pure ?_) | (with_reducible refine wpAny_holding ?_) | (with_reducible refine wpAny_standAt ?_) | (with_reducible refine wpAny_point ?_) | (with_reducible refine wpAny_rule ?_) | (with_reducible refine fresh5 ?_) | (with_reducible refine wpAny_attempt ?_) | ((with_reducible show wpAny _ _ (loadPart _ _) _ _ _); (with_reducible first | refine wpAny_loadPart (by assumption) ?_ | refine wpAny_loadPart (LX.old (by assumption) (by assumption) (by decide)) ?_ | refine wpAny_loadPart (LX.at (by assumption) 0 rfl) ?_ | refine wpAny_loadPart (LX.at (by assumption) 1 rfl) ?_ | refine wpAny_loadPart (LX.at (by assumption) 2 rfl) ?_ | refine wpAny_loadPart (LX.at (by assumption) 3 rfl) ?_ | refine wpAny_loadPart (LX.at (by assumption) 4 rfl) ?_ | refine wpAny_loadPart (LX.at (by assumption) 5 rfl) ?_ | refine wpAny_loadPart (LX.at (by assumption) 6 rfl) ?_ | refine wpAny_loadPart (LX.at (by assumption) 7 rfl) ?_ | refine wpAny_loadPart (LX.at (by assumption) 8 rfl) ?_ | refine wpAny_loadPart (LX.at (by assumption) 9 rfl) ?_ | refine wpAny_loadPart (LX.at (by assumption) 10 rfl) ?_ | refine wpAny_loadPart (LX.at (by assumption) 11 rfl) ?_ | refine wpAny_loadPart (LX.at (by assumption) 12 rfl) ?_)) | ((with_reducible show wpAny _ _ (load _) _ _ _); (with_reducible first | refine wpAny_load (by assumption) ?_ | refine wpAny_load (LX.old (by assumption) (by assumption) (by decide)) ?_ | refine wpAny_load (LX.at (by assumption) 0 rfl) ?_ | refine wpAny_load (LX.at (by assumption) 1 rfl) ?_ | refine wpAny_load (LX.at (by assumption) 2 rfl) ?_ | refine wpAny_load (LX.at (by assumption) 3 rfl) ?_ | refine wpAny_load (LX.at (by assumption) 4 rfl) ?_ | refine wpAny_load (LX.at (by assumption) 5 rfl) ?_ | refine wpAny_load (LX.at (by assumption) 6 rfl) ?_ | refine wpAny_load (LX.at (by assumption) 7 rfl) ?_ | refine wpAny_load (LX.at (by assumption) 8 rfl) ?_ | refine wpAny_load (LX.at (by assumption) 9 rfl) ?_ | refine wpAny_load (LX.at (by assumption) 10 rfl) ?_ | refine wpAny_load (LX.at (by assumption) 11 rfl) ?_ | refine wpAny_load (LX.at (by assumption) 12 rfl) ?_)) | (with_reducible refine iteFb (by with_reducible assumption) ?_) | (with_reducible refine iteTb (by with_reducible assumption) ?_) | (with_reducible refine iteTd (by kernel_rfl!) ?_) | (with_reducible refine iteFd (by kernel_rfl!) ?_) | (with_reducible refine wpAny_bind ?_) | ((with_reducible show wpAny _ _ (typeLookup (Value.ref _) _) _ _ _); unfold typeLookup) | ((fail_if_success (with_reducible show wpAny _ _ (alloc _) _ _ _)); (fail_if_success (with_reducible show wpAny _ _ (updatePart _ _ _) _ _ _)); (fail_if_success (with_reducible show wpAny _ _ (nsSet _ _ _) _ _ _)); (fail_if_success (with_reducible show wpAny _ _ (enterFrame) _ _ _)); (fail_if_success (with_reducible show wpAny _ _ (nsGet _ _) _ _ _)); (fail_if_success (with_reducible show wpAny _ _ (List.mapM mkText _) _ _ _)); (fail_if_success (with_reducible show wpAny _ _ (functionCode _ _ _ _ _ _ _ _) _ _ _)); (fail_if_success (with_reducible show wpAny _ _ (makeFunction _ _ _ _ _ _ _ _ _ _ _) _ _ _)); (fail_if_success (with_reducible show wpAny _ _ (getAttrBy _ _ _) _ _ _)); (fail_if_success (with_reducible show wpAny _ _ (run _) _ _ _)); (fail_if_success (with_reducible show wpAny _ _ (call _ _ _) _ _ _)); (fail_if_success (with_reducible show wpAny _ _ (Sem.tryCatch _ _) _ _ _)); (fail_if_success (with_reducible show wpAny _ _ (Sem.onRaise _ _) _ _ _)); wp_delta))
  have DF := LX.sub (news' := _ :: _ :: _ :: _ :: _ :: _ :: _ :: _ :: _ :: []) DK (.cons _ (.cons _ (.cons_cons _ (.cons_cons _ (.cons_cons _ (.cons _ (.cons _ (.cons _ (.cons _ (.cons _ (.cons _ (.cons _ (.cons _ (.cons _ (.cons _ (.cons _ (.cons _ (.cons _ (.cons_cons _ (.cons_cons _ (.cons_cons _ (.cons_cons _ (.cons _ (.cons _ (.cons_cons _ (.cons _ (.cons_cons _ (.slnil)))))))))))))))))))))))))))) (.tail _ (.tail _ (.tail _ (.tail _ (.tail _ (.tail _ (.tail _ (.tail _ (.head _)))))))))
  clear hr1
  subst hA1 hK1 hE1
  dsimp only
  repeat (first | (with_reducible refine wpAny_of_eq (by with_reducible assumption) ?_) | (with_reducible refine bEq (by with_reducible assumption) ?_) | (with_reducible refine bPure ?_) | (with_reducible refine bAssoc ?_) | (with_reducible refine bRule ?_) | (with_reducible refine wpAny_pure ?_) | (with_reducible refine wpAny_holding ?_) | (with_reducible refine wpAny_standAt ?_) | (with_reducible refine wpAny_point ?_) | (with_reducible refine wpAny_rule ?_) | (with_reducible refine fresh5 ?_) | (with_reducible refine wpAny_attempt ?_) | ((with_reducible show wpAny _ _ (loadPart _ _) _ _ _); (with_reducible first | refine wpAny_loadPart (by assumption) ?_ | refine wpAny_loadPart (LX.old (by assumption) (by assumption) (by decide)) ?_ | refine wpAny_loadPart (LX.at (by assumption) 0 rfl) ?_ | refine wpAny_loadPart (LX.at (by assumption) 1 rfl) ?_ | refine wpAny_loadPart (LX.at (by assumption) 2 rfl) ?_ | refine wpAny_loadPart (LX.at (by assumption) 3 rfl) ?_ | refine wpAny_loadPart (LX.at (by assumption) 4 rfl) ?_ | refine wpAny_loadPart (LX.at (by assumption) 5 rfl) ?_ | refine wpAny_loadPart (LX.at (by assumption) 6 rfl) ?_ | refine wpAny_loadPart (LX.at (by assumption) 7 rfl) ?_ | refine wpAny_loadPart (LX.at (by assumption) 8 rfl) ?_ | refine wpAny_loadPart (LX.at (by assumption) 9 rfl) ?_ | refine wpAny_loadPart (LX.at (by assumption) 10 rfl) ?_ | refine wpAny_loadPart (LX.at (by assumption) 11 rfl) ?_ | refine wpAny_loadPart (LX.at (by assumption) 12 rfl) ?_)) | ((with_reducible show wpAny _ _ (load _) _ _ _); (with_reducible first | refine wpAny_load (by assumption) ?_ | refine wpAny_load (LX.old (by assumption) (by assumption) (by decide)) ?_ | refine wpAny_load (LX.at (by assumption) 0 rfl) ?_ | refine wpAny_load (LX.at (by assumption) 1 rfl) ?_ | refine wpAny_load (LX.at (by assumption) 2 rfl) ?_ | refine wpAny_load (LX.at (by assumption) 3 rfl) ?_ | refine wpAny_load (LX.at (by assumption) 4 rfl) ?_ | refine wpAny_load (LX.at (by assumption) 5 rfl) ?_ | refine wpAny_load (LX.at (by assumption) 6 rfl) ?_ | refine wpAny_load (LX.at (by assumption) 7 rfl) ?_ | refine wpAny_load (LX.at (by assumption) 8 rfl) ?_ | refine wpAny_load (LX.at (by assumption) 9 rfl) ?_ | refine wpAny_load (LX.at (by assumption) 10 rfl) ?_ | refine wpAny_load (LX.at (by assumption) 11 rfl) ?_ | refine wpAny_load (LX.at (by assumption) 12 rfl) ?_)) | (with_reducible refine iteFb (by with_reducible assumption) ?_) | (with_reducible refine iteTb (by with_reducible assumption) ?_) | (with_reducible refine iteTd (by kernel_rfl!) ?_) | (with_reducible refine iteFd (by kernel_rfl!) ?_) | (with_reducible refine wpAny_bind ?_) | ((with_reducible show wpAny _ _ (typeLookup (Value.ref _) _) _ _ _); unfold typeLookup) | ((fail_if_success (with_reducible show wpAny _ _ (alloc _) _ _ _)); (fail_if_success (with_reducible show wpAny _ _ (updatePart _ _ _) _ _ _)); (fail_if_success (with_reducible show wpAny _ _ (nsSet _ _ _) _ _ _)); (fail_if_success (with_reducible show wpAny _ _ (enterFrame) _ _ _)); (fail_if_success (with_reducible show wpAny _ _ (nsGet _ _) _ _ _)); (fail_if_success (with_reducible show wpAny _ _ (List.mapM mkText _) _ _ _)); (fail_if_success (with_reducible show wpAny _ _ (functionCode _ _ _ _ _ _ _ _) _ _ _)); (fail_if_success (with_reducible show wpAny _ _ (makeFunction _ _ _ _ _ _ _ _ _ _ _) _ _ _)); (fail_if_success (with_reducible show wpAny _ _ (getAttrBy _ _ _) _ _ _)); (fail_if_success (with_reducible show wpAny _ _ (run _) _ _ _)); (fail_if_success (with_reducible show wpAny _ _ (call _ _ _) _ _ _)); (fail_if_success (with_reducible show wpAny _ _ (Sem.tryCatch _ _) _ _ _)); (fail_if_success (with_reducible show wpAny _ _ (Sem.onRaise _ _) _ _ _)); wp_delta))
  refine hQ md a ns bt t12 t14 t13 sl f1 f2 f3 f4 f5 f6 sa (fun i => match i with | 0 => hh0 | 1 => hh1 | 2 => hh2 | 3 => hh3 | 4 => hh4 | 5 => hh5 | 6 => hh6 | 7 => hh7 | 8 => hh8 | 9 => hh9 | 10 => hh10 | 11 => hh11 | _ => 0) (fun i => match i with | 0 => tk0 | 1 => tk1 | 2 => tk2 | 3 => tk3 | 4 => tk4 | 5 => tk5 | 6 => tk6 | 7 => tk7 | 8 => tk8 | 9 => tk9 | 10 => tk10 | 11 => tk11 | _ => 0) ih1 ih2 ik1 ik2 ik cl ct1 kf0 kf1 tb0 tb1 (Str.ofString "/claim/cut.py") k00 k10 k20 k180 w30 w40 w50 w60 w70 w80 w90 w100 w120 w130 w140 w150 w160 w170 k01 k11 k21 k181 w31 w41 w51 w61 w71 w81 w91 w101 w121 w131 w141 w151 w161 w171 #[rawInt 53, rawInt 4, .ref kc] hK tK (LX.eq (by kernel_rfl!) DF)
end Mine
end PartCB
section PartLT2
open PySem PySem.W PySem.Calls PyProof.Rows PySem.W.X
set_option maxRecDepth 100000
set_option maxHeartbeats 8000000
namespace Mine
theorem nsGetH {prog : Program} {w : World} {A : Around} {E : Value → Shared → Prop} {h : Heap} {g : Array GenState} {d : Drawn} {t : Nat} {os : OsState} {n : Addr} {name : Str} {o : Obj} {r : Option Value} {Q : Option Value → Shared → Prop} (hn : h.get? n = some o) (e : nsLook name o = pure r) (hq : Q r ⟨h, g, d, t, os⟩) : wpAny (model prog w) A (nsGet n name) Q E ⟨h, g, d, t, os⟩ := by
  unfold nsGet
  exact wpAny_bind (wpAny_loadPart hn (wpAny_of_eq e hq))
local macro_rules | `(tactic| x_close) => `(tactic| (apply_assumption; first | assumption | exact Mem.start _))
theorem ogaObj {w : World} {A : Around} {Q E : Value → Shared → Prop} {h : Heap} {g : Array GenState} {d : Drawn} {t k : Nat} {os : OsState} {md a ns bt sl f1 f2 f3 f4 f5 f6 sa x dx : Addr} {qt mt ft nt : Tok} {hs : Nat → Int} {ks : Nat → Tok} {ih1 ih2 : Int} {ik1 ik2 ik : Tok} {i : Int} {u : Tok}
   (X : (Mine.hd.heap_39 w.params).In h)
   (hmd : h.get? md = some { cls := .type "member_descriptor", data := .fields #[.str (Str.ofString "obj") ik, .ref a, .builtin "proto.slot", .builtin "proto.slot#set", rawInt 0] })
   (ha : h.get? a = some { cls := .type "type", data := .cls { name := Str.ofString "K", bases := [.type "object"], mro := [.ref a, .type "object"], ns := ns, qualname := Str.ofString "cmp_to_key.<locals>.K", hasDict := false, slotNames := [Str.ofString "obj"] }, slots := #[some (.ref bt), none, some (.str (Str.ofString "K") nt), some (.str (Str.ofString "cmp_to_key.<locals>.K") qt), some (.builtin "object.__new__"), some (.bool false)] })
   (hns : h.get? ns = some { cls := .type "dict", data := .dict (entsF hs ks (.str (Str.ofString "cpy313.functools") mt) (.int 53 ft) sl f1 f2 f3 f4 f5 f6 sa md ih1 ih2 ik1 ik2).toArray 3 })
   (hx : h.get? x = some { cls := .ref a, dict := some dx, data := .plain, slots := #[some (.int i u)] })
   (hQ : ∀ h' t', Mem h h' [] [] → Q (.int i u) ⟨h', g, d, t', os⟩) :
   wpAny (model PySem.Challenge.rw_oy0064_01.row.prog w) A (runValue (.builtin "proto.getattr_hooked" ⟨[.ref x, .str (Str.ofString "obj") k], []⟩)) Q E ⟨h, g, d, t, os⟩ := by
  k_fill
  x_run
theorem getObj {w : World} {A : Around} {Q E : Value → Shared → Prop} {h : Heap} {g : Array GenState} {d : Drawn} {t k : Nat} {os : OsState} {md a ns bt sl f1 f2 f3 f4 f5 f6 sa x dx : Addr} {qt mt ft nt : Tok} {hs : Nat → Int} {ks : Nat → Tok} {ih1 ih2 : Int} {ik1 ik2 ik : Tok} {i : Int} {u : Tok}
   (X : (Mine.hd.heap_39 w.params).In h)
   (hmd : h.get? md = some { cls := .type "member_descriptor", data := .fields #[.str (Str.ofString "obj") ik, .ref a, .builtin "proto.slot", .builtin "proto.slot#set", rawInt 0] })
   (ha : h.get? a = some { cls := .type "type", data := .cls { name := Str.ofString "K", bases := [.type "object"], mro := [.ref a, .type "object"], ns := ns, qualname := Str.ofString "cmp_to_key.<locals>.K", hasDict := false, slotNames := [Str.ofString "obj"] }, slots := #[some (.ref bt), none, some (.str (Str.ofString "K") nt), some (.str (Str.ofString "cmp_to_key.<locals>.K") qt), some (.builtin "object.__new__"), some (.bool false)] })
   (hns : h.get? ns = some { cls := .type "dict", data := .dict (entsF hs ks (.str (Str.ofString "cpy313.functools") mt) (.int 53 ft) sl f1 f2 f3 f4 f5 f6 sa md ih1 ih2 ik1 ik2).toArray 3 })
   (hx : h.get? x = some { cls := .ref a, dict := some dx, data := .plain, slots := #[some (.int i u)] })
   (hQ : ∀ h' t', Mem h h' [] [] → Q (.int i u) ⟨h', g, d, t', os⟩) :
   wpAny (model PySem.Challenge.rw_oy0064_01.row.prog w) A (getAttr (.ref x) (Str.ofString "obj") true) Q E ⟨h, g, d, t, os⟩ := by
  have eB : classOwn (.type "object") (Str.ofString "__getattribute__") = pure (some (.builtin "object.__getattribute__")) := by kernel_rfl
  have eC : bindSpecial (.builtin "object.__getattribute__") (.ref x) = pure (.builtin "object.__getattribute__", [.ref x]) := by kernel_rfl
  unfold getAttr getAttrBy
  repeat (first | (with_reducible refine wpAny_of_eq (by with_reducible assumption) ?_) | (with_reducible refine bEq (by with_reducible assumption) ?_) | (with_reducible refine bPure ?_) | (with_reducible refine bAssoc ?_) | (with_reducible refine bRule ?_) | (with_reducible refine wpAny_pure ?_) | (with_reducible refine wpAny_holding ?_) | (with_reducible refine wpAny_standAt ?_) | (with_reducible refine wpAny_point ?_) | (with_reducible refine wpAny_rule ?_) | (with_reducible refine fresh5 ?_) | (with_reducible refine wpAny_attempt ?_) | ((with_reducible show wpAny _ _ (loadPart _ _) _ _ _); (with_reducible first | refine wpAny_loadPart (by assumption) ?_ | refine wpAny_loadPart (LX.old (by assumption) (by assumption) (by decide)) ?_ | refine wpAny_loadPart (LX.at (by assumption) 0 rfl) ?_ | refine wpAny_loadPart (LX.at (by assumption) 1 rfl) ?_ | refine wpAny_loadPart (LX.at (by assumption) 2 rfl) ?_ | refine wpAny_loadPart (LX.at (by assumption) 3 rfl) ?_ | refine wpAny_loadPart (LX.at (by assumption) 4 rfl) ?_ | refine wpAny_loadPart (LX.at (by assumption) 5 rfl) ?_ | refine wpAny_loadPart (LX.at (by assumption) 6 rfl) ?_ | refine wpAny_loadPart (LX.at (by assumption) 7 rfl) ?_ | refine wpAny_loadPart (LX.at (by assumption) 8 rfl) ?_ | refine wpAny_loadPart (LX.at (by assumption) 9 rfl) ?_ | refine wpAny_loadPart (LX.at (by assumption) 10 rfl) ?_ | refine wpAny_loadPart (LX.at (by assumption) 11 rfl) ?_ | refine wpAny_loadPart (LX.at (by assumption) 12 rfl) ?_)) | ((with_reducible show wpAny _ _ (load _) _ _ _); (with_reducible first | refine wpAny_load (by assumption) ?_ | refine wpAny_load (LX.old (by assumption) (by assumption) (by decide)) ?_ | refine wpAny_load (LX.at (by assumption) 0 rfl) ?_ | refine wpAny_load (LX.at (by assumption) 1 rfl) ?_ | refine wpAny_load (LX.at (by assumption) 2 rfl) ?_ | refine wpAny_load (LX.at (by assumption) 3 rfl) ?_ | refine wpAny_load (LX.at (by assumption) 4 rfl) ?_ | refine wpAny_load (LX.at (by assumption) 5 rfl) ?_ | refine wpAny_load (LX.at (by assumption) 6 rfl) ?_ | refine wpAny_load (LX.at (by assumption) 7 rfl) ?_ | refine wpAny_load (LX.at (by assumption) 8 rfl) ?_ | refine wpAny_load (LX.at (by assumption) 9 rfl) ?_ | refine wpAny_load (LX.at (by assumption) 10 rfl) ?_ | refine wpAny_load (LX.at (by assumption) 11 rfl) ?_ | refine wpAny_load (LX.at (by assumption) 12 rfl) ?_)) | (with_reducible refine iteFb (by with_reducible assumption) ?_) | (with_reducible refine iteTb (by with_reducible assumption) ?_) | (with_reducible refine iteTd (by kernel_rfl!) ?_) | (with_reducible refine iteFd (by kernel_rfl!) ?_) | (with_reducible refine wpAny_bind ?_) | ((with_reducible show wpAny _ _ (typeLookup (Value.ref _) _) _ _ _); unfold typeLookup) | ((fail_if_success (with_reducible show wpAny _ _ (alloc _) _ _ _)); (fail_if_success (with_reducible show wpAny _ _ (updatePart _ _ _) _ _ _)); (fail_if_success (with_reducible show wpAny _ _ (nsSet _ _ _) _ _ _)); (fail_if_success (with_reducible show wpAny _ _ (enterFrame) _ _ _)); (fail_if_success (with_reducible show wpAny _ _ (nsGet _ _) _ _ _)); (fail_if_success (with_reducible show wpAny _ _ (List.mapM mkText _) _ _ _)); (fail_if_success (with_reducible show wpAny _ _ (functionCode _ _ _ _ _ _ _ _) _ _ _)); (fail_if_success (with_reducible show wpAny _ _ (makeFunction _ _ _ _ _ _ _ _ _ _ _) _ _ _)); (fail_if_success (with_reducible show wpAny _ _ (getAttrBy _ _ _) _ _ _)); (fail_if_success (with_reducible show wpAny _ _ (run _) _ _ _)); (fail_if_success (with_reducible show wpAny _ _ (call _ _ _) _ _ _)); (fail_if_success (with_reducible show wpAny _ _ (Sem.tryCatch _ _) _ _ _)); (fail_if_success (with_reducible show wpAny _ _ (Sem.onRaise _ _) _ _ _)); wp_delta))
  refine nsGetH (r := none) hns (by kernel_rfl!) ?_
  repeat (first | (with_reducible refine wpAny_of_eq (by with_reducible assumption) ?_) | (with_reducible refine bEq (by with_reducible assumption) ?_) | (with_reducible refine bPure ?_) | (with_reducible refine bAssoc ?_) | (with_reducible refine bRule ?_) | (with_reducible refine wpAny_pure ?_) | (with_reducible refine wpAny_holding ?_) | (with_reducible refine wpAny_standAt ?_) | (with_reducible refine wpAny_point ?_) | (with_reducible refine wpAny_rule ?_) | (with_reducible refine fresh5 ?_) | (with_reducible refine wpAny_attempt ?_) | ((with_reducible show wpAny _ _ (loadPart _ _) _ _ _); (with_reducible first | refine wpAny_loadPart (by assumption) ?_ | refine wpAny_loadPart (LX.old (by assumption) (by assumption) (by decide)) ?_ | refine wpAny_loadPart (LX.at (by assumption) 0 rfl) ?_ | refine wpAny_loadPart (LX.at (by assumption) 1 rfl) ?_ | refine wpAny_loadPart (LX.at (by assumption) 2 rfl) ?_ | refine wpAny_loadPart (LX.at (by assumption) 3 rfl) ?_ | refine wpAny_loadPart (LX.at (by assumption) 4 rfl) ?_ | refine wpAny_loadPart (LX.at (by assumption) 5 rfl) ?_ | refine wpAny_loadPart (LX.at (by assumption) 6 rfl) ?_ | refine wpAny_loadPart (LX.at (by assumption) 7 rfl) ?_ | refine wpAny_loadPart (LX.at (by assumption) 8 rfl) ?_ | refine wpAny_loadPart (LX.at (by assumption) 9 rfl) ?_ | refine wpAny_loadPart (LX.at (by assumption) 10 rfl) ?_ | refine wpAny_loadPart (LX.at (by assumption) 11 rfl) ?_ | refine wpAny_loadPart (LX.at (by assumption) 12 rfl) ?_)) | ((with_reducible show wpAny _ _ (load _) _ _ _); (with_reducible first | refine wpAny_load (by assumption) ?_ | refine wpAny_load (LX.old (by assumption) (by assumption) (by decide)) ?_ | refine wpAny_load (LX.at (by assumption) 0 rfl) ?_ | refine wpAny_load (LX.at (by assumption) 1 rfl) ?_ | refine wpAny_load (LX.at (by assumption) 2 rfl) ?_ | refine wpAny_load (LX.at (by assumption) 3 rfl) ?_ | refine wpAny_load (LX.at (by assumption) 4 rfl) ?_ | refine wpAny_load (LX.at (by assumption) 5 rfl) ?_ | refine wpAny_load (LX.at (by assumption) 6 rfl) ?_ | refine wpAny_load (LX.at (by assumption) 7 rfl) ?_ | refine wpAny_load (LX.at (by assumption) 8 rfl) ?_ | refine wpAny_load (LX.at (by assumption) 9 rfl) ?_ | refine wpAny_load (LX.at (by assumption) 10 rfl) ?_ | refine wpAny_load (LX.at (by assumption) 11 rfl) ?_ | refine wpAny_load (LX.at (by assumption) 12 rfl) ?_)) | (with_reducible refine iteFb (by with_reducible assumption) ?_) | (with_reducible refine iteTb (by with_reducible assumption) ?_) | (with_reducible refine iteTd (by kernel_rfl!) ?_) | (with_reducible refine iteFd (by kernel_rfl!) ?_) | (with_reducible refine wpAny_bind ?_) | ((with_reducible show wpAny _ _ (typeLookup (Value.ref _) _) _ _ _); unfold typeLookup) | ((fail_if_success (with_reducible show wpAny _ _ (alloc _) _ _ _)); (fail_if_success (with_reducible show wpAny _ _ (updatePart _ _ _) _ _ _)); (fail_if_success (with_reducible show wpAny _ _ (nsSet _ _ _) _ _ _)); (fail_if_success (with_reducible show wpAny _ _ (enterFrame) _ _ _)); (fail_if_success (with_reducible show wpAny _ _ (nsGet _ _) _ _ _)); (fail_if_success (with_reducible show wpAny _ _ (List.mapM mkText _) _ _ _)); (fail_if_success (with_reducible show wpAny _ _ (functionCode _ _ _ _ _ _ _ _) _ _ _)); (fail_if_success (with_reducible show wpAny _ _ (makeFunction _ _ _ _ _ _ _ _ _ _ _) _ _ _)); (fail_if_success (with_reducible show wpAny _ _ (getAttrBy _ _ _) _ _ _)); (fail_if_success (with_reducible show wpAny _ _ (run _) _ _ _)); (fail_if_success (with_reducible show wpAny _ _ (call _ _ _) _ _ _)); (fail_if_success (with_reducible show wpAny _ _ (Sem.tryCatch _ _) _ _ _)); (fail_if_success (with_reducible show wpAny _ _ (Sem.onRaise _ _) _ _ _)); wp_delta))
  refine wpAny_onRaise ?_
  refine ogaObj X hmd ha hns hx fun h' t' D' => ?_
  repeat (first | (with_reducible refine wpAny_of_eq (by with_reducible assumption) ?_) | (with_reducible refine bEq (by with_reducible assumption) ?_) | (with_reducible refine bPure ?_) | (with_reducible refine bAssoc ?_) | (with_reducible refine bRule ?_) | (with_reducible refine wpAny_pure ?_) | (with_reducible refine wpAny_holding ?_) | (with_reducible refine wpAny_standAt ?_) | (with_reducible refine wpAny_point ?_) | (with_reducible refine wpAny_rule ?_) | (with_reducible refine fresh5 ?_) | (with_reducible refine wpAny_attempt ?_) | ((with_reducible show wpAny _ _ (loadPart _ _) _ _ _); (with_reducible first | refine wpAny_loadPart (by assumption) ?_ | refine wpAny_loadPart (LX.old (by assumption) (by assumption) (by decide)) ?_ | refine wpAny_loadPart (LX.at (by assumption) 0 rfl) ?_ | refine wpAny_loadPart (LX.at (by assumption) 1 rfl) ?_ | refine wpAny_loadPart (LX.at (by assumption) 2 rfl) ?_ | refine wpAny_loadPart (LX.at (by assumption) 3 rfl) ?_ | refine wpAny_loadPart (LX.at (by assumption) 4 rfl) ?_ | refine wpAny_loadPart (LX.at (by assumption) 5 rfl) ?_ | refine wpAny_loadPart (LX.at (by assumption) 6 rfl) ?_ | refine wpAny_loadPart (LX.at (by assumption) 7 rfl) ?_ | refine wpAny_loadPart (LX.at (by assumption) 8 rfl) ?_ | refine wpAny_loadPart (LX.at (by assumption) 9 rfl) ?_ | refine wpAny_loadPart (LX.at (by assumption) 10 rfl) ?_ | refine wpAny_loadPart (LX.at (by assumption) 11 rfl) ?_ | refine wpAny_loadPart (LX.at (by assumption) 12 rfl) ?_)) | ((with_reducible show wpAny _ _ (load _) _ _ _); (with_reducible first | refine wpAny_load (by assumption) ?_ | refine wpAny_load (LX.old (by assumption) (by assumption) (by decide)) ?_ | refine wpAny_load (LX.at (by assumption) 0 rfl) ?_ | refine wpAny_load (LX.at (by assumption) 1 rfl) ?_ | refine wpAny_load (LX.at (by assumption) 2 rfl) ?_ | refine wpAny_load (LX.at (by assumption) 3 rfl) ?_ | refine wpAny_load (LX.at (by assumption) 4 rfl) ?_ | refine wpAny_load (LX.at (by assumption) 5 rfl) ?_ | refine wpAny_load (LX.at (by assumption) 6 rfl) ?_ | refine wpAny_load (LX.at (by assumption) 7 rfl) ?_ | refine wpAny_load (LX.at (by assumption) 8 rfl) ?_ | refine wpAny_load (LX.at (by assumption) 9 rfl) ?_ | refine wpAny_load (LX.at (by assumption) 10 rfl) ?_ | refine wpAny_load (LX.at (by assumption) 11 rfl) ?_ | refine wpAny_load (LX.at (by assumption) 12 rfl) ?_)) | (with_reducible refine iteFb (by with_reducible assumption) ?_) | (with_reducible refine iteTb (by with_reducible assumption) ?_) | (with_reducible refine iteTd (by kernel_rfl!) ?_) | (with_reducible refine iteFd (by kernel_rfl!) ?_) | (with_reducible refine wpAny_bind ?_) | ((with_reducible show wpAny _ _ (typeLookup (Value.ref _) _) _ _ _); unfold typeLookup) | ((fail_if_success (with_reducible show wpAny _ _ (alloc _) _ _ _)); (fail_if_success (with_reducible show wpAny _ _ (updatePart _ _ _) _ _ _)); (fail_if_success (with_reducible show wpAny _ _ (nsSet _ _ _) _ _ _)); (fail_if_success (with_reducible show wpAny _ _ (enterFrame) _ _ _)); (fail_if_success (with_reducible show wpAny _ _ (nsGet _ _) _ _ _)); (fail_if_success (with_reducible show wpAny _ _ (List.mapM mkText _) _ _ _)); (fail_if_success (with_reducible show wpAny _ _ (functionCode _ _ _ _ _ _ _ _) _ _ _)); (fail_if_success (with_reducible show wpAny _ _ (makeFunction _ _ _ _ _ _ _ _ _ _ _) _ _ _)); (fail_if_success (with_reducible show wpAny _ _ (getAttrBy _ _ _) _ _ _)); (fail_if_success (with_reducible show wpAny _ _ (run _) _ _ _)); (fail_if_success (with_reducible show wpAny _ _ (call _ _ _) _ _ _)); (fail_if_success (with_reducible show wpAny _ _ (Sem.tryCatch _ _) _ _ _)); (fail_if_success (with_reducible show wpAny _ _ (Sem.onRaise _ _) _ _ _)); wp_delta))
  exact hQ _ _ D'
theorem ltK {w : World} {file : Str} {A : Around} {Q E : Value → Shared → Prop} {h : Heap} {g : Array GenState} {d : Drawn} {t : Nat} {os : OsState} {md a ns bt sl f1 f2 f3 f4 f5 f6 sa x dx y dy f cl ct kf1 tb1 : Addr} {qt mt ft nt : Tok} {hs : Nat → Int} {ks : Nat → Tok} {ih1 ih2 : Int} {ik1 ik2 ik : Tok} {i j c : Int} {u v : Tok} {od0 : Option Addr} {fd0 : FuncData} {os0 : Array (Option Value)} {k0 k1 k2 k18 : Tok} {v3 v4 v5 v6 v7 v8 v9 v10 v12 v13 v14 v15 v16 v17 : Value}
   (X : (Mine.hd.heap_39 w.params).In h) (hlim : h.NoLimit) (hroom : A.depth + 2 < recursionLimit)
   (hmd : h.get? md = some { cls := .type "member_descriptor", data := .fields #[.str (Str.ofString "obj") ik, .ref a, .builtin "proto.slot", .builtin "proto.slot#set", rawInt 0] })
   (ha : h.get? a = some { cls := .type "type", data := .cls { name := Str.ofString "K", bases := [.type "object"], mro := [.ref a, .type "object"], ns := ns, qualname := Str.ofString "cmp_to_key.<locals>.K", hasDict := false, slotNames := [Str.ofString "obj"] }, slots := #[some (.ref bt), none, some (.str (Str.ofString "K") nt), some (.str (Str.ofString "cmp_to_key.<locals>.K") qt), some (.builtin "object.__new__"), some (.bool false)] })
   (hns : h.get? ns = some { cls := .type "dict", data := .dict (entsF hs ks (.str (Str.ofString "cpy313.functools") mt) (.int 53 ft) sl f1 f2 f3 f4 f5 f6 sa md ih1 ih2 ik1 ik2).toArray 3 })
   (hx : h.get? x = some { cls := .ref a, dict := some dx, data := .plain, slots := #[some (.int i u)] }) (hy : h.get? y = some { cls := .ref a, dict := some dy, data := .plain, slots := #[some (.int j v)] })
   (hf2 : h.get? f2 = some (funK w.params 3 "__lt__" [(Str.ofString "mycmp", cl)] (.ref ct) kf1)) (hcl : h.get? cl = some { cls := .type "cell", data := .cell (some (.ref f)) })
   (hk1 : h.get? kf1 = some (codeO (Str.ofString "__lt__") (Str.ofString "cmp_to_key.<locals>.K.__lt__") file k0 k1 k2 k18 v3 v4 v5 v6 v7 v8 v9 v10 v12 v13 v14 v15 v16 v17 tb1))
   (hf : h.get? f = some ⟨.type "function", od0, .func fd0, os0⟩)
   (HC : ∀ (A' : Around) (h₁ : Heap) (n1 : List (Addr × Obj)) (t₁ : Nat) (Q' E' : Value → Shared → Prop), A'.depth = A.depth + 1 → A'.units ≤ A.units + 30 → A'.handled = A.handled → LM h h₁ n1 → (∀ k h₂ t₂ n2, LM h₁ h₂ n2 → Q' (.int c k) ⟨h₂, g, d, t₂, os⟩) →
      wpAny (model PySem.Challenge.rw_oy0064_01.row.prog w) A' (call (.ref f) [.int i u, .int j v]) Q' E' ⟨h₁, g, d, t₁, os⟩)
   (hQ : ∀ h' t' n', LM h h' n' → Q (.bool (decide (c < 0))) ⟨h', g, d, t', os⟩) :
   wpAny (model PySem.Challenge.rw_oy0064_01.row.prog w) A (call (.ref f2) [.ref x, .ref y]) Q E ⟨h, g, d, t, os⟩ := by
  k_fill
  have hcr : h.CodeRec (.ref kf1) (Str.ofString "cmp_to_key.<locals>.K.__lt__") := ⟨_, _, _, _, rfl, hk1, rfl, rfl⟩
  have e3 : defAt w.params 3 = defAt w.params 3 := rfl
  conv at e3 => rhs; whnf
  unfold funK at hf2
  rw [e3] at hf2
  dsimp only at hf2
  refine wpAny_call ?_
  refine codeAny_call_function (by show A.depth < _; omega) hf2 rfl (by kernel_rfl!) (by kernel_rfl!) rfl hcr ?_
  have D0 := LX.start hcl
  refine wpAny_of_eq (a := [(Str.ofString "self", .ref x), (Str.ofString "other", .ref y)]) (by kernel_rfl!) ?_
  unfold newFunctionEnv
  repeat (first | (with_reducible refine wpAny_of_eq (by with_reducible assumption) ?_) | (with_reducible refine bEq (by with_reducible assumption) ?_) | (with_reducible refine bPure ?_) | (with_reducible refine bAssoc ?_) | (with_reducible refine bRule ?_) | (with_reducible refine wpAny_pure ?_) | (with_reducible refine wpAny_holding ?_) | (with_reducible refine wpAny_standAt ?_) | (with_reducible refine wpAny_point ?_) | (with_reducible refine wpAny_rule ?_) | (with_reducible refine fresh5 ?_) | (with_reducible refine wpAny_attempt ?_) | ((with_reducible show wpAny _ _ (loadPart _ _) _ _ _); (with_reducible first | refine wpAny_loadPart (by assumption) ?_ | refine wpAny_loadPart (LX.old (by assumption) (by assumption) (by decide)) ?_ | refine wpAny_loadPart (LX.at (by assumption) 0 rfl) ?_ | refine wpAny_loadPart (LX.at (by assumption) 1 rfl) ?_ | refine wpAny_loadPart (LX.at (by assumption) 2 rfl) ?_ | refine wpAny_loadPart (LX.at (by assumption) 3 rfl) ?_ | refine wpAny_loadPart (LX.at (by assumption) 4 rfl) ?_ | refine wpAny_loadPart (LX.at (by assumption) 5 rfl) ?_ | refine wpAny_loadPart (LX.at (by assumption) 6 rfl) ?_ | refine wpAny_loadPart (LX.at (by assumption) 7 rfl) ?_ | refine wpAny_loadPart (LX.at (by assumption) 8 rfl) ?_ | refine wpAny_loadPart (LX.at (by assumption) 9 rfl) ?_ | refine wpAny_loadPart (LX.at (by assumption) 10 rfl) ?_ | refine wpAny_loadPart (LX.at (by assumption) 11 rfl) ?_ | refine wpAny_loadPart (LX.at (by assumption) 12 rfl) ?_)) | ((with_reducible show wpAny _ _ (load _) _ _ _); (with_reducible first | refine wpAny_load (by assumption) ?_ | refine wpAny_load (LX.old (by assumption) (by assumption) (by decide)) ?_ | refine wpAny_load (LX.at (by assumption) 0 rfl) ?_ | refine wpAny_load (LX.at (by assumption) 1 rfl) ?_ | refine wpAny_load (LX.at (by assumption) 2 rfl) ?_ | refine wpAny_load (LX.at (by assumption) 3 rfl) ?_ | refine wpAny_load (LX.at (by assumption) 4 rfl) ?_ | refine wpAny_load (LX.at (by assumption) 5 rfl) ?_ | refine wpAny_load (LX.at (by assumption) 6 rfl) ?_ | refine wpAny_load (LX.at (by assumption) 7 rfl) ?_ | refine wpAny_load (LX.at (by assumption) 8 rfl) ?_ | refine wpAny_load (LX.at (by assumption) 9 rfl) ?_ | refine wpAny_load (LX.at (by assumption) 10 rfl) ?_ | refine wpAny_load (LX.at (by assumption) 11 rfl) ?_ | refine wpAny_load (LX.at (by assumption) 12 rfl) ?_)) | (with_reducible refine iteFb (by with_reducible assumption) ?_) | (with_reducible refine iteTb (by with_reducible assumption) ?_) | (with_reducible refine iteTd (by kernel_rfl!) ?_) | (with_reducible refine iteFd (by kernel_rfl!) ?_) | (with_reducible refine wpAny_bind ?_) | ((with_reducible show wpAny _ _ (typeLookup (Value.ref _) _) _ _ _); unfold typeLookup) | ((fail_if_success (with_reducible show wpAny _ _ (alloc _) _ _ _)); (fail_if_success (with_reducible show wpAny _ _ (updatePart _ _ _) _ _ _)); (fail_if_success (with_reducible show wpAny _ _ (nsSet _ _ _) _ _ _)); (fail_if_success (with_reducible show wpAny _ _ (enterFrame) _ _ _)); (fail_if_success (with_reducible show wpAny _ _ (nsGet _ _) _ _ _)); (fail_if_success (with_reducible show wpAny _ _ (List.mapM mkText _) _ _ _)); (fail_if_success (with_reducible show wpAny _ _ (functionCode _ _ _ _ _ _ _ _) _ _ _)); (fail_if_success (with_reducible show wpAny _ _ (makeFunction _ _ _ _ _ _ _ _ _ _ _) _ _ _)); (fail_if_success (with_reducible show wpAny _ _ (getAttrBy _ _ _) _ _ _)); (fail_if_success (with_reducible show wpAny _ _ (run _) _ _ _)); (fail_if_success (with_reducible show wpAny _ _ (call _ _ _) _ _ _)); (fail_if_success (with_reducible show wpAny _ _ (Sem.tryCatch _ _) _ _ _)); (fail_if_success (with_reducible show wpAny _ _ (Sem.onRaise _ _) _ _ _)); wp_delta))
  refine xAllocO { cls := .type "frame", data := .dict #[] } (by assumption) (by kernel_rfl!) rfl fun L h1 D1 => ?_
  repeat (first | (with_reducible refine wpAny_of_eq (by with_reducible assumption) ?_) | (with_reducible refine bEq (by with_reducible assumption) ?_) | (with_reducible refine bPure ?_) | (with_reducible refine bAssoc ?_) | (with_reducible refine bRule ?_) | (with_reducible refine wpAny_pure ?_) | (with_reducible refine wpAny_holding ?_) | (with_reducible refine wpAny_standAt ?_) | (with_reducible refine wpAny_point ?_) | (with_reducible refine wpAny_rule ?_) | (with_reducible refine fresh5 ?_) | (with_reducible refine wpAny_attempt ?_) | ((with_reducible show wpAny _ _ (loadPart _ _) _ _ _); (with_reducible first | refine wpAny_loadPart (by assumption) ?_ | refine wpAny_loadPart (LX.old (by assumption) (by assumption) (by decide)) ?_ | refine wpAny_loadPart (LX.at (by assumption) 0 rfl) ?_ | refine wpAny_loadPart (LX.at (by assumption) 1 rfl) ?_ | refine wpAny_loadPart (LX.at (by assumption) 2 rfl) ?_ | refine wpAny_loadPart (LX.at (by assumption) 3 rfl) ?_ | refine wpAny_loadPart (LX.at (by assumption) 4 rfl) ?_ | refine wpAny_loadPart (LX.at (by assumption) 5 rfl) ?_ | refine wpAny_loadPart (LX.at (by assumption) 6 rfl) ?_ | refine wpAny_loadPart (LX.at (by assumption) 7 rfl) ?_ | refine wpAny_loadPart (LX.at (by assumption) 8 rfl) ?_ | refine wpAny_loadPart (LX.at (by assumption) 9 rfl) ?_ | refine wpAny_loadPart (LX.at (by assumption) 10 rfl) ?_ | refine wpAny_loadPart (LX.at (by assumption) 11 rfl) ?_ | refine wpAny_loadPart (LX.at (by assumption) 12 rfl) ?_)) | ((with_reducible show wpAny _ _ (load _) _ _ _); (with_reducible first | refine wpAny_load (by assumption) ?_ | refine wpAny_load (LX.old (by assumption) (by assumption) (by decide)) ?_ | refine wpAny_load (LX.at (by assumption) 0 rfl) ?_ | refine wpAny_load (LX.at (by assumption) 1 rfl) ?_ | refine wpAny_load (LX.at (by assumption) 2 rfl) ?_ | refine wpAny_load (LX.at (by assumption) 3 rfl) ?_ | refine wpAny_load (LX.at (by assumption) 4 rfl) ?_ | refine wpAny_load (LX.at (by assumption) 5 rfl) ?_ | refine wpAny_load (LX.at (by assumption) 6 rfl) ?_ | refine wpAny_load (LX.at (by assumption) 7 rfl) ?_ | refine wpAny_load (LX.at (by assumption) 8 rfl) ?_ | refine wpAny_load (LX.at (by assumption) 9 rfl) ?_ | refine wpAny_load (LX.at (by assumption) 10 rfl) ?_ | refine wpAny_load (LX.at (by assumption) 11 rfl) ?_ | refine wpAny_load (LX.at (by assumption) 12 rfl) ?_)) | (with_reducible refine iteFb (by with_reducible assumption) ?_) | (with_reducible refine iteTb (by with_reducible assumption) ?_) | (with_reducible refine iteTd (by kernel_rfl!) ?_) | (with_reducible refine iteFd (by kernel_rfl!) ?_) | (with_reducible refine wpAny_bind ?_) | ((with_reducible show wpAny _ _ (typeLookup (Value.ref _) _) _ _ _); unfold typeLookup) | ((fail_if_success (with_reducible show wpAny _ _ (alloc _) _ _ _)); (fail_if_success (with_reducible show wpAny _ _ (updatePart _ _ _) _ _ _)); (fail_if_success (with_reducible show wpAny _ _ (nsSet _ _ _) _ _ _)); (fail_if_success (with_reducible show wpAny _ _ (enterFrame) _ _ _)); (fail_if_success (with_reducible show wpAny _ _ (nsGet _ _) _ _ _)); (fail_if_success (with_reducible show wpAny _ _ (List.mapM mkText _) _ _ _)); (fail_if_success (with_reducible show wpAny _ _ (functionCode _ _ _ _ _ _ _ _) _ _ _)); (fail_if_success (with_reducible show wpAny _ _ (makeFunction _ _ _ _ _ _ _ _ _ _ _) _ _ _)); (fail_if_success (with_reducible show wpAny _ _ (getAttrBy _ _ _) _ _ _)); (fail_if_success (with_reducible show wpAny _ _ (run _) _ _ _)); (fail_if_success (with_reducible show wpAny _ _ (call _ _ _) _ _ _)); (fail_if_success (with_reducible show wpAny _ _ (Sem.tryCatch _ _) _ _ _)); (fail_if_success (with_reducible show wpAny _ _ (Sem.onRaise _ _) _ _ _)); wp_delta))
  refine xSet (fun v hh tk => { cls := .type "frame", data := .dict #[eN hh tk "self" v] 1 }) D1 0 rfl rfl (by kernel_rfl!) (by intro _ _; kernel_rfl!) (fun _ _ => rfl) fun g0 q0 h2 t2 D2 => ?_
  repeat (first | (with_reducible refine wpAny_of_eq (by with_reducible assumption) ?_) | (with_reducible refine bEq (by with_reducible assumption) ?_) | (with_reducible refine bPure ?_) | (with_reducible refine bAssoc ?_) | (with_reducible refine bRule ?_) | (with_reducible refine wpAny_pure ?_) | (with_reducible refine wpAny_holding ?_) | (with_reducible refine wpAny_standAt ?_) | (with_reducible refine wpAny_point ?_) | (with_reducible refine wpAny_rule ?_) | (with_reducible refine fresh5 ?_) | (with_reducible refine wpAny_attempt ?_) | ((with_reducible show wpAny _ _ (loadPart _ _) _ _ _); (with_reducible first | refine wpAny_loadPart (by assumption) ?_ | refine wpAny_loadPart (LX.old (by assumption) (by assumption) (by decide)) ?_ | refine wpAny_loadPart (LX.at (by assumption) 0 rfl) ?_ | refine wpAny_loadPart (LX.at (by assumption) 1 rfl) ?_ | refine wpAny_loadPart (LX.at (by assumption) 2 rfl) ?_ | refine wpAny_loadPart (LX.at (by assumption) 3 rfl) ?_ | refine wpAny_loadPart (LX.at (by assumption) 4 rfl) ?_ | refine wpAny_loadPart (LX.at (by assumption) 5 rfl) ?_ | refine wpAny_loadPart (LX.at (by assumption) 6 rfl) ?_ | refine wpAny_loadPart (LX.at (by assumption) 7 rfl) ?_ | refine wpAny_loadPart (LX.at (by assumption) 8 rfl) ?_ | refine wpAny_loadPart (LX.at (by assumption) 9 rfl) ?_ | refine wpAny_loadPart (LX.at (by assumption) 10 rfl) ?_ | refine wpAny_loadPart (LX.at (by assumption) 11 rfl) ?_ | refine wpAny_loadPart (LX.at (by assumption) 12 rfl) ?_)) | ((with_reducible show wpAny _ _ (load _) _ _ _); (with_reducible first | refine wpAny_load (by assumption) ?_ | refine wpAny_load (LX.old (by assumption) (by assumption) (by decide)) ?_ | refine wpAny_load (LX.at (by assumption) 0 rfl) ?_ | refine wpAny_load (LX.at (by assumption) 1 rfl) ?_ | refine wpAny_load (LX.at (by assumption) 2 rfl) ?_ | refine wpAny_load (LX.at (by assumption) 3 rfl) ?_ | refine wpAny_load (LX.at (by assumption) 4 rfl) ?_ | refine wpAny_load (LX.at (by assumption) 5 rfl) ?_ | refine wpAny_load (LX.at (by assumption) 6 rfl) ?_ | refine wpAny_load (LX.at (by assumption) 7 rfl) ?_ | refine wpAny_load (LX.at (by assumption) 8 rfl) ?_ | refine wpAny_load (LX.at (by assumption) 9 rfl) ?_ | refine wpAny_load (LX.at (by assumption) 10 rfl) ?_ | refine wpAny_load (LX.at (by assumption) 11 rfl) ?_ | refine wpAny_load (LX.at (by assumption) 12 rfl) ?_)) | (with_reducible refine iteFb (by with_reducible assumption) ?_) | (with_reducible refine iteTb (by with_reducible assumption) ?_) | (with_reducible refine iteTd (by kernel_rfl!) ?_) | (with_reducible refine iteFd (by kernel_rfl!) ?_) | (with_reducible refine wpAny_bind ?_) | ((with_reducible show wpAny _ _ (typeLookup (Value.ref _) _) _ _ _); unfold typeLookup) | ((fail_if_success (with_reducible show wpAny _ _ (alloc _) _ _ _)); (fail_if_success (with_reducible show wpAny _ _ (updatePart _ _ _) _ _ _)); (fail_if_success (with_reducible show wpAny _ _ (nsSet _ _ _) _ _ _)); (fail_if_success (with_reducible show wpAny _ _ (enterFrame) _ _ _)); (fail_if_success (with_reducible show wpAny _ _ (nsGet _ _) _ _ _)); (fail_if_success (with_reducible show wpAny _ _ (List.mapM mkText _) _ _ _)); (fail_if_success (with_reducible show wpAny _ _ (functionCode _ _ _ _ _ _ _ _) _ _ _)); (fail_if_success (with_reducible show wpAny _ _ (makeFunction _ _ _ _ _ _ _ _ _ _ _) _ _ _)); (fail_if_success (with_reducible show wpAny _ _ (getAttrBy _ _ _) _ _ _)); (fail_if_success (with_reducible show wpAny _ _ (run _) _ _ _)); (fail_if_success (with_reducible show wpAny _ _ (call _ _ _) _ _ _)); (fail_if_success (with_reducible show wpAny _ _ (Sem.tryCatch _ _) _ _ _)); (fail_if_success (with_reducible show wpAny _ _ (Sem.onRaise _ _) _ _ _)); wp_delta))
  refine xSet (fun v hh tk => { cls := .type "frame", data := .dict #[eN g0 q0 "self" (.ref x), eN hh tk "other" v] 2 }) D2 0 rfl rfl (by kernel_rfl!) (by intro _ _; kernel_rfl!) (fun _ _ => rfl) fun g1 q1 h3 t3 D3 => ?_
  repeat (first | (with_reducible refine wpAny_of_eq (by with_reducible assumption) ?_) | (with_reducible refine bEq (by with_reducible assumption) ?_) | (with_reducible refine bPure ?_) | (with_reducible refine bAssoc ?_) | (with_reducible refine bRule ?_) | (with_reducible refine wpAny_pure ?_) | (with_reducible refine wpAny_holding ?_) | (with_reducible refine wpAny_standAt ?_) | (with_reducible refine wpAny_point ?_) | (with_reducible refine wpAny_rule ?_) | (with_reducible refine fresh5 ?_) | (with_reducible refine wpAny_attempt ?_) | ((with_reducible show wpAny _ _ (loadPart _ _) _ _ _); (with_reducible first | refine wpAny_loadPart (by assumption) ?_ | refine wpAny_loadPart (LX.old (by assumption) (by assumption) (by decide)) ?_ | refine wpAny_loadPart (LX.at (by assumption) 0 rfl) ?_ | refine wpAny_loadPart (LX.at (by assumption) 1 rfl) ?_ | refine wpAny_loadPart (LX.at (by assumption) 2 rfl) ?_ | refine wpAny_loadPart (LX.at (by assumption) 3 rfl) ?_ | refine wpAny_loadPart (LX.at (by assumption) 4 rfl) ?_ | refine wpAny_loadPart (LX.at (by assumption) 5 rfl) ?_ | refine wpAny_loadPart (LX.at (by assumption) 6 rfl) ?_ | refine wpAny_loadPart (LX.at (by assumption) 7 rfl) ?_ | refine wpAny_loadPart (LX.at (by assumption) 8 rfl) ?_ | refine wpAny_loadPart (LX.at (by assumption) 9 rfl) ?_ | refine wpAny_loadPart (LX.at (by assumption) 10 rfl) ?_ | refine wpAny_loadPart (LX.at (by assumption) 11 rfl) ?_ | refine wpAny_loadPart (LX.at (by assumption) 12 rfl) ?_)) | ((with_reducible show wpAny _ _ (load _) _ _ _); (with_reducible first | refine wpAny_load (by assumption) ?_ | refine wpAny_load (LX.old (by assumption) (by assumption) (by decide)) ?_ | refine wpAny_load (LX.at (by assumption) 0 rfl) ?_ | refine wpAny_load (LX.at (by assumption) 1 rfl) ?_ | refine wpAny_load (LX.at (by assumption) 2 rfl) ?_ | refine wpAny_load (LX.at (by assumption) 3 rfl) ?_ | refine wpAny_load (LX.at (by assumption) 4 rfl) ?_ | refine wpAny_load (LX.at (by assumption) 5 rfl) ?_ | refine wpAny_load (LX.at (by assumption) 6 rfl) ?_ | refine wpAny_load (LX.at (by assumption) 7 rfl) ?_ | refine wpAny_load (LX.at (by assumption) 8 rfl) ?_ | refine wpAny_load (LX.at (by assumption) 9 rfl) ?_ | refine wpAny_load (LX.at (by assumption) 10 rfl) ?_ | refine wpAny_load (LX.at (by assumption) 11 rfl) ?_ | refine wpAny_load (LX.at (by assumption) 12 rfl) ?_)) | (with_reducible refine iteFb (by with_reducible assumption) ?_) | (with_reducible refine iteTb (by with_reducible assumption) ?_) | (with_reducible refine iteTd (by kernel_rfl!) ?_) | (with_reducible refine iteFd (by kernel_rfl!) ?_) | (with_reducible refine wpAny_bind ?_) | ((with_reducible show wpAny _ _ (typeLookup (Value.ref _) _) _ _ _); unfold typeLookup) | ((fail_if_success (with_reducible show wpAny _ _ (alloc _) _ _ _)); (fail_if_success (with_reducible show wpAny _ _ (updatePart _ _ _) _ _ _)); (fail_if_success (with_reducible show wpAny _ _ (nsSet _ _ _) _ _ _)); (fail_if_success (with_reducible show wpAny _ _ (enterFrame) _ _ _)); (fail_if_success (with_reducible show wpAny _ _ (nsGet _ _) _ _ _)); (fail_if_success (with_reducible show wpAny _ _ (List.mapM mkText _) _ _ _)); (fail_if_success (with_reducible show wpAny _ _ (functionCode _ _ _ _ _ _ _ _) _ _ _)); (fail_if_success (with_reducible show wpAny _ _ (makeFunction _ _ _ _ _ _ _ _ _ _ _) _ _ _)); (fail_if_success (with_reducible show wpAny _ _ (getAttrBy _ _ _) _ _ _)); (fail_if_success (with_reducible show wpAny _ _ (run _) _ _ _)); (fail_if_success (with_reducible show wpAny _ _ (call _ _ _) _ _ _)); (fail_if_success (with_reducible show wpAny _ _ (Sem.tryCatch _ _) _ _ _)); (fail_if_success (with_reducible show wpAny _ _ (Sem.onRaise _ _) _ _ _)); wp_delta))
  have kAll : ∀ b o, h.get? b = some o → h3.get? b = some o := fun b o e => by
    by_cases hb : b = cl
    · subst hb; rw [hcl] at e; cases e; exact D3.at 1 rfl
    · exact D3.keep b o e hb
  have M3 : LM h h3 [(L, { cls := .type "frame", data := .dict #[eN g0 q0 "self" (.ref x), eN g1 q1 "other" (.ref y)] 2 })] := ⟨kAll, fun p hp => by
    rw [List.mem_singleton] at hp; subst hp; exact ⟨D3.at 0 rfl, (D3.nw (L, _) (.head _)).2.resolve_right fun e => by
      have z := D3.pw; simp only [List.set, List.map] at z; exact (List.pairwise_cons.mp z).1 cl (.head _) e⟩, List.pairwise_singleton _ _⟩
  refine ⟨hlim.keeps kAll, codeAny_func ?_⟩
  dsimp only
  have kcl := D3.at 1 (a := cl) rfl
  have kL := D3.at 0 (a := L) rfl
  clear D0 D1 D2 D3
  repeat ((fail_if_success (with_reducible show wpAny _ _ (getAttr _ _ _) _ _ _)); (first | (with_reducible refine wpAny_of_eq (by with_reducible assumption) ?_) | (with_reducible refine bEq (by with_reducible assumption) ?_) | (with_reducible refine bPure ?_) | (with_reducible refine bAssoc ?_) | (with_reducible refine bRule ?_) | (with_reducible refine wpAny_pure ?_) | (with_reducible refine wpAny_holding ?_) | (with_reducible refine wpAny_standAt ?_) | (with_reducible refine wpAny_point ?_) | (with_reducible refine wpAny_rule ?_) | (with_reducible refine fresh5 ?_) | (with_reducible refine wpAny_attempt ?_) | ((with_reducible show wpAny _ _ (loadPart _ _) _ _ _); (with_reducible first | refine wpAny_loadPart (by assumption) ?_ | refine wpAny_loadPart (LX.old (by assumption) (by assumption) (by decide)) ?_ | refine wpAny_loadPart (LX.at (by assumption) 0 rfl) ?_ | refine wpAny_loadPart (LX.at (by assumption) 1 rfl) ?_ | refine wpAny_loadPart (LX.at (by assumption) 2 rfl) ?_ | refine wpAny_loadPart (LX.at (by assumption) 3 rfl) ?_ | refine wpAny_loadPart (LX.at (by assumption) 4 rfl) ?_ | refine wpAny_loadPart (LX.at (by assumption) 5 rfl) ?_ | refine wpAny_loadPart (LX.at (by assumption) 6 rfl) ?_ | refine wpAny_loadPart (LX.at (by assumption) 7 rfl) ?_ | refine wpAny_loadPart (LX.at (by assumption) 8 rfl) ?_ | refine wpAny_loadPart (LX.at (by assumption) 9 rfl) ?_ | refine wpAny_loadPart (LX.at (by assumption) 10 rfl) ?_ | refine wpAny_loadPart (LX.at (by assumption) 11 rfl) ?_ | refine wpAny_loadPart (LX.at (by assumption) 12 rfl) ?_)) | ((with_reducible show wpAny _ _ (load _) _ _ _); (with_reducible first | refine wpAny_load (by assumption) ?_ | refine wpAny_load (LX.old (by assumption) (by assumption) (by decide)) ?_ | refine wpAny_load (LX.at (by assumption) 0 rfl) ?_ | refine wpAny_load (LX.at (by assumption) 1 rfl) ?_ | refine wpAny_load (LX.at (by assumption) 2 rfl) ?_ | refine wpAny_load (LX.at (by assumption) 3 rfl) ?_ | refine wpAny_load (LX.at (by assumption) 4 rfl) ?_ | refine wpAny_load (LX.at (by assumption) 5 rfl) ?_ | refine wpAny_load (LX.at (by assumption) 6 rfl) ?_ | refine wpAny_load (LX.at (by assumption) 7 rfl) ?_ | refine wpAny_load (LX.at (by assumption) 8 rfl) ?_ | refine wpAny_load (LX.at (by assumption) 9 rfl) ?_ | refine wpAny_load (LX.at (by assumption) 10 rfl) ?_ | refine wpAny_load (LX.at (by assumption) 11 rfl) ?_ | refine wpAny_load (LX.at (by assumption) 12 rfl) ?_)) | (with_reducible refine iteFb (by with_reducible assumption) ?_) | (with_reducible refine iteTb (by with_reducible assumption) ?_) | (with_reducible refine iteTd (by kernel_rfl!) ?_) | (with_reducible refine iteFd (by kernel_rfl!) ?_) | (with_reducible refine wpAny_bind ?_) | ((with_reducible show wpAny _ _ (typeLookup (Value.ref _) _) _ _ _); unfold typeLookup) | ((fail_if_success (with_reducible show wpAny _ _ (alloc _) _ _ _)); (fail_if_success (with_reducible show wpAny _ _ (updatePart _ _ _) _ _ _)); (fail_if_success (with_reducible show wpAny _ _ (nsSet _ _ _) _ _ _)); (fail_if_success (with_reducible show wpAny _ _ (enterFrame) _ _ _)); (fail_if_success (with_reducible show wpAny _ _ (nsGet _ _) _ _ _)); (fail_if_success (with_reducible show wpAny _ _ (List.mapM mkText _) _ _ _)); (fail_if_success (with_reducible show wpAny _ _ (functionCode _ _ _ _ _ _ _ _) _ _ _)); (fail_if_success (with_reducible show wpAny _ _ (makeFunction _ _ _ _ _ _ _ _ _ _ _) _ _ _)); (fail_if_success (with_reducible show wpAny _ _ (getAttrBy _ _ _) _ _ _)); (fail_if_success (with_reducible show wpAny _ _ (run _) _ _ _)); (fail_if_success (with_reducible show wpAny _ _ (call _ _ _) _ _ _)); (fail_if_success (with_reducible show wpAny _ _ (Sem.tryCatch _ _) _ _ _)); (fail_if_success (with_reducible show wpAny _ _ (Sem.onRaise _ _) _ _ _)); wp_delta)))
  refine nsGetH (r := some (.ref x)) kL (by kernel_rfl!) ?_
  repeat ((fail_if_success (with_reducible show wpAny _ _ (getAttr _ _ _) _ _ _)); (first | (with_reducible refine wpAny_of_eq (by with_reducible assumption) ?_) | (with_reducible refine bEq (by with_reducible assumption) ?_) | (with_reducible refine bPure ?_) | (with_reducible refine bAssoc ?_) | (with_reducible refine bRule ?_) | (with_reducible refine wpAny_pure ?_) | (with_reducible refine wpAny_holding ?_) | (with_reducible refine wpAny_standAt ?_) | (with_reducible refine wpAny_point ?_) | (with_reducible refine wpAny_rule ?_) | (with_reducible refine fresh5 ?_) | (with_reducible refine wpAny_attempt ?_) | ((with_reducible show wpAny _ _ (loadPart _ _) _ _ _); (with_reducible first | refine wpAny_loadPart (by assumption) ?_ | refine wpAny_loadPart (LX.old (by assumption) (by assumption) (by decide)) ?_ | refine wpAny_loadPart (LX.at (by assumption) 0 rfl) ?_ | refine wpAny_loadPart (LX.at (by assumption) 1 rfl) ?_ | refine wpAny_loadPart (LX.at (by assumption) 2 rfl) ?_ | refine wpAny_loadPart (LX.at (by assumption) 3 rfl) ?_ | refine wpAny_loadPart (LX.at (by assumption) 4 rfl) ?_ | refine wpAny_loadPart (LX.at (by assumption) 5 rfl) ?_ | refine wpAny_loadPart (LX.at (by assumption) 6 rfl) ?_ | refine wpAny_loadPart (LX.at (by assumption) 7 rfl) ?_ | refine wpAny_loadPart (LX.at (by assumption) 8 rfl) ?_ | refine wpAny_loadPart (LX.at (by assumption) 9 rfl) ?_ | refine wpAny_loadPart (LX.at (by assumption) 10 rfl) ?_ | refine wpAny_loadPart (LX.at (by assumption) 11 rfl) ?_ | refine wpAny_loadPart (LX.at (by assumption) 12 rfl) ?_)) | ((with_reducible show wpAny _ _ (load _) _ _ _); (with_reducible first | refine wpAny_load (by assumption) ?_ | refine wpAny_load (LX.old (by assumption) (by assumption) (by decide)) ?_ | refine wpAny_load (LX.at (by assumption) 0 rfl) ?_ | refine wpAny_load (LX.at (by assumption) 1 rfl) ?_ | refine wpAny_load (LX.at (by assumption) 2 rfl) ?_ | refine wpAny_load (LX.at (by assumption) 3 rfl) ?_ | refine wpAny_load (LX.at (by assumption) 4 rfl) ?_ | refine wpAny_load (LX.at (by assumption) 5 rfl) ?_ | refine wpAny_load (LX.at (by assumption) 6 rfl) ?_ | refine wpAny_load (LX.at (by assumption) 7 rfl) ?_ | refine wpAny_load (LX.at (by assumption) 8 rfl) ?_ | refine wpAny_load (LX.at (by assumption) 9 rfl) ?_ | refine wpAny_load (LX.at (by assumption) 10 rfl) ?_ | refine wpAny_load (LX.at (by assumption) 11 rfl) ?_ | refine wpAny_load (LX.at (by assumption) 12 rfl) ?_)) | (with_reducible refine iteFb (by with_reducible assumption) ?_) | (with_reducible refine iteTb (by with_reducible assumption) ?_) | (with_reducible refine iteTd (by kernel_rfl!) ?_) | (with_reducible refine iteFd (by kernel_rfl!) ?_) | (with_reducible refine wpAny_bind ?_) | ((with_reducible show wpAny _ _ (typeLookup (Value.ref _) _) _ _ _); unfold typeLookup) | ((fail_if_success (with_reducible show wpAny _ _ (alloc _) _ _ _)); (fail_if_success (with_reducible show wpAny _ _ (updatePart _ _ _) _ _ _)); (fail_if_success (with_reducible show wpAny _ _ (nsSet _ _ _) _ _ _)); (fail_if_success (with_reducible show wpAny _ _ (enterFrame) _ _ _)); (fail_if_success (with_reducible show wpAny _ _ (nsGet _ _) _ _ _)); (fail_if_success (with_reducible show wpAny _ _ (List.mapM mkText _) _ _ _)); (fail_if_success (with_reducible show wpAny _ _ (functionCode _ _ _ _ _ _ _ _) _ _ _)); (fail_if_success (with_reducible show wpAny _ _ (makeFunction _ _ _ _ _ _ _ _ _ _ _) _ _ _)); (fail_if_success (with_reducible show wpAny _ _ (getAttrBy _ _ _) _ _ _)); (fail_if_success (with_reducible show wpAny _ _ (run _) _ _ _)); (fail_if_success (with_reducible show wpAny _ _ (call _ _ _) _ _ _)); (fail_if_success (with_reducible show wpAny _ _ (Sem.tryCatch _ _) _ _ _)); (fail_if_success (with_reducible show wpAny _ _ (Sem.onRaise _ _) _ _ _)); wp_delta)))
  refine getObj (k := 0) (X.keeps M3.keep) (M3.keep _ _ hmd) (M3.keep _ _ ha) (M3.keep _ _ hns) (M3.keep _ _ hx) fun h4 t4 D4 => ?_
  have M4 := M3.trans (LM.of D4)
  have kL4 := (LM.of D4).keep _ _ kL
  repeat ((fail_if_success (with_reducible show wpAny _ _ (getAttr _ _ _) _ _ _)); (first | (with_reducible refine wpAny_of_eq (by with_reducible assumption) ?_) | (with_reducible refine bEq (by with_reducible assumption) ?_) | (with_reducible refine bPure ?_) | (with_reducible refine bAssoc ?_) | (with_reducible refine bRule ?_) | (with_reducible refine wpAny_pure ?_) | (with_reducible refine wpAny_holding ?_) | (with_reducible refine wpAny_standAt ?_) | (with_reducible refine wpAny_point ?_) | (with_reducible refine wpAny_rule ?_) | (with_reducible refine fresh5 ?_) | (with_reducible refine wpAny_attempt ?_) | ((with_reducible show wpAny _ _ (loadPart _ _) _ _ _); (with_reducible first | refine wpAny_loadPart (by assumption) ?_ | refine wpAny_loadPart (LX.old (by assumption) (by assumption) (by decide)) ?_ | refine wpAny_loadPart (LX.at (by assumption) 0 rfl) ?_ | refine wpAny_loadPart (LX.at (by assumption) 1 rfl) ?_ | refine wpAny_loadPart (LX.at (by assumption) 2 rfl) ?_ | refine wpAny_loadPart (LX.at (by assumption) 3 rfl) ?_ | refine wpAny_loadPart (LX.at (by assumption) 4 rfl) ?_ | refine wpAny_loadPart (LX.at (by assumption) 5 rfl) ?_ | refine wpAny_loadPart (LX.at (by assumption) 6 rfl) ?_ | refine wpAny_loadPart (LX.at (by assumption) 7 rfl) ?_ | refine wpAny_loadPart (LX.at (by assumption) 8 rfl) ?_ | refine wpAny_loadPart (LX.at (by assumption) 9 rfl) ?_ | refine wpAny_loadPart (LX.at (by assumption) 10 rfl) ?_ | refine wpAny_loadPart (LX.at (by assumption) 11 rfl) ?_ | refine wpAny_loadPart (LX.at (by assumption) 12 rfl) ?_)) | ((with_reducible show wpAny _ _ (load _) _ _ _); (with_reducible first | refine wpAny_load (by assumption) ?_ | refine wpAny_load (LX.old (by assumption) (by assumption) (by decide)) ?_ | refine wpAny_load (LX.at (by assumption) 0 rfl) ?_ | refine wpAny_load (LX.at (by assumption) 1 rfl) ?_ | refine wpAny_load (LX.at (by assumption) 2 rfl) ?_ | refine wpAny_load (LX.at (by assumption) 3 rfl) ?_ | refine wpAny_load (LX.at (by assumption) 4 rfl) ?_ | refine wpAny_load (LX.at (by assumption) 5 rfl) ?_ | refine wpAny_load (LX.at (by assumption) 6 rfl) ?_ | refine wpAny_load (LX.at (by assumption) 7 rfl) ?_ | refine wpAny_load (LX.at (by assumption) 8 rfl) ?_ | refine wpAny_load (LX.at (by assumption) 9 rfl) ?_ | refine wpAny_load (LX.at (by assumption) 10 rfl) ?_ | refine wpAny_load (LX.at (by assumption) 11 rfl) ?_ | refine wpAny_load (LX.at (by assumption) 12 rfl) ?_)) | (with_reducible refine iteFb (by with_reducible assumption) ?_) | (with_reducible refine iteTb (by with_reducible assumption) ?_) | (with_reducible refine iteTd (by kernel_rfl!) ?_) | (with_reducible refine iteFd (by kernel_rfl!) ?_) | (with_reducible refine wpAny_bind ?_) | ((with_reducible show wpAny _ _ (typeLookup (Value.ref _) _) _ _ _); unfold typeLookup) | ((fail_if_success (with_reducible show wpAny _ _ (alloc _) _ _ _)); (fail_if_success (with_reducible show wpAny _ _ (updatePart _ _ _) _ _ _)); (fail_if_success (with_reducible show wpAny _ _ (nsSet _ _ _) _ _ _)); (fail_if_success (with_reducible show wpAny _ _ (enterFrame) _ _ _)); (fail_if_success (with_reducible show wpAny _ _ (nsGet _ _) _ _ _)); (fail_if_success (with_reducible show wpAny _ _ (List.mapM mkText _) _ _ _)); (fail_if_success (with_reducible show wpAny _ _ (functionCode _ _ _ _ _ _ _ _) _ _ _)); (fail_if_success (with_reducible show wpAny _ _ (makeFunction _ _ _ _ _ _ _ _ _ _ _) _ _ _)); (fail_if_success (with_reducible show wpAny _ _ (getAttrBy _ _ _) _ _ _)); (fail_if_success (with_reducible show wpAny _ _ (run _) _ _ _)); (fail_if_success (with_reducible show wpAny _ _ (call _ _ _) _ _ _)); (fail_if_success (with_reducible show wpAny _ _ (Sem.tryCatch _ _) _ _ _)); (fail_if_success (with_reducible show wpAny _ _ (Sem.onRaise _ _) _ _ _)); wp_delta)))
  refine nsGetH (r := some (.ref y)) kL4 (by kernel_rfl!) ?_
  repeat ((fail_if_success (with_reducible show wpAny _ _ (getAttr _ _ _) _ _ _)); (first | (with_reducible refine wpAny_of_eq (by with_reducible assumption) ?_) | (with_reducible refine bEq (by with_reducible assumption) ?_) | (with_reducible refine bPure ?_) | (with_reducible refine bAssoc ?_) | (with_reducible refine bRule ?_) | (with_reducible refine wpAny_pure ?_) | (with_reducible refine wpAny_holding ?_) | (with_reducible refine wpAny_standAt ?_) | (with_reducible refine wpAny_point ?_) | (with_reducible refine wpAny_rule ?_) | (with_reducible refine fresh5 ?_) | (with_reducible refine wpAny_attempt ?_) | ((with_reducible show wpAny _ _ (loadPart _ _) _ _ _); (with_reducible first | refine wpAny_loadPart (by assumption) ?_ | refine wpAny_loadPart (LX.old (by assumption) (by assumption) (by decide)) ?_ | refine wpAny_loadPart (LX.at (by assumption) 0 rfl) ?_ | refine wpAny_loadPart (LX.at (by assumption) 1 rfl) ?_ | refine wpAny_loadPart (LX.at (by assumption) 2 rfl) ?_ | refine wpAny_loadPart (LX.at (by assumption) 3 rfl) ?_ | refine wpAny_loadPart (LX.at (by assumption) 4 rfl) ?_ | refine wpAny_loadPart (LX.at (by assumption) 5 rfl) ?_ | refine wpAny_loadPart (LX.at (by assumption) 6 rfl) ?_ | refine wpAny_loadPart (LX.at (by assumption) 7 rfl) ?_ | refine wpAny_loadPart (LX.at (by assumption) 8 rfl) ?_ | refine wpAny_loadPart (LX.at (by assumption) 9 rfl) ?_ | refine wpAny_loadPart (LX.at (by assumption) 10 rfl) ?_ | refine wpAny_loadPart (LX.at (by assumption) 11 rfl) ?_ | refine wpAny_loadPart (LX.at (by assumption) 12 rfl) ?_)) | ((with_reducible show wpAny _ _ (load _) _ _ _); (with_reducible first | refine wpAny_load (by assumption) ?_ | refine wpAny_load (LX.old (by assumption) (by assumption) (by decide)) ?_ | refine wpAny_load (LX.at (by assumption) 0 rfl) ?_ | refine wpAny_load (LX.at (by assumption) 1 rfl) ?_ | refine wpAny_load (LX.at (by assumption) 2 rfl) ?_ | refine wpAny_load (LX.at (by assumption) 3 rfl) ?_ | refine wpAny_load (LX.at (by assumption) 4 rfl) ?_ | refine wpAny_load (LX.at (by assumption) 5 rfl) ?_ | refine wpAny_load (LX.at (by assumption) 6 rfl) ?_ | refine wpAny_load (LX.at (by assumption) 7 rfl) ?_ | refine wpAny_load (LX.at (by assumption) 8 rfl) ?_ | refine wpAny_load (LX.at (by assumption) 9 rfl) ?_ | refine wpAny_load (LX.at (by assumption) 10 rfl) ?_ | refine wpAny_load (LX.at (by assumption) 11 rfl) ?_ | refine wpAny_load (LX.at (by assumption) 12 rfl) ?_)) | (with_reducible refine iteFb (by with_reducible assumption) ?_) | (with_reducible refine iteTb (by with_reducible assumption) ?_) | (with_reducible refine iteTd (by kernel_rfl!) ?_) | (with_reducible refine iteFd (by kernel_rfl!) ?_) | (with_reducible refine wpAny_bind ?_) | ((with_reducible show wpAny _ _ (typeLookup (Value.ref _) _) _ _ _); unfold typeLookup) | ((fail_if_success (with_reducible show wpAny _ _ (alloc _) _ _ _)); (fail_if_success (with_reducible show wpAny _ _ (updatePart _ _ _) _ _ _)); (fail_if_success (with_reducible show wpAny _ _ (nsSet _ _ _) _ _ _)); (fail_if_success (with_reducible show wpAny _ _ (enterFrame) _ _ _)); (fail_if_success (with_reducible show wpAny _ _ (nsGet _ _) _ _ _)); (fail_if_success (with_reducible show wpAny _ _ (List.mapM mkText _) _ _ _)); (fail_if_success (with_reducible show wpAny _ _ (functionCode _ _ _ _ _ _ _ _) _ _ _)); (fail_if_success (with_reducible show wpAny _ _ (makeFunction _ _ _ _ _ _ _ _ _ _ _) _ _ _)); (fail_if_success (with_reducible show wpAny _ _ (getAttrBy _ _ _) _ _ _)); (fail_if_success (with_reducible show wpAny _ _ (run _) _ _ _)); (fail_if_success (with_reducible show wpAny _ _ (call _ _ _) _ _ _)); (fail_if_success (with_reducible show wpAny _ _ (Sem.tryCatch _ _) _ _ _)); (fail_if_success (with_reducible show wpAny _ _ (Sem.onRaise _ _) _ _ _)); wp_delta)))
  refine getObj (k := 0) (X.keeps M4.keep) (M4.keep _ _ hmd) (M4.keep _ _ ha) (M4.keep _ _ hns) (M4.keep _ _ hy) fun h5 t5 D5 => ?_
  have M5 := M4.trans (LM.of D5)
  repeat ((fail_if_success (with_reducible show wpAny _ _ (getAttr _ _ _) _ _ _)); (first | (with_reducible refine wpAny_of_eq (by with_reducible assumption) ?_) | (with_reducible refine bEq (by with_reducible assumption) ?_) | (with_reducible refine bPure ?_) | (with_reducible refine bAssoc ?_) | (with_reducible refine bRule ?_) | (with_reducible refine wpAny_pure ?_) | (with_reducible refine wpAny_holding ?_) | (with_reducible refine wpAny_standAt ?_) | (with_reducible refine wpAny_point ?_) | (with_reducible refine wpAny_rule ?_) | (with_reducible refine fresh5 ?_) | (with_reducible refine wpAny_attempt ?_) | ((with_reducible show wpAny _ _ (loadPart _ _) _ _ _); (with_reducible first | refine wpAny_loadPart (by assumption) ?_ | refine wpAny_loadPart (LX.old (by assumption) (by assumption) (by decide)) ?_ | refine wpAny_loadPart (LX.at (by assumption) 0 rfl) ?_ | refine wpAny_loadPart (LX.at (by assumption) 1 rfl) ?_ | refine wpAny_loadPart (LX.at (by assumption) 2 rfl) ?_ | refine wpAny_loadPart (LX.at (by assumption) 3 rfl) ?_ | refine wpAny_loadPart (LX.at (by assumption) 4 rfl) ?_ | refine wpAny_loadPart (LX.at (by assumption) 5 rfl) ?_ | refine wpAny_loadPart (LX.at (by assumption) 6 rfl) ?_ | refine wpAny_loadPart (LX.at (by assumption) 7 rfl) ?_ | refine wpAny_loadPart (LX.at (by assumption) 8 rfl) ?_ | refine wpAny_loadPart (LX.at (by assumption) 9 rfl) ?_ | refine wpAny_loadPart (LX.at (by assumption) 10 rfl) ?_ | refine wpAny_loadPart (LX.at (by assumption) 11 rfl) ?_ | refine wpAny_loadPart (LX.at (by assumption) 12 rfl) ?_)) | ((with_reducible show wpAny _ _ (load _) _ _ _); (with_reducible first | refine wpAny_load (by assumption) ?_ | refine wpAny_load (LX.old (by assumption) (by assumption) (by decide)) ?_ | refine wpAny_load (LX.at (by assumption) 0 rfl) ?_ | refine wpAny_load (LX.at (by assumption) 1 rfl) ?_ | refine wpAny_load (LX.at (by assumption) 2 rfl) ?_ | refine wpAny_load (LX.at (by assumption) 3 rfl) ?_ | refine wpAny_load (LX.at (by assumption) 4 rfl) ?_ | refine wpAny_load (LX.at (by assumption) 5 rfl) ?_ | refine wpAny_load (LX.at (by assumption) 6 rfl) ?_ | refine wpAny_load (LX.at (by assumption) 7 rfl) ?_ | refine wpAny_load (LX.at (by assumption) 8 rfl) ?_ | refine wpAny_load (LX.at (by assumption) 9 rfl) ?_ | refine wpAny_load (LX.at (by assumption) 10 rfl) ?_ | refine wpAny_load (LX.at (by assumption) 11 rfl) ?_ | refine wpAny_load (LX.at (by assumption) 12 rfl) ?_)) | (with_reducible refine iteFb (by with_reducible assumption) ?_) | (with_reducible refine iteTb (by with_reducible assumption) ?_) | (with_reducible refine iteTd (by kernel_rfl!) ?_) | (with_reducible refine iteFd (by kernel_rfl!) ?_) | (with_reducible refine wpAny_bind ?_) | ((with_reducible show wpAny _ _ (typeLookup (Value.ref _) _) _ _ _); unfold typeLookup) | ((fail_if_success (with_reducible show wpAny _ _ (alloc _) _ _ _)); (fail_if_success (with_reducible show wpAny _ _ (updatePart _ _ _) _ _ _)); (fail_if_success (with_reducible show wpAny _ _ (nsSet _ _ _) _ _ _)); (fail_if_success (with_reducible show wpAny _ _ (enterFrame) _ _ _)); (fail_if_success (with_reducible show wpAny _ _ (nsGet _ _) _ _ _)); (fail_if_success (with_reducible show wpAny _ _ (List.mapM mkText _) _ _ _)); (fail_if_success (with_reducible show wpAny _ _ (functionCode _ _ _ _ _ _ _ _) _ _ _)); (fail_if_success (with_reducible show wpAny _ _ (makeFunction _ _ _ _ _ _ _ _ _ _ _) _ _ _)); (fail_if_success (with_reducible show wpAny _ _ (getAttrBy _ _ _) _ _ _)); (fail_if_success (with_reducible show wpAny _ _ (run _) _ _ _)); (fail_if_success (with_reducible show wpAny _ _ (call _ _ _) _ _ _)); (fail_if_success (with_reducible show wpAny _ _ (Sem.tryCatch _ _) _ _ _)); (fail_if_success (with_reducible show wpAny _ _ (Sem.onRaise _ _) _ _ _)); wp_delta)))
  have kf5 := M5.keep _ _ hf
  repeat ((fail_if_success (with_reducible show wpAny _ _ (callMarked _ _ _ _) _ _ _)); (first | (with_reducible refine wpAny_of_eq (by with_reducible assumption) ?_) | (with_reducible refine bEq (by with_reducible assumption) ?_) | (with_reducible refine bPure ?_) | (with_reducible refine bAssoc ?_) | (with_reducible refine bRule ?_) | (with_reducible refine wpAny_pure ?_) | (with_reducible refine wpAny_holding ?_) | (with_reducible refine wpAny_standAt ?_) | (with_reducible refine wpAny_point ?_) | (with_reducible refine wpAny_rule ?_) | (with_reducible refine fresh5 ?_) | (with_reducible refine wpAny_attempt ?_) | ((with_reducible show wpAny _ _ (loadPart _ _) _ _ _); (with_reducible first | refine wpAny_loadPart (by assumption) ?_ | refine wpAny_loadPart (LX.old (by assumption) (by assumption) (by decide)) ?_ | refine wpAny_loadPart (LX.at (by assumption) 0 rfl) ?_ | refine wpAny_loadPart (LX.at (by assumption) 1 rfl) ?_ | refine wpAny_loadPart (LX.at (by assumption) 2 rfl) ?_ | refine wpAny_loadPart (LX.at (by assumption) 3 rfl) ?_ | refine wpAny_loadPart (LX.at (by assumption) 4 rfl) ?_ | refine wpAny_loadPart (LX.at (by assumption) 5 rfl) ?_ | refine wpAny_loadPart (LX.at (by assumption) 6 rfl) ?_ | refine wpAny_loadPart (LX.at (by assumption) 7 rfl) ?_ | refine wpAny_loadPart (LX.at (by assumption) 8 rfl) ?_ | refine wpAny_loadPart (LX.at (by assumption) 9 rfl) ?_ | refine wpAny_loadPart (LX.at (by assumption) 10 rfl) ?_ | refine wpAny_loadPart (LX.at (by assumption) 11 rfl) ?_ | refine wpAny_loadPart (LX.at (by assumption) 12 rfl) ?_)) | ((with_reducible show wpAny _ _ (load _) _ _ _); (with_reducible first | refine wpAny_load (by assumption) ?_ | refine wpAny_load (LX.old (by assumption) (by assumption) (by decide)) ?_ | refine wpAny_load (LX.at (by assumption) 0 rfl) ?_ | refine wpAny_load (LX.at (by assumption) 1 rfl) ?_ | refine wpAny_load (LX.at (by assumption) 2 rfl) ?_ | refine wpAny_load (LX.at (by assumption) 3 rfl) ?_ | refine wpAny_load (LX.at (by assumption) 4 rfl) ?_ | refine wpAny_load (LX.at (by assumption) 5 rfl) ?_ | refine wpAny_load (LX.at (by assumption) 6 rfl) ?_ | refine wpAny_load (LX.at (by assumption) 7 rfl) ?_ | refine wpAny_load (LX.at (by assumption) 8 rfl) ?_ | refine wpAny_load (LX.at (by assumption) 9 rfl) ?_ | refine wpAny_load (LX.at (by assumption) 10 rfl) ?_ | refine wpAny_load (LX.at (by assumption) 11 rfl) ?_ | refine wpAny_load (LX.at (by assumption) 12 rfl) ?_)) | (with_reducible refine iteFb (by with_reducible assumption) ?_) | (with_reducible refine iteTb (by with_reducible assumption) ?_) | (with_reducible refine iteTd (by kernel_rfl!) ?_) | (with_reducible refine iteFd (by kernel_rfl!) ?_) | (with_reducible refine wpAny_bind ?_) | ((with_reducible show wpAny _ _ (typeLookup (Value.ref _) _) _ _ _); unfold typeLookup) | ((fail_if_success (with_reducible show wpAny _ _ (alloc _) _ _ _)); (fail_if_success (with_reducible show wpAny _ _ (updatePart _ _ _) _ _ _)); (fail_if_success (with_reducible show wpAny _ _ (nsSet _ _ _) _ _ _)); (fail_if_success (with_reducible show wpAny _ _ (enterFrame) _ _ _)); (fail_if_success (with_reducible show wpAny _ _ (nsGet _ _) _ _ _)); (fail_if_success (with_reducible show wpAny _ _ (List.mapM mkText _) _ _ _)); (fail_if_success (with_reducible show wpAny _ _ (functionCode _ _ _ _ _ _ _ _) _ _ _)); (fail_if_success (with_reducible show wpAny _ _ (makeFunction _ _ _ _ _ _ _ _ _ _ _) _ _ _)); (fail_if_success (with_reducible show wpAny _ _ (getAttrBy _ _ _) _ _ _)); (fail_if_success (with_reducible show wpAny _ _ (run _) _ _ _)); (fail_if_success (with_reducible show wpAny _ _ (call _ _ _) _ _ _)); (fail_if_success (with_reducible show wpAny _ _ (Sem.tryCatch _ _) _ _ _)); (fail_if_success (with_reducible show wpAny _ _ (Sem.onRaise _ _) _ _ _)); wp_delta)))
  unfold callMarked
  refine wpAny_keep ?_
  refine' HC _ h5 _ _ _ _ ?hdep ?hun ?hha M5 fun k h6 t6 n6 M6 => ?_
  case hdep => exact rfl
  case hha => exact rfl
  case hun => show A.units + _ ≤ A.units + 30; omega
  have M7 := M5.trans M6
  repeat ((fail_if_success (with_reducible show wpAny _ _ (compareOp _ _ _) _ _ _)); (first | (with_reducible refine wpAny_of_eq (by with_reducible assumption) ?_) | (with_reducible refine bEq (by with_reducible assumption) ?_) | (with_reducible refine bPure ?_) | (with_reducible refine bAssoc ?_) | (with_reducible refine bRule ?_) | (with_reducible refine wpAny_pure ?_) | (with_reducible refine wpAny_holding ?_) | (with_reducible refine wpAny_standAt ?_) | (with_reducible refine wpAny_point ?_) | (with_reducible refine wpAny_rule ?_) | (with_reducible refine fresh5 ?_) | (with_reducible refine wpAny_attempt ?_) | ((with_reducible show wpAny _ _ (loadPart _ _) _ _ _); (with_reducible first | refine wpAny_loadPart (by assumption) ?_ | refine wpAny_loadPart (LX.old (by assumption) (by assumption) (by decide)) ?_ | refine wpAny_loadPart (LX.at (by assumption) 0 rfl) ?_ | refine wpAny_loadPart (LX.at (by assumption) 1 rfl) ?_ | refine wpAny_loadPart (LX.at (by assumption) 2 rfl) ?_ | refine wpAny_loadPart (LX.at (by assumption) 3 rfl) ?_ | refine wpAny_loadPart (LX.at (by assumption) 4 rfl) ?_ | refine wpAny_loadPart (LX.at (by assumption) 5 rfl) ?_ | refine wpAny_loadPart (LX.at (by assumption) 6 rfl) ?_ | refine wpAny_loadPart (LX.at (by assumption) 7 rfl) ?_ | refine wpAny_loadPart (LX.at (by assumption) 8 rfl) ?_ | refine wpAny_loadPart (LX.at (by assumption) 9 rfl) ?_ | refine wpAny_loadPart (LX.at (by assumption) 10 rfl) ?_ | refine wpAny_loadPart (LX.at (by assumption) 11 rfl) ?_ | refine wpAny_loadPart (LX.at (by assumption) 12 rfl) ?_)) | ((with_reducible show wpAny _ _ (load _) _ _ _); (with_reducible first | refine wpAny_load (by assumption) ?_ | refine wpAny_load (LX.old (by assumption) (by assumption) (by decide)) ?_ | refine wpAny_load (LX.at (by assumption) 0 rfl) ?_ | refine wpAny_load (LX.at (by assumption) 1 rfl) ?_ | refine wpAny_load (LX.at (by assumption) 2 rfl) ?_ | refine wpAny_load (LX.at (by assumption) 3 rfl) ?_ | refine wpAny_load (LX.at (by assumption) 4 rfl) ?_ | refine wpAny_load (LX.at (by assumption) 5 rfl) ?_ | refine wpAny_load (LX.at (by assumption) 6 rfl) ?_ | refine wpAny_load (LX.at (by assumption) 7 rfl) ?_ | refine wpAny_load (LX.at (by assumption) 8 rfl) ?_ | refine wpAny_load (LX.at (by assumption) 9 rfl) ?_ | refine wpAny_load (LX.at (by assumption) 10 rfl) ?_ | refine wpAny_load (LX.at (by assumption) 11 rfl) ?_ | refine wpAny_load (LX.at (by assumption) 12 rfl) ?_)) | (with_reducible refine iteFb (by with_reducible assumption) ?_) | (with_reducible refine iteTb (by with_reducible assumption) ?_) | (with_reducible refine iteTd (by kernel_rfl!) ?_) | (with_reducible refine iteFd (by kernel_rfl!) ?_) | (with_reducible refine wpAny_bind ?_) | ((with_reducible show wpAny _ _ (typeLookup (Value.ref _) _) _ _ _); unfold typeLookup) | ((fail_if_success (with_reducible show wpAny _ _ (alloc _) _ _ _)); (fail_if_success (with_reducible show wpAny _ _ (updatePart _ _ _) _ _ _)); (fail_if_success (with_reducible show wpAny _ _ (nsSet _ _ _) _ _ _)); (fail_if_success (with_reducible show wpAny _ _ (enterFrame) _ _ _)); (fail_if_success (with_reducible show wpAny _ _ (nsGet _ _) _ _ _)); (fail_if_success (with_reducible show wpAny _ _ (List.mapM mkText _) _ _ _)); (fail_if_success (with_reducible show wpAny _ _ (functionCode _ _ _ _ _ _ _ _) _ _ _)); (fail_if_success (with_reducible show wpAny _ _ (makeFunction _ _ _ _ _ _ _ _ _ _ _) _ _ _)); (fail_if_success (with_reducible show wpAny _ _ (getAttrBy _ _ _) _ _ _)); (fail_if_success (with_reducible show wpAny _ _ (run _) _ _ _)); (fail_if_success (with_reducible show wpAny _ _ (call _ _ _) _ _ _)); (fail_if_success (with_reducible show wpAny _ _ (Sem.tryCatch _ _) _ _ _)); (fail_if_success (with_reducible show wpAny _ _ (Sem.onRaise _ _) _ _ _)); wp_delta)))
  refine lt_int ?_
  repeat (first | (with_reducible refine wpAny_of_eq (by with_reducible assumption) ?_) | (with_reducible refine bEq (by with_reducible assumption) ?_) | (with_reducible refine bPure ?_) | (with_reducible refine bAssoc ?_) | (with_reducible refine bRule ?_) | (with_reducible refine wpAny_pure ?_) | (with_reducible refine wpAny_holding ?_) | (with_reducible refine wpAny_standAt ?_) | (with_reducible refine wpAny_point ?_) | (with_reducible refine wpAny_rule ?_) | (with_reducible refine fresh5 ?_) | (with_reducible refine wpAny_attempt ?_) | ((with_reducible show wpAny _ _ (loadPart _ _) _ _ _); (with_reducible first | refine wpAny_loadPart (by assumption) ?_ | refine wpAny_loadPart (LX.old (by assumption) (by assumption) (by decide)) ?_ | refine wpAny_loadPart (LX.at (by assumption) 0 rfl) ?_ | refine wpAny_loadPart (LX.at (by assumption) 1 rfl) ?_ | refine wpAny_loadPart (LX.at (by assumption) 2 rfl) ?_ | refine wpAny_loadPart (LX.at (by assumption) 3 rfl) ?_ | refine wpAny_loadPart (LX.at (by assumption) 4 rfl) ?_ | refine wpAny_loadPart (LX.at (by assumption) 5 rfl) ?_ | refine wpAny_loadPart (LX.at (by assumption) 6 rfl) ?_ | refine wpAny_loadPart (LX.at (by assumption) 7 rfl) ?_ | refine wpAny_loadPart (LX.at (by assumption) 8 rfl) ?_ | refine wpAny_loadPart (LX.at (by assumption) 9 rfl) ?_ | refine wpAny_loadPart (LX.at (by assumption) 10 rfl) ?_ | refine wpAny_loadPart (LX.at (by assumption) 11 rfl) ?_ | refine wpAny_loadPart (LX.at (by assumption) 12 rfl) ?_)) | ((with_reducible show wpAny _ _ (load _) _ _ _); (with_reducible first | refine wpAny_load (by assumption) ?_ | refine wpAny_load (LX.old (by assumption) (by assumption) (by decide)) ?_ | refine wpAny_load (LX.at (by assumption) 0 rfl) ?_ | refine wpAny_load (LX.at (by assumption) 1 rfl) ?_ | refine wpAny_load (LX.at (by assumption) 2 rfl) ?_ | refine wpAny_load (LX.at (by assumption) 3 rfl) ?_ | refine wpAny_load (LX.at (by assumption) 4 rfl) ?_ | refine wpAny_load (LX.at (by assumption) 5 rfl) ?_ | refine wpAny_load (LX.at (by assumption) 6 rfl) ?_ | refine wpAny_load (LX.at (by assumption) 7 rfl) ?_ | refine wpAny_load (LX.at (by assumption) 8 rfl) ?_ | refine wpAny_load (LX.at (by assumption) 9 rfl) ?_ | refine wpAny_load (LX.at (by assumption) 10 rfl) ?_ | refine wpAny_load (LX.at (by assumption) 11 rfl) ?_ | refine wpAny_load (LX.at (by assumption) 12 rfl) ?_)) | (with_reducible refine iteFb (by with_reducible assumption) ?_) | (with_reducible refine iteTb (by with_reducible assumption) ?_) | (with_reducible refine iteTd (by kernel_rfl!) ?_) | (with_reducible refine iteFd (by kernel_rfl!) ?_) | (with_reducible refine wpAny_bind ?_) | ((with_reducible show wpAny _ _ (typeLookup (Value.ref _) _) _ _ _); unfold typeLookup) | ((fail_if_success (with_reducible show wpAny _ _ (alloc _) _ _ _)); (fail_if_success (with_reducible show wpAny _ _ (updatePart _ _ _) _ _ _)); (fail_if_success (with_reducible show wpAny _ _ (nsSet _ _ _) _ _ _)); (fail_if_success (with_reducible show wpAny _ _ (enterFrame) _ _ _)); (fail_if_success (with_reducible show wpAny _ _ (nsGet _ _) _ _ _)); (fail_if_success (with_reducible show wpAny _ _ (List.mapM mkText _) _ _ _)); (fail_if_success (with_reducible show wpAny _ _ (functionCode _ _ _ _ _ _ _ _) _ _ _)); (fail_if_success (with_reducible show wpAny _ _ (makeFunction _ _ _ _ _ _ _ _ _ _ _) _ _ _)); (fail_if_success (with_reducible show wpAny _ _ (getAttrBy _ _ _) _ _ _)); (fail_if_success (with_reducible show wpAny _ _ (run _) _ _ _)); (fail_if_success (with_reducible show wpAny _ _ (call _ _ _) _ _ _)); (fail_if_success (with_reducible show wpAny _ _ (Sem.tryCatch _ _) _ _ _)); (fail_if_success (with_reducible show wpAny _ _ (Sem.onRaise _ _) _ _ _)); wp_delta))
  exact hQ _ _ _ M7
end Mine
end PartLT2
section PartKN2
open PySem PySem.W PySem.Calls PyProof.Rows PySem.W.X
set_option maxRecDepth 100000
set_option maxHeartbeats 8000000

namespace Mine
local macro_rules | `(tactic| x_close) => `(tactic| (apply_assumption; assumption))
theorem kNew2 {w : World} {file : Str} {e : Env} {Q E : Value → Shared → Prop} {h : Heap} {g : Array GenState} {d : Drawn} {t : Nat} {os : OsState} {md a ns bt sl f1 f2 f3 f4 f5 f6 sa kf0 tb0 : Addr} {qt mt ft nt : Tok} {hs : Nat → Int} {ks : Nat → Tok} {ih1 ih2 : Int} {ik1 ik2 ik : Tok} {k0 k1 k2 k18 : Tok} {v3 v4 v5 v6 v7 v8 v9 v10 v12 v13 v14 v15 v16 v17 : Value} {i : Int} {u : Tok}
   (X : (Mine.hd.heap_39 w.params).In h)
   (hmd : h.get? md = some { cls := .type "member_descriptor", data := .fields #[.str (Str.ofString "obj") ik, .ref a, .builtin "proto.slot", .builtin "proto.slot#set", rawInt 0] })
   (ha : h.get? a = some { cls := .type "type", data := .cls { name := Str.ofString "K", bases := [.type "object"], mro := [.ref a, .type "object"], ns := ns, qualname := Str.ofString "cmp_to_key.<locals>.K", hasDict := false, slotNames := [Str.ofString "obj"] }, slots := #[some (.ref bt), none, some (.str (Str.ofString "K") nt), some (.str (Str.ofString "cmp_to_key.<locals>.K") qt), some (.builtin "object.__new__"), some (.bool false)] })
   (hns : h.get? ns = some { cls := .type "dict", data := .dict (entsF hs ks (.str (Str.ofString "cpy313.functools") mt) (.int 53 ft) sl f1 f2 f3 f4 f5 f6 sa md ih1 ih2 ik1 ik2).toArray 3 })
   (hf1 : h.get? f1 = some { cls := .type "function", data := .func { name := Str.ofString "__init__", qualname := Str.ofString "cmp_to_key.<locals>.K.__init__", params := (defAt w.params 2).1, body := .stmts (defAt w.params 2).2.1, scope := (defAt w.params 2).2.2, globals := 3, closure := [], closureTuple := .none, code := .ref kf0, builtins := builtinsNs, defaults := .none, kwdefaults := .none, annotations := none, pyModule := .str (Str.ofString "law_oy0064_01") 278, doc := .none } })
   (hk : h.get? kf0 = some { cls := .type "code", data := .fields #[.str (Str.ofString "__init__") k0, .str (Str.ofString "cmp_to_key.<locals>.K.__init__") k1, .str file k2, v3, v4, v5, v6, v7, v8, v9, v10, .ref tb0, v12, v13, v14, v15, v16, v17, .str file k18] })
   (hQ : ∀ x dx fr ofr odx h' t', Mem h h' [] [(fr, ofr), (x, { cls := .ref a, dict := some dx, data := .plain, slots := #[some (.int i u)] }), (dx, odx)] → Q (.ref x) ⟨h', g, d, t', os⟩) :
   wpAny (model PySem.Challenge.rw_oy0064_01.row.prog w) (callerA.deeper e).in1.in1 (call (.ref a) [.int i u]) Q E ⟨h, g, d, t, os⟩ := by
  k_fill
  x_run
end Mine
end PartKN2
section PartSortA
open PySem PySem.W PySem.Calls PyProof.Rows PySem.W.X
set_option maxRecDepth 100000
set_option maxHeartbeats 8000000
namespace Mine

local macro_rules | `(tactic| x_close) => `(tactic| (apply_assumption; first | assumption | exact Mem.start _))
/-- what the heap holds of the class K made by cmp_to_key, its mycmp at f -/
structure KC0 (w : World) (h : Heap) (a f : Addr) : Prop where
  ex : ∃ (ad : Nat → Addr) (tk : Nat → Tok) (hs : Nat → Int) (ks : Nat → Tok) (ih : Nat → Int) (fd0 : FuncData) (file : Str) (od0 : Option Addr) (os0 : Array (Option Value)) (vl ul : Nat → Value),
    h.get? (ad 0) = some { cls := .type "member_descriptor", data := .fields #[.str (Str.ofString "obj") (tk 6), .ref a, .builtin "proto.slot", .builtin "proto.slot#set", rawInt 0] } ∧
    h.get? a = some { cls := .type "type", data := .cls { name := Str.ofString "K", bases := [.type "object"], mro := [.ref a, .type "object"], ns := (ad 1), qualname := Str.ofString "cmp_to_key.<locals>.K", hasDict := false, slotNames := [Str.ofString "obj"] }, slots := #[some (.ref (ad 2)), none, some (.str (Str.ofString "K") (tk 3)), some (.str (Str.ofString "cmp_to_key.<locals>.K") (tk 0)), some (.builtin "object.__new__"), some (.bool false)] } ∧
    h.get? (ad 1) = some { cls := .type "dict", data := .dict (entsF hs ks (.str (Str.ofString "cpy313.functools") (tk 1)) (.int 53 (tk 2)) (ad 3) (ad 4) (ad 5) (ad 6) (ad 7) (ad 8) (ad 9) (ad 10) (ad 0) (ih 0) (ih 1) (tk 4) (tk 5)).toArray 3 } ∧
    h.get? (ad 5) = some (funK w.params 3 "__lt__" [(Str.ofString "mycmp", (ad 11))] (.ref (ad 12)) (ad 14)) ∧ h.get? (ad 11) = some { cls := .type "cell", data := .cell (some (.ref f)) } ∧
    h.get? (ad 14) = some (codeO (Str.ofString "__lt__") (Str.ofString "cmp_to_key.<locals>.K.__lt__") file (tk 7) (tk 8) (tk 9) (tk 10) (vl 0) (vl 1) (vl 2) (vl 3) (vl 4) (vl 5) (vl 6) (vl 7) (vl 8) (vl 9) (vl 10) (vl 11) (vl 12) (vl 13) (ad 16)) ∧
    h.get? f = some ⟨.type "function", od0, .func fd0, os0⟩ ∧
    h.get? (ad 4) = some { cls := .type "function", data := .func { name := Str.ofString "__init__", qualname := Str.ofString "cmp_to_key.<locals>.K.__init__", params := (defAt w.params 2).1, body := .stmts (defAt w.params 2).2.1, scope := (defAt w.params 2).2.2, globals := 3, closure := [], closureTuple := .none, code := .ref (ad 13), builtins := builtinsNs, defaults := .none, kwdefaults := .none, annotations := none, pyModule := .str (Str.ofString "law_oy0064_01") 278, doc := .none } } ∧
    h.get? (ad 13) = some { cls := .type "code", data := .fields #[.str (Str.ofString "__init__") (tk 11), .str (Str.ofString "cmp_to_key.<locals>.K.__init__") (tk 12), .str file (tk 13), (ul 0), (ul 1), (ul 2), (ul 3), (ul 4), (ul 5), (ul 6), (ul 7), .ref (ad 15), (ul 8), (ul 9), (ul 10), (ul 11), (ul 12), (ul 13), .str file (tk 14)] }
noncomputable def KC (w : World) (h : Heap) (a f : Addr) : Prop := ∃ hb, KC0 w hb a f ∧ ∀ b o, hb.get? b = some o → h.get? b = some o
theorem KC.keeps {w : World} {h h' : Heap} {a f : Addr} (X : KC w h a f) (k : ∀ b o, h.get? b = some o → h'.get? b = some o) : KC w h' a f := by
  obtain ⟨hb, z, kb⟩ := X
  exact ⟨hb, z, fun b o e => k b o (kb b o e)⟩
noncomputable abbrev keyO (a dx : Addr) (i : Int) (u : Tok) : Obj := { cls := .ref a, dict := some dx, data := .plain, slots := #[some (.int i u)] }
end Mine
end PartSortA
section PartSortN
open PySem PySem.W PySem.Calls PyProof.Rows PySem.W.X
set_option maxRecDepth 100000
set_option maxHeartbeats 8000000
namespace Mine

local macro_rules | `(tactic| x_close) => `(tactic| (apply_assumption; first | assumption | exact Mem.start _))
theorem kNewW {w : World} {e : Env} {Q E : Value → Shared → Prop} {h : Heap} {g : Array GenState} {d : Drawn} {t : Nat} {os : OsState} {a f : Addr} {i : Int} {u : Tok} (X : (Mine.hd.heap_39 w.params).In h) (C : KC w h a f)
   (hQ : ∀ x dx h' t', (∀ b o, h.get? b = some o → h'.get? b = some o) → h'.get? x = some (keyO a dx i u) → h.get? x = none → Q (.ref x) ⟨h', g, d, t', os⟩) :
   wpAny (model PySem.Challenge.rw_oy0064_01.row.prog w) (callerA.deeper e).in1.in1 (call (.ref a) [.int i u]) Q E ⟨h, g, d, t, os⟩ := by
  obtain ⟨hb, K0, kb⟩ := C
  obtain ⟨ad, tk, hs, ks, ih, fd0, file, od0, os0, vl, ul, c1, c2, c3, c4, c5, c6, c7, c8, c9⟩ := K0.ex
  have e1 := kb _ _ c1
  have e2 := kb _ _ c2
  have e3 := kb _ _ c3
  have e4 := kb _ _ c4
  have e5 := kb _ _ c5
  have e6 := kb _ _ c6
  have e7 := kb _ _ c7
  have e8 := kb _ _ c8
  have e9 := kb _ _ c9
  clear c1 c2 c3 c4 c5 c6 c7 c8 c9
  refine kNew2 X e1 e2 e3 e8 e9 fun x dx fr ofr odx h' t' D => ?_
  have M := LM.of D
  exact hQ x dx h' t' M.keep (M.nw _ (.tail _ (.head _))).1 (M.nw _ (.tail _ (.head _))).2
end Mine
end PartSortN
section PartSortB
open PySem PySem.W PySem.Calls PyProof.Rows PySem.W.X
set_option maxRecDepth 100000
set_option maxHeartbeats 8000000
namespace Mine

local macro_rules | `(tactic| x_close) => `(tactic| (apply_assumption; first | assumption | exact Mem.start _))
theorem keyLtW {w : World} {A : Around} {C : Bool → Shared → Prop} {E : Value → Shared → Prop} {h : Heap} {g : Array GenState} {d : Drawn} {t : Nat} {os : OsState} {a f x dx y dy : Addr} {i j c : Int} {u v : Tok}
   (X : (Mine.hd.heap_39 w.params).In h) (hlim : h.NoLimit) (hroom : A.depth + 2 < recursionLimit) (hu : A.units < cLine) (K : KC w h a f) (hx : h.get? x = some (keyO a dx i u)) (hy : h.get? y = some (keyO a dy j v))
   (HC : ∀ (A' : Around) (h₁ : Heap) (t₁ : Nat) (Q' E' : Value → Shared → Prop), A'.depth = A.depth + 1 → A'.units ≤ A.units + 30 → A'.handled = A.handled → (∀ b o, h.get? b = some o → h₁.get? b = some o) → (∀ k h₂ t₂, (∀ b o, h₁.get? b = some o → h₂.get? b = some o) → Q' (.int c k) ⟨h₂, g, d, t₂, os⟩) →
      wpAny (model PySem.Challenge.rw_oy0064_01.row.prog w) A' (call (.ref f) [.int i u, .int j v]) Q' E' ⟨h₁, g, d, t₁, os⟩)
   (hC : ∀ h' t', (∀ b o, h.get? b = some o → h'.get? b = some o) → C (decide (c < 0)) ⟨h', g, d, t', os⟩) :
   wpAny (model PySem.Challenge.rw_oy0064_01.row.prog w) A (keyLt' oneType' (.ref x) (.ref y)) C E ⟨h, g, d, t, os⟩ := by
  obtain ⟨hb, K0, kb⟩ := K
  obtain ⟨ad, tk, hs, ks, ih, fd0, file, od0, os0, vl, ul, c1, c2, c3, c4, c5, c6, c7, c8, c9⟩ := K0.ex
  have e1 := kb _ _ c1
  have e2 := kb _ _ c2
  have e3 := kb _ _ c3
  have e4 := kb _ _ c4
  have e5 := kb _ _ c5
  have e6 := kb _ _ c6
  have e7 := kb _ _ c7
  have e8 := kb _ _ c8
  have e9 := kb _ _ c9
  clear c1 c2 c3 c4 c5 c6 c7 c8 c9
  rw [keyLt'_oneType, oneLt'_eq]
  simp only [if_true]
  refine wpAny_bind (wpAny_cRoomFor hu ?_)
  unfold callSpecialIfBound?
  repeat ((fail_if_success (with_reducible show wpAny _ _ (call _ _ _) _ _ _)); (first | (with_reducible refine wpAny_of_eq (by with_reducible assumption) ?_) | (with_reducible refine bEq (by with_reducible assumption) ?_) | (with_reducible refine bPure ?_) | (with_reducible refine bAssoc ?_) | (with_reducible refine bRule ?_) | (with_reducible refine wpAny_pure ?_) | (with_reducible refine wpAny_holding ?_) | (with_reducible refine wpAny_standAt ?_) | (with_reducible refine wpAny_point ?_) | (with_reducible refine wpAny_rule ?_) | (with_reducible refine fresh5 ?_) | (with_reducible refine wpAny_attempt ?_) | ((with_reducible show wpAny _ _ (loadPart _ _) _ _ _); (with_reducible first | refine wpAny_loadPart (by assumption) ?_ | refine wpAny_loadPart (LX.old (by assumption) (by assumption) (by decide)) ?_ | refine wpAny_loadPart (LX.at (by assumption) 0 rfl) ?_ | refine wpAny_loadPart (LX.at (by assumption) 1 rfl) ?_ | refine wpAny_loadPart (LX.at (by assumption) 2 rfl) ?_ | refine wpAny_loadPart (LX.at (by assumption) 3 rfl) ?_ | refine wpAny_loadPart (LX.at (by assumption) 4 rfl) ?_ | refine wpAny_loadPart (LX.at (by assumption) 5 rfl) ?_ | refine wpAny_loadPart (LX.at (by assumption) 6 rfl) ?_ | refine wpAny_loadPart (LX.at (by assumption) 7 rfl) ?_ | refine wpAny_loadPart (LX.at (by assumption) 8 rfl) ?_ | refine wpAny_loadPart (LX.at (by assumption) 9 rfl) ?_ | refine wpAny_loadPart (LX.at (by assumption) 10 rfl) ?_ | refine wpAny_loadPart (LX.at (by assumption) 11 rfl) ?_ | refine wpAny_loadPart (LX.at (by assumption) 12 rfl) ?_)) | ((with_reducible show wpAny _ _ (load _) _ _ _); (with_reducible first | refine wpAny_load (by assumption) ?_ | refine wpAny_load (LX.old (by assumption) (by assumption) (by decide)) ?_ | refine wpAny_load (LX.at (by assumption) 0 rfl) ?_ | refine wpAny_load (LX.at (by assumption) 1 rfl) ?_ | refine wpAny_load (LX.at (by assumption) 2 rfl) ?_ | refine wpAny_load (LX.at (by assumption) 3 rfl) ?_ | refine wpAny_load (LX.at (by assumption) 4 rfl) ?_ | refine wpAny_load (LX.at (by assumption) 5 rfl) ?_ | refine wpAny_load (LX.at (by assumption) 6 rfl) ?_ | refine wpAny_load (LX.at (by assumption) 7 rfl) ?_ | refine wpAny_load (LX.at (by assumption) 8 rfl) ?_ | refine wpAny_load (LX.at (by assumption) 9 rfl) ?_ | refine wpAny_load (LX.at (by assumption) 10 rfl) ?_ | refine wpAny_load (LX.at (by assumption) 11 rfl) ?_ | refine wpAny_load (LX.at (by assumption) 12 rfl) ?_)) | (with_reducible refine iteFb (by with_reducible assumption) ?_) | (with_reducible refine iteTb (by with_reducible assumption) ?_) | (with_reducible refine iteTd (by kernel_rfl!) ?_) | (with_reducible refine iteFd (by kernel_rfl!) ?_) | (with_reducible refine wpAny_bind ?_) | ((with_reducible show wpAny _ _ (typeLookup (Value.ref _) _) _ _ _); unfold typeLookup) | ((fail_if_success (with_reducible show wpAny _ _ (alloc _) _ _ _)); (fail_if_success (with_reducible show wpAny _ _ (updatePart _ _ _) _ _ _)); (fail_if_success (with_reducible show wpAny _ _ (nsSet _ _ _) _ _ _)); (fail_if_success (with_reducible show wpAny _ _ (enterFrame) _ _ _)); (fail_if_success (with_reducible show wpAny _ _ (nsGet _ _) _ _ _)); (fail_if_success (with_reducible show wpAny _ _ (List.mapM mkText _) _ _ _)); (fail_if_success (with_reducible show wpAny _ _ (functionCode _ _ _ _ _ _ _ _) _ _ _)); (fail_if_success (with_reducible show wpAny _ _ (makeFunction _ _ _ _ _ _ _ _ _ _ _) _ _ _)); (fail_if_success (with_reducible show wpAny _ _ (getAttrBy _ _ _) _ _ _)); (fail_if_success (with_reducible show wpAny _ _ (run _) _ _ _)); (fail_if_success (with_reducible show wpAny _ _ (call _ _ _) _ _ _)); (fail_if_success (with_reducible show wpAny _ _ (Sem.tryCatch _ _) _ _ _)); (fail_if_success (with_reducible show wpAny _ _ (Sem.onRaise _ _) _ _ _)); wp_delta)))
  refine nsGetH (r := some (.ref (ad 5))) e3 (by kernel_rfl!) ?_
  repeat ((fail_if_success (with_reducible show wpAny _ _ (call _ _ _) _ _ _)); (first | (with_reducible refine wpAny_of_eq (by with_reducible assumption) ?_) | (with_reducible refine bEq (by with_reducible assumption) ?_) | (with_reducible refine bPure ?_) | (with_reducible refine bAssoc ?_) | (with_reducible refine bRule ?_) | (with_reducible refine wpAny_pure ?_) | (with_reducible refine wpAny_holding ?_) | (with_reducible refine wpAny_standAt ?_) | (with_reducible refine wpAny_point ?_) | (with_reducible refine wpAny_rule ?_) | (with_reducible refine fresh5 ?_) | (with_reducible refine wpAny_attempt ?_) | ((with_reducible show wpAny _ _ (loadPart _ _) _ _ _); (with_reducible first | refine wpAny_loadPart (by assumption) ?_ | refine wpAny_loadPart (LX.old (by assumption) (by assumption) (by decide)) ?_ | refine wpAny_loadPart (LX.at (by assumption) 0 rfl) ?_ | refine wpAny_loadPart (LX.at (by assumption) 1 rfl) ?_ | refine wpAny_loadPart (LX.at (by assumption) 2 rfl) ?_ | refine wpAny_loadPart (LX.at (by assumption) 3 rfl) ?_ | refine wpAny_loadPart (LX.at (by assumption) 4 rfl) ?_ | refine wpAny_loadPart (LX.at (by assumption) 5 rfl) ?_ | refine wpAny_loadPart (LX.at (by assumption) 6 rfl) ?_ | refine wpAny_loadPart (LX.at (by assumption) 7 rfl) ?_ | refine wpAny_loadPart (LX.at (by assumption) 8 rfl) ?_ | refine wpAny_loadPart (LX.at (by assumption) 9 rfl) ?_ | refine wpAny_loadPart (LX.at (by assumption) 10 rfl) ?_ | refine wpAny_loadPart (LX.at (by assumption) 11 rfl) ?_ | refine wpAny_loadPart (LX.at (by assumption) 12 rfl) ?_)) | ((with_reducible show wpAny _ _ (load _) _ _ _); (with_reducible first | refine wpAny_load (by assumption) ?_ | refine wpAny_load (LX.old (by assumption) (by assumption) (by decide)) ?_ | refine wpAny_load (LX.at (by assumption) 0 rfl) ?_ | refine wpAny_load (LX.at (by assumption) 1 rfl) ?_ | refine wpAny_load (LX.at (by assumption) 2 rfl) ?_ | refine wpAny_load (LX.at (by assumption) 3 rfl) ?_ | refine wpAny_load (LX.at (by assumption) 4 rfl) ?_ | refine wpAny_load (LX.at (by assumption) 5 rfl) ?_ | refine wpAny_load (LX.at (by assumption) 6 rfl) ?_ | refine wpAny_load (LX.at (by assumption) 7 rfl) ?_ | refine wpAny_load (LX.at (by assumption) 8 rfl) ?_ | refine wpAny_load (LX.at (by assumption) 9 rfl) ?_ | refine wpAny_load (LX.at (by assumption) 10 rfl) ?_ | refine wpAny_load (LX.at (by assumption) 11 rfl) ?_ | refine wpAny_load (LX.at (by assumption) 12 rfl) ?_)) | (with_reducible refine iteFb (by with_reducible assumption) ?_) | (with_reducible refine iteTb (by with_reducible assumption) ?_) | (with_reducible refine iteTd (by kernel_rfl!) ?_) | (with_reducible refine iteFd (by kernel_rfl!) ?_) | (with_reducible refine wpAny_bind ?_) | ((with_reducible show wpAny _ _ (typeLookup (Value.ref _) _) _ _ _); unfold typeLookup) | ((fail_if_success (with_reducible show wpAny _ _ (alloc _) _ _ _)); (fail_if_success (with_reducible show wpAny _ _ (updatePart _ _ _) _ _ _)); (fail_if_success (with_reducible show wpAny _ _ (nsSet _ _ _) _ _ _)); (fail_if_success (with_reducible show wpAny _ _ (enterFrame) _ _ _)); (fail_if_success (with_reducible show wpAny _ _ (nsGet _ _) _ _ _)); (fail_if_success (with_reducible show wpAny _ _ (List.mapM mkText _) _ _ _)); (fail_if_success (with_reducible show wpAny _ _ (functionCode _ _ _ _ _ _ _ _) _ _ _)); (fail_if_success (with_reducible show wpAny _ _ (makeFunction _ _ _ _ _ _ _ _ _ _ _) _ _ _)); (fail_if_success (with_reducible show wpAny _ _ (getAttrBy _ _ _) _ _ _)); (fail_if_success (with_reducible show wpAny _ _ (run _) _ _ _)); (fail_if_success (with_reducible show wpAny _ _ (call _ _ _) _ _ _)); (fail_if_success (with_reducible show wpAny _ _ (Sem.tryCatch _ _) _ _ _)); (fail_if_success (with_reducible show wpAny _ _ (Sem.onRaise _ _) _ _ _)); wp_delta)))
  refine wpAny_askSetting ?_
  refine wpAny_ite ?_
  have go : ∀ Q' : Value → Shared → Prop, (∀ h' t', (∀ b o, h.get? b = some o → h'.get? b = some o) → Q' (.bool (decide (c < 0))) ⟨h', g, d, t', os⟩) → wpAny (model PySem.Challenge.rw_oy0064_01.row.prog w) A (call (.ref (ad 5)) [.ref x, .ref y]) Q' E ⟨h, g, d, t, os⟩ := fun Q' hQ' => by
    refine ltK X hlim hroom e1 e2 e3 hx hy e4 e5 e6 e7 (fun A' h₁ n1 t₁ Q'' E' a1 a2 a3 a4 a5 => ?_) fun h' t' n' M => hQ' h' t' M.keep
    exact HC A' h₁ t₁ Q'' E' a1 a2 a3 a4.keep fun k h₂ t₂ kk => a5 k h₂ t₂ [] ⟨kk, fun p hp => (nomatch hp), List.Pairwise.nil⟩
  split
  · repeat ((fail_if_success (with_reducible show wpAny _ _ (call _ _ _) _ _ _)); (first | (with_reducible refine wpAny_of_eq (by with_reducible assumption) ?_) | (with_reducible refine bEq (by with_reducible assumption) ?_) | (with_reducible refine bPure ?_) | (with_reducible refine bAssoc ?_) | (with_reducible refine bRule ?_) | (with_reducible refine wpAny_pure ?_) | (with_reducible refine wpAny_holding ?_) | (with_reducible refine wpAny_standAt ?_) | (with_reducible refine wpAny_point ?_) | (with_reducible refine wpAny_rule ?_) | (with_reducible refine fresh5 ?_) | (with_reducible refine wpAny_attempt ?_) | ((with_reducible show wpAny _ _ (loadPart _ _) _ _ _); (with_reducible first | refine wpAny_loadPart (by assumption) ?_ | refine wpAny_loadPart (LX.old (by assumption) (by assumption) (by decide)) ?_ | refine wpAny_loadPart (LX.at (by assumption) 0 rfl) ?_ | refine wpAny_loadPart (LX.at (by assumption) 1 rfl) ?_ | refine wpAny_loadPart (LX.at (by assumption) 2 rfl) ?_ | refine wpAny_loadPart (LX.at (by assumption) 3 rfl) ?_ | refine wpAny_loadPart (LX.at (by assumption) 4 rfl) ?_ | refine wpAny_loadPart (LX.at (by assumption) 5 rfl) ?_ | refine wpAny_loadPart (LX.at (by assumption) 6 rfl) ?_ | refine wpAny_loadPart (LX.at (by assumption) 7 rfl) ?_ | refine wpAny_loadPart (LX.at (by assumption) 8 rfl) ?_ | refine wpAny_loadPart (LX.at (by assumption) 9 rfl) ?_ | refine wpAny_loadPart (LX.at (by assumption) 10 rfl) ?_ | refine wpAny_loadPart (LX.at (by assumption) 11 rfl) ?_ | refine wpAny_loadPart (LX.at (by assumption) 12 rfl) ?_)) | ((with_reducible show wpAny _ _ (load _) _ _ _); (with_reducible first | refine wpAny_load (by assumption) ?_ | refine wpAny_load (LX.old (by assumption) (by assumption) (by decide)) ?_ | refine wpAny_load (LX.at (by assumption) 0 rfl) ?_ | refine wpAny_load (LX.at (by assumption) 1 rfl) ?_ | refine wpAny_load (LX.at (by assumption) 2 rfl) ?_ | refine wpAny_load (LX.at (by assumption) 3 rfl) ?_ | refine wpAny_load (LX.at (by assumption) 4 rfl) ?_ | refine wpAny_load (LX.at (by assumption) 5 rfl) ?_ | refine wpAny_load (LX.at (by assumption) 6 rfl) ?_ | refine wpAny_load (LX.at (by assumption) 7 rfl) ?_ | refine wpAny_load (LX.at (by assumption) 8 rfl) ?_ | refine wpAny_load (LX.at (by assumption) 9 rfl) ?_ | refine wpAny_load (LX.at (by assumption) 10 rfl) ?_ | refine wpAny_load (LX.at (by assumption) 11 rfl) ?_ | refine wpAny_load (LX.at (by assumption) 12 rfl) ?_)) | (with_reducible refine iteFb (by with_reducible assumption) ?_) | (with_reducible refine iteTb (by with_reducible assumption) ?_) | (with_reducible refine iteTd (by kernel_rfl!) ?_) | (with_reducible refine iteFd (by kernel_rfl!) ?_) | (with_reducible refine wpAny_bind ?_) | ((with_reducible show wpAny _ _ (typeLookup (Value.ref _) _) _ _ _); unfold typeLookup) | ((fail_if_success (with_reducible show wpAny _ _ (alloc _) _ _ _)); (fail_if_success (with_reducible show wpAny _ _ (updatePart _ _ _) _ _ _)); (fail_if_success (with_reducible show wpAny _ _ (nsSet _ _ _) _ _ _)); (fail_if_success (with_reducible show wpAny _ _ (enterFrame) _ _ _)); (fail_if_success (with_reducible show wpAny _ _ (nsGet _ _) _ _ _)); (fail_if_success (with_reducible show wpAny _ _ (List.mapM mkText _) _ _ _)); (fail_if_success (with_reducible show wpAny _ _ (functionCode _ _ _ _ _ _ _ _) _ _ _)); (fail_if_success (with_reducible show wpAny _ _ (makeFunction _ _ _ _ _ _ _ _ _ _ _) _ _ _)); (fail_if_success (with_reducible show wpAny _ _ (getAttrBy _ _ _) _ _ _)); (fail_if_success (with_reducible show wpAny _ _ (run _) _ _ _)); (fail_if_success (with_reducible show wpAny _ _ (call _ _ _) _ _ _)); (fail_if_success (with_reducible show wpAny _ _ (Sem.tryCatch _ _) _ _ _)); (fail_if_success (with_reducible show wpAny _ _ (Sem.onRaise _ _) _ _ _)); wp_delta)))
    unfold bindSpecial
    repeat ((fail_if_success (with_reducible show wpAny _ _ (call _ _ _) _ _ _)); (first | (with_reducible refine wpAny_of_eq (by with_reducible assumption) ?_) | (with_reducible refine bEq (by with_reducible assumption) ?_) | (with_reducible refine bPure ?_) | (with_reducible refine bAssoc ?_) | (with_reducible refine bRule ?_) | (with_reducible refine wpAny_pure ?_) | (with_reducible refine wpAny_holding ?_) | (with_reducible refine wpAny_standAt ?_) | (with_reducible refine wpAny_point ?_) | (with_reducible refine wpAny_rule ?_) | (with_reducible refine fresh5 ?_) | (with_reducible refine wpAny_attempt ?_) | ((with_reducible show wpAny _ _ (loadPart _ _) _ _ _); (with_reducible first | refine wpAny_loadPart (by assumption) ?_ | refine wpAny_loadPart (LX.old (by assumption) (by assumption) (by decide)) ?_ | refine wpAny_loadPart (LX.at (by assumption) 0 rfl) ?_ | refine wpAny_loadPart (LX.at (by assumption) 1 rfl) ?_ | refine wpAny_loadPart (LX.at (by assumption) 2 rfl) ?_ | refine wpAny_loadPart (LX.at (by assumption) 3 rfl) ?_ | refine wpAny_loadPart (LX.at (by assumption) 4 rfl) ?_ | refine wpAny_loadPart (LX.at (by assumption) 5 rfl) ?_ | refine wpAny_loadPart (LX.at (by assumption) 6 rfl) ?_ | refine wpAny_loadPart (LX.at (by assumption) 7 rfl) ?_ | refine wpAny_loadPart (LX.at (by assumption) 8 rfl) ?_ | refine wpAny_loadPart (LX.at (by assumption) 9 rfl) ?_ | refine wpAny_loadPart (LX.at (by assumption) 10 rfl) ?_ | refine wpAny_loadPart (LX.at (by assumption) 11 rfl) ?_ | refine wpAny_loadPart (LX.at (by assumption) 12 rfl) ?_)) | ((with_reducible show wpAny _ _ (load _) _ _ _); (with_reducible first | refine wpAny_load (by assumption) ?_ | refine wpAny_load (LX.old (by assumption) (by assumption) (by decide)) ?_ | refine wpAny_load (LX.at (by assumption) 0 rfl) ?_ | refine wpAny_load (LX.at (by assumption) 1 rfl) ?_ | refine wpAny_load (LX.at (by assumption) 2 rfl) ?_ | refine wpAny_load (LX.at (by assumption) 3 rfl) ?_ | refine wpAny_load (LX.at (by assumption) 4 rfl) ?_ | refine wpAny_load (LX.at (by assumption) 5 rfl) ?_ | refine wpAny_load (LX.at (by assumption) 6 rfl) ?_ | refine wpAny_load (LX.at (by assumption) 7 rfl) ?_ | refine wpAny_load (LX.at (by assumption) 8 rfl) ?_ | refine wpAny_load (LX.at (by assumption) 9 rfl) ?_ | refine wpAny_load (LX.at (by assumption) 10 rfl) ?_ | refine wpAny_load (LX.at (by assumption) 11 rfl) ?_ | refine wpAny_load (LX.at (by assumption) 12 rfl) ?_)) | (with_reducible refine iteFb (by with_reducible assumption) ?_) | (with_reducible refine iteTb (by with_reducible assumption) ?_) | (with_reducible refine iteTd (by kernel_rfl!) ?_) | (with_reducible refine iteFd (by kernel_rfl!) ?_) | (with_reducible refine wpAny_bind ?_) | ((with_reducible show wpAny _ _ (typeLookup (Value.ref _) _) _ _ _); unfold typeLookup) | ((fail_if_success (with_reducible show wpAny _ _ (alloc _) _ _ _)); (fail_if_success (with_reducible show wpAny _ _ (updatePart _ _ _) _ _ _)); (fail_if_success (with_reducible show wpAny _ _ (nsSet _ _ _) _ _ _)); (fail_if_success (with_reducible show wpAny _ _ (enterFrame) _ _ _)); (fail_if_success (with_reducible show wpAny _ _ (nsGet _ _) _ _ _)); (fail_if_success (with_reducible show wpAny _ _ (List.mapM mkText _) _ _ _)); (fail_if_success (with_reducible show wpAny _ _ (functionCode _ _ _ _ _ _ _ _) _ _ _)); (fail_if_success (with_reducible show wpAny _ _ (makeFunction _ _ _ _ _ _ _ _ _ _ _) _ _ _)); (fail_if_success (with_reducible show wpAny _ _ (getAttrBy _ _ _) _ _ _)); (fail_if_success (with_reducible show wpAny _ _ (run _) _ _ _)); (fail_if_success (with_reducible show wpAny _ _ (call _ _ _) _ _ _)); (fail_if_success (with_reducible show wpAny _ _ (Sem.tryCatch _ _) _ _ _)); (fail_if_success (with_reducible show wpAny _ _ (Sem.onRaise _ _) _ _ _)); wp_delta)))
    refine go _ fun h' t' k => ?_
    repeat (first | (with_reducible refine wpAny_of_eq (by with_reducible assumption) ?_) | (with_reducible refine bEq (by with_reducible assumption) ?_) | (with_reducible refine bPure ?_) | (with_reducible refine bAssoc ?_) | (with_reducible refine bRule ?_) | (with_reducible refine wpAny_pure ?_) | (with_reducible refine wpAny_holding ?_) | (with_reducible refine wpAny_standAt ?_) | (with_reducible refine wpAny_point ?_) | (with_reducible refine wpAny_rule ?_) | (with_reducible refine fresh5 ?_) | (with_reducible refine wpAny_attempt ?_) | ((with_reducible show wpAny _ _ (loadPart _ _) _ _ _); (with_reducible first | refine wpAny_loadPart (by assumption) ?_ | refine wpAny_loadPart (LX.old (by assumption) (by assumption) (by decide)) ?_ | refine wpAny_loadPart (LX.at (by assumption) 0 rfl) ?_ | refine wpAny_loadPart (LX.at (by assumption) 1 rfl) ?_ | refine wpAny_loadPart (LX.at (by assumption) 2 rfl) ?_ | refine wpAny_loadPart (LX.at (by assumption) 3 rfl) ?_ | refine wpAny_loadPart (LX.at (by assumption) 4 rfl) ?_ | refine wpAny_loadPart (LX.at (by assumption) 5 rfl) ?_ | refine wpAny_loadPart (LX.at (by assumption) 6 rfl) ?_ | refine wpAny_loadPart (LX.at (by assumption) 7 rfl) ?_ | refine wpAny_loadPart (LX.at (by assumption) 8 rfl) ?_ | refine wpAny_loadPart (LX.at (by assumption) 9 rfl) ?_ | refine wpAny_loadPart (LX.at (by assumption) 10 rfl) ?_ | refine wpAny_loadPart (LX.at (by assumption) 11 rfl) ?_ | refine wpAny_loadPart (LX.at (by assumption) 12 rfl) ?_)) | ((with_reducible show wpAny _ _ (load _) _ _ _); (with_reducible first | refine wpAny_load (by assumption) ?_ | refine wpAny_load (LX.old (by assumption) (by assumption) (by decide)) ?_ | refine wpAny_load (LX.at (by assumption) 0 rfl) ?_ | refine wpAny_load (LX.at (by assumption) 1 rfl) ?_ | refine wpAny_load (LX.at (by assumption) 2 rfl) ?_ | refine wpAny_load (LX.at (by assumption) 3 rfl) ?_ | refine wpAny_load (LX.at (by assumption) 4 rfl) ?_ | refine wpAny_load (LX.at (by assumption) 5 rfl) ?_ | refine wpAny_load (LX.at (by assumption) 6 rfl) ?_ | refine wpAny_load (LX.at (by assumption) 7 rfl) ?_ | refine wpAny_load (LX.at (by assumption) 8 rfl) ?_ | refine wpAny_load (LX.at (by assumption) 9 rfl) ?_ | refine wpAny_load (LX.at (by assumption) 10 rfl) ?_ | refine wpAny_load (LX.at (by assumption) 11 rfl) ?_ | refine wpAny_load (LX.at (by assumption) 12 rfl) ?_)) | (with_reducible refine iteFb (by with_reducible assumption) ?_) | (with_reducible refine iteTb (by with_reducible assumption) ?_) | (with_reducible refine iteTd (by kernel_rfl!) ?_) | (with_reducible refine iteFd (by kernel_rfl!) ?_) | (with_reducible refine wpAny_bind ?_) | ((with_reducible show wpAny _ _ (typeLookup (Value.ref _) _) _ _ _); unfold typeLookup) | ((fail_if_success (with_reducible show wpAny _ _ (alloc _) _ _ _)); (fail_if_success (with_reducible show wpAny _ _ (updatePart _ _ _) _ _ _)); (fail_if_success (with_reducible show wpAny _ _ (nsSet _ _ _) _ _ _)); (fail_if_success (with_reducible show wpAny _ _ (enterFrame) _ _ _)); (fail_if_success (with_reducible show wpAny _ _ (nsGet _ _) _ _ _)); (fail_if_success (with_reducible show wpAny _ _ (List.mapM mkText _) _ _ _)); (fail_if_success (with_reducible show wpAny _ _ (functionCode _ _ _ _ _ _ _ _) _ _ _)); (fail_if_success (with_reducible show wpAny _ _ (makeFunction _ _ _ _ _ _ _ _ _ _ _) _ _ _)); (fail_if_success (with_reducible show wpAny _ _ (getAttrBy _ _ _) _ _ _)); (fail_if_success (with_reducible show wpAny _ _ (run _) _ _ _)); (fail_if_success (with_reducible show wpAny _ _ (call _ _ _) _ _ _)); (fail_if_success (with_reducible show wpAny _ _ (Sem.tryCatch _ _) _ _ _)); (fail_if_success (with_reducible show wpAny _ _ (Sem.onRaise _ _) _ _ _)); wp_delta))
    exact hC _ _ k
  · refine wpAny_tryCatch ?_
    repeat ((fail_if_success (with_reducible show wpAny _ _ (call _ _ _) _ _ _)); (first | (with_reducible refine wpAny_of_eq (by with_reducible assumption) ?_) | (with_reducible refine bEq (by with_reducible assumption) ?_) | (with_reducible refine bPure ?_) | (with_reducible refine bAssoc ?_) | (with_reducible refine bRule ?_) | (with_reducible refine wpAny_pure ?_) | (with_reducible refine wpAny_holding ?_) | (with_reducible refine wpAny_standAt ?_) | (with_reducible refine wpAny_point ?_) | (with_reducible refine wpAny_rule ?_) | (with_reducible refine fresh5 ?_) | (with_reducible refine wpAny_attempt ?_) | ((with_reducible show wpAny _ _ (loadPart _ _) _ _ _); (with_reducible first | refine wpAny_loadPart (by assumption) ?_ | refine wpAny_loadPart (LX.old (by assumption) (by assumption) (by decide)) ?_ | refine wpAny_loadPart (LX.at (by assumption) 0 rfl) ?_ | refine wpAny_loadPart (LX.at (by assumption) 1 rfl) ?_ | refine wpAny_loadPart (LX.at (by assumption) 2 rfl) ?_ | refine wpAny_loadPart (LX.at (by assumption) 3 rfl) ?_ | refine wpAny_loadPart (LX.at (by assumption) 4 rfl) ?_ | refine wpAny_loadPart (LX.at (by assumption) 5 rfl) ?_ | refine wpAny_loadPart (LX.at (by assumption) 6 rfl) ?_ | refine wpAny_loadPart (LX.at (by assumption) 7 rfl) ?_ | refine wpAny_loadPart (LX.at (by assumption) 8 rfl) ?_ | refine wpAny_loadPart (LX.at (by assumption) 9 rfl) ?_ | refine wpAny_loadPart (LX.at (by assumption) 10 rfl) ?_ | refine wpAny_loadPart (LX.at (by assumption) 11 rfl) ?_ | refine wpAny_loadPart (LX.at (by assumption) 12 rfl) ?_)) | ((with_reducible show wpAny _ _ (load _) _ _ _); (with_reducible first | refine wpAny_load (by assumption) ?_ | refine wpAny_load (LX.old (by assumption) (by assumption) (by decide)) ?_ | refine wpAny_load (LX.at (by assumption) 0 rfl) ?_ | refine wpAny_load (LX.at (by assumption) 1 rfl) ?_ | refine wpAny_load (LX.at (by assumption) 2 rfl) ?_ | refine wpAny_load (LX.at (by assumption) 3 rfl) ?_ | refine wpAny_load (LX.at (by assumption) 4 rfl) ?_ | refine wpAny_load (LX.at (by assumption) 5 rfl) ?_ | refine wpAny_load (LX.at (by assumption) 6 rfl) ?_ | refine wpAny_load (LX.at (by assumption) 7 rfl) ?_ | refine wpAny_load (LX.at (by assumption) 8 rfl) ?_ | refine wpAny_load (LX.at (by assumption) 9 rfl) ?_ | refine wpAny_load (LX.at (by assumption) 10 rfl) ?_ | refine wpAny_load (LX.at (by assumption) 11 rfl) ?_ | refine wpAny_load (LX.at (by assumption) 12 rfl) ?_)) | (with_reducible refine iteFb (by with_reducible assumption) ?_) | (with_reducible refine iteTb (by with_reducible assumption) ?_) | (with_reducible refine iteTd (by kernel_rfl!) ?_) | (with_reducible refine iteFd (by kernel_rfl!) ?_) | (with_reducible refine wpAny_bind ?_) | ((with_reducible show wpAny _ _ (typeLookup (Value.ref _) _) _ _ _); unfold typeLookup) | ((fail_if_success (with_reducible show wpAny _ _ (alloc _) _ _ _)); (fail_if_success (with_reducible show wpAny _ _ (updatePart _ _ _) _ _ _)); (fail_if_success (with_reducible show wpAny _ _ (nsSet _ _ _) _ _ _)); (fail_if_success (with_reducible show wpAny _ _ (enterFrame) _ _ _)); (fail_if_success (with_reducible show wpAny _ _ (nsGet _ _) _ _ _)); (fail_if_success (with_reducible show wpAny _ _ (List.mapM mkText _) _ _ _)); (fail_if_success (with_reducible show wpAny _ _ (functionCode _ _ _ _ _ _ _ _) _ _ _)); (fail_if_success (with_reducible show wpAny _ _ (makeFunction _ _ _ _ _ _ _ _ _ _ _) _ _ _)); (fail_if_success (with_reducible show wpAny _ _ (getAttrBy _ _ _) _ _ _)); (fail_if_success (with_reducible show wpAny _ _ (run _) _ _ _)); (fail_if_success (with_reducible show wpAny _ _ (call _ _ _) _ _ _)); (fail_if_success (with_reducible show wpAny _ _ (Sem.tryCatch _ _) _ _ _)); (fail_if_success (with_reducible show wpAny _ _ (Sem.onRaise _ _) _ _ _)); wp_delta)))
    unfold bindSpecial
    repeat ((fail_if_success (with_reducible show wpAny _ _ (call _ _ _) _ _ _)); (first | (with_reducible refine wpAny_of_eq (by with_reducible assumption) ?_) | (with_reducible refine bEq (by with_reducible assumption) ?_) | (with_reducible refine bPure ?_) | (with_reducible refine bAssoc ?_) | (with_reducible refine bRule ?_) | (with_reducible refine wpAny_pure ?_) | (with_reducible refine wpAny_holding ?_) | (with_reducible refine wpAny_standAt ?_) | (with_reducible refine wpAny_point ?_) | (with_reducible refine wpAny_rule ?_) | (with_reducible refine fresh5 ?_) | (with_reducible refine wpAny_attempt ?_) | ((with_reducible show wpAny _ _ (loadPart _ _) _ _ _); (with_reducible first | refine wpAny_loadPart (by assumption) ?_ | refine wpAny_loadPart (LX.old (by assumption) (by assumption) (by decide)) ?_ | refine wpAny_loadPart (LX.at (by assumption) 0 rfl) ?_ | refine wpAny_loadPart (LX.at (by assumption) 1 rfl) ?_ | refine wpAny_loadPart (LX.at (by assumption) 2 rfl) ?_ | refine wpAny_loadPart (LX.at (by assumption) 3 rfl) ?_ | refine wpAny_loadPart (LX.at (by assumption) 4 rfl) ?_ | refine wpAny_loadPart (LX.at (by assumption) 5 rfl) ?_ | refine wpAny_loadPart (LX.at (by assumption) 6 rfl) ?_ | refine wpAny_loadPart (LX.at (by assumption) 7 rfl) ?_ | refine wpAny_loadPart (LX.at (by assumption) 8 rfl) ?_ | refine wpAny_loadPart (LX.at (by assumption) 9 rfl) ?_ | refine wpAny_loadPart (LX.at (by assumption) 10 rfl) ?_ | refine wpAny_loadPart (LX.at (by assumption) 11 rfl) ?_ | refine wpAny_loadPart (LX.at (by assumption) 12 rfl) ?_)) | ((with_reducible show wpAny _ _ (load _) _ _ _); (with_reducible first | refine wpAny_load (by assumption) ?_ | refine wpAny_load (LX.old (by assumption) (by assumption) (by decide)) ?_ | refine wpAny_load (LX.at (by assumption) 0 rfl) ?_ | refine wpAny_load (LX.at (by assumption) 1 rfl) ?_ | refine wpAny_load (LX.at (by assumption) 2 rfl) ?_ | refine wpAny_load (LX.at (by assumption) 3 rfl) ?_ | refine wpAny_load (LX.at (by assumption) 4 rfl) ?_ | refine wpAny_load (LX.at (by assumption) 5 rfl) ?_ | refine wpAny_load (LX.at (by assumption) 6 rfl) ?_ | refine wpAny_load (LX.at (by assumption) 7 rfl) ?_ | refine wpAny_load (LX.at (by assumption) 8 rfl) ?_ | refine wpAny_load (LX.at (by assumption) 9 rfl) ?_ | refine wpAny_load (LX.at (by assumption) 10 rfl) ?_ | refine wpAny_load (LX.at (by assumption) 11 rfl) ?_ | refine wpAny_load (LX.at (by assumption) 12 rfl) ?_)) | (with_reducible refine iteFb (by with_reducible assumption) ?_) | (with_reducible refine iteTb (by with_reducible assumption) ?_) | (with_reducible refine iteTd (by kernel_rfl!) ?_) | (with_reducible refine iteFd (by kernel_rfl!) ?_) | (with_reducible refine wpAny_bind ?_) | ((with_reducible show wpAny _ _ (typeLookup (Value.ref _) _) _ _ _); unfold typeLookup) | ((fail_if_success (with_reducible show wpAny _ _ (alloc _) _ _ _)); (fail_if_success (with_reducible show wpAny _ _ (updatePart _ _ _) _ _ _)); (fail_if_success (with_reducible show wpAny _ _ (nsSet _ _ _) _ _ _)); (fail_if_success (with_reducible show wpAny _ _ (enterFrame) _ _ _)); (fail_if_success (with_reducible show wpAny _ _ (nsGet _ _) _ _ _)); (fail_if_success (with_reducible show wpAny _ _ (List.mapM mkText _) _ _ _)); (fail_if_success (with_reducible show wpAny _ _ (functionCode _ _ _ _ _ _ _ _) _ _ _)); (fail_if_success (with_reducible show wpAny _ _ (makeFunction _ _ _ _ _ _ _ _ _ _ _) _ _ _)); (fail_if_success (with_reducible show wpAny _ _ (getAttrBy _ _ _) _ _ _)); (fail_if_success (with_reducible show wpAny _ _ (run _) _ _ _)); (fail_if_success (with_reducible show wpAny _ _ (call _ _ _) _ _ _)); (fail_if_success (with_reducible show wpAny _ _ (Sem.tryCatch _ _) _ _ _)); (fail_if_success (with_reducible show wpAny _ _ (Sem.onRaise _ _) _ _ _)); wp_delta)))
    refine go _ fun h' t' k => ?_
    repeat (first | (with_reducible refine wpAny_of_eq (by with_reducible assumption) ?_) | (with_reducible refine bEq (by with_reducible assumption) ?_) | (with_reducible refine bPure ?_) | (with_reducible refine bAssoc ?_) | (with_reducible refine bRule ?_) | (with_reducible refine wpAny_pure ?_) | (with_reducible refine wpAny_holding ?_) | (with_reducible refine wpAny_standAt ?_) | (with_reducible refine wpAny_point ?_) | (with_reducible refine wpAny_rule ?_) | (with_reducible refine fresh5 ?_) | (with_reducible refine wpAny_attempt ?_) | ((with_reducible show wpAny _ _ (loadPart _ _) _ _ _); (with_reducible first | refine wpAny_loadPart (by assumption) ?_ | refine wpAny_loadPart (LX.old (by assumption) (by assumption) (by decide)) ?_ | refine wpAny_loadPart (LX.at (by assumption) 0 rfl) ?_ | refine wpAny_loadPart (LX.at (by assumption) 1 rfl) ?_ | refine wpAny_loadPart (LX.at (by assumption) 2 rfl) ?_ | refine wpAny_loadPart (LX.at (by assumption) 3 rfl) ?_ | refine wpAny_loadPart (LX.at (by assumption) 4 rfl) ?_ | refine wpAny_loadPart (LX.at (by assumption) 5 rfl) ?_ | refine wpAny_loadPart (LX.at (by assumption) 6 rfl) ?_ | refine wpAny_loadPart (LX.at (by assumption) 7 rfl) ?_ | refine wpAny_loadPart (LX.at (by assumption) 8 rfl) ?_ | refine wpAny_loadPart (LX.at (by assumption) 9 rfl) ?_ | refine wpAny_loadPart (LX.at (by assumption) 10 rfl) ?_ | refine wpAny_loadPart (LX.at (by assumption) 11 rfl) ?_ | refine wpAny_loadPart (LX.at (by assumption) 12 rfl) ?_)) | ((with_reducible show wpAny _ _ (load _) _ _ _); (with_reducible first | refine wpAny_load (by assumption) ?_ | refine wpAny_load (LX.old (by assumption) (by assumption) (by decide)) ?_ | refine wpAny_load (LX.at (by assumption) 0 rfl) ?_ | refine wpAny_load (LX.at (by assumption) 1 rfl) ?_ | refine wpAny_load (LX.at (by assumption) 2 rfl) ?_ | refine wpAny_load (LX.at (by assumption) 3 rfl) ?_ | refine wpAny_load (LX.at (by assumption) 4 rfl) ?_ | refine wpAny_load (LX.at (by assumption) 5 rfl) ?_ | refine wpAny_load (LX.at (by assumption) 6 rfl) ?_ | refine wpAny_load (LX.at (by assumption) 7 rfl) ?_ | refine wpAny_load (LX.at (by assumption) 8 rfl) ?_ | refine wpAny_load (LX.at (by assumption) 9 rfl) ?_ | refine wpAny_load (LX.at (by assumption) 10 rfl) ?_ | refine wpAny_load (LX.at (by assumption) 11 rfl) ?_ | refine wpAny_load (LX.at (by assumption) 12 rfl) ?_)) | (with_reducible refine iteFb (by with_reducible assumption) ?_) | (with_reducible refine iteTb (by with_reducible assumption) ?_) | (with_reducible refine iteTd (by kernel_rfl!) ?_) | (with_reducible refine iteFd (by kernel_rfl!) ?_) | (with_reducible refine wpAny_bind ?_) | ((with_reducible show wpAny _ _ (typeLookup (Value.ref _) _) _ _ _); unfold typeLookup) | ((fail_if_success (with_reducible show wpAny _ _ (alloc _) _ _ _)); (fail_if_success (with_reducible show wpAny _ _ (updatePart _ _ _) _ _ _)); (fail_if_success (with_reducible show wpAny _ _ (nsSet _ _ _) _ _ _)); (fail_if_success (with_reducible show wpAny _ _ (enterFrame) _ _ _)); (fail_if_success (with_reducible show wpAny _ _ (nsGet _ _) _ _ _)); (fail_if_success (with_reducible show wpAny _ _ (List.mapM mkText _) _ _ _)); (fail_if_success (with_reducible show wpAny _ _ (functionCode _ _ _ _ _ _ _ _) _ _ _)); (fail_if_success (with_reducible show wpAny _ _ (makeFunction _ _ _ _ _ _ _ _ _ _ _) _ _ _)); (fail_if_success (with_reducible show wpAny _ _ (getAttrBy _ _ _) _ _ _)); (fail_if_success (with_reducible show wpAny _ _ (run _) _ _ _)); (fail_if_success (with_reducible show wpAny _ _ (call _ _ _) _ _ _)); (fail_if_success (with_reducible show wpAny _ _ (Sem.tryCatch _ _) _ _ _)); (fail_if_success (with_reducible show wpAny _ _ (Sem.onRaise _ _) _ _ _)); wp_delta))
    exact hC _ _ k
end Mine
end PartSortB
section PartSortC
open PySem PySem.W PySem.Calls PyProof.Rows
set_option maxRecDepth 100000
set_option maxHeartbeats 4000000
namespace Mine
noncomputable def kasRun {α : Type} (bq : Nat → Nat → Bool) (n : Nat) : KasT α → Option α
  | .ret a => some a
  | .ask i j k => if i < n ∧ j < n then kasRun bq n (k (bq i j)) else none
theorem kasRun_wp {α : Type} {bq : Nat → Nat → Bool} {n : Nat} {cmp : Nat → Nat → (Bool → Shared → Prop) → Shared → Prop} {I : Shared → Prop}
    (step : ∀ i j C s, i < n → j < n → I s → (∀ s', I s' → C (bq i j) s') → cmp i j C s) : ∀ (t : KasT α) (a : α), kasRun bq n t = some a → ∀ (Q : α → Shared → Prop) (s : Shared), I s → (∀ s', I s' → Q a s') → t.kasWp cmp Q s
  | .ret b, a, h, Q, s, hi, hq => by
    have e : b = a := Option.some.inj h
    subst e
    exact hq s hi
  | .ask i j k, a, h, Q, s, hi, hq => by
    have h' : (if i < n ∧ j < n then kasRun bq n (k (bq i j)) else none) = some a := h
    by_cases hij : i < n ∧ j < n
    · rw [if_pos hij] at h'
      exact step i j _ s hij.1 hij.2 hi fun s' hi' => kasRun_wp step (k (bq i j)) a h' Q s' hi' hq
    · rw [if_neg hij] at h'; cases h'
noncomputable def orderN : List Nat := [0, 1, 2, 4, 8, 16, 3, 5, 9, 17, 6, 10, 18, 12, 20, 24, 7, 11, 19, 13, 21, 25, 14, 22, 26, 28, 15, 23, 27, 29, 30, 31]
noncomputable def bqT (i j : Nat) : Bool := decide (cz i j < 0)
theorem sort_run : kasRun bqT 32 (kas_sort 32) = some orderN.toArray := by kernel_rfl
theorem collect_range {prog : Program} {w : World} {A : Around} {E : Value → Shared → Prop} {s : Shared} {r : Addr} {t u v : Tok} {Q : List Value → Shared → Prop} (hh : A.handled = none) (hr : IsRange s.heap r 0 32 1 t u v)
    (h : ∀ (vs : List Value) h' tk, vs.length = 32 → (∀ (j : Nat) (v : Value), vs[j]? = some v → ∃ t, v = .int (j : Nat) t) → (∀ b o, s.heap.get? b = some o → h'.get? b = some o) → Q vs { s with heap := h', toks := tk }) : wpAny (model prog w) A (collect (.ref r)) Q E s := by
  have core : ∀ (R : Result → Shared → Prop), (∀ h' tk acc c', (∀ b o, b ≠ s.heap.objs.size → (s.heap.push { cls := .type "list", data := .seq ([] : List Value).toArray }).get? b = some o → h'.get? b = some o) → h'.get? s.heap.objs.size = some { cls := .type "list", dict := none, data := .seq acc c', slots := #[] } →
      ItemsOf (fun i v => ∃ t, v = .int (0 + i * 1) t) acc 32 → R (.ok (.ret (.ref s.heap.objs.size))) { s with heap := h', toks := tk }) →
      codeAny (model prog w) A (.builtin "list.__iadd__" ⟨[.ref s.heap.objs.size, .ref r], []⟩) R { s with heap := s.heap.push { cls := .type "list", data := .seq ([] : List Value).toArray } } := fun R hR => by
    refine codeAny_builtin entry_list_iadd' ?_
    rw [Around.under_plainId (by decide +kernel) _]
    exact wpAny_extend_range (A := A) (R := R) (s := { s with heap := s.heap.push { cls := .type "list", data := .seq ([] : List Value).toArray } }) hh (n := 32) (Heap.get?_push_of_some _ hr) rfl rfl (by decide) s.heap.objs.size (.ref s.heap.objs.size) 0 (Heap.get?_push_size _ rfl) hR
  unfold collect
  refine wpAny_bind (wpAny_runValue (codeAny_builtin entry_proto_collect' ?_))
  show wpAny _ _ (do again (.builtin "list.__iadd__" ⟨[← newList [], .ref r], []⟩)) _ _ s
  refine wpAny_bind (wpAny_newList (wpAny_pure ⟨Code.quiet_builtin _ (by decide +kernel), core _ fun h' tk acc c' hk hS hacc => ?_⟩))
  refine wpAny_bind (wpAny_load hS ?_)
  refine wpAny_pure (h acc.toList h' tk (by rw [Array.length_toList]; exact hacc.1) (fun j v hj => ?_) fun b o e => hk b o (Nat.ne_of_lt (Heap.lt_size e)) (Heap.get?_push_of_some _ e))
  obtain ⟨t2, ht2⟩ := hacc.2 j v (by simpa using hj)
  exact ⟨t2, by rw [ht2]; simp⟩
end Mine
end PartSortC
section PartSortD
open PySem PySem.W PySem.Calls PyProof.Rows
set_option maxRecDepth 100000
set_option maxHeartbeats 4000000
namespace Mine
noncomputable abbrev Kps (h h' : Heap) : Prop := ∀ b o, h.get? b = some o → h'.get? b = some o
/-- the keys made so far -/
noncomputable def KeysIn (h : Heap) (a : Addr) (kA : Array Value) : Prop := ∀ (j : Nat) v, kA[j]? = some v → ∃ x dx u, v = .ref x ∧ h.get? x = some (keyO a dx (j : Nat) u)
theorem KeysIn.keeps {h h' : Heap} {a : Addr} {kA : Array Value} (X : KeysIn h a kA) (k : ∀ b o, (∃ dx i u, o = keyO a dx i u) → h.get? b = some o → h'.get? b = some o) : KeysIn h' a kA := fun j v hv => by
  obtain ⟨x, dx, u, e1, e2⟩ := X j v hv
  exact ⟨x, dx, u, e1, k _ _ ⟨_, _, _, rfl⟩ e2⟩
theorem key_ne_seq {a dx : Addr} {i : Int} {u : Tok} {c : String} {xs : Array Value} {n : Nat} : keyO a dx i u ≠ seqObj c xs n := fun e => by
  have := congrArg Obj.data e
  cases this
section
variable {w : World} {e : Env} {P : PySem.Fin → Shared → Prop} {E : Value → Shared → Prop} {h h₁ : Heap} {g : Array GenState} {d : Drawn} {t : Nat} {os : OsState} {a f kS a0 : Addr} {eA : Nat} {vs : List Value}
noncomputable def HCB (w : World) (e : Env) (h : Heap) (g : Array GenState) (d : Drawn) (os : OsState) (f : Addr) : Prop := ∀ i j : Nat, i < 32 → j < 32 → ∀ (A' : Around) (h₁ : Heap) (t₁ : Nat) (u v : Tok) (Q' E' : Value → Shared → Prop), A'.depth ≤ (callerA.deeper e).depth + 1 → A'.units ≤ (callerA.deeper e).units + 40 → A'.handled = none → Kps h h₁ → (∀ k h₂ t₂, Kps h₁ h₂ → Q' (.int (cz i j) k) ⟨h₂, g, d, t₂, os⟩) →
      wpAny (model PySem.Challenge.rw_oy0064_01.row.prog w) A' (call (.ref f) [.int (i : Nat) u, .int (j : Nat) v]) Q' E' ⟨h₁, g, d, t₁, os⟩
theorem endD (X : (Mine.hd.heap_39 w.params).In h) (hlim : h.NoLimit) (K : KC w h a f) (HC : HCB w e h g d os f) (kp : Kps h h₁) {keys : Array Value} {eK : Nat} (hk0 : h.get? kS = none) (ha0 : h.get? a0 = none) (hka : kS ≠ a0)
    (hkS : h₁.get? kS = some (seqObj "list" keys eK)) (hA : h₁.get? a0 = some (seqObj "list" #[] eA)) (hks : keys.size = 32) (KI : KeysIn h₁ a keys) (hvl : vs.length = 32) (hvs : ∀ (j : Nat) v, vs[j]? = some v → ∃ t, v = .int (j : Nat) t)
    (hP : ∀ out n h' t', Kps h h' → h'.get? a0 = some (seqObj "list" out n) → IntsAre out.toList (orderN.map fun (k : Nat) => (k : Int)) → P (.done (.ret .none)) ⟨h', g, d, t', os⟩) :
    wpAny (model PySem.Challenge.rw_oy0064_01.row.prog w) (callerA.deeper e).in1.in1 (ksk_end a0 false vs.toArray eA (.ref kS) keys) P E ⟨h₁, g, d, t, os⟩ := by
  unfold ksk_end
  dsimp only
  have h2 : ¬ vs.toArray.size < 2 := by rw [List.size_toArray, hvl]; omega
  rw [if_neg (by simp), if_neg h2, if_neg h2]
  have hkl : keys.toList.length = 32 := by rw [Array.length_toList]; exact hks
  have ek : keys = keys.toList.toArray := by simp
  have kk : wpAny (model PySem.Challenge.rw_oy0064_01.row.prog w) (callerA.deeper e).in1.in1 (keyKind' keys) (fun k s' => k = oneType' ∧ s' = ⟨h₁, g, d, t, os⟩) E ⟨h₁, g, d, t, os⟩ := by
    rw [ek]
    refine kas_kind (T := .ref a) (by omega) (fun v hv => ?_) (by rfl) (by simp) ⟨rfl, rfl⟩
    obtain ⟨j, hj, ej⟩ := List.getElem_of_mem hv
    obtain ⟨x, dx, u, e1, e2⟩ := KI j v (by rw [← ej]; simp)
    subst e1
    exact (Looks.ld e2).andThen .now
  refine wpAny_bind (wpAny_mono kk (fun k s' hk => ?_) fun _ _ e => e)
  obtain ⟨rfl, rfl⟩ := hk
  have hzs : (keys.zip vs.toArray).size = 32 := by rw [Array.size_zip, hks, List.size_toArray, hvl]; rfl
  have est : SortSt.mk' oneType' (if false = true then (keys.zip vs.toArray).reverse else keys.zip vs.toArray) #[] 7 none = kas_st oneType' (keys.zip vs.toArray) (List.toArray (List.range 32)) := by
    have e := kas_range (keys.zip vs.toArray)
    rw [hzs] at e
    show SortSt.mk' oneType' (keys.zip vs.toArray) #[] 7 none = SortSt.mk' oneType' ((List.toArray (List.range 32)).map (kas_item (keys.zip vs.toArray))) #[] 7 none
    rw [e]
  have item : ∀ j, j < 32 → ∃ x dx u t, kas_item (keys.zip vs.toArray) j = (.ref x, .int (j : Nat) t) ∧ h₁.get? x = some (keyO a dx (j : Nat) u) := fun j hj => by
    have hj1 : j < keys.size := by omega
    have hj2 : j < vs.length := by omega
    obtain ⟨x, dx, u, e1, e2⟩ := KI j keys[j] (by simp [hj1])
    obtain ⟨t2, e3⟩ := hvs j vs[j] (by simp [hj2])
    refine ⟨x, dx, u, t2, ?_, e2⟩
    unfold kas_item
    have : (keys.zip vs.toArray).getD j (Value.none, Value.none) = (keys[j], vs[j]) := by
      have hj3 : j < min keys.size vs.length := by omega
      simp [Array.getD, hj3]
    rw [this, e1, e3]
  have run := kas_runs (prog := PySem.Challenge.rw_oy0064_01.row.prog) (w := w) (A := (callerA.deeper e).in1.in1) (E := E) (κ := oneType') (it := keys.zip vs.toArray) (n := 32) (s := ⟨h₁, g, d, t, os⟩)
    (Q := fun _ st' s' => arrOf st' = orderN.toArray.map (kas_item (keys.zip vs.toArray)) ∧ failedOf st' = none ∧ ∃ h' t', s' = ⟨h', g, d, t', os⟩ ∧ Kps h₁ h')
    (G := fun p s' => p = orderN.toArray ∧ ∃ h' t', s' = ⟨h', g, d, t', os⟩ ∧ Kps h₁ h')
    (by decide) (by decide) (fun p' st' s' _ a2 a3 a4 => ⟨by rw [a2, a4.1], a3, a4.2⟩)
    (kasRun_wp (bq := bqT) (n := 32) (I := fun s' => ∃ h' t', s' = ⟨h', g, d, t', os⟩ ∧ Kps h₁ h') (fun i j C s hi hj hI hC => ?_) _ _ sort_run _ _ ⟨h₁, t, rfl, fun _ _ e => e⟩ fun s' hI => ⟨rfl, hI⟩)
  · rw [← est] at run
    refine wpAny_bind (wpAny_mono run (fun r s' hr => ?_) fun _ _ e => e)
    obtain ⟨⟨⟩, st'⟩ := r
    obtain ⟨har, hfl, h', t', rfl, kp'⟩ := hr
    dsimp only
    have nk := kp' _ _ hkS
    have na := kp' _ _ hA
    unfold ksk_tail
    dsimp only
    have s1 := Heap.SameBut.update h' kS (Obj.mapSeq fun _ => (#[] : Array Value))
    have na1 : (h'.update kS (Obj.mapSeq fun _ => (#[] : Array Value))).get? a0 = some (seqObj "list" #[] eA) := (s1.2 a0 hka.symm).trans na
    refine wpAny_bind (listUpdate_at nk rfl ?_ (by rw [hks, sizeLine_eq]; omega) (Nat.zero_le _))
    refine wpAny_bind (wpAny_letGo ?_)
    refine wpAny_bind (seqEpoch_at na1 rfl ?_)
    have hout : ((arrOf st').map (·.2)).size = 32 := by rw [har]; simp [orderN]
    refine wpAny_bind (listUpdate_at na1 rfl ?_ (Nat.zero_le _) (Nat.le_trans (Nat.le_of_eq (by show ((arrOf st').map (·.2)).size = 32; exact hout)) (by rw [sizeLine_eq]; omega)))
    rw [hfl]
    simp only [bne_self_eq_false, Bool.false_eq_true, if_false]
    refine wpAny_pure (hP _ _ _ _ ?_ (get?_update_seq na1 _) ?_)
    · intro b o eb
      have b1 := kp' _ _ (kp _ _ eb)
      have n1 : b ≠ kS := fun q => by rw [q, hk0] at eb; cases eb
      have n2 : b ≠ a0 := fun q => by rw [q, ha0] at eb; cases eb
      exact ((Heap.SameBut.update _ a0 _).2 b n2).trans ((s1.2 b n1).trans b1)
    · rw [har]
      have all : ∀ l : List Nat, (∀ j ∈ l, j < 32) → IntsAre (l.map fun j => (kas_item (keys.zip vs.toArray) j).2) (l.map fun (k : Nat) => (k : Int)) := by
        intro l hl
        induction l with
        | nil => exact .nil
        | cons j r ih =>
          obtain ⟨x, dx, u, t2, e1, _⟩ := item j (hl j (.head _))
          have z := ih fun k hk => hl k (.tail _ hk)
          have e2 : (kas_item (keys.zip vs.toArray) j).snd = .int (j : Nat) t2 := by rw [e1]
          rw [List.map_cons, List.map_cons, e2]
          exact .cons _ _ z
      have e9 : ((orderN.toArray.map (kas_item (keys.zip vs.toArray))).map (·.2)).toList = orderN.map fun j => (kas_item (keys.zip vs.toArray) j).2 := by simp
      show IntsAre ((orderN.toArray.map (kas_item (keys.zip vs.toArray))).map (·.2)).toList _
      rw [e9]
      exact all orderN (by decide)
  · obtain ⟨h', t', rfl, kp'⟩ := hI
    obtain ⟨x, dx, u, t1, e1, e2⟩ := item i hi
    obtain ⟨y, dy, v, t2, e3, e4⟩ := item j hj
    unfold kas_cmp
    rw [e1, e3]
    have kph : Kps h h' := fun b o eb => kp' _ _ (kp _ _ eb)
    refine keyLtW (c := cz i j) (X.keeps kph) (hlim.keeps kph) (by show 1 + claimMargin + 1 + 2 < recursionLimit; decide) (by show 4 + 3 + 1 + 1 < cLine; decide) (K.keeps kph) (kp' _ _ e2) (kp' _ _ e4) (fun A' hh tt Q' E' a1 a2 a3 a4 a5 => ?_) fun h2 t2 k2 => ?_
    · exact HC i j hi hj A' hh tt u v Q' E' (Nat.le_of_eq a1) (Nat.le_trans a2 (by show 4 + 3 + 1 + 1 + 30 ≤ 4 + 3 + 40; decide)) (a3.trans rfl) (fun b o eb => a4 _ _ (kph _ _ eb)) a5
    · exact hC _ ⟨h2, t2, rfl, fun b o eb => k2 _ _ (kp' _ _ eb)⟩
end
end Mine
end PartSortD
section PartSortE
open PySem PySem.W PySem.Calls PyProof.Rows
set_option maxRecDepth 100000
set_option maxHeartbeats 4000000
namespace Mine
section
variable {w : World} {e : Env} {P : PySem.Fin → Shared → Prop} {Q : Value → Shared → Prop} {E : Value → Shared → Prop} {h h₁ : Heap} {g : Array GenState} {d : Drawn} {t : Nat} {os : OsState} {a f kS a0 : Addr} {eA n : Nat} {vs : List Value}
theorem restD (X : (Mine.hd.heap_39 w.params).In h) (hlim : h.NoLimit) (K : KC w h a f) (HC : HCB w e h g d os f) (kp : Kps h h₁) (hk0 : h.get? kS = none) (ha0 : h.get? a0 = none) (hka : kS ≠ a0)
    (hkS : h₁.get? kS = some (seqObj "list" #[] 0)) (hA : h₁.get? a0 = some (seqObj "list" #[] eA)) (hvl : vs.length = 32) (hvs : ∀ (j : Nat) v, vs[j]? = some v → ∃ t, v = .int (j : Nat) t)
    (hP : ∀ out n h' t', Kps h h' → h'.get? a0 = some (seqObj "list" out n) → IntsAre out.toList (orderN.map fun (k : Nat) => (k : Int)) → P (.done (.ret .none)) ⟨h', g, d, t', os⟩) :
    wpAny (model PySem.Challenge.rw_oy0064_01.row.prog w) (callerA.deeper e).in1.in1 (ksk_rest a0 (.ref a) false vs.toArray eA (.ref kS)) P E ⟨h₁, g, d, t, os⟩ := by
  unfold ksk_rest
  refine wpAny_bind (wpAny_rule ?_)
  rw [List.forIn_toArray]
  refine wpAny_bind (ksk_fold (fun i s' => ∃ h' tk kA eK, s' = ⟨h', g, d, tk, os⟩ ∧ Kps h h' ∧ h'.get? kS = some (seqObj "list" kA eK) ∧ h'.get? a0 = some (seqObj "list" #[] eA) ∧ kA.size = i ∧ KeysIn h' a kA) vs 0 _
    ⟨h₁, t, #[], 0, rfl, kp, hkS, hA, rfl, fun j v hv => by simp at hv⟩ ?step ?done)
  case step =>
    rintro j x s' hx ⟨h', tk, kA, eK, rfl, kp', gk, ga, hsz, KI⟩
    simp only [Nat.zero_add] at hsz ⊢
    have hj : j < vs.length := (List.getElem?_eq_some_iff.mp hx).1
    obtain ⟨tj, rfl⟩ := hvs j x hx
    refine wpAny_bind (wpAny_attempt (kNewW (X.keeps kp') (K.keeps kp') fun y dy h2 t2 k2 gy fy => ?_))
    have gk2 := k2 _ _ gk
    have ga2 := k2 _ _ ga
    have nyk : y ≠ kS := fun q => by rw [q, gk] at fy; cases fy
    have s1 := Heap.SameBut.update h2 kS (Obj.mapSeq (·.push (.ref y)))
    dsimp only
    refine wpAny_bind (listUpdate_at gk2 rfl ?_ (by rw [sizeLine_eq]; omega) (Nat.le_trans (Nat.le_of_eq (Array.size_push ..)) (by rw [sizeLine_eq]; omega)))
    refine wpAny_pure ⟨rfl, _, _, kA.push (.ref y), _, rfl, fun b o eb => ?_, get?_update_seq gk2 _, (s1.2 a0 hka.symm).trans ga2, by rw [Array.size_push, hsz], fun i v hv => ?_⟩
    · have n1 : b ≠ kS := fun q => by rw [q, hk0] at eb; cases eb
      exact (s1.2 b n1).trans (k2 _ _ (kp' _ _ eb))
    · by_cases hi : i < kA.size
      · rw [Array.getElem?_push_lt hi] at hv
        obtain ⟨x, dx, u, e1, e2⟩ := KI i v (by rw [← hv]; simp [hi])
        refine ⟨x, dx, u, e1, (s1.2 x fun q => ?_).trans (k2 _ _ e2)⟩
        rw [q, gk] at e2
        exact key_ne_seq (Option.some.inj e2).symm
      · have ei : i = kA.size := by
          have := (Array.getElem?_eq_some_iff.mp hv).1
          rw [Array.size_push] at this; omega
        subst ei
        have ev : v = .ref y := by simpa using hv.symm
        refine ⟨y, dy, tj, ev, (s1.2 y nyk).trans ?_⟩
        rw [hsz]; exact gy
  case done =>
    rintro s' ⟨h', tk, kA, eK, rfl, kp', gk, ga, hsz, KI⟩
    refine wpAny_bind (listItems_at gk rfl ?_)
    exact endD X hlim K HC kp' hk0 ha0 hka gk ga (by rw [hsz]; omega) KI hvl hvs hP
theorem treeD (X : (Mine.hd.heap_39 w.params).In h) (hlim : h.NoLimit) (K : KC w h a f) (HC : HCB w e h g d os f) (kp : Kps h h₁) (ha0 : h.get? a0 = none)
    (hA : h₁.get? a0 = some (seqObj "list" vs.toArray n)) (hvl : vs.length = 32) (hvs : ∀ (j : Nat) v, vs[j]? = some v → ∃ t, v = .int (j : Nat) t)
    (hP : ∀ out n h' t', Kps h h' → h'.get? a0 = some (seqObj "list" out n) → IntsAre out.toList (orderN.map fun (k : Nat) => (k : Int)) → P (.done (.ret .none)) ⟨h', g, d, t', os⟩) :
    wpAny (model PySem.Challenge.rw_oy0064_01.row.prog w) (callerA.deeper e).in1.in1 (ksk_tree a0 (.ref a) false) P E ⟨h₁, g, d, t, os⟩ := by
  have s1 := Heap.SameBut.update h₁ a0 (Obj.mapSeq fun _ => (#[] : Array Value))
  obtain ⟨e1, ho1⟩ : ∃ e1, (h₁.update a0 (Obj.mapSeq fun _ => (#[] : Array Value))).get? a0 = some (seqObj "list" #[] e1) := ⟨_, get?_update_seq hA fun _ => #[]⟩
  unfold ksk_tree
  refine wpAny_bind (listItems_at hA rfl ?_)
  refine wpAny_bind (listUpdate_at hA rfl ?_ (by rw [List.size_toArray, sizeLine_eq]; omega) (Nat.zero_le _))
  refine wpAny_bind (seqEpoch_at ho1 rfl ?_)
  refine wpAny_bind (wpAny_newTuple ?_ (by show vs.length ≤ _; rw [sizeLine_eq]; omega))
  refine wpAny_bind (wpAny_newList ?_ (Nat.zero_le _))
  refine wpAny_holding ?_
  have kp1 : Kps h (h₁.update a0 (Obj.mapSeq fun _ => (#[] : Array Value))) := fun b o eb => (s1.2 b fun q => by rw [q, ha0] at eb; cases eb).trans (kp _ _ eb)
  have fr : ∀ {b : Addr}, ((h₁.update a0 (Obj.mapSeq fun _ => (#[] : Array Value))).push (seqObj "tuple" vs.toArray 0)).objs.size ≤ b → h.get? b = none := fun {b} hb => by
    cases q : h.get? b with
    | none => rfl
    | some o =>
      have z := Heap.lt_size (kp1 _ _ q)
      rw [Heap.size_push] at hb
      exact absurd z (Nat.not_lt.mpr (Nat.le_of_succ_le hb))
  have ha1 := Heap.get?_push_of_some (seqObj "tuple" vs.toArray 0) ho1
  exact restD (h₁ := ((h₁.update a0 (Obj.mapSeq fun _ => (#[] : Array Value))).push (seqObj "tuple" vs.toArray 0)).push (seqObj "list" #[] 0)) (kS := ((h₁.update a0 (Obj.mapSeq fun _ => (#[] : Array Value))).push (seqObj "tuple" vs.toArray 0)).objs.size) X hlim K HC
    (fun b o eb => Heap.get?_push_of_some _ (Heap.get?_push_of_some _ (kp1 _ _ eb))) (fr (Nat.le_refl _)) ha0 (Nat.ne_of_gt (Heap.lt_size ha1)) (Heap.get?_push_size _ rfl) (Heap.get?_push_of_some _ ha1) hvl hvs hP
theorem sortK {r : Addr} {t₁ u₁ v₁ : Tok} (X : (Mine.hd.heap_39 w.params).In h) (hlim : h.NoLimit) (K : KC w h a f) (HC : HCB w e h g d os f) (hr : IsRange h r 0 32 1 t₁ u₁ v₁)
    (hQ : ∀ D out n h' t', Kps h h' → h.get? D = none → h'.get? D = some (seqObj "list" out n) → IntsAre out.toList (orderN.map fun (k : Nat) => (k : Int)) → Q (.ref D) ⟨h', g, d, t', os⟩) :
    wpAny (model PySem.Challenge.rw_oy0064_01.row.prog w) (callerA.deeper e) (call (.builtin "sorted") [.ref r] [(Str.ofString "key", .ref a)]) Q E ⟨h, g, d, t, os⟩ := by
  refine call_function_entry_kw kind_sorted plain_sorted entry_sorted (ksk_s1 _ _) ?_
  unfold Builtin.«sorted»
  refine wpAny_bind (m := checkCount "sorted" 1 1 _) (wpAny_pure ?_)
  refine wpAny_bind (collect_range (s := ⟨h, g, d, t, os⟩) rfl hr fun vs h1 tk hvl hvs kp1 => ?_)
  refine wpAny_bind (wpAny_newList ?_ (by rw [sizeLine_eq]; omega))
  have fD : h.get? h1.objs.size = none := by
    cases q : h.get? h1.objs.size with
    | none => rfl
    | some o => exact absurd (Heap.lt_size (kp1 _ _ q)) (Nat.lt_irrefl _)
  refine wpAny_bind (wpAny_holding (wpAny_call_entry_kw slot_list_sort ⟨_, Heap.get?_push_size _ rfl, rfl⟩ entry_list_sort ?body (ksk_l1 _ _)))
  case body =>
    show wpAny _ (callerA.deeper e).in1.in1 (Builtin.«list.sort» ⟨[.ref h1.objs.size], [(Str.ofString "key", .ref a)]⟩) _ _ _
    rw [ksk_t1]
    refine treeD (h₁ := h1.push { cls := .type "list", data := .seq vs.toArray }) X hlim K HC (fun b o eb => Heap.get?_push_of_some _ (kp1 _ _ eb)) fD (Heap.get?_push_size _ rfl) hvl hvs fun out n h' t' k' g' i' => ⟨_, rfl, ?_⟩
    exact wpAny_pure ⟨_, rfl, hQ _ out n h' t' k' fD g' i'⟩
end
end Mine
end PartSortE
section PartOrdP
open PySem PySem.W PySem.Calls PyProof.Rows PyProof.Rows.LCg
set_option maxRecDepth 100000
set_option maxHeartbeats 4000000
namespace Mine
noncomputable def castL (l : List Nat) : List Int := l.map fun (k : Nat) => (k : Int)
theorem mem_castL {l : List Nat} {x : Int} : x ∈ castL l ↔ ∃ n ∈ l, x = (n : Int) := by
  unfold castL
  rw [List.mem_map]
  exact ⟨fun ⟨n, h, e⟩ => ⟨n, h, e.symm⟩, fun ⟨n, h, e⟩ => ⟨n, h, e.symm⟩⟩
theorem pw_ext : ∀ {a b : List Int}, a.Pairwise (· < ·) → b.Pairwise (· < ·) → (∀ x, x ∈ a ↔ x ∈ b) → a = b
  | [], [], _, _, _ => rfl
  | [], y :: b, _, _, h => by have := (h y).mpr (.head _); cases this
  | x :: a, [], _, _, h => by have := (h x).mp (.head _); cases this
  | x :: a, y :: b, ha, hb, h => by
    have h1 := List.pairwise_cons.mp ha
    have h2 := List.pairwise_cons.mp hb
    have e : x = y := by
      rcases List.mem_cons.mp ((h x).mp (.head _)) with e | hx
      · exact e
      · rcases List.mem_cons.mp ((h y).mpr (.head _)) with e | hy
        · exact e.symm
        · have := h2.1 x hx; have := h1.1 y hy; omega
    subst e
    rw [pw_ext h1.2 h2.2 fun z => ?_]
    constructor
    · intro hz
      rcases List.mem_cons.mp ((h z).mp (.tail _ hz)) with e | h'
      · subst e; exact absurd (h1.1 z hz) (Int.lt_irrefl _)
      · exact h'
    · intro hz
      rcases List.mem_cons.mp ((h z).mpr (.tail _ hz)) with e | h'
      · subst e; exact absurd (h2.1 z hz) (Int.lt_irrefl _)
      · exact h'
theorem pw_castL {p : Nat → Bool} : (castL ((List.range 32).filter p)).Pairwise (· < ·) := by
  unfold castL
  refine List.Pairwise.map _ (fun a b h => ?_) (List.Pairwise.filter p List.pairwise_lt_range)
  exact Int.ofNat_lt.mpr h
noncomputable def withP (S : List Nat) (x : Nat) : Bool := S.contains x || (List.range 5).any fun i => S.any fun y => x == y ^^^ 2 ^ i
noncomputable def Wk (k : Nat) : List Nat := (List.range 32).filter (withP (orderN.take k))
noncomputable def inO (m : Nat) : List Nat := (List.range 32).filter fun x => (orderN.take m).contains x
theorem ord_fact : ∀ k : Nat, k < 33 → Wk k = inO (Wk k).length ∧ MineH.lst 5 k = (Wk k).length ∧ (Wk k).length < 33 := by decide +kernel
theorem ord_lt : ∀ x ∈ orderN, x < 32 := by decide
theorem ord_nd : orderN.Nodup := by decide +kernel
theorem take_mem {m x : Nat} (h : x ∈ orderN.take m) : x < 32 := ord_lt x (List.mem_of_mem_take h)
theorem castL_take (m : Nat) : (castL orderN).take m = castL (orderN.take m) := by unfold castL; rw [List.map_take]
theorem castL_nd {l : List Nat} (h : l.Nodup) : (castL l).Nodup := by
  unfold castL
  exact List.Pairwise.map _ (fun a b h e => h (by omega)) h
theorem firstGood {m : Nat} {zs : List Int} (hp : zs.Perm ((castL orderN).take m)) (ho : zs.Pairwise (· ≤ ·)) : Good zs ∧ zs = castL (inO m) := by
  rw [castL_take] at hp
  have hm : ∀ x, x ∈ zs ↔ ∃ n ∈ orderN.take m, x = (n : Int) := fun x => by rw [hp.mem_iff, mem_castL]
  have hu : zs.Pairwise (· < ·) := pw_lt ho (hp.nodup_iff.mpr (castL_nd (ord_nd.sublist (List.take_sublist _ _))))
  refine ⟨⟨hu, fun x hx => ?_, fun x hx => ?_⟩, pw_ext hu pw_castL fun x => ?_⟩
  · obtain ⟨n, _, rfl⟩ := (hm x).mp hx; omega
  · obtain ⟨n, hn, rfl⟩ := (hm x).mp hx; have := take_mem hn; omega
  · rw [hm]
    show _ ↔ x ∈ castL ((List.range 32).filter _)
    rw [mem_castL]
    constructor
    · rintro ⟨n, hn, e⟩
      exact ⟨n, List.mem_filter.mpr ⟨List.mem_range.mpr (take_mem hn), by simpa using hn⟩, e⟩
    · rintro ⟨n, hn, e⟩
      exact ⟨n, by simpa using (List.mem_filter.mp hn).2, e⟩
theorem leastEq {k : Nat} {A ns : List Int} (hA : ∀ x, x ∈ A ↔ x ∈ castL (orderN.take k)) (g : Good ns) (hm : ∀ x, x ∈ ns ↔ x ∈ A ∨ ∃ i, i < 5 ∧ ∃ y ∈ A, x = xorZ y i) : ns = castL (Wk k) := by
  refine pw_ext g.up pw_castL fun x => ?_
  show _ ↔ x ∈ castL ((List.range 32).filter _)
  rw [mem_castL]
  constructor
  · intro hx
    have h0 := g.lo x hx
    have h1 := g.hi x hx
    refine ⟨x.toNat, List.mem_filter.mpr ⟨List.mem_range.mpr (by omega), ?_⟩, by omega⟩
    unfold withP
    rcases (hm x).mp hx with h | ⟨i, hi, y, hy, e⟩
    · obtain ⟨n, hn, e⟩ := mem_castL.mp ((hA x).mp h)
      subst e
      simp [hn]
    · obtain ⟨n, hn, ey⟩ := mem_castL.mp ((hA y).mp hy)
      subst ey
      have : x.toNat = n ^^^ 2 ^ i := by rw [e]; simp [xorZ]
      rw [this]
      simp only [Bool.or_eq_true, List.any_eq_true]
      exact .inr ⟨i, List.mem_range.mpr hi, n, hn, by simp⟩
  · rintro ⟨n, hn, rfl⟩
    have hw := (List.mem_filter.mp hn).2
    rw [hm]
    unfold withP at hw
    simp only [Bool.or_eq_true, List.any_eq_true] at hw
    rcases hw with h | ⟨i, hi, y, hy, e⟩
    · exact .inl ((hA _).mpr (mem_castL.mpr ⟨n, by simpa using h, rfl⟩))
    · refine .inr ⟨i, List.mem_range.mp hi, (y : Int), (hA _).mpr (mem_castL.mpr ⟨y, hy, rfl⟩), ?_⟩
      have e' : n = y ^^^ 2 ^ i := by simpa using e
      rw [e']; simp [xorZ]
theorem harperZ {ks rs : List Int} (gk : Good ks) (gr : Good rs) (hm : ∀ x, x ∈ rs ↔ x ∈ ks ∨ ∃ i, i < 5 ∧ ∃ y ∈ ks, x = xorZ y i) : MineH.lst 5 ks.length ≤ rs.length := by
  refine MineH.harper ⟨gk.up, fun x hx => ⟨gk.lo x hx, gk.hi x hx⟩⟩ ⟨gr.up, fun x => ?_⟩
  rw [hm]
  have e : ∀ y ∈ ks, ∀ i, i < 5 → Builtin.bitXor y (2 ^ i) = xorZ y i := fun y hy i hi => by
    have := xor_eq (gk.lo y hy) (gk.hi y hy) hi
    simpa using this
  constructor
  · rintro (h | ⟨i, hi, y, hy, ex⟩)
    · exact .inl h
    · exact .inr ⟨i, hi, y, hy, by rw [e y hy i hi]; exact ex⟩
  · rintro (h | ⟨i, hi, y, hy, ex⟩)
    · exact .inl h
    · exact .inr ⟨i, hi, y, hy, by rw [e y hy i hi] at ex; exact ex⟩
end Mine
end PartOrdP
section PartSt3
open PySem PySem.W PySem.Calls PyProof.Rows PyProof.Rows.LCg
set_option maxRecDepth 100000
set_option maxHeartbeats 4000000
namespace Mine
local macro_rules | `(tactic| k_all) => `(tactic| first | assumption | exact ne_all (by assumption))
local macro_rules | `(tactic| k_mem) => `(tactic| first | exact List.mem_append_left _ (by assumption) | assumption)
theorem fromLX {h₀ h h' : Heap} {L : Addr} {m : Str → Option Value} {led : List (Addr × Obj)} {T : Addr} {oT : Obj} {n2 : List (Addr × Obj)} (F : Fr h₀ L h m) (N : News h₀ L h ((T, oT) :: led)) (hT : ∀ p ∈ led, p.1 ≠ T) (D : LX h h' T n2) : Fr h₀ L h' m ∧ News h₀ L h' (n2 ++ led) := by
  have nT := N (T, oT) (.head _)
  refine ⟨⟨F.ns.at' fun o e => D.keep L o e nT.2.1.symm, fun b o e => D.keep b o (F.keep b o e) (fun q => by rw [q, nT.2.2] at e; cases e), F.above⟩, fun p hp => ?_⟩
  rcases List.mem_append.mp hp with hp | hp
  · have z := D.nw p hp
    rcases z.2 with q | q
    · refine ⟨z.1, fun q2 => ?_, ?_⟩
      · obtain ⟨o, _, _, ho, _⟩ := F.ns
        rw [q2, ho] at q; cases q
      · cases e : h₀.get? p.1 with
        | none => rfl
        | some o => rw [F.keep _ _ e] at q; cases q
    · exact ⟨z.1, by rw [q]; exact nT.2.1, by rw [q]; exact nT.2.2⟩
  · have z := N p (.tail _ hp)
    exact ⟨D.keep _ _ z.1 (hT p hp), z.2⟩
theorem hcOf {w : World} {p : Program} {loose : List Str} {mean : ExcName → Option Value} {mg mb : Str → Option Value} {h₀ h5 : Heap} {L fa L1 f' c' R : Addr} {led : List (Addr × Obj)} {g : Array GenState} {d : Drawn} {os : OsState}
    {qual : Str} {pm ctv : Value} {oc oC : Obj} {vs : Array Value} {t0 : Tok} {refs : List Addr}
    (X : (Mine.hd.heap_39 w.params).In h₀) (T : Top p loose mean mg mb h₀) (st : ∀ b o, h₀.get? b = some o → h5.get? b = some o) (N : News h₀ L h5 led)
    (m1 : (f', kla_obj (Str.ofString "<lambda>") qual lamParts.1 lamParts.2.1 lamParts.2.2 [(Str.ofString "rows", L1 + 1)] pm c' ctv) ∈ led) (m2 : (c', oc) ∈ led) (d1 : oc.data = .fields vs) (d2 : vs[1]? = some (.str qual t0))
    (m3 : (L1 + 1, oC) ∈ led) (dC : oC.data = .cell (some (.ref R))) (m4 : (R, lst (refs.map Value.ref)) ∈ led) (hl : refs.length = 32) (each : ∀ j q, refs[j]? = some q → ∃ vs, IntsAre vs (rowZ j) ∧ (q, W.listOf vs.toArray 0) ∈ led) :
    HCB w (lawE L fa) h5 g d os f' := by
  intro i j hi hj A' h₁ t₁ u v Q' E' hdep hun hA' kp hk
  have nm : ∀ b o, h₀.get? b = some o → b ∉ led.map (·.1) := fun b o e hm => by
    obtain ⟨q, hq, rfl⟩ := List.mem_map.mp hm
    rw [(N q hq).2.2] at e; cases e
  have sg : ∀ b o, h₀.get? b = some o → (hideAll h₁ (led.map (·.1))).get? b = some o := fun b o e => hideAll_get _ (kp _ _ (st _ _ e)) (nm b o e)
  have D : LedT (hideAll h₁ (led.map (·.1))) h₁ led := ⟨fun b o e => of_hideAll _ e, fun q hq => ⟨kp _ _ (N q hq).1, hideAll_none _ (List.mem_map_of_mem hq)⟩, Nat.le_of_eq (hideAll_size _ _)⟩
  have hdep2 : A'.depth + 15 < recursionLimit := by
    have h1 : A'.depth ≤ 1 + claimMargin + 1 + 1 := hdep
    have h2 : 1 + claimMargin + 1 + 1 + 15 < recursionLimit := by decide
    omega
  have hun2 : A'.units + 200 < cLine := by
    have h1 : A'.units ≤ 4 + 3 + 40 := hun
    have h2 : 4 + 3 + 40 + 200 < cLine := by decide
    omega
  refine lamCall w p loose mean mg mb A' led _ ⟨h₁, g, d, t₁, os⟩ L1 f' c' R qual pm ctv oc oC vs t0 refs i j u v Q' E' (X.keeps sg) (T.keeps sg) hA' D hdep2 hun2 m1 m2 d1 d2 m3 dC m4 hl each hi hj fun k h' tk' D' => hk k h' tk' fun b o e => ?_
  by_cases hb : b ∈ led.map (·.1)
  · obtain ⟨q, hq, rfl⟩ := List.mem_map.mp hb
    have := (D.has q hq).1
    rw [e] at this
    rw [Option.some.inj this]
    exact (D'.has q hq).1
  · exact D'.keep b o (hideAll_get _ e hb)
theorem st3 : ∀ (w : World) (p : Program) (loose : List Str) (mean : ExcName → Option Value) (mg mb : Str → Option Value) (h₀ : Heap) (s : Shared) (L fa R : Addr) (m : Str → Option Value) (oC : Obj) (refs : List Addr) (rowsL : List (Addr × Obj)) (Q : Flow → Shared → Prop) (E : Value → Shared → Prop)
    (_ : (Mine.hd.heap_39 w.params).In h₀) (_ : Top p loose mean mg mb h₀) (_ : CodeHd h₀ 42 38) (_ : CodeHd h₀ 80 78) (_ : Fr h₀ L s.heap m) (_ : News h₀ L s.heap ((L + 1, oC) :: (38, tabObj #[]) :: (78, tabObj #[]) :: (R, lst (refs.map Value.ref)) :: rowsL)) (_ : oC.data = .cell (some (.ref R))) (_ : refs.length = 32) (_ : RowsIn (L + 1) refs rowsL) (_ : @LT.lt Nat _ 78 L) (_ : R ≠ L + 1) (_ : R ≠ 38) (_ : R ≠ 78) (_ : ∀ p ∈ rowsL, p.1 ≠ R)
    (_ : ∀ O out n h' tk' tA tB, IntsAre out.toList (castL orderN) → O ≠ (38 : Nat) → O ≠ (78 : Nat) → Fr h₀ L h' (fun y => if y = Str.ofString "order" then some (.ref O) else m y) → News h₀ L h' [(O, W.listOf out n), (38, tabObj tA), (78, tabObj tB)] → Q .next { s with heap := h', toks := tk' }),
    wpAny (model PySem.Challenge.rw_oy0064_01.row.prog w) (callerA.deeper (lawE L fa)) (exec (lawS 2) (lawE L fa)) Q E s := by
  k_fill
  intro w p loose mean mg mb h₀ s L fa R m oC refs rowsL Q E X T C38 C78 F N dC hl hR hL hR1 hR2 hR3 hR4 hret
  have e : lawS 2 = lawS 2 := rfl
  conv at e => rhs; whnf
  rw [e]
  clear e
  have h78 : ∀ p ∈ rowsL, p.1 ≠ (78 : Nat) := fun p hp => Nat.ne_of_gt (Nat.lt_trans hL (Nat.lt_of_le_of_lt (Nat.le_succ L) (hR.above p hp)))
  have h38 : ∀ p ∈ rowsL, p.1 ≠ (38 : Nat) := fun p hp => Nat.ne_of_gt (Nat.lt_trans (Nat.lt_trans (by decide) hL) (Nat.lt_of_le_of_lt (Nat.le_succ L) (hR.above p hp)))
  have hL1 : L + 1 ≠ 78 := Nat.ne_of_gt (Nat.lt_succ_of_lt hL)
  have hL38 : L + 1 ≠ 38 := Nat.ne_of_gt (Nat.lt_succ_of_lt (Nat.lt_trans (by decide) hL))
  have hsL := F.ns.lt
  have fr0 := next_is_new F
  have hs78 : s.heap.objs.size ≠ 78 := Nat.ne_of_gt (Nat.lt_trans hL hsL)
  have hs38 : s.heap.objs.size ≠ 38 := Nat.ne_of_gt (Nat.lt_trans (Nat.lt_trans (by decide) hL) hsL)
  repeat ((fail_if_success (with_reducible show wpAny _ _ (eval (Expr.Lambda _ _ _ _) _) _ _ _)); first | (k_unfold; (try dsimp only)) | walk1)
  rename_i rg F1 N1 _
  have N2 : News h₀ L _ ((s.heap.objs.size, _) :: (L + 1, oC) :: (38, tabObj #[]) :: (78, tabObj #[]) :: (R, lst (refs.map Value.ref)) :: rowsL) := fun p hp => by
    rcases List.mem_cons.mp hp with rfl | hp
    · exact ⟨rg, Nat.ne_of_gt hsL, fr0⟩
    · exact N1 p hp
  clear N1
  repeat ((fail_if_success (with_reducible show wpAny _ _ (call (Value.ref _) _) _ _ _)); first | (k_unfold; (try dsimp only)) | walk1)
  rename_i f' c' oc' vs' t' ct' h3 tk3 F3 N3 d1 d2 l1 l2
  have N4 : News h₀ L h3 ((38, tabObj #[]) :: (f', _) :: (c', oc') :: (s.heap.objs.size, _) :: (L + 1, oC) :: (78, _) :: (R, lst (refs.map Value.ref)) :: rowsL) := fun p hp => N3 p (by
    simp only [List.mem_cons] at hp ⊢
    rcases hp with h | h | h | h | h | h | h | h
    · exact .inr (.inr (.inr (.inr (.inl h))))
    · exact .inl h
    · exact .inr (.inl h)
    · exact .inr (.inr (.inl h))
    · exact .inr (.inr (.inr (.inl h)))
    · exact .inr (.inr (.inr (.inr (.inr (.inl h)))))
    · exact .inr (.inr (.inr (.inr (.inr (.inr (.inl h))))))
    · exact .inr (.inr (.inr (.inr (.inr (.inr (.inr h)))))))
  have hc38 : @LT.lt Nat _ 38 c' := l1.2.2.1
  have hf38 : @LT.lt Nat _ 38 f' := Nat.lt_trans hc38 l2
  refine cls43 w p loose mean mg mb _ _ _ h3 s.gens s.drawn tk3 s.os f' (X.keeps F3.keep) (N4 _ (.head _)).1 (T.keeps F3.keep) (by show 1 + claimMargin + 1 + 3 < recursionLimit; decide) ?_
  intro md a ns bt qt mt ft sl f1 f2 f3 f4 f5 f6 sa hs ks ih1 ih2 ik1 ik2 ik cl ct kf0 kf1 tb0 tb1 file c0k0 c0k1 c0k2 c0k18 c0w3 c0w4 c0w5 c0w6 c0w7 c0w8 c0w9 c0w10 c0w12 c0w13 c0w14 c0w15 c0w16 c0w17 c1k0 c1k1 c1k2 c1k18 c1w3 c1w4 c1w5 c1w6 c1w7 c1w8 c1w9 c1w10 c1w12 c1w13 c1w14 c1w15 c1w16 c1w17 tabE h5 t5 D
  obtain ⟨F5, N5⟩ := fromLX F3 N4 (fun p hp => by
    simp only [List.mem_cons] at hp
    rcases hp with rfl | rfl | rfl | rfl | rfl | rfl | hp
    · exact Nat.ne_of_gt hf38
    · exact Nat.ne_of_gt hc38
    · exact hs38
    · exact hL38
    · show (78 : Nat) ≠ 38; decide
    · exact hR2
    · exact h38 p hp) D
  have K : KC w h5 a f' := ⟨h5, ⟨⟨fun i => [md, ns, bt, sl, f1, f2, f3, f4, f5, f6, sa, cl, ct, kf0, kf1, tb0, tb1].getD i 0, fun i => [qt, mt, ft, tk3, ik1, ik2, ik, c1k0, c1k1, c1k2, c1k18, c0k0, c0k1, c0k2, c0k18].getD i 0, hs, ks, fun i => [ih1, ih2].getD i 0, _, file, none, #[], fun i => [c1w3, c1w4, c1w5, c1w6, c1w7, c1w8, c1w9, c1w10, c1w12, c1w13, c1w14, c1w15, c1w16, c1w17].getD i .none, fun i => [c0w3, c0w4, c0w5, c0w6, c0w7, c0w8, c0w9, c0w10, c0w12, c0w13, c0w14, c0w15, c0w16, c0w17].getD i .none, D.at 0 rfl, D.at 1 rfl, D.at 2 rfl, D.at 3 rfl, D.at 7 rfl, D.at 4 rfl, (N5 (f', _) (List.mem_append_right _ (.head _))).1, D.at 5 rfl, D.at 6 rfl⟩⟩, fun _ _ e => e⟩
  have N6 : News h₀ L h5 ((f', _) :: (c', oc') :: (s.heap.objs.size, _) :: (L + 1, oC) :: (78, _) :: (R, lst (refs.map Value.ref)) :: rowsL) := fun p hp => N5 p (List.mem_append_right _ hp)
  have N38 : News h₀ L h5 [(38, tabObj tabE)] := fun p hp => N5 p (List.mem_append_left _ (by rw [List.mem_singleton] at hp; subst hp; simp))
  clear N5 D
  have HC : HCB w (lawE L fa) h5 s.gens s.drawn s.os f' := hcOf X T F5.keep N6 (.head _) (.tail _ (.head _)) d1 d2 (.tail _ (.tail _ (.tail _ (.head _)))) dC (.tail _ (.tail _ (.tail _ (.tail _ (.tail _ (.head _)))))) hl fun j q hq => by
    obtain ⟨vs, hi, hm⟩ := hR.each j q hq
    exact ⟨vs, hi, .tail _ (.tail _ (.tail _ (.tail _ (.tail _ (.tail _ hm)))))⟩
  have hrg : IsRange h5 s.heap.objs.size 0 32 1 _ _ _ := (N6 _ (.tail _ (.tail _ (.head _)))).1
  have T5 := (T.keeps F5.keep).nolimit
  have X5 := X.keeps F5.keep
  have g78 := N6 _ (.tail _ (.tail _ (.tail _ (.tail _ (.head _)))))
  have g38 := N38 _ (.head _)
  repeat ((fail_if_success (with_reducible show wpAny _ _ (call (Value.builtin _) _ _) _ _ _)); first | (k_unfold; (try dsimp only)) | walk1)
  refine sortK (e := lawE L fa) X5 T5 K HC hrg fun D out n h6 t6 k6 fD gD iD => ?_
  have F6 : Fr h₀ L h6 m := ⟨F5.ns.at' fun o e => k6 L o e, fun b o e => k6 b o (F5.keep b o e), F5.above⟩
  have nD : h₀.get? D = none := by
    cases q : h₀.get? D with
    | none => rfl
    | some o => rw [F5.keep _ _ q] at fD; cases fD
  have nL : D ≠ L := fun q => by
    obtain ⟨o, _, _, ho, _⟩ := F5.ns
    rw [q, ho] at fD; cases fD
  have n38 : D ≠ 38 := fun q => by rw [q, g38.1] at fD; cases fD
  have n78 : D ≠ 78 := fun q => by rw [q, g78.1] at fD; cases fD
  have N7 : News h₀ L h6 [(D, W.listOf out n), (38, tabObj tabE), (78, _)] := fun p hp => by
    simp only [List.mem_cons, List.not_mem_nil, or_false] at hp
    rcases hp with rfl | rfl | rfl
    · exact ⟨gD, nL, nD⟩
    · exact ⟨k6 _ _ g38.1, g38.2⟩
    · exact ⟨k6 _ _ g78.1, g78.2⟩

  refine storeX_L F6 N7 (fun h7 F7 N8 => ?_) rfl rfl
  exact hret D out n h7 _ _ _ iD n38 n78 F7 N8
end Mine
end PartSt3
section PartSt4
open PySem PySem.W PySem.Calls PyProof.Rows PyProof.Rows.LCg
set_option maxRecDepth 100000
set_option maxHeartbeats 4000000
namespace Mine
theorem keptK {w : World} {p : Program} {loose : List Str} {mean : ExcName → Option Value} {mg mb : Str → Option Value} {A : Around} {news : List (Addr × Obj)} {h₀ : Heap} {s : Shared} {L : Addr} {m : Str → Option Value}
    {l1 : Addr} {ns1 : List Int} {vs1 : List Value} {Q E : Value → Shared → Prop}
    (X : (Mine.hd.heap_39 w.params).In h₀) (T : Top p loose mean mg mb h₀) (F : Fr h₀ L s.heap m) (N : News h₀ L s.heap news) (hAh : A.handled = none) (hd : A.depth + 12 < recursionLimit) (hu : A.units + 120 < cLine)
    (hl : h₀.IsList l1 vs1.toArray) (hi : IntsAre vs1 ns1) (hz : ns1.length ≤ 63)
    (h : ∀ D vs' ns' c h' tk', IntsAre vs' ns' → Good ns' → (∀ q ∈ news, q.1 < D) → Fr h₀ L h' m → News h₀ L h' ((D, W.listOf vs'.toArray c) :: news) → Q (.ref D) { s with heap := h', toks := tk' }) :
    wpAny (model PySem.Challenge.rw_oy0064_01.row.prog w) A (call (.ref 59) [.ref l1]) Q E s := by
  obtain ⟨oL, ho, D⟩ := inS F N
  refine kept w p loose mean mg mb A _ h₀ s l1 ns1 vs1 Q E X T hAh D hd hu hl hi hz fun D1 vs' ns' c h' tk' hi' hg hlt D' => ?_
  obtain ⟨F', N'⟩ := outS (extra := [(D1, _)]) F N ho D' (fun q hq => by rw [List.mem_singleton] at hq; subst hq; exact Nat.ne_of_gt (hlt (L, oL) (.head _)))
  exact h D1 vs' ns' c h' tk' hi' hg (fun q hq => hlt q (.tail _ hq)) F' N'
theorem withinK {w : World} {p : Program} {loose : List Str} {mean : ExcName → Option Value} {mg mb : Str → Option Value} {A : Around} {news : List (Addr × Obj)} {h₀ : Heap} {s : Shared} {L : Addr} {m : Str → Option Value} {env : Env}
    {l1 : Addr} {ns1 : List Int} {vs1 : List Value} {n1 : Nat} {Q E : Value → Shared → Prop}
    (X : (Mine.hd.heap_39 w.params).In h₀) (T : Top p loose mean mg mb h₀) (F : Fr h₀ L s.heap m) (N : News h₀ L s.heap news) (hAf : A.frames = some [env]) (hAh : A.handled = none) (hk : env.scope.kind ≠ .module) (hf : env.frame = some L) (hd : A.depth + 12 < recursionLimit) (hu : A.units + 120 < cLine)
    (m1 : (l1, W.listOf vs1.toArray n1) ∈ news) (i1 : IntsAre vs1 ns1) (g1 : Good ns1)
    (h : ∀ D vs' ns' c h' tk', IntsAre vs' ns' → Good ns' → (∀ x, x ∈ ns' ↔ x ∈ ns1 ∨ ∃ i, i < 5 ∧ ∃ y ∈ ns1, x = xorZ y i) → (∀ q ∈ news, q.1 < D) → Fr h₀ L h' m → News h₀ L h' ((D, W.listOf vs'.toArray c) :: news) → Q (.ref D) { s with heap := h', toks := tk' }) :
    wpAny (model PySem.Challenge.rw_oy0064_01.row.prog w) A (call (.ref 76) [.ref l1]) Q E s := by
  have N0 : News h₀ L s.heap (news ++ []) := by rw [List.append_nil]; exact N
  obtain ⟨oL, ho, Fs, D⟩ := inT (env := env) (l := []) (frs := []) F N0 trivial hk hf
  refine within w p loose mean mg mb A [env] [(L, oL)] news h₀ s l1 ns1 vs1 n1 Q E X T hAf hAh Fs (fun q hq hm => (N q hq).2.1 (by simpa using hm)) D hd hu m1 i1 g1 fun D1 vs' ns' c h' tk' frs2 hi' hg hmem SU hlt D' => ?_
  have hne : D1 ≠ L := by
    cases frs2 with
    | nil => exact False.elim SU
    | cons q r =>
      have e := SU.1
      have := hlt q (List.mem_append_right _ (.head _))
      rw [e] at this
      exact Nat.ne_of_gt this
  obtain ⟨frs', SU', F', N'⟩ := outT (extra := [(D1, _)]) F N0 ho SU D' (fun q hq => by rw [List.mem_singleton] at hq; subst hq; exact hne)
  cases frs' with
  | cons q r => exact False.elim SU'
  | nil =>
    rw [List.append_nil] at N'
    exact h D1 vs' ns' c h' tk' hi' hg hmem (fun q hq => hlt q (List.mem_append_left _ hq)) F' N'
local macro_rules | `(tactic| walk_at "eval Name") => `(tactic| (refine nameX_L (F := by assumption) (hv := by assumption) ?_))
theorem st4 : ∀ (w : World) (p : Program) (loose : List Str) (mean : ExcName → Option Value) (mg mb : Str → Option Value) (h₀ : Heap) (s : Shared) (L fa l1 : Addr) (m : Str → Option Value) (ns1 : List Int) (vs1 : List Value) (news : List (Addr × Obj)) (Q : Flow → Shared → Prop) (E : Value → Shared → Prop)
    (_ : (Mine.hd.heap_39 w.params).In h₀) (_ : Top p loose mean mg mb h₀) (_ : Fr h₀ L s.heap m) (_ : News h₀ L s.heap news) (_ : m (Str.ofString "script") = some (.ref l1)) (_ : h₀.IsList l1 vs1.toArray) (_ : IntsAre vs1 ns1) (_ : ns1.length ≤ 63)
    (_ : ∀ D vs' ns' c h' tk', IntsAre vs' ns' → Good ns' → (∀ q ∈ news, q.1 < D) → Fr h₀ L h' (fun y => if y = Str.ofString "kept" then some (.ref D) else m y) → News h₀ L h' ((D, W.listOf vs'.toArray c) :: news) → Q .next { s with heap := h', toks := tk' }),
    wpAny (model PySem.Challenge.rw_oy0064_01.row.prog w) (callerA.deeper (lawE L fa)) (exec (lawS 3) (lawE L fa)) Q E s := by
  k_fill
  intro w p loose mean mg mb h₀ s L fa l1 m ns1 vs1 news Q E X T F N hm hl hi hz hret
  have e : lawS 3 = lawS 3 := rfl
  conv at e => rhs; whnf
  rw [e]
  clear e
  repeat ((fail_if_success (with_reducible show wpAny _ _ (call (Value.ref _) _) _ _ _)); first | (k_unfold; (try dsimp only)) | walk1)
  refine keptK X T F N rfl (by show 1 + claimMargin + 1 + 12 < recursionLimit; decide) (by show 4 + 3 + 120 < cLine; decide) hl hi hz fun D vs' ns' c h' tk' hi' hg hlt F' N' => ?_
  refine storeX_L F' N' (fun h7 F7 N8 => ?_) rfl rfl
  exact hret D vs' ns' c h7 _ hi' hg hlt F7 N8
theorem st5 : ∀ (w : World) (p : Program) (loose : List Str) (mean : ExcName → Option Value) (mg mb : Str → Option Value) (h₀ : Heap) (s : Shared) (L fa K O : Addr) (m : Str → Option Value) (ns : List Int) (vs : List Value) (c n : Nat) (out : Array Value) (news : List (Addr × Obj)) (Q : Flow → Shared → Prop) (E : Value → Shared → Prop)
    (_ : (Mine.hd.heap_39 w.params).In h₀) (_ : Top p loose mean mg mb h₀) (_ : Fr h₀ L s.heap m) (_ : News h₀ L s.heap ((K, W.listOf vs.toArray c) :: (O, W.listOf out n) :: news)) (_ : m (Str.ofString "kept") = some (.ref K)) (_ : m (Str.ofString "order") = some (.ref O)) (_ : IntsAre vs ns) (_ : Good ns) (_ : IntsAre out.toList (castL orderN))
    (_ : ∀ D vs' c' h' tk', IntsAre vs' (castL (Wk ns.length)) → Fr h₀ L h' (fun y => if y = Str.ofString "least" then some (.ref D) else m y) → News h₀ L h' ((D, W.listOf vs'.toArray c') :: (K, W.listOf vs.toArray c) :: (O, W.listOf out n) :: news) → Q .next { s with heap := h', toks := tk' }),
    wpAny (model PySem.Challenge.rw_oy0064_01.row.prog w) (callerA.deeper (lawE L fa)) (exec (lawS 4) (lawE L fa)) Q E s := by
  k_fill
  intro w p loose mean mg mb h₀ s L fa K O m ns vs c n out news Q E X T F N hmk hmo hi hg ho hret
  have e : lawS 4 = lawS 4 := rfl
  conv at e => rhs; whnf
  rw [e]
  clear e
  repeat ((fail_if_success (with_reducible show wpAny _ _ (subscriptTail _ _ _ _) _ _ _)); first | (k_unfold; (try dsimp only)) | walk1)
  have hgl := hg.len
  refine kst_len N (.head _) hi.length (by omega) ?_
  repeat ((fail_if_success (with_reducible show wpAny _ _ (subscriptTail _ _ _ _) _ _ _)); first | (k_unfold; (try dsimp only)) | walk1)
  have hO : s.heap.IsList O out.toList.toArray := by rw [Array.toArray_toList]; exact N.isList (.tail _ (.head _))
  refine slice_uptoK F N hO ho (by omega) (by decide) fun D5 h5 vs5 i5 F5 N5 l5 => ?_
  rw [Int.toNat_natCast] at i5
  repeat ((fail_if_success (with_reducible show wpAny _ _ (call (Value.builtin _) _) _ _ _)); first | (k_unfold; (try dsimp only)) | walk1)
  refine kso_sorted F5 N5 (N5.isList (.head _)) i5 (by have : (castL orderN).length = 32 := (by decide); rw [List.length_take, this]; omega) fun D6 vs6 ns6 c6 h6 F6 N6 l6 i6 _ p6 o6 _ => ?_
  repeat ((fail_if_success (with_reducible show wpAny _ _ (call (Value.ref _) _) _ _ _)); first | (k_unfold; (try dsimp only)) | walk1)
  refine withinK (A := callerA.deeper (lawE L fa)) (env := lawE L fa) X T F6 N6 rfl rfl (by show ScopeKind.function ≠ ScopeKind.module; decide) rfl (by show 1 + claimMargin + 1 + 12 < recursionLimit; decide) (by show 4 + 3 + 120 < cLine; decide) (.head _) i6 (firstGood p6 o6).1 fun D vs' ns' c' h' tk' hi' hg' hm' hlt F' N' => ?_
  have e7 : ns' = castL (Wk ns.length) := leastEq (fun x => by rw [p6.mem_iff, castL_take]) hg' hm'
  subst e7
  refine storeX_L F' N' (fun h7 F7 N8 => ?_) rfl rfl
  refine hret D vs' c' h7 _ hi' F7 fun p hp => N8 p ?_
  rcases List.mem_cons.mp hp with rfl | hp
  · exact .head _
  · exact .tail _ (.tail _ (.tail _ hp))
theorem st6 : ∀ (w : World) (p : Program) (loose : List Str) (mean : ExcName → Option Value) (mg mb : Str → Option Value) (h₀ : Heap) (s : Shared) (L fa O Z : Addr) (m : Str → Option Value) (k : Nat) (vz : List Value) (cz n : Nat) (out : Array Value) (news : List (Addr × Obj)) (Q : Flow → Shared → Prop) (E : Value → Shared → Prop)
    (_ : (Mine.hd.heap_39 w.params).In h₀) (_ : Top p loose mean mg mb h₀) (_ : Fr h₀ L s.heap m) (_ : News h₀ L s.heap ((Z, W.listOf vz.toArray cz) :: (O, W.listOf out n) :: news)) (_ : m (Str.ofString "least") = some (.ref Z)) (_ : m (Str.ofString "order") = some (.ref O)) (_ : IntsAre vz (castL (Wk k))) (_ : k < 33) (_ : IntsAre out.toList (castL orderN))
    (_ : ∀ h' tk', Fr h₀ L h' m → News h₀ L h' ((Z, W.listOf vz.toArray cz) :: (O, W.listOf out n) :: news) → Q .next { s with heap := h', toks := tk' }),
    wpAny (model PySem.Challenge.rw_oy0064_01.row.prog w) (callerA.deeper (lawE L fa)) (exec (lawS 5) (lawE L fa)) Q E s := by
  k_fill
  intro w p loose mean mg mb h₀ s L fa O Z m k vz cz n out news Q E X T F N hmz hmo hi hk ho hret
  have e : lawS 5 = lawS 5 := rfl
  conv at e => rhs; whnf
  rw [e]
  clear e
  have hof := ord_fact k hk
  have hln : (castL (Wk k)).length = (Wk k).length := by unfold castL; rw [List.length_map]
  repeat ((fail_if_success (with_reducible show wpAny _ _ (call (Value.builtin _) [Value.ref _]) _ _ _)); first | (k_unfold; (try dsimp only)) | walk1)
  refine kst_len N (.head _) (hi.length.trans hln) (by omega) ?_
  repeat ((fail_if_success (with_reducible show wpAny _ _ (subscriptTail _ _ _ _) _ _ _)); first | (k_unfold; (try dsimp only)) | walk1)
  have hO : s.heap.IsList O out.toList.toArray := by rw [Array.toArray_toList]; exact N.isList (.tail _ (.head _))
  refine slice_uptoK F N hO ho (by omega) (by decide) fun D5 h5 vs5 i5 F5 N5 l5 => ?_
  rw [Int.toNat_natCast] at i5
  repeat ((fail_if_success (with_reducible show wpAny _ _ (call (Value.builtin _) _) _ _ _)); first | (k_unfold; (try dsimp only)) | walk1)
  refine kso_sorted F5 N5 (N5.isList (.head _)) i5 (by have : (castL orderN).length = 32 := (by decide); rw [List.length_take, this]; omega) fun D6 vs6 ns6 c6 h6 F6 N6 l6 i6 _ p6 o6 _ => ?_
  have e6 := (firstGood p6 o6).2
  rw [← hof.1] at e6
  subst e6
  repeat ((fail_if_success (with_reducible show wpAny _ _ (compareOp _ _ _) _ _ _)); first | (k_unfold; (try dsimp only)) | walk1)
  refine ke_ne_ints (N6.isList (.tail _ (.tail _ (.head _)))) (N6.isList (.head _)) hi i6 (by show 4 + 3 + 64 < cLine; decide) ?_
  rw [decide_eq_true rfl]
  k_steps
  exact hret _ _ F6 fun p hp => N6 p (.tail _ (.tail _ hp))
theorem st7 : ∀ (w : World) (p : Program) (loose : List Str) (mean : ExcName → Option Value) (mg mb : Str → Option Value) (h₀ : Heap) (s : Shared) (L fa K Z : Addr) (m : Str → Option Value) (ns : List Int) (vs vz : List Value) (c cz : Nat) (news : List (Addr × Obj)) (Q : Flow → Shared → Prop) (E : Value → Shared → Prop)
    (_ : (Mine.hd.heap_39 w.params).In h₀) (_ : Top p loose mean mg mb h₀) (_ : Fr h₀ L s.heap m) (_ : News h₀ L s.heap ((Z, W.listOf vz.toArray cz) :: (K, W.listOf vs.toArray c) :: news)) (_ : m (Str.ofString "least") = some (.ref Z)) (_ : m (Str.ofString "kept") = some (.ref K)) (_ : IntsAre vs ns) (_ : Good ns) (_ : IntsAre vz (castL (Wk ns.length)))
    (_ : ∀ h' tk', Fr h₀ L h' m → News h₀ L h' news → Q (.ret (.bool true)) { s with heap := h', toks := tk' }),
    wpAny (model PySem.Challenge.rw_oy0064_01.row.prog w) (callerA.deeper (lawE L fa)) (exec (lawS 6) (lawE L fa)) Q E s := by
  k_fill
  intro w p loose mean mg mb h₀ s L fa K Z m ns vs vz c cz news Q E X T F N hmz hmk hi hg hz hret
  have e : lawS 6 = lawS 6 := rfl
  conv at e => rhs; whnf
  rw [e]
  clear e
  have hof := ord_fact ns.length (Nat.lt_succ_of_le hg.len)
  have hln : (castL (Wk ns.length)).length = (Wk ns.length).length := by unfold castL; rw [List.length_map]
  repeat ((fail_if_success (with_reducible show wpAny _ _ (call (Value.ref _) _) _ _ _)); first | (k_unfold; (try dsimp only)) | walk1)
  refine withinK (A := callerA.deeper (lawE L fa)) (env := lawE L fa) X T F N rfl rfl (by show ScopeKind.function ≠ ScopeKind.module; decide) rfl (by show 1 + claimMargin + 1 + 12 < recursionLimit; decide) (by show 4 + 3 + 120 < cLine; decide) (.tail _ (.head _)) hi hg fun D vs' ns' c' h' tk' hi' hg' hm' hlt F' N' => ?_
  have hh := harperZ hg hg' hm'
  rw [hof.2.1] at hh
  have hgl := hg'.len
  repeat ((fail_if_success (with_reducible show wpAny _ _ (call (Value.builtin _) [Value.ref _]) _ _ _)); first | (k_unfold; (try dsimp only)) | walk1)
  refine kst_len N' (.head _) hi'.length (by omega) ?_
  repeat ((fail_if_success (with_reducible show wpAny _ _ (call (Value.builtin _) [Value.ref _]) _ _ _)); first | (k_unfold; (try dsimp only)) | walk1)
  refine kst_len N' (.tail _ (.head _)) (hz.length.trans hln) (by omega) ?_
  repeat ((fail_if_success (with_reducible show wpAny _ _ (call (Value.ref _) _) _ _ _)); first | (k_unfold; (try dsimp only)) | walk1)
  refine threeIK X T F' N' rfl (by show 1 + claimMargin + 1 + 5 < recursionLimit; decide) (by show 4 + 3 + 150 < cLine; decide) fun t8 h8 tk8 F8 N8 => ?_
  have hc : ¬ (((ns'.length : Nat) : Int) < (((Wk ns.length).length : Nat) : Int)) := by omega
  rw [decide_eq_false hc]
  generalize hb : b2i (decide ((((Wk ns.length).length : Nat) : Int) < ((ns'.length : Nat) : Int))) - b2i false = z
  have hz0 : 0 ≤ z := by
    rw [← hb]
    cases decide ((((Wk ns.length).length : Nat) : Int) < ((ns'.length : Nat) : Int)) <;> decide
  k_steps
  have hne : (z != -1) = true := bne_iff_ne.mpr (by omega)
  rw [hne]
  exact hret _ _ F8 fun p hp => N8 p (.tail _ (.tail _ (.tail _ hp)))
end Mine
end PartSt4
section PartLaw
open PySem PySem.W PySem.Calls PyProof.Rows PyProof.Rows.LCg
set_option maxRecDepth 100000
set_option maxHeartbeats 4000000
namespace Mine
theorem lawAll {w : World} {p : Program} {loose : List Str} {mean : ExcName → Option Value} {mg mb : Str → Option Value} {h₀ : Heap} {s : Shared} {L fa l1 : Addr} {m : Str → Option Value} {oC : Obj} {ns1 : List Int} {vs1 : List Value} {Q : Flow → Shared → Prop} {E : Value → Shared → Prop}
    (F : Fr h₀ L s.heap m) (N : News h₀ L s.heap [(L + 1, oC), (38, tabObj #[]), (78, tabObj #[])]) (X : (Mine.hd.heap_39 w.params).In h₀) (T : Top p loose mean mg mb h₀) (C38 : CodeHd h₀ 42 38) (C78 : CodeHd h₀ 80 78) (dC : oC.data = .cell none) (hL : @LT.lt Nat _ 78 L)
    (hm : m (Str.ofString "script") = some (.ref l1)) (hl : h₀.IsList l1 vs1.toArray) (hi : IntsAre vs1 ns1) (hz : ns1.length ≤ 63)
    (hret : ∀ h' tk' m' tA tB, Fr h₀ L h' m' → News h₀ L h' [(38, tabObj tA), (78, tabObj tB)] → Q (.ret (.bool true)) { s with heap := h', toks := tk' }) :
    wpAny (model PySem.Challenge.rw_oy0064_01.row.prog w) (callerA.deeper (lawE L fa)) (execs lawB (lawE L fa)) Q E s := by
  rw [lawB_eq]
  refine wpAny_execs_cons ?_
  refine st1 w p loose mean mg mb h₀ s L fa m oC _ _ _ E X T F N dC hL fun R refs rowsL oC2 h2 tk2 hl2 hR2 dC2 r1 r2 r3 r4 F2 N2 => ?_
  show wpAny _ _ (execs _ _) _ _ _
  refine wpAny_execs_cons ?_
  refine st2 w p loose mean mg mb h₀ _ L fa R m oC2 _ _ refs rowsL _ E X T F2 N2 dC2 hl2 hR2 fun h3 tk3 F3 N3 => ?_
  show wpAny _ _ (execs _ _) _ _ _
  refine wpAny_execs_cons ?_
  refine st3 w p loose mean mg mb h₀ _ L fa R m oC2 refs rowsL _ E X T C38 C78 F3 N3 dC2 hl2 hR2 hL r1 r2 r3 r4 fun O out n h4 tk4 tA tB iO o38 o78 F4 N4 => ?_
  show wpAny _ _ (execs _ _) _ _ _
  refine wpAny_execs_cons ?_
  refine st4 w p loose mean mg mb h₀ _ L fa l1 _ ns1 vs1 _ _ E X T F4 N4 ((if_neg (by decide)).trans hm) hl hi hz fun K vs5 ns5 c5 h5 tk5 i5 g5 lt5 F5 N5 => ?_
  show wpAny _ _ (execs _ _) _ _ _
  refine wpAny_execs_cons ?_
  refine st5 w p loose mean mg mb h₀ _ L fa K O _ ns5 vs5 c5 n out _ _ E X T F5 N5 (if_pos rfl) ((if_neg (by decide)).trans (if_pos rfl)) i5 g5 iO fun Z vs6 c6 h6 tk6 i6 F6 N6 => ?_
  show wpAny _ _ (execs _ _) _ _ _
  refine wpAny_execs_cons ?_
  have N6' : News h₀ L h6 ((Z, W.listOf vs6.toArray c6) :: (O, W.listOf out n) :: (K, W.listOf vs5.toArray c5) :: [(38, tabObj tA), (78, tabObj tB)]) := fun q hq => N6 q (by
    simp only [List.mem_cons] at hq ⊢
    rcases hq with h | h | h | h
    · exact .inl h
    · exact .inr (.inr (.inl h))
    · exact .inr (.inl h)
    · exact .inr (.inr (.inr h)))
  refine st6 w p loose mean mg mb h₀ _ L fa O Z _ ns5.length vs6 c6 n out _ _ E X T F6 N6' (if_pos rfl) ((if_neg (by decide)).trans ((if_neg (by decide)).trans (if_pos rfl))) i6 (Nat.lt_succ_of_le g5.len) iO fun h7 tk7 F7 N7 => ?_
  show wpAny _ _ (execs _ _) _ _ _
  refine wpAny_execs_cons ?_
  have N7' : News h₀ L h7 ((Z, W.listOf vs6.toArray c6) :: (K, W.listOf vs5.toArray c5) :: [(38, tabObj tA), (78, tabObj tB)]) := fun q hq => N7 q (by
    simp only [List.mem_cons] at hq ⊢
    rcases hq with h | h | h
    · exact .inl h
    · exact .inr (.inr (.inl h))
    · exact .inr (.inr (.inr h)))
  refine st7 w p loose mean mg mb h₀ _ L fa K Z _ ns5 vs5 vs6 c5 c6 _ _ E X T F7 N7' (if_pos rfl) ((if_neg (by decide)).trans (if_pos rfl)) i5 g5 i6 fun h8 tk8 F8 N8 => ?_
  exact hret h8 tk8 _ _ _ F8 N8
end Mine
end PartLaw
open PySem PySem.W PyProof.Rows
set_option maxRecDepth 100000 in
set_option maxHeartbeats 8000000 in
theorem PySem.Challenge.cw_oy0064_01_holds : PySem.Challenge.rw_oy0064_01.Holds := by
  refine Mine.hd ?_
  k_go0
  all_goals (try k_fold)
  refine Mine.lawAll (by assumption) (by assumption) (by assumption) (by assumption) (by assumption) (by assumption) (by assumption) (And.right (by assumption)) rfl (by assumption) (by assumption) (by omega) fun h' tk' m' tA tB F' N' => ?_
  k_steps
