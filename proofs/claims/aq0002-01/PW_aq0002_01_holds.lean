import PyProof.Rows.All
import Wide.All
import OpenK.AllK
import Wide.FinOn
import PySem.Challenge.RW_aq0002_01
open PySem PySem.W PyProof.Rows
set_option Elab.async false
namespace Mine
-- Defs
section
/-- a sign that counts in a name: a letter, a figure, the dot -/
def cnts (c : Nat) : Bool := Unicode.isAlnum c || c == 46
def nstep (st : List Nat × Bool) (c : Nat) : List Nat × Bool :=
  if cnts c then ((if st.2 && !st.1.isEmpty then st.1 ++ [95] else st.1) ++ (if c < 128 then [c] else []), false) else (st.1, true)
def nst (l : List Nat) : List Nat × Bool := l.foldl nstep ([], false)
def nrm (l : List Nat) : List Nat := (nst l).1
def norm (x : Str) : Str := ⟨(nrm x.cps.toList).toArray⟩
def sg (n : Nat) : Str := ⟨#[n]⟩
def nI (pre : List Int) : List Nat × Bool := nst (pre.map Int.toNat)
/-- what the loop keeps -/
structure NInv (pre : List Int) (cs : List Str) (p : Bool) : Prop where
  ecs : cs = (nI pre).1.map sg
  ep : p = (nI pre).2
  len : cs.length ≤ 2 * pre.length
theorem NInv.start : NInv [] [] false := ⟨rfl, rfl, Nat.le_refl _⟩
end

-- Later
section
/-- a goal that the walk is to leave as it is -/
structure Later (P : Prop) : Prop where
  out : P
theorem later {P : Prop} (h : Later P) : P := h.out
end

-- Steps
section
structure IsAl (n : Nat) (b : Bool) : Prop where
  e : b = Unicode.isAlnum n
structure IsAsc (n : Nat) (b : Bool) : Prop where
  e : b = decide (n < 128)
structure IsSg (n k : Nat) (b : Bool) : Prop where
  e : b = (n == k)
section
variable {prog : Program} {w : World} {A : Around} {E : Value → Shared → Prop} {s : Shared} {n : Nat} {t u : Tok} {Q : Value → Shared → Prop}
theorem st_isalnum (h : ∀ b, IsAl n b → Q (.bool b) s) : wpAny (model prog w) A (PySem.call (.builtin "str.isalnum") [.str ⟨#[n]⟩ t]) Q E s :=
  SC.isalnum (h _ ⟨by simp [Txt.isalnum, Str.length]⟩)
theorem st_isascii (h : ∀ b, IsAsc n b → Q (.bool b) s) : wpAny (model prog w) A (PySem.call (.builtin "str.isascii") [.str ⟨#[n]⟩ t]) Q E s :=
  SC.isascii (h _ ⟨by simp [Txt.isascii]⟩)
theorem st_dot (h : ∀ b, IsSg n 46 b → Q (.bool b) s) : wpAny (model prog w) A (compareOp .Eq (.str ⟨#[n]⟩ t) (.str (Str.ofString ".") u)) Q E s :=
  eq_str (h _ ⟨by rw [show Str.ofString "." = ⟨#[46]⟩ by decide +kernel, Bool.eq_iff_iff]; simp⟩)
end
end

-- NInv
section
theorem nI_snoc (pre : List Int) (n : Nat) : nI (pre ++ [(n : Int)]) = nstep (nI pre) n := by
  simp [nI, nst, List.foldl_append]
theorem cnt_al {n : Nat} {a : Bool} (h : IsAl n a) (e : a = true) : cnts n = true := by
  subst e; simp [cnts, ← h.e]
theorem cnt_dot {n : Nat} {a : Bool} (h : IsSg n 46 a) (e : a = true) : cnts n = true := by
  subst e; simp [cnts, ← h.e]
section
variable {pre : List Int} {cs cs' : List Str} {us : List Value} {p a b d : Bool} {n : Nat}
theorem ninv_skip (hp : NInv pre cs p) (hA : IsAl n a) (ha : a = false) (hD : IsSg n 46 d) (hd : d = false) : NInv (pre ++ [(n : Int)]) cs true := by
  subst ha hd
  have hc : cnts n = false := by simp [cnts, ← hA.e, ← hD.e]
  refine ⟨?_, ?_, ?_⟩
  · rw [nI_snoc]; simp [nstep, hc, hp.ecs]
  · rw [nI_snoc]; simp [nstep, hc]
  · have := hp.len; simp; omega
theorem ninv_take (hp : NInv pre cs p) (hc : cnts n = true) (hq : cs' = (if (p && !cs.isEmpty) = true then cs ++ [sg 95] else cs) ++ (if n < 128 then [sg n] else [])) : NInv (pre ++ [(n : Int)]) cs' false := by
  have e1 : cs.isEmpty = (nI pre).1.isEmpty := by rw [hp.ecs]; simp
  refine ⟨?_, ?_, ?_⟩
  · rw [nI_snoc, hq, e1, hp.ep, hp.ecs]
    simp only [nstep, hc, if_true]
    split <;> split <;> simp
  · rw [nI_snoc]; simp [nstep, hc]
  · have := hp.len
    rw [hq]
    split <;> split <;> simp <;> omega
variable (hs : IsAsc n b)
theorem np_0 (h0 : p = false) (hs : IsAsc n b) (hb : b = false) : cs = (if (p && !cs.isEmpty) = true then cs ++ [sg 95] else cs) ++ (if n < 128 then [sg n] else []) := by
  subst h0 hb
  have := hs.e
  simp at this
  simp; omega
theorem np_1 (h0 : p = false) (hs : IsAsc n b) (hb : b = true) : cs ++ [⟨#[n]⟩] = (if (p && !cs.isEmpty) = true then cs ++ [sg 95] else cs) ++ (if n < 128 then [sg n] else []) := by
  subst h0 hb
  have := hs.e
  simp at this
  simp [this, sg]
theorem emp_of (hf : StrsAre us cs) : us.isEmpty = cs.isEmpty := by
  have := hf.length
  cases us <;> cases cs <;> simp_all
theorem np_2 (h0 : p = true) (hf : StrsAre us cs) (he : us.isEmpty = true) (hs : IsAsc n b) (hb : b = false) : cs = (if (p && !cs.isEmpty) = true then cs ++ [sg 95] else cs) ++ (if n < 128 then [sg n] else []) := by
  rw [emp_of hf] at he
  subst h0 hb
  have := hs.e
  simp at this
  simp [he]; omega
theorem np_3 (h0 : p = true) (hf : StrsAre us cs) (he : us.isEmpty = true) (hs : IsAsc n b) (hb : b = true) : cs ++ [⟨#[n]⟩] = (if (p && !cs.isEmpty) = true then cs ++ [sg 95] else cs) ++ (if n < 128 then [sg n] else []) := by
  rw [emp_of hf] at he
  subst h0 hb
  have := hs.e
  simp at this
  simp [he, this, sg]
theorem sg95 : Str.ofString "_" = sg 95 := by decide +kernel
theorem np_4 (h0 : p = true) (hf : StrsAre us cs) (he : us.isEmpty = false) (hs : IsAsc n b) (hb : b = false) : cs ++ [Str.ofString "_"] = (if (p && !cs.isEmpty) = true then cs ++ [sg 95] else cs) ++ (if n < 128 then [sg n] else []) := by
  rw [emp_of hf] at he
  subst h0 hb
  have := hs.e
  simp at this
  simp [he, sg95]; omega
theorem np_5 (h0 : p = true) (hf : StrsAre us cs) (he : us.isEmpty = false) (hs : IsAsc n b) (hb : b = true) : cs ++ [Str.ofString "_"] ++ [⟨#[n]⟩] = (if (p && !cs.isEmpty) = true then cs ++ [sg 95] else cs) ++ (if n < 128 then [sg n] else []) := by
  rw [emp_of hf] at he
  subst h0 hb
  have := hs.e
  simp at this
  simp [he, sg95, this, sg]
end
end

-- NEnd
section
abbrev NSt := List Value × List Str × Nat × Bool
def nLed (l : Addr) (news : List (Addr × Obj)) (c : NSt) : List (Addr × Obj) := (l, PySem.W.listOf c.1.toArray c.2.2.1) :: news
def nPs (c : NSt) : List (Str × Value) := [(Str.ofString "punct", Value.bool c.2.2.2)]
def nFa (c : NSt) : Prop := StrsAre c.1 c.2.1
def nPp (pre : List Int) (c : NSt) : Prop := NInv pre c.2.1 c.2.2.2
theorem norm_end {h₀ : Heap} {L l : Addr} {m₀ m' : Str → Option Value} {news own : List (Addr × Obj)} {adr : List Addr} {s₁ : Shared} {h' : Heap} {tk k : Nat} {us : List Value} {cs : List Str} {pre : List Int} {p : Bool}
    (F : Fr h₀ L h' m') (N : News h₀ L h' ((l, PySem.W.listOf us.toArray k) :: (news ++ own))) (ha : l :: news.map (·.1) = adr) (hf : StrsAre us cs) (hk : m' (Str.ofString "punct") = some (.bool p))
    (hr : ∀ z, z ≠ Str.ofString "c" → z ≠ Str.ofString "punct" → m' z = m₀ z) (hp : NInv pre cs p) :
    InvEndN h₀ L (KstS (nLed l news) nPs nFa (Str.ofString "c") [] m₀ nPp pre) own adr s₁ { s₁ with heap := h', toks := tk } :=
  kst_end (us, cs, k, p) F N (fun q hq => by
      rcases List.mem_cons.mp hq with rfl | hq
      · exact List.mem_cons_self
      · exact List.mem_cons_of_mem _ (List.mem_append_left _ hq))
    (fun q hq => List.mem_cons_of_mem _ (List.mem_append_right _ hq)) (by rw [← ha]; rfl) hf (fun q hq => by rw [List.mem_singleton.mp hq]; exact hk)
    (fun z h1 h2 _ => hr z h1 (h2 _ (List.mem_singleton.mpr rfl))) hp
end

-- Joins
section
theorem st_join {prog : Program} {w : World} {A : Around} {E : Value → Shared → Prop} {s : Shared} {x : Str} {t : Tok} {Q : Value → Shared → Prop} {D : Addr} {vs : List Value} {ws : List Str}
    (hl : s.heap.IsList D vs.toArray) (hw : StrsAre vs ws) (hB : ∀ y ∈ ws, y.length ≤ 1000) (hn : ws.length ≤ 10000) (hx : x.length ≤ 1)
    (h : ∀ t' k, Q (.str (Txt.join x ws) t') { s with toks := k }) : wpAny (model prog w) A (PySem.call (.builtin "str.join") [.str x t, .ref D]) Q E s := by
  obtain ⟨l, rfl, hm⟩ := strsAre_values hw
  refine SC.join hl hm ?_ h
  have h2 : ws.length * x.length ≤ ws.length * 1 := Nat.mul_le_mul_left _ hx
  have h4 : ws.length * 1000 + ws.length * x.length ≤ 16777216 := by
    generalize ws.length * x.length = q at *
    omega
  have h3 := StrLaws.joinFits (sep := x) (B := 1000) hB h4
  unfold JoinOk
  rw [h3]; rfl
theorem join_sg : ∀ l : List Nat, Txt.join (Str.ofString "") (l.map sg) = ⟨l.toArray⟩ := by
  intro l
  show Builtin.Str.glued _ _ = _
  rw [StrLaws.glued_eq_join, show Str.ofString "" = ⟨#[]⟩ by decide +kernel]
  induction l with
  | nil => rfl
  | cons a r ih =>
    cases r with
    | nil => rfl
    | cons b r =>
      show sg a ++ ⟨#[]⟩ ++ Str.join ⟨#[]⟩ ((b :: r).map sg) = _
      rw [ih]
      refine Str.ext' (Array.toList_inj.mp ?_)
      simp [sg, Str.cps_append]
theorem nI_codes (x : Str) : nI (KStt.codes x) = nst x.cps.toList := by
  unfold nI KStt.codes
  rw [List.map_map]
  congr 1
  exact (List.map_congr_left (g := _root_.id) fun c _ => Int.toNat_natCast c).trans (List.map_id _)
theorem ninv_join {x : Str} {cs : List Str} {p : Bool} (h : NInv (KStt.codes x) cs p) : Txt.join (Str.ofString "") cs = norm x := by
  rw [h.ecs, join_sg, nI_codes]; rfl
theorem ninv_small {pre : List Int} {cs : List Str} {p : Bool} (h : NInv pre cs p) : ∀ y ∈ cs, y.length ≤ 1000 := by
  intro y hy
  rw [h.ecs] at hy
  obtain ⟨a, _, rfl⟩ := List.mem_map.mp hy
  show 1 ≤ 1000
  decide
theorem empty_len : (Str.ofString "").length ≤ 1 := by decide +kernel
theorem under_len : (Str.ofString "_").length ≤ 1 := by decide +kernel
end

-- N1
section
section
/-- what a call of normalize_encoding gives back, whatever the caller's ledger -/
def NormOk (prog : Program) (w : World) (K : Frag) (p : Program) (loose : List Str) (mean : ExcName → Option Value) (mg mb : Str → Option Value) : Prop :=
  ∀ (cbNews : CbLed) (x : CbStr) (t : CbTok), CbClaim prog w K p loose mean mg mb 21 cbNews [] (x.length ≤ 1000) [.str x t] (fun t => .str (norm x) t)
end
end

-- Lc
section
/-- the ASCII signs that count -/
def lits : List Nat := [97, 98, 99, 100, 101, 102, 103, 104, 105, 106, 107, 108, 109, 110, 111, 112, 113, 114, 115, 116, 117, 118, 119, 120, 121, 122,
  65, 66, 67, 68, 69, 70, 71, 72, 73, 74, 75, 76, 77, 78, 79, 80, 81, 82, 83, 84, 85, 86, 87, 88, 89, 90, 48, 49, 50, 51, 52, 53, 54, 55, 56, 57, 46]
def lcnt (n : Nat) : Bool := decide (n ∈ lits)
theorem lits_are : (Str.ofString "abcdefghijklmnopqrstuvwxyzABCDEFGHIJKLMNOPQRSTUVWXYZ0123456789.").cps.toList = lits := by decide +kernel
theorem lcnt_small : ∀ n, n < 128 → lcnt n = cnts n := by decide +kernel
theorem lits_small : ∀ n ∈ lits, n < 128 := by decide +kernel
theorem lcnt_is (n : Nat) : lcnt n = (decide (n < 128) && cnts n) := by
  by_cases h : n < 128
  · simp [h, lcnt_small n h]
  · simp only [h, decide_false, Bool.false_and]
    unfold lcnt
    exact decide_eq_false fun hm => h (lits_small n hm)
theorem st_in {prog : Program} {w : World} {A : Around} {E : Value → Shared → Prop} {s : Shared} {n : Nat} {t u : Tok} {Q : Value → Shared → Prop} (h : Q (.bool (lcnt n)) s) :
    wpAny (model prog w) A (compareOp .In (.str ⟨#[n]⟩ u) (.str (Str.ofString "abcdefghijklmnopqrstuvwxyzABCDEFGHIJKLMNOPQRSTUVWXYZ0123456789.") t)) Q E s := by
  refine P.in_str ?_
  rw [StrLaws.found_one, lits_are]
  exact h
end

-- N2
section
/-- what a call of _law_counts gives back -/
def CountsOk (prog : Program) (w : World) (K : Frag) (p : Program) (loose : List Str) (mean : ExcName → Option Value) (mg mb : Str → Option Value) : Prop :=
  ∀ (cbNews : CbLed) (n : Nat) (t : CbTok), CbClaim prog w K p loose mean mg mb 35 cbNews [] True [.str ⟨#[n]⟩ t] (fun _ => .bool (lcnt n))
section
end
end

-- N3
section
/-- the number of the sign that _law_sign makes of an int -/
def lsc (k : Int) : Nat :=
  if k.fmod 4 = 0 then (Txt.charAt (Str.ofString "azAZ09.Mm5") ((k.fdiv 4).fmod 10)).getD 0
  else if k.fmod 4 = 1 then (Txt.charAt (Str.ofString "-_ /:#+\t@~") ((k.fdiv 4).fmod 10)).getD 0
  else if k.fmod 4 = 2 then (Txt.charAt (Str.ofString "éßЖ中½²«—€\u00a0\u0301×") ((k.fdiv 4).fmod 12)).getD 0
  else ((k.fdiv 4).fmod 128).toNat
theorem lsc_0 {k : Int} (h : k.fmod 4 = 0) : (⟨#[lsc k]⟩ : Str) = Txt.item (Str.ofString "azAZ09.Mm5") ((k.fdiv 4).fmod 10) := by
  unfold lsc; rw [if_pos h]; rfl
theorem lsc_1 {k : Int} (h : k.fmod 4 = 1) : (⟨#[lsc k]⟩ : Str) = Txt.item (Str.ofString "-_ /:#+\t@~") ((k.fdiv 4).fmod 10) := by
  unfold lsc; rw [if_neg (by omega), if_pos h]; rfl
theorem lsc_2 {k : Int} (h : k.fmod 4 = 2) : (⟨#[lsc k]⟩ : Str) = Txt.item (Str.ofString "éßЖ中½²«—€\u00a0\u0301×") ((k.fdiv 4).fmod 12) := by
  unfold lsc; rw [if_neg (by omega), if_neg (by omega), if_pos h]; rfl
theorem lsc_3 {k : Int} (h0 : k.fmod 4 ≠ 0) (h1 : k.fmod 4 ≠ 1) (h2 : k.fmod 4 ≠ 2) : (⟨#[lsc k]⟩ : Str) = ⟨#[((k.fdiv 4).fmod 128).toNat]⟩ := by
  unfold lsc; rw [if_neg h0, if_neg h1, if_neg h2]
/-- what a call of _law_sign gives back -/
def SignOk (prog : Program) (w : World) (K : Frag) (p : Program) (loose : List Str) (mean : ExcName → Option Value) (mg mb : Str → Option Value) : Prop :=
  ∀ (cbNews : CbLed) (k : Int) (t : CbTok), CbClaim prog w K p loose mean mg mb 28 cbNews [] True [.int k t] (fun t => .str ⟨#[lsc k]⟩ t)

end

-- Comps
section
open PySem.Spec PySem.Calls
open PyProof.Rows.LCg PyProof.Rows.LCt
/-- what the test of a comprehension's turn leaves -/
structure CtTurn (h₀ : Heap) (L : Addr) (m : Str → Option Value) (s : Shared) (all : List (Addr × Obj)) (keep : Bool) (ok : Bool) (s' : Shared) : Prop where
  e : ok = keep
  x : ∃ h' tk', s' = { s with heap := h', toks := tk' } ∧ Fr h₀ L h' m ∧ News h₀ L h' all
section
variable {prog : Program} {w : World} {A : Around} {E : Value → Shared → Prop} {h₀ : Heap} {L : Addr} {m : Str → Option Value} {env : Env} {ct : Expr} {x : Str} {px : Pos} {scope : Scope} {cl : List (Str × Addr)} {s : Shared} {S : List (Addr × Obj) → Prop} {P : Nat → Value → Prop} {Fin : List Value → List (Addr × Obj) → Prop} {news : List (Addr × Obj)}
theorem ct_rest {n : Nat} {its : List Str} (keep : Str → Bool) (hlen : its.length = n) (hP : ∀ i v, P i v → ∃ y t, its[i]? = some y ∧ v = .str y t) (hS : S news)
    (hk : (compEnvC scope cl L env).scope.kind = .function) (hl : ∀ C, (compEnvC scope cl C env).kindOf x = some .local) (hd : (x == ("__debug__" : Str)) = false)
    (turn : ∀ y t I oI C oC D m₂ ys h tk (E' : Value → Shared → Prop), y ∈ its → NsObj oC m₂ → m₂ x = some (.str y t) → Fr h₀ L h m → News h₀ L h ((I, oI) :: (C, oC) :: (D, lst ys) :: news) → Off3 I C D news → ((@Ne Nat I C) ∧ (@Ne Nat I D) ∧ (@Ne Nat C D)) →
      wpAny (model prog w) A (isTrue ct (compEnvC scope cl C env) (eval ct (compEnvC scope cl C env))) (CtTurn h₀ L m { s with heap := h, toks := tk } ((I, oI) :: (C, oC) :: (D, lst ys) :: news) (keep y)) E' { s with heap := h, toks := tk })
    (fin : ∀ ys, StrsAre ys (its.filter keep) → Fin ys news) : CompRestT prog w A h₀ L m env ct (.Name x px) x scope cl s S P Fin n 0 [] news := by
  have key : ∀ (j i : Nat) (ys : List Value), i + j = n → StrsAre ys ((its.take i).filter keep) → CompRestT prog w A h₀ L m env ct (.Name x px) x scope cl s S P Fin j i ys news := by
    intro j
    induction j with
    | zero =>
      intro i ys hi hy
      rw [List.take_of_length_le (by omega)] at hy
      exact CompRestT.zero (fin ys hy)
    | succ j ih =>
      intro i ys hi hy
      refine CompRestT.succ ?_
      intro v I oI C oC D m₂ h tk E' hv hC hx F N off ne
      obtain ⟨y, t, hy', hv'⟩ := hP i v hv
      rw [hv'] at hx
      have ht : its.take (i + 1) = its.take i ++ [y] := by rw [List.take_add_one, hy']; rfl
      refine wpAny_mono (turn y t I oI C oC D m₂ ys h tk E' (List.mem_of_getElem? hy') hC hx F N off ne) (fun ok s₂ hq => ?_) fun _ _ e => e
      obtain ⟨rfl, h', tk', rfl, F', N'⟩ := hq
      split
      · rename_i hkeep
        refine LCgL.ld_own N' (List.mem_cons_of_mem _ List.mem_cons_self) hC hx ?_ hk (hl C) hd
        refine CompEnd.intro F' N' news (fun p hp => hp) off hS ?_
        refine ih (i + 1) _ (by omega) ?_
        rw [ht, List.filter_append, List.filter_cons_of_pos hkeep, List.filter_nil]
        exact KStt.strs_snoc hy
      · rename_i hkeep
        refine CompEnd.intro F' N' news (fun p hp => hp) off hS ?_
        refine ih (i + 1) _ (by omega) ?_
        rw [ht, List.filter_append, List.filter_cons_of_neg (by simpa using hkeep), List.filter_nil, List.append_nil]
        exact hy
  exact key n 0 [] (by omega) (by simp only [List.take_zero, List.filter_nil]; exact .nil)

theorem ListComp_S {iter : Expr} {pos : Pos} {Q : Value → Shared → Prop} (uF₀ : Fr h₀ L s.heap m)
    (hclos : closureFor scope env = pure cl) (hcell : ∀ y ∈ scope.names, y.2 ≠ .cell) (hkind : scope.kind = .function)
    (hnames : ∀ y ∈ scope.names, y.2 = .local → scope.names.lookup y.1 = some .local) (hx : scope.names.lookup x = some .local) {elt : Expr}
    (h : wpAny (model prog w) A (eval iter env) (fun xv s₁ => ∃ xt tx news, xv = .str xt tx ∧ A.handled = none ∧ Fr h₀ L s₁.heap m ∧ News h₀ L s₁.heap news ∧ xt.cps.size ≤ sizeLine ∧
      ∀ g : Heap, CompRestT prog w A h₀ L m env ct elt x scope cl { s₁ with heap := g } (fun _ => True) (SignAt xt) (FinE h₀ L m { s₁ with heap := g } Q) xt.cps.size 0 [] news) E s)
    (hs : ∀ x, foldedSetIterable iter env x = pure x := by intro _; rfl) :
    wpAny (model prog w) A (eval (.ListComp elt [⟨.Name x px, iter, [ct], 0⟩] scope pos) env) Q E s := by
  rw [eval_ListComp]
  refine wpAny_comprehension_free (use := none) rfl hs hclos hkind hnames (wpAny_mono h (fun xv s₁ h₁ => ?_) fun _ _ e => e)
  obtain ⟨xt, tx, news, rfl, hh, F, N, hsz, R⟩ := h₁
  have fin : ∀ s₂ : Shared, ∀ D C h tk m' ys news', Fr h₀ L h m → News h₀ L h ((D, lst ys) :: news') → Off1 D news' → h.Ns C m' → h₀.get? C = none → h₀.get? D = none → C ≠ L → D ≠ L → C ≠ D → (∀ p ∈ news', p.1 ≠ C) → FinE h₀ L m s₂ Q ys news' →
      ∃ m', h.Ns C m' ∧ ∀ h'', Heap.SameBut C h h'' → Q (.ref D) { s₂ with heap := h'', toks := tk } := by
    intro s₂ D C h tk m' ys news' F' N' o1 hn hC₀ hD₀ hCL hDL hCD offC fin
    refine ⟨m', hn, fun h'' hs'' => fin D h'' tk (F'.change hs'' hCL hC₀) (fun p hp => ?_) o1⟩
    refine ⟨hs''.extBut _ _ ?_ (N' p hp).1, (N' p hp).2⟩
    rcases List.mem_cons.mp hp with rfl | hp
    · exact Ne.symm hCD
    · exact offC p hp
  cases ha : xt.cps.all (· < 128)
  · refine wpAny_pyIter_wide ha ?_
    have up : ∀ b o, s₁.heap.get? b = some o → (s₁.heap.push { cls := .type "str_iterator", data := .fields #[.str xt tx, .int 0 0] }).get? b = some o := fun b o e => Heap.get?_push_of_some _ e
    refine block_T (S := fun _ => True) (Walks.strWide hh s₁.heap.objs.size xt tx) hsz (fun i h st => by obtain ⟨o, e, _⟩ := st; exact ⟨o, e⟩) (fun i h h' o nw st e e' _ _ _ => by obtain ⟨o', q, r⟩ := st; rw [e] at q; cases q; exact ⟨o, e', r⟩) hcell hkind hx ⟨_, Heap.get?_push_size _ rfl, rfl, rfl⟩ (fun b hb => ?_)
      (F.keeps up) (N.grown up) (Nat.ne_of_lt F.ns.lt) (next_is_new F) (fun p hp => Nat.ne_of_lt (Heap.lt_size (N p hp).1)) trivial (R _) ?_
    · rw [List.mem_singleton.mp hb]
      show s₁.heap.objs.size < (s₁.heap.push _).objs.size
      rw [Heap.size_push]; exact Nat.lt_succ_self _
    · exact fin _
  · refine wpAny_pyIter_ascii ha ?_
    have up : ∀ b o, s₁.heap.get? b = some o → (s₁.heap.push { cls := .type "str_ascii_iterator", data := .fields #[.str xt tx, .int 0 0] }).get? b = some o := fun b o e => Heap.get?_push_of_some _ e
    refine block_T (S := fun _ => True) (Walks.strAscii hh s₁.heap.objs.size xt tx) hsz (fun i h st => by obtain ⟨o, e, _⟩ := st; exact ⟨o, e⟩) (fun i h h' o nw st e e' _ _ _ => by obtain ⟨o', q, r⟩ := st; rw [e] at q; cases q; exact ⟨o, e', r⟩) hcell hkind hx ⟨_, Heap.get?_push_size _ rfl, rfl, rfl⟩ (fun b hb => ?_)
      (F.keeps up) (N.grown up) (Nat.ne_of_lt F.ns.lt) (next_is_new F) (fun p hp => Nat.ne_of_lt (Heap.lt_size (N p hp).1)) trivial (R _) ?_
    · rw [List.mem_singleton.mp hb]
      show s₁.heap.objs.size < (s₁.heap.push _).objs.size
      rw [Heap.size_push]; exact Nat.lt_succ_self _
    · exact fin _
end
end

-- Use
section
theorem nst_len : ∀ l : List Nat, (nst l).1.length ≤ 2 * l.length := by
  have key : ∀ (l : List Nat) (st : List Nat × Bool), (l.foldl nstep st).1.length ≤ st.1.length + 2 * l.length := by
    intro l
    induction l with
    | nil => intro st; exact Nat.le_refl _
    | cons c r ih =>
      intro st
      rw [List.foldl_cons]
      refine Nat.le_trans (ih _) ?_
      have : (nstep st c).1.length ≤ st.1.length + 2 := by
        unfold nstep
        split
        · split <;> split <;> simp <;> omega
        · simp
      simp only [List.length_cons]
      omega
  intro l
  have := key l ([], false)
  simp only [List.length_nil, Nat.zero_add] at this
  exact this
theorem norm_len (x : Str) : (norm x).length ≤ 2 * x.length := by
  have := nst_len x.cps.toList
  show (nrm x.cps.toList).toArray.size ≤ 2 * x.cps.size
  rw [List.size_toArray]
  simpa [nrm] using this
section
variable {prog : Program} {w : World} {K : Frag} {p : Program} {loose : List Str} {mean : ExcName → Option Value} {mg mb : Str → Option Value}
  {dp un : Nat} {gd : Option (List Code)} {cn : Str} {cs : Scope} {a : Addr} {ccd : Value} {cl : List (Str × Addr)} {outer : List Env} {A₀ : Around} {base h₀ : Heap} {L : Addr} {m : Str → Option Value} {s : Shared} {Q E : Value → Shared → Prop} {news : List (Addr × Obj)}
theorem NormOk.use (hN : NormOk prog w K p loose mean mg mb) {x : Str} {t : Tok} (hB : Below A₀ base outer h₀) (F : Fr h₀ L s.heap m) (X : K.In h₀) (N : News h₀ L s.heap news) (T : Top p loose mean mg mb h₀) (hk : cs.kind = .function)
    (hx : x.length ≤ 1000) (hd : dp + 1 < recursionLimit) (hu : un + 8 < cLine) (h : ∀ (t : Tok) (h' : Heap) (tk' : Nat), (norm x).length ≤ 2 * x.length → Fr h₀ L h' m → News h₀ L h' news → Q (.str (norm x) t) { s with heap := h', toks := tk' }) :
    wpAny (model prog w) (ktrTop dp un gd cn cs L a ccd cl outer) (PySem.call (.ref 21) [.str x t]) Q E s :=
  hN news x t dp un gd cn cs a ccd cl outer A₀ base h₀ L m s Q E hB F X N T hk hx hd hu fun t h' tk' => h t h' tk' (norm_len x)
theorem CountsOk.use (hN : CountsOk prog w K p loose mean mg mb) {n : Nat} {t : Tok} (hB : Below A₀ base outer h₀) (F : Fr h₀ L s.heap m) (X : K.In h₀) (N : News h₀ L s.heap news) (T : Top p loose mean mg mb h₀) (hk : cs.kind = .function)
    (hd : dp + 1 < recursionLimit) (hu : un + 8 < cLine) (h : ∀ (h' : Heap) (tk' : Nat), Fr h₀ L h' m → News h₀ L h' news → Q (.bool (lcnt n)) { s with heap := h', toks := tk' }) :
    wpAny (model prog w) (ktrTop dp un gd cn cs L a ccd cl outer) (PySem.call (.ref 35) [.str ⟨#[n]⟩ t]) Q E s :=
  hN news n t dp un gd cn cs a ccd cl outer A₀ base h₀ L m s Q E hB F X N T hk trivial hd hu fun _ h' tk' F N => h h' tk' F N
theorem SignOk.use (hN : SignOk prog w K p loose mean mg mb) {k : Int} {t : Tok} (hB : Below A₀ base outer h₀) (F : Fr h₀ L s.heap m) (X : K.In h₀) (N : News h₀ L s.heap news) (T : Top p loose mean mg mb h₀) (hk : cs.kind = .function)
    (hd : dp + 1 < recursionLimit) (hu : un + 8 < cLine) (h : ∀ (t : Tok) (h' : Heap) (tk' : Nat), Fr h₀ L h' m → News h₀ L h' news → Q (.str ⟨#[lsc k]⟩ t) { s with heap := h', toks := tk' }) :
    wpAny (model prog w) (ktrTop dp un gd cn cs L a ccd cl outer) (PySem.call (.ref 28) [.int k t]) Q E s :=
  hN news k t dp un gd cn cs a ccd cl outer A₀ base h₀ L m s Q E hB F X N T hk trivial hd hu h
end
/-- the text is made -/
structure TextAt (h₀ : Heap) (L : Addr) (m₀ : Str → Option Value) (s : Shared) (f : Flow) (s' : Shared) : Prop where
  e : f = .next
  x : ∃ (x : Str) (t : Tok) (news : List (Addr × Obj)) (h : Heap) (tk : Nat), x.length ≤ 12 ∧ s' = { s with heap := h, toks := tk } ∧
    Fr h₀ L h (fun y => if y = Str.ofString "text" then some (.str x t) else m₀ y) ∧ News h₀ L h news
theorem split_text {M : Model} {A : Around} {S : Stmt} {rest : List Stmt} {env : Env} {Q : Flow → Shared → Prop} {E : Value → Shared → Prop} {s : Shared} {h₀ : Heap} {L : Addr} {m₀ : Str → Option Value} (uF₀ : Fr h₀ L s.heap m₀)
    (h1 : wpAny M A (exec S env) (TextAt h₀ L m₀ s) E s)
    (h2 : ∀ (x : Str) (t : Tok) (news : List (Addr × Obj)) (h : Heap) (tk : Nat), x.length ≤ 12 → Fr h₀ L h (fun y => if y = Str.ofString "text" then some (.str x t) else m₀ y) → News h₀ L h news →
      wpAny M A (execs rest env) Q E { s with heap := h, toks := tk }) : wpAny M A (execs (S :: rest) env) Q E s := by
  show wpAny M A (do match ← exec S env with | .next => execs rest env | flow => pure flow) Q E s
  refine wpAny_bind (wpAny_mono h1 (fun f s' hq => ?_) fun _ _ e => e)
  obtain ⟨rfl, x, t, news, h, tk, hx, rfl, F, N⟩ := hq
  exact h2 x t news h tk hx F N
end

-- Rules
section
open PyProof.Rows.LCg PyProof.Rows.LCt
def und : Str := Str.ofString "_"
/-- the name's parts that are not empty, joined -/
def parts (y : Str) : Str := Txt.join (Str.ofString "_") (List.filter (fun a => a != Str.ofString "") (Txt.split y (Str.ofString "_")))
theorem cnt_le (c : Nat) : ∀ l : List Nat, PyProof.Rows.cnt c l ≤ l.length := by
  intro l
  induction l with
  | nil => rw [cnt_nil]; exact Int.le_refl _
  | cons a r ih => rw [cnt_cons, List.length_cons]; split <;> omega
theorem split_few (y : Str) : (Txt.split y (Str.ofString "_")).length ≤ y.length + 1 := by
  have h := split_len y 95
  have h2 := cnt_le 95 y.cps.toList
  rw [show (Str.ofString "_") = ⟨#[95]⟩ by decide +kernel]
  have h3 : y.cps.toList.length = y.length := rfl
  omega
section
variable {prog : Program} {w : World} {A : Around} {E : Value → Shared → Prop} {s : Shared} {t u : Tok} {Q : Value → Shared → Prop} {D : Addr}
theorem st_join_split {y : Str} {l : List (Str × Tok)} {ys : List Value} (hc : CarriedAll ys (List.map PyData.str (List.filter (fun a => a != Str.ofString "") (List.map (fun x => x.fst) l)))) (he : List.map (fun x => x.fst) l = Txt.split y (Str.ofString "_"))
    (hb : ∀ a : Str, a ∈ List.map (fun x => x.fst) l → a.length ≤ y.length) (hl : s.heap.IsList D ys.toArray) (hy : y.length ≤ 1000)
    (h : ∀ t' k, Q (.str (parts y) t') { s with toks := k }) : wpAny (model prog w) A (PySem.call (.builtin "str.join") [.str (Str.ofString "_") t, .ref D]) Q E s := by
  have hw := StrsAre.of_carried hc
  refine st_join hl hw (fun a ha => ?_) ?_ under_len ?_
  · exact Nat.le_trans (hb a (List.mem_filter.mp ha).1) hy
  · refine Nat.le_trans (List.length_filter_le _ _) ?_
    rw [he]
    have := split_few y
    omega
  · rw [he]; exact h
theorem st_ne {x y : Str} (e : x = y) (h : Q (.bool false) s) : wpAny (model prog w) A (compareOp .NotEq (.str x t) (.str y u)) Q E s := by
  subst e
  refine ne_str ?_
  simpa using h
theorem st_sne {n : Nat} (h : Q (.bool (n != 95)) s) : wpAny (model prog w) A (compareOp .NotEq (.str ⟨#[n]⟩ t) (.str (Str.ofString "_") u)) Q E s := by
  refine P.ne_str ?_
  rw [show Str.ofString "_" = ⟨#[95]⟩ by decide +kernel]
  have e : ((⟨#[n]⟩ : Str).cps.toList != (⟨#[95]⟩ : Str).cps.toList) = (n != 95) := by
    rw [Bool.eq_iff_iff]; simp
  rw [e]; exact h
theorem st_join_signs {ys : List Value} {l : List Nat} (hw : StrsAre ys (l.map sg)) (hl : s.heap.IsList D ys.toArray) (hn : l.length ≤ 10000)
    (h : ∀ t' k, Q (.str ⟨l.toArray⟩ t') { s with toks := k }) : wpAny (model prog w) A (PySem.call (.builtin "str.join") [.str (Str.ofString "") t, .ref D]) Q E s := by
  refine st_join hl hw (fun a ha => ?_) (by rw [List.length_map]; exact hn) empty_len ?_
  · obtain ⟨b, _, rfl⟩ := List.mem_map.mp ha
    show 1 ≤ 1000
    decide
  · rw [join_sg]; exact h
theorem filt_le {y : Str} {keep : Nat → Bool} (h : y.length ≤ 10000) : (y.cps.toList.filter keep).length ≤ 10000 :=
  Nat.le_trans (List.length_filter_le _ _) h
theorem size_ok {y : Str} (h : y.length ≤ 1000) : y.cps.size ≤ sizeLine := by
  have h' : y.cps.size ≤ 1000 := h
  rw [PySem.sizeLine_eq]; omega
end
section
variable {prog : Program} {w : World} {A : Around} {E : Value → Shared → Prop} {h₀ : Heap} {L : Addr} {m : Str → Option Value} {env : Env} {ct : Expr} {x : Str} {px : Pos} {scope : Scope} {cl : List (Str × Addr)} {s : Shared} {Fin : List Value → List (Addr × Obj) → Prop} {news : List (Addr × Obj)}
/-- a comprehension's turns over a text's signs, with a test of the sign -/
theorem ct_str {y : Str} (keep : Nat → Bool)
    (hk : (compEnvC scope cl L env).scope.kind = .function) (hl : ∀ C, (compEnvC scope cl C env).kindOf x = some .local) (hd : (x == ("__debug__" : Str)) = false)
    (turn : ∀ c t I oI C oC D m₂ ys h tk (E' : Value → Shared → Prop), NsObj oC m₂ → m₂ x = some (.str ⟨#[c]⟩ t) → Fr h₀ L h m → News h₀ L h ((I, oI) :: (C, oC) :: (D, lst ys) :: news) → Off3 I C D news → ((@Ne Nat I C) ∧ (@Ne Nat I D) ∧ (@Ne Nat C D)) →
      wpAny (model prog w) A (isTrue ct (compEnvC scope cl C env) (eval ct (compEnvC scope cl C env))) (CtTurn h₀ L m { s with heap := h, toks := tk } ((I, oI) :: (C, oC) :: (D, lst ys) :: news) (keep c)) E' { s with heap := h, toks := tk })
    (fin : ∀ ys, StrsAre ys ((y.cps.toList.filter keep).map sg) → Fin ys news) : CompRestT prog w A h₀ L m env ct (.Name x px) x scope cl s (fun _ => True) (SignAt y) Fin y.cps.size 0 [] news := by
  refine ct_rest (its := y.cps.toList.map sg) (fun z => keep (z.cps.getD 0 0)) (by simp) (fun i v hv => ?_) trivial hk hl hd (fun z t I oI C oC D m₂ ys h tk E' hz hC hx F N off ne => ?_) (fun ys hys => fin ys ?_)
  · obtain ⟨n, u, hn, rfl⟩ := hv
    exact ⟨_, u, by simp [hn]; rfl, rfl⟩
  · obtain ⟨c, _, rfl⟩ := List.mem_map.mp hz
    exact turn c t I oI C oC D m₂ ys h tk E' hC hx F N off ne
  · rw [List.filter_map] at hys
    exact hys
end
end

-- Slices
section
open PySem.Builtin PySem.Builtin.Str
/-- backwards; the first k signs; what is behind them -/
def rv (x : Str) : Str := ⟨x.cps.toList.reverse.toArray⟩
def tk (x : Str) (k : Int) : Str := ⟨(x.cps.toList.take k.toNat).toArray⟩
def dr (x : Str) (k : Int) : Str := ⟨(x.cps.toList.drop k.toNat).toArray⟩
theorem rv_len (x : Str) : (rv x).length = x.length := by
  show x.cps.toList.reverse.toArray.size = x.cps.size
  simp
theorem tk_len (x : Str) (k : Int) : (tk x k).length ≤ x.length := by
  show (x.cps.toList.take k.toNat).toArray.size ≤ x.cps.size
  rw [List.size_toArray]
  refine Nat.le_trans (List.length_take_le' _ _) (Nat.le_of_eq ?_)
  simp
theorem dr_len (x : Str) (k : Int) : (dr x k).length ≤ x.length := by
  show (x.cps.toList.drop k.toNat).toArray.size ≤ x.cps.size
  rw [List.size_toArray, List.length_drop]
  simp
theorem rv_is (x : Str) (u : Tok) : Txt.sliceBy x none none (-1, u) = rv x := by
  refine Str.ext' (Array.toList_inj.mp ?_)
  rw [step_rev_list]
  show _ = x.cps.toList.reverse
  refine List.ext_getElem (by simp [PySem.Str.length]) fun i h1 h2 => ?_
  have h3 : i < x.cps.size := by simpa using h2
  rw [List.getElem_map, List.getElem_range, List.getElem_reverse]
  have h4 : x.cps.size - 1 - i < x.cps.size := by omega
  show x.cps.getD (x.cps.size - 1 - i) 0 = _
  rw [Array.getD_eq_getD_getElem?, Array.getElem?_eq_getElem h4]
  simp
theorem tk_is {x : Str} {k : Int} (h0 : 0 ≤ k) : Txt.slice x none (some k) = tk x k := by
  by_cases h : k ≤ x.cps.toList.length
  · have e := eq_of_beq (slice_closes_to (x := x) ⟨h0, h⟩)
    rw [e]
    simp [tk]
  · have e : Txt.slice x none (some k) = Txt.slice x none (some (x.length : Int)) := by
      have e1 : strSliceIndices none (some k) 1 x.length = strSliceIndices none (some (x.length : Int)) 1 x.length := by
        have hk : (x.length : Int) < k := by simpa [PySem.Str.length] using h
        unfold strSliceIndices
        simp only [show (1 : Int) > 0 by decide, if_true]
        rw [if_neg (by omega), if_neg (by omega), Int.min_eq_right (by omega), Int.min_eq_right (by omega)]
      unfold Txt.slice
      rw [e1]
    have e2 := eq_of_beq (slice_closes_to (x := x) (j := (x.length : Int)) ⟨by omega, by simp [PySem.Str.length]⟩)
    rw [e, e2]
    have hk : x.cps.toList.length ≤ k.toNat := by omega
    simp only [tk]
    rw [List.take_of_length_le hk, List.take_of_length_le]
    · rfl
    · simp [PySem.Str.length]
theorem dr_is {x : Str} {k : Int} (h0 : 0 ≤ k) : Txt.slice x (some k) none = dr x k := by
  by_cases h : k ≤ x.length
  · rw [slice_from_eq (b := x.length) h0 h rfl]
    simp only [dr]
    rw [List.take_of_length_le]
    rw [List.length_drop]
    simp [PySem.Str.length] at h ⊢
    omega
  · rw [slice_beyond (by omega)]
    simp only [dr]
    rw [List.drop_of_length_le]
    · rfl
    · simp [PySem.Str.length] at h ⊢; omega
section
variable {prog : Program} {w : World} {A : Around} {E : Value → Shared → Prop} {s : Shared} {x : Str} {t : Tok} {Q : Value → Shared → Prop} {h₀ : Heap} {L : Addr} {m : Str → Option Value} {news : List (Addr × Obj)} {value slice : Expr}
theorem st_rv {uk : Tok} (hF : Fr h₀ L s.heap m) (hN : News h₀ L s.heap news) (hx : x.length ≤ 1000) (h : ∀ h' t' c, (rv x).length = x.length → Fr h₀ L h' m → News h₀ L h' news → Q (.str (rv x) t') { s with heap := h', toks := c })
    (hs : subscripted slice false (.str x t) (.ref s.heap.objs.size) = operate [.ref s.heap.objs.size, .str x t] (getItem (.str x t) (.ref s.heap.objs.size)))
    (ht : ∀ r, letTemporaryGo value (.str x t) r = pure ()) :
    wpAny (model prog w) A (subscriptTail value slice (.str x t) (.ref s.heap.objs.size)) Q E { s with heap := s.heap.push { cls := .type "slice", data := .fields #[.none, .none, .int (-1) uk] } } :=
  slice_strK_nn hF hN (by decide) (fun h' t' c F N => by rw [rv_is]; exact h h' t' c (rv_len x) F N) hs ht (size_ok hx)
theorem st_tk {k : Int} {uk : Tok} (hF : Fr h₀ L s.heap m) (hN : News h₀ L s.heap news) (hk : 0 ≤ k) (hx : x.length ≤ 1000) (h : ∀ h' t' c, (tk x k).length ≤ x.length → Fr h₀ L h' m → News h₀ L h' news → Q (.str (tk x k) t') { s with heap := h', toks := c })
    (hs : subscripted slice false (.str x t) (.ref s.heap.objs.size) = operate [.ref s.heap.objs.size, .str x t] (getItem (.str x t) (.ref s.heap.objs.size)))
    (ht : ∀ r, letTemporaryGo value (.str x t) r = pure ()) :
    wpAny (model prog w) A (subscriptTail value slice (.str x t) (.ref s.heap.objs.size)) Q E { s with heap := s.heap.push { cls := .type "slice", data := .fields #[.none, .int k uk, .none] } } :=
  slice_strN_ns hF hN (fun h' t' c F N => by rw [tk_is hk]; exact h h' t' c (tk_len x k) F N) hs ht (size_ok hx)
theorem st_dr {k : Int} {uk : Tok} (hF : Fr h₀ L s.heap m) (hN : News h₀ L s.heap news) (hk : 0 ≤ k) (hx : x.length ≤ 1000) (h : ∀ h' t' c, (dr x k).length ≤ x.length → Fr h₀ L h' m → News h₀ L h' news → Q (.str (dr x k) t') { s with heap := h', toks := c })
    (hs : subscripted slice false (.str x t) (.ref s.heap.objs.size) = operate [.ref s.heap.objs.size, .str x t] (getItem (.str x t) (.ref s.heap.objs.size)))
    (ht : ∀ r, letTemporaryGo value (.str x t) r = pure ()) :
    wpAny (model prog w) A (subscriptTail value slice (.str x t) (.ref s.heap.objs.size)) Q E { s with heap := s.heap.push { cls := .type "slice", data := .fields #[.int k uk, .none, .none] } } :=
  slice_strN_sn hF hN (fun h' t' c F N => by rw [dr_is hk]; exact h h' t' c (dr_len x k) F N) hs ht (size_ok hx)
end
end

-- Rules2
section
open PySem.Builtin PySem.Builtin.Str
/-- the sign at a place -/
structure At (x : Str) (k : Int) (c : Nat) : Prop where
  e : x.cps.toList[k.toNat]? = some c
theorem one_len (c : Nat) : (⟨#[c]⟩ : Str).length = 1 := rfl
theorem item_is {x : Str} {k : Int} (h0 : 0 ≤ k) (h1 : k < x.length) : ∃ c, At x k c ∧ Txt.item x k = ⟨#[c]⟩ := by
  have h2 : k.toNat < x.cps.size := by have : (x.length : Int) = (x.cps.size : Int) := rfl; omega
  refine ⟨x.cps[k.toNat], ⟨by simp [h2]⟩, ?_⟩
  show (⟨#[(Txt.charAt x k).getD 0]⟩ : Str) = _
  have e : Txt.charAt x k = some x.cps[k.toNat] := by
    unfold Txt.charAt seqIndex?
    simp only [if_neg (show ¬ k < 0 by omega)]
    have h3 : (decide (0 ≤ k) && decide (k < (x.length : Int))) = true := by simp [h0, h1]
    rw [if_pos h3]
    simp [h2]
  rw [e]; rfl
section
variable {prog : Program} {w : World} {A : Around} {E : Value → Shared → Prop} {s : Shared} {x y : Str} {t u : Tok} {Q : Value → Shared → Prop} {value slice : Expr}
theorem st_item {k : Int} (h0 : 0 ≤ k) (h1 : k < x.length) (hx : x.length ≤ 1000) (h : ∀ c, At x k c → (⟨#[c]⟩ : Str).length = 1 → Q (.str ⟨#[c]⟩ s.toks) { s with toks := s.toks + 1 })
    (hs : subscripted slice false (.str x t) (.int k u) = operate [.str x t, .int k u] (getItem (.str x t) (.int k u)))
    (ht : ∀ r, letTemporaryGo value (.str x t) r = pure ()) : wpAny (model prog w) A (subscriptTail value slice (.str x t) (.int k u)) Q E s := by
  obtain ⟨c, hc, e⟩ := item_is h0 h1
  refine item_str (fitsSsize_of (N := 9223372036854775808) (by omega) (by omega) (Int.le_refl _)) (by omega) h1 (fun _ => ?_) hs ht
  rw [e]
  exact h c hc (one_len c)
theorem st_eq (e : x = y) (h : Q (.bool true) s) : wpAny (model prog w) A (compareOp .Eq (.str x t) (.str y u)) Q E s := by
  subst e
  refine P.eq_str ?_
  rw [show (x.cps.toList == x.cps.toList) = true from beq_self_eq_true _]
  exact h
theorem st_ne_cases (h1 : x = y → Q (.bool false) s) (h2 : x ≠ y → Q (.bool true) s) : wpAny (model prog w) A (compareOp .NotEq (.str x t) (.str y u)) Q E s := by
  refine ne_str ?_
  by_cases e : x = y
  · rw [show (x != y) = false by simp [e]]; exact h1 e
  · rw [show (x != y) = true from bne_iff_ne.mpr e]; exact h2 e
end
section
variable {prog : Program} {w : World} {K : Frag} {p : Program} {loose : List Str} {mean : ExcName → Option Value} {mg mb : Str → Option Value}
  {dp un : Nat} {gd : Option (List Code)} {cn : Str} {cs : Scope} {a : Addr} {ccd : Value} {cl : List (Str × Addr)} {outer : List Env} {A₀ : Around} {base h₀ : Heap} {L : Addr} {m : Str → Option Value} {s : Shared} {Q E : Value → Shared → Prop} {news : List (Addr × Obj)}
theorem NormOk.useE {x y : Str} (e : norm x = y) (hN : NormOk prog w K p loose mean mg mb) {t : Tok} (hB : Below A₀ base outer h₀) (F : Fr h₀ L s.heap m) (X : K.In h₀) (N : News h₀ L s.heap news) (T : Top p loose mean mg mb h₀) (hk : cs.kind = .function)
    (hx : x.length ≤ 1000) (hd : dp + 1 < recursionLimit) (hu : un + 8 < cLine) (h : ∀ (t : Tok) (h' : Heap) (tk' : Nat), Fr h₀ L h' m → News h₀ L h' news → Q (.str y t) { s with heap := h', toks := tk' }) :
    wpAny (model prog w) (ktrTop dp un gd cn cs L a ccd cl outer) (PySem.call (.ref 21) [.str x t]) Q E s := by
  subst e
  exact hN.use hB F X N T hk hx hd hu fun t h' tk' _ => h t h' tk'
theorem CountsOk.useE {n : Nat} {b : Bool} (e : lcnt n = b) (hN : CountsOk prog w K p loose mean mg mb) {t : Tok} (hB : Below A₀ base outer h₀) (F : Fr h₀ L s.heap m) (X : K.In h₀) (N : News h₀ L s.heap news) (T : Top p loose mean mg mb h₀) (hk : cs.kind = .function)
    (hd : dp + 1 < recursionLimit) (hu : un + 8 < cLine) (h : ∀ (h' : Heap) (tk' : Nat), Fr h₀ L h' m → News h₀ L h' news → Q (.bool b) { s with heap := h', toks := tk' }) :
    wpAny (model prog w) (ktrTop dp un gd cn cs L a ccd cl outer) (PySem.call (.ref 35) [.str ⟨#[n]⟩ t]) Q E s := by
  subst e
  exact hN.use hB F X N T hk hd hu h
end
section
variable {prog : Program} {w : World} {A : Around} {E : Value → Shared → Prop} {s : Shared} {Q : Value → Shared → Prop} {h₀ : Heap} {L : Addr} {news : List (Addr × Obj)}
theorem reads_pair {h : Heap} {D : Addr} {a b : Str} {t u : Tok} {k : Nat} {dd : Option Addr} {sl : Array (Option Value)} (e : h.get? D = some { cls := .type "tuple", dict := dd, data := .seq #[.str a t, .str b u] k, slots := sl }) :
    Reads h (.ref D) (.tuple [.str a, .str b]) [] :=
  .tuple e rfl rfl (ReadsAll.cons (as := []) (.str a t) (ReadsAll.cons (as := []) (.str b u) .nil))
theorem st_in2 {D l D1 D2 : Addr} {a b c d e f : Str} {t1 t2 t3 t4 t5 t6 : Tok} {k1 k2 k3 k4 : Nat} {d1 d2 d3 d4 : Option Addr} {l1 l2 l3 l4 : Array (Option Value)} (N : News h₀ L s.heap news)
    (m0 : (D, ({ cls := .type "tuple", dict := d1, data := .seq #[.str a t1, .str b t2] k1, slots := l1 } : Obj)) ∈ news)
    (ml : (l, ({ cls := .type "list", dict := d2, data := .seq #[.ref D1, .ref D2] k2, slots := l2 } : Obj)) ∈ news)
    (m1 : (D1, ({ cls := .type "tuple", dict := d3, data := .seq #[.str c t3, .str d t4] k3, slots := l3 } : Obj)) ∈ news)
    (m2 : (D2, ({ cls := .type "tuple", dict := d4, data := .seq #[.str e t5, .str f t6] k4, slots := l4 } : Obj)) ∈ news)
    (hu : A.units + 65 < cLine) (hok : ([a, b, c, d, e, f].all PyData.strOk) = true) (hit : (a = c ∧ b = d) ∨ (a = e ∧ b = f)) (h : Q (.bool true) s) : wpAny (model prog w) A (compareOp .In (.ref D) (.ref l)) Q E s := by
  have r0 := reads_pair (N.get m0)
  have r1 := reads_pair (N.get m1)
  have r2 := reads_pair (N.get m2)
  have rl : Reads s.heap (.ref l) (.list [.tuple [.str c, .str d], .tuple [.str e, .str f]]) [l] :=
    .list (N.get ml) rfl rfl (ReadsAll.cons (as := []) r1 (ReadsAll.cons (as := []) r2 .nil))
  simp only [List.all_cons, List.all_nil, Bool.and_true, Bool.and_eq_true] at hok
  obtain ⟨o1, o2, o3, o4, o5, o6⟩ := hok
  refine in_list_dataH rl r0 (by simp [SeqAt.shaped, PyData.canLay0, PyData.canLayAll0, PyData.depth, PyData.depthAll, o1, o2, o3, o4, o5, o6]) (by simp [SeqAt.shaped, PyData.canLay0, PyData.canLayAll0, PyData.depth, PyData.depthAll, o1, o2, o3, o4, o5, o6]) hu (fun y hy => ?_) ?_
  · rcases List.mem_cons.mp hy with rfl | hy
    · rfl
    · rw [List.mem_singleton.mp hy]; rfl
  · have e1 : decide (Spec.countIn (.tuple [.str a, .str b]) [.tuple [.str c, .str d], .tuple [.str e, .str f]] ≠ 0) = true := by
      refine decide_eq_true ?_
      have g : ∀ z w : PyData, (0 : Int) ≤ if Spec.same z w = true then (1 : Int) else 0 := fun z w => by split <;> omega
      have g1 := g (.tuple [.str c, .str d]) (.tuple [.str a, .str b])
      have g2 := g (.tuple [.str e, .str f]) (.tuple [.str a, .str b])
      simp only [Spec.countIn]
      rcases hit with ⟨rfl, rfl⟩ | ⟨rfl, rfl⟩
      · rw [if_pos (Spec.same_self _)]
        omega
      · rw [if_pos (Spec.same_self (.tuple [.str a, .str b]))]
        omega
    rw [e1]; exact h
end
end

-- Plain
section
/-- what a text adds behind a name: b says that the name is not empty, p that a sign that does not count stands last -/
def app : Bool → Bool → List Nat → List Nat
  | _, _, [] => []
  | b, p, c :: r => if cnts c then (if p && b then [95] else []) ++ (if c < 128 then c :: app true false r else app b false r) else app b true r
theorem c45 : cnts 45 = false := by decide +kernel
theorem c95 : cnts 95 = false := by decide +kernel
theorem c120 : cnts 120 = true := by decide +kernel
theorem c97 : cnts 97 = true := by decide +kernel
theorem c98 : cnts 98 = true := by decide +kernel
theorem app_nil (b p : Bool) : app b p [] = [] := rfl
theorem app_no {c : Nat} (h : cnts c = false) (b p : Bool) (r : List Nat) : app b p (c :: r) = app b true r := by
  rw [app, h]; rfl
theorem app_yes {c : Nat} (h : cnts c = true) (hc : c < 128) (b p : Bool) (r : List Nat) : app b p (c :: r) = (if p && b then [95] else []) ++ c :: app true false r := by
  rw [app, h, if_pos rfl, if_pos hc]
theorem app_wide {c : Nat} (h : cnts c = true) (hc : ¬ c < 128) (b p : Bool) (r : List Nat) : app b p (c :: r) = (if p && b then [95] else []) ++ app b false r := by
  rw [app, h, if_pos rfl, if_neg hc]
theorem fold_app : ∀ (l o : List Nat) (p : Bool), (l.foldl nstep (o, p)).1 = o ++ app (!o.isEmpty) p l := by
  intro l
  induction l with
  | nil => intro o p; simp [app]
  | cons c r ih =>
    intro o p
    rw [List.foldl_cons]
    cases h : cnts c with
    | false =>
      rw [show nstep (o, p) c = (o, true) by simp [nstep, h], ih, app_no h]
    | true =>
      rw [show nstep (o, p) c = ((if (p && !o.isEmpty) = true then o ++ [95] else o) ++ (if c < 128 then [c] else []), false) by simp [nstep, h], ih]
      by_cases hc : c < 128
      · rw [app_yes h hc]
        cases p <;> cases o <;> simp [hc]
      · rw [app_wide h hc]
        cases p <;> cases o <;> simp [hc]
theorem nrm_app (l : List Nat) : nrm l = app false false l := by
  have := fold_app l [] false
  simpa [nrm, nst] using this
theorem nrm_append (u v : List Nat) : nrm (u ++ v) = nrm u ++ app (!(nrm u).isEmpty) (nst u).2 v := by
  show ((u ++ v).foldl nstep ([], false)).1 = _
  rw [List.foldl_append]
  exact fold_app v (nst u).1 (nst u).2
theorem app_f (p q : Bool) (l : List Nat) : app false p l = app false q l := by
  cases l with
  | nil => rfl
  | cons c r => simp [app]
theorem nst_snoc (u : List Nat) (c : Nat) : nst (u ++ [c]) = nstep (nst u) c := by
  simp [nst, List.foldl_append]
theorem nst_snoc2 (u : List Nat) (c : Nat) : (nst (u ++ [c])).2 = !cnts c := by
  rw [nst_snoc]
  unfold nstep
  cases cnts c <;> rfl
theorem nrm_no {c : Nat} (h : cnts c = false) (u v : List Nat) : nrm (u ++ c :: v) = nrm u ++ app (!(nrm u).isEmpty) true v := by
  rw [nrm_append, app_no h]
/-- behind "x" -/
theorem nrm_x (v : List Nat) : nrm (120 :: v) = 120 :: app true false v := by
  rw [nrm_app, app_yes c120 (by decide)]; rfl
theorem cut_a {u v : List Nat} (h : nrm u ≠ []) : nrm (u ++ 45 :: v) = nrm u ++ (nrm (120 :: 45 :: v)).drop 1 := by
  rw [nrm_no c45, nrm_x, app_no c45]
  have : (nrm u).isEmpty = false := by cases e : nrm u <;> simp_all
  rw [this]; rfl
theorem cut_b {u v : List Nat} (h : nrm u = []) : nrm (u ++ 45 :: v) = nrm v := by
  rw [nrm_no c45, h, nrm_app v]
  exact app_f true false v
theorem cut_c {u v : List Nat} {c d : Nat} (hd : cnts d = true) (hd' : d < 128) : nrm (u ++ [d] ++ c :: v) = nrm (u ++ [d]) ++ (nrm (120 :: c :: v)).drop 1 := by
  rw [nrm_append, nst_snoc2, hd, nrm_x]
  have : (nrm (u ++ [d])).isEmpty = false := by
    rw [nrm_append, app_yes hd hd']
    simp
  rw [this]; rfl
theorem swap_no {u v : List Nat} {c : Nat} (h : cnts c = false) : nrm (u ++ 45 :: v) = nrm (u ++ c :: v) := by
  rw [nrm_no c45, nrm_no h]
/-- the signs of a name that are no underscores -/
theorem filt_app : ∀ (l : List Nat) (b p : Bool), (app b p l).filter (fun c => c != 95) = l.filter lcnt := by
  intro l
  induction l with
  | nil => intro b p; rfl
  | cons c r ih =>
    intro b p
    cases h : cnts c with
    | false =>
      rw [app_no h, ih, List.filter_cons_of_neg]
      rw [lcnt_is, h]; simp
    | true =>
      have h95 : (c != 95) = true := by
        refine bne_iff_ne.mpr fun e => ?_
        rw [e, c95] at h; cases h
      by_cases hc : c < 128
      · have hl : lcnt c = true := by rw [lcnt_is, h]; simp [hc]
        rw [app_yes h hc, List.filter_append, List.filter_cons_of_pos (p := fun c => c != 95) h95, ih, List.filter_cons_of_pos hl]
        cases p <;> cases b <;> rfl
      · have hl : ¬ lcnt c = true := by rw [lcnt_is, h]; simp [hc]
        rw [app_wide h hc, List.filter_append, ih, List.filter_cons_of_neg hl]
        cases p <;> cases b <;> rfl
theorem app_signs : ∀ (l : List Nat) (b p : Bool), ∀ c ∈ app b p l, c = 95 ∨ lcnt c = true := by
  intro l
  induction l with
  | nil => intro b p c hc; cases hc
  | cons a r ih =>
    intro b p c hc
    have pre : ∀ c, c ∈ (if (p && b) = true then [95] else ([] : List Nat)) → c = 95 := by
      intro c hc
      cases p <;> cases b <;> simp_all
    cases h : cnts a with
    | false => rw [app_no h] at hc; exact ih _ _ c hc
    | true =>
      by_cases ha : a < 128
      · rw [app_yes h ha] at hc
        rcases List.mem_append.mp hc with hc | hc
        · exact .inl (pre c hc)
        · rcases List.mem_cons.mp hc with rfl | hc
          · right; rw [lcnt_is, h]; simp [ha]
          · exact ih _ _ c hc
      · rw [app_wide h ha] at hc
        rcases List.mem_append.mp hc with hc | hc
        · exact .inl (pre c hc)
        · exact ih _ _ c hc
/-- parts, joined by underscores -/
def jn : List (List Nat) → List Nat
  | [] => []
  | [a] => a
  | a :: b :: r => a ++ 95 :: jn (b :: r)
theorem lcnt_two {c : Nat} (h : lcnt c = true) : cnts c = true ∧ c < 128 := by
  rw [lcnt_is] at h
  simp only [Bool.and_eq_true, decide_eq_true_eq] at h
  exact ⟨h.2, h.1⟩
theorem app_word : ∀ (a : List Nat), a ≠ [] → (∀ c ∈ a, lcnt c = true) → ∀ (b p : Bool) (v : List Nat), app b p (a ++ v) = (if p && b then [95] else []) ++ a ++ app true false v := by
  intro a
  induction a with
  | nil => intro h; exact absurd rfl h
  | cons c r ih =>
    intro _ ha b p v
    obtain ⟨h1, h2⟩ := lcnt_two (ha c List.mem_cons_self)
    rw [List.cons_append, app_yes h1 h2]
    by_cases hr : r = []
    · subst hr; simp
    · rw [ih hr (fun c hc => ha c (List.mem_cons_of_mem _ hc))]
      simp
theorem app_jn : ∀ (ps : List (List Nat)), (∀ a ∈ ps, ∀ c ∈ a, lcnt c = true) → ∀ (b p : Bool), (b = false ∨ p = true) →
    app b p (jn ps) = if ps.filter (fun a => !a.isEmpty) = [] then [] else (if p && b then [95] else []) ++ jn (ps.filter (fun a => !a.isEmpty)) := by
  intro ps
  induction ps with
  | nil => intro _ b p _; rfl
  | cons a r ih =>
    intro hp b p hbp
    have ha := hp a List.mem_cons_self
    have hr := fun x hx => hp x (List.mem_cons_of_mem a hx)
    cases r with
    | nil =>
      by_cases e : a = []
      · subst e; rfl
      · have h1 := app_word a e ha b p []
        rw [List.append_nil] at h1
        have e2 : a.isEmpty = false := by cases a <;> simp_all
        simp only [jn, h1, app_nil, List.append_nil]
        simp [e2, jn]
    | cons a2 r2 =>
      have ih' := ih hr
      show app b p (a ++ 95 :: jn (a2 :: r2)) = _
      by_cases e : a = []
      · subst e
        have f1 : ([] :: a2 :: r2).filter (fun a : List Nat => !a.isEmpty) = (a2 :: r2).filter (fun a => !a.isEmpty) := List.filter_cons_of_neg (by simp)
        rw [List.nil_append, app_no c95, ih' b true (.inr rfl), f1]
        rcases hbp with rfl | rfl
        · simp only [Bool.and_false, Bool.false_eq_true, if_false]
        · rfl
      · have e2 : (!a.isEmpty) = true := by cases a <;> simp_all
        have f1 : (a :: a2 :: r2).filter (fun a : List Nat => !a.isEmpty) = a :: (a2 :: r2).filter (fun a => !a.isEmpty) := List.filter_cons_of_pos e2
        rw [app_word a e ha, app_no c95, ih' true true (.inr rfl), f1, if_neg (List.cons_ne_nil _ _)]
        generalize (a2 :: r2).filter (fun a => !a.isEmpty) = f
        cases f with
        | nil => simp [jn]
        | cons f1 f2 => simp [jn]
theorem nrm_jn {ps : List (List Nat)} (h : ∀ a ∈ ps, ∀ c ∈ a, lcnt c = true) : nrm (jn ps) = jn (ps.filter (fun a => !a.isEmpty)) := by
  rw [nrm_app, app_jn ps h false false (.inl rfl)]
  split
  · rename_i e; rw [e]; rfl
  · rfl
/-- the signs beyond ASCII that count, taken out -/
def thin (l : List Nat) : List Nat := l.filter fun c => !(cnts c && !decide (c < 128))
theorem app_app : ∀ (l : List Nat) (b p q : Bool), app b q (app b p l) = app b (p || q) (thin l) := by
  intro l
  induction l with
  | nil => intro b p q; rfl
  | cons c r ih =>
    intro b p q
    cases h : cnts c with
    | false =>
      have ht : thin (c :: r) = c :: thin r := List.filter_cons_of_pos (by simp [h])
      rw [app_no h, ih, ht, app_no h]; rfl
    | true =>
      by_cases hc : c < 128
      · have ht : thin (c :: r) = c :: thin r := List.filter_cons_of_pos (by simp [hc])
        rw [app_yes h hc, ht, app_yes h hc]
        cases p <;> cases b
        · simp [app_yes h hc, ih]
        · simp [app_yes h hc, ih]
        · simp [app_yes h hc, ih]
        · simp [app_no c95, app_yes h hc, ih]
      · have ht : thin (c :: r) = thin r := List.filter_cons_of_neg (by simp [h, hc])
        rw [app_wide h hc, ht]
        cases p <;> cases b
        · simp [ih]
        · simp [ih]
        · simp only [Bool.true_and, Bool.false_eq_true, if_false, List.nil_append, ih, Bool.false_or]
          exact app_f _ _ _
        · simp [app_no c95, ih]
theorem nrm_nrm (l : List Nat) : nrm (nrm l) = nrm (thin l) := by
  rw [nrm_app l, nrm_app, app_app, nrm_app]; rfl
theorem thin_rev (l : List Nat) : thin l.reverse = (thin l).reverse := List.filter_reverse ..
def lead : List Nat → Bool
  | [] => false
  | c :: _ => !cnts c
theorem app_lead : ∀ (m : List Nat), (∀ c ∈ m, cnts c = true → c < 128) → ∀ p : Bool, app true p m = if nrm m = [] then [] else (if p || lead m then [95] else []) ++ nrm m := by
  intro m
  induction m with
  | nil => intro _ p; rfl
  | cons c r ih =>
    intro hm p
    have hr := fun x hx => hm x (List.mem_cons_of_mem c hx)
    cases h : cnts c with
    | false =>
      have e : nrm (c :: r) = nrm r := by rw [nrm_app, nrm_app, app_no h]; exact app_f _ _ _
      rw [app_no h, ih hr true, e]
      simp [lead, h]
    | true =>
      have hc := hm c List.mem_cons_self h
      have e : nrm (c :: r) = c :: app true false r := by rw [nrm_app, app_yes h hc]; rfl
      rw [app_yes h hc, e, if_neg (List.cons_ne_nil _ _)]
      simp [lead, h]
theorem nst_rev2 (m : List Nat) : (nst m.reverse).2 = lead m := by
  cases m with
  | nil => rfl
  | cons c r => rw [List.reverse_cons, nst_snoc2]; rfl
theorem nrm_rev : ∀ (m : List Nat), (∀ c ∈ m, cnts c = true → c < 128) → nrm m.reverse = (nrm m).reverse := by
  intro m
  induction m with
  | nil => intro _; rfl
  | cons c r ih =>
    intro hm
    have hr := fun x hx => hm x (List.mem_cons_of_mem c hx)
    have e0 : nst r.reverse = ((nrm r).reverse, lead r) := by
      rw [← ih hr, ← nst_rev2]; rfl
    rw [List.reverse_cons]
    show (nst (r.reverse ++ [c])).1 = _
    rw [nst_snoc, e0]
    cases h : cnts c with
    | false =>
      have e : nrm (c :: r) = nrm r := by rw [nrm_app, nrm_app, app_no h]; exact app_f _ _ _
      rw [e]; simp [nstep, h]
    | true =>
      have hc := hm c List.mem_cons_self h
      have e : nrm (c :: r) = c :: app true false r := by rw [nrm_app, app_yes h hc]; rfl
      rw [e, app_lead r hr]
      simp only [nstep, h, hc, if_true]
      cases e1 : nrm r with
      | nil => simp
      | cons n1 n2 => cases lead r <;> simp
theorem nn_rev (l : List Nat) : nrm (nrm l.reverse) = (nrm (nrm l)).reverse := by
  rw [nrm_nrm, nrm_nrm, thin_rev]
  refine nrm_rev _ fun c hc h => ?_
  have := (List.mem_filter.mp hc).2
  simpa [h] using this
end

-- Laws
section
theorem str_eq {x y : Str} (h : x.cps.toList = y.cps.toList) : x = y := Str.ext' (Array.toList_inj.mp h)
theorem norm_l (x : Str) : (norm x).cps.toList = nrm x.cps.toList := rfl
theorem tk_l (x : Str) (k : Int) : (tk x k).cps.toList = x.cps.toList.take k.toNat := rfl
theorem dr_l (x : Str) (k : Int) : (dr x k).cps.toList = x.cps.toList.drop k.toNat := rfl
theorem rv_l (x : Str) : (rv x).cps.toList = x.cps.toList.reverse := rfl
theorem cat_l (x y : Str) : (x ++ y).cps.toList = x.cps.toList ++ y.cps.toList := by rw [Str.cps_append, Array.toList_append]
theorem sg_l (c : Nat) : (⟨#[c]⟩ : Str).cps.toList = [c] := rfl
theorem l_e : (Str.ofString "").cps.toList = [] := by decide +kernel
theorem l_dash : (Str.ofString "-").cps.toList = [45] := by decide +kernel
theorem l_x : (Str.ofString "x").cps.toList = [120] := by decide +kernel
theorem l_xd : (Str.ofString "x-").cps.toList = [120, 45] := by decide +kernel
theorem l_a : (Str.ofString "a").cps.toList = [97] := by decide +kernel
theorem l_b : (Str.ofString "b").cps.toList = [98] := by decide +kernel
theorem l_ad : (Str.ofString "a-").cps.toList = [97, 45] := by decide +kernel
theorem l_ab : (Str.ofString "ab").cps.toList = [97, 98] := by decide +kernel
theorem l_au : (Str.ofString "a_").cps.toList = [97, 95] := by decide +kernel
theorem l_aub : (Str.ofString "a_b").cps.toList = [97, 95, 98] := by decide +kernel
theorem l_u : Str.ofString "_" = ⟨#[95]⟩ := by decide +kernel
theorem l_e' : Str.ofString "" = ⟨#[]⟩ := by decide +kernel
/-- joined texts, as lists -/
theorem join_l : ∀ ps : List Str, (Str.join ⟨#[95]⟩ ps).cps.toList = jn (ps.map fun p => p.cps.toList)
  | [] => rfl
  | [_] => rfl
  | a :: b :: r => by
    show (a ++ ⟨#[95]⟩ ++ Str.join ⟨#[95]⟩ (b :: r)).cps.toList = _
    rw [cat_l, cat_l, join_l (b :: r)]
    show a.cps.toList ++ [95] ++ _ = a.cps.toList ++ 95 :: _
    rw [List.append_assoc]; rfl
theorem mem_jn : ∀ (ps : List (List Nat)) (a : List Nat) (c : Nat), a ∈ ps → c ∈ a → c ∈ jn ps
  | [_], _, _, ha, hc => by rw [List.mem_singleton.mp ha] at hc; exact hc
  | p :: b :: r, a, c, ha, hc => by
    rcases List.mem_cons.mp ha with rfl | ha
    · exact List.mem_append_left _ hc
    · exact List.mem_append_right _ (List.mem_cons_of_mem _ (mem_jn (b :: r) a c ha hc))
/-- a name's parts are made of signs that count -/
theorem parts_count (x : Str) : ∀ a ∈ (Txt.split (norm x) ⟨#[95]⟩).map (fun p => p.cps.toList), ∀ c ∈ a, lcnt c = true := by
  intro a ha c hc
  obtain ⟨p, hp, rfl⟩ := List.mem_map.mp ha
  have h1 := StrLaws.split_free (norm x) 95 p hp
  have h2 : c ∈ (norm x).cps.toList := by
    rw [← StrLaws.join_split (norm x) ⟨#[95]⟩, join_l]
    exact mem_jn _ _ c ha hc
  rw [norm_l, nrm_app] at h2
  rcases app_signs _ _ _ c h2 with rfl | h
  · exact absurd hc h1
  · exact h
theorem filt_map (ps : List Str) : (ps.map fun p => p.cps.toList).filter (fun a => !a.isEmpty) = (ps.filter fun a => a != Str.ofString "").map fun p => p.cps.toList := by
  rw [List.filter_map]
  congr 1
  refine List.filter_congr fun p _ => ?_
  rw [l_e']
  obtain ⟨⟨l⟩⟩ := p
  cases l with
  | nil => rfl
  | cons a r =>
    show (!(a :: r).isEmpty) = _
    rw [show ((⟨⟨a :: r⟩⟩ : Str) != ⟨#[]⟩) = true from bne_iff_ne.mpr (fun e => by cases e)]
    rfl
theorem nn_jn (x : Str) : nrm (nrm x.cps.toList) = jn (((Txt.split (norm x) ⟨#[95]⟩).map fun p => p.cps.toList).filter fun a => !a.isEmpty) := by
  rw [← nrm_jn (parts_count x), ← join_l, StrLaws.join_split]; rfl
theorem law1 (x : Str) : norm (norm x) = parts (norm x) := by
  refine str_eq ?_
  rw [norm_l, norm_l, nn_jn, filt_map]
  show _ = (PySem.Builtin.Str.glued _ _).cps.toList
  rw [StrLaws.glued_eq_join, l_u, join_l]
theorem law2 (x : Str) : norm (norm (norm x)) = norm (norm x) := by
  refine str_eq ?_
  rw [norm_l, norm_l, norm_l, nn_jn, nrm_jn]
  · rw [List.filter_filter]; simp
  · intro a ha
    exact parts_count x a (List.mem_filter.mp ha).1
theorem law3 (x : Str) : (⟨(x.cps.toList.filter lcnt).toArray⟩ : Str) = ⟨((norm x).cps.toList.filter (fun c => c != 95)).toArray⟩ := by
  rw [norm_l, nrm_app, filt_app]
theorem law4 (x : Str) : norm (norm (rv x)) = rv (norm (norm x)) := by
  refine str_eq ?_
  rw [norm_l, norm_l, rv_l, rv_l, norm_l, norm_l]
  exact nn_rev _
theorem norm_e {x : Str} : norm x = Str.ofString "" ↔ nrm x.cps.toList = [] := by
  constructor
  · intro h
    rw [← norm_l, h, l_e]
  · intro h
    exact str_eq (by rw [norm_l, h, l_e])
theorem law5a {x : Str} {k : Int} (e : norm (tk x k) ≠ Str.ofString "") : norm (tk x k ++ Str.ofString "-" ++ dr x k) = norm (tk x k) ++ dr (norm (Str.ofString "x-" ++ dr x k)) 1 := by
  have e' : nrm (tk x k).cps.toList ≠ [] := fun h => e (norm_e.mpr h)
  refine str_eq ?_
  rw [norm_l, cat_l, cat_l, cat_l, norm_l, dr_l (norm _), norm_l, cat_l, l_dash, l_xd, List.append_assoc]
  exact cut_a e'
theorem law5b {x : Str} {k : Int} (e : norm (tk x k) = Str.ofString "") : norm (tk x k ++ Str.ofString "-" ++ dr x k) = norm (dr x k) := by
  refine str_eq ?_
  rw [norm_l, cat_l, cat_l, norm_l, l_dash, List.append_assoc]
  exact cut_b (norm_e.mp e)
theorem law6 (y : Str) : tk (norm (Str.ofString "x-" ++ y)) 1 = Str.ofString "x" := by
  refine str_eq ?_
  rw [tk_l, norm_l, cat_l, l_xd, l_x]
  show (nrm (120 :: 45 :: y.cps.toList)).take 1 = _
  rw [nrm_x]; rfl
/-- what the four kinds of signs do -/
inductive Kind (c : Nat) : Prop
  | joins : 127 < (c : Int) → norm ⟨#[c]⟩ = Str.ofString "" → norm (Str.ofString "a" ++ ⟨#[c]⟩ ++ Str.ofString "b") = Str.ofString "ab" → norm (Str.ofString "a-" ++ ⟨#[c]⟩) = Str.ofString "a_" → Kind c
  | parts : 127 < (c : Int) → norm ⟨#[c]⟩ = Str.ofString "" → norm (Str.ofString "a" ++ ⟨#[c]⟩ ++ Str.ofString "b") = Str.ofString "a_b" → norm (Str.ofString "a-" ++ ⟨#[c]⟩) = Str.ofString "a" → Kind c
  | other : (c : Int) ≤ 127 → lcnt c = false → norm ⟨#[c]⟩ = Str.ofString "" → Kind c
  | counts : (c : Int) ≤ 127 → lcnt c = true → norm ⟨#[c]⟩ = ⟨#[c]⟩ → Kind c
theorem kind (c : Nat) : Kind c := by
  have ab : (Str.ofString "a" ++ ⟨#[c]⟩ ++ Str.ofString "b").cps.toList = [97, c, 98] := by rw [cat_l, cat_l, l_a, l_b]; rfl
  have ad : (Str.ofString "a-" ++ ⟨#[c]⟩).cps.toList = [97, 45, c] := by rw [cat_l, l_ad]; rfl
  have n97 : (97 : Nat) < 128 := by decide
  have n98 : (98 : Nat) < 128 := by decide
  by_cases hc : c < 128
  · have hl : lcnt c = cnts c := by rw [lcnt_is]; simp [hc]
    cases h : cnts c with
    | false => exact .other (by omega) (hl.trans h) (norm_e.mpr (by rw [sg_l, nrm_app, app_no h, app_nil]))
    | true => exact .counts (by omega) (hl.trans h) (str_eq (by rw [norm_l, sg_l, nrm_app, app_yes h hc, app_nil]; rfl))
  · cases h : cnts c with
    | false =>
      refine .parts (by omega) (norm_e.mpr (by rw [sg_l, nrm_app, app_no h, app_nil])) (str_eq ?_) (str_eq ?_)
      · rw [norm_l, ab, nrm_app, app_yes c97 n97, app_no h, app_yes c98 n98, app_nil, l_aub]; rfl
      · rw [norm_l, ad, nrm_app, app_yes c97 n97, app_no c45, app_no h, app_nil, l_a]; rfl
    | true =>
      refine .joins (by omega) (norm_e.mpr (by rw [sg_l, nrm_app, app_wide h hc, app_nil]; rfl)) (str_eq ?_) (str_eq ?_)
      · rw [norm_l, ab, nrm_app, app_yes c97 n97, app_wide h hc, app_yes c98 n98, app_nil, l_ab]; rfl
      · rw [norm_l, ad, nrm_app, app_yes c97 n97, app_no c45, app_wide h hc, app_nil, l_au]; rfl
theorem at_split {x : Str} {k : Int} {c : Nat} (h : At x k c) : x.cps.toList.drop k.toNat = c :: x.cps.toList.drop (k.toNat + 1) := by
  obtain ⟨h1, h2⟩ := List.getElem?_eq_some_iff.mp h.e
  rw [List.drop_eq_getElem_cons h1, h2]
theorem law7 {x : Str} {k : Int} {c : Nat} (h0 : 0 ≤ k) (h : At x k c) (h1 : (c : Int) ≤ 127) (h2 : lcnt c = false) : norm (tk x k ++ Str.ofString "-" ++ dr x (k + 1)) = norm x := by
  have hc : cnts c = false := by
    have := lcnt_is c
    rw [h2] at this
    simpa [show c < 128 by omega] using this.symm
  have hk : (k + 1).toNat = k.toNat + 1 := by omega
  refine str_eq ?_
  rw [norm_l, cat_l, cat_l, norm_l, tk_l, dr_l, l_dash, List.append_assoc, hk]
  rw [List.cons_append, List.nil_append, swap_no hc, ← at_split h, List.take_append_drop]
theorem law8 {x : Str} {k : Int} {c d : Nat} (h0 : 0 ≤ k - 1) (h : At x k c) (uh1 : lcnt c = true) (h2 : At x (k - 1) d) (h3 : lcnt d = true) : norm x = norm (tk x k) ++ dr (norm (Str.ofString "x" ++ dr x k)) 1 := by
  have hk : k.toNat = (k - 1).toNat + 1 := by omega
  have ht : x.cps.toList.take k.toNat = x.cps.toList.take (k - 1).toNat ++ [d] := by
    rw [hk, List.take_add_one, h2.e]; rfl
  refine str_eq ?_
  rw [cat_l, norm_l, norm_l, dr_l (norm _), norm_l, cat_l, l_x, tk_l, dr_l, at_split h, ht]
  have e : x.cps.toList = x.cps.toList.take (k - 1).toNat ++ [d] ++ c :: x.cps.toList.drop (k.toNat + 1) := by
    rw [← ht, ← at_split h, List.take_append_drop]
  obtain ⟨hd, hd'⟩ := lcnt_two h3
  have r := cut_c (u := x.cps.toList.take (k - 1).toNat) (v := x.cps.toList.drop (k.toNat + 1)) (c := c) hd hd'
  rw [← e] at r
  exact r
end

-- N4
section
/-- what a call of _law_alone gives back -/
def AloneOk (prog : Program) (w : World) (K : Frag) (p : Program) (loose : List Str) (mean : ExcName → Option Value) (mg mb : Str → Option Value) : Prop :=
  ∀ (news : List (Addr × Obj)) (x : Str) (t : Tok) (k : Int) (u v : Tok) (dp un : Nat) (gd : Option (List Code)) (cn : Str) (cs : Scope) (a : Addr) (ccd : Value) (cl : List (Str × Addr)) (outer : List Env) (A₀ : Around) (base h₀ : Heap) (L : Addr) (m : Str → Option Value) (s : Shared) (Q E : Value → Shared → Prop),
    Below A₀ base outer h₀ → Fr h₀ L s.heap m → K.In h₀ → News h₀ L s.heap news → Top p loose mean mg mb h₀ → cs.kind = .function → x.length ≤ 12 → 0 ≤ k → k < x.length → dp + 10 < recursionLimit → un + 100 < cLine →
    (∀ (h' : Heap) (tk' : Nat), Fr h₀ L h' m → News h₀ L h' news → Q (.bool true) { s with heap := h', toks := tk' }) →
    wpAny (model prog w) (ktrTop dp un gd cn cs L a ccd cl outer) (PySem.call (.ref 42) [.str x t, .int k u, .str (norm x) v]) Q E s
section
end
section
variable {prog : Program} {w : World} {K : Frag} {p : Program} {loose : List Str} {mean : ExcName → Option Value} {mg mb : Str → Option Value}
  {dp un : Nat} {gd : Option (List Code)} {cn : Str} {cs : Scope} {a : Addr} {ccd : Value} {cl : List (Str × Addr)} {outer : List Env} {A₀ : Around} {base h₀ : Heap} {L : Addr} {m : Str → Option Value} {s : Shared} {Q E : Value → Shared → Prop} {news : List (Addr × Obj)}
theorem AloneOk.use (hN : AloneOk prog w K p loose mean mg mb) {x : Str} {t u v : Tok} {k : Int} (hB : Below A₀ base outer h₀) (F : Fr h₀ L s.heap m) (X : K.In h₀) (N : News h₀ L s.heap news) (T : Top p loose mean mg mb h₀) (hk : cs.kind = .function)
    (hx : x.length ≤ 12) (hk0 : 0 ≤ k) (hk1 : k < x.length) (hd : dp + 10 < recursionLimit) (hu : un + 100 < cLine) (h : ∀ (h' : Heap) (tk' : Nat), Fr h₀ L h' m → News h₀ L h' news → Q (.bool true) { s with heap := h', toks := tk' }) :
    wpAny (model prog w) (ktrTop dp un gd cn cs L a ccd cl outer) (PySem.call (.ref 42) [.str x t, .int k u, .str (norm x) v]) Q E s :=
  hN news x t k u v dp un gd cn cs a ccd cl outer A₀ base h₀ L m s Q E hB F X N T hk hx hk0 hk1 hd hu h
end
end

-- Loop
section
/-- the names that the law's loop stores -/
def kNames : List Str := [Str.ofString "ahead", Str.ofString "pushed", Str.ofString "due"]
theorem kNames_is (z : Str) : kNames.contains z = true ↔ (z = Str.ofString "ahead" ∨ z = Str.ofString "pushed" ∨ z = Str.ofString "due") := by
  simp [kNames]
/-- the frame in the loop: the loop's own names, else as it was -/
def kFrm (x : Str) (v : Option Value) (u m₀ : Str → Option Value) : Str → Option Value := fun y =>
  if y = x then v else if y = Str.ofString "ahead" then u y else if y = Str.ofString "pushed" then u y else if y = Str.ofString "due" then u y else m₀ y
theorem kFrm_is (x : Str) (v : Option Value) (u m₀ : Str → Option Value) : (fun y => if y = x then v else kstB (fun z => if kNames.contains z then u z else m₀ z) [] y) = kFrm x v u m₀ := by
  funext y
  unfold kFrm
  by_cases h0 : y = x
  · rw [if_pos h0, if_pos h0]
  · rw [if_neg h0, if_neg h0]
    show (if kNames.contains y = true then u y else m₀ y) = _
    by_cases h1 : y = Str.ofString "ahead"
    · rw [if_pos h1, if_pos ((kNames_is y).mpr (.inl h1))]
    · rw [if_neg h1]
      by_cases h2 : y = Str.ofString "pushed"
      · rw [if_pos h2, if_pos ((kNames_is y).mpr (.inr (.inl h2)))]
      · rw [if_neg h2]
        by_cases h3 : y = Str.ofString "due"
        · rw [if_pos h3, if_pos ((kNames_is y).mpr (.inr (.inr h3)))]
        · rw [if_neg h3, if_neg (fun h => by rcases (kNames_is y).mp h with h | h | h <;> contradiction)]
abbrev KLoop (x : Str) (m₀ : Str → Option Value) : (Str → Option Value) → List (Addr × Obj) → Prop := fun m nx =>
  KstS (fun _ : Unit => ([] : List (Addr × Obj))) (fun _ => []) (fun _ => True) x kNames m₀ (fun _ _ => True) [] m nx
section
variable {prog : Program} {w : World} {A : Around} {E : Value → Shared → Prop} {s : Shared} {env : Env} {h₀ : Heap} {x : Str} {body : List Stmt} {Q : Flow → Shared → Prop}
theorem loop_k {r : Addr} {b₀ : Int} {t₀ u₀ v₀ : Tok} {n : Nat} {m₀ : Str → Option Value} (hh : A.handled = none) (hr : IsRange s.heap r 0 b₀ 1 t₀ u₀ v₀) (hb : b₀ = (n : Int)) (hn : n ≤ 1000) (F : Fr h₀ env.locals s.heap m₀)
    (turn : ∀ (k : Int) t (u : Str → Option Value) h tk own, 0 ≤ k → k < (n : Int) → Fr h₀ env.locals h (kFrm x (some (.int k t)) u m₀) → News h₀ env.locals h own →
      wpAny (model prog w) A (execs body env) (InvPostN h₀ env.locals (KLoop x m₀) own [] { s with heap := h, toks := tk } Q) E { s with heap := h, toks := tk })
    (done : ∀ (u : Str → Option Value) h tk, Fr h₀ env.locals h (kFrm x (u x) u m₀) → Q .next { s with heap := h, toks := tk }) :
    wpAny (model prog w) A (pyIter (.ref r)) (fun it s₂ => LoopAtV prog w A h₀ env x body Q E it s₂) E s := by
  subst hb
  refine kst_range (σ := Unit) (n := n) (fun _ => []) (fun _ => []) (fun _ => True) kNames (fun _ _ => True) () hh hr ?_ ?_ F News.nil trivial (fun _ hp => nomatch hp) trivial ?_ ?_
  · exact small_one (by omega) (by omega) (by omega) (by omega)
  · exact rangeSize_nat _ _
  · intro c pre k t u h tk own hk hlt _ _ _ F₁ N₁
    rw [kFrm_is] at F₁
    refine wpAny_mono (turn k t u h tk own (by omega) (by omega) F₁ N₁) (fun f s₂ q => ?_) fun _ _ e => e
    have up : InvEndN h₀ env.locals (KLoop x m₀) own [] { s with heap := h, toks := tk } s₂ →
        InvEndN h₀ env.locals (KstS (fun _ : Unit => ([] : List (Addr × Obj))) (fun _ => []) (fun _ => True) x kNames m₀ (fun _ _ => True) (pre ++ [k])) own [] { s with heap := h, toks := tk } s₂ := by
      rintro ⟨h', tk', m', news', nx', e', F', N', hn', ho', ha, hS⟩
      refine ⟨h', tk', m', news', nx', e', F', N', hn', ho', ha, ?_⟩
      obtain ⟨c', e1, e2, e3, e4, _⟩ := hS
      exact ⟨c', e1, e2, e3, e4, trivial⟩
    cases f with
    | ret v => exact q
    | brk => exact q
    | next => exact up q
    | cont => exact up q
  · intro c u h tk _ _ F₁ _
    have e : (fun y => if y = x then u y else kstB (fun z => if kNames.contains z then u z else m₀ z) [] y) = kFrm x (u x) u m₀ := by
      rw [← kFrm_is]
      funext y
      by_cases hy : y = x
      · rw [if_pos hy, if_pos hy, hy]
      · rw [if_neg hy, if_neg hy]
    rw [e] at F₁
    exact done u h tk F₁
theorem loop_end {L : Addr} {m₀ m' : Str → Option Value} {own news' : List (Addr × Obj)} {s₁ : Shared} {h' : Heap} {tk : Nat} (F : Fr h₀ L h' m') (N : News h₀ L h' news') (ho : ∀ p ∈ own, p ∈ news')
    (hr : ∀ z, z ≠ x → z ≠ Str.ofString "ahead" → z ≠ Str.ofString "pushed" → z ≠ Str.ofString "due" → m' z = m₀ z) :
    InvEndN h₀ L (KLoop x m₀) own [] s₁ { s₁ with heap := h', toks := tk } :=
  kst_end () F N (fun _ hp => nomatch hp) ho rfl trivial (fun _ hp => nomatch hp) (fun z h1 _ h3 => hr z h1
    (fun e => by rw [(kNames_is z).mpr (.inl e)] at h3; cases h3) (fun e => by rw [(kNames_is z).mpr (.inr (.inl e))] at h3; cases h3) (fun e => by rw [(kNames_is z).mpr (.inr (.inr e))] at h3; cases h3)) trivial
end
end

-- First
section
theorem size_of {vs : List Value} {ns : List Int} (h : IntsAre vs (List.take 12 ns)) (uh : True) : vs.toArray.size ≤ sizeLine := by
  rw [List.size_toArray, h.length, PySem.sizeLine_eq]
  have := List.length_take_le 12 ns
  omega
theorem done_of {P : Prop} (h : P) : KPfDone P := h
theorem lsc_are {ys : List Value} {ns : List Int} (h : CarriedAll ys (ns.map fun k => PyData.str ⟨#[lsc k]⟩)) : StrsAre ys ((ns.map lsc).map sg) := by
  refine StrsAre.of_carried ?_
  rw [List.map_map, List.map_map]
  exact h
theorem lsc_few {ys : List Value} {ns : List Int} (uh : CarriedAll ys ((ns.take 12).map fun k => PyData.str ⟨#[lsc k]⟩)) : ((ns.take 12).map lsc).length ≤ 10000 := by
  rw [List.length_map]
  have := List.length_take_le 12 ns
  omega
theorem text_len (ns : List Int) : (⟨((ns.take 12).map lsc).toArray⟩ : Str).length ≤ 12 := by
  show ((ns.take 12).map lsc).toArray.size ≤ 12
  rw [List.size_toArray, List.length_map]
  exact List.length_take_le 12 ns
theorem empty_text : (Str.ofString "a-é").length ≤ 12 := by decide +kernel
end
-- the contracts, proved ahead of the rest of the walk
section
variable {prog : Program} {w : World} {A : Around} {α : Type} {t : Sem α} {Q : α → Shared → Prop} {E : Value → Shared → Prop} {s : Shared} {K : Frag} {p : Program} {loose : List Str} {mean : ExcName → Option Value} {mg mb : Str → Option Value} {h h' : Heap}
theorem with_norm (uT : Top p loose mean mg mb h) (uX : K.In h') (pf : NormOk prog w K p loose mean mg mb) (rest : NormOk prog w K p loose mean mg mb → wpAny (model prog w) A t Q E s) : wpAny (model prog w) A t Q E s := rest pf
theorem with_counts (uT : Top p loose mean mg mb h) (uX : K.In h') (pf : CountsOk prog w K p loose mean mg mb) (rest : CountsOk prog w K p loose mean mg mb → wpAny (model prog w) A t Q E s) : wpAny (model prog w) A t Q E s := rest pf
theorem with_sign (uT : Top p loose mean mg mb h) (uX : K.In h') (pf : SignOk prog w K p loose mean mg mb) (rest : SignOk prog w K p loose mean mg mb → wpAny (model prog w) A t Q E s) : wpAny (model prog w) A t Q E s := rest pf
theorem with_alone (uT : Top p loose mean mg mb h) (uX : K.In h') (pf : AloneOk prog w K p loose mean mg mb) (rest : AloneOk prog w K p loose mean mg mb → wpAny (model prog w) A t Q E s) : wpAny (model prog w) A t Q E s := rest pf
end
end Mine
open Mine
local macro_rules | `(tactic| walk_at "call builtin:str.isalnum") => `(tactic| (k_here; (with_reducible refine st_isalnum ?_); intro bAl hAl))
local macro_rules | `(tactic| walk_at "call builtin:str.isascii") => `(tactic| (k_here; (with_reducible refine st_isascii ?_); intro bAs hAs))
local macro_rules | `(tactic| walk_at "compareOp Eq str str") => `(tactic| (k_here; (with_reducible refine st_dot ?_); intro bDt hDt))
local macro_rules | `(tactic| walk_at "InvEndN") => `(tactic| (refine later ?_))
local macro_rules | `(tactic| walk_at "call builtin:str.join") => `(tactic| (k_here; (refine st_join (News.isList (by k_asm) (by k_mem)) (by assumption) (ninv_small (by assumption)) (by omega) empty_len ?_); intro t9 k9))
local macro_rules | `(tactic| walk_at "compareOp In str str") => `(tactic| (k_here; (with_reducible refine st_in ?_)))
local macro_rules | `(tactic| walk_at "eval ListComp") => `(tactic| (k_here; (with_reducible show wpAny _ _ (eval (Expr.ListComp (Expr.Call _ _ _ _) [⟨Expr.Name _ _, Expr.Subscript _ _ _, [], 0⟩] _ _) _) _ _ _); k_dflt (refine LCg.ListComp_U (F₀ := by k_asm) (by with_unfolding_all rfl) (by decide) (by rfl) (by decide) (by rfl) ?_)))
local macro_rules | `(tactic| walk_at "CompSrc") => `(tactic| (k_here; k_dflt ((refine LCg.CompSrc.ledger (by rfl) (by k_asm) (by k_asm) (List.Mem.head _) (size_of (by assumption) True.intro) ?_); (intro g9); (refine kct_list (fun k => ⟨#[lsc k]⟩) (by assumption) (fun k9 t9 I9 oI9 C9 oC9 D9 m9 ys9 h9 tk9 E9 hk9 hC9 hx9 F9 N9 off9 ne9 _ => ?_) (done_of (fun ys9 hc9 hl9 => ?_))); (all_goals (try (simp only [LCg.Off3, and_true] at off9))))))
local macro_rules | `(tactic| walk_at "call ref") => `(tactic| (k_here; (with_reducible show wpAny _ _ (PySem.call (Value.ref 28) [Value.int _ _]) _ _ _); k_dflt (refine SignOk.use (by assumption) (by k_asm) (by k_asm) (by k_asm) (by k_asm) (by k_asm) (by first | exact rfl | assumption) (by first | ktr_room) (by first | ktr_units) (fun t9 h9 tk9 F9 N9 => ?_)); (try dsimp only); (try k_fold)))
local macro_rules | `(tactic| walk_at "call builtin:str.join") => `(tactic| (k_here; k_dflt (refine st_join_signs (lsc_are (by assumption)) (News.isList (by k_asm) (by k_mem)) (lsc_few (by assumption)) (fun t9 k9 => ?_))))
local macro_rules | `(tactic| walk_at "call ref") => `(tactic| (k_here; (with_reducible show wpAny _ _ (PySem.call (Value.ref 21) [Value.str _ _]) _ _ _); k_dflt (refine NormOk.use (by assumption) (by k_asm) (by k_asm) (by k_asm) (by k_asm) (by k_asm) (by first | exact rfl | assumption) (by omega) (by first | ktr_room) (by first | ktr_units) ?_); (intro t9 h9 tk9 hl9 F9 N9); (try dsimp only); (try k_fold)))
local macro_rules | `(tactic| walk_at "call ref") => `(tactic| (k_here; (with_reducible show wpAny _ _ (PySem.call (Value.ref 35) [Value.str _ _]) _ _ _); k_dflt (refine CountsOk.use (by assumption) (by k_asm) (by k_asm) (by k_asm) (by k_asm) (by k_asm) (by first | exact rfl | assumption) (by first | ktr_room) (by first | ktr_units) ?_); (intro h9 tk9 F9 N9); (try dsimp only); (try k_fold)))
local macro_rules | `(tactic| walk_at "call builtin:str.join") => `(tactic| (k_here; (with_reducible refine st_join_split (by assumption) (by assumption) (by assumption) (by assumption) (by omega) ?_); (intro t9 k9)))
local macro_rules | `(tactic| walk_at "call builtin:str.join") => `(tactic| (k_here; (with_reducible show wpAny _ _ (PySem.call (Value.builtin "str.join") [Value.str (Str.ofString "") _, Value.ref _]) _ _ _); k_dflt (refine st_join_signs (by assumption) (News.isList (by k_asm) (by k_mem)) (filt_le (by omega)) (fun t9 k9 => ?_))))
local macro_rules | `(tactic| walk_at "eval ListComp") => `(tactic| (k_here; (with_reducible show wpAny _ _ (eval (Expr.ListComp (Expr.Name _ _) [⟨Expr.Name _ _, Expr.Name _ _, [Expr.Call _ _ _ _], 0⟩] _ _) _) _ _ _); k_dflt ((refine ListComp_S (uF₀ := by k_asm) (by with_unfolding_all rfl) (by decide) (by rfl) (by decide) (by rfl) ?_); walk1; (refine ⟨_, _, _, rfl, rfl, by k_asm, by k_asm, size_ok (by omega), ?_⟩); (intro g9); (refine ct_str lcnt (by rfl) (fun _ => by rfl) (by decide) (fun c9 t9 I9 oI9 C9 oC9 D9 m9 ys9 h9 tk9 E9 hC9 hx9 F9 N9 off9 ne9 => ?_) (fun ys9 hys9 => ?_)))))
local macro_rules | `(tactic| walk_at "eval ListComp") => `(tactic| (k_here; (with_reducible show wpAny _ _ (eval (Expr.ListComp (Expr.Name _ _) [⟨Expr.Name _ _, Expr.Name _ _, [Expr.Compare _ _ _ _], 0⟩] _ _) _) _ _ _); k_dflt ((refine ListComp_S (uF₀ := by k_asm) (by with_unfolding_all rfl) (by decide) (by rfl) (by decide) (by rfl) ?_); walk1; (refine ⟨_, _, _, rfl, rfl, by k_asm, by k_asm, size_ok (by omega), ?_⟩); (intro g9); (refine ct_str (fun c => c != 95) (by rfl) (fun _ => by rfl) (by decide) (fun c9 t9 I9 oI9 C9 oC9 D9 m9 ys9 h9 tk9 E9 hC9 hx9 F9 N9 off9 ne9 => ?_) (fun ys9 hys9 => ?_)))))
local macro_rules | `(tactic| walk_at "CtTurn") => `(tactic| (refine ⟨rfl, _, _, rfl, ?_, ?_⟩ <;> k_asm))
local macro_rules | `(tactic| walk_at "subscriptTail Name Slice str ref") => `(tactic| (k_here; (with_reducible show wpAny _ _ (subscriptTail _ (Expr.Slice none none (some _) _) _ _) _ _ _); (with_reducible rename Fr _ _ _ _ => F'); (with_reducible rename News _ _ _ _ => N'); (refine st_rv (s := ⟨_, _, _, _, _⟩) F' N' (by omega) (fun h9 t9 c9 l9 F9 N9 => ?_) (by with_unfolding_all rfl) (by intro _; with_unfolding_all rfl))))
local macro_rules | `(tactic| walk_at "subscriptTail Name Slice str ref") => `(tactic| (k_here; (with_reducible show wpAny _ _ (subscriptTail _ (Expr.Slice none (some _) none _) _ _) _ _ _); (with_reducible rename Fr _ _ _ _ => F'); (with_reducible rename News _ _ _ _ => N'); (refine st_tk (s := ⟨_, _, _, _, _⟩) F' N' (by omega) (by omega) (fun h9 t9 c9 l9 F9 N9 => ?_) (by with_unfolding_all rfl) (by intro _; with_unfolding_all rfl))))
local macro_rules | `(tactic| walk_at "subscriptTail Name Slice str ref") => `(tactic| (k_here; (with_reducible show wpAny _ _ (subscriptTail _ (Expr.Slice (some _) none none _) _ _) _ _ _); (with_reducible rename Fr _ _ _ _ => F'); (with_reducible rename News _ _ _ _ => N'); (refine st_dr (s := ⟨_, _, _, _, _⟩) F' N' (by omega) (by omega) (fun h9 t9 c9 l9 F9 N9 => ?_) (by with_unfolding_all rfl) (by intro _; with_unfolding_all rfl))))
local macro_rules | `(tactic| walk_at "compareOp NotEq str str") => `(tactic| (k_here; with_reducible (first | (refine st_ne (law1 _) ?_) | (refine st_ne (law2 _) ?_) | (refine st_ne (law3 _) ?_) | (refine st_ne (law4 _) ?_) | (refine st_ne (law6 _) ?_) | (refine st_ne (law5a (by assumption)) ?_) | (refine st_ne (law5b (by assumption)) ?_) | (refine st_sne ?_))))
local macro_rules | `(tactic| walk_at "compareOp NotEq str str") => `(tactic| (k_here; (with_reducible show wpAny _ _ (compareOp _ (Value.str (norm _) _) (Value.str (Str.ofString "") _)) _ _ _); with_reducible (refine st_ne_cases (fun e9 => ?_) (fun e9 => ?_))))
local macro_rules | `(tactic| walk_at "call ref") => `(tactic| (k_here; (with_reducible show wpAny _ _ (PySem.call (Value.ref 42) [Value.str _ _, Value.int _ _, Value.str _ _]) _ _ _); k_dflt (refine AloneOk.use (by assumption) (by k_asm) (by k_asm) (by k_asm) (by k_asm) (by k_asm) (by first | exact rfl | assumption) (by omega) (by omega) (by omega) (by first | ktr_room) (by first | ktr_units) (fun h9 tk9 F9 N9 => ?_)); (try dsimp only); (try k_fold)))
local macro_rules | `(tactic| walk_at "subscriptTail Call") => `(tactic| (k_here; (with_reducible show wpAny _ _ (subscriptTail _ (Expr.Slice (some _) none none _) _ _) _ _ _); (with_reducible rename Fr _ _ _ _ => F'); (with_reducible rename News _ _ _ _ => N'); (refine st_dr (s := ⟨_, _, _, _, _⟩) F' N' (by omega) (by omega) (fun h9 t9 c9 l9 F9 N9 => ?_) (by with_unfolding_all rfl) (by intro _; with_unfolding_all rfl))))
local macro_rules | `(tactic| walk_at "call ref") => `(tactic| (k_here; (with_reducible show wpAny _ _ (PySem.call (Value.ref 21) [Value.str _ _]) _ _ _); k_dflt (refine NormOk.use (by assumption) (by k_asm) (by k_asm) (by k_asm) (by k_asm) (by k_asm) (by first | exact rfl | assumption) (by omega) (by first | ktr_room) (by first | ktr_units) (fun t9 h9 tk9 hl9 F9 N9 => ?_)); (try dsimp only); (try k_fold)))
local macro_rules | `(tactic| walk_at "call ref") => `(tactic| (k_here; (with_reducible show wpAny _ _ (PySem.call (Value.ref 21) [Value.str _ _]) _ _ _); k_dflt (refine NormOk.useE (by with_reducible assumption) (by assumption) (by k_asm) (by k_asm) (by k_asm) (by k_asm) (by k_asm) (by first | exact rfl | assumption) (by omega) (by first | ktr_room) (by first | ktr_units) (fun t9 h9 tk9 F9 N9 => ?_)); (try dsimp only); (try k_fold)))
local macro_rules | `(tactic| walk_at "call ref") => `(tactic| (k_here; (with_reducible show wpAny _ _ (PySem.call (Value.ref 35) [Value.str _ _]) _ _ _); k_dflt (refine CountsOk.useE (by with_reducible assumption) (by assumption) (by k_asm) (by k_asm) (by k_asm) (by k_asm) (by k_asm) (by first | exact rfl | assumption) (by first | ktr_room) (by first | ktr_units) (fun h9 tk9 F9 N9 => ?_)); (try dsimp only); (try k_fold)))
local macro_rules | `(tactic| walk_at "compareOp NotEq str str") => `(tactic| (k_here; with_reducible (first | (refine st_ne rfl ?_) | (refine st_ne (by assumption) ?_))))
local macro_rules | `(tactic| walk_at "compareOp Eq str str") => `(tactic| (k_here; with_reducible (first | (refine st_eq (by assumption) ?_) | (refine st_eq (law7 (by assumption) (by assumption) (by assumption) (by assumption)) ?_) | (refine st_eq (law8 (by omega) (by assumption) (by assumption) (by assumption) (by assumption)) ?_) | (refine st_eq rfl ?_))))
local macro_rules | `(tactic| walk_at "call builtin:ord") => `(tactic| (k_here; with_reducible (refine P.ord_of_char ?_)))
local macro_rules | `(tactic| walk_at "subscriptTail Name Name str int") => `(tactic| (k_here; (refine st_item (by omega) (by omega) (by omega) (fun c9 a9 l9 => ?_) (by with_unfolding_all rfl) (by intro _; with_unfolding_all rfl)); (rcases kind c9 with ⟨i1, i2, i3, i4⟩ | ⟨i1, i2, i3, i4⟩ | ⟨i1, i2, i3⟩ | ⟨i1, i2, i3⟩)))
local macro_rules | `(tactic| walk_at "subscriptTail Name BinOp str int") => `(tactic| (k_here; (refine st_item (by omega) (by omega) (by omega) (fun c9 a9 l9 => ?_) (by with_unfolding_all rfl) (by intro _; with_unfolding_all rfl)); (rcases Bool.eq_false_or_eq_true (lcnt c9) with i1 | i1)))
local macro_rules | `(tactic| walk_at "compareOp In ref ref") => `(tactic| (k_here; (with_reducible rename News _ _ _ _ => N'); k_dflt (refine st_in2 N' (by k_mem) (by k_mem) (by k_mem) (by k_mem) (by (have hcL9 := cLine_is); (try simp only [units_in1, units_deeper, Around.mark_units, units_caller]); (try dsimp only); omega) (by decide +kernel) (by decide +kernel) ?_)))
set_option maxRecDepth 100000 in
set_option maxHeartbeats 40000000 in
theorem PySem.Challenge.cw_aq0002_01_holds : PySem.Challenge.rw_aq0002_01.Holds := by
  w_on
  o_law
  k_head
  (case hw => w_witness2)
  k_go0
  all_goals try k_fold
  (rename Top _ _ _ _ _ _ => T0)
  (rename Frag.In _ _ => X0)
  refine with_norm T0 X0 ?_ fun hNo => ?_
  · w_top off
    unfold NormOk; dsimp only [CbClaim, CbLists, CbRet]; intros; rename_i hret
    refine wpAny_call ?_
    (k_dflt cell_enter)
    k_with_none
    (k_with "pyIter str" => refine later ?_)
    k_steps
    refine ⟨?_⟩
    (rename Fr _ _ _ _ => lF'); (rename News _ _ _ _ => lN')
    (refine KStt.kst_text (nLed _ _) nPs nFa [] nPp ([], [], 0, false) (by rfl) lF' lN' ?kf ?kk ?kp ?turn ?done)
    case kf => exact StrsAre.nil
    case kk => (intro p hp; rw [List.mem_singleton.mp hp]; rfl)
    case kp => exact NInv.start
    all_goals clear lF' lN'
    case turn =>
      intro c pre post n t u h tk own heq hoff hf hp F N
      obtain ⟨us, cs, nn, p⟩ := c
      dsimp only [kstB, nPs, List.contains_nil] at F
      dsimp only [nLed] at N hoff
      dsimp only [nFa, nPp] at hf hp
      simp only [Bool.false_eq_true, if_false] at F
      simp only [List.cons_append] at N
      have kMark := kstMark
      have hlen := hf.length
      have hL := congrArg List.length heq
      simp only [List.length_append, List.length_cons, KStt.codes_length] at hL
      have hl := hp.len
      k_steps
      all_goals (refine ⟨?_⟩)
      all_goals (rename News _ _ _ _ => nE')
      all_goals (rename Fr _ _ _ _ => fE')
      all_goals (try simp only [List.push_toArray] at nE')
      all_goals (first | refine norm_end fE' nE' rfl hf rfl ?_ ?_ | refine norm_end fE' nE' rfl (hf.append' (.cons _ _ .nil)) rfl ?_ ?_ | refine norm_end fE' nE' rfl ((hf.append' (.cons _ _ .nil)).append' (.cons _ _ .nil)) rfl ?_ ?_)
      all_goals (first
        | (intro z h1 h2; simp only [if_neg h1, if_neg h2]; done)
        | exact ninv_skip hp (by assumption) (by assumption) (by assumption) (by assumption)
        | skip)
      all_goals (try (refine ninv_take hp ?_ ?_))
      all_goals (first
        | exact cnt_al (by assumption) (by assumption)
        | exact cnt_dot (by assumption) (by assumption)
        | exact np_0 (by assumption) (by assumption) (by assumption)
        | exact np_1 (by assumption) (by assumption) (by assumption)
        | exact np_2 (by assumption) hf (by assumption) (by assumption) (by assumption)
        | exact np_3 (by assumption) hf (by assumption) (by assumption) (by assumption)
        | exact np_4 (by assumption) hf (by assumption) (by assumption) (by assumption)
        | exact np_5 (by assumption) hf (by assumption) (by assumption) (by assumption)
        | skip)
    case done =>
      intro c u h tk hf hp F N
      obtain ⟨us, cs, nn, p⟩ := c
      dsimp only [kstB, nPs, List.contains_nil] at F
      dsimp only [nLed] at N
      dsimp only [nFa, nPp] at hf hp
      simp only [Bool.false_eq_true, if_false] at F
      have kMark := kstMark
      have hlen := hf.length
      have hl := hp.len
      simp only [KStt.codes_length] at hl
      k_steps
      (rename News _ _ _ _ => kN9)
      (rename Fr _ _ _ _ => kF9)
      rw [ninv_join hp]
      exact hret _ _ _ kF9 (fun q hq => kN9 q (List.mem_cons_of_mem _ hq))
  refine with_counts T0 X0 ?_ fun hCo => ?_
  · w_top off
    unfold CountsOk; dsimp only [CbClaim, CbLists, CbRet]; intros; rename_i hret
    refine wpAny_call ?_
    (k_dflt cell_enter)
    k_with_none
    k_steps
    (rename News _ _ _ _ => kN9)
    (rename Fr _ _ _ _ => kF9)
    exact hret 0 _ _ kF9 kN9
  refine with_sign T0 X0 ?_ fun hSi => ?_
  · w_top off
    unfold SignOk; dsimp only [CbClaim, CbLists, CbRet]; intros; rename_i hret
    refine wpAny_call ?_
    (k_dflt cell_enter)
    k_with_none
    k_steps
    all_goals (rename News _ _ _ _ => kN9)
    all_goals (rename Fr _ _ _ _ => kF9)
    · rw [lsc_0 (by assumption)] at hret; exact hret _ _ _ kF9 kN9
    · rw [lsc_1 (by assumption)] at hret; exact hret _ _ _ kF9 kN9
    · rw [lsc_2 (by assumption)] at hret; exact hret _ _ _ kF9 kN9
    · rw [lsc_3 (by assumption) (by assumption) (by assumption)] at hret; exact hret _ _ _ kF9 kN9
  refine with_alone T0 X0 ?_ fun hAl => ?_
  · w_top off
    unfold AloneOk
    intro news x t k u v dp un gd cn cs a ccd cl outer A₀ base h₀ L m s Q E hB F X N T hk hx hk0 hk1 hd hu hret
    have q1 : (Str.ofString "x-").length = 2 := by decide +kernel
    have q2 : (Str.ofString "-").length = 1 := by decide +kernel
    have q3 : (Str.ofString "x").length = 1 := by decide +kernel
    have q4 : (Str.ofString "a").length = 1 := by decide +kernel
    have q5 : (Str.ofString "b").length = 1 := by decide +kernel
    have q6 : (Str.ofString "a-").length = 2 := by decide +kernel
    refine wpAny_call ?_
    (k_dflt cell_enter)
    k_with_none
    k_steps
    all_goals (rename News _ _ _ _ => kN9)
    all_goals (rename Fr _ _ _ _ => kF9)
    all_goals first
      | exact hret _ _ kF9 kN9
      | exact hret _ _ kF9 (fun q hq => kN9 q (List.mem_cons_of_mem _ (List.mem_cons_of_mem _ (List.mem_cons_of_mem _ (List.mem_cons_of_mem _ hq)))))
  w_top off
  (rename Fr _ _ _ _ => F0)
  refine split_text F0 ?_ ?_
  · k_with_none
    k_steps
    all_goals (rename News _ _ _ _ => n9)
    all_goals (rename Fr _ _ _ _ => f9)
    all_goals (exact ⟨rfl, _, _, _, _, _, by first | exact text_len _ | exact empty_text, rfl, f9, n9⟩)
  · clear F0
    (rename News _ _ _ _ => N0); clear N0
    have q1 : (Str.ofString "x-").length = 2 := by decide +kernel
    have q2 : (Str.ofString "-").length = 1 := by decide +kernel
    intro x t news h tk hx F N
    k_with_none
    (k_with "pyIter ref" => ((with_reducible show wpAny _ _ (pyIter (Value.ref _)) (fun it s₂ => LoopAtV _ _ _ _ _ _ _ _ _ it s₂) _ _); (refine later ?_)))
    k_steps
    refine ⟨?_⟩
    (rename IsRange _ _ _ _ _ _ _ _ => rgX)
    (rename Fr _ _ _ _ => F8)
    refine loop_k (n := x.length + 1) rfl rgX (by omega) (by omega) F8 ?_ ?_
    · intro k t u h tk own hk0 hk1 F N
      dsimp only [kFrm] at F
      have kMark := kstMark
      clear F8 rgX
      k_steps
      all_goals (refine ⟨?_⟩)
      all_goals (rename News _ _ _ _ => nE')
      all_goals (rename Fr _ _ _ _ => fE')
      all_goals (refine loop_end fE' nE' (fun p hp => hp) (fun z h1 h2 h3 h4 => ?_))
      all_goals (simp only [kFrm, if_neg h1, if_neg h2, if_neg h3, if_neg h4])
    · intro u h tk F
      dsimp only [kFrm] at F
      clear F8 rgX
      k_steps
