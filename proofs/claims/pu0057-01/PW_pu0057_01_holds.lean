import PyProof.Rows.All
import Wide.All
import OpenK.AllK
import Wide.FinOn
import PySem.Challenge.RW_pu0057_01
open PySem PySem.W PyProof.Rows PySem.Calls PySem.Spec
set_option Elab.async false
set_option maxRecDepth 100000
set_option maxHeartbeats 8000000
namespace Mine

-- P1
/-! the plain law of the mail: orders as lists of numbers -/
/-- some, in this order, one behind the other -/
def isub : List Nat → List Nat → Bool
  | [], _ => true
  | _ :: _, [] => false
  | a :: as, b :: bs => if a = b then isub as bs else isub (a :: as) bs
def mailS (op : List Nat) (rows : List (Nat × Nat)) (c : Nat) : List (Nat × Nat) := rows.map (fun e => if isub [c, e.1] op then (e.1, e.2 + 1) else e) ++ [(c, 1)]
def mailR (op cl : List Nat) : List (Nat × Nat) := cl.foldl (mailS op) []
def dotAt (rows : List (Nat × Nat)) (c : Nat) : Nat := match rows.find? (fun e => e.1 == c) with | some e => e.2 | none => 0
def dotsOf (op cl : List Nat) : List Nat := op.map (dotAt (mailR op cl))
def putS (line : List Nat) (p : Nat × Nat) : List Nat := line.take (line.length + 1 - p.2) ++ p.1 :: line.drop (line.length + 1 - p.2)
def putIn (names dots : List Nat) : List Nat := (names.zip dots).foldl putS []
def popW (names dots : List Nat) (d : Nat) : List Nat → List Nat → List Nat × List Nat
  | line, [] => (line, [])
  | line, p :: ps => if d ≤ dots.getD p 0 then popW names dots d (line ++ [names.getD p 0]) ps else (line, p :: ps)
def outS (names dots : List Nat) (st : List Nat × List Nat) (k : Nat) : List Nat × List Nat := ((popW names dots (dots.getD k 0) st.1 st.2).1, k :: (popW names dots (dots.getD k 0) st.1 st.2).2)
def outline (names dots : List Nat) : List Nat := ((List.range names.length).foldl (outS names dots) ([], [])).1 ++ ((List.range names.length).foldl (outS names dots) ([], [])).2.map (names.getD · 0)
def evenB (dots : List Nat) : Bool := (List.range dots.length).all fun k => k == 0 || decide (dots.getD k 0 ≤ dots.getD (k - 1) 0 + 1)
def noCross (names cl : List Nat) : Bool := (List.range names.length).all fun z => (List.range z).all fun y => (List.range y).all fun x => !isub [names.getD z 0, names.getD x 0, names.getD y 0] cl

section
variable {f : Nat → Nat} (hf : ∀ a b, f a = f b → a = b)
include hf
theorem isub_map : ∀ (a b : List Nat), isub (a.map f) (b.map f) = isub a b
  | [], b => by simp [isub]
  | _ :: _, [] => rfl
  | a :: as, b :: bs => by
    have h1 := isub_map as bs
    have h2 := isub_map (a :: as) bs
    simp only [List.map_cons] at h2 ⊢
    unfold isub
    by_cases h : a = b
    · subst h; rw [if_pos rfl, if_pos rfl, h1]
    · rw [if_neg h, if_neg (fun e => h (hf _ _ e)), h2]
theorem mailS_map (op : List Nat) (rows : List (Nat × Nat)) (c : Nat) : mailS (op.map f) (rows.map fun e => (f e.1, e.2)) (f c) = (mailS op rows c).map fun e => (f e.1, e.2) := by
  unfold mailS
  rw [List.map_append, List.map_map, List.map_map]
  congr 1
  refine List.map_congr_left fun e _ => ?_
  have := isub_map hf [c, e.1] op
  simp only [List.map_cons, List.map_nil] at this
  show (if isub [f c, f e.1] (op.map f) = true then _ else _) = (fun e : Nat × Nat => (f e.1, e.2)) (if isub [c, e.1] op = true then _ else _)
  rw [this]
  split <;> rfl
theorem mailR_map (op cl : List Nat) : mailR (op.map f) (cl.map f) = (mailR op cl).map fun e : Nat × Nat => (f e.1, e.2) := by
  have key : ∀ (l : List Nat) (rows : List (Nat × Nat)), (l.map f).foldl (mailS (op.map f)) (rows.map fun e : Nat × Nat => (f e.1, e.2)) = (l.foldl (mailS op) rows).map fun e : Nat × Nat => (f e.1, e.2) := by
    intro l
    induction l with
    | nil => intro rows; rfl
    | cons c l ih => intro rows; simp only [List.map_cons, List.foldl_cons]; rw [mailS_map hf, ih]
  exact key cl []
theorem dotAt_map (rows : List (Nat × Nat)) (c : Nat) : dotAt (rows.map fun e : Nat × Nat => (f e.1, e.2)) (f c) = dotAt rows c := by
  unfold dotAt
  rw [List.find?_map]
  have : ((fun e : Nat × Nat => e.1 == f c) ∘ fun e : Nat × Nat => (f e.1, e.2)) = fun e : Nat × Nat => e.1 == c := by
    funext e
    show (f e.1 == f c) = (e.1 == c)
    rw [Bool.eq_iff_iff, beq_iff_eq, beq_iff_eq]
    exact ⟨hf _ _, fun h => by rw [h]⟩
  rw [this]
  cases rows.find? (fun e => e.1 == c) <;> rfl
theorem dotsOf_map (op cl : List Nat) : dotsOf (op.map f) (cl.map f) = dotsOf op cl := by
  unfold dotsOf
  rw [mailR_map hf, List.map_map]
  exact List.map_congr_left fun c _ => dotAt_map hf _ c
theorem noCross_map (names cl : List Nat) : noCross (names.map f) (cl.map f) = noCross names cl := by
  unfold noCross
  rw [List.length_map]
  have e : ∀ k, k < names.length → (names.map f).getD k 0 = f (names.getD k 0) := fun k hk => by
    simp only [List.getD_eq_getElem?_getD, List.getElem?_map, List.getElem?_eq_getElem hk]; rfl
  rw [Bool.eq_iff_iff]
  simp only [List.all_eq_true, List.mem_range]
  constructor
  · intro h z hz y hy x hx
    have := h z hz y hy x hx
    rw [e z hz, e x (by omega), e y (by omega)] at this
    have i := isub_map hf [names.getD z 0, names.getD x 0, names.getD y 0] cl
    simp only [List.map_cons, List.map_nil] at i
    rwa [i] at this
  · intro h z hz y hy x hx
    rw [e z hz, e x (by omega), e y (by omega)]
    have i := isub_map hf [names.getD z 0, names.getD x 0, names.getD y 0] cl
    simp only [List.map_cons, List.map_nil] at i
    rw [i]; exact h z hz y hy x hx
end
section
variable (f : Nat → Nat)
theorem putS_map (line : List Nat) (p : Nat × Nat) : putS (line.map f) (f p.1, p.2) = (putS line p).map f := by
  unfold putS
  rw [List.length_map, List.map_append, List.map_cons, List.map_take, List.map_drop]
theorem putIn_map (names dots : List Nat) : putIn (names.map f) dots = (putIn names dots).map f := by
  have key : ∀ (l : List (Nat × Nat)) (line : List Nat), (l.map fun p => (f p.1, p.2)).foldl putS (line.map f) = (l.foldl putS line).map f := by
    intro l
    induction l with
    | nil => intro line; rfl
    | cons p l ih => intro line; simp only [List.map_cons, List.foldl_cons]; rw [putS_map, ih]
  unfold putIn
  have : (names.map f).zip dots = (names.zip dots).map fun p => (f p.1, p.2) := by
    rw [List.zip_map_left]; rfl
  rw [this]
  exact key _ []
theorem popW_map (names dots : List Nat) (d : Nat) : ∀ (pile line : List Nat), (∀ p ∈ pile, p < names.length) → popW (names.map f) dots d (line.map f) pile = ((popW names dots d line pile).1.map f, (popW names dots d line pile).2)
  | [], line, _ => rfl
  | p :: ps, line, h => by
    unfold popW
    split
    · have e : (names.map f).getD p 0 = f (names.getD p 0) := by
        simp only [List.getD_eq_getElem?_getD, List.getElem?_map, List.getElem?_eq_getElem (h p (.head _))]; rfl
      have := popW_map names dots d ps (line ++ [names.getD p 0]) (fun q hq => h q (.tail _ hq))
      rw [List.map_append] at this
      rw [e]; exact this
    · rfl
theorem popW_sub (names dots : List Nat) (d : Nat) : ∀ (pile line : List Nat), ∀ q ∈ (popW names dots d line pile).2, q ∈ pile
  | [], line => fun q h => h
  | p :: ps, line => by
    unfold popW
    split
    · exact fun q h => .tail _ (popW_sub names dots d ps _ q h)
    · exact fun q h => h
theorem outS_lt (names dots : List Nat) (n : Nat) : ∀ (ks : List Nat) (st : List Nat × List Nat), (∀ k ∈ ks, k < n) → (∀ p ∈ st.2, p < n) → ∀ p ∈ (ks.foldl (outS names dots) st).2, p < n
  | [], st, _, h => h
  | k :: ks, st, hk, h => by
    refine outS_lt names dots n ks _ (fun q hq => hk q (.tail _ hq)) fun p hp => ?_
    rcases List.mem_cons.mp hp with rfl | hp
    · exact hk _ (.head _)
    · exact h p (popW_sub _ _ _ _ _ p hp)
theorem outline_map (names dots : List Nat) : outline (names.map f) dots = (outline names dots).map f := by
  have key : ∀ (ks : List Nat) (st : List Nat × List Nat), (∀ k ∈ ks, k < names.length) → (∀ p ∈ st.2, p < names.length) → ks.foldl (outS (names.map f) dots) (st.1.map f, st.2) = ((ks.foldl (outS names dots) st).1.map f, (ks.foldl (outS names dots) st).2) := by
    intro ks
    induction ks with
    | nil => intro st _ _; rfl
    | cons k ks ih =>
      intro st hk hp
      simp only [List.foldl_cons]
      rw [← ih (outS names dots st k) (fun q hq => hk q (.tail _ hq)) (fun p hp' => by
        rcases List.mem_cons.mp hp' with rfl | hp'
        · exact hk _ (.head _)
        · exact hp p (popW_sub _ _ _ _ _ p hp'))]
      congr 1
      unfold outS
      dsimp only
      rw [popW_map f names dots _ st.2 st.1 hp]
  unfold outline
  rw [List.length_map]
  have k0 := key (List.range names.length) ([], []) (fun k hk => List.mem_range.mp hk) (fun p hp => nomatch hp)
  simp only [List.map_nil] at k0
  rw [k0, List.map_append, List.map_map]
  congr 1
  refine List.map_congr_left fun p hp => ?_
  have hlt := outS_lt names dots names.length (List.range names.length) ([], []) (fun k hk => List.mem_range.mp hk) (fun p hp => nomatch hp) p hp
  show (names.map f).getD p 0 = f (names.getD p 0)
  simp only [List.getD_eq_getElem?_getD, List.getElem?_map, List.getElem?_eq_getElem hlt]; rfl
end
/-- all lists of n numbers below k -/
def lists (k : Nat) : Nat → List (List Nat)
  | 0 => [[]]
  | n + 1 => (lists k n).flatMap fun l => (List.range k).map fun x => x :: l
theorem mem_lists (k : Nat) : ∀ (l : List Nat), (∀ x ∈ l, x < k) → l ∈ lists k l.length
  | [], _ => .head _
  | x :: l, h => by
    show x :: l ∈ (lists k l.length).flatMap fun l => (List.range k).map fun x => x :: l
    exact List.mem_flatMap.mpr ⟨l, mem_lists k l (fun y hy => h y (.tail _ hy)), List.mem_map.mpr ⟨x, List.mem_range.mpr (h x (.head _)), rfl⟩⟩
def nodupB : List Nat → Bool
  | [] => true
  | a :: l => !l.contains a && nodupB l
theorem nodupB_of : ∀ {l : List Nat}, l.Nodup → nodupB l = true
  | [], _ => rfl
  | a :: l, h => by
    have := List.nodup_cons.mp h
    unfold nodupB
    rw [nodupB_of this.2]
    simp [this.1]
def dotsOk (dots : List Nat) : Bool := (List.range dots.length).all fun k => decide (1 ≤ dots.getD k 0) && decide (dots.getD k 0 ≤ k + 1)
def okB (n : Nat) (s : List Nat) : Bool :=
  (putIn (List.range n) (dotsOf (List.range n) s) == s) && dotsOk (dotsOf (List.range n) s) &&
  ((outline (List.range n) (dotsOf (List.range n) s) == s) == evenB (dotsOf (List.range n) s)) && (evenB (dotsOf (List.range n) s) == noCross (List.range n) s)
theorem ok_all : ∀ n ∈ List.range 6, ∀ s ∈ lists n n, nodupB s = true → okB n s = true := by decide +kernel

theorem dotsOf_len (op cl : List Nat) : (dotsOf op cl).length = op.length := by unfold dotsOf; rw [List.length_map]
theorem nodup_inj : ∀ {l : List Nat} (_ : l.Nodup) {i j : Nat} (hi : i < l.length) (hj : j < l.length), l[i] = l[j] → i = j := by
  intro l h i j hi hj e
  have p := List.pairwise_iff_getElem.mp h
  rcases Nat.lt_trichotomy i j with q | q | q
  · exact absurd e (p i j hi hj q)
  · exact q
  · exact absurd e.symm (p j i hj hi q)
/-- the plain law of orders of names -/
theorem plain_mail {op cl : List Nat} (ho : op.Nodup) (hc : cl.Nodup) (hl : cl.length = op.length) (hm : ∀ c ∈ cl, c ∈ op) (hn : op.length ≤ 5) (hlt : ∀ c ∈ op, c < 1000) :
    putIn op (dotsOf op cl) = cl ∧ dotsOk (dotsOf op cl) = true ∧ (outline op (dotsOf op cl) == cl) = evenB (dotsOf op cl) ∧ evenB (dotsOf op cl) = noCross op cl := by
  have hinj : ∀ i j, i < op.length → j < op.length → op.getD i 0 = op.getD j 0 → i = j := fun i j hi hj e => by
    simp only [List.getD_eq_getElem?_getD, List.getElem?_eq_getElem hi, List.getElem?_eq_getElem hj, Option.getD_some] at e
    exact nodup_inj ho hi hj e
  have hlt' : ∀ i, i < op.length → op.getD i 0 < 1000 := fun i hi => hlt _ (by
    simp only [List.getD_eq_getElem?_getD, List.getElem?_eq_getElem hi, Option.getD_some]; exact List.getElem_mem hi)
  obtain ⟨f, hfd⟩ : ∃ f : Nat → Nat, f = fun i => if i < op.length then op.getD i 0 else 1000 + i := ⟨_, rfl⟩
  have hf : ∀ a b, f a = f b → a = b := fun a b e => by
    rw [hfd] at e
    dsimp only at e
    by_cases h1 : a < op.length
    · by_cases h2 : b < op.length
      · rw [if_pos h1, if_pos h2] at e; exact hinj a b h1 h2 e
      · rw [if_pos h1, if_neg h2] at e; have := hlt' a h1; omega
    · by_cases h2 : b < op.length
      · rw [if_neg h1, if_pos h2] at e; have := hlt' b h2; omega
      · rw [if_neg h1, if_neg h2] at e; omega
  have hop : op = (List.range op.length).map f := by
    apply List.ext_getElem (by simp)
    intro i h1 h2
    rw [List.getElem_map, List.getElem_range, hfd]
    dsimp only
    rw [if_pos h1]
    simp [List.getD_eq_getElem?_getD, h1]
  have hcl : cl = (cl.map op.idxOf).map f := by
    rw [List.map_map]
    conv => lhs; rw [← List.map_id cl]
    refine List.map_congr_left fun c hcm => ?_
    have h1 := List.idxOf_lt_length_of_mem (hm c hcm)
    show c = f (op.idxOf c)
    rw [hfd]
    dsimp only
    rw [if_pos h1]
    simp [List.getD_eq_getElem?_getD, h1]
  obtain ⟨s, hs⟩ : ∃ s, s = cl.map op.idxOf := ⟨_, rfl⟩
  have hsl : s.length = op.length := by rw [hs, List.length_map, hl]
  have hsb : ∀ x ∈ s, x < op.length := fun x hx => by
    rw [hs] at hx
    obtain ⟨c, hcm, rfl⟩ := List.mem_map.mp hx
    exact List.idxOf_lt_length_of_mem (hm c hcm)
  rw [← hs] at hcl
  have hsn : s.Nodup := by
    rw [hcl] at hc
    rw [List.Nodup, List.pairwise_map] at hc
    exact hc.imp fun h e => h (by rw [e])
  have hmem := mem_lists op.length s hsb
  rw [hsl] at hmem
  have ok := ok_all op.length (List.mem_range.mpr (by omega)) s hmem (nodupB_of hsn)
  obtain ⟨n, hn'⟩ : ∃ n, n = op.length := ⟨_, rfl⟩
  rw [← hn'] at ok hop
  unfold okB at ok
  simp only [Bool.and_eq_true, beq_iff_eq] at ok
  obtain ⟨⟨⟨k1, k2⟩, k3⟩, k4⟩ := ok
  have hd : dotsOf op cl = dotsOf (List.range n) s := by rw [hop, hcl]; exact dotsOf_map hf _ _
  rw [hd]
  refine ⟨?_, k2, ?_, ?_⟩
  · rw [hop, putIn_map, k1, hcl]
  · rw [← k3, hop, outline_map, hcl]
    rw [Bool.eq_iff_iff, beq_iff_eq, beq_iff_eq]
    exact ⟨fun h => (List.map_inj_right hf).mp h, fun h => by rw [h]⟩
  · rw [k4, hop, hcl, noCross_map hf]

-- S1
/-! texts of the mail, in plain data -/
section
open Builtin Builtin.Str
def find4 (x y : Str) (i j : Int) : Int := match occurrences x y (fromIndex x.length i) (min (fromIndex x.length j) x.length) 1 with | k :: _ => (k : Int) | [] => -1
def rfind4 (x y : Str) (i j : Int) : Int := match lastOccurrence x y (fromIndex x.length i) (min (fromIndex x.length j) x.length) with | some k => (k : Int) | none => -1
theorem gives_find4 (x y : Str) (i j : Int) (t u v v' : Tok) : Gives («str.find» ⟨[.str x t, .str y u, .int i v, .int j v'], []⟩) (.int (find4 x y i j)) := by
  show Gives (match occurrences x y (fromIndex x.length i) (min (fromIndex x.length j) x.length) 1 with | k :: _ => retInt k | [] => (do rule "str.find.not-found"; retInt (-1))) _
  unfold find4
  cases occurrences x y (fromIndex x.length i) (min (fromIndex x.length j) x.length) 1 with
  | nil => exact .rule (.of_eq rfl)
  | cons k _ => exact .of_eq rfl
theorem gives_rfind4 (x y : Str) (i j : Int) (t u v v' : Tok) : Gives («str.rfind» ⟨[.str x t, .str y u, .int i v, .int j v'], []⟩) (.int (rfind4 x y i j)) := by
  show Gives (match lastOccurrence x y (fromIndex x.length i) (min (fromIndex x.length j) x.length) with | some k => retInt k | none => (do rule "str.rfind.not-found"; retInt (-1))) _
  unfold rfind4
  cases lastOccurrence x y (fromIndex x.length i) (min (fromIndex x.length j) x.length) with
  | none => exact .rule (.of_eq rfl)
  | some k => exact .of_eq rfl
section
variable {prog : Program} {w : World} {A : Around} {E : Value → Shared → Prop} {s : Shared} {x y : Str} {t u v v' : Tok} {i j : Int} {Q : Value → Shared → Prop}
theorem call_find4 (hq : Q (.int (find4 x y i j) s.toks) { s with toks := s.toks + 1 }) : wpAny (model prog w) A (call (.builtin "str.find") [.str x t, .str y u, .int i v, .int j v']) Q E s :=
  call_gives F.slot_str_find (typeIs_str _ _ _) F.entry_str_find (F.args_str_find_4 _ _ _ _) (gives_find4 x y i j t u v v') hq
theorem call_rfind4 (hq : Q (.int (rfind4 x y i j) s.toks) { s with toks := s.toks + 1 }) : wpAny (model prog w) A (call (.builtin "str.rfind") [.str x t, .str y u, .int i v, .int j v']) Q E s :=
  call_gives F.slot_str_rfind (typeIs_str _ _ _) F.entry_str_rfind (F.args_str_rfind_4 _ _ _ _) (gives_rfind4 x y i j t u v v') hq
end
theorem occ1 (x y : Str) {p : Nat} (hp : p ≤ x.length) : find4 x y (p : Int) (x.length : Int) = match occurrences x y p x.length 1 with | k :: _ => (k : Int) | [] => -1 := by
  unfold find4
  have e1 : fromIndex x.length (p : Int) = p := by unfold fromIndex; rw [if_neg (by omega)]; omega
  have e2 : min (fromIndex x.length (x.length : Int)) x.length = x.length := by unfold fromIndex; rw [if_neg (by omega)]; omega
  rw [e1, e2]
/-- an empty text is found where one stands -/
theorem find4_nil (x : Str) {p : Nat} (hp : p ≤ x.length) : find4 x ⟨#[]⟩ (p : Int) (x.length : Int) = (p : Int) := by
  rw [occ1 x _ hp]
  have at0 : ∀ i, i ≤ x.length → StrLaws.At x ⟨#[]⟩ x.length i := fun i hi => ⟨hi, by
    unfold subAt; simp [Str.length]; omega⟩
  rcases StrLaws.occ_head_from x ⟨#[]⟩ p 1 (Nat.le_refl 1) with ⟨_, hn⟩ | ⟨k, r, h0, hlo, hk, hn⟩
  · exact absurd (at0 p hp) (hn p (Nat.le_refl _))
  · rw [h0]
    have : k = p := by
      rcases Nat.lt_or_ge p k with q | q
      · exact absurd (at0 p hp) (hn p (Nat.le_refl _) q)
      · omega
    rw [this]
theorem find4_one (g : List Nat) (c : Nat) {p : Nat} (hp : p ≤ g.length) :
    (find4 ⟨g.toArray⟩ ⟨#[c]⟩ (p : Int) (g.length : Int) = -1 ∧ ∀ k, p ≤ k → g[k]? ≠ some c) ∨ ∃ k : Nat, find4 ⟨g.toArray⟩ ⟨#[c]⟩ (p : Int) (g.length : Int) = (k : Int) ∧ p ≤ k ∧ g[k]? = some c ∧ ∀ j, p ≤ j → j < k → g[j]? ≠ some c := by
  have hl : (⟨g.toArray⟩ : Str).length = g.length := by simp [Str.length]
  have o := occ1 ⟨g.toArray⟩ ⟨#[c]⟩ (p := p) (by rw [hl]; exact hp)
  rw [hl] at o
  rw [o]
  rcases StrLaws.occ_head_from ⟨g.toArray⟩ ⟨#[c]⟩ p 1 (Nat.le_refl 1) with ⟨h0, hn⟩ | ⟨k, r, h0, hlo, hk, hn⟩
  · rw [hl] at h0
    rw [h0]
    exact .inl ⟨rfl, fun k hk e => hn k hk ((StrLaws.subAt_one _ _ _).mpr e)⟩
  · rw [hl] at h0
    rw [h0]
    exact .inr ⟨k, rfl, hlo, (StrLaws.subAt_one _ _ _).mp hk, fun j h1 h2 e => hn j h1 h2 ((StrLaws.subAt_one _ _ _).mpr e)⟩
theorem isub_cons (a b : Nat) (as bs : List Nat) : isub (a :: as) (b :: bs) = if a = b then isub as bs else isub (a :: as) bs := by rw [isub]
theorem isub_none : ∀ (l : List Nat) {c : Nat} {r : List Nat}, (∀ k : Nat, l[k]? ≠ some c) → isub (c :: r) l = false
  | [], _, _, _ => rfl
  | b :: l, c, r, h => by
    rw [isub_cons, if_neg (fun e => h 0 (by rw [e]; rfl))]
    exact isub_none l fun k => h (k + 1)
theorem isub_at : ∀ (l : List Nat) {c : Nat} {r : List Nat} (k : Nat), l[k]? = some c → (∀ j < k, l[j]? ≠ some c) → isub (c :: r) l = isub r (l.drop (k + 1))
  | [], _, _, _, h, _ => by simp at h
  | b :: l, c, r, 0, h, _ => by
    have : b = c := by simpa using h
    subst this
    rw [isub_cons, if_pos rfl]; rfl
  | b :: l, c, r, k + 1, h, hn => by
    rw [isub_cons, if_neg (fun e => hn 0 (Nat.succ_pos _) (by rw [e]; rfl))]
    exact isub_at l k (by simpa using h) fun j hj => by simpa using hn (j + 1) (by omega)
theorem isub_drop_none {g : List Nat} {c p : Nat} {r : List Nat} (h : ∀ k, p ≤ k → g[k]? ≠ some c) : isub (c :: r) (g.drop p) = false :=
  isub_none _ fun k => by rw [List.getElem?_drop]; exact h _ (by omega)
theorem isub_drop_at {g : List Nat} {c p k : Nat} {r : List Nat} (hk : p ≤ k) (h : g[k]? = some c) (hn : ∀ j, p ≤ j → j < k → g[j]? ≠ some c) : isub (c :: r) (g.drop p) = isub r (g.drop (k + 1)) := by
  rw [isub_at (g.drop p) (k - p) (by rw [List.getElem?_drop, show p + (k - p) = k by omega]; exact h) (fun j hj => by rw [List.getElem?_drop]; exact hn _ (by omega) (by omega)), List.drop_drop]
  congr 2; omega
theorem isub_nil (g : List Nat) : isub [] g = true := by cases g <;> rfl
end

-- Hd
open_top hd for PySem.Challenge.rw_pu0057_01

-- R1
section
open Builtin Builtin.Str Builtin.Re

theorem owner_re : Manifest.owners.lookup (String.ofList ['n', 'r', 'e', 't', 't', 'a', 'P', '.', 'e', 'r'].reverse) = some Manifest.sig_re_Pattern := by kernel_rfl
theorem plainAttrs_re : PlainAttrs "re.Pattern" :=
  ⟨⟨"object.__getattribute__", by rw [typeLookup_type, builtinLookup_eq_fast]; kernel_rfl, by decide +kernel⟩, by rw [typeLookup_type, builtinLookup_eq_fast]; kernel_rfl⟩
theorem slot_search : Slot "re.Pattern" "search" "re.Pattern.search" :=
  .of (owner := "re.Pattern") (n := "search") (by rw [typeLookup_type, builtinLookup_eq_fast]; kernel_rfl) (by decide +kernel) (by decide +kernel) (by decide +kernel)
    (by first | exact .inl (by decide +kernel) | exact .inr (by decide +kernel)) (by rw [isSubtype_type]; kernel_rfl)
theorem type_search : typeOf (.builtin "re.Pattern.search") = pure (.type "method_descriptor") := by show builtinType _ = _; rw [builtinType_eq_fast]; kernel_rfl
theorem entry_search : entryFor table "re.Pattern.search" = some Builtin.«re.Pattern.search» := entryFor_of_tree (by kernel_rfl)
theorem args_search (a b : Value) : argsOk "re.Pattern.search" ⟨[a, b], []⟩ := by
  unfold argsOk; rw [signature?_of (id := "re.Pattern.search") (n := ['h', 'c', 'r', 'a', 'e', 's']) (o := ['n', 'r', 'e', 't', 't', 'a', 'P', '.', 'e', 'r']) (by kernel_rfl) owner_re]; kernel_rfl
theorem slot_sub : Slot "re.Pattern" "sub" "re.Pattern.sub" :=
  .of (owner := "re.Pattern") (n := "sub") (by rw [typeLookup_type, builtinLookup_eq_fast]; kernel_rfl) (by decide +kernel) (by decide +kernel) (by decide +kernel)
    (by first | exact .inl (by decide +kernel) | exact .inr (by decide +kernel)) (by rw [isSubtype_type]; kernel_rfl)
theorem type_sub : typeOf (.builtin "re.Pattern.sub") = pure (.type "method_descriptor") := by show builtinType _ = _; rw [builtinType_eq_fast]; kernel_rfl
theorem entry_sub : entryFor table "re.Pattern.sub" = some Builtin.«re.Pattern.sub» := entryFor_of_tree (by kernel_rfl)
theorem entry_subloop : entryFor table "re.Pattern.sub.loop" = some Builtin.«re.Pattern.sub.loop» := entryFor_of_tree (by kernel_rfl)
theorem args_sub (a b c : Value) : argsOk "re.Pattern.sub" ⟨[a, b, c], []⟩ := by
  unfold argsOk; rw [signature?_of (id := "re.Pattern.sub") (n := ['b', 'u', 's']) (o := ['n', 'r', 'e', 't', 't', 'a', 'P', '.', 'e', 'r']) (by kernel_rfl) owner_re]; kernel_rfl

section
variable {M : Model} {A : Around} {E : Value → Shared → Prop} {s : Shared}
theorem getMethod_re {l : Addr} {o : Obj} {pl : Sem Bool} {name : Str} {id : String} {Q : Value × List Value → Shared → Prop} (slot : Slot "re.Pattern" name id) (ty : typeOf (.builtin id) = pure (.type "method_descriptor"))
    (ho : s.heap.get? l = some o) (hc : o.cls = .type "re.Pattern") (hd : o.dict = none)
    (h : Q (.builtin id, [.ref l]) s) : wpAny M A (getMethod (.ref l) name pl) Q E s := by
  have hT : s.TypeIs (.ref l) "re.Pattern" := ⟨o, ho, hc⟩
  obtain ⟨⟨ga, hga, hcan⟩, hgn⟩ := plainAttrs_re
  unfold getMethod
  refine wpAny_bind (wpAny_specialOf hT hga ?_)
  show wpAny M A (if (Manifest.canonical ga != "object.__getattribute__") = true then _ else _) Q E s
  rw [hcan, if_neg Bool.false_ne_true]
  refine wpAny_bind (wpAny_specialOf hT hgn ?_)
  refine wpAny_bind (wpAny_specialOf hT slot.lookup ?_)
  refine wpAny_bind (wpAny_of_eq ty ?_)
  refine wpAny_bind (wpAny_load ho ?_)
  rw [hd]
  exact wpAny_bind (wpAny_rule (wpAny_pure h))
end
end

-- R2
section
open Builtin Builtin.Str Builtin.Re

theorem runFor_some {m : Sre.M} (h : m.outcome.isSome = true) : ∀ n, m.runFor n = m
  | 0 => rfl
  | n + 1 => by unfold Sre.M.runFor; rw [if_pos h]
theorem runFor_add (a b : Nat) (m : Sre.M) : m.runFor (a + b) = (m.runFor a).runFor b := by
  induction a generalizing m with
  | zero => rw [Nat.zero_add]; rfl
  | succ a ih =>
    rw [Nat.succ_add]
    by_cases h : m.outcome.isSome = true
    · rw [runFor_some h, runFor_some h, runFor_some h]
    · have e : ∀ k, m.runFor (k + 1) = m.step.runFor k := fun k => by
        show (if m.outcome.isSome = true then m else Sre.M.runFor k m.step) = _
        rw [if_neg h]
      rw [e, e, ih]
section
variable {M : Model} {A : Around} {E : Value → Shared → Prop} {s : Shared}
theorem wp_reDrive {Q : Sre.M → Shared → Prop} : ∀ (k n : Nat) (m : Sre.M), k ≤ n → (m.runFor (4 * (k + 1))).outcome.isSome = true → Q (m.runFor (4 * (k + 1))) s → wpAny M A (reDrive (n + 1) m) Q E s
  | 0, n, m, _, ho, hq => by
    show wpAny M A (if (m.runFor 4).outcome.isSome = true then pure (m.runFor 4) else do rule "sre.turn"; reDrive n (m.runFor 4)) Q E s
    rw [if_pos ho]; exact wpAny_pure hq
  | k + 1, n, m, hn, ho, hq => by
    show wpAny M A (if (m.runFor 4).outcome.isSome = true then pure (m.runFor 4) else do rule "sre.turn"; reDrive n (m.runFor 4)) Q E s
    have e : m.runFor (4 * (k + 1 + 1)) = (m.runFor 4).runFor (4 * (k + 1)) := by rw [← runFor_add]; congr 1; omega
    rw [e] at ho hq
    by_cases h : (m.runFor 4).outcome.isSome = true
    · rw [if_pos h]; rw [runFor_some h] at hq; exact wpAny_pure hq
    · rw [if_neg h]
      obtain ⟨n', rfl⟩ : ∃ n', n = n' + 1 := ⟨n - 1, by omega⟩
      exact wpAny_bind (wpAny_rule (wp_reDrive k n' (m.runFor 4) (by omega) ho hq))
theorem wp_rules {α : Type} (l : List α) (c : α → Bool) (tag : α → String) {Q : PUnit → Shared → Prop} (h : Q ⟨⟩ s) :
    wpAny M A (forIn l PUnit.unit fun i _ => if c i = true then (do rule (tag i); pure (ForInStep.yield PUnit.unit)) else pure (ForInStep.yield PUnit.unit)) Q E s := by
  refine wpAny_forIn_list _ (fun _ _ s' => s' = s) Q (fun x rest b s' e => ?_) (fun b s' e => e ▸ h) l _ rfl
  subst e
  by_cases hc : c x = true
  · rw [if_pos hc]; exact wpAny_bind (wpAny_rule (wpAny_pure rfl))
  · rw [if_neg hc]; exact wpAny_pure rfl
theorem wp_runToEnd {Q : Option Sre.M → Shared → Prop} {m : Sre.M} (k : Nat) (hk : k < 2 ^ 64) (b : Bool) (ho : (m.runFor (4 * (k + 1))).outcome = some (if b then .matched else .failed))
    (hq : Q (if b then some (m.runFor (4 * (k + 1))) else none) s) : wpAny M A (reRunToEnd m) Q E s := by
  unfold reRunToEnd
  refine wpAny_bind (wp_reDrive (n := 2 ^ 64 - 1) k m (by omega) (by rw [ho]; rfl) ?_)
  refine wpAny_bind (wp_rules _ _ _ ?_)
  rw [ho]
  cases b with
  | true => exact wpAny_pure hq
  | false => exact wpAny_pure hq
end

def fails (code text : Array Nat) : Bool := match ((Sre.forSearch code text 0 0 text.size false).runFor 4).outcome with | some .failed => true | _ => false
theorem fails_eq {code text : Array Nat} (h : fails code text = true) : ((Sre.forSearch code text 0 0 text.size false).runFor (4 * (0 + 1))).outcome = some .failed := by
  unfold fails at h
  split at h
  · assumption
  · cases h
def rawCode (codeV : Array Value) : Array Nat := (codeV.map reRawOf).map (·.toNat)
section
variable {prog : Program} {w : World} {A : Around} {E : Value → Shared → Prop} {s : Shared}
theorem named_search (a : Value) : reNamed "re.Pattern.search" "search" ["string", "pos", "endpos"] 1 [a] [] = pure [some a, none, none] := rfl
theorem clip_max {n : Nat} (h : n < 2 ^ 63) : min (2 ^ 63 - 1 : Int).toNat n = n := by omega
theorem call_search {P C : Addr} {po co : Obj} {f0 f1 : Value} {codeV : Array Value} {n : Nat} {x : Str} {t : Tok} {Q : Value → Shared → Prop}
    (hP : s.heap.get? P = some po) (hPc : po.cls = .type "re.Pattern") (hPd : po.data = .fields #[f0, f1, .int 0 0, .none, .none, .ref C, .int 0 0])
    (hC : s.heap.get? C = some co) (hCd : co.data = .seq codeV n) (hx : x.cps.size < 2 ^ 63) (hf : fails (rawCode codeV) x.cps = true) (h : Q .none s) :
    wpAny (model prog w) A (call (.builtin "re.Pattern.search") [.ref P, .str x t]) Q E s := by
  refine wpAny_call (codeAny_call_builtin slot_search.plain entry_search (slot_search.check _ _ _ _ _ _ _ _ ⟨po, hP, hPc⟩ (args_search _ _) ?_))
  unfold Builtin.«re.Pattern.search»
  refine wpAny_bind ?_
  unfold reTarget
  dsimp only
  rw [named_search]
  refine wpAny_bind (wpAny_pure ?_)
  dsimp only
  refine wpAny_bind (wpAny_pure (wpAny_bind (wpAny_pure ?_)))
  refine wpAny_bind (wpAny_fieldsOf hP hPd ?_)
  refine wpAny_bind (wpAny_pure ?_)
  dsimp only
  refine wpAny_bind ?_
  refine wpAny_of_eq (show reNoCollectionInside (Value.str x t) 0 = pure () from rfl) ?_
  refine wpAny_bind ?_
  refine wpAny_bind (wpAny_seqItems hC hCd (wpAny_pure ?_))
  refine wpAny_pure ?_
  dsimp only
  have e1 : min (Int.toNat 0) x.cps.size = 0 := by simp
  rw [e1, clip_max hx]
  unfold reAnswer
  dsimp only
  exact wpAny_bind (wp_runToEnd 0 (by decide) false (fails_eq hf) (wpAny_pure h))
end

/-- the signs that the two patterns let pass -/
def okSign (c : Nat) : Bool := 32 ≤ c && c < 127
theorem fails74 {c : Nat} (h : okSign c = true) : fails (rawCode #[Value.int 14 0, Value.int 10 0, Value.int 4 0, Value.int 1 0, Value.int 1 0, Value.int 22 0, Value.int 0 0, Value.int 31 0, Value.int 16 0, Value.int 127 0, Value.int 0 0, Value.int 13 0, Value.int 7 0, Value.int 22 0, Value.int 0 0, Value.int 31 0, Value.int 16 0, Value.int 127 0, Value.int 0 0, Value.int 1 0]) #[c] = true := by
  have z : ((List.range 127).all fun c => !okSign c || fails (rawCode #[Value.int 14 0, Value.int 10 0, Value.int 4 0, Value.int 1 0, Value.int 1 0, Value.int 22 0, Value.int 0 0, Value.int 31 0, Value.int 16 0, Value.int 127 0, Value.int 0 0, Value.int 13 0, Value.int 7 0, Value.int 22 0, Value.int 0 0, Value.int 31 0, Value.int 16 0, Value.int 127 0, Value.int 0 0, Value.int 1 0]) #[c]) = true := by decide +kernel
  have hc : c < 127 := by unfold okSign at h; simp at h; omega
  have := List.all_eq_true.mp z c (List.mem_range.mpr hc)
  rw [h] at this; simpa using this
theorem fails79 {c : Nat} (h : okSign c = true) : fails (rawCode #[Value.int 14 0, Value.int 14 0, Value.int 4 0, Value.int 1 0, Value.int 1 0, Value.int 9 0, Value.int 4294966783 0, Value.int 0 0, Value.int 0 0, Value.int 2147483648 0, Value.int 0 0, Value.int 0 0, Value.int 0 0, Value.int 0 0, Value.int 0 0, Value.int 13 0, Value.int 11 0, Value.int 9 0, Value.int 4294966783 0, Value.int 0 0, Value.int 0 0, Value.int 2147483648 0, Value.int 0 0, Value.int 0 0, Value.int 0 0, Value.int 0 0, Value.int 0 0, Value.int 1 0]) #[c] = true := by
  have z : ((List.range 127).all fun c => !okSign c || fails (rawCode #[Value.int 14 0, Value.int 14 0, Value.int 4 0, Value.int 1 0, Value.int 1 0, Value.int 9 0, Value.int 4294966783 0, Value.int 0 0, Value.int 0 0, Value.int 2147483648 0, Value.int 0 0, Value.int 0 0, Value.int 0 0, Value.int 0 0, Value.int 0 0, Value.int 13 0, Value.int 11 0, Value.int 9 0, Value.int 4294966783 0, Value.int 0 0, Value.int 0 0, Value.int 2147483648 0, Value.int 0 0, Value.int 0 0, Value.int 0 0, Value.int 0 0, Value.int 0 0, Value.int 1 0]) #[c]) = true := by decide +kernel
  have hc : c < 127 := by unfold okSign at h; simp at h; omega
  have := List.all_eq_true.mp z c (List.mem_range.mpr hc)
  rw [h] at this; simpa using this
end

-- K0

/-- a call's contract: from a ledger, to what comes back and the ledger then -/
def Claim (w : World) (f : Addr) (vs : List Value) (kw : List (Str × Value)) (dd : Nat) (news : List (Addr × Obj)) (R : Value → List (Addr × Obj) → Prop) : Prop :=
  ∀ (loose : List Str) (mean : ExcName → Option Value) (mg mb : Str → Option Value) (dp un : Nat) (gd : Option (List Code)) (cn : Str) (cs : Scope) (a : Addr) (ccd : Value) (cl : List (Str × Addr)) (outer : List Env) (A₀ : Around) (base h₀ : Heap) (L : Addr) (m : Str → Option Value) (s : Shared) (Q E : Value → Shared → Prop),
    Below A₀ base outer h₀ → Fr h₀ L s.heap m → (hd.heap_39 w.params).In h₀ → News h₀ L s.heap news → Top hd.view_39 loose mean mg mb h₀ → cs.kind = .function → dp + dd < recursionLimit → un + 8 * dd < cLine →
    (∀ r news' h' tk', R r news' → Fr h₀ L h' m → News h₀ L h' news' → Q r { s with heap := h', toks := tk' }) →
    wpAny (model PySem.Challenge.rw_pu0057_01.row.prog w) (ktrTop dp un gd cn cs L a ccd cl outer) (call (.ref f) vs kw) Q E s
theorem Claim.use {w : World} {f : Addr} {vs : List Value} {kw : List (Str × Value)} {dd : Nat} {news : List (Addr × Obj)} {R : Value → List (Addr × Obj) → Prop} (C : Claim w f vs kw dd news R)
    {loose : List Str} {mean : ExcName → Option Value} {mg mb : Str → Option Value} {dp un : Nat} {gd : Option (List Code)} {cn : Str} {cs : Scope} {a : Addr} {ccd : Value} {cl : List (Str × Addr)} {outer : List Env} {A₀ : Around} {base h₀ : Heap} {L : Addr} {m : Str → Option Value} {s : Shared} {Q E : Value → Shared → Prop}
    (B : Below A₀ base outer h₀) (F : Fr h₀ L s.heap m) (X : (hd.heap_39 w.params).In h₀) (N : News h₀ L s.heap news) (T : Top hd.view_39 loose mean mg mb h₀) (hcs : cs.kind = .function) (hdp : dp + dd < recursionLimit) (hun : un + 8 * dd < cLine)
    (hret : ∀ r news' h' tk', R r news' → Fr h₀ L h' m → News h₀ L h' news' → Q r { s with heap := h', toks := tk' }) :
    wpAny (model PySem.Challenge.rw_pu0057_01.row.prog w) (ktrTop dp un gd cn cs L a ccd cl outer) (call (.ref f) vs kw) Q E s :=
  C _ _ _ _ _ _ _ _ _ _ _ _ _ _ _ _ _ _ _ _ _ B F X N T hcs hdp hun hret

/-- the same, where the base holds something -/
def ClaimB (w : World) (Pb : Heap → Prop) (f : Addr) (vs : List Value) (kw : List (Str × Value)) (dd : Nat) (news : List (Addr × Obj)) (R : Value → List (Addr × Obj) → Prop) : Prop :=
  ∀ (loose : List Str) (mean : ExcName → Option Value) (mg mb : Str → Option Value) (dp un : Nat) (gd : Option (List Code)) (cn : Str) (cs : Scope) (a : Addr) (ccd : Value) (cl : List (Str × Addr)) (outer : List Env) (A₀ : Around) (base h₀ : Heap) (L : Addr) (m : Str → Option Value) (s : Shared) (Q E : Value → Shared → Prop),
    Below A₀ base outer h₀ → Fr h₀ L s.heap m → (hd.heap_39 w.params).In h₀ → News h₀ L s.heap news → Top hd.view_39 loose mean mg mb h₀ → cs.kind = .function → Pb base → dp + dd < recursionLimit → un + 8 * dd < cLine →
    (∀ r news' h' tk', R r news' → Fr h₀ L h' m → News h₀ L h' news' → Q r { s with heap := h', toks := tk' }) →
    wpAny (model PySem.Challenge.rw_pu0057_01.row.prog w) (ktrTop dp un gd cn cs L a ccd cl outer) (call (.ref f) vs kw) Q E s
theorem ClaimB.use {w : World} {Pb : Heap → Prop} {f : Addr} {vs : List Value} {kw : List (Str × Value)} {dd : Nat} {news : List (Addr × Obj)} {R : Value → List (Addr × Obj) → Prop} (C : ClaimB w Pb f vs kw dd news R)
    {loose : List Str} {mean : ExcName → Option Value} {mg mb : Str → Option Value} {dp un : Nat} {gd : Option (List Code)} {cn : Str} {cs : Scope} {a : Addr} {ccd : Value} {cl : List (Str × Addr)} {outer : List Env} {A₀ : Around} {base h₀ : Heap} {L : Addr} {m : Str → Option Value} {s : Shared} {Q E : Value → Shared → Prop}
    (B : Below A₀ base outer h₀) (F : Fr h₀ L s.heap m) (X : (hd.heap_39 w.params).In h₀) (N : News h₀ L s.heap news) (T : Top hd.view_39 loose mean mg mb h₀) (hcs : cs.kind = .function) (hPb : Pb base) (hdp : dp + dd < recursionLimit) (hun : un + 8 * dd < cLine)
    (hret : ∀ r news' h' tk', R r news' → Fr h₀ L h' m → News h₀ L h' news' → Q r { s with heap := h', toks := tk' }) :
    wpAny (model PySem.Challenge.rw_pu0057_01.row.prog w) (ktrTop dp un gd cn cs L a ccd cl outer) (call (.ref f) vs kw) Q E s :=
  C _ _ _ _ _ _ _ _ _ _ _ _ _ _ _ _ _ _ _ _ _ B F X N T hcs hPb hdp hun hret

-- L1
/-- a claim that the walker leaves as it is -/
def Held (P : Prop) : Prop := P
section
variable {M : Model} {A : Around} {E E' : Value → Shared → Prop} {s : Shared}
/-- what is to hold behind, under a name -/
theorem abs_post {α : Type} {c : Sem α} {T : α → Shared → Prop} (h : ∀ TP : α → Shared → Prop, (∀ {v s}, T v s → Held (TP v s)) → wpAny M A c (fun v s => Held (TP v s)) E s) : wpAny M A c T E s := h T fun q => q
theorem abs_turn {target : Expr} {body : List Stmt} {env env' : Env} {v : Value} {T : Flow → Shared → Prop} (h : ∀ TP : Flow → Shared → Prop, (∀ {f s}, T f s → Held (TP f s)) → wpAny M A (assign target env v) (fun _ s₂ => wpAny M A (execs body env') (fun f s => Held (TP f s)) E' s₂) E s) :
    wpAny M A (assign target env v) (fun _ s₂ => wpAny M A (execs body env') T E' s₂) E s := h T fun q => q
end

/-- a turn's end -/
def Tn (h₀ : Heap) (L I : Addr) (oI : Obj) (s : Shared) (J : (Str → Option Value) → List (Addr × Obj) → Prop) (s₃ : Shared) : Prop :=
  ∃ h' tk' m' nw', s₃ = { s with heap := h', toks := tk' } ∧ Fr h₀ L h' m' ∧ News h₀ L h' ((I, oI) :: nw') ∧ (∀ p ∈ nw', p.1 ≠ I) ∧ J m' nw'
theorem Tn.intro {h₀ : Heap} {L I : Addr} {oI : Obj} {s : Shared} {J : (Str → Option Value) → List (Addr × Obj) → Prop} {h' : Heap} {tk' : Nat} {m' : Str → Option Value} {all : List (Addr × Obj)} (nw' : List (Addr × Obj))
    (F : Fr h₀ L h' m') (N : News h₀ L h' all) (sub : ∀ p ∈ (I, oI) :: nw', p ∈ all) (off : ∀ p ∈ nw', p.1 ≠ I) (hJ : J m' nw') : Tn h₀ L I oI s J { s with heap := h', toks := tk' } :=
  ⟨h', tk', m', nw', rfl, F, fun p hp => N p (sub p hp), off, hJ⟩
def TurnP (h₀ : Heap) (L I : Addr) (oI : Obj) (s : Shared) (J : (Str → Option Value) → List (Addr × Obj) → Prop) (Q : Flow → Shared → Prop) (f : Flow) (s₃ : Shared) : Prop := match f with
  | .next => Tn h₀ L I oI s J s₃
  | .cont => Tn h₀ L I oI s J s₃
  | .brk => Q .next s₃
  | .ret v => Q (.ret v) s₃

section
variable {prog : Program} {w : World} {A : Around} {s : Shared} {h₀ : Heap} {L : Addr} {env : Env}
theorem for_walk {target : Expr} {body : List Stmt} {Q : Flow → Shared → Prop} {EE : Value → Shared → Prop} {I : Addr} {fp : List Addr} {n : Nat} {P : Nat → Value → Prop} {St : Nat → Heap → Prop} (J : Nat → (Str → Option Value) → List (Addr × Obj) → Prop)
    {m₀ : Str → Option Value} {nw₀ : List (Addr × Obj)} (W : Walks prog w A I fp [I] n P St) (hI0 : h₀.get? I = none) (hIL : L ≠ I)
    (hfp : ∀ b ∈ fp, b = I ∨ (∃ o, h₀.get? b = some o) ∨ ∃ o, ∀ i m' nw, J i m' nw → (b, o) ∈ nw)
    (hst : St 0 s.heap) (F : Fr h₀ L s.heap m₀) (N : News h₀ L s.heap nw₀) (off : ∀ p ∈ nw₀, p.1 ≠ I) (hJ : J 0 m₀ nw₀) (hex : ∀ i h, St i h → ∃ oI, h.get? I = some oI)
    (hgo : ∀ i v (s' : Shared) (Q' : Unit → Shared → Prop) (E' : Value → Shared → Prop), P i v → St (i + 1) s'.heap → Q' () s' → wpAny (model prog w) A (letOwnedTupleGo target (.ref I) v) Q' E' s')
    (turn : ∀ i v m' nw oI h tk (E' : Value → Shared → Prop), i < n → P i v → J i m' nw → (∀ p ∈ nw, p.1 ≠ I) → Fr h₀ L h m' → News h₀ L h ((I, oI) :: nw) →
      wpAny (model prog w) A (assign target env v) (fun _ s₂ => wpAny (model prog w) A (execs body env) (TurnP h₀ L I oI s (J (i + 1)) Q) E' s₂) E' { s with heap := h, toks := tk })
    (done : ∀ m' nw h tk, J n m' nw → Fr h₀ L h m' → News h₀ L h nw → Q .next { s with heap := h, toks := tk }) :
    codeAny (model prog w) A (.forLoop target (.ref I) body [] env) (fun r s' => match r with | .ok f => Q f s' | .error e => EE e s') s := by
  refine codeAny_forLoop_any
    (fun k s' => ∃ i h tk m' nw, s' = { s with heap := h, toks := tk } ∧ i ≤ n ∧ k = n - i ∧ St i h ∧ J i m' nw ∧ Fr h₀ L h m' ∧ News h₀ L h nw ∧ ∀ p ∈ nw, p.1 ≠ I) ?_ n
    ⟨0, s.heap, s.toks, m₀, nw₀, rfl, Nat.zero_le _, rfl, hst, hJ, F, N, off⟩
  rintro k s' ⟨i, h, tk, m', nw, rfl, hi, rfl, hst', hJ', F', N', off'⟩
  by_cases hlt : i < n
  · refine W.item i _ _ _ hlt hst' fun v h₁ tk₁ hPv hst₁ hk₁ => ?_
    refine hgo i v _ _ _ hPv hst₁ ?_
    obtain ⟨oI, hoI⟩ := hex _ _ hst₁
    have F₁ : Fr h₀ L h₁ m' := LCg.fr_but F' hk₁ hIL hI0
    have N₁ : News h₀ L h₁ nw := LCg.news_but N' hk₁ off'
    refine wpAny_mono (turn i v m' nw oI h₁ tk₁ _ hlt hPv hJ' off' F₁ (fun p hp => ?_)) (fun _ s₂ h₂ => wpAny_mono h₂ (fun f s₃ h₃ => ?_) fun _ _ e => e) fun _ _ e => e
    · rcases List.mem_cons.mp hp with rfl | hp
      · exact ⟨hoI, fun e => hIL e.symm, hI0⟩
      · exact N₁ p hp
    · have fin : Tn h₀ L I oI s (J (i + 1)) s₃ → ∃ m, m < n - i ∧ ∃ i h tk m' nw, s₃ = { s with heap := h, toks := tk } ∧ i ≤ n ∧ m = n - i ∧ St i h ∧ J i m' nw ∧ Fr h₀ L h m' ∧ News h₀ L h nw ∧ ∀ p ∈ nw, p.1 ≠ I := by
        rintro ⟨h', tk', m'', nw', rfl, F₃, N₃, off₃, hJ₃⟩
        refine ⟨n - (i + 1), by omega, i + 1, h', tk', m'', nw', rfl, hlt, rfl, ?_, hJ₃, F₃, fun p hp => N₃ p (.tail _ hp), off₃⟩
        refine W.frame _ _ _ hst₁ fun b hb o e => ?_
        rcases hfp b hb with rfl | ⟨o', h'₀⟩ | ⟨o', hm⟩
        · have := (N₃ _ (.head _)).1
          rw [show o = oI from Option.some.inj (e.symm.trans hoI)]; exact this
        · have z := F₁.keep b o' h'₀
          rw [show o = o' from Option.some.inj (e.symm.trans z)]; exact F₃.keep b o' h'₀
        · have z := (N₁ _ (hm _ _ _ hJ')).1
          rw [show o = o' from Option.some.inj (e.symm.trans z)]; exact (N₃ _ (.tail _ (hm _ _ _ hJ₃))).1
      cases f with
      | next => exact fin h₃
      | cont => exact fin h₃
      | brk => exact h₃
      | ret v => exact h₃
  · obtain rfl : i = n := by omega
    refine W.done _ _ _ hst' fun h₁ tk₁ hk₁ => ?_
    exact wpAny_execs_nil (done m' nw h₁ tk₁ hJ' (LCg.fr_but F' hk₁ hIL hI0) (LCg.news_but N' hk₁ off'))

theorem go_name {x : Str} {px : Pos} {I : Addr} {v : Value} {s' : Shared} {Q' : Unit → Shared → Prop} {E' : Value → Shared → Prop} (h : Q' () s') : wpAny (model prog w) A (letOwnedTupleGo (.Name x px) (.ref I) v) Q' E' s' := wpAny_pure h

/-- for x in a list of the ledger's, which the loop does not change -/
theorem iter_list {x : Str} {px : Pos} {body : List Stmt} {Q : Flow → Shared → Prop} {EE E : Value → Shared → Prop} {l : Addr} {lo : Obj} {items : List Value} {k : Nat} (J : Nat → (Str → Option Value) → List (Addr × Obj) → Prop)
    {m₀ : Str → Option Value} {nw₀ : List (Addr × Obj)} (hh : A.handled = none) (F : Fr h₀ L s.heap m₀) (N : News h₀ L s.heap nw₀) (hlo : lo.cls = .type "list") (hld : lo.data = .seq items.toArray k)
    (hJ : J 0 m₀ nw₀) (hin : ∀ i m' nw, J i m' nw → (l, lo) ∈ nw)
    (turn : ∀ i v m' nw I oI g h tk (E' : Value → Shared → Prop), items[i]? = some v → J i m' nw → (∀ p ∈ nw, p.1 ≠ I) → Fr h₀ L h m' → News h₀ L h ((I, oI) :: nw) →
      wpAny (model prog w) A (assign (.Name x px) env v) (fun _ s₂ => wpAny (model prog w) A (execs body env) (TurnP h₀ L I oI { s with heap := g } (J (i + 1)) Q) E' s₂) E' { s with heap := h, toks := tk })
    (done : ∀ m' nw h tk, J items.length m' nw → Fr h₀ L h m' → News h₀ L h nw → Q .next { s with heap := h, toks := tk }) :
    wpAny (model prog w) A (pyIter (.ref l)) (fun it s₂ => codeAny (model prog w) A (.forLoop (.Name x px) it body [] env) (fun r s' => match r with | .ok f => Q f s' | .error e => EE e s') s₂) E s := by
  have hm := hin _ _ _ hJ
  have hls : s.heap.IsList l items.toArray := ⟨lo, (N _ hm).1, hlo, k, hld⟩
  have hlt : l < s.heap.objs.size := Heap.lt_size (N _ hm).1
  have up : ∀ b o, s.heap.get? b = some o → (s.heap.push { cls := .type "list_iterator", data := .fields #[.ref l, .int 0 0] }).get? b = some o := fun b o e => Heap.get?_push_of_some _ e
  refine wpAny_pyIter_list hls ?_
  have W := Walks.list (prog := prog) (w := w) hh s.heap.objs.size l (Nat.ne_of_lt hlt) items.toArray
  refine for_walk (h₀ := h₀) (L := L) J W (next_is_new F) (Nat.ne_of_lt F.ns.lt) (fun b hb => ?_) ⟨⟨_, Heap.get?_push_size _ rfl, rfl, rfl⟩, hls.push _⟩ (F.keeps up) (N.grown up)
    (fun p hp => Nat.ne_of_lt (Heap.lt_size (N p hp).1)) hJ (fun i h st => let ⟨o, e, _⟩ := st.1; ⟨o, e⟩) (fun _ _ _ _ _ _ _ q => go_name q) ?_ ?_
  · rcases List.mem_cons.mp hb with rfl | hb
    · exact .inl rfl
    · rw [List.mem_singleton.mp hb]; exact .inr (.inr ⟨lo, hin⟩)
  · intro i v m' nw oI h tk E' _ hv hJ' off F' N'
    exact turn i v m' nw _ oI _ h tk E' (by simpa using hv) hJ' off F' N'
  · intro m' nw h tk hJ' F' N'
    exact done m' nw h tk (by simpa using hJ') F' N'

theorem go_tup {elts : List Expr} {x1} {pos : Pos} {I l : Addr} {i : Nat} {v : Value} {s' : Shared} {Q' : Unit → Shared → Prop} {E' : Value → Shared → Prop} (hv : ∃ T, v = .ref T) (hit : s'.heap.IsListIter I l i) (h : Q' () s') :
    wpAny (model prog w) A (letOwnedTupleGo (.Tuple elts x1 pos) (.ref I) v) Q' E' s' := by
  obtain ⟨T, rfl⟩ := hv
  exact wpAny_letOwnedTupleGo_listiter hit h
/-- for a, b in a list of tuples -/
theorem iter_listT {elts : List Expr} {x1} {px : Pos} {body : List Stmt} {Q : Flow → Shared → Prop} {EE E : Value → Shared → Prop} {l : Addr} {lo : Obj} {items : List Value} {k : Nat} (J : Nat → (Str → Option Value) → List (Addr × Obj) → Prop)
    {m₀ : Str → Option Value} {nw₀ : List (Addr × Obj)} (hh : A.handled = none) (F : Fr h₀ L s.heap m₀) (N : News h₀ L s.heap nw₀) (hlo : lo.cls = .type "list") (hld : lo.data = .seq items.toArray k) (hrefs : ∀ v ∈ items, ∃ T, v = .ref T)
    (hJ : J 0 m₀ nw₀) (hin : ∀ i m' nw, J i m' nw → (l, lo) ∈ nw)
    (turn : ∀ i v m' nw I oI g h tk (E' : Value → Shared → Prop), items[i]? = some v → J i m' nw → (∀ p ∈ nw, p.1 ≠ I) → Fr h₀ L h m' → News h₀ L h ((I, oI) :: nw) →
      wpAny (model prog w) A (assign (.Tuple elts x1 px) env v) (fun _ s₂ => wpAny (model prog w) A (execs body env) (TurnP h₀ L I oI { s with heap := g } (J (i + 1)) Q) E' s₂) E' { s with heap := h, toks := tk })
    (done : ∀ m' nw h tk, J items.length m' nw → Fr h₀ L h m' → News h₀ L h nw → Q .next { s with heap := h, toks := tk }) :
    wpAny (model prog w) A (pyIter (.ref l)) (fun it s₂ => codeAny (model prog w) A (.forLoop (.Tuple elts x1 px) it body [] env) (fun r s' => match r with | .ok f => Q f s' | .error e => EE e s') s₂) E s := by
  have hm := hin _ _ _ hJ
  have hls : s.heap.IsList l items.toArray := ⟨lo, (N _ hm).1, hlo, k, hld⟩
  have hlt : l < s.heap.objs.size := Heap.lt_size (N _ hm).1
  have up : ∀ b o, s.heap.get? b = some o → (s.heap.push { cls := .type "list_iterator", data := .fields #[.ref l, .int 0 0] }).get? b = some o := fun b o e => Heap.get?_push_of_some _ e
  refine wpAny_pyIter_list hls ?_
  have W := Walks.list (prog := prog) (w := w) hh s.heap.objs.size l (Nat.ne_of_lt hlt) items.toArray
  refine for_walk (h₀ := h₀) (L := L) J W (next_is_new F) (Nat.ne_of_lt F.ns.lt) (fun b hb => ?_) ⟨⟨_, Heap.get?_push_size _ rfl, rfl, rfl⟩, hls.push _⟩ (F.keeps up) (N.grown up)
    (fun p hp => Nat.ne_of_lt (Heap.lt_size (N p hp).1)) hJ (fun i h st => let ⟨o, e, _⟩ := st.1; ⟨o, e⟩) (fun i v _ _ _ hv st q => go_tup (hrefs v (List.mem_of_getElem? (i := i) (by simpa using hv))) st.1 q) ?_ ?_
  · rcases List.mem_cons.mp hb with rfl | hb
    · exact .inl rfl
    · rw [List.mem_singleton.mp hb]; exact .inr (.inr ⟨lo, hin⟩)
  · intro i v m' nw oI h tk E' _ hv hJ' off F' N'
    exact turn i v m' nw _ oI _ h tk E' (by simpa using hv) hJ' off F' N'
  · intro m' nw h tk hJ' F' N'
    exact done m' nw h tk (by simpa using hJ') F' N'

theorem assign_pair {a b : Str} {pa pb pos : Pos} {x1} {T : Addr} {u v : Value} {E : Value → Shared → Prop} {m : Str → Option Value} {nw : List (Addr × Obj)} {o : Obj} {n : Nat} {Q : Unit → Shared → Prop}
    (hh : A.handled = none) (F : Fr h₀ L s.heap m) (N : News h₀ L s.heap nw) (hm : (T, o) ∈ nw) (hc : o.cls = .type "tuple") (hod : o.data = .seq #[u, v] n) (hL : env.locals = L)
    (ha : env.kindOf a = some .local) (hb : env.kindOf b = some .local) (hp : (env.scope.kind == .class || (env.scope.kind == .module && env.locals != env.globals)) = false)
    (h : ∀ h' tk, Fr h₀ L h' (fun y => if y = b then some v else if y = a then some u else m y) → News h₀ L h' nw → Q () { s with heap := h', toks := tk }) :
    wpAny (model prog w) A (assign (.Tuple [.Name a pa, .Name b pb] x1 pos) env (.ref T)) Q E s := by
  subst hL
  refine assign_Tuple_tuple hh (items := #[u, v]) ⟨o, (N _ hm).1, hc, n, hod⟩ rfl rfl fun h' he => ?_
  have F' : Fr h₀ env.locals h' m := F.extBut he (Nat.le_refl _)
  have N' : News h₀ env.locals h' nw := fun p hp => ⟨he _ _ (Nat.ne_of_lt (Heap.lt_size (N p hp).1)) (N p hp).1, (N p hp).2⟩
  refine assignInOrder_cons (wpAny_assign_Name (wpAny_storeName_local ha F'.ns (fun h₁ hn₁ hs₁ => ?_) hp))
  refine assignInOrder_cons (wpAny_assign_Name (wpAny_storeName_local hb hn₁ (fun h₂ hn₂ hs₂ => ?_) hp))
  refine assignInOrder_nil (h h₂ _ ((F'.set hn₁ hs₁).set hn₂ hs₂) ((N'.set hs₁).set hs₂))

/-- for x in range(a, b) -/
theorem iter_range {x : Str} {px : Pos} {body : List Stmt} {Q : Flow → Shared → Prop} {EE E : Value → Shared → Prop} {r : Addr} {a b : Int} {t u v : Tok} {n : Nat} (J : Nat → (Str → Option Value) → List (Addr × Obj) → Prop)
    {m₀ : Str → Option Value} {nw₀ : List (Addr × Obj)} (hh : A.handled = none) (F : Fr h₀ L s.heap m₀) (N : News h₀ L s.heap nw₀) (hr : IsRange s.heap r a b 1 t u v) (hsm : Builtin.Range.small a b 1 = true) (hn : Builtin.Range.rangeSize a b 1 = ((n : Nat) : Int))
    (hJ : J 0 m₀ nw₀)
    (turn : ∀ i tv m' nw I oI g h tk (E' : Value → Shared → Prop), i < n → J i m' nw → (∀ p ∈ nw, p.1 ≠ I) → Fr h₀ L h m' → News h₀ L h ((I, oI) :: nw) →
      wpAny (model prog w) A (assign (.Name x px) env (.int (a + (i : Int)) tv)) (fun _ s₂ => wpAny (model prog w) A (execs body env) (TurnP h₀ L I oI { s with heap := g } (J (i + 1)) Q) E' s₂) E' { s with heap := h, toks := tk })
    (done : ∀ m' nw h tk, J n m' nw → Fr h₀ L h m' → News h₀ L h nw → Q .next { s with heap := h, toks := tk }) :
    wpAny (model prog w) A (pyIter (.ref r)) (fun it s₂ => codeAny (model prog w) A (.forLoop (.Name x px) it body [] env) (fun r s' => match r with | .ok f => Q f s' | .error e => EE e s') s₂) E s := by
  have up : ∀ (o : Obj) b o', s.heap.get? b = some o' → (s.heap.push o).get? b = some o' := fun _ b o e => Heap.get?_push_of_some _ e
  refine wpAny_pyIter_range hr hsm ?_
  refine for_walk (h₀ := h₀) (L := L) J (LCg.range_walks hh a n) (next_is_new F) (Nat.ne_of_lt F.ns.lt) (fun b hb => .inl (List.mem_singleton.mp hb)) (by show IsRangeIter _ _ _ _ _; rw [hn]; simpa using Heap.get?_push_size _ rfl) (F.keeps (up _)) (N.grown (up _))
    (fun p hp => Nat.ne_of_lt (Heap.lt_size (N p hp).1)) hJ (fun i h st => ⟨_, st⟩) (fun _ _ _ _ _ _ _ q => go_name q) ?_ ?_
  · rintro i v m' nw oI h tk E' hi ⟨tv, rfl⟩ hJ' off F' N'
    exact turn i tv m' nw _ oI _ h tk E' hi hJ' off F' N'
  · intro m' nw h tk hJ' F' N'
    exact done m' nw h tk hJ' F' N'
end

-- L2
section
variable {prog : Program} {w : World} {A : Around} {E : Value → Shared → Prop} {s : Shared}
/-- xs[:] = ys -/
theorem setItem_all {l D sl : Addr} {so : Obj} {its new : Array Value} {n n' : Nat} {Q : Unit → Shared → Prop} (hl : s.heap.get? l = some (listOf its n)) (hD : s.heap.get? D = some (listOf new n')) (hne : l ≠ D)
    (hs : s.heap.get? sl = some so) (hsc : so.cls = .type "slice") (hsd : so.data = .fields #[.none, .none, .none]) (hsz : its.size + new.size ≤ sizeLine)
    (h : ∀ h', h'.get? l = some (listOf new (if new.size == its.size then n else n + 1)) → Heap.SameBut l s.heap h' → Q () { s with heap := h' }) :
    wpAny (model prog w) A (setItem (.ref l) (.ref sl) (.ref D)) Q E s := by
  have hL : s.heap.IsList l its := ⟨_, hl, rfl, n, rfl⟩
  have hTs : s.TypeIs (.ref sl) "slice" := ⟨so, hs, hsc⟩
  have hTD : s.TypeIs (.ref D) "list" := ⟨_, hD, rfl⟩
  unfold setItem
  try with_reducible refine wpAny_holding ?_
  refine wpAny_bind (wpAny_sequenceKey hL.typeIs (by decide) ?_)
  refine wpAny_bind (wpAny_callSpecial?_slot (name := Str.ofString "__setitem__") hL.typeIs slot_list_setitem
    (wpAny_call_entry slot_list_setitem hL.typeIs entry_list_setitem ?_ (args_list_setitem _ _ _)))
  show wpAny _ _ (Builtin.List.listSubscript? (.ref sl) >>= _) _ _ s
  refine wpAny_bind (wpAny_bind (wpAny_specialOf hTs slice_no_index (wpAny_pure ?_)))
  refine wpAny_bind (wpAny_typeOf hTs ?_)
  refine wpAny_bind ?_
  rw [listSliceParts_eq]
  refine wpAny_bind (wpAny_field hs hsd (x := .none) rfl (wpAny_bind (wpAny_listPart .none ?_)))
  refine wpAny_bind (wpAny_field hs hsd (x := .none) rfl (wpAny_bind (wpAny_listPart .none ?_)))
  refine wpAny_bind (wpAny_field hs hsd (x := .none) rfl (wpAny_bind (wpAny_listPart .none (wpAny_pure ?_))))
  have hsr : Builtin.List.listSameRef (.ref l) (.ref D) = false := by simpa [Builtin.List.listSameRef] using hne
  dsimp only
  rw [hsr, if_neg Bool.false_ne_true]
  refine wpAny_bind ?_
  unfold Builtin.List.listAllItems
  refine wpAny_bind (wpAny_typeOf hTD ?_)
  rw [if_pos (by decide)]
  refine wpAny_bind (wpAny_seqItems hD rfl (wpAny_pure ?_))
  refine wpAny_bind (wpAny_bind (wpAny_seqItems hl rfl (wpAny_pure ?_)))
  rw [sliceIndices_raw none none none its.size (by simp)]
  refine wpAny_bind (wpAny_pure ?_)
  have hb : sliceBounds none none none its.size = (0, (its.size : Int), 1) := rfl
  rw [hb]
  dsimp only
  rw [if_pos (by decide)]
  refine wpAny_bind (wpAny_rule ?_)
  have hlt : Builtin.List.listTooLong (its.size + new.size) = false := by
    unfold Builtin.List.listTooLong; exact decide_eq_false (Nat.not_lt.mpr hsz)
  rw [hlt, if_neg Bool.false_ne_true]
  have hf : (fun xs : Array Value => xs.extract 0 (0 : Int).toNat ++ new ++ xs.extract (max 0 (its.size : Int)).toNat) its = new := by
    simp
  refine wpAny_bind (wpAny_updateSeq hl rfl ?_ (by omega) (by dsimp only at hf; rw [hf]; omega))
  refine wpAny_bind (wpAny_letGo (wpAny_pure ⟨.none, rfl, wpAny_pure (h _ ?_ (Heap.SameBut.update ..))⟩))
  rw [Heap.get?_update_self _ hl rfl]
  have e2 : Obj.mapSeq (fun xs : Array Value => xs.extract 0 (0 : Int).toNat ++ new ++ xs.extract (max 0 (its.size : Int)).toNat) (listOf its n) = listOf ((fun xs : Array Value => xs.extract 0 (0 : Int).toNat ++ new ++ xs.extract (max 0 (its.size : Int)).toNat) its) (if ((fun xs : Array Value => xs.extract 0 (0 : Int).toNat ++ new ++ xs.extract (max 0 (its.size : Int)).toNat) its).size == its.size then n else n + 1) := rfl
  rw [e2, hf]
theorem setItem_allN {h₀ : Heap} {L : Addr} {m : Str → Option Value} {nw : List (Addr × Obj)} {nw' : Nat → List (Addr × Obj)} {l D : Addr} {its new : Array Value} {n n' : Nat} {Q : Unit → Shared → Prop} (F : Fr h₀ L s.heap m) (N : News h₀ L s.heap nw)
    (U : ∀ k, Upd l (listOf its n) (listOf new k) nw (nw' k)) (hD : (D, listOf new n') ∈ nw) (hne : l ≠ D) (hsz : its.size + new.size ≤ sizeLine)
    (h : ∀ h' k, Fr h₀ L h' m → News h₀ L h' (nw' k) → Q () { s with heap := h' }) :
    wpAny (model prog w) A (setItem (.ref l) (.ref s.heap.objs.size) (.ref D)) Q E { s with heap := s.heap.push { cls := .type "slice", data := .fields #[.none, .none, .none] } } := by
  have up : ∀ b o, s.heap.get? b = some o → (s.heap.push { cls := .type "slice", data := .fields #[.none, .none, .none] }).get? b = some o := fun b o e => Heap.get?_push_of_some _ e
  have F' := F.keeps up
  have N' := N.grown up
  obtain ⟨pre, post, hnw, hnw', a, b⟩ := (U (if new.size == its.size then n else n + 1)).split
  have hl : (l, listOf its n) ∈ nw := by rw [hnw]; simp
  have z := N' _ hl
  refine setItem_all (N' _ hl).1 (N' _ hD).1 hne (Heap.get?_push_size _ rfl) rfl rfl hsz fun h' hl' hs' => ?_
  refine h h' (if new.size == its.size then n else n + 1) (F'.change hs' z.2.1 z.2.2) ?_
  rw [hnw']
  rw [hnw] at N'
  exact news_set N' a b hs' hl'
end

/-- written ints -/
inductive ICs : List Expr → List Int → Prop
  | nil : ICs [] []
  | cons (i : Int) (k : Nat) (p : Pos) {es : List Expr} {is : List Int} : ICs es is → ICs (.Constant (.int i) k p :: es) (i :: is)
section
variable {prog : Program} {w : World} {A : Around} {E : Value → Shared → Prop} {h₀ : Heap} {L : Addr} {m : Str → Option Value} {nw : List (Addr × Obj)} {env : Env}
theorem ints_spliced {pos : Pos} {es : List Expr} {is : List Int} (hc : ICs es is) : ∀ {s : Shared} {Q : List Value → Shared → Prop}, (∀ vs tk, IntsAre vs is → Q vs { s with toks := tk }) → wpAny (model prog w) A (spliced (backTo pos (starEach es env))) Q E s := by
  induction hc with
  | nil => intro s Q h; exact args_nil (h [] s.toks .nil)
  | cons i k p _ ih => intro s Q h; exact args_cons (wpAny_Constant_int (ih fun vs tk hi => h _ tk (.cons i _ hi)))
theorem ints_display {s : Shared} {pos : Pos} {es : List Expr} {is : List Int} {Q : Value → Shared → Prop} (hc : ICs es is) (F : Fr h₀ L s.heap m) (N : News h₀ L s.heap nw) (hsz : is.length ≤ sizeLine)
    (h : ∀ D vs h' tk, IntsAre vs is → Fr h₀ L h' m → News h₀ L h' ((D, listOf vs.toArray 0) :: nw) → (∀ p ∈ nw, p.1 < D) → Q (.ref D) { s with heap := h', toks := tk }) : wpAny (model prog w) A (eval (.List es pos) env) Q E s :=
  List_ (ints_spliced hc fun vs tk hi => newList_N (hsz := by rw [hi.length]; exact hsz) (s := { s with toks := tk }) F N fun h' F' N' => h _ vs h' tk hi F' N' fun p hp => Heap.lt_size (N p hp).1)
end

-- L3
section
open LCg LCt LCp
variable {prog : Program} {w : World} {A : Around} {s : Shared} {h₀ : Heap} {L : Addr} {m : Str → Option Value} {env : Env}
theorem compEnd_mono {I C D : Addr} {oI oC oD : Obj} {S : List (Addr × Obj) → Prop} {r r' : Value → List (Addr × Obj) → Prop} {y : Value} {s₁ s₂ : Shared} (h : CompEnd h₀ L m s₁ I oI C oC D oD S r y s₂) (k : ∀ y nw, r y nw → r' y nw) : CompEnd h₀ L m s₁ I oI C oC D oD S r' y s₂ :=
  let ⟨h', tk, nw, a, b, c, d, e, f⟩ := h; ⟨h', tk, nw, a, b, c, d, e, k _ _ f⟩
theorem restU {elt : Expr} {x : Str} {scope : Scope} {cl : List (Str × Addr)} {S : List (Addr × Obj) → Prop} {P : Nat → Value → Prop} {Fin : List Value → List (Addr × Obj) → Prop} {n : Nat} (J : Nat → List Value → List (Addr × Obj) → Prop)
    (turn : ∀ i ys nw v I oI C oC D m₂ h tk (E' : Value → Shared → Prop), i < n → J i ys nw → P i v → NsObj oC m₂ → m₂ x = some v → Fr h₀ L h m → News h₀ L h ((I, oI) :: (C, oC) :: (D, lst ys) :: nw) → Off3 I C D nw → ((@Ne Nat I C) ∧ (@Ne Nat I D) ∧ (@Ne Nat C D)) →
      wpAny (model prog w) A (eval elt (compEnvC scope cl C env)) (CompEnd h₀ L m { s with heap := h, toks := tk } I oI C oC D (lst ys) S (fun y nw' => J (i + 1) (ys ++ [y]) nw')) E' { s with heap := h, toks := tk })
    (fin : ∀ ys nw, J n ys nw → Fin ys nw) : ∀ k i ys nw, i + k = n → J i ys nw → CompRest prog w A h₀ L m env elt x scope cl s S P Fin k i ys nw
  | 0, i, ys, nw, e, hJ => fin ys nw (by have : i = n := by omega
                                         exact this ▸ hJ)
  | k + 1, i, ys, nw, e, hJ => CompRest.succ fun v I oI C oC D m₂ h tk E' hP hn hx F N off ne =>
    wpAny_mono (turn i ys nw v I oI C oC D m₂ h tk E' (by omega) hJ hP hn hx F N off ne) (fun _ _ q => compEnd_mono q fun y nw' hJ' => restU J turn fin k (i + 1) _ nw' (by omega) hJ') fun _ _ q => q
theorem restT {ct elt : Expr} {x : Str} {scope : Scope} {cl : List (Str × Addr)} {S : List (Addr × Obj) → Prop} {P : Nat → Value → Prop} {Fin : List Value → List (Addr × Obj) → Prop} {n : Nat} (J : Nat → List Value → List (Addr × Obj) → Prop)
    (turn : ∀ i ys nw v I oI C oC D m₂ h tk (E' : Value → Shared → Prop), i < n → J i ys nw → P i v → NsObj oC m₂ → m₂ x = some v → Fr h₀ L h m → News h₀ L h ((I, oI) :: (C, oC) :: (D, lst ys) :: nw) → Off3 I C D nw → ((@Ne Nat I C) ∧ (@Ne Nat I D) ∧ (@Ne Nat C D)) →
      wpAny (model prog w) A (isTrue ct (compEnvC scope cl C env) (eval ct (compEnvC scope cl C env))) (fun ok s' => if ok = true then
        wpAny (model prog w) A (eval elt (compEnvC scope cl C env)) (CompEnd h₀ L m { s with heap := h, toks := tk } I oI C oC D (lst ys) S (fun y nw' => J (i + 1) (ys ++ [y]) nw')) E' s'
        else CompEnd h₀ L m { s with heap := h, toks := tk } I oI C oC D (lst ys) S (fun _ nw' => J (i + 1) ys nw') Value.none s') E' { s with heap := h, toks := tk })
    (fin : ∀ ys nw, J n ys nw → Fin ys nw) : ∀ k i ys nw, i + k = n → J i ys nw → CompRestT prog w A h₀ L m env ct elt x scope cl s S P Fin k i ys nw
  | 0, i, ys, nw, e, hJ => fin ys nw (by have : i = n := by omega
                                         exact this ▸ hJ)
  | k + 1, i, ys, nw, e, hJ => CompRestT.succ fun v I oI C oC D m₂ h tk E' hP hn hx F N off ne =>
    wpAny_mono (turn i ys nw v I oI C oC D m₂ h tk E' (by omega) hJ hP hn hx F N off ne) (fun ok s' q => by
      cases ok with
      | true =>
        rw [if_pos rfl] at q ⊢
        exact wpAny_mono q (fun _ _ q => compEnd_mono q fun y nw' hJ' => restT J turn fin k (i + 1) _ nw' (by omega) hJ') fun _ _ q => q
      | false =>
        rw [if_neg (by decide)] at q ⊢
        exact compEnd_mono q fun y nw' hJ' => restT J turn fin k (i + 1) _ nw' (by omega) hJ') fun _ _ q => q
theorem restP {elt : Expr} {x x₂ : Str} {scope : Scope} {cl : List (Str × Addr)} {S : List (Addr × Obj) → Prop} {P : Nat → Value → Prop} {Fin : List Value → List (Addr × Obj) → Prop} {n : Nat} (J : Nat → List Value → List (Addr × Obj) → Prop)
    (turn : ∀ i ys nw v, i < n → J i ys nw → P i v → ∃ (t : Addr) (ot : Obj) (v₁ v₂ : Value) (nt : Nat), v = .ref t ∧ (t, ot) ∈ nw ∧ ot.cls = .type "tuple" ∧ ot.data = .seq #[v₁, v₂] nt ∧
      ∀ I oI C oC D m₂ h tk (E' : Value → Shared → Prop), NsObj oC m₂ → m₂ x = some v₁ → m₂ x₂ = some v₂ → Fr h₀ L h m → News h₀ L h ((I, oI) :: (C, oC) :: (D, lst ys) :: nw) → Off3 I C D nw → ((@Ne Nat I C) ∧ (@Ne Nat I D) ∧ (@Ne Nat C D)) →
      wpAny (model prog w) A (eval elt (compEnvC scope cl C env)) (CompEnd h₀ L m { s with heap := h, toks := tk } I oI C oC D (lst ys) S (fun y nw' => J (i + 1) (ys ++ [y]) nw')) E' { s with heap := h, toks := tk })
    (fin : ∀ ys nw, J n ys nw → Fin ys nw) : ∀ k i ys nw, i + k = n → J i ys nw → CompRestP prog w A h₀ L m env elt x x₂ scope cl s S P Fin k i ys nw
  | 0, i, ys, nw, e, hJ => fin ys nw (by have : i = n := by omega
                                         exact this ▸ hJ)
  | k + 1, i, ys, nw, e, hJ => CompRestP.succ fun v hP =>
    let ⟨t, ot, v₁, v₂, nt, e1, e2, e3, e4, r⟩ := turn i ys nw v (by omega) hJ hP
    ⟨t, ot, v₁, v₂, nt, e1, e2, e3, e4, fun I oI C oC D m₂ h tk E' hn hx hx₂ F N off ne =>
      wpAny_mono (r I oI C oC D m₂ h tk E' hn hx hx₂ F N off ne) (fun _ _ q => compEnd_mono q fun y nw' hJ' => restP J turn fin k (i + 1) _ nw' (by omega) hJ') fun _ _ q => q⟩

/-- a turn's end of a comprehension that keeps the ledger -/
def CE (h₀ : Heap) (L : Addr) (m : Str → Option Value) (s₁ : Shared) (NW : List (Addr × Obj)) (R : Value → Prop) (y : Value) (s₂ : Shared) : Prop :=
  ∃ h' tk, s₂ = { s₁ with heap := h', toks := tk } ∧ Fr h₀ L h' m ∧ News h₀ L h' NW ∧ R y
theorem CE.intro {s₁ : Shared} {NW all : List (Addr × Obj)} {R : Value → Prop} {y : Value} {h' : Heap} {tk : Nat} (F : Fr h₀ L h' m) (N : News h₀ L h' all) (sub : ∀ p ∈ NW, p ∈ all) (r : R y) : CE h₀ L m s₁ NW R y { s₁ with heap := h', toks := tk } :=
  ⟨h', tk, rfl, F, fun p hp => N p (sub p hp), r⟩
theorem CE.to {s₁ s₂ : Shared} {NW : List (Addr × Obj)} {R : Value → Prop} {y : Value} {I C D : Addr} {oI oC oD : Obj} {S : List (Addr × Obj) → Prop} {r : Value → List (Addr × Obj) → Prop}
    (h : CE h₀ L m s₁ ((I, oI) :: (C, oC) :: (D, oD) :: NW) R y s₂) (off : Off3 I C D NW) (hS : S NW) (k : ∀ y, R y → r y NW) : CompEnd h₀ L m s₁ I oI C oC D oD S r y s₂ :=
  let ⟨h', tk, e, F, N, q⟩ := h; ⟨h', tk, NW, e, F, N, off, hS, k _ q⟩
/-- [elt for x in a list of the ledger's], the ledger kept -/
theorem compU_list {elt : Expr} {x : Str} {scope : Scope} {cl : List (Str × Addr)} {Fin : Shared → List Value → List (Addr × Obj) → Prop} {ax : Addr} {its : Array Value} {k : Nat} {NW : List (Addr × Obj)} {s₁ : Shared} (J : Nat → List Value → Prop)
    (hh : A.handled = none) (F : Fr h₀ L s₁.heap m) (N : News h₀ L s₁.heap NW) (hm : (ax, listOf its k) ∈ NW) (hsz : its.size ≤ sizeLine) (h0 : J 0 [])
    (turn : ∀ i ys v I oI C oC D m₂ g h tk (E' : Value → Shared → Prop), its[i]? = some v → J i ys → NsObj oC m₂ → m₂ x = some v → Fr h₀ L h m → News h₀ L h ((I, oI) :: (C, oC) :: (D, lst ys) :: NW) → Off3 I C D NW → ((@Ne Nat I C) ∧ (@Ne Nat I D) ∧ (@Ne Nat C D)) →
      wpAny (model prog w) A (eval elt (compEnvC scope cl C env)) (CE h₀ L m { s₁ with heap := g } ((I, oI) :: (C, oC) :: (D, lst ys) :: NW) (fun y => J (i + 1) (ys ++ [y]))) E' { s₁ with heap := h, toks := tk })
    (fin : ∀ ys g, J its.size ys → Fin { s₁ with heap := g } ys NW) : CompSrc prog w A h₀ L m env elt x scope cl Fin (.ref ax) s₁ := by
  refine CompSrc.ledger hh F N hm hsz fun g => restU (n := its.size) (fun i ys nw => nw = NW ∧ J i ys) ?_ ?_ its.size 0 [] NW (by omega) ⟨rfl, h0⟩
  · rintro i ys nw v I oI C oC D m₂ h tk E' _ ⟨rfl, hJ⟩ hP hn hx F' N' off ne
    exact wpAny_mono (turn i ys v I oI C oC D m₂ h h tk E' hP hJ hn hx F' N' off ne) (fun y s' q => by
      obtain ⟨h', tk', e, F₂, N₂, q⟩ := q
      exact ⟨h', tk', nw, e, F₂, N₂, off, .inr ⟨_, hm, rfl, _, rfl⟩, rfl, q⟩) fun _ _ q => q
  · rintro ys nw ⟨rfl, hJ⟩
    exact fin ys g hJ
/-- [elt for x in a list of the ledger's if ct], the ledger kept -/
theorem compT_list {ct elt : Expr} {x : Str} {scope : Scope} {cl : List (Str × Addr)} {Fin : Shared → List Value → List (Addr × Obj) → Prop} {ax : Addr} {its : Array Value} {k : Nat} {NW : List (Addr × Obj)} {s₁ : Shared} (J : Nat → List Value → Prop)
    (hh : A.handled = none) (F : Fr h₀ L s₁.heap m) (N : News h₀ L s₁.heap NW) (hm : (ax, listOf its k) ∈ NW) (hsz : its.size ≤ sizeLine) (h0 : J 0 [])
    (turn : ∀ i ys v I oI C oC D m₂ g h tk (E' : Value → Shared → Prop), its[i]? = some v → J i ys → NsObj oC m₂ → m₂ x = some v → Fr h₀ L h m → News h₀ L h ((I, oI) :: (C, oC) :: (D, lst ys) :: NW) → Off3 I C D NW → ((@Ne Nat I C) ∧ (@Ne Nat I D) ∧ (@Ne Nat C D)) →
      wpAny (model prog w) A (isTrue ct (compEnvC scope cl C env) (eval ct (compEnvC scope cl C env))) (fun ok s' => if ok = true then
        wpAny (model prog w) A (eval elt (compEnvC scope cl C env)) (CE h₀ L m { s₁ with heap := g } ((I, oI) :: (C, oC) :: (D, lst ys) :: NW) (fun y => J (i + 1) (ys ++ [y]))) E' s'
        else CE h₀ L m { s₁ with heap := g } ((I, oI) :: (C, oC) :: (D, lst ys) :: NW) (fun _ => J (i + 1) ys) Value.none s') E' { s₁ with heap := h, toks := tk })
    (fin : ∀ ys g, J its.size ys → Fin { s₁ with heap := g } ys NW) : CompSrcT prog w A h₀ L m env ct elt x scope cl Fin (.ref ax) s₁ := by
  refine CompSrcT.ledger hh F N hm hsz fun g => restT (n := its.size) (fun i ys nw => nw = NW ∧ J i ys) ?_ ?_ its.size 0 [] NW (by omega) ⟨rfl, h0⟩
  · rintro i ys nw v I oI C oC D m₂ h tk E' _ ⟨rfl, hJ⟩ hP hn hx F' N' off ne
    refine wpAny_mono (turn i ys v I oI C oC D m₂ h h tk E' hP hJ hn hx F' N' off ne) (fun ok s' q => ?_) fun _ _ q => q
    cases ok with
    | true =>
      rw [if_pos rfl] at q ⊢
      refine wpAny_mono q (fun y s'' q => ?_) fun _ _ q => q
      obtain ⟨h', tk', e, F₂, N₂, q⟩ := q
      exact ⟨h', tk', nw, e, F₂, N₂, off, .inr ⟨_, hm, rfl, _, rfl⟩, rfl, q⟩
    | false =>
      rw [if_neg (by decide)] at q ⊢
      obtain ⟨h', tk', e, F₂, N₂, q⟩ := q
      exact ⟨h', tk', nw, e, F₂, N₂, off, .inr ⟨_, hm, rfl, _, rfl⟩, rfl, q⟩
  · rintro ys nw ⟨rfl, hJ⟩
    exact fin ys g hJ
end

-- K1
section
variable {w : World} {A : Around} {E : Value → Shared → Prop} {s : Shared} {h₀ : Heap} {L : Addr} {m : Str → Option Value} {prog : Program} {c : Nat} {t : Tok}
theorem gm74 {M : Model} {pl : Sem Bool} {Q : Value × List Value → Shared → Prop} (X : (hd.heap_39 w.params).In h₀) (F : Fr h₀ L s.heap m) (h : Q (.builtin "re.Pattern.search", [.ref 74]) s) : wpAny M A (getMethod (.ref 74) (Str.ofString "search") pl) Q E s :=
  getMethod_re slot_search type_search (X.keeps F.keep _ _ rfl) rfl rfl h
theorem gm79 {M : Model} {pl : Sem Bool} {Q : Value × List Value → Shared → Prop} (X : (hd.heap_39 w.params).In h₀) (F : Fr h₀ L s.heap m) (h : Q (.builtin "re.Pattern.search", [.ref 79]) s) : wpAny M A (getMethod (.ref 79) (Str.ofString "search") pl) Q E s :=
  getMethod_re slot_search type_search (X.keeps F.keep _ _ rfl) rfl rfl h
theorem cs74 {Q : Value → Shared → Prop} (X : (hd.heap_39 w.params).In h₀) (F : Fr h₀ L s.heap m) (hc : okSign c = true) (h : Q .none s) : wpAny (model prog w) A (call (.builtin "re.Pattern.search") [.ref 74, .str ⟨#[c]⟩ t]) Q E s :=
  call_search (X.keeps F.keep _ _ rfl) rfl rfl (X.keeps F.keep _ _ rfl) rfl (by show 1 < 2 ^ 63; decide) (fails74 hc) h
theorem cs79 {Q : Value → Shared → Prop} (X : (hd.heap_39 w.params).In h₀) (F : Fr h₀ L s.heap m) (hc : okSign c = true) (h : Q .none s) : wpAny (model prog w) A (call (.builtin "re.Pattern.search") [.ref 79, .str ⟨#[c]⟩ t]) Q E s :=
  call_search (X.keeps F.keep _ _ rfl) rfl rfl (X.keeps F.keep _ _ rfl) rfl (by show 1 < 2 ^ 63; decide) (fails79 hc) h
end
local macro_rules | `(tactic| walk_at "getMethod ref") => `(tactic| (k_here; (first | refine gm74 (by k_asm) (by k_asm) ?_ | refine gm79 (by k_asm) (by k_asm) ?_)))
local macro_rules | `(tactic| walk_at "call builtin:re.Pattern.search") => `(tactic| (k_here; (first | refine cs74 (by k_asm) (by k_asm) (by assumption) ?_ | refine cs79 (by k_asm) (by k_asm) (by assumption) ?_)))
theorem conv_name (w : World) (news : List (Addr × Obj)) (self : Value) (c : Nat) (t : Tok) (hc : okSign c = true) :
    Claim w 101 [self, .str ⟨#[c]⟩ t] [(Str.ofString "name", .bool true)] 1 news (fun r nw => r = .str ⟨#[c]⟩ t ∧ nw = news) := by
  w_on
  unfold Claim
  k_fill
  intro loose mean mg mb dp un gd cn cs a ccd cl outer A₀ base h₀ L m s Q E B F X N T hcs hd1 hu1 hret
  refine wpAny_call ?_
  k_dflt cell_enter
  k_steps
  exact hret _ _ _ _ ⟨rfl, rfl⟩ (by assumption) (by assumption)
theorem conv_val (w : World) (news : List (Addr × Obj)) (self : Value) (c : Nat) (t : Tok) (hc : okSign c = true) :
    Claim w 101 [self, .str ⟨#[c]⟩ t] [(Str.ofString "name", .bool false)] 1 news (fun r nw => r = .str ⟨#[c]⟩ t ∧ nw = news) := by
  w_on
  unfold Claim
  k_fill
  intro loose mean mg mb dp un gd cn cs a ccd cl outer A₀ base h₀ L m s Q E B F X N T hcs hd1 hu1 hret
  refine wpAny_call ?_
  k_dflt cell_enter
  k_steps
  exact hret _ _ _ _ ⟨rfl, rfl⟩ (by assumption) (by assumption)

-- K2

/-- a row of a table: a pair's place, its name's sign, its value's sign -/
structure Ent where
  a : Addr
  c : Nat
  tc : Tok
  k : Nat
  tk : Tok
def Ent.o (e : Ent) : Obj := { cls := .type "tuple", data := .seq #[.str ⟨#[e.c]⟩ e.tc, .str ⟨#[e.k]⟩ e.tk] }
def rfs (E : List Ent) : List Value := E.map fun e => .ref e.a
def prs (E : List Ent) : List (Addr × Obj) := E.map fun e => (e.a, e.o)
abbrev lsO (E : List Ent) (n : Nat) : Obj := listOf (rfs E).toArray n
def lowC (c : Nat) : Nat := if c < 97 then c + 32 else c
/-- the ten letters -/
def letter (c : Nat) : Bool := (65 ≤ c && c ≤ 69) || (97 ≤ c && c ≤ 101)
theorem letter_cases {P : Nat → Prop} (h : ∀ c ∈ [65, 66, 67, 68, 69, 97, 98, 99, 100, 101], P c) {c : Nat} (hc : letter c = true) : P c := by
  apply h
  unfold letter at hc
  simp only [Bool.or_eq_true, Bool.and_eq_true, decide_eq_true_eq] at hc
  simp only [List.mem_cons, List.not_mem_nil, or_false]
  omega
theorem letter_ok {c : Nat} (hc : letter c = true) : okSign c = true := by
  unfold letter at hc; unfold okSign
  simp only [Bool.or_eq_true, Bool.and_eq_true, decide_eq_true_eq] at hc ⊢
  omega
theorem letter_low {c : Nat} (hc : letter c = true) : letter (lowC c) = true := by
  unfold lowC
  unfold letter at hc ⊢
  simp only [Bool.or_eq_true, Bool.and_eq_true, decide_eq_true_eq] at hc ⊢
  split <;> omega
theorem lower_one {c : Nat} (hc : letter c = true) : Txt.lower ⟨#[c]⟩ = ⟨#[lowC c]⟩ := by
  refine letter_cases (P := fun c => Txt.lower ⟨#[c]⟩ = ⟨#[lowC c]⟩) ?_ hc
  decide +kernel
section
variable {prog : Program} {w : World} {A : Around} {E : Value → Shared → Prop} {s : Shared} {c : Nat} {t : Tok} {Q : Value → Shared → Prop}
theorem call_lower1 (hc : letter c = true) (h : Q (.str ⟨#[lowC c]⟩ s.toks) { s with toks := s.toks + 1 }) : wpAny (model prog w) A (call (.builtin "str.lower") [.str ⟨#[c]⟩ t]) Q E s := by
  rw [← lower_one hc] at h
  refine SC.lower ?_ h
  rw [lower_one hc]; show Builtin.Str.tooLong 1 = false; decide
end

-- K3


local macro_rules | `(tactic| walk_at "call builtin:str.lower") => `(tactic| (refine call_lower1 (by assumption) ?_))
local macro_rules | `(tactic| cell_enter) => `(tactic| (refine' code_def ?k1 ?k2 ?k3 ?k4 ?k5 ?kA ?kF ?kK ?k6 ?k7 ?k8 ?k9 ?kB ?_ ?c2 ?c3 ?c4 ?c5; (case kA => exact rfl); (case kF => exact rfl); (case kK => first | exact rfl | assumption); (case k1 => k_asm); (case k2 => k_asm); (case k3 => k_asm); (case k4 => k_asm); (case k5 => k_asm); (case k6 => k_is); (case k7 => k_is); (case k8 => ktr_room); (case k9 => first | exact BindsTo.of_eq rfl | exact binds_K (by k_in) rfl (by k_is) rfl rfl rfl); (case c5 => decide); (case kB => exact locs rfl); (case c2 => exact rfl); (case c3 => exact rfl); (case c4 => exact rfl); k_whole; intro g' L' h' FG' F' N' B' X' T'; (try dsimp only); (try k_lift B'); (try k_fold)))
local macro_rules | `(tactic| walk_at "call ref") => `(tactic| (k_here; (first | (k_dflt (refine' Claim.use (conv_name _ _ _ _ _ ?hc) ?k1 ?k2 ?k3 ?k4 ?k5 ?kK ?kd ?ku ?_)) | (k_dflt (refine' Claim.use (conv_val _ _ _ _ _ ?hc) ?k1 ?k2 ?k3 ?k4 ?k5 ?kK ?kd ?ku ?_))); (case hc => first | assumption | exact letter_ok (by assumption) | exact letter_ok (letter_low (by assumption))); (case k1 => k_asm); (case k2 => k_asm); (case k3 => k_asm); (case k4 => k_asm); (case k5 => k_asm); (case kK => exact rfl); (case kd => ktr_room); (case ku => ktr_units); intro r9 nw9 h9 tk9 hR9 F9 N9; obtain ⟨hE9, hN9⟩ := hR9; subst hE9; replace hN9 := hN9.symm; subst hN9; (try dsimp only)))
theorem map_know {m : Str → Option Value} {x : Str} {v : Value} (h : m x = some v) : m = fun y => if y = x then some v else m y := by
  funext y
  by_cases q : y = x
  · subst q; rw [if_pos rfl, h]
  · rw [if_neg q]
/-- the value that a name has, if any -/
def look (E : List Ent) (c : Nat) : Value := match E.find? (fun e => lowC e.c == lowC c) with | some e => .str ⟨#[e.k]⟩ e.tk | none => .none
theorem look_found {Es : List Ent} {c i : Nat} {e : Ent} (he : Es[i]? = some e) (hno : ∀ e' ∈ Es.take i, lowC e'.c ≠ lowC c) (hq : lowC e.c = lowC c) : look Es c = .str ⟨#[e.k]⟩ e.tk := by
  have z : Es.find? (fun e => lowC e.c == lowC c) = some e := by
    have hl : i < Es.length := (List.getElem?_eq_some_iff.mp he).1
    have hs : Es = Es.take i ++ e :: Es.drop (i + 1) := by
      have : e = Es[i] := (List.getElem?_eq_some_iff.mp he).2.symm
      rw [this, List.getElem_cons_drop, List.take_append_drop]
    rw [hs, List.find?_append, List.find?_eq_none.mpr (fun x hx => by simpa using hno x hx)]
    simp [hq]
  unfold look; rw [z]
theorem look_none {Es : List Ent} {c : Nat} (hno : ∀ e' ∈ Es, lowC e'.c ≠ lowC c) : look Es c = .none := by
  unfold look
  rw [List.find?_eq_none.mpr (fun x hx => by simpa using hno x hx)]
theorem get_claim (w : World) (news : List (Addr × Obj)) (x dx hl : Addr) (hs : Int) (tk t : Tok) (Es : List Ent) (n c : Nat) (hc : letter c = true) (hE : ∀ e ∈ Es, letter e.c = true ∧ (e.a, e.o) ∈ news)
    (hx : (x, instObj 202 dx) ∈ news) (hdx : (dx, dictOf [⟨hs, .str (Str.ofString "_headers") tk, .ref hl⟩] 1) ∈ news) (hhl : (hl, lsO Es n) ∈ news) :
    Claim w 149 [.ref x, .str ⟨#[c]⟩ t] [] 2 news (fun r nw => r = look Es c ∧ nw = news) := by
  w_on
  unfold Claim
  k_fill
  intro loose mean mg mb dp un gd cn cs a ccd cl outer A₀ base h₀ L m s Q E B F X N T hcs hd1 hu1 hret
  refine wpAny_call ?_
  k_dflt cell_enter
  k_steps
  refine wpAny_For ?_
  k_steps
  rename Fr _ _ _ _ => F1
  rename News _ _ _ _ => N1
  refine iter_listT (J := fun i m' nw => nw = news ∧ (∃ t, m' (Str.ofString "name") = some (.str ⟨#[lowC c]⟩ t)) ∧ m' (Str.ofString "default") = some .none ∧ ∀ e ∈ Es.take i, lowC e.c ≠ lowC c) (items := rfs Es) (lo := lsO Es n) (k := n) rfl F1 N1 rfl rfl ?_ ?_ ?_ ?_ ?_
  · intro v hv
    obtain ⟨e, _, rfl⟩ := List.mem_map.mp hv
    exact ⟨_, rfl⟩
  · exact ⟨rfl, ⟨_, rfl⟩, rfl, by simp⟩
  · rintro i m' nw ⟨rfl, _⟩
    exact hhl
  · rintro i v m' nw I oI g h tk E' hv ⟨rfl, ⟨t1, hm1⟩, hm2, hno⟩ off F2 N2
    obtain ⟨e, he, rfl⟩ : ∃ e, Es[i]? = some e ∧ v = .ref e.a := by
      unfold rfs at hv
      rw [List.getElem?_map] at hv
      obtain ⟨e, he, q⟩ := Option.map_eq_some_iff.mp hv
      exact ⟨e, he, q.symm⟩
    have hem := List.mem_of_getElem? he
    have hec := (hE e hem).1
    refine assign_pair rfl F2 N2 (.tail _ (hE e hem).2) rfl rfl rfl rfl rfl rfl ?_
    intro h2 tk2 F3 N3
    rw [map_know hm1, map_know hm2] at F3
    k_steps
    · rename (_ == _) = true => hq
      dsimp only [TurnP]
      k_steps
      refine hret _ _ _ _ ⟨?_, rfl⟩ (by assumption) (fun p hp => ?_)
      · rw [look_found he (fun e' h' => hno e' h') (by simpa using hq)]
      · rename News _ _ _ _ => N4
        exact N4 p (.tail _ hp)
    · rename (_ == _) = false => hq
      rename Fr _ _ _ _ => F4
      rename News _ _ _ _ => N4
      refine Tn.intro nw F4 N4 (fun p hp => hp) off ⟨rfl, ⟨_, rfl⟩, rfl, ?_⟩
      rw [List.take_add_one, he]
      simp only [Option.toList_some, List.mem_append, List.mem_singleton]
      rintro e' (h' | rfl)
      · exact hno e' h'
      · simpa using hq
  · rintro m' nw h tk ⟨rfl, ⟨t1, hm1⟩, hm2, hno⟩ F2 N2
    rw [map_know hm1, map_know hm2] at F2
    k_steps
    refine hret _ _ _ _ ⟨?_, rfl⟩ (by assumption) (by assumption)
    rw [look_none]
    simpa [rfs] using hno

-- K4
local macro_rules | `(tactic| k_all) => `(tactic| assumption)
local macro_rules | `(tactic| k_mem) => `(tactic| first | assumption | (refine' List.mem_cons_of_mem _ ?_; k_mem))
local macro_rules | `(tactic| walk_at "call ref") => `(tactic| (k_here; (k_dflt (refine' Claim.use (get_claim _ _ _ _ _ _ _ _ _ _ _ ?hc ?hE ?hx ?hdx ?hhl) ?k1 ?k2 ?k3 ?k4 ?k5 ?kK ?kd ?ku ?_)); (case k4 => k_asm); (case hx => k_mem); (case hdx => k_mem); (case hhl => k_mem); (case hE => assumption); (case hc => first | assumption | exact letter_low (by assumption)); (case k1 => k_asm); (case k2 => k_asm); (case k3 => k_asm); (case k5 => k_asm); (case kK => exact rfl); (case kd => ktr_room); (case ku => ktr_units); intro r9 nw9 h9 tk9 hR9 F9 N9; obtain ⟨hE9, hN9⟩ := hR9; subst hE9; replace hN9 := hN9.symm; subst hN9; (try dsimp only)))
/-- what setdefault does to a table: the ledger's list first -/
def SetD (hl : Addr) (Es : List Ent) (n : Nat) (rest : List (Addr × Obj)) (c : Nat) (t : Tok) (k : Nat) (tv : Tok) (r : Value) (nw : List (Addr × Obj)) : Prop :=
  (look Es c ≠ .none ∧ r = look Es c ∧ nw = (hl, lsO Es n) :: rest) ∨
  (look Es c = .none ∧ r = .str ⟨#[k]⟩ tv ∧ ∃ a, nw = (hl, lsO (Es ++ [⟨a, c, t, k, tv⟩]) (n + 1)) :: (a, Ent.o ⟨a, c, t, k, tv⟩) :: rest ∧ hl < a ∧ ∀ p ∈ rest, p.1 < a)
theorem look_cases (Es : List Ent) (c : Nat) : look Es c = .none ∨ ∃ k t, look Es c = .str ⟨#[k]⟩ t := by
  unfold look
  cases Es.find? (fun e => lowC e.c == lowC c) with
  | none => exact .inl rfl
  | some e => exact .inr ⟨_, _, rfl⟩
theorem lt_of_all {d : Nat} : ∀ {l : List (Addr × Obj)}, AllLt d l → ∀ p ∈ l, p.1 < d
  | [], _, _, h => nomatch h
  | _ :: _, h, _, .head _ => h.1
  | _ :: _, h, p, .tail _ hp => lt_of_all h.2 p hp
theorem rfs_snoc (Es : List Ent) (e : Ent) (n : Nat) : lsO (Es ++ [e]) n = listOf ((rfs Es).toArray.push (.ref e.a)) n := by
  unfold lsO rfs; simp
theorem setd_claim (w : World) (rest : List (Addr × Obj)) (x dx hl : Addr) (hs : Int) (tk t tv : Tok) (Es : List Ent) (n c k : Nat) (hc : letter c = true) (hk : okSign k = true) (hE : ∀ e ∈ Es, letter e.c = true ∧ (e.a, e.o) ∈ (hl, lsO Es n) :: rest)
    (hoff : ∀ p ∈ rest, p.1 ≠ hl) (hlen : Es.length < 1000)
    (hx : (x, instObj 202 dx) ∈ rest) (hdx : (dx, dictOf [⟨hs, .str (Str.ofString "_headers") tk, .ref hl⟩] 1) ∈ rest) :
    Claim w 192 [.ref x, .str ⟨#[c]⟩ t, .str ⟨#[k]⟩ tv] [] 3 ((hl, lsO Es n) :: rest) (SetD hl Es n rest c t k tv) := by
  have hok := letter_ok hc
  have hsz : (rfs Es).toArray.size ≤ sizeLine := by rw [List.size_toArray]; unfold rfs; rw [List.length_map, sizeLine_eq]; omega
  w_on
  unfold Claim
  k_fill
  intro loose mean mg mb dp un gd cn cs a ccd cl outer A₀ base h₀ L m s Q E B F X N T hcs hd1 hu1 hret
  refine wpAny_call ?_
  k_dflt cell_enter
  k_steps
  rename Fr _ _ _ _ => F1
  rcases look_cases Es c with hlk | ⟨k', t', hlk⟩
  · rw [hlk] at F1 ⊢
    k_steps
    rename (_ < _ ∧ AllLt _ _) => hl1
    refine hret _ _ _ _ (.inr ⟨hlk, rfl, _, rfl, hl1.1, lt_of_all hl1.2⟩) (by assumption) ?_
    rename News _ _ _ _ => N4
    rintro p hp
    refine N4 p ?_
    rw [rfs_snoc] at hp
    rcases List.mem_cons.mp hp with rfl | hp
    · exact .tail _ (.head _)
    rcases List.mem_cons.mp hp with rfl | hp
    · exact .head _
    · exact .tail _ (.tail _ hp)
  · rw [hlk] at F1 ⊢
    k_steps
    exact hret _ _ _ _ (.inl ⟨by rw [hlk]; simp, hlk.symm, rfl⟩) (by assumption) (by assumption)

-- K5
local macro_rules | `(tactic| cell_enter) => `(tactic| (refine' code_defC ?k1 ?k2 ?k3 ?k4 ?k5 ?kA ?kF ?kK ?k6 ?k7 ?k8 ?k9 ?kB ?kD ?_ ?c2 ?c3 ?c4; (case kA => exact rfl); (case kF => exact rfl); (case kK => first | exact rfl | assumption); (case k1 => k_asm); (case k2 => k_asm); (case k3 => k_asm); (case k4 => k_asm); (case k5 => k_asm); (case k6 => k_is); (case k7 => k_is); (case k8 => ktr_room); (case k9 => first | exact BindsTo.of_eq rfl | exact binds_K (by k_in) rfl (by k_is) rfl rfl rfl); (case kB => exact rfl); (case kD => decide +kernel); (case c2 => exact rfl); (case c3 => exact rfl); (case c4 => exact rfl); k_whole; intro g' L' h' tk' cells' FG' F' N' Y' B' X' T' l1; (try k_lt l1); k_cells Y'; (try simp only [List.cons_append, List.nil_append] at N'); (try dsimp only); (try k_lift B'); (try k_fold)))
local macro_rules | `(tactic| wtm_at "walk on") => `(tactic| (first | walk1 | (dsimp only; walk1) | (leave1; walk_say "STEP leave1"; (try dsimp only))))
local macro_rules | `(tactic| wtm_at "no eec") => `(tactic| ((fail_if_success (with_reducible show wpAny _ _ (eval _ _) _ _ _)); (fail_if_success (with_reducible show wpAny _ _ (call _ _ _) _ _ _)); (fail_if_success (with_reducible show wpAny _ _ (exec _ _) _ _ _))))
local macro_rules | `(tactic| wtm_at "is eval") => `(tactic| ((fail_if_success (fail_if_success (with_reducible show wpAny _ _ (eval _ _) _ _ _)))))
local macro_rules | `(tactic| wtm_at "is call") => `(tactic| ((fail_if_success (fail_if_success (with_reducible show wpAny _ _ (call _ _ _) _ _ _)))))
local macro_rules | `(tactic| wtm_at "is exec") => `(tactic| ((fail_if_success (fail_if_success (with_reducible show wpAny _ _ (exec _ _) _ _ _)))))
local macro_rules | `(tactic| wtm_at "is tree") => `(tactic| ((fail_if_success (fail_if_success (with_reducible show wpAny _ _ _ _ _ _)))))
local macro_rules | `(tactic| wtm_at "no tree") => `(tactic| ((fail_if_success (with_reducible show wpAny _ _ _ _ _ _))))
local macro_rules | `(tactic| wtm_at "g ev5") => `(tactic| ((fail_if_success (with_reducible show wpAny _ _ (eval (Expr.ListComp _ _ _ _) _) _ _ _))))
local macro_rules | `(tactic| wtm_at "g ex5") => `(tactic| ((fail_if_success (with_reducible show wpAny _ _ (exec (Stmt.For _ _ _ _ _) _) _ _ _)); (fail_if_success (with_reducible show wpAny _ _ (exec (Stmt.While _ _ _ _) _) _ _ _)); (fail_if_success (with_reducible show wpAny _ _ (exec (Stmt.Assign [Expr.Name _ _] (Expr.ListComp _ _ _ _) _) _) _ _ _))))
local macro_rules | `(tactic| wtm_at "g wp5") => `(tactic| ((fail_if_success (with_reducible show wpAny _ _ (pyIter _) _ _ _))))
local macro_rules | `(tactic| wtm_at "g ot5") => `(tactic| ((fail_if_success (with_reducible show LCt.CompSrcT _ _ _ _ _ _ _ _ _ _ _ _ _ _ _)); (fail_if_success (with_reducible show LCg.CompSrc _ _ _ _ _ _ _ _ _ _ _ _ _ _)); (fail_if_success (with_reducible show LCp.SrcLP _ _ _ _ _ _ _ _ _ _ _ _ _ _ _)); (fail_if_success (with_reducible show CE _ _ _ _ _ _ _ _)); (fail_if_success (with_reducible show TurnP _ _ _ _ _ _ _ _ _)); (fail_if_success (with_reducible show Held _))))
local macro_rules | `(tactic| k_steps) => `(tactic| repeat' (first | (k_unfold; (try dsimp only)) | ((fail_if_success (with_reducible show Held _)); k_end; wrow_close) | ((first | (wtm_at "is tree"; (first | (wtm_at "is eval"; wtm_at "g ev5") | (wtm_at "is call"; skip) | (wtm_at "is exec"; wtm_at "g ex5") | (wtm_at "no eec"; wtm_at "g wp5"))) | (wtm_at "no tree"; wtm_at "g ot5")); wtm_at "walk on") | fail "no step"))
def outOf (Es : List Ent) (c : Nat) : List Ent := Es.filter fun e => lowC e.c != lowC c
theorem outOf_step {Es : List Ent} {i c : Nat} {e : Ent} (he : Es[i]? = some e) : outOf (Es.take (i + 1)) c = outOf (Es.take i) c ++ if lowC e.c ≠ lowC c then [e] else [] := by
  rw [List.take_add_one, he]
  unfold outOf
  rw [List.filter_append]
  congr 1
  by_cases q : lowC e.c = lowC c <;> simp [q]
theorem all_ne1 {d : Nat} {l : List (Addr × Obj)} (h : AllLt d l) : ∀ p ∈ l, p.1 ≠ d + 1 := fun p hp e => by
  have := lt_of_all h p hp
  rw [e] at this
  exact absurd this (by show ¬ (d + 1 < d); omega)
theorem del_claim (w : World) (rest : List (Addr × Obj)) (x dx hl : Addr) (hs : Int) (tk t : Tok) (Es : List Ent) (n c : Nat) (hc : letter c = true) (hE : ∀ e ∈ Es, letter e.c = true ∧ (e.a, e.o) ∈ (hl, lsO Es n) :: rest)
    (hoff : ∀ p ∈ rest, p.1 ≠ hl) (hlen : Es.length < 1000)
    (hx : (x, instObj 202 dx) ∈ rest) (hdx : (dx, dictOf [⟨hs, .str (Str.ofString "_headers") tk, .ref hl⟩] 1) ∈ rest) :
    Claim w 120 [.ref x, .str ⟨#[c]⟩ t] [] 3 ((hl, lsO Es n) :: rest) (fun r nw => r = .none ∧ ∃ n', nw = (hl, lsO (outOf Es c) n') :: rest) := by
  have hsz : (rfs Es).toArray.size ≤ sizeLine := by rw [List.size_toArray]; unfold rfs; rw [List.length_map, sizeLine_eq]; omega
  w_on
  unfold Claim
  k_fill
  intro loose mean mg mb dp un gd cn cs a ccd cl outer A₀ base h₀ L m s Q E B F X N T hcs hd1 hu1 hret
  refine wpAny_call ?_
  k_dflt cell_enter
  rename (_ < _ ∧ AllLt _ _) => l1
  have l2 := all_ne1 l1.2
  k_steps
  rename Fr _ _ _ _ => F1
  k_dflt (refine LCt.ListComp_T (F₀ := F1) (by with_unfolding_all rfl) (by decide) (by rfl) (by decide) (by rfl) ?_)
  k_steps
  rename Fr _ _ _ _ => F2
  rename News _ _ _ _ => N2
  refine compT_list (fun i ys => ys = rfs (outOf (Es.take i) c)) rfl F2 N2 (.tail _ (.head _)) hsz rfl ?_ ?_
  · rintro i ys v I oI C oC D m₂ g h tk E' hv rfl hn hm₂ F3 N3 off ne
    obtain ⟨e, he, rfl⟩ : ∃ e, Es[i]? = some e ∧ v = .ref e.a := by
      have hv' : (rfs Es)[i]? = some v := by simpa using hv
      unfold rfs at hv'
      rw [List.getElem?_map] at hv'
      obtain ⟨e, he, q⟩ := Option.map_eq_some_iff.mp hv'
      exact ⟨e, he, q.symm⟩
    have hem := List.mem_of_getElem? he
    have hec := (hE e hem).1
    have hea := (hE e hem).2
    have hin : (e.a, ({ cls := .type "tuple", data := .seq #[.str ⟨#[e.c]⟩ e.tc, .str ⟨#[e.k]⟩ e.tk] } : Obj)) ∈ (hl, lsO Es n) :: rest := hea
    k_steps
    · rename (_ != _) = true => hq
      rename Fr _ _ _ _ => F4
      rename News _ _ _ _ => N4
      refine CE.intro F4 N4 (fun p hp => hp) ?_
      rw [outOf_step he, if_pos (by simpa using hq)]
      simp [rfs]
    · rename (_ != _) = false => hq
      rename Fr _ _ _ _ => F4
      rename News _ _ _ _ => N4
      refine CE.intro F4 N4 (fun p hp => hp) ?_
      rw [outOf_step he, if_neg (by simpa using hq)]
      simp
  · rintro ys g rfl
    intro D h tk F3 N3 off
    dsimp only
    k_steps
    have hne : hl ≠ D := fun e => off.2.1 e
    refine setItem_allN F3 N3 (fun k => .tail (fun e => hne e.symm) (.tail (Nat.ne_of_gt (Nat.lt_succ_of_lt l1.1)) (.head hoff))) (.head _) hne ?_ ?_
    · have := List.length_filter_le (fun e => lowC e.c != lowC c) Es
      rw [List.size_toArray, List.size_toArray]
      unfold rfs outOf
      rw [List.length_map, List.length_map, sizeLine_eq, List.take_of_length_le (by simp)]
      omega
    · intro h' k F4 N4
      dsimp only
      k_steps
      refine hret _ _ _ _ ⟨rfl, k, rfl⟩ (by assumption) ?_
      rename News _ _ _ _ => N5
      rw [List.take_of_length_le (by simp [rfs])] at N5
      exact fun p hp => N5 p (.tail _ (.tail _ hp))

-- K6
section
variable {M : Model} {A : Around} {E : Value → Shared → Prop} {s : Shared} {K : Frag} {x C L f : Addr} {h₀ : Heap} {m : Str → Option Value} {ox : Obj} {od : Option Obj} {i : Value}
/-- del x[i], by an own __delitem__ -/
theorem own_delItem {Q : Unit → Shared → Prop} (F : Fr h₀ L s.heap m) (X₀ : K.In h₀) (I : InstAt s.heap x ox C od) (hq : noSeq K C = true) (hs : findIn K (.ref C) "__delitem__" = some (some (.ref f))) (hf : isFn K (.ref f) = true)
    (h : wpAny M A (call (.ref f) [.ref x, i]) (fun _ s' => Q () s') E s) : wpAny M A (delItem (.ref x) i) Q E s := by
  have X := X₀.keeps F.keep
  unfold delItem sequenceKey
  refine wpAny_holding (wpAny_bind (wpAny_bind (I.type.here ?_)))
  refine wpAny_bind ((anyM_none X hq).here ?_)
  rw [if_pos (show (!false) = true from rfl)]
  exact wpAny_pure (wpAny_bind (special_fn X I hs (beq_iff_eq.mp hf) (wpAny_mono h (fun _ _ z => wpAny_pure z) fun _ _ z => z)))
end
local macro_rules | `(tactic| walk_at "delItem ref") => `(tactic| (k_here; (with_reducible show wpAny _ _ (delItem (Value.ref _) _) _ _ _); k_dflt (refine' own_delItem ?F ?X ?I ?hQ ?hS ?hF ?_; (case F => k_asm); (case X => k_asm); (case I => k_inst); (case hS => k_is); (case hF => k_is); (case hQ => k_is); k_whole)))
local macro_rules | `(tactic| walk_at "call ref") => `(tactic| (k_here; (k_dflt (refine' Claim.use (del_claim _ _ _ _ _ _ _ _ _ _ _ ?hc ?hE ?hoff ?hlen ?hx ?hdx) ?k1 ?k2 ?k3 ?k4 ?k5 ?kK ?kd ?ku ?_)); (case k4 => k_asm); (case hx => k_mem); (case hdx => k_mem); (case hE => assumption); (case hoff => assumption); (case hlen => assumption); (case hc => assumption); (case k1 => k_asm); (case k2 => k_asm); (case k3 => k_asm); (case k5 => k_asm); (case kK => exact rfl); (case kd => ktr_room); (case ku => ktr_units); intro r9 nw9 h9 tk9 hR9 F9 N9; obtain ⟨hE9, n9, hN9⟩ := hR9; subst hE9; subst hN9; (try dsimp only)))
theorem news_swap {h₀ h : Heap} {L D l : Addr} {o : Obj} {its : Array Value} {n : Nat} {rest : List (Addr × Obj)} (N : News h₀ L h ((D, o) :: (l, listOf its n) :: rest)) : ∃ n', News h₀ L h ((l, listOf its n') :: (D, o) :: rest) :=
  ⟨n, fun p hp => N p (by
    rcases List.mem_cons.mp hp with rfl | hp
    · exact .tail _ (.head _)
    rcases List.mem_cons.mp hp with rfl | hp
    · exact .head _
    · exact .tail _ (.tail _ hp))⟩
/-- what a store does to a table -/
def SetI (hl : Addr) (Es : List Ent) (rest : List (Addr × Obj)) (c : Nat) (t : Tok) (k : Nat) (tv : Tok) (r : Value) (nw : List (Addr × Obj)) : Prop :=
  r = .none ∧ ∃ a n', nw = (hl, lsO (outOf Es c ++ [⟨a, c, t, k, tv⟩]) n') :: (a, Ent.o ⟨a, c, t, k, tv⟩) :: rest ∧ hl < a ∧ ∀ p ∈ rest, p.1 < a
theorem seti_claim (w : World) (rest : List (Addr × Obj)) (x dx hl : Addr) (hs : Int) (tk t tv : Tok) (Es : List Ent) (n c k : Nat) (hc : letter c = true) (hk : okSign k = true) (hE : ∀ e ∈ Es, letter e.c = true ∧ (e.a, e.o) ∈ (hl, lsO Es n) :: rest)
    (hoff : ∀ p ∈ rest, p.1 ≠ hl) (hlen : Es.length < 1000)
    (hx : (x, instObj 202 dx) ∈ rest) (hdx : (dx, dictOf [⟨hs, .str (Str.ofString "_headers") tk, .ref hl⟩] 1) ∈ rest) :
    Claim w 115 [.ref x, .str ⟨#[c]⟩ t, .str ⟨#[k]⟩ tv] [] 4 ((hl, lsO Es n) :: rest) (SetI hl Es rest c t k tv) := by
  have hok := letter_ok hc
  have hsz : (rfs (outOf Es c)).toArray.size ≤ sizeLine := by
    have := List.length_filter_le (fun e => lowC e.c != lowC c) Es
    rw [List.size_toArray]; unfold rfs outOf; rw [List.length_map, sizeLine_eq]; omega
  w_on
  unfold Claim
  k_fill
  intro loose mean mg mb dp un gd cn cs a ccd cl outer A₀ base h₀ L m s Q E B F X N T hcs hd1 hu1 hret
  refine wpAny_call ?_
  k_dflt cell_enter
  k_steps
  rename (_ < _ ∧ AllLt _ _) => hl1
  rename News _ _ _ _ => N4
  obtain ⟨n', N5⟩ := news_swap N4
  exact hret _ _ _ _ ⟨rfl, _, n', rfl, hl1.1, lt_of_all hl1.2⟩ (by assumption) (by rw [rfs_snoc]; exact N5)

-- K7
/-- letters, with their tokens, as values -/
def letV (l : List (Nat × Tok)) : List Value := l.map fun p => .str ⟨#[p.1]⟩ p.2
def sign10 (n : Int) : Nat := [97, 98, 99, 100, 101, 65, 66, 67, 68, 69].getD n.toNat 97
/-- the ten numbers -/
def tenOf (ns : List Int) : List Int := (ns.take 10).map (Int.fmod · 10) ++ [5, 1, 2, 3, 4, 7, 0, 8, 1, 9].drop (ns.take 10).length
theorem ints_take {vs : List Value} {ns : List Int} (h : IntsAre vs ns) {i : Nat} {v : Value} (hv : vs[i]? = some v) : ∃ n t, ns[i]? = some n ∧ v = .int n t := by
  have hl := h.length
  have hlt : i < vs.length := (List.getElem?_eq_some_iff.mp hv).1
  obtain ⟨n, hn⟩ : ∃ n, ns[i]? = some n := ⟨ns[i]'(by omega), by simp⟩
  obtain ⟨t, ht⟩ := h.get i n hn
  rw [hv] at ht
  exact ⟨n, t, hn, Option.some.inj ht⟩
theorem ten_len (ns : List Int) : (tenOf ns).length = 10 := by
  unfold tenOf
  rw [List.length_append, List.length_map, List.length_drop]
  have : (ns.take 10).length ≤ 10 := by simp; omega
  simp only [List.length_cons, List.length_nil]
  omega
theorem ten_lt (ns : List Int) : ∀ n ∈ tenOf ns, 0 ≤ n ∧ n < 10 := by
  intro n hn
  unfold tenOf at hn
  rcases List.mem_append.mp hn with h | h
  · obtain ⟨x, _, rfl⟩ := List.mem_map.mp h
    exact ⟨Int.fmod_nonneg_of_pos _ (by decide), Int.fmod_lt_of_pos _ (by decide)⟩
  · have := List.mem_of_mem_drop h
    revert this
    have : ∀ k ∈ ([5, 1, 2, 3, 4, 7, 0, 8, 1, 9] : List Int), 0 ≤ k ∧ k < 10 := by decide
    exact this n
theorem item10 {x : Int} (h0 : 0 ≤ x) (h1 : x < 10) : Txt.item (Str.ofString "abcdeABCDE") x = ⟨#[sign10 x]⟩ := by
  obtain ⟨k, rfl⟩ := Int.eq_ofNat_of_zero_le h0
  have z : ∀ k ∈ List.range 10, Txt.item (Str.ofString "abcdeABCDE") (k : Int) = ⟨#[sign10 (k : Int)]⟩ := by decide +kernel
  exact z k (List.mem_range.mpr (by omega))
theorem off1_mem {D : Addr} : ∀ {l : List (Addr × Obj)}, LCg.Off1 D l → ∀ p ∈ l, p.1 ≠ D
  | [], _, _, h => nomatch h
  | _ :: _, x, p, h => by
    rcases List.mem_cons.mp h with rfl | h
    · exact x.1
    · exact off1_mem x.2 p h
theorem letV_snoc (lt : List (Nat × Tok)) (c : Nat) (t : Tok) : letV lt ++ [.str ⟨#[c]⟩ t] = letV (lt ++ [(c, t)]) := by unfold letV; rw [List.map_append]; rfl
theorem log_claim (w : World) (news : List (Addr × Obj)) (l : Addr) (vs : List Value) (ns : List Int) (hi : IntsAre vs ns) (hlen : ns.length ≤ 63) :
    ClaimB w (fun base => base.IsList l vs.toArray) 211 [.ref l] [] 2 news (fun r nw => ∃ a k lt, r = .ref a ∧ nw = (a, listOf (letV lt).toArray k) :: news ∧ (∀ p ∈ news, p.1 ≠ a) ∧ lt.map (·.1) = (tenOf ns).map sign10) := by
  w_on
  unfold ClaimB
  k_fill
  intro loose mean mg mb dp un gd cn cs a ccd cl outer A₀ base h₀ L m s Q E B F X N T hcs hbl hd1 hu1 hret
  refine wpAny_call ?_
  k_dflt cell_enter
  k_steps
  rename Fr _ _ _ _ => F1
  k_dflt (refine LCg.Assign_ListComp_U (F₀ := F1) (by rfl) (by with_unfolding_all rfl) (by with_unfolding_all rfl) (by decide) (by rfl) (by decide) (by rfl) (by rfl) (by rfl) ?_)
  k_steps
  rename Fr _ _ _ _ => F2
  rename News _ _ _ _ => N2
  rename IntsAre _ (List.take 10 ns) => hI
  have hlI := hI.length
  have hmin : (ns.take 10).length ≤ 10 := by simp; omega
  refine compU_list (fun i ys => IntsAre ys (((ns.take 10).take i).map (Int.fmod · 10))) rfl F2 N2 (.head _) (by rw [List.size_toArray, sizeLine_eq]; omega) .nil ?_ ?_
  · rintro i ys v I oI C oC D m₂ g h tk E' hv hJ hn hm₂ F3 N3 off ne
    obtain ⟨x, tx, hx, rfl⟩ := ints_take hI (by simpa using hv)
    k_steps
    rename Fr _ _ _ _ => F4
    rename News _ _ _ _ => N4
    refine CE.intro F4 N4 (fun p hp => hp) ?_
    rw [List.take_add_one, hx, List.map_append]
    exact hJ.append (.cons _ _ .nil)
  · intro ys g hJ
    rw [List.size_toArray, hlI, List.take_length] at hJ
    intro D h tk F3 N3 off
    dsimp only
    have hl2 := hJ.length
    rw [List.length_map] at hl2
    refine wpAny_execs_cons (wpAny_Assign_Name (wpAny_BinOp ?_))
    refine nameX_L F3 rfl (Subscript_ (ints_display (.cons _ _ _ (.cons _ _ _ (.cons _ _ _ (.cons _ _ _ (.cons _ _ _ (.cons _ _ _ (.cons _ _ _ (.cons _ _ _ (.cons _ _ _ (.cons _ _ _ .nil)))))))))) F3 N3 (by decide) ?_)) rfl rfl
    intro D2 vs2 h2 tk2 hI2 F4 N4 l2
    dsimp only
    repeat' (first | (k_unfold; (try dsimp only)) | ((fail_if_success (with_reducible show wpAny _ _ (subscriptTail _ _ _ _) _ _ _)); (first | walk1 | (dsimp only; walk1))))
    refine kba_turn (value' := PySem.Expr.Name (PySem.Str.ofString "_") ⟨0, 0, 0, 0⟩) (fun _ => rfl) ?_
    refine kmk_slice_ints (hc := rfl) F4 N4 ⟨_, (N4 _ (.head _)).1, rfl, _, rfl⟩ (.int _ _) .none hI2 (kmk_from hI2 (by omega)) ?_ (by with_unfolding_all rfl) (by intro _; rfl) (by rw [List.size_toArray, hI2.length]; decide)
    intro D3 ws3 h3 F5 N5 l3 hI3 _ _
    dsimp only
    refine kmk_add_ints F5 N5 ⟨_, (N5 _ (.tail _ (.tail _ (.head _)))).1, rfl, _, rfl⟩ ⟨_, (N5 _ (.head _)).1, rfl, _, rfl⟩ hJ hI3 ?_ (by rw [List.length_map, List.length_drop, sizeLine_eq]; simp only [List.length_cons, List.length_nil]; omega)
    intro D4 ws4 h4 F6 N6 l4 hI4
    dsimp only
    k_steps
    rename Fr _ _ _ _ => F7
    rename News _ _ _ _ => N7
    k_dflt (refine LCg.ListComp_U (F₀ := F7) (by with_unfolding_all rfl) (by decide) (by rfl) (by decide) (by rfl) ?_)
    k_steps
    rename Fr _ _ _ _ => F8
    rename News _ _ _ _ => N8
    have hten : (ns.take 10).map (Int.fmod · 10) ++ [5, 1, 2, 3, 4, 7, 0, 8, 1, 9].drop (ns.take 10).length = tenOf ns := rfl
    have hI5 : IntsAre ws4 (tenOf ns) := by
      rw [← hten]
      simpa using hI4
    have hl5 := hI5.length
    have hl6 := ten_len ns
    refine compU_list (fun i ys => ∃ lt, ys = letV lt ∧ lt.map (·.1) = ((tenOf ns).take i).map sign10) rfl F8 N8 (.head _) (by rw [List.size_toArray, sizeLine_eq]; omega) ⟨[], rfl, rfl⟩ ?_ ?_
    · rintro i ys v I oI C oC D m₂ g h tk E' hv ⟨lt, rfl, hJ⟩ hn hm₂ F3 N3 off ne
      obtain ⟨x, tx, hx, rfl⟩ := ints_take hI5 (by simpa using hv)
      have hx10 := ten_lt ns x (List.mem_of_getElem? hx)
      refine Subscript_ (wpAny_Constant_str ?_)
      k_steps
      rename Fr _ _ _ _ => F4
      rename News _ _ _ _ => N4
      refine CE.intro F4 N4 (fun p hp => hp) ?_
      rw [item10 hx10.1 hx10.2, letV_snoc]
      exact ⟨_, rfl, by rw [List.take_add_one, hx, List.map_append, List.map_append, hJ]; rfl⟩
    · rintro ys g ⟨lt, rfl, hJ⟩
      rw [List.size_toArray, hl5, List.take_length] at hJ
      intro D5 h5 tk5 F9 N9 off9
      dsimp only
      k_steps
      rename News _ _ _ _ => N10
      refine hret _ ((D5, listOf (letV lt).toArray (letV lt).length) :: news) _ _ ⟨D5, _, lt, rfl, rfl, fun p hp => ?_, hJ⟩ (by assumption) (fun p hp => N10 p ?_)
      · exact off1_mem off9 p (.tail _ (.tail _ (.tail _ (.tail _ (.tail _ hp)))))
      · rcases List.mem_cons.mp hp with rfl | hp
        · exact .head _
        · exact .tail _ (.tail _ (.tail _ (.tail _ (.tail _ (.tail _ hp)))))

-- K8
section
variable {prog : Program} {w : World} {A : Around} {s : Shared} {h₀ : Heap} {L : Addr} {env : Env}
theorem iter_nilT {elts : List Expr} {x1} {px : Pos} {body : List Stmt} {Q : Flow → Shared → Prop} {EE E : Value → Shared → Prop} {l : Addr} {k : Nat} {m₀ : Str → Option Value} {nw₀ : List (Addr × Obj)} (hh : A.handled = none) (F : Fr h₀ L s.heap m₀) (N : News h₀ L s.heap nw₀) (hm : (l, listOf #[] k) ∈ nw₀)
    (done : ∀ h tk, Fr h₀ L h m₀ → News h₀ L h nw₀ → Q .next { s with heap := h, toks := tk }) :
    wpAny (model prog w) A (pyIter (.ref l)) (fun it s₂ => codeAny (model prog w) A (.forLoop (.Tuple elts x1 px) it body [] env) (fun r s' => match r with | .ok f => Q f s' | .error e => EE e s') s₂) E s :=
  iter_listT (J := fun _ m nw => m = m₀ ∧ nw = nw₀) (items := []) (lo := listOf #[] k) (k := k) hh F N rfl rfl (fun v hv => nomatch hv) ⟨rfl, rfl⟩ (fun _ _ _ h => h.2 ▸ hm) (fun i v _ _ _ _ _ _ _ _ hv => by simp at hv)
    (fun m' nw h tk ⟨e1, e2⟩ F' N' => done h tk (e1 ▸ F') (e2 ▸ N'))
end
/-- a new table -/
def NewTab (news : List (Addr × Obj)) (r : Value) (nw : List (Addr × Obj)) : Prop :=
  ∃ x dx hl hs tk, r = .ref x ∧ nw = (hl, lsO [] 0) :: (x, instObj 202 dx) :: (dx, dictOf [⟨hs, .str (Str.ofString "_headers") tk, .ref hl⟩] 1) :: news ∧ x < hl ∧ dx < x ∧ ∀ p ∈ news, p.1 < dx
theorem new_claim (w : World) (news : List (Addr × Obj)) : Claim w 202 [] [] 3 news (NewTab news) := by
  w_on
  unfold Claim
  k_fill
  intro loose mean mg mb dp un gd cn cs a ccd cl outer A₀ base h₀ L m s Q E B F X N T hcs hd1 hu1 hret
  k_dflt (refine' call_cls ?k1 ?k2 ?k3 ?k4 ?k5 ?k6 ?_)
  (case k1 => k_asm); (case k2 => k_asm); (case k3 => k_asm); (case k4 => k_dflt k_is); (case k5 => k_dflt k_is); (case k6 => k_dflt k_is)
  intro x' d' h' F' N' l1 l2
  have l3 : ∀ p ∈ news, p.1 ≠ d' := fun p hp => Nat.ne_of_lt (l1 p hp)
  (k_lt2 l2); (k_sweep)
  k_dflt cell_enter
  k_steps
  refine wpAny_For ?_
  k_steps
  rename Fr _ _ _ _ => F1
  rename News _ _ _ _ => N1
  rename (_ < _ ∧ _ < _ ∧ AllLt _ _) => l4
  refine iter_nilT rfl F1 N1 (.head _) fun h9 tk9 F2 N2 => ?_
  dsimp only
  k_steps
  exact hret _ _ _ _ ⟨x', d', _, _, _, rfl, rfl, l4.1, l2, l1⟩ (by assumption) (by assumption)

-- K9
/-- the tables, in plain data: the first touches, the last ones, what was told; a place as its sign -/
def lookC (t : List (Nat × Nat)) (c : Nat) : Option Nat := (t.find? fun q => lowC q.1 == lowC c).map (·.2)
def stepF (t : List (Nat × Nat)) (p : Nat × Nat) : List (Nat × Nat) := if lookC t p.1 = none then t ++ [p] else t
def stepL (t : List (Nat × Nat)) (p : Nat × Nat) : List (Nat × Nat) := (t.filter fun q => lowC q.1 != lowC p.1) ++ [p]
def stT (s : List (Nat × Nat) × List (Nat × Nat) × List Nat) (p : Nat × Nat) : List (Nat × Nat) × List (Nat × Nat) × List Nat := (stepF s.1 p, stepL s.2.1 p, s.2.2 ++ [(lookC s.1 p.1).getD p.2])
def placed (cs : List Nat) : List (Nat × Nat) := cs.zipIdx.map fun p => (p.1, 48 + p.2)
def runT (cs : List Nat) : List (Nat × Nat) × List (Nat × Nat) × List Nat := (placed cs).foldl stT ([], [], [])
theorem placed_snoc (cs : List Nat) (c : Nat) : placed (cs ++ [c]) = placed cs ++ [(c, 48 + cs.length)] := by
  unfold placed
  rw [List.zipIdx_append, List.map_append]
  simp
theorem runT_snoc (cs : List Nat) (c : Nat) : runT (cs ++ [c]) = stT (runT cs) (c, 48 + cs.length) := by
  unfold runT
  rw [placed_snoc, List.foldl_append]; rfl
def ent2 (e : Ent) : Nat × Nat := (e.c, e.k)
theorem look_lookC (Es : List Ent) (c : Nat) : (look Es c = .none ∧ lookC (Es.map ent2) c = none) ∨ ∃ k t, look Es c = .str ⟨#[k]⟩ t ∧ lookC (Es.map ent2) c = some k := by
  unfold look lookC
  rw [List.find?_map]
  have e : ((fun q : Nat × Nat => lowC q.1 == lowC c) ∘ ent2) = fun e : Ent => lowC e.c == lowC c := rfl
  rw [e]
  cases Es.find? (fun e => lowC e.c == lowC c) with
  | none => exact .inl ⟨rfl, rfl⟩
  | some e => exact .inr ⟨_, _, rfl, rfl⟩
theorem outOf_ent2 (Es : List Ent) (c : Nat) : (outOf Es c).map ent2 = (Es.map ent2).filter fun q => lowC q.1 != lowC c := by
  unfold outOf
  rw [List.filter_map]; rfl
/-- what the ledger holds of the two tables -/
structure Tabs (news : List (Addr × Obj)) (x1 d1 h1 x2 d2 h2 td : Addr) (E1 E2 : List Ent) (rest : List (Addr × Obj)) : Prop where
  o1 : (x1, instObj 202 d1) ∈ rest
  q1 : ∃ hs tk, (d1, dictOf [⟨hs, .str (Str.ofString "_headers") tk, .ref h1⟩] 1) ∈ rest
  o2 : (x2, instObj 202 d2) ∈ rest
  q2 : ∃ hs tk, (d2, dictOf [⟨hs, .str (Str.ofString "_headers") tk, .ref h2⟩] 1) ∈ rest
  e1 : ∀ e ∈ E1, letter e.c = true ∧ (e.a, e.o) ∈ rest
  e2 : ∀ e ∈ E2, letter e.c = true ∧ (e.a, e.o) ∈ rest
  old : ∀ p ∈ news, p ∈ rest
  nd : (h1 :: h2 :: td :: rest.map (·.1)).Nodup
theorem Tabs.add1 {news rest : List (Addr × Obj)} {x1 d1 h1 x2 d2 h2 td : Addr} {E1 E2 : List Ent} (T : Tabs news x1 d1 h1 x2 d2 h2 td E1 E2 rest) {e : Ent} (hc : letter e.c = true) (b1 : h1 < e.a) (b2 : h2 < e.a) (b3 : td < e.a) (b4 : ∀ p ∈ rest, p.1 < e.a) :
    Tabs news x1 d1 h1 x2 d2 h2 td (E1 ++ [e]) E2 ((e.a, e.o) :: rest) where
  o1 := .tail _ T.o1
  q1 := let ⟨a, b, c⟩ := T.q1; ⟨a, b, .tail _ c⟩
  o2 := .tail _ T.o2
  q2 := let ⟨a, b, c⟩ := T.q2; ⟨a, b, .tail _ c⟩
  e1 := fun x hx => by
    rcases List.mem_append.mp hx with h | h
    · exact ⟨(T.e1 x h).1, .tail _ (T.e1 x h).2⟩
    · rw [List.mem_singleton.mp h]; exact ⟨hc, .head _⟩
  e2 := fun x hx => ⟨(T.e2 x hx).1, .tail _ (T.e2 x hx).2⟩
  old := fun p hp => .tail _ (T.old p hp)
  nd := by
    have := T.nd
    simp only [List.map_cons, List.nodup_cons, List.mem_cons, not_or] at this ⊢
    have n4 : e.a ∉ rest.map (·.1) := fun h => by
      obtain ⟨p, hp, q⟩ := List.mem_map.mp h
      exact absurd (b4 p hp) (by rw [q]; exact Nat.lt_irrefl _)
    exact ⟨⟨this.1.1, this.1.2.1, Nat.ne_of_lt b1, this.1.2.2⟩, ⟨this.2.1.1, Nat.ne_of_lt b2, this.2.1.2⟩, ⟨Nat.ne_of_lt b3, this.2.2.1⟩, n4, this.2.2.2⟩
theorem Tabs.add2 {news rest : List (Addr × Obj)} {x1 d1 h1 x2 d2 h2 td : Addr} {E1 E2 : List Ent} (T : Tabs news x1 d1 h1 x2 d2 h2 td E1 E2 rest) {e : Ent} {c : Nat} (hc : letter e.c = true) (b1 : h1 < e.a) (b2 : h2 < e.a) (b3 : td < e.a) (b4 : ∀ p ∈ rest, p.1 < e.a) :
    Tabs news x1 d1 h1 x2 d2 h2 td E1 (outOf E2 c ++ [e]) ((e.a, e.o) :: rest) where
  o1 := .tail _ T.o1
  q1 := let ⟨a, b, c⟩ := T.q1; ⟨a, b, .tail _ c⟩
  o2 := .tail _ T.o2
  q2 := let ⟨a, b, c⟩ := T.q2; ⟨a, b, .tail _ c⟩
  e1 := fun x hx => ⟨(T.e1 x hx).1, .tail _ (T.e1 x hx).2⟩
  e2 := fun x hx => by
    rcases List.mem_append.mp hx with h | h
    · have := (List.mem_filter.mp h).1
      exact ⟨(T.e2 x this).1, .tail _ (T.e2 x this).2⟩
    · rw [List.mem_singleton.mp h]; exact ⟨hc, .head _⟩
  old := fun p hp => .tail _ (T.old p hp)
  nd := by
    have := T.nd
    simp only [List.map_cons, List.nodup_cons, List.mem_cons, not_or] at this ⊢
    have n4 : e.a ∉ rest.map (·.1) := fun h => by
      obtain ⟨p, hp, q⟩ := List.mem_map.mp h
      exact absurd (b4 p hp) (by rw [q]; exact Nat.lt_irrefl _)
    exact ⟨⟨this.1.1, this.1.2.1, Nat.ne_of_lt b1, this.1.2.2⟩, ⟨this.2.1.1, Nat.ne_of_lt b2, this.2.1.2⟩, ⟨Nat.ne_of_lt b3, this.2.2.1⟩, n4, this.2.2.2⟩
theorem Claim.sub {w : World} {f : Addr} {vs : List Value} {kw : List (Str × Value)} {dd : Nat} {news nw : List (Addr × Obj)} {R : Value → List (Addr × Obj) → Prop} (C : Claim w f vs kw dd news R) (h : ∀ p ∈ news, p ∈ nw) : Claim w f vs kw dd nw R := by
  unfold Claim at C ⊢
  intro loose mean mg mb dp un gd cn cs a ccd cl outer A₀ base h₀ L m s Q E B F X N T hcs hd1 hu1 hret
  exact C _ _ _ _ _ _ _ _ _ _ _ _ _ _ _ _ _ _ _ _ _ B F X (fun p hp => N p (h p hp)) T hcs hd1 hu1 hret
section
variable {prog : Program} {w : World} {A : Around} {E : Value → Shared → Prop} {s : Shared} {h₀ : Heap} {L : Addr} {nw : List (Addr × Obj)}
/-- an item of a list of the ledger's -/
theorem item_led {value slice : Expr} {l : Addr} {vs : List Value} {n : Nat} {k : Int} {u : Tok} {v : Value} {Q : Value → Shared → Prop} (N : News h₀ L s.heap nw) (hm : (l, listOf vs.toArray n) ∈ nw) (h0 : 0 ≤ k) (hhi : k < 2 ^ 63) (hx : vs[k.toNat]? = some v) (h : Q v s)
    (hs : subscripted slice false (.ref l) (.int k u) = operate [.ref l, .int k u] (getItem (.ref l) (.int k u)) := by with_unfolding_all rfl) :
    wpAny (model prog w) A (subscriptTail value slice (.ref l) (.int k u)) Q E s :=
  have hl : s.heap.IsList l vs.toArray := ⟨_, (N _ hm).1, rfl, n, rfl⟩
  tail_any hl.typeIs slot_list_getitem.lookup (wpAny_getItem_list hl h0 hhi (by simpa using hx) h) hs
end

-- K10
theorem str_dig {k : Nat} (h : k < 10) : Str.ofString (toString (k : Int)) = ⟨#[48 + k]⟩ := by
  have z : ∀ k ∈ List.range 10, Str.ofString (toString ((k : Nat) : Int)) = ⟨#[48 + k]⟩ := by decide +kernel
  exact z k (List.mem_range.mpr h)
section
variable {prog : Program} {w : World} {A : Around} {E : Value → Shared → Prop} {s : Shared} {t : Tok} {Q : Value → Shared → Prop}
theorem call_strdig {k : Nat} (hk : k < 10) (h : Q (.str ⟨#[48 + k]⟩ s.toks) { s with toks := s.toks + 1 }) : wpAny (model prog w) A (call (.type "str") [.int (k : Int) t]) Q E s := by
  rw [← str_dig hk] at h
  exact P.str_of_int (by
    have : ((k : Int)).natAbs < 2 ^ 10 := by omega
    rcases Nat.eq_zero_or_pos (k : Int).natAbs with h0 | hp
    · rw [h0]; decide
    · exact Nat.lt_of_lt_of_le ((Nat.log2_lt (Nat.ne_of_gt hp)).mpr this) (by decide)) h
end
section
variable {prog : Program} {w : World} {A : Around} {E : Value → Shared → Prop} {s : Shared} {h₀ : Heap} {L : Addr} {nw : List (Addr × Obj)}
theorem len_led {l : Addr} {its : Array Value} {n k : Nat} {Q : Value → Shared → Prop} (N : News h₀ L s.heap nw) (hm : (l, listOf its n) ∈ nw) (hk : its.size = k) (hfit : k < 1000000) (h : ∀ t tk, Q (.int (k : Int) t) { s with toks := tk }) :
    wpAny (model prog w) A (call (.builtin "len") [.ref l]) Q E s := by
  subst hk
  exact call_len_list ⟨_, (N _ hm).1, rfl, n, rfl⟩ (by omega) (h _ _)
end

theorem setd_after {news rest nw : List (Addr × Obj)} {x1 d1 h1 x2 d2 h2 td I : Addr} {o2 o3 oI : Obj} {E1 E2 : List Ent} {n1 c k : Nat} {t tv : Tok} {r : Value} {g h : Heap} {L : Addr} (T : Tabs news x1 d1 h1 x2 d2 h2 td E1 E2 rest) (hc : letter c = true)
    (hR : SetD h1 E1 n1 ((h2, o2) :: (td, o3) :: (I, oI) :: rest) c t k tv r nw) (N : News g L h nw) (off : ∀ p ∈ rest, p.1 ≠ I) :
    ∃ E1' n1' rest' t', r = .str ⟨#[(lookC (E1.map ent2) c).getD k]⟩ t' ∧ News g L h ((h1, lsO E1' n1') :: (h2, o2) :: (td, o3) :: (I, oI) :: rest') ∧ Tabs news x1 d1 h1 x2 d2 h2 td E1' E2 rest' ∧ E1'.map ent2 = stepF (E1.map ent2) (c, k) ∧ ∀ p ∈ rest', p.1 ≠ I := by
  rcases hR with ⟨hn, rfl, rfl⟩ | ⟨hn, rfl, a, rfl, b1, b2⟩
  · rcases look_lookC E1 c with ⟨e, _⟩ | ⟨k', t', e, e'⟩
    · exact absurd e hn
    · refine ⟨E1, n1, rest, t', ?_, N, T, ?_, off⟩
      · rw [e, e']; rfl
      · unfold stepF; rw [if_neg (by rw [e']; simp)]
  · rcases look_lookC E1 c with ⟨_, e⟩ | ⟨k', t', e, e'⟩
    · refine ⟨_, n1 + 1, _, tv, ?_, fun p hp => N p ?_, T.add1 (e := ⟨a, c, t, k, tv⟩) hc b1 (b2 _ (.head _)) (b2 _ (.tail _ (.head _))) (fun p hp => b2 p (.tail _ (.tail _ (.tail _ hp)))), ?_, ?_⟩
      · rw [e]; rfl
      · simp only [List.mem_cons] at hp ⊢
        rcases hp with q | q | q | q | q | q <;> simp [q]
      · unfold stepF; rw [if_pos e, List.map_append]; rfl
      · intro p hp
        rcases List.mem_cons.mp hp with rfl | hp
        · exact Nat.ne_of_gt (b2 (I, oI) (.tail _ (.tail _ (.head _))))
        · exact off p hp
    · rw [hn] at e; cases e
theorem seti_after {news rest nw : List (Addr × Obj)} {x1 d1 h1 x2 d2 h2 td I : Addr} {o1 o3 oI : Obj} {E1 E2 : List Ent} {c k : Nat} {t tv : Tok} {r : Value} {g h : Heap} {L : Addr} (T : Tabs news x1 d1 h1 x2 d2 h2 td E1 E2 rest) (hc : letter c = true)
    (hR : SetI h2 E2 ((h1, o1) :: (td, o3) :: (I, oI) :: rest) c t k tv r nw) (N : News g L h nw) (off : ∀ p ∈ rest, p.1 ≠ I) :
    r = .none ∧ ∃ E2' n2' rest', News g L h ((h1, o1) :: (h2, lsO E2' n2') :: (td, o3) :: (I, oI) :: rest') ∧ Tabs news x1 d1 h1 x2 d2 h2 td E1 E2' rest' ∧ E2'.map ent2 = stepL (E2.map ent2) (c, k) ∧ ∀ p ∈ rest', p.1 ≠ I := by
  obtain ⟨rfl, a, n', rfl, b1, b2⟩ := hR
  refine ⟨rfl, _, n', _, fun p hp => N p ?_, T.add2 (e := ⟨a, c, t, k, tv⟩) (c := c) hc (b2 _ (.head _)) b1 (b2 _ (.tail _ (.head _))) (fun p hp => b2 p (.tail _ (.tail _ (.tail _ hp)))), ?_, ?_⟩
  · simp only [List.mem_cons] at hp ⊢
    rcases hp with q | q | q | q | q | q <;> simp [q]
  · unfold stepL; rw [List.map_append, outOf_ent2]; rfl
  · intro p hp
    rcases List.mem_cons.mp hp with rfl | hp
    · exact Nat.ne_of_gt (b2 (I, oI) (.tail _ (.tail _ (.head _))))
    · exact off p hp
/-- the lists' places differ from all others -/
theorem Tabs.off1 {news rest : List (Addr × Obj)} {x1 d1 h1 x2 d2 h2 td I : Addr} {o2 o3 oI : Obj} {E1 E2 : List Ent} (T : Tabs news x1 d1 h1 x2 d2 h2 td E1 E2 rest) (hI : h1 ≠ I) : ∀ p ∈ (h2, o2) :: (td, o3) :: (I, oI) :: rest, p.1 ≠ h1 := by
  have := T.nd
  simp only [List.nodup_cons, List.mem_cons, not_or] at this
  intro p hp
  simp only [List.mem_cons] at hp
  rcases hp with rfl | rfl | rfl | hp
  · exact fun e => this.1.1 e.symm
  · exact fun e => this.1.2.1 e.symm
  · exact fun e => hI e.symm
  · exact fun e => this.1.2.2 (by rw [← e]; exact List.mem_map_of_mem hp)
theorem Tabs.off2 {news rest : List (Addr × Obj)} {x1 d1 h1 x2 d2 h2 td I : Addr} {o1 o3 oI : Obj} {E1 E2 : List Ent} (T : Tabs news x1 d1 h1 x2 d2 h2 td E1 E2 rest) (hI : h2 ≠ I) : ∀ p ∈ (h1, o1) :: (td, o3) :: (I, oI) :: rest, p.1 ≠ h2 := by
  have := T.nd
  simp only [List.nodup_cons, List.mem_cons, not_or] at this
  intro p hp
  simp only [List.mem_cons] at hp
  rcases hp with rfl | rfl | rfl | hp
  · exact fun e => this.1.1 e
  · exact fun e => this.2.1.1 e.symm
  · exact fun e => hI e.symm
  · exact fun e => this.2.1.2 (by rw [← e]; exact List.mem_map_of_mem hp)
theorem Tabs.off3 {news rest : List (Addr × Obj)} {x1 d1 h1 x2 d2 h2 td I : Addr} {oI : Obj} {E1 E2 : List Ent} (T : Tabs news x1 d1 h1 x2 d2 h2 td E1 E2 rest) (hI : td ≠ I) : h1 ≠ td ∧ h2 ≠ td ∧ ∀ p ∈ (I, oI) :: rest, p.1 ≠ td := by
  have := T.nd
  simp only [List.nodup_cons, List.mem_cons, not_or] at this
  refine ⟨this.1.2.1, this.2.1.1, fun p hp => ?_⟩
  simp only [List.mem_cons] at hp
  rcases hp with rfl | hp
  · exact fun e => hI e.symm
  · exact fun e => this.2.2.1 (by rw [← e]; exact List.mem_map_of_mem hp)
theorem run_lens (cs : List Nat) : (runT cs).1.length ≤ cs.length ∧ (runT cs).2.1.length ≤ cs.length ∧ (runT cs).2.2.length = cs.length := by
  have key : ∀ l : List (Nat × Nat), ∀ s, (l.foldl stT s).1.length ≤ s.1.length + l.length ∧ (l.foldl stT s).2.1.length ≤ s.2.1.length + l.length ∧ (l.foldl stT s).2.2.length = s.2.2.length + l.length := by
    intro l
    induction l with
    | nil => intro s; simp
    | cons p r ih =>
      intro s
      have := ih (stT s p)
      have e1 : (stT s p).1.length ≤ s.1.length + 1 := by
        show (stepF s.1 p).length ≤ _
        unfold stepF; split <;> simp
      have e2 : (stT s p).2.1.length ≤ s.2.1.length + 1 := by
        show (stepL s.2.1 p).length ≤ _
        unfold stepL
        have := List.length_filter_le (fun q : Nat × Nat => lowC q.1 != lowC p.1) s.2.1
        simp; omega
      have e3 : (stT s p).2.2.length = s.2.2.length + 1 := by
        show (s.2.2 ++ [_]).length = _
        simp
      simp only [List.foldl_cons, List.length_cons]
      omega
  have := key (placed cs) ([], [], [])
  have e : (placed cs).length = cs.length := by unfold placed; simp
  rw [e] at this
  simpa [runT] using this

-- K11
local macro_rules | `(tactic| wtm_at "g ca11") => `(tactic| ((fail_if_success (with_reducible show wpAny _ _ (call (Value.ref 192) _ _) _ _ _)); (fail_if_success (with_reducible show wpAny _ _ (call (Value.ref 202) _ _) _ _ _)); (fail_if_success (with_reducible show wpAny _ _ (call (Value.ref 115) _ _) _ _ _)); (fail_if_success (with_reducible show wpAny _ _ (call (Value.type "str") _ _) _ _ _))))
local macro_rules | `(tactic| wtm_at "g wp11") => `(tactic| (wtm_at "g wp5"; (fail_if_success (with_reducible show wpAny _ _ (subscriptTail _ _ (Value.ref _) (Value.int _ _)) _ _ _))))
local macro_rules | `(tactic| k_steps) => `(tactic| repeat' (first | (k_unfold; (try dsimp only)) | ((fail_if_success (with_reducible show Held _)); k_end; wrow_close) | ((first | (wtm_at "is tree"; (first | (wtm_at "is eval"; wtm_at "g ev5") | (wtm_at "is call"; wtm_at "g ca11") | (wtm_at "is exec"; wtm_at "g ex5") | (wtm_at "no eec"; wtm_at "g wp11"))) | (wtm_at "no tree"; wtm_at "g ot5")); wtm_at "walk on") | fail "no step"))
theorem mem_rot {α : Type} {a b c d : α} {r : List α} : ∀ p ∈ a :: b :: c :: d :: r, p ∈ d :: a :: b :: c :: r := fun p hp => by
  simp only [List.mem_cons] at hp ⊢
  rcases hp with q | q | q | q | q <;> simp [q]
theorem mem_rot' {α : Type} {a b c d : α} {r : List α} : ∀ p ∈ d :: a :: b :: c :: r, p ∈ a :: b :: c :: d :: r := fun p hp => by
  simp only [List.mem_cons] at hp ⊢
  rcases hp with q | q | q | q | q <;> simp [q]
theorem push_let (l : List (Nat × Tok)) (c : Nat) (t : Tok) : (letV l).toArray.push (.str ⟨#[c]⟩ t) = (letV (l ++ [(c, t)])).toArray := by rw [← letV_snoc]; simp
theorem mem_swap2 {α : Type} {a b : α} {r : List α} : ∀ p ∈ a :: b :: r, p ∈ b :: a :: r := fun p hp => by
  simp only [List.mem_cons] at hp ⊢
  rcases hp with q | q | q <;> simp [q]
theorem nodup_start {news : List (Addr × Obj)} (hnd : (news.map (·.1)).Nodup) {d1 x1 h1 d2 x2 h2 td : Nat} (a : ∀ p ∈ news, p.1 < d1) (b : d1 < x1) (c : x1 < h1) (d : h1 < d2) (e : d2 < x2) (f : x2 < h2) (g : h2 < td) :
    (h1 :: h2 :: td :: x2 :: d2 :: x1 :: d1 :: news.map (·.1)).Nodup := by
  have n : ∀ y : Nat, d1 ≤ y → y ∉ news.map (·.1) := fun y hy h => by
    obtain ⟨p, hp, q⟩ := List.mem_map.mp h
    exact absurd (q ▸ a p hp : y < d1) (Nat.not_lt.mpr hy)
  simp only [List.nodup_cons, List.mem_cons, not_or]
  and_intros <;> first | omega | exact n _ (by omega) | exact hnd
/-- what the tables' maker gives back -/
def TabsR (news : List (Addr × Obj)) (cs : List Nat) (r : Value) (nw : List (Addr × Obj)) : Prop :=
  ∃ tp x1 d1 h1 x2 d2 h2 td E1 E2 lt3 n1 n2 n3 rest, r = .ref tp ∧ nw = (tp, ({ cls := .type "tuple", data := .seq #[.ref x1, .ref x2, .ref td] } : Obj)) :: (h1, lsO E1 n1) :: (h2, lsO E2 n2) :: (td, listOf (letV lt3).toArray n3) :: rest ∧
    Tabs news x1 d1 h1 x2 d2 h2 td E1 E2 rest ∧ (E1.map ent2, E2.map ent2, lt3.map (·.1)) = runT cs ∧ h1 < tp ∧ h2 < tp ∧ td < tp ∧ ∀ p ∈ rest, p.1 < tp
theorem tables_claim (w : World) (news : List (Addr × Obj)) (lg : Addr) (lt : List (Nat × Tok)) (kk : Nat) (hlt : lt.length = 10) (hlet : ∀ p ∈ lt, letter p.1 = true) (hlg : (lg, listOf (letV lt).toArray kk) ∈ news) (hnd : (news.map (·.1)).Nodup) :
    Claim w 225 [.ref lg] [] 6 news (TabsR news (lt.map (·.1))) := by
  w_on
  unfold Claim
  k_fill
  intro loose mean mg mb dp un gd cn cs a ccd cl outer A₀ base h₀ L m s Q E B F X N T hcs hd1 hu1 hret
  refine wpAny_call ?_
  k_dflt cell_enter
  k_steps
  k_dflt (refine' Claim.use (new_claim _ news) ?k1 ?k2 ?k3 ?k4 ?k5 ?kK ?kd ?ku ?_)
  (case k4 => k_asm); (case k1 => k_asm); (case k2 => k_asm); (case k3 => k_asm); (case k5 => k_asm); (case kK => exact rfl); (case kd => ktr_room); (case ku => ktr_units)
  rintro r1 nw1 h1' tk1 ⟨x1, d1, h1, hs1, t1, rfl, rfl, b11, b12, b13⟩ F1 N1
  dsimp only
  k_steps
  rename News _ _ _ _ => N2
  k_dflt (refine' Claim.use (new_claim _ _) ?k1 ?k2 ?k3 N2 ?k5 ?kK ?kd ?ku ?_)
  (case k1 => k_asm); (case k2 => k_asm); (case k3 => k_asm); (case k5 => k_asm); (case kK => exact rfl); (case kd => ktr_room); (case ku => ktr_units)
  rintro r2 nw2 h2' tk2 ⟨x2, d2, h2, hs2, t2, rfl, rfl, b21, b22, b23⟩ F3 N3
  dsimp only
  k_steps
  rename Addr => td
  rename (_ < td ∧ _) => b31
  refine wpAny_For ?_
  k_steps
  rename News _ _ _ _ => N4
  refine len_led (k := 10) N4 (by k_mem) (by simp [letV, hlt]) (by decide) ?_
  intro tl tkl
  dsimp only
  k_steps
  rename Fr _ _ _ _ => F5
  rename News _ _ _ _ => N5
  rename IsRange _ _ _ _ _ _ _ _ => hr
  have N6 : News _ _ _ ((h1, lsO [] 0) :: (h2, lsO [] 0) :: (td, listOf (letV []).toArray 0) :: (x2, instObj 202 d2) :: (d2, dictOf [⟨hs2, .str (Str.ofString "_headers") t2, .ref h2⟩] 1) :: (x1, instObj 202 d1) :: (d1, dictOf [⟨hs1, .str (Str.ofString "_headers") t1, .ref h1⟩] 1) :: news) := fun p hp => N5 p (by
    simp only [List.mem_cons] at hp ⊢
    rcases hp with q | q | q | q | q | q | q | q <;> simp [q, letV])
  refine iter_range (n := 10) (J := fun i m' nw => ∃ E1 E2 lt3 n1 n2 n3 rest, nw = (h1, lsO E1 n1) :: (h2, lsO E2 n2) :: (td, listOf (letV lt3).toArray n3) :: rest ∧ Tabs news x1 d1 h1 x2 d2 h2 td E1 E2 rest ∧
      (E1.map ent2, E2.map ent2, lt3.map (·.1)) = runT ((lt.map (·.1)).take i) ∧
      m' (Str.ofString "log") = some (.ref lg) ∧ m' (Str.ofString "first") = some (.ref x1) ∧ m' (Str.ofString "last") = some (.ref x2) ∧ m' (Str.ofString "told") = some (.ref td)) rfl F5 N6 hr rfl rfl ?_ ?_ ?_
  · refine ⟨[], [], [], 0, 0, 0, _, rfl, ?_, rfl, rfl, rfl, rfl, rfl⟩
    exact ⟨.tail _ (.tail _ (.head _)), ⟨_, _, .tail _ (.tail _ (.tail _ (.head _)))⟩, .head _, ⟨_, _, .tail _ (.head _)⟩, (fun _ h => (nomatch h)), (fun _ h => (nomatch h)), (fun p hp => .tail _ (.tail _ (.tail _ (.tail _ hp)))),
      nodup_start hnd b13 b12 b11 (b23 _ (.head _)) b22 b21 b31.1⟩
  · rintro i tv m' nw I oI g h tk E' hi ⟨E1, E2, lt3, n1, n2, n3, rest, rfl, TB, hrun, hm1, hm2, hm3, hm4⟩ off F7 N7
    obtain ⟨⟨c, tc⟩, hci⟩ : ∃ q, lt[i]? = some q := ⟨lt[i]'(by omega), by simp⟩
    have hc : letter c = true := hlet _ (List.mem_of_getElem? hci)
    have hitem : (letV lt)[i]? = some (.str ⟨#[c]⟩ tc) := by unfold letV; rw [List.getElem?_map, hci]; rfl
    have hdig : okSign (48 + i) = true := by unfold okSign; simp; omega
    have hlog := TB.old _ hlg
    have hlens := run_lens ((lt.map (·.1)).take i)
    rw [← hrun] at hlens
    simp only [List.length_map, List.length_take] at hlens
    have o1 := TB.o1
    obtain ⟨hs1', tk1', q1⟩ := TB.q1
    have o2 := TB.o2
    obtain ⟨hs2', tk2', q2⟩ := TB.q2
    have hI1 : h1 ≠ I := off _ (.head _)
    have hI2 : h2 ≠ I := off _ (.tail _ (.head _))
    have hI3 : td ≠ I := off _ (.tail _ (.tail _ (.head _)))
    have offr : ∀ p ∈ rest, p.1 ≠ I := fun p hp => off p (.tail _ (.tail _ (.tail _ hp)))
    rw [Int.zero_add]
    rw [map_know hm1, map_know hm2, map_know hm3, map_know hm4] at F7
    refine abs_turn fun TP hTP => ?_
    refine wpAny_assign_Name ?_
    k_steps
    rename News _ _ _ _ => N8
    refine item_led N8 (by k_mem) (by omega) (by omega) (by simpa using hitem) ?_
    k_steps
    refine call_strdig (by omega) ?_
    dsimp only
    k_steps
    rename News _ _ _ _ => N9
    k_dflt (refine' Claim.use ((setd_claim w ((h2, lsO E2 n2) :: (td, listOf (letV lt3).toArray n3) :: (I, oI) :: rest) x1 d1 h1 hs1' tk1' _ _ E1 n1 c (48 + i) hc hdig ?ce ?co (by omega) ?cx ?cd).sub ?cs) ?k1 ?k2 ?k3 N9 ?k5 ?kK ?kd ?ku ?_)
    (case ce => exact fun e he => ⟨(TB.e1 e he).1, .tail _ (.tail _ (.tail _ (.tail _ (TB.e1 e he).2)))⟩)
    (case co => exact TB.off1 hI1)
    (case cx => exact .tail _ (.tail _ (.tail _ o1)))
    (case cd => exact .tail _ (.tail _ (.tail _ q1)))
    (case cs => exact mem_rot)
    (case k1 => k_asm); (case k2 => k_asm); (case k3 => k_asm); (case k5 => k_asm); (case kK => exact rfl); (case kd => ktr_room); (case ku => ktr_units)
    intro r1 nw1 hh1 tkk1 hR1 FF1 NN1
    obtain ⟨E1', n1', rest1, tr, rfl, NN2, TB1, hE1, offr1⟩ := setd_after TB hc hR1 NN1 offr
    clear NN1 hR1
    dsimp only
    have hsz3 : (letV lt3).toArray.size ≤ sizeLine := by rw [List.size_toArray, sizeLine_eq]; unfold letV; rw [List.length_map]; omega
    have hof := TB1.off3 (oI := oI) hI3
    have o1b := TB1.o1
    have o2b := TB1.o2
    obtain ⟨hs2b, tk2b, q2b⟩ := TB1.q2
    have hlogb := TB1.old _ hlg
    repeat' (first | (k_unfold; (try dsimp only)) | ((fail_if_success (with_reducible show wpAny _ _ (call (Value.builtin "list.append") _ _) _ _ _)); (first | walk1 | (dsimp only; walk1))))
    refine append_K FF1 NN2 (.tail hof.1 (.tail hof.2.1 (.head hof.2.2))) ?_ hsz3
    intro hh2 FF2 NN3
    dsimp only
    k_steps
    refine call_strdig (by omega) ?_
    dsimp only
    k_steps
    rename News _ _ _ _ => N10
    refine item_led N10 (by k_mem) (by omega) (by omega) (by simpa using hitem) ?_
    k_steps
    rename News _ _ _ _ => N11
    k_dflt (refine' Claim.use ((seti_claim w ((h1, lsO E1' n1') :: (td, listOf ((letV lt3).toArray.push (.str ⟨#[(lookC (E1.map ent2) c).getD (48 + i)]⟩ tr)) (n3 + 1)) :: (I, oI) :: rest1) x2 d2 h2 hs2b tk2b _ _ E2 n2 c (48 + i) hc hdig ?ce ?co (by omega) ?cx ?cd).sub ?cs) ?k1 ?k2 ?k3 N11 ?k5 ?kK ?kd ?ku ?_)
    (case ce => exact fun e he => ⟨(TB1.e2 e he).1, .tail _ (.tail _ (.tail _ (.tail _ (TB1.e2 e he).2)))⟩)
    (case co => exact TB1.off2 hI2)
    (case cx => exact .tail _ (.tail _ (.tail _ o2b)))
    (case cd => exact .tail _ (.tail _ (.tail _ q2b)))
    (case cs => exact mem_swap2)
    (case k1 => k_asm); (case k2 => k_asm); (case k3 => k_asm); (case k5 => k_asm); (case kK => exact rfl); (case kd => ktr_room); (case ku => ktr_units)
    intro r2 nw2 hh3 tkk2 hR2 FF3 NN4
    obtain ⟨rfl, E2', n2', rest2, NN5, TB2, hE2, offr2⟩ := seti_after TB1 hc hR2 NN4 offr1
    clear NN4 hR2
    dsimp only
    k_steps
    rename Fr _ _ _ _ => FF4
    rw [push_let] at NN5
    refine hTP (f := .next) (Tn.intro ((h1, lsO E1' n1') :: (h2, lsO E2' n2') :: (td, listOf (letV (lt3 ++ [((lookC (E1.map ent2) c).getD (48 + i), tr)])).toArray (n3 + 1)) :: rest2) FF4 NN5 (fun p hp => mem_rot' p hp) ?_ ?_)
    · intro p hp
      simp only [List.mem_cons] at hp
      rcases hp with rfl | rfl | rfl | hp
      · exact hI1
      · exact hI2
      · exact hI3
      · exact offr2 p hp
    · refine ⟨E1', E2', _, n1', n2', n3 + 1, rest2, rfl, TB2, ?_, rfl, rfl, rfl, rfl⟩
      have hsn : (lt.map (·.1)).take (i + 1) = (lt.map (·.1)).take i ++ [c] := by rw [List.take_add_one, List.getElem?_map, hci]; rfl
      have hl : ((lt.map (·.1)).take i).length = i := by simp; omega
      rw [hsn, runT_snoc, ← hrun, hE1, hE2, hl, List.map_append]
      rfl
  · rintro m' nw h tk ⟨E1, E2, lt3, n1, n2, n3, rest, rfl, TB, hrun, hm1, hm2, hm3, hm4⟩ F7 N7
    rw [List.take_of_length_le (by simp; omega)] at hrun
    rw [map_know hm1, map_know hm2, map_know hm3, map_know hm4] at F7
    dsimp only
    k_steps
    rename (_ < _ ∧ _ < _ ∧ _ < _ ∧ AllLt _ _) => bt
    refine hret _ _ _ _ ⟨_, x1, d1, h1, x2, d2, h2, td, E1, E2, lt3, n1, n2, n3, rest, rfl, rfl, TB, hrun, bt.1, bt.2.1, bt.2.2.1, lt_of_all bt.2.2.2⟩ (by assumption) (by assumption)

-- K12
local macro_rules | `(tactic| wtm_at "g ev12") => `(tactic| (wtm_at "g ev5"; (fail_if_success (with_reducible show wpAny _ _ (eval (Expr.Dict _ _ _) _) _ _ _))))
local macro_rules | `(tactic| wtm_at "g ca12") => `(tactic| ((fail_if_success (with_reducible show wpAny _ _ (call (Value.ref _) _ _) _ _ _)); (fail_if_success (with_reducible show wpAny _ _ (call (Value.type "str") _ _) _ _ _))))
local macro_rules | `(tactic| wtm_at "g wp12") => `(tactic| (wtm_at "g wp11"; (fail_if_success (with_reducible show wpAny _ _ (compareOp CmpOp.NotIn (Value.str _ _) _) _ _ _)); (fail_if_success (with_reducible show wpAny _ _ (compareOp CmpOp.In (Value.str _ _) _) _ _ _)); (fail_if_success (with_reducible show wpAny _ _ (setItem (Value.ref _) (Value.str _ _) _) _ _ _)); (fail_if_success (with_reducible show wpAny _ _ (subscriptTail _ _ (Value.ref _) (Value.str _ _)) _ _ _))))
local macro_rules | `(tactic| k_steps) => `(tactic| repeat' (first | (k_unfold; (try dsimp only)) | ((fail_if_success (with_reducible show Held _)); k_end; wrow_close) | ((first | (wtm_at "is tree"; (first | (wtm_at "is eval"; wtm_at "g ev12") | (wtm_at "is call"; wtm_at "g ca12") | (wtm_at "is exec"; wtm_at "g ex5") | (wtm_at "no eec"; wtm_at "g wp12"))) | (wtm_at "no tree"; wtm_at "g ot5")); wtm_at "walk on") | fail "no step"))
/-! the places of the touches: two dicts, in plain data and as values -/
abbrev PrC := PySem.Challenge.rw_pu0057_01.row.prog
def kvP (l : List (Nat × Nat × Tok)) : List (Str × Value) := l.map fun e => ((⟨#[e.1]⟩ : Str), Value.int ((e.2.1 : Nat) : Int) e.2.2)
def pl2 (e : Nat × Nat × Tok) : Nat × Nat := (e.1, e.2.1)
def hasP (t : List (Nat × Nat)) (c : Nat) : Bool := t.any fun e => e.1 == c
def begS (t : List (Nat × Nat)) (p : Nat × Nat) : List (Nat × Nat) := if hasP t p.1 then t else t ++ [p]
def endS (t : List (Nat × Nat)) (p : Nat × Nat) : List (Nat × Nat) := if hasP t p.1 then t.map (fun e => if e.1 = p.1 then p else e) else t ++ [p]
def lowP (cs : List Nat) : List (Nat × Nat) := cs.zipIdx.map fun p => (lowC p.1, p.2)
def runB (cs : List Nat) : List (Nat × Nat) := (lowP cs).foldl begS []
def runE (cs : List Nat) : List (Nat × Nat) := (lowP cs).foldl endS []
theorem lowP_snoc (cs : List Nat) (c : Nat) : lowP (cs ++ [c]) = lowP cs ++ [(lowC c, cs.length)] := by
  unfold lowP
  rw [List.zipIdx_append, List.map_append]
  simp
theorem runB_snoc (cs : List Nat) (c : Nat) : runB (cs ++ [c]) = begS (runB cs) (lowC c, cs.length) := by
  unfold runB
  rw [lowP_snoc, List.foldl_append]; rfl
theorem runE_snoc (cs : List Nat) (c : Nat) : runE (cs ++ [c]) = endS (runE cs) (lowC c, cs.length) := by
  unfold runE
  rw [lowP_snoc, List.foldl_append]; rfl
theorem str1_inj {a b : Nat} : ((⟨#[a]⟩ : Str) = ⟨#[b]⟩) = (a = b) := by simp
theorem kvP_has : ∀ (l : List (Nat × Nat × Tok)) (c : Nat), (valueAt (kvP l) (⟨#[c]⟩ : Str)).isSome = hasP (l.map pl2) c
  | [], c => rfl
  | e :: l, c => by
    have ih := kvP_has l c
    unfold valueAt kvP hasP at ih ⊢
    rw [List.map_cons, List.map_cons, List.find?_cons, List.any_cons]
    by_cases h : e.1 = c
    · have : decide ((⟨#[e.1]⟩ : Str) = ⟨#[c]⟩) = true := by simp [h]
      rw [this]; simp [pl2, h]
    · have : decide ((⟨#[e.1]⟩ : Str) = ⟨#[c]⟩) = false := by simp [h]
      rw [this]
      dsimp only
      rw [ih]
      simp [pl2, h]
theorem kvP_any (l : List (Nat × Nat × Tok)) (c : Nat) : ((kvP l).any fun kv => decide (kv.1 = (⟨#[c]⟩ : Str))) = hasP (l.map pl2) c := by
  unfold kvP hasP
  rw [List.any_map, List.any_map]
  congr 1
  funext e
  show decide ((⟨#[e.1]⟩ : Str) = ⟨#[c]⟩) = (e.1 == c)
  rw [Bool.eq_iff_iff]; simp
def putP (l : List (Nat × Nat × Tok)) (c k : Nat) (t : Tok) : List (Nat × Nat × Tok) := if hasP (l.map pl2) c then l.map (fun e => if e.1 = c then (c, k, t) else e) else l ++ [(c, k, t)]
theorem kvP_stored (l : List (Nat × Nat × Tok)) (c k : Nat) (t : Tok) : stored (kvP l) (⟨#[c]⟩ : Str) (.int ((k : Nat) : Int) t) = kvP (putP l c k t) := by
  unfold stored putP
  rw [kvP_any]
  split
  · unfold kvP
    rw [List.map_map, List.map_map]
    refine List.map_congr_left fun e _ => ?_
    show (if (⟨#[e.1]⟩ : Str) = ⟨#[c]⟩ then _ else _) = _
    by_cases h : e.1 = c
    · simp [h]
    · simp [h]
  · unfold kvP
    rw [List.map_append]; rfl
theorem putP_pl2 (l : List (Nat × Nat × Tok)) (c k : Nat) (t : Tok) : (putP l c k t).map pl2 = endS (l.map pl2) (c, k) := by
  unfold putP endS
  split
  · rw [List.map_map, List.map_map]
    refine List.map_congr_left fun e _ => ?_
    show pl2 (if e.1 = c then _ else e) = if e.1 = c then _ else _
    split <;> rfl
  · rw [List.map_append]; rfl
theorem endS_new {t : List (Nat × Nat)} {p : Nat × Nat} (h : hasP t p.1 = false) : endS t p = begS t p := by unfold endS begS; rw [h]; rfl
theorem begS_old {t : List (Nat × Nat)} {p : Nat × Nat} (h : hasP t p.1 = true) : begS t p = t := by unfold begS; rw [h]; rfl
theorem begS_len (t : List (Nat × Nat)) (p : Nat × Nat) : (begS t p).length ≤ t.length + 1 := by unfold begS; split <;> simp
theorem endS_len (t : List (Nat × Nat)) (p : Nat × Nat) : (endS t p).length ≤ t.length + 1 := by unfold endS; split <;> simp
theorem foldl_len (f : List (Nat × Nat) → Nat × Nat → List (Nat × Nat)) (hf : ∀ t p, (f t p).length ≤ t.length + 1) : ∀ (ps : List (Nat × Nat)) (t : List (Nat × Nat)), (ps.foldl f t).length ≤ t.length + ps.length
  | [], t => Nat.le_refl _
  | p :: ps, t => by
    have a := foldl_len f hf ps (f t p)
    have b := hf t p
    simp only [List.foldl_cons, List.length_cons]
    omega
theorem runB_len (cs : List Nat) : (runB cs).length ≤ cs.length := by
  have := foldl_len begS begS_len (lowP cs) []
  simpa [lowP, runB] using this
theorem runE_len (cs : List Nat) : (runE cs).length ≤ cs.length := by
  have := foldl_len endS endS_len (lowP cs) []
  simpa [lowP, runE] using this
def PlacesR (w : World) (news : List (Addr × Obj)) (cs : List Nat) (r : Value) (nw : List (Addr × Obj)) : Prop :=
  ∃ tp b e o1 o2 B En, r = .ref tp ∧ nw = (tp, ({ cls := .type "tuple", data := .seq #[.ref b, .ref e] } : Obj)) :: (b, o1) :: (e, o2) :: news ∧
    o1.IsDictOf (PySem.strKind PrC w) (kvP B) ∧ o2.IsDictOf (PySem.strKind PrC w) (kvP En) ∧ B.map pl2 = runB cs ∧ En.map pl2 = runE cs ∧ b < e ∧ e < tp ∧ (∀ p ∈ news, p.1 < b) ∧ (b == sysModules) = false ∧ (e == sysModules) = false
theorem places_claim (w : World) (news : List (Addr × Obj)) (lg : Addr) (lt : List (Nat × Tok)) (kk : Nat) (hlt : lt.length = 10) (hlet : ∀ p ∈ lt, letter p.1 = true) (hlg : (lg, listOf (letV lt).toArray kk) ∈ news) :
    Claim w 218 [.ref lg] [] 6 news (PlacesR w news (lt.map (·.1))) := by
  w_on
  unfold Claim
  k_fill
  intro loose mean mg mb dp un gd cn cs a ccd cl outer A₀ base h₀ L m s Q E B F X N T hcs hd1 hu1 hret
  refine wpAny_call ?_
  k_dflt cell_enter
  k_steps
  rename Fr _ _ _ _ => F1
  rename News _ _ _ _ => N1
  refine newDict_K F1 N1 (Top.nolimit (by k_asm)) ?_
  intro d1 h1 o1 F1 N1 l1 lo1 D1 _ _ _
  dsimp only
  k_steps
  rename Fr _ _ _ _ => F2
  rename News _ _ _ _ => N2
  refine newDict_K F2 N2 (Top.nolimit (by k_asm)) ?_
  intro d2 h2 o2 F2 N2 l2 lo2 D2 _ _ _
  dsimp only
  k_steps
  refine wpAny_For ?_
  k_steps
  rename News _ _ _ _ => N4
  refine len_led (k := 10) N4 (by k_mem) (by simp [letV, hlt]) (by decide) ?_
  intro tl tkl
  dsimp only
  k_steps
  rename Fr _ _ _ _ => F5
  rename News _ _ _ _ => N5
  rename IsRange _ _ _ _ _ _ _ _ => hr
  have N6 : News _ _ _ ((d1, o1) :: (d2, o2) :: news) := fun p hp => N5 p (by
    simp only [List.mem_cons] at hp ⊢
    rcases hp with q | q | q <;> simp [q])
  have b12 : d1 < d2 := l2 _ (.head _)
  have b2 : ∀ p ∈ news, p.1 < d2 := fun p hp => l2 _ (.tail _ hp)
  refine iter_range (n := 10) (J := fun i m' nw => ∃ B En o1 o2, nw = (d1, o1) :: (d2, o2) :: news ∧ o1.IsDictOf (PySem.strKind PrC w) (kvP B) ∧ o2.IsDictOf (PySem.strKind PrC w) (kvP En) ∧
      B.map pl2 = runB ((lt.map (·.1)).take i) ∧ En.map pl2 = runE ((lt.map (·.1)).take i) ∧
      m' (Str.ofString "log") = some (.ref lg) ∧ m' (Str.ofString "begins") = some (.ref d1) ∧ m' (Str.ofString "ends") = some (.ref d2)) rfl F5 N6 hr rfl rfl ?_ ?_ ?_
  · exact ⟨[], [], o1, o2, rfl, D1, D2, rfl, rfl, rfl, rfl, rfl⟩
  · rintro i tv m' nw I oI g h tk E' hi ⟨B, En, o1, o2, rfl, P1, P2, hB, hE, hm1, hm2, hm3⟩ off F7 N7
    obtain ⟨⟨c, tc⟩, hci⟩ : ∃ q, lt[i]? = some q := ⟨lt[i]'(by omega), by simp⟩
    have hc : letter c = true := hlet _ (List.mem_of_getElem? hci)
    have hitem : (letV lt)[i]? = some (.str ⟨#[c]⟩ tc) := by unfold letV; rw [List.getElem?_map, hci]; rfl
    have hI1 : d1 ≠ I := off _ (.head _)
    have hI2 : d2 ≠ I := off _ (.tail _ (.head _))
    have offr : ∀ p ∈ news, p.1 ≠ I := fun p hp => off p (.tail _ (.tail _ hp))
    rw [Int.zero_add]
    rw [map_know hm1, map_know hm2, map_know hm3] at F7
    refine abs_turn fun TP hTP => ?_
    refine wpAny_assign_Name ?_
    k_steps
    rename News _ _ _ _ => N8
    refine item_led N8 (by k_mem) (by omega) (by omega) (by simpa using hitem) ?_
    k_steps
    refine wpAny_notIn_of (knd := PySem.strKind _ _) (strKind_is _ _ _ _) lo1 (kda_dict (knd := PySem.strKind _ _) (kvs := kvP B) (by assumption) (by k_mem) P1).mapOf ?_
    rw [kvP_has]
    dsimp only
    have hsn : (lt.map (·.1)).take (i + 1) = (lt.map (·.1)).take i ++ [c] := by rw [List.take_add_one, List.getElem?_map, hci]; rfl
    have hl : ((lt.map (·.1)).take i).length = i := by simp; omega
    have hlB : (kvP B).length ≤ sizeLine := by
      have a := runB_len ((lt.map (·.1)).take i)
      rw [← hB, List.length_map, hl] at a
      rw [sizeLine_eq]; unfold kvP; rw [List.length_map]; omega
    have hlE : (kvP En).length ≤ sizeLine := by
      have a := runE_len ((lt.map (·.1)).take i)
      rw [← hE, List.length_map, hl] at a
      rw [sizeLine_eq]; unfold kvP; rw [List.length_map]; omega
    have ne12 : d1 ≠ d2 := Nat.ne_of_lt b12
    have of1 : ∀ p ∈ news, p.1 ≠ d1 := fun p hp => Nat.ne_of_lt (l1 p hp)
    have of2 : ∀ p ∈ news, p.1 ≠ d2 := fun p hp => Nat.ne_of_lt (b2 p hp)
    cases hh : hasP (B.map pl2) (lowC c) with
    | true =>
      k_steps
      rename News _ _ _ _ => N9
      refine item_led N9 (by k_mem) (by omega) (by omega) (by simpa using hitem) ?_
      k_steps
      rename Fr _ _ _ _ => F9
      rename News _ _ _ _ => N10
      refine kda_set (knd := PySem.strKind _ _) F9 N10 (.tail hI2.symm (.tail ne12 (.head of2))) P2 (strKind_is _ _ _ _) hlE ?_
      intro h' o2' F10 N11 P2'
      dsimp only
      rw [kvP_stored] at P2'
      k_steps
      rename Fr _ _ _ _ => F11
      refine hTP (f := .next) (Tn.intro ((d1, o1) :: (d2, o2') :: news) F11 N11 (fun p hp => hp) ?_ ?_)
      · intro p hp
        simp only [List.mem_cons] at hp
        rcases hp with rfl | rfl | hp
        · exact hI1
        · exact hI2
        · exact offr p hp
      · refine ⟨B, _, o1, o2', rfl, P1, P2', ?_, ?_, rfl, rfl, rfl⟩
        · rw [hsn, runB_snoc, ← hB, hl, begS_old hh]
        · rw [hsn, runE_snoc, ← hE, hl, putP_pl2]
    | false =>
      k_steps
      rename News _ _ _ _ => N9
      refine item_led N9 (by k_mem) (by omega) (by omega) (by simpa using hitem) ?_
      k_steps
      rename Fr _ _ _ _ => F9
      rename News _ _ _ _ => N10
      refine kda_set (knd := PySem.strKind _ _) F9 N10 (.tail hI1.symm (.head (fun p hp => by
        rcases List.mem_cons.mp hp with rfl | hp
        · exact Nat.ne_of_gt b12
        · exact of1 p hp))) P1 (strKind_is _ _ _ _) hlB ?_
      intro h' o1' F10 N11 P1'
      dsimp only
      rw [kvP_stored] at P1'
      k_steps
      rename News _ _ _ _ => N12
      refine item_led N12 (by k_mem) (by omega) (by omega) (by simpa using hitem) ?_
      k_steps
      rename Fr _ _ _ _ => F13
      rename News _ _ _ _ => N13
      refine kda_set (knd := PySem.strKind _ _) F13 N13 (.tail hI2.symm (.tail ne12 (.head of2))) P2 (strKind_is _ _ _ _) hlE ?_
      intro h'' o2' F14 N14 P2'
      dsimp only
      rw [kvP_stored] at P2'
      k_steps
      rename Fr _ _ _ _ => F11
      refine hTP (f := .next) (Tn.intro ((d1, o1') :: (d2, o2') :: news) F11 N14 (fun p hp => hp) ?_ ?_)
      · intro p hp
        simp only [List.mem_cons] at hp
        rcases hp with rfl | rfl | hp
        · exact hI1
        · exact hI2
        · exact offr p hp
      · refine ⟨_, _, o1', o2', rfl, P1', P2', ?_, ?_, rfl, rfl, rfl⟩
        · rw [hsn, runB_snoc, ← hB, hl, putP_pl2]
          exact endS_new hh
        · rw [hsn, runE_snoc, ← hE, hl, putP_pl2]
  · rintro m' nw h tk ⟨B, En, o1, o2, rfl, P1, P2, hB, hE, hm1, hm2, hm3⟩ F7 N7
    rw [List.take_of_length_le (by simp; omega)] at hB hE
    rw [map_know hm1, map_know hm2, map_know hm3] at F7
    have b3 := Heap.lt_size (N7 (d2, o2) (.tail _ (.head _))).1
    dsimp only
    k_steps
    exact hret _ _ _ _ ⟨_, d1, d2, o1, o2, B, En, rfl, rfl, P1, P2, hB, hE, b12, b3, l1, lo1, lo2⟩ (by assumption) (by assumption)

-- R3
section
open Builtin Builtin.Str Builtin.Re
/-- the dot at a line's begin: the machine's states -/
def code43 : Array Nat := #[14, 4, 0, 1, 1, 6, 1, 16, 46, 1]
def dA (text : Array Nat) (n s : Nat) (seen : Sre.Seen) (must first : Bool) : Sre.M :=
  { code := code43, text := text, lim := n, start := s, lastStart := n, wholeText := false, mustAdvance := must, pc := 5, pos := s, handed := s, outermost := first, marks := #[], lastmark := -1, lastindex := -1, loops := #[], inner := none,
    frames := [{ wait := .nextStart, pc := 5, pos := s, outermost := first }], weight := 1, answer := none, seen := seen, outcome := none }
def dB (text : Array Nat) (n s : Nat) (seen : Sre.Seen) (must first : Bool) : Sre.M :=
  { dA text n s seen must first with answer := some false }
def dC (text : Array Nat) (n s : Nat) (seen : Sre.Seen) (must first : Bool) : Sre.M :=
  { dA text n s seen must first with pc := 7 }
def dD (text : Array Nat) (n s : Nat) (seen : Sre.Seen) (must first : Bool) : Sre.M :=
  { dA text n s seen must first with pc := 9, pos := s + 1 }
def dE (text : Array Nat) (n s : Nat) (seen : Sre.Seen) (must first : Bool) : Sre.M :=
  { dA text n s seen must first with pc := 9, pos := s + 1, handed := s + 1, answer := some true }
def isBeg (text : Array Nat) (s : Nat) : Bool := s == 0 || text.getD (s - 1) 0 == 10
theorem dA_step (text : Array Nat) (n s : Nat) (seen : Sre.Seen) (must first : Bool) :
    (dA text n s seen must first).step = if isBeg text s = true then dC text n s ((seen.add 6).add 44) must first else dB text n s ((seen.add 6).add 44) must first := rfl
theorem dB_step (text : Array Nat) (n s : Nat) (seen : Sre.Seen) (must first : Bool) :
    (dB text n s seen must first).step = if s < n then dA text n (s + 1) seen false false else { dB text n s seen must first with frames := [], weight := 0 } := rfl
theorem dC_step {text : Array Nat} {n s : Nat} (hs : s < n) (hd : text.getD s 0 = 46) (seen : Sre.Seen) (must first : Bool) :
    (dC text n s seen must first).step = dD text n s (seen.add 16) must first := by
  show (if s ≥ n then _ else (match Sre.accepts code43 7 (text.getD s 0) (seen.add 16) with | .error why => Sre.M.stick _ why | .ok (false, seen) => _ | .ok (true, seen) => _)) = _
  rw [if_neg (Nat.not_le.mpr hs), hd]
  rfl
theorem dD_step (text : Array Nat) (n s : Nat) (seen : Sre.Seen) (must first : Bool) :
    (dD text n s seen must first).step = if (first && ((false && s + 1 != n) || (must && s + 1 == s))) = true then { dD text n s (seen.add 1) must first with answer := some false } else dE text n s (seen.add 1) must first := rfl
theorem dE_step (text : Array Nat) (n s : Nat) (seen : Sre.Seen) (must first : Bool) :
    (dE text n s seen must first).step = { dE text n s seen must first with pc := 5, pos := s, frames := [], weight := 0 } := rfl
def dDone (text : Array Nat) (n s : Nat) (seen : Sre.Seen) (must first : Bool) : Sre.M :=
  { dE text n s seen must first with pc := 5, pos := s, frames := [], weight := 0, outcome := some .matched }
theorem run_one {m : Sre.M} (h : m.outcome = none) (k : Nat) : m.runFor (k + 1) = m.step.runFor k := by
  show (if m.outcome.isSome = true then m else Sre.M.runFor k m.step) = _
  rw [h]; rfl
/-- found at a line's begin -/
theorem dA_found {text : Array Nat} {n s : Nat} (hs : s < n) (hb : isBeg text s = true) (hd : text.getD s 0 = 46) (seen : Sre.Seen) (must first : Bool) :
    ∃ seen', (dA text n s seen must first).runFor 5 = dDone text n s seen' must first := by
  refine ⟨((((seen.add 6).add 44).add 16).add 1), ?_⟩
  rw [run_one rfl, dA_step, if_pos hb, run_one rfl, dC_step hs hd, run_one rfl, dD_step, if_neg (by
    have : (s + 1 == s) = false := by simp
    rw [this]; simp)]
  rw [run_one rfl, dE_step]
  rfl
theorem dA_search {text : Array Nat} {n : Nat} : ∀ (j s : Nat) (seen : Sre.Seen) (must first : Bool), s + j < n → (∀ i, i < j → isBeg text (s + i) = false) → isBeg text (s + j) = true → text.getD (s + j) 0 = 46 →
    ∃ seen' must' first', (dA text n s seen must first).runFor (2 * j + 5) = dDone text n (s + j) seen' must' first'
  | 0, s, seen, must, first, hs, _, hb, hd => by
    obtain ⟨seen', h⟩ := dA_found hs hb hd seen must first
    exact ⟨seen', must, first, h⟩
  | j + 1, s, seen, must, first, hs, hn, hb, hd => by
    have h0 : isBeg text s = false := hn 0 (Nat.succ_pos _)
    obtain ⟨seen', must', first', h⟩ := dA_search (text := text) (n := n) j (s + 1) ((seen.add 6).add 44) false false (by omega) (fun i hi => by
      have := hn (i + 1) (by omega)
      rw [← this]; congr 1; omega) (by rw [← hb]; congr 1; omega) (by rw [← hd]; congr 1; omega)
    refine ⟨seen', must', first', ?_⟩
    rw [show 2 * (j + 1) + 5 = 2 * j + 5 + 1 + 1 by omega, run_one rfl, dA_step, if_neg (by rw [h0]; exact Bool.false_ne_true), run_one rfl, dB_step, if_pos (show s < n by omega), h]
    congr 1; omega
theorem dA_fails {text : Array Nat} {n : Nat} : ∀ (j s : Nat) (seen : Sre.Seen) (must first : Bool), s + j = n → (∀ i, i ≤ j → isBeg text (s + i) = false) →
    ((dA text n s seen must first).runFor (2 * j + 3)).outcome = some .failed
  | 0, s, seen, must, first, hs, hn => by
    have h0 : isBeg text s = false := hn 0 (Nat.le_refl _)
    rw [show 2 * 0 + 3 = 0 + 1 + 1 + 1 by omega, run_one rfl, dA_step, if_neg (by rw [h0]; exact Bool.false_ne_true), run_one rfl, dB_step, if_neg (show ¬ s < n by omega)]
    rfl
  | j + 1, s, seen, must, first, hs, hn => by
    have h0 : isBeg text s = false := hn 0 (Nat.zero_le _)
    have h := dA_fails (text := text) (n := n) j (s + 1) ((seen.add 6).add 44) false false (by omega) (fun i hi => by
      have := hn (i + 1) (by omega)
      rw [← this]; congr 1; omega)
    rw [show 2 * (j + 1) + 3 = 2 * j + 3 + 1 + 1 by omega, run_one rfl, dA_step, if_neg (by rw [h0]; exact Bool.false_ne_true), run_one rfl, dB_step, if_pos (show s < n by omega)]
    exact h
theorem search43 (text : Array Nat) (n s : Nat) (must : Bool) : Sre.forSearch code43 text 0 s n must = if (decide (s > n) || decide (n - s < 1)) = true then { Sre.forSearch code43 text 0 s n must with } else dA text n s ((({} : Sre.Seen).add 14)) must true := by
  by_cases h : (decide (s > n) || decide (n - s < 1)) = true
  · rw [if_pos h]
  · rw [if_neg h]
    show (if (decide (s > n) || decide (n - s < 1)) = true then _ else _) = _
    rw [if_neg h]
    rfl
end

-- R4
section
open Builtin Builtin.Str Builtin.Re
/-! the ends of lines: the machine's steps -/
def code48 : Array Nat := #[14, 9, 4, 1, 2, 16, 10, 16, 13, 0, 7, 7, 16, 13, 16, 10, 15, 18, 5, 16, 10, 15, 13, 11, 16, 13, 5, 5, 0, 16, 10, 1, 15, 2, 0, 1]
def qS (text : Array Nat) (n s pc pos handed : Nat) (om : Bool) (frames : List Sre.Frame) (wt : Nat) (ans : Option Bool) (seen : Sre.Seen) : Sre.M :=
  { code := code48, text := text, lim := n, start := s, lastStart := n, wholeText := false, mustAdvance := false, pc := pc, pos := pos, handed := handed, outermost := om, marks := #[], lastmark := -1, lastindex := -1, loops := #[], inner := none,
    frames := frames, weight := wt, answer := ans, seen := seen, outcome := none }
def fS (s : Nat) : Sre.Frame := { wait := .nextStart, pc := 10, pos := s, outermost := true }
def fB (alt s : Nat) : Sre.Frame := { wait := .nextBranch, pc := alt, pos := s, outermost := true, kept := { lastmark := -1, lastindex := -1, whole := false, marks := #[] } }
def fN (s : Nat) : Sre.Frame := { wait := .lookNot, pc := 26, pos := s, outermost := true, kept := { lastmark := -1, lastindex := -1, whole := false, marks := #[] } }
def qA (text : Array Nat) (n s : Nat) (seen : Sre.Seen) : Sre.M := qS text n s 10 s s true [fS s] 1 none seen
def qDone (text : Array Nat) (n s e : Nat) (seen : Sre.Seen) : Sre.M := { qS text n s 10 s e true [] 0 (some true) seen with outcome := some .matched }
variable (text : Array Nat) (n s : Nat) (seen : Sre.Seen)
theorem q1 : (qA text n s seen).step = qS text n s 12 s s true [fB 11 s, fS s] 2 none (seen.add 7) := rfl
theorem lit48 (pc c pos hd : Nat) (om : Bool) (fr : List Sre.Frame) (wt : Nat) (hp : pc < 36) (hw : code48.getD pc 0 = 16) (hc : code48.getD (pc + 1) 0 = c) (hl : pos < n) :
    (qS text n s pc pos hd om fr wt none seen).step = match text.getD pos 0 == c with
      | true => qS text n s (pc + 2) (pos + 1) hd om fr wt none (seen.add 16)
      | false => qS text n s pc pos hd om fr wt (some false) (seen.add 16) := by
  subst hc
  have e1 : (qS text n s pc pos hd om fr wt none seen).step = (qS text n s pc pos hd om fr wt none seen).exec := by
    show (if pc < 36 then Sre.M.exec _ else Sre.M.stick _ _) = _
    rw [if_pos hp]
  rw [e1]
  have hw' : (qS text n s pc pos hd om fr wt none seen).word 0 = 16 := hw
  unfold Sre.M.exec
  rw [hw']
  have e2 : Sre.ops[16]? = some .LITERAL := rfl
  rw [e2]
  dsimp only
  show (if pos ≥ n then _ else _) = _
  rw [if_neg (show ¬ pos ≥ n from Nat.not_le.mpr hl)]
  have e3 : ∀ sn, Sre.accepts code48 pc (text.getD pos 0) sn = .ok (text.getD pos 0 == code48.getD (pc + 1) 0, sn) := fun sn => by
    unfold Sre.accepts
    rw [hw, e2]
  have e4 : Sre.itemWidth code48 pc = 2 := by unfold Sre.itemWidth; rw [hw, e2]
  show (match Sre.accepts code48 pc (text.getD pos 0) (seen.add 16) with | .error why => _ | .ok (false, seen) => _ | .ok (true, seen) => _) = _
  rw [e3]
  cases text.getD pos 0 == code48.getD (pc + 1) 0 with
  | true => show ({ (qS text n s pc pos hd om fr wt none (seen.add 16)) with pc := pc + Sre.itemWidth code48 pc, pos := pos + 1 } : Sre.M) = _; rw [e4]; rfl
  | false => rfl
variable {text n s}
theorem lit48_ok {pc c pos hd : Nat} {om : Bool} {fr : List Sre.Frame} {wt : Nat} (hp : pc < 36) (hw : code48.getD pc 0 = 16) (hc : code48.getD (pc + 1) 0 = c) (hl : pos < n) (h : text.getD pos 0 = c) :
    (qS text n s pc pos hd om fr wt none seen).step = qS text n s (pc + 2) (pos + 1) hd om fr wt none (seen.add 16) := by
  rw [lit48 text n s seen pc c pos hd om fr wt hp hw hc hl, h, beq_self_eq_true]
theorem lit48_no {pc c pos hd : Nat} {om : Bool} {fr : List Sre.Frame} {wt : Nat} (hp : pc < 36) (hw : code48.getD pc 0 = 16) (hc : code48.getD (pc + 1) 0 = c) (hl : pos < n) (h : text.getD pos 0 ≠ c) :
    (qS text n s pc pos hd om fr wt none seen).step = qS text n s pc pos hd om fr wt (some false) (seen.add 16) := by
  rw [lit48 text n s seen pc c pos hd om fr wt hp hw hc hl, beq_eq_false_iff_ne.mpr h]
theorem jump16 {pos hd : Nat} {fr : List Sre.Frame} {wt : Nat} : (qS text n s 16 pos hd true fr wt none seen).step = qS text n s 35 pos hd true fr wt none (seen.add 15) := rfl
theorem jump21 {pos hd : Nat} {fr : List Sre.Frame} {wt : Nat} : (qS text n s 21 pos hd true fr wt none seen).step = qS text n s 35 pos hd true fr wt none (seen.add 15) := rfl
theorem jump32 {pos hd : Nat} {fr : List Sre.Frame} {wt : Nat} : (qS text n s 32 pos hd true fr wt none seen).step = qS text n s 35 pos hd true fr wt none (seen.add 15) := rfl
theorem succ35 {pos hd : Nat} {fr : List Sre.Frame} {wt : Nat} : (qS text n s 35 pos hd true fr wt none seen).step = qS text n s 35 pos pos true fr wt (some true) (seen.add 1) := rfl
theorem res_yesB {pc pos hd alt : Nat} {fr : List Sre.Frame} {wt : Nat} : (qS text n s pc pos hd true (fB alt s :: fr) (wt + 1) (some true) seen).step = qS text n s alt s hd true fr wt (some true) seen := rfl
theorem res_yesS {pc pos hd : Nat} : (qS text n s pc pos hd true [fS s] 1 (some true) seen).step = qS text n s 10 s hd true [] 0 (some true) seen := rfl
theorem res_done {hd : Nat} : (qS text n s 10 s hd true [] 0 (some true) seen).step = qDone text n s hd seen := rfl
theorem res_noB11 {pc pos hd : Nat} : (qS text n s pc pos hd true [fB 11 s, fS s] 2 (some false) seen).step = qS text n s 19 s s true [fB 18 s, fS s] 2 none seen := rfl
theorem res_noB18 {pc pos hd : Nat} : (qS text n s pc pos hd true [fB 18 s, fS s] 2 (some false) seen).step = qS text n s 24 s s true [fB 23 s, fS s] 2 none seen := rfl
theorem assert26 {pos hd : Nat} : (qS text n s 26 pos hd true [fB 23 s, fS s] 2 none seen).step = qS text n s 29 pos pos false [fN pos, fB 23 s, fS s] 3 none (seen.add 5) := rfl
theorem res_noN {pc pos hd p : Nat} : (qS text n s pc pos hd false [fN p, fB 23 s, fS s] 3 (some false) seen).step = qS text n s 32 p hd true [fB 23 s, fS s] 2 none seen := rfl
theorem run_end {pos hd alt : Nat} : ∃ seen', (qS text n s 35 pos hd true [fB alt s, fS s] 2 none seen).runFor 4 = qDone text n s pos seen' := by
  rw [run_one rfl, succ35, run_one rfl, res_yesB, run_one rfl, res_yesS, run_one rfl, res_done]
  exact ⟨_, rfl⟩
theorem qA_crlf (h1 : s + 1 < n) (c1 : text.getD s 0 = 13) (c2 : text.getD (s + 1) 0 = 10) : ∃ seen', (qA text n s seen).runFor 8 = qDone text n s (s + 2) seen' := by
  rw [run_one rfl, q1, run_one rfl, lit48_ok _ (by decide) rfl rfl (by omega) c1, run_one rfl, lit48_ok _ (by decide) rfl rfl h1 c2, run_one rfl, jump16]
  exact run_end _
theorem qA_lf (h1 : s < n) (c1 : text.getD s 0 = 10) : ∃ seen', (qA text n s seen).runFor 9 = qDone text n s (s + 1) seen' := by
  rw [run_one rfl, q1, run_one rfl, lit48_no (c := 13) _ (by decide) rfl rfl h1 (by rw [c1]; decide), run_one rfl, res_noB11, run_one rfl, lit48_ok _ (by decide) rfl rfl h1 c1, run_one rfl, jump21]
  exact run_end _
theorem qA_cr (h1 : s + 1 < n) (c1 : text.getD s 0 = 13) (c2 : text.getD (s + 1) 0 ≠ 10) : ∃ seen', (qA text n s seen).runFor 15 = qDone text n s (s + 1) seen' := by
  have h0 : s < n := by omega
  rw [run_one rfl, q1, run_one rfl, lit48_ok _ (by decide) rfl rfl h0 c1, run_one rfl, lit48_no (c := 10) _ (by decide) rfl rfl h1 c2, run_one rfl, res_noB11,
    run_one rfl, lit48_no (c := 10) _ (by decide) rfl rfl h0 (by rw [c1]; decide), run_one rfl, res_noB18, run_one rfl, lit48_ok _ (by decide) rfl rfl h0 c1,
    run_one rfl, assert26, run_one rfl, lit48_no (c := 10) _ (by decide) rfl rfl h1 c2, run_one rfl, res_noN, run_one rfl, jump32]
  exact run_end _
theorem inSet48 (c : Nat) (sn : Sre.Seen) : Sre.inSet code48 c code48.size 5 true sn = if (c == 10) = true then .ok (true, sn.add 16) else if (c == 13) = true then .ok (true, (sn.add 16).add 16) else .ok (false, ((sn.add 16).add 16).add 0) := rfl
theorem adm48 {m : Sre.M} (hc : m.code = code48) (ht : m.text = text) (hn : m.lim = n) : ∀ (j s fuel : Nat) (sn : Sre.Seen), s + j < n → j < fuel → (∀ i, i < j → text.getD (s + i) 0 ≠ 10 ∧ text.getD (s + i) 0 ≠ 13) → (text.getD (s + j) 0 = 10 ∨ text.getD (s + j) 0 = 13) →
    ∃ sn', m.admitted fuel s sn = .ok (some (s + j), sn')
  | _, _, 0, _, _, hf, _, _ => absurd hf (Nat.not_lt_zero _)
  | 0, s, fuel + 1, sn, hs, _, _, h => by
    unfold Sre.M.admitted
    rw [if_neg (by rw [hn]; omega), hc, ht, inSet48]
    rcases h with h | h
    · rw [Nat.add_zero] at h; rw [h]; exact ⟨_, rfl⟩
    · rw [Nat.add_zero] at h; rw [h]; exact ⟨_, rfl⟩
  | j + 1, s, fuel + 1, sn, hs, hf, hno, h => by
    have h0 := hno 0 (Nat.succ_pos _)
    rw [Nat.add_zero] at h0
    obtain ⟨sn', e⟩ := adm48 hc ht hn j (s + 1) fuel (((sn.add 16).add 16).add 0) (by omega) (by omega) (fun i hi => by
      have := hno (i + 1) (by omega)
      rwa [show s + 1 + i = s + (i + 1) by omega]) (by rwa [show s + 1 + j = s + (j + 1) by omega])
    refine ⟨sn', ?_⟩
    unfold Sre.M.admitted
    rw [if_neg (by rw [hn]; omega), hc, ht, inSet48, if_neg (by simpa using h0.1), if_neg (by simpa using h0.2)]
    dsimp only
    rw [e]
    congr 3; omega
theorem adm48_none {m : Sre.M} (hc : m.code = code48) (ht : m.text = text) (hn : m.lim = n) : ∀ (j s fuel : Nat) (sn : Sre.Seen), s + j = n → (∀ i, i < j → text.getD (s + i) 0 ≠ 10 ∧ text.getD (s + i) 0 ≠ 13) →
    ∃ sn', m.admitted fuel s sn = .ok (none, sn')
  | _, _, 0, _, _, _ => ⟨_, rfl⟩
  | 0, s, fuel + 1, sn, hs, _ => by
    unfold Sre.M.admitted
    rw [if_pos (by rw [hn]; omega)]
    exact ⟨_, rfl⟩
  | j + 1, s, fuel + 1, sn, hs, hno => by
    have h0 := hno 0 (Nat.succ_pos _)
    rw [Nat.add_zero] at h0
    obtain ⟨sn', e⟩ := adm48_none hc ht hn j (s + 1) fuel (((sn.add 16).add 16).add 0) (by omega) (fun i hi => by
      have := hno (i + 1) (by omega)
      rwa [show s + 1 + i = s + (i + 1) by omega])
    refine ⟨sn', ?_⟩
    unfold Sre.M.admitted
    rw [if_neg (by rw [hn]; omega), hc, ht, inSet48, if_neg (by simpa using h0.1), if_neg (by simpa using h0.2)]
    exact e
end

-- R5
section
open Builtin Builtin.Str Builtin.Re
/-! Pattern.sub with a written replacement -/
def Hits (code text : Array Nat) (s b e : Nat) : Prop := ∃ k m, k < 2 ^ 60 ∧ (Sre.forSearch code text 0 s text.size false).runFor k = m ∧ m.outcome = some .matched ∧ m.start = b ∧ m.handed = e
def Misses (code text : Array Nat) (s : Nat) : Prop := ∃ k, k < 2 ^ 60 ∧ ((Sre.forSearch code text 0 s text.size false).runFor k).outcome = some .failed
inductive Finds (code text : Array Nat) : Nat → List (Nat × Nat) → Prop
  | nil {s} : Misses code text s → Finds code text s []
  | cons {s b e ms} : Hits code text s b e → b < e → Finds code text e ms → Finds code text s ((b, e) :: ms)
def pcs (text repl : Array Nat) (done : Nat) : List (Nat × Nat) → List Str
  | [] => if done < text.size then [⟨text.extract done text.size⟩] else []
  | (b, e) :: ms => (if done < b then [⟨text.extract done b⟩] else []) ++ (⟨repl⟩ : Str) :: pcs text repl e ms
theorem runFor_more {m m' : Sre.M} {k : Nat} (h : m.runFor k = m') (ho : m'.outcome.isSome = true) : m.runFor (4 * (k + 1)) = m' := by
  rw [show 4 * (k + 1) = k + (3 * k + 4) by omega, runFor_add, h, runFor_some ho]
theorem plain_subloop : plainId "re.Pattern.sub.loop" = true := by decide +kernel
theorem named_sub (a b : Value) : reNamed "re.Pattern.sub" "sub" ["repl", "string", "count"] 2 [a, b] [] = pure [some a, some b, none] := rfl
section
variable {prog : Program} {w : World} {A : Around} {E : Value → Shared → Prop} {s : Shared}
theorem wp_whole {P C : Addr} {po co : Obj} {f0 f1 : Value} {codeV : Array Value} {n : Nat} {x : Str} {t : Tok} {Q : ReTarget → Shared → Prop} {M : Model}
    (hP : s.heap.get? P = some po) (hPd : po.data = .fields #[f0, f1, .int 0 0, .none, .none, .ref C, .int 0 0]) (hC : s.heap.get? C = some co) (hCd : co.data = .seq codeV n)
    (h : Q { pattern := .ref P, string := .str x t, code := rawCode codeV, text := x.cps, kind := 0, groups := 0, pos := 0, lim := x.cps.size } s) : wpAny M A (reWholeTarget (.ref P) (.str x t)) Q E s := by
  unfold reWholeTarget
  refine wpAny_bind (wpAny_fieldsOf hP hPd ?_)
  refine wpAny_bind (wpAny_pure ?_)
  dsimp only
  refine wpAny_bind ?_
  refine wpAny_of_eq (show reNoCollectionInside (Value.str x t) 0 = pure () from rfl) ?_
  refine wpAny_bind ?_
  refine wpAny_bind (wpAny_seqItems hC hCd (wpAny_pure ?_))
  exact wpAny_pure h
theorem wp_hit {code text : Array Nat} {st b e : Nat} {Q : Option Sre.M → Shared → Prop} {M : Model} (hh : Hits code text st b e) (h : ∀ m : Sre.M, m.start = b → m.handed = e → Q (some m) s) : wpAny M A (reRunToEnd (Sre.forSearch code text 0 st text.size false)) Q E s := by
  obtain ⟨k, m, hk, hr, ho, hb, he⟩ := hh
  have := runFor_more hr (by rw [ho]; rfl)
  refine wp_runToEnd k (Nat.lt_trans hk (by decide)) true (by rw [this]; exact ho) ?_
  rw [this]; exact h m hb he
theorem wp_miss {code text : Array Nat} {st : Nat} {Q : Option Sre.M → Shared → Prop} {M : Model} (hh : Misses code text st) (h : Q none s) : wpAny M A (reRunToEnd (Sre.forSearch code text 0 st text.size false)) Q E s := by
  obtain ⟨k, hk, ho⟩ := hh
  have := runFor_more (m := Sre.forSearch code text 0 st text.size false) (k := k) rfl (by rw [ho]; rfl)
  exact wp_runToEnd k (Nat.lt_trans hk (by decide)) false (by rw [this]; exact ho) h
theorem strsAre_snoc {vs : List Value} {ys : List Str} (h : StrsAre vs ys) (y : Str) (t : Tok) : StrsAre (vs ++ [.str y t]) (ys ++ [y]) := by
  induction h with
  | nil => exact .cons y t .nil
  | cons z u _ ih => exact .cons z u ih
theorem push_list {S : Addr} {vs : List Value} {n : Nat} {v : Value} {h : Heap} (hS : h.get? S = some (listOf vs.toArray n)) : ∃ n', (h.update S (Obj.mapSeq (·.push v))).get? S = some (listOf (vs ++ [v]).toArray n') := by
  rw [Heap.get?_update_self _ hS rfl]
  have e : Obj.mapSeq (·.push v) (listOf vs.toArray n) = listOf (vs.toArray.push v) (if (vs.toArray.push v).size == vs.toArray.size then n else n + 1) := rfl
  rw [e, List.push_toArray]
  exact ⟨_, rfl⟩
/-- a part of the text, if any, laid to the pieces -/
theorem wp_piece {α : Type} {K : Sem α} {S : Addr} {vs : List Value} {n : Nat} {text : Array Nat} {b e : Nat} {Q : α → Shared → Prop} {ys : List Str} (hS : s.heap.get? S = some (listOf vs.toArray n)) (hi : StrsAre vs ys) (hl : vs.length < 100000) (ht : text.size < 100000)
    (h : ∀ h' tk vs' n', h'.get? S = some (listOf vs'.toArray n') → StrsAre vs' (ys ++ if b < e then [⟨text.extract b e⟩] else []) → Heap.SameBut S s.heap h' → vs'.length ≤ vs.length + 1 → wpAny (model prog w) A K Q E { s with heap := h', toks := tk }) :
    wpAny (model prog w) A (if b < e then (do let v ← reSlice text 0 b e; updateSeq S (·.push v); K) else K) Q E s := by
  split
  · rename_i hbe
    rw [if_pos hbe] at h
    unfold reSlice
    rw [if_pos (by decide)]
    refine wpAny_bind (wpAny_mkStr ?_ (by show (text.extract b e).size ≤ sizeLine; rw [sizeLine_eq, Array.size_extract]; omega))
    obtain ⟨n', hn'⟩ := push_list (v := .str ⟨text.extract b e⟩ s.toks) hS
    refine wpAny_bind (wpAny_updateSeq hS rfl (h _ _ _ _ hn' (strsAre_snoc hi _ _) (Heap.SameBut.update ..) (by simp)) (by rw [List.size_toArray, sizeLine_eq]; omega) (by simp [sizeLine_eq]; omega))
  · rename_i hbe
    rw [if_neg hbe, List.append_nil] at h
    exact h _ _ _ _ hS hi (Heap.SameBut.refl ..) (by omega)
theorem strsAre_len {vs : List Value} {ys : List Str} (h : StrsAre vs ys) : vs.length = ys.length := by
  induction h with
  | nil => rfl
  | cons _ _ _ ih => simp [ih]
end
section
variable {prog : Program} {w : World} {A : Around}
theorem sub_loop {P C : Addr} {po co : Obj} {f0 f1 : Value} {codeV : Array Value} {nC : Nat} {x r : Str} {t tr : Tok} {S : Addr} {R : Result → Shared → Prop}
    (hPd : po.data = .fields #[f0, f1, .int 0 0, .none, .none, .ref C, .int 0 0]) (hCd : co.data = .seq codeV nC) (hSP : P ≠ S) (hSC : C ≠ S) (hx : x.cps.size < 1000) (hr : r.cps.size < 10) :
    ∀ (ms : List (Nat × Nat)) (st k : Nat) (tk1 tk2 tk3 tk4 tk5 : Tok) (vs : List Value) (ys : List Str) (n : Nat) (s : Shared), Finds (rawCode codeV) x.cps st ms → s.heap.get? P = some po → s.heap.get? C = some co →
      s.heap.get? S = some (listOf vs.toArray n) → StrsAre vs ys → vs.length + 3 * ms.length < 5000 → ((ys ++ pcs x.cps r.cps st ms).map (·.length)).sum < 100000 →
      (∀ h' t' tk, Heap.SameBut S s.heap h' → R (.ok (.ret (.str (Txt.join ⟨#[]⟩ (ys ++ pcs x.cps r.cps st ms)) t'))) { s with heap := h', toks := tk }) →
      codeAny (model prog w) A (.builtin "re.Pattern.sub.loop" ⟨[.ref P, .str x t, .str r tr, .int 0 tk1, .int 0 tk2, .int k tk3, .int st tk4, .int st tk5, .bool false, .ref S, .bool false], []⟩) R s := by
  intro ms
  induction ms with
  | nil =>
    intro st k tk1 tk2 tk3 tk4 tk5 vs ys n s hF hP hC hS hi hlen hsum hR
    cases hF with
    | nil hmiss =>
    refine codeAny_builtin entry_subloop ?_
    rw [Around.under_plainId plain_subloop _]
    unfold Builtin.«re.Pattern.sub.loop»
    refine wpAny_bind (wp_whole hP hPd hC hCd ?_)
    dsimp only
    refine wpAny_bind (wpAny_of_eq (show reLiteralCannotBeTurned (.str r tr) = pure () from rfl) ?_)
    refine wpAny_bind ?_
    rw [if_neg (by simp)]
    refine wp_miss hmiss ?_
    dsimp only
    rw [Int.toNat_natCast]
    refine wp_piece (text := x.cps) hS hi (by omega) (by omega) ?_
    intro h' tk vs' n' hS' hi' hsb hl'
    have hp : (if st < x.cps.size then [(⟨x.cps.extract st x.cps.size⟩ : Str)] else []) = pcs x.cps r.cps st [] := rfl
    rw [hp] at hi'
    have hln := strsAre_len hi'
    simp only [List.length_nil] at hlen
    refine wpAny_bind ?_
    unfold reSlice
    rw [if_pos (by decide)]
    refine wpAny_mkStr ?_ (by show (x.cps.extract 0 0).size ≤ sizeLine; rw [sizeLine_eq, Array.size_extract]; omega)
    refine wpAny_bind (wpAny_seqItems hS' rfl ?_)
    have e0 : (⟨x.cps.extract 0 0⟩ : Str) = ⟨#[]⟩ := by congr 1; simp
    rw [e0]
    by_cases hem : (((some vs'.toArray : Option (Array Value)).getD #[]).isEmpty = true)
    · rw [if_pos hem]
      refine wpAny_bind (wpAny_pure ?_)
      rw [if_neg Bool.false_ne_true]
      have hz : ys ++ pcs x.cps r.cps st [] = [] := by
        have : vs' = [] := by simpa using hem
        rw [this] at hln
        exact List.eq_nil_of_length_eq_zero hln.symm
      refine wpAny_pure ?_
      have := hR h' tk (tk + 1) hsb
      rw [hz] at this
      exact this
    · rw [if_neg hem]
      refine wpAny_bind ?_
      rw [if_pos (by decide)]
      refine join_list (x := ⟨#[]⟩) ⟨_, hS', rfl, _, rfl⟩ hi' (by show _ + _ * 0 ≤ _; omega) ?_
      intro t' tk'
      rw [if_neg Bool.false_ne_true]
      exact wpAny_pure (hR _ _ _ hsb)
  | cons p ms ih =>
    intro st k tk1 tk2 tk3 tk4 tk5 vs ys n s hF hP hC hS hi hlen hsum hR
    cases hF with
    | @cons _ b e _ hhit hbe hF =>
    refine codeAny_builtin entry_subloop ?_
    rw [Around.under_plainId plain_subloop _]
    unfold Builtin.«re.Pattern.sub.loop»
    refine wpAny_bind (wp_whole hP hPd hC hCd ?_)
    dsimp only
    refine wpAny_bind (wpAny_of_eq (show reLiteralCannotBeTurned (.str r tr) = pure () from rfl) ?_)
    refine wpAny_bind ?_
    rw [if_neg (by simp)]
    refine wp_hit hhit fun m hb he => ?_
    dsimp only
    rw [Int.toNat_natCast]
    rw [hb, he]
    simp only [List.length_cons] at hlen
    refine wp_piece (text := x.cps) hS hi (by omega) (by omega) ?_
    intro h' tk vs' n' hS' hi' hsb hl'
    rw [if_pos (by decide)]
    refine wpAny_bind (wpAny_pure ?_)
    rw [if_pos (show (Value.str r tr != Value.none) = true from rfl)]
    obtain ⟨n2, hn2⟩ := push_list (v := .str r tr) hS'
    have hne : (e == b) = false := by simp; omega
    rw [hne]
    refine wpAny_bind (wpAny_updateSeq hS' rfl ?_ (by rw [List.size_toArray, sizeLine_eq]; omega) (by simp [sizeLine_eq]; omega))
    have sb2 := hsb.trans (Heap.SameBut.update h' S (Obj.mapSeq (·.push (.str r tr))))
    have eqy : ys ++ pcs x.cps r.cps st ((b, e) :: ms) = (ys ++ (if st < b then [⟨x.cps.extract st b⟩] else []) ++ [r]) ++ pcs x.cps r.cps e ms := by
      show ys ++ ((if st < b then [⟨x.cps.extract st b⟩] else []) ++ r :: pcs x.cps r.cps e ms) = _
      rw [List.append_assoc, List.append_assoc]; rfl
    refine wpAny_pure ⟨plainId_quiet plain_subloop _, ih e (k + 1) _ _ _ _ _ _ _ n2 _ hF ?_ ?_ hn2 (strsAre_snoc hi' _ _) ?_ ?_ ?_⟩
    · show (h'.update S _).get? P = _
      rw [sb2.2 P hSP]; exact hP
    · show (h'.update S _).get? C = _
      rw [sb2.2 C hSC]; exact hC
    · rw [List.length_append]; simp only [List.length_cons, List.length_nil]; omega
    · rw [← eqy]; exact hsum
    · intro h2 t2 tk2 hsb2
      rw [← eqy]
      exact hR h2 t2 tk2 (sb2.trans hsb2)
/-- P.sub(r, x), r without a backslash -/
theorem call_sub {E : Value → Shared → Prop} {s : Shared} {P C : Addr} {po co : Obj} {f0 f1 : Value} {codeV : Array Value} {nC : Nat} {x r : Str} {t tr : Tok} {ms : List (Nat × Nat)} {Q : Value → Shared → Prop}
    (hP : s.heap.get? P = some po) (hPc : po.cls = .type "re.Pattern") (hPd : po.data = .fields #[f0, f1, .int 0 0, .none, .none, .ref C, .int 0 0]) (hC : s.heap.get? C = some co) (hCd : co.data = .seq codeV nC)
    (hx : x.cps.size < 1000) (hr : r.cps.size < 10) (hlit : r.cps.contains 92 = false) (hF : Finds (rawCode codeV) x.cps 0 ms) (hms : ms.length < 1000) (hsum : ((pcs x.cps r.cps 0 ms).map (·.length)).sum < 100000)
    (h : ∀ h' t' tk, (∀ b o, s.heap.get? b = some o → h'.get? b = some o) → Q (.str (Txt.join ⟨#[]⟩ (pcs x.cps r.cps 0 ms)) t') { s with heap := h', toks := tk }) :
    wpAny (model prog w) A (call (.builtin "re.Pattern.sub") [.ref P, .str r tr, .str x t]) Q E s := by
  refine wpAny_call (codeAny_call_builtin slot_sub.plain entry_sub (slot_sub.check _ _ _ _ _ _ _ _ ⟨po, hP, hPc⟩ (args_sub _ _ _) ?_))
  unfold Builtin.«re.Pattern.sub» reSubstitute
  dsimp only
  rw [named_sub]
  refine wpAny_bind (wpAny_pure ?_)
  dsimp only
  refine wpAny_bind (wpAny_pure ?_)
  have hnc : typeLookup (.type "str") "__call__" = pure none := by rw [typeLookup_type, builtinLookup_eq_fast]; kernel_rfl
  refine wpAny_bind (wpAny_specialOf (typeIs_str _ _ _) hnc ?_)
  rw [if_neg (by decide)]
  refine wpAny_bind (wpAny_of_eq (show asStr? (.str r tr) = pure (some r) from rfl) ?_)
  dsimp only
  refine wpAny_bind (wpAny_pure ?_)
  rw [if_neg (by decide), hlit, if_pos (show (!false) = true from rfl)]
  refine wpAny_bind (wpAny_pure ?_)
  dsimp only
  refine wpAny_bind (wpAny_holding (wp_whole hP hPd hC hCd ?_))
  rw [if_neg (by decide)]
  refine wpAny_bind (wpAny_newList ?_)
  have up : ∀ b o, s.heap.get? b = some o → (s.heap.push { cls := .type "list", data := .seq ([] : List Value).toArray }).get? b = some o := fun b o e => Heap.get?_push_of_some _ e
  refine wpAny_pure ⟨plainId_quiet plain_subloop _, sub_loop (prog := prog) (w := w) (x := x) (r := r) (S := s.heap.objs.size) hPd hCd (Nat.ne_of_lt (Heap.lt_size hP)) (Nat.ne_of_lt (Heap.lt_size hC)) hx hr ms 0 0 _ _ _ _ _ [] [] 0 _ hF (up _ _ hP) (up _ _ hC) (Heap.get?_push_size _ rfl) .nil ?_ ?_ ?_⟩
  · simp only [List.length_nil]; omega
  · rw [List.nil_append]; exact hsum
  · intro h' t' tk hsb
    exact h h' t' tk fun b o hb => (hsb.2 b (Nat.ne_of_lt (Heap.lt_size hb))).trans (up b o hb)
end
end

-- R6
section
open Builtin Builtin.Str Builtin.Re
/-! what the two patterns find in rows set one behind the other -/
theorem gD (l : List Nat) (i : Nat) : l.toArray.getD i 0 = l.getD i 0 := by simp [Array.getD_eq_getD_getElem?, List.getD_eq_getElem?_getD]
theorem gD_mid (pre r post : List Nat) (i : Nat) (h : i < r.length) : (pre ++ r ++ post).getD (pre.length + i) 0 = r.getD i 0 := by
  simp only [List.getD_eq_getElem?_getD]
  rw [List.append_assoc, List.getElem?_append_right (by omega), List.getElem?_append_left (by omega)]
  congr 2; omega
theorem gD_mem {r : List Nat} {i : Nat} (h : i < r.length) : r.getD i 0 ∈ r := by
  rw [List.getD_eq_getElem?_getD, List.getElem?_eq_getElem h]; exact List.getElem_mem h
theorem ext_mid (pre r post : List Nat) : (pre ++ r ++ post).toArray.extract pre.length (pre.length + r.length) = r.toArray := by
  apply Array.ext'
  simp [List.take_append, List.drop_append]
theorem search48 {text : Array Nat} {n s j : Nat} (h : s + j < n) (no : ∀ i, i < j → text.getD (s + i) 0 ≠ 10 ∧ text.getD (s + i) 0 ≠ 13) (yes : text.getD (s + j) 0 = 10 ∨ text.getD (s + j) 0 = 13) :
    ∃ seen, Sre.forSearch code48 text 0 s n false = qA text n (s + j) seen := by
  have e : Sre.forSearch code48 text 0 s n false = Sre.M.attemptFrom { Sre.forSearch code48 text 0 s n false with lastStart := n, start := s, pc := 10, pos := s, handed := s, answer := none, seen := ({} : Sre.Seen).add 14, mustAdvance := false, outermost := true, marks := #[], lastmark := -1, lastindex := -1, loops := #[], inner := none, frames := [], weight := 0, outcome := none, code := code48, text := text, lim := n, wholeText := false } s true := by
    show (if (decide (s > n) || decide (n - s < 1)) = true then _ else _) = _
    rw [if_neg (by simp; omega)]
    rfl
  rw [e]
  unfold Sre.M.attemptFrom
  rw [if_neg (by exact Bool.false_ne_true)]
  obtain ⟨sn, hs⟩ := adm48 (text := text) (n := n) (m := { Sre.forSearch code48 text 0 s n false with lastStart := n, start := s, pc := 10, pos := s, handed := s, answer := none, seen := ({} : Sre.Seen).add 14, mustAdvance := false, outermost := true, marks := #[], lastmark := -1, lastindex := -1, loops := #[], inner := none, frames := [], weight := 0, outcome := none, code := code48, text := text, lim := n, wholeText := false }) rfl rfl rfl j s (n + 1 - s) (({} : Sre.Seen).add 14) h (by omega) no yes
  dsimp only
  rw [hs]
  exact ⟨sn, rfl⟩
theorem search48_none {text : Array Nat} {n s j : Nat} (h : s + j = n) (no : ∀ i, i < j → text.getD (s + i) 0 ≠ 10 ∧ text.getD (s + i) 0 ≠ 13) :
    ∃ k, k < 2 ^ 60 ∧ ((Sre.forSearch code48 text 0 s n false).runFor k).outcome = some .failed := by
  by_cases hj : j = 0
  · subst hj
    refine ⟨1, by decide, ?_⟩
    have e : Sre.forSearch code48 text 0 s n false = { qS text n s 10 s s true [] 0 (some false) (({} : Sre.Seen).add 14) with lastStart := 0 } := by
      show (if (decide (s > n) || decide (n - s < 1)) = true then _ else _) = _
      rw [if_pos (by simp; omega)]
      rfl
    rw [e]; rfl
  have e : Sre.forSearch code48 text 0 s n false = Sre.M.attemptFrom (qS text n s 10 s s true [] 0 none (({} : Sre.Seen).add 14)) s true := by
    show (if (decide (s > n) || decide (n - s < 1)) = true then _ else _) = _
    rw [if_neg (by simp; omega)]
    rfl
  obtain ⟨sn, hs⟩ := adm48_none (text := text) (n := n) (m := qS text n s 10 s s true [] 0 none (({} : Sre.Seen).add 14)) rfl rfl rfl j s (n + 1 - s) (({} : Sre.Seen).add 14) h no
  refine ⟨1, by decide, ?_⟩
  rw [e]
  unfold Sre.M.attemptFrom
  rw [if_neg (by exact Bool.false_ne_true)]
  show (Sre.M.runFor 1 (match Sre.M.admitted (qS text n s 10 s s true [] 0 none (({} : Sre.Seen).add 14)) (n + 1 - s) s (({} : Sre.Seen).add 14) with | .ok (some s, seen) => _ | .ok (none, seen) => _ | .error why => _)).outcome = _
  rw [hs]
  rfl
/-- rows with a text between two -/
def jn (sep : List Nat) : List (List Nat) → List Nat
  | [] => []
  | [r] => r
  | r :: rest => r ++ sep ++ jn sep rest
theorem jn_cons2 (sep r q : List Nat) (rest : List (List Nat)) : jn sep (r :: q :: rest) = r ++ sep ++ jn sep (q :: rest) := rfl
def plainRow (r : List Nat) : Prop := ∃ r', r = 46 :: r' ∧ r' ≠ [] ∧ ∀ c ∈ r, c ≠ 10 ∧ c ≠ 13
def flatS (ys : List Str) : List Nat := ys.flatMap (·.cps.toList)
theorem plain_head {sep q : List Nat} {rest : List (List Nat)} (h : plainRow q) : ∃ t, jn sep (q :: rest) = 46 :: t := by
  obtain ⟨r', rfl, _, _⟩ := h
  cases rest with
  | nil => exact ⟨r', rfl⟩
  | cons a b => exact ⟨r' ++ sep ++ jn sep (a :: b), rfl⟩
theorem flat_piece (pre r post : List Nat) : flatS (if pre.length < pre.length + r.length then [(⟨(pre ++ r ++ post).toArray.extract pre.length (pre.length + r.length)⟩ : Str)] else []) = r := by
  rw [ext_mid]
  split
  · simp [flatS]
  · have : r = [] := List.eq_nil_of_length_eq_zero (by omega)
    subst this; rfl
theorem flatS_append (a b : List Str) : flatS (a ++ b) = flatS a ++ flatS b := by unfold flatS; exact List.flatMap_append
theorem flatS_cons (a : Str) (b : List Str) : flatS (a :: b) = a.cps.toList ++ flatS b := by unfold flatS; exact List.flatMap_cons
theorem sub48 {sep : List Nat} (hsep : sep = [10] ∨ sep = [13] ∨ sep = [13, 10]) : ∀ (rows : List (List Nat)) (pre text : List Nat), text = pre ++ jn sep rows → (∀ r ∈ rows, plainRow r) → text.length < 100000 →
    ∃ ms, Finds code48 text.toArray pre.length ms ∧ flatS (pcs text.toArray #[13, 10] pre.length ms) = jn [13, 10] rows ∧ ms.length ≤ rows.length
  | [], pre, text, ht, hr, hl => by
    have ht' : text = pre := by simpa [jn] using ht
    subst ht'
    refine ⟨[], .nil (search48_none (j := 0) (by simp) (fun i hi => absurd hi (Nat.not_lt_zero _))), ?_, Nat.le_refl _⟩
    unfold pcs; rw [if_neg (by simp)]; rfl
  | [r], pre, text, ht, hr, hl => by
    have ht' : text = pre ++ r := by simpa [jn] using ht
    subst ht'
    obtain ⟨_, _, _, hno⟩ := hr r (.head _)
    refine ⟨[], .nil (search48_none (j := r.length) (by simp) (fun i hi => ?_)), ?_, Nat.zero_le _⟩
    · have := gD_mid pre r [] i hi
      rw [List.append_nil] at this
      rw [gD, this]
      exact hno _ (gD_mem hi)
    · have := flat_piece pre r []
      rw [List.append_nil] at this
      unfold pcs
      rw [List.size_toArray, List.length_append]
      exact this
  | r :: q :: rest, pre, text, ht, hr, hl => by
    obtain ⟨_, _, _, hno⟩ := hr r (.head _)
    rw [jn_cons2] at ht
    obtain ⟨tl, htl⟩ := plain_head (sep := sep) (rest := rest) (hr q (.tail _ (.head _)))
    have ht2 : text = (pre ++ r ++ sep) ++ jn sep (q :: rest) := by rw [ht]; simp
    obtain ⟨ms, hF, hflat, hlen⟩ := sub48 hsep (q :: rest) (pre ++ r ++ sep) text ht2 (fun x hx => hr x (.tail _ hx)) hl
    have hlt : text.length = pre.length + r.length + sep.length + (jn sep (q :: rest)).length := by rw [ht2]; simp; omega
    have hjl : (jn sep (q :: rest)).length = tl.length + 1 := by rw [htl]; rfl
    have ht3 : pre ++ r ++ (sep ++ jn sep (q :: rest)) = text := by rw [ht]; simp
    have hrr : ∀ i, i < r.length → text.toArray.getD (pre.length + i) 0 ≠ 10 ∧ text.toArray.getD (pre.length + i) 0 ≠ 13 := fun i hi => by
      have := gD_mid pre r (sep ++ jn sep (q :: rest)) i hi
      rw [ht3] at this
      rw [gD, this]
      exact hno _ (gD_mem hi)
    have hs : ∀ i, i < sep.length → text.toArray.getD (pre.length + r.length + i) 0 = sep.getD i 0 := fun i hi => by
      have := gD_mid (pre ++ r) sep (jn sep (q :: rest)) i hi
      rw [List.length_append] at this
      rw [gD, ht2]; exact this
    have hb : text.toArray.getD (pre.length + r.length + sep.length) 0 = 46 := by
      have := gD_mid (pre ++ r ++ sep) (jn sep (q :: rest)) [] 0 (by omega)
      rw [List.append_nil, htl] at this
      rw [gD, ht2, htl]
      simpa [Nat.add_assoc] using this
    have hit : Hits code48 text.toArray pre.length (pre.length + r.length) (pre.length + r.length + sep.length) := by
      have hy : text.toArray.getD (pre.length + r.length) 0 = 10 ∨ text.toArray.getD (pre.length + r.length) 0 = 13 := by
        have := hs 0 (by rcases hsep with rfl | rfl | rfl <;> decide)
        rw [Nat.add_zero] at this
        rw [this]
        rcases hsep with rfl | rfl | rfl <;> decide
      obtain ⟨sn, e⟩ := search48 (n := text.toArray.size) (by rw [List.size_toArray]; omega) hrr hy
      have hn : text.toArray.size = text.length := List.size_toArray ..
      rcases hsep with rfl | rfl | rfl
      · simp only [List.length_cons, List.length_nil] at hlt
        obtain ⟨sn', z⟩ := qA_lf (text := text.toArray) (n := text.toArray.size) (s := pre.length + r.length) sn (by omega) (hs 0 (by decide))
        exact ⟨9, qDone text.toArray text.toArray.size (pre.length + r.length) (pre.length + r.length + 1) sn', by decide, by rw [e]; exact z, rfl, rfl, rfl⟩
      · simp only [List.length_cons, List.length_nil] at hlt
        obtain ⟨sn', z⟩ := qA_cr (text := text.toArray) (n := text.toArray.size) (s := pre.length + r.length) sn (by omega) (hs 0 (by decide)) (by
          have : pre.length + r.length + 1 = pre.length + r.length + [13].length := rfl
          rw [this, hb]; decide)
        exact ⟨15, qDone text.toArray text.toArray.size (pre.length + r.length) (pre.length + r.length + 1) sn', by decide, by rw [e]; exact z, rfl, rfl, rfl⟩
      · simp only [List.length_cons, List.length_nil] at hlt
        obtain ⟨sn', z⟩ := qA_crlf (text := text.toArray) (n := text.toArray.size) (s := pre.length + r.length) sn (by omega) (hs 0 (by decide)) (hs 1 (by decide))
        exact ⟨8, qDone text.toArray text.toArray.size (pre.length + r.length) (pre.length + r.length + 2) sn', by decide, by rw [e]; exact z, rfl, rfl, rfl⟩
    have hsl : 0 < sep.length := by rcases hsep with rfl | rfl | rfl <;> decide
    have hle : (pre ++ r ++ sep).length = pre.length + r.length + sep.length := by simp; omega
    rw [hle] at hF hflat
    refine ⟨_ :: ms, .cons hit (by omega) hF, ?_, by simp only [List.length_cons] at hlen ⊢; omega⟩
    have hfp := flat_piece pre r (sep ++ jn sep (q :: rest))
    rw [ht3] at hfp
    show flatS ((if pre.length < pre.length + r.length then [_] else []) ++ _ :: pcs text.toArray #[13, 10] (pre.length + r.length + sep.length) ms) = _
    rw [flatS_append, hfp, flatS_cons, hflat, jn_cons2]
    simp
end

-- R7
section
open Builtin Builtin.Str Builtin.Re
/-! a dot at each line's begin is doubled -/
theorem hit43 {text : Array Nat} {s p : Nat} (hz : text.size < 100000) (hsp : s ≤ p) (hp : p < text.size) (no : ∀ i, s ≤ i → i < p → isBeg text i = false) (yes : isBeg text p = true) (hd : text.getD p 0 = 46) : Hits code43 text s p (p + 1) := by
  have e : Sre.forSearch code43 text 0 s text.size false = dA text text.size s ((({} : Sre.Seen).add 14)) false true := by
    rw [search43, if_neg (by simp; omega)]
  obtain ⟨j, rfl⟩ : ∃ j, p = s + j := ⟨p - s, by omega⟩
  obtain ⟨seen', must', first', h⟩ := dA_search (text := text) (n := text.size) j s ((({} : Sre.Seen).add 14)) false true hp (fun i hi => no _ (by omega) (by omega)) yes hd
  exact ⟨2 * j + 5, dDone text text.size (s + j) seen' must' first', Nat.lt_trans (by omega : 2 * j + 5 < 1000000) (by decide), by rw [e]; exact h, rfl, rfl, rfl⟩
theorem miss43 {text : Array Nat} {s : Nat} (hz : text.size < 100000) (hs : s < text.size) (no : ∀ i, s ≤ i → i ≤ text.size → isBeg text i = false) : Misses code43 text s := by
  have e : Sre.forSearch code43 text 0 s text.size false = dA text text.size s ((({} : Sre.Seen).add 14)) false true := by
    rw [search43, if_neg (by simp; omega)]
  have h := dA_fails (text := text) (n := text.size) (text.size - s) s ((({} : Sre.Seen).add 14)) false true (by omega) (fun i hi => no _ (by omega) (by omega))
  exact ⟨2 * (text.size - s) + 3, Nat.lt_trans (by omega : 2 * (text.size - s) + 3 < 1000000) (by decide), by rw [e]; exact h⟩
theorem beg_no {pre mid post : List Nat} (hm : ∀ c ∈ mid, c ≠ 10) {i : Nat} (h1 : pre.length + 1 ≤ i) (h2 : i ≤ pre.length + mid.length) : isBeg (pre ++ mid ++ post).toArray i = false := by
  obtain ⟨j, rfl⟩ : ∃ j, i = pre.length + j + 1 := ⟨i - pre.length - 1, by omega⟩
  have := gD_mid pre mid post j (by omega)
  unfold isBeg
  rw [show pre.length + j + 1 - 1 = pre.length + j by omega, gD, this]
  have := hm _ (gD_mem (show j < mid.length by omega))
  have e : (mid.getD j 0 == 10) = false := beq_eq_false_iff_ne.mpr this
  rw [e]
  simp
theorem ext_at {text pre r post : List Nat} (h : text = pre ++ r ++ post) {a b : Nat} (ha : a = pre.length) (hb : b = pre.length + r.length) : (text.toArray.extract a b).toList = r := by
  subst h ha hb
  rw [ext_mid]
theorem flat_opt (text : Array Nat) (s p : Nat) : flatS (if s < p then [(⟨text.extract s p⟩ : Str)] else []) = (text.extract s p).toList := by
  split
  · simp [flatS]
  · have : text.extract s p = #[] := by apply Array.eq_empty_of_size_eq_zero; simp; omega
    rw [this]; rfl
theorem sub43 : ∀ (rows : List (List Nat)) (r : List Nat) (pre text : List Nat) (s : Nat), text = pre ++ jn [13, 10] (r :: rows) → (∀ q ∈ r :: rows, plainRow q) → text.length < 100000 →
    s ≤ pre.length → (∀ i, s ≤ i → i < pre.length → isBeg text.toArray i = false) → isBeg text.toArray pre.length = true →
    ∃ ms, Finds code43 text.toArray s ms ∧ flatS (pcs text.toArray #[46, 46] s ms) = (text.toArray.extract s pre.length).toList ++ jn [13, 10] ((r :: rows).map (46 :: ·)) ∧ ms.length ≤ rows.length + 1
  | [], r, pre, text, s, ht, hr, hl, hs, no, yes => by
    obtain ⟨r', rfl, hne, hno⟩ := hr r (.head _)
    have ht' : text = pre ++ 46 :: r' := by simpa [jn] using ht
    have hlen : text.length = pre.length + (r'.length + 1) := by rw [ht']; simp
    have hz : text.toArray.size = text.length := List.size_toArray ..
    have hpos : 0 < r'.length := List.length_pos_iff.mpr hne
    have hit := hit43 (text := text.toArray) (s := s) (p := pre.length) (by omega) hs (by omega) no yes (by rw [gD, ht']; simp [List.getD_eq_getElem?_getD])
    refine ⟨[(pre.length, pre.length + 1)], .cons hit (by omega) (.nil (miss43 (by omega) (by omega) fun i h1 h2 => ?_)), ?_, by simp⟩
    · have := beg_no (pre := pre) (mid := 46 :: r') (post := []) (fun c hc => (hno c hc).1) (i := i) (by omega) (by simp only [List.length_cons]; omega)
      rw [List.append_nil, ← ht'] at this
      exact this
    · show flatS ((if s < pre.length then [_] else []) ++ _ :: (if pre.length + 1 < text.toArray.size then [_] else [])) = _
      rw [flatS_append, flat_opt, flatS_cons, flat_opt]
      congr 1
      have : (text.toArray.extract (pre.length + 1) text.toArray.size).toList = r' := by
        refine ext_at (pre := pre ++ [46]) (post := []) (by rw [ht']; simp) (by simp) (by simp; omega)
      rw [this]; rfl
  | q :: rows, r, pre, text, s, ht, hr, hl, hs, no, yes => by
    obtain ⟨r', rfl, hne, hno⟩ := hr r (.head _)
    have hz : text.toArray.size = text.length := List.size_toArray ..
    rw [jn_cons2] at ht
    have ht2 : text = (pre ++ (46 :: r') ++ [13, 10]) ++ jn [13, 10] (q :: rows) := by rw [ht]; simp
    have hlen : text.length = pre.length + (r'.length + 1) + 2 + (jn [13, 10] (q :: rows)).length := by rw [ht2]; simp; omega
    have hpl : (pre ++ (46 :: r') ++ [13, 10]).length = pre.length + (r'.length + 1) + 2 := by simp; omega
    have hit := hit43 (text := text.toArray) (s := s) (p := pre.length) (by omega) hs (by omega) no yes (by rw [gD, ht]; simp [List.getD_eq_getElem?_getD])
    obtain ⟨ms, hF, hflat, hml⟩ := sub43 rows q (pre ++ (46 :: r') ++ [13, 10]) text (pre.length + 1) ht2 (fun x hx => hr x (.tail _ hx)) hl (by rw [hpl]; omega) (fun i h1 h2 => by
        rw [hpl] at h2
        have := beg_no (pre := pre) (mid := (46 :: r') ++ [13]) (post := 10 :: jn [13, 10] (q :: rows)) (fun c hc => by
          rcases List.mem_append.mp hc with h | h
          · exact (hno c h).1
          · rw [List.mem_singleton.mp h]; decide) (i := i) (by omega) (by simp only [List.length_append, List.length_cons, List.length_nil]; omega)
        have e : pre ++ ((46 :: r') ++ [13]) ++ 10 :: jn [13, 10] (q :: rows) = text := by rw [ht]; simp
        rw [e] at this
        exact this) (by
        rw [hpl]
        have := gD_mid (pre ++ (46 :: r') ++ [13]) [10] (jn [13, 10] (q :: rows)) 0 (by decide)
        have e : pre ++ (46 :: r') ++ [13] ++ [10] ++ jn [13, 10] (q :: rows) = text := by rw [ht]; simp
        rw [e] at this
        unfold isBeg
        rw [gD]
        have hi : pre.length + (r'.length + 1) + 2 - 1 = (pre ++ (46 :: r') ++ [13]).length + 0 := by simp; omega
        rw [hi, this]
        simp)
    refine ⟨(pre.length, pre.length + 1) :: ms, .cons hit (by omega) hF, ?_, by simp only [List.length_cons] at hml ⊢; omega⟩
    show flatS ((if s < pre.length then [_] else []) ++ _ :: pcs text.toArray #[46, 46] (pre.length + 1) ms) = _
    rw [flatS_append, flat_opt, flatS_cons, hflat]
    congr 1
    have : (text.toArray.extract (pre.length + 1) (pre ++ (46 :: r') ++ [13, 10]).length).toList = r' ++ [13, 10] := by
      exact ext_at (pre := pre ++ [46]) (post := jn [13, 10] (q :: rows)) (by rw [ht]; simp) (by simp) (by rw [hpl]; simp; omega)
    rw [this]
    show [46, 46] ++ (r' ++ [13, 10] ++ jn [13, 10] ((q :: rows).map (46 :: ·))) = jn [13, 10] ((46 :: 46 :: r') :: (46 :: q) :: rows.map (46 :: ·))
    rw [jn_cons2, List.map_cons]
    simp
end

-- R8
section
open Builtin Builtin.Str Builtin.Re
theorem raw43 : rawCode #[Value.int 14 0, Value.int 4 0, Value.int 0 0, Value.int 1 0, Value.int 1 0, Value.int 6 0, Value.int 1 0, Value.int 16 0, Value.int 46 0, Value.int 1 0] = code43 := by decide +kernel
theorem raw48 : rawCode #[Value.int 14 0, Value.int 9 0, Value.int 4 0, Value.int 1 0, Value.int 2 0, Value.int 16 0, Value.int 10 0, Value.int 16 0, Value.int 13 0, Value.int 0 0, Value.int 7 0, Value.int 7 0, Value.int 16 0, Value.int 13 0, Value.int 16 0, Value.int 10 0, Value.int 15 0, Value.int 18 0, Value.int 5 0, Value.int 16 0, Value.int 10 0, Value.int 15 0, Value.int 13 0, Value.int 11 0, Value.int 16 0, Value.int 13 0, Value.int 5 0, Value.int 5 0, Value.int 0 0, Value.int 16 0, Value.int 10 0, Value.int 1 0, Value.int 15 0, Value.int 2 0, Value.int 0 0, Value.int 1 0] = code48 := by decide +kernel
theorem join_nil : ∀ ys : List Str, Txt.join ⟨#[]⟩ ys = ⟨(flatS ys).toArray⟩ := by
  have key : ∀ ys : List Str, Str.join ⟨#[]⟩ ys = ⟨(flatS ys).toArray⟩ := by
    intro ys
    induction ys with
    | nil => rfl
    | cons y r ih =>
      cases r with
      | nil => show y = _; rw [flatS_cons]; show y = ⟨(y.cps.toList ++ []).toArray⟩; simp
      | cons z r =>
        show y ++ ⟨#[]⟩ ++ Str.join ⟨#[]⟩ (z :: r) = _
        rw [ih]
        apply Str.ext'
        rw [Str.cps_append, Str.cps_append]
        simp [flatS_cons]
  intro ys
  show glued ⟨#[]⟩ ys = _
  rw [StrLaws.glued_eq_join, key]
theorem sum_flat : ∀ ys : List Str, (ys.map (·.length)).sum = (flatS ys).length
  | [] => rfl
  | y :: r => by rw [List.map_cons, List.sum_cons, flatS_cons, List.length_append, sum_flat r]; simp [Str.length]
theorem miss43_nil : Misses code43 #[] 0 := ⟨4, by decide, fails_eq (code := code43) (text := #[]) (by decide +kernel)⟩
/-- how long rows are, with what stands between two -/
theorem jn_len (sep : List Nat) (hs : sep.length ≤ 2) {B : Nat} : ∀ rows : List (List Nat), (∀ r ∈ rows, r.length ≤ B) → (jn sep rows).length ≤ rows.length * (B + 2)
  | [], _ => Nat.zero_le _
  | [r], h => by have := h r (.head _); simp [jn]; omega
  | r :: q :: rest, h => by
    have h1 := h r (.head _)
    have h2 := jn_len sep hs (q :: rest) (fun x hx => h x (.tail _ hx))
    rw [jn_cons2]
    simp only [List.length_append, List.length_cons, Nat.succ_mul] at h2 ⊢
    omega
end
section
variable {w : World} {A : Around} {E : Value → Shared → Prop} {s : Shared} {h₀ : Heap} {L : Addr} {m : Str → Option Value} {prog : Program} {t tr : Tok}
theorem gm43 {M : Model} {pl : Sem Bool} {Q : Value × List Value → Shared → Prop} (X : (hd.heap_39 w.params).In h₀) (F : Fr h₀ L s.heap m) (h : Q (.builtin "re.Pattern.sub", [.ref 43]) s) : wpAny M A (getMethod (.ref 43) (Str.ofString "sub") pl) Q E s :=
  getMethod_re slot_sub type_sub (X.keeps F.keep _ _ rfl) rfl rfl h
theorem gm48 {M : Model} {pl : Sem Bool} {Q : Value × List Value → Shared → Prop} (X : (hd.heap_39 w.params).In h₀) (F : Fr h₀ L s.heap m) (h : Q (.builtin "re.Pattern.sub", [.ref 48]) s) : wpAny M A (getMethod (.ref 48) (Str.ofString "sub") pl) Q E s :=
  getMethod_re slot_sub type_sub (X.keeps F.keep _ _ rfl) rfl rfl h
theorem cs48 {Q : Value → Shared → Prop} (X : (hd.heap_39 w.params).In h₀) (F : Fr h₀ L s.heap m) {sep : List Nat} (hsep : sep = [10] ∨ sep = [13] ∨ sep = [13, 10]) {rows : List (List Nat)} (hr : ∀ r ∈ rows, plainRow r) (hl : (jn sep rows).length < 1000) (hl2 : (jn [13, 10] rows).length < 1000) (hn : rows.length < 1000)
    (h : ∀ h' t' tk, (∀ b o, s.heap.get? b = some o → h'.get? b = some o) → Q (.str ⟨(jn [13, 10] rows).toArray⟩ t') { s with heap := h', toks := tk }) :
    wpAny (model prog w) A (call (.builtin "re.Pattern.sub") [.ref 48, .str (Str.ofString "\r\n") tr, .str ⟨(jn sep rows).toArray⟩ t]) Q E s := by
  obtain ⟨ms, hF, hfl, hml⟩ := sub48 hsep rows [] (jn sep rows) rfl hr (by omega)
  have e0 : Str.ofString "\r\n" = ⟨#[13, 10]⟩ := by decide +kernel
  rw [e0]
  refine call_sub (ms := ms) (X.keeps F.keep _ _ rfl) rfl rfl (X.keeps F.keep _ _ rfl) rfl ?hx (by show 2 < 10; decide) (by decide +kernel) ?hF (by omega) ?hsum ?_
  · show (jn sep rows).toArray.size < 1000
    rw [List.size_toArray]; exact hl
  · refine (congrArg (fun c => Finds c _ _ _) raw48).mpr ?_
    exact hF
  · rw [sum_flat]
    show (flatS (pcs (jn sep rows).toArray #[13, 10] 0 ms)).length < 100000
    have := hfl
    rw [List.length_nil] at this
    rw [this]; omega
  · intro h' t' tk up
    have := hfl
    rw [List.length_nil] at this
    have q := h h' t' tk up
    rw [← this, ← join_nil] at q
    exact q
theorem cs43 {Q : Value → Shared → Prop} (X : (hd.heap_39 w.params).In h₀) (F : Fr h₀ L s.heap m) {rows : List (List Nat)} (hr : ∀ r ∈ rows, plainRow r) (hl : (jn [13, 10] rows).length < 1000) (hl2 : (jn [13, 10] (rows.map (46 :: ·))).length < 1000) (hn : rows.length < 999)
    (h : ∀ h' t' tk, (∀ b o, s.heap.get? b = some o → h'.get? b = some o) → Q (.str ⟨(jn [13, 10] (rows.map (46 :: ·))).toArray⟩ t') { s with heap := h', toks := tk }) :
    wpAny (model prog w) A (call (.builtin "re.Pattern.sub") [.ref 43, .str (Str.ofString "..") tr, .str ⟨(jn [13, 10] rows).toArray⟩ t]) Q E s := by
  obtain ⟨ms, hF, hfl, hml⟩ : ∃ ms, Finds code43 (jn [13, 10] rows).toArray 0 ms ∧ flatS (pcs (jn [13, 10] rows).toArray #[46, 46] 0 ms) = jn [13, 10] (rows.map (46 :: ·)) ∧ ms.length ≤ rows.length + 1 := by
    cases rows with
    | nil => exact ⟨[], .nil miss43_nil, rfl, Nat.zero_le _⟩
    | cons r rows =>
      obtain ⟨ms, hF, hfl, hml⟩ := sub43 rows r [] (jn [13, 10] (r :: rows)) 0 rfl hr (by omega) (Nat.le_refl _) (fun i h1 h2 => absurd h2 (Nat.not_lt_zero _)) rfl
      exact ⟨ms, hF, by rw [hfl]; simp, by simp only [List.length_cons]; omega⟩
  have e0 : Str.ofString ".." = ⟨#[46, 46]⟩ := by decide +kernel
  rw [e0]
  refine call_sub (ms := ms) (X.keeps F.keep _ _ rfl) rfl rfl (X.keeps F.keep _ _ rfl) rfl ?hx (by show 2 < 10; decide) (by decide +kernel) ?hF (by omega) ?hsum ?_
  · show (jn [13, 10] rows).toArray.size < 1000
    rw [List.size_toArray]; exact hl
  · exact (congrArg (fun c => Finds c _ _ _) raw43).mpr hF
  · rw [sum_flat]
    show (flatS (pcs (jn [13, 10] rows).toArray #[46, 46] 0 ms)).length < 100000
    rw [hfl]; omega
  · intro h' t' tk up
    have q := h h' t' tk up
    rw [← hfl, ← join_nil] at q
    exact q
end
local macro_rules | `(tactic| walk_at "getMethod ref") => `(tactic| (k_here; (first | refine gm43 (by k_asm) (by k_asm) ?_ | refine gm48 (by k_asm) (by k_asm) ?_)))
theorem quote_claim (w : World) (news : List (Addr × Obj)) (sep : List Nat) (hsep : sep = [10] ∨ sep = [13] ∨ sep = [13, 10]) (rows : List (List Nat)) (hr : ∀ r ∈ rows, plainRow r) (hB : ∀ r ∈ rows, r.length ≤ 20) (hn : rows.length ≤ 10) (t : Tok) :
    Claim w 55 [.str ⟨(jn sep rows).toArray⟩ t] [] 2 news (fun r nw => (∃ t', r = .str ⟨(jn [13, 10] (rows.map (46 :: ·))).toArray⟩ t') ∧ nw = news) := by
  have l1 : (jn sep rows).length < 1000 := by
    have := jn_len sep (by rcases hsep with rfl | rfl | rfl <;> decide) rows hB
    have := Nat.mul_le_mul_right 22 hn
    omega
  have l2 : (jn [13, 10] rows).length < 1000 := by
    have := jn_len [13, 10] (by decide) rows hB
    have := Nat.mul_le_mul_right 22 hn
    omega
  have l3 : (jn [13, 10] (rows.map (46 :: ·))).length < 1000 := by
    have := jn_len [13, 10] (by decide) (B := 21) (rows.map (46 :: ·)) (fun r hm => by
      obtain ⟨q, hq, rfl⟩ := List.mem_map.mp hm
      have := hB q hq
      simp only [List.length_cons]; omega)
    have := Nat.mul_le_mul_right 23 hn
    rw [List.length_map] at *
    omega
  w_on
  unfold Claim
  k_fill
  intro loose mean mg mb dp un gd cn cs a ccd cl outer A₀ base h₀ L m s Q E B F X N T hcs hd1 hu1 hret
  refine wpAny_call ?_
  k_dflt cell_enter
  k_steps
  try dsimp only
  refine cs48 (by assumption) (by assumption) hsep hr l1 l2 (by omega) ?_
  intro h1 t1 tk1 up1
  rename Fr _ _ _ _ => F1
  rename News _ _ _ _ => N1
  have F2 := F1.keeps up1
  have N2 := N1.grown up1
  dsimp only at F2 N2 ⊢
  clear up1 F1 N1
  k_steps
  try dsimp only
  refine cs43 (by assumption) (by assumption) hr l2 l3 (by omega) ?_
  intro h1 t1 tk1 up1
  rename Fr _ _ _ _ => F1
  rename News _ _ _ _ => N1
  have F2 := F1.keeps up1
  have N2 := N1.grown up1
  dsimp only at F2 N2 ⊢
  clear up1 F1 N1
  k_steps
  exact hret _ _ _ _ ⟨⟨_, rfl⟩, rfl⟩ (by assumption) (by assumption)

-- K13
local macro_rules | `(tactic| wtm_at "g ca13") => `(tactic| (wtm_at "g ca12"; (fail_if_success (with_reducible show wpAny _ _ (call (Value.builtin "str.split") _ _) _ _ _)); (fail_if_success (with_reducible show wpAny _ _ (call (Value.builtin "str.find") _ _) _ _ _)); (fail_if_success (with_reducible show wpAny _ _ (call (Value.builtin "str.rfind") _ _) _ _ _)); (fail_if_success (with_reducible show wpAny _ _ (call (Value.builtin "len") [Value.ref _] _) _ _ _))))
local macro_rules | `(tactic| k_steps) => `(tactic| repeat' (first | (k_unfold; (try dsimp only)) | ((fail_if_success (with_reducible show Held _)); k_end; wrow_close) | ((first | (wtm_at "is tree"; (first | (wtm_at "is eval"; wtm_at "g ev12") | (wtm_at "is call"; wtm_at "g ca13") | (wtm_at "is exec"; wtm_at "g ex5") | (wtm_at "no eec"; wtm_at "g wp12"))) | (wtm_at "no tree"; wtm_at "g ot5")); wtm_at "walk on") | fail "no step"))
/-! _ellipsis_match: three dots ahead of, between and behind names -/
def dots3 : Str := ⟨#[46, 46, 46]⟩
def wantL (ls : List Nat) : List Nat := 46 :: 46 :: 46 :: ls.flatMap fun c => [c, 46, 46, 46]
def wantS (ls : List Nat) : Str := ⟨(wantL ls).toArray⟩
def wordL (ls : List Nat) : List (List Nat) := [] :: (ls.map fun c => [c]) ++ [[]]
def strS (l : List Nat) : Str := ⟨l.toArray⟩
def low (c : Nat) : Bool := 97 ≤ c && c ≤ 101
theorem low_mem {c : Nat} (h : low c = true) : c ∈ [97, 98, 99, 100, 101] := by
  unfold low at h
  simp only [Bool.and_eq_true, decide_eq_true_eq] at h
  simp only [List.mem_cons, List.not_mem_nil, or_false]
  omega
def wantOk (ls : List Nat) : Bool := (Builtin.Str.occurrences (wantS ls) dots3 0 (wantS ls).length 1).isEmpty == false && Txt.split (wantS ls) dots3 == (wordL ls).map strS
theorem want_ok2 : ∀ a ∈ [97, 98, 99, 100, 101], ∀ b ∈ [97, 98, 99, 100, 101], wantOk [a, b] = true := by decide +kernel
theorem want_ok3 : ∀ a ∈ [97, 98, 99, 100, 101], ∀ b ∈ [97, 98, 99, 100, 101], ∀ c ∈ [97, 98, 99, 100, 101], wantOk [a, b, c] = true := by decide +kernel
section
variable {prog : Program} {w : World} {A : Around} {E : Value → Shared → Prop} {s : Shared} {h₀ : Heap} {L : Addr} {nw : List (Addr × Obj)}
/-- the last item of a list of the ledger's -/
theorem item_last {value slice : Expr} {l : Addr} {vs : List Value} {n : Nat} {u : Tok} {v : Value} {Q : Value → Shared → Prop} (N : News h₀ L s.heap nw) (hm : (l, listOf vs.toArray n) ∈ nw) (hx : vs[vs.length - 1]? = some v) (h : Q v s)
    (hs : subscripted slice false (.ref l) (.int (-1) u) = operate [.ref l, .int (-1) u] (getItem (.ref l) (.int (-1) u)) := by with_unfolding_all rfl) :
    wpAny (model prog w) A (subscriptTail value slice (.ref l) (.int (-1) u)) Q E s :=
  have hl : s.heap.IsList l vs.toArray := ⟨_, (N _ hm).1, rfl, n, rfl⟩
  have hlt : vs.length - 1 < vs.length := by
    rcases Nat.lt_or_ge (vs.length - 1) vs.length with q | q
    · exact q
    · rw [List.getElem?_eq_none q] at hx; cases hx
  tail_any hl.typeIs slot_list_getitem.lookup (wpAny_getItem_list_neg hl (by decide) (by rw [List.size_toArray]; omega) (by decide) (by
    rw [List.size_toArray, show ((-1 : Int) + (vs.length : Int)).toNat = vs.length - 1 by omega]; simpa using hx) h) hs
end
theorem word_first (ls : List Nat) : ((wordL ls).map strS)[0]? = some ⟨#[]⟩ := rfl
theorem word_last (ls : List Nat) : ((wordL ls).map strS)[((wordL ls).map strS).length - 1]? = some ⟨#[]⟩ := by
  rw [← List.getLast?_eq_getElem?]
  unfold wordL
  rw [List.map_append, List.getLast?_append]; rfl
theorem word_len (ls : List Nat) : ((wordL ls).map strS).length = ls.length + 2 := by unfold wordL; simp
theorem word_at {ls : List Nat} {i : Nat} {y : Str} (h : ((wordL ls).map strS)[i]? = some y) : (y = ⟨#[]⟩ ∧ ((wordL ls).drop i).flatten = ((wordL ls).drop (i + 1)).flatten) ∨ ∃ c, y = ⟨#[c]⟩ ∧ ((wordL ls).drop i).flatten = c :: ((wordL ls).drop (i + 1)).flatten := by
  rw [List.getElem?_map] at h
  obtain ⟨q, hq, rfl⟩ := Option.map_eq_some_iff.mp h
  have hlt : i < (wordL ls).length := (List.getElem?_eq_some_iff.mp hq).1
  have hd : (wordL ls).drop i = q :: (wordL ls).drop (i + 1) := by
    rw [List.drop_eq_getElem_cons hlt]; congr 1; exact (List.getElem?_eq_some_iff.mp hq).2
  have hm : q ∈ wordL ls := List.mem_of_getElem? hq
  have hc : q = [] ∨ ∃ c, q = [c] := by
    unfold wordL at hm
    simp only [List.cons_append, List.mem_cons, List.mem_append, List.mem_map, List.not_mem_nil, or_false] at hm
    rcases hm with h | ⟨c, _, rfl⟩ | h
    · exact .inl h
    · exact .inr ⟨c, rfl⟩
    · exact .inl h
  rcases hc with rfl | ⟨c, rfl⟩
  · exact .inl ⟨rfl, by rw [hd]; rfl⟩
  · exact .inr ⟨c, rfl, by rw [hd]; rfl⟩
theorem word_flat (ls : List Nat) : ((wordL ls).drop 0).flatten = ls := by
  unfold wordL
  simp only [List.drop_zero, List.cons_append, List.flatten_cons, List.flatten_append, List.nil_append, List.flatten_nil, List.append_nil]
  induction ls with
  | nil => rfl
  | cons a r ih => rw [List.map_cons, List.flatten_cons, ih]; rfl
theorem ell_claim (w : World) (news : List (Addr × Obj)) (ls g : List Nat) (hok : wantOk ls = true) (hlen : ls.length ≤ 3) (hg : g.length ≤ 10) (t u : Tok) :
    Claim w 62 [.str (wantS ls) t, .str ⟨g.toArray⟩ u] [] 2 news (fun r nw => r = .bool (isub ls g) ∧ nw = news) := by
  unfold wantOk at hok
  simp only [Bool.and_eq_true, beq_iff_eq] at hok
  obtain ⟨hin, hsp⟩ := hok
  have hwl : (wantS ls).length ≤ 20 := by
    unfold wantS wantL Str.length
    have : ∀ l : List Nat, (l.flatMap fun c => [c, 46, 46, 46]).length = 4 * l.length := by
      intro l
      induction l with
      | nil => rfl
      | cons a r ih => rw [List.flatMap_cons, List.length_append, ih]; simp; omega
    rw [List.size_toArray]; simp only [List.length_cons, this]; omega
  w_on
  unfold Claim
  k_fill
  intro loose mean mg mb dp un gd cn cs a ccd cl outer A₀ base h₀ L m s Q E B F X N T hcs hd1 hu1 hret
  refine wpAny_call ?_
  k_dflt cell_enter
  k_steps
  have e3 : Str.ofString "..." = dots3 := by decide +kernel
  rw [e3]
  refine notIn_str ?_
  rw [hin]
  k_steps
  rename Fr _ _ _ _ => F1
  rename News _ _ _ _ => N1
  refine KSpl.split1 F1 N1 (by rw [e3]; decide) ?_ (by rw [sizeLine_eq]; omega)
  intro D l hh tk1 hl hS F2 N2 lo
  clear F1 N1
  rw [e3, hsp] at hl
  rw [hl] at hS
  have hwn := word_len ls
  have hSl := hS.length
  rw [hwn] at hSl
  dsimp only
  k_steps
  rename News _ _ _ _ => N3
  refine len_led (k := ls.length + 2) N3 (by k_mem) (by rw [List.size_toArray]; exact hSl) (by omega) ?_
  intro tl tkl
  dsimp only
  k_steps
  have eg : (⟨g.toArray⟩ : Str).length = g.length := by simp [Str.length]
  refine len_str (by rw [eg]; omega) ?_
  rw [eg]
  dsimp only
  k_steps
  obtain ⟨t0, ht0⟩ := hS.get 0 _ (word_first ls)
  obtain ⟨t1, ht1⟩ := hS.get _ _ (word_last ls)
  rw [hwn] at ht1
  rename News _ _ _ _ => N4
  refine item_led N4 (by k_mem) (by decide) (by decide) ht0 ?_
  try dsimp only
  k_steps
  rename News _ _ _ _ => N5
  refine item_last N5 (by k_mem) (by rw [hSl]; exact ht1) ?_
  try dsimp only
  k_steps
  refine wpAny_For ?_
  k_steps
  rename Fr _ _ _ _ => F6
  rename News _ _ _ _ => N6
  have N6' : News _ _ _ ((D, listOf (strValues l).toArray 0) :: news) := fun p hp => N6 p (.tail _ hp)
  refine iter_list (J := fun i m' nw => nw = (D, listOf (strValues l).toArray 0) :: news ∧ m' (Str.ofString "got") = some (.str ⟨g.toArray⟩ u) ∧ (∃ t, m' (Str.ofString "endpos") = some (.int (g.length : Int) t)) ∧
    ∃ (p : Nat) (z : Int) (t : Tok), m' (Str.ofString "startpos") = some (.int z t) ∧ z = (p : Int) ∧ p ≤ g.length ∧ isub ls g = isub ((wordL ls).drop i).flatten (g.drop p)) (items := strValues l) (lo := listOf (strValues l).toArray 0) (k := 0) rfl F6 N6' rfl rfl ?_ ?_ ?_ ?_
  · exact ⟨rfl, rfl, ⟨_, rfl⟩, 0, _, _, rfl, rfl, Nat.zero_le _, by rw [word_flat]; rfl⟩
  · rintro i m' nw ⟨rfl, _⟩
    exact .head _
  · rintro i v m' nw I oI g1 h1 tk2 E' hv ⟨rfl, hm1, ⟨te, hm2⟩, pp, _, tp, hm3, rfl, hp, hJ⟩ off F7 N7
    obtain ⟨y, ty, rfl, hy⟩ := hS.item i v hv
    rw [map_know hm1, map_know hm2, map_know hm3] at F7
    refine abs_turn fun TP hTP => ?_
    refine wpAny_assign_Name ?_
    k_steps
    refine call_find4 ?_
    have offs : ∀ p ∈ (D, listOf (strValues l).toArray 0) :: news, p.1 ≠ I := off
    rcases word_at hy with ⟨rfl, hfl⟩ | ⟨c, rfl, hfl⟩
    · have hf := find4_nil ⟨g.toArray⟩ (p := pp) (by rw [eg]; exact hp)
      rw [eg] at hf
      rw [hf]
      dsimp only
      k_steps
      refine len_str (by decide) ?_
      rw [show (⟨#[]⟩ : Str).length = 0 from rfl]
      dsimp only
      k_steps
      rename Fr _ _ _ _ => F8
      rename News _ _ _ _ => N8
      refine hTP (f := .next) (Tn.intro ((D, listOf (strValues l).toArray 0) :: news) F8 N8 (fun p hp => hp) off ⟨rfl, rfl, ⟨_, rfl⟩, pp, _, _, rfl, by omega, hp, by rw [hJ, hfl]⟩)
    · rcases find4_one g c hp with ⟨hf, hn⟩ | ⟨k, hf, hk, hkc, hn⟩
      · rw [hf]
        dsimp only
        k_steps
        refine hTP (f := .ret _) ?_
        dsimp only [TurnP]
        k_steps
        refine hret _ _ _ _ ⟨by rw [hJ, hfl, isub_drop_none hn], rfl⟩ (by assumption) (fun p hp => ?_)
        rename News _ _ _ _ => N8
        exact N8 p (.tail _ (.tail _ hp))
      · have hkl : k < g.length := (List.getElem?_eq_some_iff.mp hkc).1
        rw [hf]
        dsimp only
        k_steps
        rename Fr _ _ _ _ => F8
        rename News _ _ _ _ => N8
        refine hTP (f := .next) (Tn.intro ((D, listOf (strValues l).toArray 0) :: news) F8 N8 (fun p hp => hp) off ⟨rfl, rfl, ⟨_, rfl⟩, k + 1, _, _, rfl, by omega, hkl, by rw [hJ, hfl, isub_drop_at hk hkc hn]⟩)
  · rintro m' nw h1 tk2 ⟨rfl, hm1, ⟨te, hm2⟩, pp, _, tp, hm3, rfl, hp, hJ⟩ F7 N7
    rw [map_know hm1, map_know hm2, map_know hm3] at F7
    k_steps
    rw [List.drop_of_length_le (by rw [← hwn, List.length_map] at hSl; omega)] at hJ
    refine hret _ _ _ _ ⟨by rw [hJ]; exact congrArg _ (isub_nil _).symm, rfl⟩ (by assumption) (fun p hp => ?_)
    rename News _ _ _ _ => N8
    exact N8 p (.tail _ hp)

-- K14
/-! a row: dots, a name, what stands behind -/
def rowD (d c : Nat) : List Nat := List.replicate d 46 ++ [c, 58, 32, 46, 120]
def rowS (d c : Nat) : Str := strS (rowD d c)
def rowOk (d c : Nat) : Bool :=
  Txt.find (rowS d c) ⟨#[10]⟩ == -1 && find4 (rowS d c) ⟨#[58]⟩ 0 (rowS d c).length == (d : Int) + 1 && rfind4 (rowS d c) ⟨#[46]⟩ 0 ((d : Int) + 1) == (d : Int) - 1 &&
  Txt.slice (rowS d c) (some ((d : Int) - 1 + 1)) (some ((d : Int) + 1)) == ⟨#[c]⟩ && Txt.find (rowS d c) ⟨#[58, 32, 46, 120]⟩ == (d : Int) + 1
theorem row_all : ∀ d ∈ [1, 2, 3, 4, 5], ∀ c ∈ [97, 98, 99, 100, 101], rowOk d c = true := by decide +kernel
theorem row_ok {d c : Nat} (h1 : 1 ≤ d) (h5 : d ≤ 5) (hc : low c = true) : rowOk d c = true := row_all d (by simp only [List.mem_cons, List.not_mem_nil, or_false]; omega) c (low_mem hc)
theorem rowS_len (d c : Nat) : (rowS d c).length = d + 5 := by unfold rowS strS rowD Str.length; simp
theorem strip_claim (w : World) (news : List (Addr × Obj)) (d c : Nat) (h1 : 1 ≤ d) (h5 : d ≤ 5) (hc : low c = true) (t : Tok) :
    Claim w 69 [.str (rowS d c) t] [] 2 news (fun r nw => (∃ t', r = .str ⟨#[c]⟩ t') ∧ nw = news) := by
  have hok := row_ok h1 h5 hc
  have hln := rowS_len d c
  unfold rowOk at hok
  simp only [Bool.and_eq_true, beq_iff_eq] at hok
  obtain ⟨⟨⟨⟨k1, k2⟩, k3⟩, k4⟩, _⟩ := hok
  w_on
  unfold Claim
  k_fill
  intro loose mean mg mb dp un gd cn cs a ccd cl outer A₀ base h₀ L m s Q E B F X N T hcs hd1 hu1 hret
  refine wpAny_call ?_
  k_dflt cell_enter
  k_steps
  refine SC.find ?_
  rw [show Str.ofString "\n" = ⟨#[10]⟩ from by decide +kernel, k1]
  try dsimp only
  k_steps
  rename _ ∧ _ ∨ _ ∧ _ => hr1
  obtain ⟨q, _⟩ | ⟨_, hr2⟩ := hr1
  · exact absurd q (by decide)
  subst hr2
  refine call_find4 ?_
  rw [show Str.ofString ":" = ⟨#[58]⟩ from by decide +kernel, k2]
  try dsimp only
  k_steps
  refine call_rfind4 ?_
  rw [show Str.ofString "." = ⟨#[46]⟩ from by decide +kernel, k3]
  try dsimp only
  k_steps
  rename News _ _ _ _ => N8
  exact hret _ _ _ _ ⟨⟨_, by rw [k4]⟩, rfl⟩ (by assumption) (fun p hp => N8 p (.tail _ hp))

-- L4
section
open LCg LCt LCp
variable {prog : Program} {w : World} {A : Around} {E : Value → Shared → Prop} {s : Shared} {h₀ : Heap} {L : Addr} {m : Str → Option Value} {env : Env}
/-- [elt for a, b in a list of the ledger's], the ledger kept -/
theorem compP_list {elt : Expr} {x x₂ : Str} {scope : Scope} {cl : List (Str × Addr)} {Fin : Shared → List Value → List (Addr × Obj) → Prop} {ax : Addr} {its : Array Value} {k : Nat} {NW : List (Addr × Obj)} {s₁ : Shared} (J : Nat → List Value → Prop)
    (hh : A.handled = none) (F : Fr h₀ L s₁.heap m) (N : News h₀ L s₁.heap NW) (hm : (ax, listOf its k) ∈ NW) (hsz : its.size ≤ sizeLine) (h0 : J 0 [])
    (turn : ∀ i ys v, its[i]? = some v → J i ys → ∃ (t : Addr) (ot : Obj) (v₁ v₂ : Value) (nt : Nat), v = .ref t ∧ (t, ot) ∈ NW ∧ ot.cls = .type "tuple" ∧ ot.data = .seq #[v₁, v₂] nt ∧
      ∀ I oI C oC D m₂ g h tk (E' : Value → Shared → Prop), NsObj oC m₂ → m₂ x = some v₁ → m₂ x₂ = some v₂ → Fr h₀ L h m → News h₀ L h ((I, oI) :: (C, oC) :: (D, lst ys) :: NW) → Off3 I C D NW → ((@Ne Nat I C) ∧ (@Ne Nat I D) ∧ (@Ne Nat C D)) →
      wpAny (model prog w) A (eval elt (compEnvC scope cl C env)) (CE h₀ L m { s₁ with heap := g } ((I, oI) :: (C, oC) :: (D, lst ys) :: NW) (fun y => J (i + 1) (ys ++ [y]))) E' { s₁ with heap := h, toks := tk })
    (fin : ∀ ys g, J its.size ys → Fin { s₁ with heap := g } ys NW) : SrcLP prog w A h₀ L m env elt x x₂ scope cl Fin (.ref ax) s₁ := by
  refine SrcLP.ledger hh F N hm hsz fun g => restP (n := its.size) (fun i ys nw => nw = NW ∧ J i ys) ?_ ?_ its.size 0 [] NW (by omega) ⟨rfl, h0⟩
  · rintro i ys nw v _ ⟨rfl, hJ⟩ hP
    obtain ⟨t, ot, v₁, v₂, nt, e1, e2, e3, e4, r⟩ := turn i ys v hP hJ
    refine ⟨t, ot, v₁, v₂, nt, e1, e2, e3, e4, ?_⟩
    intro I oI C oC D m₂ h tk E' hn hx hx₂ F' N' off ne
    exact wpAny_mono (r I oI C oC D m₂ h h tk E' hn hx hx₂ F' N' off ne) (fun y s' q => by
      obtain ⟨h', tk', e, F₂, N₂, q⟩ := q
      exact ⟨h', tk', nw, e, F₂, N₂, off, .inr ⟨_, hm, rfl, _, rfl⟩, rfl, q⟩) fun _ _ q => q
  · rintro ys nw ⟨rfl, hJ⟩
    exact fin ys g hJ
/-- [elt for x in range(a, b)], the ledger kept -/
theorem compU_range {elt : Expr} {x : Str} {scope : Scope} {cl : List (Str × Addr)} {Fin : Shared → List Value → List (Addr × Obj) → Prop} {r : Addr} {a b : Int} {t u v : Tok} {n : Nat} {NW : List (Addr × Obj)} {s₁ : Shared} (J : Nat → List Value → Prop)
    (hh : A.handled = none) (F : Fr h₀ L s₁.heap m) (N : News h₀ L s₁.heap NW) (hr : IsRange s₁.heap r a b 1 t u v) (hsm : Builtin.Range.small a b 1 = true) (hn : Builtin.Range.rangeSize a b 1 = ((n : Nat) : Int)) (hsz : n ≤ sizeLine) (h0 : J 0 [])
    (turn : ∀ i ys tv I oI C oC D m₂ g h tk (E' : Value → Shared → Prop), i < n → J i ys → NsObj oC m₂ → m₂ x = some (.int (a + (i : Int)) tv) → Fr h₀ L h m → News h₀ L h ((I, oI) :: (C, oC) :: (D, lst ys) :: NW) → Off3 I C D NW → ((@Ne Nat I C) ∧ (@Ne Nat I D) ∧ (@Ne Nat C D)) →
      wpAny (model prog w) A (eval elt (compEnvC scope cl C env)) (CE h₀ L m { s₁ with heap := g } ((I, oI) :: (C, oC) :: (D, lst ys) :: NW) (fun y => J (i + 1) (ys ++ [y]))) E' { s₁ with heap := h, toks := tk })
    (fin : ∀ ys g, J n ys → Fin { s₁ with heap := g } ys NW) : CompSrc prog w A h₀ L m env elt x scope cl Fin (.ref r) s₁ := by
  refine CompSrc.range hh F N hr hsm hn hsz fun g => restU (n := n) (fun i ys nw => nw = NW ∧ J i ys) ?_ ?_ n 0 [] NW (by omega) ⟨rfl, h0⟩
  · rintro i ys nw v I oI C oC D m₂ h tk E' hi ⟨rfl, hJ⟩ ⟨tv, rfl⟩ hn hx F' N' off ne
    exact wpAny_mono (turn i ys tv I oI C oC D m₂ h h tk E' hi hJ hn hx F' N' off ne) (fun y s' q => by
      obtain ⟨h', tk', e, F₂, N₂, q⟩ := q
      exact ⟨h', tk', nw, e, F₂, N₂, off, trivial, rfl, q⟩) fun _ _ q => q
  · rintro ys nw ⟨rfl, hJ⟩
    exact fin ys g hJ
/-- [elt for x in range(a, b) if ct], the ledger kept -/
theorem compT_range {ct elt : Expr} {x : Str} {scope : Scope} {cl : List (Str × Addr)} {Fin : Shared → List Value → List (Addr × Obj) → Prop} {r : Addr} {a b : Int} {t u v : Tok} {n : Nat} {NW : List (Addr × Obj)} {s₁ : Shared} (J : Nat → List Value → Prop)
    (hh : A.handled = none) (F : Fr h₀ L s₁.heap m) (N : News h₀ L s₁.heap NW) (hr : IsRange s₁.heap r a b 1 t u v) (hsm : Builtin.Range.small a b 1 = true) (hn : Builtin.Range.rangeSize a b 1 = ((n : Nat) : Int)) (hsz : n ≤ sizeLine) (h0 : J 0 [])
    (turn : ∀ i ys tv I oI C oC D m₂ g h tk (E' : Value → Shared → Prop), i < n → J i ys → NsObj oC m₂ → m₂ x = some (.int (a + (i : Int)) tv) → Fr h₀ L h m → News h₀ L h ((I, oI) :: (C, oC) :: (D, lst ys) :: NW) → Off3 I C D NW → ((@Ne Nat I C) ∧ (@Ne Nat I D) ∧ (@Ne Nat C D)) →
      wpAny (model prog w) A (isTrue ct (compEnvC scope cl C env) (eval ct (compEnvC scope cl C env))) (fun ok s' => if ok = true then
        wpAny (model prog w) A (eval elt (compEnvC scope cl C env)) (CE h₀ L m { s₁ with heap := g } ((I, oI) :: (C, oC) :: (D, lst ys) :: NW) (fun y => J (i + 1) (ys ++ [y]))) E' s'
        else CE h₀ L m { s₁ with heap := g } ((I, oI) :: (C, oC) :: (D, lst ys) :: NW) (fun _ => J (i + 1) ys) Value.none s') E' { s₁ with heap := h, toks := tk })
    (fin : ∀ ys g, J n ys → Fin { s₁ with heap := g } ys NW) : CompSrcT prog w A h₀ L m env ct elt x scope cl Fin (.ref r) s₁ := by
  refine CompSrcT.range hh F N hr hsm hn hsz fun g => restT (n := n) (fun i ys nw => nw = NW ∧ J i ys) ?_ ?_ n 0 [] NW (by omega) ⟨rfl, h0⟩
  · rintro i ys nw v I oI C oC D m₂ h tk E' hi ⟨rfl, hJ⟩ ⟨tv, rfl⟩ hn hx F' N' off ne
    refine wpAny_mono (turn i ys tv I oI C oC D m₂ h h tk E' hi hJ hn hx F' N' off ne) (fun ok s' q => ?_) fun _ _ q => q
    cases ok with
    | true =>
      rw [if_pos rfl] at q ⊢
      refine wpAny_mono q (fun y s'' q => ?_) fun _ _ q => q
      obtain ⟨h', tk', e, F₂, N₂, q⟩ := q
      exact ⟨h', tk', nw, e, F₂, N₂, off, trivial, rfl, q⟩
    | false =>
      rw [if_neg (by decide)] at q ⊢
      obtain ⟨h', tk', e, F₂, N₂, q⟩ := q
      exact ⟨h', tk', nw, e, F₂, N₂, off, trivial, rfl, q⟩
  · rintro ys nw ⟨rfl, hJ⟩
    exact fin ys g hJ
/-- [elt for x in a text of small signs], the ledger kept -/
theorem comp_str {elt iter : Expr} {x : Str} {px : Pos} {scope : Scope} {cl : List (Str × Addr)} {pos : Pos} {Q : Value → Shared → Prop} (F₀ : Fr h₀ L s.heap m)
    (hclos : closureFor scope env = pure cl) (hcell : ∀ y ∈ scope.names, y.2 ≠ .cell) (hkind : scope.kind = .function)
    (hnames : ∀ y ∈ scope.names, y.2 = .local → scope.names.lookup y.1 = some .local) (hx : scope.names.lookup x = some .local)
    (h : wpAny (model prog w) A (eval iter env) (fun xv s₁ => Held (∃ (g : List Nat) (t : Tok) (NW : List (Addr × Obj)) (J : Nat → List Value → Prop), xv = .str ⟨g.toArray⟩ t ∧ A.handled = none ∧ Fr h₀ L s₁.heap m ∧ News h₀ L s₁.heap NW ∧ g.length ≤ 1000 ∧ (∀ c ∈ g, c < 128) ∧ J 0 [] ∧
      (∀ i ys c tc I oI C oC D m₂ g' h tk (E' : Value → Shared → Prop), g[i]? = some c → J i ys → NsObj oC m₂ → m₂ x = some (.str ⟨#[c]⟩ tc) → Fr h₀ L h m → News h₀ L h ((I, oI) :: (C, oC) :: (D, lst ys) :: NW) → Off3 I C D NW → ((@Ne Nat I C) ∧ (@Ne Nat I D) ∧ (@Ne Nat C D)) →
        wpAny (model prog w) A (eval elt (compEnvC scope cl C env)) (CE h₀ L m { s₁ with heap := g' } ((I, oI) :: (C, oC) :: (D, lst ys) :: NW) (fun y => J (i + 1) (ys ++ [y]))) E' { s₁ with heap := h, toks := tk }) ∧
      ∀ ys g', J g.length ys → FinE h₀ L m { s₁ with heap := g' } Q ys NW)) E s)
    (hs : ∀ x, foldedSetIterable iter env x = pure x := by intro _; rfl) :
    wpAny (model prog w) A (eval (.ListComp elt [⟨.Name x px, iter, [], 0⟩] scope pos) env) Q E s := by
  rw [eval_ListComp]
  refine wpAny_comprehension_free (use := none) rfl hs hclos hkind hnames (wpAny_mono h (fun xv s₁ h₁ => ?_) fun _ _ e => e)
  obtain ⟨g, t, NW, J, rfl, hh, F, N, hgl, hg, h0, turn, fin⟩ := h₁
  have ha : (⟨g.toArray⟩ : Str).cps.all (· < 128) = true := by
    rw [Array.all_eq_true]
    intro i hi
    simp only [List.getElem_toArray, decide_eq_true_eq]
    exact hg _ (List.getElem_mem _)
  refine wpAny_pyIter_ascii ha ?_
  have up : ∀ b o, s₁.heap.get? b = some o → (s₁.heap.push { cls := .type "str_ascii_iterator", data := .fields #[.str ⟨g.toArray⟩ t, .int 0 0] }).get? b = some o := fun b o e => Heap.get?_push_of_some _ e
  have hgs : (⟨g.toArray⟩ : Str).cps.size = g.length := by simp
  refine block_U (S := fun _ => True) (Walks.strAscii hh s₁.heap.objs.size ⟨g.toArray⟩ t) (by rw [hgs, sizeLine_eq]; omega) (fun i h st => let ⟨o, e, _⟩ := st; ⟨o, e⟩) (fun i h h' o nw st e e' _ _ _ => by
      obtain ⟨o', q, r⟩ := st; rw [e] at q; cases q; exact ⟨o, e', r⟩) hcell hkind hx ⟨_, Heap.get?_push_size _ rfl, rfl, rfl⟩ (fun b hb => ?_)
    (F.keeps up) (N.grown up) (Nat.ne_of_lt F.ns.lt) (next_is_new F) (fun p hp => Nat.ne_of_lt (Heap.lt_size (N p hp).1)) trivial
    (restU (n := (⟨g.toArray⟩ : Str).cps.size) (Fin := FinE h₀ L m { s₁ with heap := s₁.heap.push { cls := .type "str_ascii_iterator", data := .fields #[.str ⟨g.toArray⟩ t, .int 0 0] } } Q) (fun i ys nw => nw = NW ∧ J i ys) ?_ ?_ _ 0 [] NW (by omega) ⟨rfl, h0⟩) ?_
  · rw [List.mem_singleton.mp hb]
    show s₁.heap.objs.size < (s₁.heap.push _).objs.size
    rw [Heap.size_push]; exact Nat.lt_succ_self _
  · rintro i ys nw v I oI C oC D m₂ h tk E' hi ⟨rfl, hJ⟩ ⟨c, u, hc, rfl⟩ hn hx F' N' off ne
    exact wpAny_mono (turn i ys c u I oI C oC D m₂ h h tk E' (by simpa using hc) hJ hn hx F' N' off ne) (fun y s' q => by
      obtain ⟨h', tk', e, F₂, N₂, q⟩ := q
      exact ⟨h', tk', nw, e, F₂, N₂, off, trivial, rfl, q⟩) fun _ _ q => q
  · rintro ys nw ⟨rfl, hJ⟩
    rw [hgs] at hJ
    exact fin ys _ hJ
  · intro D C h tk m' ys news' F' N' o1 hn hC₀ hD₀ hCL hDL hCD offC fin
    refine ⟨m', hn, fun h'' hs'' => fin D h'' tk (F'.change hs'' hCL hC₀) (fun p hp => ?_) o1⟩
    refine ⟨hs''.extBut _ _ ?_ (N' p hp).1, (N' p hp).2⟩
    rcases List.mem_cons.mp hp with rfl | hp
    · exact Ne.symm hCD
    · exact offC p hp
end

-- L5
section
open LCg LCt LCp
variable {prog : Program} {w : World} {A : Around} {E : Value → Shared → Prop} {s : Shared} {h₀ : Heap} {L : Addr} {m : Str → Option Value} {env : Env}
/-- y = [elt for x in a dict of texts if ct], the ledger kept -/
theorem assign_compT_dict {ct elt iter : Expr} {x y : Str} {px py : Pos} {scope : Scope} {cl : List (Str × Addr)} {pos spos : Pos} {Q : Flow → Shared → Prop} (F₀ : Fr h₀ L s.heap m) (hLe : env.locals = L)
    (hsw : swapsWith (.ListComp elt [⟨.Name x px, iter, [ct], 0⟩] scope pos) (some (.Name y py)) spos.line env = pure true)
    (hclos : closureFor scope env = pure cl) (hcell : ∀ z ∈ scope.names, z.2 ≠ .cell) (hkind : scope.kind = .function)
    (hnames : ∀ z ∈ scope.names, z.2 = .local → scope.names.lookup z.1 = some .local) (hx : scope.names.lookup x = some .local)
    (hy : env.kindOf y = some .local) (hp : (env.scope.kind == .class || (env.scope.kind == .module && env.locals != env.globals)) = false)
    (h : wpAny (model prog w) A (eval iter env) (fun xv s₁ => Held (∃ (d : Addr) (od : Obj) (kvs : List (Str × Value)) (NW : List (Addr × Obj)) (J : Nat → List Value → Prop), xv = .ref d ∧ A.handled = none ∧ Fr h₀ L s₁.heap m ∧ News h₀ L s₁.heap NW ∧ (d, od) ∈ NW ∧ (d == sysModules) = false ∧
      od.IsDictOf (PySem.strKind prog w) kvs ∧ kvs.length ≤ 1000 ∧ J 0 [] ∧
      (∀ i ys k v tk' I oI C oC D m₂ g' h tk (E' : Value → Shared → Prop), kvs[i]? = some (k, v) → J i ys → NsObj oC m₂ → m₂ x = some (.str k tk') → Fr h₀ L h m → News h₀ L h ((I, oI) :: (C, oC) :: (D, lst ys) :: NW) → Off3 I C D NW → ((@Ne Nat I C) ∧ (@Ne Nat I D) ∧ (@Ne Nat C D)) →
        wpAny (model prog w) A (isTrue ct (compEnvC scope cl C env) (eval ct (compEnvC scope cl C env))) (fun ok s' => if ok = true then
          wpAny (model prog w) A (eval elt (compEnvC scope cl C env)) (CE h₀ L m { s₁ with heap := g' } ((I, oI) :: (C, oC) :: (D, lst ys) :: NW) (fun y => J (i + 1) (ys ++ [y]))) E' s'
          else CE h₀ L m { s₁ with heap := g' } ((I, oI) :: (C, oC) :: (D, lst ys) :: NW) (fun _ => J (i + 1) ys) Value.none s') E' { s₁ with heap := h, toks := tk }) ∧
      ∀ ys g', J kvs.length ys → FinA h₀ L m { s₁ with heap := g' } y Q ys NW)) E s)
    (hs : ∀ x, foldedSetIterable iter env x = pure x := by intro _; rfl) :
    wpAny (model prog w) A (exec (.Assign [.Name y py] (.ListComp elt [⟨.Name x px, iter, [ct], 0⟩] scope pos) spos) env) Q E s := by
  subst hLe
  rw [exec_Assign_Name_used _ _ _ _ hsw]
  refine wpAny_bind (wpAny_standAt (wpAny_bind ?_))
  show wpAny _ A (do let _ ← comprehension (.ListComp elt [⟨.Name x px, iter, [ct], 0⟩] scope pos) scope env _ (newList []) false (eval iter env) (some (assign (.Name y py) env))) _ _ s
  refine wpAny_bind (wpAny_mono (wpAny_comprehension_free (use := some (assign (.Name y py) env)) (Q := fun _ s' => Q .next s') rfl hs hclos hkind hnames
    (wpAny_mono h (fun xv s₁ h₁ => ?_) fun _ _ e => e)) (fun _ s' hq => wpAny_pure (wpAny_pure hq)) fun _ _ e => e)
  obtain ⟨d, od, kvs, NW, J, rfl, hh, F, N, hm, hsys, hD, hlen, h0, turn, fin⟩ := h₁
  obtain ⟨es, ep, hex, hdat, hko, hpr, hnd⟩ := hD
  have mk : ∀ {h : Heap}, h.get? d = some od → h.DictAt (PySem.strKind prog w) d kvs ep := fun e => ⟨od, es, e, hex, hdat, hko, hpr, hnd⟩
  have hd₁ := (N _ hm).1
  have hlt : d < s₁.heap.objs.size := Heap.lt_size hd₁
  refine wpAny_pyIter_dict hsys (mk hd₁) ?_
  have up : ∀ b o, s₁.heap.get? b = some o → (s₁.heap.push { cls := .type "dict_keyiterator", data := .fields #[.ref d, .int 0 0, .int kvs.length 0, .int ep 0] }).get? b = some o := fun b o e => Heap.get?_push_of_some _ e
  refine block_T (S := fun nw => (d, od) ∈ nw) (Walks.dictKeys (knd := PySem.strKind prog w) hh s₁.heap.objs.size d (Nat.ne_of_lt hlt) kvs ep) (by rw [sizeLine_eq]; omega) (fun i h st => let ⟨o, e, _⟩ := st.1; ⟨o, e⟩) (fun i h h' o nw st e e' _ N' hS => ⟨by
      obtain ⟨o', q, r⟩ := st.1; rw [e] at q; cases q; exact ⟨o, e', r⟩, mk (N' _ hS).1⟩) hcell hkind hx ⟨⟨_, Heap.get?_push_size _ rfl, rfl, rfl⟩, mk (up _ _ hd₁)⟩ (fun b hb => ?_)
    (F.keeps up) (N.grown up) (Nat.ne_of_lt F.ns.lt) (next_is_new F) (fun p hp => Nat.ne_of_lt (Heap.lt_size (N p hp).1)) hm
    (restT (n := kvs.length) (Fin := FinA h₀ env.locals m { s₁ with heap := s₁.heap.push { cls := .type "dict_keyiterator", data := .fields #[.ref d, .int 0 0, .int kvs.length 0, .int ep 0] } } y Q) (fun i ys nw => nw = NW ∧ J i ys) ?_ ?_ _ 0 [] NW (by omega) ⟨rfl, h0⟩) ?_
  · show b < (s₁.heap.push _).objs.size
    rw [Heap.size_push]
    rcases List.mem_cons.mp hb with rfl | hb
    · exact Nat.lt_succ_self _
    · rw [List.mem_singleton.mp hb]; exact Nat.lt_succ_of_lt hlt
  · rintro i ys nw v I oI C oC D m₂ h tk E' _ ⟨rfl, hJ⟩ ⟨k, xv, hk, hkey⟩ hn hx F' N' off ne
    obtain ⟨tk', rfl⟩ := Value.isStrOf_shape hkey
    refine wpAny_mono (turn i ys k xv tk' I oI C oC D m₂ h h tk E' hk hJ hn hx F' N' off ne) (fun ok s' q => ?_) fun _ _ q => q
    cases ok with
    | true =>
      rw [if_pos rfl] at q ⊢
      refine wpAny_mono q (fun y s'' q => ?_) fun _ _ q => q
      obtain ⟨h', tk', e, F₂, N₂, q⟩ := q
      exact ⟨h', tk', nw, e, F₂, N₂, off, hm, rfl, q⟩
    | false =>
      rw [if_neg (by decide)] at q ⊢
      obtain ⟨h', tk', e, F₂, N₂, q⟩ := q
      exact ⟨h', tk', nw, e, F₂, N₂, off, hm, rfl, q⟩
  · rintro ys nw ⟨rfl, hJ⟩
    exact fin ys _ hJ
  · intro D C h' tk m' ys news' F' N' o1 hn hC₀ hD₀ hCL hDL hCD offC fin
    show wpAny _ A (assign (.Name y py) env (.ref D)) _ _ _
    refine wpAny_assign_Name (wpAny_storeName_local hy F'.ns (fun h₂ hn₂ hs₂ => ?_) hp)
    have hL₀ : h₀.get? env.locals = none := Heap.get?_none_of_le F'.above
    have F₂ : Fr h₀ env.locals h₂ (fun z => if z = y then some (.ref D) else m z) := ⟨hn₂, fun b o e => hs₂.extBut b o (fun q => by rw [q, hL₀] at e; cases e) (F'.keep b o e), F'.above⟩
    refine ⟨m', hn.sameBut hs₂ hCL, fun h'' hs'' => fin D h'' _ (F₂.change hs'' hCL hC₀) (fun p hp => ?_) o1⟩
    have z : h₂.get? p.1 = some p.2 := hs₂.extBut _ _ (N' p hp).2.1 (N' p hp).1
    refine ⟨hs''.extBut _ _ ?_ z, (N' p hp).2⟩
    rcases List.mem_cons.mp hp with rfl | hp
    · exact Ne.symm hCD
    · exact offC p hp
/-- for x in a text of small signs -/
theorem iter_str {x : Str} {px : Pos} {body : List Stmt} {Q : Flow → Shared → Prop} {EE E : Value → Shared → Prop} {g : List Nat} {t : Tok} (J : Nat → (Str → Option Value) → List (Addr × Obj) → Prop)
    {m₀ : Str → Option Value} {nw₀ : List (Addr × Obj)} (hh : A.handled = none) (F : Fr h₀ L s.heap m₀) (N : News h₀ L s.heap nw₀) (hg : ∀ c ∈ g, c < 128)
    (hJ : J 0 m₀ nw₀)
    (turn : ∀ i c tc m' nw I oI g' h tk (E' : Value → Shared → Prop), g[i]? = some c → J i m' nw → (∀ p ∈ nw, p.1 ≠ I) → Fr h₀ L h m' → News h₀ L h ((I, oI) :: nw) →
      wpAny (model prog w) A (assign (.Name x px) env (.str ⟨#[c]⟩ tc)) (fun _ s₂ => wpAny (model prog w) A (execs body env) (TurnP h₀ L I oI { s with heap := g' } (J (i + 1)) Q) E' s₂) E' { s with heap := h, toks := tk })
    (done : ∀ m' nw h tk, J g.length m' nw → Fr h₀ L h m' → News h₀ L h nw → Q .next { s with heap := h, toks := tk }) :
    wpAny (model prog w) A (pyIter (.str ⟨g.toArray⟩ t)) (fun it s₂ => codeAny (model prog w) A (.forLoop (.Name x px) it body [] env) (fun r s' => match r with | .ok f => Q f s' | .error e => EE e s') s₂) E s := by
  have ha : (⟨g.toArray⟩ : Str).cps.all (· < 128) = true := by
    rw [Array.all_eq_true]
    intro i hi
    simp only [List.getElem_toArray, decide_eq_true_eq]
    exact hg _ (List.getElem_mem _)
  have hgs : (⟨g.toArray⟩ : Str).cps.size = g.length := by simp
  refine wpAny_pyIter_ascii ha ?_
  have up : ∀ b o, s.heap.get? b = some o → (s.heap.push { cls := .type "str_ascii_iterator", data := .fields #[.str ⟨g.toArray⟩ t, .int 0 0] }).get? b = some o := fun b o e => Heap.get?_push_of_some _ e
  refine for_walk (h₀ := h₀) (L := L) J (Walks.strAscii hh s.heap.objs.size ⟨g.toArray⟩ t) (next_is_new F) (Nat.ne_of_lt F.ns.lt) (fun b hb => .inl (List.mem_singleton.mp hb)) ⟨_, Heap.get?_push_size _ rfl, rfl, rfl⟩ (F.keeps up) (N.grown up)
    (fun p hp => Nat.ne_of_lt (Heap.lt_size (N p hp).1)) hJ (fun i h st => let ⟨o, e, _⟩ := st; ⟨o, e⟩) (fun _ _ _ _ _ _ _ q => go_name q) ?_ ?_
  · rintro i v m' nw oI h tk E' hi ⟨c, u, hc, rfl⟩ hJ' off F' N'
    exact turn i c u m' nw _ oI _ h tk E' (by simpa using hc) hJ' off F' N'
  · intro m' nw h tk hJ' F' N'
    rw [hgs] at hJ'
    exact done m' nw h tk hJ' F' N'
end

-- K15
def keysV (E : List Ent) : List Value := E.map fun e => .str ⟨#[e.c]⟩ e.tc
theorem pick_all (its : Array Value) : (slicePick its none none none).toList = its.toList := by
  rw [kmk_pick_nat (lo := none) (hi := none) its (a := 0) (b := its.size) rfl]
  simp
  exact List.take_of_length_le (by simp)
theorem keys_claim (w : World) (news : List (Addr × Obj)) (x dx hl : Addr) (hs : Int) (tk : Tok) (Es : List Ent) (n : Nat) (hlen : Es.length < 1000) (hE : ∀ e ∈ Es, (e.a, e.o) ∈ news)
    (hx : (x, instObj 202 dx) ∈ news) (hdx : (dx, dictOf [⟨hs, .str (Str.ofString "_headers") tk, .ref hl⟩] 1) ∈ news) (hhl : (hl, lsO Es n) ∈ news) :
    Claim w 154 [.ref x] [] 2 news (fun r nw => ∃ D k, r = .ref D ∧ nw = (D, listOf (keysV Es).toArray k) :: news ∧ ∀ p ∈ news, p.1 ≠ D) := by
  w_on
  unfold Claim
  k_fill
  intro loose mean mg mb dp un gd cn cs a ccd cl outer A₀ base h₀ L m s Q E B F X N T hcs hd1 hu1 hret
  refine wpAny_call ?_
  k_dflt cell_enter
  k_steps
  rename Fr _ _ _ _ => F1
  k_dflt (refine LCp.ListComp_P (F₀ := F1) (by with_unfolding_all rfl) (by decide) (by rfl) (by decide) (by rfl) (by rfl) (by decide) ?_)
  k_steps
  rename Fr _ _ _ _ => F2
  rename News _ _ _ _ => N2
  refine compP_list (fun i ys => ys = keysV (Es.take i)) rfl F2 N2 hhl (by rw [List.size_toArray]; unfold rfs; rw [List.length_map, sizeLine_eq]; omega) rfl ?_ ?_
  · rintro i ys v hv rfl
    obtain ⟨e, he, rfl⟩ : ∃ e, Es[i]? = some e ∧ v = .ref e.a := by
      have hv' : (rfs Es)[i]? = some v := by simpa using hv
      unfold rfs at hv'
      rw [List.getElem?_map] at hv'
      obtain ⟨e, he, q⟩ := Option.map_eq_some_iff.mp hv'
      exact ⟨e, he, q.symm⟩
    refine ⟨e.a, e.o, _, _, 0, rfl, hE e (List.mem_of_getElem? he), rfl, rfl, ?_⟩
    intro I oI C oC D m₂ g h tk E' hn hm₂ hm₃ F3 N3 off ne
    k_steps
    rename Fr _ _ _ _ => F4
    rename News _ _ _ _ => N4
    refine CE.intro F4 N4 (fun p hp => hp) ?_
    unfold keysV
    rw [List.take_add_one, he, List.map_append]
    rfl
  · rintro ys g rfl
    intro D h tk F3 N3 off
    dsimp only
    k_steps
    rename News _ _ _ _ => N4
    rw [List.take_of_length_le (by simp [rfs])] at N4
    exact hret (.ref D) ((D, listOf (keysV Es).toArray (keysV Es).length) :: news) _ _ ⟨D, _, rfl, rfl, off1_mem off⟩ (by assumption) N4
theorem items_claim (w : World) (news : List (Addr × Obj)) (x dx hl : Addr) (hs : Int) (tk : Tok) (Es : List Ent) (n : Nat) (hlen : Es.length < 1000)
    (hx : (x, instObj 202 dx) ∈ news) (hdx : (dx, dictOf [⟨hs, .str (Str.ofString "_headers") tk, .ref hl⟩] 1) ∈ news) (hhl : (hl, lsO Es n) ∈ news) :
    Claim w 166 [.ref x] [] 2 news (fun r nw => ∃ D k, r = .ref D ∧ nw = (D, listOf (rfs Es).toArray k) :: news ∧ ∀ p ∈ news, p.1 < D) := by
  w_on
  unfold Claim
  k_fill
  intro loose mean mg mb dp un gd cn cs a ccd cl outer A₀ base h₀ L m s Q E B F X N T hcs hd1 hu1 hret
  refine wpAny_call ?_
  k_dflt cell_enter
  k_steps
  rename Fr _ _ _ _ => F1
  rename News _ _ _ _ => N1
  refine kmk_slice (its := (rfs Es).toArray) F1 N1 ⟨_, (N1 _ hhl).1, rfl, _, rfl⟩ .none .none ?_ (by with_unfolding_all rfl) (by intro _; rfl) (by rw [List.size_toArray]; unfold rfs; rw [List.length_map, sizeLine_eq]; omega)
  intro D h1 F2 N2 lo
  have e : slicePick (rfs Es).toArray none none none = (rfs Es).toArray := by
    apply Array.ext'
    exact pick_all _
  rw [e] at N2
  dsimp only
  k_steps
  exact hret _ _ _ _ ⟨D, 0, rfl, rfl, lo⟩ (by assumption) (by assumption)

-- K16
/-! lists of texts and of numbers on the ledger -/
def oneS (c : Nat) : Str := ⟨#[c]⟩
def natI (l : List Nat) : List Int := l.map Int.ofNat
theorem oneS_at {l : List Nat} {vs : List Value} (h : StrsAre vs (l.map oneS)) {i c : Nat} (hc : l[i]? = some c) : ∃ t, vs[i]? = some (.str ⟨#[c]⟩ t) := h.get i (oneS c) (by rw [List.getElem?_map, hc]; rfl)
theorem natI_at {l : List Nat} {vs : List Value} (h : IntsAre vs (natI l)) {i d : Nat} (hd : l[i]? = some d) : ∃ t, vs[i]? = some (.int (d : Int) t) := h.get i (d : Int) (by unfold natI; rw [List.getElem?_map, hd]; rfl)
theorem slice_to (g : List Nat) {p : Nat} (hp : p ≤ g.length) {j : Int} (hj : j = (p : Int)) : Txt.slice ⟨g.toArray⟩ none (some j) = ⟨(g.take p).toArray⟩ := by
  subst hj
  have h := StrLaws.sliceText_to (x := ⟨g.toArray⟩) (j := (p : Int)) ⟨by omega, by simpa using hp⟩
  refine Eq.trans h ?_
  simp
theorem slice_from (g : List Nat) {p : Nat} (hp : p ≤ g.length) {j : Int} (hj : j = (p : Int)) : Txt.slice ⟨g.toArray⟩ (some j) none = ⟨(g.drop p).toArray⟩ := by
  subst hj
  have h := StrLaws.sliceText_from (x := ⟨g.toArray⟩) (i := (p : Int)) ⟨by omega, by simpa using hp⟩
  refine Eq.trans h ?_
  congr 2
  show List.take _ (List.drop _ g) = _
  rw [List.take_of_length_le]
  · simp
  · simp
theorem cat3 (a b : List Nat) (c : Nat) : ((⟨a.toArray⟩ : Str) ++ (⟨#[c]⟩ : Str)) ++ (⟨b.toArray⟩ : Str) = ⟨(a ++ c :: b).toArray⟩ := by
  apply Str.ext'
  rw [Str.cps_append, Str.cps_append]
  simp
theorem putS_len (g : List Nat) (p : Nat × Nat) : (putS g p).length = g.length + 1 := by unfold putS; simp; omega
theorem putF_len : ∀ (l : List (Nat × Nat)) (g : List Nat), (l.foldl putS g).length = g.length + l.length
  | [], g => rfl
  | p :: l, g => by rw [List.foldl_cons, putF_len l, putS_len]; simp; omega
theorem putF_snoc {l : List (Nat × Nat)} {i : Nat} {p : Nat × Nat} (h : l[i]? = some p) : (l.take (i + 1)).foldl putS [] = putS ((l.take i).foldl putS []) p := by
  rw [List.take_add_one, h, List.foldl_append]; rfl
theorem dotsOk_at {dots : List Nat} (h : dotsOk dots = true) {k d : Nat} (hd : dots[k]? = some d) : 1 ≤ d ∧ d ≤ k + 1 := by
  unfold dotsOk at h
  have hk := (List.getElem?_eq_some_iff.mp hd).1
  have := List.all_eq_true.mp h k (List.mem_range.mpr hk)
  rw [List.getD_eq_getElem?_getD, hd] at this
  simpa using this
theorem small_nat {n : Nat} (h : n < 1000000) : Builtin.Range.small 0 (n : Int) 1 = true := by
  have e := rangeSize_nat 0 (n : Int)
  unfold Builtin.Range.small
  rw [e]
  simp [Builtin.Range.rangeFitsLong]
  omega
theorem rsize_nat (n : Nat) : Builtin.Range.rangeSize 0 (n : Int) 1 = ((n : Nat) : Int) := by rw [rangeSize_nat]; omega
theorem putin_claim (w : World) (news : List (Addr × Obj)) (ln ld : Addr) (names dots : List Nat) (vn vd : List Value) (kn kd : Nat) (hl : names.length = dots.length) (h5 : names.length ≤ 5) (hok : dotsOk dots = true)
    (hn : StrsAre vn (names.map oneS)) (hd : IntsAre vd (natI dots)) (hln : (ln, listOf vn.toArray kn) ∈ news) (hld : (ld, listOf vd.toArray kd) ∈ news) :
    Claim w 237 [.ref ln, .ref ld] [] 2 news (fun r nw => (∃ t', r = .str ⟨(putIn names dots).toArray⟩ t') ∧ nw = news) := by
  have hnl : vn.length = names.length := by rw [hn.length, List.length_map]
  w_on
  unfold Claim
  k_fill
  intro loose mean mg mb dp un gd cn cs a ccd cl outer A₀ base h₀ L m s Q E B F X N T hcs hd1 hu1 hret
  refine wpAny_call ?_
  k_dflt cell_enter
  k_steps
  refine wpAny_For ?_
  k_steps
  rename News _ _ _ _ => N1
  refine len_led (k := names.length) N1 (by k_mem) (by rw [List.size_toArray]; exact hnl) (by omega) ?_
  intro tl tkl
  dsimp only
  k_steps
  rename Fr _ _ _ _ => F5
  rename News _ _ _ _ => N5
  rename IsRange _ _ _ _ _ _ _ _ => hr
  have N6 : News _ _ _ news := fun p hp => N5 p (by k_mem)
  refine iter_range (n := names.length) (J := fun i m' nw => nw = news ∧ m' (Str.ofString "names") = some (.ref ln) ∧ m' (Str.ofString "dots") = some (.ref ld) ∧
      ∃ t, m' (Str.ofString "line") = some (.str ⟨(((names.zip dots).take i).foldl putS []).toArray⟩ t)) rfl F5 N6 hr (small_nat (by omega)) (rsize_nat _) ?_ ?_ ?_
  · exact ⟨rfl, rfl, rfl, _, rfl⟩
  · rintro i tv m' nw I oI g h tk E' hi ⟨rfl, hm1, hm2, t3, hm3⟩ off F7 N7
    obtain ⟨c, hc⟩ : ∃ c, names[i]? = some c := ⟨names[i]'hi, by simp [hi]⟩
    obtain ⟨d, hdd⟩ : ∃ d, dots[i]? = some d := ⟨dots[i]'(by omega), by simp [show i < dots.length by omega]⟩
    obtain ⟨t4, hc4⟩ := oneS_at hn hc
    obtain ⟨t5, hd5⟩ := natI_at hd hdd
    have hz : (names.zip dots)[i]? = some (c, d) := by rw [List.getElem?_zip_eq_some]; exact ⟨hc, hdd⟩
    have hb := dotsOk_at hok hdd
    obtain ⟨gl, hgl⟩ : ∃ gl, gl = ((names.zip dots).take i).foldl putS [] := ⟨_, rfl⟩
    have hgn : gl.length = i := by rw [hgl, putF_len]; simp; omega
    rw [← hgl] at hm3
    have eg : (⟨gl.toArray⟩ : Str).length = gl.length := by simp [Str.length]
    rw [Int.zero_add]
    rw [map_know hm1, map_know hm2, map_know hm3] at F7
    refine abs_turn fun TP hTP => ?_
    refine wpAny_assign_Name ?_
    k_steps
    rename News _ _ _ _ => N8
    refine item_led N8 (by k_mem) (by omega) (by omega) (by simpa using hd5) ?_
    try dsimp only
    k_steps
    rename News _ _ _ _ => N9
    refine item_led N9 (by k_mem) (by omega) (by omega) (by simpa using hc4) ?_
    try dsimp only
    k_steps
    rename Fr _ _ _ _ => F8
    rename News _ _ _ _ => N10
    have es : Txt.slice ⟨gl.toArray⟩ none (some (((⟨gl.toArray⟩ : Str).length : Int) + 1 - (d : Int))) ++ (⟨#[c]⟩ : Str) ++ Txt.slice ⟨gl.toArray⟩ (some (((⟨gl.toArray⟩ : Str).length : Int) + 1 - (d : Int))) none = ⟨(putS gl (c, d)).toArray⟩ := by
      rw [eg, slice_to gl (p := gl.length + 1 - d) (by omega) (by omega), slice_from gl (p := gl.length + 1 - d) (by omega) (by omega), cat3]; rfl
    rw [es, hgl, ← putF_snoc hz] at F8
    exact hTP (f := .next) (Tn.intro nw F8 N10 (fun p hp => hp) off ⟨rfl, rfl, rfl, _, rfl⟩)
  · rintro m' nw h tk ⟨rfl, hm1, hm2, t3, hm3⟩ F7 N7
    rw [map_know hm1, map_know hm2, map_know hm3] at F7
    dsimp only
    k_steps
    have e : ((names.zip dots).take names.length).foldl putS [] = putIn names dots := by rw [List.take_of_length_le (by simp; omega)]; rfl
    rw [e]
    exact hret _ _ _ _ ⟨⟨_, rfl⟩, rfl⟩ (by assumption) (by assumption)

-- K17
local macro_rules | `(tactic| wtm_at "g ca17") => `(tactic| (wtm_at "g ca13"; (fail_if_success (with_reducible show wpAny _ _ (call (Value.builtin "list.pop") _ _) _ _ _))))
local macro_rules | `(tactic| wtm_at "g wp17") => `(tactic| (wtm_at "g wp12"; (fail_if_success (with_reducible show wpAny _ _ (compareOp CmpOp.NotEq (Value.ref _) (Value.ref _)) _ _ _)); (fail_if_success (with_reducible show wpAny _ _ (compareOp CmpOp.Eq (Value.ref _) (Value.ref _)) _ _ _))))
local macro_rules | `(tactic| wtm_at "g ot17") => `(tactic| (wtm_at "g ot5"; (fail_if_success (with_reducible show WhileStep _ _ _ _ _ _ _))))
local macro_rules | `(tactic| k_steps) => `(tactic| repeat' (first | (k_unfold; (try dsimp only)) | ((fail_if_success (with_reducible show Held _)); k_end; wrow_close) | ((first | (wtm_at "is tree"; (first | (wtm_at "is eval"; wtm_at "g ev12") | (wtm_at "is call"; wtm_at "g ca17") | (wtm_at "is exec"; wtm_at "g ex5") | (wtm_at "no eec"; wtm_at "g wp17"))) | (wtm_at "no tree"; wtm_at "g ot17")); wtm_at "walk on") | fail "no step"))
theorem natI_len {vs : List Value} {l : List Nat} (h : IntsAre vs (natI l)) : vs.length = l.length := by rw [h.length]; unfold natI; rw [List.length_map]
theorem natI_nil (l : List Nat) : (natI l = []) ↔ l = [] := by unfold natI; exact List.map_eq_nil_iff
theorem natI_drop {vs : List Value} {l : List Nat} (h : IntsAre vs (natI l)) : IntsAre vs.dropLast (natI l.dropLast) := by
  rcases Nat.eq_zero_or_pos vs.length with q | q
  · have e1 := List.eq_nil_of_length_eq_zero q
    subst e1
    have e2 := List.eq_nil_of_length_eq_zero ((natI_len h).symm.trans rfl)
    subst e2; exact .nil
  · obtain ⟨_, _, _, _, r⟩ := kpa_ints h q
    have : (natI l).dropLast = natI l.dropLast := by unfold natI; rw [List.map_dropLast]
    rw [← this]; exact r
theorem cat2 (a : List Nat) (c : Nat) : (⟨a.toArray⟩ : Str) ++ (⟨#[c]⟩ : Str) = ⟨(a ++ [c]).toArray⟩ := by
  apply Str.ext'
  rw [Str.cps_append]
  simp
theorem popW_len (names dots : List Nat) (d : Nat) : ∀ (pile line : List Nat), (popW names dots d line pile).1.length + (popW names dots d line pile).2.length = line.length + pile.length
  | [], line => rfl
  | p :: ps, line => by
    unfold popW
    split
    · have := popW_len names dots d ps (line ++ [names.getD p 0])
      rw [this]; simp; omega
    · rfl
section
variable {prog : Program} {w : World} {A : Around} {E : Value → Shared → Prop} {Q : Flow → Shared → Prop} {s : Shared} {env : Env} {h₀ : Heap} {L : Addr}
/-- a while that raises nothing, under any promise for raises -/
theorem while_any {test : Expr} {body : List Stmt} {pos : Pos} {m : Str → Option Value} {news : List (Addr × Obj)} (J : Nat → (Str → Option Value) → List (Addr × Obj) → Prop) {n₀ : Nat}
    (F : Fr h₀ L s.heap m) (N : News h₀ L s.heap news) (hJ : J n₀ m news)
    (turn : ∀ n m₁ news₁ h₁ tk₁ (E : Value → Shared → Prop), Fr h₀ L h₁ m₁ → News h₀ L h₁ news₁ → J n m₁ news₁ →
      wpAny (model prog w) A (isTrue test env (eval test env)) (fun b s₂ =>
        if b = true then wpAny (model prog w) A (execs body env) (WhileStep h₀ L s J n) E s₂ else Q .next s₂) E { s with heap := h₁, toks := tk₁ }) :
    wpAny (model prog w) A (exec (.While test body [] pos) env) Q E s :=
  wpAny_mono (While_inv (E := fun _ _ => False) J F N hJ (fun n m₁ nw₁ h₁ tk₁ a b c => turn n m₁ nw₁ h₁ tk₁ _ a b c) (hE := fun _ _ h => h.elim)) (fun _ _ q => q) fun _ _ h => h.elim
end
theorem popW_go {names dots : List Nat} {d p : Nat} (h : d ≤ dots.getD p 0) (gl P : List Nat) : popW names dots d gl (P ++ [p]).reverse = popW names dots d (gl ++ [names.getD p 0]) P.reverse := by
  rw [List.reverse_append, List.reverse_singleton, List.singleton_append, popW, if_pos h]
theorem popW_stay {names dots : List Nat} {d p : Nat} (h : ¬ d ≤ dots.getD p 0) (gl P : List Nat) : popW names dots d gl (P ++ [p]).reverse = (gl, (P ++ [p]).reverse) := by
  rw [List.reverse_append, List.reverse_singleton, List.singleton_append, popW, if_neg h]
theorem run_snoc {names dots : List Nat} {i d : Nat} {gl0 gl P0 P : List Nat} (hrun : (List.range i).foldl (outS names dots) ([], []) = (gl0, P0.reverse)) (hd : dots[i]? = some d) (hpop : popW names dots d gl P.reverse = popW names dots d gl0 P0.reverse) (hst : popW names dots d gl P.reverse = (gl, P.reverse)) :
    (List.range (i + 1)).foldl (outS names dots) ([], []) = (gl, (P ++ [i]).reverse) := by
  rw [List.range_succ, List.foldl_append, hrun]
  show outS names dots (gl0, P0.reverse) i = _
  unfold outS
  dsimp only
  rw [List.getD_eq_getElem?_getD, hd, Option.getD_some, ← hpop, hst]
  simp
theorem getD_of {l : List Nat} {i c : Nat} (h : l[i]? = some c) : l.getD i 0 = c := by rw [List.getD_eq_getElem?_getD, h]; rfl
theorem natI_push {vs : List Value} {l : List Nat} (h : IntsAre vs (natI l)) (i : Nat) (t : Tok) : IntsAre (vs ++ [.int (i : Int) t]) (natI (l ++ [i])) := by
  have : natI (l ++ [i]) = natI l ++ [(i : Int)] := by unfold natI; rw [List.map_append]; rfl
  rw [this]
  exact h.append (.cons _ _ .nil)
theorem natI_last (l : List Nat) (p : Nat) : (natI (l ++ [p])).getLastD 0 = (p : Int) := by
  unfold natI; rw [List.map_append]; simp
theorem natI_at_last {vs : List Value} {l : List Nat} {p : Nat} (h : IntsAre vs (natI (l ++ [p]))) : ∃ t, vs[vs.length - 1]? = some (.int (p : Int) t) := by
  have hl := natI_len h
  obtain ⟨t, ht⟩ := natI_at h (i := l.length) (d := p) (by simp)
  refine ⟨t, ?_⟩
  rw [hl, List.length_append, List.length_singleton, Nat.add_sub_cancel]
  exact ht
theorem outline_claim (w : World) (news : List (Addr × Obj)) (ln ld : Addr) (names dots : List Nat) (vn vd : List Value) (kn kd : Nat) (hl : names.length = dots.length) (h5 : names.length ≤ 5)
    (hn : StrsAre vn (names.map oneS)) (hd : IntsAre vd (natI dots)) (hln : (ln, listOf vn.toArray kn) ∈ news) (hld : (ld, listOf vd.toArray kd) ∈ news) :
    Claim w 244 [.ref ln, .ref ld] [] 12 news (fun r nw => (∃ t', r = .str ⟨(outline names dots).toArray⟩ t') ∧ nw = news) := by
  have hnl : vn.length = names.length := by rw [hn.length, List.length_map]
  w_on
  unfold Claim
  k_fill
  intro loose mean mg mb dp un gd cn cs a ccd cl outer A₀ base h₀ L m s Q E B F X N T hcs hd1 hu1 hret
  refine wpAny_call ?_
  k_dflt cell_enter
  k_steps
  rename Addr => pl
  rename ∀ p ∈ news, p.1 < pl => blo
  refine wpAny_For ?_
  k_steps
  rename News _ _ _ _ => N1
  refine len_led (k := names.length) N1 (by k_mem) (by rw [List.size_toArray]; exact hnl) (by omega) ?_
  intro tl tkl
  dsimp only
  k_steps
  rename Fr _ _ _ _ => F5
  rename News _ _ _ _ => N5
  rename IsRange _ _ _ _ _ _ _ _ => hr
  refine iter_range (n := names.length) (J := fun i m' nw => ∃ (P gl : List Nat) (vp : List Value) (kp : Nat), nw = (pl, listOf vp.toArray kp) :: news ∧ IntsAre vp (natI P) ∧ m' (Str.ofString "names") = some (.ref ln) ∧ m' (Str.ofString "dots") = some (.ref ld) ∧ m' (Str.ofString "pile") = some (.ref pl) ∧
      (∃ t, m' (Str.ofString "line") = some (.str ⟨gl.toArray⟩ t)) ∧ (List.range i).foldl (outS names dots) ([], []) = (gl, P.reverse) ∧ (∀ p ∈ P, p < names.length) ∧ gl.length + P.length = i) rfl F5 N5 hr (small_nat (by omega)) (rsize_nat _) ?_ ?_ ?_
  · exact ⟨[], [], [], 0, rfl, .nil, rfl, rfl, rfl, ⟨_, rfl⟩, rfl, (fun _ h => nomatch h), rfl⟩
  · rintro i tv m' nw I oI g h tk E' hi ⟨P0, gl0, vp0, kp0, rfl, hI0, hm1, hm2, hm3, ⟨t3, hm4⟩, hrun, hPb, hPl⟩ off F7 N7
    obtain ⟨d, hdd⟩ : ∃ d, dots[i]? = some d := ⟨dots[i]'(by omega), by simp [show i < dots.length by omega]⟩
    obtain ⟨t5, hd5⟩ := natI_at hd hdd
    have hI1 : pl ≠ I := off _ (.head _)
    have offr : ∀ p ∈ news, p.1 ≠ I := fun p hp => off p (.tail _ hp)
    have blo' : ∀ p ∈ news, p.1 ≠ pl := fun p hp => Nat.ne_of_lt (blo p hp)
    rw [Int.zero_add]
    rw [map_know hm1, map_know hm2, map_know hm3, map_know hm4] at F7
    refine abs_turn fun TP hTP => ?_
    refine wpAny_assign_Name ?_
    k_steps
    rename Fr _ _ _ _ => F8
    rename News _ _ _ _ => N8
    refine while_any (J := fun n m' nw => ∃ (P gl : List Nat) (vp : List Value) (kp : Nat), nw = (I, oI) :: (pl, listOf vp.toArray kp) :: news ∧ IntsAre vp (natI P) ∧ n = P.length ∧ m' (Str.ofString "names") = some (.ref ln) ∧ m' (Str.ofString "dots") = some (.ref ld) ∧ m' (Str.ofString "pile") = some (.ref pl) ∧
      (∃ t, m' (Str.ofString "line") = some (.str ⟨gl.toArray⟩ t)) ∧ (∃ t, m' (Str.ofString "k") = some (.int (i : Int) t)) ∧ popW names dots d gl P.reverse = popW names dots d gl0 P0.reverse ∧ (∀ p ∈ P, p < names.length) ∧ gl.length + P.length = i)
      F8 N8 ⟨P0, gl0, vp0, kp0, rfl, hI0, rfl, rfl, rfl, rfl, ⟨_, rfl⟩, ⟨_, rfl⟩, rfl, hPb, hPl⟩ ?_
    rintro n m₁ nw₁ h₁ tk₁ E1 F9 N9 ⟨P, gl, vp, kp, rfl, hIP, rfl, hq1, hq2, hq3, ⟨t7, hq4⟩, ⟨t8, hq5⟩, hpop, hPb1, hPl1⟩
    rw [map_know hq1, map_know hq2, map_know hq3, map_know hq4, map_know hq5] at F9
    have hvl := natI_len hIP
    have hsz : vp.toArray.size ≤ sizeLine := by rw [List.size_toArray, hvl, sizeLine_eq]; omega
    have hgl : (⟨gl.toArray⟩ : Str).length ≤ 10 := by show gl.toArray.size ≤ 10; rw [List.size_toArray]; omega
    k_steps
    rename News _ _ _ _ => N10
    refine ne_intsK (ns := natI P) (ms := []) ⟨_, (N10 (pl, listOf vp.toArray kp) (by k_mem)).1, rfl, _, rfl⟩ hIP (us := []) ⟨_, (N10 (_, listOf #[] 0) (.head _)).1, rfl, _, rfl⟩ .nil (by ktr_units) ?_
    rename (I < _ ∧ _) => l1
    rcases List.eq_nil_or_concat P with rfl | ⟨P', p, rfl⟩
    · rw [show (!decide (natI [] = [])) = false from rfl]
      k_steps
      rename Fr _ _ _ _ => F11
      rename News _ _ _ _ => N11
      refine append_K F11 N11 (.tail (Nat.ne_of_gt l1.2.1) (.tail hI1.symm (.head blo'))) ?_ hsz
      intro h12 F12 N12
      rw [List.push_toArray] at N12
      try dsimp only
      k_steps
      rename Fr _ _ _ _ => F13
      rename News _ _ _ _ => N13
      refine hTP (f := .next) (Tn.intro ((pl, listOf (vp ++ [Value.int (i : Int) t8]).toArray (kp + 1)) :: news) F13 N13 (fun q hq => .tail _ hq) (fun q hq => ?_) ⟨[] ++ [i], gl, vp ++ [Value.int (i : Int) t8], kp + 1, rfl, natI_push hIP i t8, rfl, rfl, rfl, ⟨_, rfl⟩, run_snoc hrun hdd hpop rfl, fun q hq => ?_, by simp only [List.length_append, List.length_singleton, List.length_nil] at hPl1 ⊢; omega⟩)
      · rcases List.mem_cons.mp hq with rfl | hq
        · exact hI1
        · exact offr q hq
      · rcases List.mem_append.mp hq with h | h
        · exact hPb1 q h
        · rw [List.mem_singleton.mp h]; exact hi
    · have e : (!decide (natI (P' ++ [p]) = [])) = true := by simp [natI]
      rw [List.concat_eq_append] at *
      have hp : p < names.length := hPb1 p (by simp)
      obtain ⟨dq, hdq⟩ : ∃ dq, dots[p]? = some dq := ⟨dots[p]'(by omega), by simp [show p < dots.length by omega]⟩
      obtain ⟨t9, hd9⟩ := natI_at hd hdq
      obtain ⟨c, hc⟩ : ∃ c, names[p]? = some c := ⟨names[p]'hp, by simp [hp]⟩
      obtain ⟨t10, hc10⟩ := oneS_at hn hc
      obtain ⟨t11, hl11⟩ := natI_at_last hIP
      rw [e]
      k_steps
      rename News _ _ _ _ => N11
      refine item_last N11 (by k_mem) hl11 ?_
      try dsimp only
      k_steps
      rename News _ _ _ _ => N12
      refine item_led N12 (by k_mem) (by omega) (by omega) (by simpa using hd9) ?_
      try dsimp only
      k_steps
      rename News _ _ _ _ => N13
      refine item_led N13 (by k_mem) (by omega) (by omega) (by simpa using hd5) ?_
      try dsimp only
      by_cases hcmp : d ≤ dq
      · k_steps
        rename Fr _ _ _ _ => F14
        rename News _ _ _ _ => N14
        refine kpa_pop F14 N14 (.tail (Nat.ne_of_gt l1.2.1) (.tail hI1.symm (.head blo'))) hIP (by rw [hvl]; simp) (by rw [List.size_toArray] at hsz; exact hsz) ?_
        intro h15 t15 F15 N15 hI15
        rw [natI_last]
        try dsimp only
        k_steps
        rename News _ _ _ _ => N16
        refine item_led N16 (by k_mem) (by omega) (by omega) (by simpa using hc10) ?_
        try dsimp only
        k_steps
        rename Fr _ _ _ _ => F17
        rename News _ _ _ _ => N17
        rw [cat2] at F17
        refine WhileStep.intro (n' := P'.length) F17 (fun q hq => N17 q (.tail _ hq)) (by simp) ⟨P', gl ++ [c], vp.dropLast, kp + 1, rfl, ?_, rfl, rfl, rfl, rfl, ⟨_, rfl⟩, ⟨_, rfl⟩, ?_, fun q hq => hPb1 q (List.mem_append_left _ hq), by simp only [List.length_append, List.length_singleton] at hPl1 ⊢; omega⟩
        · have := natI_drop hIP
          rwa [List.dropLast_concat] at this
        · rw [← hpop, popW_go (by rw [getD_of hdq]; exact hcmp), getD_of hc]
      · k_steps
        rename Fr _ _ _ _ => F11
        rename News _ _ _ _ => N11
        refine append_K F11 N11 (.tail (Nat.ne_of_gt l1.2.1) (.tail hI1.symm (.head blo'))) ?_ hsz
        intro h12 F12 N12
        rw [List.push_toArray] at N12
        try dsimp only
        k_steps
        rename Fr _ _ _ _ => F13
        rename News _ _ _ _ => N13
        refine hTP (f := .next) (Tn.intro ((pl, listOf (vp ++ [Value.int (i : Int) t8]).toArray (kp + 1)) :: news) F13 N13 (fun q hq => .tail _ hq) (fun q hq => ?_) ⟨(P' ++ [p]) ++ [i], gl, vp ++ [Value.int (i : Int) t8], kp + 1, rfl, natI_push hIP i t8, rfl, rfl, rfl, ⟨_, rfl⟩, run_snoc hrun hdd hpop (popW_stay (by rw [getD_of hdq]; exact hcmp) gl P'), fun q hq => ?_, by simp only [List.length_append, List.length_singleton, List.length_nil] at hPl1 ⊢; omega⟩)
        · rcases List.mem_cons.mp hq with rfl | hq
          · exact hI1
          · exact offr q hq
        · rcases List.mem_append.mp hq with h | h
          · exact hPb1 q h
          · rw [List.mem_singleton.mp h]; exact hi
  · rintro m' nw h tk ⟨P0, gl0, vp0, kp0, rfl, hI0, hm1, hm2, hm3, ⟨t3, hm4⟩, hrun, hPb, hPl⟩ F7 N7
    have blo' : ∀ p ∈ news, p.1 ≠ pl := fun p hp => Nat.ne_of_lt (blo p hp)
    rw [map_know hm1, map_know hm2, map_know hm3, map_know hm4] at F7
    dsimp only
    k_steps
    rename Fr _ _ _ _ => F8
    rename News _ _ _ _ => N8
    have hout : gl0 ++ P0.reverse.map (names.getD · 0) = outline names dots := by unfold outline; rw [hrun]
    refine while_any (J := fun n m' nw => ∃ (P gl : List Nat) (vp : List Value) (kp : Nat), nw = (pl, listOf vp.toArray kp) :: news ∧ IntsAre vp (natI P) ∧ n = P.length ∧ m' (Str.ofString "names") = some (.ref ln) ∧ m' (Str.ofString "pile") = some (.ref pl) ∧
      (∃ t, m' (Str.ofString "line") = some (.str ⟨gl.toArray⟩ t)) ∧ gl ++ P.reverse.map (names.getD · 0) = outline names dots ∧ (∀ p ∈ P, p < names.length) ∧ gl.length + P.length = names.length)
      F8 N8 ⟨P0, gl0, vp0, kp0, rfl, hI0, rfl, rfl, rfl, ⟨_, rfl⟩, hout, hPb, hPl⟩ ?_
    rintro n m₁ nw₁ h₁ tk₁ E1 F9 N9 ⟨P, gl, vp, kp, rfl, hIP, rfl, hq1, hq3, ⟨t7, hq4⟩, hpop, hPb1, hPl1⟩
    rw [map_know hq1, map_know hq3, map_know hq4] at F9
    have hvl := natI_len hIP
    have hgl : (⟨gl.toArray⟩ : Str).length ≤ 10 := by show gl.toArray.size ≤ 10; rw [List.size_toArray]; omega
    k_steps
    rename News _ _ _ _ => N10
    refine ne_intsK (ns := natI P) (ms := []) ⟨_, (N10 (pl, listOf vp.toArray kp) (by k_mem)).1, rfl, _, rfl⟩ hIP (us := []) ⟨_, (N10 (_, listOf #[] 0) (.head _)).1, rfl, _, rfl⟩ .nil (by ktr_units) ?_
    rename (pl < _ ∧ _) => l1
    rcases List.eq_nil_or_concat P with rfl | ⟨P', p, rfl⟩
    · rw [show (!decide (natI [] = [])) = false from rfl]
      k_steps
      rename News _ _ _ _ => N11
      rw [List.reverse_nil, List.map_nil, List.append_nil] at hpop
      rw [hpop]
      exact hret _ _ _ _ ⟨⟨_, rfl⟩, rfl⟩ (by assumption) (fun q hq => N11 q (.tail _ (.tail _ hq)))
    · have e : (!decide (natI (P' ++ [p]) = [])) = true := by simp [natI]
      rw [List.concat_eq_append] at *
      have hp : p < names.length := hPb1 p (by simp)
      obtain ⟨c, hc⟩ : ∃ c, names[p]? = some c := ⟨names[p]'hp, by simp [hp]⟩
      obtain ⟨t10, hc10⟩ := oneS_at hn hc
      rw [e]
      k_steps
      rename Fr _ _ _ _ => F14
      rename News _ _ _ _ => N14
      refine kpa_pop F14 N14 (.tail (Nat.ne_of_gt l1.1) (.head blo')) hIP (by rw [hvl]; simp) (by rw [hvl, sizeLine_eq]; omega) ?_
      intro h15 t15 F15 N15 hI15
      rw [natI_last]
      try dsimp only
      k_steps
      rename News _ _ _ _ => N16
      refine item_led N16 (by k_mem) (by omega) (by omega) (by simpa using hc10) ?_
      try dsimp only
      k_steps
      rename Fr _ _ _ _ => F17
      rename News _ _ _ _ => N17
      rw [cat2] at F17
      refine WhileStep.intro (n' := P'.length) F17 (fun q hq => N17 q (.tail _ hq)) (by simp) ⟨P', gl ++ [c], vp.dropLast, kp + 1, rfl, ?_, rfl, rfl, rfl, ⟨_, rfl⟩, ?_, fun q hq => hPb1 q (List.mem_append_left _ hq), by simp only [List.length_append, List.length_singleton] at hPl1 ⊢; omega⟩
      · have := natI_drop hIP
        rwa [List.dropLast_concat] at this
      · rw [← hpop, List.reverse_append, List.reverse_singleton, List.singleton_append, List.map_cons, getD_of hc, List.append_assoc]; rfl

-- S2
section
open Builtin Builtin.Str
/-! rows joined, split again -/
theorem at_crlf {x : List Nat} {k : Nat} (h : StrLaws.At ⟨x.toArray⟩ ⟨#[13, 10]⟩ (⟨x.toArray⟩ : Str).length k) : x[k]? = some 13 := by
  obtain ⟨h1, h2⟩ := h
  rw [StrLaws.subAt_eq] at h2
  have e : (x.drop k).take 2 = [13, 10] := by simpa [Str.length] using h2
  have : ((x.drop k).take 2)[0]? = some 13 := by rw [e]; rfl
  rw [List.getElem?_take_of_lt (by decide), List.getElem?_drop] at this
  exact this
theorem at_mk {pre post : List Nat} : StrLaws.At ⟨(pre ++ [13, 10] ++ post).toArray⟩ ⟨#[13, 10]⟩ (⟨(pre ++ [13, 10] ++ post).toArray⟩ : Str).length pre.length := by
  constructor
  · simp [Str.length]
  · rw [StrLaws.subAt_eq]
    simp [Str.length]
theorem sub_mid {pre r post : List Nat} : strSub ⟨(pre ++ r ++ post).toArray⟩ pre.length (pre.length + r.length) = strS r := by
  apply Str.ext'
  apply Array.ext'
  rw [StrLaws.strSub_toList]
  simp [strS]
theorem row_no {pre r post : List Nat} (hr : ∀ c ∈ r, c ≠ 13) {k : Nat} (h1 : pre.length ≤ k) (h2 : k < pre.length + r.length) : ¬ StrLaws.At ⟨(pre ++ r ++ post).toArray⟩ ⟨#[13, 10]⟩ (⟨(pre ++ r ++ post).toArray⟩ : Str).length k := fun h => by
  have := at_crlf h
  rw [List.getElem?_append_left (by simp; omega), List.getElem?_append_right h1] at this
  exact hr 13 (List.mem_of_getElem? this) rfl
theorem parts_jn : ∀ (rows : List (List Nat)) (r : List Nat) (pre x : List Nat) (cuts : List Nat) (f : Nat), x = pre ++ jn [13, 10] (r :: rows) → (∀ q ∈ r :: rows, ∀ c ∈ q, c ≠ 13) →
    StrLaws.ChainG ⟨x.toArray⟩ ⟨#[13, 10]⟩ (⟨x.toArray⟩ : Str).length pre.length cuts f → (∀ k, f ≤ k → ¬ StrLaws.At ⟨x.toArray⟩ ⟨#[13, 10]⟩ (⟨x.toArray⟩ : Str).length k) →
    StrLaws.partsFrom ⟨x.toArray⟩ 2 pre.length cuts = (r :: rows).map strS
  | [], r, pre, x, cuts, f, hx, hr, hC, hf => by
    have hx' : x = pre ++ r ++ [] := by rw [hx]; simp [jn]
    have hlen : x.length = pre.length + r.length := by rw [hx']; simp
    have hxl : (⟨x.toArray⟩ : Str).length = x.length := by simp [Str.length]
    cases cuts with
    | nil =>
      show [strSub ⟨x.toArray⟩ pre.length (⟨x.toArray⟩ : Str).length] = [strS r]
      rw [hxl, hlen, hx', sub_mid]
    | cons c cs =>
      exfalso
      obtain ⟨h1, h2, _, _⟩ := hC
      have hlt : c < x.length := by
        have := h2.1
        rw [hxl] at this
        have e : (⟨#[13, 10]⟩ : Str).length = 2 := rfl
        omega
      rw [hx'] at h2
      exact row_no (hr r (.head _)) h1 (by omega) h2
  | q :: rows, r, pre, x, cuts, f, hx, hr, hC, hf => by
    rw [jn_cons2] at hx
    have hx' : x = pre ++ r ++ ([13, 10] ++ jn [13, 10] (q :: rows)) := by rw [hx]; simp
    have hx2 : x = (pre ++ r) ++ [13, 10] ++ jn [13, 10] (q :: rows) := by rw [hx]; simp
    have hat : StrLaws.At ⟨x.toArray⟩ ⟨#[13, 10]⟩ (⟨x.toArray⟩ : Str).length (pre.length + r.length) := by
      have := at_mk (pre := pre ++ r) (post := jn [13, 10] (q :: rows))
      rw [← hx2, List.length_append] at this
      exact this
    have hno : ∀ k, pre.length ≤ k → k < pre.length + r.length → ¬ StrLaws.At ⟨x.toArray⟩ ⟨#[13, 10]⟩ (⟨x.toArray⟩ : Str).length k := fun k h1 h2 => by
      rw [hx']; exact row_no (hr r (.head _)) h1 h2
    cases cuts with
    | nil =>
      exfalso
      have e : f = pre.length := hC
      exact hf _ (by omega) hat
    | cons c cs =>
      obtain ⟨h1, h2, h3, h4⟩ := hC
      have hc : c = pre.length + r.length := by
        rcases Nat.lt_trichotomy c (pre.length + r.length) with z | z | z
        · exact absurd h2 (hno c h1 z)
        · exact z
        · exact absurd hat (h3 _ (by omega) z)
      subst hc
      have hpl : (pre ++ r ++ [13, 10]).length = pre.length + r.length + 2 := by simp; omega
      have ih := parts_jn rows q (pre ++ r ++ [13, 10]) x cs f (by rw [hx]; simp) (fun z hz => hr z (.tail _ hz)) (by rw [hpl]; exact h4) hf
      show strSub ⟨x.toArray⟩ pre.length (pre.length + r.length) :: StrLaws.partsFrom ⟨x.toArray⟩ 2 (pre.length + r.length + 2) cs = _
      rw [hpl] at ih
      rw [ih, hx', sub_mid]
      rfl
theorem split_jn (r : List Nat) (rows : List (List Nat)) (hr : ∀ q ∈ r :: rows, ∀ c ∈ q, c ≠ 13) : Txt.split ⟨(jn [13, 10] (r :: rows)).toArray⟩ ⟨#[13, 10]⟩ = (r :: rows).map strS := by
  obtain ⟨f, hC, hf⟩ := StrLaws.occ_tight ⟨(jn [13, 10] (r :: rows)).toArray⟩ ⟨#[13, 10]⟩ (by decide)
  have key := parts_jn rows r [] (jn [13, 10] (r :: rows)) _ f rfl hr hC hf
  unfold Txt.split
  have none_of : ∀ occ : List Nat, occ = [] → StrLaws.partsFrom ⟨(jn [13, 10] (r :: rows)).toArray⟩ 2 0 occ = [⟨(jn [13, 10] (r :: rows)).toArray⟩] := fun occ e => by
    subst e
    show [strSub _ 0 _] = _
    rw [StrLaws.sub_whole]
  split
  · rename_i hlt
    -- too short, or of a smaller kind: nothing is found
    have hocc : occurrences ⟨(jn [13, 10] (r :: rows)).toArray⟩ ⟨#[13, 10]⟩ 0 (⟨(jn [13, 10] (r :: rows)).toArray⟩ : Str).length ((⟨(jn [13, 10] (r :: rows)).toArray⟩ : Str).length + 1) = [] := by
      generalize occurrences ⟨(jn [13, 10] (r :: rows)).toArray⟩ ⟨#[13, 10]⟩ 0 (⟨(jn [13, 10] (r :: rows)).toArray⟩ : Str).length ((⟨(jn [13, 10] (r :: rows)).toArray⟩ : Str).length + 1) = cuts at hC
      cases cuts with
      | nil => rfl
      | cons c cs =>
        exfalso
        have h2 := hC.2.1.1
        have e2 : (⟨#[13, 10]⟩ : Str).length = 2 := rfl
        have ek : Builtin.Str.strKind ⟨#[13, 10]⟩ = 1 := by decide +kernel
        have : ∀ y : Str, ¬ Builtin.Str.strKind y < 1 := fun y => by unfold Builtin.Str.strKind; split <;> (try split) <;> omega
        rw [ek] at hlt
        simp only [Bool.or_eq_true, decide_eq_true_eq] at hlt
        rcases hlt with q | q
        · omega
        · exact this _ q
    rw [hocc] at key
    rw [← key]
    exact (none_of [] rfl).symm
  · split
    · rename_i hemp
      rw [List.isEmpty_iff] at hemp
      rw [hemp] at key
      rw [← key]
      exact (none_of [] rfl).symm
    · rw [StrLaws.partsBetween_eq]
      exact key
theorem join_jn (sep : List Nat) : ∀ rows : List (List Nat), Txt.join ⟨sep.toArray⟩ (rows.map strS) = ⟨(jn sep rows).toArray⟩ := by
  have key : ∀ rows : List (List Nat), Str.join ⟨sep.toArray⟩ (rows.map strS) = ⟨(jn sep rows).toArray⟩ := by
    intro rows
    induction rows with
    | nil => rfl
    | cons r rest ih =>
      cases rest with
      | nil => rfl
      | cons q rest =>
        show strS r ++ ⟨sep.toArray⟩ ++ Str.join ⟨sep.toArray⟩ ((q :: rest).map strS) = _
        rw [ih, jn_cons2]
        apply Str.ext'
        rw [Str.cps_append, Str.cps_append]
        simp [strS]
  intro rows
  show glued _ _ = _
  rw [StrLaws.glued_eq_join, key]
end
/-! the mail's rows, in plain data and as a dict's -/
def kvM (l : List (Nat × Nat × Tok)) : List (Str × Value) := l.map fun e => ((⟨#[e.1]⟩ : Str), Value.str (rowS e.2.1 e.1) e.2.2)
def putM (l : List (Nat × Nat × Tok)) (c d : Nat) (t : Tok) : List (Nat × Nat × Tok) := if hasP (l.map pl2) c then l.map (fun e => if e.1 = c then (c, d, t) else e) else l ++ [(c, d, t)]
theorem kvM_any (l : List (Nat × Nat × Tok)) (c : Nat) : ((kvM l).any fun kv => decide (kv.1 = (⟨#[c]⟩ : Str))) = hasP (l.map pl2) c := by
  unfold kvM hasP
  rw [List.any_map, List.any_map]
  congr 1
  funext e
  show decide ((⟨#[e.1]⟩ : Str) = ⟨#[c]⟩) = (e.1 == c)
  rw [Bool.eq_iff_iff]; simp
theorem kvM_stored (l : List (Nat × Nat × Tok)) (c d : Nat) (t : Tok) : stored (kvM l) (⟨#[c]⟩ : Str) (.str (rowS d c) t) = kvM (putM l c d t) := by
  unfold stored putM
  rw [kvM_any]
  split
  · unfold kvM
    rw [List.map_map, List.map_map]
    refine List.map_congr_left fun e _ => ?_
    show (if (⟨#[e.1]⟩ : Str) = ⟨#[c]⟩ then _ else _) = _
    by_cases h : e.1 = c
    · simp [h]
    · simp [h]
  · unfold kvM
    rw [List.map_append]; rfl
theorem kvM_at {l : List (Nat × Nat × Tok)} {c d : Nat} (hd : dotAt (l.map pl2) c = d) (hc : hasP (l.map pl2) c = true) : ∃ t, valueAt (kvM l) (⟨#[c]⟩ : Str) = some (.str (rowS d c) t) := by
  induction l with
  | nil => simp [hasP] at hc
  | cons e l ih =>
    unfold valueAt kvM
    rw [List.map_cons, List.find?_cons]
    by_cases h : e.1 = c
    · have : decide ((⟨#[e.1]⟩ : Str) = ⟨#[c]⟩) = true := by simp [h]
      rw [this]
      have hd' : e.2.1 = d := by
        rw [← hd]; unfold dotAt; rw [List.map_cons, List.find?_cons]; simp [pl2, h]
      exact ⟨e.2.2, by rw [← hd', ← h]; rfl⟩
    · have : decide ((⟨#[e.1]⟩ : Str) = ⟨#[c]⟩) = false := by simp [h]
      rw [this]
      refine ih ?_ ?_
      · rw [← hd]; unfold dotAt; rw [List.map_cons, List.find?_cons]
        have : ((pl2 e).1 == c) = false := by simp [pl2, h]
        rw [this]
      · unfold hasP at hc ⊢
        rw [List.map_cons, List.any_cons] at hc
        simpa [pl2, h] using hc
theorem hasP_mem {t : List (Nat × Nat)} {c : Nat} : hasP t c = true ↔ c ∈ t.map (·.1) := by
  unfold hasP
  rw [List.any_eq_true, List.mem_map]
  constructor
  · rintro ⟨e, he, h⟩; exact ⟨e, he, by simpa using h⟩
  · rintro ⟨e, he, rfl⟩; exact ⟨e, he, by simp⟩
theorem hasP_not {t : List (Nat × Nat)} {c : Nat} : hasP t c = false ↔ c ∉ t.map (·.1) := by rw [← hasP_mem]; simp
theorem mailF_keys (op : List Nat) : ∀ (l : List Nat) (rows : List (Nat × Nat)), (l.foldl (mailS op) rows).map (·.1) = rows.map (·.1) ++ l
  | [], rows => by simp
  | c :: l, rows => by
    rw [List.foldl_cons, mailF_keys op l]
    have : (mailS op rows c).map (·.1) = rows.map (·.1) ++ [c] := by
      unfold mailS
      rw [List.map_append, List.map_map]
      congr 1
      refine List.map_congr_left fun e _ => ?_
      show (if isub [c, e.1] op = true then (e.1, e.2 + 1) else e).1 = e.1
      split <;> rfl
    rw [this]; simp
theorem mailF_bd (op : List Nat) : ∀ (l : List Nat) (rows : List (Nat × Nat)) (n : Nat), (∀ e ∈ rows, 1 ≤ e.2 ∧ e.2 ≤ n) → (rows = [] ∨ 1 ≤ n) → ∀ e ∈ l.foldl (mailS op) rows, 1 ≤ e.2 ∧ e.2 ≤ n + l.length
  | [], rows, n, h, _ => fun e he => by have := h e he; simp only [List.length_nil]; omega
  | c :: l, rows, n, h, hn => fun e he => by
    rw [List.foldl_cons] at he
    have := mailF_bd op l (mailS op rows c) (n + 1) (fun x hx => by
      unfold mailS at hx
      rcases List.mem_append.mp hx with q | q
      · obtain ⟨y, hy, rfl⟩ := List.mem_map.mp q
        have := h y hy
        split
        · show 1 ≤ y.2 + 1 ∧ y.2 + 1 ≤ n + 1; omega
        · omega
      · rw [List.mem_singleton.mp q]; show 1 ≤ 1 ∧ 1 ≤ n + 1; omega) (.inr (by omega)) e he
    simp only [List.length_cons]; omega
/-- the names that are sent again -/
def laterOf (op : List Nat) (rows : List (Nat × Nat)) (c : Nat) : List Nat := (rows.filter fun e => isub [c, e.1] op).map (·.1)
theorem nodup_put {l : List (Nat × Nat)} (hn : (l.map (·.1)).Nodup) (ks : List Nat) {o : Nat} (ho : o ∉ ks) : l.map (fun e => if (ks ++ [o]).contains e.1 then (e.1, e.2 + 1) else e) = (l.map (fun e => if ks.contains e.1 then (e.1, e.2 + 1) else e)).map (fun e => if e.1 = o then (o, dotAt l o + 1) else e) := by
  rw [List.map_map]
  refine List.map_congr_left fun e he => ?_
  show (if (ks ++ [o]).contains e.1 = true then _ else _) = (fun e => if e.1 = o then (o, dotAt l o + 1) else e) (if ks.contains e.1 = true then _ else _)
  by_cases h : e.1 = o
  · have h1 : (ks ++ [o]).contains e.1 = true := by simp [h]
    have h2 : ks.contains e.1 = false := by rw [h]; simpa using ho
    rw [if_pos h1, h2, if_neg Bool.false_ne_true]
    show _ = if e.1 = o then _ else _
    rw [if_pos h]
    have : dotAt l o = e.2 := by
      clear h1 h2
      induction l with
      | nil => cases he
      | cons a l ih =>
        unfold dotAt
        rw [List.find?_cons]
        rw [List.map_cons, List.nodup_cons] at hn
        rcases List.mem_cons.mp he with rfl | he
        · have : (e.1 == o) = true := by simp [h]
          rw [this]
        · have : (a.1 == o) = false := by
            rw [beq_eq_false_iff_ne]
            intro q
            exact hn.1 (by rw [q, ← h]; exact List.mem_map_of_mem he)
          rw [this]
          exact ih hn.2 he
    rw [this, h]
  · have e1 : (ks ++ [o]).contains e.1 = ks.contains e.1 := by simp [h]
    rw [e1]
    split
    · show _ = if e.1 = o then _ else _
      rw [if_neg h]
    · show _ = if e.1 = o then _ else _
      rw [if_neg h]
theorem mailS_later (op : List Nat) (rows : List (Nat × Nat)) (c : Nat) : mailS op rows c = rows.map (fun e => if (laterOf op rows c).contains e.1 then (e.1, e.2 + 1) else e) ++ [(c, 1)] := by
  unfold mailS
  congr 1
  refine List.map_congr_left fun e he => ?_
  have : (laterOf op rows c).contains e.1 = isub [c, e.1] op := by
    rw [Bool.eq_iff_iff]
    unfold laterOf
    simp only [List.contains_iff_mem, List.mem_map, List.mem_filter]
    constructor
    · rintro ⟨x, ⟨_, hx⟩, q⟩; rw [← q]; exact hx
    · intro h; exact ⟨e, ⟨he, h⟩, rfl⟩
  rw [this]

-- K18
local macro_rules | `(tactic| wtm_at "g ca18") => `(tactic| (wtm_at "g ca17"; (fail_if_success (with_reducible show wpAny _ _ (call (Value.builtin "str.join") _ _) _ _ _)); (fail_if_success (with_reducible show wpAny _ _ (call (Value.builtin "min") _ _) _ _ _))))
local macro_rules | `(tactic| k_steps) => `(tactic| repeat' (first | (k_unfold; (try dsimp only)) | ((fail_if_success (with_reducible show Held _)); k_end; wrow_close) | ((first | (wtm_at "is tree"; (first | (wtm_at "is eval"; wtm_at "g ev12") | (wtm_at "is call"; wtm_at "g ca18") | (wtm_at "is exec"; wtm_at "g ex5") | (wtm_at "no eec"; wtm_at "g wp17"))) | (wtm_at "no tree"; wtm_at "g ot17")); wtm_at "walk on") | fail "no step"))
theorem want2 (a b : Nat) : Str.ofString "..." ++ (⟨#[a]⟩ : Str) ++ Str.ofString "..." ++ (⟨#[b]⟩ : Str) ++ Str.ofString "..." = wantS [a, b] := by
  rw [show Str.ofString "..." = dots3 from by decide +kernel]
  apply Str.ext'
  simp only [Str.cps_append]
  unfold dots3 wantS wantL
  simp
theorem kvM_get {l : List (Nat × Nat × Tok)} {i : Nat} {k : Str} {v : Value} (h : (kvM l)[i]? = some (k, v)) : ∃ o d t, l[i]? = some (o, d, t) ∧ k = ⟨#[o]⟩ ∧ v = .str (rowS d o) t := by
  unfold kvM at h
  rw [List.getElem?_map] at h
  obtain ⟨⟨o, d, t⟩, he, q⟩ := Option.map_eq_some_iff.mp h
  injection q with q1 q2
  exact ⟨o, d, t, he, q1.symm, q2.symm⟩
theorem later_snoc {op : List Nat} {l : List (Nat × Nat)} {i c : Nat} {e : Nat × Nat} (h : l[i]? = some e) : laterOf op (l.take (i + 1)) c = laterOf op (l.take i) c ++ if isub [c, e.1] op = true then [e.1] else [] := by
  unfold laterOf
  rw [List.take_add_one, h, List.filter_append, List.map_append]
  congr 1
  by_cases q : isub [c, e.1] op = true
  · rw [if_pos q]; simp [q]
  · rw [if_neg q]; simp [q]
theorem rowD_plain {d c : Nat} (hd : 1 ≤ d) (hc : low c = true) : plainRow (rowD d c) := by
  obtain ⟨e, rfl⟩ : ∃ e, d = e + 1 := ⟨d - 1, by omega⟩
  refine ⟨List.replicate e 46 ++ [c, 58, 32, 46, 120], by unfold rowD; rw [List.replicate_succ]; rfl, by simp, ?_⟩
  intro x hx
  unfold rowD at hx
  rcases List.mem_append.mp hx with h | h
  · rw [List.eq_of_mem_replicate h]; decide
  · unfold low at hc
    simp only [Bool.and_eq_true, decide_eq_true_eq] at hc
    simp only [List.mem_cons, List.not_mem_nil, or_false] at h
    omega
theorem dotAt_nodup : ∀ {l : List (Nat × Nat)}, (l.map (·.1)).Nodup → ∀ {e : Nat × Nat}, e ∈ l → dotAt l e.1 = e.2
  | a :: l, hn, e, he => by
    unfold dotAt
    rw [List.find?_cons]
    rw [List.map_cons, List.nodup_cons] at hn
    rcases List.mem_cons.mp he with rfl | he
    · rw [beq_self_eq_true]
    · have : (a.1 == e.1) = false := by
        rw [beq_eq_false_iff_ne]
        intro q
        exact hn.1 (by rw [q]; exact List.mem_map_of_mem he)
      rw [this]
      exact dotAt_nodup hn.2 he
theorem row1 (c : Nat) : Str.ofString "." ++ (⟨#[c]⟩ : Str) ++ Str.ofString ": .x" = rowS 1 c := by
  rw [show Str.ofString "." = ⟨#[46]⟩ from by decide +kernel, show Str.ofString ": .x" = ⟨#[58, 32, 46, 120]⟩ from by decide +kernel]
  apply Str.ext'
  simp only [Str.cps_append]
  unfold rowS strS rowD
  simp
theorem mail_claim (w : World) (news : List (Addr × Obj)) (op cl sep : List Nat) (hsep : sep = [10] ∨ sep = [13] ∨ sep = [13, 10]) (hop : ∀ c ∈ op, low c = true) (hcl : ∀ c ∈ cl, low c = true) (hnd : cl.Nodup) (hoc : ∀ c ∈ op, c ∈ cl) (ho5 : op.length ≤ 5) (hc5 : cl.length ≤ 5) (t1 t2 t3 : Tok) :
    Claim w 230 [.str ⟨op.toArray⟩ t1, .str ⟨cl.toArray⟩ t2, .str ⟨sep.toArray⟩ t3] [] 20 news (fun r nw => ∃ D k vs, r = .ref D ∧ nw = (D, listOf vs.toArray k) :: news ∧ (∀ p ∈ news, p.1 ≠ D) ∧ StrsAre vs (op.map fun c => rowS (dotAt (mailR op cl) c) c)) := by
  w_on
  unfold Claim
  k_fill
  intro loose mean mg mb dp un gd cn cs a ccd cl' outer A₀ base h₀ L m s Q E B F X N T hcs hd1 hu1 hret
  refine wpAny_call ?_
  k_dflt cell_enter
  rename_i LF hF tkF FG FF BB XX TT lF oN oR oO eN eR eO N0
  have eN' : oN.data = .cell none := eN
  have eR' : oR.data = .cell none := eR
  have eO' : oO.data = .cell (some (.str ⟨op.toArray⟩ t1)) := eO
  clear eN eR eO
  k_steps
  rename Fr _ _ _ _ => F1
  refine newDict_K F1 N0 (Top.nolimit (by k_asm)) ?_
  intro d h1 od F2 N2 l1 lo1 D1 _ _ _
  dsimp only
  have b1 : (LF + 1 + 1 + 1 : Nat) < d := l1 _ (.head _)
  have bL : ∀ p ∈ news, ∀ j : Nat, p.1 ≠ LF + j := fun p hp j => Nat.ne_of_lt (Nat.lt_of_lt_of_le (lF p hp) (Nat.le_add_right _ _))
  have bd : ∀ p ∈ news, p.1 ≠ d := fun p hp => Nat.ne_of_lt (l1 p (.tail _ (.tail _ (.tail _ hp))))
  refine storeX_C F2 N2 (c := LF + 1 + 1) rfl (.tail (Nat.ne_of_gt (Nat.lt_trans (Nat.lt_succ_self _) b1)) (.tail (Nat.ne_of_gt (Nat.lt_succ_self _)) (.head fun p hp => ?_))) eR' ?_
  · rcases List.mem_cons.mp hp with rfl | hp
    · exact Nat.ne_of_lt (Nat.lt_succ_self _)
    · exact bL p hp 2
  intro h3 oR2 F3 N3 eR2
  dsimp only
  clear F2 N2 F1 N0
  k_steps
  refine wpAny_For ?_
  k_steps
  refine iter_str (J := fun i m' nw => ∃ (lt : List (Nat × Nat × Tok)) (od oN : Obj) (vN : Option Value), nw = (d, od) :: (LF + 1 + 1 + 1, oN) :: (LF + 1 + 1, oR2) :: (LF + 1, oO) :: news ∧ od.IsDictOf (PySem.strKind PrC w) (kvM lt) ∧ oN.data = .cell vN ∧
      lt.map pl2 = mailR op (cl.take i) ∧ m' (Str.ofString "end") = some (.str ⟨sep.toArray⟩ t3)) rfl F3 N3 (fun c hc => by have := hcl c hc; unfold low at this; simp at this; omega) ?_ ?_ ?_
  · exact ⟨[], od, oN, none, rfl, D1, eN', rfl, rfl⟩
  · rintro i c tc m' nw I oI g h tk E' hci ⟨lt, od, oN, vN, rfl, P1, eN, hlt, hm1⟩ off F7 N7
    have hlc : low c = true := hcl c (List.mem_of_getElem? hci)
    have hId : d ≠ I := off _ (.head _)
    have hIN : (LF + 1 + 1 + 1 : Nat) ≠ I := off _ (.tail _ (.head _))
    rw [map_know hm1] at F7
    refine abs_turn fun TP hTP => ?_
    refine wpAny_assign_Name ?_
    refine storeX_C F7 N7 (c := LF + 1 + 1 + 1) rfl (.tail hIN.symm (.tail (Nat.ne_of_gt b1) (.head fun p hp => ?_))) eN ?_
    · rcases List.mem_cons.mp hp with rfl | hp
      · exact Nat.ne_of_lt (Nat.lt_succ_self _)
      rcases List.mem_cons.mp hp with rfl | hp
      · exact Nat.ne_of_lt (Nat.lt_trans (Nat.lt_succ_self _) (Nat.lt_succ_self _))
      · exact bL p hp 3
    intro h8 oN8 F8 N8 eN8
    dsimp only
    clear F7 N7
    k_steps
    rename Fr _ _ _ _ => F9
    k_dflt (refine assign_compT_dict (F₀ := F9) (by rfl) (by with_unfolding_all rfl) (by with_unfolding_all rfl) (by decide) (by rfl) (by decide) (by rfl) (by rfl) (by rfl) ?_)
    k_steps
    rename Fr _ _ _ _ => F10
    rename News _ _ _ _ => N10
    have hkeys : (lt.map pl2).map (·.1) = cl.take i := by rw [hlt]; exact (mailF_keys op (cl.take i) []).trans rfl
    have hltl : lt.length ≤ 5 := by
      have := congrArg List.length hkeys
      simp only [List.length_map, List.length_take] at this
      omega
    unfold Held
    refine ⟨d, od, kvM lt, _, fun j ys => StrsAre ys ((laterOf op ((lt.map pl2).take j) c).map oneS), rfl, rfl, F10, N10, .tail _ (.head _), lo1, P1, by unfold kvM; rw [List.length_map]; omega, .nil, ?_, ?_⟩
    · rintro j ys k v tk' I2 oI2 C2 oC2 D2 m₂ g2 h9 tk9 E9 hkv hJ hn2 hm2 F11 N11 off2 ne2
      obtain ⟨o, dd, tt, hlo, rfl, rfl⟩ := kvM_get hkv
      have hlow : low o = true := by
        have : o ∈ cl.take i := by rw [← hkeys, List.map_map]; exact List.mem_map.mpr ⟨_, List.mem_of_getElem? hlo, rfl⟩
        exact hcl o (List.mem_of_mem_take this)
      have hls := later_snoc (op := op) (l := lt.map pl2) (i := j) (c := c) (e := (o, dd)) (by rw [List.getElem?_map, hlo]; rfl)
      k_steps
      rw [want2]
      rename News _ _ _ _ => N12
      k_dflt (refine' Claim.use (ell_claim w _ [c, o] op (want_ok2 c (low_mem hlc) o (low_mem hlow)) (by simp) (by omega) _ _) ?k1 ?k2 ?k3 N12 ?k5 ?kK ?kd ?ku ?_)
      (case k1 => k_asm); (case k2 => k_asm); (case k3 => k_asm); (case k5 => k_asm); (case kK => exact rfl); (case kd => ktr_room); (case ku => ktr_units)
      rintro r13 nw13 h13 tk13 ⟨rfl, rfl⟩ F13 N13
      dsimp only
      cases hb : isub [c, o] op with
      | true =>
        k_steps
        rename Fr _ _ _ _ => F14
        rename News _ _ _ _ => N14
        refine CE.intro F14 N14 (fun p hp => hp) ?_
        rw [hls, if_pos hb, List.map_append]
        exact strsAre_snoc hJ (oneS o) tk'
      | false =>
        k_steps
        rename Fr _ _ _ _ => F14
        rename News _ _ _ _ => N14
        refine CE.intro F14 N14 (fun p hp => hp) ?_
        rw [hls, if_neg (by rw [hb]; exact Bool.false_ne_true), List.append_nil]
        exact hJ
    · intro ys g9 hJ
      obtain ⟨R, hR⟩ : ∃ R, R = lt.map pl2 := ⟨_, rfl⟩
      obtain ⟨LA, hLA⟩ : ∃ LA, LA = laterOf op R c := ⟨_, rfl⟩
      have hSl : StrsAre ys (LA.map oneS) := by
        have e : (lt.map pl2).take (kvM lt).length = R := by rw [hR]; exact List.take_of_length_le (by unfold kvM; simp)
        rw [e, ← hLA] at hJ; exact hJ
      have hLAl : LA.length ≤ 5 := by
        rw [hLA]; unfold laterOf
        rw [List.length_map]
        have := List.length_filter_le (fun e => isub [c, e.1] op) R
        have h2 : R.length = lt.length := by rw [hR, List.length_map]
        omega
      have hyl : ys.length = LA.length := by rw [hSl.length, List.length_map]
      have hin : ∀ o ∈ LA, o ∈ R.map (·.1) := fun o ho => by
        rw [hLA] at ho; unfold laterOf at ho
        obtain ⟨e, he, rfl⟩ := List.mem_map.mp ho
        exact List.mem_map_of_mem (List.mem_filter.mp he).1
      have hlowR : ∀ o ∈ R.map (·.1), low o = true := fun o ho => by
        rw [hR, hkeys] at ho
        exact hcl o (List.mem_of_mem_take ho)
      intro D h10 tk10 F15 N15 off15
      dsimp only
      k_steps
      rename Fr _ _ _ _ => F16
      k_dflt (refine LCg.ListComp_U (F₀ := F16) (by with_unfolding_all rfl) (by decide) (by rfl) (by decide) (by rfl) ?_)
      k_steps
      rename Fr _ _ _ _ => F17
      rename News _ _ _ _ => N17
      refine compU_list (fun j ys => StrsAre ys ((LA.take j).map fun o => rowS (dotAt R o) o)) rfl F17 N17 (.head _) (by rw [List.size_toArray, sizeLine_eq]; omega) .nil ?_ ?_
      · rintro j ys2 v I2 oI2 C2 oC2 D2 m₂ g2 h9 tk9 E9 hv hJ2 hn2 hm2 F18 N18 off2 ne2
        obtain ⟨y, ty, rfl, hy⟩ := hSl.item j v (by simpa using hv)
        obtain ⟨o, ho, rfl⟩ : ∃ o, LA[j]? = some o ∧ y = ⟨#[o]⟩ := by
          rw [List.getElem?_map] at hy
          obtain ⟨o, ho, q⟩ := Option.map_eq_some_iff.mp hy
          exact ⟨o, ho, q.symm⟩
        obtain ⟨tv, hva⟩ := kvM_at (l := lt) (c := o) (d := dotAt R o) (by rw [← hR]) (hasP_mem.mpr (by rw [← hR]; exact hin o (List.mem_of_getElem? ho)))
        k_steps
        rename News _ _ _ _ => N19
        refine kda_item (knd := PySem.strKind _ _) N19 (by k_mem) P1 (strKind_is _ _ _ _) hva ?_
        try dsimp only
        k_steps
        rename Fr _ _ _ _ => F20
        rename News _ _ _ _ => N20
        refine CE.intro F20 N20 (fun p hp => hp) ?_
        rw [List.take_add_one, ho, List.map_append]
        exact strsAre_snoc hJ2 (rowS (dotAt R o) o) tv
      · intro ys2 g10 hJ2
        rw [List.size_toArray, hyl, List.take_length] at hJ2
        intro D2 h11 tk11 F21 N21 off21
        dsimp only
        k_steps
        obtain ⟨RW, hRW⟩ : ∃ RW, RW = LA.map fun o => rowD (dotAt R o) o := ⟨_, rfl⟩
        have hRWl : RW.length = LA.length := by rw [hRW, List.length_map]
        have hbnd : ∀ o ∈ LA, 1 ≤ dotAt R o ∧ dotAt R o ≤ 5 := fun o ho => by
          obtain ⟨e, he, rfl⟩ := List.mem_map.mp (hin o ho)
          have hb := mailF_bd op (cl.take i) [] 0 (fun _ h => nomatch h) (.inl rfl)
          have hm : dotAt R e.1 = e.2 := dotAt_nodup (by rw [hR, hkeys]; exact hnd.sublist (List.take_sublist _ _)) he
          rw [hR, hlt] at he
          have := hb e he
          rw [hm]
          have h5 : (cl.take i).length ≤ 5 := by rw [List.length_take]; omega
          omega
        have hplain : ∀ r ∈ RW, plainRow r := fun r hr => by
          rw [hRW] at hr
          obtain ⟨o, ho, rfl⟩ := List.mem_map.mp hr
          exact rowD_plain (hbnd o ho).1 (hlowR o (hin o ho))
        have hlen20 : ∀ r ∈ RW, r.length ≤ 20 := fun r hr => by
          rw [hRW] at hr
          obtain ⟨o, ho, rfl⟩ := List.mem_map.mp hr
          have := hbnd o ho
          unfold rowD; simp; omega
        have hJ3 : StrsAre ys2 (RW.map strS) := by rw [hRW, List.map_map]; exact hJ2
        have hwt : ((RW.map strS).map (·.length)).sum + (RW.map strS).length * (⟨sep.toArray⟩ : Str).length ≤ 16777216 := by
          have h1 : ((RW.map strS).map (·.length)).sum ≤ (RW.map strS).length * 20 := StrLaws.sumLen_le _ fun y hy => by
            obtain ⟨r, hr, rfl⟩ := List.mem_map.mp hy
            have := hlen20 r hr
            unfold strS Str.length; rw [List.size_toArray]; exact this
          have h2 : (⟨sep.toArray⟩ : Str).length ≤ 2 := by unfold Str.length; rcases hsep with rfl | rfl | rfl <;> decide
          have h3 : (RW.map strS).length ≤ 5 := by rw [List.length_map]; omega
          have h4 := Nat.mul_le_mul h3 h2
          have h5 := Nat.mul_le_mul_right 20 h3
          omega
        rename News _ _ _ _ => N22
        refine join_list (x := ⟨sep.toArray⟩) ⟨_, (N22 (D2, LCg.lst ys2) (.head _)).1, rfl, _, rfl⟩ hJ3 hwt ?_
        intro t23 tk23
        rw [join_jn]
        dsimp only
        k_steps
        rename News _ _ _ _ => N24
        k_dflt (refine' Claim.use (quote_claim w _ sep hsep RW hplain hlen20 (by omega) _) ?k1 ?k2 ?k3 N24 ?k5 ?kK ?kd ?ku ?_)
        (case k1 => k_asm); (case k2 => k_asm); (case k3 => k_asm); (case k5 => k_asm); (case kK => exact rfl); (case kd => ktr_room); (case ku => ktr_units)
        rintro r25 nw25 h25 tk25 ⟨⟨t25, rfl⟩, rfl⟩ F25 N25
        dsimp only
        k_steps
        rename Fr _ _ _ _ => F26
        rename News _ _ _ _ => N26
        refine KSpl.split1 F26 N26 (by rw [show Str.ofString "\r\n" = ⟨#[13, 10]⟩ from by decide +kernel]; decide) ?_ (by
          have := jn_len [13, 10] (by decide) (B := 21) (RW.map (46 :: ·)) (fun r hm => by
            obtain ⟨q, hq, rfl⟩ := List.mem_map.mp hm
            have := hlen20 q hq
            simp only [List.length_cons]; omega)
          rw [List.length_map] at this
          have h2 := Nat.mul_le_mul_right 23 (show RW.length ≤ 5 by omega)
          rw [sizeLine_eq]; unfold Str.length; rw [List.size_toArray]; omega)
        intro D3 l3 h27 k27 hl3 hS3 F27 N27 lo3
        rw [show Str.ofString "\r\n" = ⟨#[13, 10]⟩ from by decide +kernel] at hl3
        obtain ⟨SN, hSN⟩ : ∃ SN, SN = l3.length := ⟨_, rfl⟩
        have hSNl : LA.length ≤ SN ∧ (LA.length = 0 → SN = 1) ∧ SN ≤ 10 := by
          have e : SN = (l3.map (·.1)).length := by rw [hSN, List.length_map]
          rw [hl3] at e
          cases hcz : RW with
          | nil =>
            rw [hcz] at e
            have e1 : (Txt.split ⟨(jn [13, 10] (([] : List (List Nat)).map (46 :: ·))).toArray⟩ ⟨#[13, 10]⟩).length = 1 := by decide +kernel
            rw [e1] at e
            rw [hcz, List.length_nil] at hRWl
            omega
          | cons r rows =>
            rw [hcz, List.map_cons, split_jn (46 :: r) (rows.map (46 :: ·)) ?_] at e
            · have : SN = LA.length := by rw [e, ← hRWl, hcz]; simp
              rw [hcz, List.length_cons] at hRWl
              omega
            · intro q hq x hx
              rw [← List.map_cons (f := fun z => 46 :: z)] at hq
              obtain ⟨z, hz, rfl⟩ := List.mem_map.mp hq
              rcases List.mem_cons.mp hx with rfl | hx
              · decide
              · obtain ⟨_, _, _, hno⟩ := hplain z (by rw [hcz]; exact hz)
                exact (hno x hx).2
        dsimp only
        k_steps
        refine wpAny_For ?_
        k_steps
        rename News _ _ _ _ => N28
        refine len_led (k := LA.length) N28 (by k_mem) (by rw [List.size_toArray]; exact hyl) (by omega) ?_
        intro tl tkl
        dsimp only
        k_steps
        rename News _ _ _ _ => N29
        refine len_led (k := SN) N29 (by k_mem) (by rw [List.size_toArray, hSN]; unfold strValues; rw [List.length_map]) (by omega) ?_
        intro tl2 tkl2
        dsimp only
        k_steps
        rename Fr _ _ _ _ => F30
        rename News _ _ _ _ => N30
        refine min_two_N rfl F30 N30 ?_
        intro h31 tk31 F31 N31
        rw [if_neg (by omega)]
        try dsimp only
        k_steps
        rename Fr _ _ _ _ => F32
        rename News _ _ _ _ => N32
        rename IsRange _ _ _ _ _ _ _ _ => hr
        have hRn : (R.map (·.1)).Nodup := by rw [hR, hkeys]; exact hnd.sublist (List.take_sublist _ _)
        have hLAn : LA.Nodup := by rw [hLA]; exact hRn.sublist (List.Sublist.map _ List.filter_sublist)
        have nD : D ≠ d := fun e => off15.2.1 e.symm
        have nD2 : D2 ≠ d := fun e => off21.2.2.1 e.symm
        have nD3 : D3 ≠ d := Nat.ne_of_gt (lo3 _ (.tail _ (.tail _ (.tail _ (.head _)))))
        have restd : ∀ p ∈ (LF + 1 + 1 + 1, oN8) :: (LF + 1 + 1, oR2) :: (LF + 1, oO) :: news, p.1 ≠ d := fun p hp => by
          rcases List.mem_cons.mp hp with rfl | hp
          · exact Nat.ne_of_lt b1
          rcases List.mem_cons.mp hp with rfl | hp
          · exact Nat.ne_of_lt (Nat.lt_trans (Nat.lt_succ_self _) b1)
          rcases List.mem_cons.mp hp with rfl | hp
          · exact Nat.ne_of_lt (Nat.lt_trans (Nat.lt_trans (Nat.lt_succ_self _) (Nat.lt_succ_self _)) b1)
          · exact bd p hp
        refine iter_range (n := LA.length) (J := fun k m' nw => ∃ (lt' : List (Nat × Nat × Tok)) (od' : Obj), nw = (D3, listOf (strValues l3).toArray 0) :: (D2, LCg.lst ys2) :: (D, LCg.lst ys) :: (I, oI) :: (d, od') :: (LF + 1 + 1 + 1, oN8) :: (LF + 1 + 1, oR2) :: (LF + 1, oO) :: news ∧
            od'.IsDictOf (PySem.strKind PrC w) (kvM lt') ∧ lt'.map pl2 = R.map (fun e => if (LA.take k).contains e.1 then (e.1, e.2 + 1) else e) ∧ m' (Str.ofString "end") = some (.str ⟨sep.toArray⟩ t3) ∧ m' (Str.ofString "later") = some (.ref D) ∧ m' (Str.ofString "sent") = some (.ref D3)) rfl F32 N32 hr (small_nat (by omega)) (rsize_nat _) ?_ ?_ ?_
        · exact ⟨lt, od, rfl, P1, by rw [← hR]; simp, rfl, rfl, rfl⟩
        · rintro k tv m'' nw I3 oI3 g4 h4 tk4 E4 hk ⟨lt', od', rfl, P2, hlt', hm4, hm5, hm6⟩ off4 F33 N33
          obtain ⟨o, ho⟩ : ∃ o, LA[k]? = some o := ⟨LA[k]'hk, by simp [hk]⟩
          obtain ⟨tl3, hyo⟩ := oneS_at hSl ho
          have hRne : ∃ r rows, RW = r :: rows := by
            cases hcz : RW with
            | nil => rw [hcz, List.length_nil] at hRWl; omega
            | cons r rows => exact ⟨r, rows, rfl⟩
          obtain ⟨r0, rows0, hcz⟩ := hRne
          have hl4 : l3.map (·.1) = (RW.map (46 :: ·)).map strS := by
            rw [hl3, hcz, List.map_cons]
            exact split_jn (46 :: r0) (rows0.map (46 :: ·)) (fun q hq x hx => by
              rw [← List.map_cons (f := fun z => 46 :: z)] at hq
              obtain ⟨z, hz, rfl⟩ := List.mem_map.mp hq
              rcases List.mem_cons.mp hx with rfl | hx
              · decide
              · obtain ⟨_, _, _, hno⟩ := hplain z (by rw [hcz]; exact hz)
                exact (hno x hx).2)
          obtain ⟨ts3, hso⟩ := hS3.get k (rowS (dotAt R o + 1) o) (by
            rw [hl4, hRW, List.map_map, List.map_map, List.getElem?_map, ho]
            show some (strS (46 :: rowD (dotAt R o) o)) = some (rowS (dotAt R o + 1) o)
            unfold rowS rowD
            rw [List.replicate_succ]; rfl)
          have hI3 : ∀ p ∈ (D3, listOf (strValues l3).toArray 0) :: (D2, LCg.lst ys2) :: (D, LCg.lst ys) :: (I, oI) :: (d, od') :: (LF + 1 + 1 + 1, oN8) :: (LF + 1 + 1, oR2) :: (LF + 1, oO) :: news, p.1 ≠ I3 := off4
          have hdI3 : d ≠ I3 := off4 _ (.tail _ (.tail _ (.tail _ (.tail _ (.head _)))))
          have hoR : o ∈ R.map (·.1) := hin o (List.mem_of_getElem? ho)
          have hkl : (kvM lt').length ≤ sizeLine := by
            have e := congrArg List.length hlt'
            rw [List.length_map, List.length_map] at e
            have e2 : R.length = lt.length := by rw [hR, List.length_map]
            unfold kvM; rw [List.length_map, sizeLine_eq]; omega
          rw [Int.zero_add]
          rw [map_know hm4, map_know hm5, map_know hm6] at F33
          refine abs_turn fun TP hTP => ?_
          refine wpAny_assign_Name ?_
          k_steps
          rename News _ _ _ _ => N34
          refine item_led N34 (by k_mem) (by omega) (by omega) (by simpa using hso) ?_
          try dsimp only
          k_steps
          rename News _ _ _ _ => N35
          refine item_led N35 (by k_mem) (by omega) (by omega) (by simpa using hyo) ?_
          try dsimp only
          k_steps
          rename Fr _ _ _ _ => F36
          rename News _ _ _ _ => N36
          refine kda_set (knd := PySem.strKind _ _) F36 N36 (.tail hdI3.symm (.tail nD3 (.tail nD2 (.tail nD (.tail hId.symm (.head restd)))))) P2 (strKind_is _ _ _ _) hkl ?_
          intro h37 od3 F37 N37 P3
          dsimp only
          rw [kvM_stored] at P3
          k_steps
          rename Fr _ _ _ _ => F38
          rename News _ _ _ _ => N38
          refine hTP (f := .next) (Tn.intro _ F38 N38 (fun p hp => hp) (fun p hp => ?_) ⟨_, od3, rfl, P3, ?_, rfl, rfl, rfl⟩)
          · simp only [List.mem_cons] at hp
            rcases hp with rfl | rfl | rfl | rfl | rfl | hp
            · exact off4 _ (.head _)
            · exact off4 _ (.tail _ (.head _))
            · exact off4 _ (.tail _ (.tail _ (.head _)))
            · exact off4 _ (.tail _ (.tail _ (.tail _ (.head _))))
            · exact hdI3
            · exact off4 p (.tail _ (.tail _ (.tail _ (.tail _ (.tail _ (show p ∈ (LF + 1 + 1 + 1, oN8) :: (LF + 1 + 1, oR2) :: (LF + 1, oO) :: news from by simp only [List.mem_cons]; exact hp))))))
          · have htk : LA.take (k + 1) = LA.take k ++ [o] := by rw [List.take_add_one, ho]; rfl
            have hno : o ∉ LA.take k := fun hm => by
              have := hLAn
              rw [← List.take_append_drop (k + 1) LA, htk] at this
              have h2 := (List.nodup_append.mp (List.nodup_append.mp this).1).2.2
              exact h2 o hm o (.head _) rfl
            rw [htk, nodup_put hRn _ hno, ← hlt']
            unfold putM
            have hh : hasP (lt'.map pl2) o = true := by
              rw [hasP_mem, hlt', List.map_map]
              obtain ⟨e, he, rfl⟩ := List.mem_map.mp hoR
              refine List.mem_map.mpr ⟨e, he, ?_⟩
              show (if _ then _ else _ : Nat × Nat).1 = _
              split <;> rfl
            rw [if_pos hh, List.map_map, List.map_map]
            refine List.map_congr_left fun e _ => ?_
            show pl2 (if e.1 = o then _ else e) = if e.1 = o then _ else _
            split <;> rfl
        · rintro m'' nw h4 tk4 ⟨lt', od', rfl, P2, hlt', hm4, hm5, hm6⟩ F33 N33
          have hkl : (kvM lt').length ≤ sizeLine := by
            have e := congrArg List.length hlt'
            rw [List.length_map, List.length_map] at e
            have e2 : R.length = lt.length := by rw [hR, List.length_map]
            unfold kvM; rw [List.length_map, sizeLine_eq]; omega
          rw [List.take_length] at hlt'
          rw [map_know hm4] at F33
          dsimp only
          k_steps
          rw [row1]
          rename Fr _ _ _ _ => F36
          rename News _ _ _ _ => N36
          refine kda_set (knd := PySem.strKind _ _) F36 N36 (.tail nD3 (.tail nD2 (.tail nD (.tail hId.symm (.head restd))))) P2 (strKind_is _ _ _ _) hkl ?_
          intro h37 od3 F37 N37 P3
          dsimp only
          rw [kvM_stored] at P3
          k_steps
          rename Fr _ _ _ _ => F38
          rename News _ _ _ _ => N38
          have hcn : hasP (lt'.map pl2) c = false := by
            rw [hasP_not, hlt', List.map_map]
            have e : R.map ((fun x => x.1) ∘ fun e : Nat × Nat => if LA.contains e.1 = true then (e.1, e.2 + 1) else e) = R.map (·.1) := List.map_congr_left fun e _ => by
              show (if _ then _ else _ : Nat × Nat).1 = _
              split <;> rfl
            rw [e, hR, hkeys]
            intro hm
            have := hnd
            rw [← List.take_append_drop i cl, List.drop_eq_getElem_cons (List.getElem?_eq_some_iff.mp hci).1, (List.getElem?_eq_some_iff.mp hci).2] at this
            exact (List.nodup_append.mp this).2.2 c hm c (.head _) rfl
          refine hTP (f := .next) (Tn.intro ((d, od3) :: (LF + 1 + 1 + 1, oN8) :: (LF + 1 + 1, oR2) :: (LF + 1, oO) :: news) F38 N38 (fun p hp => ?_) (fun p hp => ?_) ⟨_, od3, oN8, _, rfl, P3, eN8, ?_, rfl⟩)
          · simp only [List.mem_cons] at hp ⊢
            rcases hp with q | q | q | q | q | q <;> simp [q]
          · simp only [List.mem_cons] at hp
            rcases hp with rfl | rfl | rfl | rfl | hp
            · exact hId
            · exact hIN
            · exact off _ (.tail _ (.tail _ (.head _)))
            · exact off _ (.tail _ (.tail _ (.tail _ (.head _))))
            · exact off _ (.tail _ (.tail _ (.tail _ (.tail _ hp))))
          · have htk : cl.take (i + 1) = cl.take i ++ [c] := by rw [List.take_add_one, hci]; rfl
            have e : mailR op (cl.take (i + 1)) = mailS op (mailR op (cl.take i)) c := by unfold mailR; rw [htk, List.foldl_append]; rfl
            rw [e, ← hlt, ← hR, mailS_later, ← hLA, ← hlt']
            unfold putM
            rw [hcn, if_neg Bool.false_ne_true, List.map_append]; rfl
  · rintro m' nw h tk ⟨lt, od, oN, vN, rfl, P1, eN, hlt, hm1⟩ F7 N7
    rw [List.take_length] at hlt
    dsimp only
    k_steps
    rename Fr _ _ _ _ => F8
    k_dflt (refine comp_str (F₀ := F8) (by with_unfolding_all rfl) (by decide) (by rfl) (by decide) (by rfl) ?_)
    k_steps
    rename Fr _ _ _ _ => F9
    rename News _ _ _ _ => N9
    unfold Held
    refine ⟨op, _, _, fun j ys => StrsAre ys ((op.take j).map fun c => rowS (dotAt (mailR op cl) c) c), rfl, rfl, F9, N9, by omega, fun c hc => by have := hop c hc; unfold low at this; simp at this; omega, .nil, ?_, ?_⟩
    · rintro j ys c tc I oI C oC D m₂ g' h9 tk9 E9 hc hJ hn2 hm2 F10 N10 off2 ne2
      have hcm : c ∈ (lt.map pl2).map (·.1) := by
        rw [hlt]
        have := mailF_keys op cl []
        unfold mailR
        rw [this]
        exact hoc c (List.mem_of_getElem? hc)
      obtain ⟨tv, hva⟩ := kvM_at (l := lt) (c := c) (d := dotAt (mailR op cl) c) (by rw [hlt]) (hasP_mem.mpr hcm)
      k_steps
      rename News _ _ _ _ => N19
      refine kda_item (knd := PySem.strKind _ _) N19 (by k_mem) P1 (strKind_is _ _ _ _) hva ?_
      try dsimp only
      k_steps
      rename Fr _ _ _ _ => F20
      rename News _ _ _ _ => N20
      refine CE.intro F20 N20 (fun p hp => hp) ?_
      rw [List.take_add_one, hc, List.map_append]
      exact strsAre_snoc hJ (rowS (dotAt (mailR op cl) c) c) tv
    · intro ys g' hJ
      rw [List.take_length] at hJ
      intro D h10 tk10 F11 N11 off11
      dsimp only
      k_steps
      rename News _ _ _ _ => N12
      refine hret (.ref D) ((D, listOf ys.toArray ys.length) :: news) _ _ ⟨D, _, ys, rfl, rfl, fun p hp => ?_, hJ⟩ (by assumption) (fun p hp => N12 p ?_)
      · exact off1_mem off11 p (.tail _ (.tail _ (.tail _ (.tail _ hp))))
      · rcases List.mem_cons.mp hp with rfl | hp
        · exact .head _
        · exact .tail _ (.tail _ (.tail _ (.tail _ (.tail _ hp))))

-- P2
/-! the plain law of the tables -/
theorem find_none_iff {t : List (Nat × Nat)} {x : Nat} : hasP t x = false ↔ t.find? (fun e => e.1 == x) = none := by
  unfold hasP
  rw [List.find?_eq_none, List.any_eq_false]
def gK (cs : List Nat) (k : Nat) : Nat × Nat := (cs.getD k 0, 48 + k)
theorem gK_app {cs : List Nat} {c k : Nat} (h : k < cs.length) : gK (cs ++ [c]) k = gK cs k := by
  unfold gK; rw [List.getD_eq_getElem?_getD, List.getD_eq_getElem?_getD, List.getElem?_append_left h]
theorem gK_new (cs : List Nat) (c : Nat) : gK (cs ++ [c]) cs.length = (c, 48 + cs.length) := by
  unfold gK; rw [List.getD_eq_getElem?_getD, List.getElem?_append_right (Nat.le_refl _)]; simp
theorem getD_app {cs : List Nat} {c k : Nat} (h : k < cs.length) : (cs ++ [c]).getD k 0 = cs.getD k 0 := by
  rw [List.getD_eq_getElem?_getD, List.getD_eq_getElem?_getD, List.getElem?_append_left h]
theorem getD_new (cs : List Nat) (c : Nat) : (cs ++ [c]).getD cs.length 0 = c := by
  rw [List.getD_eq_getElem?_getD, List.getElem?_append_right (Nat.le_refl _)]; simp
/-- what holds of the runs -/
structure RunsOk (cs : List Nat) (ks : List Nat) : Prop where
  t1 : (runT cs).1 = (runB cs).map fun e => gK cs e.2
  b : ∀ e ∈ runB cs, e.2 < cs.length ∧ lowC (cs.getD e.2 0) = e.1
  bk : ((runB cs).map (·.1)).Nodup
  bs : ((runB cs).map (·.2)).Pairwise (· < ·)
  td : (runT cs).2.2 = cs.map fun c => 48 + dotAt (runB cs) (lowC c)
  hs : ∀ c ∈ cs, hasP (runB cs) (lowC c) = true
  t2 : (runT cs).2.1 = ks.map (gK cs)
  kss : ks.Pairwise (· < ·)
  kl : ∀ k ∈ ks, k < cs.length
  kp : ks.Perm ((runE cs).map (·.2))
  e : ∀ e ∈ runE cs, e.2 < cs.length ∧ lowC (cs.getD e.2 0) = e.1
  ek : (runE cs).map (·.1) = (runB cs).map (·.1)
theorem dotAt_app {t : List (Nat × Nat)} {p : Nat × Nat} {x : Nat} (h : hasP t x = true) : dotAt (t ++ [p]) x = dotAt t x := by
  unfold dotAt
  rw [List.find?_append]
  cases hf : t.find? (fun e => e.1 == x) with
  | none => rw [find_none_iff.mpr hf] at h; cases h
  | some e => rfl
theorem dotAt_last {t : List (Nat × Nat)} {p : Nat × Nat} (h : hasP t p.1 = false) : dotAt (t ++ [p]) p.1 = p.2 := by
  unfold dotAt
  rw [List.find?_append, find_none_iff.mp h]
  simp
theorem lookC_runB {cs : List Nat} {t : List (Nat × Nat)} (hb : ∀ e ∈ t, e.2 < cs.length ∧ lowC (cs.getD e.2 0) = e.1) (c : Nat) :
    (hasP t (lowC c) = true ∧ lookC (t.map fun e => gK cs e.2) c = some (48 + dotAt t (lowC c))) ∨ (hasP t (lowC c) = false ∧ lookC (t.map fun e => gK cs e.2) c = none) := by
  have e1 : (t.map fun e => gK cs e.2).find? (fun q => lowC q.1 == lowC c) = (t.find? fun e => e.1 == lowC c).map fun e => gK cs e.2 := by
    rw [List.find?_map]
    congr 1
    induction t with
    | nil => rfl
    | cons a t ih =>
      rw [List.find?_cons, List.find?_cons]
      have : ((fun q : Nat × Nat => lowC q.1 == lowC c) ∘ fun e : Nat × Nat => gK cs e.2) a = (a.1 == lowC c) := by
        show (lowC (cs.getD a.2 0) == lowC c) = _
        rw [(hb a (.head _)).2]
      rw [this, ih fun e he => hb e (.tail _ he)]
  unfold lookC
  rw [e1]
  cases hf : t.find? (fun e => e.1 == lowC c) with
  | none => exact .inr ⟨find_none_iff.mpr hf, rfl⟩
  | some e =>
    refine .inl ⟨?_, ?_⟩
    · cases hh : hasP t (lowC c) with
      | true => rfl
      | false => rw [find_none_iff.mp hh] at hf; cases hf
    · unfold dotAt; rw [hf]; rfl
theorem repl_perm (x n : Nat) : ∀ (t : List (Nat × Nat)), (t.map (·.1)).Nodup → x ∈ t.map (·.1) → ((t.map fun e => if e.1 = x then n else e.2)).Perm ((t.filter fun e => e.1 != x).map (·.2) ++ [n])
  | [], _, h => nomatch h
  | a :: t, hn, hx => by
    rw [List.map_cons, List.nodup_cons] at hn
    by_cases q : a.1 = x
    · have hno : ∀ e ∈ t, e.1 ≠ x := fun e he h => hn.1 (by rw [q, ← h]; exact List.mem_map_of_mem he)
      have e1 : (t.map fun e => if e.1 = x then n else e.2) = t.map (·.2) := List.map_congr_left fun e he => if_neg (hno e he)
      have e2 : (t.filter fun e => e.1 != x) = t := List.filter_eq_self.mpr fun e he => by simpa using hno e he
      rw [List.map_cons, if_pos q, e1, List.filter_cons_of_neg (by simp [q]), e2]
      exact (List.perm_append_singleton n _).symm
    · rw [List.map_cons, if_neg q, List.filter_cons_of_pos (by simp [q]), List.map_cons, List.cons_append]
      refine List.Perm.cons _ (repl_perm x n t hn.2 ?_)
      rw [List.map_cons] at hx
      rcases List.mem_cons.mp hx with h | h
      · exact absurd h.symm q
      · exact h
theorem runs_snoc {cs ks : List Nat} (R : RunsOk cs ks) (c : Nat) : ∃ ks', RunsOk (cs ++ [c]) ks' := by
  have hgB : (runB cs).map (fun e => gK (cs ++ [c]) e.2) = (runB cs).map fun e => gK cs e.2 := List.map_congr_left fun e he => gK_app (R.b e he).1
  have hbx : ∀ e ∈ runB cs, e.2 < (cs ++ [c]).length ∧ lowC ((cs ++ [c]).getD e.2 0) = e.1 := fun e he => by
    have := R.b e he
    refine ⟨by rw [List.length_append]; exact Nat.lt_add_right _ this.1, ?_⟩
    rw [getD_app this.1]; exact this.2
  have hex : ∀ e ∈ runE cs, e.2 < (cs ++ [c]).length ∧ lowC ((cs ++ [c]).getD e.2 0) = e.1 := fun e he => by
    have := R.e e he
    refine ⟨by rw [List.length_append]; exact Nat.lt_add_right _ this.1, ?_⟩
    rw [getD_app this.1]; exact this.2
  have hnew : (cs.length < (cs ++ [c]).length) ∧ lowC ((cs ++ [c]).getD cs.length 0) = lowC c := ⟨by simp, by rw [getD_new]⟩
  have hlk := lookC_runB R.b c
  rw [← R.t1] at hlk
  have hhE : hasP (runE cs) (lowC c) = hasP (runB cs) (lowC c) := by
    rw [Bool.eq_iff_iff, hasP_mem, hasP_mem, R.ek]
  -- the last touches
  have hks : ∃ ks' : List Nat, (runT (cs ++ [c])).2.1 = ks'.map (gK (cs ++ [c])) ∧ ks'.Pairwise (· < ·) ∧ (∀ k ∈ ks', k < (cs ++ [c]).length) ∧ ks'.Perm ((runE (cs ++ [c])).map (·.2)) := by
    refine ⟨ks.filter (fun k => lowC (cs.getD k 0) != lowC c) ++ [cs.length], ?_, ?_, ?_, ?_⟩
    · rw [runT_snoc]
      show stepL (runT cs).2.1 (c, 48 + cs.length) = _
      unfold stepL
      rw [R.t2, List.filter_map, List.map_append, List.map_cons, List.map_nil, gK_new]
      congr 1
      exact List.map_congr_left fun k hk => (gK_app (R.kl k (List.mem_filter.mp hk).1)).symm
    · rw [List.pairwise_append]
      refine ⟨R.kss.sublist List.filter_sublist, List.pairwise_singleton _ _, fun a ha b hb => ?_⟩
      rw [List.mem_singleton.mp hb]
      exact R.kl a (List.mem_filter.mp ha).1
    · intro k hk
      rw [List.length_append]
      rcases List.mem_append.mp hk with h | h
      · exact Nat.lt_add_right _ (R.kl k (List.mem_filter.mp h).1)
      · rw [List.mem_singleton.mp h]; simp
    · have h1 : (ks.filter fun k => lowC (cs.getD k 0) != lowC c).Perm (((runE cs).filter fun e => e.1 != lowC c).map (·.2)) := by
        have := R.kp.filter (fun k => lowC (cs.getD k 0) != lowC c)
        rw [List.filter_map] at this
        refine this.trans (List.Perm.of_eq ?_)
        congr 1
        refine List.filter_congr fun e he => ?_
        show (lowC (cs.getD e.2 0) != lowC c) = _
        rw [(R.e e he).2]
      rw [runE_snoc]
      refine (h1.append_right [cs.length]).trans ?_
      unfold endS
      cases hh : hasP (runE cs) (lowC c) with
      | true =>
        have hm := hasP_mem.mp hh
        have hp := repl_perm (lowC c) cs.length (runE cs) (by rw [R.ek]; exact R.bk) hm
        refine hp.symm.trans (List.Perm.of_eq ?_)
        show _ = ((runE cs).map fun e => if e.1 = lowC c then (lowC c, cs.length) else e).map (·.2)
        rw [List.map_map]
        refine List.map_congr_left fun e _ => ?_
        show (if e.1 = lowC c then cs.length else e.2) = (if e.1 = lowC c then (lowC c, cs.length) else e).2
        split <;> rfl
      | false =>
        have hno := hasP_not.mp hh
        have e2 : ((runE cs).filter fun e => e.1 != lowC c) = runE cs := List.filter_eq_self.mpr fun e he => by
          have : e.1 ≠ lowC c := fun h => hno (by rw [← h]; exact List.mem_map_of_mem he)
          simpa using this
        rw [e2]
        refine List.Perm.of_eq ?_
        show _ = (runE cs ++ [(lowC c, cs.length)]).map (·.2)
        rw [List.map_append]; rfl
  obtain ⟨ks', k1, k2, k3, k4⟩ := hks
  have hE1 : ∀ e ∈ runE (cs ++ [c]), e.2 < (cs ++ [c]).length ∧ lowC ((cs ++ [c]).getD e.2 0) = e.1 := by
    intro e he
    rw [runE_snoc] at he
    unfold endS at he
    split at he
    · obtain ⟨y, hy, rfl⟩ := List.mem_map.mp he
      split
      · exact hnew
      · exact hex y hy
    · rcases List.mem_append.mp he with h | h
      · exact hex e h
      · rw [List.mem_singleton.mp h]; exact hnew
  refine ⟨ks', ?_⟩
  cases hh : hasP (runB cs) (lowC c) with
  | true =>
    have hlk' : lookC (runT cs).1 c = some (48 + dotAt (runB cs) (lowC c)) := by
      rcases hlk with ⟨_, h⟩ | ⟨h, _⟩
      · exact h
      · rw [hh] at h; cases h
    have eB : runB (cs ++ [c]) = runB cs := by rw [runB_snoc]; unfold begS; rw [if_pos hh]
    have eE : (runE (cs ++ [c])).map (·.1) = (runE cs).map (·.1) := by
      rw [runE_snoc]; unfold endS
      rw [hhE, hh, if_pos rfl, List.map_map]
      refine List.map_congr_left fun e _ => ?_
      show (if e.1 = lowC c then (lowC c, cs.length) else e).1 = e.1
      split
      · rename_i h; exact h.symm
      · rfl
    refine ⟨?_, ?_, ?_, ?_, ?_, ?_, k1, k2, k3, k4, hE1, by rw [eE, eB]; exact R.ek⟩
    · rw [eB, hgB, ← R.t1, runT_snoc]
      show stepF (runT cs).1 (c, _) = _
      unfold stepF
      rw [if_neg (by rw [hlk']; simp)]
    · rw [eB]; exact hbx
    · rw [eB]; exact R.bk
    · rw [eB]; exact R.bs
    · rw [eB, runT_snoc, List.map_append, ← R.td]
      show (runT cs).2.2 ++ [(lookC (runT cs).1 c).getD _] = _
      rw [hlk']; rfl
    · rw [eB]
      intro y hy
      rcases List.mem_append.mp hy with h | h
      · exact R.hs y h
      · rw [List.mem_singleton.mp h]; exact hh
  | false =>
    have hlk' : lookC (runT cs).1 c = none := by
      rcases hlk with ⟨h, _⟩ | ⟨_, h⟩
      · rw [hh] at h; cases h
      · exact h
    have eB : runB (cs ++ [c]) = runB cs ++ [(lowC c, cs.length)] := by rw [runB_snoc]; unfold begS; rw [hh]; rfl
    have eE : (runE (cs ++ [c])).map (·.1) = (runE cs).map (·.1) ++ [lowC c] := by
      rw [runE_snoc]; unfold endS
      rw [hhE, hh, if_neg Bool.false_ne_true, List.map_append]; rfl
    refine ⟨?_, ?_, ?_, ?_, ?_, ?_, k1, k2, k3, k4, hE1, by rw [eE, eB, R.ek, List.map_append]; rfl⟩
    · rw [eB, List.map_append, hgB, ← R.t1, runT_snoc]
      show stepF (runT cs).1 (c, _) = _
      unfold stepF
      rw [if_pos hlk', List.map_cons, List.map_nil, gK_new]
    · rw [eB]
      intro e he
      rcases List.mem_append.mp he with h | h
      · exact hbx e h
      · rw [List.mem_singleton.mp h]; exact hnew
    · rw [eB, List.map_append, List.nodup_append]
      refine ⟨R.bk, by simp, fun a ha b hb e => ?_⟩
      have hb' : b = lowC c := by simpa using hb
      exact hasP_not.mp hh (by rw [← hb', ← e]; exact ha)
    · rw [eB, List.map_append, List.pairwise_append]
      refine ⟨R.bs, by simp, fun a ha b hb => ?_⟩
      have hb' : b = cs.length := by simpa using hb
      obtain ⟨e, he, rfl⟩ := List.mem_map.mp ha
      rw [hb']; exact (R.b e he).1
    · rw [runT_snoc, List.map_append]
      show (runT cs).2.2 ++ [(lookC (runT cs).1 c).getD (48 + cs.length)] = _
      rw [hlk', R.td, eB]
      congr 1
      · exact List.map_congr_left fun y hy => by rw [dotAt_app (R.hs y hy)]
      · rw [List.map_cons, List.map_nil]
        have := dotAt_last (t := runB cs) (p := (lowC c, cs.length)) hh
        dsimp only at this
        rw [this]; rfl
    · rw [eB]
      intro y hy
      unfold hasP
      rw [List.any_append]
      rcases List.mem_append.mp hy with h | h
      · have := R.hs y h
        unfold hasP at this
        rw [this]; rfl
      · rw [List.mem_singleton.mp h]; simp
theorem runs_nil : RunsOk [] [] := ⟨rfl, (fun _ h => nomatch h), List.Pairwise.nil, List.Pairwise.nil, rfl, (fun _ h => nomatch h), rfl, List.Pairwise.nil, (fun _ h => nomatch h), List.Perm.nil, (fun _ h => nomatch h), rfl⟩
theorem runs_all (cs : List Nat) : ∃ ks, RunsOk cs ks := by
  have key : ∀ n, ∃ ks, RunsOk (cs.take n) ks := by
    intro n
    induction n with
    | zero => exact ⟨[], runs_nil⟩
    | succ n ih =>
      obtain ⟨ks, R⟩ := ih
      rw [List.take_add_one]
      cases h : cs[n]? with
      | none => rw [Option.toList_none, List.append_nil]; exact ⟨ks, R⟩
      | some c => exact runs_snoc R c
  have := key cs.length
  rwa [List.take_length] at this
/-- the orders of opening and of closing -/
def opOf (cs : List Nat) : List Nat := (runT cs).1.map fun q => lowC q.1
def clOf (cs : List Nat) : List Nat := (runT cs).2.1.map fun q => lowC q.1
theorem op_keys {cs ks : List Nat} (R : RunsOk cs ks) : opOf cs = (runB cs).map (·.1) := by
  unfold opOf
  rw [R.t1, List.map_map]
  exact List.map_congr_left fun e he => (R.b e he).2
theorem cl_perm {cs ks : List Nat} (R : RunsOk cs ks) : (clOf cs).Perm (opOf cs) := by
  rw [op_keys R, ← R.ek]
  unfold clOf
  rw [R.t2, List.map_map]
  have h1 := R.kp.map (fun k => lowC (cs.getD k 0))
  rw [List.map_map] at h1
  refine List.Perm.trans (List.Perm.of_eq rfl) (h1.trans (List.Perm.of_eq ?_))
  exact List.map_congr_left fun e he => (R.e e he).2
theorem few : ∀ (n : Nat) (l : List Nat), l.Nodup → (∀ x ∈ l, x < n) → l.length ≤ n
  | 0, [], _, _ => Nat.le_refl _
  | 0, a :: _, _, h => absurd (h a (.head _)) (Nat.not_lt_zero _)
  | n + 1, l, hn, h => by
    have h1 := few n (l.filter fun x => x != n) (hn.sublist List.filter_sublist) (fun x hx => by
      have := List.mem_filter.mp hx
      have h2 := h x this.1
      have h3 : x ≠ n := by simpa using this.2
      omega)
    have h2 : ∀ l : List Nat, l.Nodup → l.length ≤ (l.filter fun x => x != n).length + 1 := by
      intro l
      induction l with
      | nil => intro _; exact Nat.zero_le _
      | cons a l ih =>
        intro hn
        have hn' := List.nodup_cons.mp hn
        by_cases q : a = n
        · have : (l.filter fun x => x != n) = l := List.filter_eq_self.mpr fun x hx => by
            have : x ≠ n := fun e => hn'.1 (by rw [q, ← e]; exact hx)
            simpa using this
          rw [List.filter_cons_of_neg (by simp [q]), this]; simp
        · rw [List.filter_cons_of_pos (by simp [q]), List.length_cons, List.length_cons]
          have := ih hn'.2
          omega
    have := h2 l hn
    omega
theorem low_letter {c : Nat} (h : letter c = true) : low (lowC c) = true := by
  unfold low lowC
  unfold letter at h
  simp only [Bool.or_eq_true, Bool.and_eq_true, decide_eq_true_eq] at h ⊢
  split <;> omega
/-- all that the mail asks of the two orders -/
theorem orders {cs ks : List Nat} (R : RunsOk cs ks) (hl : ∀ c ∈ cs, letter c = true) : (opOf cs).Nodup ∧ (clOf cs).Nodup ∧ (clOf cs).length = (opOf cs).length ∧ (∀ c, c ∈ clOf cs ↔ c ∈ opOf cs) ∧ (opOf cs).length ≤ 5 ∧ (∀ c ∈ opOf cs, low c = true) := by
  have hp := cl_perm R
  have hn : (opOf cs).Nodup := by rw [op_keys R]; exact R.bk
  have hlow : ∀ c ∈ opOf cs, low c = true := fun c hc => by
    rw [op_keys R] at hc
    obtain ⟨e, he, rfl⟩ := List.mem_map.mp hc
    have := R.b e he
    rw [← this.2]
    refine low_letter (hl _ ?_)
    rw [List.getD_eq_getElem?_getD, List.getElem?_eq_getElem this.1, Option.getD_some]
    exact List.getElem_mem _
  refine ⟨hn, hp.nodup_iff.mpr hn, hp.length_eq, fun c => hp.mem_iff, ?_, hlow⟩
  have h1 : ((opOf cs).map fun c => c - 97).Nodup := by
    rw [List.Nodup, List.pairwise_map]
    refine List.Pairwise.imp_of_mem ?_ hn
    intro a b ha hb hab e
    have h1 := hlow a ha
    have h2 := hlow b hb
    unfold low at h1 h2
    simp only [Bool.and_eq_true, decide_eq_true_eq] at h1 h2
    exact hab (by omega)
  have := few 5 _ h1 (fun x hx => by
    obtain ⟨c, hc, rfl⟩ := List.mem_map.mp hx
    have := hlow c hc
    unfold low at this
    simp only [Bool.and_eq_true, decide_eq_true_eq] at this
    omega)
  simpa using this

-- L6
section
variable {prog : Program} {w : World} {A : Around} {E : Value → Shared → Prop} {s : Shared} {h₀ : Heap} {L : Addr} {m : Str → Option Value} {news : List (Addr × Obj)}
theorem kf_ints_kvP : ∀ l : List (Nat × Nat × Tok), kf_ints ((kvP l).map (·.2)) = true
  | [] => rfl
  | _ :: l => kf_ints_kvP l
theorem nums_kvP : ∀ l : List (Nat × Nat × Tok), lks_nums ((kvP l).map (·.2)) = natI (l.map (·.2.1))
  | [] => rfl
  | e :: l => by
    show (e.2.1 : Int) :: lks_nums ((kvP l).map (·.2)) = _
    rw [nums_kvP l]; rfl
theorem asc_natI : ∀ {ks : List Nat}, ks.Pairwise (· < ·) → lks_asc (natI ks) = true
  | [], _ => rfl
  | k :: ks, h => by
    have h' := List.pairwise_cons.mp h
    show ((natI ks).all (fun b => decide ((k : Int) ≤ b)) && lks_asc (natI ks)) = true
    rw [asc_natI h'.2, Bool.and_true, List.all_eq_true]
    intro b hb
    unfold natI at hb
    obtain ⟨y, hy, rfl⟩ := List.mem_map.mp hb
    have := h'.1 y hy
    rw [decide_eq_true_eq]
    show (k : Int) ≤ (y : Int)
    omega
theorem vals_are : ∀ (q : List Int) (i : Nat) (t : Nat → Tok), IntsAre (lks_vals q i t) q
  | [], _, _ => .nil
  | a :: q, i, t => .cons a _ (vals_are q (i + 1) t)
/-- sorted(d.values()) of a dict of small numbers -/
theorem sorted_vals {l : List (Nat × Nat × Tok)} {ks : List Nat} {v d : Addr} {od : Obj} {Q : Value → Shared → Prop} (hh : A.handled = none) (F : Fr h₀ L s.heap m) (N : News h₀ L s.heap news) (hv : (v, ({ cls := .type "dict_values", data := .fields #[.ref d] } : Obj)) ∈ news) (hp : (d, od) ∈ news)
    (hd : od.IsDictOf (PySem.strKind prog w) (kvP l)) (hperm : ks.Perm (l.map (·.2.1))) (hs : ks.Pairwise (· < ·)) (hne : l ≠ []) (hlen : l.length < 64)
    (h : ∀ B vs n h' tk, IntsAre vs (natI ks) → Fr h₀ L h' m → News h₀ L h' ((B, listOf vs.toArray n) :: news) → (∀ q ∈ news, q.1 < B) → Q (.ref B) { s with heap := h', toks := tk }) :
    wpAny (model prog w) A (call (.builtin "sorted") [.ref v]) Q E s := by
  obtain ⟨ep, hat⟩ := (kda_dict N hp hd).dictAt
  have hkl : (kvP l).length = l.length := by unfold kvP; rw [List.length_map]
  refine kdu_sorted (kdl_values (knd := PySem.strKind prog w) (kvs := kvP l) (ep := ep)) hh F N ⟨⟨_, (N _ hv).1, rfl, rfl⟩, hat⟩ (kdl_size (by omega)) fun B h' tk vs F' N' l1 hl hvs => ?_
  have e := kdl_vals_eq vs hl hvs
  subst e
  refine lks_sort (q := natI ks) F' N' (fun t => .head fun p hp => Nat.ne_of_lt (l1 p hp)) ?_ ?_ ?_ ?_ fun t h2 F2 N2 => ?_
  · simpa using kf_ints_kvP l
  · unfold lks_ok
    rw [Bool.and_eq_true]
    refine ⟨?_, asc_natI hs⟩
    rw [show ((kvP l).map (·.2)).toArray.toList = (kvP l).map (·.2) by simp, nums_kvP]
    rw [List.isPerm_iff]
    exact (hperm.symm.map Int.ofNat)
  · simp only [kvP, List.map_map]
    cases l with
    | nil => exact absurd rfl hne
    | cons a r => rfl
  · simp [hkl, hlen]
  · exact h B _ _ h2 tk (vals_are _ _ t) F2 N2 l1
/-- a statement, then the rest; what holds between them as a claim on what is to come -/
theorem seq_cps {M : Model} {st : Stmt} {rest : List Stmt} {env : Env} {Q : Flow → Shared → Prop} (C : (Shared → Prop) → Prop) (h1 : ∀ K : Shared → Prop, C K → wpAny M A (exec st env) (fun f s' => Held (f = .next ∧ K s')) E s)
    (h2 : C fun s' => wpAny M A (execs rest env) Q E s') : wpAny M A (execs (st :: rest) env) Q E s :=
  wpAny_execs_cons (wpAny_mono (h1 _ h2) (fun f s' h => by obtain ⟨e, i⟩ := h; subst e; exact i) fun _ _ e => e)
/-- a statement, then the rest -/
theorem seq_step {M : Model} {st : Stmt} {rest : List Stmt} {env : Env} {Q : Flow → Shared → Prop} (I : Shared → Prop) (h1 : wpAny M A (exec st env) (fun f s' => Held (f = .next ∧ I s')) E s) (h2 : ∀ s', I s' → wpAny M A (execs rest env) Q E s') : wpAny M A (execs (st :: rest) env) Q E s :=
  wpAny_execs_cons (wpAny_mono h1 (fun f s' h => by obtain ⟨e, i⟩ := h; subst e; exact h2 s' i) fun _ _ e => e)
end
section
open LCg LCt LCp
variable {prog : Program} {w : World} {A : Around} {s : Shared} {h₀ : Heap} {L : Addr} {m : Str → Option Value} {env : Env}
/-- a turn that ends in a new tuple -/
def TupEnd (h₀ : Heap) (L : Addr) (m : Str → Option Value) (s₁ : Shared) (NW : List (Addr × Obj)) (I C D : Addr) (d : Dat) (y : Value) (s₂ : Shared) : Prop :=
  ∃ (T : Addr) (vs : List Value) (n : Nat) (ds : List Dat) (h' : Heap) (tk : Nat), y = .ref T ∧ s₂ = { s₁ with heap := h', toks := tk } ∧ Fr h₀ L h' m ∧ News h₀ L h' ((T, ({ cls := .type "tuple", data := .seq vs.toArray n } : Obj)) :: NW) ∧ (@LT.lt Nat _ I T) ∧ (@LT.lt Nat _ C T) ∧ (@LT.lt Nat _ D T) ∧ DatAll [] vs ds ∧ d = .tuple ds
theorem datAll_snoc {nw : List (Addr × Obj)} : ∀ {vs : List Value} {ds : List Dat} {v : Value} {d : Dat}, DatAll nw vs ds → DatIn nw v d → DatAll nw (vs ++ [v]) (ds ++ [d])
  | _, _, _, _, .nil, h => .cons h .nil
  | _, _, _, _, .cons a r, h => .cons a (datAll_snoc r h)
/-- [a tuple for x in a list of small numbers] -/
theorem compD_list {elt : Expr} {x : Str} {scope : Scope} {cl : List (Str × Addr)} {Fin : Shared → List Value → List (Addr × Obj) → Prop} {ax : Addr} {its : List Value} {k0 : Nat} {NW : List (Addr × Obj)} {s₁ : Shared} {ks : List Nat} (f : Nat → Dat)
    (hh : A.handled = none) (F : Fr h₀ L s₁.heap m) (N : News h₀ L s₁.heap NW) (hm : (ax, listOf its.toArray k0) ∈ NW) (hI : IntsAre its (natI ks)) (hsz : ks.length ≤ 1000)
    (turn : ∀ (i : Nat) ys (k : Nat) tv TS I oI C oC D m₂ g h tk (E' : Value → Shared → Prop), ks[i]? = some k → NsObj oC m₂ → m₂ x = some (.int (k : Int) tv) → Fr h₀ L h m → News h₀ L h ((I, oI) :: (C, oC) :: (D, lst ys) :: (TS ++ NW)) → Off3 I C D (TS ++ NW) → ((@Ne Nat I C) ∧ (@Ne Nat I D) ∧ (@Ne Nat C D)) →
      wpAny (model prog w) A (eval elt (compEnvC scope cl C env)) (TupEnd h₀ L m { s₁ with heap := g } ((I, oI) :: (C, oC) :: (D, lst ys) :: (TS ++ NW)) I C D (f k)) E' { s₁ with heap := h, toks := tk })
    (fin : ∀ ys TS g, DatAll TS ys (ks.map f) → Fin { s₁ with heap := g } ys (TS ++ NW)) : CompSrc prog w A h₀ L m env elt x scope cl Fin (.ref ax) s₁ := by
  have hil : its.length = ks.length := natI_len hI
  have hsrc : ∀ TS, SrcAt h₀ ax its.toArray (TS ++ NW) := fun TS => .inr ⟨_, List.mem_append_right _ hm, rfl, _, rfl⟩
  refine CompSrc.ledger hh F N hm (by rw [List.size_toArray, sizeLine_eq]; omega) fun g => restU (n := its.toArray.size) (fun i ys nw => ∃ TS, nw = TS ++ NW ∧ DatAll TS ys ((ks.take i).map f)) ?_ ?_ its.toArray.size 0 [] NW (by omega) ⟨[], rfl, .nil⟩
  · rintro i ys nw v I oI C oC D m₂ h tk E' hi ⟨TS, rfl, hJ⟩ hP hn hx F' N' off ne
    have hi' : i < ks.length := by rw [List.size_toArray] at hi; omega
    obtain ⟨k, hk⟩ : ∃ k, ks[i]? = some k := ⟨ks[i], by simp [hi']⟩
    obtain ⟨tv, hv⟩ := natI_at hI hk
    have hP' : its[i]? = some v := by simpa using hP
    rw [hv] at hP'
    cases hP'
    refine wpAny_mono (turn i ys k tv TS I oI C oC D m₂ h h tk E' hk hn hx F' N' off ne) (fun y s' q => ?_) fun _ _ q => q
    obtain ⟨T, vs, n, ds, h', tk', rfl, e, F₂, N₂, b1, b2, b3, hD, hf⟩ := q
    refine ⟨h', tk', (T, ({ cls := .type "tuple", data := .seq vs.toArray n } : Obj)) :: TS ++ NW, e, F₂, fun p hp => N₂ p ?_, ⟨⟨Nat.ne_of_gt b1, Nat.ne_of_gt b2, Nat.ne_of_gt b3⟩, off⟩, hsrc (_ :: TS), _ :: TS, rfl, ?_⟩
    · simp only [List.mem_cons, List.cons_append] at hp ⊢
      rcases hp with q | q | q | q | q <;> simp [q]
    · rw [List.take_add_one, hk, List.map_append]
      refine datAll_snoc (hJ.mono fun p hp => .tail _ hp) ?_
      show DatIn _ _ (f k)
      rw [hf]
      exact .tuple (.head _) (DatAll.mono (news := []) (fun p hp => absurd hp List.not_mem_nil) hD)
  · rintro ys nw ⟨TS, rfl, hJ⟩
    rw [List.size_toArray, hil, List.take_length] at hJ
    exact fin ys TS g hJ
end

-- K19
local macro_rules | `(tactic| wtm_at "g ev19") => `(tactic| (wtm_at "g ev12"; (fail_if_success (with_reducible show wpAny _ _ (eval (Expr.Name (Str.ofString "k") _) (compEnvC _ _ _ _)) _ _ _))))
local macro_rules | `(tactic| wtm_at "g ca19") => `(tactic| (wtm_at "g ca18"; (fail_if_success (with_reducible show wpAny _ _ (call (Value.builtin "sorted") _ _) _ _ _)); (fail_if_success (with_reducible show wpAny _ _ (call (Value.builtin "sum") _ _) _ _ _)); (fail_if_success (with_reducible show wpAny _ _ (call (Value.builtin "str.lower") [Value.str (Txt.join _ _) _] _) _ _ _))))
local macro_rules | `(tactic| wtm_at "g wp19") => `(tactic| (wtm_at "g wp17"; (fail_if_success (with_reducible show wpAny _ _ (compareOp CmpOp.NotEq (Value.str _ _) (Value.str _ _)) _ _ _)); (fail_if_success (with_reducible show wpAny _ _ (compareOp CmpOp.Eq (Value.str _ _) (Value.str _ _)) _ _ _))))
local macro_rules | `(tactic| wtm_at "g ot19") => `(tactic| (wtm_at "g ot17"; (fail_if_success (with_reducible show TupEnd _ _ _ _ _ _ _ _ _ _ _))))
local macro_rules | `(tactic| k_steps) => `(tactic| repeat' (first | (k_unfold; (try dsimp only)) | ((fail_if_success (with_reducible show Held _)); k_end; wrow_close) | ((first | (wtm_at "is tree"; (first | (wtm_at "is eval"; wtm_at "g ev19") | (wtm_at "is call"; wtm_at "g ca19") | (wtm_at "is exec"; wtm_at "g ex5") | (wtm_at "no eec"; wtm_at "g wp19"))) | (wtm_at "no tree"; wtm_at "g ot19")); wtm_at "walk on") | fail "no step"))
/-- the law's frame after some statements -/
def After (s : Shared) (h₀ : Heap) (L : Addr) (I : (Str → Option Value) → List (Addr × Obj) → Prop) (s' : Shared) : Prop := ∃ h tk m nw, s' = { s with heap := h, toks := tk } ∧ Fr h₀ L h m ∧ News h₀ L h nw ∧ I m nw
/-- what stands of the tables, apart from the law's cells -/
structure Tabled (LF : Nat) (TT : List (Addr × Obj)) (lg k : Nat) (lt : List (Nat × Tok)) (x1 d1 h1 x2 d2 h2 td : Addr) (E1 E2 : List Ent) (lt3 : List (Nat × Tok)) (n1 n2 n3 : Nat) : Prop where
  off : ∀ p ∈ TT, ∀ j : Nat, j < 5 → p.1 ≠ LF + j
  lg : (lg, listOf (letV lt).toArray k) ∈ TT
  td : (td, listOf (letV lt3).toArray n3) ∈ TT
  o1 : (x1, instObj 202 d1) ∈ TT
  q1 : ∃ hs tk, (d1, dictOf [⟨hs, .str (Str.ofString "_headers") tk, .ref h1⟩] 1) ∈ TT
  l1 : (h1, lsO E1 n1) ∈ TT
  o2 : (x2, instObj 202 d2) ∈ TT
  q2 : ∃ hs tk, (d2, dictOf [⟨hs, .str (Str.ofString "_headers") tk, .ref h2⟩] 1) ∈ TT
  l2 : (h2, lsO E2 n2) ∈ TT
  e1 : ∀ e ∈ E1, letter e.c = true ∧ (e.a, e.o) ∈ TT
  e2 : ∀ e ∈ E2, letter e.c = true ∧ (e.a, e.o) ∈ TT
  run : (E1.map ent2, E2.map ent2, lt3.map (·.1)) = runT (lt.map (·.1))
  len : lt.length = 10
  lets : ∀ p ∈ lt, letter p.1 = true
theorem nd_eq {rest : List (Addr × Obj)} (nd : (rest.map (·.1)).Nodup) {p q : Addr × Obj} (hp : p ∈ rest) (hq : q ∈ rest) (e : p.1 = q.1) : p = q := by
  induction rest with
  | nil => cases hp
  | cons a r ih =>
    rw [List.map_cons, List.nodup_cons] at nd
    rcases List.mem_cons.mp hp with rfl | hp'
    · rcases List.mem_cons.mp hq with rfl | hq'
      · rfl
      · exact absurd (List.mem_map.mpr ⟨q, hq', e.symm⟩) nd.1
    · rcases List.mem_cons.mp hq with rfl | hq'
      · exact absurd (List.mem_map.mpr ⟨p, hp', e⟩) nd.1
      · exact ih nd.2 hp' hq'
theorem tabled_of {LF lg k : Nat} {lt lt3 : List (Nat × Tok)} {x1 d1 h1 x2 d2 h2 td : Addr} {E1 E2 : List Ent} {n1 n2 n3 : Nat} {news rest : List (Addr × Obj)} (TB : Tabs news x1 d1 h1 x2 d2 h2 td E1 E2 rest) (hlg : (lg, listOf (letV lt).toArray k) ∈ news)
    (hcell : ∀ j : Nat, j < 5 → j = 0 ∨ ∃ o v, (LF + j, o) ∈ news ∧ o.data = .cell v) (h0 : ∀ p ∈ rest, p.1 ≠ LF) (h0' : h1 ≠ LF ∧ h2 ≠ LF ∧ td ≠ LF)
    (hrun : (E1.map ent2, E2.map ent2, lt3.map (·.1)) = runT (lt.map (·.1))) (hlen : lt.length = 10) (hlets : ∀ p ∈ lt, letter p.1 = true) :
    ∃ TT, Tabled LF TT lg k lt x1 d1 h1 x2 d2 h2 td E1 E2 lt3 n1 n2 n3 ∧ ∀ p ∈ TT, p ∈ (h1, lsO E1 n1) :: (h2, lsO E2 n2) :: (td, listOf (letV lt3).toArray n3) :: rest := by
  have nd := TB.nd
  simp only [List.nodup_cons, List.mem_cons, not_or] at nd
  have offr : ∀ p ∈ rest, (∀ v, p.2.data ≠ .cell v) → ∀ j : Nat, j < 5 → p.1 ≠ LF + j := fun p hp hd j hj e => by
    rcases hcell j hj with rfl | ⟨o, v, hm, hv⟩
    · exact h0 p hp e
    · have := nd_eq nd.2.2.2 hp (TB.old _ hm) e
      rw [this] at hd
      exact hd v hv
  have offh : ∀ a : Addr, a ∉ rest.map (·.1) → a ≠ LF → ∀ j : Nat, j < 5 → a ≠ LF + j := fun a ha h00 j hj e => by
    rcases hcell j hj with rfl | ⟨o, v, hm, hv⟩
    · exact h00 e
    · exact ha (List.mem_map.mpr ⟨_, TB.old _ hm, e.symm⟩)
  obtain ⟨hs1, tk1, q1⟩ := TB.q1
  obtain ⟨hs2, tk2, q2⟩ := TB.q2
  refine ⟨(h1, lsO E1 n1) :: (h2, lsO E2 n2) :: (td, listOf (letV lt3).toArray n3) :: (x1, instObj 202 d1) :: (d1, dictOf [⟨hs1, .str (Str.ofString "_headers") tk1, .ref h1⟩] 1) :: (x2, instObj 202 d2) :: (d2, dictOf [⟨hs2, .str (Str.ofString "_headers") tk2, .ref h2⟩] 1) :: (lg, listOf (letV lt).toArray k) :: (prs E1 ++ prs E2), ?_, ?_⟩
  · refine ⟨fun p hp => ?_, by simp, by simp, by simp, ⟨hs1, tk1, by simp⟩, by simp, by simp, ⟨hs2, tk2, by simp⟩, by simp, fun e he => ⟨(TB.e1 e he).1, ?_⟩, fun e he => ⟨(TB.e2 e he).1, ?_⟩, hrun, hlen, hlets⟩
    · simp only [List.mem_cons, List.mem_append] at hp
      rcases hp with rfl | rfl | rfl | rfl | rfl | rfl | rfl | rfl | hp | hp
      · exact offh _ nd.1.2.2 h0'.1
      · exact offh _ nd.2.1.2 h0'.2.1
      · exact offh _ nd.2.2.1 h0'.2.2
      · exact offr _ TB.o1 (fun v e => by cases e)
      · exact offr _ q1 (fun v e => by cases e)
      · exact offr _ TB.o2 (fun v e => by cases e)
      · exact offr _ q2 (fun v e => by cases e)
      · exact offr _ (TB.old _ hlg) (fun v e => by cases e)
      · unfold prs at hp
        obtain ⟨e, he, rfl⟩ := List.mem_map.mp hp
        exact offr _ (TB.e1 e he).2 (fun v e => by cases e)
      · unfold prs at hp
        obtain ⟨e, he, rfl⟩ := List.mem_map.mp hp
        exact offr _ (TB.e2 e he).2 (fun v e => by cases e)
    · have : (e.a, e.o) ∈ prs E1 := List.mem_map.mpr ⟨e, he, rfl⟩
      simp [this]
    · have : (e.a, e.o) ∈ prs E2 := List.mem_map.mpr ⟨e, he, rfl⟩
      simp [this]
  · intro p hp
    simp only [List.mem_cons, List.mem_append] at hp ⊢
    rcases hp with h | h | h | rfl | rfl | rfl | rfl | rfl | hp | hp
    · exact .inl h
    · exact .inr (.inl h)
    · exact .inr (.inr (.inl h))
    · exact .inr (.inr (.inr TB.o1))
    · exact .inr (.inr (.inr q1))
    · exact .inr (.inr (.inr TB.o2))
    · exact .inr (.inr (.inr q2))
    · exact .inr (.inr (.inr (TB.old _ hlg)))
    · unfold prs at hp
      obtain ⟨e, he, rfl⟩ := List.mem_map.mp hp
      exact .inr (.inr (.inr (TB.e1 e he).2))
    · unfold prs at hp
      obtain ⟨e, he, rfl⟩ := List.mem_map.mp hp
      exact .inr (.inr (.inr (TB.e2 e he).2))
theorem sign_letter {x : Int} (h0 : 0 ≤ x) (h1 : x < 10) : letter (sign10 x) = true := by
  obtain ⟨k, rfl⟩ := Int.eq_ofNat_of_zero_le h0
  have z : ∀ k ∈ List.range 10, letter (sign10 (k : Int)) = true := by decide +kernel
  exact z k (List.mem_range.mpr (by omega))
theorem letV_get {l : List (Nat × Tok)} {i : Nat} {v : Value} (h : (letV l)[i]? = some v) : ∃ c t, l[i]? = some (c, t) ∧ v = .str ⟨#[c]⟩ t := by
  unfold letV at h
  rw [List.getElem?_map] at h
  obtain ⟨⟨c, t⟩, he, q⟩ := Option.map_eq_some_iff.mp h
  exact ⟨c, t, he, q.symm⟩
theorem strsAre_letV : ∀ l : List (Nat × Tok), StrsAre (letV l) (l.map fun p => oneS p.1)
  | [] => .nil
  | p :: l => .cons (oneS p.1) p.2 (strsAre_letV l)
theorem strs_dat {nw : List (Addr × Obj)} : ∀ {vs : List Value} {ys : List Str}, StrsAre vs ys → DatAll nw vs (ys.map Dat.str)
  | _, _, .nil => .nil
  | _, _, .cons y t r => .cons (.str y t) (strs_dat r)
theorem strs_ok {ys : List Str} (h : ∀ y ∈ ys, PyData.strOk y = true) : ∀ d ∈ ys.map Dat.str, kqdOk 8 d = true := fun d hd => by
  obtain ⟨y, hy, rfl⟩ := List.mem_map.mp hd
  have := h y hy
  simp [kqdOk, this]
theorem one_ok {c : Nat} (h : c < 1000) : PyData.strOk (oneS c) = true := by
  unfold PyData.strOk oneS
  simp; omega
theorem kvP_at {l : List (Nat × Nat × Tok)} {c d : Nat} (hd : dotAt (l.map pl2) c = d) (hc : hasP (l.map pl2) c = true) : ∃ t, valueAt (kvP l) (⟨#[c]⟩ : Str) = some (.int ((d : Nat) : Int) t) := by
  induction l with
  | nil => simp [hasP] at hc
  | cons e l ih =>
    unfold valueAt kvP
    rw [List.map_cons, List.find?_cons]
    by_cases h : e.1 = c
    · have : decide ((⟨#[e.1]⟩ : Str) = ⟨#[c]⟩) = true := by simp [h]
      rw [this]
      have hd' : e.2.1 = d := by
        rw [← hd]; unfold dotAt; rw [List.map_cons, List.find?_cons]; simp [pl2, h]
      exact ⟨e.2.2, by rw [← hd']; rfl⟩
    · have : decide ((⟨#[e.1]⟩ : Str) = ⟨#[c]⟩) = false := by simp [h]
      rw [this]
      refine ih ?_ ?_
      · rw [← hd]; unfold dotAt; rw [List.map_cons, List.find?_cons]
        have : ((pl2 e).1 == c) = false := by simp [pl2, h]
        rw [this]
      · unfold hasP at hc ⊢
        rw [List.map_cons, List.any_cons] at hc
        simpa [pl2, h] using hc
theorem dotAt_lt {cs ks : List Nat} (R : RunsOk cs ks) {c : Nat} (h : hasP (runB cs) c = true) : dotAt (runB cs) c < cs.length := by
  obtain ⟨e, he, rfl⟩ := List.mem_map.mp (hasP_mem.mp h)
  rw [dotAt_nodup R.bk he]
  exact (R.b e he).1
section
variable {prog : Program} {w : World} {A : Around} {E : Value → Shared → Prop} {s : Shared} {h₀ : Heap} {L a b : Addr} {news n₁ n₂ : List (Addr × Obj)} {oa ob : Obj} {xs ys : List Value} {ka kb : Nat} {ds es : List Dat} {Q : Value → Shared → Prop}
/-- two lists of like data: «!=» is False -/
theorem ne_same (N : News h₀ L s.heap news) (ma : (a, oa) ∈ news) (ca : oa.cls = .type "list") (da : oa.data = .seq xs.toArray ka) (Da : DatAll n₁ xs ds) (sa : ∀ p ∈ n₁, p ∈ news)
    (mb : (b, ob) ∈ news) (cb : ob.cls = .type "list") (db : ob.data = .seq ys.toArray kb) (Db : DatAll n₂ ys es) (sb : ∀ p ∈ n₂, p ∈ news)
    (ha : ∀ d ∈ ds, kqdOk 8 d = true) (e : ds = es) (hu : A.units + 64 < cLine) (h : Q (.bool false) s) : wpAny (model prog w) A (compareOp .NotEq (.ref a) (.ref b)) Q E s := by
  subst e
  refine kqd_ne N ma ca da Da sa mb cb db Db sb ha ha hu ?_
  simpa using h
end
theorem chr_dig {k : Nat} (h : k < 10) : PyData.strOk (oneS (48 + k)) = true := one_ok (by omega)
/-- a row of the tables, as data -/
def rowT (cs : List Nat) (k : Nat) : Dat := .tuple [.str (oneS (cs.getD k 0)), .str (oneS (48 + k))]
theorem rows_dat {nw : List (Addr × Obj)} : ∀ (E : List Ent), (∀ e ∈ E, (e.a, e.o) ∈ nw) → DatAll nw (rfs E) (E.map fun e => .tuple [.str (oneS e.c), .str (oneS e.k)])
  | [], _ => .nil
  | e :: E, h => .cons (.tuple (vs := [.str ⟨#[e.c]⟩ e.tc, .str ⟨#[e.k]⟩ e.tk]) (n := 0) (h e (.head _)) (.cons (.str _ _) (.cons (.str _ _) .nil))) (rows_dat E fun x hx => h x (.tail _ hx))
theorem rows_eq {cs : List Nat} {E : List Ent} {ks : List Nat} (h : E.map ent2 = ks.map (gK cs)) : (E.map fun e => Dat.tuple [.str (oneS e.c), .str (oneS e.k)]) = ks.map (rowT cs) := by
  have := congrArg (List.map fun q : Nat × Nat => Dat.tuple [.str (oneS q.1), .str (oneS q.2)]) h
  rw [List.map_map, List.map_map] at this
  exact this
theorem rowT_ok {cs : List Nat} {k : Nat} (hk : k < 100) (hc : ∀ c ∈ cs, c < 1000) : kqdOk 8 (rowT cs k) = true := by
  have h1 : PyData.strOk (oneS (cs.getD k 0)) = true := one_ok (by
    rw [List.getD_eq_getElem?_getD]
    cases h : cs[k]? with
    | none => simp
    | some c => exact hc c (List.mem_of_getElem? h))
  have h2 : PyData.strOk (oneS (48 + k)) = true := one_ok (by omega)
  unfold rowT
  simp only [kqdOk, List.all_cons, List.all_nil, h1, h2]
  rfl
theorem letter_small {c : Nat} (h : letter c = true) : c < 1000 := by
  unfold letter at h
  simp only [Bool.or_eq_true, Bool.and_eq_true, decide_eq_true_eq] at h
  omega
theorem low_of {c : Nat} (h : letter c = true) : (if c == 0x3A3 && false then [0x3C2] else Unicode.lowerOf c) = [lowC c] ∧ (c == 0x3A3) = false := by
  refine letter_cases (P := fun c => (if c == 0x3A3 && false then [0x3C2] else Unicode.lowerOf c) = [lowC c] ∧ (c == 0x3A3) = false) ?_ h
  decide +kernel
theorem flat_one : ∀ l : List Nat, ((l.map fun c => #[lowC c]).toArray).flatten = (l.map lowC).toArray
  | [] => rfl
  | c :: l => by
    have ih := flat_one l
    apply Array.ext'
    have ih' := congrArg Array.toList ih
    rw [Array.toList_flatten] at ih' ⊢
    simp only [List.map_cons] at ih' ⊢
    simp only [List.flatten_cons] at ih' ⊢
    rw [ih']
    rfl
theorem lower_letters (l : List Nat) (h : ∀ c ∈ l, letter c = true) : Txt.lower ⟨l.toArray⟩ = ⟨(l.map lowC).toArray⟩ := by
  unfold Txt.lower
  congr 1
  rw [← flat_one l]
  show (l.toArray.mapIdx fun i c => (Unicode.lowerAt l.toArray i).toArray).flatten = _
  congr 1
  apply Array.ext
  · simp
  · intro i h1 h2
    have hi : i < l.length := by simpa using h1
    rw [Array.getElem_mapIdx]
    have hc := h l[i] (List.getElem_mem hi)
    have e : Unicode.lowerAt l.toArray i = [lowC l[i]] := by
      unfold Unicode.lowerAt
      have : l.toArray[i]? = some l[i] := by simp [hi]
      rw [this]
      have z := low_of hc
      dsimp only
      rw [z.2, Bool.false_and]
      have z1 := z.1
      rw [z.2] at z1
      exact z1
    rw [e]
    simp
section
variable {prog : Program} {w : World} {A : Around} {E : Value → Shared → Prop} {s : Shared} {t : Tok} {Q : Value → Shared → Prop}
theorem call_lowerS {x : Str} {l : List Nat} (hx : x = ⟨l.toArray⟩) (hl : ∀ c ∈ l, letter c = true) (hn : l.length < 1000) (h : Q (.str ⟨(l.map lowC).toArray⟩ s.toks) { s with toks := s.toks + 1 }) : wpAny (model prog w) A (call (.builtin "str.lower") [.str x t]) Q E s := by
  subst hx
  rw [← lower_letters l hl] at h
  refine SC.lower ?_ h
  rw [lower_letters l hl]
  show Builtin.Str.tooLong (l.map lowC).toArray.size = false
  rw [List.size_toArray, List.length_map]
  unfold Builtin.Str.tooLong
  exact decide_eq_false (by rw [sizeLine_eq]; omega)
end
theorem keys_are : ∀ E : List Ent, StrsAre (keysV E) (E.map fun e => oneS e.c)
  | [] => .nil
  | e :: E => .cons (oneS e.c) e.tc (keys_are E)
theorem join_ones (l : List Nat) : Txt.join (Str.ofString "") (l.map oneS) = ⟨l.toArray⟩ := by
  rw [show Str.ofString "" = ⟨#[]⟩ from by decide +kernel, join_nil]
  congr 2
  unfold flatS
  induction l with
  | nil => rfl
  | cons c l ih => rw [List.map_cons, List.flatMap_cons, ih]; rfl
theorem sum_ones (l : List Nat) : ((l.map oneS).map (·.length)).sum = l.length := by
  induction l with
  | nil => rfl
  | cons c l ih => rw [List.map_cons, List.map_cons, List.sum_cons, ih, List.length_cons]; show 1 + _ = _; omega
theorem row_okS {d c : Nat} (hd : d ≤ 5) (hc : low c = true) : PyData.strOk (rowS d c) = true := by
  have z : ∀ d ∈ [0, 1, 2, 3, 4, 5], ∀ c ∈ [97, 98, 99, 100, 101], PyData.strOk (rowS d c) = true := by decide +kernel
  exact z d (by simp only [List.mem_cons, List.not_mem_nil, or_false]; omega) c (low_mem hc)
theorem row_made {d c : Nat} (hd : d ≤ 5) (hc : low c = true) : Txt.mul (Str.ofString ".") (d : Int) ++ (⟨#[c]⟩ : Str) ++ Str.ofString ": .x" = rowS d c := by
  have z : ∀ d ∈ [0, 1, 2, 3, 4, 5], ∀ c ∈ [97, 98, 99, 100, 101], Txt.mul (Str.ofString ".") ((d : Nat) : Int) ++ (⟨#[c]⟩ : Str) ++ Str.ofString ": .x" = rowS d c := by decide +kernel
  exact z d (by simp only [List.mem_cons, List.not_mem_nil, or_false]; omega) c (low_mem hc)
def badS (dts : List Nat) (i : Nat) : Bool := decide (dts.getD i 0 + 1 < dts.getD (i + 1) 0)
def badsTo (dts : List Nat) (i : Nat) : List Nat := ((List.range i).filter (badS dts)).map (· + 1)
theorem bads_yes {dts : List Nat} {i : Nat} (h : badS dts i = true) : badsTo dts (i + 1) = badsTo dts i ++ [i + 1] := by
  unfold badsTo
  rw [List.range_succ, List.filter_append, List.map_append, List.filter_cons, if_pos h]; rfl
theorem bads_no {dts : List Nat} {i : Nat} (h : badS dts i = false) : badsTo dts (i + 1) = badsTo dts i := by
  unfold badsTo
  rw [List.range_succ, List.filter_append, List.map_append, List.filter_cons, if_neg (by rw [h]; exact Bool.false_ne_true)]
  simp
theorem bads_even (dts : List Nat) : decide (natI (badsTo dts (dts.length - 1)) = []) = evenB dts := by
  rw [Bool.eq_iff_iff, decide_eq_true_eq]
  unfold natI badsTo evenB badS
  rw [List.map_eq_nil_iff, List.map_eq_nil_iff, List.filter_eq_nil_iff, List.all_eq_true]
  simp only [List.mem_range, decide_eq_true_eq, Bool.or_eq_true, beq_iff_eq]
  constructor
  · intro h k hk
    rcases Nat.eq_zero_or_pos k with h0 | h0
    · exact .inl h0
    · have := h (k - 1) (by omega)
      rw [show k - 1 + 1 = k by omega] at this
      exact .inr (by omega)
  · intro h i hi hlt
    rcases h (i + 1) (by omega) with h0 | h0
    · omega
    · rw [Nat.add_sub_cancel] at h0; omega
theorem small_one {n : Nat} (h : n < 1000000) : Builtin.Range.small 1 (n : Int) 1 = true := by
  have e := rangeSize_nat 1 (n : Int)
  unfold Builtin.Range.small
  rw [e]
  simp [Builtin.Range.rangeFitsLong]
  omega
theorem rsize_one (n : Nat) : Builtin.Range.rangeSize 1 (n : Int) 1 = ((n - 1 : Nat) : Int) := by rw [rangeSize_nat]; omega
theorem want3 (a b c : Nat) : Str.ofString "..." ++ (⟨#[a]⟩ : Str) ++ Str.ofString "..." ++ (⟨#[b]⟩ : Str) ++ Str.ofString "..." ++ (⟨#[c]⟩ : Str) ++ Str.ofString "..." = wantS [a, b, c] := by
  rw [show Str.ofString "..." = dots3 from by decide +kernel]
  apply Str.ext'
  simp only [Str.cps_append]
  unfold dots3 wantS wantL
  simp
def crR (op cl : List Nat) (z y x : Nat) : Bool := (List.range x).all fun x => !isub [op.getD z 0, op.getD x 0, op.getD y 0] cl
def crQ (op cl : List Nat) (z y : Nat) : Bool := (List.range y).all fun y => crR op cl z y y
def crP (op cl : List Nat) (z : Nat) : Bool := (List.range z).all fun z => crQ op cl z z
theorem crR_succ (op cl : List Nat) (z y x : Nat) : crR op cl z y (x + 1) = (crR op cl z y x && !isub [op.getD z 0, op.getD x 0, op.getD y 0] cl) := by
  unfold crR; rw [List.range_succ, List.all_append]; simp
theorem crQ_succ (op cl : List Nat) (z y : Nat) : crQ op cl z (y + 1) = (crQ op cl z y && crR op cl z y y) := by
  unfold crQ; rw [List.range_succ, List.all_append]; simp
theorem crP_succ (op cl : List Nat) (z : Nat) : crP op cl (z + 1) = (crP op cl z && crQ op cl z z) := by
  unfold crP; rw [List.range_succ, List.all_append]; simp
theorem crP_all (op cl : List Nat) : crP op cl op.length = noCross op cl := rfl
/-- the list of what is crossed -/
def Crossed (vs : List Value) (n : Nat) (b : Bool) : Prop := ∃ ss, StrsAre vs ss ∧ (∀ y ∈ ss, PyData.strOk y = true) ∧ vs.length ≤ n ∧ vs.isEmpty = b
theorem crossed_same {vs : List Value} {n n' : Nat} {b b' : Bool} (h : Crossed vs n b) (hn : n ≤ n') (hb : b = b') : Crossed vs n' b' := by
  subst hb
  obtain ⟨ss, h1, h2, h3, h4⟩ := h
  exact ⟨ss, h1, h2, Nat.le_trans h3 hn, h4⟩
theorem crossed_push {vs : List Value} {n n' : Nat} {b b' : Bool} (h : Crossed vs n b) (y : Str) (t : Tok) (hy : PyData.strOk y = true) (hn : n + 1 ≤ n') (hb : b' = false) : Crossed (vs ++ [.str y t]) n' b' := by
  subst hb
  obtain ⟨ss, h1, h2, h3, h4⟩ := h
  refine ⟨ss ++ [y], strsAre_snoc h1 y t, fun z hz => ?_, by rw [List.length_append, List.length_singleton]; omega, by simp⟩
  rcases List.mem_append.mp hz with q | q
  · exact h2 z q
  · rw [List.mem_singleton.mp q]; exact hy
theorem ok_three {a b c : Nat} (ha : low a = true) (hb : low b = true) (hc : low c = true) : PyData.strOk ((⟨#[a]⟩ : Str) ++ (⟨#[b]⟩ : Str) ++ (⟨#[c]⟩ : Str)) = true := by
  have z : ∀ a ∈ [97, 98, 99, 100, 101], ∀ b ∈ [97, 98, 99, 100, 101], ∀ c ∈ [97, 98, 99, 100, 101], PyData.strOk ((⟨#[a]⟩ : Str) ++ (⟨#[b]⟩ : Str) ++ (⟨#[c]⟩ : Str)) = true := by decide +kernel
  exact z a (low_mem ha) b (low_mem hb) c (low_mem hc)
theorem crossed_eq {vs : List Value} {ss : List Str} (h : StrsAre vs ss) : decide (ss.map Dat.str = []) = vs.isEmpty := by
  cases h <;> simp
theorem eq_arr (a b : List Nat) : ((⟨a.toArray⟩ : Str) == (⟨b.toArray⟩ : Str)) = (a == b) := by
  rw [Bool.eq_iff_iff, beq_iff_eq, beq_iff_eq]
  exact ⟨fun h => by injection h with h; simpa using h, fun h => by rw [h]⟩
section
variable {cr I : Addr} {o o' : Obj} {l : List (Addr × Obj)} {q r : Addr × Obj}
theorem off_swap (h : ∀ p ∈ (cr, o) :: l, p.1 ≠ I) : ∀ p ∈ (cr, o') :: l, p.1 ≠ I := fun p hp => by
  rcases List.mem_cons.mp hp with rfl | hp
  · exact h (cr, o) (.head _)
  · exact h p (.tail _ hp)
theorem off_swap1 (h : ∀ p ∈ q :: (cr, o) :: l, p.1 ≠ I) : ∀ p ∈ q :: (cr, o') :: l, p.1 ≠ I := fun p hp => by
  rcases List.mem_cons.mp hp with rfl | hp
  · exact h p (.head _)
  · exact off_swap (fun p hp => h p (.tail _ hp)) p hp
theorem off_swap2 (h : ∀ p ∈ q :: r :: (cr, o) :: l, p.1 ≠ I) : ∀ p ∈ q :: r :: (cr, o') :: l, p.1 ≠ I := fun p hp => by
  rcases List.mem_cons.mp hp with rfl | hp
  · exact h p (.head _)
  · exact off_swap1 (fun p hp => h p (.tail _ hp)) p hp
end
theorem fin_true {s₀ s₁ s' : Shared} {L : Addr} {m : Str → Option Value} {ns : List Int} {b : Bool} (F : Fr s₁.heap L s'.heap m) (hg : s'.gens = #[]) (hos : s'.os = s₁.os) (hb : b = true) :
    GoodW PySem.Challenge.rw_pu0057_01.row.claim (classAt s₀.heap) (ExcName.means s₀.heap) [ofPy (PyData.list (List.map PyData.int ns))] s₁ (Except.ok (Flow.ret (Value.bool b))) s' := by
  subst hb
  refine goodW_bool F hg (raisesW_false ?_) ?_ hos
  · wrow_none_raised
  · wrow_post
theorem ix10 {i n : Nat} (h : i < n) (hn : n ≤ 10) : i < 1000 := Nat.lt_of_lt_of_le h (Nat.le_trans hn (by decide))
section
variable {prog : Program} {w : World} {A : Around} {E : Value → Shared → Prop} {s : Shared} {h₀ : Heap} {L : Addr} {nw : List (Addr × Obj)}
/-- an item of a list of the ledger's, at a small place -/
theorem item_ledN {value slice : Expr} {l : Addr} {vs : List Value} {n i : Nat} {u : Tok} {v : Value} {Q : Value → Shared → Prop} (N : News h₀ L s.heap nw) (hm : (l, listOf vs.toArray n) ∈ nw) (hi : i < 1000) (hx : vs[i]? = some v) (h : Q v s)
    (hs : subscripted slice false (.ref l) (.int (i : Int) u) = operate [.ref l, .int (i : Int) u] (getItem (.ref l) (.int (i : Int) u)) := by with_unfolding_all rfl) :
    wpAny (model prog w) A (subscriptTail value slice (.ref l) (.int (i : Int) u)) Q E s :=
  item_led N hm (by omega) (by omega) (by simpa using hx) h hs
/-- one of the three ends of a line -/
theorem item_sep {value slice : Expr} {l : Addr} {t1 t2 t3 : Tok} {n : Nat} {r : Int} {u : Tok} {Q : Value → Shared → Prop} (N : News h₀ L s.heap nw) (hm : (l, listOf [.str (Str.ofString "\n") t1, .str (Str.ofString "\r") t2, .str (Str.ofString "\r\n") t3].toArray n) ∈ nw)
    (hr : r = 0 ∨ r = 1 ∨ r = 2) (h : ∀ (sep : List Nat) (t : Tok), (sep = [10] ∨ sep = [13] ∨ sep = [13, 10]) → Q (.str ⟨sep.toArray⟩ t) s)
    (hs : subscripted slice false (.ref l) (.int r u) = operate [.ref l, .int r u] (getItem (.ref l) (.int r u)) := by with_unfolding_all rfl) :
    wpAny (model prog w) A (subscriptTail value slice (.ref l) (.int r u)) Q E s := by
  rcases hr with rfl | rfl | rfl
  · exact item_led N hm (by decide) (by decide) rfl (by rw [show Str.ofString "\n" = ⟨([10] : List Nat).toArray⟩ from by decide +kernel]; exact h _ _ (.inl rfl)) hs
  · exact item_led N hm (by decide) (by decide) rfl (by rw [show Str.ofString "\r" = ⟨([13] : List Nat).toArray⟩ from by decide +kernel]; exact h _ _ (.inr (.inl rfl))) hs
  · exact item_led N hm (by decide) (by decide) rfl (by rw [show Str.ofString "\r\n" = ⟨([13, 10] : List Nat).toArray⟩ from by decide +kernel]; exact h _ _ (.inr (.inr rfl))) hs
theorem fmod3 (n : Int) : Int.fmod n 3 = 0 ∨ Int.fmod n 3 = 1 ∨ Int.fmod n 3 = 2 := by
  have h1 := Int.fmod_nonneg_of_pos n (show (0 : Int) < 3 by decide)
  have h2 := Int.fmod_lt_of_pos n (show (0 : Int) < 3 by decide)
  omega
end

-- K20
theorem law_try : PySem.Challenge.rw_pu0057_01.Holds := by
  refine hd ?_
  k_fill
  intro w s₀ s₁ mg mb G Y fa o pm cd doc dV kV ho hd' hcd hD hmg hg args vals as hpre hlay hrd hwl hlo
  have KX := kIn_of Y
  have X := (Ground.X G).1
  have V := (Ground.X G).2
  refine Ground.open G ?_
  intro T B D TE TW
  try (refine guard_noD D (by decide +kernel) ?_; clear D)
  obtain ⟨_, _, M⟩ := bmod_of_top T
  have TA := at_of_top T
  try (obtain ⟨_, _, he, B0⟩ := based_of_top T rfl hmg ho hd'; have he' : cd = _ := he; subst he'; clear he)
  clear hmg
  wrow_args hpre hlay hrd hwl hlo
  first | refine callC_kw (enter_call ?_) | refine enter_call ?_
  w_top on
  try refine codeAny_mono ?_ (fun _ _ g => GoodW.toG g)
  have K0 := below_caller (Top.heap T)
  w_call any ho hd' hcd hD T F
  clear hd' TA
  k_drop
  try clear G
  try clear Y
  try clear V
  try clear X
  try clear TE
  try clear TW
  try clear M
  try clear hD
  try clear B
  try k_fold
  dsimp only
  rename IntsAre _ _ => hI
  rename Heap.IsList _ _ _ => hL
  rename ¬ _ < _ => hlen
  rename_i hF tkF oD oN oB oL eD eN eB eL N0 X0
  have eD' : oD.data = .cell none := eD
  have eN' : oN.data = .cell none := eN
  have eB' : oB.data = .cell none := eB
  have eL' : oL.data = .cell none := eL
  clear eD eN eB eL X0
  try clear hcd
  generalize hLF : s₁.heap.objs.size = LF at F N0 ⊢
  refine seq_cps (fun K : Shared → Prop => ∀ lg k lt oL' l vs ns (h : Heap) (tk : Nat) (m : Str → Option Value), Fr s₁.heap LF h m → News s₁.heap LF h ((lg, listOf (letV lt).toArray k) :: (LF + 1 + 1 + 1 + 1, oD) :: (LF + 1 + 1 + 1, oN) :: (LF + 1 + 1, oB) :: (LF + 1, oL') :: []) →
    oL'.data = .cell (some (.ref lg)) → (∀ j : Nat, j < 5 → 0 < j → lg ≠ LF + j) → (∃ ns, lt.map (·.1) = (tenOf ns).map sign10) → m (Str.ofString "script") = some (.ref l) → s₁.heap.IsList l vs.toArray → IntsAre vs ns → ns.length ≤ 63 → K { s₁ with heap := h, toks := tk }) ?_ ?_
  ·
    intro TP hTP
    k_steps
    k_dflt (refine' ClaimB.use (log_claim w _ _ _ _ hI ?hl) ?k1 ?k2 ?k3 N0 ?k5 ?kK ?kb ?kd ?ku ?_)
    (case hl => omega)
    (case kb => exact hL)
    (case k1 => k_asm); (case k2 => k_asm); (case k3 => k_asm); (case k5 => k_asm); (case kK => exact rfl); (case kd => ktr_room); (case ku => ktr_units)
    rintro r nw h tk ⟨lg, k, lt, rfl, rfl, hoff, hlt⟩ F1 N1
    dsimp only
    k_steps
    refine storeX_C F1 N1 (c := LF + 1) rfl (.tail (fun e => hoff (LF + 1, oL) (by simp) e.symm) (.tail (Nat.ne_of_gt (by omega)) (.tail (Nat.ne_of_gt (by omega)) (.tail (Nat.ne_of_gt (by omega)) (.head fun p hp => nomatch hp))))) eL' ?_
    intro h2 oL2 F2 N2 eL2
    dsimp only
    k_steps
    refine ⟨rfl, hTP lg k lt oL2 _ _ _ _ _ _ F2 N2 eL2 (fun j hj h0 => ?_) ⟨_, hlt⟩ rfl hL hI (by omega)⟩
    have : j = 1 ∨ j = 2 ∨ j = 3 ∨ j = 4 := by omega
    rcases this with rfl | rfl | rfl | rfl
    · exact fun e => hoff (LF + 1, oL) (by simp) e.symm
    · exact fun e => hoff (LF + 1 + 1, oB) (by simp) e.symm
    · exact fun e => hoff (LF + 1 + 1 + 1, oN) (by simp) e.symm
    · exact fun e => hoff (LF + 1 + 1 + 1 + 1, oD) (by simp) e.symm
  rintro lg k lt oL2 l vs ns h2 tk2 m2 F2 N2 eL2 offl ⟨ns0, hlt⟩ hm1 hL1 hI1 hn1
  rw [map_know hm1] at F2
  clear N0 F eL'
  have hlen10 : lt.length = 10 := by
    have := congrArg List.length hlt
    rw [List.length_map, List.length_map, ten_len] at this
    exact this
  have hlets : ∀ p ∈ lt, letter p.1 = true := fun p hp => by
    have h : p.1 ∈ lt.map (·.1) := List.mem_map_of_mem hp
    rw [hlt] at h
    obtain ⟨x, hx, e⟩ := List.mem_map.mp h
    rw [← e]
    exact sign_letter (ten_lt ns0 x hx).1 (ten_lt ns0 x hx).2
  refine seq_cps (fun K : Shared → Prop => ∀ TT x1 d1 h1 x2 d2 h2 td E1 E2 lt3 n1 n2 n3 (h : Heap) (tk : Nat) (m : Str → Option Value), Fr s₁.heap LF h m → News s₁.heap LF h ((LF + 1 + 1 + 1 + 1, oD) :: (LF + 1 + 1 + 1, oN) :: (LF + 1 + 1, oB) :: (LF + 1, oL2) :: TT) →
    Tabled LF TT lg k lt x1 d1 h1 x2 d2 h2 td E1 E2 lt3 n1 n2 n3 → m (Str.ofString "script") = some (.ref l) → m (Str.ofString "first") = some (.ref x1) → m (Str.ofString "last") = some (.ref x2) → m (Str.ofString "told") = some (.ref td) → K { s₁ with heap := h, toks := tk }) ?_ ?_
  ·
    intro TP hTP
    k_steps
    rename News _ _ _ _ => N3
    k_dflt (refine' Claim.use (tables_claim w _ lg lt k hlen10 hlets (.head _) ?hnd) ?k1 ?k2 ?k3 N3 ?k5 ?kK ?kd ?ku ?_)
    (case hnd => 
      simp only [List.map_cons, List.map_nil, List.nodup_cons, List.mem_cons, List.not_mem_nil, or_false, not_or, not_false_eq_true, List.nodup_nil, and_true]
      refine ⟨⟨offl 4 (by decide) (by decide), offl 3 (by decide) (by decide), offl 2 (by decide) (by decide), offl 1 (by decide) (by decide)⟩, ⟨Nat.ne_of_gt (by omega), Nat.ne_of_gt (by omega), Nat.ne_of_gt (by omega)⟩, ⟨Nat.ne_of_gt (by omega), Nat.ne_of_gt (by omega)⟩, Nat.ne_of_gt (by omega)⟩)
    (case k1 => k_asm); (case k2 => k_asm); (case k3 => k_asm); (case k5 => k_asm); (case kK => exact rfl); (case kd => ktr_room); (case ku => ktr_units)
    rintro r nw h tk ⟨tp, x1, d1, h1, x2, d2, h2', td, E1, E2, lt3, n1, n2, n3, rest, rfl, rfl, TB, hrun, b1, b2, b3, b4⟩ F4 N4
    dsimp only
    k_steps
    rename Fr _ _ _ _ => F5
    rename News _ _ _ _ => N5
    obtain ⟨TT, hTab, hsub⟩ := tabled_of (LF := LF) (n1 := n1) (n2 := n2) (n3 := n3) TB (.head _) (fun j hj => by
        have : j = 0 ∨ j = 1 ∨ j = 2 ∨ j = 3 ∨ j = 4 := by omega
        rcases this with rfl | rfl | rfl | rfl | rfl
        · exact .inl rfl
        · exact .inr ⟨oL2, _, .tail _ (.tail _ (.tail _ (.tail _ (.head _)))), eL2⟩
        · exact .inr ⟨oB, _, .tail _ (.tail _ (.tail _ (.head _))), eB'⟩
        · exact .inr ⟨oN, _, .tail _ (.tail _ (.head _)), eN'⟩
        · exact .inr ⟨oD, _, .tail _ (.head _), eD'⟩)
      (fun p hp => (N5 p (.tail _ (.tail _ (.tail _ (.tail _ hp))))).2.1) ⟨(N5 _ (.tail _ (.head _))).2.1, (N5 _ (.tail _ (.tail _ (.head _)))).2.1, (N5 _ (.tail _ (.tail _ (.tail _ (.head _))))).2.1⟩ hrun hlen10 hlets
    have N6 : News s₁.heap LF _ ((LF + 1 + 1 + 1 + 1, oD) :: (LF + 1 + 1 + 1, oN) :: (LF + 1 + 1, oB) :: (LF + 1, oL2) :: TT) := fun p hp => N5 p (by
      have old := TB.old
      simp only [List.mem_cons] at hp
      rcases hp with rfl | rfl | rfl | rfl | hp
      · exact .tail _ (.tail _ (.tail _ (.tail _ (old _ (.tail _ (.head _))))))
      · exact .tail _ (.tail _ (.tail _ (.tail _ (old _ (.tail _ (.tail _ (.head _)))))))
      · exact .tail _ (.tail _ (.tail _ (.tail _ (old _ (.tail _ (.tail _ (.tail _ (.head _))))))))
      · exact .tail _ (.tail _ (.tail _ (.tail _ (old _ (.tail _ (.tail _ (.tail _ (.tail _ (.head _)))))))))
      · exact .tail _ (hsub p hp))
    exact ⟨rfl, hTP TT x1 d1 h1 x2 d2 h2' td E1 E2 lt3 n1 n2 n3 _ _ _ F5 N6 hTab rfl rfl rfl rfl⟩
  rintro TT x1 d1 h1' x2 d2 h2' td E1 E2 lt3 n1 n2 n3 h3 tk3 m3 F3 N3 TB hm1 hm2 hm3 hm4
  rw [map_know hm1, map_know hm2, map_know hm3, map_know hm4] at F3
  clear N2 F2
  -- the places
  refine seq_cps (fun K : Shared → Prop => ∀ b e o1 o2 oB2 Bt Et (h : Heap) (tk : Nat) (m : Str → Option Value), Fr s₁.heap LF h m → News s₁.heap LF h ((b, o1) :: (e, o2) :: (LF + 1 + 1 + 1 + 1, oD) :: (LF + 1 + 1 + 1, oN) :: (LF + 1 + 1, oB2) :: (LF + 1, oL2) :: TT) →
    oB2.data = .cell (some (.ref b)) → o1.IsDictOf (PySem.strKind PrC w) (kvP Bt) → o2.IsDictOf (PySem.strKind PrC w) (kvP Et) → Bt.map pl2 = runB (lt.map (·.1)) → Et.map pl2 = runE (lt.map (·.1)) → (b == sysModules) = false → (e == sysModules) = false → (∀ p ∈ TT, p.1 < b ∧ p.1 < e) → (∀ j : Nat, j < 5 → LF + j < b ∧ LF + j < e) → b < e → m (Str.ofString "script") = some (.ref l) → m (Str.ofString "first") = some (.ref x1) → m (Str.ofString "last") = some (.ref x2) → m (Str.ofString "told") = some (.ref td) → m (Str.ofString "ends") = some (.ref e) → K { s₁ with heap := h, toks := tk }) ?_ ?_
  ·
    intro TP hTP
    k_steps
    rename News _ _ _ _ => N4
    k_dflt (refine' Claim.use (places_claim w _ lg lt k hlen10 hlets ?hlg) ?k1 ?k2 ?k3 N4 ?k5 ?kK ?kd ?ku ?_)
    (case hlg => exact .tail _ (.tail _ (.tail _ (.tail _ TB.lg))))
    (case k1 => k_asm); (case k2 => k_asm); (case k3 => k_asm); (case k5 => k_asm); (case kK => exact rfl); (case kd => ktr_room); (case ku => ktr_units)
    rintro r nw h tk ⟨tp, b, e, o1, o2, Bt, Et, rfl, rfl, P1, P2, hB, hE, b1, b2, b3, lo1, lo2⟩ F5 N5
    dsimp only
    k_steps
    rename Fr _ _ _ _ => F6
    rename News _ _ _ _ => N6
    have hbB : @LT.lt Nat _ (LF + 1 + 1) b := b3 (LF + 1 + 1, oB) (by simp)
    have hbD : @LT.lt Nat _ (LF + 1 + 1 + 1 + 1) b := b3 (LF + 1 + 1 + 1 + 1, oD) (by simp)
    have b1' : @LT.lt Nat _ b e := b1
    have b2' : @LT.lt Nat _ e tp := b2
    refine storeX_C F6 N6 (c := LF + 1 + 1) rfl (.tail (Nat.ne_of_gt (by omega)) (.tail (Nat.ne_of_gt (by omega)) (.tail (Nat.ne_of_gt (by omega)) (.tail (Nat.ne_of_gt (by omega)) (.tail (Nat.ne_of_gt (by omega)) (.head fun p hp => ?_)))))) eB' ?_
    · rcases List.mem_cons.mp hp with rfl | hp
      · exact Nat.ne_of_lt (by omega)
      · exact TB.off p hp 2 (by decide)
    intro h7 oB2 F7 N7 eB2
    dsimp only
    k_steps
    rename Fr _ _ _ _ => F8
    rename News _ _ _ _ => N8
    refine ⟨rfl, hTP b e o1 o2 oB2 Bt Et _ _ _ F8 (fun p hp => N8 p (.tail _ hp)) eB2 P1 P2 hB hE lo1 lo2 (fun p hp => ?_) (fun j hj => ?_) b1 rfl rfl rfl rfl rfl⟩
    · have hpb : (p.1 : Nat) < b := b3 p (.tail _ (.tail _ (.tail _ (.tail _ hp))))
      exact ⟨hpb, Nat.lt_trans hpb b1'⟩
    · exact ⟨by show @LT.lt Nat _ (LF + j) b; omega, by show @LT.lt Nat _ (LF + j) e; omega⟩
  rintro b e o1 o2 oB2 Bt Et h4 tk4 m4 F4 N4 eB2 P1 P2 hB hE lo1 lo2 hTb hLb hbe hm1 hm2 hm3 hm4 hm5
  clear N3 F3
  obtain ⟨cs, hcs⟩ : ∃ cs, cs = lt.map (·.1) := ⟨_, rfl⟩
  have hcsl : cs.length = 10 := by rw [hcs, List.length_map, hlen10]
  have hcs2 : ∀ c ∈ cs, letter c = true := fun c hc => by
    rw [hcs] at hc
    obtain ⟨p, hp, rfl⟩ := List.mem_map.mp hc
    exact hlets p hp
  rw [← hcs] at hB hE
  have hrun := TB.run
  rw [← hcs] at hrun
  obtain ⟨ks, R⟩ := runs_all cs
  -- what was told
  refine seq_cps (fun K : Shared → Prop => ∀  (h : Heap) (tk : Nat) (m : Str → Option Value), Fr s₁.heap LF h m → News s₁.heap LF h ((b, o1) :: (e, o2) :: (LF + 1 + 1 + 1 + 1, oD) :: (LF + 1 + 1 + 1, oN) :: (LF + 1 + 1, oB2) :: (LF + 1, oL2) :: TT) →
    m (Str.ofString "script") = some (.ref l) → m (Str.ofString "first") = some (.ref x1) → m (Str.ofString "last") = some (.ref x2) → m (Str.ofString "ends") = some (.ref e) → K { s₁ with heap := h, toks := tk }) ?_ ?_
  ·
    intro TP hTP
    rw [map_know hm1, map_know hm2, map_know hm3, map_know hm4, map_know hm5] at F4
    k_steps
    rename Fr _ _ _ _ => F5
    k_dflt (refine LCg.ListComp_U (F₀ := F5) (by with_unfolding_all rfl) (by decide) (by rfl) (by decide) (by rfl) ?_)
    k_steps
    rename Fr _ _ _ _ => F6
    rename News _ _ _ _ => N6
    refine compU_list (fun i ys => StrsAre ys ((cs.take i).map fun c => oneS (48 + dotAt (runB cs) (lowC c)))) rfl F6 N6 (.tail _ (.tail _ (.tail _ (.tail _ (.tail _ (.tail _ TB.lg)))))) (by rw [List.size_toArray, sizeLine_eq]; unfold letV; rw [List.length_map]; omega) .nil ?_ ?_
    · rintro i ys v I oI C oC D m₂ g h tk E' hv hJ hn hm₂ F7 N7 off ne
      refine abs_post fun TQ hCE => ?_
      obtain ⟨c, tc, hcl, rfl⟩ := letV_get (by simpa using hv)
      have hci : cs[i]? = some c := by rw [hcs, List.getElem?_map, hcl]; rfl
      have hc : letter c = true := hcs2 c (List.mem_of_getElem? hci)
      have hcB := R.hs c (List.mem_of_getElem? hci)
      have hd10 := dotAt_lt R hcB
      rw [hcsl] at hd10
      obtain ⟨tv, hva⟩ := kvP_at (l := Bt) (c := lowC c) (d := dotAt (runB cs) (lowC c)) (by rw [hB]) (by rw [hB]; exact hcB)
      k_steps
      rename News _ _ _ _ => N8
      refine kda_item (knd := PySem.strKind _ _) N8 (by k_mem) P1 (strKind_is _ _ _ _) hva ?_
      try dsimp only
      k_steps
      refine call_strdig hd10 ?_
      try dsimp only
      k_steps
      rename Fr _ _ _ _ => F9
      rename News _ _ _ _ => N9
      refine hCE (CE.intro F9 N9 (fun p hp => hp) ?_)
      rw [List.take_add_one, hci, List.map_append]
      exact strsAre_snoc hJ (oneS (48 + dotAt (runB cs) (lowC c))) _
    · intro ys g hJ
      have e10 : (letV lt).toArray.size = cs.length := by rw [List.size_toArray]; unfold letV; rw [List.length_map, hlen10, hcsl]
      rw [e10, List.take_length] at hJ
      intro D h8 tk8 F8 N8 off8
      dsimp only
      k_steps
      rename News _ _ _ _ => N9
      have htd : lt3.map (·.1) = cs.map fun c => 48 + dotAt (runB cs) (lowC c) := by rw [← R.td, ← hrun]
      refine ne_same (n₁ := []) (n₂ := []) N9 (oa := listOf (letV lt3).toArray n3) (.tail _ (.tail _ (.tail _ (.tail _ (.tail _ (.tail _ (.tail _ TB.td))))))) rfl rfl (strs_dat (strsAre_letV lt3)) (fun p hp => absurd hp List.not_mem_nil)
        (ob := LCg.lst ys) (.head _) rfl rfl (strs_dat hJ) (fun p hp => absurd hp List.not_mem_nil) (strs_ok fun y hy => ?_) ?_ (by ktr_units) ?_
      · obtain ⟨q, hq, rfl⟩ := List.mem_map.mp hy
        have : q.1 ∈ lt3.map (·.1) := List.mem_map_of_mem hq
        rw [htd] at this
        obtain ⟨c, hc, e⟩ := List.mem_map.mp this
        have := dotAt_lt R (R.hs c hc)
        exact one_ok (by omega)
      · have := congrArg (List.map oneS) htd
        rw [List.map_map, List.map_map] at this
        exact congrArg (List.map Dat.str) this
      · k_steps
        rename Fr _ _ _ _ => F10
        rename News _ _ _ _ => N10
        exact ⟨rfl, hTP _ _ _ F10 (fun p hp => N10 p (.tail _ hp)) rfl rfl rfl rfl⟩
  rintro h5 tk5 m5 F5 N5 hm1 hm2 hm3 hm5
  clear N4 F4
  have hLED : ∀ p ∈ TT, p ∈ (b, o1) :: (e, o2) :: (LF + 1 + 1 + 1 + 1, oD) :: (LF + 1 + 1 + 1, oN) :: (LF + 1 + 1, oB2) :: (LF + 1, oL2) :: TT := fun p hp => .tail _ (.tail _ (.tail _ (.tail _ (.tail _ (.tail _ hp)))))
  have hBl : Bt.length < 64 ∧ Bt ≠ [] := by
    have h1 := congrArg List.length hB
    rw [List.length_map] at h1
    have h2 := runB_len cs
    refine ⟨by omega, fun h0 => ?_⟩
    rw [h0] at h1
    have := R.hs (cs[0]'(by omega)) (List.getElem_mem _)
    rw [List.eq_nil_of_length_eq_zero h1.symm] at this
    cases this
  have hBv : (Bt.map (·.2.1)) = (runB cs).map (·.2) := by rw [← hB, List.map_map]; rfl
  have hrowE1 : (E1.map fun e => Dat.tuple [.str (oneS e.c), .str (oneS e.k)]) = ((runB cs).map (·.2)).map (rowT cs) := rows_eq (by
    have h1 := congrArg (fun q => q.1) hrun
    dsimp only at h1
    rw [h1, R.t1, List.map_map]; rfl)
  have hrowE2 : (E2.map fun e => Dat.tuple [.str (oneS e.c), .str (oneS e.k)]) = ks.map (rowT cs) := rows_eq (by
    have h1 := congrArg (fun q => q.2.1) hrun
    dsimp only at h1
    rw [h1, R.t2])
  -- the items of the first table
  refine seq_cps (fun K : Shared → Prop => ∀  (h : Heap) (tk : Nat) (m : Str → Option Value), Fr s₁.heap LF h m → News s₁.heap LF h ((b, o1) :: (e, o2) :: (LF + 1 + 1 + 1 + 1, oD) :: (LF + 1 + 1 + 1, oN) :: (LF + 1 + 1, oB2) :: (LF + 1, oL2) :: TT) →
    m (Str.ofString "script") = some (.ref l) → m (Str.ofString "first") = some (.ref x1) → m (Str.ofString "last") = some (.ref x2) → m (Str.ofString "ends") = some (.ref e) → K { s₁ with heap := h, toks := tk }) ?_ ?_
  ·
    intro TP hTP
    rw [map_know hm1, map_know hm2, map_know hm3, map_know hm5] at F5
    have to1 := TB.o1
    obtain ⟨hs1, tq1, to1q⟩ := TB.q1
    have tl1 := TB.l1
    k_steps
    try dsimp only
    rename News _ _ _ _ => N6
    have hE1l : E1.length < 1000 := by
      have h1 := congrArg (fun q => q.1.length) hrun
      have h2 := (run_lens cs).1
      dsimp only at h1
      rw [List.length_map] at h1
      omega
    k_dflt (refine' Claim.use (items_claim w _ x1 d1 h1' hs1 tq1 E1 n1 hE1l (hLED _ to1) (hLED _ to1q) (hLED _ tl1)) ?k1 ?k2 ?k3 N6 ?k5 ?kK ?kd ?ku ?_)
    (case k1 => k_asm); (case k2 => k_asm); (case k3 => k_asm); (case k5 => k_asm); (case kK => exact rfl); (case kd => ktr_room); (case ku => ktr_units)
    rintro r7 nw7 h7 tk7 ⟨D7, k7, rfl, rfl, off7⟩ F7 N7
    dsimp only
    k_steps
    rename Fr _ _ _ _ => F8
    k_dflt (refine LCg.ListComp_U (F₀ := F8) (by with_unfolding_all rfl) (by decide) (by rfl) (by decide) (by rfl) ?_)
    k_steps
    rename Fr _ _ _ _ => F9
    rename News _ _ _ _ => N9
    refine sorted_vals (ks := (runB cs).map (·.2)) rfl F9 N9 (.head _) (.tail _ (.tail _ (.head _))) P1 (List.Perm.of_eq hBv.symm) R.bs hBl.2 hBl.1 ?_
    intro B10 vs10 n10 h10 tk10 hI10 F10 N10 l10
    dsimp only
    k_steps
    refine compD_list (rowT cs) rfl F10 N10 (.head _) hI10 (by rw [List.length_map]; have := runB_len cs; omega) ?_ ?_
    · intro i ys kk tv TS I oI C oC D m₂ g h tk E' hkk hn hm₂ F11 N11 off ne
      refine abs_post fun TQ hCE => ?_
      have hk10 : kk < cs.length := by
        obtain ⟨y, hy, rfl⟩ := List.mem_map.mp (List.mem_of_getElem? hkk)
        exact (R.b y hy).1
      obtain ⟨⟨c, tc⟩, hcl⟩ : ∃ q, lt[kk]? = some q := ⟨lt[kk]'(by omega), by simp⟩
      have hitem : (letV lt)[kk]? = some (.str ⟨#[c]⟩ tc) := by unfold letV; rw [List.getElem?_map, hcl]; rfl
      have hcc : cs.getD kk 0 = c := by rw [hcs, List.getD_eq_getElem?_getD, List.getElem?_map, hcl]; rfl
      have hlgm := TB.lg
      k_steps
      rename News _ _ _ _ => N12
      refine LCgL.ld_own N12 (.tail _ (.head _)) hn hm₂ ?_
      k_steps
      rename News _ _ _ _ => N12
      refine item_ledN N12 (.tail _ (.tail _ (.tail _ (List.mem_append_right _ (.tail _ (.tail _ (.tail _ (hLED _ hlgm)))))))) (ix10 hk10 (Nat.le_of_eq hcsl)) hitem ?_
      try dsimp only
      k_steps
      rename News _ _ _ _ => N12
      refine LCgL.ld_own N12 (.tail _ (.head _)) hn hm₂ ?_
      k_steps
      refine call_strdig (by omega) ?_
      try dsimp only
      k_steps
      rename Fr _ _ _ _ => F13
      rename News _ _ _ _ => N13
      rename (I < _ ∧ _) => b13
      exact hCE ⟨_, [.str ⟨#[c]⟩ tc, .str ⟨#[48 + kk]⟩ _], 0, [.str (oneS c), .str (oneS (48 + kk))], _, _, rfl, rfl, F13, N13, b13.1, b13.2.1, b13.2.2.1, .cons (.str _ _) (.cons (.str _ _) .nil), by rw [rowT, hcc]⟩
    · intro ys TS g hJ
      intro D h11 tk11 F11 N11 off11
      dsimp only
      k_steps
      rename News _ _ _ _ => N12
      refine ne_same (n₁ := TT) (n₂ := TS) N12 (oa := listOf (rfs E1).toArray k7) (.tail _ (List.mem_append_right _ (.tail _ (.tail _ (.head _))))) rfl rfl (rows_dat E1 fun x hx => (TB.e1 x hx).2) (fun p hp => .tail _ (List.mem_append_right _ (.tail _ (.tail _ (.tail _ (hLED p hp))))))
        (ob := LCg.lst ys) (.head _) rfl rfl hJ (fun p hp => .tail _ (List.mem_append_left _ hp)) ?_ ?_ (by ktr_units) ?_
      · rw [hrowE1]
        intro dd hdd
        obtain ⟨kk, hkk, rfl⟩ := List.mem_map.mp hdd
        obtain ⟨y, hy, rfl⟩ := List.mem_map.mp hkk
        exact rowT_ok (by have := (R.b y hy).1; omega) (fun c hc => letter_small (hcs2 c hc))
      · exact hrowE1
      · k_steps
        rename Fr _ _ _ _ => F13
        rename News _ _ _ _ => N13
        exact ⟨rfl, hTP _ _ _ F13 (fun p hp => N13 p (.tail _ (List.mem_append_right _ (.tail _ (.tail _ (.tail _ hp)))))) rfl rfl rfl rfl⟩
  rintro h6 tk6 m6 F6 N6 hm1 hm2 hm3 hm5
  clear N5 F5
  have hEl : Et.length < 64 ∧ Et ≠ [] := by
    have h1 := congrArg List.length hE
    rw [List.length_map] at h1
    have h2 := runE_len cs
    refine ⟨by omega, fun h0 => ?_⟩
    rw [h0] at h1
    have := R.hs (cs[0]'(by omega)) (List.getElem_mem _)
    have h3 := congrArg List.length R.ek
    rw [List.length_map, List.length_map, ← h1] at h3
    rw [List.eq_nil_of_length_eq_zero h3.symm] at this
    cases this
  have hEp : ks.Perm (Et.map (·.2.1)) := by
    have : (Et.map (·.2.1)) = (runE cs).map (·.2) := by rw [← hE, List.map_map]; rfl
    rw [this]; exact R.kp
  have hksl : ks.length ≤ 10 := by
    have h1 := hEp.length_eq
    rw [List.length_map] at h1
    have h2 := congrArg List.length hE
    rw [List.length_map] at h2
    have := runE_len cs
    omega
  -- the items of the last table
  refine seq_cps (fun K : Shared → Prop => ∀  (h : Heap) (tk : Nat) (m : Str → Option Value), Fr s₁.heap LF h m → News s₁.heap LF h ((b, o1) :: (e, o2) :: (LF + 1 + 1 + 1 + 1, oD) :: (LF + 1 + 1 + 1, oN) :: (LF + 1 + 1, oB2) :: (LF + 1, oL2) :: TT) →
    m (Str.ofString "script") = some (.ref l) → m (Str.ofString "first") = some (.ref x1) → m (Str.ofString "last") = some (.ref x2) → m (Str.ofString "ends") = some (.ref e) → K { s₁ with heap := h, toks := tk }) ?_ ?_
  ·
    intro TP hTP
    rw [map_know hm1, map_know hm2, map_know hm3, map_know hm5] at F6
    have to2 := TB.o2
    obtain ⟨hs2, tq2, to2q⟩ := TB.q2
    have tl2 := TB.l2
    k_steps
    try dsimp only
    rename News _ _ _ _ => N6
    have hE2l : E2.length < 1000 := by
      have h1 := congrArg (fun q => q.2.1.length) hrun
      have h2 := (run_lens cs).2.1
      dsimp only at h1
      rw [List.length_map] at h1
      omega
    k_dflt (refine' Claim.use (items_claim w _ x2 d2 h2' hs2 tq2 E2 n2 hE2l (hLED _ to2) (hLED _ to2q) (hLED _ tl2)) ?k1 ?k2 ?k3 N6 ?k5 ?kK ?kd ?ku ?_)
    (case k1 => k_asm); (case k2 => k_asm); (case k3 => k_asm); (case k5 => k_asm); (case kK => exact rfl); (case kd => ktr_room); (case ku => ktr_units)
    rintro r7 nw7 h7 tk7 ⟨D7, k7, rfl, rfl, off7⟩ F7 N7
    dsimp only
    k_steps
    rename Fr _ _ _ _ => F8
    k_dflt (refine LCg.ListComp_U (F₀ := F8) (by with_unfolding_all rfl) (by decide) (by rfl) (by decide) (by rfl) ?_)
    k_steps
    rename Fr _ _ _ _ => F9
    rename News _ _ _ _ => N9
    refine sorted_vals (ks := ks) rfl F9 N9 (.head _) (.tail _ (.tail _ (.tail _ (.head _)))) P2 hEp R.kss hEl.2 hEl.1 ?_
    intro B10 vs10 n20 h10 tk10 hI10 F10 N10 l10
    dsimp only
    k_steps
    refine compD_list (rowT cs) rfl F10 N10 (.head _) hI10 (by omega) ?_ ?_
    · intro i ys kk tv TS I oI C oC D m₂ g h tk E' hkk hn hm₂ F11 N11 off ne
      refine abs_post fun TQ hCE => ?_
      have hk10 : kk < cs.length := by
        exact R.kl kk (List.mem_of_getElem? hkk)
      obtain ⟨⟨c, tc⟩, hcl⟩ : ∃ q, lt[kk]? = some q := ⟨lt[kk]'(by omega), by simp⟩
      have hitem : (letV lt)[kk]? = some (.str ⟨#[c]⟩ tc) := by unfold letV; rw [List.getElem?_map, hcl]; rfl
      have hcc : cs.getD kk 0 = c := by rw [hcs, List.getD_eq_getElem?_getD, List.getElem?_map, hcl]; rfl
      have hlgm := TB.lg
      k_steps
      rename News _ _ _ _ => N12
      refine LCgL.ld_own N12 (.tail _ (.head _)) hn hm₂ ?_
      k_steps
      rename News _ _ _ _ => N12
      refine item_ledN N12 (.tail _ (.tail _ (.tail _ (List.mem_append_right _ (.tail _ (.tail _ (.tail _ (hLED _ hlgm)))))))) (ix10 hk10 (Nat.le_of_eq hcsl)) hitem ?_
      try dsimp only
      k_steps
      rename News _ _ _ _ => N12
      refine LCgL.ld_own N12 (.tail _ (.head _)) hn hm₂ ?_
      k_steps
      refine call_strdig (by omega) ?_
      try dsimp only
      k_steps
      rename Fr _ _ _ _ => F13
      rename News _ _ _ _ => N13
      rename (I < _ ∧ _) => b13
      exact hCE ⟨_, [.str ⟨#[c]⟩ tc, .str ⟨#[48 + kk]⟩ _], 0, [.str (oneS c), .str (oneS (48 + kk))], _, _, rfl, rfl, F13, N13, b13.1, b13.2.1, b13.2.2.1, .cons (.str _ _) (.cons (.str _ _) .nil), by rw [rowT, hcc]⟩
    · intro ys TS g hJ
      intro D h11 tk11 F11 N11 off11
      dsimp only
      k_steps
      rename News _ _ _ _ => N12
      refine ne_same (n₁ := TT) (n₂ := TS) N12 (oa := listOf (rfs E2).toArray k7) (.tail _ (List.mem_append_right _ (.tail _ (.tail _ (.head _))))) rfl rfl (rows_dat E2 fun x hx => (TB.e2 x hx).2) (fun p hp => .tail _ (List.mem_append_right _ (.tail _ (.tail _ (.tail _ (hLED p hp))))))
        (ob := LCg.lst ys) (.head _) rfl rfl hJ (fun p hp => .tail _ (List.mem_append_left _ hp)) ?_ ?_ (by ktr_units) ?_
      · rw [hrowE2]
        intro dd hdd
        obtain ⟨kk, hkk, rfl⟩ := List.mem_map.mp hdd
        exact rowT_ok (by have := R.kl kk hkk; omega) (fun c hc => letter_small (hcs2 c hc))
      · exact hrowE2
      · k_steps
        rename Fr _ _ _ _ => F13
        rename News _ _ _ _ => N13
        exact ⟨rfl, hTP _ _ _ F13 (fun p hp => N13 p (.tail _ (List.mem_append_right _ (.tail _ (.tail _ (.tail _ hp)))))) rfl rfl rfl rfl⟩
  rintro h7 tk7 m7 F7 N7 hm1 hm2 hm3 hm5
  clear N6 F6
  obtain ⟨op, hop⟩ : ∃ op, op = opOf cs := ⟨_, rfl⟩
  obtain ⟨cl, hcl⟩ : ∃ cl, cl = clOf cs := ⟨_, rfl⟩
  have hopE : (E1.map (·.c)).map lowC = op := by
    have h1 := congrArg (fun q => q.1) hrun
    dsimp only at h1
    rw [hop]; unfold opOf
    rw [← h1, List.map_map, List.map_map]; rfl
  have hclE : (E2.map (·.c)).map lowC = cl := by
    have h1 := congrArg (fun q => q.2.1) hrun
    dsimp only at h1
    rw [hcl]; unfold clOf
    rw [← h1, List.map_map, List.map_map]; rfl
  have hE1l : E1.length ≤ 10 := by
    have h1 := congrArg (fun q => q.1.length) hrun
    have h2 := (run_lens cs).1
    dsimp only at h1
    rw [List.length_map] at h1
    omega
  have hE2l : E2.length ≤ 10 := by
    have h1 := congrArg (fun q => q.2.1.length) hrun
    have h2 := (run_lens cs).2.1
    dsimp only at h1
    rw [List.length_map] at h1
    omega
  -- the order of opening
  refine seq_cps (fun K : Shared → Prop => ∀ t (h : Heap) (tk : Nat) (m : Str → Option Value), Fr s₁.heap LF h m → News s₁.heap LF h ((b, o1) :: (e, o2) :: (LF + 1 + 1 + 1 + 1, oD) :: (LF + 1 + 1 + 1, oN) :: (LF + 1 + 1, oB2) :: (LF + 1, oL2) :: TT) →
    m (Str.ofString "script") = some (.ref l) → m (Str.ofString "last") = some (.ref x2) → m (Str.ofString "ends") = some (.ref e) → m (Str.ofString "opening") = some (.str ⟨op.toArray⟩ t) → K { s₁ with heap := h, toks := tk }) ?_ ?_
  ·
    intro TP hTP
    rw [map_know hm1, map_know hm2, map_know hm3, map_know hm5] at F7
    have to1 := TB.o1
    obtain ⟨hs1, tq1, to1q⟩ := TB.q1
    have tl1 := TB.l1
    k_steps
    try dsimp only
    rename News _ _ _ _ => N8
    k_dflt (refine' Claim.use (keys_claim w _ x1 d1 h1' hs1 tq1 E1 n1 (by omega) (fun x hx => hLED _ (TB.e1 x hx).2) (hLED _ to1) (hLED _ to1q) (hLED _ tl1)) ?k1 ?k2 ?k3 N8 ?k5 ?kK ?kd ?ku ?_)
    (case k1 => k_asm); (case k2 => k_asm); (case k3 => k_asm); (case k5 => k_asm); (case kK => exact rfl); (case kd => ktr_room); (case ku => ktr_units)
    rintro r9 nw9 h9 tk9 ⟨D9, k9, rfl, rfl, off9⟩ F9 N9
    dsimp only
    k_steps
    rename News _ _ _ _ => N10
    have hky := keys_are E1
    have hml : (E1.map fun e => oneS e.c) = (E1.map (·.c)).map oneS := by rw [List.map_map]; rfl
    rw [hml] at hky
    refine join_list (x := Str.ofString "") ⟨_, (N10 (D9, listOf (keysV E1).toArray k9) (.head _)).1, rfl, _, rfl⟩ hky (by
      rw [sum_ones, List.length_map, List.length_map, show (Str.ofString "").length = 0 from by decide +kernel]; omega) ?_
    intro t11 tk11
    dsimp only
    k_steps
    refine call_lowerS (l := E1.map (·.c)) (join_ones _) (fun c hc => by
      obtain ⟨x, hx, rfl⟩ := List.mem_map.mp hc
      exact (TB.e1 x hx).1) (by rw [List.length_map]; omega) ?_
    rw [hopE]
    try dsimp only
    k_steps
    rename Fr _ _ _ _ => F12
    rename News _ _ _ _ => N12
    exact ⟨rfl, hTP _ _ _ _ F12 (fun p hp => N12 p (.tail _ hp)) rfl rfl rfl rfl⟩
  rintro top h8 tk8 m8 F8 N8 hm1 hm3 hm5 hm6
  clear N7 F7
  -- the order of closing
  refine seq_cps (fun K : Shared → Prop => ∀ t (h : Heap) (tk : Nat) (m : Str → Option Value), Fr s₁.heap LF h m → News s₁.heap LF h ((b, o1) :: (e, o2) :: (LF + 1 + 1 + 1 + 1, oD) :: (LF + 1 + 1 + 1, oN) :: (LF + 1 + 1, oB2) :: (LF + 1, oL2) :: TT) →
    m (Str.ofString "script") = some (.ref l) → m (Str.ofString "ends") = some (.ref e) → m (Str.ofString "opening") = some (.str ⟨op.toArray⟩ top) → m (Str.ofString "closing") = some (.str ⟨cl.toArray⟩ t) → K { s₁ with heap := h, toks := tk }) ?_ ?_
  ·
    intro TP hTP
    rw [map_know hm1, map_know hm3, map_know hm5, map_know hm6] at F8
    have to1 := TB.o2
    obtain ⟨hs1, tq1, to1q⟩ := TB.q2
    have tl1 := TB.l2
    k_steps
    try dsimp only
    rename News _ _ _ _ => N8
    k_dflt (refine' Claim.use (keys_claim w _ x2 d2 h2' hs1 tq1 E2 n2 (by omega) (fun x hx => hLED _ (TB.e2 x hx).2) (hLED _ to1) (hLED _ to1q) (hLED _ tl1)) ?k1 ?k2 ?k3 N8 ?k5 ?kK ?kd ?ku ?_)
    (case k1 => k_asm); (case k2 => k_asm); (case k3 => k_asm); (case k5 => k_asm); (case kK => exact rfl); (case kd => ktr_room); (case ku => ktr_units)
    rintro r9 nw9 h9 tk9 ⟨D9, k9, rfl, rfl, off9⟩ F9 N9
    dsimp only
    k_steps
    rename News _ _ _ _ => N10
    have hky := keys_are E2
    have hml : (E2.map fun e => oneS e.c) = (E2.map (·.c)).map oneS := by rw [List.map_map]; rfl
    rw [hml] at hky
    refine join_list (x := Str.ofString "") ⟨_, (N10 (D9, listOf (keysV E2).toArray k9) (.head _)).1, rfl, _, rfl⟩ hky (by
      rw [sum_ones, List.length_map, List.length_map, show (Str.ofString "").length = 0 from by decide +kernel]; omega) ?_
    intro t11 tk11
    dsimp only
    k_steps
    refine call_lowerS (l := E2.map (·.c)) (join_ones _) (fun c hc => by
      obtain ⟨x, hx, rfl⟩ := List.mem_map.mp hc
      exact (TB.e2 x hx).1) (by rw [List.length_map]; omega) ?_
    rw [hclE]
    try dsimp only
    k_steps
    rename Fr _ _ _ _ => F12
    rename News _ _ _ _ => N12
    exact ⟨rfl, hTP _ _ _ _ F12 (fun p hp => N12 p (.tail _ hp)) rfl rfl rfl rfl⟩
  rintro tcl h9 tk9 m9 F9 N9 hm1 hm5 hm6 hm7
  clear N8 F8
  have hord := orders R hcs2
  rw [← hop, ← hcl] at hord
  obtain ⟨hopn, hcln, hlen, hmem, hop5, hoplow⟩ := hord
  have hop10 : op.length ≤ 10 := Nat.le_trans hop5 (by decide)
  have hcl5 : cl.length ≤ 5 := by rw [hlen]; exact hop5
  have hcllow : ∀ c ∈ cl, low c = true := fun c hc => hoplow c ((hmem c).mp hc)
  -- the mail
  refine seq_cps (fun K : Shared → Prop => ∀ ml kk vm (h : Heap) (tk : Nat) (m : Str → Option Value), Fr s₁.heap LF h m → News s₁.heap LF h ((ml, listOf vm.toArray kk) :: (b, o1) :: (e, o2) :: (LF + 1 + 1 + 1 + 1, oD) :: (LF + 1 + 1 + 1, oN) :: (LF + 1 + 1, oB2) :: (LF + 1, oL2) :: TT) →
    StrsAre vm (op.map fun c => rowS (dotAt (mailR op cl) c) c) → (∀ p ∈ (b, o1) :: (e, o2) :: (LF + 1 + 1 + 1 + 1, oD) :: (LF + 1 + 1 + 1, oN) :: (LF + 1 + 1, oB2) :: (LF + 1, oL2) :: TT, p.1 ≠ ml) → m (Str.ofString "ends") = some (.ref e) → m (Str.ofString "closing") = some (.str ⟨cl.toArray⟩ tcl) → m (Str.ofString "mail") = some (.ref ml) → K { s₁ with heap := h, toks := tk }) ?_ ?_
  ·
    intro TP hTP
    rw [map_know hm1, map_know hm5, map_know hm6, map_know hm7] at F9
    k_steps
    rename Fr _ _ _ _ => F10
    rename News _ _ _ _ => N10
    obtain ⟨ool, oe1, oe2⟩ := hL1
    refine sumK (vs := vs) (ns := ns) rfl F10 N10 ⟨ool, F10.keep _ _ oe1, oe2⟩ hI1 ?_
    intro h11 tk11 t11 F11 N11
    dsimp only
    k_steps
    rename News _ _ _ _ => N12
    refine item_sep N12 (.head _) (fmod3 _) fun sep tsep hsep => ?_
    try dsimp only
    k_steps
    rename News _ _ _ _ => N13
    k_dflt (refine' Claim.use (mail_claim w _ op cl sep hsep hoplow hcllow hcln (fun c hc => (hmem c).mpr hc) hop5 hcl5 _ _ _) ?k1 ?k2 ?k3 N13 ?k5 ?kK ?kd ?ku ?_)
    (case k1 => k_asm); (case k2 => k_asm); (case k3 => k_asm); (case k5 => k_asm); (case kK => exact rfl); (case kd => ktr_room); (case ku => ktr_units)
    rintro r14 nw14 h14 tk14 ⟨D14, k14, vm, rfl, rfl, off14, hS14⟩ F14 N14
    dsimp only
    k_steps
    rename Fr _ _ _ _ => F15
    rename News _ _ _ _ => N15
    refine ⟨rfl, hTP D14 k14 vm _ _ _ F15 (fun p hp => N15 p ?_) hS14 (fun p hp => off14 p (.tail _ hp)) rfl rfl rfl⟩
    rcases List.mem_cons.mp hp with rfl | hp
    · exact .head _
    · exact .tail _ (.tail _ hp)
  rintro ml kml vm h10 tk10 m10 F10 N10 hSm offm hm5 hm7 hm8
  clear N9 F9
  obtain ⟨dts, hdts⟩ : ∃ dts, dts = dotsOf op cl := ⟨_, rfl⟩
  have hpm := plain_mail hopn hcln hlen (fun c hc => (hmem c).mp hc) hop5 (fun c hc => by have := hoplow c hc; unfold low at this; simp at this; omega)
  rw [← hdts] at hpm
  obtain ⟨pm1, pm2, pm3, pm4⟩ := hpm
  have hdl : dts.length = op.length := by rw [hdts, dotsOf_len]
  have hdat : ∀ {i c : Nat}, op[i]? = some c → dts[i]? = some (dotAt (mailR op cl) c) := fun {i c} h => by
    rw [hdts]; unfold dotsOf; rw [List.getElem?_map, h]; rfl
  have hdb : ∀ {i c : Nat}, op[i]? = some c → 1 ≤ dotAt (mailR op cl) c ∧ dotAt (mailR op cl) c ≤ 5 := fun {i c} h => by
    have := dotsOk_at pm2 (hdat h)
    have hi := (List.getElem?_eq_some_iff.mp h).1
    omega
  have hvml : vm.length = op.length := by rw [hSm.length, List.length_map]
  -- the names read off
  refine seq_cps (fun K : Shared → Prop => ∀ nl kk vn oN2 (h : Heap) (tk : Nat) (m : Str → Option Value), Fr s₁.heap LF h m → News s₁.heap LF h ((nl, listOf vn.toArray kk) :: (ml, listOf vm.toArray kml) :: (b, o1) :: (e, o2) :: (LF + 1 + 1 + 1 + 1, oD) :: (LF + 1 + 1 + 1, oN2) :: (LF + 1 + 1, oB2) :: (LF + 1, oL2) :: TT) →
    StrsAre vn (op.map oneS) → oN2.data = .cell (some (.ref nl)) → nl ≠ LF + 1 + 1 + 1 + 1 → m (Str.ofString "ends") = some (.ref e) → m (Str.ofString "closing") = some (.str ⟨cl.toArray⟩ tcl) → m (Str.ofString "mail") = some (.ref ml) → K { s₁ with heap := h, toks := tk }) ?_ ?_
  ·
    intro TP hTP
    rw [map_know hm5, map_know hm7, map_know hm8] at F10
    refine wpAny_Assign_Name ?_
    k_dflt (refine LCg.ListComp_U (F₀ := F10) (by with_unfolding_all rfl) (by decide) (by rfl) (by decide) (by rfl) ?_)
    k_steps
    rename Fr _ _ _ _ => F11
    rename News _ _ _ _ => N11
    refine compU_list (fun i ys => StrsAre ys ((op.take i).map oneS)) rfl F11 N11 (.head _) (by rw [List.size_toArray, sizeLine_eq]; omega) .nil ?_ ?_
    · rintro i ys v I oI C oC D m₂ g h tk E' hv hJ hn hm₂ F12 N12 off ne
      refine abs_post fun TQ hCE => ?_
      obtain ⟨y, ty, rfl, hy⟩ := hSm.item i v (by simpa using hv)
      obtain ⟨c, hc, rfl⟩ : ∃ c, op[i]? = some c ∧ y = rowS (dotAt (mailR op cl) c) c := by
        rw [List.getElem?_map] at hy
        obtain ⟨c, hc, q⟩ := Option.map_eq_some_iff.mp hy
        exact ⟨c, hc, q.symm⟩
      have hbb := hdb hc
      k_steps
      rename News _ _ _ _ => N13
      k_dflt (refine' Claim.use (strip_claim w _ _ c hbb.1 hbb.2 (hoplow c (List.mem_of_getElem? hc)) _) ?k1 ?k2 ?k3 N13 ?k5 ?kK ?kd ?ku ?_)
      (case k1 => k_asm); (case k2 => k_asm); (case k3 => k_asm); (case k5 => k_asm); (case kK => exact rfl); (case kd => ktr_room); (case ku => ktr_units)
      rintro r14 nw14 h14 tk14 ⟨⟨t14, rfl⟩, rfl⟩ F14 N14
      dsimp only
      k_steps
      rename Fr _ _ _ _ => F15
      rename News _ _ _ _ => N15
      refine hCE (CE.intro F15 N15 (fun p hp => hp) ?_)
      rw [List.take_add_one, hc, List.map_append]
      exact strsAre_snoc hJ (oneS c) t14
    · intro ys g hJ
      rw [List.size_toArray, hvml, List.take_length] at hJ
      intro D h12 tk12 F12 N12 off12
      dsimp only
      k_steps
      rename Fr _ _ _ _ => F13
      rename News _ _ _ _ => N13
      have oD12 := off1_mem off12
      refine storeX_C F13 N13 (c := LF + 1 + 1 + 1) rfl (.tail (fun q => oD12 (LF + 1 + 1 + 1, oN) (by simp) q.symm) (.tail (fun q => offm (LF + 1 + 1 + 1, oN) (by simp) q.symm) (.tail (Nat.ne_of_gt (hLb 3 (by decide)).1) (.tail (Nat.ne_of_gt (hLb 3 (by decide)).2) (.tail (Nat.ne_of_gt (by omega)) (.head fun p hp => ?_)))))) eN' ?_
      · rcases List.mem_cons.mp hp with rfl | hp
        · exact Nat.ne_of_lt (by omega)
        rcases List.mem_cons.mp hp with rfl | hp
        · exact Nat.ne_of_lt (by omega)
        · exact TB.off p hp 3 (by decide)
      intro h14 oN2 F14 N14 eN2
      dsimp only
      k_steps
      exact ⟨rfl, hTP D _ ys oN2 _ _ _ F14 N14 hJ eN2 (fun q => oD12 (LF + 1 + 1 + 1 + 1, oD) (by simp) q.symm) rfl rfl rfl⟩
  rintro nl knl vn oN2 h11 tk11 m11 F11 N11 hSn eN2 hnl4 hm5 hm7 hm8
  clear N10 F10
  have hvnl : vn.length = op.length := by rw [hSn.length, List.length_map]
  -- the dots of the rows
  refine seq_cps (fun K : Shared → Prop => ∀ dl kk vd oD2 (h : Heap) (tk : Nat) (m : Str → Option Value), Fr s₁.heap LF h m → News s₁.heap LF h ((dl, listOf vd.toArray kk) :: (nl, listOf vn.toArray knl) :: (ml, listOf vm.toArray kml) :: (b, o1) :: (e, o2) :: (LF + 1 + 1 + 1 + 1, oD2) :: (LF + 1 + 1 + 1, oN2) :: (LF + 1 + 1, oB2) :: (LF + 1, oL2) :: TT) →
    IntsAre vd (natI dts) → oD2.data = .cell (some (.ref dl)) → m (Str.ofString "ends") = some (.ref e) → m (Str.ofString "closing") = some (.str ⟨cl.toArray⟩ tcl) → m (Str.ofString "mail") = some (.ref ml) → K { s₁ with heap := h, toks := tk }) ?_ ?_
  ·
    intro TP hTP
    rw [map_know hm5, map_know hm7, map_know hm8] at F11
    refine wpAny_Assign_Name ?_
    k_dflt (refine LCg.ListComp_U (F₀ := F11) (by with_unfolding_all rfl) (by decide) (by rfl) (by decide) (by rfl) ?_)
    k_steps
    rename Fr _ _ _ _ => F12
    rename News _ _ _ _ => N12
    refine compU_list (fun i ys => IntsAre ys (natI (dts.take i))) rfl F12 N12 (.tail _ (.head _)) (by rw [List.size_toArray, sizeLine_eq]; omega) .nil ?_ ?_
    · rintro i ys v I oI C oC D m₂ g h tk E' hv hJ hn hm₂ F13 N13 off ne
      refine abs_post fun TQ hCE => ?_
      obtain ⟨y, ty, rfl, hy⟩ := hSm.item i v (by simpa using hv)
      obtain ⟨c, hc, rfl⟩ : ∃ c, op[i]? = some c ∧ y = rowS (dotAt (mailR op cl) c) c := by
        rw [List.getElem?_map] at hy
        obtain ⟨c, hc, q⟩ := Option.map_eq_some_iff.mp hy
        exact ⟨c, hc, q.symm⟩
      have hbb := hdb hc
      have hok := row_ok hbb.1 hbb.2 (hoplow c (List.mem_of_getElem? hc))
      unfold rowOk at hok
      simp only [Bool.and_eq_true, beq_iff_eq] at hok
      have hfd := hok.2
      clear hok
      k_steps
      refine SC.find ?_
      rw [show Str.ofString ": .x" = ⟨#[58, 32, 46, 120]⟩ from by decide +kernel, hfd]
      try dsimp only
      k_steps
      rename Fr _ _ _ _ => F15
      rename News _ _ _ _ => N15
      refine hCE (CE.intro F15 N15 (fun p hp => hp) ?_)
      rw [List.take_add_one, hdat hc]
      have ez : (((dotAt (mailR op cl) c : Nat) : Int) + 1 - 1) = ((dotAt (mailR op cl) c : Nat) : Int) := by omega
      rw [ez]
      exact natI_push hJ _ _
    · intro ys g hJ
      rw [List.size_toArray, hvml, ← hdl, List.take_length] at hJ
      intro D h12 tk12 F12 N12 off12
      dsimp only
      k_steps
      rename Fr _ _ _ _ => F13
      rename News _ _ _ _ => N13
      have oD12 := off1_mem off12
      refine storeX_C F13 N13 (c := LF + 1 + 1 + 1 + 1) rfl (.tail (fun q => oD12 (LF + 1 + 1 + 1 + 1, oD) (by simp) q.symm) (.tail hnl4 (.tail (fun q => offm (LF + 1 + 1 + 1 + 1, oD) (by simp) q.symm) (.tail (Nat.ne_of_gt (hLb 4 (by decide)).1) (.tail (Nat.ne_of_gt (hLb 4 (by decide)).2) (.head fun p hp => ?_)))))) eD' ?_
      · rcases List.mem_cons.mp hp with rfl | hp
        · exact Nat.ne_of_lt (by omega)
        rcases List.mem_cons.mp hp with rfl | hp
        · exact Nat.ne_of_lt (by omega)
        rcases List.mem_cons.mp hp with rfl | hp
        · exact Nat.ne_of_lt (by omega)
        · exact TB.off p hp 4 (by decide)
      intro h14 oD2 F14 N14 eD2
      dsimp only
      k_steps
      exact ⟨rfl, hTP D _ ys oD2 _ _ _ F14 N14 hJ eD2 rfl rfl rfl⟩
  rintro dl kdl vd oD2 h12 tk12 m12 F12 N12 hId eD2 hm5 hm7 hm8
  clear N11 F11
  have hLE2 : ∀ p ∈ TT, p ∈ (dl, listOf vd.toArray kdl) :: (nl, listOf vn.toArray knl) :: (ml, listOf vm.toArray kml) :: (b, o1) :: (e, o2) :: (LF + 1 + 1 + 1 + 1, oD2) :: (LF + 1 + 1 + 1, oN2) :: (LF + 1 + 1, oB2) :: (LF + 1, oL2) :: TT := fun p hp => .tail _ (.tail _ (.tail _ (.tail _ (.tail _ (.tail _ (.tail _ (.tail _ (.tail _ hp))))))))
  have hopk : ((runB cs).map (·.2)).map (fun k => lowC (cs.getD k 0)) = op := by
    rw [hop, op_keys R, List.map_map]
    exact List.map_congr_left fun e he => (R.b e he).2
  have hclk : ks.map (fun k => lowC (cs.getD k 0)) = cl := by
    rw [hcl]; unfold clOf
    rw [R.t2, List.map_map]; rfl
  -- the names, in the order of opening
  refine seq_cps (fun K : Shared → Prop => ∀  (h : Heap) (tk : Nat) (m : Str → Option Value), Fr s₁.heap LF h m → News s₁.heap LF h ((dl, listOf vd.toArray kdl) :: (nl, listOf vn.toArray knl) :: (ml, listOf vm.toArray kml) :: (b, o1) :: (e, o2) :: (LF + 1 + 1 + 1 + 1, oD2) :: (LF + 1 + 1 + 1, oN2) :: (LF + 1 + 1, oB2) :: (LF + 1, oL2) :: TT) →
    m (Str.ofString "ends") = some (.ref e) → m (Str.ofString "closing") = some (.str ⟨cl.toArray⟩ tcl) → m (Str.ofString "mail") = some (.ref ml) → K { s₁ with heap := h, toks := tk }) ?_ ?_
  ·
    intro TP hTP
    rw [map_know hm5, map_know hm7, map_know hm8] at F12
    clear hrowE1 hrowE2 hdat hdb pm1 pm2 pm3 pm4 hTb hopE hclE hE1l hE2l hEl hEp hksl hopn hcln hlen hmem hcllow hrun hSm hId hLb hclk hLED hE P2 hcl hop hoplow hdts offm hnl4
    k_steps
    rename Fr _ _ _ _ => F13
    k_dflt (refine LCg.ListComp_U (F₀ := F13) (by with_unfolding_all rfl) (by decide) (by rfl) (by decide) (by rfl) ?_)
    k_steps
    rename Fr _ _ _ _ => F14
    rename News _ _ _ _ => N14
    refine sorted_vals (ks := (runB cs).map (·.2)) rfl F14 N14 (.head _) (.tail _ (.tail _ (.tail _ (.tail _ (.head _))))) P1 (List.Perm.of_eq hBv.symm) R.bs hBl.2 hBl.1 ?_
    intro B15 vs15 n15 h15 tk15 hI15 F15 N15 l15
    dsimp only
    k_steps
    have hvl15 := natI_len hI15
    rw [List.length_map] at hvl15
    have hrl := runB_len cs
    refine compU_list (fun i ys => StrsAre ys ((((runB cs).map (·.2)).take i).map fun k => oneS (lowC (cs.getD k 0)))) rfl F15 N15 (.head _) (by rw [List.size_toArray, sizeLine_eq]; omega) .nil ?_ ?_
    · rintro i ys v I oI C oC D m₂ g h tk E' hv hJ hn hm₂ F16 N16 off ne
      refine abs_post fun TQ hCE => ?_
      obtain ⟨kk, hkk⟩ : ∃ kk, ((runB cs).map (·.2))[i]? = some kk := by
        have hi : i < vs15.length := by
          have := (Array.getElem?_eq_some_iff.mp hv).1
          simpa using this
        exact ⟨((runB cs).map (·.2))[i]'(by rw [List.length_map]; omega), by simp [hvl15 ▸ hi]⟩
      obtain ⟨tv, hvk⟩ := natI_at hI15 hkk
      have hv' : vs15[i]? = some v := by simpa using hv
      rw [hvk] at hv'
      cases hv'
      have hk10 : kk < cs.length := by
        obtain ⟨y, hy, rfl⟩ := List.mem_map.mp (List.mem_of_getElem? hkk)
        exact (R.b y hy).1
      obtain ⟨⟨c, tc⟩, hcl'⟩ : ∃ q, lt[kk]? = some q := ⟨lt[kk]'(by omega), by simp⟩
      have hitem : (letV lt)[kk]? = some (.str ⟨#[c]⟩ tc) := by unfold letV; rw [List.getElem?_map, hcl']; rfl
      have hcc : cs.getD kk 0 = c := by rw [hcs, List.getD_eq_getElem?_getD, List.getElem?_map, hcl']; rfl
      have hc : letter c = true := hlets _ (List.mem_of_getElem? hcl')
      have hlgm := TB.lg
      k_steps
      rename News _ _ _ _ => N17
      refine LCgL.ld_own N17 (.tail _ (.head _)) hn hm₂ ?_
      k_steps
      rename News _ _ _ _ => N17
      refine item_ledN N17 (.tail _ (.tail _ (.tail _ (.tail _ (.tail _ (hLE2 _ hlgm)))))) (ix10 hk10 (Nat.le_of_eq hcsl)) hitem ?_
      try dsimp only
      k_steps
      rename Fr _ _ _ _ => F18
      rename News _ _ _ _ => N18
      refine hCE (CE.intro F18 N18 (fun p hp => hp) ?_)
      rw [List.take_add_one, hkk, List.map_append]
      show StrsAre _ (_ ++ [oneS (lowC (cs.getD kk 0))])
      rw [hcc]
      exact strsAre_snoc hJ (oneS (lowC c)) _
    · intro ys g hJ
      have hJ2 : StrsAre ys (op.map oneS) := by
        rw [List.take_of_length_le (by rw [List.size_toArray, hvl15, List.length_map]; exact Nat.le_refl _)] at hJ
        rw [← hopk, List.map_map]; exact hJ
      intro D h16 tk16 F16 N16 off16
      dsimp only
      k_steps
      rename News _ _ _ _ => N17
      refine join_list (x := Str.ofString "") ⟨_, (N17 (D, LCg.lst ys) (.head _)).1, rfl, _, rfl⟩ hJ2 (by
        rw [sum_ones, List.length_map, show (Str.ofString "").length = 0 from by decide +kernel]; omega) ?_
      intro t18 tk18
      rw [join_ones]
      dsimp only
      k_steps
      rename News _ _ _ _ => N19
      refine join_list (x := Str.ofString "") ⟨_, (N19 (nl, listOf vn.toArray knl) (.tail _ (.tail _ (.tail _ (.tail _ (.head _)))))).1, rfl, _, rfl⟩ hSn (by
        rw [sum_ones, List.length_map, show (Str.ofString "").length = 0 from by decide +kernel]; omega) ?_
      intro t20 tk20
      rw [join_ones]
      dsimp only
      k_steps
      refine ne_str ?_
      rw [bne_self_eq_false]
      k_steps
      exact ⟨rfl, hTP _ _ _ F16 (fun p hp => N19 p (.tail _ (.tail _ (.tail _ hp)))) rfl rfl rfl⟩
  rintro h13 tk13 m13 F13 N13 hm5 hm7 hm8
  clear N12 F12
  -- the rows are what was sent
  refine seq_cps (fun K : Shared → Prop => ∀  (h : Heap) (tk : Nat) (m : Str → Option Value), Fr s₁.heap LF h m → News s₁.heap LF h ((dl, listOf vd.toArray kdl) :: (nl, listOf vn.toArray knl) :: (ml, listOf vm.toArray kml) :: (b, o1) :: (e, o2) :: (LF + 1 + 1 + 1 + 1, oD2) :: (LF + 1 + 1 + 1, oN2) :: (LF + 1 + 1, oB2) :: (LF + 1, oL2) :: TT) →
    m (Str.ofString "ends") = some (.ref e) → m (Str.ofString "closing") = some (.str ⟨cl.toArray⟩ tcl) → K { s₁ with heap := h, toks := tk }) ?_ ?_
  ·
    intro TP hTP
    rw [map_know hm5, map_know hm7, map_know hm8] at F13
    clear hrowE1 hrowE2 pm1 pm3 pm4 hTb hopE hclE hE1l hE2l hEl hEp hksl hopn hcln hlen hmem hcllow hrun hLb hclk hLED hE P1 P2 hcl hop hdts offm hnl4 hLE2 hopk
    k_steps
    rename Fr _ _ _ _ => F14
    k_dflt (refine LCg.ListComp_U (F₀ := F14) (by with_unfolding_all rfl) (by decide) (by rfl) (by decide) (by rfl) ?_)
    k_steps
    rename News _ _ _ _ => N15
    refine len_led (k := op.length) N15 (by k_mem) (by rw [List.size_toArray]; exact hvnl) (by omega) ?_
    intro tl tkl
    dsimp only
    k_steps
    rename Fr _ _ _ _ => F16
    rename News _ _ _ _ => N16
    rename IsRange _ _ _ _ _ _ _ _ => hr
    refine compU_range (n := op.length) (fun i ys => StrsAre ys ((op.take i).map fun c => rowS (dotAt (mailR op cl) c) c)) rfl F16 N16 hr (small_nat (by omega)) (rsize_nat _) (by rw [sizeLine_eq]; omega) .nil ?_ ?_
    · rintro i ys tv I oI C oC D m₂ g h tk E' hi hJ hn hm₂ F17 N17 off ne
      refine abs_post fun TQ hCE => ?_
      rw [Int.zero_add] at hm₂
      obtain ⟨c, hc⟩ : ∃ c, op[i]? = some c := ⟨op[i]'hi, by simp [hi]⟩
      obtain ⟨t1, hc1⟩ := oneS_at hSn hc
      obtain ⟨t2, hd2⟩ := natI_at hId (hdat hc)
      have hbb := hdb hc
      k_steps
      rename News _ _ _ _ => N18
      refine LCgL.ld_own N18 (.tail _ (.head _)) hn hm₂ ?_
      k_steps
      rename News _ _ _ _ => N18
      refine item_ledN N18 (.tail _ (.tail _ (.tail _ (.head _)))) (ix10 hi hop10) hd2 ?_
      try dsimp only
      k_steps
      rename News _ _ _ _ => N19
      refine LCgL.ld_own N19 (.tail _ (.head _)) hn hm₂ ?_
      k_steps
      rename News _ _ _ _ => N20
      refine item_ledN N20 (.tail _ (.tail _ (.tail _ (.tail _ (.head _))))) (ix10 hi hop10) hc1 ?_
      try dsimp only
      k_steps
      rw [row_made hbb.2 (hoplow c (List.mem_of_getElem? hc))]
      rename Fr _ _ _ _ => F21
      rename News _ _ _ _ => N21
      refine hCE (CE.intro F21 N21 (fun p hp => hp) ?_)
      rw [List.take_add_one, hc, List.map_append]
      exact strsAre_snoc hJ (rowS (dotAt (mailR op cl) c) c) _
    · intro ys g hJ
      rw [List.take_length] at hJ
      intro D h18 tk18 F18 N18 off18
      dsimp only
      k_steps
      rename News _ _ _ _ => N19
      refine ne_same (n₁ := []) (n₂ := []) N19 (oa := listOf vm.toArray kml) (.tail _ (.tail _ (.tail _ (.head _)))) rfl rfl (strs_dat hSm) (fun p hp => absurd hp List.not_mem_nil)
        (ob := LCg.lst ys) (.head _) rfl rfl (strs_dat hJ) (fun p hp => absurd hp List.not_mem_nil) (strs_ok fun y hy => ?_) rfl (by ktr_units) ?_
      · obtain ⟨c, hc, rfl⟩ := List.mem_map.mp hy
        obtain ⟨i, hi⟩ := List.getElem?_of_mem hc
        exact row_okS (by have := hdb hi; omega) (hoplow c hc)
      · k_steps
        rename Fr _ _ _ _ => F20
        rename News _ _ _ _ => N20
        exact ⟨rfl, hTP _ _ _ F20 (fun p hp => N20 p (.tail _ hp)) rfl rfl⟩
  rintro h14 tk14 m14 F14 N14 hm5 hm7
  clear N13 F13
  -- the order of closing, told by the dots
  refine seq_cps (fun K : Shared → Prop => ∀  (h : Heap) (tk : Nat) (m : Str → Option Value), Fr s₁.heap LF h m → News s₁.heap LF h ((dl, listOf vd.toArray kdl) :: (nl, listOf vn.toArray knl) :: (ml, listOf vm.toArray kml) :: (b, o1) :: (e, o2) :: (LF + 1 + 1 + 1 + 1, oD2) :: (LF + 1 + 1 + 1, oN2) :: (LF + 1 + 1, oB2) :: (LF + 1, oL2) :: TT) →
    m (Str.ofString "closing") = some (.str ⟨cl.toArray⟩ tcl) → K { s₁ with heap := h, toks := tk }) ?_ ?_
  ·
    intro TP hTP
    rw [map_know hm5, map_know hm7] at F14
    clear hrowE1 hrowE2 hdat hdb pm3 pm4 hTb hopE hclE hE1l hE2l hBl hBv hopn hcln hmem hcllow hrun hSm hLb hopk hLED hB P1 hcl hop hoplow hdts offm hnl4
    k_steps
    rename News _ _ _ _ => N15
    k_dflt (refine' Claim.use (putin_claim w _ nl dl op dts vn vd knl kdl hdl.symm hop5 pm2 hSn hId (.tail _ (.head _)) (.head _)) ?k1 ?k2 ?k3 N15 ?k5 ?kK ?kd ?ku ?_)
    (case k1 => k_asm); (case k2 => k_asm); (case k3 => k_asm); (case k5 => k_asm); (case kK => exact rfl); (case kd => ktr_room); (case ku => ktr_units)
    rintro r16 nw16 h16 tk16 ⟨⟨t16, rfl⟩, rfl⟩ F16 N16
    rw [pm1]
    dsimp only
    k_steps
    rename Fr _ _ _ _ => F13
    k_dflt (refine LCg.ListComp_U (F₀ := F13) (by with_unfolding_all rfl) (by decide) (by rfl) (by decide) (by rfl) ?_)
    k_steps
    rename Fr _ _ _ _ => F14
    rename News _ _ _ _ => N14
    refine sorted_vals (ks := ks) rfl F14 N14 (.head _) (.tail _ (.tail _ (.tail _ (.tail _ (.tail _ (.head _)))))) P2 hEp R.kss hEl.2 hEl.1 ?_
    intro B15 vs15 n15 h15 tk15 hI15 F15 N15 l15
    dsimp only
    k_steps
    have hvl15 := natI_len hI15
    refine compU_list (fun i ys => StrsAre ys ((ks.take i).map fun k => oneS (lowC (cs.getD k 0)))) rfl F15 N15 (.head _) (by rw [List.size_toArray, sizeLine_eq]; omega) .nil ?_ ?_
    · rintro i ys v I oI C oC D m₂ g h tk E' hv hJ hn hm₂ F16 N16 off ne
      refine abs_post fun TQ hCE => ?_
      obtain ⟨kk, hkk⟩ : ∃ kk, ks[i]? = some kk := by
        have hi : i < vs15.length := by
          have := (Array.getElem?_eq_some_iff.mp hv).1
          simpa using this
        exact ⟨ks[i]'(by omega), by simp [hvl15 ▸ hi]⟩
      obtain ⟨tv, hvk⟩ := natI_at hI15 hkk
      have hv' : vs15[i]? = some v := by simpa using hv
      rw [hvk] at hv'
      cases hv'
      have hk10 : kk < cs.length := R.kl kk (List.mem_of_getElem? hkk)
      obtain ⟨⟨c, tc⟩, hcl'⟩ : ∃ q, lt[kk]? = some q := ⟨lt[kk]'(by omega), by simp⟩
      have hitem : (letV lt)[kk]? = some (.str ⟨#[c]⟩ tc) := by unfold letV; rw [List.getElem?_map, hcl']; rfl
      have hcc : cs.getD kk 0 = c := by rw [hcs, List.getD_eq_getElem?_getD, List.getElem?_map, hcl']; rfl
      have hc : letter c = true := hlets _ (List.mem_of_getElem? hcl')
      have hlgm := TB.lg
      k_steps
      rename News _ _ _ _ => N17
      refine LCgL.ld_own N17 (.tail _ (.head _)) hn hm₂ ?_
      k_steps
      rename News _ _ _ _ => N17
      refine item_ledN N17 (.tail _ (.tail _ (.tail _ (.tail _ (.tail _ (hLE2 _ hlgm)))))) (ix10 hk10 (Nat.le_of_eq hcsl)) hitem ?_
      try dsimp only
      k_steps
      rename Fr _ _ _ _ => F18
      rename News _ _ _ _ => N18
      refine hCE (CE.intro F18 N18 (fun p hp => hp) ?_)
      rw [List.take_add_one, hkk, List.map_append]
      show StrsAre _ (_ ++ [oneS (lowC (cs.getD kk 0))])
      rw [hcc]
      exact strsAre_snoc hJ (oneS (lowC c)) _
    · intro ys g hJ
      have hJ2 : StrsAre ys (cl.map oneS) := by
        rw [List.take_of_length_le (by rw [List.size_toArray, hvl15]; exact Nat.le_refl _)] at hJ
        rw [← hclk, List.map_map]; exact hJ
      intro D h16 tk16 F16 N16 off16
      dsimp only
      k_steps
      rename News _ _ _ _ => N17
      refine join_list (x := Str.ofString "") ⟨_, (N17 (D, LCg.lst ys) (.head _)).1, rfl, _, rfl⟩ hJ2 (by
        rw [sum_ones, List.length_map, show (Str.ofString "").length = 0 from by decide +kernel]; omega) ?_
      intro t18 tk18
      rw [join_ones]
      dsimp only
      k_steps
      refine ne_str ?_
      rw [bne_self_eq_false]
      k_steps
      rename Fr _ _ _ _ => F19
      rename News _ _ _ _ => N19
      exact ⟨rfl, hTP _ _ _ F19 (fun p hp => N19 p (.tail _ (.tail _ (.tail _ hp)))) rfl⟩
  rintro h15 tk15 m15 F15 N15 hm7
  clear N14 F14
  -- whether the rows are even
  refine seq_cps (fun K : Shared → Prop => ∀  (h : Heap) (tk : Nat) (m : Str → Option Value), Fr s₁.heap LF h m → News s₁.heap LF h ((dl, listOf vd.toArray kdl) :: (nl, listOf vn.toArray knl) :: (ml, listOf vm.toArray kml) :: (b, o1) :: (e, o2) :: (LF + 1 + 1 + 1 + 1, oD2) :: (LF + 1 + 1 + 1, oN2) :: (LF + 1 + 1, oB2) :: (LF + 1, oL2) :: TT) →
    m (Str.ofString "closing") = some (.str ⟨cl.toArray⟩ tcl) → m (Str.ofString "even") = some (.bool (evenB dts)) → K { s₁ with heap := h, toks := tk }) ?_ ?_
  ·
    intro TP hTP
    rw [map_know hm7] at F15
    clear hrowE1 hrowE2 hdat hdb pm1 pm2 pm3 pm4 hTb hopE hclE hE1l hE2l hEl hEp hksl hopn hcln hlen hmem hcllow hrun hSm hLb hclk hLED hE hB P1 P2 hcl hop hoplow hdts offm hnl4 hopk hLE2 hBl hBv
    have hIq := hId
    k_steps
    rename Fr _ _ _ _ => F16
    k_dflt (refine LCt.ListComp_T (F₀ := F16) (by with_unfolding_all rfl) (by decide) (by rfl) (by decide) (by rfl) ?_)
    k_steps
    rename News _ _ _ _ => N16
    refine len_led (k := op.length) N16 (by k_mem) (by rw [List.size_toArray]; exact hvnl) (by omega) ?_
    intro tl tkl
    dsimp only
    k_steps
    rename Fr _ _ _ _ => F17
    rename News _ _ _ _ => N17
    rename IsRange _ _ _ _ _ _ _ _ => hr
    refine compT_range (n := op.length - 1) (fun i ys => IntsAre ys (natI (badsTo dts i))) rfl F17 N17 hr (small_one (by omega)) (rsize_one _) (by rw [sizeLine_eq]; omega) .nil ?_ ?_
    · rintro i ys tv I oI C oC D m₂ g h tk E' hi hJ hn hm₂ F18 N18 off ne
      rw [show (1 : Int) + (i : Int) = ((i + 1 : Nat) : Int) by omega] at hm₂
      obtain ⟨d, hd⟩ : ∃ d, dts[i]? = some d := ⟨dts[i]'(by omega), by simp [show i < dts.length by omega]⟩
      obtain ⟨d1, hd1⟩ : ∃ d, dts[i + 1]? = some d := ⟨dts[i + 1]'(by omega), by simp [show i + 1 < dts.length by omega]⟩
      obtain ⟨t1, hv1⟩ := natI_at hId hd
      obtain ⟨t2, hv2⟩ := natI_at hId hd1
      have hbad : badS dts i = decide (d + 1 < d1) := by unfold badS; rw [getD_of hd, getD_of hd1]
      k_steps
      rename News _ _ _ _ => N19
      refine LCgL.ld_own N19 (.tail _ (.head _)) hn hm₂ ?_
      k_steps
      rename News _ _ _ _ => N20
      refine item_ledN N20 (.tail _ (.tail _ (.tail _ (.head _)))) (ix10 (Nat.add_lt_of_lt_sub hi) hop10) hv2 ?_
      try dsimp only
      k_steps
      rename News _ _ _ _ => N21
      refine LCgL.ld_own N21 (.tail _ (.head _)) hn hm₂ ?_
      k_steps
      rw [show ((i + 1 : Nat) : Int) - 1 = ((i : Nat) : Int) by omega]
      rename News _ _ _ _ => N22
      refine item_ledN N22 (.tail _ (.tail _ (.tail _ (.head _)))) (ix10 (Nat.lt_of_lt_of_le hi (Nat.sub_le _ _)) hop10) hv1 ?_
      try dsimp only
      k_steps
      · rename News _ _ _ _ => N23
        refine LCgL.ld_own N23 (.tail _ (.head _)) hn hm₂ ?_
        k_steps
        rename Fr _ _ _ _ => F24
        rename News _ _ _ _ => N24
        refine CE.intro F24 N24 (fun p hp => hp) ?_
        rw [bads_yes (by rw [hbad, decide_eq_true_eq]; omega)]
        exact natI_push hJ _ _
      · rename Fr _ _ _ _ => F24
        rename News _ _ _ _ => N24
        refine CE.intro F24 N24 (fun p hp => hp) ?_
        rw [bads_no (by rw [hbad, decide_eq_false_iff_not]; omega)]
        exact hJ
    · intro ys g hJ
      rw [← hdl] at hJ
      intro D h18 tk18 F18 N18 off18
      dsimp only
      k_steps
      rename News _ _ _ _ => N19
      refine eq_intsK (ns := natI (badsTo dts (dts.length - 1))) (ms := []) ⟨_, (N19 (D, LCg.lst ys) (.tail _ (.head _))).1, rfl, _, rfl⟩ hJ (us := []) ⟨_, (N19 (_, listOf #[] 0) (.head _)).1, rfl, _, rfl⟩ .nil (by ktr_units) ?_
      rw [bads_even]
      try dsimp only
      k_steps
      rename Fr _ _ _ _ => F20
      rename News _ _ _ _ => N20
      exact ⟨by trivial, hTP _ _ _ F20 (fun p hp => N20 p (.tail _ (.tail _ hp))) rfl rfl⟩
  rintro h16 tk16 m16 F16 N16 hm7 hm9
  clear N15 F15
  -- no crossing yet
  refine seq_cps (fun K : Shared → Prop => ∀ cr (h : Heap) (tk : Nat) (m : Str → Option Value), Fr s₁.heap LF h m → News s₁.heap LF h ((cr, listOf #[] 0) :: (dl, listOf vd.toArray kdl) :: (nl, listOf vn.toArray knl) :: (ml, listOf vm.toArray kml) :: (b, o1) :: (e, o2) :: (LF + 1 + 1 + 1 + 1, oD2) :: (LF + 1 + 1 + 1, oN2) :: (LF + 1 + 1, oB2) :: (LF + 1, oL2) :: TT) →
    (∀ p ∈ (dl, listOf vd.toArray kdl) :: (nl, listOf vn.toArray knl) :: (ml, listOf vm.toArray kml) :: (b, o1) :: (e, o2) :: (LF + 1 + 1 + 1 + 1, oD2) :: (LF + 1 + 1 + 1, oN2) :: (LF + 1 + 1, oB2) :: (LF + 1, oL2) :: TT, p.1 ≠ cr) → m (Str.ofString "closing") = some (.str ⟨cl.toArray⟩ tcl) → m (Str.ofString "even") = some (.bool (evenB dts)) → m (Str.ofString "crossed") = some (.ref cr) → K { s₁ with heap := h, toks := tk }) ?_ ?_
  ·
    intro TP hTP
    rw [map_know hm7, map_know hm9] at F16
    k_steps
    rename Fr _ _ _ _ => F18
    rename News _ _ _ _ => N18
    rename (dl < _ ∧ _) => l1
    refine ⟨by trivial, hTP _ _ _ _ F18 N18 (fun p hp => ?_) rfl rfl rfl⟩
    obtain ⟨a1, a2, a3, a4, a5, a6, a7, a8, a9, a10⟩ := l1
    simp only [List.mem_cons] at hp
    rcases hp with rfl | rfl | rfl | rfl | rfl | rfl | rfl | rfl | rfl | hp
    · exact Nat.ne_of_lt a1
    · exact Nat.ne_of_lt a2
    · exact Nat.ne_of_lt a3
    · exact Nat.ne_of_lt a4
    · exact Nat.ne_of_lt a5
    · exact Nat.ne_of_lt a6
    · exact Nat.ne_of_lt a7
    · exact Nat.ne_of_lt a8
    · exact Nat.ne_of_lt a9
    · exact Nat.ne_of_lt (lt_of_all a10 p hp)
  rintro cr h17 tk17 m17 F17 N17 hcr hm7 hm9 hm10
  clear N16 F16
  -- the threes
  refine seq_cps (fun K : Shared → Prop => ∀ vs kv (h : Heap) (tk : Nat) (m : Str → Option Value), Fr s₁.heap LF h m → News s₁.heap LF h ((cr, listOf vs.toArray kv) :: (dl, listOf vd.toArray kdl) :: (nl, listOf vn.toArray knl) :: (ml, listOf vm.toArray kml) :: (b, o1) :: (e, o2) :: (LF + 1 + 1 + 1 + 1, oD2) :: (LF + 1 + 1 + 1, oN2) :: (LF + 1 + 1, oB2) :: (LF + 1, oL2) :: TT) →
    Crossed vs 1000 (noCross op cl) → m (Str.ofString "closing") = some (.str ⟨cl.toArray⟩ tcl) → m (Str.ofString "even") = some (.bool (evenB dts)) → m (Str.ofString "crossed") = some (.ref cr) → K { s₁ with heap := h, toks := tk }) ?_ ?_
  ·
    intro TP hTP
    rw [map_know hm7, map_know hm9, map_know hm10] at F17
    clear hrowE1 hrowE2 hdat hdb pm1 pm2 pm3 pm4 hTb hopE hclE hE1l hE2l hEl hEp hksl hopn hcln hrun hSm hLb hclk hLED hE hB P1 P2 hcl hop hdts offm hnl4 hopk hLE2 hBl hBv
    refine wpAny_For ?_
    k_steps
    rename News _ _ _ _ => N18
    refine len_led (k := op.length) N18 (by k_mem) (by rw [List.size_toArray]; exact hvnl) (by omega) ?_
    intro tl tkl
    dsimp only
    k_steps
    rename Fr _ _ _ _ => F19
    rename News _ _ _ _ => N19
    rename IsRange _ _ _ _ _ _ _ _ => hr
    refine iter_range (n := op.length) (J := fun z m' nw => ∃ vs kv, nw = (cr, listOf vs.toArray kv) :: (dl, listOf vd.toArray kdl) :: (nl, listOf vn.toArray knl) :: (ml, listOf vm.toArray kml) :: (b, o1) :: (e, o2) :: (LF + 1 + 1 + 1 + 1, oD2) :: (LF + 1 + 1 + 1, oN2) :: (LF + 1 + 1, oB2) :: (LF + 1, oL2) :: TT ∧ Crossed vs (25 * z) (crP op cl z) ∧
      m' (Str.ofString "closing") = some (.str ⟨cl.toArray⟩ tcl) ∧ m' (Str.ofString "even") = some (.bool (evenB dts)) ∧ m' (Str.ofString "crossed") = some (.ref cr)) rfl F19 N19 hr (small_nat (by omega)) (rsize_nat _) ?_ ?_ ?_
    · exact ⟨[], 0, rfl, ⟨[], .nil, (fun _ h => nomatch h), Nat.zero_le _, rfl⟩, rfl, rfl, rfl⟩
    · rintro z tz m1 nw I1 oI1 g1 h1 tk1 E1 hz ⟨vs1, kv1, rfl, hC1, hq1, hq2, hq3⟩ off1 F1 N1
      obtain ⟨cz, hcz⟩ : ∃ c, op[z]? = some c := ⟨op[z]'hz, by simp [hz]⟩
      obtain ⟨t1, hvz⟩ := oneS_at hSn hcz
      have hlz : low cz = true := hoplow cz (List.mem_of_getElem? hcz)
      rw [Int.zero_add]
      rw [map_know hq1, map_know hq2, map_know hq3] at F1
      refine abs_turn fun T1 hT1 => ?_
      refine wpAny_assign_Name ?_
      k_steps
      refine wpAny_For ?_
      k_steps
      rename Fr _ _ _ _ => F20
      rename News _ _ _ _ => N20
      rename IsRange _ _ _ _ _ _ _ _ => hr1
      refine iter_range (n := z) (J := fun y m' nw => ∃ vs kv, nw = (I1, oI1) :: (cr, listOf vs.toArray kv) :: (dl, listOf vd.toArray kdl) :: (nl, listOf vn.toArray knl) :: (ml, listOf vm.toArray kml) :: (b, o1) :: (e, o2) :: (LF + 1 + 1 + 1 + 1, oD2) :: (LF + 1 + 1 + 1, oN2) :: (LF + 1 + 1, oB2) :: (LF + 1, oL2) :: TT ∧ Crossed vs (25 * z + 5 * y) (crP op cl z && crQ op cl z y) ∧
        m' (Str.ofString "closing") = some (.str ⟨cl.toArray⟩ tcl) ∧ m' (Str.ofString "even") = some (.bool (evenB dts)) ∧ m' (Str.ofString "crossed") = some (.ref cr) ∧ ∃ t, m' (Str.ofString "z") = some (.int (z : Int) t)) rfl F20 N20 hr1 (small_nat (by omega)) (rsize_nat _) ?_ ?_ ?_
      · exact ⟨vs1, kv1, rfl, crossed_same hC1 (by omega) (by simp [crQ]), rfl, rfl, rfl, _, rfl⟩
      · rintro y ty m2 nw I2 oI2 g2 h2 tk2 E2 hy ⟨vs2, kv2, rfl, hC2, hq1, hq2, hq3, tz2, hq4⟩ off2 F2 N2
        have hyo : y < op.length := Nat.lt_trans hy hz
        obtain ⟨cy, hcy⟩ : ∃ c, op[y]? = some c := ⟨op[y]'hyo, by simp [hyo]⟩
        obtain ⟨t2, hvy⟩ := oneS_at hSn hcy
        have hly : low cy = true := hoplow cy (List.mem_of_getElem? hcy)
        rw [Int.zero_add]
        rw [map_know hq1, map_know hq2, map_know hq3, map_know hq4] at F2
        refine abs_turn fun T2 hT2 => ?_
        refine wpAny_assign_Name ?_
        k_steps
        refine wpAny_For ?_
        k_steps
        rename Fr _ _ _ _ => F21
        rename News _ _ _ _ => N21
        rename IsRange _ _ _ _ _ _ _ _ => hr2
        refine iter_range (n := y) (J := fun x m' nw => ∃ vs kv, nw = (I2, oI2) :: (I1, oI1) :: (cr, listOf vs.toArray kv) :: (dl, listOf vd.toArray kdl) :: (nl, listOf vn.toArray knl) :: (ml, listOf vm.toArray kml) :: (b, o1) :: (e, o2) :: (LF + 1 + 1 + 1 + 1, oD2) :: (LF + 1 + 1 + 1, oN2) :: (LF + 1 + 1, oB2) :: (LF + 1, oL2) :: TT ∧ Crossed vs (25 * z + 5 * y + x) (crP op cl z && (crQ op cl z y && crR op cl z y x)) ∧
          m' (Str.ofString "closing") = some (.str ⟨cl.toArray⟩ tcl) ∧ m' (Str.ofString "even") = some (.bool (evenB dts)) ∧ m' (Str.ofString "crossed") = some (.ref cr) ∧ (∃ t, m' (Str.ofString "z") = some (.int (z : Int) t)) ∧ ∃ t, m' (Str.ofString "y") = some (.int (y : Int) t)) rfl F21 N21 hr2 (small_nat (by omega)) (rsize_nat _) ?_ ?_ ?_
        · exact ⟨vs2, kv2, rfl, crossed_same hC2 (by omega) (by simp [crR]), rfl, rfl, rfl, ⟨_, rfl⟩, _, rfl⟩
        · rintro x tx m3 nw I3 oI3 g3 h3 tk3 E3 hx ⟨vs3, kv3, rfl, hC3, hq1, hq2, hq3, ⟨tz3, hq4⟩, ty3, hq5⟩ off3 F3 N3
          have hxo : x < op.length := Nat.lt_trans hx hyo
          obtain ⟨cx, hcx⟩ : ∃ c, op[x]? = some c := ⟨op[x]'hxo, by simp [hxo]⟩
          obtain ⟨t3, hvx⟩ := oneS_at hSn hcx
          have hlx : low cx = true := hoplow cx (List.mem_of_getElem? hcx)
          rw [Int.zero_add]
          rw [map_know hq1, map_know hq2, map_know hq3, map_know hq4, map_know hq5] at F3
          refine abs_turn fun T3 hT3 => ?_
          refine wpAny_assign_Name ?_
          k_steps
          rename News _ _ _ _ => N22
          refine item_ledN N22 (by k_mem) (ix10 hz hop10) hvz ?_
          try dsimp only
          k_steps
          rename News _ _ _ _ => N23
          refine item_ledN N23 (by k_mem) (ix10 hxo hop10) hvx ?_
          try dsimp only
          k_steps
          rename News _ _ _ _ => N24
          refine item_ledN N24 (by k_mem) (ix10 hyo hop10) hvy ?_
          try dsimp only
          k_steps
          rw [want3]
          rename News _ _ _ _ => N25
          k_dflt (refine' Claim.use (ell_claim w _ [cz, cx, cy] cl (want_ok3 cz (low_mem hlz) cx (low_mem hlx) cy (low_mem hly)) (by simp) (by omega) _ _) ?k1 ?k2 ?k3 N25 ?k5 ?kK ?kd ?ku ?_)
          (case k1 => k_asm); (case k2 => k_asm); (case k3 => k_asm); (case k5 => k_asm); (case kK => exact rfl); (case kd => ktr_room); (case ku => ktr_units)
          rintro r26 nw26 h26 tk26 ⟨rfl, rfl⟩ F26 N26
          have hRs := crR_succ op cl z y x
          rw [getD_of hcz, getD_of hcx, getD_of hcy] at hRs
          dsimp only
          cases hb : isub [cz, cx, cy] cl with
          | true =>
            rw [hb] at hRs
            k_steps
            rename News _ _ _ _ => N22
            refine item_ledN N22 (by k_mem) (ix10 hz hop10) hvz ?_
            try dsimp only
            k_steps
            rename News _ _ _ _ => N23
            refine item_ledN N23 (by k_mem) (ix10 hxo hop10) hvx ?_
            try dsimp only
            k_steps
            rename News _ _ _ _ => N24
            refine item_ledN N24 (by k_mem) (ix10 hyo hop10) hvy ?_
            try dsimp only
            k_steps
            rename Fr _ _ _ _ => F27
            rename News _ _ _ _ => N27
            refine append_K F27 N27 (.tail (fun q => off3 _ (.tail _ (.tail _ (.head _))) q.symm) (.tail (fun q => off2 _ (.tail _ (.head _)) q.symm) (.tail (fun q => off1 _ (.head _) q.symm) (.head hcr)))) ?_ (by rw [List.size_toArray, sizeLine_eq]; obtain ⟨_, _, _, q, _⟩ := hC3; omega)
            intro h28 F28 N28
            rw [List.push_toArray] at N28
            try dsimp only
            k_steps
            rename Fr _ _ _ _ => F29
            rename News _ _ _ _ => N29
            exact hT3 (f := .next) (Tn.intro _ F29 N29 (fun p hp => hp) (off_swap2 off3) ⟨_, _, rfl, crossed_push hC3 _ _ (ok_three hlz hlx hly) (by omega) (by rw [hRs]; simp), rfl, rfl, rfl, ⟨_, rfl⟩, _, rfl⟩)
          | false =>
            rw [hb] at hRs
            k_steps
            rename Fr _ _ _ _ => F29
            rename News _ _ _ _ => N29
            exact hT3 (f := .next) (Tn.intro _ F29 N29 (fun p hp => hp) off3 ⟨vs3, kv3, rfl, crossed_same hC3 (by omega) (by rw [hRs]; simp), rfl, rfl, rfl, ⟨_, rfl⟩, _, rfl⟩)
        · rintro m3 nw h3 tk3 ⟨vs3, kv3, rfl, hC3, hq1, hq2, hq3, ⟨tz3, hq4⟩, ty3, hq5⟩ F3 N3
          dsimp only
          k_steps
          exact hT2 (f := .next) (Tn.intro _ F3 N3 (fun p hp => hp) (off_swap1 off2) ⟨vs3, kv3, rfl, crossed_same hC3 (by omega) (by rw [crQ_succ]), hq1, hq2, hq3, tz3, hq4⟩)
      · rintro m2 nw h2 tk2 ⟨vs2, kv2, rfl, hC2, hq1, hq2, hq3, tz2, hq4⟩ F2 N2
        dsimp only
        k_steps
        exact hT1 (f := .next) (Tn.intro _ F2 N2 (fun p hp => hp) (off_swap off1) ⟨vs2, kv2, rfl, crossed_same hC2 (by omega) (by rw [crP_succ]), hq1, hq2, hq3⟩)
    · rintro m1 nw h1 tk1 ⟨vs1, kv1, rfl, hC1, hq1, hq2, hq3⟩ F1 N1
      dsimp only
      k_steps
      exact ⟨by trivial, hTP vs1 kv1 _ _ _ F1 N1 (crossed_same hC1 (by omega) (crP_all op cl)) hq1 hq2 hq3⟩
  rintro vc kvc h18 tk18 m18 F18 N18 hCr hm7 hm9 hm10
  clear N17 F17
  -- the three say the same
  ·
    rw [map_know hm7, map_know hm9, map_know hm10] at F18
    clear hrowE1 hrowE2 hdat hdb pm1 pm2 hTb hopE hclE hE1l hE2l hEl hEp hksl hopn hcln hlen hmem hcllow hrun hSm hLb hclk hLED hE hB P1 P2 hcl hop hoplow hdts offm hnl4 hopk hLE2 hBl hBv
    k_steps
    rename News _ _ _ _ => N19
    k_dflt (refine' Claim.use (outline_claim w _ nl dl op dts vn vd knl kdl hdl.symm hop5 hSn hId (.tail _ (.tail _ (.head _))) (.tail _ (.head _))) ?k1 ?k2 ?k3 N19 ?k5 ?kK ?kd ?ku ?_)
    (case k1 => k_asm); (case k2 => k_asm); (case k3 => k_asm); (case k5 => k_asm); (case kK => exact rfl); (case kd => ktr_room); (case ku => ktr_units)
    rintro r20 nw20 h20 tk20 ⟨⟨t20, rfl⟩, rfl⟩ F20 N20
    dsimp only
    k_steps
    refine eq_str ?_
    rw [eq_arr, pm3]
    obtain ⟨sc, hSc, hoc, _, hec⟩ := hCr
    rw [← pm4] at hec
    generalize evenB dts = ev at *
    cases ev with
    | true =>
      k_steps
      rename News _ _ _ _ => N21
      refine kqd_eq (n₁ := []) (n₂ := []) (ds := sc.map Dat.str) (es := []) N21 (oa := listOf vc.toArray kvc) (.tail _ (.head _)) rfl rfl (strs_dat hSc) (fun p hp => absurd hp List.not_mem_nil)
        (ob := listOf #[] 0) (ys := []) (.head _) rfl rfl .nil (fun p hp => absurd hp List.not_mem_nil) (strs_ok hoc) (fun d hd => absurd hd List.not_mem_nil) (by ktr_units) ?_
      rw [crossed_eq hSc, hec]
      repeat' (first | (k_unfold; (try dsimp only)) | walk1 | (dsimp only; walk1))
      rename Fr _ _ _ _ => F22
      exact fin_true F22 hg rfl rfl
    | false =>
      k_steps
      rename News _ _ _ _ => N21
      refine kqd_eq (n₁ := []) (n₂ := []) (ds := sc.map Dat.str) (es := []) N21 (oa := listOf vc.toArray kvc) (.tail _ (.head _)) rfl rfl (strs_dat hSc) (fun p hp => absurd hp List.not_mem_nil)
        (ob := listOf #[] 0) (ys := []) (.head _) rfl rfl .nil (fun p hp => absurd hp List.not_mem_nil) (strs_ok hoc) (fun d hd => absurd hd List.not_mem_nil) (by ktr_units) ?_
      rw [crossed_eq hSc, hec]
      repeat' (first | (k_unfold; (try dsimp only)) | walk1 | (dsimp only; walk1))
      rename Fr _ _ _ _ => F22
      exact fin_true F22 hg rfl rfl

end Mine
theorem PySem.Challenge.cw_pu0057_01_holds : PySem.Challenge.rw_pu0057_01.Holds :=
  Mine.law_try
