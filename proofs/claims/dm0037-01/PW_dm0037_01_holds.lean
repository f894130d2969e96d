import PyProof.Rows.All
import Wide.All
import OpenK.AllK
import Wide.FinOn
import PySem.Challenge.RW_dm0037_01
open PySem PySem.W PyProof.Rows
set_option Elab.async false
namespace Mine
def Halt (p : Prop) : Prop := p
theorem halt {p : Prop} (h : Halt p) : p := h
theorem unhalt {p : Prop} (h : p) : Halt p := h

/-- the codes of the menu -/
def menuC : List Nat := [48, 49, 50, 51, 52, 53, 54, 55, 56, 57, 97, 98, 99, 100, 101, 102, 65, 66, 67, 68, 69, 70, 47, 58, 64, 71, 96, 103, 90, 122, 32, 0, 16, 31, 127, 176, 193, 225, 1632, 65296]
def sgn (n : Int) : Nat := menuC.getD (n % 40).toNat 0
def textOf (l : List Int) : PySem.Str := ⟨(l.map sgn).toArray⟩
def step1 (c : List (List Int) × List Int) (n : Int) : List (List Int) × List Int :=
  if n % 40 < 16 then (c.1, c.2 ++ [n % 40]) else if n % 40 < 22 then (c.1, c.2 ++ [n % 40 - 6]) else (c.1 ++ [c.2], [])
def st1 (l : List Int) : List (List Int) × List Int := l.foldl step1 ([], [])
def datI (l : List Int) : Dat := .list (l.map Dat.int)

def J1 (G : Addr) (cst : List (Addr × Obj)) (ns : List Int) (i : Nat) (m : PySem.Str → Option Value) (nx : List (Addr × Obj)) : Prop :=
  ∃ (tt : Tok) (gvs cvs : List Value) (cur : Addr) (gn cn : Nat) (tl : List (Addr × Obj)),
    nx = (G, W.listOf (gvs ++ [Value.ref cur]).toArray gn) :: (cur, W.listOf cvs.toArray cn) :: (cst ++ tl) ∧
    m (PySem.Str.ofString "text") = some (.str (textOf (ns.take i)) tt) ∧ m (PySem.Str.ofString "groups") = some (.ref G) ∧
    IntsAre cvs (st1 (ns.take i)).2 ∧ DatAll tl gvs ((st1 (ns.take i)).1.map datI) ∧
    G ≠ cur ∧ OwnOff (cst ++ tl) [G, cur] ∧ OwnOff tl (cst.map (·.1))

theorem fr_two {h₀ h : Heap} {L : Addr} {m : PySem.Str → Option Value} {x a b : PySem.Str} {v va vb : Value} (F : Fr h₀ L h (fun y => if y = x then some v else m y)) (ha : m a = some va) (hb : m b = some vb) :
    Fr h₀ L h (fun y => if y = x then some v else if y = a then some va else if y = b then some vb else m y) := by
  have e : (fun y => if y = x then some v else m y) = (fun y => if y = x then some v else if y = a then some va else if y = b then some vb else m y) := by
    funext y
    by_cases h1 : y = x
    · simp [h1]
    · by_cases h2 : y = a
      · subst h2; simp [h1, ha]
      · by_cases h3 : y = b
        · subst h3; simp [h1, h2, hb]
        · simp [h1, h2, h3]
  rw [← e]; exact F

theorem step1_len (c : List (List Int) × List Int) (n : Int) : (step1 c n).1.length ≤ c.1.length + 1 ∧ (step1 c n).2.length ≤ c.2.length + 1 := by
  unfold step1
  split
  · simp
  · split <;> simp
theorem st1_snoc (l : List Int) (n : Int) : st1 (l ++ [n]) = step1 (st1 l) n := by simp [st1, List.foldl_append]
theorem textOf_snoc (l : List Int) (n : Int) : textOf (l ++ [n]) = textOf l ++ ⟨#[sgn n]⟩ := by
  refine PySem.Str.ext' (Array.toList_inj.mp ?_)
  rw [PySem.Str.cps_append, Array.toList_append]
  simp [textOf]
theorem textOf_length (l : List Int) : (textOf l).length = l.length := by
  simp [textOf, PySem.Str.length]
theorem st1_len (l : List Int) : (st1 l).1.length ≤ l.length ∧ (st1 l).2.length ≤ l.length := by
  suffices H : ∀ (l : List Int) (c : List (List Int) × List Int), (l.foldl step1 c).1.length ≤ c.1.length + l.length ∧ (l.foldl step1 c).2.length ≤ c.2.length + l.length by
    simpa [st1] using H l ([], [])
  intro l
  induction l with
  | nil => intro c; simp
  | cons n r ih =>
    intro c
    have h1 := step1_len c n
    have h2 := ih (step1 c n)
    simp only [List.foldl_cons, List.length_cons]
    omega
theorem take_snoc {ns : List Int} {i : Nat} {n : Int} (h : ns[i]? = some n) : ns.take (i + 1) = ns.take i ++ [n] := by
  rw [List.take_add_one, h]; rfl

section
variable {prog : Program} {w : World} {A : Around} {E : Value → Shared → Prop} {s : Shared} {env : Env} {h₀ : Heap} {x : PySem.Str} {body : List Stmt} {Q : Flow → Shared → Prop}
theorem loop1 {D G c : Addr} {cst cst' : List (Addr × Obj)} {ws : List Value} {ns : List Int} {m₀ : PySem.Str → Option Value} {tt₀ : Tok} (hcst : cst = (D, W.listOf ws.toArray 0) :: cst')
    (hh : A.handled = none) (F : Fr h₀ env.locals s.heap m₀) (N₀ : News h₀ env.locals s.heap ((D, W.listOf ws.toArray 0) :: (G, W.listOf #[Value.ref c] 0) :: (c, W.listOf #[] 0) :: cst')) (hI : IntsAre ws ns) (hns : ns.length ≤ 45)
    (ht : m₀ (PySem.Str.ofString "text") = some (.str (PySem.Str.ofString "") tt₀)) (hg : m₀ (PySem.Str.ofString "groups") = some (.ref G)) (hGc : G ≠ c) (hoff : OwnOff cst [G, c])
    (turn : ∀ (i : Nat) (n : Int) (t tt : Tok) (gvs cvs : List Value) (cur : Addr) (gn cn : Nat) (tl own : List (Addr × Obj)) (m₁ : PySem.Str → Option Value) (h : Heap) (tk : Nat),
      ns[i]? = some n → IntsAre cvs (st1 (ns.take i)).2 → DatAll tl gvs ((st1 (ns.take i)).1.map datI) → G ≠ cur → OwnOff (cst ++ tl) [G, cur] → OwnOff tl (cst.map (·.1)) → OwnOff own (((G, W.listOf (gvs ++ [Value.ref cur]).toArray gn) :: (cur, W.listOf cvs.toArray cn) :: (cst ++ tl)).map (·.1)) →
      gvs.length ≤ 45 → cvs.length ≤ 45 → (textOf (ns.take i)).length ≤ 45 →
      Fr h₀ env.locals h (fun y => if y = x then some (.int n t) else if y = PySem.Str.ofString "text" then some (.str (textOf (ns.take i)) tt) else if y = PySem.Str.ofString "groups" then some (.ref G) else m₁ y) →
      News h₀ env.locals h ((G, W.listOf (gvs ++ [Value.ref cur]).toArray gn) :: (cur, W.listOf cvs.toArray cn) :: (cst ++ (tl ++ own))) →
      wpAny (model prog w) A (execs body env) (InvPostG h₀ env.locals (fun m' nx => (D, W.listOf ws.toArray 0) ∈ nx ∧ J1 G cst ns (i + 1) m' nx) own { s with heap := h, toks := tk } Q) E { s with heap := h, toks := tk })
    (done : ∀ (tt : Tok) (gvs cvs : List Value) (cur : Addr) (gn cn : Nat) (tl : List (Addr × Obj)) (m₁ : PySem.Str → Option Value) (h : Heap) (tk : Nat),
      IntsAre cvs (st1 ns).2 → DatAll tl gvs ((st1 ns).1.map datI) → G ≠ cur → OwnOff (cst ++ tl) [G, cur] → OwnOff tl (cst.map (·.1)) →
      gvs.length ≤ 45 → cvs.length ≤ 45 → (textOf ns).length ≤ 45 →
      Fr h₀ env.locals h (fun y => if y = PySem.Str.ofString "text" then some (.str (textOf ns) tt) else if y = PySem.Str.ofString "groups" then some (.ref G) else m₁ y) →
      News h₀ env.locals h ((G, W.listOf (gvs ++ [Value.ref cur]).toArray gn) :: (cur, W.listOf cvs.toArray cn) :: (cst ++ tl)) →
      Q .next { s with heap := h, toks := tk }) :
    wpAny (model prog w) A (pyIter (.ref D)) (fun it s₂ => LoopAtV prog w A h₀ env x body Q E it s₂) E s := by
  have N : News h₀ env.locals s.heap ((G, W.listOf #[Value.ref c] 0) :: (c, W.listOf #[] 0) :: cst) := News.perm N₀ (by
    intro p hp
    subst hcst
    simp only [List.mem_cons] at hp ⊢
    rcases hp with h | h | h | h
    · exact .inr (.inl h)
    · exact .inr (.inr (.inl h))
    · exact .inl h
    · exact .inr (.inr (.inr h)))
  refine kdl_iter (J1 G cst ns) hh (.tail _ (.tail _ (by rw [hcst]; exact .head _))) F N ?_ ?_ ?_
  · refine ⟨tt₀, [], [], c, 0, 0, [], by simp, ?_, hg, .nil, .nil, hGc, by simpa using hoff, fun _ h => (nomatch h)⟩
    rw [ht]; rfl
  · rintro i v m₁ nx h tk own hv hown _ ⟨tt, gvs, cvs, cur, gn, cn, tl, rfl, h1, h2, h3, h4, h5, h6, h7⟩ F₁ N₁
    obtain ⟨n, t, rfl, hn⟩ := hI.at i v hv
    have l1 := st1_len (ns.take i)
    have l2 : (ns.take i).length ≤ 45 := by rw [List.length_take]; omega
    refine turn i n t tt gvs cvs cur gn cn tl own m₁ h tk hn h3 h4 h5 h6 h7 hown ?_ ?_ ?_ (fr_two F₁ h1 h2) ?_
    · rw [h4.length, List.length_map]; omega
    · rw [h3.length]; omega
    · rw [textOf_length]; omega
    · simpa using N₁
  · rintro m₁ nx h tk ⟨tt, gvs, cvs, cur, gn, cn, tl, rfl, h1, h2, h3, h4, h5, h6, h7⟩ F₁ N₁
    have e : ns.take ws.length = ns := by rw [hI.length, List.take_length]
    rw [e] at h1 h3 h4
    have l1 := st1_len ns
    refine done tt gvs cvs cur gn cn tl m₁ h tk h3 h4 h5 h6 h7 ?_ ?_ ?_ ?_ N₁
    · rw [h4.length, List.length_map]; omega
    · rw [h3.length]; omega
    · rw [textOf_length]; omega
    · have e : m₁ = (fun y => if y = PySem.Str.ofString "text" then some (.str (textOf ns) tt) else if y = PySem.Str.ofString "groups" then some (.ref G) else m₁ y) := by
        funext y
        by_cases h1' : y = PySem.Str.ofString "text"
        · subst h1'; simp [h1]
        · by_cases h2' : y = PySem.Str.ofString "groups"
          · subst h2'; simp [h1', h2]
          · simp [h1', h2']
      rw [← e]; exact F₁
end

section
variable {prog : Program} {w : World} {A : Around} {E : Value → Shared → Prop} {s : Shared} {h₀ : Heap} {L l : Addr}
theorem last_item {value slice : PySem.Expr} {news : List (Addr × Obj)} {gvs : List Value} {v : Value} {gn : Nat} {u : Tok} {Q : Value → Shared → Prop} (N : News h₀ L s.heap news) (hm : (l, W.listOf (gvs ++ [v]).toArray gn) ∈ news) (hlen : gvs.length ≤ 45) (h : Q v s)
    (hs : subscripted slice false (.ref l) (.int (-1) u) = operate [.ref l, .int (-1) u] (getItem (.ref l) (.int (-1) u)) := by with_unfolding_all rfl) :
    wpAny (model prog w) A (subscriptTail value slice (.ref l) (.int (-1) u)) Q E s := by
  have hl : s.heap.IsList l (gvs ++ [v]).toArray := ⟨_, (N _ hm).1, rfl, gn, rfl⟩
  refine kde_neg (j := gvs.length) hl (by decide) (by decide) ?_ (by simp) h hs
  rw [seqIndex_neg (by decide) (by simp; omega)]
  simp; omega
end
theorem ints_dat {news : List (Addr × Obj)} {vs : List Value} {ks : List Int} (h : IntsAre vs ks) : DatAll news vs (ks.map Dat.int) := by
  induction h with
  | nil => exact .nil
  | cons n t _ ih => exact .cons (.int n t) ih
theorem dat_ints {news : List (Addr × Obj)} {vs : List Value} {ks : List Int} (h : DatAll news vs (ks.map Dat.int)) : IntsAre vs ks := by
  induction ks generalizing vs with
  | nil => cases h; exact .nil
  | cons k r ih =>
    cases h with
    | cons h1 h2 => cases h1; exact .cons _ _ (ih h2)
theorem item_menu (n : Int) : Txt.item (PySem.Str.ofString "0123456789abcdefABCDEF/:@G`gZz \x00\x10\x1f\x7f°Áá٠０") (n.fmod 40) = ⟨#[sgn n]⟩ := by
  have key : ∀ k : Nat, k < 40 → Txt.item (PySem.Str.ofString "0123456789abcdefABCDEF/:@G`gZz \x00\x10\x1f\x7f°Áá٠０") ((k : Nat) : Int) = ⟨#[menuC.getD k 0]⟩ := by decide +kernel
  have e : n.fmod 40 = n % 40 := Int.fmod_eq_emod_of_nonneg _ (by decide)
  have h0 : 0 ≤ n % 40 := Int.emod_nonneg _ (by decide)
  have h1 : n % 40 < 40 := Int.emod_lt_of_pos _ (by decide)
  have := key (n % 40).toNat (by omega)
  rw [e, sgn]
  rwa [Int.toNat_of_nonneg h0] at this

section
variable {h₀ : Heap} {L G cur D : Addr} {cst tl own : List (Addr × Obj)} {ws gvs cvs : List Value} {ns : List Int} {i gn cn tk : Nat} {n : Int} {m' : PySem.Str → Option Value} {h' : Heap} {s₁ : Shared} {tt' : Tok} {X : PySem.Str}
theorem end1a {k : Int} {t : Tok} (hD : (D, W.listOf ws.toArray 0) ∈ cst) (hn : ns[i]? = some n) (hci : IntsAre cvs (st1 (ns.take i)).2) (hgd : DatAll tl gvs ((st1 (ns.take i)).1.map datI)) (hGc : G ≠ cur) (hoff : OwnOff (cst ++ tl) [G, cur]) (hofc : OwnOff tl (cst.map (·.1)))
    (hown : OwnOff own (((G, W.listOf (gvs ++ [Value.ref cur]).toArray gn) :: (cur, W.listOf cvs.toArray cn) :: (cst ++ tl)).map (·.1)))
    (hst : step1 (st1 (ns.take i)) n = ((st1 (ns.take i)).1, (st1 (ns.take i)).2 ++ [k]))
    (F : Fr h₀ L h' m') (N : News h₀ L h' ((G, W.listOf (gvs ++ [Value.ref cur]).toArray gn) :: (cur, W.listOf (cvs.toArray.push (.int k t)) (cn + 1)) :: (cst ++ (tl ++ own))))
    (ht : m' (PySem.Str.ofString "text") = some (.str (textOf (ns.take i) ++ X) tt')) (hX : X = ⟨#[sgn n]⟩) (hg : m' (PySem.Str.ofString "groups") = some (.ref G)) :
    InvEndG h₀ L (fun m' nx => (D, W.listOf ws.toArray 0) ∈ nx ∧ J1 G cst ns (i + 1) m' nx) own s₁ { s₁ with heap := h', toks := tk } := by
  refine InvEndG.intro F N (nx := (G, W.listOf (gvs ++ [Value.ref cur]).toArray gn) :: (cur, W.listOf (cvs.toArray.push (.int k t)) (cn + 1)) :: (cst ++ tl)) ⟨?_, tt', gvs, cvs ++ [.int k t], cur, gn, cn + 1, tl, ?_, ?_, hg, ?_, ?_, hGc, hoff, hofc⟩ ?_ ?_ ?_
  · exact .tail _ (.tail _ (List.mem_append_left _ hD))
  · simp
  · rw [ht, hX, take_snoc hn, textOf_snoc]
  · rw [take_snoc hn, st1_snoc, hst]
    exact hci.append (.cons k t .nil)
  · rw [take_snoc hn, st1_snoc, hst]
    exact hgd
  · simpa using hown
  · intro p hp
    simp only [List.mem_cons, List.mem_append] at hp ⊢
    grind
  · intro p hp
    simp only [List.mem_cons, List.mem_append]
    grind
theorem end1b {l : Addr} (hD : (D, W.listOf ws.toArray 0) ∈ cst) (hn : ns[i]? = some n) (hci : IntsAre cvs (st1 (ns.take i)).2) (hgd : DatAll tl gvs ((st1 (ns.take i)).1.map datI)) (hGc : G ≠ cur) (hoff : OwnOff (cst ++ tl) [G, cur]) (hofc : OwnOff tl (cst.map (·.1)))
    (hown : OwnOff own (((G, W.listOf (gvs ++ [Value.ref cur]).toArray gn) :: (cur, W.listOf cvs.toArray cn) :: (cst ++ tl)).map (·.1)))
    (hst : step1 (st1 (ns.take i)) n = ((st1 (ns.take i)).1 ++ [(st1 (ns.take i)).2], []))
    (hl : ∀ p ∈ ((G, W.listOf (gvs ++ [Value.ref cur]).toArray gn) :: (cur, W.listOf cvs.toArray cn) :: (cst ++ (tl ++ own))), p.1 < l)
    (F : Fr h₀ L h' m') (N : News h₀ L h' ((l, W.listOf [].toArray 0) :: (G, W.listOf ((gvs ++ [Value.ref cur]).toArray.push (.ref l)) (gn + 1)) :: (cur, W.listOf cvs.toArray cn) :: (cst ++ (tl ++ own))))
    (ht : m' (PySem.Str.ofString "text") = some (.str (textOf (ns.take i) ++ X) tt')) (hX : X = ⟨#[sgn n]⟩) (hg : m' (PySem.Str.ofString "groups") = some (.ref G)) :
    InvEndG h₀ L (fun m' nx => (D, W.listOf ws.toArray 0) ∈ nx ∧ J1 G cst ns (i + 1) m' nx) own s₁ { s₁ with heap := h', toks := tk } := by
  have hlG : G < l := hl _ (.head _)
  have hlc : cur < l := hl _ (.tail _ (.head _))
  refine InvEndG.intro F N (nx := (G, W.listOf ((gvs ++ [Value.ref cur]).toArray.push (.ref l)) (gn + 1)) :: (l, W.listOf [].toArray 0) :: (cst ++ ((cur, W.listOf cvs.toArray cn) :: tl))) ⟨?_, tt', gvs ++ [.ref cur], [], l, gn + 1, 0, (cur, W.listOf cvs.toArray cn) :: tl, ?_, ?_, hg, ?_, ?_, Nat.ne_of_lt hlG, ?_, ?_⟩ ?_ ?_ ?_
  · exact .tail _ (.tail _ (List.mem_append_left _ hD))
  · simp
  · rw [ht, hX, take_snoc hn, textOf_snoc]
  · rw [take_snoc hn, st1_snoc, hst]
    exact .nil
  · rw [take_snoc hn, st1_snoc, hst]
    rw [List.map_append]
    refine DatAll.append (hgd.mono fun p hp => .tail _ hp) (.one ?_)
    refine .list (.head _) ?_
    exact ints_dat hci
  · intro p hp b hb
    simp only [List.mem_append, List.mem_cons, List.not_mem_nil, or_false] at hp hb
    rcases hb with rfl | rfl
    · rcases hp with hp | rfl | hp
      · exact hoff p (List.mem_append_left _ hp) _ (.head _)
      · exact hGc.symm
      · exact hoff p (List.mem_append_right _ hp) _ (.head _)
    · refine Nat.ne_of_lt ?_
      rcases hp with hp | rfl | hp
      · exact hl p (by simp [hp])
      · exact hlc
      · exact hl p (by simp [hp])
  · intro p hp b hb
    rcases List.mem_cons.mp hp with rfl | hp
    · obtain ⟨q, hq, rfl⟩ := List.mem_map.mp hb
      exact (hoff q (List.mem_append_left _ hq) _ (.tail _ (.head _))).symm
    · exact hofc p hp b hb
  · intro p hp b hb
    have hlp : p.1 < l := hl p (by simp [hp])
    have hof := hown p hp
    simp only [List.map_cons, List.map_append, List.mem_cons, List.mem_append] at hof hb
    rcases hb with rfl | rfl | hb | rfl | hb
    · exact hof _ (.inl rfl)
    · exact Nat.ne_of_lt hlp
    · exact hof _ (.inr (.inr (.inl hb)))
    · exact hof _ (.inr (.inl rfl))
    · exact hof _ (.inr (.inr (.inr hb)))
  · intro p hp
    simp only [List.mem_cons, List.mem_append] at hp ⊢
    grind
  · intro p hp
    simp only [List.mem_cons, List.mem_append]
    grind
end
theorem off_cur {G cur : Addr} {cst tl own : List (Addr × Obj)} {o o' : Obj} (hoff : OwnOff (cst ++ tl) [G, cur]) (hown : OwnOff own (((G, o) :: (cur, o') :: (cst ++ tl)).map (·.1))) : ∀ p ∈ cst ++ (tl ++ own), p.1 ≠ cur := by
  intro p hp
  rw [← List.append_assoc, List.mem_append] at hp
  rcases hp with hp | hp
  · exact hoff p hp _ (.tail _ (.head _))
  · exact hown p hp _ (.tail _ (.head _))
theorem off_G {G cur : Addr} {cst tl own : List (Addr × Obj)} {o o' : Obj} (hoff : OwnOff (cst ++ tl) [G, cur]) (hown : OwnOff own (((G, o) :: (cur, o') :: (cst ++ tl)).map (·.1))) : ∀ p ∈ cst ++ (tl ++ own), p.1 ≠ G := by
  intro p hp
  rw [← List.append_assoc, List.mem_append] at hp
  rcases hp with hp | hp
  · exact hoff p hp _ (.head _)
  · exact hown p hp _ (.head _)

theorem step1_lo {c : List (List Int) × List Int} {n : Int} (h : n.fmod 40 < 16) : step1 c n = (c.1, c.2 ++ [n.fmod 40]) := by
  rw [Int.fmod_eq_emod_of_nonneg _ (by decide)] at h ⊢
  simp [step1, h]
theorem step1_mid {c : List (List Int) × List Int} {n : Int} (h : ¬ n.fmod 40 < 16) (h2 : n.fmod 40 < 22) : step1 c n = (c.1, c.2 ++ [n.fmod 40 - 6]) := by
  rw [Int.fmod_eq_emod_of_nonneg _ (by decide)] at h h2 ⊢
  simp [step1, h, h2]
theorem step1_hi {c : List (List Int) × List Int} {n : Int} (h : ¬ n.fmod 40 < 16) (h2 : ¬ n.fmod 40 < 22) : step1 c n = (c.1 ++ [c.2], []) := by
  rw [Int.fmod_eq_emod_of_nonneg _ (by decide)] at h h2
  simp [step1, h, h2]

theorem lt3 {l G cur : Addr} {o o' : Obj} {r : List (Addr × Obj)} (h : G < l ∧ cur < l ∧ AllLt l r) : ∀ p ∈ (G, o) :: (cur, o') :: r, p.1 < l := tb_ltOf (l := (G, o) :: (cur, o') :: r) h
end Mine

namespace Mine
def ForCEnd (h₀ : Heap) (L c I : Addr) (oI : Obj) (J : (PySem.Str → Option Value) → List (Addr × Obj) → Prop) (s₁ s₂ : Shared) : Prop :=
  ∃ h' tk m' o' v' nx', s₂ = { s₁ with heap := h', toks := tk } ∧ Fr h₀ L h' m' ∧ News h₀ L h' ((c, o') :: (I, oI) :: nx') ∧ o'.data = .cell v' ∧ (∀ p ∈ nx', p.1 ≠ c) ∧ (∀ p ∈ nx', p.1 ≠ I) ∧ J m' nx'
def ForCPost (h₀ : Heap) (L c I : Addr) (oI : Obj) (J : (PySem.Str → Option Value) → List (Addr × Obj) → Prop) (s₁ : Shared) (Q : Flow → Shared → Prop) (f : Flow) (s₂ : Shared) : Prop :=
  match f with
  | .ret u => Q (.ret u) s₂
  | .brk => Q .next s₂
  | _ => ForCEnd h₀ L c I oI J s₁ s₂
section
variable {prog : Program} {w : World} {A : Around} {E : Value → Shared → Prop} {s : Shared} {env : Env} {h₀ : Heap} {x : PySem.Str} {px : Pos} {body : List Stmt} {Q : Flow → Shared → Prop}
theorem forC {l c : Addr} {vs : List Value} {nn : Nat} {m₀ : PySem.Str → Option Value} {o₀ : Obj} {v₀ : Option Value} {nx₀ : List (Addr × Obj)} (J : Nat → (PySem.Str → Option Value) → List (Addr × Obj) → Prop)
    (hh : A.handled = none) (hkf : env.scope.kind = .function) (hkx : env.kindOf x = some .cell) (hc : env.cells.lookup x = some c)
    (F : Fr h₀ env.locals s.heap m₀) (N : News h₀ env.locals s.heap ((c, o₀) :: nx₀)) (hd₀ : o₀.data = .cell v₀) (hne₀ : ∀ p ∈ nx₀, p.1 ≠ c)
    (hl : ∀ i m nx, J i m nx → (l, W.listOf vs.toArray nn) ∈ nx) (hj : J 0 m₀ nx₀) (hE : PassesOwn (model prog w) A env E)
    (turn : ∀ i v m nx o I oI h tk, vs[i]? = some v → J i m nx → o.data = .cell (some v) → (∀ p ∈ nx, p.1 ≠ c) → (∀ p ∈ nx, p.1 ≠ I) → c ≠ I → Fr h₀ env.locals h m → News h₀ env.locals h ((c, o) :: (I, oI) :: nx) →
      wpAny (model prog w) A (execs body env) (ForCPost h₀ env.locals c I oI (J (i + 1)) { s with heap := h, toks := tk } Q) E { s with heap := h, toks := tk })
    (done : ∀ m nx o v h tk, J vs.length m nx → o.data = .cell v → (∀ p ∈ nx, p.1 ≠ c) → Fr h₀ env.locals h m → News h₀ env.locals h ((c, o) :: nx) → Q .next { s with heap := h, toks := tk }) :
    wpAny (model prog w) A (pyIter (.ref l)) (fun it s₂ => codeAny (model prog w) A (.forLoop (.Name x px) it body [] env) (fun r s' => match r with | .ok f => Q f s' | .error e => cameBackBy (model prog w) A env E e s') s₂) E s := by
  have hol : s.heap.get? l = some (W.listOf vs.toArray nn) := (N _ (.tail _ (hl _ _ _ hj))).1
  have hls : s.heap.IsList l vs.toArray := ⟨_, hol, rfl, nn, rfl⟩
  have hne : l ≠ s.heap.objs.size := Nat.ne_of_lt (Heap.lt_size hol)
  refine wpAny_pyIter_list hls ?_
  generalize hI : s.heap.objs.size = I at hne ⊢
  have W := Walks.list (prog := prog) (w := w) hh I l hne vs.toArray
  have hlen : vs.toArray.size = vs.length := by simp
  rw [hlen] at W
  have hIL : env.locals ≠ I := Nat.ne_of_lt (hI ▸ F.ns.lt)
  have hI0 : h₀.get? I = none := hI ▸ next_is_new F
  have keepF : ∀ (h₁ h₂ : Heap) m, Fr h₀ env.locals h₁ m → (∀ b o, b ∉ [I] → h₁.get? b = some o → h₂.get? b = some o) → Fr h₀ env.locals h₂ m := fun h₁ h₂ m F₁ hk =>
    ⟨F₁.ns.at' fun o e => hk _ o (by simpa using hIL) e, fun b o e => hk b o (fun hb => by rw [List.mem_singleton.mp hb, hI0] at e; cases e) (F₁.keep b o e), F₁.above⟩
  have keepN : ∀ (h₁ h₂ : Heap) nx, News h₀ env.locals h₁ nx → (∀ p ∈ nx, p.1 ≠ I) → (∀ b o, b ∉ [I] → h₁.get? b = some o → h₂.get? b = some o) → News h₀ env.locals h₂ nx := fun h₁ h₂ nx N₁ hn hk =>
    fun p hp => ⟨hk _ _ (by simpa using hn p hp) (N₁ p hp).1, (N₁ p hp).2⟩
  have hcI : c ≠ I := hI ▸ Nat.ne_of_lt (Heap.lt_size (N _ (.head _)).1)
  have hnI : ∀ p ∈ nx₀, p.1 ≠ I := fun p hp => hI ▸ Nat.ne_of_lt (Heap.lt_size (N _ (.tail _ hp)).1)
  refine codeAny_forLoop
    (fun k s' => ∃ h' tk m' o v nx i, s' = { s with heap := h', toks := tk } ∧ h'.IsListIter I l i ∧ Fr h₀ env.locals h' m' ∧ News h₀ env.locals h' ((c, o) :: nx) ∧ o.data = .cell v ∧ (∀ p ∈ nx, p.1 ≠ c) ∧ (∀ p ∈ nx, p.1 ≠ I) ∧ J i m' nx ∧ i ≤ vs.length ∧ k = vs.length + 1 - i) ?_ (vs.length + 1)
    ⟨_, _, m₀, o₀, v₀, nx₀, 0, rfl, ⟨_, hI ▸ Heap.get?_push_size _ rfl, rfl, rfl⟩, F.push _, (fun p hp => ⟨Heap.get?_push_of_some _ (N p hp).1, (N p hp).2⟩), hd₀, hne₀, hnI, hj, Nat.zero_le _, rfl⟩
  rintro k s' ⟨h', tk, m', o, v, nx, i, rfl, hit, F', N', hd, hnc, hnI', hJ, hi, rfl⟩
  have hlist : h'.IsList l vs.toArray := ⟨_, (N' _ (.tail _ (hl _ _ _ hJ))).1, rfl, nn, rfl⟩
  have hnI2 : ∀ p ∈ (c, o) :: nx, p.1 ≠ I := fun p hp => by
    rcases List.mem_cons.mp hp with rfl | hp
    · exact hcI
    · exact hnI' p hp
  by_cases hlt : i < vs.length
  · refine W.item i _ _ _ hlt ⟨hit, hlist⟩ fun u h₁ tk₁ hP hst₁ hk₁ => ?_
    have hP' : vs[i]? = some u := by simpa using hP
    have F₁ := keepF _ _ _ F' hk₁
    have N₁ := keepN _ _ _ N' hnI2 hk₁
    refine wpAny_assign_Name (wpAny_storeName_cell hkf hkx hc ⟨o, (N₁ _ (.head _)).1, hd⟩ fun h₂ hv hs => ?_)
    obtain ⟨o', ho', hd'⟩ := hv
    have hL := (N₁ _ (.head _)).2
    have F₂ : Fr h₀ env.locals h₂ m' := ⟨F₁.ns.sameBut hs (Ne.symm hL.1), fun b ob e => (hs.2 b (fun q => by rw [q, hL.2] at e; cases e)).trans (F₁.keep b ob e), F₁.above⟩
    obtain ⟨oI, hoI, hcI', hdI⟩ := hst₁.1
    have hI2 : h₂.get? I = some oI := (hs.2 I (Ne.symm hcI)).trans hoI
    have N₂ : News h₀ env.locals h₂ ((c, o') :: (I, oI) :: nx) := by
      intro p hp
      rcases List.mem_cons.mp hp with rfl | hp
      · exact ⟨ho', hL⟩
      · rcases List.mem_cons.mp hp with rfl | hp
        · exact ⟨hI2, Ne.symm hIL, hI0⟩
        · exact ⟨(hs.2 p.1 (hnc p hp)).trans (N₁ p (.tail _ hp)).1, (N₁ p (.tail _ hp)).2⟩
    refine wpAny_passesOwn hE (wpAny_mono (turn i u m' nx o' I oI h₂ _ hP' hJ hd' hnc hnI' hcI F₂ N₂) (fun f s₃ h₃ => ?_) fun _ _ e => e)
    have fin : ForCEnd h₀ env.locals c I oI (J (i + 1)) { s with heap := h₂, toks := tk₁ } s₃ → ∃ m, m < vs.length + 1 - i ∧ (∃ h' tk m' o v nx i', s₃ = { s with heap := h', toks := tk } ∧ h'.IsListIter I l i' ∧ Fr h₀ env.locals h' m' ∧ News h₀ env.locals h' ((c, o) :: nx) ∧ o.data = .cell v ∧ (∀ p ∈ nx, p.1 ≠ c) ∧ (∀ p ∈ nx, p.1 ≠ I) ∧ J i' m' nx ∧ i' ≤ vs.length ∧ m = vs.length + 1 - i') := by
      rintro ⟨hh₃, tk₃, m₃, o₃, v₃, nx₃, rfl, F₃, N₃, hd₃, a₃, b₃, J₃⟩
      refine ⟨vs.length + 1 - (i + 1), by omega, hh₃, tk₃, m₃, o₃, v₃, nx₃, i + 1, rfl, ⟨oI, (N₃ _ (.tail _ (.head _))).1, hcI', hdI⟩, F₃, ?_, hd₃, a₃, b₃, J₃, hlt, rfl⟩
      intro p hp
      rcases List.mem_cons.mp hp with rfl | hp
      · exact N₃ _ (.head _)
      · exact N₃ _ (.tail _ (.tail _ hp))
    cases f with
    | ret v => exact h₃
    | brk => exact h₃
    | cont => exact fin h₃
    | next => exact fin h₃
  · have hin : i = vs.length := by omega
    subst hin
    refine W.done _ _ _ ⟨hit, hlist⟩ fun h₁ tk₁ hk₁ => wpAny_execs_nil ?_
    exact done m' nx o v h₁ tk₁ hJ hd hnc (keepF _ _ _ F' hk₁) (keepN _ _ _ N' hnI2 hk₁)
end
end Mine

namespace Mine
def worth (g : List Int) : Int := ((List.range g.length).map fun k => g.getD k 0 * 16 ^ (g.length - 1 - k)).sum
def dueD (g : List Int) : Dat := .tuple [.int (g.length : Int), .int (worth g)]
def dueOf (gs : List (List Int)) : List Dat := (gs.filter fun g => g != []).map dueD
def gsOf (l : List Int) : List (List Int) := (st1 l).1 ++ [(st1 l).2]

theorem step1_bd {c : List (List Int) × List Int} {n : Int} (h1 : ∀ g ∈ c.1, ∀ x ∈ g, 0 ≤ x ∧ x < 16) (h2 : ∀ x ∈ c.2, 0 ≤ x ∧ x < 16) (l : Nat) (h3 : ∀ g ∈ c.1, g.length ≤ l) (h4 : c.2.length ≤ l) :
    (∀ g ∈ (step1 c n).1, ∀ x ∈ g, 0 ≤ x ∧ x < 16) ∧ (∀ x ∈ (step1 c n).2, 0 ≤ x ∧ x < 16) ∧ (∀ g ∈ (step1 c n).1, g.length ≤ l + 1) ∧ (step1 c n).2.length ≤ l + 1 := by
  have e0 : 0 ≤ n % 40 := Int.emod_nonneg _ (by decide)
  have e1 : n % 40 < 40 := Int.emod_lt_of_pos _ (by decide)
  unfold step1
  split
  · refine ⟨h1, ?_, fun g hg => Nat.le_succ_of_le (h3 g hg), by simp; omega⟩
    intro x hx
    rcases List.mem_append.mp hx with hx | hx
    · exact h2 x hx
    · rw [List.mem_singleton.mp hx]; omega
  · split
    · refine ⟨h1, ?_, fun g hg => Nat.le_succ_of_le (h3 g hg), by simp; omega⟩
      intro x hx
      rcases List.mem_append.mp hx with hx | hx
      · exact h2 x hx
      · rw [List.mem_singleton.mp hx]; omega
    · refine ⟨?_, fun x hx => (nomatch hx), ?_, Nat.zero_le _⟩
      · intro g hg
        rcases List.mem_append.mp hg with hg | hg
        · exact h1 g hg
        · rw [List.mem_singleton.mp hg]; exact h2
      · intro g hg
        rcases List.mem_append.mp hg with hg | hg
        · exact Nat.le_succ_of_le (h3 g hg)
        · rw [List.mem_singleton.mp hg]; omega
theorem fold_bd : ∀ (l : List Int) (c : List (List Int) × List Int) (k : Nat), (∀ g ∈ c.1, ∀ x ∈ g, 0 ≤ x ∧ x < 16) → (∀ x ∈ c.2, 0 ≤ x ∧ x < 16) → (∀ g ∈ c.1, g.length ≤ k) → c.2.length ≤ k →
    (∀ g ∈ (l.foldl step1 c).1, ∀ x ∈ g, 0 ≤ x ∧ x < 16) ∧ (∀ x ∈ (l.foldl step1 c).2, 0 ≤ x ∧ x < 16) ∧ (∀ g ∈ (l.foldl step1 c).1, g.length ≤ k + l.length) ∧ (l.foldl step1 c).2.length ≤ k + l.length
  | [], c, k, h1, h2, h3, h4 => ⟨h1, h2, h3, h4⟩
  | n :: r, c, k, h1, h2, h3, h4 => by
    obtain ⟨a, b, d, e⟩ := step1_bd (n := n) h1 h2 k h3 h4
    have := fold_bd r (step1 c n) (k + 1) a b d e
    simp only [List.foldl_cons, List.length_cons]
    rw [show k + (r.length + 1) = k + 1 + r.length by omega]
    exact this
theorem gs_bd (l : List Int) : ∀ g ∈ gsOf l, (∀ x ∈ g, 0 ≤ x ∧ x < 16) ∧ g.length ≤ l.length := by
  obtain ⟨a, b, c, d⟩ := fold_bd l ([], []) 0 (fun _ h => (nomatch h)) (fun _ h => (nomatch h)) (fun _ h => (nomatch h)) (Nat.le_refl _)
  intro g hg
  unfold gsOf at hg
  rcases List.mem_append.mp hg with hg | hg
  · exact ⟨a g hg, by have := c g hg; omega⟩
  · rw [List.mem_singleton.mp hg]; exact ⟨b, by have := d; simp only [Nat.zero_add] at this; exact this⟩
theorem gs_len (l : List Int) : (gsOf l).length ≤ l.length + 1 := by
  have := st1_len l
  simp [gsOf]; omega
theorem dueOf_len (gs : List (List Int)) : (dueOf gs).length ≤ gs.length := by
  unfold dueOf; rw [List.length_map]; exact List.length_filter_le _ _

def J2 (due c2 : Addr) (base : List (Addr × Obj)) (gs : List (List Int)) (text : PySem.Str) (i : Nat) (m : PySem.Str → Option Value) (nx : List (Addr × Obj)) : Prop :=
  ∃ (tt : Tok) (dvs : List Value) (dn : Nat) (o2 : Obj) (v2 : Option Value) (tl2 : List (Addr × Obj)),
    nx = (due, W.listOf dvs.toArray dn) :: (c2, o2) :: (base ++ tl2) ∧ o2.data = .cell v2 ∧ DatAll tl2 dvs (dueOf (gs.take i)) ∧
    m (PySem.Str.ofString "due") = some (.ref due) ∧ m (PySem.Str.ofString "text") = some (.str text tt) ∧ due ≠ c2 ∧ OwnOff (base ++ tl2) [due, c2]
theorem fr_dt {h₀ h : Heap} {L : Addr} {m : PySem.Str → Option Value} {a b : PySem.Str} {va vb : Value} (F : Fr h₀ L h m) (ha : m a = some va) (hb : m b = some vb) :
    Fr h₀ L h (fun y => if y = a then some va else if y = b then some vb else m y) := by
  have e : m = (fun y => if y = a then some va else if y = b then some vb else m y) := by
    funext y
    by_cases h2 : y = a
    · subst h2; simp [ha]
    · by_cases h3 : y = b
      · subst h3; simp [h2, hb]
      · simp [h2, h3]
  rw [← e]; exact F

section
variable {prog : Program} {w : World} {A : Around} {E : Value → Shared → Prop} {s : Shared} {env : Env} {h₀ : Heap} {x : PySem.Str} {px : Pos} {body : List Stmt} {Q : Flow → Shared → Prop}
theorem loop2 {G cur c1 c2 due : Addr} {tl : List (Addr × Obj)} {cvs gvs : List Value} {ns : List Int} {gn cn : Nat} {m₀ : PySem.Str → Option Value} {tt₀ : Tok} {o1 o2 : Obj} {v1 v2 : Option Value} {D : Addr × Obj}
    (hh : A.handled = none) (hkf : env.scope.kind = .function) (hkx : env.kindOf x = some .cell) (hc : env.cells.lookup x = some c1) (hE : PassesOwn (model prog w) A env E)
    (F : Fr h₀ env.locals s.heap m₀)
    (N : News h₀ env.locals s.heap ((due, W.listOf #[] 0) :: (G, W.listOf (gvs ++ [Value.ref cur]).toArray gn) :: (cur, W.listOf cvs.toArray cn) :: ([D, (c2, o2), (c1, o1)] ++ tl)))
    (hns : ns.length ≤ 45) (hci : IntsAre cvs (st1 ns).2) (hgd : DatAll tl gvs ((st1 ns).1.map datI))
    (hd1 : o1.data = .cell v1) (hd2 : o2.data = .cell v2) (hdue : m₀ (PySem.Str.ofString "due") = some (.ref due)) (htx : m₀ (PySem.Str.ofString "text") = some (.str (textOf ns) tt₀))
    (hl : G < due ∧ cur < due ∧ AllLt due ([D, (c2, o2), (c1, o1)] ++ tl)) (hoff : OwnOff ([D, (c2, o2), (c1, o1)] ++ tl) [G, cur]) (hc12 : c1 ≠ c2) (hD1 : D.1 ≠ c1) (hD2 : D.1 ≠ c2) (hofc : OwnOff tl ([D, (c2, o2), (c1, o1)].map (·.1)))
    (turn : ∀ (base : List (Addr × Obj)) (i : Nat) (g : List Int) (a : Addr) (us : List Value) (k : Nat) (tt : Tok) (dvs : List Value) (dn : Nat) (o o2 : Obj) (v2 : Option Value) (tl2 : List (Addr × Obj)) (I : Addr) (oI : Obj) (m : PySem.Str → Option Value) (h : Heap) (tk : Nat),
      (gsOf ns)[i]? = some g → (a, W.listOf us.toArray k) ∈ base → IntsAre us g → g.length ≤ 45 → (∀ x ∈ g, 0 ≤ x ∧ x < 16) → dvs.length ≤ 46 → DatAll tl2 dvs (dueOf ((gsOf ns).take i)) → o.data = .cell (some (.ref a)) → o2.data = .cell v2 →
      c1 ≠ I → c1 ≠ due → c1 ≠ c2 → due ≠ I → due ≠ c2 → c2 ≠ I → OwnOff (base ++ tl2) [c1, I, due, c2] →
      Fr h₀ env.locals h (fun y => if y = PySem.Str.ofString "due" then some (.ref due) else if y = PySem.Str.ofString "text" then some (.str (textOf ns) tt) else m y) →
      News h₀ env.locals h ((c1, o) :: (I, oI) :: (due, W.listOf dvs.toArray dn) :: (c2, o2) :: (a, W.listOf us.toArray k) :: (base ++ tl2)) →
      wpAny (model prog w) A (execs body env) (ForCPost h₀ env.locals c1 I oI (J2 due c2 base (gsOf ns) (textOf ns) (i + 1)) { s with heap := h, toks := tk } Q) E { s with heap := h, toks := tk })
    (done : ∀ (tt : Tok) (dvs : List Value) (dn : Nat) (tl2 : List (Addr × Obj)) (m : PySem.Str → Option Value) (h : Heap) (tk : Nat),
      DatAll tl2 dvs (dueOf (gsOf ns)) → (textOf ns).length ≤ 45 → (∀ p ∈ tl2, p.1 ≠ due) →
      Fr h₀ env.locals h (fun y => if y = PySem.Str.ofString "due" then some (.ref due) else if y = PySem.Str.ofString "text" then some (.str (textOf ns) tt) else m y) →
      News h₀ env.locals h ((due, W.listOf dvs.toArray dn) :: tl2) → Q .next { s with heap := h, toks := tk }) :
    wpAny (model prog w) A (pyIter (.ref G)) (fun it s₂ => codeAny (model prog w) A (.forLoop (.Name x px) it body [] env) (fun r s' => match r with | .ok f => Q f s' | .error e => cameBackBy (model prog w) A env E e s') s₂) E s := by
  let base : List (Addr × Obj) := (G, W.listOf (gvs ++ [Value.ref cur]).toArray gn) :: (cur, W.listOf cvs.toArray cn) :: D :: tl
  have hlt := lt3 (o := W.listOf (gvs ++ [Value.ref cur]).toArray gn) (o' := W.listOf cvs.toArray cn) hl
  have hdat : DatAll base (gvs ++ [Value.ref cur]) ((gsOf ns).map datI) := by
    unfold gsOf
    rw [List.map_append]
    exact DatAll.append (hgd.mono fun p hp => .tail _ (.tail _ (.tail _ hp))) (.one (.list (.tail _ (.head _)) (ints_dat hci)))
  have c1l : c1 < due := hlt (c1, o1) (by simp)
  have c2l : c2 < due := hlt (c2, o2) (by simp)
  have c1G : c1 ≠ G := hoff (c1, o1) (by simp) _ (.head _)
  have c2G : c2 ≠ G := hoff (c2, o2) (by simp) _ (.head _)
  have c1c : c1 ≠ cur := hoff (c1, o1) (by simp) _ (.tail _ (.head _))
  have c2c : c2 ≠ cur := hoff (c2, o2) (by simp) _ (.tail _ (.head _))
  have htl1 : ∀ p ∈ tl, p.1 ≠ c1 := fun p hp => hofc p hp _ (by simp)
  have htl2 : ∀ p ∈ tl, p.1 ≠ c2 := fun p hp => hofc p hp _ (by simp)
  have hb1 : ∀ p ∈ base, p.1 ≠ c1 := by
    intro p hp
    simp only [base, List.mem_cons] at hp
    rcases hp with rfl | rfl | rfl | hp
    · exact c1G.symm
    · exact c1c.symm
    · exact hD1
    · exact htl1 p hp
  have hb2 : ∀ p ∈ base, p.1 ≠ c2 := by
    intro p hp
    simp only [base, List.mem_cons] at hp
    rcases hp with rfl | rfl | rfl | hp
    · exact c2G.symm
    · exact c2c.symm
    · exact hD2
    · exact htl2 p hp
  have hbd : ∀ p ∈ base, p.1 ≠ due := by
    intro p hp
    refine Nat.ne_of_lt (hlt p ?_)
    simp only [base, List.mem_cons] at hp
    simp only [List.mem_cons, List.mem_append]
    grind
  have hnd : due ≠ c1 := Nat.ne_of_gt c1l
  have hnd2 : due ≠ c2 := Nat.ne_of_gt c2l
  have N₀ : News h₀ env.locals s.heap ((c1, o1) :: ((due, W.listOf [].toArray 0) :: (c2, o2) :: (base ++ []))) := News.perm N (by
    intro p hp
    simp only [base, List.mem_cons, List.mem_append, List.not_mem_nil, or_false] at hp ⊢
    grind)
  refine forC (l := G) (c := c1) (vs := gvs ++ [Value.ref cur]) (nn := gn) (J2 due c2 base (gsOf ns) (textOf ns)) hh hkf hkx hc F N₀ hd1 ?_ ?_ ?_ hE ?_ ?_
  · intro p hp
    simp only [List.mem_cons, List.append_nil] at hp
    rcases hp with rfl | rfl | hp
    · exact hnd
    · exact hc12.symm
    · exact hb1 p hp
  · rintro i m nx ⟨tt, dvs, dn, o2, v2, tl2, rfl, _⟩
    simp [base]
  · refine ⟨tt₀, [], 0, o2, v2, [], rfl, hd2, ?_, hdue, htx, hnd2, ?_⟩
    · exact .nil
    · intro p hp b hb
      simp only [List.append_nil] at hp
      simp only [List.mem_cons, List.not_mem_nil, or_false] at hb
      rcases hb with rfl | rfl
      · exact hbd p hp
      · exact hb2 p hp
  · rintro i v m nx o I oI h tk hv ⟨tt, dvs, dn, o2, v2, tl2, rfl, e2, hdd, md, mt, hdc, hof⟩ ho hnc hnI hcI F₁ N₁
    have hi : i < ((gsOf ns).map datI).length := by rw [← hdat.length]; exact (List.getElem?_eq_some_iff.mp hv).1
    obtain ⟨v', hv', hD'⟩ := hdat.get hi
    rw [hv] at hv'
    cases hv'
    have hi' : i < (gsOf ns).length := by simpa using hi
    rw [List.getElem_map] at hD'
    generalize hg : (gsOf ns)[i] = g at hD'
    unfold datI at hD'
    cases hD' with
    | list hm hr =>
    rename_i a us k
    have hmem : g ∈ gsOf ns := hg ▸ List.getElem_mem hi'
    obtain ⟨b1, b2⟩ := gs_bd ns g hmem
    have hld : dvs.length ≤ 46 := by
      rw [hdd.length]
      have q1 := dueOf_len ((gsOf ns).take i)
      have q2 := gs_len ns
      rw [List.length_take] at q1
      omega
    refine turn base i g a us k tt dvs dn o o2 v2 tl2 I oI m h tk (by rw [List.getElem?_eq_getElem hi', hg]) hm (dat_ints hr) (Nat.le_trans b2 hns) b1 hld hdd ho e2 hcI hnd.symm hc12 (hnI _ (.head _)) hdc (hnI _ (.tail _ (.head _))) ?_ (fr_dt F₁ md mt) ?_
    · intro p hp b hb
      simp only [List.mem_cons, List.not_mem_nil, or_false] at hb
      rcases hb with rfl | rfl | hb
      · exact hnc p (.tail _ (.tail _ hp))
      · exact hnI p (.tail _ (.tail _ hp))
      · exact hof p hp b (by simpa using hb)
    · intro p hp
      refine N₁ p ?_
      simp only [List.mem_cons, List.mem_append] at hp ⊢
      grind
  · rintro m nx o v h tk ⟨tt, dvs, dn, o2, v2, tl2, rfl, e2, hdd, md, mt, hdc, hof⟩ ho hnc F₁ N₁
    have e : (gsOf ns).take (gvs ++ [Value.ref cur]).length = gsOf ns := by
      rw [hdat.length, List.length_map, List.take_length]
    rw [e] at hdd
    refine done tt dvs dn tl2 m h tk hdd (by rw [textOf_length]; exact hns) (fun p hp => hof p (List.mem_append_right _ hp) _ (.head _)) (fr_dt F₁ md mt) (News.perm N₁ ?_)
    intro p hp
    simp only [List.mem_cons, List.mem_append] at hp ⊢
    grind
end
end Mine

namespace Mine
section
variable {prog : Program} {w : World} {A : Around} {E : Value → Shared → Prop} {s : Shared} {h₀ : Heap} {L a b : Addr} {news : List (Addr × Obj)} {us : List Value} {g : List Int} {k kb : Nat} {Q : Value → Shared → Prop}
theorem ne_nil_pos (N : News h₀ L s.heap news) (ma : (a, W.listOf us.toArray k) ∈ news) (hus : IntsAre us g) (mb : (b, W.listOf #[] kb) ∈ news) (hu : A.units + 64 < cLine) (hg : g ≠ []) (h : Q (.bool true) s) :
    wpAny (model prog w) A (compareOp .NotEq (.ref a) (.ref b)) Q E s := by
  refine kqd_ne (n₁ := []) (n₂ := []) (xs := us) (ys := []) N ma rfl rfl (ints_dat hus) (fun _ h => (nomatch h)) mb rfl rfl .nil (fun _ h => (nomatch h)) ?_ (fun _ h => (nomatch h)) hu ?_
  · intro d hd
    obtain ⟨x, _, rfl⟩ := List.mem_map.mp hd
    rfl
  · have : ¬ (g.map Dat.int = []) := by simpa using hg
    simpa [this] using h
theorem ne_nil_neg (N : News h₀ L s.heap news) (ma : (a, W.listOf us.toArray k) ∈ news) (hus : IntsAre us g) (mb : (b, W.listOf #[] kb) ∈ news) (hu : A.units + 64 < cLine) (hg : g = []) (h : Q (.bool false) s) :
    wpAny (model prog w) A (compareOp .NotEq (.ref a) (.ref b)) Q E s := by
  refine kqd_ne (n₁ := []) (n₂ := []) (xs := us) (ys := []) N ma rfl rfl (ints_dat hus) (fun _ h => (nomatch h)) mb rfl rfl .nil (fun _ h => (nomatch h)) ?_ (fun _ h => (nomatch h)) hu ?_
  · intro d hd
    obtain ⟨x, _, rfl⟩ := List.mem_map.mp hd
    rfl
  · subst hg
    simpa using h
end

def elt2E (p1 p2 p3 p4 p5 p6 p7 p8 p9 p10 p11 : Pos) : PySem.Expr :=
  .BinOp (.Subscript (.Name (PySem.Str.ofString "group") p1) (.Name (PySem.Str.ofString "at") p2) p3) .Mult
    (.BinOp (.Constant (.int 16) 0 p4) .Pow (.BinOp (.BinOp (.Name (PySem.Str.ofString "size") p5) .Sub (.Constant (.int 1) 0 p6) p7) .Sub (.Name (PySem.Str.ofString "at") p8) p9) p10) p11
section
variable {prog : Program} {w : World} {A : Around} {E : Value → Shared → Prop} {s : Shared} {c1 c2 a : Addr} {us : List Value} {g : List Int}
theorem elt2 {p1 p2 p3 p4 p5 p6 p7 p8 p9 p10 p11 : Pos} {e' : Env} {m : PySem.Str → Option Value} {j : Int} {t t2 : Tok} (hk : e'.scope.kind = .function) (k1 : e'.kindOf (PySem.Str.ofString "group") = some .cell) (k2 : e'.kindOf (PySem.Str.ofString "size") = some .cell) (k3 : e'.kindOf (PySem.Str.ofString "at") = some .local)
    (l1 : e'.cells.lookup (PySem.Str.ofString "group") = some c1) (l2 : e'.cells.lookup (PySem.Str.ofString "size") = some c2) (hn : s.heap.Ns e'.locals m) (hm : m (PySem.Str.ofString "at") = some (.int j t))
    (hc1 : s.heap.IsCell c1 (some (.ref a))) (hc2 : s.heap.IsCell c2 (some (.int (g.length : Int) t2))) (hl : s.heap.IsList a us.toArray) (hus : IntsAre us g) (h0 : 0 ≤ j) (h1 : j < g.length) (hlen : g.length ≤ 45) (hb : ∀ x ∈ g, 0 ≤ x ∧ x < 16) :
    wpAny (model prog w) A (eval (elt2E p1 p2 p3 p4 p5 p6 p7 p8 p9 p10 p11) e') (fun y s₄ => (∃ t', y = .int (g.getD j.toNat 0 * 16 ^ (g.length - 1 - j.toNat)) t') ∧ Keeps s s₄) E s := by
  have hj : j.toNat < g.length := by omega
  have hgj : 0 ≤ g.getD j.toNat 0 ∧ g.getD j.toNat 0 < 16 := by
    rw [List.getD_eq_getElem?_getD, List.getElem?_eq_getElem hj]
    exact hb _ (List.getElem_mem hj)
  unfold elt2E
  refine wpAny_BinOp (Subscript_ (wpAny_Name (wpAny_loadName_cell hk k1 l1 hc1 (wpAny_Name (wpAny_loadName_local hk k3 hn hm (item_list_ints hl hus h0 h1 (by omega) fun t9 => ?_))))))
  refine wpAny_BinOp (wpAny_Constant_int (wpAny_BinOp (wpAny_BinOp (wpAny_Name (wpAny_loadName_cell hk k2 l2 hc2 (wpAny_Constant_int (PyProof.Rows.sub_int (wpAny_Name (wpAny_loadName_local hk k3 hn hm (PyProof.Rows.sub_int (pow_int_small ?_ ?_ (by decide) (PyProof.Rows.mul_int ?_ ?_))))))))))))
  · omega
  · omega
  · rw [show ((g.length : Int) - 1 - j).toNat = g.length - 1 - j.toNat by omega]
    exact ⟨⟨_, rfl⟩, _, _, rfl, fun _ _ e => e⟩
  · exact IntMulOk.of_left (intBits_le_64 (by omega) (by omega))
end
section
variable {prog : Program} {w : World} {A : Around} {E : Value → Shared → Prop} {s : Shared} {env : Env} {h₀ : Heap} {L c1 c2 a r : Addr} {news : List (Addr × Obj)} {us : List Value} {g : List Int} {m : PySem.Str → Option Value} {Q : Value → Shared → Prop}
theorem paired_ints {f : Nat → Int} : ∀ {vs ys : List Value} (k : Nat), (∀ (j : Nat) (v : Value), vs[j]? = some v → ∃ t, v = Value.int ((k + j : Nat) : Int) t) → Paired (fun (v y : Value) => ∀ (j : Nat) (t : Tok), v = Value.int ((j : Nat) : Int) t → ∃ t', y = Value.int (f j) t') vs ys →
    IntsAre ys ((List.range' k vs.length).map f)
  | [], _, _, _, .nil => .nil
  | v :: vs, _, k, hP, .cons (b := y) (l₂ := ys) h r => by
    obtain ⟨t, rfl⟩ := hP 0 v rfl
    obtain ⟨t', rfl⟩ := h k t (by simp)
    simp only [List.length_cons, List.range'_succ, List.map_cons]
    refine .cons _ _ (paired_ints (k + 1) (fun j v hv => ?_) r)
    obtain ⟨t, e⟩ := hP (j + 1) v (by simpa using hv)
    exact ⟨t, by rw [e, show k + (j + 1) = k + 1 + j by omega]⟩
theorem comp2 {p1 p2 p3 p4 p5 p6 p7 p8 p9 p10 p11 : Pos} {scope : Scope} {cl : List (PySem.Str × Addr)} {o1 o2 : Obj} {k : Nat} {t u v t2 : Tok} (hh : A.handled = none)
    (hk : ∀ C, (compEnvC scope cl C env).scope.kind = .function) (k1 : ∀ C, (compEnvC scope cl C env).kindOf (PySem.Str.ofString "group") = some .cell) (k2 : ∀ C, (compEnvC scope cl C env).kindOf (PySem.Str.ofString "size") = some .cell) (k3 : ∀ C, (compEnvC scope cl C env).kindOf (PySem.Str.ofString "at") = some .local)
    (l1 : cl.lookup (PySem.Str.ofString "group") = some c1) (l2 : cl.lookup (PySem.Str.ofString "size") = some c2)
    (F : Fr h₀ L s.heap m) (N : News h₀ L s.heap news) (m1 : (c1, o1) ∈ news) (m2 : (c2, o2) ∈ news) (ma : (a, W.listOf us.toArray k) ∈ news) (d1 : o1.data = .cell (some (.ref a))) (d2 : o2.data = .cell (some (.int (g.length : Int) t2))) (hus : IntsAre us g)
    (hlen : g.length ≤ 45) (hb : ∀ x ∈ g, 0 ≤ x ∧ x < 16) (hr : IsRange s.heap r 0 (g.length : Int) 1 t u v)
    (hQ : ∀ D h' tk ys n, Fr h₀ L h' m → News h₀ L h' ((D, W.listOf ys.toArray n) :: news) → (∀ p ∈ news, p.1 ≠ D) → IntsAre ys ((List.range g.length).map fun k => g.getD k 0 * 16 ^ (g.length - 1 - k)) → Q (.ref D) { s with heap := h', toks := tk }) :
    wpAny (model prog w) A (pyIter (.ref r)) (fun it s₂ => ∃ I fp wr n P St, it = .ref I ∧ Walks prog w A I fp wr n P St ∧ n ≤ sizeLine ∧ St 0 s₂.heap ∧ (∀ b ∈ fp, b < s₂.heap.objs.size) ∧
      QuietOnC prog w A env scope cl (PySem.Str.ofString "at") [] (elt2E p1 p2 p3 p4 p5 p6 p7 p8 p9 p10 p11) wr P (fun _ => true) (fun (v y : Value) => ∀ (j : Nat) (t : Tok), v = Value.int ((j : Nat) : Int) t → ∃ t', y = Value.int (g.getD j 0 * 16 ^ (g.length - 1 - j)) t') s₂ ∧
      (∀ D h' tk ys (vs : List Value), s₂.heap.get? D = none → h'.IsList D ys → h'.PlainList D ys → vs.length = n → (∀ j v, vs[j]? = some v → P j v) → Paired (fun (v y : Value) => ∀ (j : Nat) (t : Tok), v = Value.int ((j : Nat) : Int) t → ∃ t', y = Value.int (g.getD j 0 * 16 ^ (g.length - 1 - j)) t') (vs.filter fun _ => true) ys.toList →
        (∀ b o, b ∉ wr → s₂.heap.get? b = some o → h'.get? b = some o) → Q (.ref D) { s₂ with heap := h', toks := tk })) E s := by
  have hsm : Builtin.Range.small 0 (g.length : Int) 1 = true := small_one (by omega) (by omega) (by omega) (by omega)
  have hsz : Builtin.Range.rangeSize 0 (g.length : Int) 1 = ((g.length : Nat) : Int) := by
    have := rangeSize_nat 0 (g.length : Int)
    simpa using this
  refine wpAny_pyIter_range hr hsm ?_
  have Wk : Walks prog w A s.heap.objs.size [s.heap.objs.size] [s.heap.objs.size] g.length (fun i v => i < g.length ∧ ∃ t, v = .int (0 + i * 1) t)
      (fun i h => IsRangeIter h s.heap.objs.size (0 + (i : Nat) * 1) ((g.length : Int) - (i : Nat)) 1) := (Walks.range hh _ 0 1 g.length).bound
  have hI : ∀ p ∈ news, p.1 ∉ [s.heap.objs.size] := fun p hp hm => absurd (Heap.lt_size (N p hp).1) ((List.mem_singleton.mp hm) ▸ Nat.lt_irrefl _)
  refine ⟨_, _, _, g.length, _, _, rfl, Wk, by simp [sizeLine]; omega, (by show IsRangeIter _ _ _ _ _; rw [hsz]; simpa using Heap.get?_push_size _ rfl), ?_, ?_, ?_⟩
  · intro b hb
    rw [List.mem_singleton.mp hb]
    simp [Heap.size_push]
  · constructor
    · intro C i v s₃ m₃ E' _ hP hn hm hkp _
      exact wpAny_pure ⟨rfl, _, _, rfl, fun _ _ e => e⟩
    · rintro C i v s₃ m₃ E' _ ⟨hi, t9, rfl⟩ _ hn hm hkp _
      have get : ∀ {b o}, (b, o) ∈ news → s₃.heap.get? b = some o := fun {b o} hp => hkp b o (hI _ hp) (Heap.get?_push_of_some _ (N _ hp).1)
      refine wpAny_mono (elt2 (hk C) (k1 C) (k2 C) (k3 C) l1 l2 hn hm ⟨o1, get m1, d1⟩ ⟨o2, get m2, d2⟩ ⟨_, get ma, rfl, k, rfl⟩ hus (by omega) (by omega) hlen hb) ?_ fun _ _ e => e
      rintro y s₄ ⟨⟨t', rfl⟩, hkk⟩
      refine ⟨?_, hkk⟩
      intro j t hj
      have ej : (0 + (i : Int) * 1) = (j : Int) := by injection hj
      have ej' : i = j := by omega
      subst ej'
      exact ⟨t', by rw [show (0 + (i : Int) * 1).toNat = i by omega]⟩
  · intro D h' tk ys vs hD hl hpl hlen' hP hF hkp
    obtain ⟨n, hn⟩ := hpl
    have hLI : L ∉ [s.heap.objs.size] := fun hm => absurd F.ns.lt ((List.mem_singleton.mp hm) ▸ Nat.lt_irrefl _)
    have hI0 : h₀.get? s.heap.objs.size = none := next_is_new F
    have F' : Fr h₀ L h' m := ⟨F.ns.at' fun o e => hkp _ o hLI (Heap.get?_push_of_some _ e), fun b o e => hkp b o (fun hb => by rw [List.mem_singleton.mp hb, hI0] at e; cases e) (Heap.get?_push_of_some _ (F.keep b o e)), F.above⟩
    have hD' : ∀ o, s.heap.get? D = some o → False := fun o e => absurd ((Heap.get?_push_of_some _ e).symm.trans hD) (by simp)
    have hne : ∀ p ∈ news, p.1 ≠ D := fun p hp e => hD' p.2 (e ▸ (N p hp).1)
    have hDL : D ≠ L := fun e => by
      obtain ⟨o, es, ep, ho, _⟩ := F.ns
      exact hD' o (e ▸ ho)
    have hD0 : h₀.get? D = none := by
      cases q : h₀.get? D with
      | none => rfl
      | some o => exact (hD' o (F.keep D o q)).elim
    have ef : vs.filter (fun _ => true) = vs := by simp
    rw [ef] at hF
    refine hQ D h' tk ys.toList n F' ?_ hne ?_
    · intro p hp
      rcases List.mem_cons.mp hp with rfl | hp
      · exact ⟨hn, hDL, hD0⟩
      · exact ⟨hkp _ _ (hI p hp) (Heap.get?_push_of_some _ (N p hp).1), (N p hp).2⟩
    · have q := paired_ints (f := fun k => g.getD k 0 * 16 ^ (g.length - 1 - k)) 0 (vs := vs) (ys := ys.toList) (fun j v hv => by
        obtain ⟨_, t, e⟩ := hP j v hv
        exact ⟨t, by rw [e, show (0 : Int) + (j : Int) * 1 = ((0 + j : Nat) : Int) by omega]⟩) hF
      rw [hlen'] at q
      rw [List.range_eq_range']
      exact q
end

def Src2 (h₀ : Heap) (L : Addr) (m : PySem.Str → Option Value) (news : List (Addr × Obj)) (g : List Int) (Q : Value → Shared → Prop) (xv : Value) (s₁ : Shared) : Prop :=
  ∃ r t u v, xv = .ref r ∧ IsRange s₁.heap r 0 (g.length : Int) 1 t u v ∧ Fr h₀ L s₁.heap m ∧ News h₀ L s₁.heap news ∧
    ∀ D h' tk ys n, Fr h₀ L h' m → News h₀ L h' ((D, W.listOf ys.toArray n) :: news) → (∀ p ∈ news, p.1 ≠ D) → IntsAre ys ((List.range g.length).map fun k => g.getD k 0 * 16 ^ (g.length - 1 - k)) → Q (.ref D) { s₁ with heap := h', toks := tk }
section
variable {prog : Program} {w : World} {A : Around} {E : Value → Shared → Prop} {s : Shared} {env : Env} {h₀ : Heap} {L c1 c2 a r : Addr} {news : List (Addr × Obj)} {us : List Value} {g : List Int} {m : PySem.Str → Option Value} {Q : Value → Shared → Prop}
theorem listcomp2 {p1 p2 p3 p4 p5 p6 p7 p8 p9 p10 p11 px pos : Pos} {iter : PySem.Expr} {scope : Scope} {cl : List (PySem.Str × Addr)} {o1 o2 : Obj} {k : Nat} {t2 : Tok} (F0u : Fr h₀ L s.heap m) (N0u : News h₀ L s.heap news) (hh : A.handled = none)
    (hclos : closureFor scope env = pure cl) (hcell : ∀ y ∈ scope.names, y.2 ≠ .cell) (hkind : scope.kind = .function)
    (hnames : ∀ y ∈ scope.names, y.2 = .local → scope.names.lookup y.1 = some .local) (hx : scope.names.lookup (PySem.Str.ofString "at") = some .local)
    (hk : ∀ C, (compEnvC scope cl C env).scope.kind = .function) (k1 : ∀ C, (compEnvC scope cl C env).kindOf (PySem.Str.ofString "group") = some .cell) (k2 : ∀ C, (compEnvC scope cl C env).kindOf (PySem.Str.ofString "size") = some .cell) (k3 : ∀ C, (compEnvC scope cl C env).kindOf (PySem.Str.ofString "at") = some .local)
    (l1 : cl.lookup (PySem.Str.ofString "group") = some c1) (l2 : cl.lookup (PySem.Str.ofString "size") = some c2)
    (m1 : (c1, o1) ∈ news) (m2 : (c2, o2) ∈ news) (ma : (a, W.listOf us.toArray k) ∈ news) (d1 : o1.data = .cell (some (.ref a))) (d2 : o2.data = .cell (some (.int (g.length : Int) t2))) (hus : IntsAre us g)
    (hlen : g.length ≤ 45) (hb : ∀ x ∈ g, 0 ≤ x ∧ x < 16) (hs : ∀ x, foldedSetIterable iter env x = pure x)
    (h : wpAny (model prog w) A (eval iter env) (Src2 h₀ L m news g Q) E s) :
    wpAny (model prog w) A (eval (.ListComp (elt2E p1 p2 p3 p4 p5 p6 p7 p8 p9 p10 p11) [⟨.Name (PySem.Str.ofString "at") px, iter, [], 0⟩] scope pos) env) Q E s := by
  refine wpAny_ListComp_free (fun _ => true) (fun (v y : Value) => ∀ (j : Nat) (t : Tok), v = Value.int ((j : Nat) : Int) t → ∃ t', y = Value.int (g.getD j 0 * 16 ^ (g.length - 1 - j)) t') hclos hcell hkind hnames hx ?_ hs
  refine wpAny_mono h ?_ fun _ _ e => e
  rintro xv s₁ ⟨r, t, u, v, rfl, hr, F, N, hQ⟩
  exact comp2 hh hk k1 k2 k3 l1 l2 F N m1 m2 ma d1 d2 hus hlen hb hr hQ
end
section
variable {M : Model} {A : Around} {E : Value → Shared → Prop} {s : Shared} {env : Env} {h₀ : Heap} {L c1 c2 I due a e : Addr} {ox o oI od o2 oa : Obj} {base tl2 : List (Addr × Obj)} {m : PySem.Str → Option Value} {x : PySem.Str} {v : Value} {v2 : Option Value}
theorem store_size {Q : Unit → Shared → Prop} (hkf : env.scope.kind = .function) (hkx : env.kindOf x = some .cell) (hc : env.cells.lookup x = some c2) (F : Fr h₀ L s.heap m)
    (N : News h₀ L s.heap ((e, ox) :: (c1, o) :: (I, oI) :: (due, od) :: (c2, o2) :: (a, oa) :: (base ++ tl2))) (hd2 : o2.data = .cell v2) (hc12 : c1 ≠ c2) (hcI2 : c2 ≠ I) (hdc : due ≠ c2) (hab : (a, oa) ∈ base) (hof : OwnOff (base ++ tl2) [c1, I, due, c2])
    (h : ∀ h' o2', o2'.data = .cell (some v) → Fr h₀ L h' m → News h₀ L h' ((c1, o) :: (I, oI) :: (due, od) :: (c2, o2') :: (a, oa) :: (base ++ tl2)) → Q () { s with heap := h' }) : wpAny M A (storeName env x v) Q E s := by
  have z := N (c2, o2) (by simp)
  refine wpAny_storeName_cell hkf hkx hc ⟨o2, z.1, hd2⟩ fun h' hv hs => ?_
  obtain ⟨o', ho', hd'⟩ := hv
  refine h h' o' hd' ⟨F.ns.sameBut hs (Ne.symm z.2.1), fun b ob e => (hs.2 b (fun q => by rw [q, z.2.2] at e; cases e)).trans (F.keep b ob e), F.above⟩ ?_
  have keep : ∀ p ∈ ((e, ox) :: (c1, o) :: (I, oI) :: (due, od) :: (c2, o2) :: (a, oa) :: (base ++ tl2)), p.1 ≠ c2 → h'.get? p.1 = some p.2 ∧ p.1 ≠ L ∧ h₀.get? p.1 = none := fun p hp hne => ⟨(hs.2 p.1 hne).trans (N p hp).1, (N p hp).2⟩
  intro p hp
  have h4 : c2 ∈ [c1, I, due, c2] := by simp
  simp only [List.mem_cons] at hp
  rcases hp with rfl | rfl | rfl | rfl | rfl | hp
  · exact keep _ (by simp) hc12
  · exact keep _ (by simp) hcI2.symm
  · exact keep _ (by simp) hdc
  · exact ⟨ho', z.2⟩
  · exact keep _ (by simp) (hof _ (List.mem_append_left _ hab) _ h4)
  · exact keep _ (by simp only [List.mem_cons]; grind) (hof _ hp _ h4)
end

theorem dueOf_snoc (gs : List (List Int)) (g : List Int) : dueOf (gs ++ [g]) = dueOf gs ++ (if g = [] then [] else [dueD g]) := by
  unfold dueOf
  rw [List.filter_append, List.map_append]
  by_cases h : g = []
  · simp [h]
  · simp [h]
theorem take_snocG {gs : List (List Int)} {i : Nat} {g : List Int} (h : gs[i]? = some g) : gs.take (i + 1) = gs.take i ++ [g] := by
  rw [List.take_add_one, h]; rfl

section
variable {h₀ : Heap} {L c1 c2 I due a e : Addr} {ox o oI o2 oa : Obj} {base tl2 : List (Addr × Obj)} {m m' : PySem.Str → Option Value} {dvs : List Value} {dn tk i : Nat} {gs : List (List Int)} {g : List Int} {text : PySem.Str} {h' : Heap} {s₁ : Shared} {Q : Flow → Shared → Prop} {v2 : Option Value} {ov : Option Value} {tt : Tok}
theorem end2a (hg : gs[i]? = some g) (hg0 : g = []) (hdd : DatAll tl2 dvs (dueOf (gs.take i))) (ho : o.data = .cell ov) (ho2 : o2.data = .cell v2)
    (hcd : c1 ≠ due) (hc12 : c1 ≠ c2) (hdI : due ≠ I) (hdc : due ≠ c2) (hcI2 : c2 ≠ I) (hof : OwnOff (base ++ tl2) [c1, I, due, c2])
    (F : Fr h₀ L h' m') (N : News h₀ L h' ((e, ox) :: (c1, o) :: (I, oI) :: (due, W.listOf dvs.toArray dn) :: (c2, o2) :: (a, oa) :: (base ++ tl2)))
    (md : m' (PySem.Str.ofString "due") = some (.ref due)) (mt : m' (PySem.Str.ofString "text") = some (.str text tt)) :
    ForCPost h₀ L c1 I oI (J2 due c2 base gs text (i + 1)) s₁ Q .next { s₁ with heap := h', toks := tk } := by
  refine ⟨h', tk, m', o, ov, (due, W.listOf dvs.toArray dn) :: (c2, o2) :: (base ++ tl2), rfl, F, News.perm N ?_, ho, ?_, ?_, tt, dvs, dn, o2, v2, tl2, rfl, ho2, ?_, md, mt, hdc, ?_⟩
  · intro p hp
    simp only [List.mem_cons] at hp ⊢
    grind
  · intro p hp
    simp only [List.mem_cons] at hp
    rcases hp with rfl | rfl | hp
    · exact hcd.symm
    · exact hc12.symm
    · exact hof p hp _ (by simp)
  · intro p hp
    simp only [List.mem_cons] at hp
    rcases hp with rfl | rfl | hp
    · exact hdI
    · exact hcI2
    · exact hof p hp _ (by simp)
  · rw [take_snocG hg, dueOf_snoc, if_pos hg0, List.append_nil]
    exact hdd
  · intro p hp b hb
    exact hof p hp b (by simp only [List.mem_cons, List.not_mem_nil, or_false] at hb ⊢; grind)
theorem end2b {tp : Addr} {t1 t2 : Tok} {n : Nat} (hg : gs[i]? = some g) (hg0 : g ≠ []) (hdd : DatAll tl2 dvs (dueOf (gs.take i))) (ho : o.data = .cell ov) (ho2 : o2.data = .cell v2)
    (hcd : c1 ≠ due) (hc12 : c1 ≠ c2) (hdI : due ≠ I) (hdc : due ≠ c2) (hcI2 : c2 ≠ I) (hof : OwnOff (base ++ tl2) [c1, I, due, c2])
    (h1 : c1 < tp) (hI : I < tp) (hd : due < tp) (h2 : c2 < tp)
    (F : Fr h₀ L h' m') (N : News h₀ L h' ((due, W.listOf (dvs.toArray.push (.ref tp)) (dn + 1)) :: (tp, ({ cls := .type "tuple", data := .seq [Value.int (g.length : Int) t1, Value.int (worth g) t2].toArray n } : Obj)) :: (c1, o) :: (I, oI) :: (c2, o2) :: (base ++ tl2)))
    (md : m' (PySem.Str.ofString "due") = some (.ref due)) (mt : m' (PySem.Str.ofString "text") = some (.str text tt)) :
    ForCPost h₀ L c1 I oI (J2 due c2 base gs text (i + 1)) s₁ Q .next { s₁ with heap := h', toks := tk } := by
  refine ⟨h', tk, m', o, ov, (due, W.listOf (dvs.toArray.push (.ref tp)) (dn + 1)) :: (c2, o2) :: (base ++ ((tp, ({ cls := .type "tuple", data := .seq [Value.int (g.length : Int) t1, Value.int (worth g) t2].toArray n } : Obj)) :: tl2)), rfl, F, News.perm N ?_, ho, ?_, ?_, tt, dvs ++ [.ref tp], dn + 1, o2, v2, (tp, ({ cls := .type "tuple", data := .seq [Value.int (g.length : Int) t1, Value.int (worth g) t2].toArray n } : Obj)) :: tl2, by simp, ho2, ?_, md, mt, hdc, ?_⟩
  · intro p hp
    simp only [List.mem_cons, List.mem_append] at hp ⊢
    grind
  · intro p hp
    simp only [List.mem_cons, List.mem_append] at hp
    rcases hp with rfl | rfl | hp | rfl | hp
    · exact hcd.symm
    · exact hc12.symm
    · exact hof p (List.mem_append_left _ hp) _ (by simp)
    · exact Nat.ne_of_gt h1
    · exact hof p (List.mem_append_right _ hp) _ (by simp)
  · intro p hp
    simp only [List.mem_cons, List.mem_append] at hp
    rcases hp with rfl | rfl | hp | rfl | hp
    · exact hdI
    · exact hcI2
    · exact hof p (List.mem_append_left _ hp) _ (by simp)
    · exact Nat.ne_of_gt hI
    · exact hof p (List.mem_append_right _ hp) _ (by simp)
  · rw [take_snocG hg, dueOf_snoc, if_neg hg0]
    refine DatAll.append (hdd.mono fun p hp => .tail _ hp) (.one (.tuple (.head _) (.cons (.int _ _) (.cons (.int _ _) .nil))))
  · intro p hp b hb
    simp only [List.mem_cons, List.not_mem_nil, or_false] at hb
    simp only [List.mem_cons, List.mem_append] at hp
    rcases hp with hp | rfl | hp
    · exact hof p (List.mem_append_left _ hp) b (by simp only [List.mem_cons]; grind)
    · rcases hb with rfl | rfl
      · exact Nat.ne_of_gt hd
      · exact Nat.ne_of_gt h2
    · exact hof p (List.mem_append_right _ hp) b (by simp only [List.mem_cons]; grind)
end

section
variable {prog : Program} {w : World} {A : Around} {E : Value → Shared → Prop} {s : Shared} {h₀ : Heap} {L c1 c2 I due a tp D : Addr} {ot oD o oI o2 oa : Obj} {base tl2 : List (Addr × Obj)} {m : PySem.Str → Option Value} {its : Array Value} {n : Nat} {x : Value} {Q : Value → Shared → Prop} {P : Prop}
theorem append_due (F : Fr h₀ L s.heap m) (N : News h₀ L s.heap ((tp, ot) :: (D, oD) :: (c1, o) :: (I, oI) :: (due, W.listOf its n) :: (c2, o2) :: (a, oa) :: (base ++ tl2)))
    (hlt : D < tp ∧ c1 < tp ∧ I < tp ∧ due < tp ∧ c2 < tp ∧ P) (hcd : c1 ≠ due) (hdI : due ≠ I) (hdc : due ≠ c2) (hof : OwnOff (base ++ tl2) [c1, I, due, c2]) (hsz : its.size ≤ sizeLine)
    (h : ∀ h', Fr h₀ L h' m → News h₀ L h' ((due, W.listOf (its.push x) (n + 1)) :: (tp, ot) :: (c1, o) :: (I, oI) :: (c2, o2) :: (base ++ tl2)) → Q .none { s with heap := h' }) :
    wpAny (model prog w) A (call (.builtin "list.append") [.ref due, x]) Q E s := by
  refine append_K F (News.perm N (news' := (due, W.listOf its n) :: (tp, ot) :: (c1, o) :: (I, oI) :: (c2, o2) :: (base ++ tl2)) ?_) (Upd.head ?_) h hsz
  · intro p hp
    simp only [List.mem_cons] at hp ⊢
    grind
  · intro p hp
    simp only [List.mem_cons] at hp
    rcases hp with rfl | rfl | rfl | rfl | hp
    · exact Nat.ne_of_gt hlt.2.2.2.1
    · exact hcd
    · exact hdI.symm
    · exact hdc.symm
    · exact hof p hp _ (by simp)
end
end Mine

namespace Mine
section
variable {prog : Program} {w : World} {A : Around} {E : Value → Shared → Prop} {s : Shared} {env : Env} {h₀ : Heap} {x : PySem.Str} {body : List Stmt} {Q : Flow → Shared → Prop}
theorem text_iter {xt : PySem.Str} {tx : Tok} {m₀ : PySem.Str → Option Value} {news : List (Addr × Obj)} (J : Nat → (PySem.Str → Option Value) → List (Addr × Obj) → Prop)
    (hh : A.handled = none) (F : Fr h₀ env.locals s.heap m₀) (N : News h₀ env.locals s.heap news) (hj : J 0 m₀ news)
    (turn : ∀ i c u m₁ nx h tk own, xt.cps[i]? = some c → OwnOff own (nx.map (·.1)) → J i m₁ nx → Fr h₀ env.locals h (fun y => if y = x then some (.str ⟨#[c]⟩ u) else m₁ y) → News h₀ env.locals h (nx ++ own) →
      wpAny (model prog w) A (execs body env) (InvPostG h₀ env.locals (J (i + 1)) own { s with heap := h, toks := tk } Q) E { s with heap := h, toks := tk })
    (done : ∀ m₁ nx h tk, J xt.cps.size m₁ nx → Fr h₀ env.locals h m₁ → News h₀ env.locals h nx → Q .next { s with heap := h, toks := tk }) :
    wpAny (model prog w) A (pyIter (.str xt tx)) (fun it s₂ => LoopAtV prog w A h₀ env x body Q E it s₂) E s := by
  have key : ∀ (o : Obj) (ty : String), Walks prog w A s.heap.objs.size [s.heap.objs.size] [s.heap.objs.size] xt.cps.size (SignAt xt) (fun i h => h.IsStrIter s.heap.objs.size ty xt tx i) → (s.heap.push o).IsStrIter s.heap.objs.size ty xt tx 0 →
      LoopAtV prog w A h₀ env x body Q E (.ref s.heap.objs.size) { s with heap := s.heap.push o } := by
    intro o ty Wk hst
    refine kdr_loop J Wk (fun _ h => h) (fun _ h => h) ?_ ?_ ?_ ?_ hst (F.push _) (fun p hp => ⟨Heap.get?_push_of_some _ (N p hp).1, (N p hp).2⟩) hj ?_ ?_
    · rintro i h ⟨o, ho, _⟩ b hb
      rw [List.mem_singleton.mp hb]
      exact ⟨o, ho⟩
    · intro hm
      exact absurd F.ns.lt ((List.mem_singleton.mp hm) ▸ Nat.lt_irrefl _)
    · intro b hb
      rw [List.mem_singleton.mp hb]
      exact next_is_new F
    · intro p hp hI
      exact absurd (Heap.lt_size (N p hp).1) ((List.mem_singleton.mp hI) ▸ Nat.lt_irrefl _)
    · rintro i v m₁ nx h tk own hi ⟨c, u, hc, rfl⟩ hoff hJ F₁ N₁
      exact turn i c u m₁ nx h tk own hc hoff hJ F₁ N₁
    · intro m₁ nx h tk hJ F₁ N₁
      exact done m₁ nx h tk hJ F₁ N₁
  cases ha : xt.cps.all (· < 128)
  · exact wpAny_pyIter_wide ha (key _ _ (Walks.strWide hh _ xt tx) ⟨_, Heap.get?_push_size _ rfl, rfl, rfl⟩)
  · exact wpAny_pyIter_ascii ha (key _ _ (Walks.strAscii hh _ xt tx) ⟨_, Heap.get?_push_size _ rfl, rfl, rfl⟩)
end

def isD (c : Nat) : Bool := decide (48 ≤ c) && decide (c ≤ 57)
def isX (c : Nat) : Bool := isD c || (decide (65 ≤ c) && decide (c ≤ 70)) || (decide (97 ≤ c) && decide (c ≤ 102))
def step3 (st : List (Int × Int) × Int × Int) (c : Nat) : List (Int × Int) × Int × Int :=
  if isX c then
    if isD c then (st.1, st.2.1 + 1, st.2.2 * 16 + ((c % 32 : Nat) : Int) - 16) else (st.1, st.2.1 + 1, st.2.2 * 16 + ((c % 32 : Nat) : Int) + 9)
  else if 0 < st.2.1 then (st.1 ++ [(st.2.1, st.2.2)], 0, 0) else st
def st3 (l : List Nat) : List (Int × Int) × Int × Int := l.foldl step3 ([], 0, 0)
def datP (p : Int × Int) : Dat := .tuple [.int p.1, .int p.2]
theorem st3_snoc (l : List Nat) (c : Nat) : st3 (l ++ [c]) = step3 (st3 l) c := by simp [st3, List.foldl_append]
theorem st3_len (l : List Nat) : (st3 l).1.length ≤ l.length := by
  suffices H : ∀ (l : List Nat) (st : List (Int × Int) × Int × Int), (l.foldl step3 st).1.length ≤ st.1.length + l.length by
    simpa [st3] using H l ([], 0, 0)
  intro l
  induction l with
  | nil => intro st; simp
  | cons c r ih =>
    intro st
    have h1 : (step3 st c).1.length ≤ st.1.length + 1 := by
      unfold step3
      repeat' split
      all_goals simp
    have h2 := ih (step3 st c)
    simp only [List.foldl_cons, List.length_cons]
    omega

def J3 (nu : Addr) (cst : List (Addr × Obj)) (cs : List Nat) (i : Nat) (m : PySem.Str → Option Value) (nx : List (Addr × Obj)) : Prop :=
  ∃ (t1 t2 : Tok) (nvs : List Value) (nn : Nat) (tl : List (Addr × Obj)),
    nx = (nu, W.listOf nvs.toArray nn) :: (cst ++ tl) ∧ DatAll tl nvs ((st3 (cs.take i)).1.map datP) ∧ m (PySem.Str.ofString "numbers") = some (.ref nu) ∧
    m (PySem.Str.ofString "count") = some (.int (st3 (cs.take i)).2.1 t1) ∧ m (PySem.Str.ofString "worth") = some (.int (st3 (cs.take i)).2.2 t2) ∧ OwnOff (cst ++ tl) [nu]
theorem fr_three {h₀ h : Heap} {L : Addr} {m : PySem.Str → Option Value} {x a b c : PySem.Str} {v va vb vc : Value} (F : Fr h₀ L h (fun y => if y = x then some v else m y)) (ha : m a = some va) (hb : m b = some vb) (hc : m c = some vc) :
    Fr h₀ L h (fun y => if y = x then some v else if y = a then some va else if y = b then some vb else if y = c then some vc else m y) := by
  have e : (fun y => if y = x then some v else m y) = (fun y => if y = x then some v else if y = a then some va else if y = b then some vb else if y = c then some vc else m y) := by
    funext y
    by_cases h1 : y = x
    · simp [h1]
    · by_cases h2 : y = a
      · subst h2; simp [h1, ha]
      · by_cases h3 : y = b
        · subst h3; simp [h1, h2, hb]
        · by_cases h4 : y = c
          · subst h4; simp [h1, h2, h3, hc]
          · simp [h1, h2, h3, h4]
  rw [← e]; exact F
section
variable {prog : Program} {w : World} {A : Around} {E : Value → Shared → Prop} {s : Shared} {env : Env} {h₀ : Heap} {x : PySem.Str} {body : List Stmt} {Q : Flow → Shared → Prop}
theorem loop3 {xt : PySem.Str} {tx : Tok} {m₀ : PySem.Str → Option Value} {nu : Addr} {cst : List (Addr × Obj)} {t1₀ t2₀ : Tok}
    (hh : A.handled = none) (F : Fr h₀ env.locals s.heap m₀) (N : News h₀ env.locals s.heap ((nu, W.listOf #[] 0) :: cst)) (hlen : xt.length ≤ 46)
    (h1 : m₀ (PySem.Str.ofString "numbers") = some (.ref nu)) (h2 : m₀ (PySem.Str.ofString "count") = some (.int 0 t1₀)) (h3 : m₀ (PySem.Str.ofString "worth") = some (.int 0 t2₀)) (hoff : OwnOff cst [nu])
    (turn : ∀ (i c : Nat) (u t1 t2 : Tok) (nvs : List Value) (nn : Nat) (tl own : List (Addr × Obj)) (m₁ : PySem.Str → Option Value) (h : Heap) (tk : Nat) (cnt wor : Int),
      xt.cps[i]? = some c → (st3 (xt.cps.toList.take i)).2.1 = cnt → (st3 (xt.cps.toList.take i)).2.2 = wor → DatAll tl nvs ((st3 (xt.cps.toList.take i)).1.map datP) → OwnOff (cst ++ tl) [nu] → OwnOff own (((nu, W.listOf nvs.toArray nn) :: (cst ++ tl)).map (·.1)) → nvs.length ≤ 46 →
      Fr h₀ env.locals h (fun y => if y = x then some (.str ⟨#[c]⟩ u) else if y = PySem.Str.ofString "numbers" then some (.ref nu) else if y = PySem.Str.ofString "count" then some (.int cnt t1) else if y = PySem.Str.ofString "worth" then some (.int wor t2) else m₁ y) →
      News h₀ env.locals h ((nu, W.listOf nvs.toArray nn) :: (cst ++ (tl ++ own))) →
      wpAny (model prog w) A (execs body env) (InvPostG h₀ env.locals (J3 nu cst xt.cps.toList (i + 1)) own { s with heap := h, toks := tk } Q) E { s with heap := h, toks := tk })
    (done : ∀ (nvs : List Value) (nn : Nat) (tl : List (Addr × Obj)) (m₁ : PySem.Str → Option Value) (h : Heap) (tk : Nat),
      DatAll tl nvs ((st3 xt.cps.toList).1.map datP) → OwnOff (cst ++ tl) [nu] →
      Fr h₀ env.locals h (fun y => if y = PySem.Str.ofString "numbers" then some (.ref nu) else m₁ y) →
      News h₀ env.locals h ((nu, W.listOf nvs.toArray nn) :: (cst ++ tl)) → Q .next { s with heap := h, toks := tk }) :
    wpAny (model prog w) A (pyIter (.str xt tx)) (fun it s₂ => LoopAtV prog w A h₀ env x body Q E it s₂) E s := by
  refine text_iter (J3 nu cst xt.cps.toList) hh F N ?_ ?_ ?_
  · exact ⟨t1₀, t2₀, [], 0, [], by simp, .nil, h1, h2, h3, by simpa using hoff⟩
  · rintro i c u m₁ nx h tk own hc hown ⟨t1, t2, nvs, nn, tl, rfl, hd, e1, e2, e3, hof⟩ F₁ N₁
    have l1 := st3_len (xt.cps.toList.take i)
    have l2 : (xt.cps.toList.take i).length ≤ 46 := by
      rw [List.length_take, Array.length_toList]; have : xt.cps.size ≤ 46 := hlen; omega
    refine turn i c u t1 t2 nvs nn tl own m₁ h tk _ _ hc rfl rfl hd hof hown ?_ (fr_three F₁ e1 e2 e3) ?_
    · rw [hd.length, List.length_map]; omega
    · simpa using N₁
  · rintro m₁ nx h tk ⟨t1, t2, nvs, nn, tl, rfl, hd, e1, e2, e3, hof⟩ F₁ N₁
    have e : xt.cps.toList.take xt.cps.size = xt.cps.toList := by rw [← Array.length_toList, List.take_length]
    rw [e] at hd
    refine done nvs nn tl m₁ h tk hd hof ?_ N₁
    have e : m₁ = (fun y => if y = PySem.Str.ofString "numbers" then some (.ref nu) else m₁ y) := by
      funext y
      by_cases h2 : y = PySem.Str.ofString "numbers"
      · subst h2; simp [e1]
      · simp [h2]
    rw [← e]; exact F₁
end

section
variable {prog : Program} {w : World} {A : Around} {E : Value → Shared → Prop} {s : Shared}
theorem chr_and {c : Nat} {t : Tok} {Q : Value → Shared → Prop} (h : Q (.str ⟨#[c % 32]⟩ s.toks) { s with toks := s.toks + 1 }) :
    wpAny (model prog w) A (call (.builtin "chr") [.int (Builtin.bitAnd (c : Int) 31) t]) Q E s := by
  rw [bitAnd_m5]
  refine chr_of_range (by omega) (by omega) ?_
  rw [show ((c : Int) % 32).toNat = c % 32 by omega]
  exact h
end
theorem step3_d {st : List (Int × Int) × Int × Int} {c : Nat} (h1 : 48 ≤ c) (h2 : c ≤ 57) : step3 st c = (st.1, st.2.1 + 1, st.2.2 * 16 + ((c % 32 : Nat) : Int) - 16) := by
  have : isD c = true := by simp [isD, h1, h2]
  simp [step3, isX, this]
theorem step3_x {st : List (Int × Int) × Int × Int} {c : Nat} (h : (65 ≤ c ∧ c ≤ 70) ∨ (97 ≤ c ∧ c ≤ 102)) : step3 st c = (st.1, st.2.1 + 1, st.2.2 * 16 + ((c % 32 : Nat) : Int) + 9) := by
  have h1 : isD c = false := by simp [isD]; omega
  have h2 : isX c = true := by simp [isX, h1]; omega
  simp [step3, h1, h2]
theorem isX_no {c : Nat} (h1 : ¬ (48 ≤ c ∧ c ≤ 57)) (h2 : ¬ (65 ≤ c ∧ c ≤ 70)) (h3 : ¬ (97 ≤ c ∧ c ≤ 102)) : isX c = false := by
  have h4 : isD c = false := by simp [isD]; omega
  simp [isX, h4]; omega
theorem step3_n {st : List (Int × Int) × Int × Int} {c : Nat} (h1 : ¬ (48 ≤ c ∧ c ≤ 57)) (h2 : ¬ (65 ≤ c ∧ c ≤ 70)) (h3 : ¬ (97 ≤ c ∧ c ≤ 102)) (h : 0 < st.2.1) : step3 st c = (st.1 ++ [(st.2.1, st.2.2)], 0, 0) := by
  simp [step3, isX_no h1 h2 h3, h]
theorem step3_z {st : List (Int × Int) × Int × Int} {c : Nat} (h1 : ¬ (48 ≤ c ∧ c ≤ 57)) (h2 : ¬ (65 ≤ c ∧ c ≤ 70)) (h3 : ¬ (97 ≤ c ∧ c ≤ 102)) (h : ¬ 0 < st.2.1) : step3 st c = st := by
  simp [step3, isX_no h1 h2 h3, h]
theorem take_snocN {cs : List Nat} {i c : Nat} (h : cs[i]? = some c) : cs.take (i + 1) = cs.take i ++ [c] := by
  rw [List.take_add_one, h]; rfl

section
variable {h₀ : Heap} {L nu : Addr} {cst tl own : List (Addr × Obj)} {nvs : List Value} {xt : PySem.Str} {i c nn tk : Nat} {m' : PySem.Str → Option Value} {h' : Heap} {s₁ : Shared} {t1 t2 : Tok} {cnt' wor' : Int}
theorem end3a (hc : xt.cps[i]? = some c) (hnd : DatAll tl nvs ((st3 (xt.cps.toList.take i)).1.map datP)) (hof : OwnOff (cst ++ tl) [nu]) (hown : OwnOff own (((nu, W.listOf nvs.toArray nn) :: (cst ++ tl)).map (·.1)))
    (F : Fr h₀ L h' m') (N : News h₀ L h' ((nu, W.listOf nvs.toArray nn) :: (cst ++ (tl ++ own))))
    (e1 : m' (PySem.Str.ofString "numbers") = some (.ref nu)) (e2 : m' (PySem.Str.ofString "count") = some (.int cnt' t1)) (e3 : m' (PySem.Str.ofString "worth") = some (.int wor' t2))
    (hst : step3 (st3 (xt.cps.toList.take i)) c = ((st3 (xt.cps.toList.take i)).1, cnt', wor')) :
    InvEndG h₀ L (J3 nu cst xt.cps.toList (i + 1)) own s₁ { s₁ with heap := h', toks := tk } := by
  have hc' : xt.cps.toList[i]? = some c := by simpa using hc
  refine InvEndG.intro F N (nx := (nu, W.listOf nvs.toArray nn) :: (cst ++ tl)) ⟨t1, t2, nvs, nn, tl, rfl, ?_, e1, ?_, ?_, hof⟩ hown ?_ ?_
  · rw [take_snocN hc', st3_snoc, hst]; exact hnd
  · rw [take_snocN hc', st3_snoc, hst]; exact e2
  · rw [take_snocN hc', st3_snoc, hst]; exact e3
  · intro p hp
    simp only [List.mem_cons, List.mem_append] at hp ⊢
    grind
  · intro p hp
    simp only [List.mem_cons, List.mem_append]
    grind
theorem end3b {tp : Addr} {cnt wor : Int} {ta tb : Tok} {n : Nat} (hc : xt.cps[i]? = some c) (hnd : DatAll tl nvs ((st3 (xt.cps.toList.take i)).1.map datP)) (hof : OwnOff (cst ++ tl) [nu]) (hown : OwnOff own (((nu, W.listOf nvs.toArray nn) :: (cst ++ tl)).map (·.1)))
    (hlt : nu < tp ∧ AllLt tp (cst ++ (tl ++ own)))
    (F : Fr h₀ L h' m') (N : News h₀ L h' ((tp, ({ cls := .type "tuple", data := .seq [Value.int cnt ta, Value.int wor tb].toArray n } : Obj)) :: (nu, W.listOf (nvs.toArray.push (.ref tp)) (nn + 1)) :: (cst ++ (tl ++ own))))
    (e1 : m' (PySem.Str.ofString "numbers") = some (.ref nu)) (e2 : m' (PySem.Str.ofString "count") = some (.int 0 t1)) (e3 : m' (PySem.Str.ofString "worth") = some (.int 0 t2))
    (hst : step3 (st3 (xt.cps.toList.take i)) c = ((st3 (xt.cps.toList.take i)).1 ++ [(cnt, wor)], 0, 0)) :
    InvEndG h₀ L (J3 nu cst xt.cps.toList (i + 1)) own s₁ { s₁ with heap := h', toks := tk } := by
  have hc' : xt.cps.toList[i]? = some c := by simpa using hc
  have hl := tb_ltOf (l := (nu, W.listOf nvs.toArray nn) :: (cst ++ (tl ++ own))) hlt
  refine InvEndG.intro F N (nx := (nu, W.listOf (nvs.toArray.push (.ref tp)) (nn + 1)) :: (cst ++ ((tp, ({ cls := .type "tuple", data := .seq [Value.int cnt ta, Value.int wor tb].toArray n } : Obj)) :: tl)))
    ⟨t1, t2, nvs ++ [.ref tp], nn + 1, (tp, ({ cls := .type "tuple", data := .seq [Value.int cnt ta, Value.int wor tb].toArray n } : Obj)) :: tl, by simp, ?_, e1, ?_, ?_, ?_⟩ ?_ ?_ ?_
  · rw [take_snocN hc', st3_snoc, hst, List.map_append]
    exact DatAll.append (hnd.mono fun p hp => .tail _ hp) (.one (.tuple (.head _) (.cons (.int _ _) (.cons (.int _ _) .nil))))
  · rw [take_snocN hc', st3_snoc, hst]; exact e2
  · rw [take_snocN hc', st3_snoc, hst]; exact e3
  · intro p hp b hb
    rw [List.mem_singleton.mp hb]
    simp only [List.mem_cons, List.mem_append] at hp
    rcases hp with hp | rfl | hp
    · exact hof p (List.mem_append_left _ hp) _ (.head _)
    · exact Nat.ne_of_gt hlt.1
    · exact hof p (List.mem_append_right _ hp) _ (.head _)
  · intro p hp b hb
    have hlp : p.1 < tp := hl p (by simp [hp])
    have hofp := hown p hp
    simp only [List.map_cons, List.map_append, List.mem_cons, List.mem_append] at hofp hb
    rcases hb with rfl | hb | rfl | hb
    · exact hofp _ (.inl rfl)
    · exact hofp _ (.inr (.inl hb))
    · exact Nat.ne_of_lt hlp
    · exact hofp _ (.inr (.inr hb))
  · intro p hp
    simp only [List.mem_cons, List.mem_append] at hp ⊢
    grind
  · intro p hp
    simp only [List.mem_cons, List.mem_append]
    grind
end
theorem off_nu {nu : Addr} {cst tl own : List (Addr × Obj)} {o : Obj} (hof : OwnOff (cst ++ tl) [nu]) (hown : OwnOff own (((nu, o) :: (cst ++ tl)).map (·.1))) : ∀ p ∈ cst ++ (tl ++ own), p.1 ≠ nu := by
  intro p hp
  rw [← List.append_assoc, List.mem_append] at hp
  rcases hp with hp | hp
  · exact hof p hp _ (.head _)
  · exact hown p hp _ (.head _)
end Mine

namespace Mine
theorem sum_map_mul (f : Nat → Int) (c : Int) : ∀ l : List Nat, (l.map fun k => f k * c).sum = (l.map f).sum * c
  | [] => by simp
  | k :: r => by simp only [List.map_cons, List.sum_cons]; rw [sum_map_mul f c r, Int.add_mul]
theorem worth_snoc (g : List Int) (x : Int) : worth (g ++ [x]) = worth g * 16 + x := by
  unfold worth
  rw [List.length_append, List.length_singleton, List.range_succ, List.map_append, List.sum_append]
  have e : (List.range g.length).map (fun k => (g ++ [x]).getD k 0 * 16 ^ (g.length + 1 - 1 - k)) = (List.range g.length).map (fun k => (g.getD k 0 * 16 ^ (g.length - 1 - k)) * 16) := by
    refine List.map_congr_left fun k hk => ?_
    have hk' : k < g.length := List.mem_range.mp hk
    have e1 : (g ++ [x]).getD k 0 = g.getD k 0 := by
      rw [List.getD_eq_getElem?_getD, List.getD_eq_getElem?_getD, List.getElem?_append_left hk']
    rw [e1, show g.length + 1 - 1 - k = (g.length - 1 - k) + 1 by omega, Int.pow_succ, Int.mul_assoc]
  rw [e, sum_map_mul]
  simp
theorem worth_nil : worth [] = 0 := rfl

def dueP (gs : List (List Int)) : List (Int × Int) := (gs.filter fun g => g != []).map fun g => ((g.length : Int), worth g)
theorem dueP_snoc (gs : List (List Int)) (g : List Int) : dueP (gs ++ [g]) = dueP gs ++ (if g = [] then [] else [((g.length : Int), worth g)]) := by
  unfold dueP
  rw [List.filter_append, List.map_append]
  by_cases h : g = []
  · simp [h]
  · simp [h]
theorem menu_facts : ∀ k : Nat, k < 40 →
    (k < 16 → isX (menuC.getD k 0) = true ∧ (if isD (menuC.getD k 0) then (((menuC.getD k 0) % 32 : Nat) : Int) - 16 else (((menuC.getD k 0) % 32 : Nat) : Int) + 9) = (k : Int)) ∧
    (¬ k < 16 → k < 22 → isX (menuC.getD k 0) = true ∧ (if isD (menuC.getD k 0) then (((menuC.getD k 0) % 32 : Nat) : Int) - 16 else (((menuC.getD k 0) % 32 : Nat) : Int) + 9) = (k : Int) - 6) ∧
    (¬ k < 22 → isX (menuC.getD k 0) = false) := by decide +kernel
theorem step3_pos {st : List (Int × Int) × Int × Int} {c : Nat} {v : Int} (h : isX c = true) (hv : (if isD c then ((c % 32 : Nat) : Int) - 16 else ((c % 32 : Nat) : Int) + 9) = v) : step3 st c = (st.1, st.2.1 + 1, st.2.2 * 16 + v) := by
  unfold step3
  rw [if_pos h]
  by_cases hd : isD c = true
  · rw [if_pos hd] at hv ⊢
    rw [← hv, Int.add_sub_assoc]
  · rw [if_neg hd] at hv ⊢
    rw [← hv, Int.add_assoc]
theorem step3_sep (D : List (List Int)) (g : List Int) {c : Nat} (h : isX c = false) : step3 (dueP D, (g.length : Int), worth g) c = (dueP (D ++ [g]), 0, 0) := by
  unfold step3
  rw [if_neg (by simp [h]), dueP_snoc]
  by_cases hg : g = []
  · subst hg; simp [worth_nil]
  · simp [hg]
theorem st3_st1 (l : List Int) : st3 (l.map sgn) = (dueP (st1 l).1, ((st1 l).2.length : Int), worth (st1 l).2) := by
  suffices H : ∀ (l : List Int) (D : List (List Int)) (g : List Int), (l.map sgn).foldl step3 (dueP D, (g.length : Int), worth g) = (dueP (l.foldl step1 (D, g)).1, ((l.foldl step1 (D, g)).2.length : Int), worth (l.foldl step1 (D, g)).2) from H l [] []
  intro l
  induction l with
  | nil => intro D g; rfl
  | cons n r ih =>
    intro D g
    simp only [List.map_cons, List.foldl_cons]
    have h0 : 0 ≤ n % 40 := Int.emod_nonneg _ (by decide)
    have h1 : n % 40 < 40 := Int.emod_lt_of_pos _ (by decide)
    obtain ⟨a, b, c⟩ := menu_facts (n % 40).toNat (by omega)
    have e : (((n % 40).toNat : Nat) : Int) = n % 40 := Int.toNat_of_nonneg h0
    rw [e] at a b
    by_cases q1 : n % 40 < 16
    · obtain ⟨x1, x2⟩ := a (by omega)
      have s1 : step1 (D, g) n = (D, g ++ [n % 40]) := by simp [step1, q1]
      rw [s1, show sgn n = menuC.getD (n % 40).toNat 0 from rfl, step3_pos x1 x2, ← ih]
      simp only [List.length_append, List.length_singleton, worth_snoc]
      rfl
    · by_cases q2 : n % 40 < 22
      · obtain ⟨x1, x2⟩ := b (by omega) (by omega)
        have s1 : step1 (D, g) n = (D, g ++ [n % 40 - 6]) := by simp [step1, q1, q2]
        rw [s1, show sgn n = menuC.getD (n % 40).toNat 0 from rfl, step3_pos x1 x2, ← ih]
        simp only [List.length_append, List.length_singleton, worth_snoc]
        rfl
      · have x1 := c (by omega)
        have s1 : step1 (D, g) n = (D ++ [g], []) := by simp [step1, q1, q2]
        rw [s1, show sgn n = menuC.getD (n % 40).toNat 0 from rfl, step3_sep D g x1, ← ih]
        rfl
theorem law_plain (ns : List Int) : (st3 (textOf ns ++ PySem.Str.ofString " ").cps.toList).1.map datP = dueOf (gsOf ns) := by
  have e : (textOf ns ++ PySem.Str.ofString " ").cps.toList = ns.map sgn ++ [32] := by
    rw [PySem.Str.cps_append, Array.toList_append]
    have e2 : (PySem.Str.ofString " ").cps.toList = [32] := by decide
    rw [e2]
    simp [textOf]
  rw [e, st3_snoc, st3_st1, step3_sep _ _ (by decide)]
  unfold dueOf dueP gsOf
  rw [List.map_map]
  rfl

section
variable {prog : Program} {w : World} {A : Around} {E : Value → Shared → Prop} {s : Shared} {h₀ : Heap} {L nu due : Addr} {tl2 tl : List (Addr × Obj)} {nvs dvs : List Value} {ns : List Int} {nn dn : Nat} {Q : Value → Shared → Prop}
theorem law_eq (N : News h₀ L s.heap ((nu, W.listOf nvs.toArray nn) :: ((due, W.listOf dvs.toArray dn) :: tl2 ++ tl)))
    (hnd : DatAll tl nvs ((st3 (textOf ns ++ PySem.Str.ofString " ").cps.toList).1.map datP)) (hdd : DatAll tl2 dvs (dueOf (gsOf ns))) (hu : A.units + 64 < cLine) (h : Q (.bool true) s) :
    wpAny (model prog w) A (compareOp .Eq (.ref nu) (.ref due)) Q E s := by
  have ok : ∀ d ∈ dueOf (gsOf ns), kqdOk 8 d = true := by
    intro d hd
    unfold dueOf at hd
    obtain ⟨x, _, rfl⟩ := List.mem_map.mp hd
    rfl
  rw [law_plain] at hnd
  refine kqd_eq (n₁ := tl) (n₂ := tl2) (xs := nvs) (ys := dvs) N (.head _) rfl rfl hnd (fun p hp => ?_) (.tail _ (.head _)) rfl rfl hdd (fun p hp => ?_) ok ok hu ?_
  · simp only [List.mem_cons, List.cons_append, List.mem_append]; grind
  · simp only [List.mem_cons, List.cons_append, List.mem_append]; grind
  · simpa using h
end
end Mine

open Mine
local macro_rules | `(tactic| walk_at "exec For Name Subscript cons nil") => `(tactic| (refine halt ?_))
local macro_rules | `(tactic| walk_at "exec For Name Name cons nil") => `(tactic| (refine halt ?_))
local macro_rules | `(tactic| walk_at "exec For Name BinOp cons nil") => `(tactic| (refine halt ?_))
local macro_rules | `(tactic| walk_at "pyIter ref") => `(tactic| (refine halt ?_))
local macro_rules | `(tactic| walk_at "pyIter str") => `(tactic| (refine halt ?_))
local macro_rules | `(tactic| walk_at "call builtin:list.append") => `(tactic| (refine halt ?_))
local macro_rules | `(tactic| walk_at "subscriptTail Name UnaryOp ref int") => `(tactic| (k_dflt (refine' last_item ?k1 ?k2 ?k3 ?_ ?k4; (case k1 => k_asm); (case k2 => k_mem); (case k3 => assumption); (case k4 => with_unfolding_all rfl))))
local macro_rules | `(tactic| walk_at "InvEndG") => `(tactic| (refine halt ?_))
local macro_rules | `(tactic| walk_at "compareOp NotEq ref ref") => `(tactic| (refine halt ?_))
local macro_rules | `(tactic| walk_at "storeName") => `(tactic| ((with_reducible show wpAny _ _ (storeName _ (PySem.Str.ofString "size") _) _ _ _); refine halt ?_))
local macro_rules | `(tactic| walk_at "eval ListComp") => `(tactic| (refine halt ?_))
local macro_rules | `(tactic| walk_at "ForCPost") => `(tactic| (refine halt ?_))
local macro_rules | `(tactic| walk_at "call builtin:chr") => `(tactic| (k_dflt (refine chr_and ?_)))
local macro_rules | `(tactic| walk_at "compareOp Eq ref ref") => `(tactic| (refine halt ?_))
set_option maxRecDepth 100000 in
set_option maxHeartbeats 8000000 in
theorem PySem.Challenge.cw_dm0037_01_holds : PySem.Challenge.rw_dm0037_01.Holds := by
  w_on
  o_law
  k_head
  case hw => w_witness2
  k_go0
  all_goals try k_fold
  k_steps
  refine unhalt ?_
  rename Fr _ _ _ _ => F0
  rename News _ _ _ _ => N0
  refine' For_invVF F0 ?k1 ?k2 ?_
  case k1 => exact rfl
  case k2 => exact rfl
  k_steps
  (try clear F0 N0)
  refine unhalt ?_
  rename Fr _ _ _ _ => F0
  rename News _ _ _ _ => N0
  rename IntsAre _ _ => I0
  rename (_ = min _ _) => hmin
  refine loop1 rfl rfl F0 N0 I0 ?len rfl rfl ?ne ?off ?turn ?done
  case len => omega
  case ne => (refine neN ?_; omega)
  case off => (intro p hp b hb; simp only [List.mem_cons, List.not_mem_nil, or_false] at hp hb; (rcases hp with rfl | rfl | rfl) <;> (rcases hb with rfl | rfl) <;> (refine neN ?_; (try dsimp only); omega))
  case turn =>
    clear F0 N0
    intro i n t tt gvs cvs cur gn cn tl own m₁ h tk hn hci hgd hGc hoff hofc hown lg lc lt F1 N1
    (try k_fold)
    k_steps
    · refine unhalt ?_
      refine append_K (by k_asm) (by k_asm) (Upd.tail hGc (Upd.head (off_cur hoff hown))) ?_ (by simp [sizeLine]; omega)
      intro h' F' N'
      k_steps
      refine unhalt ?_
      refine end1a (.head _) hn hci hgd hGc hoff hofc hown (step1_lo (by assumption)) F' N' rfl (item_menu n) rfl
    · refine unhalt ?_
      refine append_K (by k_asm) (by k_asm) (Upd.tail hGc (Upd.head (off_cur hoff hown))) ?_ (by simp [sizeLine]; omega)
      intro h' F' N'
      k_steps
      refine unhalt ?_
      refine end1a (.head _) hn hci hgd hGc hoff hofc hown (step1_mid (by assumption) (by assumption)) F' N' rfl (item_menu n) rfl
    · refine unhalt ?_
      rename (_ < _ ∧ _ < _ ∧ AllLt _ _) => hlt
      refine append_K (by k_asm) (by k_asm) (Upd.tail (neN (Nat.ne_of_gt hlt.1)) (Upd.head ?_)) ?_ (by simp [sizeLine]; omega)
      · intro p hp
        rcases List.mem_cons.mp hp with rfl | hp
        · exact hGc.symm
        · exact off_G hoff hown p hp
      intro h' F' N'
      k_steps
      refine unhalt ?_
      exact end1b (.head _) hn hci hgd hGc hoff hofc hown (step1_hi (by assumption) (by assumption)) (lt3 hlt) F' N' rfl (item_menu n) rfl
  case done =>
    clear F0 N0
    intro tt gvs cvs cur gn cn tl m₁ h tk hci hgd hGc hoff hofc lg lc lt F1 N1
    k_steps
    refine unhalt ?_
    refine wpAny_For ?_ (by intro _; rfl)
    k_steps
    refine unhalt ?_
    rename Fr _ _ _ _ => F2
    rename News _ _ _ _ => N2
    rename (_ < _ ∧ _ < _ ∧ AllLt _ _) => hlt
    refine loop2 rfl rfl rfl rfl ?hE F2 N2 ?len hci hgd (by assumption) (by assumption) rfl rfl hlt hoff ?c12 ?d1 ?d2 hofc ?turn2 ?done2
    case hE => passes_own
    case len => omega
    case c12 => (refine neN ?_; omega)
    case d1 => (refine neN ?_; (try dsimp only); omega)
    case d2 => (refine neN ?_; (try dsimp only); omega)
    case turn2 =>
      clear F2 N2 hgd hci hoff hofc hlt
      intro base i g a us k tt dvs dn o o2 v2 tl2 I oI m h tk hg hab hus hgl hgb hdl hdd ho ho2 hcI hcd hc12 hdI hdc hcI2 hof F3 N3
      (try k_fold)
      k_steps
      refine unhalt ?_
      by_cases hg0 : g = []
      · refine ne_nil_neg (by k_asm) (by k_mem) hus (by k_mem) (by ke_room) hg0 ?_
        k_steps
        refine unhalt ?_
        rename Fr _ _ _ _ => F4
        rename News _ _ _ _ => N4
        exact end2a hg hg0 hdd ho ho2 hcd hc12 hdI hdc hcI2 hof F4 N4 rfl rfl
      · refine ne_nil_pos (by k_asm) (by k_mem) hus (by k_mem) (by ke_room) hg0 ?_
        k_steps
        refine unhalt ?_
        rename Fr _ _ _ _ => F4
        rename News _ _ _ _ => N4
        refine store_size rfl rfl rfl F4 N4 ho2 hc12 hcI2 hdc hab hof ?_
        clear F4 N4
        intro h5 o2' ho2' F5 N5
        k_steps
        refine unhalt ?_
        refine' listcomp2 (o1 := o) (o2 := o2') (us := us) (g := g) F5 N5 ?x0 ?y1 ?y2 ?y3 ?y4 ?y5 ?x1 ?x2 ?x3 ?x4 ?x5 ?x6 ?x9 ?x10 ?x11 ?x12 ?x13 hus hgl hgb ?y6 ?_
        case x0 => rfl
        case y1 => with_unfolding_all rfl
        case y2 => decide
        case y3 => rfl
        case y4 => decide
        case y5 => rfl
        case x1 => exact fun C => rfl
        case x2 => exact fun C => rfl
        case x3 => exact fun C => rfl
        case x4 => exact fun C => rfl
        case x5 => rfl
        case x6 => rfl
        case y6 => exact fun _ => rfl
        case x9 => exact .head _
        case x10 => exact .tail _ (.tail _ (.tail _ (.head _)))
        case x11 => exact .tail _ (.tail _ (.tail _ (.tail _ (.head _))))
        case x12 => exact ho
        case x13 => exact ho2'
        k_steps
        rename Fr _ _ _ _ => F6
        rename News _ _ _ _ => N6
        rename IsRange _ _ _ _ _ _ _ _ => hr6
        refine ⟨_, _, _, _, rfl, hr6, F6, N6, ?_⟩
        clear F6 N6 hr6
        intro D h7 tk7 ys n7 F7 N7 hD7 hys
        k_steps
        refine unhalt ?_
        rename Fr _ _ _ _ => F8
        rename News _ _ _ _ => N8
        rename (_ < _ ∧ _ < _ ∧ _ < _ ∧ _ < _ ∧ _ < _ ∧ _) => hlt8
        refine append_due F8 N8 hlt8 hcd hdI hdc hof (by simp [sizeLine]; omega) ?_
        clear F8 N8
        intro h9 F9 N9
        k_steps
        refine unhalt ?_
        exact end2b hg hg0 hdd ho ho2' hcd hc12 hdI hdc hcI2 hof hlt8.2.1 hlt8.2.2.1 hlt8.2.2.2.1 hlt8.2.2.2.2.1 F9 N9 rfl rfl
    case done2 =>
      clear F2 N2 hgd hci hoff hofc hlt hGc lg lc lt I0
      intro tt dvs dn tl2 m h tk hdd htl hne F3 N3
      k_steps
      refine unhalt ?_
      rename Fr _ _ _ _ => F4
      refine' For_invVF F4 ?k1 ?k2 ?_
      case k1 => exact rfl
      case k2 => exact rfl
      k_steps
      refine unhalt ?_
      rename Fr _ _ _ _ => F5
      rename News _ _ _ _ => N5
      refine loop3 rfl F5 N5 ?len rfl rfl rfl ?off ?turn3 ?done3
      case len =>
        rename (_ ∧ _ ≤ _) => hab5
        have h1 : (PySem.Str.ofString " ").length = 1 := by decide
        have h2 := hab5.2
        omega
      case off =>
        rename (_ < _ ∧ AllLt _ _) => hlt5
        intro p hp b hb
        rw [List.mem_singleton.mp hb]
        exact Nat.ne_of_lt (tb_ltOf (l := (_, W.listOf dvs.toArray dn) :: tl2) hlt5 p hp)
      case turn3 => 
        clear F5 N5
        intro i c u t1 t2 nvs nn tl own m₁ h tk cnt wor hc hcnt hwor hnd hof hown hnl F6 N6
        (try k_fold)
        k_steps
        all_goals refine unhalt ?_
        all_goals rename Fr _ _ _ _ => F7
        all_goals rename News _ _ _ _ => N7
        all_goals try (refine end3a hc hnd hof hown F7 N7 rfl rfl rfl ?_; first
          | (rw [step3_d (by omega) (by omega), hcnt, hwor]; done)
          | (rw [step3_x (by omega), hcnt, hwor]; done)
          | (rw [step3_z (by omega) (by omega) (by omega) (by omega), ← hcnt, ← hwor]; done))
        all_goals rename (_ < _ ∧ AllLt _ _) => hlt7
        all_goals refine append_K F7 N7 (Upd.tail (neN (Nat.ne_of_gt hlt7.1)) (Upd.head (off_nu hof hown))) ?_ (by simp [sizeLine]; omega)
        all_goals clear F7 N7
        all_goals intro h8 F8 N8
        all_goals k_steps
        all_goals refine unhalt ?_
        all_goals rename Fr _ _ _ _ => F9
        all_goals rename News _ _ _ _ => N9
        all_goals refine end3b hc hnd hof hown hlt7 F9 N9 rfl rfl rfl ?_
        all_goals rw [step3_n (by omega) (by omega) (by omega) (by omega), hcnt, hwor]
      case done3 =>
        clear F5 N5
        intro nvs nn tl m₁ h tk hnd hof F6 N6
        k_steps
        refine unhalt ?_
        rename News _ _ _ _ => N7
        refine law_eq N7 hnd hdd (by ke_room) ?_
        k_steps
