import PyProof.Rows.All
import Wide.All
import OpenK.AllK
import Wide.FinOn
import PySem.Challenge.RW_nb0048_01
open PySem PySem.W PyProof.Rows
set_option Elab.async false
set_option maxRecDepth 100000

namespace Mine
set_option maxHeartbeats 8000000 in
open_top hd for PySem.Challenge.rw_nb0048_01
end Mine

section
open PySem PySem.W PyProof.Rows PySem.Calls
set_option maxRecDepth 100000
set_option maxHeartbeats 8000000
namespace Mine

/-- what a call of the def at f upon vs does: it ends, gives r, keeps the ledger and lays tl behind it -/
def Says (w : World) (mean : ExcName → Option Value) (mg mb : Str → Option Value) (f : Addr) (vs : List Value) (dep un₀ : Nat) (news : List (Addr × Obj)) (Out : List (Addr × Obj) → Value → Prop) : Prop :=
  ∀ (dp un : Nat) (gd : Option (List Code)) (cn : Str) (cs : Scope) (a : Addr) (ccd : Value) (cl : List (Str × Addr)) (outer : List Env) (A₀ : Around) (base h₀ : Heap) (L : Addr) (m : Str → Option Value) (s : Shared) (Q E : Value → Shared → Prop),
    Below A₀ base outer h₀ → Fr h₀ L s.heap m → (Mine.hd.heap_39 w.params).In h₀ → News h₀ L s.heap news → Top Mine.hd.view_39 (looseW Mine.hd.view_39 []) mean mg mb h₀ → cs.kind = .function → dp + dep < recursionLimit → un + un₀ < cLine →
    (∀ r tl h' tk', Fr h₀ L h' m → News h₀ L h' (news ++ tl) → (∀ q ∈ news, ∀ p ∈ tl, q.1 < p.1) → Out tl r → Q r { s with heap := h', toks := tk' }) →
    wpAny (model PySem.Challenge.rw_nb0048_01.row.prog w) (ktrTop dp un gd cn cs L a ccd cl outer) (call (.ref f) vs) Q E s

abbrev prD (p : Str × Str) : Dat := .tuple [.str p.1, .str p.2]

/-- the address holds the sign -/
def bad (y : Str) : Bool := !(Builtin.Str.occurrences y (Str.ofString "[") 0 y.length 1).isEmpty
def clean (p : Str × Str) : Str × Str := if bad p.2 = true then (Str.ofString "", Str.ofString "") else p

theorem pin {m : Str → Option Value} {x : Str} {v : Value} (h : m x = some v) : m = fun y => if y = x then some v else m y := by
  funext y
  split
  · rename_i e; rw [e]; exact h
  · rfl

section
variable {prog : Program} {w : World} {A : Around} {E : Value → Shared → Prop} {s : Shared} {h₀ h : Heap} {L D : Addr} {m : Str → Option Value} {l l' rest : List (Addr × Obj)}
theorem news_sub (N : News h₀ L h l) (hs : ∀ p ∈ l', p ∈ l) : News h₀ L h l' := fun p hp => N p (hs p hp)
theorem news_same {a : Addr} {o o' : Obj} (N : News h₀ L h l) (h1 : (a, o) ∈ l) (h2 : (a, o') ∈ l) : o = o' :=
  Option.some.inj ((N _ h1).1.symm.trans (N _ h2).1)
theorem news_ne {a b : Addr} {o o' : Obj} (N : News h₀ L h l) (h1 : (a, o) ∈ l) (h2 : (b, o') ∈ l) (hne : o.cls ≠ o'.cls) : a ≠ b := by
  rintro rfl
  exact hne (congrArg Obj.cls (news_same N h1 h2))

theorem app_ {us : List Value} {c : Nat} {x : Value} {Q : Value → Shared → Prop} (F : Fr h₀ L s.heap m) (N : News h₀ L s.heap l) (hin : ∀ p ∈ (D, listOf us.toArray c) :: rest, p ∈ l) (hoff : ∀ p ∈ rest, p.1 ≠ D)
    (hsz : us.length ≤ sizeLine)
    (h : ∀ h', Fr h₀ L h' m → News h₀ L h' ((D, listOf (us ++ [x]).toArray (c + 1)) :: rest) → Q .none { s with heap := h' }) : wpAny (model prog w) A (call (.builtin "list.append") [.ref D, x]) Q E s := by
  refine append_K F (news_sub N hin) (Upd.head hoff) (fun h' F' N' => h h' F' ?_) (by rw [List.size_toArray]; exact hsz)
  rwa [List.push_toArray] at N'
end
theorem lenL {prog : Program} {w : World} {A : Around} {E : Value → Shared → Prop} {s : Shared} {h₀ : Heap} {L l : Addr} {news : List (Addr × Obj)} {us : List Value} {c k : Nat} {Q : Value → Shared → Prop} (N : News h₀ L s.heap news) (hm : (l, listOf us.toArray c) ∈ news) (hk : us.length = k) (hb : k < 4096)
    (h : Q (.int (k : Int) (s.toks + 1)) { s with toks := s.toks + 1 + 1 }) : wpAny (model prog w) A (call (.builtin "len") [.ref l]) Q E s := by
  have hl : s.heap.IsList l us.toArray := ⟨_, (N _ hm).1, rfl, c, rfl⟩
  have e : us.toArray.size = k := by rw [List.size_toArray, hk]
  exact len_list hl (by rw [e]; omega) (by rw [e]; exact h)
theorem name_head {h₀ h : Heap} {L a : Addr} {o : Obj} {r : List (Addr × Obj)} (N : News h₀ L h ((a, o) :: r)) : ∃ o', o' = o ∧ News h₀ L h ((a, o') :: r) := ⟨o, rfl, N⟩
theorem mem_swap {α : Type} {a b : α} {r : List α} : ∀ p ∈ a :: b :: r, p ∈ b :: a :: r := fun p hp => by
  rcases List.mem_cons.mp hp with rfl | hp
  · exact .tail _ (.head _)
  · rcases List.mem_cons.mp hp with rfl | hp
    · exact .head _
    · exact .tail _ (.tail _ hp)
theorem pairs_open {news : List (Addr × Obj)} {v : Value} {p : Str × Str} (h : DatIn news v (prD p)) : ∃ a t u n, v = .ref a ∧ (a, ({ cls := .type "tuple", data := .seq #[.str p.1 t, .str p.2 u] n } : Obj)) ∈ news := by
  cases h with
  | tuple hm r =>
    cases r with
    | cons r1 r =>
      cases r with
      | cons r2 r =>
        cases r with
        | nil =>
          cases r1
          cases r2
          exact ⟨_, _, _, _, rfl, hm⟩
end Mine
end

section
open PySem PySem.W PyProof.Rows PySem.Calls
set_option maxRecDepth 100000
set_option maxHeartbeats 8000000
namespace Mine
theorem fill1 : (PySem.Challenge.rw_nb0048_01 = PySem.Challenge.rw_nb0048_01) ∧ (Mine.hd.heap_39 = Mine.hd.heap_39) := by w_top off; k_fill; exact ⟨rfl, rfl⟩

theorem ppv {w : World} {mean : ExcName → Option Value} {mg mb : Str → Option Value} {news : List (Addr × Obj)} {x : Addr} {vs : List Value} {n : Nat} {ds : List (Str × Str)}
    (hx : (x, listOf vs.toArray n) ∈ news) (hD : DatAll news vs (ds.map prD)) (h64 : vs.length < 64) : Says w mean mg mb 21 [.ref x] 4 64 news (fun tl r => ∃ D us c, r = .ref D ∧ (D, listOf us.toArray c) ∈ tl ∧ DatAll (news ++ tl) us (ds.map fun p => prD (clean p))) := by
  unfold Says
  intro dp un gd cn cs a ccd cl outer A₀ base h₀ L m s Q E B F X N T hk hd hu hret
  refine wpAny_call ?_
  k_dflt ktr_enter
  k_steps
  rename Fr _ _ _ _ => F1
  rename News _ _ _ _ => N1
  rename (∀ p ∈ news, p.1 < _) => lt1
  rename_i gg LL hh0 FG BB XX TT D hh1 hh2
  refine For_invVF F1 (by rfl) (by rfl) ?_
  refine ld F1 (by rfl) ?_
  refine kdl_iter (fun i m' nx => ∃ us c tl, nx = (D, listOf us.toArray c) :: (news ++ tl) ∧ (∀ p ∈ news ++ tl, p.1 ≠ D) ∧ (∀ q ∈ news, ∀ p ∈ tl, q.1 < p.1) ∧ DatAll (news ++ tl) us ((ds.take i).map fun p => prD (clean p)) ∧ m' (Str.ofString "accepted_values") = some (.ref D))
    rfl (List.mem_cons_of_mem _ hx) F1 N1 ⟨[], 0, [], by rw [List.append_nil], ?_, ?_, ?_, rfl⟩ ?_ ?_
  · intro p hp
    rw [List.append_nil] at hp
    exact Nat.ne_of_lt (lt1 p hp)
  · intro q _ p hp
    exact absurd hp List.not_mem_nil
  · exact DatAll.nil
  · rintro i v m₁ news₁ h tk own hv hoff hl₁ ⟨us, c, tl, rfl, hne, hlt, hdat, hacc⟩ F₁ N₁
    have hil : i < vs.length := (List.getElem?_eq_some_iff.mp hv).1
    have hid : i < ds.length := by have := hD.length; rw [List.length_map] at this; omega
    obtain ⟨ve, hve, hdv⟩ := hD.get (k := i) (by rw [← hD.length]; exact hil)
    rw [hv] at hve
    obtain rfl := Option.some.inj hve
    rw [List.getElem_map] at hdv
    obtain ⟨q, t, u, k, rfl, hm⟩ := pairs_open hdv
    rw [pin hacc] at F₁
    clear F1 N1 F N
    have kdm := kdMark
    have hus : us.length ≤ sizeLine := by
      have h1 := hdat.length
      rw [List.length_map, List.length_take] at h1
      rw [sizeLine_eq]; omega
    have hrest : ∀ p ∈ (news ++ tl) ++ own, p.1 ≠ D := by
      intro p hp
      rcases List.mem_append.mp hp with hp | hp
      · exact hne p hp
      · exact hoff p hp D (List.mem_map.mpr ⟨_, List.mem_cons_self, rfl⟩)
    have htake : (ds.take (i + 1)).map (fun p => prD (clean p)) = (ds.take i).map (fun p => prD (clean p)) ++ [prD (clean ds[i])] := by
      rw [List.take_add_one, List.getElem?_eq_getElem hid, List.map_append]; rfl
    k_steps
    · rename (_ = true) => hb
      have hcl : clean ds[i] = ds[i] := by unfold clean bad; rw [hb]; rfl
      rename Fr _ _ _ _ => F2
      rename News _ _ _ _ => N2
      refine InvEndG.intro (nx := (D, listOf (us ++ [Value.ref q]).toArray (c + 1)) :: (news ++ tl)) F2 N2 ⟨.tail _ (List.mem_append.mpr (.inl hx)), us ++ [Value.ref q], c + 1, tl, rfl, hne, hlt, ?_, rfl⟩ ?_ ?_ ?_
      · rw [htake, hcl]
        exact hdat.append (DatAll.one (hdv.mono fun p hp => List.mem_append.mpr (.inl hp)))
      · exact hoff
      · intro p hp
        rw [← List.push_toArray] at hp
        rcases List.mem_cons.mp hp with rfl | hp
        · exact .head _
        · exact .tail _ (List.mem_append.mpr (.inl hp))
      · exact fun p hp => .tail _ (List.mem_append.mpr (.inr hp))
    · rename (_ = false) => hb
      have hcl : clean ds[i] = (Str.ofString "", Str.ofString "") := by unfold clean bad; rw [hb]; rfl
      rename Fr _ _ _ _ => F2
      rename News _ _ _ _ => N2
      rename (∀ p ∈ (D, _) :: (news ++ tl) ++ own, p.1 < _) => lt2
      rename_i tk2 D2 hh3 F4 N4 hh4
      obtain ⟨oT, eT, N2⟩ := name_head N2
      have dT : ∀ l, (D2, oT) ∈ l → DatIn l (.ref D2) (prD (Str.ofString "", Str.ofString "")) := fun l hl => by
        subst eT
        exact DatIn.tuple (vs := [_, _]) hl (.cons (.str _ _) (.cons (.str _ _) .nil))
      have hD2 : ∀ p ∈ news ++ tl, p.1 < D2 := fun p hp => lt2 p (List.mem_append.mpr (.inl (.tail _ hp)))
      have hDD : D2 ≠ D := Nat.ne_of_gt (lt2 _ (List.mem_append.mpr (.inl (.head _))))
      refine app_ (us := us) (c := c) F2 N2 mem_swap ?_ hus (fun h' F3 N3 => ?_)
      · intro p hp
        rcases List.mem_cons.mp hp with rfl | hp
        · exact hDD
        · exact hrest p hp
      clear F2 N2 F4 N4
      k_steps
      rename Fr _ _ _ _ => F5
      rename News _ _ _ _ => N5
      refine InvEndG.intro (nx := (D, listOf (us ++ [Value.ref D2]).toArray (c + 1)) :: (news ++ (tl ++ [(D2, oT)]))) F5 N5 ⟨.tail _ (List.mem_append.mpr (.inl hx)), us ++ [Value.ref D2], c + 1, tl ++ [(D2, oT)], rfl, ?_, ?_, ?_, rfl⟩ ?_ ?_ ?_
      · intro p hp
        rw [← List.append_assoc] at hp
        rcases List.mem_append.mp hp with hp | hp
        · exact hne p hp
        · rw [List.mem_singleton.mp hp]; exact hDD
      · intro p hp r hr
        rcases List.mem_append.mp hr with hr | hr
        · exact hlt p hp r hr
        · rw [List.mem_singleton.mp hr]; exact hD2 p (List.mem_append.mpr (.inl hp))
      · rw [htake, hcl, ← List.append_assoc]
        refine (hdat.mono fun p hp => List.mem_append.mpr (.inl hp)).append (DatAll.one ?_)
        exact dT _ (List.mem_append.mpr (.inr (.head _)))
      · intro p hp b hb
        obtain ⟨r, hr, rfl⟩ := List.mem_map.mp hb
        rw [← List.append_assoc] at hr
        rcases List.mem_cons.mp hr with rfl | hr
        · exact hoff p hp D (List.mem_map.mpr ⟨_, List.mem_cons_self, rfl⟩)
        · rcases List.mem_append.mp hr with hr | hr
          · exact hoff p hp r.1 (List.mem_map.mpr ⟨r, .tail _ hr, rfl⟩)
          · rw [List.mem_singleton.mp hr]; exact Nat.ne_of_lt (lt2 p (List.mem_append.mpr (.inr hp)))
      · intro p hp
        rw [← List.append_assoc] at hp
        rcases List.mem_cons.mp hp with rfl | hp
        · exact .head _
        · rcases List.mem_append.mp hp with hp | hp
          · exact .tail _ (.tail _ (List.mem_append.mpr (.inl hp)))
          · rw [List.mem_singleton.mp hp]; exact .tail _ (.head _)
      · exact fun p hp => .tail _ (.tail _ (List.mem_append.mpr (.inr hp)))
  · rintro m₁ news₁ h tk ⟨us, c, tl, rfl, hne, hlt, hdat, hacc⟩ F₁ N₁
    rw [pin hacc] at F₁
    clear F1 N1 F N
    dsimp only
    k_steps
    rename Fr h₀ L _ _ => F2
    rename News h₀ L _ _ => N2
    refine hret _ (tl ++ [(D, listOf us.toArray c)]) _ _ F2 (news_sub N2 ?_) ?_ ⟨D, us, c, rfl, List.mem_append.mpr (.inr (.head _)), ?_⟩
    · intro p hp
      rw [← List.append_assoc] at hp
      rcases List.mem_append.mp hp with hp | hp
      · exact .tail _ hp
      · rw [List.mem_singleton.mp hp]; exact .head _
    · intro q hq p hp
      rcases List.mem_append.mp hp with hp | hp
      · exact hlt q hq p hp
      · rw [List.mem_singleton.mp hp]; exact lt1 q hq
    · have h1 := hD.length
      rw [List.length_map] at h1
      rw [h1, List.take_length] at hdat
      rw [← List.append_assoc]
      exact hdat.mono fun p hp => List.mem_append.mpr (.inl hp)
end Mine
end

section
open PySem PySem.W PyProof.Rows PySem.Calls
namespace Mine
/-- the tree of a sort, run by a plain order -/
def runT {α : Type} (f : Nat → Nat) : KasT α → α
  | .ret a => a
  | .ask i j k => runT f (k (decide (f i < f j)))
theorem runT_bind {α β : Type} (f : Nat → Nat) (g : α → KasT β) : ∀ t : KasT α, runT f (t.bind g) = runT f (g (runT f t))
  | .ret _ => rfl
  | .ask i j k => runT_bind f g (k (decide (f i < f j)))
/-- every leaf has P, every question is in range -/
def goodT {α : Type} (n : Nat) (P : α → Prop) : KasT α → Prop
  | .ret a => P a
  | .ask i j k => i < n ∧ j < n ∧ ∀ b, goodT n P (k b)
theorem goodT_bind {α β : Type} {n : Nat} {P : α → Prop} {R : β → Prop} {g : α → KasT β} (hg : ∀ a, P a → goodT n R (g a)) : ∀ t : KasT α, goodT n P t → goodT n R (t.bind g)
  | .ret a, h => hg a h
  | .ask _ _ k, h => ⟨h.1, h.2.1, fun b => goodT_bind hg (k b) (h.2.2 b)⟩
theorem kasWp_run {α : Type} {n : Nat} {P : α → Prop} {f : Nat → Nat} {cmp : Nat → Nat → (Bool → Shared → Prop) → Shared → Prop} {G : α → Shared → Prop} {s : Shared}
    (hc : ∀ i j C, i < n → j < n → C (decide (f i < f j)) s → cmp i j C s) : ∀ t : KasT α, goodT n P t → G (runT f t) s → t.kasWp cmp G s
  | .ret _, _, h => h
  | .ask i j k, g, h => hc i j _ g.1 g.2.1 (kasWp_run hc (k _) (g.2.2 _) h)

def InR (n : Nat) (p : Array Nat) : Prop := ∀ x ∈ p.toList, x < n
theorem InR.get {n : Nat} {p : Array Nat} (h : InR n p) (hn : 0 < n) (k : Nat) : p.getD k 0 < n := by
  unfold Array.getD
  split
  · rename_i hk
    exact h _ (by simp)
  · exact hn
theorem InR.perm {n : Nat} {p q : Array Nat} (h : InR n p) (hp : q.Perm p) : InR n q := fun x hx => h x ((Array.perm_iff_toList_perm.mp hp).mem_iff.mp hx)
theorem rev_perm (p : Array Nat) (i j : Nat) : (kas_rev p i j).Perm p := mirror_perm _ _ _ _

theorem good_asc {n : Nat} {p : Array Nat} (hn : 0 < n) (h : InR n p) : ∀ (f k : Nat), goodT n (fun _ => True) (kas_asc p f k)
  | 0, _ => trivial
  | f + 1, k => ⟨h.get hn _, h.get hn _, fun b => by cases b <;> simp only [if_true, if_false, Bool.false_eq_true]; exact good_asc hn h f (k + 1); trivial⟩
theorem good_desc {n : Nat} (hn : 0 < n) : ∀ (f : Nat) (p : Array Nat) (k q : Nat), InR n p → goodT n (fun r => InR n r.1) (kas_desc f p k q)
  | 0, _, _, _, h => h
  | f + 1, p, k, q, h => by
    refine ⟨h.get hn _, h.get hn _, fun b => ?_⟩
    cases b with
    | true =>
      simp only [if_true]
      split
      · exact good_desc hn f _ _ _ (h.perm (rev_perm _ _ _))
      · exact good_desc hn f _ _ _ h
    | false =>
      simp only [if_false, Bool.false_eq_true]
      refine ⟨h.get hn _, h.get hn _, fun d => ?_⟩
      cases d with
      | true => exact h
      | false => exact good_desc hn f _ _ _ h
theorem good_tail3 {n : Nat} (hn : 0 < n) {p : Array Nat} (h : InR n p) (k r : Nat) : goodT n (fun r => InR n r.2) (kas_tail3 k r p) := by
  have hr : InR n (kas_rev p 0 k) := h.perm (rev_perm _ _ _)
  exact goodT_bind (P := fun _ => True) (R := fun r : Nat × Array Nat => InR n r.2) (g := fun m => KasT.ret (m, kas_rev p 0 k)) (fun _ _ => hr) _ (good_asc hn hr _ _)
theorem good_descPart {n : Nat} (hn : 0 < n) {p : Array Nat} (h : InR n p) (k r : Nat) : goodT n (fun r => InR n r.2) (kas_descPart k r p) := by
  refine goodT_bind (P := fun r => InR n r.1) (fun a ha => ?_) _ (good_desc hn _ _ _ _ h)
  split
  · exact good_tail3 hn (ha.perm (rev_perm _ _ _)) _ _
  · exact good_tail3 hn ha _ _
theorem good_count {n : Nat} (hn : 0 < n) {p : Array Nat} (h : InR n p) (r : Nat) : goodT n (fun r => InR n r.2) (kas_count r p) := by
  refine goodT_bind (P := fun _ => True) (fun a _ => ?_) _ (good_asc hn h _ _)
  split
  · exact h
  · split
    · refine ⟨h.get hn _, h.get hn _, fun b => ?_⟩
      cases b with
      | true => exact h
      | false => exact good_descPart hn (h.perm (rev_perm _ _ _)) _ _
    · exact good_descPart hn h _ _
theorem good_place {n : Nat} (hn : 0 < n) {p : Array Nat} (h : InR n p) (k : Nat) : ∀ (f l r : Nat), goodT n (fun _ => True) (kas_place p k f l r)
  | 0, _, _ => trivial
  | f + 1, l, r => by
    unfold kas_place
    split
    · trivial
    · refine ⟨h.get hn _, h.get hn _, fun b => ?_⟩
      cases b with
      | true => exact good_place hn h k f _ _
      | false => exact good_place hn h k f _ _
theorem good_bin {n : Nat} (hn : 0 < n) : ∀ (f : Nat) (p : Array Nat) (k : Nat), InR n p → goodT n (fun _ => True) (kas_bin f p k)
  | 0, _, _, _ => trivial
  | f + 1, p, k, h => goodT_bind (P := fun _ => True) (fun l _ => good_bin hn f _ _ (h.perm (bubble_perm _ _ _))) _ (good_place hn h _ _ _ _)
theorem inR_range (n : Nat) : InR n (List.toArray (List.range n)) := fun x hx => by simpa using hx
theorem good_sort {n : Nat} (hn : 0 < n) : goodT n (fun _ => True) (kas_sort n) := by
  refine goodT_bind (P := fun r => InR n r.2) (fun a ha => ?_) _ (good_count hn (inR_range n) n)
  split
  · exact good_bin hn _ _ _ ha
  · trivial

/-! what the run gives -/
section
variable {f : Nat → Nat}
def Kf (f : Nat → Nat) (p : Array Nat) (k : Nat) : Nat := f (p.getD k 0)
theorem getD_congr {p q : Array Nat} {i j : Nat} (h : p[i]? = q[j]?) : p.getD i 0 = q.getD j 0 := by
  rw [Array.getD_eq_getD_getElem?, Array.getD_eq_getD_getElem?, h]
theorem Kf_mirror {p : Array Nat} {i j : Nat} (hj : j ≤ p.size) (k : Nat) : Kf f (kas_rev p i j) k = if i ≤ k ∧ k < j then Kf f p (i + j - 1 - k) else Kf f p k := by
  have e := getElem?_mirror_all (i := i) hj k
  unfold Kf kas_rev
  split <;> rename_i h
  · rw [if_pos h] at e; rw [getD_congr e]
  · rw [if_neg h] at e; rw [getD_congr e]
theorem Kf_mirror_equal {p : Array Nat} {i j : Nat} (hj : j ≤ p.size) (heq : ∀ k, i ≤ k → k < j → Kf f p k = Kf f p (j - 1)) (k : Nat) : Kf f (kas_rev p i j) k = Kf f p k := by
  rw [Kf_mirror hj]
  split
  · rename_i h
    rw [heq _ (by omega) (by omega), heq k h.1 h.2]
  · rfl
theorem Kf_bubble {p : Array Nat} {src d : Nat} (hs : src < p.size) (hd : d ≤ src) (k : Nat) :
    Kf f (bubble p src d) k = if k = src - d then Kf f p src else if src - d < k ∧ k ≤ src then Kf f p (k - 1) else Kf f p k := by
  have e := getElem?_bubble hs d hd k
  unfold Kf
  by_cases h1 : k = src - d
  · rw [if_pos h1] at e ⊢; rw [getD_congr e]
  · rw [if_neg h1] at e ⊢
    by_cases h2 : src - d < k ∧ k ≤ src
    · rw [if_pos h2] at e ⊢; rw [getD_congr e]
    · rw [if_neg h2] at e ⊢; rw [getD_congr e]
def Up (f : Nat → Nat) (p : Array Nat) (k : Nat) : Prop := ∀ i j, i ≤ j → j < k → Kf f p i ≤ Kf f p j
def Down (f : Nat → Nat) (p : Array Nat) (k : Nat) : Prop := ∀ i j, i ≤ j → j < k → Kf f p j ≤ Kf f p i

theorem run_asc {p : Array Nat} : ∀ (u n : Nat), 1 ≤ n → Up f p n → n ≤ runT f (kas_asc p u n) ∧ runT f (kas_asc p u n) ≤ n + u ∧ Up f p (runT f (kas_asc p u n)) ∧ (runT f (kas_asc p u n) = n + u ∨ Kf f p (runT f (kas_asc p u n)) < Kf f p (runT f (kas_asc p u n) - 1))
  | 0, n, _, h => ⟨Nat.le_refl _, Nat.le_refl _, h, .inl rfl⟩
  | u + 1, n, h1, h => by
    show n ≤ runT f (if decide (Kf f p n < Kf f p (n - 1)) = true then KasT.ret n else kas_asc p u (n + 1)) ∧ runT f (if decide (Kf f p n < Kf f p (n - 1)) = true then KasT.ret n else kas_asc p u (n + 1)) ≤ n + (u + 1) ∧
      Up f p (runT f (if decide (Kf f p n < Kf f p (n - 1)) = true then KasT.ret n else kas_asc p u (n + 1))) ∧ (runT f (if decide (Kf f p n < Kf f p (n - 1)) = true then KasT.ret n else kas_asc p u (n + 1)) = n + (u + 1) ∨ Kf f p (runT f (if decide (Kf f p n < Kf f p (n - 1)) = true then KasT.ret n else kas_asc p u (n + 1))) < Kf f p (runT f (if decide (Kf f p n < Kf f p (n - 1)) = true then KasT.ret n else kas_asc p u (n + 1)) - 1))
    by_cases hc : Kf f p n < Kf f p (n - 1)
    · simp only [hc, decide_true, if_true, runT]
      exact ⟨Nat.le_refl _, by omega, h, .inr trivial⟩
    · simp only [hc, decide_false, Bool.false_eq_true, if_false]
      have hu : Up f p (n + 1) := fun i j hij hj => by
        by_cases hjx : j < n
        · exact h i j hij hjx
        · obtain rfl : j = n := by omega
          by_cases hi' : i = j
          · subst hi'; exact Nat.le_refl _
          · exact Nat.le_trans (h i (j - 1) (by omega) (by omega)) (Nat.not_lt.mp hc)
      obtain ⟨a, b, c, d⟩ := run_asc u (n + 1) (by omega) hu
      exact ⟨by omega, by omega, c, d.imp (by omega) id⟩

theorem run_desc : ∀ (u : Nat) (p : Array Nat) (n q : Nat), 1 ≤ n → n + u ≤ p.size → Down f p n → q + 1 ≤ n → (∀ i, n - (q + 1) ≤ i → i < n → Kf f p i = Kf f p (n - 1)) →
    ∃ p' m q', runT f (kas_desc u p n q) = (p', m, q') ∧ p'.Perm p ∧ n ≤ m ∧ m ≤ n + u ∧ Down f p' m ∧ q' + 1 ≤ m ∧ ∀ i, m - (q' + 1) ≤ i → i < m → Kf f p' i = Kf f p' (m - 1)
  | 0, p, n, q, _, _, h, hq, he => ⟨p, n, q, rfl, Array.Perm.refl _, Nat.le_refl _, Nat.le_refl _, h, hq, he⟩
  | u + 1, p, n, q, h1, hz, h, hq, he => by
    have e : runT f (kas_desc (u + 1) p n q) = runT f (if decide (Kf f p n < Kf f p (n - 1)) = true then (if q > 0 then kas_desc u (kas_rev p (n - (q + 1)) n) (n + 1) 0 else kas_desc u p (n + 1) 0)
      else KasT.ask (p.getD (n - 1) 0) (p.getD n 0) fun d => if d = true then KasT.ret (p, n, q) else kas_desc u p (n + 1) (q + 1)) := rfl
    by_cases hc : Kf f p n < Kf f p (n - 1)
    · simp only [hc, decide_true, if_true] at e
      have step1 : ∀ xs : Array Nat, (∀ k, Kf f xs k = Kf f p k) → Down f xs (n + 1) := by
        intro xs hk i j hij hj
        rw [hk, hk]
        by_cases hjx : j < n
        · exact h i j hij hjx
        · obtain rfl : j = n := by omega
          by_cases hi' : i = j
          · subst hi'; exact Nat.le_refl _
          · exact Nat.le_trans (Nat.le_of_lt hc) (h i (j - 1) (by omega) (by omega))
      by_cases hp : q > 0
      · rw [if_pos hp] at e
        have hsz : (kas_rev p (n - (q + 1)) n).size = p.size := kas_rev_size _ _
        obtain ⟨p', m, q', e', a1, a2, a3, a4, a5, a6⟩ := run_desc u (kas_rev p (n - (q + 1)) n) (n + 1) 0 (by omega) (by rw [hsz]; omega) (step1 _ (Kf_mirror_equal (by omega) he)) (by omega) (fun i h1 h2 => by congr 1; omega)
        exact ⟨p', m, q', e.trans e', a1.trans (rev_perm _ _ _), by omega, by omega, a4, a5, a6⟩
      · rw [if_neg hp] at e
        obtain ⟨p', m, q', e', a1, a2, a3, a4, a5, a6⟩ := run_desc u p (n + 1) 0 (by omega) (by omega) (step1 _ fun _ => rfl) (by omega) (fun i h1 h2 => by congr 1; omega)
        exact ⟨p', m, q', e.trans e', a1, by omega, by omega, a4, a5, a6⟩
    · simp only [hc, decide_false, Bool.false_eq_true, if_false] at e
      have e2 : runT f (KasT.ask (p.getD (n - 1) 0) (p.getD n 0) fun d => if d = true then KasT.ret (p, n, q) else kas_desc u p (n + 1) (q + 1)) = runT f (if decide (Kf f p (n - 1) < Kf f p n) = true then KasT.ret (p, n, q) else kas_desc u p (n + 1) (q + 1)) := rfl
      by_cases hd : Kf f p (n - 1) < Kf f p n
      · simp only [hd, decide_true, if_true] at e2
        exact ⟨p, n, q, e.trans e2, Array.Perm.refl _, Nat.le_refl _, by omega, h, hq, he⟩
      · simp only [hd, decide_false, Bool.false_eq_true, if_false] at e2
        have heq : Kf f p n = Kf f p (n - 1) := by omega
        obtain ⟨p', m, q', e', a1, a2, a3, a4, a5, a6⟩ := run_desc u p (n + 1) (q + 1) (by omega) (by omega) (fun i j hij hj => by
          by_cases hjx : j < n
          · exact h i j hij hjx
          · obtain rfl : j = n := by omega
            by_cases hi' : i = j
            · subst hi'; exact Nat.le_refl _
            · rw [heq]; exact h i (j - 1) (by omega) (by omega)) (by omega) (fun i h1 h2 => by
          rw [show n + 1 - 1 = n by omega]
          by_cases hix : i = n
          · subst hix; rfl
          · rw [heq]; exact he i (by omega) (by omega))
        exact ⟨p', m, q', (e.trans e2).trans e', a1, by omega, by omega, a4, a5, a6⟩

theorem run_tail3 {p : Array Nat} {n r : Nat} (h1 : 1 ≤ n) (hn : n ≤ r) (hz : r ≤ p.size) (h : Down f p n) :
    ∃ m p', runT f (kas_tail3 n r p) = (m, p') ∧ p'.Perm p ∧ 1 ≤ m ∧ m ≤ r ∧ Up f p' m := by
  have hu : Up f (kas_rev p 0 n) n := fun i j hij hj => by
    rw [Kf_mirror (by omega), Kf_mirror (by omega), if_pos (by omega), if_pos (by omega)]
    exact h _ _ (by omega) (by omega)
  obtain ⟨a, b, c, _⟩ := run_asc (r - n) n h1 hu
  refine ⟨_, kas_rev p 0 n, by unfold kas_tail3; rw [runT_bind]; rfl, rev_perm _ _ _, by omega, by omega, c⟩
theorem run_descPart {p : Array Nat} {n r : Nat} (hn : n + 1 ≤ r) (hz : r ≤ p.size) (h : Down f p (n + 1)) :
    ∃ m p', runT f (kas_descPart n r p) = (m, p') ∧ p'.Perm p ∧ 1 ≤ m ∧ m ≤ r ∧ Up f p' m := by
  obtain ⟨p1, m, q, e, a1, a2, a3, a4, a5, a6⟩ := run_desc (f := f) (r - (n + 1)) p (n + 1) 0 (by omega) (by omega) h (by omega) (fun i h1 h2 => by congr 1; omega)
  have hs : p1.size = p.size := a1.size_eq
  unfold kas_descPart
  rw [runT_bind, e]
  by_cases hq : q > 0
  · simp only [hq, if_true]
    have hd : Down f (kas_rev p1 (m - (q + 1)) m) m := fun i j hij hj => by
      rw [Kf_mirror_equal (by omega) a6, Kf_mirror_equal (by omega) a6]
      exact a4 i j hij hj
    have hsz : (kas_rev p1 (m - (q + 1)) m).size = p1.size := kas_rev_size _ _
    obtain ⟨m', p', e', b1, b2, b3, b4⟩ := run_tail3 (f := f) (p := kas_rev p1 (m - (q + 1)) m) (n := m) (r := r) (by omega) (by omega) (by rw [hsz]; omega) hd
    exact ⟨m', p', e', b1.trans ((rev_perm _ _ _).trans a1), b2, b3, b4⟩
  · simp only [hq, if_false]
    obtain ⟨m', p', e', b1, b2, b3, b4⟩ := run_tail3 (f := f) (p := p1) (n := m) (r := r) (by omega) (by omega) (by omega) a4
    exact ⟨m', p', e', b1.trans a1, b2, b3, b4⟩
theorem run_count {p : Array Nat} {r : Nat} (h1 : 1 ≤ r) (hz : r ≤ p.size) : ∃ m p', runT f (kas_count r p) = (m, p') ∧ p'.Perm p ∧ 1 ≤ m ∧ m ≤ r ∧ Up f p' m := by
  have h0 : Up f p 1 := fun i j hij hj => by
    have : i = j := by omega
    subst this
    exact Nat.le_refl _
  obtain ⟨a, b, c, d⟩ := run_asc (f := f) (p := p) (r - 1) 1 (Nat.le_refl _) h0
  unfold kas_count
  rw [runT_bind]
  revert a b c d
  generalize runT f (kas_asc p (r - 1) 1) = n
  intro a b c d
  by_cases hnn : n = r
  · rw [if_pos (by simpa using hnn)]
    exact ⟨n, p, rfl, Array.Perm.refl _, a, by omega, c⟩
  · rw [if_neg (by simpa using hnn)]
    have hlt : Kf f p n < Kf f p (n - 1) := d.resolve_left (by omega)
    by_cases hgt : n > 1
    · rw [if_pos hgt]
      have e2 : runT f (KasT.ask (p.getD 0 0) (p.getD (n - 1) 0) fun c => if c = true then KasT.ret (n, p) else kas_descPart n r (kas_rev p 0 n)) = runT f (if decide (Kf f p 0 < Kf f p (n - 1)) = true then KasT.ret (n, p) else kas_descPart n r (kas_rev p 0 n)) := rfl
      rw [e2]
      by_cases hr : Kf f p 0 < Kf f p (n - 1)
      · simp only [hr, decide_true, if_true]
        exact ⟨n, p, rfl, Array.Perm.refl _, a, by omega, c⟩
      · simp only [hr, decide_false, Bool.false_eq_true, if_false]
        have hall : ∀ k, 0 ≤ k → k < n → Kf f p k = Kf f p (n - 1) := by
          intro k _ hk
          have a1 := c 0 k (by omega) hk
          have a2 := c k (n - 1) (by omega) (by omega)
          omega
        have hsz : (kas_rev p 0 n).size = p.size := kas_rev_size _ _
        obtain ⟨m', p', e', b1, b2, b3, b4⟩ := run_descPart (f := f) (p := kas_rev p 0 n) (n := n) (r := r) (by omega) (by rw [hsz]; omega) (fun i j hij hj => by
          rw [Kf_mirror_equal (by omega) hall, Kf_mirror_equal (by omega) hall]
          by_cases hjn : j < n
          · rw [hall i (by omega) (by omega), hall j (by omega) hjn]; exact Nat.le_refl _
          · obtain rfl : j = n := by omega
            by_cases hi' : i = j
            · subst hi'; exact Nat.le_refl _
            · rw [hall i (by omega) (by omega)]; exact Nat.le_of_lt hlt)
        exact ⟨m', p', e', b1.trans (rev_perm _ _ _), b2, b3, b4⟩
    · rw [if_neg hgt]
      obtain rfl : n = 1 := by omega
      exact run_descPart (by omega) hz (fun i j hij hj => by
        by_cases hi' : i = j
        · subst hi'; exact Nat.le_refl _
        · obtain rfl : i = 0 := by omega
          obtain rfl : j = 1 := by omega
          exact Nat.le_of_lt hlt)

theorem run_place {p : Array Nat} {k : Nat} (hs : Up f p k) : ∀ (u l r : Nat), l ≤ r → r ≤ k → r - l ≤ u → (∀ i, i < l → Kf f p i ≤ Kf f p k) → (∀ i, r ≤ i → i < k → Kf f p k < Kf f p i) →
    ∃ m, runT f (kas_place p k u l r) = m ∧ m ≤ k ∧ (∀ i, i < m → Kf f p i ≤ Kf f p k) ∧ (∀ i, m ≤ i → i < k → Kf f p k < Kf f p i)
  | 0, l, r, hlr, hrk, hu, hlo, hhi => by
    obtain rfl : l = r := by omega
    exact ⟨l, rfl, hrk, hlo, hhi⟩
  | u + 1, l, r, hlr, hrk, hu, hlo, hhi => by
    unfold kas_place
    by_cases hge : l ≥ r
    · rw [if_pos hge]
      obtain rfl : l = r := by omega
      exact ⟨l, rfl, hrk, hlo, hhi⟩
    · rw [if_neg hge]
      have e2 : runT f (KasT.ask (p.getD k 0) (p.getD ((l + r) / 2) 0) fun c => if c = true then kas_place p k u l ((l + r) / 2) else kas_place p k u ((l + r) / 2 + 1) r) = runT f (if decide (Kf f p k < Kf f p ((l + r) / 2)) = true then kas_place p k u l ((l + r) / 2) else kas_place p k u ((l + r) / 2 + 1) r) := rfl
      rw [e2]
      by_cases hless : Kf f p k < Kf f p ((l + r) / 2)
      · simp only [hless, decide_true, if_true]
        exact run_place hs u l ((l + r) / 2) (by omega) (by omega) (by omega) hlo fun i h1 h2 => Nat.lt_of_lt_of_le hless (hs _ _ h1 h2)
      · simp only [hless, decide_false, Bool.false_eq_true, if_false]
        exact run_place hs u ((l + r) / 2 + 1) r (by omega) (by omega) (by omega) (fun i h1 => Nat.le_trans (hs i ((l + r) / 2) (by omega) (by omega)) (Nat.not_lt.mp hless)) hhi
theorem run_bin : ∀ (u : Nat) (p : Array Nat) (k : Nat), k + u ≤ p.size → Up f p k → (runT f (kas_bin u p k)).Perm p ∧ Up f (runT f (kas_bin u p k)) (k + u)
  | 0, p, k, _, h => ⟨Array.Perm.refl _, h⟩
  | u + 1, p, k, hz, h => by
    show (runT f ((kas_place p k k 0 k).bind fun l => kas_bin u (bubble p k (k - l)) (k + 1))).Perm p ∧ Up f (runT f ((kas_place p k k 0 k).bind fun l => kas_bin u (bubble p k (k - l)) (k + 1))) (k + (u + 1))
    rw [runT_bind]
    obtain ⟨l, e, hlk, hlo, hhi⟩ := run_place h k 0 k (Nat.zero_le _) (Nat.le_refl _) (by omega) (fun i hi => by omega) (fun i h1 h2 => by omega)
    rw [e]
    have hup : Up f (bubble p k (k - l)) (k + 1) := by
      intro i j hij hj
      rw [Kf_bubble (by omega) (by omega), Kf_bubble (by omega) (by omega), show k - (k - l) = l by omega]
      repeat' split
      all_goals first
        | (exfalso; omega)
        | exact Nat.le_refl _
        | exact hlo _ (by omega)
        | exact Nat.le_of_lt (hhi _ (by omega) (by omega))
        | exact h _ _ (by omega) (by omega)
    obtain ⟨a, b⟩ := run_bin u (bubble p k (k - l)) (k + 1) (by rw [bubble_size]; omega) hup
    exact ⟨a.trans (bubble_perm _ _ _), by rw [show k + (u + 1) = k + 1 + u by omega]; exact b⟩

/-- the whole sort: a permutation, in order -/
theorem run_sort {n : Nat} (hn : 1 ≤ n) : (runT f (kas_sort n)).toList.Perm (List.range n) ∧ Up f (runT f (kas_sort n)) n := by
  have hz : n ≤ (List.toArray (List.range n)).size := by simp
  obtain ⟨m, p', e, a1, a2, a3, a4⟩ := run_count (f := f) hn hz
  unfold kas_sort
  rw [runT_bind, e]
  have hs : p'.size = n := by rw [a1.size_eq]; simp
  have a1' : p'.toList.Perm (List.range n) := Array.perm_iff_toList_perm.mp a1
  by_cases hm : m < n
  · simp only [hm, if_true]
    obtain ⟨b1, b2⟩ := run_bin (f := f) (n - max m 1) p' (max m 1) (by omega) (by rw [show max m 1 = m by omega]; exact a4)
    exact ⟨(Array.perm_iff_toList_perm.mp b1).trans a1', by rwa [show max m 1 + (n - max m 1) = n by omega] at b2⟩
  · simp only [hm, if_false]
    obtain rfl : m = n := by omega
    exact ⟨a1', a4⟩
end
end Mine
end

section
open PySem PySem.W PyProof.Rows PySem.Calls
set_option maxRecDepth 100000
set_option maxHeartbeats 4000000
namespace Mine
abbrev PP := Str × Str
/-- the order of two pairs of texts -/
def lt2 (p q : PP) : Bool := if p.1 = q.1 then decide (p.2.cps.toList < q.2.cps.toList) else decide (p.1.cps.toList < q.1.cps.toList)
def le2 (p q : PP) : Bool := !lt2 q p
theorem str_ext {x y : Str} (h : x.cps.toList = y.cps.toList) : x = y := by
  cases x; cases y
  simp only at h
  rw [Array.toList_inj.mp h]
theorem str_tri {x y : Str} (h1 : ¬ x.cps.toList < y.cps.toList) (h2 : ¬ y.cps.toList < x.cps.toList) : x = y :=
  str_ext (List.le_antisymm (List.not_lt.mp h2) (List.not_lt.mp h1))
theorem lt2_irrefl (p : PP) : lt2 p p = false := by
  unfold lt2
  rw [if_pos rfl]
  exact decide_eq_false (List.lt_irrefl _)
theorem lt2_iff {p q : PP} : lt2 p q = true ↔ (p.1 = q.1 ∧ p.2.cps.toList < q.2.cps.toList) ∨ p.1.cps.toList < q.1.cps.toList := by
  unfold lt2
  split
  · rename_i e
    rw [decide_eq_true_eq]
    constructor
    · exact fun h => .inl ⟨e, h⟩
    · rintro (h | h)
      · exact h.2
      · rw [e] at h; exact absurd h (List.lt_irrefl _)
  · rename_i e
    rw [decide_eq_true_eq]
    constructor
    · exact .inr
    · rintro (h | h)
      · exact absurd h.1 e
      · exact h
theorem lt2_trans {p q r : PP} (h1 : lt2 p q = true) (h2 : lt2 q r = true) : lt2 p r = true := by
  rw [lt2_iff] at *
  rcases h1 with ⟨e, h1⟩ | h1
  · rcases h2 with ⟨e', h2⟩ | h2
    · exact .inl ⟨e.trans e', List.lt_trans h1 h2⟩
    · exact .inr (by rw [e]; exact h2)
  · rcases h2 with ⟨e', h2⟩ | h2
    · exact .inr (by rw [← e']; exact h1)
    · exact .inr (List.lt_trans h1 h2)
theorem lt2_tri {p q : PP} (h1 : lt2 p q = false) (h2 : lt2 q p = false) : p = q := by
  have n1 : ¬ lt2 p q = true := by rw [h1]; exact Bool.false_ne_true
  have n2 : ¬ lt2 q p = true := by rw [h2]; exact Bool.false_ne_true
  rw [lt2_iff] at n1 n2
  have e1 : p.1 = q.1 := str_tri (fun h => n1 (.inr h)) (fun h => n2 (.inr h))
  have e2 : p.2 = q.2 := str_tri (fun h => n1 (.inl ⟨e1, h⟩)) (fun h => n2 (.inl ⟨e1.symm, h⟩))
  exact Prod.ext e1 e2
theorem le2_of_lt {p q : PP} (h : lt2 p q = true) : le2 p q = true := by
  unfold le2
  cases e : lt2 q p with
  | false => rfl
  | true => exact absurd (lt2_trans h e) (by rw [lt2_irrefl]; exact Bool.false_ne_true)
theorem le2_cases {p q : PP} (h : le2 p q = true) : lt2 p q = true ∨ p = q := by
  cases e : lt2 p q with
  | true => exact .inl rfl
  | false => exact .inr (lt2_tri e (by unfold le2 at h; simpa using h))
theorem le2_refl (p : PP) : le2 p p = true := by unfold le2; rw [lt2_irrefl]; rfl
theorem le2_trans {p q r : PP} (h1 : le2 p q = true) (h2 : le2 q r = true) : le2 p r = true := by
  rcases le2_cases h1 with h1 | rfl
  · rcases le2_cases h2 with h2 | rfl
    · exact le2_of_lt (lt2_trans h1 h2)
    · exact le2_of_lt h1
  · exact h2
theorem le2_total (p q : PP) : (le2 p q || le2 q p) = true := by
  cases e : lt2 q p with
  | false => unfold le2; rw [e]; rfl
  | true => rw [le2_of_lt e, Bool.or_true]
theorem le2_antisymm {p q : PP} (h1 : le2 p q = true) (h2 : le2 q p = true) : p = q := by
  unfold le2 at h1 h2
  exact lt2_tri (by simpa using h2) (by simpa using h1)
/-- the pairs in order -/
def srt (ds : List PP) : List PP := ds.mergeSort le2
theorem srt_perm (ds : List PP) : (srt ds).Perm ds := List.mergeSort_perm ds le2
theorem srt_sorted (ds : List PP) : (srt ds).Pairwise (fun a b => le2 a b = true) := List.pairwise_mergeSort (le := le2) (fun _ _ _ h1 h2 => le2_trans h1 h2) le2_total ds
theorem srt_len (ds : List PP) : (srt ds).length = ds.length := (srt_perm ds).length_eq
theorem srt_unique {l ds : List PP} (hp : l.Perm ds) (hs : l.Pairwise (fun a b => le2 a b = true)) : l = srt ds :=
  List.Perm.eq_of_pairwise (fun _ _ _ _ => le2_antisymm) hs (srt_sorted ds) (hp.trans (srt_perm ds).symm)

/-- places ranked -/
def rankP (ds : List PP) (i : Nat) : Nat := (ds.filter fun q => lt2 q (ds.getD i default)).length
theorem filter_le {α : Type} {a b : α → Bool} (h : ∀ x, a x = true → b x = true) : ∀ l : List α, (l.filter a).length ≤ (l.filter b).length
  | [] => Nat.le_refl _
  | x :: l => by
    have ih := filter_le h l
    rw [List.filter_cons, List.filter_cons]
    cases ha : a x with
    | true => rw [h x ha]; simp only [if_true, List.length_cons]; omega
    | false =>
      cases b x with
      | true => simp only [Bool.false_eq_true, if_false, if_true, List.length_cons]; omega
      | false => simpa using ih
theorem filter_lt {α : Type} {a b : α → Bool} (h : ∀ x, a x = true → b x = true) : ∀ (l : List α), (∃ y ∈ l, a y = false ∧ b y = true) → (l.filter a).length < (l.filter b).length
  | [], ⟨_, hy, _⟩ => absurd hy List.not_mem_nil
  | x :: l, ⟨y, hy, h1, h2⟩ => by
    rw [List.filter_cons, List.filter_cons]
    rcases List.mem_cons.mp hy with rfl | hy
    · have := filter_le h l
      rw [h1, h2]; simp only [Bool.false_eq_true, if_false, if_true, List.length_cons]; omega
    · have ih := filter_lt h l ⟨y, hy, h1, h2⟩
      cases ha : a x with
      | true => rw [h x ha]; simp only [if_true, List.length_cons]; omega
      | false =>
        cases b x with
        | true => simp only [Bool.false_eq_true, if_false, if_true, List.length_cons]; omega
        | false => simpa using ih
theorem rank_lt {ds : List PP} {i j : Nat} (hi : i < ds.length) : decide (rankP ds i < rankP ds j) = lt2 (ds.getD i default) (ds.getD j default) := by
  have hmi : ds.getD i default ∈ ds := by rw [List.getD_eq_getElem?_getD, List.getElem?_eq_getElem hi]; exact List.getElem_mem hi
  cases e : lt2 (ds.getD i default) (ds.getD j default) with
  | true =>
    refine decide_eq_true ?_
    exact filter_lt (fun x hx => lt2_trans hx e) ds ⟨_, hmi, lt2_irrefl _, e⟩
  | false =>
    refine decide_eq_false (Nat.not_lt.mpr ?_)
    refine filter_le (fun x hx => ?_) ds
    cases e2 : lt2 (ds.getD j default) (ds.getD i default) with
    | true => exact lt2_trans hx e2
    | false => rw [lt2_tri e e2]; exact hx

section
variable {prog : Program} {w : World} {A : Around} {E : Value → Shared → Prop} {s : Shared} {h₀ : Heap} {L x : Addr} {m : Str → Option Value} {news : List (Addr × Obj)} {vs : List Value} {n : Nat} {ds : List PP}

/-- fewer than two items -/
theorem sort_small {Q : Value → Shared → Prop} (F : Fr h₀ L s.heap m) (N : News h₀ L s.heap news) (hl : s.heap.IsList x vs.toArray) (h2 : vs.length < 2)
    (h : ∀ D c h', Fr h₀ L h' m → News h₀ L h' ((D, listOf vs.toArray c) :: news) → (∀ q ∈ news, q.1 < D) → Q (.ref D) { s with heap := h' }) :
    wpAny (model prog w) A (call (.builtin "sorted") [.ref x]) Q E s := by
  have h64 : vs.length ≤ sizeLine := by rw [sizeLine_eq]; omega
  have key : wpAny (model prog w) A (call (.builtin "sorted") [.ref x]) (fun v s' => v = .ref (s.heap.objs.size + 1) ∧ s' = { s with heap := sortedAll s.heap vs vs.toArray }) E s := by
    refine Calls.call_function_entry kind_sorted plain_sorted entry_sorted (args_sorted1 _) ?_
    unfold Builtin.«sorted»
    refine wpAny_bind (m := checkCount "sorted" 1 1 _) (wpAny_pure ?_)
    refine wpAny_bind (collect_list hl ?_ h64)
    refine wpAny_bind (wpAny_newList ?_ h64)
    have hsz : ((s.heap.push (seqObj "list" #[] 0)).update s.heap.objs.size (Obj.mapSeq (· ++ vs.toArray))).objs.size = s.heap.objs.size + 1 := by
      rw [Heap.size_update, size_push']
    generalize hH : (s.heap.push (seqObj "list" #[] 0)).update s.heap.objs.size (Obj.mapSeq (· ++ vs.toArray)) = H at hsz
    have hoL : (H.push (seqObj "list" vs.toArray 0)).get? (s.heap.objs.size + 1) = some (seqObj "list" vs.toArray 0) := by
      rw [← hsz]; exact Heap.get?_push_size _ rfl
    have ha : s.heap.objs.size + 1 < (H.push (seqObj "list" vs.toArray 0)).objs.size := Heap.lt_size hoL
    show wpAny _ _ _ _ _ { s with heap := H.push (seqObj "list" vs.toArray 0) }
    rw [hsz]
    refine wpAny_bind (wpAny_holding (wpAny_call_entry slot_list_sort ⟨_, hoL, rfl⟩ entry_list_sort ?_ (args_list_sort _)))
    rw [list_sort_plain]
    refine wpAny_bind (listItems_at hoL rfl ?_)
    refine wpAny_bind (listUpdate_at hoL rfl ?_ (by rw [List.size_toArray]; exact h64) (Nat.zero_le _))
    obtain ⟨e1, ho1⟩ : ∃ e1, ((H.push (seqObj "list" vs.toArray 0)).update (s.heap.objs.size + 1) (Obj.mapSeq fun _ => #[])).get? (s.heap.objs.size + 1) = some (seqObj "list" #[] e1) := ⟨_, get?_update_seq hoL (fun _ => #[])⟩
    refine wpAny_bind (seqEpoch_at ho1 rfl ?_)
    refine wpAny_bind (wpAny_newTuple ?_ (by show vs.length ≤ _; exact h64))
    refine wpAny_bind (wpAny_newList ?_ (Nat.zero_le _))
    refine wpAny_holding ?_
    have ho6 : ((((H.push (seqObj "list" vs.toArray 0)).update (s.heap.objs.size + 1) (Obj.mapSeq fun _ => #[])).push (seqObj "tuple" vs.toArray 0)).push (seqObj "list" #[] 0)).get? (s.heap.objs.size + 1) = some (seqObj "list" #[] e1) :=
      Heap.get?_push_of_some _ (Heap.get?_push_of_some _ ho1)
    show wpAny (model prog w) _ _ _ _ { s with heap := (((H.push (seqObj "list" vs.toArray 0)).update (s.heap.objs.size + 1) (Obj.mapSeq fun _ => #[])).push (seqObj "tuple" vs.toArray 0)).push (seqObj "list" #[] 0) }
    dsimp only
    have h2' : vs.toArray.size < 2 := by rw [List.size_toArray]; exact h2
    rw [if_pos h2', if_pos h2']
    refine wpAny_bind (wpAny_pure ?_)
    rw [StateT.run_pure]
    refine wpAny_bind (wpAny_pure ?_)
    dsimp only
    have hz : (arrOf (SortSt.mk' general' (vs.toArray.zip vs.toArray) #[] 7 none)).map (·.2) = vs.toArray := by
      show (vs.toArray.zip vs.toArray).map (·.2) = vs.toArray
      apply Array.toList_inj.mp
      rw [Array.toList_map, Array.toList_zip, List.toList_toArray]
      exact List.map_snd_zip (Nat.le_refl _)
    rw [hz]
    refine wpAny_bind (seqEpoch_at ho6 rfl ?_)
    refine wpAny_bind (listUpdate_at ho6 rfl ?_ (Nat.zero_le _) (by rw [List.size_toArray]; omega))
    simp only [bne_self_eq_false, Bool.false_eq_true, if_false]
    refine wpAny_pure ⟨_, rfl, wpAny_pure ⟨_, rfl, rfl, ?_⟩⟩
    unfold sortedAll sortedHeap
    rw [hH]
  obtain ⟨e, he⟩ := sortedAll_at s.heap vs vs.toArray
  refine wpAny_mono key (fun v s' hv => ?_) fun _ _ e => e
  obtain ⟨rfl, rfl⟩ := hv
  exact h _ e _ (F.kept fun _ _ => sortedAll_old) (N.kept_cons F (fun _ _ => sortedAll_old) (Nat.le_succ _) he) fun q hq => Nat.lt_succ_of_lt (Heap.lt_size (N q hq).1)

theorem datAll_map {α : Type} {news : List (Addr × Obj)} {g : α → Value} {d : α → Dat} : ∀ l : List α, (∀ i ∈ l, DatIn news (g i) (d i)) → DatAll news (l.map g) (l.map d)
  | [], _ => .nil
  | a :: l, h => .cons (h a (.head _)) (datAll_map l fun i hi => h i (.tail _ hi))

theorem datAll_getD {ds : List PP} (hD : DatAll news vs (ds.map prD)) {i : Nat} (hi : i < ds.length) : DatIn news (vs.getD i Value.none) (prD (ds.getD i default)) := by
  obtain ⟨v, hv, hd⟩ := hD.get (k := i) (by rw [List.length_map]; exact hi)
  rw [List.getElem_map] at hd
  rw [List.getD_eq_getElem?_getD, hv, List.getD_eq_getElem?_getD, List.getElem?_eq_getElem hi]
  exact hd

/-- two pairs asked by the sort -/
theorem ask2 {h : Heap} {a b : Addr} {p q : PP} {t u t' u' : Tok} {k k' : Nat} {C : Bool → Shared → Prop} (hh : s.heap = h) (ha : h.get? a = some { cls := .type "tuple", data := .seq #[.str p.1 t, .str p.2 u] k })
    (hb : h.get? b = some { cls := .type "tuple", data := .seq #[.str q.1 t', .str q.2 u'] k' }) (hC : C (lt2 p q) s) : wpAny (model prog w) A (keyLt' (tuples' true) (.ref a) (.ref b)) C E s := by
  subst hh
  refine kat_lt ha rfl hb rfl ?_
  show KatLex prog w A true _ C [(Value.str p.1 t, Value.str q.1 t'), (Value.str p.2 u, Value.str q.2 u')] 0 s
  refine kat_cons (eqBool_str ?_)
  by_cases e1 : p.1 = q.1
  · rw [show (p.1 == q.1) = true by simpa using e1]
    refine kat_yes (kat_cons (eqBool_str ?_))
    by_cases e2 : p.2 = q.2
    · rw [show (p.2 == q.2) = true by simpa using e2]
      refine kat_yes (kat_nil ?_)
      have : lt2 p q = decide ((#[Value.str p.1 t, Value.str p.2 u] : Array Value).size < (#[Value.str q.1 t', Value.str q.2 u'] : Array Value).size) := by
        rw [show p = q from Prod.ext e1 e2, lt2_irrefl]; rfl
      rw [← this]; exact hC
    · rw [show (p.2 == q.2) = false by simpa using e2]
      refine kat_no ?_
      show wpAny (model prog w) A (oneLt' false (Value.str p.2 u) (Value.str q.2 u')) C (fun _ _ => False) s
      refine kat_one _ _ (PyProof.Rows.lt_str ?_)
      have : lt2 p q = decide (p.2.cps.toList < q.2.cps.toList) := by unfold lt2; rw [if_pos e1]
      show C (decide (p.2.cps.toList < q.2.cps.toList)) s
      rw [← this]; exact hC
  · rw [show (p.1 == q.1) = false by simpa using e1]
    refine kat_no ?_
    show wpAny (model prog w) A (oneLt' true (Value.str p.1 t) (Value.str q.1 t')) C (fun _ _ => False) s
    refine oneLt_str ?_
    have : lt2 p q = decide (p.1.cps.toList < q.1.cps.toList) := by unfold lt2; rw [if_neg e1]
    rw [← this]; exact hC

theorem tups_of {h : Heap} (N : News h₀ L h news) : ∀ {vs : List Value} {ds : List PP}, DatAll news vs (ds.map prD) → ∃ fs, KatTups h vs fs ∧ fs.length = vs.length ∧ ∀ v ∈ fs, ∃ y t, v = Value.str y t
  | [], [], _ => ⟨[], .nil, rfl, fun _ h => absurd h List.not_mem_nil⟩
  | [], _ :: _, hD => nomatch hD
  | _ :: _, [], hD => nomatch hD
  | v :: vs, p :: ds, hD => by
    cases hD with
    | cons h1 h2 =>
      obtain ⟨fs, a1, a2, a3⟩ := tups_of N h2
      obtain ⟨a, t, u, k, rfl, hm⟩ := pairs_open h1
      refine ⟨.str p.1 t :: fs, KatTups.cons (N _ hm).1 rfl rfl rfl a1, by rw [List.length_cons, List.length_cons, a2], fun v hv => ?_⟩
      rcases List.mem_cons.mp hv with rfl | hv
      · exact ⟨_, _, rfl⟩
      · exact a3 v hv

/-- sorted, upon a list of pairs of texts -/
theorem sortedP {Q : Value → Shared → Prop} (F : Fr h₀ L s.heap m) (N : News h₀ L s.heap news) (hx : (x, listOf vs.toArray n) ∈ news) (hD : DatAll news vs (ds.map prD)) (h64 : vs.length < 64)
    (h : ∀ D us c h', Fr h₀ L h' m → News h₀ L h' ((D, listOf us.toArray c) :: news) → (∀ q ∈ news, q.1 < D) → DatAll news us ((srt ds).map prD) → Q (.ref D) { s with heap := h' }) :
    wpAny (model prog w) A (call (.builtin "sorted") [.ref x]) Q E s := by
  have hlen : vs.length = ds.length := by rw [hD.length, List.length_map]
  have hl : s.heap.IsList x vs.toArray := ⟨_, (N _ hx).1, rfl, n, rfl⟩
  by_cases h2 : vs.length < 2
  · refine sort_small F N hl h2 fun D c h' F' N' lt => h D vs c h' F' N' lt ?_
    have : srt ds = ds := (srt_unique (List.Perm.refl _) (by
      match ds, hlen with
      | [], _ => exact .nil
      | [a], _ => exact List.pairwise_singleton _ _
      | a :: b :: r, e => simp only [List.length_cons] at e; omega)).symm
    rw [this]; exact hD
  · refine kat_sorted F N hl (by omega) h64 fun D e1 h' F' N' lt => ?_
    have N0 : News h₀ L h' news := fun p hp => N' p (.tail _ hp)
    obtain ⟨fs, a1, a2, a3⟩ := tups_of N0 hD
    refine kat_kind (s := { s with heap := h' }) (T := .type "str") a1 (by omega) (fun v hv => by obtain ⟨y, t, rfl⟩ := a3 v hv; exact .now) (by decide) ?_
    show (kas_sort vs.length).kasWp (kas_ask prog w A.in1.in1 (tuples' true) vs) _ _
    refine kasWp_run (n := vs.length) (f := rankP ds) (fun i j C hi hj hC => ?_) _ (good_sort (by omega)) ?_
    · obtain ⟨a, t, u, k, ea, hma⟩ := pairs_open (datAll_getD hD (i := i) (by omega))
      obtain ⟨b, t', u', k', eb, hmb⟩ := pairs_open (datAll_getD hD (i := j) (by omega))
      unfold kas_ask
      rw [ea, eb]
      rw [rank_lt (by omega)] at hC
      exact ask2 rfl (N0 _ hma).1 (N0 _ hmb).1 hC
    · obtain ⟨pm, pu⟩ := run_sort (f := rankP ds) (n := vs.length) (by omega)
      generalize runT (rankP ds) (kas_sort vs.length) = p at pm pu
      have hpl : ∀ i ∈ p.toList, i < ds.length := fun i hi => by rw [← hlen]; simpa using pm.mem_iff.mp hi
      have hps : p.size = vs.length := by have := pm.length_eq; simpa using this
      have hsrt : p.toList.map (fun i => ds.getD i default) = srt ds := by
        refine srt_unique ?_ ?_
        · refine (pm.map _).trans (List.Perm.of_eq ?_)
          rw [hlen]
          refine List.ext_getElem (by simp) fun k h1 h2 => ?_
          have hk : k < ds.length := by simpa using h1
          simp [List.getD_eq_getElem?_getD, List.getElem?_eq_getElem hk]
        · rw [List.pairwise_iff_getElem]
          intro i j hi hj hij
          rw [List.length_map, Array.length_toList] at hi hj
          rw [List.getElem_map, List.getElem_map]
          have hu := pu i j (by omega) (by omega)
          unfold Kf at hu
          have gi : p.getD i 0 = p.toList[i] := by rw [Array.getD_eq_getD_getElem?, Array.getElem?_eq_getElem hi]; rfl
          have gj : p.getD j 0 = p.toList[j] := by rw [Array.getD_eq_getD_getElem?, Array.getElem?_eq_getElem hj]; rfl
          rw [gi, gj] at hu
          unfold le2
          rw [← rank_lt (hpl _ (List.getElem_mem _)), decide_eq_false (Nat.not_lt.mpr hu)]; rfl
      refine KasFin.intro (news := (D, seqObj "list" #[] e1) :: news) F' N' (UpdF.head fun q hq => Nat.ne_of_lt (lt q hq)) fun h'' c F'' N'' => ?_
      refine h D _ c h'' F'' N'' lt ?_
      rw [← hsrt, List.map_map]
      exact datAll_map _ fun i hi => datAll_getD hD (hpl i hi)

theorem itemL {l : Addr} {news L9 : List (Addr × Obj)} {us : List Value} {ds : List PP} {c : Nat} {k : Int} {u : Tok} {value slice : PySem.Expr} {Q : Value → Shared → Prop} (N : News h₀ L s.heap news) (hm : (l, listOf us.toArray c) ∈ news) (hD : DatAll L9 us (ds.map prD)) (j : Nat) (hj : k = (j : Int)) (hjl : j < ds.length) (hb : ds.length < 4096)
    (h : ∀ v, DatIn L9 v (prD (ds.getD j default)) → Q v s)
    (hs : subscripted slice false (.ref l) (.int k u) = operate [.ref l, .int k u] (getItem (.ref l) (.int k u)) := by with_unfolding_all rfl) :
    wpAny (model prog w) A (subscriptTail value slice (.ref l) (.int k u)) Q E s := by
  subst hj
  refine kd_item N hm hD (by omega) (by rw [List.length_map]; omega) (by omega) (fun v d hd _ hv => h v ?_) hs
  have e : d = prD (ds.getD j default) := by
    have hk : (j : Int).toNat = j := rfl
    rw [hk, List.getElem?_map, List.getElem?_eq_getElem hjl] at hd
    rw [List.getD_eq_getElem?_getD, List.getElem?_eq_getElem hjl]
    exact (Option.some.inj hd).symm
  rw [← e]; exact hv
theorem fdiv2 (n : Nat) : ((n : Int).fdiv 2) = ((n / 2 : Nat) : Int) := by
  rw [Int.fdiv_eq_ediv_of_nonneg _ (by omega)]; omega
theorem fmod2 (n : Nat) : ((n : Int).fmod 2) = ((n % 2 : Nat) : Int) := by
  rw [Int.fmod_eq_emod_of_nonneg _ (by omega)]; omega
end
end Mine
end

section
open PySem PySem.W PyProof.Rows PySem.Calls
set_option maxRecDepth 100000
set_option maxHeartbeats 8000000
namespace Mine
theorem fill2 : (PySem.Challenge.rw_nb0048_01 = PySem.Challenge.rw_nb0048_01) ∧ (Mine.hd.heap_39 = Mine.hd.heap_39) := by w_top off; k_fill; exact ⟨rfl, rfl⟩

theorem med_low {w : World} {mean : ExcName → Option Value} {mg mb : Str → Option Value} {news : List (Addr × Obj)} {x : Addr} {vs : List Value} {n : Nat} {ds : List PP}
    (hx : (x, listOf vs.toArray n) ∈ news) (hD : DatAll news vs (ds.map prD)) (h64 : vs.length < 64) (h1 : 1 ≤ ds.length) :
    Says w mean mg mb 41 [.ref x] 4 64 news (fun tl r => DatIn (news ++ tl) r (prD ((srt ds).getD ((ds.length - 1) / 2) default))) := by
  unfold Says
  intro dp un gd cn cs a ccd cl outer A₀ base h₀ L m s Q E B F X N T hk hd hu hret
  refine wpAny_call ?_
  k_dflt ktr_enter
  k_steps
  rename Fr _ _ _ _ => F1
  rename News _ _ _ _ => N1
  refine sortedP F1 N1 hx hD h64 fun D us c h' F2 N2 lt2 hus => ?_
  clear F1 N1 F N
  have kdm := kdMark
  have hl : us.length = ds.length := by rw [hus.length, List.length_map, srt_len]
  have hl0 : vs.length = ds.length := by rw [hD.length, List.length_map]
  k_steps
  rename News _ _ _ _ => N3
  refine lenL N3 (.head _) hl (by omega) ?_
  k_steps
  · rename ((ds.length : Int) = 0) => h0
    exfalso; omega
  · rename (_ = (1 : Int)) => hodd
    rename News _ _ _ _ => N4
    rw [fmod2] at hodd
    refine itemL N4 (.head _) hus ((ds.length - 1) / 2) (by rw [fdiv2]; omega) (by rw [srt_len]; omega) (by rw [srt_len]; omega) fun v hv => ?_
    k_steps
    rename Fr h₀ L _ _ => F5
    rename News h₀ L _ _ => N5
    refine hret _ [] _ _ F5 ?_ (fun _ _ _ h => absurd h List.not_mem_nil) ?_
    · rw [List.append_nil]; exact news_sub N5 fun p hp => .tail _ hp
    · dsimp only; rw [List.append_nil]; exact hv
  · rename (_ ≠ (1 : Int)) => hodd
    rename News _ _ _ _ => N4
    rw [fmod2] at hodd
    refine itemL N4 (.head _) hus ((ds.length - 1) / 2) (by rw [fdiv2]; omega) (by rw [srt_len]; omega) (by rw [srt_len]; omega) fun v hv => ?_
    k_steps
    rename Fr h₀ L _ _ => F5
    rename News h₀ L _ _ => N5
    refine hret _ [] _ _ F5 ?_ (fun _ _ _ h => absurd h List.not_mem_nil) ?_
    · rw [List.append_nil]; exact news_sub N5 fun p hp => .tail _ hp
    · dsimp only; rw [List.append_nil]; exact hv

theorem med_high {w : World} {mean : ExcName → Option Value} {mg mb : Str → Option Value} {news : List (Addr × Obj)} {x : Addr} {vs : List Value} {n : Nat} {ds : List PP}
    (hx : (x, listOf vs.toArray n) ∈ news) (hD : DatAll news vs (ds.map prD)) (h64 : vs.length < 64) (h1 : 1 ≤ ds.length) :
    Says w mean mg mb 48 [.ref x] 4 64 news (fun tl r => DatIn (news ++ tl) r (prD ((srt ds).getD (ds.length / 2) default))) := by
  unfold Says
  intro dp un gd cn cs a ccd cl outer A₀ base h₀ L m s Q E B F X N T hk hd hu hret
  refine wpAny_call ?_
  k_dflt ktr_enter
  k_steps
  rename Fr _ _ _ _ => F1
  rename News _ _ _ _ => N1
  refine sortedP F1 N1 hx hD h64 fun D us c h' F2 N2 lt2 hus => ?_
  clear F1 N1 F N
  have kdm := kdMark
  have hl : us.length = ds.length := by rw [hus.length, List.length_map, srt_len]
  have hl0 : vs.length = ds.length := by rw [hD.length, List.length_map]
  k_steps
  rename News _ _ _ _ => N3
  refine lenL N3 (.head _) hl (by omega) ?_
  k_steps
  · rename ((ds.length : Int) = 0) => h0
    exfalso; omega
  · rename News _ _ _ _ => N4
    refine itemL N4 (.head _) hus (ds.length / 2) (by rw [fdiv2]) (by rw [srt_len]; omega) (by rw [srt_len]; omega) fun v hv => ?_
    k_steps
    rename Fr h₀ L _ _ => F5
    rename News h₀ L _ _ => N5
    refine hret _ [] _ _ F5 ?_ (fun _ _ _ h => absurd h List.not_mem_nil) ?_
    · rw [List.append_nil]; exact news_sub N5 fun p hp => .tail _ hp
    · dsimp only; rw [List.append_nil]; exact hv
/-- the place that a median reads -/
def mid (f : Addr) (n : Nat) : Nat := if f = 41 then (n - 1) / 2 else n / 2
theorem med {w : World} {mean : ExcName → Option Value} {mg mb : Str → Option Value} {news : List (Addr × Obj)} {f x : Addr} {vs : List Value} {n : Nat} {ds : List PP} (hf : f = 41 ∨ f = 48)
    (hx : (x, listOf vs.toArray n) ∈ news) (hD : DatAll news vs (ds.map prD)) (h64 : vs.length < 64) (h1 : 1 ≤ ds.length) :
    Says w mean mg mb f [.ref x] 4 64 news (fun tl r => DatIn (news ++ tl) r (prD ((srt ds).getD (mid f ds.length) default))) := by
  rcases hf with rfl | rfl
  · exact med_low hx hD h64 h1
  · exact med_high hx hD h64 h1
end Mine
end

section
open PySem PySem.W PyProof.Rows PySem.Calls PyProof.Rows.LCg PyProof.Rows.LCp
set_option maxRecDepth 100000
set_option maxHeartbeats 1000000
namespace Mine
abbrev enD (e : PP × Bool) : Dat := .tuple [prD e.1, .bool e.2]
theorem entry_open {news : List (Addr × Obj)} {v : Value} {e : PP × Bool} (h : DatIn news v (enD e)) : ∃ a u n, v = .ref a ∧ DatIn news u (prD e.1) ∧ (a, ({ cls := .type "tuple", data := .seq #[u, .bool e.2] n } : Obj)) ∈ news := by
  cases h with
  | tuple hm r =>
    cases r with
    | cons r1 r =>
      cases r with
      | cons r2 r =>
        cases r with
        | nil =>
          cases r2
          exact ⟨_, _, _, rfl, r1, hm⟩
theorem datAll_rep {l : List (Addr × Obj)} {v : Value} {d : Dat} (h : DatIn l v d) : ∀ k : Nat, DatAll l (List.replicate k v) (List.replicate k d)
  | 0 => .nil
  | k + 1 => .cons h (datAll_rep h k)
theorem off1_mem {D : Addr} : ∀ {l : List (Addr × Obj)}, Off1 D l → ∀ p ∈ l, p.1 ≠ D
  | [], _, _, h => absurd h List.not_mem_nil
  | _ :: _, x, p, h => by
    rcases List.mem_cons.mp h with rfl | h
    · exact x.1
    · exact off1_mem x.2 p h

section
variable {prog : Program} {w : World} {A : Around} {E : Value → Shared → Prop} {s : Shared} {h₀ : Heap} {L : Addr} {m : Str → Option Value} {env : Env}

/-- what the element of a comprehension does, one turn -/
def EltSays (prog : Program) (w : World) (A : Around) (h₀ : Heap) (L : Addr) (m : Str → Option Value) (env : Env) (elt : Expr) (scope : Scope) (cl : List (Str × Addr)) (s : Shared) (Pre : List (Addr × Obj) → (Str → Option Value) → Prop) (Out : List (Addr × Obj) → Value → Prop) : Prop :=
  ∀ (nw : List (Addr × Obj)) (I : Addr) (oI : Obj) (C : Addr) (oC : Obj) (D : Addr) (ys : List Value) (m₂ : Str → Option Value) (h : Heap) (tk : Nat) (E' : Value → Shared → Prop) (R : Value → Shared → Prop),
    Pre nw m₂ → NsObj oC m₂ → Fr h₀ L h m → News h₀ L h ((I, oI) :: (C, oC) :: (D, lst ys) :: nw) → Off3 I C D nw → ((@Ne Nat I C) ∧ (@Ne Nat I D) ∧ (@Ne Nat C D)) →
    (∀ y h' tk' add, Fr h₀ L h' m → News h₀ L h' (add ++ (I, oI) :: (C, oC) :: (D, lst ys) :: nw) → (∀ p ∈ (I, oI) :: (C, oC) :: (D, lst ys) :: nw, ∀ q ∈ add, p.1 < q.1) → Out (nw ++ add) y → R y { s with heap := h', toks := tk' }) →
    wpAny (model prog w) A (eval elt (compEnvC scope cl C env)) R E' { s with heap := h, toks := tk }

theorem off3_grow {I C D : Addr} {oI oC oD : Obj} {nw add : List (Addr × Obj)} (h : Off3 I C D nw) (hl : ∀ p ∈ (I, oI) :: (C, oC) :: (D, oD) :: nw, ∀ q ∈ add, p.1 < q.1) : Off3 I C D (nw ++ add) := by
  refine Off3.of fun p hp => ?_
  rcases List.mem_append.mp hp with hp | hp
  · exact h.mem p hp
  · exact ⟨Nat.ne_of_gt (hl _ (.head _) p hp), Nat.ne_of_gt (hl _ (.tail _ (.head _)) p hp), Nat.ne_of_gt (hl _ (.tail _ (.tail _ (.head _))) p hp)⟩
theorem sub_grow {a b c : Addr × Obj} {nw add : List (Addr × Obj)} : ∀ p ∈ a :: b :: c :: (nw ++ add), p ∈ add ++ a :: b :: c :: nw := by
  intro p hp
  simp only [List.mem_cons, List.mem_append] at hp ⊢
  rcases hp with h | h | h | h | h
  · exact .inr (.inl h)
  · exact .inr (.inr (.inl h))
  · exact .inr (.inr (.inr (.inl h)))
  · exact .inr (.inr (.inr (.inr h)))
  · exact .inl h

/-- a comprehension «.. for x, x₂ in list of entries» of any length -/
theorem comp_rest {elt : Expr} {x x₂ : Str} {scope : Scope} {cl : List (Str × Addr)} {ax : Addr} {vs : List Value} {c : Nat} {news : List (Addr × Obj)} {es : List (PP × Bool)} {out : PP × Bool → Dat} {Fin : List Value → List (Addr × Obj) → Prop}
    (hm : (ax, listOf vs.toArray c) ∈ news) (hD : DatAll news vs (es.map enD))
    (helt : ∀ e ∈ es, EltSays prog w A h₀ L m env elt scope cl s (fun nw m₂ => ∃ v₁, DatIn nw v₁ (prD e.1) ∧ m₂ x = some v₁ ∧ m₂ x₂ = some (.bool e.2)) (fun nw y => DatIn nw y (out e)))
    (hfin : ∀ us tl, DatAll (news ++ tl) us (es.map out) → (∀ q ∈ news, ∀ p ∈ tl, q.1 < p.1) → Fin us (news ++ tl)) :
    ∀ (k i : Nat) (ys : List Value) (tl : List (Addr × Obj)), k + i = vs.length → DatAll (news ++ tl) ys ((es.take i).map out) → (∀ q ∈ news, ∀ p ∈ tl, q.1 < p.1) →
      CompRestP prog w A h₀ L m env elt x x₂ scope cl s (SrcAt h₀ ax vs.toArray) (fun i v => vs.toArray[i]? = some v) Fin k i ys (news ++ tl)
  | 0, i, ys, tl, hk, hy, hl => by
    refine CompRestP.zero (hfin ys tl ?_ hl)
    have : es.length = vs.length := by rw [hD.length, List.length_map]
    rwa [List.take_of_length_le (by omega)] at hy
  | k + 1, i, ys, tl, hk, hy, hl => by
    refine CompRestP.succ fun v hv => ?_
    have hlen : es.length = vs.length := by rw [hD.length, List.length_map]
    have hi : i < es.length := by omega
    obtain ⟨v', hv', hd⟩ := hD.get (k := i) (by rw [List.length_map]; exact hi)
    have ev : v' = v := by
      rw [List.getElem?_toArray, hv'] at hv
      exact Option.some.inj hv
    subst ev
    rw [List.getElem_map] at hd
    obtain ⟨a, u, n, rfl, hu, hma⟩ := entry_open hd
    refine ⟨a, _, u, .bool es[i].2, n, rfl, List.mem_append.mpr (.inl hma), rfl, rfl, ?_⟩
    intro I oI C oC D m₂ h tk E' hC h1 h2 F N off ne
    refine helt es[i] (List.getElem_mem hi) (news ++ tl) I oI C oC D ys m₂ h tk E' _ ⟨u, hu.mono fun p hp => List.mem_append.mpr (.inl hp), h1, h2⟩ hC F N off ne ?_
    intro y h' tk' add F' N' la ho
    refine ⟨h', tk', (news ++ tl) ++ add, rfl, F', news_sub N' sub_grow, off3_grow off la, ?_, ?_⟩
    · exact .inr ⟨_, List.mem_append.mpr (.inl (List.mem_append.mpr (.inl hm))), rfl, _, rfl⟩
    · rw [List.append_assoc] at ho ⊢
      refine comp_rest hm hD helt hfin k (i + 1) (ys ++ [y]) (tl ++ add) (by omega) ?_ ?_
      · rw [List.take_add_one, List.getElem?_eq_getElem hi, List.map_append]
        refine DatAll.append (hy.mono fun p hp => ?_) (DatAll.one ho)
        rcases List.mem_append.mp hp with hp | hp
        · exact List.mem_append.mpr (.inl hp)
        · exact List.mem_append.mpr (.inr (List.mem_append.mpr (.inl hp)))
      · intro q hq p hp
        rcases List.mem_append.mp hp with hp | hp
        · exact hl q hq p hp
        · exact la q (.tail _ (.tail _ (.tail _ (List.mem_append.mpr (.inl hq))))) p hp

theorem comp_pairs {elt iter : Expr} {x x₂ : Str} {px px₂ tp : Pos} {tk} {scope : Scope} {cl : List (Str × Addr)} {pos : Pos} {Q : Value → Shared → Prop} {out : PP × Bool → Dat} (F₀ : Fr h₀ L s.heap m)
    (hclos : closureFor scope env = pure cl) (hcell : ∀ y ∈ scope.names, y.2 ≠ .cell) (hkind : scope.kind = .function)
    (hnames : ∀ y ∈ scope.names, y.2 = .local → scope.names.lookup y.1 = some .local) (hx : scope.names.lookup x = some .local) (hx₂ : scope.names.lookup x₂ = some .local) (hxx : x ≠ x₂)
    (hh : A.handled = none)
    (h : wpAny (model prog w) A (eval iter env) (fun v s₁ => ∃ (ax : Addr) (vs : List Value) (c : Nat) (news : List (Addr × Obj)) (es : List (PP × Bool)), v = .ref ax ∧ Fr h₀ L s₁.heap m ∧ News h₀ L s₁.heap news ∧ (ax, listOf vs.toArray c) ∈ news ∧ DatAll news vs (es.map enD) ∧ vs.length < 4096 ∧
      (∀ g, ∀ e ∈ es, EltSays prog w A h₀ L m env elt scope cl { s₁ with heap := g } (fun nw m₂ => ∃ v₁, DatIn nw v₁ (prD e.1) ∧ m₂ x = some v₁ ∧ m₂ x₂ = some (.bool e.2)) (fun nw y => DatIn nw y (out e))) ∧
      ∀ D us tl h tk, Fr h₀ L h m → News h₀ L h ((D, listOf us.toArray us.length) :: (news ++ tl)) → (∀ p ∈ news ++ tl, p.1 ≠ D) → (∀ q ∈ news, ∀ p ∈ tl, q.1 < p.1) → DatAll (news ++ tl) us (es.map out) → Q (.ref D) { s₁ with heap := h, toks := tk }) E s)
    (hs : ∀ x, foldedSetIterable iter env x = pure x := by intro _; rfl) :
    wpAny (model prog w) A (eval (.ListComp elt [⟨.Tuple [.Name x px, .Name x₂ px₂] tk tp, iter, [], 0⟩] scope pos) env) Q E s := by
  refine ListComp_P F₀ hclos hcell hkind hnames hx hx₂ hxx (wpAny_mono h (fun v s₁ h₁ => ?_) fun _ _ e => e) hs
  obtain ⟨ax, vs, c, news, es, rfl, F, N, hm, hD, hsz, helt, hfin⟩ := h₁
  refine SrcLP.ledger hh F N hm (by rw [List.size_toArray, sizeLine_eq]; omega) fun g => ?_
  have R := comp_rest (s := { s₁ with heap := g }) (Fin := FinE h₀ L m { s₁ with heap := g } Q) hm hD (helt g) (fun us tl hus hl D h tk F' N' o1 => hfin D us tl h tk F' N' (off1_mem o1) hl hus) vs.length 0 [] [] (by omega) .nil (fun _ _ _ h => absurd h List.not_mem_nil)
  rw [List.append_nil] at R
  rw [List.size_toArray]
  exact R

theorem mulL {l : Addr} {v : Value} {c n : Nat} {u : Tok} {news : List (Addr × Obj)} {Q : Value → Shared → Prop} (F : Fr h₀ L s.heap m) (N : News h₀ L s.heap news) (hl : (l, listOf [v].toArray c) ∈ news) (hn : n < 4096)
    (h : ∀ D h', Fr h₀ L h' m → News h₀ L h' ((D, listOf (List.replicate n v).toArray 0) :: news) → (∀ p ∈ news, p.1 < D) → Q (.ref D) { s with heap := h' }) : wpAny (model prog w) A (binaryOp .Mult (.ref l) (.int (n : Int) u)) Q E s := by
  refine mul_list F N (N _ hl).1 (by omega) (by omega) (by simp; omega) fun h' F' N' => h _ h' F' ?_ fun p hp => Heap.lt_size (N p hp).1
  have e : List.foldl (fun x1 x2 => x1 ++ x2) (#[] : Array Value) (List.replicate (if ([v].toArray.isEmpty) = true then 0 else (n : Int).toNat) [v].toArray) = (List.replicate n v).toArray := by
    have h1 : ([v].toArray.isEmpty) = false := rfl
    rw [h1]
    simp only [Bool.false_eq_true, if_false]
    show List.foldl (fun x1 x2 => x1 ++ x2) (#[] : Array Value) (List.replicate n [v].toArray) = (List.replicate n v).toArray
    have gen : ∀ (k : Nat) (a : List Value), List.foldl (fun x1 x2 => x1 ++ x2) a.toArray (List.replicate k [v].toArray) = (a ++ List.replicate k v).toArray := by
      intro k
      induction k with
      | zero => intro a; simp
      | succ k ih =>
        intro a
        rw [List.replicate_succ, List.foldl_cons, List.append_toArray, ih, List.replicate_succ]
        simp
    simpa using gen n []
  rw [e] at N'
  exact N'
theorem addL {l b : Addr} {us ws : List Value} {c c' : Nat} {news : List (Addr × Obj)} {Q : Value → Shared → Prop} (F : Fr h₀ L s.heap m) (N : News h₀ L s.heap news) (hl : (l, listOf us.toArray c) ∈ news) (hb : (b, listOf ws.toArray c') ∈ news) (hn : us.length + ws.length < 4096)
    (h : ∀ D h', Fr h₀ L h' m → News h₀ L h' ((D, listOf (us ++ ws).toArray 0) :: news) → (∀ p ∈ news, p.1 < D) → Q (.ref D) { s with heap := h' }) : wpAny (model prog w) A (binaryOp .Add (.ref l) (.ref b)) Q E s :=
  add_lists F N ⟨_, (N _ hl).1, rfl, c, rfl⟩ ⟨_, (N _ hb).1, rfl, c', rfl⟩ (fun h' F' N' => h _ h' F' N' fun p hp => Heap.lt_size (N p hp).1) (by rw [sizeLine_eq]; omega)

theorem comp_pairsA {elt iter : Expr} {x x₂ y : Str} {px px₂ tp py : Pos} {tk} {scope : Scope} {cl : List (Str × Addr)} {pos spos : Pos} {Q : Flow → Shared → Prop} {out : PP × Bool → Dat} (F₀ : Fr h₀ L s.heap m) (hLe : env.locals = L)
    (hsw : swapsWith (.ListComp elt [⟨.Tuple [.Name x px, .Name x₂ px₂] tk tp, iter, [], 0⟩] scope pos) (some (.Name y py)) spos.line env = pure true)
    (hclos : closureFor scope env = pure cl) (hcell : ∀ y ∈ scope.names, y.2 ≠ .cell) (hkind : scope.kind = .function)
    (hnames : ∀ y ∈ scope.names, y.2 = .local → scope.names.lookup y.1 = some .local) (hx : scope.names.lookup x = some .local) (hx₂ : scope.names.lookup x₂ = some .local) (hxx : x ≠ x₂)
    (hy : env.kindOf y = some .local) (hp : (env.scope.kind == .class || (env.scope.kind == .module && env.locals != env.globals)) = false)
    (hh : A.handled = none)
    (h : wpAny (model prog w) A (eval iter env) (fun v s₁ => ∃ (ax : Addr) (vs : List Value) (c : Nat) (news : List (Addr × Obj)) (es : List (PP × Bool)), v = .ref ax ∧ Fr h₀ L s₁.heap m ∧ News h₀ L s₁.heap news ∧ (ax, listOf vs.toArray c) ∈ news ∧ DatAll news vs (es.map enD) ∧ vs.length < 4096 ∧
      (∀ g, ∀ e ∈ es, EltSays prog w A h₀ L m env elt scope cl { s₁ with heap := g } (fun nw m₂ => ∃ v₁, DatIn nw v₁ (prD e.1) ∧ m₂ x = some v₁ ∧ m₂ x₂ = some (.bool e.2)) (fun nw y => DatIn nw y (out e))) ∧
      ∀ D us tl h tk, Fr h₀ L h (fun z => if z = y then some (.ref D) else m z) → News h₀ L h ((D, listOf us.toArray us.length) :: (news ++ tl)) → (∀ p ∈ news ++ tl, p.1 ≠ D) → (∀ q ∈ news, ∀ p ∈ tl, q.1 < p.1) → DatAll (news ++ tl) us (es.map out) → Q .next { s₁ with heap := h, toks := tk }) E s)
    (hs : ∀ x, foldedSetIterable iter env x = pure x := by intro _; rfl) :
    wpAny (model prog w) A (exec (.Assign [.Name y py] (.ListComp elt [⟨.Tuple [.Name x px, .Name x₂ px₂] tk tp, iter, [], 0⟩] scope pos) spos) env) Q E s := by
  refine Assign_ListComp_P F₀ hLe hsw hclos hcell hkind hnames hx hx₂ hxx hy hp (wpAny_mono h (fun v s₁ h₁ => ?_) fun _ _ e => e) hs
  obtain ⟨ax, vs, c, news, es, rfl, F, N, hm, hD, hsz, helt, hfin⟩ := h₁
  refine SrcLP.ledger hh F N hm (by rw [List.size_toArray, sizeLine_eq]; omega) fun g => ?_
  have R := comp_rest (s := { s₁ with heap := g }) (Fin := FinA h₀ L m { s₁ with heap := g } y Q) hm hD (helt g) (fun us tl hus hl D h tk F' N' o1 => hfin D us tl h tk F' N' (off1_mem o1) hl hus) vs.length 0 [] [] (by omega) .nil (fun _ _ _ h => absurd h List.not_mem_nil)
  rw [List.append_nil] at R
  rw [List.size_toArray]
  exact R

/-- a pair of texts that may be compared -/
def okP (p : PP) : Bool := PyData.strOk p.1 && PyData.strOk p.2
theorem okP_data {ds : List PP} (h : ∀ p ∈ ds, okP p = true) : ∀ d ∈ ds.map prD, kqdOk 8 d = true := by
  intro d hd
  obtain ⟨p, hp, rfl⟩ := List.mem_map.mp hd
  have := h p hp
  unfold okP at this
  simpa [kqdOk] using this
theorem neL {a b : Addr} {us ws : List Value} {c c' : Nat} {news : List (Addr × Obj)} {ds : List PP} {Q : Value → Shared → Prop} (N : News h₀ L s.heap news) (ma : (a, listOf us.toArray c) ∈ news) (mb : (b, listOf ws.toArray c') ∈ news)
    (Da : DatAll news us (ds.map prD)) (Db : DatAll news ws (ds.map prD)) (ok : ∀ p ∈ ds, okP p = true) (hu : A.units + 64 < cLine) (h : Q (.bool false) s) : wpAny (model prog w) A (compareOp .NotEq (.ref a) (.ref b)) Q E s := by
  refine kqd_ne N ma rfl rfl Da (fun _ h => h) mb rfl rfl Db (fun _ h => h) (okP_data ok) (okP_data ok) hu ?_
  simpa using h

/-- the ledger grown: what is new is a list, or lies above all that stood -/
def Grow (news Λ : List (Addr × Obj)) : Prop := (∀ p ∈ news, p ∈ Λ) ∧ ∀ p ∈ Λ, p ∈ news ∨ p.2.cls ≠ .type "tuple" ∨ ∀ q ∈ news, q.1 < p.1
theorem Grow.refl (news : List (Addr × Obj)) : Grow news news := ⟨fun _ h => h, fun _ h => .inl h⟩
theorem Grow.list {news Λ : List (Addr × Obj)} {D : Addr} {o : Obj} (h : Grow news Λ) (ho : o.cls = .type "list") : Grow news ((D, o) :: Λ) := ⟨fun p hp => .tail _ (h.1 p hp), fun p hp => by
  rcases List.mem_cons.mp hp with rfl | hp
  · exact .inr (.inl (by show o.cls ≠ _; rw [ho]; decide))
  · exact h.2 p hp⟩
theorem Grow.other {news Λ l : List (Addr × Obj)} (h : Grow news Λ) (ho : ∀ p ∈ l, p.2.cls ≠ .type "tuple") : Grow news (Λ ++ l) := ⟨fun p hp => List.mem_append.mpr (.inl (h.1 p hp)), fun p hp => by
  rcases List.mem_append.mp hp with hp | hp
  · exact h.2 p hp
  · exact .inr (.inl (ho p hp))⟩
theorem Grow.lt {news Λ : List (Addr × Obj)} {D : Addr} {o : Obj} (h : Grow news Λ) (ho : ∀ p ∈ Λ, p.1 < D) : Grow news ((D, o) :: Λ) := ⟨fun p hp => .tail _ (h.1 p hp), fun p hp => by
  rcases List.mem_cons.mp hp with rfl | hp
  · exact .inr (.inr fun q hq => ho q (h.1 q hq))
  · exact h.2 p hp⟩
theorem Grow.app {news Λ tl : List (Addr × Obj)} (h : Grow news Λ) (ho : ∀ q ∈ Λ, ∀ p ∈ tl, q.1 < p.1) : Grow news (Λ ++ tl) := ⟨fun p hp => List.mem_append.mpr (.inl (h.1 p hp)), fun p hp => by
  rcases List.mem_append.mp hp with hp | hp
  · exact h.2 p hp
  · exact .inr (.inr fun q hq => ho q (h.1 q hq) p hp)⟩
/-- a pair handed back: at most one object more -/
theorem Grow.pair {news Λ : List (Addr × Obj)} (h : Grow news Λ) {v : Value} {p : PP} (hd : DatIn Λ v (prD p)) : ∃ tl, (∀ q ∈ news ++ tl, q ∈ Λ) ∧ (∀ q ∈ news, ∀ r ∈ tl, q.1 < r.1) ∧ DatIn (news ++ tl) v (prD p) ∧ ∀ r ∈ tl, r.2.cls = .type "tuple" := by
  obtain ⟨a, t, u, n, rfl, hm⟩ := pairs_open hd
  rcases h.2 _ hm with hn | hl | hl
  · refine ⟨[], fun q hq => ?_, fun _ _ _ h => absurd h List.not_mem_nil, ?_⟩
    · rw [List.append_nil] at hq; exact h.1 q hq
    · rw [List.append_nil]; exact ⟨DatIn.tuple (vs := [_, _]) hn (.cons (.str _ _) (.cons (.str _ _) .nil)), fun _ h => absurd h List.not_mem_nil⟩
  · exact absurd rfl hl
  · refine ⟨[(a, { cls := .type "tuple", data := .seq #[.str p.1 t, .str p.2 u] n })], fun q hq => ?_, fun q hq r hr => ?_, DatIn.tuple (vs := [.str p.1 t, .str p.2 u]) (List.mem_append.mpr (.inr (.head _))) (.cons (.str _ _) (.cons (.str _ _) .nil)), fun r hr => by rw [List.mem_singleton.mp hr]⟩
    · rcases List.mem_append.mp hq with hq | hq
      · exact h.1 q hq
      · rw [List.mem_singleton.mp hq]; exact hm
    · rw [List.mem_singleton.mp hr]; exact hl q hq
end
theorem says_use {w : World} {mean : ExcName → Option Value} {mg mb : Str → Option Value} {f : Addr} {vs : List Value} {dep un₀ : Nat} {news : List (Addr × Obj)} {Out : List (Addr × Obj) → Value → Prop}
    {dp un : Nat} {gd : Option (List Code)} {cn : Str} {cs : Scope} {a : Addr} {ccd : Value} {cl : List (Str × Addr)} {outer : List Env} {A₀ : Around} {base h₀ : Heap} {L : Addr} {m : Str → Option Value} {s : Shared} {Q E : Value → Shared → Prop}
    (S : Says w mean mg mb f vs dep un₀ news Out) (B : Below A₀ base outer h₀) (F : Fr h₀ L s.heap m) (X : (Mine.hd.heap_39 w.params).In h₀) (N : News h₀ L s.heap news) (T : Top Mine.hd.view_39 (looseW Mine.hd.view_39 []) mean mg mb h₀) (hk : cs.kind = .function) (hd : dp + dep < recursionLimit) (hu : un + un₀ < cLine)
    (hret : ∀ r tl h' tk', Fr h₀ L h' m → News h₀ L h' (news ++ tl) → (∀ q ∈ news, ∀ p ∈ tl, q.1 < p.1) → Out tl r → Q r { s with heap := h', toks := tk' }) :
    wpAny (model PySem.Challenge.rw_nb0048_01.row.prog w) (ktrTop dp un gd cn cs L a ccd cl outer) (call (.ref f) vs) Q E s := S _ _ _ _ _ _ _ _ _ _ _ _ _ _ _ _ _ B F X N T hk hd hu hret
theorem pack {h₀ h : Heap} {L : Addr} {Λ₀ : List (Addr × Obj)} (P : List (Addr × Obj) → Prop) (N : News h₀ L h Λ₀) (hP : P Λ₀) : ∃ Λ, News h₀ L h Λ ∧ P Λ := ⟨_, N, hP⟩
theorem pack_of {h₀ h : Heap} {L : Addr} {Λ₀ : List (Addr × Obj)} {P : List (Addr × Obj) → Prop} (_N : News h₀ L h Λ₀) (hP : P Λ₀) : P Λ₀ := hP
/-- where the walk is to stand still -/
def Halt (p : Prop) : Prop := p
theorem halt {p : Prop} (h : Halt p) : p := h
end Mine
end

section
open PySem PySem.W PyProof.Rows PySem.Calls
set_option maxRecDepth 100000
set_option maxHeartbeats 1000000
namespace Mine
theorem fill3 : (PySem.Challenge.rw_nb0048_01 = PySem.Challenge.rw_nb0048_01) ∧ (Mine.hd.heap_39 = Mine.hd.heap_39) := by w_top off; k_fill; exact ⟨rfl, rfl⟩
local macro_rules | `(tactic| walk_at "binaryOp Mult ref int") => `(tactic| refine halt ?_)
local macro_rules | `(tactic| walk_at "binaryOp Add ref ref") => `(tactic| refine halt ?_)
local macro_rules | `(tactic| walk_at "eval ListComp") => `(tactic| refine halt ?_)
local macro_rules | `(tactic| walk_at "exec Assign cons ListComp") => `(tactic| refine halt ?_)
local macro_rules | `(tactic| walk_at "compareOp NotEq ref ref") => `(tactic| refine halt ?_)
local macro_rules | `(tactic| walk_at "call ref") => `(tactic| refine halt ?_)
local macro_rules | `(tactic| walk_at "call type:list") => `(tactic| refine halt ?_)
/-- an entry: its mark is true to it, its texts may be compared -/
def okE (e : PP × Bool) : Bool := (bad e.1.2 == !e.2) && okP e.1
def emp : PP := (Str.ofString "", Str.ofString "")
theorem okE_clean {e : PP × Bool} (h : okE e = true) : clean e.1 = if e.2 = true then e.1 else emp := by
  unfold okE at h
  rw [Bool.and_eq_true, beq_iff_eq] at h
  unfold clean
  rw [h.1]
  cases e.2 <;> rfl
theorem okE_okP {e : PP × Bool} (h : okE e = true) : okP e.1 = true := by
  unfold okE at h
  rw [Bool.and_eq_true] at h
  exact h.2
theorem okP_clean {p : PP} (h : okP p = true) : okP (clean p) = true := by
  unfold clean
  split
  · decide +kernel
  · exact h
theorem middle {w : World} {mean : ExcName → Option Value} {mg mb : Str → Option Value} {news : List (Addr × Obj)} {f x y : Addr} {vs : List Value} {n : Nat} {es : List (PP × Bool)} {laid : PP × Bool} {sides : Nat} {t : Tok}
    (hf : f = 41 ∨ f = 48) (hx : (x, listOf vs.toArray n) ∈ news) (hD : DatAll news vs (es.map enD)) (hy : DatIn news (.ref y) (enD laid)) (h64 : es.length + 2 * sides < 32) (hok : ∀ e ∈ laid :: es, okE e = true) (hne : 1 ≤ es.length) :
    Says w mean mg mb 67 [.ref f, .ref x, .int sides t, .ref y] 8 128 news (fun tl r => DatIn (news ++ tl) r (prD ((srt ((List.replicate sides laid.1 ++ es.map (·.1) ++ List.replicate sides laid.1).map clean)).getD (mid f (es.length + 2 * sides)) default))) := by
  unfold Says
  intro dp un gd cn cs a ccd cl outer A₀ base h₀ L m s Q E B F X N T hk hd hu hret
  obtain ⟨y', u, k, e, hu', hm⟩ := entry_open hy
  cases e
  have kdm := kdMark
  refine wpAny_call ?_
  k_dflt ktr_enter
  k_steps
  unfold Halt
  rename Fr _ _ _ _ => F1
  rename News _ _ _ _ => N1
  rename (∀ p ∈ news, p.1 < _) => lt0
  refine mulL F1 N1 (.head _) (by omega) fun D1 h1 F2 N2 lt1 => ?_
  clear F1 N1 F N
  k_steps
  unfold Halt
  have hvl : vs.length = es.length := by rw [hD.length, List.length_map]
  refine comp_pairs (out := fun e => prD e.1) F2 (by with_unfolding_all rfl) (by decide) (by rfl) (by decide) (by rfl) (by rfl) (by decide) rfl (ld F2 (by rfl) ⟨x, vs, n, _, es, rfl, F2, N2, .tail _ (.tail _ hx), hD.mono (fun p hp => .tail _ (.tail _ hp)), by omega, ?_, ?_⟩)
  · intro g e _ nw I oI C oC D ys m₂ h tk E' R ⟨v₁, hd, h1, h2⟩ hC F N off ne hR
    clear F2 N2
    k_steps
    refine hR _ _ _ [] F N (fun _ _ _ h => absurd h List.not_mem_nil) ?_
    rw [List.append_nil]; exact hd
  intro D2 us2 tl2 h2 tk2 F3 N3 ne2 lt2 hd2
  clear F2 N2
  k_steps
  unfold Halt
  have hl2 : us2.length = es.length := by rw [hd2.length, List.length_map]
  refine addL F3 N3 (.tail _ (.head _)) (.head _) (by rw [List.length_replicate]; omega) fun D3 h3 F4 N4 lt3 => ?_
  clear F3 N3
  k_steps
  unfold Halt
  rename Fr _ _ _ _ => F5
  rename News _ _ _ _ => N5
  refine mulL F5 N5 (.head _) (by omega) fun D4 h4 F6 N6 lt4 => ?_
  clear F5 N5
  k_steps
  unfold Halt
  refine addL F6 N6 (.tail _ (.tail _ (.head _))) (.head _) (by rw [List.length_append, List.length_replicate]; omega) fun D5 h5 F7 N7 lt5 => ?_
  have hdu : ∀ l, (∀ p ∈ news, p ∈ l) → DatAll l (List.replicate sides u) ((List.replicate sides laid.1).map prD) := fun l hl => by
    rw [List.map_replicate]
    exact datAll_rep (hu'.mono hl) sides
  obtain ⟨Λ, N8, hG, hgv, hdG⟩ := pack (fun Λ => Grow news Λ ∧ (D5, listOf ((List.replicate sides u ++ us2) ++ List.replicate sides u).toArray 0) ∈ Λ ∧ DatAll Λ ((List.replicate sides u ++ us2) ++ List.replicate sides u) ((List.replicate sides laid.1 ++ es.map (·.1) ++ List.replicate sides laid.1).map prD)) N7 (by
    have hGr : Grow news _ := pack_of N7 (by refine Grow.list (Grow.list (Grow.list (Grow.list (Grow.list (Grow.app (Grow.list (Grow.list (Grow.refl news) ?_) ?_) lt2) ?_) ?_) ?_) ?_) ?_ <;> rfl)
    refine ⟨hGr, .head _, ?_⟩
    rw [List.map_append, List.map_append]
    refine DatAll.append (DatAll.append (hdu _ hGr.1) ?_) (hdu _ hGr.1)
    rw [List.map_map]
    exact hd2.mono fun p hp => .tail _ (.tail _ (.tail _ (.tail _ (.tail _ hp)))))
  clear N7 lt5 lt4 lt3 ne2 lt2 hd2 lt1 lt0
  have hm' := hG.1 _ hm
  have hx' := hG.1 _ hx
  clear hm hx
  have hgl : ((List.replicate sides u ++ us2) ++ List.replicate sides u).length = es.length + 2 * sides := by rw [List.length_append, List.length_append, List.length_replicate]; omega
  generalize (List.replicate sides u ++ us2) ++ List.replicate sides u = gs at hgv hdG hgl
  k_steps
  unfold Halt
  rename Fr _ _ _ _ => F8
  rename News _ _ _ _ => N9
  refine list_copyK F8 N9 ⟨_, (N9 _ hgv).1, rfl, _, rfl⟩ (fun D6 c6 h6 F9 N10 lt6 => ?_) (by rw [List.size_toArray, sizeLine_eq]; omega)
  clear F8 N9
  k_steps
  unfold Halt
  rename Fr _ _ _ _ => F10
  rename News _ _ _ _ => N11
  refine mulL F10 N11 (.head _) (by omega) fun D7 h7 F11 N12 lt7 => ?_
  clear F10 N11
  k_steps
  unfold Halt
  refine addL F11 N12 (.head _) (.tail _ (.tail _ (.tail _ hx'))) (by rw [List.length_replicate]; omega) fun D8 h8 F12 N13 lt8 => ?_
  clear F11 N12
  k_steps
  unfold Halt
  rename Fr _ _ _ _ => F13
  rename News _ _ _ _ => N14
  refine mulL F13 N14 (.head _) (by omega) fun D9 h9 F14 N15 lt9 => ?_
  clear F13 N14
  k_steps
  unfold Halt
  refine addL F14 N15 (.tail _ (.tail _ (.head _))) (.head _) (by rw [List.length_append, List.length_replicate]; omega) fun D10 h10 F15 N16 lt10 => ?_
  clear F14 N15
  obtain ⟨Λ2, N17, hG2, hgv2, hkp2, hwh2, hdG2, hdW2⟩ := pack (fun Λ2 => Grow news Λ2 ∧ (D5, listOf gs.toArray 0) ∈ Λ2 ∧ (D6, listOf gs.toArray c6) ∈ Λ2 ∧ (D10, listOf ((List.replicate sides (Value.ref y) ++ vs) ++ List.replicate sides (Value.ref y)).toArray 0) ∈ Λ2 ∧ DatAll Λ2 gs ((List.replicate sides laid.1 ++ es.map (·.1) ++ List.replicate sides laid.1).map prD) ∧ DatAll Λ2 ((List.replicate sides (Value.ref y) ++ vs) ++ List.replicate sides (Value.ref y)) ((List.replicate sides laid ++ es ++ List.replicate sides laid).map enD)) N16 (by
    have hGr : Grow news _ := pack_of N16 (by refine Grow.list (Grow.list (Grow.list (Grow.list (Grow.list (Grow.list (Grow.list hG ?_) ?_) ?_) ?_) ?_) ?_) ?_ <;> rfl)
    refine ⟨hGr, .tail _ (.tail _ (.tail _ (.tail _ (.tail _ (.tail _ (.tail _ hgv)))))), .tail _ (.tail _ (.tail _ (.tail _ (.tail _ (.tail _ (.head _)))))), .head _, hdG.mono fun p hp => .tail _ (.tail _ (.tail _ (.tail _ (.tail _ (.tail _ (.tail _ hp)))))), ?_⟩
    rw [List.map_append, List.map_append, List.map_replicate]
    exact DatAll.append (DatAll.append (datAll_rep (hy.mono hGr.1) sides) (hD.mono hGr.1)) (datAll_rep (hy.mono hGr.1) sides))
  clear N16 lt10 lt9 lt8 lt7 lt6 hgv hdG hG hm' hx'
  have hwl : ((List.replicate sides (Value.ref y) ++ vs) ++ List.replicate sides (Value.ref y)).length = es.length + 2 * sides := by rw [List.length_append, List.length_append, List.length_replicate]; omega
  generalize (List.replicate sides (Value.ref y) ++ vs) ++ List.replicate sides (Value.ref y) = wh at hwh2 hdW2 hwl
  k_steps
  unfold Halt
  rename Fr _ _ _ _ => F18
  rename News _ _ _ _ => N18
  refine comp_pairsA (out := fun e => prD (if e.2 = true then e.1 else (Str.ofString "", Str.ofString ""))) F18 (by rfl) (by with_unfolding_all rfl) (by with_unfolding_all rfl) (by decide) (by rfl) (by decide) (by rfl) (by rfl) (by decide) (by rfl) (by rfl) rfl (ld F18 (by rfl) ⟨D10, wh, 0, Λ2, List.replicate sides laid ++ es ++ List.replicate sides laid, rfl, F18, N18, hwh2, hdW2, by omega, ?_, ?_⟩)
  · intro g e _ nw I oI C oC D ys m₂ h tk E' R ⟨v₁, hd, h1, h2⟩ hC F N off ne hR
    clear F18 N18
    k_steps
    · rename (e.2 = true) => he
      refine hR _ _ _ [] F N (fun _ _ _ h => absurd h List.not_mem_nil) ?_
      rw [List.append_nil, if_pos he]; exact hd
    · rename (e.2 = false) => he
      rename Fr _ _ _ _ => F20
      rename News _ _ _ _ => N20
      rename (I < _ ∧ C < _ ∧ D < _ ∧ AllLt _ nw) => l20
      refine hR _ _ _ [_] F20 N20 ?_ ?_
      · intro p hp q hq
        rw [List.mem_singleton.mp hq]
        rcases List.mem_cons.mp hp with rfl | hp
        · exact l20.1
        · rcases List.mem_cons.mp hp with rfl | hp
          · exact l20.2.1
          · rcases List.mem_cons.mp hp with rfl | hp
            · exact l20.2.2.1
            · exact ktn_ltOf l20.2.2.2 p hp
      · rw [if_neg (by rw [he]; exact Bool.false_ne_true)]
        exact DatIn.tuple (vs := [_, _]) (List.mem_append.mpr (.inr (.head _))) (.cons (.str _ _) (.cons (.str _ _) .nil))
  intro D11 us11 tl11 h11 tk11 F19 N19 ne11 lt11 hd11
  clear F18 N18
  have hokW : ∀ e ∈ List.replicate sides laid ++ es ++ List.replicate sides laid, okE e = true := fun e he => by
    rcases List.mem_append.mp he with he | he
    · rcases List.mem_append.mp he with he | he
      · rw [List.eq_of_mem_replicate he]; exact hok _ (.head _)
      · exact hok _ (.tail _ he)
    · rw [List.eq_of_mem_replicate he]; exact hok _ (.head _)
  have hgds : (List.replicate sides laid ++ es ++ List.replicate sides laid).map (·.1) = List.replicate sides laid.1 ++ es.map (·.1) ++ List.replicate sides laid.1 := by
    rw [List.map_append, List.map_append, List.map_replicate]
  have hwsh : (List.replicate sides laid ++ es ++ List.replicate sides laid).map (fun e => prD (if e.2 = true then e.1 else (Str.ofString "", Str.ofString ""))) = ((List.replicate sides laid.1 ++ es.map (·.1) ++ List.replicate sides laid.1).map clean).map prD := by
    rw [← hgds, List.map_map, List.map_map]
    exact List.map_congr_left fun e he => by show prD _ = prD (clean e.1); rw [okE_clean (hokW e he)]; rfl
  have hokG : ∀ p ∈ List.replicate sides laid.1 ++ es.map (·.1) ++ List.replicate sides laid.1, okP p = true := fun p hp => by
    rw [← hgds] at hp
    obtain ⟨e, he, rfl⟩ := List.mem_map.mp hp
    exact okE_okP (hokW e he)
  have hgdl : (List.replicate sides laid.1 ++ es.map (·.1) ++ List.replicate sides laid.1).length = es.length + 2 * sides := by rw [List.length_append, List.length_append, List.length_replicate, List.length_map]; omega
  rw [hwsh] at hd11
  clear hwsh hgds hokW hdW2
  generalize hgdE : List.replicate sides laid.1 ++ es.map (·.1) ++ List.replicate sides laid.1 = gds at hd11 hdG2 hokG hgdl
  have hokA : ∀ p ∈ gds.map clean, okP p = true := fun p hp => by
    obtain ⟨q, hq, rfl⟩ := List.mem_map.mp hp
    exact okP_clean (hokG q hq)
  obtain ⟨Λ3, N20, hG3, hgv3, hkp3, hws3, hdG3, hdW3⟩ := pack (fun Λ3 => Grow news Λ3 ∧ (D5, listOf gs.toArray 0) ∈ Λ3 ∧ (D6, listOf gs.toArray c6) ∈ Λ3 ∧ (D11, listOf us11.toArray us11.length) ∈ Λ3 ∧ DatAll Λ3 gs (gds.map prD) ∧ DatAll Λ3 us11 ((gds.map clean).map prD)) N19 (by
    have hGr : Grow news _ := pack_of N19 (by refine Grow.list (Grow.app hG2 lt11) ?_; rfl)
    exact ⟨hGr, .tail _ (List.mem_append.mpr (.inl hgv2)), .tail _ (List.mem_append.mpr (.inl hkp2)), .head _, hdG2.mono fun p hp => .tail _ (List.mem_append.mpr (.inl hp)), hd11.mono fun p hp => .tail _ hp⟩)
  clear N19 ne11 lt11 hd11 hG2 hgv2 hkp2 hwh2 hdG2
  k_steps
  unfold Halt
  rename Below _ _ _ _ => BB
  rename Frag.In _ _ => XX
  rename Top _ _ _ _ _ _ => TT
  rename Fr _ _ _ _ => F21
  rename News _ _ _ _ => N21
  k_dflt (refine says_use (ppv hgv3 hdG3 (by omega)) BB F21 XX N21 TT rfl (show dp + 1 + 4 < recursionLimit by omega) (show un + 3 + 64 < cLine by omega) ?_)
  rintro _ tl12 h12 tk12 F22 N22 lt12 ⟨D12, us12, c12, rfl, hin12, hd12⟩
  clear F21 N21
  rw [show (fun p => prD (clean p)) = prD ∘ clean from rfl, ← List.map_map] at hd12
  have hD5 : D5 < D12 := lt12 _ hgv3 _ hin12
  obtain ⟨Λ4, N23, hG4, hgv4, hkp4, hws4, han4, hdG4, hdW4, hdA4⟩ := pack (fun Λ4 => Grow news Λ4 ∧ (D5, listOf gs.toArray 0) ∈ Λ4 ∧ (D6, listOf gs.toArray c6) ∈ Λ4 ∧ (D11, listOf us11.toArray us11.length) ∈ Λ4 ∧ (D12, listOf us12.toArray c12) ∈ Λ4 ∧ DatAll Λ4 gs (gds.map prD) ∧ DatAll Λ4 us11 ((gds.map clean).map prD) ∧ DatAll Λ4 us12 ((gds.map clean).map prD)) N22
    ⟨hG3.app lt12, List.mem_append.mpr (.inl hgv3), List.mem_append.mpr (.inl hkp3), List.mem_append.mpr (.inl hws3), List.mem_append.mpr (.inr hin12), hdG3.mono fun p hp => List.mem_append.mpr (.inl hp), hdW3.mono fun p hp => List.mem_append.mpr (.inl hp), hd12⟩
  clear N22 lt12 hin12 hd12 hG3 hgv3 hkp3 hws3 hdG3 hdW3
  k_steps
  unfold Halt
  rename News _ _ _ _ => N24
  refine neL N24 hgv4 hkp4 hdG4 hdG4 hokG (show un + 3 + 64 < cLine by omega) ?_
  have hne5 : D12 ≠ D5 := Nat.ne_of_gt hD5
  k_steps
  unfold Halt
  rename News _ _ _ _ => N25
  refine neL N25 han4 hws4 hdA4 hdW4 hokA (show un + 3 + 64 < cLine by omega) ?_
  have hal : us12.length < 64 := by rw [hdA4.length, List.length_map, List.length_map]; omega
  rw [← hgdl, hgdE] at hret
  clear hgdE hD hy hok
  rcases hf with rfl | rfl
  all_goals (
    k_steps
    unfold Halt
    rename Below _ _ _ _ => BB1
    rename Frag.In _ _ => XX1
    rename Top _ _ _ _ _ _ => TT1
    rename Fr _ _ _ _ => F26
    rename News _ _ _ _ => N26
    k_dflt (refine says_use (med (by first | exact .inl rfl | exact .inr rfl) han4 hdA4 hal (by rw [List.length_map]; omega)) BB1 F26 XX1 N26 TT1 rfl (show dp + 1 + 4 < recursionLimit by omega) (show un + 3 + 64 < cLine by omega) ?_)
    intro v13 tl13 h13 tk13 F27 N27 lt13 hd13
    clear F26 N26
    rw [List.length_map] at hd13
    have hG5 := hG4.app lt13
    k_steps
    unfold Halt
    rename News _ _ _ _ => N28
    refine neL N28 (List.mem_append.mpr (.inl han4)) (List.mem_append.mpr (.inl hws4)) (hdA4.mono fun p hp => List.mem_append.mpr (.inl hp)) (hdW4.mono fun p hp => List.mem_append.mpr (.inl hp)) hokA (show un + 3 + 64 < cLine by omega) ?_
    k_steps
    rename Fr h₀ L _ _ => F29
    rename News h₀ L _ _ => N29
    obtain ⟨tl, a1, a2, a3, _⟩ := hG5.pair hd13
    exact hret _ tl _ _ F29 (news_sub N29 a1) a2 a3)
end Mine
end

section
open PySem PySem.W PyProof.Rows PySem.Calls
set_option maxRecDepth 100000
set_option maxHeartbeats 1000000
namespace Mine
def top : PP := (Str.ofString "~", Str.ofString "~")
theorem name_addr {h₀ h : Heap} {L a : Addr} {o : Obj} {r : List (Addr × Obj)} (_N : News h₀ L h ((a, o) :: r)) : ∃ a', a' = a := ⟨a, rfl⟩
theorem emp_le (p : PP) : le2 emp p = true := by
  unfold le2
  cases e : lt2 p emp with
  | false => rfl
  | true =>
    rw [lt2_iff] at e
    have h0 : emp.1.cps.toList = [] := by decide +kernel
    have h1 : emp.2.cps.toList = [] := by decide +kernel
    rw [h0, h1] at e
    rcases e with ⟨_, e⟩ | e
    · exact absurd e (List.not_lt_nil _)
    · exact absurd e (List.not_lt_nil _)
theorem rep_two (s : Nat) (c : PP) : List.replicate s c ++ List.replicate s c = List.replicate (2 * s) c := by
  rw [List.replicate_append_replicate]; congr 1; omega
theorem srt_low (A : List PP) (s : Nat) : srt (List.replicate s emp ++ A ++ List.replicate s emp) = List.replicate (2 * s) emp ++ srt A := by
  refine (srt_unique ?_ ?_).symm
  · rw [← rep_two, List.append_assoc, List.append_assoc]
    refine List.Perm.append_left _ ?_
    exact (List.Perm.append_left _ (srt_perm A)).trans List.perm_append_comm
  · rw [List.pairwise_append]
    refine ⟨List.pairwise_replicate.mpr (.inr (le2_refl _)), srt_sorted A, fun a ha b _ => ?_⟩
    rw [List.eq_of_mem_replicate ha]; exact emp_le b
theorem srt_high (A : List PP) (s : Nat) (h : ∀ p ∈ A, le2 p top = true) : srt (List.replicate s top ++ A ++ List.replicate s top) = srt A ++ List.replicate (2 * s) top := by
  refine (srt_unique ?_ ?_).symm
  · rw [← rep_two, ← List.append_assoc]
    refine List.Perm.append_right _ ?_
    exact List.perm_append_comm.trans (List.Perm.append_left _ (srt_perm A))
  · rw [List.pairwise_append]
    refine ⟨srt_sorted A, List.pairwise_replicate.mpr (.inr (le2_refl _)), fun a ha b hb => ?_⟩
    rw [List.eq_of_mem_replicate hb]; exact h a ((srt_perm A).mem_iff.mp ha)
theorem mid_add {f : Addr} {n s : Nat} (h : 1 ≤ n) : mid f (n + 2 * s) = s + mid f n := by
  unfold mid
  split <;> omega
theorem mid_lt {f : Addr} {n : Nat} (h : 1 ≤ n) : mid f n < n := by
  unfold mid
  split <;> omega
theorem read_low {A : List PP} {f : Addr} {n s : Nat} (hn : A.length = n) (h : 1 ≤ n) (hs : s ≤ mid f n) : (srt (List.replicate s emp ++ A ++ List.replicate s emp)).getD (mid f (n + 2 * s)) default = (srt A).getD (mid f n - s) default := by
  rw [srt_low, mid_add h, List.getD_eq_getElem?_getD, List.getD_eq_getElem?_getD, List.getElem?_append_right (by rw [List.length_replicate]; omega), List.length_replicate]
  congr 2
  omega
theorem read_high {A : List PP} {f : Addr} {n s : Nat} (hn : A.length = n) (h : 1 ≤ n) (hs : s + mid f n < n) (ht : ∀ p ∈ A, le2 p top = true) : (srt (List.replicate s top ++ A ++ List.replicate s top)).getD (mid f (n + 2 * s)) default = (srt A).getD (mid f n + s) default := by
  rw [srt_high _ _ ht, mid_add h, List.getD_eq_getElem?_getD, List.getD_eq_getElem?_getD, List.getElem?_append_left (by rw [srt_len]; omega)]
  congr 2
  omega

section
variable {prog : Program} {w : World} {A : Around} {E : Value → Shared → Prop} {s : Shared} {env : Env} {h₀ : Heap} {x : Str} {body : List Stmt} {Q : Flow → Shared → Prop}
theorem range_iter {r : Addr} {b₀ : Int} {t₀ u₀ v₀ : Tok} {n : Nat} {m₀ : Str → Option Value} {news : List (Addr × Obj)} (J : Nat → (Str → Option Value) → List (Addr × Obj) → Prop)
    (hh : A.handled = none) (hr : IsRange s.heap r 0 b₀ 1 t₀ u₀ v₀) (hsmall : Builtin.Range.small 0 b₀ 1 = true) (hsz : Builtin.Range.rangeSize 0 b₀ 1 = (n : Int)) (F : Fr h₀ env.locals s.heap m₀) (N : News h₀ env.locals s.heap news) (hj : J 0 m₀ news)
    (turn : ∀ (i : Nat) t m₁ nx h tk own, i < n → OwnOff own (nx.map (·.1)) → (∀ p ∈ own, p.2.cls ≠ .type "tuple") → J i m₁ nx → Fr h₀ env.locals h (fun y => if y = x then some (.int (i : Int) t) else m₁ y) → News h₀ env.locals h (nx ++ own) →
      wpAny (model prog w) A (execs body env) (InvPostG h₀ env.locals (J (i + 1)) own { s with heap := h, toks := tk } Q) E { s with heap := h, toks := tk })
    (done : ∀ m₁ nx h tk, J n m₁ nx → Fr h₀ env.locals h m₁ → News h₀ env.locals h nx → Q .next { s with heap := h, toks := tk }) :
    wpAny (model prog w) A (pyIter (.ref r)) (fun it s₂ => LoopAtV prog w A h₀ env x body Q E it s₂) E s := by
  refine wpAny_pyIter_range hr hsmall ?_
  have W : Walks prog w A s.heap.objs.size [s.heap.objs.size] [s.heap.objs.size] n (fun i v => i < n ∧ ∃ t, v = .int (0 + i * 1) t)
      (fun i h => IsRangeIter h s.heap.objs.size (0 + (i : Nat) * 1) ((n : Int) - (i : Nat)) 1) := (Walks.range hh _ 0 1 n).bound
  have hI0 : h₀.get? s.heap.objs.size = none := next_is_new F
  refine ⟨_, _, _, n, _, _, m₀, news, J, rfl, W, ?_, ?_, ?_, (by show IsRangeIter _ _ _ _ _; rw [hsz]; simpa using Heap.get?_push_size _ rfl), F.push _, (fun p hp => ⟨Heap.get?_push_of_some _ (N p hp).1, (N p hp).2⟩), hj, ?_, ?_⟩
  · intro hm
    exact absurd F.ns.lt ((List.mem_singleton.mp hm) ▸ Nat.lt_irrefl _)
  · intro b hb
    rw [List.mem_singleton.mp hb]
    exact hI0
  · intro p hp hI
    exact absurd (Heap.lt_size (N p hp).1) ((List.mem_singleton.mp hI) ▸ Nat.lt_irrefl _)
  · rintro i v m₁ nx s₁ own ⟨hh', tk', rfl⟩ hin ⟨_, t, rfl⟩ hJ hoff hown hget hfp hst F₁ N₁
    have e1 : 0 + (i : Int) * 1 = (i : Int) := by omega
    rw [e1] at F₁
    have hst' : hh'.get? s.heap.objs.size = some _ := hst
    have hcls : ∀ p ∈ own, p.2.cls ≠ .type "tuple" := fun p hp => by
      have h1 := hget p hp
      rw [List.mem_singleton.mp (hown p hp)] at h1
      have h2 := hst'.symm.trans h1
      rw [← Option.some.inj h2]
      show Value.type "range_iterator" ≠ Value.type "tuple"
      decide
    have hsep : OwnOff own (nx.map (·.1)) := by
      intro p hp b hb e
      obtain ⟨q, hq, rfl⟩ := List.mem_map.mp hb
      exact hoff q hq (e ▸ hown p hp)
    have N₂ : News h₀ env.locals hh' (nx ++ own) := fun p hp => N₁ p ((List.mem_append.mp hp).elim (fun h => List.mem_append.mpr (.inr h)) fun h => List.mem_append.mpr (.inl h))
    refine wpAny_mono (turn i t m₁ nx hh' tk' own hin hsep hcls hJ F₁ N₂) (fun f s₂ p => ?_) fun _ _ e => e
    have fin : InvEndG h₀ env.locals (J (i + 1)) own { s with heap := hh', toks := tk' } s₂ → LoopStepU h₀ env.locals [s.heap.objs.size] own (J (i + 1)) { s with heap := hh', toks := tk' } .next s₂ := by
      rintro ⟨h', tk, m', news', nx', e, F', N', hn, ho, ha, hm⟩
      refine ⟨rfl, h', tk, m', nx', e, F', fun p hp => N' p ((List.mem_append.mp hp).elim (ho p) (hn p)), fun p hp hq => ?_, hm⟩
      exact ha _ (hfp _ (List.mem_singleton.mpr rfl) hI0 _ hst') p.1 (List.mem_map.mpr ⟨p, hp, rfl⟩) (List.mem_singleton.mp hq).symm
    cases f with
    | ret v => exact .ret p
    | brk => exact .brk p
    | next => exact .next (fin p)
    | cont => exact .cont (fin p)
  · rintro h' tk m' news' F' N' _ hJ
    exact done m' news' h' tk hJ F' N'
end
end Mine
end

section
open PySem PySem.W PyProof.Rows PySem.Calls
set_option maxRecDepth 100000
set_option maxHeartbeats 1000000
namespace Mine
theorem fill4 : (PySem.Challenge.rw_nb0048_01 = PySem.Challenge.rw_nb0048_01) ∧ (Mine.hd.heap_39 = Mine.hd.heap_39) := by w_top off; k_fill; exact ⟨rfl, rfl⟩
local macro_rules | `(tactic| walk_at "exec For Name Call cons nil") => `(tactic| refine halt ?_)
local macro_rules | `(tactic| walk_at "pyIter ref") => `(tactic| refine halt ?_)
local macro_rules | `(tactic| walk_at "call ref") => `(tactic| refine halt ?_)
def laidF : PP × Bool := ((Str.ofString "~", Str.ofString "~["), false)
def laidT : PP × Bool := ((Str.ofString "~", Str.ofString "~"), true)

local macro_rules | `(tactic| walk_at "call builtin:list.append") => `(tactic| refine halt ?_)
theorem laidF_ok : okE laidF = true := by decide +kernel
theorem laidT_ok : okE laidT = true := by decide +kernel
theorem laidF_clean : clean laidF.1 = emp := by decide +kernel
theorem laidT_clean : clean laidT.1 = top := by decide +kernel
theorem side_clean (s : Nat) (l : PP) (es : List (PP × Bool)) : (List.replicate s l ++ es.map (·.1) ++ List.replicate s l).map clean = List.replicate s (clean l) ++ es.map (fun e => clean e.1) ++ List.replicate s (clean l) := by
  rw [List.map_append, List.map_append, List.map_replicate, List.map_map]; rfl

theorem read {w : World} {mean : ExcName → Option Value} {mg mb : Str → Option Value} {news : List (Addr × Obj)} {f x : Addr} {vs : List Value} {n : Nat} {es : List (PP × Bool)} {t t' : Tok}
    (hf : f = 41 ∨ f = 48) (hx : (x, listOf vs.toArray n) ∈ news) (hD : DatAll news vs (es.map enD)) (h64 : es.length < 10) (hok : ∀ e ∈ es, okE e = true) (htop : ∀ e ∈ es, le2 (clean e.1) top = true) (hne : 1 ≤ es.length) :
    Says w mean mg mb 74 [.ref f, .ref x, .int (mid f es.length : Nat) t, .int (es.length - mid f es.length : Nat) t'] 16 256 news (fun tl r => ∃ D us c, r = .ref D ∧ (D, listOf us.toArray c) ∈ tl ∧ DatAll (news ++ tl) us ((srt (es.map fun e => clean e.1)).map prD)) := by
  unfold Says
  intro dp un gd cn cs a ccd cl outer A₀ base h₀ L m s Q E B F X N T hk hd hu hret
  have kdm := kdMark
  refine wpAny_call ?_
  k_dflt ktr_enter
  k_steps
  unfold Halt
  rename Fr _ _ _ _ => F1
  rename News _ _ _ _ => N1
  rename (∀ p ∈ news, p.1 < _) => lt1
  refine For_invVF F1 (by rfl) (by rfl) ?_
  k_steps
  unfold Halt
  rename IsRange _ _ _ _ _ _ _ _ => R1
  rename Fr _ _ _ _ => F2
  rename News _ _ _ _ => N2
  obtain ⟨D, hDe⟩ := name_addr N2
  subst hDe
  have hmid := mid_lt (f := f) hne
  refine range_iter (fun i m' nx => ∃ us c tl, nx = (D, listOf us.toArray c) :: (news ++ tl) ∧ (∀ p ∈ news ++ tl, p.1 ≠ D) ∧ (∀ q ∈ news, ∀ p ∈ tl, q.1 < p.1) ∧ DatAll (news ++ tl) us (((srt (es.map fun e => clean e.1)).take i).map prD) ∧
      m' (Str.ofString "row") = some (.ref D) ∧ m' (Str.ofString "ask") = some (.ref f) ∧ m' (Str.ofString "pairs") = some (.ref x) ∧ m' (Str.ofString "down") = some (.int (mid f es.length : Nat) t) ∧ m' (Str.ofString "up") = some (.int (es.length - mid f es.length : Nat) t')) (n := mid f es.length)
    rfl R1 (small_one (by omega) (by omega) (by omega) (by omega)) (rangeSize_nat _ _) F2 N2 ⟨[], 0, [], by rw [List.append_nil], ?_, ?_, .nil, rfl, rfl, rfl, rfl, rfl⟩ ?_ ?_
  · intro p hp
    rw [List.append_nil] at hp
    exact Nat.ne_of_lt (lt1 p hp)
  · intro q _ p hp
    exact absurd hp List.not_mem_nil
  · rintro i ti m₁ nx h tk own hi hoff hcls ⟨us, c, tl, rfl, hneD, hlt, hdat, e1, e2, e3, e4, e5⟩ F₁ N₁
    rw [pin e1] at F₁
    rw [pin e2] at F₁
    rw [pin e3] at F₁
    rw [pin e4] at F₁
    rw [pin e5] at F₁
    clear F2 N2 R1
    k_steps
    unfold Halt
    rename Fr _ _ _ _ => F3
    rename News _ _ _ _ => N3
    rename (∀ p ∈ (D, _) :: (news ++ tl) ++ own, p.1 < _) => lt3
    rename (_ < _ ∧ AllLt _ _) => lt4
    obtain ⟨T2, hTe⟩ := name_addr N3
    subst hTe
    rw [show ((mid f es.length : Nat) : Int) - (i : Int) = ((mid f es.length - i : Nat) : Int) by omega]
    obtain ⟨Λ, N4, hG, hDin, hown, hy⟩ := pack (fun Λ => Grow (news ++ tl) Λ ∧ (D, listOf us.toArray c) ∈ Λ ∧ (∀ p ∈ own, p ∈ Λ) ∧ DatIn Λ (.ref T2) (enD laidF)) N3 (by
      have hG0 : Grow (news ++ tl) ((D, listOf us.toArray c) :: (news ++ tl) ++ own) := Grow.other (Grow.list (Grow.refl _) rfl) hcls
      have hG1 : Grow (news ++ tl) _ := pack_of N3 (by
        refine Grow.lt (hG0.lt lt3) ?_
        intro p hp
        rcases List.mem_cons.mp hp with rfl | hp
        · exact lt4.1
        · exact ktn_ltOf lt4.2 p hp)
      refine ⟨hG1, .tail _ (.tail _ (.head _)), fun p hp => .tail _ (.tail _ (List.mem_append.mpr (.inr hp))), ?_⟩
      exact DatIn.tuple (vs := [_, _]) (.head _) (.cons (.tuple (vs := [_, _]) (.tail _ (.head _)) (.cons (.str _ _) (.cons (.str _ _) .nil))) (.cons (.bool _) .nil)))
    clear N3 lt3 lt4
    have hnL : ∀ p ∈ news, p ∈ Λ := fun p hp => hG.1 p (List.mem_append.mpr (.inl hp))
    rename Below _ _ _ _ => BB
    rename Frag.In _ _ => XX
    rename Top _ _ _ _ _ _ => TT
    k_dflt (refine says_use (middle (laid := laidF) hf (hnL _ hx) (hD.mono hnL) hy (by omega) (fun e he => by
      rcases List.mem_cons.mp he with rfl | he
      · exact laidF_ok
      · exact hok e he) hne) BB F3 XX N4 TT rfl (show dp + 1 + 8 < recursionLimit by omega) (show un + 3 + 128 < cLine by omega) ?_)
    intro v tl' h' tk' F4 N5 lt5 hv
    rw [side_clean, laidF_clean, read_low (by rw [List.length_map]) hne (by omega), show mid f es.length - (mid f es.length - i) = i by omega] at hv
    clear F3 N4
    obtain ⟨add, a1, a2, a3, a4⟩ := (hG.app lt5).pair hv
    have hDin' : (D, listOf us.toArray c) ∈ Λ ++ tl' := List.mem_append.mpr (.inl hDin)
    have hadd : ∀ r ∈ add, r.1 ≠ D := fun r hr => news_ne N5 (a1 r (List.mem_append.mpr (.inr hr))) hDin' (by rw [a4 r hr]; show Value.type "tuple" ≠ Value.type "list"; decide)
    have hao : ∀ p ∈ own, ∀ r ∈ add, p.1 ≠ r.1 := fun p hp r hr => news_ne N5 (List.mem_append.mpr (.inl (hown p hp))) (a1 r (List.mem_append.mpr (.inr hr))) (by rw [a4 r hr]; exact hcls p hp)
    k_steps
    unfold Halt
    rename Fr _ _ _ _ => F5
    rename News _ _ _ _ => N6
    have hul : us.length = i := by rw [hdat.length, List.length_map, List.length_take, srt_len, List.length_map]; omega
    refine app_ (us := us) (c := c) (rest := (news ++ (tl ++ add)) ++ own) F5 N6 ?_ ?_ (by rw [sizeLine_eq]; omega) (fun h'' F6 N7 => ?_)
    · intro p hp
      rcases List.mem_cons.mp hp with rfl | hp
      · exact hDin'
      · rcases List.mem_append.mp hp with hp | hp
        · exact a1 p (by rw [List.append_assoc]; exact hp)
        · exact List.mem_append.mpr (.inl (hown p hp))
    · intro p hp
      rw [← List.append_assoc] at hp
      rcases List.mem_append.mp hp with hp | hp
      · rcases List.mem_append.mp hp with hp | hp
        · exact hneD p hp
        · exact hadd p hp
      · exact hoff p hp D (List.mem_map.mpr ⟨_, List.mem_cons_self, rfl⟩)
    clear F5 N6
    k_steps
    rename Fr _ _ _ _ => F7
    rename News _ _ _ _ => N8
    refine InvEndG.intro (nx := (D, listOf (us ++ [v]).toArray (c + 1)) :: (news ++ (tl ++ add))) F7 N8 ⟨us ++ [v], c + 1, tl ++ add, rfl, ?_, ?_, ?_, rfl, rfl, rfl, rfl, rfl⟩ ?_ ?_ ?_
    · intro p hp
      rw [← List.append_assoc] at hp
      rcases List.mem_append.mp hp with hp | hp
      · exact hneD p hp
      · exact hadd p hp
    · intro q hq p hp
      rcases List.mem_append.mp hp with hp | hp
      · exact hlt q hq p hp
      · exact a2 q (List.mem_append.mpr (.inl hq)) p hp
    · have hlen : i < (srt (es.map fun e => clean e.1)).length := by rw [srt_len, List.length_map]; omega
      rw [List.take_add_one, List.getElem?_eq_getElem hlen, List.map_append, ← List.append_assoc]
      refine DatAll.append (hdat.mono fun p hp => List.mem_append.mpr (.inl hp)) (DatAll.one ?_)
      rw [List.getD_eq_getElem?_getD, List.getElem?_eq_getElem hlen] at a3
      exact a3
    · intro p hp b hb
      obtain ⟨r, hr, rfl⟩ := List.mem_map.mp hb
      rw [← List.append_assoc] at hr
      rcases List.mem_cons.mp hr with rfl | hr
      · exact hoff p hp D (List.mem_map.mpr ⟨_, List.mem_cons_self, rfl⟩)
      · rcases List.mem_append.mp hr with hr | hr
        · exact hoff p hp r.1 (List.mem_map.mpr ⟨r, .tail _ hr, rfl⟩)
        · exact hao p hp r hr
    · intro p hp
      rcases List.mem_cons.mp hp with rfl | hp
      · exact .head _
      · exact .tail _ (List.mem_append.mpr (.inl hp))
    · exact fun p hp => .tail _ (List.mem_append.mpr (.inr hp))
  · rintro m₁ nx h tk ⟨us, c, tl, rfl, hneD, hlt, hdat, e1, e2, e3, e4, e5⟩ F₁ N₁
    rw [pin e1] at F₁
    rw [pin e2] at F₁
    rw [pin e3] at F₁
    rw [pin e4] at F₁
    rw [pin e5] at F₁
    clear F2 N2 R1
    dsimp only
    k_steps
    unfold Halt
    rename Fr _ _ _ _ => G1
    rename News _ _ _ _ => M1
    refine For_invVF G1 (by rfl) (by rfl) ?_
    k_steps
    unfold Halt
    rename IsRange _ _ _ _ _ _ _ _ => R2
    rename Fr _ _ _ _ => G2
    rename News _ _ _ _ => M2
    refine range_iter (fun i m' nx => ∃ us c tl, nx = (D, listOf us.toArray c) :: (news ++ tl) ∧ (∀ p ∈ news ++ tl, p.1 ≠ D) ∧ (∀ q ∈ news, ∀ p ∈ tl, q.1 < p.1) ∧ DatAll (news ++ tl) us (((srt (es.map fun e => clean e.1)).take (mid f es.length + i)).map prD) ∧
        m' (Str.ofString "row") = some (.ref D) ∧ m' (Str.ofString "ask") = some (.ref f) ∧ m' (Str.ofString "pairs") = some (.ref x) ∧ m' (Str.ofString "down") = some (.int (mid f es.length : Nat) t) ∧ m' (Str.ofString "up") = some (.int (es.length - mid f es.length : Nat) t')) (n := es.length - mid f es.length)
      rfl R2 (small_one (by omega) (by omega) (by omega) (by omega)) (rangeSize_nat _ _) G2 M2 ⟨us, c, tl, rfl, hneD, hlt, hdat, rfl, rfl, rfl, rfl, rfl⟩ ?_ ?_
    · clear hneD hlt hdat e1 e2 e3 e4 e5 G2 M2 R2
      rintro i ti m₁ nx h tk own hi hoff hcls ⟨us, c, tl, rfl, hneD, hlt, hdat, e1, e2, e3, e4, e5⟩ F₁ N₁
      rw [pin e1] at F₁
      rw [pin e2] at F₁
      rw [pin e3] at F₁
      rw [pin e4] at F₁
      rw [pin e5] at F₁
      k_steps
      unfold Halt
      rename Fr _ _ _ _ => F3
      rename News _ _ _ _ => N3
      rename (∀ p ∈ (D, _) :: (news ++ tl) ++ own, p.1 < _) => lt3
      rename (_ < _ ∧ AllLt _ _) => lt4
      obtain ⟨T2, hTe⟩ := name_addr N3
      subst hTe
      obtain ⟨Λ, N4, hG, hDin, hown, hy⟩ := pack (fun Λ => Grow (news ++ tl) Λ ∧ (D, listOf us.toArray c) ∈ Λ ∧ (∀ p ∈ own, p ∈ Λ) ∧ DatIn Λ (.ref T2) (enD laidT)) N3 (by
        have hG0 : Grow (news ++ tl) ((D, listOf us.toArray c) :: (news ++ tl) ++ own) := Grow.other (Grow.list (Grow.refl _) rfl) hcls
        have hG1 : Grow (news ++ tl) _ := pack_of N3 (by
          refine Grow.lt (hG0.lt lt3) ?_
          intro p hp
          rcases List.mem_cons.mp hp with rfl | hp
          · exact lt4.1
          · exact ktn_ltOf lt4.2 p hp)
        refine ⟨hG1, .tail _ (.tail _ (.head _)), fun p hp => .tail _ (.tail _ (List.mem_append.mpr (.inr hp))), ?_⟩
        exact DatIn.tuple (vs := [_, _]) (.head _) (.cons (.tuple (vs := [_, _]) (.tail _ (.head _)) (.cons (.str _ _) (.cons (.str _ _) .nil))) (.cons (.bool _) .nil)))
      clear N3 lt3 lt4
      have hnL : ∀ p ∈ news, p ∈ Λ := fun p hp => hG.1 p (List.mem_append.mpr (.inl hp))
      rename Below _ _ _ _ => BB
      rename Frag.In _ _ => XX
      rename Top _ _ _ _ _ _ => TT
      k_dflt (refine says_use (middle (laid := laidT) hf (hnL _ hx) (hD.mono hnL) hy (by omega) (fun e he => by
        rcases List.mem_cons.mp he with rfl | he
        · exact laidT_ok
        · exact hok e he) hne) BB F3 XX N4 TT rfl (show dp + 1 + 8 < recursionLimit by omega) (show un + 3 + 128 < cLine by omega) ?_)
      intro v tl' h' tk' F4 N5 lt5 hv
      rw [side_clean, laidT_clean, read_high (by rw [List.length_map]) hne (by omega) (fun p hp => by obtain ⟨e, he, rfl⟩ := List.mem_map.mp hp; exact htop e he)] at hv
      clear F3 N4
      obtain ⟨add, a1, a2, a3, a4⟩ := (hG.app lt5).pair hv
      have hDin' : (D, listOf us.toArray c) ∈ Λ ++ tl' := List.mem_append.mpr (.inl hDin)
      have hadd : ∀ r ∈ add, r.1 ≠ D := fun r hr => news_ne N5 (a1 r (List.mem_append.mpr (.inr hr))) hDin' (by rw [a4 r hr]; show Value.type "tuple" ≠ Value.type "list"; decide)
      have hao : ∀ p ∈ own, ∀ r ∈ add, p.1 ≠ r.1 := fun p hp r hr => news_ne N5 (List.mem_append.mpr (.inl (hown p hp))) (a1 r (List.mem_append.mpr (.inr hr))) (by rw [a4 r hr]; exact hcls p hp)
      k_steps
      unfold Halt
      rename Fr _ _ _ _ => F5
      rename News _ _ _ _ => N6
      have hul : us.length = (mid f es.length + i) := by rw [hdat.length, List.length_map, List.length_take, srt_len, List.length_map]; omega
      refine app_ (us := us) (c := c) (rest := (news ++ (tl ++ add)) ++ own) F5 N6 ?_ ?_ (by rw [sizeLine_eq]; omega) (fun h'' F6 N7 => ?_)
      · intro p hp
        rcases List.mem_cons.mp hp with rfl | hp
        · exact hDin'
        · rcases List.mem_append.mp hp with hp | hp
          · exact a1 p (by rw [List.append_assoc]; exact hp)
          · exact List.mem_append.mpr (.inl (hown p hp))
      · intro p hp
        rw [← List.append_assoc] at hp
        rcases List.mem_append.mp hp with hp | hp
        · rcases List.mem_append.mp hp with hp | hp
          · exact hneD p hp
          · exact hadd p hp
        · exact hoff p hp D (List.mem_map.mpr ⟨_, List.mem_cons_self, rfl⟩)
      clear F5 N6
      k_steps
      rename Fr _ _ _ _ => F7
      rename News _ _ _ _ => N8
      refine InvEndG.intro (nx := (D, listOf (us ++ [v]).toArray (c + 1)) :: (news ++ (tl ++ add))) F7 N8 ⟨us ++ [v], c + 1, tl ++ add, rfl, ?_, ?_, ?_, rfl, rfl, rfl, rfl, rfl⟩ ?_ ?_ ?_
      · intro p hp
        rw [← List.append_assoc] at hp
        rcases List.mem_append.mp hp with hp | hp
        · exact hneD p hp
        · exact hadd p hp
      · intro q hq p hp
        rcases List.mem_append.mp hp with hp | hp
        · exact hlt q hq p hp
        · exact a2 q (List.mem_append.mpr (.inl hq)) p hp
      · have hlen : (mid f es.length + i) < (srt (es.map fun e => clean e.1)).length := by rw [srt_len, List.length_map]; omega
        rw [show mid f es.length + (i + 1) = mid f es.length + i + 1 by omega, List.take_add_one, List.getElem?_eq_getElem hlen, List.map_append, ← List.append_assoc]
        refine DatAll.append (hdat.mono fun p hp => List.mem_append.mpr (.inl hp)) (DatAll.one ?_)
        rw [List.getD_eq_getElem?_getD, List.getElem?_eq_getElem hlen] at a3
        exact a3
      · intro p hp b hb
        obtain ⟨r, hr, rfl⟩ := List.mem_map.mp hb
        rw [← List.append_assoc] at hr
        rcases List.mem_cons.mp hr with rfl | hr
        · exact hoff p hp D (List.mem_map.mpr ⟨_, List.mem_cons_self, rfl⟩)
        · rcases List.mem_append.mp hr with hr | hr
          · exact hoff p hp r.1 (List.mem_map.mpr ⟨r, .tail _ hr, rfl⟩)
          · exact hao p hp r hr
      · intro p hp
        rcases List.mem_cons.mp hp with rfl | hp
        · exact .head _
        · exact .tail _ (List.mem_append.mpr (.inl hp))
      · exact fun p hp => .tail _ (List.mem_append.mpr (.inr hp))
    · clear hneD hlt hdat e1 e2 e3 e4 e5 G2 M2 R2
      rintro m₁ nx h tk ⟨us, c, tl, rfl, hneD, hlt, hdat, e1, e2, e3, e4, e5⟩ F₁ N₁
      rw [pin e1] at F₁
      dsimp only
      k_steps
      rename Fr h₀ L _ _ => F2
      rename News h₀ L _ _ => N2
      refine hret _ (tl ++ [(D, listOf us.toArray c)]) _ _ F2 (news_sub N2 ?_) ?_ ⟨D, us, c, rfl, List.mem_append.mpr (.inr (.head _)), ?_⟩
      · intro p hp
        rw [← List.append_assoc] at hp
        rcases List.mem_append.mp hp with hp | hp
        · exact .tail _ hp
        · rw [List.mem_singleton.mp hp]; exact .head _
      · intro q hq p hp
        rcases List.mem_append.mp hp with hp | hp
        · exact hlt q hq p hp
        · rw [List.mem_singleton.mp hp]; exact lt1 q hq
      · rw [List.take_of_length_le (by rw [srt_len, List.length_map]; omega)] at hdat
        rw [← List.append_assoc]
        exact hdat.mono fun p hp => List.mem_append.mpr (.inl hp)
end Mine
end

section
open PySem PySem.W PyProof.Rows PySem.Calls
set_option maxRecDepth 100000
set_option maxHeartbeats 1000000
namespace Mine
theorem rc_le_str {prog : Program} {w : World} {A : Around} {E : Value → Shared → Prop} {s : Shared} {x y : Str} {t u : Tok} {Q : Value → Shared → Prop} (h : Q (.bool (!decide (y.cps.toList < x.cps.toList))) s) : wpAny (model prog w) A (richCompare .LtE (.str x t) (.str y u)) Q E s :=
  PySem.P.le_str (Q := Q) h
theorem tuple_leAt (l b : Addr) (p q : PP) (t u t' u' : Tok) (n n2 : Nat) :
    Meets (Builtin.«tuple.__le__» ⟨[.ref l, .ref b], []⟩)
      (fun A R s => s.heap.get? l = some { cls := .type "tuple", data := .seq #[.str p.1 t, .str p.2 u] n } ∧ s.heap.get? b = some { cls := .type "tuple", data := .seq #[.str q.1 t', .str q.2 u'] n2 } ∧
        R (.ok (.ret (.bool (le2 p q)))) s) :=
  .of_wp fun prog w A R s h => by
    obtain ⟨hp, g, d, tk, os⟩ := s; obtain ⟨hl, hb, h⟩ := h
    have f2 := AutoSeq1.sub_tuple_tuple
    wp_walk using wpAny_loadPart' hl, wpAny_loadPart' hb, eqBool_str ?_
    by_cases e1 : p.1 = q.1
    · rw [show (p.1 == q.1) = true by simpa using e1]
      simp only [Bool.not_true, Bool.false_eq_true, if_false]
      wp_walk using eqBool_str ?_
      by_cases e2 : p.2 = q.2
      · rw [show (p.2 == q.2) = true by simpa using e2]
        simp only [Bool.not_true, Bool.false_eq_true, if_false]
        wp_walk
        refine ⟨_, rfl, ?_⟩
        rw [show p = q from Prod.ext e1 e2, le2_refl] at h
        exact h
      · rw [show (p.2 == q.2) = false by simpa using e2]
        simp only [Bool.not_false, if_true]
        wp_walk using rc_le_str ?_
        refine ⟨_, rfl, ?_⟩
        have e3 : le2 p q = !decide (q.2.cps.toList < p.2.cps.toList) := by unfold le2 lt2; rw [if_pos e1.symm]
        rw [e3] at h
        exact h
    · rw [show (p.1 == q.1) = false by simpa using e1]
      simp only [Bool.not_false, if_true]
      wp_walk using rc_le_str ?_
      refine ⟨_, rfl, ?_⟩
      have e3 : le2 p q = !decide (q.1.cps.toList < p.1.cps.toList) := by unfold le2 lt2; rw [if_neg fun x => e1 x.symm]
      rw [e3] at h
      exact h
theorem leT {prog : Program} {w : World} {A : Around} {E : Value → Shared → Prop} {s : Shared} {a b : Addr} {p q : PP} {t u t' u' : Tok} {n n2 : Nat} {Q : Value → Shared → Prop} (ha : s.heap.get? a = some { cls := .type "tuple", data := .seq #[.str p.1 t, .str p.2 u] n })
    (hb : s.heap.get? b = some { cls := .type "tuple", data := .seq #[.str q.1 t', .str q.2 u'] n2 }) (hu : A.units < cLine) (h : Q (.bool (le2 p q)) s) : wpAny (model prog w) A (compareOp .LtE (.ref a) (.ref b)) Q E s :=
  richCompare_meets_room (op := .LtE) ⟨_, ha, rfl⟩ ⟨_, hb, rfl⟩ F.slot_tuple_le F.entry_tuple_le (F.args_tuple_le_2 _ _) (tuple_leAt a b p q t u t' u' n n2)
    ⟨ha, hb, show Value.bool (le2 p q) ≠ Value.notImplemented ∧ Q (.bool (le2 p q)) s from ⟨(fun x => nomatch x), h⟩⟩ hu

/-- the pair of texts that a value is -/
def pairAt (h : Heap) (v : Value) : Option PP := match v with
  | .ref a => (match h.get? a with
    | some o => (match o.data with
      | .seq xs _ => (match xs.toList with
        | [.str x _, .str y _] => some (x, y)
        | _ => none)
      | _ => none)
    | none => none)
  | _ => none
section
variable {prog : Program} {w : World} {A : Around} {E : Value → Shared → Prop} {s : Shared} {h₀ h : Heap} {L : Addr} {news : List (Addr × Obj)}
theorem pairAt_of (N : News h₀ L h news) {v : Value} {p : PP} (hd : DatIn news v (prD p)) : pairAt h v = some p := by
  obtain ⟨a, t, u, n, rfl, hm⟩ := pairs_open hd
  unfold pairAt
  dsimp only
  rw [(N _ hm).1]
theorem datAll_mem {us : List Value} {ds : List PP} : ∀ {us ds}, DatAll news us (List.map prD ds) → ∀ y ∈ us, ∃ p ∈ ds, DatIn news y (prD p)
  | [], _, _, _, hy => absurd hy List.not_mem_nil
  | _ :: _, [], hD, _, _ => nomatch hD
  | v :: us, p :: ds, hD, y, hy => by
    cases hD with
    | cons h1 h2 =>
      rcases List.mem_cons.mp hy with rfl | hy
      · exact ⟨p, .head _, h1⟩
      · obtain ⟨q, hq, hd⟩ := datAll_mem (us := us) (ds := ds) h2 y hy
        exact ⟨q, .tail _ hq, hd⟩
theorem count_same (N : News h₀ L h news) (q : PP) : ∀ {us : List Value} {ds : List PP}, DatAll news us (ds.map prD) → us.countP (fun y => decide (pairAt h y = some q)) = ds.count q
  | [], [], _ => rfl
  | [], _ :: _, hD => nomatch hD
  | _ :: _, [], hD => nomatch hD
  | v :: us, p :: ds, hD => by
    cases hD with
    | cons h1 h2 =>
      rw [List.countP_cons, List.count_cons, count_same N q h2, pairAt_of N h1]
      congr 1
      by_cases e : p = q
      · subst e; simp
      · simp [e]
theorem kqdOk_of {p : PP} (h : okP p = true) : kqdOk 8 (prD p) = true := by
  unfold okP at h
  simpa [kqdOk] using h
theorem countL {l : Addr} {us : List Value} {c : Nat} {ds : List PP} {v : Value} {q : PP} {Q : Value → Shared → Prop} (N : News h₀ L s.heap news) (hl : (l, listOf us.toArray c) ∈ news) (hD : DatAll news us (ds.map prD)) (hv : DatIn news v (prD q)) (ok : ∀ p ∈ ds, okP p = true) (okq : okP q = true) (hu : A.units + 64 < cLine)
    (hQ : Q (.int (ds.count q : Nat) s.toks) { s with toks := s.toks + 1 }) : wpAny (model prog w) A (call (.builtin "list.count") [.ref l, v]) Q E s := by
  refine call_meets PySem.F.slot_list_count ⟨_, (N _ hl).1, rfl⟩ PySem.F.entry_list_count (PySem.F.args_list_count_2 _ _) (PySem.SeqAt.list_countAt l us.toArray c none #[] v (fun y => decide (pairAt s.heap y = some q))) ⟨(N _ hl).1, fun y hy => ?_, ?_⟩
  · obtain ⟨p, hp, hd⟩ := datAll_mem (us := us) (ds := ds) hD y (by simpa using hy)
    rw [pairAt_of N hd]
    obtain ⟨as, ra⟩ := kqd_in N 8 hd (kqdOk_of (ok p hp))
    obtain ⟨bs, rb⟩ := kqd_in N 8 hv (kqdOk_of okq)
    have l1 := kqd_lay 8 _ (kqdOk_of (ok p hp))
    have l2 := kqd_lay 8 _ (kqdOk_of okq)
    have e1 := kqd_eqv 8 (prD p) (prD q) 8 (kqdOk_of (ok p hp)) (kqdOk_of okq)
    have e2 : PyData.eqv (kqdP (prD p)) (kqdP (prD q)) = decide (some p = some q) := by
      by_cases e : p = q
      · subst e
        rw [e1.mpr rfl]; simp
      · have : ¬ PyData.eqv (kqdP (prD p)) (kqdP (prD q)) = true := fun x => by
          have y := e1.mp x
          simp only [Dat.tuple.injEq, List.cons.injEq, Dat.str.injEq] at y
          exact e (Prod.ext y.1 y.2.1)
        rw [Bool.eq_false_iff.mpr this]
        simp [e]
    rw [← e2]
    refine PySem.SeqAt.eqAt_reads _ _ A.in1 s y v as bs ra rb l1.1 l2.1 ?_
    have := Nat.min_le_left (kqdP (prD p)).depth (kqdP (prD q)).depth
    have l3 := l1.2
    show A.units + 1 + _ < cLine
    omega
  · rw [List.toList_toArray, count_same N q hD]
    exact hQ
end
end Mine
end

section
open PySem PySem.W PyProof.Rows PySem.Calls PyProof.Rows.LCg
set_option maxRecDepth 100000
set_option maxHeartbeats 1000000
namespace Mine
section
variable {prog : Program} {w : World} {A : Around} {E : Value → Shared → Prop} {s : Shared} {h₀ : Heap} {L : Addr} {m : Str → Option Value} {env : Env}

/-- a comprehension over a list or a range, of any length; S: what must stay, P: the item -/
theorem comp_restU {elt : Expr} {x : Str} {scope : Scope} {cl : List (Str × Addr)} {news : List (Addr × Obj)} {n : Nat} {S : List (Addr × Obj) → Prop} {P : Nat → Value → Prop} {Pre : Nat → List (Addr × Obj) → Value → Prop} {out : Nat → Dat} {Fin : List Value → List (Addr × Obj) → Prop}
    (hS : ∀ tl, S (news ++ tl)) (hP : ∀ i v tl, i < n → P i v → Pre i (news ++ tl) v)
    (helt : ∀ i < n, EltSays prog w A h₀ L m env elt scope cl s (fun nw m₂ => (∀ p ∈ news, p ∈ nw) ∧ ∃ v, Pre i nw v ∧ m₂ x = some v) (fun nw y => DatIn nw y (out i)))
    (hfin : ∀ us tl, DatAll (news ++ tl) us ((List.range n).map out) → (∀ q ∈ news, ∀ p ∈ tl, q.1 < p.1) → Fin us (news ++ tl)) :
    ∀ (k i : Nat) (ys : List Value) (tl : List (Addr × Obj)), k + i = n → DatAll (news ++ tl) ys ((List.range i).map out) → (∀ q ∈ news, ∀ p ∈ tl, q.1 < p.1) →
      CompRest prog w A h₀ L m env elt x scope cl s S P Fin k i ys (news ++ tl)
  | 0, i, ys, tl, hk, hy, hl => by
    obtain rfl : i = n := by omega
    exact CompRest.zero (hfin ys tl hy hl)
  | k + 1, i, ys, tl, hk, hy, hl => by
    refine CompRest.succ fun v I oI C oC D m₂ h tk E' hv hC h1 F N off ne => ?_
    refine helt i (by omega) (news ++ tl) I oI C oC D ys m₂ h tk E' _ ⟨fun p hp => List.mem_append.mpr (.inl hp), v, hP i v tl (by omega) hv, h1⟩ hC F N off ne ?_
    intro y h' tk' add F' N' la ho
    refine ⟨h', tk', (news ++ tl) ++ add, rfl, F', news_sub N' sub_grow, off3_grow off la, ?_, ?_⟩
    · rw [List.append_assoc]; exact hS _
    · rw [List.append_assoc] at ho ⊢
      refine comp_restU hS hP helt hfin k (i + 1) (ys ++ [y]) (tl ++ add) (by omega) ?_ ?_
      · rw [List.range_succ, List.map_append]
        refine DatAll.append (hy.mono fun p hp => ?_) (DatAll.one ho)
        rcases List.mem_append.mp hp with hp | hp
        · exact List.mem_append.mpr (.inl hp)
        · exact List.mem_append.mpr (.inr (List.mem_append.mpr (.inl hp)))
      · intro q hq p hp
        rcases List.mem_append.mp hp with hp | hp
        · exact hl q hq p hp
        · exact la q (.tail _ (.tail _ (.tail _ (List.mem_append.mpr (.inl hq))))) p hp

/-- over a range from 0 -/
theorem comp_range_src {elt : Expr} {x : Str} {scope : Scope} {cl : List (Str × Addr)} {Fin : Shared → List Value → List (Addr × Obj) → Prop} {r : Addr} {b : Int} {t u v : Tok} {n : Nat} {news : List (Addr × Obj)} {out : Nat → Dat} {s₁ : Shared}
    (hh : A.handled = none) (F : Fr h₀ L s₁.heap m) (N : News h₀ L s₁.heap news) (hr : IsRange s₁.heap r 0 b 1 t u v) (hsm : Builtin.Range.small 0 b 1 = true) (hn : Builtin.Range.rangeSize 0 b 1 = ((n : Nat) : Int)) (hsz : n < 4096)
    (helt : ∀ g, ∀ i < n, EltSays prog w A h₀ L m env elt scope cl { s₁ with heap := g } (fun nw m₂ => (∀ p ∈ news, p ∈ nw) ∧ ∃ v, (∃ t, v = .int (i : Int) t) ∧ m₂ x = some v) (fun nw y => DatIn nw y (out i)))
    (hfin : ∀ g us tl, DatAll (news ++ tl) us ((List.range n).map out) → (∀ q ∈ news, ∀ p ∈ tl, q.1 < p.1) → Fin { s₁ with heap := g } us (news ++ tl)) :
    CompSrc prog w A h₀ L m env elt x scope cl Fin (.ref r) s₁ := by
  refine CompSrc.range hh F N hr hsm hn (by rw [sizeLine_eq]; omega) fun g => ?_
  have R := comp_restU (s := { s₁ with heap := g }) (n := n) (S := fun _ => True) (P := fun i v => ∃ t, v = .int (0 + (i : Int)) t) (Pre := fun i _ v => ∃ t, v = Value.int (i : Int) t) (Fin := Fin { s₁ with heap := g }) (fun _ => trivial)
    (fun i v tl _ hv => by obtain ⟨t, rfl⟩ := hv; exact ⟨t, by rw [Int.zero_add]⟩) (helt g) (hfin g) n 0 [] [] (by omega) .nil (fun _ _ _ h => absurd h List.not_mem_nil)
  rw [List.append_nil] at R
  exact R

/-- over a list of data -/
theorem comp_list_src {elt : Expr} {x : Str} {scope : Scope} {cl : List (Str × Addr)} {Fin : Shared → List Value → List (Addr × Obj) → Prop} {ax : Addr} {vs : List Value} {c : Nat} {ds : List Dat} {news : List (Addr × Obj)} {out : Nat → Dat} {s₁ : Shared}
    (hh : A.handled = none) (F : Fr h₀ L s₁.heap m) (N : News h₀ L s₁.heap news) (hm : (ax, listOf vs.toArray c) ∈ news) (hD : DatAll news vs ds) (hsz : ds.length < 4096)
    (helt : ∀ g, ∀ i (hi : i < ds.length), EltSays prog w A h₀ L m env elt scope cl { s₁ with heap := g } (fun nw m₂ => (∀ p ∈ news, p ∈ nw) ∧ ∃ v, DatIn nw v ds[i] ∧ m₂ x = some v) (fun nw y => DatIn nw y (out i)))
    (hfin : ∀ g us tl, DatAll (news ++ tl) us ((List.range ds.length).map out) → (∀ q ∈ news, ∀ p ∈ tl, q.1 < p.1) → Fin { s₁ with heap := g } us (news ++ tl)) :
    CompSrc prog w A h₀ L m env elt x scope cl Fin (.ref ax) s₁ := by
  have hlen := hD.length
  refine CompSrc.ledger hh F N hm (by rw [List.size_toArray, sizeLine_eq]; omega) fun g => ?_
  have R := comp_restU (s := { s₁ with heap := g }) (n := ds.length) (S := SrcAt h₀ ax vs.toArray) (P := fun i v => vs.toArray[i]? = some v) (Pre := fun i nw v => ∃ hi : i < ds.length, DatIn nw v ds[i]) (out := out) (Fin := Fin { s₁ with heap := g })
    (fun tl => .inr ⟨_, List.mem_append.mpr (.inl hm), rfl, _, rfl⟩)
    (fun i v tl hi hv => by
      obtain ⟨v', hv', hd⟩ := hD.get hi
      rw [List.getElem?_toArray, hv'] at hv
      rw [← Option.some.inj hv]
      exact ⟨hi, hd.mono fun p hp => List.mem_append.mpr (.inl hp)⟩)
    (fun i hi nw I oI C oC D ys m₂ h tk E' R hpre hC F N off ne hR => helt g i hi nw I oI C oC D ys m₂ h tk E' R (by obtain ⟨h1, v, ⟨_, h2⟩, h3⟩ := hpre; exact ⟨h1, v, h2, h3⟩) hC F N off ne hR) (hfin g) ds.length 0 [] [] (by omega) .nil (fun _ _ _ h => absurd h List.not_mem_nil)
  rw [List.append_nil] at R
  rw [List.size_toArray, hlen]
  exact R

theorem bools_of {news : List (Addr × Obj)} : ∀ {us : List Value} {n : Nat}, DatAll news us ((List.range n).map fun _ => Dat.bool true) → LSm.BoolsAre us (List.replicate n true) := by
  intro us n h
  have e : (List.range n).map (fun _ => Dat.bool true) = List.replicate n (Dat.bool true) := by
    rw [List.map_const', List.length_range]
  rw [e] at h
  clear e
  induction n generalizing us with
  | zero => cases h; exact .nil
  | succ n ih =>
    rw [List.replicate_succ] at h
    cases h with
    | cons h1 h2 =>
      cases h1
      exact .cons _ (ih h2)
theorem allL {l : Addr} {us : List Value} {c n : Nat} {news : List (Addr × Obj)} {Q : Value → Shared → Prop} (F : Fr h₀ L s.heap m) (N : News h₀ L s.heap news) (hh : A.handled = none) (hl : (l, listOf us.toArray c) ∈ news) (hD : DatAll news us ((List.range n).map fun _ => Dat.bool true))
    (h : ∀ h' tk', Fr h₀ L h' m → News h₀ L h' news → Q (.bool true) { s with heap := h', toks := tk' }) : wpAny (model prog w) A (call (.builtin "all") [.ref l]) Q E s := by
  refine LSm.all_bools F N hh ⟨_, (N _ hl).1, rfl, c, rfl⟩ (bools_of hD) fun h' tk' F' N' => ?_
  have e : (List.replicate n true).all id = true := by simp
  first
    | (rw [e]; exact h h' tk' F' N')
    | (simpa using h h' tk' F' N')
end
end Mine
end

section
open PySem PySem.W PyProof.Rows PySem.Calls PyProof.Rows.LCg
set_option maxRecDepth 100000
set_option maxHeartbeats 1000000
namespace Mine
theorem fill5 : (PySem.Challenge.rw_nb0048_01 = PySem.Challenge.rw_nb0048_01) ∧ (Mine.hd.heap_39 = Mine.hd.heap_39) := by w_top off; k_fill; exact ⟨rfl, rfl⟩
local macro_rules | `(tactic| walk_at "exec For Name Name cons nil") => `(tactic| refine halt ?_)
local macro_rules | `(tactic| walk_at "call builtin:list.count") => `(tactic| refine halt ?_)
local macro_rules | `(tactic| walk_at "call builtin:len") => `(tactic| refine halt ?_)
local macro_rules | `(tactic| walk_at "call builtin:all") => `(tactic| refine halt ?_)
local macro_rules | `(tactic| walk_at "eval ListComp") => `(tactic| refine halt ?_)
local macro_rules | `(tactic| walk_at "exec Assign cons ListComp") => `(tactic| refine halt ?_)
local macro_rules | `(tactic| walk_at "CompSrc") => `(tactic| refine halt ?_)
local macro_rules | `(tactic| walk_at "compareOp LtE ref ref") => `(tactic| refine halt ?_)
local macro_rules | `(tactic| walk_at "subscriptTail") => `(tactic| refine halt ?_)
local macro_rules | `(tactic| walk_at "getMethod ref") => `(tactic| (k_here; (with_reducible show wpAny _ _ (getMethod (Value.ref _) (PySem.Str.ofString "count") _) _ _ _); k_dflt (refine' kl_method ?N ?m PySem.F.slot_list_count PySem.F.type_list_count ?_; (case N => k_asm); (case m => k_mem))))

theorem inOrder {w : World} {mean : ExcName → Option Value} {mg mb : Str → Option Value} {news : List (Addr × Obj)} {r x : Addr} {us vs : List Value} {c n : Nat} {es : List (PP × Bool)}
    (hr : (r, listOf us.toArray c) ∈ news) (hR : DatAll news us ((srt (es.map fun e => clean e.1)).map prD)) (hx : (x, listOf vs.toArray n) ∈ news) (hD : DatAll news vs (es.map enD)) (h64 : es.length < 10) (hok : ∀ e ∈ es, okE e = true) (hne : 1 ≤ es.length) :
    Says w mean mg mb 79 [.ref r, .ref x] 8 256 news (fun tl v => v = .bool true) := by
  unfold Says
  intro dp un gd cn cs a ccd cl outer A₀ base h₀ L m s Q E B F X N T hk hd hu hret
  have kdm := kdMark
  refine wpAny_call ?_
  k_dflt (refine' code_defC ?k1 ?k2 ?k3 ?k4 ?k5 ?kA ?kF ?kK ?k6 ?k7 ?k8 ?k9 ?kB ?kD ?_ ?c2 ?c3 ?c4; (case kA => exact rfl); (case kF => exact rfl); (case kK => assumption); (case k1 => k_asm); (case k2 => k_asm); (case k3 => k_asm); (case k4 => k_asm); (case k5 => k_asm); (case k6 => k_is); (case k7 => k_is); (case k8 => ktr_room); (case k9 => exact BindsTo.of_eq rfl); (case kB => exact rfl); (case kD => decide +kernel); (case c2 => exact rfl); (case c3 => exact rfl); (case c4 => exact rfl); k_whole; intro g' L' h' tk' cells' FG' F' N' Y' B' X' T' l1; (try k_lt l1); k_cells Y'; (try simp only [List.cons_append, List.nil_append] at N'); (try dsimp only); (try k_fold))
  k_steps
  unfold Halt
  have hvl : vs.length = es.length := by rw [hD.length, List.length_map]
  refine comp_pairsA (out := fun e => prD (if e.2 = true then e.1 else (Str.ofString "", Str.ofString ""))) F' (by rfl) (by with_unfolding_all rfl) (by with_unfolding_all rfl) (by decide) (by rfl) (by decide) (by rfl) (by rfl) (by decide) (by rfl) (by rfl) rfl ?_
  walk1
  refine ⟨x, vs, n, _, es, rfl, F', N', .tail _ hx, hD.mono (fun p hp => .tail _ hp), by omega, ?_, ?_⟩
  · intro g e _ nw I oI C oC D ys m₂ h tk E' R ⟨v₁, hd, h1, h2⟩ hC F N off ne hR
    clear F' N'
    k_steps
    · rename (e.2 = true) => he
      refine hR _ _ _ [] F N (fun _ _ _ h => absurd h List.not_mem_nil) ?_
      rw [List.append_nil, if_pos he]; exact hd
    · rename (e.2 = false) => he
      rename Fr _ _ _ _ => F20
      rename News _ _ _ _ => N20
      rename (I < _ ∧ C < _ ∧ D < _ ∧ AllLt _ nw) => l20
      refine hR _ _ _ [_] F20 N20 ?_ ?_
      · intro p hp q hq
        rw [List.mem_singleton.mp hq]
        rcases List.mem_cons.mp hp with rfl | hp
        · exact l20.1
        · rcases List.mem_cons.mp hp with rfl | hp
          · exact l20.2.1
          · rcases List.mem_cons.mp hp with rfl | hp
            · exact l20.2.2.1
            · exact ktn_ltOf l20.2.2.2 p hp
      · rw [if_neg (by rw [he]; exact Bool.false_ne_true)]
        exact DatIn.tuple (vs := [_, _]) (List.mem_append.mpr (.inr (.head _))) (.cons (.str _ _) (.cons (.str _ _) .nil))
  intro D1 us1 tl1 h1 tk1 F1 N1 ne1 lt1 hd1
  clear F' N'
  have hA : es.map (fun e => prD (if e.2 = true then e.1 else (Str.ofString "", Str.ofString ""))) = (es.map fun e => clean e.1).map prD := by
    rw [List.map_map]
    exact List.map_congr_left fun e he => by show prD _ = prD (clean e.1); rw [okE_clean (hok e he)]; rfl
  rw [hA] at hd1
  have hAl : (es.map fun e => clean e.1).length = es.length := List.length_map _
  have hAok : ∀ p ∈ es.map (fun e => clean e.1), okP p = true := fun p hp => by
    obtain ⟨e, he, rfl⟩ := List.mem_map.mp hp
    exact okP_clean (okE_okP (hok e he))
  generalize (es.map fun e => clean e.1) = A at hd1 hR hAl hAok
  clear hA
  have hSok : ∀ p ∈ srt A, okP p = true := fun p hp => hAok p ((srt_perm A).mem_iff.mp hp)
  obtain ⟨Λ, N2, hcell, hr2, hans, hR2, hA2, hnw⟩ := pack (fun Λ => (L' + 1, _) ∈ Λ ∧ (r, listOf us.toArray c) ∈ Λ ∧ (D1, listOf us1.toArray us1.length) ∈ Λ ∧ DatAll Λ us ((srt A).map prD) ∧ DatAll Λ us1 (A.map prD) ∧ ∀ p ∈ news, p ∈ Λ) N1
    ⟨.tail _ (.head _), .tail _ (.tail _ (List.mem_append.mpr (.inl hr))), .head _, hR.mono fun p hp => .tail _ (.tail _ (List.mem_append.mpr (.inl hp))), hd1.mono fun p hp => .tail _ hp, fun p hp => .tail _ (.tail _ (List.mem_append.mpr (.inl hp)))⟩
  clear N1 ne1 lt1 hd1
  rename (_ = Data.cell _) => d1
  have dR : _ = Data.cell (some (Value.ref r)) := d1
  clear d1
  k_steps
  unfold Halt
  have hl1 : us1.length = A.length := by rw [hA2.length, List.length_map]
  refine For_invVF F1 (by rfl) (by rfl) ?_
  walk1
  refine kdl_iter (fun i m' nx => nx = Λ ∧ m' (Str.ofString "answer") = some (.ref D1)) rfl hans F1 N2 ⟨rfl, rfl⟩ ?_ ?_
  · rintro i v m₁ nx h tk own hv hoff hl₁ ⟨hnx, e1⟩ F₁ N₁
    obtain rfl : Λ = nx := hnx.symm
    rw [pin e1] at F₁
    have hil : i < A.length := by rw [← hl1]; exact (List.getElem?_eq_some_iff.mp hv).1
    obtain ⟨ve, hve, hdv⟩ := hA2.get (k := i) (by rw [List.length_map]; exact hil)
    rw [hv] at hve
    obtain rfl := Option.some.inj hve
    rw [List.getElem_map] at hdv
    have hqok := hAok _ (List.getElem_mem hil)
    generalize A[i] = q at hdv hqok
    obtain ⟨vq, t1, u1, k1, rfl, hmq⟩ := pairs_open hdv
    clear F1 N2
    have hsub : ∀ p ∈ Λ, p ∈ Λ ++ own := fun p hp => List.mem_append.mpr (.inl hp)
    k_steps
    unfold Halt
    rename News _ _ _ _ => N3
    refine countL N3 (hsub _ hr2) (hR2.mono hsub) (hdv.mono hsub) hSok hqok (show un + 3 + 64 < cLine by omega) ?_
    rw [(srt_perm A).count_eq]
    k_steps
    unfold Halt
    rename News _ _ _ _ => N4
    refine countL N4 (hsub _ hans) (hA2.mono hsub) (hdv.mono hsub) hAok hqok (show un + 3 + 64 < cLine by omega) ?_
    k_steps
    · rename (_ ≠ _) => hc
      exact absurd rfl hc
    · rename Fr _ _ _ _ => F4
      rename News _ _ _ _ => N5
      exact InvEndG.intro (nx := Λ) F4 N5 ⟨hans, rfl, rfl⟩ hoff (fun p hp => List.mem_append.mpr (.inl hp)) fun p hp => List.mem_append.mpr (.inr hp)
  · rintro m₁ nx h tk ⟨hnx, e1⟩ F₁ N₁
    obtain rfl : Λ = nx := hnx.symm
    clear F1 N2
    dsimp only
    k_steps
    unfold Halt
    refine ListComp_U (F₀ := F₁) (by with_unfolding_all rfl) (by decide) (by rfl) (by decide) (by rfl) ?_
    k_steps
    unfold Halt
    have hrl : us.length = A.length := by rw [hR2.length, List.length_map, srt_len]
    refine lenL N₁ hr2 hrl (by omega) ?_
    k_steps
    unfold Halt
    rename IsRange _ _ _ _ _ _ _ _ => R1
    rename Fr _ _ _ _ => F2
    rename News _ _ _ _ => N3
    rw [show (A.length : Int) - 1 = ((A.length - 1 : Nat) : Int) by omega] at R1
    refine comp_range_src (out := fun _ => Dat.bool true) rfl F2 N3 R1 (small_one (by omega) (by omega) (by omega) (by omega)) (rangeSize_nat _ _) (by omega) ?_ ?_
    · intro g i hi nw I oI C oC D ys m₂ h tk E' R ⟨hsub, v, ⟨ti, hvi⟩, hm2⟩ hC F N off ne hRR
      subst hvi
      have hcell' := hsub _ hcell
      have hr' := hsub _ hr2
      clear F2 N3 R1
      k_steps
      unfold Halt
      rename News _ _ _ _ => N6
      refine itemL N6 (.tail _ (.tail _ (.tail _ hr'))) hR2 i rfl (by rw [srt_len]; omega) (by rw [srt_len]; omega) fun v1 hv1 => ?_
      k_steps
      unfold Halt
      rename News _ _ _ _ => N7
      refine itemL N7 (.tail _ (.tail _ (.tail _ hr'))) hR2 (i + 1) (by omega) (by rw [srt_len]; omega) (by rw [srt_len]; omega) fun v2 hv2 => ?_
      obtain ⟨a1, t1, u1, k1, rfl, hm1⟩ := pairs_open hv1
      obtain ⟨a2, t2, u2, k2, rfl, hm2'⟩ := pairs_open hv2
      k_steps
      unfold Halt
      rename News _ _ _ _ => N8
      refine leT (N8 _ (.tail _ (.tail _ (.tail _ (hsub _ hm1))))).1 (N8 _ (.tail _ (.tail _ (.tail _ (hsub _ hm2'))))).1 (show un + 3 < cLine by omega) ?_
      have hle : le2 ((srt A).getD i default) ((srt A).getD (i + 1) default) = true := by
        have h1 : i < (srt A).length := by rw [srt_len]; omega
        have h2 : i + 1 < (srt A).length := by rw [srt_len]; omega
        rw [List.getD_eq_getElem?_getD, List.getD_eq_getElem?_getD, List.getElem?_eq_getElem h1, List.getElem?_eq_getElem h2]
        exact List.pairwise_iff_getElem.mp (srt_sorted A) i (i + 1) h1 h2 (by omega)
      rw [hle]
      k_steps
      rename Fr _ _ _ _ => F9
      rename News _ _ _ _ => N9
      exact hRR _ _ _ [] F9 N9 (fun _ _ _ h => absurd h List.not_mem_nil) (DatIn.bool true)
    · intro g us3 tl3 hd3 lt3 D3 h3 tk3 F3 N6 o3
      clear F2 N3 R1
      k_steps
      unfold Halt
      refine allL F3 N6 rfl (.head _) (hd3.mono fun p hp => .tail _ hp) fun h4 tk4 F4 N7 => ?_
      clear F3 N6
      k_steps
      rename Fr h₀ L _ _ => F5
      rename News h₀ L _ _ => N8
      refine hret _ [] _ _ F5 ?_ (fun _ _ _ h => absurd h List.not_mem_nil) rfl
      rw [List.append_nil]
      exact news_sub N8 fun p hp => .tail _ (List.mem_append.mpr (.inl (hnw p hp)))
end Mine
end

section
open PySem PySem.W PyProof.Rows PySem.Calls
set_option maxRecDepth 100000
set_option maxHeartbeats 1000000
namespace Mine
section
variable {prog : Program} {w : World} {A₀ A : Around} {s : Shared} {base h₀ : Heap} {L : Addr} {m : Str → Option Value} {env : Env} {news : List (Addr × Obj)} {K : Frag} {p : Program} {loose : List Str} {mean : ExcName → Option Value} {mg mb : Str → Option Value}
    {R : Result → Shared → Prop} {name qual : Str} {params : Arguments} {body : List Stmt} {scope : Scope} {dV kV doc pm cdv ct oc : Value} {an od : Option Addr} {osl : Array (Option Value)} {f : Addr} {args : Args} {binds : List (Str × Value)}
/-- a def that may catch, called from the first frame, whatever cells that frame has -/
theorem enter_first (B : Below A₀ base [] h₀) (F : Fr h₀ L s.heap m) (X₀ : K.In h₀) (N : News h₀ L s.heap news) (T : Top p loose mean mg mb h₀) (hA : A.frames = some [env]) (hf : env.frame = some L) (hke : env.scope.kind = .function)
    (ho : K.lookup f = some ⟨oc, od, .func (fnOf name qual params body scope dV kV doc pm an cdv ct), osl⟩) (hcd : codeIn K cdv qual = true) (hroom : A.depth < recursionLimit)
    (hbind : BindsTo s (fnOf name qual params body scope dV kV doc pm an cdv ct) args binds) (hloc : ∀ y ∈ binds, scope.names.lookup y.1 = some .local)
    (h : ∀ g L' h₁, Fr h₀ L g m → Fr g L' h₁ (fun y => binds.reverse.lookup y) → News g L' h₁ news → Below A base [env] g → K.In g → Top p loose mean mg mb g → KtsDicts ([env].filterMap (·.frame)) g →
      wpAny (model prog w) (A.deeper (envOf qual scope L' f cdv)) (execs body (envOf qual scope L' f cdv))
        (fun fl s' => LeaveS0 ([env].filterMap (·.frame)) h₀ L m g R (match fl with | .ret v => v | _ => .none) s')
        (fun e s' => wpAny (model prog w) (A.deeper (envOf qual scope L' f cdv)) (leaving (envOf qual scope L' f cdv) e) (fun _ s'' => R (.error e) s'') (fun e' s'' => R (.error e') s'') s')
        { s with heap := h₁, toks := s.toks + binds.length })
    (hco : scope.isCoroutine = false) (hgen : scope.isGenerator = false) (hk : scope.kind = .function)
    (hcell : ∀ x ∈ scope.names, x.2 ≠ .cell) : codeAny (model prog w) A (.call (.ref f) args) R s := by
  have X := X₀.keeps F.keep
  have hfs : [env].filterMap (·.frame) = [L] := by simp [hf]
  refine codeAny_call_def (fd := fnOf name qual params body scope dV kV doc pm an cdv ct) (body := body) (binds := binds) hroom (X _ _ ho) rfl (T.nolimit.keeps F.keep) (codeRec_of X hcd) rfl hbind hcell hloc (fun h₁ hns hk₁ => ?_) hco hgen hk
  obtain ⟨FG, BG, st, _⟩ := groundX (R := R) B F N hA hf hke
  obtain ⟨oL, es, ep, hLg, hLd, hLk, hLf⟩ := id FG.ns
  have nL₀ : h₀.get? L = none := kts_self F
  refine wpAny_mono (h _ s.heap.objs.size h₁ FG ⟨hns, fun b o e => hk₁ b o (of_hideAll _ e), Nat.le_of_eq (hideAll_size _ _)⟩
    (fun p hp => ⟨hk₁ _ _ (N p hp).1, Nat.ne_of_lt (Heap.lt_size (N p hp).1), hideAll_none _ (List.mem_map_of_mem hp)⟩) BG (X₀.keeps st) (T.keeps st) ?_) (fun fl s' hl => ?_) fun _ _ y => y
  · intro b hb
    rw [hfs] at hb
    rw [List.mem_singleton.mp hb]
    exact ⟨oL, es, ep, hLg, hLd⟩
  · obtain ⟨g', L', m', news', T', F', N', k⟩ := hl
    obtain ⟨sl, hs⟩ := T'.up hLg
    have back : ∀ b o, h₀.get? b = some o → g'.get? b = some o := fun b o e => T'.other b o (st b o e) (fun q => by
      rw [hfs] at q
      rw [List.mem_singleton.mp q, nL₀] at e
      cases e)
    refine k ⟨⟨_, es, ep, F'.keep _ _ hs, hLd, hLk, hLf⟩, fun b o e => F'.keep b o (back b o e), F.above⟩ fun q hq => ⟨(N' q hq).1, fun z => ?_, ?_⟩
    · have := (N' q hq).2.2
      rw [z, hs] at this
      cases this
    · cases z : h₀.get? q.1 with
      | none => rfl
      | some o =>
        have := (N' q hq).2.2
        rw [back _ _ z] at this
        cases this
end
end Mine
end

section
open PySem PySem.W PyProof.Rows PySem.Calls
set_option maxRecDepth 100000
set_option maxHeartbeats 1000000
namespace Mine
section
variable {prog : Program} {w : World} {A : Around} {E : Value → Shared → Prop} {s : Shared} {K : Frag} {e t C : Addr} {oe : Obj} {ws : Array Value} {msg : Str} {tk : Tok}
theorem bexc_args {M : Model} {items : List Value} {Q : Value × List Value → Shared → Prop} (ho : s.heap.get? e = some oe) (hd : oe.data = .fields ws) (h0 : ws[0]? = some (.ref t)) (ht : s.heap.TupAt t items) (hq : Q (.ref t, items) s) :
    wpAny M A (Builtin.BaseException.bexcArgs (.ref e)) Q E s := by
  obtain ⟨ot, k, hto, _, htd⟩ := ht
  unfold Builtin.BaseException.bexcArgs
  refine wpAny_bind (wpAny_field ho hd h0 (wpAny_bind (wpAny_seqItems hto htd ?_)))
  have : items.toArray.toList = items := by simp
  show wpAny M A (pure (Value.ref t, items.toArray.toList)) Q E s
  rw [this]; exact wpAny_pure hq
theorem bexc_str {Q : PySem.Fin → Shared → Prop} (ho : s.heap.get? e = some oe) (hd : oe.data = .fields ws) (h0 : ws[0]? = some (.ref t)) (ht : s.heap.TupAt t [.str msg tk]) (hq : Q (.done (.ret (.str msg tk))) s) :
    wpAny (model prog w) A (Builtin.«BaseException.__str__» ⟨[.ref e], []⟩) Q E s := by
  unfold Builtin.«BaseException.__str__»
  repeat (first | with_reducible refine bexc_args ho hd h0 ht ?_ | wp_step)
  exact hq
theorem bs_kind : builtinKind "BaseException.__str__" = some .slot := by decide +kernel
theorem bs_split : splitId "BaseException.__str__" = some ("BaseException", "__str__") := by decide +kernel
theorem own_special {Q : Option Value → Shared → Prop} (X : K.In s.heap) (ho : s.heap.get? e = some oe) (hc : oe.cls = .ref C) (hd : oe.data = .fields ws) (h0 : ws[0]? = some (.ref t)) (ht : s.heap.TupAt t [.str msg tk])
    (hs : findIn K (.ref C) (Str.ofString "__str__") = some (some (.builtin "BaseException.__str__"))) (hb : subIn K (.ref C) (.type "BaseException") = some true) (h : Q (some (.str msg tk)) s) :
    wpAny (model prog w) A (callSpecial? (.ref e) (Str.ofString "__str__")) Q E s := by
  have ty : Looks (model prog w) s.heap (typeOf (.ref e)) (.ref C) := by
    rw [← hc]; exact (Looks.ld ho).andThen .now
  refine wpAny_bind (wpAny_bind (ty.here ((looks_findIn X hs).here (wpAny_holding (wpAny_bind ?_)))))
  refine wpAny_of_eq (PySem.F.excStr_ValueError.str.bind (.ref e)) ?_
  show wpAny (model prog w) A (call (.builtin "BaseException.__str__") [.ref e] >>= fun v => pure (some v)) Q E s
  refine wpAny_bind (wpAny_mono (Q := fun v s' => v = .str msg tk ∧ s' = s) ?_ (fun v s' hv => wpAny_pure (by obtain ⟨rfl, rfl⟩ := hv; exact h)) fun _ _ z => z)
  refine wpAny_call (codeAny_call_builtin PySem.F.excStr_ValueError.str.plain PySem.F.entry_bexc_str (@check_slot (model prog w) _ _ _ "BaseException.__str__" "BaseException" "__str__" (.ref e) [] [] _ bs_kind bs_split (ty.andThen (looks_subIn X hb)) (PySem.F.args_bexc_str _) ?_))
  exact bexc_str ho hd h0 ht ⟨rfl, rfl⟩
theorem own_strOf {Q : Value → Shared → Prop} (hu : A.units < cLine) (X : K.In s.heap) (ho : s.heap.get? e = some oe) (hc : oe.cls = .ref C) (hd : oe.data = .fields ws) (h0 : ws[0]? = some (.ref t)) (ht : s.heap.TupAt t [.str msg tk])
    (hs : findIn K (.ref C) (Str.ofString "__str__") = some (some (.builtin "BaseException.__str__"))) (hb : subIn K (.ref C) (.type "BaseException") = some true) (h : Q (.str msg tk) s) :
    wpAny (model prog w) A (PySem.Builtin.Str.strOf (.ref e)) Q E s := by
  unfold PySem.Builtin.Str.strOf
  rw [show Builtin.Str.isExactStr (.ref e) = false from rfl]
  refine wpAny_bind (m := cRoomFor _ _) (wpAny_cRoomFor hu ?_)
  exact wpAny_bind (m := callSpecial? (.ref e) (Str.ofString "__str__")) (own_special X ho hc hd h0 ht hs hb (wpAny_pure h))
/-- str(refusal) -/
theorem str_own {Q : Value → Shared → Prop} (hu : A.units + 2 < cLine) (X : K.In s.heap) (ho : s.heap.get? e = some oe) (hc : oe.cls = .ref C) (hd : oe.data = .fields ws) (h0 : ws[0]? = some (.ref t)) (ht : s.heap.TupAt t [.str msg tk])
    (hs : findIn K (.ref C) (Str.ofString "__str__") = some (some (.builtin "BaseException.__str__"))) (hb : subIn K (.ref C) (.type "BaseException") = some true) (h : Q (.str msg tk) s) :
    wpAny (model prog w) A (call (.type "str") [.ref e]) Q E s := by
  refine callType_codes (T := "str") (Bi := Builtin.«object.__init__») (Q₁ := fun r s₁ => r = .str msg tk ∧ s₁ = s) PySem.F.called_str (PySem.F.typeCall_str_1 _) PySem.F.entry_object_init ?_ ?_
  · refine codeAny_of_tree ?_
    show wpAny _ A.in1.in1 (do checkBuiltinCall "str.__new__" ⟨[.type "str", .ref e], []⟩; again (.builtin "str.__new__" ⟨[.type "str", .ref e], []⟩)) _ _ s
    refine wpAny_bind (wpAny_of_eq (PySem.F.newCall_str_1 _) (wpAny_pure ⟨plainId_quiet (by decide +kernel) _, codeAny_builtin PySem.F.entry_str_new ?_⟩))
    rw [Around.under_plainId (by decide +kernel) _]
    rw [str_new_tree]
    refine wpAny_bind (wpAny_pure ?_)
    refine wpAny_bind (wpAny_of_eq isSubtype_str_str ?_)
    exact wpAny_bind (own_strOf (show A.units + 1 + 1 < cLine by omega) X ho hc hd h0 ht hs hb (wpAny_pure ⟨rfl, rfl⟩))
  · rintro obj s₁ ⟨rfl, rfl⟩
    exact ⟨typeIs_str _ _ _, PySem.F.args_object_init_2 _ _, object_init_meets PySem.F.called_str.init.lookup PySem.F.called_str.made (by decide) prog w A.in1 _ s₁ ⟨typeIs_str _ _ _, rfl, h⟩⟩
end
end Mine
end

section
open PySem PySem.W PyProof.Rows PySem.Calls PyProof.Rows.LCg
set_option maxRecDepth 100000
set_option maxHeartbeats 1000000
namespace Mine
theorem fill6 : (PySem.Challenge.rw_nb0048_01 = PySem.Challenge.rw_nb0048_01) ∧ (Mine.hd.heap_39 = Mine.hd.heap_39) := by w_top off; k_fill; exact ⟨rfl, rfl⟩
local macro_rules | `(tactic| walk_at "call ref") => `(tactic| refine halt ?_)
local macro_rules | `(tactic| walk_at "call builtin:sorted") => `(tactic| refine halt ?_)
local macro_rules | `(tactic| walk_at "call builtin:len") => `(tactic| refine halt ?_)
local macro_rules | `(tactic| walk_at "call type:str") => `(tactic| refine halt ?_)

theorem noneLow {w : World} {mean : ExcName → Option Value} {mg mb : Str → Option Value} {news : List (Addr × Obj)} {dp un : Nat} {gd : Option (List Code)} {cn : Str} {cs : Scope} {a : Addr} {ccd : Value} {cl : List (Str × Addr)} {A₀ : Around} {base h₀ : Heap} {L : Addr} {m : Str → Option Value} {s : Shared} {Q E : Value → Shared → Prop}
    (B : Below A₀ base [] h₀) (F : Fr h₀ L s.heap m) (X : (Mine.hd.heap_39 w.params).In h₀) (XB : (Mine.hd.heap_39 w.params).In base) (N : News h₀ L s.heap news) (T : Top Mine.hd.view_39 (looseW Mine.hd.view_39 []) mean mg mb h₀) (TB : Top Mine.hd.view_39 (looseW Mine.hd.view_39 []) mean mg mb base) (hk : cs.kind = .function) (hd : dp + 16 < recursionLimit) (hu : un + 256 < cLine)
    (hret : ∀ h' tk', Fr h₀ L h' m → News h₀ L h' news → Q (.bool true) { s with heap := h', toks := tk' }) :
    wpAny (model PySem.Challenge.rw_nb0048_01.row.prog w) (ktrTop dp un gd cn cs L a ccd cl []) (call (.ref 86) [.ref 41]) Q E s := by
  have kdm := kdMark
  refine wpAny_call ?_
  k_dflt (refine' enter_first ?k1 ?k2 ?k3 ?k4 ?k5 ?kA ?kF ?kK ?k6 ?k7 ?k8 ?k9 ?kB ?_ ?c2 ?c3 ?c4 ?c5; (case kA => exact rfl); (case kF => exact rfl); (case kK => assumption); (case k1 => k_asm); (case k2 => k_asm); (case k3 => exact X); (case k4 => k_asm); (case k5 => exact T); (case k6 => k_is); (case k7 => k_is); (case k8 => ktr_room); (case k9 => exact BindsTo.of_eq rfl); (case c5 => decide); (case kB => exact locs rfl); (case c2 => exact rfl); (case c3 => exact rfl); (case c4 => exact rfl); k_whole; intro g1 L1 h1 FG1 F1 N1 B1 X1 T1 D1; (try dsimp only); (try k_fold))
  clear F N
  k_steps
  unfold Halt
  rename Fr _ _ _ _ => F2
  rename News _ _ _ _ => N2
  k_dflt (refine says_use (ppv (vs := []) (ds := []) (.head _) .nil (by decide)) B1 F2 X1 N2 T1 rfl (show dp + 1 + 4 < recursionLimit by omega) (show un + 3 + 64 < cLine by omega) ?_)
  rintro _ tl h2 tk2 F3 N3 lt3 ⟨D, us, c, rfl, hin, hd2⟩
  obtain rfl : us = [] := by cases hd2; rfl
  clear F2 N2
  k_steps
  unfold Halt
  refine wpAny_call ?_
  k_dflt (refine' code_defS ?k1 ?k2 ?k3 ?k4 ?k5 ?XB ?TB ?D ?T0 ?kA ?k6 ?k7 ?k8 ?k9 ?kB ?_ ?cK ?c2 ?c3 ?c4 ?c5; (case kA => exact rfl); (case k2 => k_asm); (case k1 => k_asm); (case XB => exact XB); (case TB => exact TB); (case D => assumption); (case T0 => exact KtsTurn.refl); (case k3 => exact X1); (case k4 => k_asm); (case k5 => exact T1); (case k6 => k_is); (case k7 => k_is); (case k8 => exact (show dp + 1 < recursionLimit by omega)); (case k9 => exact BindsTo.of_eq rfl); (case kB => exact locs rfl); (case cK => exact rfl); (case c2 => exact rfl); (case c3 => exact rfl); (case c4 => exact rfl); (case c5 => decide); k_whole; intro g2 L2 h3 FG2 F4 N4 B2 X2 T2 D2; (try dsimp only); (try k_fold))
  k_steps
  unfold Halt
  rename Fr _ _ _ _ => F5
  rename News _ _ _ _ => N5
  refine sort_small (vs := []) F5 N5 ⟨_, (N5 _ (List.mem_append.mpr (.inr hin))).1, rfl, c, rfl⟩ (by decide) fun D3 c3 h4 F6 N6 lt6 => ?_
  clear F5 N5
  k_steps
  unfold Halt
  rename News _ _ _ _ => N7
  refine lenL (k := 0) N7 (.head _) rfl (by decide) ?_
  k_steps
  unfold Halt
  rename_i hX gX n2 tkX TX FX N2X GX NX KX XX PX DX
  obtain ⟨oe, ot, ws, nt, g1', g2', hc, hdd, h0, htc, htd⟩ := id GX
  refine str_own (K := Mine.hd.heap_39 w.params) (C := 31) (show un + 3 + 2 < cLine by omega) (XX.keeps FX.keep) (N2X _ g1').1 hc hdd h0 ⟨ot, nt, (N2X _ g2').1, htc, htd⟩ (by k_is) (by k_is) ?_
  k_steps
  rename Fr h₀ L _ _ => FE
  rename News h₀ L _ _ => NE
  rw [show (Str.ofString "no median for empty data" == Str.ofString "no median for empty data") = true from beq_self_eq_true _]
  exact hret _ _ FE (news_sub NE fun p hp => .tail _ (.tail _ (List.mem_append.mpr (.inl hp))))
theorem noneHigh {w : World} {mean : ExcName → Option Value} {mg mb : Str → Option Value} {news : List (Addr × Obj)} {dp un : Nat} {gd : Option (List Code)} {cn : Str} {cs : Scope} {a : Addr} {ccd : Value} {cl : List (Str × Addr)} {A₀ : Around} {base h₀ : Heap} {L : Addr} {m : Str → Option Value} {s : Shared} {Q E : Value → Shared → Prop}
    (B : Below A₀ base [] h₀) (F : Fr h₀ L s.heap m) (X : (Mine.hd.heap_39 w.params).In h₀) (XB : (Mine.hd.heap_39 w.params).In base) (N : News h₀ L s.heap news) (T : Top Mine.hd.view_39 (looseW Mine.hd.view_39 []) mean mg mb h₀) (TB : Top Mine.hd.view_39 (looseW Mine.hd.view_39 []) mean mg mb base) (hk : cs.kind = .function) (hd : dp + 16 < recursionLimit) (hu : un + 256 < cLine)
    (hret : ∀ h' tk', Fr h₀ L h' m → News h₀ L h' news → Q (.bool true) { s with heap := h', toks := tk' }) :
    wpAny (model PySem.Challenge.rw_nb0048_01.row.prog w) (ktrTop dp un gd cn cs L a ccd cl []) (call (.ref 86) [.ref 48]) Q E s := by
  have kdm := kdMark
  refine wpAny_call ?_
  k_dflt (refine' enter_first ?k1 ?k2 ?k3 ?k4 ?k5 ?kA ?kF ?kK ?k6 ?k7 ?k8 ?k9 ?kB ?_ ?c2 ?c3 ?c4 ?c5; (case kA => exact rfl); (case kF => exact rfl); (case kK => assumption); (case k1 => k_asm); (case k2 => k_asm); (case k3 => exact X); (case k4 => k_asm); (case k5 => exact T); (case k6 => k_is); (case k7 => k_is); (case k8 => ktr_room); (case k9 => exact BindsTo.of_eq rfl); (case c5 => decide); (case kB => exact locs rfl); (case c2 => exact rfl); (case c3 => exact rfl); (case c4 => exact rfl); k_whole; intro g1 L1 h1 FG1 F1 N1 B1 X1 T1 D1; (try dsimp only); (try k_fold))
  clear F N
  k_steps
  unfold Halt
  rename Fr _ _ _ _ => F2
  rename News _ _ _ _ => N2
  k_dflt (refine says_use (ppv (vs := []) (ds := []) (.head _) .nil (by decide)) B1 F2 X1 N2 T1 rfl (show dp + 1 + 4 < recursionLimit by omega) (show un + 3 + 64 < cLine by omega) ?_)
  rintro _ tl h2 tk2 F3 N3 lt3 ⟨D, us, c, rfl, hin, hd2⟩
  obtain rfl : us = [] := by cases hd2; rfl
  clear F2 N2
  k_steps
  unfold Halt
  refine wpAny_call ?_
  k_dflt (refine' code_defS ?k1 ?k2 ?k3 ?k4 ?k5 ?XB ?TB ?D ?T0 ?kA ?k6 ?k7 ?k8 ?k9 ?kB ?_ ?cK ?c2 ?c3 ?c4 ?c5; (case kA => exact rfl); (case k2 => k_asm); (case k1 => k_asm); (case XB => exact XB); (case TB => exact TB); (case D => assumption); (case T0 => exact KtsTurn.refl); (case k3 => exact X1); (case k4 => k_asm); (case k5 => exact T1); (case k6 => k_is); (case k7 => k_is); (case k8 => exact (show dp + 1 < recursionLimit by omega)); (case k9 => exact BindsTo.of_eq rfl); (case kB => exact locs rfl); (case cK => exact rfl); (case c2 => exact rfl); (case c3 => exact rfl); (case c4 => exact rfl); (case c5 => decide); k_whole; intro g2 L2 h3 FG2 F4 N4 B2 X2 T2 D2; (try dsimp only); (try k_fold))
  k_steps
  unfold Halt
  rename Fr _ _ _ _ => F5
  rename News _ _ _ _ => N5
  refine sort_small (vs := []) F5 N5 ⟨_, (N5 _ (List.mem_append.mpr (.inr hin))).1, rfl, c, rfl⟩ (by decide) fun D3 c3 h4 F6 N6 lt6 => ?_
  clear F5 N5
  k_steps
  unfold Halt
  rename News _ _ _ _ => N7
  refine lenL (k := 0) N7 (.head _) rfl (by decide) ?_
  k_steps
  unfold Halt
  rename_i hX gX n2 tkX TX FX N2X GX NX KX XX PX DX
  obtain ⟨oe, ot, ws, nt, g1', g2', hc, hdd, h0, htc, htd⟩ := id GX
  refine str_own (K := Mine.hd.heap_39 w.params) (C := 31) (show un + 3 + 2 < cLine by omega) (XX.keeps FX.keep) (N2X _ g1').1 hc hdd h0 ⟨ot, nt, (N2X _ g2').1, htc, htd⟩ (by k_is) (by k_is) ?_
  k_steps
  rename Fr h₀ L _ _ => FE
  rename News h₀ L _ _ => NE
  rw [show (Str.ofString "no median for empty data" == Str.ofString "no median for empty data") = true from beq_self_eq_true _]
  exact hret _ _ FE (news_sub NE fun p hp => .tail _ (.tail _ (List.mem_append.mpr (.inl hp))))
end Mine
end

section
open PySem PySem.W PyProof.Rows PySem.Calls
set_option maxRecDepth 100000
set_option maxHeartbeats 1000000
namespace Mine
theorem fill7 : (PySem.Challenge.rw_nb0048_01 = PySem.Challenge.rw_nb0048_01) ∧ (Mine.hd.heap_39 = Mine.hd.heap_39) := by w_top off; k_fill; exact ⟨rfl, rfl⟩
local macro_rules | `(tactic| walk_at "subscriptTail") => `(tactic| refine halt ?_)
local macro_rules | `(tactic| walk_at "binaryOp Add str str") => `(tactic| refine halt ?_)

theorem menu {prog : Program} {w : World} {A : Around} {E : Value → Shared → Prop} {s : Shared} {value slice : PySem.Expr} {t : Addr} {l : List Value} {o : Obj} {xs : List Str} {k : Int} {u : Tok} {Q : Value → Shared → Prop} (ho : s.heap.get? t = some o) (hc : o.cls = .type "tuple") (hd : o.data = .seq l.toArray 0) (hl : StrsAre l xs) (h0 : 0 ≤ k) (h1 : k < l.length) (hn : l.length < 64)
    (h : ∀ x u', x ∈ xs → Q (.str x u') s)
    (hs : subscripted slice false (.ref t) (.int k u) = operate [.ref t, .int k u] (getItem (.ref t) (.int k u)) := by with_unfolding_all rfl) :
    wpAny (model prog w) A (subscriptTail value slice (.ref t) (.int k u)) Q E s := by
  have hk : k.toNat < l.length := by omega
  have key : ∀ {l : List Value} {xs : List Str}, StrsAre l xs → ∀ j (hj : j < l.length), ∃ x u', x ∈ xs ∧ l[j]? = some (Value.str x u') := by
    intro l xs hl
    induction hl with
    | nil => intro j hj; exact absurd hj (Nat.not_lt_zero _)
    | cons x t _ ih =>
      intro j hj
      cases j with
      | zero => exact ⟨_, _, .head _, rfl⟩
      | succ j =>
        obtain ⟨y, u', hy, e⟩ := ih j (by simpa using hj)
        exact ⟨y, u', .tail _ hy, by simpa using e⟩
  obtain ⟨x, u', hx, e⟩ := key hl k.toNat hk
  refine item_tupleT (j := k.toNat) ⟨o, ho, hc, 0, hd⟩ (by omega) (by omega) ?_ e (h x u' hx) hs
  unfold seqIndex?
  simp; omega
def names : List Str := [Str.ofString "", Str.ofString "a", Str.ofString "b", Str.ofString "[a"]
def fronts : List Str := [Str.ofString "", Str.ofString "a", Str.ofString "b@"]
def rears : List Str := [Str.ofString "", Str.ofString "a", Str.ofString "]"]
theorem pair_bad : ∀ x ∈ names, ∀ y ∈ fronts, ∀ z ∈ rears, okE ((x, (y ++ Str.ofString "[") ++ z), false) = true ∧ le2 (clean (x, (y ++ Str.ofString "[") ++ z)) top = true := by decide +kernel
theorem pair_well : ∀ x ∈ names, ∀ y ∈ fronts, ∀ z ∈ rears, okE ((x, y ++ z), true) = true ∧ le2 (clean (x, y ++ z)) top = true := by decide +kernel
theorem fronts_len : ∀ y ∈ fronts, y.length ≤ 2 := by decide +kernel
theorem rears_len : ∀ y ∈ rears, y.length ≤ 2 := by decide +kernel
theorem news_two {h₀ h : Heap} {L : Addr} {p q : Addr × Obj} {news : List (Addr × Obj)} (N : News h₀ L h (p :: q :: news)) : News h₀ L h (news ++ [p, q]) := news_sub N fun r hr => by
  rcases List.mem_append.mp hr with hr | hr
  · exact .tail _ (.tail _ hr)
  · rcases List.mem_cons.mp hr with rfl | hr
    · exact .head _
    · rw [List.mem_singleton.mp hr]; exact .tail _ (.head _)
theorem fmod_in (a : Int) {c : Int} (hc : 0 < c) : 0 ≤ a.fmod c ∧ a.fmod c < c := by
  rw [Int.fmod_eq_emod_of_nonneg _ (by omega)]
  exact ⟨Int.emod_nonneg _ (by omega), Int.emod_lt_of_pos _ hc⟩
theorem onePair {w : World} {mean : ExcName → Option Value} {mg mb : Str → Option Value} {news : List (Addr × Obj)} {n : Int} {t : Tok} :
    Says w mean mg mb 55 [.int n t] 8 64 news (fun tl r => ∃ e : PP × Bool, okE e = true ∧ le2 (clean e.1) top = true ∧ DatIn tl r (enD e)) := by
  unfold Says
  intro dp un gd cn cs a ccd cl outer A₀ base h₀ L m s Q E B F X N T hk hd hu hret
  have kdm := kdMark
  refine wpAny_call ?_
  k_dflt ktr_enter
  k_steps
  unfold Halt
  rename News _ _ _ _ => N1
  refine menu (xs := names) (N1 _ (.head _)).1 rfl rfl (.cons _ _ (.cons _ _ (.cons _ _ (.cons _ _ .nil)))) (fmod_in _ (by decide)).1 (fmod_in _ (by decide)).2 (by simp) fun x ux hx => ?_
  k_steps
  unfold Halt
  rename News _ _ _ _ => N2
  refine menu (xs := fronts) (N2 _ (.head _)).1 rfl rfl (.cons _ _ (.cons _ _ (.cons _ _ .nil))) (fmod_in _ (by decide)).1 (fmod_in _ (by decide)).2 (by simp) fun y uy hy => ?_
  k_steps
  unfold Halt
  rename News _ _ _ _ => N3
  refine menu (xs := rears) (N3 _ (.head _)).1 rfl rfl (.cons _ _ (.cons _ _ (.cons _ _ .nil))) (fmod_in _ (by decide)).1 (fmod_in _ (by decide)).2 (by simp) fun z uz hz => ?_
  have ly := fronts_len y hy
  have lz := rears_len z hz
  k_steps
  · unfold Halt
    rename News _ _ _ _ => N4
    have N5 : News _ _ _ news := news_sub N4 fun p hp => .tail _ (.tail _ (.tail _ hp))
    clear N4
    refine add_str (fun u1 tk1 => ?_) (by rw [sizeLine_eq]; have : (Str.ofString "[").length = 1 := by decide +kernel
                                          omega)
    k_steps
    unfold Halt
    refine add_str (fun u2 tk2 => ?_) (by rw [sizeLine_eq, Str.length_append]; have : (Str.ofString "[").length = 1 := by decide +kernel
                                          omega)
    k_steps
    rename Fr h₀ L _ _ => FE
    rename News h₀ L _ _ => NE
    rename (∀ p ∈ news, p.1 < _) => lt1
    rename (_ < _ ∧ AllLt _ news) => lt2
    obtain ⟨T2, hT2⟩ := name_addr NE
    subst hT2
    refine hret _ _ _ _ FE (news_two NE) (fun q hq p hp => ?_) ⟨((x, (y ++ Str.ofString "[") ++ z), false), (pair_bad x hx y hy z hz).1, (pair_bad x hx y hy z hz).2, ?_⟩
    rotate_left
    · exact DatIn.tuple (vs := [_, _]) (.head _) (.cons (.tuple (vs := [_, _]) (.tail _ (.head _)) (.cons (.str _ _) (.cons (.str _ _) .nil))) (.cons (.bool _) .nil))
    · rcases List.mem_cons.mp hp with rfl | hp
      · exact ktn_ltOf lt2.2 q hq
      · rw [List.mem_singleton.mp hp]; exact lt1 q hq
  · unfold Halt
    rename News _ _ _ _ => N4
    have N5 : News _ _ _ news := news_sub N4 fun p hp => .tail _ (.tail _ (.tail _ hp))
    clear N4
    refine add_str (fun u1 tk1 => ?_) (by rw [sizeLine_eq]; omega)
    k_steps
    rename Fr h₀ L _ _ => FE
    rename News h₀ L _ _ => NE
    rename (∀ p ∈ news, p.1 < _) => lt1
    rename (_ < _ ∧ AllLt _ news) => lt2
    obtain ⟨T2, hT2⟩ := name_addr NE
    subst hT2
    refine hret _ _ _ _ FE (news_two NE) (fun q hq p hp => ?_) ⟨((x, y ++ z), true), (pair_well x hx y hy z hz).1, (pair_well x hx y hy z hz).2, ?_⟩
    rotate_left
    · exact DatIn.tuple (vs := [_, _]) (.head _) (.cons (.tuple (vs := [_, _]) (.tail _ (.head _)) (.cons (.str _ _) (.cons (.str _ _) .nil))) (.cons (.bool _) .nil))
    · rcases List.mem_cons.mp hp with rfl | hp
      · exact ktn_ltOf lt2.2 q hq
      · rw [List.mem_singleton.mp hp]; exact lt1 q hq
end Mine
end

section
open PySem PySem.W PyProof.Rows PySem.Calls
set_option maxRecDepth 100000
set_option maxHeartbeats 1000000
namespace Mine
theorem fill8 : (PySem.Challenge.rw_nb0048_01 = PySem.Challenge.rw_nb0048_01) ∧ (Mine.hd.heap_39 = Mine.hd.heap_39) := by w_top off; k_fill; exact ⟨rfl, rfl⟩
local macro_rules | `(tactic| walk_at "exec For Name Call cons nil") => `(tactic| refine halt ?_)
local macro_rules | `(tactic| walk_at "pyIter ref") => `(tactic| refine halt ?_)
local macro_rules | `(tactic| walk_at "call ref") => `(tactic| refine halt ?_)
local macro_rules | `(tactic| walk_at "call builtin:len") => `(tactic| refine halt ?_)
local macro_rules | `(tactic| walk_at "call builtin:min") => `(tactic| refine halt ?_)
local macro_rules | `(tactic| walk_at "call builtin:sum") => `(tactic| refine halt ?_)
local macro_rules | `(tactic| walk_at "call builtin:list.append") => `(tactic| refine halt ?_)
local macro_rules | `(tactic| walk_at "subscriptTail Name Slice ref ref") => `(tactic| refine halt ?_)

/-- the entries of a run -/
def goodEs (es : List (PP × Bool)) : Prop := ∀ e ∈ es, okE e = true ∧ le2 (clean e.1) top = true
def es0 : List (PP × Bool) := [((Str.ofString "b", Str.ofString "a"), true), ((Str.ofString "c", Str.ofString "a[b]"), false), ((Str.ofString "[", Str.ofString "b@"), true), ((Str.ofString "b", Str.ofString "a"), true)]
theorem es0_good : goodEs es0 := by unfold goodEs; decide +kernel
theorem split_head {h₀ h : Heap} {L D : Addr} {c : Nat} {us : List Value} {p1 p2 p3 p4 p5 p6 p7 p8 : Addr × Obj} {news : List (Addr × Obj)} {ds : List Dat} (N : News h₀ L h ((D, listOf us.toArray c) :: p1 :: p2 :: p3 :: p4 :: p5 :: p6 :: p7 :: p8 :: news)) (hl : AllLt D (p1 :: p2 :: p3 :: p4 :: p5 :: p6 :: p7 :: p8 :: news)) (hD : DatAll [p1, p2, p3, p4, p5, p6, p7, p8] us ds) (hlt : ∀ q ∈ news, ∀ p ∈ [p1, p2, p3, p4, p5, p6, p7, p8], q.1 < p.1) :
    ∃ R R8 us, News h₀ L h ((D, listOf us.toArray c) :: R) ∧ (∀ p ∈ R, p.1 < D) ∧ DatAll R8 us ds ∧ (∀ p ∈ news, p ∈ R) ∧ (∀ p ∈ R8, p ∈ R) ∧ ∀ q ∈ news, ∀ p ∈ R8, q.1 < p.1 :=
  ⟨_, [p1, p2, p3, p4, p5, p6, p7, p8], us, N, ktn_ltOf hl, hD, fun p hp => List.mem_append.mpr (.inr hp : p ∈ [p1, p2, p3, p4, p5, p6, p7, p8] ∨ p ∈ news), fun p hp => List.mem_append.mpr (.inl hp : p ∈ [p1, p2, p3, p4, p5, p6, p7, p8] ∨ p ∈ news), hlt⟩
theorem min_nat {prog : Program} {w : World} {A : Around} {E : Value → Shared → Prop} {s : Shared} {h₀ : Heap} {L : Addr} {m : Str → Option Value} {news : List (Addr × Obj)} {a b : Nat} {t u : Tok} {Q : Value → Shared → Prop} (hh : A.handled = none) (F : Fr h₀ L s.heap m) (N : News h₀ L s.heap news)
    (h : ∀ h' tk t', Fr h₀ L h' m → News h₀ L h' news → Q (.int ((min a b : Nat) : Int) t') { s with heap := h', toks := tk }) :
    wpAny (model prog w) A (call (.builtin "min") [.int (a : Int) t, .int (b : Int) u]) Q E s := by
  refine min_two_N hh F N fun h' tk F' N' => ?_
  have := h h' tk (if (b : Int) < a then u else t) F' N'
  by_cases c : a ≤ b
  · rw [Nat.min_eq_left c] at this
    rw [if_neg (show ¬ (b : Int) < a by omega)]
    exact this
  · rw [Nat.min_eq_right (by omega)] at this
    rw [if_pos (show (b : Int) < a by omega)]
    exact this
theorem lawPairs {w : World} {mean : ExcName → Option Value} {mg mb : Str → Option Value} {news : List (Addr × Obj)} {dp un : Nat} {gd : Option (List Code)} {cn : Str} {cs : Scope} {a : Addr} {ccd : Value} {cl : List (Str × Addr)} {outer : List Env} {A₀ : Around} {base h₀ : Heap} {L : Addr} {m : Str → Option Value} {s : Shared} {Q E : Value → Shared → Prop} {y : Addr} {vs : List Value} {ns : List Int}
    (B : Below A₀ base outer h₀) (F : Fr h₀ L s.heap m) (X : (Mine.hd.heap_39 w.params).In h₀) (N : News h₀ L s.heap news) (T : Top Mine.hd.view_39 (looseW Mine.hd.view_39 []) mean mg mb h₀) (hk : cs.kind = .function) (hd : dp + 16 < recursionLimit) (hu : un + 256 < cLine)
    (hl : h₀.IsList y vs.toArray) (hi : IntsAre vs ns) (h63 : vs.length < 4096)
    (hret : ∀ D us c es tl h' tk', Fr h₀ L h' m → News h₀ L h' (news ++ tl) → (∀ q ∈ news, ∀ p ∈ tl, q.1 < p.1) → (D, listOf us.toArray c) ∈ tl → goodEs es → 4 ≤ es.length → es.length ≤ 7 → DatAll tl us (es.map enD) → Q (.ref D) { s with heap := h', toks := tk' }) :
    wpAny (model PySem.Challenge.rw_nb0048_01.row.prog w) (ktrTop dp un gd cn cs L a ccd cl outer) (call (.ref 62) [.ref y]) Q E s := by
  have kdm := kdMark
  refine wpAny_call ?_
  k_dflt ktr_enter
  k_steps
  unfold Halt
  rename Fr _ _ _ _ => F1
  rename News _ _ _ _ => N1
  obtain ⟨D, hDe⟩ := name_addr N1
  subst hDe
  rename (_ < D ∧ _) => l1
  rename (Fr h₀ L _ _) => FG
  rename (∀ p ∈ news, p.1 < _) => l17
  obtain ⟨R, R8, us0, N2, hltR, hdR, hnR, h8R, hl8⟩ := split_head (ds := es0.map enD) (news := news) N1 l1 (by
    refine .cons (.tuple (vs := [_, _]) (.tail _ (.tail _ (.tail _ (.tail _ (.tail _ (.tail _ (.head _))))))) (.cons (.tuple (vs := [_, _]) (.tail _ (.tail _ (.tail _ (.tail _ (.tail _ (.tail _ (.tail _ (.head _)))))))) (.cons (.str _ _) (.cons (.str _ _) .nil))) (.cons (.bool _) .nil))) ?_
    refine .cons (.tuple (vs := [_, _]) (.tail _ (.tail _ (.tail _ (.tail _ (.head _))))) (.cons (.tuple (vs := [_, _]) (.tail _ (.tail _ (.tail _ (.tail _ (.tail _ (.head _)))))) (.cons (.str _ _) (.cons (.str _ _) .nil))) (.cons (.bool _) .nil))) ?_
    refine .cons (.tuple (vs := [_, _]) (.tail _ (.tail _ (.head _))) (.cons (.tuple (vs := [_, _]) (.tail _ (.tail _ (.tail _ (.head _)))) (.cons (.str _ _) (.cons (.str _ _) .nil))) (.cons (.bool _) .nil))) ?_
    exact .cons (.tuple (vs := [_, _]) (.head _) (.cons (.tuple (vs := [_, _]) (.tail _ (.head _)) (.cons (.str _ _) (.cons (.str _ _) .nil))) (.cons (.bool _) .nil))) .nil)
    (by
      intro q hq p hp
      have h17 := l17 q hq
      simp only [List.mem_cons, List.not_mem_nil, or_false] at hp
      rcases hp with rfl | rfl | rfl | rfl | rfl | rfl | rfl | rfl <;> (dsimp only [Addr] at *; omega))
  clear N1 l1
  refine For_invVF F1 (by rfl) (by rfl) ?_
  k_steps
  unfold Halt
  have hlg := FG.lst hl
  refine len_list (F1.lst hlg) (by rw [List.size_toArray]; omega) ?_
  k_steps
  unfold Halt
  rename Fr _ _ _ _ => F2
  rename News _ _ _ _ => N3
  refine min_nat (b := 3) rfl F2 N3 fun h' tk' t' F3 N4 => ?_
  rw [List.size_toArray]
  clear F2 N3
  obtain ⟨q, hq, hq3⟩ : ∃ q, min vs.length 3 = q ∧ Halt (q ≤ 3) := ⟨_, rfl, by unfold Halt; omega⟩
  rw [hq]
  clear hq
  k_steps
  unfold Halt
  rename Fr _ _ _ _ => G2
  rename News _ _ _ _ => M2
  rename IsRange _ _ _ _ _ _ _ _ => R2
  unfold Halt at hq3
  refine range_iter (fun i m' nx => ∃ us c es tl, nx = (D, listOf us.toArray c) :: (R ++ tl) ∧ (∀ p ∈ R ++ tl, p.1 ≠ D) ∧ DatAll (R8 ++ tl) us (es.map enD) ∧ (∀ q ∈ news, ∀ p ∈ tl, q.1 < p.1) ∧ goodEs es ∧ es.length = 4 + i ∧ 
        m' (Str.ofString "pairs") = some (.ref D) ∧ m' (Str.ofString "script") = some (.ref y)) (n := q)
      rfl R2 (small_one (by omega) (by omega) (by omega) (by omega)) (rangeSize_nat _ _) G2 M2 ⟨us0, 0, es0, [], by rw [List.append_nil], by rw [List.append_nil]; exact fun p hp => Nat.ne_of_lt (hltR p hp), by rw [List.append_nil]; exact hdR, fun _ _ _ h => absurd h List.not_mem_nil, es0_good, rfl, rfl, rfl⟩ ?_ ?_
  · clear hdR G2 M2 R2
    rintro i ti m₁ nx h tk own hi3 hoff hcls ⟨us, c, es, tl, rfl, hneD, hdat, hlt, hgood, hlen, e1, e2⟩ F₁ N₁
    rw [pin e1] at F₁
    rw [pin e2] at F₁
    k_steps
    unfold Halt
    rename Fr _ _ _ _ => F4
    rename News _ _ _ _ => N5
    k_dflt (refine' kmk_slice3_lit F4 N5 (F4.lst hlg) (.int _ _) .none (.int _ _) (by decide) rfl ?kkh (by with_unfolding_all rfl) (by kmk_pure) (by rw [List.size_toArray, sizeLine_eq]; omega))
    intro Z hZ F5 N6 ltZ
    clear F4 N5
    obtain ⟨zs, N7, hzs⟩ : ∃ zs : List Value, News _ _ hZ ((Z, listOf zs.toArray 0) :: _) ∧ ∃ ms, IntsAre zs ms := ⟨_, N6, _, hi.pick _ _ _⟩
    obtain ⟨ms, hzs⟩ := hzs
    clear N6
    k_steps
    unfold Halt
    rename Fr _ _ _ _ => F6
    rename News _ _ _ _ => N8
    refine LSm.sum_ints F6 N8 rfl (vs := zs) ⟨_, (N8 _ (.head _)).1, rfl, 0, rfl⟩ hzs fun h1 tk1 t1 F7 N9 => ?_
    clear F6 N8
    k_steps
    unfold Halt
    rename Fr _ _ _ _ => F8
    rename News _ _ _ _ => N10
    rename Below _ _ _ _ => BB
    rename Frag.In _ _ => XX
    rename Top _ _ _ _ _ _ => TT
    k_dflt (refine says_use onePair BB F8 XX N10 TT rfl (show dp + 1 + 8 < recursionLimit by omega) (show un + 3 + 64 < cLine by omega) ?_)
    clear F8 N10
    intro v tl' h' tk' F9 N11 lt5 hv
    obtain ⟨e, he1, he2, he3⟩ := hv
    k_steps
    unfold Halt
    rename Fr _ _ _ _ => F10
    rename News _ _ _ _ => N12
    have hul : us.length = 4 + i := by rw [hdat.length, List.length_map]; omega
    have lD : ∀ p ∈ tl', p.1 ≠ D := fun p hp => (Nat.ne_of_lt (lt5 _ (.tail _ (List.mem_append.mpr (.inl (.head _)))) p hp)).symm
    have lO : ∀ q ∈ own, ∀ p ∈ tl', q.1 ≠ p.1 := fun q hq p hp => Nat.ne_of_lt (lt5 q (.tail _ (List.mem_append.mpr (.inr hq))) p hp)
    refine app_ (us := us) (c := c) (rest := (R ++ (tl ++ tl')) ++ own) F10 N12 ?_ ?_ (by rw [sizeLine_eq]; omega) (fun h'' F11 N13 => ?_)
    · intro p hp
      rcases List.mem_cons.mp hp with rfl | hp
      · exact List.mem_append.mpr (.inl (.tail _ (List.mem_append.mpr (.inl (.head _)))))
      · rcases List.mem_append.mp hp with hp | hp
        · rw [← List.append_assoc] at hp
          rcases List.mem_append.mp hp with hp | hp
          · exact List.mem_append.mpr (.inl (.tail _ (List.mem_append.mpr (.inl (.tail _ hp)))))
          · exact List.mem_append.mpr (.inr hp)
        · exact List.mem_append.mpr (.inl (.tail _ (List.mem_append.mpr (.inr hp))))
    · intro p hp
      rw [← List.append_assoc] at hp
      rcases List.mem_append.mp hp with hp | hp
      · rcases List.mem_append.mp hp with hp | hp
        · exact hneD p hp
        · exact lD p hp
      · exact hoff p hp D (List.mem_map.mpr ⟨_, List.mem_cons_self, rfl⟩)
    clear F10 N12
    k_steps
    rename Fr _ _ _ _ => F12
    rename News _ _ _ _ => N14
    refine InvEndG.intro (nx := (D, listOf (us ++ [v]).toArray (c + 1)) :: (R ++ (tl ++ tl'))) F12 N14 ⟨us ++ [v], c + 1, es ++ [e], tl ++ tl', rfl, ?_, ?_, ?_, ?_, ?_, rfl, rfl⟩ ?_ ?_ ?_
    · intro p hp
      rw [← List.append_assoc] at hp
      rcases List.mem_append.mp hp with hp | hp
      · exact hneD p hp
      · exact lD p hp
    · rw [← List.append_assoc, List.map_append]
      exact DatAll.append (hdat.mono fun p hp => List.mem_append.mpr (.inl hp)) (DatAll.one (he3.mono fun p hp => List.mem_append.mpr (.inr hp)))
    · intro q hq p hp
      rcases List.mem_append.mp hp with hp | hp
      · exact hlt q hq p hp
      · exact lt5 q (.tail _ (List.mem_append.mpr (.inl (.tail _ (List.mem_append.mpr (.inl (hnR q hq))))))) p hp
    · intro d hd
      rcases List.mem_append.mp hd with hd | hd
      · exact hgood d hd
      · rw [List.mem_singleton.mp hd]; exact ⟨he1, he2⟩
    · rw [List.length_append, hlen]; rfl
    · intro p hp b hb
      obtain ⟨r, hr, rfl⟩ := List.mem_map.mp hb
      rw [← List.append_assoc] at hr
      rcases List.mem_cons.mp hr with rfl | hr
      · exact hoff p hp D (List.mem_map.mpr ⟨_, List.mem_cons_self, rfl⟩)
      · rcases List.mem_append.mp hr with hr | hr
        · exact hoff p hp r.1 (List.mem_map.mpr ⟨r, .tail _ hr, rfl⟩)
        · exact lO p hp r hr
    · intro p hp
      rcases List.mem_cons.mp hp with rfl | hp
      · exact .head _
      · exact .tail _ (List.mem_append.mpr (.inl hp))
    · exact fun p hp => .tail _ (List.mem_append.mpr (.inr hp))
  · rintro m₁ nx h tk ⟨us, c, es, tl, rfl, hneD, hdat, hlt, hgood, hlen, e1, e2⟩ F₁ N₁
    rw [pin e1] at F₁
    dsimp only
    k_steps
    rename Fr h₀ L _ _ => F2
    rename News h₀ L _ _ => N2
    refine hret D us c es ((D, listOf us.toArray c) :: (R8 ++ tl)) _ _ F2 (news_sub N2 ?_) ?_ (.head _) hgood (by omega) (by omega) (hdat.mono fun p hp => .tail _ hp)
    · intro p hp
      rcases List.mem_append.mp hp with hp | hp
      · exact .tail _ (List.mem_append.mpr (.inl (hnR p hp)))
      · rcases List.mem_cons.mp hp with rfl | hp
        · exact .head _
        · rcases List.mem_append.mp hp with hp | hp
          · exact .tail _ (List.mem_append.mpr (.inl (h8R p hp)))
          · exact .tail _ (List.mem_append.mpr (.inr hp))
    · intro q hq p hp
      rcases List.mem_cons.mp hp with rfl | hp
      · exact hltR q (hnR q hq)
      · rcases List.mem_append.mp hp with hp | hp
        · exact hl8 q hq p hp
        · exact hlt q hq p hp
end Mine
end

section
open PySem PySem.W PyProof.Rows PySem.Calls PyProof.Rows.LCg
set_option maxRecDepth 100000
set_option maxHeartbeats 2000000
namespace Mine
local macro_rules | `(tactic| walk_at "call ref") => `(tactic| refine halt ?_)
local macro_rules | `(tactic| walk_at "call builtin:len") => `(tactic| refine halt ?_)
local macro_rules | `(tactic| walk_at "call builtin:all") => `(tactic| refine halt ?_)
local macro_rules | `(tactic| walk_at "eval ListComp") => `(tactic| refine halt ?_)
local macro_rules | `(tactic| walk_at "exec Assign cons ListComp") => `(tactic| refine halt ?_)
local macro_rules | `(tactic| walk_at "CompSrc") => `(tactic| refine halt ?_)
local macro_rules | `(tactic| walk_at "subscriptTail Name Slice ref ref") => `(tactic| refine halt ?_)

theorem store_cell {M : Model} {A : Around} {E : Value → Shared → Prop} {s : Shared} {h₀ : Heap} {L : Addr} {m : Str → Option Value} {env : Env} {x : Str} {v : Value} {tl : List (Addr × Obj)} {c : Addr} {o : Obj} {v₀ : Option Value} {Q : Unit → Shared → Prop}
    (F : Fr h₀ L s.heap m) (N : News h₀ L s.heap ((c, o) :: tl)) (hne : ∀ p ∈ tl, p.1 ≠ c) (hd : o.data = .cell v₀) (hk : env.scope.kind = .function) (hl : env.kindOf x = some .cell) (hc : env.cells.lookup x = some c)
    (h : ∀ h' o', Fr h₀ L h' m → News h₀ L h' ((c, o') :: tl) → o'.data = .cell (some v) → Q () { s with heap := h' }) : wpAny M A (storeName env x v) Q E s := by
  have hmem := N (c, o) (.head _)
  refine wpAny_storeName_cell hk hl hc ⟨o, hmem.1, hd⟩ fun h' hv hs => ?_
  obtain ⟨o', ho', hd'⟩ := hv
  refine h h' o' ⟨F.ns.sameBut hs (Ne.symm hmem.2.1), fun b ob e => (hs.2 b (fun q => ?_)).trans (F.keep b ob e), F.above⟩ (News.setAt (own := []) N (fun _ h => absurd h List.not_mem_nil) hne hs ho') hd'
  rw [q, hmem.2.2] at e; cases e

theorem pick_upto (us : List Value) (k : Nat) (z : Int) (hz : z = (k : Int)) : (slicePick us.toArray none (some z) none).toList = us.take k := by
  have e : sliceBounds none (some z) none us.toArray.size = (((0 : Nat) : Int), ((min k us.toArray.size : Nat) : Int), 1) := by
    simp only [sliceBounds, Option.getD_none, show (1 : Int) > 0 by decide, if_true, if_neg (show ¬ (z < 0) by omega)]
    congr 1
    congr 1
    omega
  rw [kmk_pick_nat _ e]
  show (us.drop 0).take (min k us.toArray.size - 0) = _
  rw [List.drop_zero, Nat.sub_zero, List.size_toArray, kmk_take_min]
theorem datAll_take {l : List (Addr × Obj)} : ∀ {vs : List Value} {ds : List Dat} (k : Nat), DatAll l vs ds → DatAll l (vs.take k) (ds.take k)
  | _, _, 0, _ => by rw [List.take_zero, List.take_zero]; exact .nil
  | _, _, _ + 1, .nil => by rw [List.take_nil, List.take_nil]; exact .nil
  | _, _, k + 1, .cons h t => by rw [List.take_succ_cons, List.take_succ_cons]; exact .cons h (datAll_take k t)
theorem list_open {l : List (Addr × Obj)} {v : Value} {ds : List Dat} (h : DatIn l v (.list ds)) : ∃ a vs n, v = .ref a ∧ (a, listOf vs.toArray n) ∈ l ∧ DatAll l vs ds := by
  cases h with
  | list h1 h2 => exact ⟨_, _, _, rfl, h1, h2⟩

theorem readI {w : World} {mean : ExcName → Option Value} {mg mb : Str → Option Value} {news : List (Addr × Obj)} {f x : Addr} {vs : List Value} {n : Nat} {es : List (PP × Bool)} {t t' : Tok} {a b : Int}
    (hf : f = 41 ∨ f = 48) (hx : (x, listOf vs.toArray n) ∈ news) (hD : DatAll news vs (es.map enD)) (h64 : es.length < 10) (hg : goodEs es) (hne : 1 ≤ es.length) (ha : a = ((mid f es.length : Nat) : Int)) (hb : b = ((es.length - mid f es.length : Nat) : Int)) :
    Says w mean mg mb 74 [.ref f, .ref x, .int a t, .int b t'] 16 256 news (fun tl r => ∃ D us c, r = .ref D ∧ (D, listOf us.toArray c) ∈ tl ∧ DatAll (news ++ tl) us ((srt (es.map fun e => clean e.1)).map prD)) := by
  subst ha hb
  exact read hf hx hD h64 (fun e he => (hg e he).1) (fun e he => (hg e he).2) hne

theorem lawT : PySem.Challenge.rw_nb0048_01.Holds := by
  refine Mine.hd ?_
  k_go0
  all_goals try k_fold
  have kdm := kdMark
  k_steps
  unfold Halt
  rename Below _ _ _ _ => K0
  rename Frag.In _ _ => KX
  rename Top _ _ _ _ _ _ => TT
  rename IntsAre _ _ => hI
  rename Heap.IsList _ _ _ => hL
  rename Fr _ _ _ _ => F1
  rename News _ _ _ _ => N1
  rename (¬ ((63 : Nat) : Int) < _) => h63
  have hvl := hI.length
  k_dflt (refine lawPairs (below_caller _) F1 KX N1 TT rfl (by decide +kernel) (by decide +kernel) hL hI (by omega) ?_)
  intro D us c es tl h' tk' F2 N2 lt2 hin hgood h4 h7 hdat
  clear F1 N1
  k_steps
  rename (_ = Data.cell _) => dc
  refine store_cell F2 N2 (fun p hp => (Nat.ne_of_lt (lt2 _ (.head _) p hp)).symm) dc rfl (by rfl) (by rfl) fun h2 o2 F3 N3 d2 => ?_
  clear F2 N2 dc
  replace N3 : News _ _ h2 ((_, o2) :: tl) := N3
  k_steps
  unfold Halt
  refine Assign_ListComp_U F3 (by rfl) (by with_unfolding_all rfl) (by with_unfolding_all rfl) (by decide) (by rfl) (by decide) (by rfl) (by rfl) (by rfl) ?_
  k_steps
  unfold Halt
  have hul : us.length = es.length := by rw [hdat.length, List.length_map]
  refine lenL N3 (.tail _ hin) hul (by omega) ?_
  k_steps
  unfold Halt
  rename IsRange _ _ _ _ _ _ _ _ => R1
  rename Fr _ _ _ _ => F4
  rename News _ _ _ _ => N4
  refine comp_range_src (out := fun i => Dat.list ((es.take (i + 1)).map enD)) rfl F4 N4 R1 (small_one (by omega) (by omega) (by omega) (by omega)) (rangeSize_nat _ _) (by omega) ?_ ?_
  · intro g i hi nw I oI C oC Dl ys m₂ h tk E' R ⟨hsub, v, ⟨ti, hvi⟩, hm2⟩ hC F N off ne hRR
    subst hvi
    clear F4 N4 R1
    have hcell := hsub _ (.head _)
    k_steps
    unfold Halt
    rename Fr _ _ _ _ => F6
    rename News _ _ _ _ => N6
    k_dflt (refine' kmk_slice_lit F6 N6 ⟨_, (N6 _ (.tail _ (.tail _ (.tail _ (hsub _ (.tail _ hin)))))).1, rfl, c, rfl⟩ .none (.int _ _) (pick_upto us (i + 1) _ (by omega)) ?kkh (by with_unfolding_all rfl) (by kmk_pure) (by rw [List.size_toArray, sizeLine_eq]; omega))
    intro Z hZ F7 N7 ltZ
    refine hRR _ _ _ [_] F7 N7 ?_ (DatIn.list (List.mem_append.mpr (.inr (.head _))) ?_)
    · intro p hp q hq
      rw [List.mem_singleton.mp hq]
      exact ltZ p hp
    · rw [List.map_take]
      exact datAll_take _ (hdat.mono fun p hp => List.mem_append.mpr (.inl (hsub _ (.tail _ hp))))
  · intro g us3 tl3 hd3 lt3 D3 h3 tk3 F5 N5 o3
    clear F4 N4 R1
    have hgood' : ∀ i, goodEs (es.take i) := fun i e he => hgood e (List.mem_of_mem_take he)
    k_steps
    unfold Halt
    refine ListComp_U (F₀ := F5) (by with_unfolding_all rfl) (by decide) (by rfl) (by decide) (by rfl) ?_
    k_steps
    unfold Halt
    rename Fr _ _ _ _ => F6
    rename News _ _ _ _ => N6
    refine comp_list_src (out := fun _ => Dat.bool true) rfl F6 N6 (.head _) (hd3.mono fun p hp => .tail _ hp) (by rw [List.length_map, List.length_range]; omega) ?_ ?_
    · intro g i hi nw I oI C oC Dl ys m₂ h tk E' R ⟨hsub, v, hv, hm2⟩ hC F N off ne hRR
      clear F6 N6
      rw [List.getElem_map, List.getElem_range] at hv
      rw [List.length_map, List.length_range] at hi
      obtain ⟨l, ws, cc, rfl, hl, hws⟩ := list_open hv
      have hwl : (es.take (i + 1)).length = i + 1 := by rw [List.length_take]; omega
      have hwl2 : ws.length = i + 1 := by rw [hws.length, List.length_map, hwl]
      k_steps
      unfold Halt
      rename News _ _ _ _ => N7
      refine lenL N7 (.tail _ (.tail _ (.tail _ hl))) hwl2 (by omega) ?_
      k_steps
      unfold Halt
      rename News _ _ _ _ => N8
      refine lenL N8 (.tail _ (.tail _ (.tail _ hl))) hwl2 (by omega) ?_
      k_steps
      unfold Halt
      rename Fr _ _ _ _ => F9
      rename News _ _ _ _ => N9
      k_dflt (refine says_use (readI (es := es.take (i + 1)) (.inl rfl) (.tail _ (.tail _ (.tail _ hl))) (hws.mono fun p hp => .tail _ (.tail _ (.tail _ hp))) (by omega) (hgood' _) (by omega) (by rw [hwl]; rw [show ((i + 1 : Nat) : Int) - 1 = (i : Int) by omega, fdiv2]; unfold mid; rfl) (by rw [hwl]; rw [fdiv2]; unfold mid; rw [if_pos rfl]; omega)) (below_caller _) F9 KX N9 TT rfl (by decide +kernel) (by decide +kernel) ?_)
      rintro _ tl5 h5 tk5 F10 N10 lt5 ⟨RD, ru, rc, rfl, hrin, hrd⟩
      clear F9 N9
      k_steps
      unfold Halt
      rename Fr _ _ _ _ => F11
      rename News _ _ _ _ => N11
      k_dflt (refine says_use (inOrder (es := es.take (i + 1)) (List.mem_append.mpr (.inr hrin)) hrd (List.mem_append.mpr (.inl (.tail _ (.tail _ (.tail _ hl))))) (hws.mono fun p hp => List.mem_append.mpr (.inl (.tail _ (.tail _ (.tail _ hp))))) (by omega) (fun e he => (hgood' _ e he).1) (by omega)) (below_caller _) F11 KX N11 TT rfl (by decide +kernel) (by decide +kernel) ?_)
      rintro _ tl6 h6 tk6 F12 N12 lt6 rfl
      clear F11 N11
      exact hRR _ _ _ [] F12 (news_sub N12 fun p hp => List.mem_append.mpr (.inl (List.mem_append.mpr (.inl hp)))) (fun _ _ _ h => absurd h List.not_mem_nil) (DatIn.bool true)
    · intro g us4 tl4 hd4 lt4 D4 h4 tk4 F7 N7 o4
      clear F6 N6
      k_steps
      unfold Halt
      refine allL F7 N7 rfl (.head _) (hd4.mono fun p hp => .tail _ hp) fun h5 tk5 F8 N8 => ?_
      clear F7 N7
      k_steps
      unfold Halt
      rename Fr _ _ _ _ => G5
      rename News _ _ _ _ => M5
      obtain ⟨Λ, M6, hpin, hd5⟩ := pack (fun Λ => (D3, lst us3) ∈ Λ ∧ DatAll Λ us3 ((List.range es.length).map fun i => Dat.list ((es.take (i + 1)).map enD))) M5 ⟨.tail _ (List.mem_append.mpr (.inl (.head _))), hd3.mono fun p hp => .tail _ (List.mem_append.mpr (.inl (.tail _ hp)))⟩
      clear M5 hd3 hd4
      refine ListComp_U (F₀ := G5) (by with_unfolding_all rfl) (by decide) (by rfl) (by decide) (by rfl) ?_
      k_steps
      unfold Halt
      rename Fr _ _ _ _ => F6
      rename News _ _ _ _ => N6
      refine comp_list_src (out := fun _ => Dat.bool true) rfl F6 N6 hpin hd5 (by rw [List.length_map, List.length_range]; omega) ?_ ?_
      · intro g i hi nw I oI C oC Dl ys m₂ h tk E' R ⟨hsub, v, hv, hm2⟩ hC F N off ne hRR
        clear F6 N6
        rw [List.getElem_map, List.getElem_range] at hv
        rw [List.length_map, List.length_range] at hi
        obtain ⟨l, ws, cc, rfl, hl, hws⟩ := list_open hv
        have hwl : (es.take (i + 1)).length = i + 1 := by rw [List.length_take]; omega
        have hwl2 : ws.length = i + 1 := by rw [hws.length, List.length_map, hwl]
        k_steps
        unfold Halt
        rename News _ _ _ _ => N7
        refine lenL N7 (.tail _ (.tail _ (.tail _ hl))) hwl2 (by omega) ?_
        k_steps
        unfold Halt
        rename News _ _ _ _ => N8
        refine lenL N8 (.tail _ (.tail _ (.tail _ hl))) hwl2 (by omega) ?_
        k_steps
        unfold Halt
        rename Fr _ _ _ _ => F9
        rename News _ _ _ _ => N9
        k_dflt (refine says_use (readI (es := es.take (i + 1)) (.inr rfl) (.tail _ (.tail _ (.tail _ hl))) (hws.mono fun p hp => .tail _ (.tail _ (.tail _ hp))) (by omega) (hgood' _) (by omega) (by rw [hwl]; rw [fdiv2]; unfold mid; rfl) (by rw [hwl]; rw [show ((i + 1 : Nat) : Int) + 1 = ((i + 2 : Nat) : Int) by omega, fdiv2]; unfold mid; rw [if_neg (by decide)]; omega)) (below_caller _) F9 KX N9 TT rfl (by decide +kernel) (by decide +kernel) ?_)
        rintro _ tl5 h5 tk5 F10 N10 lt5 ⟨RD, ru, rc, rfl, hrin, hrd⟩
        clear F9 N9
        k_steps
        unfold Halt
        rename Fr _ _ _ _ => F11
        rename News _ _ _ _ => N11
        k_dflt (refine says_use (inOrder (es := es.take (i + 1)) (List.mem_append.mpr (.inr hrin)) hrd (List.mem_append.mpr (.inl (.tail _ (.tail _ (.tail _ hl))))) (hws.mono fun p hp => List.mem_append.mpr (.inl (.tail _ (.tail _ (.tail _ hp))))) (by omega) (fun e he => (hgood' _ e he).1) (by omega)) (below_caller _) F11 KX N11 TT rfl (by decide +kernel) (by decide +kernel) ?_)
        rintro _ tl6 h6 tk6 F12 N12 lt6 rfl
        clear F11 N11
        exact hRR _ _ _ [] F12 (news_sub N12 fun p hp => List.mem_append.mpr (.inl (List.mem_append.mpr (.inl hp)))) (fun _ _ _ h => absurd h List.not_mem_nil) (DatIn.bool true)
      · intro g us4 tl4 hd4 lt4 D4 h4 tk4 F7 N7 o4
        clear F6 N6
        k_steps
        unfold Halt
        refine allL F7 N7 rfl (.head _) (hd4.mono fun p hp => .tail _ hp) fun h5 tk5 F8 N8 => ?_
        clear F7 N7
        k_steps
        unfold Halt
        rename Fr _ _ _ _ => G8
        rename News _ _ _ _ => M8
        k_dflt (refine noneLow (below_caller _) G8 KX KX M8 TT TT rfl (by decide +kernel) (by decide +kernel) ?_)
        intro h8 tk8 F9 N9
        clear G8 M8
        k_steps
        unfold Halt
        rename Fr _ _ _ _ => G9
        rename News _ _ _ _ => M9
        k_dflt (refine noneHigh (below_caller _) G9 KX KX M9 TT TT rfl (by decide +kernel) (by decide +kernel) ?_)
        intro h9 tk9 F10 N10
        clear G9 M9
        k_steps
end Mine
end

theorem PySem.Challenge.cw_nb0048_01_holds : PySem.Challenge.rw_nb0048_01.Holds := by
  exact Mine.lawT
