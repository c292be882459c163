import PyProof.Rows.All
import Wide.All
import OpenK.AllK
import Wide.FinOn
import PySem.Challenge.RW_oy0052_01
set_option Elab.async false
section
open PySem PySem.W PyProof.Rows
namespace Mine
set_option maxRecDepth 100000
set_option maxHeartbeats 8000000
open_top hd for PySem.Challenge.rw_oy0052_01
end Mine
end
section
open PySem PySem.W PyProof.Rows PySem.Calls
set_option maxRecDepth 100000
namespace Mine

/-! lists of bytes in the ledger -/
abbrev By := Array UInt8
noncomputable def unB : Value → Option By
  | .bytes b _ => some b
  | _ => none
theorem unB_some {v : Value} {b : By} (h : unB v = some b) : ∃ t, v = .bytes b t := by
  cases v <;> simp [unB] at h
  subst h; exact ⟨_, rfl⟩
noncomputable def BytesAre (vs : List Value) (bs : List By) : Prop := vs.map unB = bs.map some
theorem BytesAre.length {vs : List Value} {bs : List By} (h : BytesAre vs bs) : vs.length = bs.length := by
  have := congrArg List.length h
  simpa using this
theorem BytesAre.nil : BytesAre [] [] := rfl
theorem BytesAre.get {vs : List Value} {bs : List By} (h : BytesAre vs bs) {i : Nat} (hi : i < bs.length) : ∃ t, vs[i]? = some (.bytes (bs.getD i #[]) t) := by
  have hl := h.length
  have h1 : (vs.map unB)[i]? = (bs.map some)[i]? := by rw [show vs.map unB = bs.map some from h]
  have hv : i < vs.length := by omega
  simp only [List.getElem?_map, List.getElem?_eq_getElem hv, List.getElem?_eq_getElem hi, Option.map_some, Option.some.injEq] at h1
  obtain ⟨t, ht⟩ := unB_some h1
  refine ⟨t, ?_⟩
  rw [List.getElem?_eq_getElem hv, ht]
  simp [List.getD, List.getElem?_eq_getElem hi]
theorem BytesAre.set {vs : List Value} {bs : List By} (h : BytesAre vs bs) (i : Nat) (b : By) (t : Tok) : BytesAre (vs.set i (.bytes b t)) (bs.set i b) := by
  unfold BytesAre at *
  rw [List.map_set, List.map_set, h]; rfl
theorem BytesAre.push {vs : List Value} {bs : List By} (h : BytesAre vs bs) (b : By) (t : Tok) : BytesAre (vs ++ [.bytes b t]) (bs ++ [b]) := by
  unfold BytesAre at *
  rw [List.map_append, List.map_append, h]; rfl
theorem BytesAre.append {vs us : List Value} {bs cs : List By} (h : BytesAre vs bs) (h' : BytesAre us cs) : BytesAre (vs ++ us) (bs ++ cs) := by
  unfold BytesAre at *
  rw [List.map_append, List.map_append, h, h']
theorem BytesAre.take {vs : List Value} {bs : List By} (h : BytesAre vs bs) (i : Nat) : BytesAre (vs.take i) (bs.take i) := by
  unfold BytesAre at *
  rw [List.map_take, List.map_take, h]
theorem BytesAre.drop {vs : List Value} {bs : List By} (h : BytesAre vs bs) (i : Nat) : BytesAre (vs.drop i) (bs.drop i) := by
  unfold BytesAre at *
  rw [List.map_drop, List.map_drop, h]
theorem BytesAre.dropLast {vs : List Value} {bs : List By} (h : BytesAre vs bs) : BytesAre vs.dropLast bs.dropLast := by
  rw [List.dropLast_eq_take, List.dropLast_eq_take, h.length]; exact h.take _

theorem kl_cut_of : ∀ {l : List Value} {k : Nat} {y : Value}, l[k]? = some y → kl_cut l k = some (l.take k, y, l.drop (k + 1))
  | [], _, _, h => by simp at h
  | x :: r, 0, _, h => by simp at h; subst h; rfl
  | x :: r, k + 1, y, h => by
    have := kl_cut_of (l := r) (k := k) (y := y) (by simpa using h)
    simp only [kl_cut, this, List.take_succ_cons, List.drop_succ_cons]

section
variable {prog : Program} {w : World} {A : Around} {E : Value → Shared → Prop} {s : Shared} {h₀ : Heap} {L D : Addr} {m : Str → Option Value} {news news' : List (Addr × Obj)} {vs : List Value} {bs : List By} {n : Nat} {k : Int} {t u : Tok}
theorem by_get {Q : Value → Shared → Prop} (N : News h₀ L s.heap news) (hm : (D, listOf vs.toArray n) ∈ news) (hi : BytesAre vs bs) (h0 : 0 ≤ k) (h1 : k < bs.length) (hfit : k < 2 ^ 63) (h : ∀ t, Q (.bytes (bs.getD k.toNat #[]) t) s) :
    wpAny (model prog w) A (getItem (.ref D) (.int k u)) Q E s := by
  obtain ⟨t, ht⟩ := hi.get (i := k.toNat) (by omega)
  exact wpAny_getItem_list (IsL.isList (n := n) (N _ hm).1) h0 hfit (by simpa using ht) (h t)
theorem by_sub {value slice : PySem.Expr} {Q : Value → Shared → Prop} (N : News h₀ L s.heap news) (hm : (D, listOf vs.toArray n) ∈ news) (hi : BytesAre vs bs) (h0 : 0 ≤ k) (h1 : k < bs.length) (hfit : k < 2 ^ 63) (h : ∀ t, Q (.bytes (bs.getD k.toNat #[]) t) s)
    (hs : subscripted slice false (.ref D) (.int k u) = operate [.ref D, .int k u] (getItem (.ref D) (.int k u)) := by with_unfolding_all rfl) (hg : ∀ r, letTemporaryGo value (.ref D) r = pure () := by intro _; with_unfolding_all rfl) :
    wpAny (model prog w) A (subscriptTail value slice (.ref D) (.int k u)) Q E s := by
  obtain ⟨t, ht⟩ := hi.get (i := k.toNat) (by omega)
  exact kim_list N hm rfl rfl h0 hfit ht (h t) hs hg
theorem by_set {Q : Unit → Shared → Prop} {b : By} (F : Fr h₀ L s.heap m) (N : News h₀ L s.heap news) (U : Upd D (listOf vs.toArray n) (listOf (vs.set k.toNat (.bytes b u)).toArray n) news news') (hi : BytesAre vs bs) (h0 : 0 ≤ k) (h1 : k < bs.length) (hfit : k < 2 ^ 63)
    (h : ∀ h', Fr h₀ L h' m → News h₀ L h' news' → BytesAre (vs.set k.toNat (.bytes b u)) (bs.set k.toNat b) → Q () { s with heap := h' }) :
    wpAny (model prog w) A (setItem (.ref D) (.int k t) (.bytes b u)) Q E s := by
  obtain ⟨pre, post, rfl, rfl, a, b'⟩ := U.split
  have z := N (D, listOf vs.toArray n) (List.mem_append.mpr (.inr (.head _)))
  have hl : vs.length = bs.length := hi.length
  have hs : vs.toArray.size = bs.length := by rw [List.size_toArray]; exact hl
  have hj : k.toNat < bs.length := by omega
  refine ki_setAt z.1 h0 hfit (by omega) (h _ (F.change (Heap.SameBut.update ..) z.2.1 z.2.2) (ki_turn _ N a b' ?_ ?_) (hi.set _ _ _))
  · show vs.toArray.setIfInBounds k.toNat (.bytes b u) = (vs.set k.toNat (.bytes b u)).toArray
    apply Array.toList_inj.mp
    simp
  · simp
theorem by_pop {Q : Value → Shared → Prop} (F : Fr h₀ L s.heap m) (N : News h₀ L s.heap news) (U : Upd D (listOf vs.toArray n) (listOf vs.dropLast.toArray (n + 1)) news news') (hi : BytesAre vs bs) (hne : 0 < bs.length)
    (hz : bs.length ≤ sizeLine) (h : ∀ h' t, Fr h₀ L h' m → News h₀ L h' news' → BytesAre vs.dropLast bs.dropLast → Q (.bytes (bs.getD (bs.length - 1) #[]) t) { s with heap := h' }) : wpAny (model prog w) A (call (.builtin "list.pop") [.ref D]) Q E s := by
  have hl := hi.length
  obtain ⟨t, ht⟩ := hi.get (i := bs.length - 1) (by omega)
  refine kl_pop F N (p := vs.dropLast) (y := .bytes (bs.getD (bs.length - 1) #[]) t) ?_ U (by simpa [hl] using hz) fun h' F' N' => h h' t F' N' hi.dropLast
  have e := kpa_last (.bytes (bs.getD (bs.length - 1) #[]) t) vs.dropLast
  have h1 : vs.dropLast ++ [.bytes (bs.getD (bs.length - 1) #[]) t] = vs := by
    rw [← hl] at ht ⊢
    have hv : vs ≠ [] := by intro e; rw [e] at hl; simp at hl; omega
    have h2 : vs.getLast hv = .bytes (bs.getD (vs.length - 1) #[]) t := by
      rw [List.getLast_eq_getElem]
      have h3 : vs.length - 1 < vs.length := by omega
      rw [List.getElem?_eq_getElem h3] at ht
      exact Option.some.inj ht
    rw [← h2]
    exact List.dropLast_concat_getLast hv
  rw [h1] at e
  simpa using e
theorem by_popAt {Q : Value → Shared → Prop} (F : Fr h₀ L s.heap m) (N : News h₀ L s.heap news) (U : Upd D (listOf vs.toArray n) (listOf (vs.take k.toNat ++ vs.drop (k.toNat + 1)).toArray (n + 1)) news news') (hi : BytesAre vs bs) (h0 : 0 ≤ k) (h1 : k < bs.length)
    (hz : bs.length ≤ sizeLine) (h : ∀ h' t, Fr h₀ L h' m → News h₀ L h' news' → BytesAre (vs.take k.toNat ++ vs.drop (k.toNat + 1)) (bs.take k.toNat ++ bs.drop (k.toNat + 1)) → Q (.bytes (bs.getD k.toNat #[]) t) { s with heap := h' }) : wpAny (model prog w) A (call (.builtin "list.pop") [.ref D, .int k u]) Q E s := by
  have hl := hi.length
  have hsz : sizeLine = 16777216 := sizeLine_eq
  obtain ⟨t, ht⟩ := hi.get (i := k.toNat) (by omega)
  refine kl_popAt (its := vs.toArray) F N (k := k.toNat) ?_ ?_ (show kl_cut vs k.toNat = _ from kl_cut_of ht) U (by simpa [hl] using hz) fun h' F' N' => h h' t F' N' ((hi.take _).append (hi.drop _))
  · simp only [Builtin.List.listFitsIndex, Bool.and_eq_true, decide_eq_true_eq]; omega
  · have hn : ¬ k < 0 := by omega
    have : k < vs.length := by omega
    simp [seqIndex?, hn, h0, this]
theorem by_append {Q : Value → Shared → Prop} {b : By} (F : Fr h₀ L s.heap m) (N : News h₀ L s.heap news) (U : Upd D (W.listOf vs.toArray n) (W.listOf (vs ++ [Value.bytes b u]).toArray (n + 1)) news news') (hi : BytesAre vs bs)
    (hz : bs.length ≤ sizeLine) (h : ∀ h', Fr h₀ L h' m → News h₀ L h' news' → BytesAre (vs ++ [Value.bytes b u]) (bs ++ [b]) → Q .none { s with heap := h' }) : wpAny (model prog w) A (call (.builtin "list.append") [.ref D, .bytes b u]) Q E s := by
  refine append_K F N (by rw [List.push_toArray]; exact U) (fun h' F' N' => h h' F' N' (hi.push _ _)) ?_
  rw [List.size_toArray, hi.length]; exact hz
theorem by_len {Q : Value → Shared → Prop} (N : News h₀ L s.heap news) (hm : (D, W.listOf vs.toArray n) ∈ news) (hi : BytesAre vs bs) (hf : bs.length < 2 ^ 62) (h : Q (.int (bs.length : Nat) (s.toks + 1)) { s with toks := s.toks + 1 + 1 }) :
    wpAny (model prog w) A (call (.builtin "len") [.ref D]) Q E s := by
  have hs : vs.toArray.size = bs.length := by simpa using hi.length
  exact call_len_list (News.isList N hm) (by omega) (by rw [hs]; exact h)
theorem by_truthy {Q : Bool → Shared → Prop} (N : News h₀ L s.heap news) (hm : (D, W.listOf vs.toArray n) ∈ news) (hi : BytesAre vs bs) (hf : bs.length < 2 ^ 62) (h : Q (decide (0 < bs.length)) { s with toks := s.toks + 1 + 1 }) :
    wpAny (model prog w) A (truthy (.ref D)) Q E s := by
  have hs : vs.toArray.size = bs.length := by simpa using hi.length
  refine wpAny_truthy_list (News.isList N hm) (by omega) ?_
  have e : (!vs.toArray.isEmpty) = decide (0 < bs.length) := by
    have := hi.length
    cases vs with
    | nil => simp at this; simp [← this]
    | cons a r => simp at this; simp [← this]
  rw [e]; exact h
end

theorem ladd_ints {prog : Program} {w : World} {A : Around} {E : Value → Shared → Prop} {s : Shared} {h₀ : Heap} {L l b : Addr} {m : Str → Option Value} {news : List (Addr × Obj)} {vs ws : List Value} {ns ms : List Int} {Q : Value → Shared → Prop} (F : Fr h₀ L s.heap m) (N : News h₀ L s.heap news)
    (hl : s.heap.IsList l vs.toArray) (hb : s.heap.IsList b ws.toArray) (hi : IntsAre vs ns) (hj : IntsAre ws ms) (hz : ns.length + ms.length ≤ sizeLine)
    (h : ∀ lf us h', Fr h₀ L h' m → News h₀ L h' ((lf, W.listOf us.toArray 0) :: news) → IntsAre us (ns ++ ms) → (∀ p ∈ news, p.1 < lf) → Q (.ref lf) { s with heap := h' }) :
    wpAny (model prog w) A (binaryOp .Add (.ref l) (.ref b)) Q E s :=
  add_lists_ints F N hl hb hi hj (fun h' F' N' hI => h _ _ h' F' N' hI fun p hp => Heap.lt_size (N p hp).1) hz
/-! bytes < bytes -/
theorem slot_bytes_lt : Slot "bytes" (cmpInfo .Lt).2.1 "bytes.__lt__" :=
  .of (owner := "bytes") (n := "__lt__") (by rw [typeLookup_type, builtinLookup_eq_fast]; kernel_rfl) (by decide +kernel) (by decide +kernel) (by decide +kernel)
    (by first | exact .inl (by decide +kernel) | exact .inr (by decide +kernel)) (by rw [isSubtype_type]; kernel_rfl)
theorem entry_bytes_lt : entryFor table "bytes.__lt__" = some Builtin.«bytes.__lt__» := entryFor_of_tree (by kernel_rfl)
theorem args_bytes_lt_2 (a b : Value) : argsOk "bytes.__lt__" ⟨[a, b], []⟩ := by
  unfold argsOk; rw [signature?_of (id := "bytes.__lt__") (n := ['_', '_', 't', 'l', '_', '_']) (o := ['s', 'e', 't', 'y', 'b']) (by kernel_rfl) FB.owner_bytes]; kernel_rfl
noncomputable def blt (b c : By) : Bool := Builtin.Bytes.order b.toList c.toList == .lt
theorem gives_bytes_lt (b c : By) (t u : Tok) : Gives (Builtin.«bytes.__lt__» ⟨[.bytes b t, .bytes c u], []⟩) (.val (.bool (blt b c))) := by
  refine .of_wp fun M A E s Q hq => ?_
  show wpAny M A (isInstance (.bytes c u) (.type "bytes") >>= fun r => _) _ E s
  refine wpAny_bind (wpAny_isInstance (typeIs_bytes s c u) F.sub_bytes_bytes ?_)
  exact wpAny_pure ⟨_, rfl, hq⟩
theorem lt_bytes {prog : Program} {w : World} {A : Around} {E : Value → Shared → Prop} {s : Shared} {b c : By} {t u : Tok} {Q : Value → Shared → Prop} (h : Q (.bool (blt b c)) s) : wpAny (model prog w) A (compareOp .Lt (.bytes b t) (.bytes c u)) Q E s :=
  compareOp_gives (op := .Lt) (typeIs_bytes s b t) (typeIs_bytes s c u) slot_bytes_lt entry_bytes_lt (args_bytes_lt_2 _ _) (gives_bytes_lt b c t u) (fun e => nomatch e) h
end Mine
end
section
namespace Mine
/-! the heap's own functions, on plain lists -/
section
variable {α : Type} (lt : α → α → Bool) (d : α)
noncomputable def sdown (x : α) (pos : Nat) (l : List α) : List α :=
  if h : pos = 0 then l.set pos x
  else if lt x (l.getD ((pos - 1) / 2) d) then sdown x ((pos - 1) / 2) (l.set pos (l.getD ((pos - 1) / 2) d)) else l.set pos x
termination_by pos
decreasing_by omega
noncomputable def childOf (e : Nat) (pos : Nat) (l : List α) : Nat :=
  if 2 * pos + 2 < e ∧ lt (l.getD (2 * pos + 1) d) (l.getD (2 * pos + 2) d) = false then 2 * pos + 2 else 2 * pos + 1
theorem childOf_ge (e : Nat) (pos : Nat) (l : List α) : pos < childOf lt d e pos l := by
  unfold childOf; split <;> omega
noncomputable def sup (e : Nat) (pos : Nat) (l : List α) : Nat × List α :=
  if h : 2 * pos + 1 < e then sup e (childOf lt d e pos l) (l.set pos (l.getD (childOf lt d e pos l) d)) else (pos, l)
termination_by e - pos
decreasing_by
  have := childOf_ge lt d e pos l
  omega
noncomputable def siftup0 (l : List α) : List α := sdown lt d (l.getD 0 d) (sup lt d l.length 0 l).1 ((sup lt d l.length 0 l).2.set (sup lt d l.length 0 l).1 (l.getD 0 d))
noncomputable def hpush (l : List α) (x : α) : List α := sdown lt d x l.length (l ++ [x])
noncomputable def hpop (l : List α) : List α := if l.length = 1 then [] else siftup0 lt d (l.dropLast.set 0 (l.getD (l.length - 1) d))
theorem sdown_length (x : α) : ∀ (pos : Nat) (l : List α), (sdown lt d x pos l).length = l.length := by
  intro pos
  induction pos using Nat.strongRecOn with
  | ind pos ih =>
    intro l
    unfold sdown
    split
    · simp
    · split
      · rw [ih _ (by omega)]; simp
      · simp
variable {lt d}
theorem sup_go {e pos c : Nat} {l : List α} (h : 2 * pos + 1 < e) (hc : childOf lt d e pos l = c) : sup lt d e c (l.set pos (l.getD c d)) = sup lt d e pos l := by
  rw [sup.eq_1 lt d e pos l, dif_pos h, hc]
theorem sup_stop {e pos : Nat} {l : List α} (h : ¬ 2 * pos + 1 < e) : sup lt d e pos l = (pos, l) := by
  rw [sup, dif_neg h]
theorem child_lt {e pos : Nat} {l : List α} (h : lt (l.getD (2 * pos + 1) d) (l.getD (2 * pos + 2) d) = true) : childOf lt d e pos l = 2 * pos + 1 := by
  unfold childOf; rw [if_neg]; rintro ⟨_, h'⟩; rw [h] at h'; cases h'
theorem child_end {e pos : Nat} {l : List α} (h : ¬ 2 * pos + 2 < e) : childOf lt d e pos l = 2 * pos + 1 := by
  unfold childOf; rw [if_neg]; rintro ⟨h', _⟩; exact h h'
theorem child_ge {e pos : Nat} {l : List α} (h' : 2 * pos + 2 < e) (h : lt (l.getD (2 * pos + 1) d) (l.getD (2 * pos + 2) d) = false) : childOf lt d e pos l = 2 * pos + 2 := by
  unfold childOf; rw [if_pos ⟨h', h⟩]
end
end Mine
end
section
namespace Mine
/-! the heap's own functions keep a heap, and their lists are permutations -/
theorem par_lt {p : Nat} (h : p ≠ 0) : (p - 1) / 2 < p := Nat.lt_of_le_of_lt (Nat.div_le_self _ _) (Nat.sub_lt (Nat.pos_of_ne_zero h) Nat.one_pos)
theorem par_le (p : Nat) : (p - 1) / 2 ≤ p := Nat.le_trans (Nat.div_le_self _ _) (Nat.sub_le _ _)
theorem kid_le {i p : Nat} (h : (i - 1) / 2 = p) (h0 : 0 < i) : 2 * p + 1 ≤ i := by omega
theorem less_on {e c pos k : Nat} (h1 : e - pos ≤ k + 1) (h3 : pos < e) (hc : pos < c) : e - c ≤ k := Nat.le_of_lt_succ (Nat.lt_of_lt_of_le (Nat.sub_lt_sub_left h3 hc) h1)
section
variable {α : Type}
theorem gset (l : List α) (i j : Nat) (a d : α) (h : i < l.length) : (l.set i a).getD j d = if i = j then a else l.getD j d := by
  rw [List.getD_eq_getElem?_getD, List.getD_eq_getElem?_getD, List.getElem?_set]
  by_cases e : i = j
  · subst e; simp [h]
  · simp [e]
theorem set_perm_cons (b : α) : ∀ (r : List α) (j : Nat), j < r.length → (r.set j b).Perm (b :: r.eraseIdx j)
  | [], _, h => absurd h (by simp)
  | c :: r, 0, _ => by simp
  | c :: r, j + 1, h => by
    have h1 := set_perm_cons b r j (by simpa using h)
    rw [List.set_cons_succ, List.eraseIdx_cons_succ]
    exact (h1.cons c).trans (List.Perm.swap _ _ _)
theorem set_swap (a b : α) : ∀ (l : List α) (i j : Nat), i < l.length → j < l.length → i ≠ j → ((l.set i a).set j b).Perm ((l.set i b).set j a)
  | [], _, _, h, _, _ => absurd h (by simp)
  | c :: r, 0, 0, _, _, h => absurd rfl h
  | c :: r, 0, j + 1, _, h, _ => by
    simp only [List.set_cons_zero, List.set_cons_succ]
    have h' : j < r.length := by simpa using h
    exact ((set_perm_cons b r j h').cons a).trans ((List.Perm.swap _ _ _).trans ((set_perm_cons a r j h').symm.cons b))
  | c :: r, i + 1, 0, h, _, _ => by
    simp only [List.set_cons_zero, List.set_cons_succ]
    have h' : i < r.length := by simpa using h
    exact ((set_perm_cons a r i h').cons b).trans ((List.Perm.swap _ _ _).trans ((set_perm_cons b r i h').symm.cons a))
  | c :: r, i + 1, j + 1, h, h', hn => by
    simp only [List.set_cons_succ]
    exact (set_swap a b r i j (by simpa using h) (by simpa using h') (by omega)).cons c
theorem set_same (l : List α) (i : Nat) (d : α) (h : i < l.length) : l.set i (l.getD i d) = l := by
  rw [List.getD_eq_getElem?_getD, List.getElem?_eq_getElem h]; simp
/-- moving the item at c into the hole at p, x into c: the same as x into p, as bags -/
theorem move_perm (l : List α) (p c : Nat) (x d : α) (hp : p < l.length) (hc : c < l.length) (hn : p ≠ c) : ((l.set p (l.getD c d)).set c x).Perm (l.set p x) := by
  refine (set_swap _ _ l p c hp hc hn).trans ?_
  have e : (l.set p x).getD c d = l.getD c d := by rw [gset _ _ _ _ _ hp, if_neg hn]
  rw [← e, set_same _ _ _ (by rw [List.length_set]; exact hc)]
end
section
variable {α : Type} {lt : α → α → Bool} {d : α}
theorem sdown_perm (x : α) : ∀ (pos : Nat) (l : List α), pos < l.length → (sdown lt d x pos l).Perm (l.set pos x) := by
  intro pos
  induction pos using Nat.strongRecOn with
  | ind pos ih =>
    intro l h
    unfold sdown
    split
    · exact .refl _
    · next h0 =>
      split
      · next _ => exact (ih _ (par_lt h0) _ (by rw [List.length_set]; exact Nat.lt_trans (par_lt h0) h)).trans (move_perm l pos _ x d h (Nat.lt_trans (par_lt h0) h) (Nat.ne_of_gt (par_lt h0)))
      · exact .refl _
theorem childOf_lt {e pos : Nat} {l : List α} (h : 2 * pos + 1 < e) : childOf lt d e pos l < e := by
  unfold childOf; split <;> omega
theorem sup_perm : ∀ (k e pos : Nat) (l : List α), e - pos ≤ k → e = l.length → pos < e → (sup lt d e pos l).1 < e ∧ (sup lt d e pos l).2.length = e ∧ ∀ x, ((sup lt d e pos l).2.set (sup lt d e pos l).1 x).Perm (l.set pos x) := by
  intro k
  induction k with
  | zero => intro e pos l h1 h2 h3; omega
  | succ k ih =>
    intro e pos l h1 h2 h3
    by_cases h : 2 * pos + 1 < e
    · have hc := childOf_lt (lt := lt) (d := d) (l := l) h
      have hc' := childOf_ge lt d e pos l
      have := ih e (childOf lt d e pos l) (l.set pos (l.getD (childOf lt d e pos l) d)) (less_on h1 h3 hc') (by rw [List.length_set]; exact h2) hc
      rw [sup_go h rfl] at this
      exact ⟨this.1, this.2.1, fun x => (this.2.2 x).trans (move_perm l pos _ x d (h2 ▸ h3) (h2 ▸ hc) (Nat.ne_of_lt hc'))⟩
    · rw [sup_stop h]
      exact ⟨h3, h2.symm, fun _ => .refl _⟩
theorem siftup0_perm (l : List α) (h : 0 < l.length) : (siftup0 lt d l).Perm l := by
  have h1 := sup_perm (lt := lt) (d := d) l.length l.length 0 l (by omega) rfl h
  unfold siftup0
  refine (sdown_perm _ _ _ (by rw [List.length_set, h1.2.1]; exact h1.1)).trans ?_
  rw [List.set_set]
  refine (h1.2.2 _).trans ?_
  rw [set_same _ _ _ h]
theorem hpush_perm (l : List α) (x : α) : (hpush lt d l x).Perm (x :: l) := by
  unfold hpush
  refine (sdown_perm _ _ _ (by simp)).trans ?_
  have e : (l ++ [x]).set l.length x = l ++ [x] := by simp
  rw [e]
  exact List.perm_append_singleton x l
theorem hpop_perm (l : List α) (h : 0 < l.length) : (l.getD 0 d :: hpop lt d l).Perm l := by
  unfold hpop
  match l, h with
  | [a], _ => simp
  | a :: b :: r, _ =>
    rw [if_neg (by simp)]
    obtain ⟨m, z, e⟩ : ∃ m z, b :: r = m ++ [z] := ⟨(b :: r).dropLast, (b :: r).getLast (by simp), (List.dropLast_concat_getLast (by simp)).symm⟩
    rw [e]
    have e1 : (a :: (m ++ [z])).dropLast = a :: m := by rw [← List.cons_append, List.dropLast_concat]
    have e2 : (a :: (m ++ [z])).getD ((a :: (m ++ [z])).length - 1) d = z := by
      have : (a :: (m ++ [z])).length - 1 = m.length + 1 := by simp
      rw [this, List.getD_cons_succ, List.getD_eq_getElem?_getD]; simp
    rw [e1, e2, List.set_cons_zero, List.getD_cons_zero]
    refine ((siftup0_perm (z :: m) (by simp)).cons a).trans ?_
    exact (List.perm_append_singleton z m).symm.cons a
theorem hpush_len (l : List α) (x : α) : (hpush lt d l x).length = l.length + 1 := by
  have := (hpush_perm (lt := lt) (d := d) l x).length_eq
  simpa using this
theorem hpop_len (l : List α) (h : 0 < l.length) : (hpop lt d l).length = l.length - 1 := by
  have := (hpop_perm (lt := lt) (d := d) l h).length_eq
  rw [List.length_cons] at this
  exact Nat.eq_sub_of_add_eq this
end
section
variable {α : Type} (lt : α → α → Bool) (d : α)
noncomputable def IsHeap (l : List α) : Prop := ∀ i, 0 < i → i < l.length → lt (l.getD i d) (l.getD ((i - 1) / 2) d) = false
noncomputable def HoleUp (x : α) (pos : Nat) (l : List α) : Prop :=
  (∀ i, 0 < i → i < l.length → i ≠ pos → (i - 1) / 2 ≠ pos → lt (l.getD i d) (l.getD ((i - 1) / 2) d) = false)
  ∧ (∀ i, 0 < i → i < l.length → (i - 1) / 2 = pos → lt (l.getD i d) x = false)
  ∧ (0 < pos → ∀ i, 0 < i → i < l.length → (i - 1) / 2 = pos → lt (l.getD i d) (l.getD ((pos - 1) / 2) d) = false)
noncomputable def HoleS (pos : Nat) (l : List α) : Prop :=
  (∀ i, 0 < i → i < l.length → i ≠ pos → (i - 1) / 2 ≠ pos → lt (l.getD i d) (l.getD ((i - 1) / 2) d) = false)
  ∧ (0 < pos → ∀ i, 0 < i → i < l.length → (i - 1) / 2 = pos → lt (l.getD i d) (l.getD ((pos - 1) / 2) d) = false)
structure Order : Prop where
  asym : ∀ a b, lt a b = true → lt b a = false
  neg : ∀ a b c, lt a b = false → lt b c = false → lt a c = false
end
section
variable {α : Type} {lt : α → α → Bool} {d : α}
theorem sdown_heap (O : Order lt) (x : α) : ∀ (pos : Nat) (l : List α), pos < l.length → HoleUp lt d x pos l → IsHeap lt d (sdown lt d x pos l) := by
  intro pos
  induction pos using Nat.strongRecOn with
  | ind pos ih =>
    intro l hl H
    obtain ⟨H1, H2, H3⟩ := H
    unfold sdown
    split
    · next h0 =>
      intro i h1 h2
      rw [List.length_set] at h2
      rw [gset _ _ _ _ _ hl, gset _ _ _ _ _ hl, if_neg (Nat.ne_of_lt (Nat.lt_of_le_of_lt (Nat.le_of_eq h0) h1))]
      split
      · next h => exact H2 i h1 h2 h.symm
      · next h => exact H1 i h1 h2 (Nat.ne_of_gt (Nat.lt_of_le_of_lt (Nat.le_of_eq h0) h1)) (fun h' => h h'.symm)
    · next h0 =>
      split
      · next hc =>
        refine ih _ (par_lt h0) _ (by rw [List.length_set]; exact Nat.lt_trans (par_lt h0) hl) ⟨?_, ?_, ?_⟩
        · intro i h1 h2 h3 h4
          rw [List.length_set] at h2
          have hne : pos ≠ i := by intro h; subst h; exact h4 rfl
          rw [gset _ _ _ _ _ hl, gset _ _ _ _ _ hl, if_neg hne]
          split
          · next h => exact H3 (Nat.pos_of_ne_zero h0) i h1 h2 h.symm
          · next h => exact H1 i h1 h2 (fun h' => hne h'.symm) (fun h' => h h'.symm)
        · intro i h1 h2 h3
          rw [List.length_set] at h2
          rw [gset _ _ _ _ _ hl]
          split
          · exact O.asym _ _ hc
          · next h =>
            refine O.neg _ _ _ ?_ (O.asym _ _ hc)
            rw [← h3]
            exact H1 i h1 h2 (fun h' => h h'.symm) (fun e => Nat.ne_of_lt (par_lt h0) (h3.symm.trans e))
        · intro hp i h1 h2 h3
          rw [List.length_set] at h2
          rw [gset _ _ _ _ _ hl, gset _ _ _ _ _ hl, if_neg (Nat.ne_of_gt (Nat.lt_of_le_of_lt (par_le _) (par_lt h0)))]
          have hpar := H1 ((pos - 1) / 2) hp (Nat.lt_trans (par_lt h0) hl) (Nat.ne_of_lt (par_lt h0)) (Nat.ne_of_lt (Nat.lt_of_le_of_lt (par_le _) (par_lt h0)))
          split
          · exact hpar
          · next h =>
            refine O.neg _ _ _ ?_ hpar
            rw [← h3]
            exact H1 i h1 h2 (fun h' => h h'.symm) (fun e => Nat.ne_of_lt (par_lt h0) (h3.symm.trans e))
      · next hc =>
        have hc : lt x (l.getD ((pos - 1) / 2) d) = false := by
          cases h : lt x (l.getD ((pos - 1) / 2) d)
          · rfl
          · exact absurd h hc
        intro i h1 h2
        rw [List.length_set] at h2
        rw [gset _ _ _ _ _ hl, gset _ _ _ _ _ hl]
        by_cases e1 : pos = i
        · subst e1
          rw [if_pos rfl, if_neg (Nat.ne_of_gt (par_lt h0))]; exact hc
        · rw [if_neg e1]
          split
          · next h => exact H2 i h1 h2 h.symm
          · next h => exact H1 i h1 h2 (fun h' => e1 h'.symm) (fun h' => h h'.symm)
theorem child_least (O : Order lt) {e pos : Nat} {l : List α} : ∀ i, 0 < i → i < e → (i - 1) / 2 = pos → lt (l.getD i d) (l.getD (childOf lt d e pos l) d) = false := by
  intro i h1 h2 h3
  have hi : i = 2 * pos + 1 ∨ i = 2 * pos + 2 := by omega
  have irr : ∀ a, lt a a = false := fun a => by
    cases h : lt a a
    · rfl
    · have := O.asym _ _ h; rw [h] at this; exact this
  unfold childOf
  split
  · next h =>
    rcases hi with rfl | rfl
    · exact h.2
    · exact irr _
  · next h =>
    rcases hi with rfl | rfl
    · exact irr _
    · cases h' : lt (l.getD (2 * pos + 1) d) (l.getD (2 * pos + 2) d)
      · exact absurd ⟨h2, h'⟩ h
      · exact O.asym _ _ h'
theorem sup_heap (O : Order lt) : ∀ (k e pos : Nat) (l : List α), e - pos ≤ k → e = l.length → pos < e → HoleS lt d pos l → HoleS lt d (sup lt d e pos l).1 (sup lt d e pos l).2 ∧ ¬ 2 * (sup lt d e pos l).1 + 1 < e := by
  intro k
  induction k with
  | zero => intro e pos l h1 h2 h3; omega
  | succ k ih =>
    intro e pos l h1 h2 h3 H
    by_cases h : 2 * pos + 1 < e
    · have hc := childOf_lt (lt := lt) (d := d) (l := l) h
      have hc' := childOf_ge lt d e pos l
      have hpc : (childOf lt d e pos l - 1) / 2 = pos := by unfold childOf; split <;> omega
      have := ih e (childOf lt d e pos l) (l.set pos (l.getD (childOf lt d e pos l) d)) (less_on h1 h3 hc') (by rw [List.length_set]; exact h2) hc ?_
      · rw [sup_go h rfl] at this
        exact this
      · have hl : pos < l.length := h2 ▸ h3
        have hcl := child_least (d := d) O (e := e) (pos := pos) (l := l)
        generalize childOf lt d e pos l = c at hc hc' hpc hcl
        constructor
        · intro i i1 i2 i3 i4
          rw [List.length_set] at i2
          rw [gset _ _ _ _ _ hl, gset _ _ _ _ _ hl]
          by_cases e1 : pos = i
          · subst e1
            rw [if_pos rfl, if_neg (Nat.ne_of_gt (par_lt (Nat.ne_of_gt i1)))]
            exact H.2 i1 c (Nat.lt_of_le_of_lt (Nat.zero_le _) hc') (h2 ▸ hc) hpc
          · rw [if_neg e1]
            split
            · next e2 => exact hcl i i1 (h2 ▸ i2) e2.symm
            · next e2 => exact H.1 i i1 i2 (fun h' => e1 h'.symm) (fun h' => e2 h'.symm)
        · intro _ i i1 i2 i3
          rw [List.length_set] at i2
          rw [gset _ _ _ _ _ hl, gset _ _ _ _ _ hl, if_neg (Nat.ne_of_lt (Nat.lt_of_lt_of_le hc' (i3 ▸ par_le i))), if_pos hpc.symm, ← i3]
          exact H.1 i i1 i2 (Nat.ne_of_gt (Nat.lt_of_lt_of_le hc' (i3 ▸ par_le i))) (fun e => Nat.ne_of_lt hc' (e.symm.trans i3))
    · rw [sup_stop h]
      exact ⟨H, h⟩
theorem siftup0_heap (O : Order lt) (l : List α) (h : 0 < l.length) (H : HoleS lt d 0 l) : IsHeap lt d (siftup0 lt d l) := by
  have h1 := sup_perm (lt := lt) (d := d) l.length l.length 0 l (by omega) rfl h
  have h2 := sup_heap O l.length l.length 0 l (by omega) rfl h H
  unfold siftup0
  generalize sup lt d l.length 0 l = r at h1 h2 ⊢
  obtain ⟨p, m⟩ := r
  dsimp only at h1 h2 ⊢
  have hm : p < m.length := by rw [h1.2.1]; exact h1.1
  refine sdown_heap O _ _ _ (by rw [List.length_set]; exact hm) ⟨?_, ?_, ?_⟩
  · intro i i1 i2 i3 i4
    rw [List.length_set] at i2
    rw [gset _ _ _ _ _ hm, gset _ _ _ _ _ hm, if_neg (fun h' => i3 h'.symm), if_neg (fun h' => i4 h'.symm)]
    exact h2.1.1 i i1 i2 i3 i4
  · intro i i1 i2 i3
    rw [List.length_set, h1.2.1] at i2
    exact absurd (Nat.lt_of_le_of_lt (kid_le i3 i1) i2) h2.2
  · intro _ i i1 i2 i3
    rw [List.length_set, h1.2.1] at i2
    exact absurd (Nat.lt_of_le_of_lt (kid_le i3 i1) i2) h2.2
theorem hpush_heap (O : Order lt) (l : List α) (x : α) (H : IsHeap lt d l) : IsHeap lt d (hpush lt d l x) := by
  unfold hpush
  refine sdown_heap O _ _ _ (by simp) ⟨?_, ?_, ?_⟩
  · intro i i1 i2 i3 i4
    rw [List.length_append, List.length_singleton] at i2
    have e : ∀ j, j < l.length → (l ++ [x]).getD j d = l.getD j d := fun j hj => by
      rw [List.getD_eq_getElem?_getD, List.getD_eq_getElem?_getD, List.getElem?_append_left hj]
    have i5 := Nat.lt_of_le_of_ne (Nat.le_of_lt_succ i2) i3
    rw [e _ i5, e _ (Nat.lt_of_le_of_lt (par_le _) i5)]
    exact H i i1 i5
  · intro i i1 i2 i3
    rw [List.length_append, List.length_singleton] at i2
    exact absurd (Nat.lt_of_lt_of_le (i3 ▸ par_lt (Nat.ne_of_gt i1)) (Nat.le_of_lt_succ i2)) (Nat.lt_irrefl _)
  · intro _ i i1 i2 i3
    rw [List.length_append, List.length_singleton] at i2
    exact absurd (Nat.lt_of_lt_of_le (i3 ▸ par_lt (Nat.ne_of_gt i1)) (Nat.le_of_lt_succ i2)) (Nat.lt_irrefl _)
theorem hpop_heap (O : Order lt) (l : List α) (h : 0 < l.length) (H : IsHeap lt d l) : IsHeap lt d (hpop lt d l) := by
  unfold hpop
  split
  · intro i i1 i2; simp at i2
  · next h1 =>
    refine siftup0_heap O _ (by rw [List.length_set, List.length_dropLast]; omega) ⟨?_, fun h => absurd h (by omega)⟩
    intro i i1 i2 i3 i4
    rw [List.length_set, List.length_dropLast] at i2
    have hd : 0 < l.dropLast.length := by rw [List.length_dropLast]; omega
    rw [gset _ _ _ _ _ hd, gset _ _ _ _ _ hd, if_neg (fun h' => i3 h'.symm), if_neg (fun h' => i4 h'.symm)]
    have e : ∀ j, j < l.length - 1 → l.dropLast.getD j d = l.getD j d := fun j hj => by
      rw [List.getD_eq_getElem?_getD, List.getD_eq_getElem?_getD, List.getElem?_dropLast, if_pos hj]
    rw [e _ i2, e _ (Nat.lt_of_le_of_lt (par_le _) i2)]
    exact H i i1 (Nat.lt_of_lt_of_le i2 (Nat.sub_le _ _))
theorem heap_least (O : Order lt) (l : List α) (H : IsHeap lt d l) : ∀ i, i < l.length → lt (l.getD i d) (l.getD 0 d) = false := by
  intro i
  induction i using Nat.strongRecOn with
  | ind i ih =>
    intro h
    by_cases h0 : i = 0
    · subst h0
      cases h : lt (l.getD 0 d) (l.getD 0 d)
      · rfl
      · have := O.asym _ _ h; rw [h] at this; exact this
    · exact O.neg _ _ _ (H i (by omega) h) (ih _ (by omega) (by omega))
variable (lt d) in
noncomputable def popAll : Nat → List α → List α
  | 0, _ => []
  | k + 1, l => l.getD 0 d :: popAll k (hpop lt d l)
theorem popAll_perm : ∀ (n : Nat) (l : List α), l.length = n → (popAll lt d n l).Perm l
  | 0, l, h => by rw [List.eq_nil_of_length_eq_zero h]; exact .nil
  | n + 1, l, h => by
    have := popAll_perm n (hpop lt d l) (by rw [hpop_len _ (by omega)]; omega)
    exact (this.cons _).trans (hpop_perm l (by omega))
theorem popAll_sorted (O : Order lt) : ∀ (n : Nat) (l : List α), l.length = n → IsHeap lt d l → (popAll lt d n l).Pairwise fun a b => lt b a = false
  | 0, l, h, _ => .nil
  | n + 1, l, h, H => by
    have hl := hpop_len (lt := lt) (d := d) l (by omega)
    refine .cons ?_ (popAll_sorted O n (hpop lt d l) (by omega) (hpop_heap O l (by omega) H))
    intro b hb
    have hb' := (popAll_perm n (hpop lt d l) (by omega)).mem_iff.mp hb
    have hb2 : b ∈ l := (hpop_perm (lt := lt) (d := d) l (by omega)).mem_iff.mp (List.Mem.tail _ hb')
    obtain ⟨i, hi, rfl⟩ := List.mem_iff_getElem.mp hb2
    have := heap_least O l H i hi
    rwa [show l.getD i d = l[i] from by rw [List.getD_eq_getElem?_getD, List.getElem?_eq_getElem hi]; rfl] at this
/-- the law of the heap -/
theorem heap_law (O : Order lt) (tri : ∀ a b, lt a b = false → lt b a = false → a = b) (l ls : List α) (H : IsHeap lt d l) (hp : l.Perm ls) (hs : ls.Pairwise fun a b => lt a b = true) : popAll lt d l.length l = ls :=
  List.Perm.eq_of_pairwise (le := fun a b => lt b a = false) (fun a b _ _ h1 h2 => tri a b h2 h1) (popAll_sorted O _ _ rfl H) (hs.imp fun h => O.asym _ _ h) ((popAll_perm _ _ rfl).trans hp)
end
end Mine
end
section
open PySem PySem.W PyProof.Rows PySem.Calls
namespace Mine
/-! the order of bytes -/
noncomputable def ol : List UInt8 → List UInt8 → Bool
  | [], [] => false
  | [], _ :: _ => true
  | _ :: _, [] => false
  | x :: xs, y :: ys => if x < y then true else if y < x then false else ol xs ys
theorem ol_eq : ∀ a b : List UInt8, (Builtin.Bytes.order a b == .lt) = ol a b
  | [], [] => rfl
  | [], _ :: _ => rfl
  | _ :: _, [] => rfl
  | x :: xs, y :: ys => by
    unfold Builtin.Bytes.order ol
    by_cases h1 : x < y
    · simp [h1]
    · by_cases h2 : y < x
      · simp [h1, h2]
      · simp only [h1, h2, if_false]
        exact ol_eq xs ys
theorem blt_ol (a b : By) : blt a b = ol a.toList b.toList := ol_eq _ _
theorem u8_eq {x y : UInt8} (h1 : ¬ x < y) (h2 : ¬ y < x) : x = y := by
  rw [UInt8.lt_iff_toNat_lt] at h1 h2
  exact UInt8.toNat_inj.mp (by omega)
theorem ol_tri : ∀ a b : List UInt8, ol a b = false → ol b a = false → a = b
  | [], [], _, _ => rfl
  | [], _ :: _, h, _ => by simp [ol] at h
  | _ :: _, [], _, h => by simp [ol] at h
  | x :: xs, y :: ys, h, h' => by
    unfold ol at h h'
    by_cases h1 : x < y
    · simp [h1] at h
    · by_cases h2 : y < x
      · simp [h2] at h'
      · simp only [h1, h2, if_false] at h h'
        rw [u8_eq h1 h2, ol_tri xs ys h h']
theorem ol_asym : ∀ a b : List UInt8, ol a b = true → ol b a = false
  | [], [], h => by simp [ol] at h
  | [], _ :: _, _ => rfl
  | _ :: _, [], h => by simp [ol] at h
  | x :: xs, y :: ys, h => by
    unfold ol at h ⊢
    by_cases h1 : x < y
    · have h2 : ¬ y < x := by rw [UInt8.lt_iff_toNat_lt] at h1 ⊢; omega
      simp [h1, h2]
    · by_cases h2 : y < x
      · simp [h1, h2] at h
      · simp only [h1, h2, if_false] at h ⊢
        exact ol_asym xs ys h
theorem ol_neg : ∀ a b c : List UInt8, ol a b = false → ol b c = false → ol a c = false
  | [], [], _, _, h => h
  | [], _ :: _, _, h, _ => by simp [ol] at h
  | x :: xs, b, [], _, _ => rfl
  | x :: xs, [], _ :: _, _, h => by simp [ol] at h
  | x :: xs, y :: ys, z :: zs, h, h' => by
    unfold ol at h h' ⊢
    by_cases h1 : x < y
    · simp [h1] at h
    · by_cases h3 : y < z
      · simp [h3] at h'
      · rw [UInt8.lt_iff_toNat_lt] at h1 h3
        by_cases h2 : y < x
        · rw [UInt8.lt_iff_toNat_lt] at h2
          have e1 : ¬ x < z := by rw [UInt8.lt_iff_toNat_lt]; omega
          have e2 : z < x := by rw [UInt8.lt_iff_toNat_lt]; omega
          simp [e1, e2]
        · by_cases h4 : z < y
          · rw [UInt8.lt_iff_toNat_lt] at h2 h4
            have e1 : ¬ x < z := by rw [UInt8.lt_iff_toNat_lt]; omega
            have e2 : z < x := by rw [UInt8.lt_iff_toNat_lt]; omega
            simp [e1, e2]
          · have h1' : ¬ x < y := by rw [UInt8.lt_iff_toNat_lt]; omega
            have h3' : ¬ y < z := by rw [UInt8.lt_iff_toNat_lt]; omega
            simp only [h1', h2, h3', h4, if_false] at h h'
            have exy := u8_eq h1' h2
            have eyz := u8_eq h3' h4
            subst exy eyz
            simp only [h1', if_false]
            exact ol_neg xs ys zs h h'
theorem bltO : Order blt where
  asym a b h := by rw [blt_ol] at *; exact ol_asym _ _ h
  neg a b c h h' := by rw [blt_ol] at *; exact ol_neg _ _ _ h h'
theorem blt_tri (a b : By) (h : blt a b = false) (h' : blt b a = false) : a = b := by
  rw [blt_ol] at *
  exact Array.toList_inj.mp (ol_tri _ _ h h')
theorem blt_first {a b : UInt8} {l m : List UInt8} (h : a < b) : blt (a :: l).toArray (b :: m).toArray = true := by
  rw [blt_ol]; simp [ol, h]
theorem blt_second {a b c : UInt8} {l m : List UInt8} (h : b < c) : blt (a :: b :: l).toArray (a :: c :: m).toArray = true := by
  rw [blt_ol]; simp [ol, h, UInt8.lt_irrefl]
end Mine
end
section
open PySem PySem.W PyProof.Rows PySem.Calls
namespace Mine
/-- a stop for the walk -/
noncomputable def Hold (P : Prop) : Prop := P
theorem ne_of_all_lt {l : List (Addr × Obj)} {d : Addr} (h : ∀ p ∈ l, p.1 < d) : ∀ p ∈ l, p.1 ≠ d := fun p hp => Nat.ne_of_lt (h p hp)
theorem led_in {lo : Addr} {o : Obj} {news own : List (Addr × Obj)} : ∀ p ∈ (lo, o) :: news, p ∈ (lo, o) :: (news ++ own) := fun p hp => by
  rcases List.mem_cons.mp hp with rfl | hp
  · exact List.Mem.head _
  · exact List.Mem.tail _ (List.mem_append_left _ hp)
theorem own_in {q : Addr × Obj} {news own : List (Addr × Obj)} : ∀ p ∈ own, p ∈ q :: (news ++ own) := fun _ hp => List.Mem.tail _ (List.mem_append_right _ hp)
theorem Hold.of {P : Prop} (h : Hold P) : P := h
/-- a def's contract -/
noncomputable def Ct (w : World) (dep : Nat) (f : Addr) (args : List Value) (news : List (Addr × Obj)) (R : Value → List (Addr × Obj) → Prop) : Prop :=
  ∀ (p : Program) (loose : List Str) (mean : ExcName → Option Value) (mg mb : Str → Option Value) (dp un : Nat) (gd : Option (List Code)) (cn : Str) (cs : Scope) (a : Addr) (ccd : Value) (cl : List (Str × Addr)) (outer : List Env) (A₀ : Around) (base h₀ : Heap) (L : Addr) (m : Str → Option Value) (s : Shared) (Q E : Value → Shared → Prop),
    Below A₀ base outer h₀ → Fr h₀ L s.heap m → (hd.heap_39 w.params).In h₀ → News h₀ L s.heap news → Top p loose mean mg mb h₀ → cs.kind = .function →
    dp + dep < recursionLimit → un + 8 * dep < cLine →
    (∀ v news' h' tk', R v news' → Fr h₀ L h' m → News h₀ L h' news' → Q v { s with heap := h', toks := tk' }) →
    wpAny (model Challenge.rw_oy0052_01.row.prog w) (ktrTop dp un gd cn cs L a ccd cl outer) (call (.ref f) args) Q E s
theorem Ct.use {w : World} {dep : Nat} {f : Addr} {args : List Value} {news : List (Addr × Obj)} {R : Value → List (Addr × Obj) → Prop} (C : Ct w dep f args news R)
    {p : Program} {loose : List Str} {mean : ExcName → Option Value} {mg mb : Str → Option Value} {dp un : Nat} {gd : Option (List Code)} {cn : Str} {cs : Scope} {a : Addr} {ccd : Value} {cl : List (Str × Addr)} {outer : List Env} {A₀ : Around} {base h₀ : Heap} {L : Addr} {m : Str → Option Value} {s : Shared} {Q E : Value → Shared → Prop}
    (B : Below A₀ base outer h₀) (F : Fr h₀ L s.heap m) (X : (hd.heap_39 w.params).In h₀) (N : News h₀ L s.heap news) (T : Top p loose mean mg mb h₀) (hk : cs.kind = .function)
    (hd : dp + dep < recursionLimit) (hu : un + 8 * dep < cLine)
    (hret : ∀ v news' h' tk', R v news' → Fr h₀ L h' m → News h₀ L h' news' → Q v { s with heap := h', toks := tk' }) :
    wpAny (model Challenge.rw_oy0052_01.row.prog w) (ktrTop dp un gd cn cs L a ccd cl outer) (call (.ref f) args) Q E s :=
  C p loose mean mg mb dp un gd cn cs a ccd cl outer A₀ base h₀ L m s Q E B F X N T hk hd hu hret
end Mine
end
section
open PySem PySem.W PyProof.Rows PySem.Calls
namespace Mine
set_option maxRecDepth 100000
set_option maxHeartbeats 8000000
local macro_rules | `(tactic| walk_at $s:str) => `(tactic| k_extra $s)
local macro_rules | `(tactic| k_all) => `(tactic| first | assumption | exact ne_of_all_lt (by assumption))
local macro_rules | `(tactic| k_room) => `(tactic| ktr_room)
/-! OySd -/
structure SD where
  vs : List Value
  bs : List By
  n : Nat
  pos : Nat
  t : Tok
theorem shr1 {prog : Program} {w : World} {A : Around} {E : Value → Shared → Prop} {s : Shared} {k : Nat} {t u : Tok} {Q : Value → Shared → Prop} (hk : 0 < k) (h : Q (.int (((k - 1) / 2 : Nat) : Int) s.toks) { s with toks := s.toks + 1 }) :
    wpAny (model prog w) A (binaryOp .RShift (.int ((k : Int) - 1) t) (.int 1 u)) Q E s := by
  refine rshift_int (by decide) ?_
  have e : ((k : Int) - 1).fdiv (2 ^ (1 : Int).toNat) = (((k - 1) / 2 : Nat) : Int) := by
    have h2 : (2 : Int) ^ (1 : Int).toNat = 2 := by decide
    rw [h2, Int.fdiv_eq_ediv_of_nonneg _ (by omega)]
    omega
  rw [e]; exact h
theorem sdown_go {x : By} {pos : Nat} {bs : List By} (hp : 0 < pos) (hc : blt x (bs.getD ((pos - 1) / 2) #[]) = true) : sdown blt #[] x pos bs = sdown blt #[] x ((pos - 1) / 2) (bs.set pos (bs.getD ((pos - 1) / 2) #[])) := by
  rw [sdown, dif_neg (by omega), if_pos hc]
theorem sdown_stop {x : By} {pos : Nat} {bs : List By} (hc : 0 < pos → blt x (bs.getD ((pos - 1) / 2) #[]) = false) : sdown blt #[] x pos bs = bs.set pos x := by
  rw [sdown]
  by_cases h : pos = 0
  · rw [dif_pos h]
  · rw [dif_neg h, hc (by omega)]; simp

theorem ct_sd (w : World) (l : Addr) (vs : List Value) (bs : List By) (n : Nat) (pos : Nat) (t u : Tok) (rest : List (Addr × Obj)) (hne : ∀ p ∈ rest, p.1 ≠ l) (hb : BytesAre vs bs) (hp : pos < bs.length) (hz : bs.length ≤ 1000) :
    Ct w 1 123 [.ref l, .int 0 t, .int (pos : Int) u] ((l, W.listOf vs.toArray n) :: rest)
      (fun v n' => v = .none ∧ ∃ vs' k, BytesAre vs' (sdown blt #[] (bs.getD pos #[]) pos bs) ∧ n' = (l, W.listOf vs'.toArray k) :: rest) := by
  unfold Ct
  k_fill
  w_top off
  intro p loose mean mg mb dp un gd cn cs a ccd cl outer A₀ base h₀ L m s Q E B F X N T hk hd hu hret
  refine wpAny_call ?_
  k_dflt (first | (refine' code_def ?k1 ?k2 ?k3 ?k4 ?k5 ?kA ?kF ?kK ?k6 ?k7 ?k8 ?k9 ?kB ?_ ?c2 ?c3 ?c4 ?c5; (case kA => exact rfl); (case kF => exact rfl); (case kK => assumption); (case k1 => k_asm); (case k2 => k_asm); (case k3 => k_asm); (case k4 => k_asm); (case k5 => k_asm); (case k6 => k_is); (case k7 => k_is); (case k8 => ktr_room); (case k9 => first | exact BindsTo.of_eq rfl | exact binds_K (by k_in) rfl (by k_is) rfl rfl rfl); (case c5 => decide); (case kB => exact locs rfl); (case c2 => exact rfl); (case c3 => exact rfl); (case c4 => exact rfl); k_whole; intro g' L' h' FG' F' N' B' X' T'; (try dsimp only); (try k_fold)) | (refine' code_defC ?k1 ?k2 ?k3 ?k4 ?k5 ?kA ?kF ?kK ?k6 ?k7 ?k8 ?k9 ?kB ?kD ?_ ?c2 ?c3 ?c4; (case kA => exact rfl); (case kF => exact rfl); (case kK => assumption); (case k1 => k_asm); (case k2 => k_asm); (case k3 => k_asm); (case k4 => k_asm); (case k5 => k_asm); (case k6 => k_is); (case k7 => k_is); (case k8 => ktr_room); (case k9 => first | exact BindsTo.of_eq rfl | exact binds_K (by k_in) rfl (by k_is) rfl rfl rfl); (case kB => exact rfl); (case kD => decide +kernel); (case c2 => exact rfl); (case c3 => exact rfl); (case c4 => exact rfl); k_whole; intro g' L' h' tk' cells' FG' F' N' Y' B' X' T' l1; k_cells Y'; (try simp only [List.cons_append, List.nil_append] at N'); (try dsimp only); (try k_fold)))
  k_with_none
  k_with "subscriptTail" => (k_here; (with_reducible show wpAny _ _ (subscriptTail _ _ (Value.ref _) (Value.int _ _)) _ _ _); k_dflt (refine' by_sub ?k1 ?k2 ?k3 ?k4 ?k5 ?k6 ?_ ?k7 ?k8; (case k1 => k_asm); (case k2 => k_mem); (case k3 => with_reducible assumption); (case k4 => (first | omega | ((simp only [List.length_append, List.length_dropLast, List.length_set, List.length_cons, List.length_nil, List.length_take, List.length_drop] at *); omega))); (case k5 => (first | omega | ((simp only [List.length_append, List.length_dropLast, List.length_set, List.length_cons, List.length_nil, List.length_take, List.length_drop] at *); omega))); (case k6 => (first | omega | ((simp only [List.length_append, List.length_dropLast, List.length_set, List.length_cons, List.length_nil, List.length_take, List.length_drop] at *); omega))); (case k7 => with_unfolding_all rfl); (case k8 => (intro _; with_unfolding_all rfl)); k_whole); intro _)
  k_with "compareOp Lt bytes bytes" => refine lt_bytes ?_
  k_with "setItem ref int" => (k_here; (with_reducible show wpAny _ _ (setItem (Value.ref _) (Value.int _ _) (Value.bytes _ _)) _ _ _); k_dflt (refine' by_set ?k1 ?k2 ?k3 ?k4 ?k5 ?k6 ?k7 ?_; (case k1 => k_asm); (case k2 => k_asm); (case k3 => k_upd); (case k4 => with_reducible assumption); (case k5 => (first | omega | ((simp only [List.length_append, List.length_dropLast, List.length_set, List.length_cons, List.length_nil, List.length_take, List.length_drop] at *); omega))); (case k6 => (first | omega | ((simp only [List.length_append, List.length_dropLast, List.length_set, List.length_cons, List.length_nil, List.length_take, List.length_drop] at *); omega))); (case k7 => (first | omega | ((simp only [List.length_append, List.length_dropLast, List.length_set, List.length_cons, List.length_nil, List.length_take, List.length_drop] at *); omega))); k_whole); intro h' F' N' hi'; (try k_sweep))
  k_with "call builtin:len" => (k_here; (with_reducible show wpAny _ _ (call (Value.builtin "len") [Value.ref _]) _ _ _); k_dflt (refine' by_len ?k1 ?k2 ?k3 ?k4 ?_; (case k1 => k_asm); (case k2 => k_mem); (case k3 => with_reducible assumption); (case k4 => (first | omega | ((simp only [List.length_append, List.length_dropLast, List.length_set, List.length_cons, List.length_nil, List.length_take, List.length_drop] at *); omega))); k_whole))
  k_with "truthy ref" => (k_here; k_dflt (refine' by_truthy ?k1 ?k2 ?k3 ?k4 ?_; (case k1 => k_asm); (case k2 => k_mem); (case k3 => with_reducible assumption); (case k4 => (first | omega | ((simp only [List.length_append, List.length_dropLast, List.length_set, List.length_cons, List.length_nil, List.length_take, List.length_drop] at *); omega))); k_whole))
  k_with "call builtin:list.pop" => (k_here; (with_reducible show wpAny _ _ (call (Value.builtin _) [Value.ref _]) _ _ _); k_dflt (refine' by_pop ?F ?N ?U ?i ?l ?z ?_; (case F => k_asm); (case N => k_asm); (case U => k_upd); (case i => with_reducible assumption); (case l => (first | omega | ((simp only [List.length_append, List.length_dropLast, List.length_set, List.length_cons, List.length_nil, List.length_take, List.length_drop] at *); omega))); (case z => (rw [PySem.sizeLine_eq]; (first | omega | ((simp only [List.length_append, List.length_dropLast, List.length_set, List.length_cons, List.length_nil, List.length_take, List.length_drop] at *); omega)))); k_whole); intro h' t' F' N' hi'; (try k_sweep))
  k_with "call builtin:list.pop" => (k_here; (with_reducible show wpAny _ _ (call (Value.builtin _) [Value.ref _, Value.int _ _]) _ _ _); k_dflt (refine' by_popAt ?F ?N ?U ?i ?l0 ?l ?z ?_; (case F => k_asm); (case N => k_asm); (case U => k_upd); (case i => with_reducible assumption); (case l0 => (first | omega | ((simp only [List.length_append, List.length_dropLast, List.length_set, List.length_cons, List.length_nil, List.length_take, List.length_drop] at *); omega))); (case l => (first | omega | ((simp only [List.length_append, List.length_dropLast, List.length_set, List.length_cons, List.length_nil, List.length_take, List.length_drop] at *); omega))); (case z => (rw [PySem.sizeLine_eq]; (first | omega | ((simp only [List.length_append, List.length_dropLast, List.length_set, List.length_cons, List.length_nil, List.length_take, List.length_drop] at *); omega)))); k_whole); intro h' t' F' N' hi'; (try k_sweep))
  k_with "call builtin:list.append" => (k_here; (with_reducible show wpAny _ _ (call (Value.builtin _) [Value.ref _, Value.bytes _ _]) _ _ _); k_dflt (refine' by_append ?F ?N ?U ?i ?z ?_; (case F => k_asm); (case N => k_asm); (case U => k_upd); (case i => with_reducible assumption); (case z => (rw [PySem.sizeLine_eq]; (first | omega | ((simp only [List.length_append, List.length_dropLast, List.length_set, List.length_cons, List.length_nil, List.length_take, List.length_drop] at *); omega)))); k_whole); intro h' F' N' hi'; (try k_sweep))
  k_with "call type:type" => ((with_reducible show wpAny _ _ (call (Value.type "type") [Value.bytes _ _]) _ _ _); refine call_type_of (Tx := "bytes") rfl (by decide +kernel) ?_)
  k_with "call type:type" => ((with_reducible show wpAny _ _ (call (Value.type "type") [Value.bool _]) _ _ _); refine call_type_of (Tx := "bool") rfl (by decide +kernel) ?_)
  k_with "exec For" => (k_here; (rename Fr _ _ _ _ => lF'); (with_unfolding_all refine' For_invVF lF' ?k1 ?k2 ?_ ?k3 ?k4; (case k1 => exact rfl); (case k2 => exact rfl); (case k3 => (intro _; rfl)); (case k4 => first | assumption | passes_own); k_whole); clear lF')
  k_with "binaryOp RShift int int" => refine shr1 (by omega) ?_
  k_with "exec While Compare cons nil" => ((rename Fr _ _ _ _ => lF); (rename News _ _ _ _ => lN); (with_unfolding_all refine' ksw_while (σ := SD) (fun c => (l, W.listOf c.vs.toArray c.n) :: rest) (fun c => [(Str.ofString "pos", .int (c.pos : Int) c.t)]) (fun c => BytesAre c.vs c.bs) [Str.ofString "parentpos", Str.ofString "parent"] (fun c => c.pos < c.bs.length ∧ c.bs.length = bs.length ∧ sdown blt #[] (bs.getD pos #[]) c.pos c.bs = sdown blt #[] (bs.getD pos #[]) pos bs) (fun c => c.pos) ⟨vs, bs, n, pos, u⟩ lF lN hb ?kk ⟨hp, rfl, rfl⟩ ?_); (case kk => kst_all); (rintro ⟨kvs, kbs, kn, kpos, kt⟩ kU kH kTk kFacts ⟨kI1, kI2, kI3⟩ kFr kNews); (try clear lF lN); (dsimp only at *); (try k_fold))
  k_steps
  · (rename Fr _ _ _ _ => eF); (rename News _ _ _ _ => eN); (rename BytesAre _ _ => eB); (rename blt _ _ = true => eC)
    refine ksw_end ⟨_, _, _, (kpos - 1) / 2, _⟩ eF eN (fun _ h => h) eB (by kst_all) (by (intro z h2 h3; (simp only [List.forall_mem_cons, List.not_mem_nil, false_implies, implies_true, and_true, ne_eq] at h2); (simp only [List.contains_cons, List.contains_nil, Bool.or_false, Bool.or_eq_false_iff, beq_eq_false_iff_ne, ne_eq] at h3); (simp only [kstB, h2, h3, if_false, List.contains_cons, List.contains_nil, Bool.or_false, Bool.or_eq_true, beq_iff_eq, or_self, or_false, false_or, Bool.false_eq_true]))) ?_ (by dsimp only; omega)
    dsimp only
    simp only [Int.toNat_natCast] at eC ⊢
    refine ⟨by rw [List.length_set]; omega, by rw [List.length_set]; exact kI2, ?_⟩
    rw [← kI3]
    exact (sdown_go (by omega) eC).symm
  · (rename Fr _ _ _ _ => eF); (rename News _ _ _ _ => eN); (rename BytesAre _ _ => eB); (rename blt _ _ = false => eC)
    simp only [Int.toNat_natCast] at eC eB
    refine hret _ _ _ _ ⟨rfl, _, _, ?_, rfl⟩ eF eN
    rw [← kI3, sdown_stop fun _ => eC]
    simpa only [Int.toNat_natCast] using eB
  · (rename Fr _ _ _ _ => eF); (rename News _ _ _ _ => eN); (rename BytesAre _ _ => eB)
    simp only [Int.toNat_natCast] at eB
    refine hret _ _ _ _ ⟨rfl, _, _, ?_, rfl⟩ eF eN
    rw [← kI3, sdown_stop fun h => absurd h (by omega)]
    simpa only [Int.toNat_natCast] using eB
theorem ct_sdI (w : World) (l : Addr) (vs : List Value) (bs : List By) (n : Nat) (pos : Int) (t u : Tok) (rest : List (Addr × Obj)) (hne : ∀ p ∈ rest, p.1 ≠ l) (hb : BytesAre vs bs) (h0 : 0 ≤ pos) (hp : pos < bs.length) (hz : bs.length ≤ 1000) :
    Ct w 1 123 [.ref l, .int 0 t, .int pos u] ((l, W.listOf vs.toArray n) :: rest)
      (fun v n' => v = .none ∧ ∃ vs' k, BytesAre vs' (sdown blt #[] (bs.getD pos.toNat #[]) pos.toNat bs) ∧ n' = (l, W.listOf vs'.toArray k) :: rest) := by
  have h := ct_sd w l vs bs n pos.toNat t u rest hne hb (by omega) hz
  rwa [Int.toNat_of_nonneg h0] at h
/-! OySu -/
structure SU where
  vs : List Value
  bs : List By
  n : Nat
  pos : Int
  t : Tok
  ch : Int
  t2 : Tok

/-- the places of a turn -/
theorem su_ar {e : Nat} {p c : Int} (h1 : 0 ≤ p) (h3 : c = 2 * p + 1) : c.toNat = 2 * p.toNat + 1 ∧ (c + 1).toNat = 2 * p.toNat + 2 ∧ 0 ≤ c ∧ 0 ≤ c + 1 ∧ (c < e → 2 * p.toNat + 1 < e ∧ e - c.toNat < e - p.toNat) ∧ (c + 1 < e → 2 * p.toNat + 2 < e ∧ 2 * p.toNat + 1 < e ∧ e - (c + 1).toNat < e - p.toNat) ∧ (2 * p.toNat + 2 < e → c + 1 < e) := by
  obtain ⟨n, rfl⟩ := Int.eq_ofNat_of_zero_le h1
  subst h3
  have e1 : (2 * (n : Int) + 1).toNat = 2 * n + 1 := rfl
  have e2 : (2 * (n : Int) + 1 + 1).toNat = 2 * n + 2 := rfl
  rw [e1, e2, Int.toNat_natCast]
  refine ⟨rfl, rfl, ?_, ?_, fun h => ?_, fun h => ?_, fun h => Int.ofNat_lt.mpr h⟩
  · exact Int.natCast_nonneg (2 * n + 1)
  · exact Int.natCast_nonneg (2 * n + 2)
  · have h : 2 * n + 1 < e := Int.ofNat_lt.mp h
    exact ⟨h, by omega⟩
  · have h : 2 * n + 2 < e := Int.ofNat_lt.mp h
    exact ⟨h, by omega, by omega⟩
theorem ct_su (w : World) (l : Addr) (vs : List Value) (bs : List By) (n : Nat) (t : Tok) (rest : List (Addr × Obj)) (hne : ∀ p ∈ rest, p.1 ≠ l) (hb : BytesAre vs bs) (hp : 0 < bs.length) (hz : bs.length ≤ 1000) :
    Ct w 2 130 [.ref l, .int 0 t] ((l, W.listOf vs.toArray n) :: rest)
      (fun v n' => v = .none ∧ ∃ vs' k, BytesAre vs' (siftup0 blt #[] bs) ∧ n' = (l, W.listOf vs'.toArray k) :: rest) := by
  unfold Ct
  k_fill
  w_top off
  intro p loose mean mg mb dp un gd cn cs a ccd cl outer A₀ base h₀ L m s Q E B F X N T hk hd hu hret
  refine wpAny_call ?_
  k_dflt (first | (refine' code_def ?k1 ?k2 ?k3 ?k4 ?k5 ?kA ?kF ?kK ?k6 ?k7 ?k8 ?k9 ?kB ?_ ?c2 ?c3 ?c4 ?c5; (case kA => exact rfl); (case kF => exact rfl); (case kK => assumption); (case k1 => k_asm); (case k2 => k_asm); (case k3 => k_asm); (case k4 => k_asm); (case k5 => k_asm); (case k6 => k_is); (case k7 => k_is); (case k8 => ktr_room); (case k9 => first | exact BindsTo.of_eq rfl | exact binds_K (by k_in) rfl (by k_is) rfl rfl rfl); (case c5 => decide); (case kB => exact locs rfl); (case c2 => exact rfl); (case c3 => exact rfl); (case c4 => exact rfl); k_whole; intro g' L' h' FG' F' N' B' X' T'; (try dsimp only); (try k_fold)) | (refine' code_defC ?k1 ?k2 ?k3 ?k4 ?k5 ?kA ?kF ?kK ?k6 ?k7 ?k8 ?k9 ?kB ?kD ?_ ?c2 ?c3 ?c4; (case kA => exact rfl); (case kF => exact rfl); (case kK => assumption); (case k1 => k_asm); (case k2 => k_asm); (case k3 => k_asm); (case k4 => k_asm); (case k5 => k_asm); (case k6 => k_is); (case k7 => k_is); (case k8 => ktr_room); (case k9 => first | exact BindsTo.of_eq rfl | exact binds_K (by k_in) rfl (by k_is) rfl rfl rfl); (case kB => exact rfl); (case kD => decide +kernel); (case c2 => exact rfl); (case c3 => exact rfl); (case c4 => exact rfl); k_whole; intro g' L' h' tk' cells' FG' F' N' Y' B' X' T' l1; k_cells Y'; (try simp only [List.cons_append, List.nil_append] at N'); (try dsimp only); (try k_fold)))
  k_with_none
  k_with "subscriptTail" => (k_here; (with_reducible show wpAny _ _ (subscriptTail _ _ (Value.ref _) (Value.int _ _)) _ _ _); k_dflt (refine' by_sub ?k1 ?k2 ?k3 ?k4 ?k5 ?k6 ?_ ?k7 ?k8; (case k1 => k_asm); (case k2 => k_mem); (case k3 => with_reducible assumption); (case k4 => (first | omega | ((simp only [List.length_append, List.length_dropLast, List.length_set, List.length_cons, List.length_nil, List.length_take, List.length_drop] at *); omega))); (case k5 => (first | omega | ((simp only [List.length_append, List.length_dropLast, List.length_set, List.length_cons, List.length_nil, List.length_take, List.length_drop] at *); omega))); (case k6 => (first | omega | ((simp only [List.length_append, List.length_dropLast, List.length_set, List.length_cons, List.length_nil, List.length_take, List.length_drop] at *); omega))); (case k7 => with_unfolding_all rfl); (case k8 => (intro _; with_unfolding_all rfl)); k_whole); intro _)
  k_with "compareOp Lt bytes bytes" => refine lt_bytes ?_
  k_with "setItem ref int" => (k_here; (with_reducible show wpAny _ _ (setItem (Value.ref _) (Value.int _ _) (Value.bytes _ _)) _ _ _); k_dflt (refine' by_set ?k1 ?k2 ?k3 ?k4 ?k5 ?k6 ?k7 ?_; (case k1 => k_asm); (case k2 => k_asm); (case k3 => k_upd); (case k4 => with_reducible assumption); (case k5 => (first | omega | ((simp only [List.length_append, List.length_dropLast, List.length_set, List.length_cons, List.length_nil, List.length_take, List.length_drop] at *); omega))); (case k6 => (first | omega | ((simp only [List.length_append, List.length_dropLast, List.length_set, List.length_cons, List.length_nil, List.length_take, List.length_drop] at *); omega))); (case k7 => (first | omega | ((simp only [List.length_append, List.length_dropLast, List.length_set, List.length_cons, List.length_nil, List.length_take, List.length_drop] at *); omega))); k_whole); intro h' F' N' hi'; (try k_sweep))
  k_with "call builtin:len" => (k_here; (with_reducible show wpAny _ _ (call (Value.builtin "len") [Value.ref _]) _ _ _); k_dflt (refine' by_len ?k1 ?k2 ?k3 ?k4 ?_; (case k1 => k_asm); (case k2 => k_mem); (case k3 => with_reducible assumption); (case k4 => (first | omega | ((simp only [List.length_append, List.length_dropLast, List.length_set, List.length_cons, List.length_nil, List.length_take, List.length_drop] at *); omega))); k_whole))
  k_with "truthy ref" => (k_here; k_dflt (refine' by_truthy ?k1 ?k2 ?k3 ?k4 ?_; (case k1 => k_asm); (case k2 => k_mem); (case k3 => with_reducible assumption); (case k4 => (first | omega | ((simp only [List.length_append, List.length_dropLast, List.length_set, List.length_cons, List.length_nil, List.length_take, List.length_drop] at *); omega))); k_whole))
  k_with "call builtin:list.pop" => (k_here; (with_reducible show wpAny _ _ (call (Value.builtin _) [Value.ref _]) _ _ _); k_dflt (refine' by_pop ?F ?N ?U ?i ?l ?z ?_; (case F => k_asm); (case N => k_asm); (case U => k_upd); (case i => with_reducible assumption); (case l => (first | omega | ((simp only [List.length_append, List.length_dropLast, List.length_set, List.length_cons, List.length_nil, List.length_take, List.length_drop] at *); omega))); (case z => (rw [PySem.sizeLine_eq]; (first | omega | ((simp only [List.length_append, List.length_dropLast, List.length_set, List.length_cons, List.length_nil, List.length_take, List.length_drop] at *); omega)))); k_whole); intro h' t' F' N' hi'; (try k_sweep))
  k_with "call builtin:list.pop" => (k_here; (with_reducible show wpAny _ _ (call (Value.builtin _) [Value.ref _, Value.int _ _]) _ _ _); k_dflt (refine' by_popAt ?F ?N ?U ?i ?l0 ?l ?z ?_; (case F => k_asm); (case N => k_asm); (case U => k_upd); (case i => with_reducible assumption); (case l0 => (first | omega | ((simp only [List.length_append, List.length_dropLast, List.length_set, List.length_cons, List.length_nil, List.length_take, List.length_drop] at *); omega))); (case l => (first | omega | ((simp only [List.length_append, List.length_dropLast, List.length_set, List.length_cons, List.length_nil, List.length_take, List.length_drop] at *); omega))); (case z => (rw [PySem.sizeLine_eq]; (first | omega | ((simp only [List.length_append, List.length_dropLast, List.length_set, List.length_cons, List.length_nil, List.length_take, List.length_drop] at *); omega)))); k_whole); intro h' t' F' N' hi'; (try k_sweep))
  k_with "call builtin:list.append" => (k_here; (with_reducible show wpAny _ _ (call (Value.builtin _) [Value.ref _, Value.bytes _ _]) _ _ _); k_dflt (refine' by_append ?F ?N ?U ?i ?z ?_; (case F => k_asm); (case N => k_asm); (case U => k_upd); (case i => with_reducible assumption); (case z => (rw [PySem.sizeLine_eq]; (first | omega | ((simp only [List.length_append, List.length_dropLast, List.length_set, List.length_cons, List.length_nil, List.length_take, List.length_drop] at *); omega)))); k_whole); intro h' F' N' hi'; (try k_sweep))
  k_with "call type:type" => ((with_reducible show wpAny _ _ (call (Value.type "type") [Value.bytes _ _]) _ _ _); refine call_type_of (Tx := "bytes") rfl (by decide +kernel) ?_)
  k_with "call type:type" => ((with_reducible show wpAny _ _ (call (Value.type "type") [Value.bool _]) _ _ _); refine call_type_of (Tx := "bool") rfl (by decide +kernel) ?_)
  k_with "exec For" => (k_here; (rename Fr _ _ _ _ => lF'); (with_unfolding_all refine' For_invVF lF' ?k1 ?k2 ?_ ?k3 ?k4; (case k1 => exact rfl); (case k2 => exact rfl); (case k3 => (intro _; rfl)); (case k4 => first | assumption | passes_own); k_whole); clear lF')
  k_with "call ref" => refine Hold.of ?_
  k_with "exec While Compare cons nil" => refine Hold.of ?_
  k_steps
  unfold Hold
  (rename Fr _ _ _ _ => lF); (rename News _ _ _ _ => lN)
  (with_unfolding_all refine' ksw_while (σ := SU) (fun c => (l, W.listOf c.vs.toArray c.n) :: rest) (fun c => [(Str.ofString "pos", .int c.pos c.t), (Str.ofString "childpos", .int c.ch c.t2)]) (fun c => BytesAre c.vs c.bs) [Str.ofString "rightpos"] (fun c => 0 ≤ c.pos ∧ c.pos < bs.length ∧ c.ch = 2 * c.pos + 1 ∧ c.bs.length = bs.length ∧ sup blt #[] bs.length c.pos.toNat c.bs = sup blt #[] bs.length 0 bs) (fun c => bs.length - c.pos.toNat) ⟨vs, bs, n, 0, _, 1, _⟩ lF lN hb ?kk ⟨(show (0 : Int) ≤ 0 by decide), (show (0 : Int) < (bs.length : Int) from by omega), (show (1 : Int) = 2 * 0 + 1 by decide), rfl, rfl⟩ ?_)
  (case kk => kst_all)
  rintro ⟨kvs, kbs, kn, kpos, kt, kch, kt2⟩ kU kH kTk kFacts ⟨kI1, kI2, kI3, kI4, kI5⟩ kFr kNews
  try clear lF lN
  dsimp only at *
  try k_fold
  k_steps
  · (rename Fr _ _ _ _ => eF); (rename News _ _ _ _ => eN); (rename BytesAre _ _ => eB); (rename blt _ _ = true => eC)
    (rename kch < _ => e5)
    obtain ⟨e1, e2, e3, e4, e6, _⟩ := su_ar (e := bs.length) kI1 kI3
    refine ksw_end ⟨_, _, _, kch, _, 2 * kch + 1, _⟩ eF eN (fun _ h => h) eB (by kst_all) (by (intro z h2 h3; (simp only [List.forall_mem_cons, List.not_mem_nil, false_implies, implies_true, and_true, ne_eq] at h2); (simp only [List.contains_cons, List.contains_nil, Bool.or_false, Bool.or_eq_false_iff, beq_eq_false_iff_ne, ne_eq] at h3); (simp only [kstB, h2, h3, if_false, List.contains_cons, List.contains_nil, Bool.or_false, Bool.or_eq_true, beq_iff_eq, or_self, or_false, false_or, Bool.false_eq_true]))) ?_ (e6 e5).2
    refine ⟨e3, e5, rfl, by dsimp only; rw [List.length_set]; exact kI4, ?_⟩
    dsimp only
    rw [e1, e2] at eC
    rw [← kI5, e1]
    exact sup_go (e6 e5).1 (child_lt eC)
  · (rename Fr _ _ _ _ => eF); (rename News _ _ _ _ => eN); (rename BytesAre _ _ => eB); (rename blt _ _ = false => eC)
    (rename kch + 1 < _ => e5)
    obtain ⟨e1, e2, e3, e4, _, e6, _⟩ := su_ar (e := bs.length) kI1 kI3
    refine ksw_end ⟨_, _, _, kch + 1, _, 2 * (kch + 1) + 1, _⟩ eF eN (fun _ h => h) eB (by kst_all) (by (intro z h2 h3; (simp only [List.forall_mem_cons, List.not_mem_nil, false_implies, implies_true, and_true, ne_eq] at h2); (simp only [List.contains_cons, List.contains_nil, Bool.or_false, Bool.or_eq_false_iff, beq_eq_false_iff_ne, ne_eq] at h3); (simp only [kstB, h2, h3, if_false, List.contains_cons, List.contains_nil, Bool.or_false, Bool.or_eq_true, beq_iff_eq, or_self, or_false, false_or, Bool.false_eq_true]))) ?_ (e6 e5).2.2
    refine ⟨e4, e5, rfl, by dsimp only; rw [List.length_set]; exact kI4, ?_⟩
    dsimp only
    rw [e1, e2] at eC
    rw [← kI5, e2]
    exact sup_go (e6 e5).2.1 (child_ge (e6 e5).1 eC)
  · (rename Fr _ _ _ _ => eF); (rename News _ _ _ _ => eN); (rename BytesAre _ _ => eB)
    (rename kch < _ => e5)
    (rename ¬ kch + 1 < _ => e7)
    obtain ⟨e1, e2, e3, e4, e6, _, e8⟩ := su_ar (e := bs.length) kI1 kI3
    refine ksw_end ⟨_, _, _, kch, _, 2 * kch + 1, _⟩ eF eN (fun _ h => h) eB (by kst_all) (by (intro z h2 h3; (simp only [List.forall_mem_cons, List.not_mem_nil, false_implies, implies_true, and_true, ne_eq] at h2); (simp only [List.contains_cons, List.contains_nil, Bool.or_false, Bool.or_eq_false_iff, beq_eq_false_iff_ne, ne_eq] at h3); (simp only [kstB, h2, h3, if_false, List.contains_cons, List.contains_nil, Bool.or_false, Bool.or_eq_true, beq_iff_eq, or_self, or_false, false_or, Bool.false_eq_true]))) ?_ (e6 e5).2
    refine ⟨e3, e5, rfl, by dsimp only; rw [List.length_set]; exact kI4, ?_⟩
    dsimp only
    rw [← kI5, e1]
    exact sup_go (e6 e5).1 (child_end (fun h => e7 (e8 h)))
  · unfold Hold
    (rename Fr _ _ _ _ => eF); (rename News _ _ _ _ => eN); (rename BytesAre _ _ => eB)
    k_dflt (refine' Ct.use (ct_sdI w l _ _ _ kpos _ _ rest hne eB kI1 ?k1 ?k2) ?B eF ?X eN ?T ?k ?d ?u ?_; (case B => k_asm); (case X => k_asm); (case T => k_asm); (case k => rfl); (case d => (dsimp only [ktrTop, Around.deeper]; omega)); (case u => (dsimp only [ktrTop, Around.deeper]; omega)); (case k1 => (rw [List.length_set]; omega)); (case k2 => (rw [List.length_set]; omega)))
    rintro v news' h' tk' ⟨rfl, vs', k, hB', rfl⟩ F'' N''
    clear eF eN
    k_steps
    (rename Fr _ _ _ _ => eF); (rename News _ _ _ _ => eN)
    refine hret _ _ _ _ ⟨rfl, vs', k, ?_, rfl⟩ eF eN
    have e0 : sup blt #[] bs.length 0 bs = (kpos.toNat, kbs) := by rw [← kI5]; exact sup_stop (by omega)
    unfold siftup0
    rw [e0]
    dsimp only
    have e1 : (kbs.set kpos.toNat (bs.getD (Int.toNat 0) #[])).getD kpos.toNat #[] = bs.getD 0 #[] := by
      rw [List.getD_eq_getElem?_getD, List.getElem?_set_self (by omega)]; rfl
    rw [e1] at hB'
    exact hB'
/-! OyHp -/
theorem ct_push (w : World) (l : Addr) (vs : List Value) (bs : List By) (n : Nat) (x : By) (t : Tok) (rest : List (Addr × Obj)) (hne : ∀ p ∈ rest, p.1 ≠ l) (hb : BytesAre vs bs) (hz : bs.length < 1000) :
    Ct w 2 109 [.ref l, .bytes x t] ((l, W.listOf vs.toArray n) :: rest)
      (fun v n' => v = .none ∧ ∃ vs' k, BytesAre vs' (hpush blt #[] bs x) ∧ n' = (l, W.listOf vs'.toArray k) :: rest) := by
  unfold Ct
  k_fill
  w_top off
  intro p loose mean mg mb dp un gd cn cs a ccd cl outer A₀ base h₀ L m s Q E B F X N T hk hd hu hret
  refine wpAny_call ?_
  k_dflt (first | (refine' code_def ?k1 ?k2 ?k3 ?k4 ?k5 ?kA ?kF ?kK ?k6 ?k7 ?k8 ?k9 ?kB ?_ ?c2 ?c3 ?c4 ?c5; (case kA => exact rfl); (case kF => exact rfl); (case kK => assumption); (case k1 => k_asm); (case k2 => k_asm); (case k3 => k_asm); (case k4 => k_asm); (case k5 => k_asm); (case k6 => k_is); (case k7 => k_is); (case k8 => ktr_room); (case k9 => first | exact BindsTo.of_eq rfl | exact binds_K (by k_in) rfl (by k_is) rfl rfl rfl); (case c5 => decide); (case kB => exact locs rfl); (case c2 => exact rfl); (case c3 => exact rfl); (case c4 => exact rfl); k_whole; intro g' L' h' FG' F' N' B' X' T'; (try dsimp only); (try k_fold)) | (refine' code_defC ?k1 ?k2 ?k3 ?k4 ?k5 ?kA ?kF ?kK ?k6 ?k7 ?k8 ?k9 ?kB ?kD ?_ ?c2 ?c3 ?c4; (case kA => exact rfl); (case kF => exact rfl); (case kK => assumption); (case k1 => k_asm); (case k2 => k_asm); (case k3 => k_asm); (case k4 => k_asm); (case k5 => k_asm); (case k6 => k_is); (case k7 => k_is); (case k8 => ktr_room); (case k9 => first | exact BindsTo.of_eq rfl | exact binds_K (by k_in) rfl (by k_is) rfl rfl rfl); (case kB => exact rfl); (case kD => decide +kernel); (case c2 => exact rfl); (case c3 => exact rfl); (case c4 => exact rfl); k_whole; intro g' L' h' tk' cells' FG' F' N' Y' B' X' T' l1; k_cells Y'; (try simp only [List.cons_append, List.nil_append] at N'); (try dsimp only); (try k_fold)))
  k_with_none
  k_with "subscriptTail" => (k_here; (with_reducible show wpAny _ _ (subscriptTail _ _ (Value.ref _) (Value.int _ _)) _ _ _); k_dflt (refine' by_sub ?k1 ?k2 ?k3 ?k4 ?k5 ?k6 ?_ ?k7 ?k8; (case k1 => k_asm); (case k2 => k_mem); (case k3 => with_reducible assumption); (case k4 => (first | omega | ((simp only [List.length_append, List.length_dropLast, List.length_set, List.length_cons, List.length_nil, List.length_take, List.length_drop] at *); omega))); (case k5 => (first | omega | ((simp only [List.length_append, List.length_dropLast, List.length_set, List.length_cons, List.length_nil, List.length_take, List.length_drop] at *); omega))); (case k6 => (first | omega | ((simp only [List.length_append, List.length_dropLast, List.length_set, List.length_cons, List.length_nil, List.length_take, List.length_drop] at *); omega))); (case k7 => with_unfolding_all rfl); (case k8 => (intro _; with_unfolding_all rfl)); k_whole); intro _)
  k_with "compareOp Lt bytes bytes" => refine lt_bytes ?_
  k_with "setItem ref int" => (k_here; (with_reducible show wpAny _ _ (setItem (Value.ref _) (Value.int _ _) (Value.bytes _ _)) _ _ _); k_dflt (refine' by_set ?k1 ?k2 ?k3 ?k4 ?k5 ?k6 ?k7 ?_; (case k1 => k_asm); (case k2 => k_asm); (case k3 => k_upd); (case k4 => with_reducible assumption); (case k5 => (first | omega | ((simp only [List.length_append, List.length_dropLast, List.length_set, List.length_cons, List.length_nil, List.length_take, List.length_drop] at *); omega))); (case k6 => (first | omega | ((simp only [List.length_append, List.length_dropLast, List.length_set, List.length_cons, List.length_nil, List.length_take, List.length_drop] at *); omega))); (case k7 => (first | omega | ((simp only [List.length_append, List.length_dropLast, List.length_set, List.length_cons, List.length_nil, List.length_take, List.length_drop] at *); omega))); k_whole); intro h' F' N' hi'; (try k_sweep))
  k_with "call builtin:len" => (k_here; (with_reducible show wpAny _ _ (call (Value.builtin "len") [Value.ref _]) _ _ _); k_dflt (refine' by_len ?k1 ?k2 ?k3 ?k4 ?_; (case k1 => k_asm); (case k2 => k_mem); (case k3 => with_reducible assumption); (case k4 => (first | omega | ((simp only [List.length_append, List.length_dropLast, List.length_set, List.length_cons, List.length_nil, List.length_take, List.length_drop] at *); omega))); k_whole))
  k_with "truthy ref" => (k_here; k_dflt (refine' by_truthy ?k1 ?k2 ?k3 ?k4 ?_; (case k1 => k_asm); (case k2 => k_mem); (case k3 => with_reducible assumption); (case k4 => (first | omega | ((simp only [List.length_append, List.length_dropLast, List.length_set, List.length_cons, List.length_nil, List.length_take, List.length_drop] at *); omega))); k_whole))
  k_with "call builtin:list.pop" => (k_here; (with_reducible show wpAny _ _ (call (Value.builtin _) [Value.ref _]) _ _ _); k_dflt (refine' by_pop ?F ?N ?U ?i ?l ?z ?_; (case F => k_asm); (case N => k_asm); (case U => k_upd); (case i => with_reducible assumption); (case l => (first | omega | ((simp only [List.length_append, List.length_dropLast, List.length_set, List.length_cons, List.length_nil, List.length_take, List.length_drop] at *); omega))); (case z => (rw [PySem.sizeLine_eq]; (first | omega | ((simp only [List.length_append, List.length_dropLast, List.length_set, List.length_cons, List.length_nil, List.length_take, List.length_drop] at *); omega)))); k_whole); intro h' t' F' N' hi'; (try k_sweep))
  k_with "call builtin:list.pop" => (k_here; (with_reducible show wpAny _ _ (call (Value.builtin _) [Value.ref _, Value.int _ _]) _ _ _); k_dflt (refine' by_popAt ?F ?N ?U ?i ?l0 ?l ?z ?_; (case F => k_asm); (case N => k_asm); (case U => k_upd); (case i => with_reducible assumption); (case l0 => (first | omega | ((simp only [List.length_append, List.length_dropLast, List.length_set, List.length_cons, List.length_nil, List.length_take, List.length_drop] at *); omega))); (case l => (first | omega | ((simp only [List.length_append, List.length_dropLast, List.length_set, List.length_cons, List.length_nil, List.length_take, List.length_drop] at *); omega))); (case z => (rw [PySem.sizeLine_eq]; (first | omega | ((simp only [List.length_append, List.length_dropLast, List.length_set, List.length_cons, List.length_nil, List.length_take, List.length_drop] at *); omega)))); k_whole); intro h' t' F' N' hi'; (try k_sweep))
  k_with "call builtin:list.append" => (k_here; (with_reducible show wpAny _ _ (call (Value.builtin _) [Value.ref _, Value.bytes _ _]) _ _ _); k_dflt (refine' by_append ?F ?N ?U ?i ?z ?_; (case F => k_asm); (case N => k_asm); (case U => k_upd); (case i => with_reducible assumption); (case z => (rw [PySem.sizeLine_eq]; (first | omega | ((simp only [List.length_append, List.length_dropLast, List.length_set, List.length_cons, List.length_nil, List.length_take, List.length_drop] at *); omega)))); k_whole); intro h' F' N' hi'; (try k_sweep))
  k_with "call type:type" => ((with_reducible show wpAny _ _ (call (Value.type "type") [Value.bytes _ _]) _ _ _); refine call_type_of (Tx := "bytes") rfl (by decide +kernel) ?_)
  k_with "call type:type" => ((with_reducible show wpAny _ _ (call (Value.type "type") [Value.bool _]) _ _ _); refine call_type_of (Tx := "bool") rfl (by decide +kernel) ?_)
  k_with "exec For" => (k_here; (rename Fr _ _ _ _ => lF'); (with_unfolding_all refine' For_invVF lF' ?k1 ?k2 ?_ ?k3 ?k4; (case k1 => exact rfl); (case k2 => exact rfl); (case k3 => (intro _; rfl)); (case k4 => first | assumption | passes_own); k_whole); clear lF')
  k_with "call ref" => refine Hold.of ?_
  k_steps
  unfold Hold
  (rename Fr _ _ _ _ => eF); (rename News _ _ _ _ => eN); (rename BytesAre _ _ => eB)
  k_dflt (refine' Ct.use (ct_sdI w l _ _ _ (((bs ++ [x]).length : Int) - 1) _ _ rest hne eB ?k0 ?k1 ?k2) ?B eF ?X eN ?T ?k ?d ?u ?_; (case B => k_asm); (case X => k_asm); (case T => k_asm); (case k => rfl); (case d => (dsimp only [ktrTop, Around.deeper]; omega)); (case u => (dsimp only [ktrTop, Around.deeper]; omega)); (case k0 => (rw [List.length_append]; simp)); (case k1 => omega); (case k2 => (rw [List.length_append, List.length_singleton]; omega)))
  rintro v news' h' tk' ⟨rfl, vs', k, hB', rfl⟩ F'' N''
  clear eF eN
  k_steps
  (rename Fr _ _ _ _ => eF); (rename News _ _ _ _ => eN)
  refine hret _ _ _ _ ⟨rfl, vs', k, ?_, rfl⟩ eF eN
  have e0 : (((bs ++ [x]).length : Int) - 1).toNat = bs.length := by rw [List.length_append, List.length_singleton]; omega
  rw [e0, List.getD_eq_getElem?_getD, List.getElem?_append_right (Nat.le_refl _)] at hB'
  simpa [hpush] using hB'
theorem ct_pop (w : World) (l : Addr) (vs : List Value) (bs : List By) (n : Nat) (rest : List (Addr × Obj)) (hne : ∀ p ∈ rest, p.1 ≠ l) (hb : BytesAre vs bs) (hp : 0 < bs.length) (hz : bs.length < 1000) :
    Ct w 3 116 [.ref l] ((l, W.listOf vs.toArray n) :: rest)
      (fun v n' => (∃ t, v = .bytes (bs.getD 0 #[]) t) ∧ ∃ vs' k, BytesAre vs' (hpop blt #[] bs) ∧ n' = (l, W.listOf vs'.toArray k) :: rest) := by
  unfold Ct
  k_fill
  w_top off
  intro p loose mean mg mb dp un gd cn cs a ccd cl outer A₀ base h₀ L m s Q E B F X N T hk hd hu hret
  refine wpAny_call ?_
  k_dflt (first | (refine' code_def ?k1 ?k2 ?k3 ?k4 ?k5 ?kA ?kF ?kK ?k6 ?k7 ?k8 ?k9 ?kB ?_ ?c2 ?c3 ?c4 ?c5; (case kA => exact rfl); (case kF => exact rfl); (case kK => assumption); (case k1 => k_asm); (case k2 => k_asm); (case k3 => k_asm); (case k4 => k_asm); (case k5 => k_asm); (case k6 => k_is); (case k7 => k_is); (case k8 => ktr_room); (case k9 => first | exact BindsTo.of_eq rfl | exact binds_K (by k_in) rfl (by k_is) rfl rfl rfl); (case c5 => decide); (case kB => exact locs rfl); (case c2 => exact rfl); (case c3 => exact rfl); (case c4 => exact rfl); k_whole; intro g' L' h' FG' F' N' B' X' T'; (try dsimp only); (try k_fold)) | (refine' code_defC ?k1 ?k2 ?k3 ?k4 ?k5 ?kA ?kF ?kK ?k6 ?k7 ?k8 ?k9 ?kB ?kD ?_ ?c2 ?c3 ?c4; (case kA => exact rfl); (case kF => exact rfl); (case kK => assumption); (case k1 => k_asm); (case k2 => k_asm); (case k3 => k_asm); (case k4 => k_asm); (case k5 => k_asm); (case k6 => k_is); (case k7 => k_is); (case k8 => ktr_room); (case k9 => first | exact BindsTo.of_eq rfl | exact binds_K (by k_in) rfl (by k_is) rfl rfl rfl); (case kB => exact rfl); (case kD => decide +kernel); (case c2 => exact rfl); (case c3 => exact rfl); (case c4 => exact rfl); k_whole; intro g' L' h' tk' cells' FG' F' N' Y' B' X' T' l1; k_cells Y'; (try simp only [List.cons_append, List.nil_append] at N'); (try dsimp only); (try k_fold)))
  k_with_none
  k_with "subscriptTail" => (k_here; (with_reducible show wpAny _ _ (subscriptTail _ _ (Value.ref _) (Value.int _ _)) _ _ _); k_dflt (refine' by_sub ?k1 ?k2 ?k3 ?k4 ?k5 ?k6 ?_ ?k7 ?k8; (case k1 => k_asm); (case k2 => k_mem); (case k3 => with_reducible assumption); (case k4 => (first | omega | ((simp only [List.length_append, List.length_dropLast, List.length_set, List.length_cons, List.length_nil, List.length_take, List.length_drop] at *); omega))); (case k5 => (first | omega | ((simp only [List.length_append, List.length_dropLast, List.length_set, List.length_cons, List.length_nil, List.length_take, List.length_drop] at *); omega))); (case k6 => (first | omega | ((simp only [List.length_append, List.length_dropLast, List.length_set, List.length_cons, List.length_nil, List.length_take, List.length_drop] at *); omega))); (case k7 => with_unfolding_all rfl); (case k8 => (intro _; with_unfolding_all rfl)); k_whole); intro _)
  k_with "compareOp Lt bytes bytes" => refine lt_bytes ?_
  k_with "setItem ref int" => (k_here; (with_reducible show wpAny _ _ (setItem (Value.ref _) (Value.int _ _) (Value.bytes _ _)) _ _ _); k_dflt (refine' by_set ?k1 ?k2 ?k3 ?k4 ?k5 ?k6 ?k7 ?_; (case k1 => k_asm); (case k2 => k_asm); (case k3 => k_upd); (case k4 => with_reducible assumption); (case k5 => (first | omega | ((simp only [List.length_append, List.length_dropLast, List.length_set, List.length_cons, List.length_nil, List.length_take, List.length_drop] at *); omega))); (case k6 => (first | omega | ((simp only [List.length_append, List.length_dropLast, List.length_set, List.length_cons, List.length_nil, List.length_take, List.length_drop] at *); omega))); (case k7 => (first | omega | ((simp only [List.length_append, List.length_dropLast, List.length_set, List.length_cons, List.length_nil, List.length_take, List.length_drop] at *); omega))); k_whole); intro h' F' N' hi'; (try k_sweep))
  k_with "call builtin:len" => (k_here; (with_reducible show wpAny _ _ (call (Value.builtin "len") [Value.ref _]) _ _ _); k_dflt (refine' by_len ?k1 ?k2 ?k3 ?k4 ?_; (case k1 => k_asm); (case k2 => k_mem); (case k3 => with_reducible assumption); (case k4 => (first | omega | ((simp only [List.length_append, List.length_dropLast, List.length_set, List.length_cons, List.length_nil, List.length_take, List.length_drop] at *); omega))); k_whole))
  k_with "truthy ref" => (k_here; k_dflt (refine' by_truthy ?k1 ?k2 ?k3 ?k4 ?_; (case k1 => k_asm); (case k2 => k_mem); (case k3 => with_reducible assumption); (case k4 => (first | omega | ((simp only [List.length_append, List.length_dropLast, List.length_set, List.length_cons, List.length_nil, List.length_take, List.length_drop] at *); omega))); k_whole))
  k_with "call builtin:list.pop" => (k_here; (with_reducible show wpAny _ _ (call (Value.builtin _) [Value.ref _]) _ _ _); k_dflt (refine' by_pop ?F ?N ?U ?i ?l ?z ?_; (case F => k_asm); (case N => k_asm); (case U => k_upd); (case i => with_reducible assumption); (case l => (first | omega | ((simp only [List.length_append, List.length_dropLast, List.length_set, List.length_cons, List.length_nil, List.length_take, List.length_drop] at *); omega))); (case z => (rw [PySem.sizeLine_eq]; (first | omega | ((simp only [List.length_append, List.length_dropLast, List.length_set, List.length_cons, List.length_nil, List.length_take, List.length_drop] at *); omega)))); k_whole); intro h' t' F' N' hi'; (try k_sweep))
  k_with "call builtin:list.pop" => (k_here; (with_reducible show wpAny _ _ (call (Value.builtin _) [Value.ref _, Value.int _ _]) _ _ _); k_dflt (refine' by_popAt ?F ?N ?U ?i ?l0 ?l ?z ?_; (case F => k_asm); (case N => k_asm); (case U => k_upd); (case i => with_reducible assumption); (case l0 => (first | omega | ((simp only [List.length_append, List.length_dropLast, List.length_set, List.length_cons, List.length_nil, List.length_take, List.length_drop] at *); omega))); (case l => (first | omega | ((simp only [List.length_append, List.length_dropLast, List.length_set, List.length_cons, List.length_nil, List.length_take, List.length_drop] at *); omega))); (case z => (rw [PySem.sizeLine_eq]; (first | omega | ((simp only [List.length_append, List.length_dropLast, List.length_set, List.length_cons, List.length_nil, List.length_take, List.length_drop] at *); omega)))); k_whole); intro h' t' F' N' hi'; (try k_sweep))
  k_with "call builtin:list.append" => (k_here; (with_reducible show wpAny _ _ (call (Value.builtin _) [Value.ref _, Value.bytes _ _]) _ _ _); k_dflt (refine' by_append ?F ?N ?U ?i ?z ?_; (case F => k_asm); (case N => k_asm); (case U => k_upd); (case i => with_reducible assumption); (case z => (rw [PySem.sizeLine_eq]; (first | omega | ((simp only [List.length_append, List.length_dropLast, List.length_set, List.length_cons, List.length_nil, List.length_take, List.length_drop] at *); omega)))); k_whole); intro h' F' N' hi'; (try k_sweep))
  k_with "call type:type" => ((with_reducible show wpAny _ _ (call (Value.type "type") [Value.bytes _ _]) _ _ _); refine call_type_of (Tx := "bytes") rfl (by decide +kernel) ?_)
  k_with "call type:type" => ((with_reducible show wpAny _ _ (call (Value.type "type") [Value.bool _]) _ _ _); refine call_type_of (Tx := "bool") rfl (by decide +kernel) ?_)
  k_with "exec For" => (k_here; (rename Fr _ _ _ _ => lF'); (with_unfolding_all refine' For_invVF lF' ?k1 ?k2 ?_ ?k3 ?k4; (case k1 => exact rfl); (case k2 => exact rfl); (case k3 => (intro _; rfl)); (case k4 => first | assumption | passes_own); k_whole); clear lF')
  k_with "call ref" => refine Hold.of ?_
  k_steps
  · unfold Hold
    (rename Fr _ _ _ _ => eF); (rename News _ _ _ _ => eN); (rename BytesAre _ _ => eB); (rename 0 < List.length _ => eL)
    k_dflt (refine' Ct.use (ct_su w l _ _ _ _ rest hne eB ?k1 ?k2) ?B eF ?X eN ?T ?k ?d ?u ?_; (case B => k_asm); (case X => k_asm); (case T => k_asm); (case k => rfl); (case d => (dsimp only [ktrTop, Around.deeper]; omega)); (case u => (dsimp only [ktrTop, Around.deeper]; omega)); (case k1 => (rw [List.length_set]; exact eL)); (case k2 => (rw [List.length_set, List.length_dropLast]; omega)))
    rintro v news' h' tk' ⟨rfl, vs', k, hB', rfl⟩ F'' N''
    clear eF eN
    k_steps
    (rename Fr _ _ _ _ => eF); (rename News _ _ _ _ => eN)
    rw [List.length_dropLast] at eL
    have e0 : bs.dropLast.getD (Int.toNat 0) #[] = bs.getD 0 #[] := by
      show bs.dropLast.getD 0 #[] = _
      rw [List.getD_eq_getElem?_getD, List.getD_eq_getElem?_getD, List.getElem?_dropLast, if_pos (by omega)]
    refine hret _ _ _ _ ⟨⟨_, by rw [e0]⟩, vs', k, ?_, rfl⟩ eF eN
    unfold hpop
    rw [if_neg (by omega)]
    exact hB'
  · (rename Fr _ _ _ _ => eF); (rename News _ _ _ _ => eN); (rename BytesAre _ _ => eB); (rename ¬ 0 < List.length _ => eL)
    rw [List.length_dropLast] at eL
    have e0 : bs.length - 1 = 0 := by omega
    refine hret _ _ _ _ ⟨⟨_, by rw [e0]⟩, _, _, ?_, rfl⟩ eF eN
    unfold hpop
    rw [if_pos (by omega)]
    have e1 : bs.dropLast = [] := List.eq_nil_of_length_eq_zero (by rw [List.length_dropLast]; omega)
    rw [← e1]; exact eB
/-! OyB1 -/
noncomputable def b64v (c : Int) : Int := if 65 ≤ c ∧ c ≤ 90 then c - 65 else if 97 ≤ c ∧ c ≤ 122 then c - 71 else if 48 ≤ c ∧ c ≤ 57 then c + 4 else if c = 43 then 62 else if c = 47 then 63 else 64

theorem b64v_1 {c : Int} (h : 65 ≤ c) (h' : c ≤ 90) : c - 65 = b64v c := (if_pos ⟨h, h'⟩).symm
theorem b64v_2 {c : Int} (h : 97 ≤ c) (h' : c ≤ 122) : c - 71 = b64v c := by unfold b64v; rw [if_neg (by omega), if_pos ⟨h, h'⟩]
theorem b64v_3 {c : Int} (h : 48 ≤ c) (h' : c ≤ 57) : c + 4 = b64v c := by unfold b64v; rw [if_neg (by omega), if_neg (by omega), if_pos ⟨h, h'⟩]
theorem b64v_4 {c : Int} (h : c = 43) : 62 = b64v c := by subst h; rfl
theorem b64v_5 {c : Int} (h : c = 47) : 63 = b64v c := by subst h; rfl
theorem b64v_6 {c : Int} (h1 : c < 65 ∨ 90 < c) (h2 : c < 97 ∨ 122 < c) (h3 : c < 48 ∨ 57 < c) (h4 : ¬ c = 43) (h5 : ¬ c = 47) : 64 = b64v c := by
  unfold b64v; rw [if_neg (by omega), if_neg (by omega), if_neg (by omega), if_neg h4, if_neg h5]
theorem ct_b64v (w : World) (c : Int) (t : Tok) (news : List (Addr × Obj)) : Ct w 1 70 [.int c t] news (fun v n' => (∃ t', v = .int (b64v c) t') ∧ n' = news) := by
  unfold Ct
  k_fill
  w_top off
  intro p loose mean mg mb dp un gd cn cs a ccd cl outer A₀ base h₀ L m s Q E B F X N T hk hd hu hret
  refine wpAny_call ?_
  k_dflt (first | (refine' code_def ?k1 ?k2 ?k3 ?k4 ?k5 ?kA ?kF ?kK ?k6 ?k7 ?k8 ?k9 ?kB ?_ ?c2 ?c3 ?c4 ?c5; (case kA => exact rfl); (case kF => exact rfl); (case kK => assumption); (case k1 => k_asm); (case k2 => k_asm); (case k3 => k_asm); (case k4 => k_asm); (case k5 => k_asm); (case k6 => k_is); (case k7 => k_is); (case k8 => ktr_room); (case k9 => first | exact BindsTo.of_eq rfl | exact binds_K (by k_in) rfl (by k_is) rfl rfl rfl); (case c5 => decide); (case kB => exact locs rfl); (case c2 => exact rfl); (case c3 => exact rfl); (case c4 => exact rfl); k_whole; intro g' L' h' FG' F' N' B' X' T'; (try dsimp only); (try k_fold)) | (refine' code_defC ?k1 ?k2 ?k3 ?k4 ?k5 ?kA ?kF ?kK ?k6 ?k7 ?k8 ?k9 ?kB ?kD ?_ ?c2 ?c3 ?c4; (case kA => exact rfl); (case kF => exact rfl); (case kK => assumption); (case k1 => k_asm); (case k2 => k_asm); (case k3 => k_asm); (case k4 => k_asm); (case k5 => k_asm); (case k6 => k_is); (case k7 => k_is); (case k8 => ktr_room); (case k9 => first | exact BindsTo.of_eq rfl | exact binds_K (by k_in) rfl (by k_is) rfl rfl rfl); (case kB => exact rfl); (case kD => decide +kernel); (case c2 => exact rfl); (case c3 => exact rfl); (case c4 => exact rfl); k_whole; intro g' L' h' tk' cells' FG' F' N' Y' B' X' T' l1; k_cells Y'; (try simp only [List.cons_append, List.nil_append] at N'); (try dsimp only); (try k_fold)))
  k_with_none
  k_with "subscriptTail" => (k_here; (with_reducible show wpAny _ _ (subscriptTail _ _ (Value.ref _) (Value.int _ _)) _ _ _); k_dflt (refine' by_sub ?k1 ?k2 ?k3 ?k4 ?k5 ?k6 ?_ ?k7 ?k8; (case k1 => k_asm); (case k2 => k_mem); (case k3 => with_reducible assumption); (case k4 => (first | omega | ((simp only [List.length_append, List.length_dropLast, List.length_set, List.length_cons, List.length_nil, List.length_take, List.length_drop] at *); omega))); (case k5 => (first | omega | ((simp only [List.length_append, List.length_dropLast, List.length_set, List.length_cons, List.length_nil, List.length_take, List.length_drop] at *); omega))); (case k6 => (first | omega | ((simp only [List.length_append, List.length_dropLast, List.length_set, List.length_cons, List.length_nil, List.length_take, List.length_drop] at *); omega))); (case k7 => with_unfolding_all rfl); (case k8 => (intro _; with_unfolding_all rfl)); k_whole); intro _)
  k_with "compareOp Lt bytes bytes" => refine lt_bytes ?_
  k_with "setItem ref int" => (k_here; (with_reducible show wpAny _ _ (setItem (Value.ref _) (Value.int _ _) (Value.bytes _ _)) _ _ _); k_dflt (refine' by_set ?k1 ?k2 ?k3 ?k4 ?k5 ?k6 ?k7 ?_; (case k1 => k_asm); (case k2 => k_asm); (case k3 => k_upd); (case k4 => with_reducible assumption); (case k5 => (first | omega | ((simp only [List.length_append, List.length_dropLast, List.length_set, List.length_cons, List.length_nil, List.length_take, List.length_drop] at *); omega))); (case k6 => (first | omega | ((simp only [List.length_append, List.length_dropLast, List.length_set, List.length_cons, List.length_nil, List.length_take, List.length_drop] at *); omega))); (case k7 => (first | omega | ((simp only [List.length_append, List.length_dropLast, List.length_set, List.length_cons, List.length_nil, List.length_take, List.length_drop] at *); omega))); k_whole); intro h' F' N' hi'; (try k_sweep))
  k_with "call builtin:len" => (k_here; (with_reducible show wpAny _ _ (call (Value.builtin "len") [Value.ref _]) _ _ _); k_dflt (refine' by_len ?k1 ?k2 ?k3 ?k4 ?_; (case k1 => k_asm); (case k2 => k_mem); (case k3 => with_reducible assumption); (case k4 => (first | omega | ((simp only [List.length_append, List.length_dropLast, List.length_set, List.length_cons, List.length_nil, List.length_take, List.length_drop] at *); omega))); k_whole))
  k_with "truthy ref" => (k_here; k_dflt (refine' by_truthy ?k1 ?k2 ?k3 ?k4 ?_; (case k1 => k_asm); (case k2 => k_mem); (case k3 => with_reducible assumption); (case k4 => (first | omega | ((simp only [List.length_append, List.length_dropLast, List.length_set, List.length_cons, List.length_nil, List.length_take, List.length_drop] at *); omega))); k_whole))
  k_with "call builtin:list.pop" => (k_here; (with_reducible show wpAny _ _ (call (Value.builtin _) [Value.ref _]) _ _ _); k_dflt (refine' by_pop ?F ?N ?U ?i ?l ?z ?_; (case F => k_asm); (case N => k_asm); (case U => k_upd); (case i => with_reducible assumption); (case l => (first | omega | ((simp only [List.length_append, List.length_dropLast, List.length_set, List.length_cons, List.length_nil, List.length_take, List.length_drop] at *); omega))); (case z => (rw [PySem.sizeLine_eq]; (first | omega | ((simp only [List.length_append, List.length_dropLast, List.length_set, List.length_cons, List.length_nil, List.length_take, List.length_drop] at *); omega)))); k_whole); intro h' t' F' N' hi'; (try k_sweep))
  k_with "call builtin:list.pop" => (k_here; (with_reducible show wpAny _ _ (call (Value.builtin _) [Value.ref _, Value.int _ _]) _ _ _); k_dflt (refine' by_popAt ?F ?N ?U ?i ?l0 ?l ?z ?_; (case F => k_asm); (case N => k_asm); (case U => k_upd); (case i => with_reducible assumption); (case l0 => (first | omega | ((simp only [List.length_append, List.length_dropLast, List.length_set, List.length_cons, List.length_nil, List.length_take, List.length_drop] at *); omega))); (case l => (first | omega | ((simp only [List.length_append, List.length_dropLast, List.length_set, List.length_cons, List.length_nil, List.length_take, List.length_drop] at *); omega))); (case z => (rw [PySem.sizeLine_eq]; (first | omega | ((simp only [List.length_append, List.length_dropLast, List.length_set, List.length_cons, List.length_nil, List.length_take, List.length_drop] at *); omega)))); k_whole); intro h' t' F' N' hi'; (try k_sweep))
  k_with "call builtin:list.append" => (k_here; (with_reducible show wpAny _ _ (call (Value.builtin _) [Value.ref _, Value.bytes _ _]) _ _ _); k_dflt (refine' by_append ?F ?N ?U ?i ?z ?_; (case F => k_asm); (case N => k_asm); (case U => k_upd); (case i => with_reducible assumption); (case z => (rw [PySem.sizeLine_eq]; (first | omega | ((simp only [List.length_append, List.length_dropLast, List.length_set, List.length_cons, List.length_nil, List.length_take, List.length_drop] at *); omega)))); k_whole); intro h' F' N' hi'; (try k_sweep))
  k_with "call type:type" => ((with_reducible show wpAny _ _ (call (Value.type "type") [Value.bytes _ _]) _ _ _); refine call_type_of (Tx := "bytes") rfl (by decide +kernel) ?_)
  k_with "call type:type" => ((with_reducible show wpAny _ _ (call (Value.type "type") [Value.bool _]) _ _ _); refine call_type_of (Tx := "bool") rfl (by decide +kernel) ?_)
  k_with "exec For" => (k_here; (rename Fr _ _ _ _ => lF'); (with_unfolding_all refine' For_invVF lF' ?k1 ?k2 ?_ ?k3 ?k4; (case k1 => exact rfl); (case k2 => exact rfl); (case k3 => (intro _; rfl)); (case k4 => first | assumption | passes_own); k_whole); clear lF')
  k_steps
  all_goals (
    (rename Fr _ _ _ _ => eF); (rename News _ _ _ _ => eN)
    refine cb_retI (fun t h' tk' F N => hret _ _ _ _ ⟨⟨t, rfl⟩, rfl⟩ F N) ?_ eF eN
    first
      | exact b64v_1 (by assumption) (by assumption)
      | exact b64v_2 (by assumption) (by assumption)
      | exact b64v_3 (by assumption) (by assumption)
      | exact b64v_4 (by assumption)
      | exact b64v_5 (by assumption)
      | exact b64v_6 (by omega) (by omega) (by omega) (by assumption) (by assumption))
theorem ct_b64w (w : World) (c v : Int) (h : b64v c = v) (t : Tok) (news : List (Addr × Obj)) : Ct w 1 70 [.int c t] news (fun r n' => (∃ t', r = .int v t') ∧ n' = news) := by
  subst h; exact ct_b64v w c t news
/-! OyB2 -/
theorem or_dec_all : ∀ a : Fin 64, ∀ b : Fin 4, Builtin.bitOr ((a.val : Int) * 4) (b.val : Int) = 4 * (a.val : Int) + (b.val : Int) := by decide +kernel
theorem or_dec {prog : Program} {w : World} {A : Around} {E : Value → Shared → Prop} {s : Shared} {v0 v1 : Int} {t u : Tok} {Q : Value → Shared → Prop} (r0 : 0 ≤ v0 ∧ v0 < 64) (r1 : 0 ≤ v1 ∧ v1 < 64) (h : Q (.int (4 * v0 + v1 / 16) s.toks) { s with toks := s.toks + 1 }) :
    wpAny (model prog w) A (binaryOp .BitOr (.int (v0 * 2 ^ Int.toNat 2) t) (.int (v1.fdiv (2 ^ Int.toNat 4)) u)) Q E s := by
  refine or_int ?_
  have e1 : (2 : Int) ^ Int.toNat 2 = 4 := by decide
  have e2 : (2 : Int) ^ Int.toNat 4 = 16 := by decide
  have e3 : Builtin.bitOr (v0 * 2 ^ Int.toNat 2) (v1.fdiv (2 ^ Int.toNat 4)) = 4 * v0 + v1 / 16 := by
    rw [e1, e2, Int.fdiv_eq_ediv_of_nonneg _ (by omega)]
    have h := or_dec_all ⟨v0.toNat, by omega⟩ ⟨(v1 / 16).toNat, by omega⟩
    simp only [Int.toNat_of_nonneg r0.1, Int.toNat_of_nonneg (show 0 ≤ v1 / 16 by omega)] at h
    exact h
  rw [e3]; exact h
structure A2 where
  q : Int
  l : Int
  p : Int
  i : Int
  t1 : Tok
  t2 : Tok
  t3 : Tok
  t4 : Tok
  its : List Value
  n : Nat
noncomputable def A2P (b0 b1 v0 v1 : Int) (pre : List Int) (c : A2) : Prop :=
  (pre = [] ∧ c.q = 0 ∧ c.l = 0 ∧ c.p = 0 ∧ c.i = 0 ∧ c.its = []) ∨ (pre = [b0] ∧ c.q = 1 ∧ c.l = v0 ∧ c.p = 0 ∧ c.i = 1 ∧ c.its = [])
  ∨ (c.q = 2 ∧ 0 ≤ c.p ∧ pre = [b0, b1] ++ List.replicate c.p.toNat 61 ∧ ∃ t, c.its = [.int (4 * v0 + v1 / 16) t])
theorem a2_next {b0 b1 v0 v1 x : Int} {pre post : List Int} {p : Int} (h0 : 0 ≤ p) (hp : pre = [b0, b1] ++ List.replicate p.toNat 61) (e : [b0, b1, 61, 61] = pre ++ x :: post) : x = 61 ∧ p < 2 ∧ pre ++ [x] = [b0, b1] ++ List.replicate (p + 1).toNat 61 := by
  obtain ⟨n, rfl⟩ := Int.eq_ofNat_of_zero_le h0
  subst hp
  rw [Int.toNat_natCast] at e ⊢
  match n with
  | 0 => obtain ⟨rfl, _⟩ := List.cons.inj (List.cons.inj (List.cons.inj e).2).2; exact ⟨rfl, by decide, rfl⟩
  | 1 => obtain ⟨rfl, _⟩ := List.cons.inj (List.cons.inj (List.cons.inj (List.cons.inj e).2).2).2; exact ⟨rfl, by decide, rfl⟩
  | n + 2 =>
    have := congrArg List.length e
    simp at this
    omega
theorem a2_last {b0 b1 v0 v1 : Int} {c : A2} (h : A2P b0 b1 v0 v1 [b0, b1, 61, 61] c) : c.q = 2 ∧ c.p = 2 ∧ ∃ t, c.its = [.int (4 * v0 + v1 / 16) t] := by
  rcases h with ⟨h, _⟩ | ⟨h, _⟩ | ⟨h1, h2, h3, h4⟩
  · cases h
  · cases h
  · refine ⟨h1, ?_, h4⟩
    have := congrArg List.length h3
    simp at this
    omega
theorem ct_dec (w : World) (b0 b1 : UInt8) (v0 v1 : Int) (t : Tok) (news : List (Addr × Obj)) (h0 : b64v b0.toNat = v0) (h1 : b64v b1.toNat = v1) (r0 : 0 ≤ v0 ∧ v0 < 64) (r1 : 0 ≤ v1 ∧ v1 < 64) (n0 : (b0.toNat : Int) ≠ 61) (n1 : (b1.toNat : Int) ≠ 61) :
    Ct w 4 102 [.bytes #[b0, b1, 61, 61] t] news (fun v n' => (∃ t', v = .bytes #[(4 * v0 + v1 / 16).toNat.toUInt8] t') ∧ n' = news) := by
  unfold Ct
  k_fill
  w_top off
  intro p loose mean mg mb dp un gd cn cs a ccd cl outer A₀ base h₀ L m s Q E B F X N T hk hd hu hret
  refine wpAny_call ?_
  k_dflt (first | (refine' code_def ?k1 ?k2 ?k3 ?k4 ?k5 ?kA ?kF ?kK ?k6 ?k7 ?k8 ?k9 ?kB ?_ ?c2 ?c3 ?c4 ?c5; (case kA => exact rfl); (case kF => exact rfl); (case kK => assumption); (case k1 => k_asm); (case k2 => k_asm); (case k3 => k_asm); (case k4 => k_asm); (case k5 => k_asm); (case k6 => k_is); (case k7 => k_is); (case k8 => ktr_room); (case k9 => first | exact BindsTo.of_eq rfl | exact binds_K (by k_in) rfl (by k_is) rfl rfl rfl); (case c5 => decide); (case kB => exact locs rfl); (case c2 => exact rfl); (case c3 => exact rfl); (case c4 => exact rfl); k_whole; intro g' L' h' FG' F' N' B' X' T'; (try dsimp only); (try k_fold)) | (refine' code_defC ?k1 ?k2 ?k3 ?k4 ?k5 ?kA ?kF ?kK ?k6 ?k7 ?k8 ?k9 ?kB ?kD ?_ ?c2 ?c3 ?c4; (case kA => exact rfl); (case kF => exact rfl); (case kK => assumption); (case k1 => k_asm); (case k2 => k_asm); (case k3 => k_asm); (case k4 => k_asm); (case k5 => k_asm); (case k6 => k_is); (case k7 => k_is); (case k8 => ktr_room); (case k9 => first | exact BindsTo.of_eq rfl | exact binds_K (by k_in) rfl (by k_is) rfl rfl rfl); (case kB => exact rfl); (case kD => decide +kernel); (case c2 => exact rfl); (case c3 => exact rfl); (case c4 => exact rfl); k_whole; intro g' L' h' tk' cells' FG' F' N' Y' B' X' T' l1; k_cells Y'; (try simp only [List.cons_append, List.nil_append] at N'); (try dsimp only); (try k_fold)))
  k_with_none
  k_with "subscriptTail" => (k_here; (with_reducible show wpAny _ _ (subscriptTail _ _ (Value.ref _) (Value.int _ _)) _ _ _); k_dflt (refine' by_sub ?k1 ?k2 ?k3 ?k4 ?k5 ?k6 ?_ ?k7 ?k8; (case k1 => k_asm); (case k2 => k_mem); (case k3 => with_reducible assumption); (case k4 => (first | omega | ((simp only [List.length_append, List.length_dropLast, List.length_set, List.length_cons, List.length_nil, List.length_take, List.length_drop] at *); omega))); (case k5 => (first | omega | ((simp only [List.length_append, List.length_dropLast, List.length_set, List.length_cons, List.length_nil, List.length_take, List.length_drop] at *); omega))); (case k6 => (first | omega | ((simp only [List.length_append, List.length_dropLast, List.length_set, List.length_cons, List.length_nil, List.length_take, List.length_drop] at *); omega))); (case k7 => with_unfolding_all rfl); (case k8 => (intro _; with_unfolding_all rfl)); k_whole); intro _)
  k_with "compareOp Lt bytes bytes" => refine lt_bytes ?_
  k_with "setItem ref int" => (k_here; (with_reducible show wpAny _ _ (setItem (Value.ref _) (Value.int _ _) (Value.bytes _ _)) _ _ _); k_dflt (refine' by_set ?k1 ?k2 ?k3 ?k4 ?k5 ?k6 ?k7 ?_; (case k1 => k_asm); (case k2 => k_asm); (case k3 => k_upd); (case k4 => with_reducible assumption); (case k5 => (first | omega | ((simp only [List.length_append, List.length_dropLast, List.length_set, List.length_cons, List.length_nil, List.length_take, List.length_drop] at *); omega))); (case k6 => (first | omega | ((simp only [List.length_append, List.length_dropLast, List.length_set, List.length_cons, List.length_nil, List.length_take, List.length_drop] at *); omega))); (case k7 => (first | omega | ((simp only [List.length_append, List.length_dropLast, List.length_set, List.length_cons, List.length_nil, List.length_take, List.length_drop] at *); omega))); k_whole); intro h' F' N' hi'; (try k_sweep))
  k_with "call builtin:len" => (k_here; (with_reducible show wpAny _ _ (call (Value.builtin "len") [Value.ref _]) _ _ _); k_dflt (refine' by_len ?k1 ?k2 ?k3 ?k4 ?_; (case k1 => k_asm); (case k2 => k_mem); (case k3 => with_reducible assumption); (case k4 => (first | omega | ((simp only [List.length_append, List.length_dropLast, List.length_set, List.length_cons, List.length_nil, List.length_take, List.length_drop] at *); omega))); k_whole))
  k_with "truthy ref" => (k_here; k_dflt (refine' by_truthy ?k1 ?k2 ?k3 ?k4 ?_; (case k1 => k_asm); (case k2 => k_mem); (case k3 => with_reducible assumption); (case k4 => (first | omega | ((simp only [List.length_append, List.length_dropLast, List.length_set, List.length_cons, List.length_nil, List.length_take, List.length_drop] at *); omega))); k_whole))
  k_with "call builtin:list.pop" => (k_here; (with_reducible show wpAny _ _ (call (Value.builtin _) [Value.ref _]) _ _ _); k_dflt (refine' by_pop ?F ?N ?U ?i ?l ?z ?_; (case F => k_asm); (case N => k_asm); (case U => k_upd); (case i => with_reducible assumption); (case l => (first | omega | ((simp only [List.length_append, List.length_dropLast, List.length_set, List.length_cons, List.length_nil, List.length_take, List.length_drop] at *); omega))); (case z => (rw [PySem.sizeLine_eq]; (first | omega | ((simp only [List.length_append, List.length_dropLast, List.length_set, List.length_cons, List.length_nil, List.length_take, List.length_drop] at *); omega)))); k_whole); intro h' t' F' N' hi'; (try k_sweep))
  k_with "call builtin:list.pop" => (k_here; (with_reducible show wpAny _ _ (call (Value.builtin _) [Value.ref _, Value.int _ _]) _ _ _); k_dflt (refine' by_popAt ?F ?N ?U ?i ?l0 ?l ?z ?_; (case F => k_asm); (case N => k_asm); (case U => k_upd); (case i => with_reducible assumption); (case l0 => (first | omega | ((simp only [List.length_append, List.length_dropLast, List.length_set, List.length_cons, List.length_nil, List.length_take, List.length_drop] at *); omega))); (case l => (first | omega | ((simp only [List.length_append, List.length_dropLast, List.length_set, List.length_cons, List.length_nil, List.length_take, List.length_drop] at *); omega))); (case z => (rw [PySem.sizeLine_eq]; (first | omega | ((simp only [List.length_append, List.length_dropLast, List.length_set, List.length_cons, List.length_nil, List.length_take, List.length_drop] at *); omega)))); k_whole); intro h' t' F' N' hi'; (try k_sweep))
  k_with "call builtin:list.append" => (k_here; (with_reducible show wpAny _ _ (call (Value.builtin _) [Value.ref _, Value.bytes _ _]) _ _ _); k_dflt (refine' by_append ?F ?N ?U ?i ?z ?_; (case F => k_asm); (case N => k_asm); (case U => k_upd); (case i => with_reducible assumption); (case z => (rw [PySem.sizeLine_eq]; (first | omega | ((simp only [List.length_append, List.length_dropLast, List.length_set, List.length_cons, List.length_nil, List.length_take, List.length_drop] at *); omega)))); k_whole); intro h' F' N' hi'; (try k_sweep))
  k_with "call type:type" => ((with_reducible show wpAny _ _ (call (Value.type "type") [Value.bytes _ _]) _ _ _); refine call_type_of (Tx := "bytes") rfl (by decide +kernel) ?_)
  k_with "call type:type" => ((with_reducible show wpAny _ _ (call (Value.type "type") [Value.bool _]) _ _ _); refine call_type_of (Tx := "bool") rfl (by decide +kernel) ?_)
  k_with "exec For" => (k_here; (rename Fr _ _ _ _ => lF'); (with_unfolding_all refine' For_invVF lF' ?k1 ?k2 ?_ ?k3 ?k4; (case k1 => exact rfl); (case k2 => exact rfl); (case k3 => (intro _; rfl)); (case k4 => first | assumption | passes_own); k_whole); clear lF')
  k_with "call ref" => ((with_reducible show wpAny _ _ (call (Value.ref 70) _) _ _ _); (rename Fr _ _ _ _ => lF); (rename News _ _ _ _ => lN); (k_dflt (first
    | (refine' Ct.use (ct_b64w w _ _ h0 _ _) ?B lF ?X lN ?T ?k ?d ?u ?_; (case B => k_asm); (case X => k_asm); (case T => k_asm); (case k => rfl); (case d => (dsimp only [ktrTop, Around.deeper]; omega)); (case u => (dsimp only [ktrTop, Around.deeper]; omega)))
    | (refine' Ct.use (ct_b64w w _ _ h1 _ _) ?B lF ?X lN ?T ?k ?d ?u ?_; (case B => k_asm); (case X => k_asm); (case T => k_asm); (case k => rfl); (case d => (dsimp only [ktrTop, Around.deeper]; omega)); (case u => (dsimp only [ktrTop, Around.deeper]; omega))))); (rintro _ _ h' tk' ⟨⟨t', rfl⟩, rfl⟩ F'' N''); clear lF lN; (try dsimp only))
  k_with "binaryOp BitOr int int" => refine or_dec r0 r1 ?_
  k_with "newList" => (k_dflt (refine' newList_K ?k1 ?k2 ?_; (case k1 => k_asm); (case k2 => k_asm); k_whole); intro lo h' F' N' hlt; (try k_sweep))
  k_with "call type:bytes" => refine Hold.of ?_
  k_with "pyIter bytes" => refine Hold.of ?_
  k_steps
  unfold Hold
  (rename Fr _ _ _ _ => lF); (rename News _ _ _ _ => lN)
  (with_unfolding_all refine' KStb.kst_bytes (σ := A2) (len := 4) (fun c => (lo, W.listOf c.its.toArray c.n) :: news) (fun c => [(Str.ofString "quad_pos", .int c.q c.t1), (Str.ofString "leftchar", .int c.l c.t2), (Str.ofString "pads", .int c.p c.t3), (Str.ofString "i", .int c.i c.t4)]) (fun _ => True) [] (A2P b0.toNat b1.toNat v0 v1) ⟨0, 0, 0, 0, _, _, _, _, [], 0⟩ (ks := [(b0.toNat : Int), (b1.toNat : Int), 61, 61]) rfl rfl rfl lF lN trivial ?kk (.inl ⟨rfl, rfl, rfl, rfl, rfl, rfl⟩) ?turn ?done)
  case kk => kst_all
  case turn =>
    rintro ⟨q, l, p, i, t1, t2, t3, t4, its, n⟩ pre post x t' u h tk own e hlen hx0 hx1 hoff _ hP eF eN
    have hno : ∀ p ∈ news ++ own, p.1 ≠ lo := fun p hp => by
      rcases List.mem_append.mp hp with hp | hp
      · exact Nat.ne_of_lt (hlt p hp)
      · exact hoff p hp lo (List.Mem.head _)
    clear lF lN
    dsimp only at eF eN
    rw [List.cons_append] at eN
    rcases hP with ⟨rfl, h1, h2, h3, h4, h5⟩ | ⟨rfl, h1, h2, h3, h4, h5⟩ | ⟨h1, h3, h4, t5, h5⟩
    · dsimp only at h1 h2 h3 h4 h5
      subst h1 h2 h3 h4 h5
      obtain ⟨rfl, _⟩ := List.cons.inj e
      try k_fold
      k_steps
      (rename Fr _ _ _ _ => gF); (rename News _ _ _ _ => gN)
      (with_unfolding_all refine kst_end ⟨1, v0, 0, 1, _, _, _, _, [], _⟩ gF gN led_in own_in rfl trivial (by kst_all) (by (intro z h1 h2 h3; (simp only [List.forall_mem_cons, List.not_mem_nil, false_implies, implies_true, and_true, ne_eq] at h2); (simp only [List.contains_cons, List.contains_nil, Bool.or_false, Bool.or_eq_false_iff, beq_eq_false_iff_ne, ne_eq] at h3); (simp only [kstB, h1, h2, h3, if_false, List.contains_cons, List.contains_nil, Bool.or_false, Bool.or_eq_true, beq_iff_eq, or_self, or_false, false_or, Bool.false_eq_true]))) (.inr (.inl ⟨rfl, rfl, rfl, rfl, rfl, rfl⟩)))
    · dsimp only at h1 h2 h3 h4 h5
      subst h1 h2 h3 h4 h5
      obtain ⟨rfl, _⟩ := List.cons.inj (List.cons.inj e).2
      try k_fold
      k_steps
      (rename Fr _ _ _ _ => gF); (rename News _ _ _ _ => gN)
      (with_unfolding_all refine kst_end ⟨2, _, 0, 2, _, _, _, _, [_], _⟩ gF gN led_in own_in rfl trivial (by kst_all) (by (intro z h1 h2 h3; (simp only [List.forall_mem_cons, List.not_mem_nil, false_implies, implies_true, and_true, ne_eq] at h2); (simp only [List.contains_cons, List.contains_nil, Bool.or_false, Bool.or_eq_false_iff, beq_eq_false_iff_ne, ne_eq] at h3); (simp only [kstB, h1, h2, h3, if_false, List.contains_cons, List.contains_nil, Bool.or_false, Bool.or_eq_true, beq_iff_eq, or_self, or_false, false_or, Bool.false_eq_true]))) (.inr (.inr ⟨rfl, Int.le_refl 0, rfl, _, rfl⟩)))
    · dsimp only at h1 h3 h4 h5
      subst h1 h5
      obtain ⟨rfl, hp2, hpre⟩ := a2_next (v0 := v0) (v1 := v1) h3 h4 e
      clear e h4
      try k_fold
      k_steps
      (rename Fr _ _ _ _ => gF); (rename News _ _ _ _ => gN)
      (with_unfolding_all refine kst_end ⟨2, _, p + 1, _, _, _, _, _, [_], _⟩ gF gN led_in own_in rfl trivial (by kst_all) (by (intro z h1 h2 h3; (simp only [List.forall_mem_cons, List.not_mem_nil, false_implies, implies_true, and_true, ne_eq] at h2); (simp only [List.contains_cons, List.contains_nil, Bool.or_false, Bool.or_eq_false_iff, beq_eq_false_iff_ne, ne_eq] at h3); (simp only [kstB, h1, h2, h3, if_false, List.contains_cons, List.contains_nil, Bool.or_false, Bool.or_eq_true, beq_iff_eq, or_self, or_false, false_or, Bool.false_eq_true]))) (.inr (.inr ⟨rfl, by show 0 ≤ p + 1; omega, hpre, _, rfl⟩)))
  case done =>
    rintro ⟨q, l, p, i, t1, t2, t3, t4, its, n⟩ u h tk _ _ hP eF eN
    clear lF lN
    obtain ⟨h1, h3, t5, h5⟩ := a2_last hP
    dsimp only at h1 h3 h5 eF eN
    subst h1 h3 h5
    k_steps
    unfold Hold
    (rename Fr _ _ _ _ => gF); (rename News _ _ _ _ => gN)
    refine KBa.make_K gF gN rfl (IsL.isList (gN _ (List.Mem.head _)).1) (IntsAre.cons _ _ .nil) (by intro x hx; rw [List.mem_singleton.mp hx]; omega) (by simp) ?_
    intro h' t' k F' N' _
    clear gF gN
    k_steps
    (rename Fr _ _ _ _ => gF); (rename News _ _ _ _ => gN)
    exact hret _ _ _ _ ⟨⟨_, rfl⟩, rfl⟩ gF (fun p hp => gN p (List.Mem.tail _ hp))
/-! OyB3 -/
noncomputable def SIGNS : List UInt8 := [65, 66, 67, 68, 69, 70, 71, 72, 73, 74, 75, 76, 77, 78, 79, 80, 81, 82, 83, 84, 85, 86, 87, 88, 89, 90, 97, 98, 99, 100, 101, 102, 103, 104, 105, 106, 107, 108, 109, 110, 111, 112, 113, 114, 115, 116, 117, 118, 119, 120, 121, 122, 48, 49, 50, 51, 52, 53, 54, 55, 56, 57, 43, 47]
noncomputable def sg (k : Nat) : UInt8 := SIGNS.getD k 0
section
variable {prog : Program} {w : World} {A : Around} {E : Value → Shared → Prop} {s : Shared} {a b r : Int} {t u : Tok} {Q : Value → Shared → Prop}
theorem and_val (e : Builtin.bitAnd a b = r) (h : Q (.int r s.toks) { s with toks := s.toks + 1 }) : wpAny (model prog w) A (binaryOp .BitAnd (.int a t) (.int b u)) Q E s := and_int (e ▸ h)
theorem or_val (e : Builtin.bitOr a b = r) (h : Q (.int r s.toks) { s with toks := s.toks + 1 }) : wpAny (model prog w) A (binaryOp .BitOr (.int a t) (.int b u)) Q E s := or_int (e ▸ h)
end
theorem shl_val {prog : Program} {w : World} {A : Around} {E : Value → Shared → Prop} {s : Shared} {t u : Tok} {Q : Value → Shared → Prop} {k : Nat} (hk : k < 4) (h : Q (.int ((k * 16 : Nat) : Int) s.toks) { s with toks := s.toks + 1 }) : wpAny (model prog w) A (binaryOp .LShift (.int (k : Int) t) (.int 4 u)) Q E s := by
  refine lshift_int_small (by decide) (by decide) (by omega) ?_
  have e : (k : Int) * 2 ^ Int.toNat 4 = ((k * 16 : Nat) : Int) := by
    have : (2 : Int) ^ Int.toNat 4 = 16 := by decide
    rw [this]; omega
  rw [e]; exact h
theorem sg_item {prog : Program} {w : World} {A : Around} {E : Value → Shared → Prop} {s : Shared} {t u : Tok} {Q : Value → Shared → Prop} {k : Nat} {value slice : PySem.Expr} (hk : k < 64) (h : Q (.int ((sg k).toNat : Int) s.toks) { s with toks := s.toks + 1 })
    (hs : subscripted slice false (.bytes SIGNS.toArray t) (.int (k : Int) u) = operate [.bytes SIGNS.toArray t, .int (k : Int) u] (getItem (.bytes SIGNS.toArray t) (.int (k : Int) u)) := by with_unfolding_all rfl)
    (ht : ∀ r, letTemporaryGo value (.bytes SIGNS.toArray t) r = pure () := by intro _; with_unfolding_all rfl) :
    wpAny (model prog w) A (subscriptTail value slice (.bytes SIGNS.toArray t) (.int (k : Int) u)) Q E s := by
  refine KBy.item_N (by decide) (by omega) (by show (k : Int) < 64; omega) ?_ hs ht
  rw [Int.toNat_natCast]; exact h
theorem enc1_all : ∀ o : Fin 256, Builtin.bitOr (0 * 2 ^ Int.toNat 8) (o.val : Int) = (o.val : Int) ∧ Builtin.bitAnd (o.val : Int) 65535 = (o.val : Int) ∧ Builtin.bitAnd ((o.val : Int).fdiv (2 ^ Int.toNat (0 + 8 - 6))) 63 = ((o.val / 4 : Nat) : Int) ∧ Builtin.bitAnd (o.val : Int) 3 = ((o.val % 4 : Nat) : Int) := by decide +kernel
theorem enc1 (o : UInt8) : Builtin.bitOr (0 * 2 ^ Int.toNat 8) (o.toNat : Int) = (o.toNat : Int) ∧ Builtin.bitAnd (o.toNat : Int) 65535 = (o.toNat : Int) ∧ Builtin.bitAnd ((o.toNat : Int).fdiv (2 ^ Int.toNat (0 + 8 - 6))) 63 = ((o.toNat / 4 : Nat) : Int) ∧ Builtin.bitAnd (o.toNat : Int) 3 = ((o.toNat % 4 : Nat) : Int) := enc1_all ⟨o.toNat, o.toNat_lt⟩
theorem ct_enc (w : World) (o : UInt8) (t : Tok) (news : List (Addr × Obj)) :
    Ct w 4 94 [.bytes #[o] t] news (fun v n' => (∃ t', v = .bytes #[sg (o.toNat / 4), sg (o.toNat % 4 * 16), 61, 61] t') ∧ n' = news) := by
  unfold Ct
  k_fill
  w_top off
  intro p loose mean mg mb dp un gd cn cs a ccd cl outer A₀ base h₀ L m s Q E B F X N T hk hd hu hret
  refine wpAny_call ?_
  k_dflt (first | (refine' code_def ?k1 ?k2 ?k3 ?k4 ?k5 ?kA ?kF ?kK ?k6 ?k7 ?k8 ?k9 ?kB ?_ ?c2 ?c3 ?c4 ?c5; (case kA => exact rfl); (case kF => exact rfl); (case kK => assumption); (case k1 => k_asm); (case k2 => k_asm); (case k3 => k_asm); (case k4 => k_asm); (case k5 => k_asm); (case k6 => k_is); (case k7 => k_is); (case k8 => ktr_room); (case k9 => first | exact BindsTo.of_eq rfl | exact binds_K (by k_in) rfl (by k_is) rfl rfl rfl); (case c5 => decide); (case kB => exact locs rfl); (case c2 => exact rfl); (case c3 => exact rfl); (case c4 => exact rfl); k_whole; intro g' L' h' FG' F' N' B' X' T'; (try dsimp only); (try k_fold)) | (refine' code_defC ?k1 ?k2 ?k3 ?k4 ?k5 ?kA ?kF ?kK ?k6 ?k7 ?k8 ?k9 ?kB ?kD ?_ ?c2 ?c3 ?c4; (case kA => exact rfl); (case kF => exact rfl); (case kK => assumption); (case k1 => k_asm); (case k2 => k_asm); (case k3 => k_asm); (case k4 => k_asm); (case k5 => k_asm); (case k6 => k_is); (case k7 => k_is); (case k8 => ktr_room); (case k9 => first | exact BindsTo.of_eq rfl | exact binds_K (by k_in) rfl (by k_is) rfl rfl rfl); (case kB => exact rfl); (case kD => decide +kernel); (case c2 => exact rfl); (case c3 => exact rfl); (case c4 => exact rfl); k_whole; intro g' L' h' tk' cells' FG' F' N' Y' B' X' T' l1; k_cells Y'; (try simp only [List.cons_append, List.nil_append] at N'); (try dsimp only); (try k_fold)))
  have o1 := (enc1 o).1
  have o2 := (enc1 o).2.1
  have o3 := (enc1 o).2.2.1
  have o4 := (enc1 o).2.2.2
  have o5 := o.toNat_lt
  k_with_none
  k_with "subscriptTail" => (k_here; (with_reducible show wpAny _ _ (subscriptTail _ _ (Value.ref _) (Value.int _ _)) _ _ _); k_dflt (refine' by_sub ?k1 ?k2 ?k3 ?k4 ?k5 ?k6 ?_ ?k7 ?k8; (case k1 => k_asm); (case k2 => k_mem); (case k3 => with_reducible assumption); (case k4 => (first | omega | ((simp only [List.length_append, List.length_dropLast, List.length_set, List.length_cons, List.length_nil, List.length_take, List.length_drop] at *); omega))); (case k5 => (first | omega | ((simp only [List.length_append, List.length_dropLast, List.length_set, List.length_cons, List.length_nil, List.length_take, List.length_drop] at *); omega))); (case k6 => (first | omega | ((simp only [List.length_append, List.length_dropLast, List.length_set, List.length_cons, List.length_nil, List.length_take, List.length_drop] at *); omega))); (case k7 => with_unfolding_all rfl); (case k8 => (intro _; with_unfolding_all rfl)); k_whole); intro _)
  k_with "compareOp Lt bytes bytes" => refine lt_bytes ?_
  k_with "setItem ref int" => (k_here; (with_reducible show wpAny _ _ (setItem (Value.ref _) (Value.int _ _) (Value.bytes _ _)) _ _ _); k_dflt (refine' by_set ?k1 ?k2 ?k3 ?k4 ?k5 ?k6 ?k7 ?_; (case k1 => k_asm); (case k2 => k_asm); (case k3 => k_upd); (case k4 => with_reducible assumption); (case k5 => (first | omega | ((simp only [List.length_append, List.length_dropLast, List.length_set, List.length_cons, List.length_nil, List.length_take, List.length_drop] at *); omega))); (case k6 => (first | omega | ((simp only [List.length_append, List.length_dropLast, List.length_set, List.length_cons, List.length_nil, List.length_take, List.length_drop] at *); omega))); (case k7 => (first | omega | ((simp only [List.length_append, List.length_dropLast, List.length_set, List.length_cons, List.length_nil, List.length_take, List.length_drop] at *); omega))); k_whole); intro h' F' N' hi'; (try k_sweep))
  k_with "call builtin:len" => (k_here; (with_reducible show wpAny _ _ (call (Value.builtin "len") [Value.ref _]) _ _ _); k_dflt (refine' by_len ?k1 ?k2 ?k3 ?k4 ?_; (case k1 => k_asm); (case k2 => k_mem); (case k3 => with_reducible assumption); (case k4 => (first | omega | ((simp only [List.length_append, List.length_dropLast, List.length_set, List.length_cons, List.length_nil, List.length_take, List.length_drop] at *); omega))); k_whole))
  k_with "truthy ref" => (k_here; k_dflt (refine' by_truthy ?k1 ?k2 ?k3 ?k4 ?_; (case k1 => k_asm); (case k2 => k_mem); (case k3 => with_reducible assumption); (case k4 => (first | omega | ((simp only [List.length_append, List.length_dropLast, List.length_set, List.length_cons, List.length_nil, List.length_take, List.length_drop] at *); omega))); k_whole))
  k_with "call builtin:list.pop" => (k_here; (with_reducible show wpAny _ _ (call (Value.builtin _) [Value.ref _]) _ _ _); k_dflt (refine' by_pop ?F ?N ?U ?i ?l ?z ?_; (case F => k_asm); (case N => k_asm); (case U => k_upd); (case i => with_reducible assumption); (case l => (first | omega | ((simp only [List.length_append, List.length_dropLast, List.length_set, List.length_cons, List.length_nil, List.length_take, List.length_drop] at *); omega))); (case z => (rw [PySem.sizeLine_eq]; (first | omega | ((simp only [List.length_append, List.length_dropLast, List.length_set, List.length_cons, List.length_nil, List.length_take, List.length_drop] at *); omega)))); k_whole); intro h' t' F' N' hi'; (try k_sweep))
  k_with "call builtin:list.pop" => (k_here; (with_reducible show wpAny _ _ (call (Value.builtin _) [Value.ref _, Value.int _ _]) _ _ _); k_dflt (refine' by_popAt ?F ?N ?U ?i ?l0 ?l ?z ?_; (case F => k_asm); (case N => k_asm); (case U => k_upd); (case i => with_reducible assumption); (case l0 => (first | omega | ((simp only [List.length_append, List.length_dropLast, List.length_set, List.length_cons, List.length_nil, List.length_take, List.length_drop] at *); omega))); (case l => (first | omega | ((simp only [List.length_append, List.length_dropLast, List.length_set, List.length_cons, List.length_nil, List.length_take, List.length_drop] at *); omega))); (case z => (rw [PySem.sizeLine_eq]; (first | omega | ((simp only [List.length_append, List.length_dropLast, List.length_set, List.length_cons, List.length_nil, List.length_take, List.length_drop] at *); omega)))); k_whole); intro h' t' F' N' hi'; (try k_sweep))
  k_with "call builtin:list.append" => (k_here; (with_reducible show wpAny _ _ (call (Value.builtin _) [Value.ref _, Value.bytes _ _]) _ _ _); k_dflt (refine' by_append ?F ?N ?U ?i ?z ?_; (case F => k_asm); (case N => k_asm); (case U => k_upd); (case i => with_reducible assumption); (case z => (rw [PySem.sizeLine_eq]; (first | omega | ((simp only [List.length_append, List.length_dropLast, List.length_set, List.length_cons, List.length_nil, List.length_take, List.length_drop] at *); omega)))); k_whole); intro h' F' N' hi'; (try k_sweep))
  k_with "call type:type" => ((with_reducible show wpAny _ _ (call (Value.type "type") [Value.bytes _ _]) _ _ _); refine call_type_of (Tx := "bytes") rfl (by decide +kernel) ?_)
  k_with "call type:type" => ((with_reducible show wpAny _ _ (call (Value.type "type") [Value.bool _]) _ _ _); refine call_type_of (Tx := "bool") rfl (by decide +kernel) ?_)
  k_with "exec For" => (k_here; (rename Fr _ _ _ _ => lF'); (with_unfolding_all refine' For_invVF lF' ?k1 ?k2 ?_ ?k3 ?k4; (case k1 => exact rfl); (case k2 => exact rfl); (case k3 => (intro _; rfl)); (case k4 => first | assumption | passes_own); k_whole); clear lF')
  k_with "binaryOp BitOr int int" => refine or_val o1 ?_
  k_with "binaryOp BitAnd int int" => first | refine and_val o2 ?_ | refine and_val o3 ?_ | refine and_val o4 ?_
  k_with "binaryOp LShift int int" => refine shl_val (Nat.mod_lt _ (by decide)) ?_
  k_with "subscriptTail" => (k_dflt (refine' sg_item ?k1 ?_ ?k2 ?k3; (case k1 => omega); (case k2 => with_unfolding_all rfl); (case k3 => (intro _; with_unfolding_all rfl))))
  k_with "newList" => (k_dflt (refine' newList_K ?k1 ?k2 ?_; (case k1 => k_asm); (case k2 => k_asm); k_whole); intro lo h' F' N' hlt; (try k_sweep))
  k_with "pyIter bytes" => refine Hold.of ?_
  k_with "call type:bytes" => refine Hold.of ?_
  k_with "UnrEnd" => refine Hold.of ?_
  k_steps
  unfold Hold
  (rename Fr _ _ _ _ => lF); (rename News _ _ _ _ => lN)
  (with_unfolding_all refine' iter_bytesUnr (l := [(o.toNat : Int)]) (by rfl) lF lN (by rfl) ?_)
  clear lF lN
  intro I l1
  have l2 := ltN (l1 _ (List.Mem.head _))
  dsimp only at l2
  k_steps
  unfold Hold
  (rename Fr _ _ _ _ => eF); (rename News _ _ _ _ => eN)
  refine UnrEnd.intro eF eN (_ :: news) (fun _ h => h) (fun p hp => Nat.ne_of_lt ?_) ?_
  · rcases List.mem_cons.mp hp with rfl | hp
    · exact l2
    · exact l1 _ (List.Mem.tail _ hp)
  clear eF eN
  k_steps
  unfold Hold
  (rename Fr _ _ _ _ => gF); (rename News _ _ _ _ => gN)
  have hI : ∀ t1 t2 t3 t4 : Tok, IntsAre [Value.int ((sg (o.toNat / 4)).toNat : Int) t1, .int ((sg (o.toNat % 4 * 16)).toNat : Int) t2, .int 61 t3, .int 61 t4] [((sg (o.toNat / 4)).toNat : Int), ((sg (o.toNat % 4 * 16)).toNat : Int), 61, 61] := fun _ _ _ _ => .cons _ _ (.cons _ _ (.cons _ _ (.cons _ _ .nil)))
  have u1 := (sg (o.toNat / 4)).toNat_lt
  have u2 := (sg (o.toNat % 4 * 16)).toNat_lt
  (with_unfolding_all refine' KBa.make_K gF gN rfl (IsL.isList (gN _ (List.Mem.head _)).1) (hI _ _ _ _) ?r ?z ?_)
  case r =>
    intro x hx
    simp only [List.mem_cons, List.not_mem_nil, or_false] at hx
    rcases hx with rfl | rfl | rfl | rfl <;> omega
  case z => simp
  intro h' t' k F' N' _
  clear gF gN
  have eb : byteArr [((sg (o.toNat / 4)).toNat : Int), ((sg (o.toNat % 4 * 16)).toNat : Int), 61, 61] = #[sg (o.toNat / 4), sg (o.toNat % 4 * 16), 61, 61] := by
    simp [byteArr]
  rw [eb]
  k_steps
  (rename Fr _ _ _ _ => gF); (rename News _ _ _ _ => gN)
  exact hret _ _ _ _ ⟨⟨_, rfl⟩, rfl⟩ gF (fun p hp => gN p (List.Mem.tail _ hp))
/-! OyAp -/
noncomputable def apF (n : Nat) : List UInt8 := if _h : n = 0 then [] else apF (n / 16) ++ [(65 + n % 16).toUInt8]
termination_by n
decreasing_by omega
theorem apF_len : ∀ (k n : Nat), n < 16 ^ k → (apF n).length ≤ k := by
  intro k
  induction k with
  | zero => intro n h; have : n = 0 := by simpa using h
            subst this; rw [apF]; simp
  | succ k ih =>
    intro n h
    rw [apF]
    split
    · simp
    · have h2 : n / 16 < 16 ^ k := by
        rw [Nat.pow_succ] at h; omega
      have := ih (n / 16) h2
      rw [List.length_append, List.length_singleton]; omega
theorem apF_step {n : Nat} (h : n ≠ 0) : apF n = apF (n / 16) ++ [(65 + n % 16).toUInt8] := by
  rw [apF, dif_neg h]
theorem pick_all : ∀ k : Fin 16, KBy.picked #[65, 66, 67, 68, 69, 70, 71, 72, 73, 74, 75, 76, 77, 78, 79, 80] (some (k.val : Int)) (some ((k.val : Int) + 1)) = #[(65 + k.val).toUInt8] := by decide +kernel
theorem pick_ap (n : Nat) : KBy.picked #[65, 66, 67, 68, 69, 70, 71, 72, 73, 74, 75, 76, 77, 78, 79, 80] (some ((n : Int).fmod 16)) (some ((n : Int).fmod 16 + 1)) = #[(65 + n % 16).toUInt8] := by
  have e : (n : Int).fmod 16 = ((n % 16 : Nat) : Int) := by rw [Int.fmod_eq_emod_of_nonneg _ (by omega)]; omega
  rw [e]
  exact pick_all ⟨n % 16, Nat.mod_lt _ (by decide)⟩
structure AP where
  n : Nat
  t : Tok
  v : List UInt8
  t2 : Tok
theorem ct_ap (w : World) (n : Nat) (t : Tok) (news : List (Addr × Obj)) (hn : n < 16 ^ 50) :
    Ct w 1 137 [.int (n : Int) t] news (fun v n' => (∃ t', v = .bytes (apF n).toArray t') ∧ n' = news) := by
  unfold Ct
  k_fill
  w_top off
  intro p loose mean mg mb dp un gd cn cs a ccd cl outer A₀ base h₀ L m s Q E B F X N T hk hd hu hret
  refine wpAny_call ?_
  k_dflt (first | (refine' code_def ?k1 ?k2 ?k3 ?k4 ?k5 ?kA ?kF ?kK ?k6 ?k7 ?k8 ?k9 ?kB ?_ ?c2 ?c3 ?c4 ?c5; (case kA => exact rfl); (case kF => exact rfl); (case kK => assumption); (case k1 => k_asm); (case k2 => k_asm); (case k3 => k_asm); (case k4 => k_asm); (case k5 => k_asm); (case k6 => k_is); (case k7 => k_is); (case k8 => ktr_room); (case k9 => first | exact BindsTo.of_eq rfl | exact binds_K (by k_in) rfl (by k_is) rfl rfl rfl); (case c5 => decide); (case kB => exact locs rfl); (case c2 => exact rfl); (case c3 => exact rfl); (case c4 => exact rfl); k_whole; intro g' L' h' FG' F' N' B' X' T'; (try dsimp only); (try k_fold)) | (refine' code_defC ?k1 ?k2 ?k3 ?k4 ?k5 ?kA ?kF ?kK ?k6 ?k7 ?k8 ?k9 ?kB ?kD ?_ ?c2 ?c3 ?c4; (case kA => exact rfl); (case kF => exact rfl); (case kK => assumption); (case k1 => k_asm); (case k2 => k_asm); (case k3 => k_asm); (case k4 => k_asm); (case k5 => k_asm); (case k6 => k_is); (case k7 => k_is); (case k8 => ktr_room); (case k9 => first | exact BindsTo.of_eq rfl | exact binds_K (by k_in) rfl (by k_is) rfl rfl rfl); (case kB => exact rfl); (case kD => decide +kernel); (case c2 => exact rfl); (case c3 => exact rfl); (case c4 => exact rfl); k_whole; intro g' L' h' tk' cells' FG' F' N' Y' B' X' T' l1; k_cells Y'; (try simp only [List.cons_append, List.nil_append] at N'); (try dsimp only); (try k_fold)))
  k_with_none
  k_with "subscriptTail" => (k_here; (with_reducible show wpAny _ _ (subscriptTail _ _ (Value.ref _) (Value.int _ _)) _ _ _); k_dflt (refine' by_sub ?k1 ?k2 ?k3 ?k4 ?k5 ?k6 ?_ ?k7 ?k8; (case k1 => k_asm); (case k2 => k_mem); (case k3 => with_reducible assumption); (case k4 => (first | omega | ((simp only [List.length_append, List.length_dropLast, List.length_set, List.length_cons, List.length_nil, List.length_take, List.length_drop] at *); omega))); (case k5 => (first | omega | ((simp only [List.length_append, List.length_dropLast, List.length_set, List.length_cons, List.length_nil, List.length_take, List.length_drop] at *); omega))); (case k6 => (first | omega | ((simp only [List.length_append, List.length_dropLast, List.length_set, List.length_cons, List.length_nil, List.length_take, List.length_drop] at *); omega))); (case k7 => with_unfolding_all rfl); (case k8 => (intro _; with_unfolding_all rfl)); k_whole); intro _)
  k_with "compareOp Lt bytes bytes" => refine lt_bytes ?_
  k_with "setItem ref int" => (k_here; (with_reducible show wpAny _ _ (setItem (Value.ref _) (Value.int _ _) (Value.bytes _ _)) _ _ _); k_dflt (refine' by_set ?k1 ?k2 ?k3 ?k4 ?k5 ?k6 ?k7 ?_; (case k1 => k_asm); (case k2 => k_asm); (case k3 => k_upd); (case k4 => with_reducible assumption); (case k5 => (first | omega | ((simp only [List.length_append, List.length_dropLast, List.length_set, List.length_cons, List.length_nil, List.length_take, List.length_drop] at *); omega))); (case k6 => (first | omega | ((simp only [List.length_append, List.length_dropLast, List.length_set, List.length_cons, List.length_nil, List.length_take, List.length_drop] at *); omega))); (case k7 => (first | omega | ((simp only [List.length_append, List.length_dropLast, List.length_set, List.length_cons, List.length_nil, List.length_take, List.length_drop] at *); omega))); k_whole); intro h' F' N' hi'; (try k_sweep))
  k_with "call builtin:len" => (k_here; (with_reducible show wpAny _ _ (call (Value.builtin "len") [Value.ref _]) _ _ _); k_dflt (refine' by_len ?k1 ?k2 ?k3 ?k4 ?_; (case k1 => k_asm); (case k2 => k_mem); (case k3 => with_reducible assumption); (case k4 => (first | omega | ((simp only [List.length_append, List.length_dropLast, List.length_set, List.length_cons, List.length_nil, List.length_take, List.length_drop] at *); omega))); k_whole))
  k_with "truthy ref" => (k_here; k_dflt (refine' by_truthy ?k1 ?k2 ?k3 ?k4 ?_; (case k1 => k_asm); (case k2 => k_mem); (case k3 => with_reducible assumption); (case k4 => (first | omega | ((simp only [List.length_append, List.length_dropLast, List.length_set, List.length_cons, List.length_nil, List.length_take, List.length_drop] at *); omega))); k_whole))
  k_with "call builtin:list.pop" => (k_here; (with_reducible show wpAny _ _ (call (Value.builtin _) [Value.ref _]) _ _ _); k_dflt (refine' by_pop ?F ?N ?U ?i ?l ?z ?_; (case F => k_asm); (case N => k_asm); (case U => k_upd); (case i => with_reducible assumption); (case l => (first | omega | ((simp only [List.length_append, List.length_dropLast, List.length_set, List.length_cons, List.length_nil, List.length_take, List.length_drop] at *); omega))); (case z => (rw [PySem.sizeLine_eq]; (first | omega | ((simp only [List.length_append, List.length_dropLast, List.length_set, List.length_cons, List.length_nil, List.length_take, List.length_drop] at *); omega)))); k_whole); intro h' t' F' N' hi'; (try k_sweep))
  k_with "call builtin:list.pop" => (k_here; (with_reducible show wpAny _ _ (call (Value.builtin _) [Value.ref _, Value.int _ _]) _ _ _); k_dflt (refine' by_popAt ?F ?N ?U ?i ?l0 ?l ?z ?_; (case F => k_asm); (case N => k_asm); (case U => k_upd); (case i => with_reducible assumption); (case l0 => (first | omega | ((simp only [List.length_append, List.length_dropLast, List.length_set, List.length_cons, List.length_nil, List.length_take, List.length_drop] at *); omega))); (case l => (first | omega | ((simp only [List.length_append, List.length_dropLast, List.length_set, List.length_cons, List.length_nil, List.length_take, List.length_drop] at *); omega))); (case z => (rw [PySem.sizeLine_eq]; (first | omega | ((simp only [List.length_append, List.length_dropLast, List.length_set, List.length_cons, List.length_nil, List.length_take, List.length_drop] at *); omega)))); k_whole); intro h' t' F' N' hi'; (try k_sweep))
  k_with "call builtin:list.append" => (k_here; (with_reducible show wpAny _ _ (call (Value.builtin _) [Value.ref _, Value.bytes _ _]) _ _ _); k_dflt (refine' by_append ?F ?N ?U ?i ?z ?_; (case F => k_asm); (case N => k_asm); (case U => k_upd); (case i => with_reducible assumption); (case z => (rw [PySem.sizeLine_eq]; (first | omega | ((simp only [List.length_append, List.length_dropLast, List.length_set, List.length_cons, List.length_nil, List.length_take, List.length_drop] at *); omega)))); k_whole); intro h' F' N' hi'; (try k_sweep))
  k_with "call type:type" => ((with_reducible show wpAny _ _ (call (Value.type "type") [Value.bytes _ _]) _ _ _); refine call_type_of (Tx := "bytes") rfl (by decide +kernel) ?_)
  k_with "call type:type" => ((with_reducible show wpAny _ _ (call (Value.type "type") [Value.bool _]) _ _ _); refine call_type_of (Tx := "bool") rfl (by decide +kernel) ?_)
  k_with "exec For" => (k_here; (rename Fr _ _ _ _ => lF'); (with_unfolding_all refine' For_invVF lF' ?k1 ?k2 ?_ ?k3 ?k4; (case k1 => exact rfl); (case k2 => exact rfl); (case k3 => (intro _; rfl)); (case k4 => first | assumption | passes_own); k_whole); clear lF')
  k_with "exec While" => refine Hold.of ?_
  k_steps
  unfold Hold
  (rename Fr _ _ _ _ => lF); (rename News _ _ _ _ => lN)
  have e0 : (if (n : Int) < 0 then -(n : Int) else (n : Int)) = n := if_neg (by omega)
  rw [e0] at lF
  (with_unfolding_all refine' ksw_while (σ := AP) (fun _ => news) (fun c => [(Str.ofString "num", .int (c.n : Int) c.t), (Str.ofString "val", .bytes c.v.toArray c.t2)]) (fun _ => True) [Str.ofString "mod"] (fun c => apF c.n ++ c.v = apF n) (fun c => c.n) ⟨n, _, [], _⟩ lF lN trivial ?kk (List.append_nil _) ?_)
  case kk => kst_all
  rintro ⟨kn, kt, kv, kt2⟩ kU kH kTk _ kI1 kFr kNews
  clear lF lN
  dsimp only at kFr kNews kI1
  have hlen : kv.length ≤ 50 := by
    have h1 := apF_len 50 n hn
    rw [← kI1, List.length_append] at h1
    omega
  try k_fold
  k_with "subscriptTail" => refine Hold.of ?_
  k_steps
  · unfold Hold
    (rename Fr _ _ _ _ => lF); (rename News _ _ _ _ => lN)
    refine KBc.slice_K (s := ⟨_, _, _, _, _⟩) (ks := KBw.bInts #[65, 66, 67, 68, 69, 70, 71, 72, 73, 74, 75, 76, 77, 78, 79, 80]) lF lN rfl (.int _ _) (.int _ _) (by decide +kernel) ?_
    intro h' t' k' F'' N'' _
    clear lF lN
    rw [pick_ap]
    k_with "binaryOp Add bytes bytes" => (refine KBy.add_bytes (by simp; omega) ?_; intro t9 k9)
    k_steps
    (rename Fr _ _ _ _ => eF); (rename News _ _ _ _ => eN); (rename (kn : Int) ≠ 0 => eC)
    have e1 : (kn : Int).fdiv 16 = ((kn / 16 : Nat) : Int) := by rw [Int.fdiv_eq_ediv_of_nonneg _ (by omega)]; omega
    have e2 : #[(65 + kn % 16).toUInt8] ++ kv.toArray = ((65 + kn % 16).toUInt8 :: kv).toArray := by simp
    rw [e1, e2] at eF
    refine ksw_end ⟨kn / 16, _, (65 + kn % 16).toUInt8 :: kv, _⟩ eF eN (fun _ h => List.Mem.tail _ h) trivial (by kst_all) (by (intro z h2 h3; (simp only [List.forall_mem_cons, List.not_mem_nil, false_implies, implies_true, and_true, ne_eq] at h2); (simp only [List.contains_cons, List.contains_nil, Bool.or_false, Bool.or_eq_false_iff, beq_eq_false_iff_ne, ne_eq] at h3); (simp only [kstB, h2, h3, if_false, List.contains_cons, List.contains_nil, Bool.or_false, Bool.or_eq_true, beq_iff_eq, or_self, or_false, false_or, Bool.false_eq_true]))) ?_ (by dsimp only; omega)
    dsimp only
    rw [← kI1, apF_step (n := kn) (by omega), List.append_assoc]; rfl
  · (rename Fr _ _ _ _ => eF); (rename News _ _ _ _ => eN); (rename (kn : Int) = 0 => eC)
    have e0 : kn = 0 := by omega
    subst e0
    have e1 : kv = apF n := by rw [← kI1, apF, dif_pos rfl]; rfl
    rw [e1]
    exact hret _ _ _ _ ⟨⟨_, rfl⟩, rfl⟩ eF eN
/-! OySeg -/
/-- the law's own def -/
noncomputable def lawParts : List Stmt × Scope := match Challenge.rw_oy0052_01.row.prog.main.body.getLast? with
  | some (.FunctionDef _ _ body _ _ _ scope _ _ _) => (body, scope)
  | _ => ([], { kind := .function, names := [], isGenerator := false, isCoroutine := false, more := [] })
noncomputable abbrev lawEnv (L fa : Addr) (ccd : Value) : Env := envX (Str.ofString "law") lawParts.2 L fa ccd [(Str.ofString "heap", L + 2), (Str.ofString "texts", L + 1)]
noncomputable abbrev lawTop (dp un : Nat) (gd : Option (List Code)) (L fa : Addr) (ccd : Value) (outer : List Env) : Around := ktrTop dp un gd (Str.ofString "law") lawParts.2 L fa ccd [(Str.ofString "heap", L + 2), (Str.ofString "texts", L + 1)] outer
/-- the rest of the law from its k-th statement on, from a frame that holds ps and a ledger news -/
noncomputable def Seg (w : World) (ls : Addr) (vs : List Value) (ns : List Int) (k : Nat) (ps : List (Str × Value)) (news : Addr → List (Addr × Obj)) (facts : Addr → Prop) : Prop :=
  ∀ (p : Program) (loose : List Str) (mean : ExcName → Option Value) (mg mb : Str → Option Value) (dp un : Nat) (gd : Option (List Code)) (fa : Addr) (ccd : Value) (outer : List Env) (A₀ : Around) (base h₀ : Heap) (L : Addr) (u : Str → Option Value) (s : Shared) (Q : Flow → Shared → Prop) (E : Value → Shared → Prop),
    Below A₀ base outer h₀ → Fr h₀ L s.heap (kstB u ps) → (hd.heap_39 w.params).In h₀ → News h₀ L s.heap (news L) → Top p loose mean mg mb h₀ → h₀.IsList ls vs.toArray → IntsAre vs ns → ns.length ≤ 63 → facts L →
    dp + 20 < recursionLimit → un + 160 < cLine →
    PassesOwn (model Challenge.rw_oy0052_01.row.prog w) (lawTop dp un gd L fa ccd outer) (lawEnv L fa ccd) E →
    (∀ m' news' h' tk', Fr h₀ L h' m' → News h₀ L h' news' → Q (.ret (.bool true)) { s with heap := h', toks := tk' }) →
    wpAny (model Challenge.rw_oy0052_01.row.prog w) (lawTop dp un gd L fa ccd outer) (execs (lawParts.1.drop k) (lawEnv L fa ccd)) Q E s
theorem Seg.use {w : World} {ls : Addr} {vs : List Value} {ns : List Int} {k : Nat} {ps : List (Str × Value)} {news : Addr → List (Addr × Obj)} {facts : Addr → Prop} (C : Seg w ls vs ns k ps news facts)
    {p : Program} {loose : List Str} {mean : ExcName → Option Value} {mg mb : Str → Option Value} {dp un : Nat} {gd : Option (List Code)} {fa : Addr} {ccd : Value} {outer : List Env} {A₀ : Around} {base h₀ : Heap} {L : Addr} {u : Str → Option Value} {s : Shared} {Q : Flow → Shared → Prop} {E : Value → Shared → Prop}
    (B : Below A₀ base outer h₀) (F : Fr h₀ L s.heap (kstB u ps)) (X : (hd.heap_39 w.params).In h₀) (N : News h₀ L s.heap (news L)) (T : Top p loose mean mg mb h₀) (hl : h₀.IsList ls vs.toArray) (hi : IntsAre vs ns) (h63 : ns.length ≤ 63) (hf : facts L)
    (hdp : dp + 20 < recursionLimit) (hun : un + 160 < cLine) (hE : PassesOwn (model Challenge.rw_oy0052_01.row.prog w) (lawTop dp un gd L fa ccd outer) (lawEnv L fa ccd) E)
    (hret : ∀ m' news' h' tk', Fr h₀ L h' m' → News h₀ L h' news' → Q (.ret (.bool true)) { s with heap := h', toks := tk' }) :
    wpAny (model Challenge.rw_oy0052_01.row.prog w) (lawTop dp un gd L fa ccd outer) (execs (lawParts.1.drop k) (lawEnv L fa ccd)) Q E s :=
  C p loose mean mg mb dp un gd fa ccd outer A₀ base h₀ L u s Q E B F X N T hl hi h63 hf hdp hun hE hret
theorem fr_canon {h₀ h : Heap} {L : Addr} {m : Str → Option Value} {ps : List (Str × Value)} (F : Fr h₀ L h m) (h1 : ∀ p ∈ ps, m p.1 = some p.2) : Fr h₀ L h (kstB m ps) := by
  rw [show kstB m ps = m from funext fun z => kstB_eq h1 fun _ => rfl]; exact F
theorem joined (seg0 : ∀ (w : World) (ls : Addr) (vs : List Value) (ns : List Int) (o1 o2 : Obj) (_ : o1.data = .cell none) (_ : o2.data = .cell none), Seg w ls vs ns 0 [(Str.ofString "script", .ref ls)] (fun L => [(L + 2, o2), (L + 1, o1)]) (fun _ => True)) : PySem.Challenge.rw_oy0052_01.Holds := hd (by
  k_go0
  (rename Fr _ _ _ _ => lF); (rename News _ _ _ _ => lN); (rename IntsAre _ _ => lI); (rename Heap.IsList _ _ _ => lL); (rename Below _ _ _ _ => lB); (rename Top _ _ _ _ _ _ => lT); (rename Frag.In _ _ => lX)
  (with_unfolding_all refine' Seg.use (seg0 _ _ _ _ _ _ ?sa ?sb) lB (fr_canon lF ?sc) lX lN lT lL lI ?sd trivial ?se ?sf ?sE ?sg)
  case sa => first | assumption | with_unfolding_all assumption
  case sb => first | assumption | with_unfolding_all assumption
  case sc => kst_all
  case sd => omega
  case se => first | decide | (show _ < _; decide)
  case sf => first | decide | (have hcL9 := cLine_is; omega) | (show _ < _; decide)
  case sE => passes_own
  case sg =>
    intro m' news' h' tk' F' N'
    clear lF lN
    k_steps)
/-! OyFig -/
noncomputable def figs (ns : List Int) : List Int := [1, 15, 3, 14] ++ (ns.take 12).map fun a => a.fmod 16
noncomputable def numb (ns : List Int) : Int := (figs ns).foldl (fun a f => 16 * a + f) 0
noncomputable def letter (f : Int) : UInt8 := (65 + f.toNat).toUInt8
noncomputable def wordL (ns : List Int) : List UInt8 := (figs ns).map letter
theorem figs_in (ns : List Int) : ∀ f ∈ figs ns, 0 ≤ f ∧ f < 16 := by
  intro f hf
  rcases List.mem_append.mp hf with h | h
  · simp only [List.mem_cons, List.not_mem_nil, or_false] at h; omega
  · obtain ⟨a, _, rfl⟩ := List.mem_map.mp h
    rw [Int.fmod_eq_emod_of_nonneg _ (by omega)]
    omega
theorem figs_len (ns : List Int) : (figs ns).length = 4 + min 12 ns.length := by simp [figs]; omega
theorem apF_fold : ∀ (fs : List Int) (a : Int), 0 < a → (∀ f ∈ fs, 0 ≤ f ∧ f < 16) → apF (fs.foldl (fun a f => 16 * a + f) a).toNat = apF a.toNat ++ fs.map letter
  | [], a, _, _ => by simp
  | f :: r, a, ha, hf => by
    have h1 := hf f (List.Mem.head _)
    rw [List.foldl_cons, apF_fold r (16 * a + f) (by omega) (fun g hg => hf g (List.Mem.tail _ hg))]
    rw [apF_step (n := (16 * a + f).toNat) (by omega)]
    obtain ⟨n, rfl⟩ := Int.eq_ofNat_of_zero_le (Int.le_of_lt ha)
    obtain ⟨m, rfl⟩ := Int.eq_ofNat_of_zero_le h1.1
    have hm : m < 16 := Int.ofNat_lt.mp h1.2
    have e0 : (16 * (n : Int) + (m : Int)).toNat = 16 * n + m := rfl
    have e1 : (16 * (n : Int) + (m : Int)).toNat / 16 = (n : Int).toNat := by rw [e0, Nat.mul_add_div (by decide), Nat.div_eq_of_lt hm]; rfl
    have e2 : (16 * (n : Int) + (m : Int)).toNat % 16 = (m : Int).toNat := by rw [e0, Nat.mul_add_mod, Nat.mod_eq_of_lt hm]; rfl
    rw [e1, e2, List.append_assoc]
    rfl
theorem fold_bound : ∀ (fs : List Int) (a : Int) (k : Nat), 0 ≤ a → a < 16 ^ k → (∀ f ∈ fs, 0 ≤ f ∧ f < 16) → 0 ≤ fs.foldl (fun a f => 16 * a + f) a ∧ fs.foldl (fun a f => 16 * a + f) a < 16 ^ (k + fs.length)
  | [], a, k, h0, h1, _ => by simpa using ⟨h0, h1⟩
  | f :: r, a, k, h0, h1, hf => by
    have h2 := hf f (List.Mem.head _)
    have h3 := fold_bound r (16 * a + f) (k + 1) (by omega) (by rw [Int.pow_succ]; omega) (fun g hg => hf g (List.Mem.tail _ hg))
    rw [List.foldl_cons, List.length_cons]
    rw [show k + (r.length + 1) = k + 1 + r.length by omega]
    exact h3
theorem numb_bound (ns : List Int) : 0 ≤ numb ns ∧ numb ns < 16 ^ 16 := by
  have h := fold_bound (figs ns) 0 0 (by decide) (by decide) (figs_in ns)
  refine ⟨h.1, Int.lt_of_lt_of_le h.2 ?_⟩
  rw [Nat.zero_add, figs_len]
  have : (16 : Int) ^ (4 + min 12 ns.length) = ((16 ^ (4 + min 12 ns.length) : Nat) : Int) := by simp
  rw [this]
  have h2 : 16 ^ (4 + min 12 ns.length) ≤ 16 ^ 16 := Nat.pow_le_pow_right (by decide) (by omega)
  have h3 : ((16 ^ 16 : Nat) : Int) = (16 : Int) ^ 16 := by simp
  rw [← h3]
  exact_mod_cast h2
theorem apF_numb (ns : List Int) : apF (numb ns).toNat = wordL ns := by
  unfold numb wordL figs
  rw [List.cons_append, List.foldl_cons, List.map_cons]
  rw [apF_fold ([15, 3, 14] ++ (ns.take 12).map fun a => a.fmod 16) (16 * 0 + 1) (by decide) (fun f hf => figs_in ns f (List.Mem.tail _ hf))]
  have : apF (16 * 0 + 1 : Int).toNat = [letter 1] := by
    rw [apF_step (by decide)]
    have : (16 * 0 + 1 : Int).toNat / 16 = 0 := by decide
    rw [this, apF, dif_pos rfl]
    decide
  rw [this]
  rfl
theorem wordL_len (ns : List Int) : (wordL ns).length = 4 + min 12 ns.length := by unfold wordL; rw [List.length_map, figs_len]
/-- the law's first sign -/
noncomputable def fi (ns : List Int) : Nat := ((ns.take 12).sum.fmod 61).toNat
theorem fi_eq (ns : List Int) : (ns.take 12).sum.fmod 61 = (fi ns : Int) := by
  unfold fi
  rw [Int.fmod_eq_emod_of_nonneg _ (by omega)]; omega
theorem fi_le (ns : List Int) : fi ns ≤ 60 := by
  have h := fi_eq ns
  rw [Int.fmod_eq_emod_of_nonneg _ (by omega)] at h; omega
/-- the text at a place -/
noncomputable def text (f : Nat) (wd : List UInt8) (k : Nat) : Array UInt8 := #[sg (f + k / 4), sg (k % 4 * 16 + (wd.getD k 0).toNat - 65), 61, 61]
theorem wordL_in (ns : List Int) : ∀ c ∈ wordL ns, 65 ≤ c.toNat ∧ c.toNat ≤ 80 := by
  intro c hc
  obtain ⟨f, hf, rfl⟩ := List.mem_map.mp hc
  have h := figs_in ns f hf
  have e : (letter f).toNat = 65 + f.toNat := by
    unfold letter
    show (UInt8.ofNat (65 + f.toNat)).toNat = _
    rw [UInt8.toNat_ofNat']; omega
  rw [e]; omega
/-! OyComp -/
theorem keepsRefl (s : Shared) : Keeps s s := ⟨s.heap, s.toks, rfl, fun _ _ e => e⟩
theorem comp_none {prog : Program} {w : World} {A : Around} {E : Value → Shared → Prop} {s : Shared} {env : Env} {scope : Scope} {x : Str} {ifs : List PySem.Expr} {elt : PySem.Expr} {Q : Value → Shared → Prop} {b : Array UInt8} {t : Tok}
    (hh : A.handled = none) (hsz : b.size ≤ sizeLine)
    (htests : ∀ C (c : UInt8) u s₃ m₃ E', c ∈ b.toList → s₃.heap.Ns C m₃ → m₃ x = some (.int (c.toNat : Int) u) →
      wpAny (model prog w) A (forIn ifs true fun c r => if r = true then do let ok ← isTrue c (compEnv scope C env) (eval c (compEnv scope C env)); pure (ForInStep.yield ok) else pure (ForInStep.yield r))
      (fun ok s₄ => ok = false ∧ Keeps s₃ s₄) E' s₃)
    (hQ : ∀ D h' tk n, s.heap.get? D = none → h'.get? D = some (W.listOf #[] n) → (∀ b o, s.heap.get? b = some o → h'.get? b = some o) → Q (.ref D) { s with heap := h', toks := tk }) :
    wpAny (model prog w) A (pyIter (.bytes b t)) (CompPost prog w A env scope x ifs elt Q) E s := by
  refine KBw.pyIter_bytes ?_
  have hlt : ∀ b o, s.heap.get? b = some o → b ∉ [s.heap.objs.size] := fun b o e hm => by
    have := Heap.lt_size e
    rw [List.mem_singleton.mp hm] at this
    exact Nat.lt_irrefl _ this
  refine ⟨fun _ => false, fun _ _ => True, _, _, _, _, _, _, rfl, KBw.walks (prog := prog) (w := w) hh s.heap.objs.size b t, hsz, ⟨_, Heap.get?_push_size _ rfl, rfl, rfl⟩, ?_, ⟨?_, ?_⟩, ?_⟩
  · intro b' hb
    rw [List.mem_singleton.mp hb]
    show s.heap.objs.size < (s.heap.push _).objs.size
    rw [Heap.size_push]; exact Nat.lt_succ_self _
  · rintro C i v s₃ m₃ E' ⟨c, u, hc, rfl⟩ hn hm _ _
    exact htests C c u s₃ m₃ E' (by rw [← Array.getElem?_toList] at hc; exact List.mem_of_getElem? hc) hn hm
  · intro C i v s₃ m₃ E' _ hf
    cases hf
  · intro D h' tk ys vs hD _ hpl _ _ hpa hk
    rw [List.filter_eq_nil_iff.mpr (fun _ _ => by simp)] at hpa
    have hy : ys = #[] := by
      cases hys : ys.toList with
      | nil => exact Array.toList_eq_nil_iff.mp hys
      | cons a r => rw [hys] at hpa; cases hpa
    subst hy
    obtain ⟨n, e⟩ := hpl
    refine hQ D h' tk n ?_ e fun b o e' => hk b o (hlt b o e') (Heap.get?_push_of_some _ e')
    cases hq : s.heap.get? D with
    | none => rfl
    | some o => rw [Heap.get?_push_of_some _ hq] at hD; cases hD
theorem news_new {h₀ h h' : Heap} {L D : Addr} {m : Str → Option Value} {news : List (Addr × Obj)} {o : Obj} (F : Fr h₀ L h m) (N : News h₀ L h news) (hD : h.get? D = none) (hd : h'.get? D = some o) (hk : ∀ b o, h.get? b = some o → h'.get? b = some o) :
    Fr h₀ L h' m ∧ News h₀ L h' ((D, o) :: news) ∧ ∀ p ∈ news, p.1 ≠ D := by
  refine ⟨F.keptAll hk, fun p hp => ?_, fun p hp e => ?_⟩
  · rcases List.mem_cons.mp hp with rfl | hp
    · refine ⟨hd, fun e => ?_, ?_⟩
      · obtain ⟨oL, _, _, hL, _⟩ := F.ns
        subst e; rw [hL] at hD; cases hD
      · cases q : h₀.get? D with
        | none => rfl
        | some o' => rw [F.keep _ _ q] at hD; cases hD
    · exact (N.grown hk) p hp
  · have := (N p hp).1
    rw [e, hD] at this; cases this
/-! OyFind -/
/-! bytes.find -/
theorem slot_find : Slot "bytes" "find" "bytes.find" :=
  .of (owner := "bytes") (n := "find") (by rw [typeLookup_type, builtinLookup_eq_fast]; kernel_rfl) (by decide +kernel) (by decide +kernel) (by decide +kernel)
    (by first | exact .inl (by decide +kernel) | exact .inr (by decide +kernel)) (by rw [isSubtype_type]; kernel_rfl)
theorem type_find : typeOf (.builtin "bytes.find") = pure (.type "method_descriptor") := by show builtinType _ = _; rw [builtinType_eq_fast]; kernel_rfl
theorem entry_find : entryFor table "bytes.find" = some Builtin.«bytes.find» := entryFor_of_tree (by kernel_rfl)
theorem args_find_2 (a b : Value) : argsOk "bytes.find" ⟨[a, b], []⟩ := by
  unfold argsOk; rw [signature?_of (id := "bytes.find") (n := ['d', 'n', 'i', 'f']) (o := ['s', 'e', 't', 'y', 'b']) (by kernel_rfl) FB.owner_bytes]; kernel_rfl
theorem find_all : ∀ i : Fin 64, Builtin.Bytes.find? SIGNS.toArray #[sg i.val] 0 64 = some i.val := by decide +kernel
theorem gives_find (i : Nat) (hi : i < 64) (t u : Tok) : Gives (Builtin.«bytes.find» ⟨[.bytes SIGNS.toArray t, .bytes #[sg i] u], []⟩) (.int (i : Int)) := by
  have hf := find_all ⟨i, hi⟩
  generalize sg i = c at hf
  unfold Builtin.«bytes.find» Builtin.Bytes.searchM
  have e : Builtin.Bytes.searchArgs .bytes "find" ⟨[.bytes SIGNS.toArray t, .bytes #[c] u], []⟩ = pure (SIGNS.toArray, #[c], some (0, 64)) := by
    have e1 : Builtin.Bytes.buffer? "bytes.find" (.bytes #[c] u) = pure (some #[c]) := KBy.buffer_eq
    show (Builtin.Bytes.buffer? "bytes.find" (.bytes #[c] u) >>= fun r => _) = _
    rw [e1]
    rfl
  rw [e]
  show Gives (match Builtin.Bytes.find? SIGNS.toArray #[c] 0 64 with | some i => retInt i | none => (do rule "bytes.find.not-found"; retInt (-1))) _
  rw [hf]
  exact .of_eq rfl
theorem method_find {M : Model} {A : Around} {E : Value → Shared → Prop} {s : Shared} {b : Array UInt8} {t : Tok} {pl : Sem Bool} {Q : Value × List Value → Shared → Prop} (h : Q (.builtin "bytes.find", [.bytes b t]) s) : wpAny M A (getMethod (.bytes b t) "find" pl) Q E s := by
  with_reducible exact KBd.method_of (.bytes b t) (typeIs_bytes _ _ _) slot_find type_find KBd.noRef h
theorem call_find {prog : Program} {w : World} {A : Around} {E : Value → Shared → Prop} {s : Shared} {S : List UInt8} (hS : S = SIGNS) {i : Nat} (hi : i < 64) {c : UInt8} (hc : c = sg i) {t u : Tok} {Q : Value → Shared → Prop} (hq : Q (.int (i : Int) s.toks) { s with toks := s.toks + 1 }) :
    wpAny (model prog w) A (call (.builtin "bytes.find") [.bytes S.toArray t, .bytes #[c] u]) Q E s := by
  subst hS hc
  exact call_gives slot_find (typeIs_bytes _ _ _) entry_find (args_find_2 _ _) (gives_find i hi t u) hq
/-! OyS0 -/
theorem seg0 (w : World) (ls : Addr) (vs : List Value) (ns : List Int) (o1 o2 : Obj) (h1 : o1.data = .cell none) (h2 : o2.data = .cell none)
    (seg4 : ∀ (lf : Addr) (fvs : List Value) (t1 t2 : Tok), IntsAre fvs (figs ns) → Seg w ls vs ns 4 [(Str.ofString "script", .ref ls), (Str.ofString "figures", .ref lf), (Str.ofString "number", .int (numb ns) t1), (Str.ofString "word", .bytes (wordL ns).toArray t2)] (fun L => [(lf, W.listOf fvs.toArray 0), (L + 2, o2), (L + 1, o1)]) (fun L => L + 2 < lf)) :
    Seg w ls vs ns 0 [(Str.ofString "script", .ref ls)] (fun L => [(L + 2, o2), (L + 1, o1)]) (fun _ => True) := by
  unfold Seg
  k_fill
  w_top off
  intro p loose mean mg mb dp un gd fa ccd outer A₀ base h₀ L u s Q E B F X N T hl hi h63 _ hdp hun hE hret
  k_with_none
  k_with "subscriptTail" => (k_here; (with_reducible show wpAny _ _ (subscriptTail _ _ (Value.ref _) (Value.int _ _)) _ _ _); k_dflt (refine' by_sub ?k1 ?k2 ?k3 ?k4 ?k5 ?k6 ?_ ?k7 ?k8; (case k1 => k_asm); (case k2 => k_mem); (case k3 => with_reducible assumption); (case k4 => (first | omega | ((simp only [List.length_append, List.length_dropLast, List.length_set, List.length_cons, List.length_nil, List.length_take, List.length_drop] at *); omega))); (case k5 => (first | omega | ((simp only [List.length_append, List.length_dropLast, List.length_set, List.length_cons, List.length_nil, List.length_take, List.length_drop] at *); omega))); (case k6 => (first | omega | ((simp only [List.length_append, List.length_dropLast, List.length_set, List.length_cons, List.length_nil, List.length_take, List.length_drop] at *); omega))); (case k7 => with_unfolding_all rfl); (case k8 => (intro _; with_unfolding_all rfl)); k_whole); intro _)
  k_with "compareOp Lt bytes bytes" => refine lt_bytes ?_
  k_with "setItem ref int" => (k_here; (with_reducible show wpAny _ _ (setItem (Value.ref _) (Value.int _ _) (Value.bytes _ _)) _ _ _); k_dflt (refine' by_set ?k1 ?k2 ?k3 ?k4 ?k5 ?k6 ?k7 ?_; (case k1 => k_asm); (case k2 => k_asm); (case k3 => k_upd); (case k4 => with_reducible assumption); (case k5 => (first | omega | ((simp only [List.length_append, List.length_dropLast, List.length_set, List.length_cons, List.length_nil, List.length_take, List.length_drop] at *); omega))); (case k6 => (first | omega | ((simp only [List.length_append, List.length_dropLast, List.length_set, List.length_cons, List.length_nil, List.length_take, List.length_drop] at *); omega))); (case k7 => (first | omega | ((simp only [List.length_append, List.length_dropLast, List.length_set, List.length_cons, List.length_nil, List.length_take, List.length_drop] at *); omega))); k_whole); intro h' F' N' hi'; (try k_sweep))
  k_with "call builtin:len" => (k_here; (with_reducible show wpAny _ _ (call (Value.builtin "len") [Value.ref _]) _ _ _); k_dflt (refine' by_len ?k1 ?k2 ?k3 ?k4 ?_; (case k1 => k_asm); (case k2 => k_mem); (case k3 => with_reducible assumption); (case k4 => (first | omega | ((simp only [List.length_append, List.length_dropLast, List.length_set, List.length_cons, List.length_nil, List.length_take, List.length_drop] at *); omega))); k_whole))
  k_with "truthy ref" => (k_here; k_dflt (refine' by_truthy ?k1 ?k2 ?k3 ?k4 ?_; (case k1 => k_asm); (case k2 => k_mem); (case k3 => with_reducible assumption); (case k4 => (first | omega | ((simp only [List.length_append, List.length_dropLast, List.length_set, List.length_cons, List.length_nil, List.length_take, List.length_drop] at *); omega))); k_whole))
  k_with "call builtin:list.pop" => (k_here; (with_reducible show wpAny _ _ (call (Value.builtin _) [Value.ref _]) _ _ _); k_dflt (refine' by_pop ?F ?N ?U ?i ?l ?z ?_; (case F => k_asm); (case N => k_asm); (case U => k_upd); (case i => with_reducible assumption); (case l => (first | omega | ((simp only [List.length_append, List.length_dropLast, List.length_set, List.length_cons, List.length_nil, List.length_take, List.length_drop] at *); omega))); (case z => (rw [PySem.sizeLine_eq]; (first | omega | ((simp only [List.length_append, List.length_dropLast, List.length_set, List.length_cons, List.length_nil, List.length_take, List.length_drop] at *); omega)))); k_whole); intro h' t' F' N' hi'; (try k_sweep))
  k_with "call builtin:list.pop" => (k_here; (with_reducible show wpAny _ _ (call (Value.builtin _) [Value.ref _, Value.int _ _]) _ _ _); k_dflt (refine' by_popAt ?F ?N ?U ?i ?l0 ?l ?z ?_; (case F => k_asm); (case N => k_asm); (case U => k_upd); (case i => with_reducible assumption); (case l0 => (first | omega | ((simp only [List.length_append, List.length_dropLast, List.length_set, List.length_cons, List.length_nil, List.length_take, List.length_drop] at *); omega))); (case l => (first | omega | ((simp only [List.length_append, List.length_dropLast, List.length_set, List.length_cons, List.length_nil, List.length_take, List.length_drop] at *); omega))); (case z => (rw [PySem.sizeLine_eq]; (first | omega | ((simp only [List.length_append, List.length_dropLast, List.length_set, List.length_cons, List.length_nil, List.length_take, List.length_drop] at *); omega)))); k_whole); intro h' t' F' N' hi'; (try k_sweep))
  k_with "call builtin:list.append" => (k_here; (with_reducible show wpAny _ _ (call (Value.builtin _) [Value.ref _, Value.bytes _ _]) _ _ _); k_dflt (refine' by_append ?F ?N ?U ?i ?z ?_; (case F => k_asm); (case N => k_asm); (case U => k_upd); (case i => with_reducible assumption); (case z => (rw [PySem.sizeLine_eq]; (first | omega | ((simp only [List.length_append, List.length_dropLast, List.length_set, List.length_cons, List.length_nil, List.length_take, List.length_drop] at *); omega)))); k_whole); intro h' F' N' hi'; (try k_sweep))
  k_with "call type:type" => ((with_reducible show wpAny _ _ (call (Value.type "type") [Value.bytes _ _]) _ _ _); refine call_type_of (Tx := "bytes") rfl (by decide +kernel) ?_)
  k_with "call type:type" => ((with_reducible show wpAny _ _ (call (Value.type "type") [Value.bool _]) _ _ _); refine call_type_of (Tx := "bool") rfl (by decide +kernel) ?_)
  k_with "exec For" => (k_here; (rename Fr _ _ _ _ => lF'); (with_unfolding_all refine' For_invVF lF' ?k1 ?k2 ?_ ?k3 ?k4; (case k1 => exact rfl); (case k2 => exact rfl); (case k3 => (intro _; rfl)); (case k4 => first | assumption | passes_own); k_whole); clear lF')
  k_with "binaryOp Add ref ref" => refine Hold.of ?_
  (with_unfolding_all refine wpAny_execs_cons ?_)
  k_steps
  unfold Hold
  (rename Fr _ _ _ _ => eF); (rename News _ _ _ _ => eN); (rename Heap.IsList _ _ _ => eL); (rename CarriedAll _ _ => eC); (rename NewPlain _ _ _ _ => eP)
  have eI := gn_ints eP eC (by intro _; rfl)
  refine ladd_ints eF eN (News.isList eN (List.Mem.tail _ (List.Mem.head _))) eL (.cons _ _ (.cons _ _ (.cons _ _ (.cons _ _ .nil)))) eI ?sz ?_
  case sz => (rw [PySem.sizeLine_eq]; simp; omega)
  intro lf fvs h' F' N' hI hlt
  have hlt1 := ltN (hlt (L + 2, o2) (List.Mem.tail _ (List.Mem.tail _ (List.Mem.head _))))
  have N'' : News h₀ L h' [(lf, W.listOf fvs.toArray 0), (L + 2, o2), (L + 1, o1)] := fun p hp => N' p (by
    rcases List.mem_cons.mp hp with rfl | hp
    · exact List.Mem.head _
    · exact List.Mem.tail _ (List.Mem.tail _ (List.Mem.tail _ hp)))
  clear eF eN eL eC eP eI N' hlt
  dsimp only at hlt1 ⊢
  k_with "pyIter ref" => refine Hold.of ?_
  k_steps
  unfold Hold
  (rename Fr _ _ _ _ => lF); (rename News _ _ _ _ => lN)
  (with_unfolding_all refine' kst_listL (σ := Int × Tok) (ns := figs ns) (fun _ => [(lf, W.listOf fvs.toArray 0), (L + 2, o2), (L + 1, o1)]) (fun c => [(Str.ofString "number", .int c.1 c.2)]) (fun _ => True) [] (fun pre c => c.1 = pre.foldl (fun a f => 16 * a + f) 0) (0, _) rfl (fun _ => List.Mem.head _) hI lF lN trivial ?kk rfl ?turn ?done)
  case kk => kst_all
  case turn =>
    rintro ⟨a, ta⟩ pre post f tf u' h tk own _ _ _ _ hP gF gN
    clear lF lN
    dsimp only at gF gN hP
    try k_fold
    k_steps
    (rename Fr _ _ _ _ => eF); (rename News _ _ _ _ => eN)
    (with_unfolding_all refine kst_end (16 * a + f, _) eF eN (fun p hp => List.mem_append_left own hp) (fun p hp => List.mem_append_right _ hp) rfl trivial (by kst_all) (by (intro z h1 h2 h3; (simp only [List.forall_mem_cons, List.not_mem_nil, false_implies, implies_true, and_true, ne_eq] at h2); (simp only [List.contains_cons, List.contains_nil, Bool.or_false, Bool.or_eq_false_iff, beq_eq_false_iff_ne, ne_eq] at h3); (simp only [kstB, h1, h2, h3, if_false, List.contains_cons, List.contains_nil, Bool.or_false, Bool.or_eq_true, beq_iff_eq, or_self, or_false, false_or, Bool.false_eq_true]))) ?_)
    (show 16 * a + f = (pre ++ [f]).foldl (fun a f => 16 * a + f) 0)
    rw [List.foldl_append, ← hP]; rfl
  case done =>
    rintro ⟨a, ta⟩ u' h tk _ hP gF gN
    clear lF lN
    dsimp only at gF gN hP
    k_with "call ref" => refine Hold.of ?_
    k_with "exec If" => refine Hold.of ?_
    have hnb := numb_bound ns
    have ha : a = ((numb ns).toNat : Int) := by rw [hP, Int.toNat_of_nonneg hnb.1]; rfl
    subst ha
    k_steps
    unfold Hold
    k_dflt (refine' Ct.use (ct_ap w (numb ns).toNat _ _ ?kb) ?B gF ?X gN ?T ?k ?d ?u ?_; (case B => k_asm); (case X => k_asm); (case T => k_asm); (case k => rfl); (case d => omega); (case u => omega); (case kb => (have : (16 : Int) ^ 16 ≤ 16 ^ 50 := by decide); (have e : ((16 ^ 50 : Nat) : Int) = (16 : Int) ^ 50 := by simp); omega))
    rintro _ _ h' tk' ⟨⟨t', rfl⟩, rfl⟩ F'' N''
    clear gF gN
    rw [apF_numb]
    k_with "execs cons" => refine Hold.of ?_
    k_steps
    unfold Hold
    (rename Fr _ _ _ _ => gF); (rename News _ _ _ _ => gN)
    have e1 : ((numb ns).toNat : Int) = numb ns := Int.toNat_of_nonneg hnb.1
    rw [e1] at gF
    (with_unfolding_all refine' Seg.use (seg4 lf fvs ta t' hI) B (fr_canon gF ?sc) X gN T hl hi h63 ?sf hdp hun hE ?sg)
    case sc => kst_all
    case sf => exact hlt1
    case sg => exact fun m' news' h' tk' F' N' => hret m' news' h' tk' F' N'
/-! OyS4 -/
theorem seg4 (w : World) (ls : Addr) (vs : List Value) (ns : List Int) (o1 o2 : Obj) (h1 : o1.data = .cell none) (h2 : o2.data = .cell none) (lf : Addr) (fvs : List Value) (t1 t2 : Tok) (hI : IntsAre fvs (figs ns))
    (seg9 : ∀ (lt : Addr) (o1' : Obj) (t3 t4 : Tok), o1'.data = .cell (some (.ref lt)) → Seg w ls vs ns 9 [(Str.ofString "script", .ref ls), (Str.ofString "number", .int (numb ns) t1), (Str.ofString "word", .bytes (wordL ns).toArray t2), (Str.ofString "signs", .bytes SIGNS.toArray t3), (Str.ofString "first", .int (fi ns : Int) t4)] (fun L => [(lt, W.listOf #[] 0), (L + 2, o2), (L + 1, o1')]) (fun L => L + 2 < lt)) :
    Seg w ls vs ns 4 [(Str.ofString "script", .ref ls), (Str.ofString "figures", .ref lf), (Str.ofString "number", .int (numb ns) t1), (Str.ofString "word", .bytes (wordL ns).toArray t2)] (fun L => [(lf, W.listOf fvs.toArray 0), (L + 2, o2), (L + 1, o1)]) (fun L => L + 2 < lf) := by
  unfold Seg
  k_fill
  w_top off
  intro p loose mean mg mb dp un gd fa ccd outer A₀ base h₀ L u s Q E B F X N T hl hi h63 hlt1 hdp hun hE hret
  dsimp only at hlt1 N
  replace hlt1 := ltN hlt1
  have hW := wordL_len ns
  have hfl := figs_len ns
  have hfv := hI.length
  k_with_none
  k_with "subscriptTail" => (k_here; (with_reducible show wpAny _ _ (subscriptTail _ _ (Value.ref _) (Value.int _ _)) _ _ _); k_dflt (refine' by_sub ?k1 ?k2 ?k3 ?k4 ?k5 ?k6 ?_ ?k7 ?k8; (case k1 => k_asm); (case k2 => k_mem); (case k3 => with_reducible assumption); (case k4 => (first | omega | ((simp only [List.length_append, List.length_dropLast, List.length_set, List.length_cons, List.length_nil, List.length_take, List.length_drop] at *); omega))); (case k5 => (first | omega | ((simp only [List.length_append, List.length_dropLast, List.length_set, List.length_cons, List.length_nil, List.length_take, List.length_drop] at *); omega))); (case k6 => (first | omega | ((simp only [List.length_append, List.length_dropLast, List.length_set, List.length_cons, List.length_nil, List.length_take, List.length_drop] at *); omega))); (case k7 => with_unfolding_all rfl); (case k8 => (intro _; with_unfolding_all rfl)); k_whole); intro _)
  k_with "compareOp Lt bytes bytes" => refine lt_bytes ?_
  k_with "setItem ref int" => (k_here; (with_reducible show wpAny _ _ (setItem (Value.ref _) (Value.int _ _) (Value.bytes _ _)) _ _ _); k_dflt (refine' by_set ?k1 ?k2 ?k3 ?k4 ?k5 ?k6 ?k7 ?_; (case k1 => k_asm); (case k2 => k_asm); (case k3 => k_upd); (case k4 => with_reducible assumption); (case k5 => (first | omega | ((simp only [List.length_append, List.length_dropLast, List.length_set, List.length_cons, List.length_nil, List.length_take, List.length_drop] at *); omega))); (case k6 => (first | omega | ((simp only [List.length_append, List.length_dropLast, List.length_set, List.length_cons, List.length_nil, List.length_take, List.length_drop] at *); omega))); (case k7 => (first | omega | ((simp only [List.length_append, List.length_dropLast, List.length_set, List.length_cons, List.length_nil, List.length_take, List.length_drop] at *); omega))); k_whole); intro h' F' N' hi'; (try k_sweep))
  k_with "call builtin:len" => (k_here; (with_reducible show wpAny _ _ (call (Value.builtin "len") [Value.ref _]) _ _ _); k_dflt (refine' by_len ?k1 ?k2 ?k3 ?k4 ?_; (case k1 => k_asm); (case k2 => k_mem); (case k3 => with_reducible assumption); (case k4 => (first | omega | ((simp only [List.length_append, List.length_dropLast, List.length_set, List.length_cons, List.length_nil, List.length_take, List.length_drop] at *); omega))); k_whole))
  k_with "truthy ref" => (k_here; k_dflt (refine' by_truthy ?k1 ?k2 ?k3 ?k4 ?_; (case k1 => k_asm); (case k2 => k_mem); (case k3 => with_reducible assumption); (case k4 => (first | omega | ((simp only [List.length_append, List.length_dropLast, List.length_set, List.length_cons, List.length_nil, List.length_take, List.length_drop] at *); omega))); k_whole))
  k_with "call builtin:list.pop" => (k_here; (with_reducible show wpAny _ _ (call (Value.builtin _) [Value.ref _]) _ _ _); k_dflt (refine' by_pop ?F ?N ?U ?i ?l ?z ?_; (case F => k_asm); (case N => k_asm); (case U => k_upd); (case i => with_reducible assumption); (case l => (first | omega | ((simp only [List.length_append, List.length_dropLast, List.length_set, List.length_cons, List.length_nil, List.length_take, List.length_drop] at *); omega))); (case z => (rw [PySem.sizeLine_eq]; (first | omega | ((simp only [List.length_append, List.length_dropLast, List.length_set, List.length_cons, List.length_nil, List.length_take, List.length_drop] at *); omega)))); k_whole); intro h' t' F' N' hi'; (try k_sweep))
  k_with "call builtin:list.pop" => (k_here; (with_reducible show wpAny _ _ (call (Value.builtin _) [Value.ref _, Value.int _ _]) _ _ _); k_dflt (refine' by_popAt ?F ?N ?U ?i ?l0 ?l ?z ?_; (case F => k_asm); (case N => k_asm); (case U => k_upd); (case i => with_reducible assumption); (case l0 => (first | omega | ((simp only [List.length_append, List.length_dropLast, List.length_set, List.length_cons, List.length_nil, List.length_take, List.length_drop] at *); omega))); (case l => (first | omega | ((simp only [List.length_append, List.length_dropLast, List.length_set, List.length_cons, List.length_nil, List.length_take, List.length_drop] at *); omega))); (case z => (rw [PySem.sizeLine_eq]; (first | omega | ((simp only [List.length_append, List.length_dropLast, List.length_set, List.length_cons, List.length_nil, List.length_take, List.length_drop] at *); omega)))); k_whole); intro h' t' F' N' hi'; (try k_sweep))
  k_with "call builtin:list.append" => (k_here; (with_reducible show wpAny _ _ (call (Value.builtin _) [Value.ref _, Value.bytes _ _]) _ _ _); k_dflt (refine' by_append ?F ?N ?U ?i ?z ?_; (case F => k_asm); (case N => k_asm); (case U => k_upd); (case i => with_reducible assumption); (case z => (rw [PySem.sizeLine_eq]; (first | omega | ((simp only [List.length_append, List.length_dropLast, List.length_set, List.length_cons, List.length_nil, List.length_take, List.length_drop] at *); omega)))); k_whole); intro h' F' N' hi'; (try k_sweep))
  k_with "call type:type" => ((with_reducible show wpAny _ _ (call (Value.type "type") [Value.bytes _ _]) _ _ _); refine call_type_of (Tx := "bytes") rfl (by decide +kernel) ?_)
  k_with "call type:type" => ((with_reducible show wpAny _ _ (call (Value.type "type") [Value.bool _]) _ _ _); refine call_type_of (Tx := "bool") rfl (by decide +kernel) ?_)
  k_with "exec For" => (k_here; (rename Fr _ _ _ _ => lF'); (with_unfolding_all refine' For_invVF lF' ?k1 ?k2 ?_ ?k3 ?k4; (case k1 => exact rfl); (case k2 => exact rfl); (case k3 => (intro _; rfl)); (case k4 => first | assumption | passes_own); k_whole); clear lF')
  (with_unfolding_all refine wpAny_execs_cons ?_)
  k_steps
  · (rename _ ≠ _ => hne)
    exact absurd (by rw [List.size_toArray]; omega) hne
  dsimp only
  (rename Fr _ _ _ _ => eF); (rename News _ _ _ _ => eN)
  refine comp_none rfl ?sz ?tests ?_
  case sz => (rw [PySem.sizeLine_eq, List.size_toArray]; omega)
  case tests =>
    intro C c u' s₃ m₃ E' hc hn hm
    have hin := wordL_in ns c hc
    k_with "eval Name" => refine wpAny_Name (wpAny_loadName_local rfl rfl hn hm ?_) (by decide)
    k_steps
    exact ⟨_, _, rfl, fun _ _ e => e⟩
  intro D h' tk n hD hd hk
  obtain ⟨F2, N2, hDne⟩ := news_new eF eN hD hd hk
  clear eF eN
  have d1 : @Ne Nat lf D := hDne _ (List.Mem.head _)
  have d2 : @Ne Nat (L + 2) D := hDne _ (List.Mem.tail _ (List.Mem.head _))
  have d3 : @Ne Nat (L + 1) D := hDne _ (List.Mem.tail _ (List.Mem.tail _ (List.Mem.head _)))
  k_with_none
  k_with "subscriptTail" => (k_here; (with_reducible show wpAny _ _ (subscriptTail _ _ (Value.ref _) (Value.int _ _)) _ _ _); k_dflt (refine' by_sub ?k1 ?k2 ?k3 ?k4 ?k5 ?k6 ?_ ?k7 ?k8; (case k1 => k_asm); (case k2 => k_mem); (case k3 => with_reducible assumption); (case k4 => (first | omega | ((simp only [List.length_append, List.length_dropLast, List.length_set, List.length_cons, List.length_nil, List.length_take, List.length_drop] at *); omega))); (case k5 => (first | omega | ((simp only [List.length_append, List.length_dropLast, List.length_set, List.length_cons, List.length_nil, List.length_take, List.length_drop] at *); omega))); (case k6 => (first | omega | ((simp only [List.length_append, List.length_dropLast, List.length_set, List.length_cons, List.length_nil, List.length_take, List.length_drop] at *); omega))); (case k7 => with_unfolding_all rfl); (case k8 => (intro _; with_unfolding_all rfl)); k_whole); intro _)
  k_with "compareOp Lt bytes bytes" => refine lt_bytes ?_
  k_with "setItem ref int" => (k_here; (with_reducible show wpAny _ _ (setItem (Value.ref _) (Value.int _ _) (Value.bytes _ _)) _ _ _); k_dflt (refine' by_set ?k1 ?k2 ?k3 ?k4 ?k5 ?k6 ?k7 ?_; (case k1 => k_asm); (case k2 => k_asm); (case k3 => k_upd); (case k4 => with_reducible assumption); (case k5 => (first | omega | ((simp only [List.length_append, List.length_dropLast, List.length_set, List.length_cons, List.length_nil, List.length_take, List.length_drop] at *); omega))); (case k6 => (first | omega | ((simp only [List.length_append, List.length_dropLast, List.length_set, List.length_cons, List.length_nil, List.length_take, List.length_drop] at *); omega))); (case k7 => (first | omega | ((simp only [List.length_append, List.length_dropLast, List.length_set, List.length_cons, List.length_nil, List.length_take, List.length_drop] at *); omega))); k_whole); intro h' F' N' hi'; (try k_sweep))
  k_with "call builtin:len" => (k_here; (with_reducible show wpAny _ _ (call (Value.builtin "len") [Value.ref _]) _ _ _); k_dflt (refine' by_len ?k1 ?k2 ?k3 ?k4 ?_; (case k1 => k_asm); (case k2 => k_mem); (case k3 => with_reducible assumption); (case k4 => (first | omega | ((simp only [List.length_append, List.length_dropLast, List.length_set, List.length_cons, List.length_nil, List.length_take, List.length_drop] at *); omega))); k_whole))
  k_with "truthy ref" => (k_here; k_dflt (refine' by_truthy ?k1 ?k2 ?k3 ?k4 ?_; (case k1 => k_asm); (case k2 => k_mem); (case k3 => with_reducible assumption); (case k4 => (first | omega | ((simp only [List.length_append, List.length_dropLast, List.length_set, List.length_cons, List.length_nil, List.length_take, List.length_drop] at *); omega))); k_whole))
  k_with "call builtin:list.pop" => (k_here; (with_reducible show wpAny _ _ (call (Value.builtin _) [Value.ref _]) _ _ _); k_dflt (refine' by_pop ?F ?N ?U ?i ?l ?z ?_; (case F => k_asm); (case N => k_asm); (case U => k_upd); (case i => with_reducible assumption); (case l => (first | omega | ((simp only [List.length_append, List.length_dropLast, List.length_set, List.length_cons, List.length_nil, List.length_take, List.length_drop] at *); omega))); (case z => (rw [PySem.sizeLine_eq]; (first | omega | ((simp only [List.length_append, List.length_dropLast, List.length_set, List.length_cons, List.length_nil, List.length_take, List.length_drop] at *); omega)))); k_whole); intro h' t' F' N' hi'; (try k_sweep))
  k_with "call builtin:list.pop" => (k_here; (with_reducible show wpAny _ _ (call (Value.builtin _) [Value.ref _, Value.int _ _]) _ _ _); k_dflt (refine' by_popAt ?F ?N ?U ?i ?l0 ?l ?z ?_; (case F => k_asm); (case N => k_asm); (case U => k_upd); (case i => with_reducible assumption); (case l0 => (first | omega | ((simp only [List.length_append, List.length_dropLast, List.length_set, List.length_cons, List.length_nil, List.length_take, List.length_drop] at *); omega))); (case l => (first | omega | ((simp only [List.length_append, List.length_dropLast, List.length_set, List.length_cons, List.length_nil, List.length_take, List.length_drop] at *); omega))); (case z => (rw [PySem.sizeLine_eq]; (first | omega | ((simp only [List.length_append, List.length_dropLast, List.length_set, List.length_cons, List.length_nil, List.length_take, List.length_drop] at *); omega)))); k_whole); intro h' t' F' N' hi'; (try k_sweep))
  k_with "call builtin:list.append" => (k_here; (with_reducible show wpAny _ _ (call (Value.builtin _) [Value.ref _, Value.bytes _ _]) _ _ _); k_dflt (refine' by_append ?F ?N ?U ?i ?z ?_; (case F => k_asm); (case N => k_asm); (case U => k_upd); (case i => with_reducible assumption); (case z => (rw [PySem.sizeLine_eq]; (first | omega | ((simp only [List.length_append, List.length_dropLast, List.length_set, List.length_cons, List.length_nil, List.length_take, List.length_drop] at *); omega)))); k_whole); intro h' F' N' hi'; (try k_sweep))
  k_with "call type:type" => ((with_reducible show wpAny _ _ (call (Value.type "type") [Value.bytes _ _]) _ _ _); refine call_type_of (Tx := "bytes") rfl (by decide +kernel) ?_)
  k_with "call type:type" => ((with_reducible show wpAny _ _ (call (Value.type "type") [Value.bool _]) _ _ _); refine call_type_of (Tx := "bool") rfl (by decide +kernel) ?_)
  k_with "exec For" => (k_here; (rename Fr _ _ _ _ => lF'); (with_unfolding_all refine' For_invVF lF' ?k1 ?k2 ?_ ?k3 ?k4; (case k1 => exact rfl); (case k2 => exact rfl); (case k3 => (intro _; rfl)); (case k4 => first | assumption | passes_own); k_whole); clear lF')
  k_with "execs cons" => ((with_reducible show wpAny _ _ (execs (Stmt.For _ _ _ _ _ :: _) _) _ _ _); refine Hold.of ?_)
  k_steps
  unfold Hold
  (rename Fr _ _ _ _ => gF); (rename News _ _ _ _ => gN); (rename _ = Data.cell (some _) => hc)
  rw [fi_eq] at gF
  (with_unfolding_all refine' Seg.use (seg9 _ _ _ _ hc) B (fr_canon gF ?sc) X ?sN T hl hi h63 ?sf hdp hun hE ?sg)
  case sc => kst_all
  case sN => exact fun p hp => gN p (by
    rcases List.mem_cons.mp hp with rfl | hp
    · exact List.Mem.head _
    · exact List.Mem.tail _ (List.Mem.tail _ (List.Mem.tail _ (List.Mem.tail _ (List.Mem.tail _ hp)))))
  case sf => (show @LT.lt Nat _ _ _; omega)
  case sg => exact fun m' news' h' tk' F' N' => hret m' news' h' tk' F' N'
/-! OyS9 -/
section
variable {prog : Program} {w : World} {A : Around} {E : Value → Shared → Prop} {s : Shared} {t u : Tok} {Q : Value → Shared → Prop}
theorem sg_itemV {S : List UInt8} (hS : S = SIGNS) {i : Int} {value slice : PySem.Expr} (h0 : 0 ≤ i) (h1 : i < 64) (h : Q (.int ((sg i.toNat).toNat : Int) s.toks) { s with toks := s.toks + 1 })
    (hs : subscripted slice false (.bytes S.toArray t) (.int i u) = operate [.bytes S.toArray t, .int i u] (getItem (.bytes S.toArray t) (.int i u)) := by with_unfolding_all rfl)
    (ht : ∀ r, letTemporaryGo value (.bytes S.toArray t) r = pure () := by intro _; with_unfolding_all rfl) :
    wpAny (model prog w) A (subscriptTail value slice (.bytes S.toArray t) (.int i u)) Q E s := by
  subst hS
  exact KBy.item_N (by decide) h0 h1 h hs ht
theorem fdiv4 {k : Nat} (h : Q (.int ((k / 4 : Nat) : Int) s.toks) { s with toks := s.toks + 1 }) : wpAny (model prog w) A (binaryOp .FloorDiv (.int (k : Int) t) (.int 4 u)) Q E s := by
  refine floordiv_int (by decide) ?_
  have e : (k : Int).fdiv 4 = ((k / 4 : Nat) : Int) := by rw [Int.fdiv_eq_ediv_of_nonneg _ (by omega)]; omega
  rw [e]; exact h
theorem fmod4 {k : Nat} (h : Q (.int ((k % 4 : Nat) : Int) s.toks) { s with toks := s.toks + 1 }) : wpAny (model prog w) A (binaryOp .Mod (.int (k : Int) t) (.int 4 u)) Q E s := by
  refine mod_int' (by decide) ?_
  have e : (k : Int).fmod 4 = ((k % 4 : Nat) : Int) := by rw [Int.fmod_eq_emod_of_nonneg _ (by omega)]; omega
  rw [e]; exact h
end
theorem sg_itemW {S : List UInt8} (hS : S = SIGNS) {i : Int} {j : Nat} {prog : Program} {w : World} {A : Around} {E : Value → Shared → Prop} {s : Shared} {t u : Tok} {Q : Value → Shared → Prop} {value slice : PySem.Expr} (e : i = (j : Int)) (h1 : j < 64) (h : Q (.int ((sg j).toNat : Int) s.toks) { s with toks := s.toks + 1 })
    (hs : subscripted slice false (.bytes S.toArray t) (.int i u) = operate [.bytes S.toArray t, .int i u] (getItem (.bytes S.toArray t) (.int i u)) := by with_unfolding_all rfl)
    (ht : ∀ r, letTemporaryGo value (.bytes S.toArray t) r = pure () := by intro _; with_unfolding_all rfl) :
    wpAny (model prog w) A (subscriptTail value slice (.bytes S.toArray t) (.int i u)) Q E s := by
  subst e
  exact sg_itemV hS (by omega) (by omega) (by rw [Int.toNat_natCast]; exact h) hs ht
/-- the small sums of a turn -/
structure Ar (f kn lv n : Nat) : Prop where
  a : f + kn / 4 < 64
  b : kn % 4 * 16 + lv < 64
  c : kn % 4 * 16 < 64
  d : 4 * f + kn < 256
  e : 4 * (f + kn / 4) + (kn % 4 * 16 + lv) / 16 = 4 * f + kn
  g : (4 * f + kn) / 4 = f + kn / 4
  h : (4 * f + kn) % 4 * 16 = kn % 4 * 16
theorem ar_of {f kn lv n : Nat} (hf : f ≤ 60) (hk : kn < n) (hn : n ≤ 16) (hl : lv < 16) : Ar f kn lv n := by
  have h4 : kn / 4 < 4 := by clear hf hl; omega
  have h5 : kn % 4 < 4 := Nat.mod_lt _ (by decide)
  have h6 : 4 * (kn / 4) + kn % 4 = kn := Nat.div_add_mod kn 4
  have h7 : (kn % 4 * 16 + lv) / 16 = kn % 4 := by clear hf hk hn h4 h5 h6; omega
  refine ⟨?_, ?_, ?_, ?_, ?_, ?_, ?_⟩
  · clear hk hn hl h5 h6 h7; omega
  · clear hf hk hn h4 h6 h7; omega
  · clear hf hk hn hl h4 h6 h7; omega
  · clear hl h4 h5 h6 h7; omega
  · rw [h7, Nat.mul_add, Nat.add_assoc, h6]
  · rw [Nat.add_comm, Nat.add_mul_div_left _ _ (by decide), Nat.add_comm]
  · rw [Nat.mul_add_mod]
theorem cast_in {a : Nat} (h : a < 64) : 0 ≤ (a : Int) ∧ (a : Int) < 64 := ⟨Int.natCast_nonneg _, Int.ofNat_lt.mpr h⟩
theorem byte_in {m : Nat} (h : m < 256) : 0 ≤ (m : Int) ∧ (m : Int) < 256 := ⟨Int.natCast_nonneg _, Int.ofNat_lt.mpr h⟩
theorem range_len {m n : Nat} (h : m = n) (h' : 0 < n) : Builtin.Range.rangeSize 0 (m : Int) 1 = (m : Nat) := by
  unfold Builtin.Range.rangeSize; rw [if_pos (by decide), if_pos (by omega)]; omega
theorem range_small {m : Nat} (h : m ≤ 16) : Builtin.Range.small 0 (m : Int) 1 = true := small_one (by decide) (by decide) (by omega) (by omega)
theorem lv_of {c lv : Nat} (h : lv = c - 65) (h' : 65 ≤ c ∧ c ≤ 80) : lv < 16 ∧ (∀ a : Nat, a + lv = a + c - 65) ∧ (lv : Int) = (c : Int) - 65 := ⟨by omega, fun a => by omega, by omega⟩
theorem idx_val {a c lv : Nat} (h : (lv : Int) = (c : Int) - 65) : (a : Int) * 16 + (c : Int) - 65 = ((a * 16 + lv : Nat) : Int) := by omega
structure S9 where
  vs : List Value
  bs : List By
  n : Nat
theorem seg9 (w : World) (ls : Addr) (vs : List Value) (ns : List Int) (o1 o2 : Obj) (h1 : o2.data = .cell none) (lt : Addr) (t1 t2 t3 t4 : Tok) (h2 : o1.data = .cell (some (.ref lt)))
    (nb : Int) (wd S : List UInt8) (f : Nat) (hS : S = SIGNS) (hW : wd.length = 4 + min 12 ns.length) (hin : ∀ c ∈ wd, 65 ≤ c.toNat ∧ c.toNat ≤ 80) (hf : f ≤ 60)
    (seg10 : ∀ (tvs : List Value) (n : Nat), BytesAre tvs ((List.range wd.length).map (text f wd)) → Seg w ls vs ns 10 [(Str.ofString "script", .ref ls), (Str.ofString "number", .int nb t1), (Str.ofString "word", .bytes wd.toArray t2), (Str.ofString "signs", .bytes S.toArray t3), (Str.ofString "first", .int (f : Int) t4)] (fun L => [(lt, W.listOf tvs.toArray n), (L + 2, o2), (L + 1, o1)]) (fun L => L + 2 < lt)) :
    Seg w ls vs ns 9 [(Str.ofString "script", .ref ls), (Str.ofString "number", .int nb t1), (Str.ofString "word", .bytes wd.toArray t2), (Str.ofString "signs", .bytes S.toArray t3), (Str.ofString "first", .int (f : Int) t4)] (fun L => [(lt, W.listOf #[] 0), (L + 2, o2), (L + 1, o1)]) (fun L => L + 2 < lt) := by
  unfold Seg
  k_fill
  w_top off
  intro p loose mean mg mb dp un gd fa ccd outer A₀ base h₀ L u s Q E B F X N T hl hi h63 hlt1 hdp hun hE hret
  dsimp only at hlt1 N
  replace hlt1 := ltN hlt1
  k_with_none
  k_with "subscriptTail" => (k_here; (with_reducible show wpAny _ _ (subscriptTail _ _ (Value.ref _) (Value.int _ _)) _ _ _); k_dflt (refine' by_sub ?k1 ?k2 ?k3 ?k4 ?k5 ?k6 ?_ ?k7 ?k8; (case k1 => k_asm); (case k2 => k_mem); (case k3 => with_reducible assumption); (case k4 => (first | omega | ((simp only [List.length_append, List.length_dropLast, List.length_set, List.length_cons, List.length_nil, List.length_take, List.length_drop] at *); omega))); (case k5 => (first | omega | ((simp only [List.length_append, List.length_dropLast, List.length_set, List.length_cons, List.length_nil, List.length_take, List.length_drop] at *); omega))); (case k6 => (first | omega | ((simp only [List.length_append, List.length_dropLast, List.length_set, List.length_cons, List.length_nil, List.length_take, List.length_drop] at *); omega))); (case k7 => with_unfolding_all rfl); (case k8 => (intro _; with_unfolding_all rfl)); k_whole); intro _)
  k_with "compareOp Lt bytes bytes" => refine lt_bytes ?_
  k_with "setItem ref int" => (k_here; (with_reducible show wpAny _ _ (setItem (Value.ref _) (Value.int _ _) (Value.bytes _ _)) _ _ _); k_dflt (refine' by_set ?k1 ?k2 ?k3 ?k4 ?k5 ?k6 ?k7 ?_; (case k1 => k_asm); (case k2 => k_asm); (case k3 => k_upd); (case k4 => with_reducible assumption); (case k5 => (first | omega | ((simp only [List.length_append, List.length_dropLast, List.length_set, List.length_cons, List.length_nil, List.length_take, List.length_drop] at *); omega))); (case k6 => (first | omega | ((simp only [List.length_append, List.length_dropLast, List.length_set, List.length_cons, List.length_nil, List.length_take, List.length_drop] at *); omega))); (case k7 => (first | omega | ((simp only [List.length_append, List.length_dropLast, List.length_set, List.length_cons, List.length_nil, List.length_take, List.length_drop] at *); omega))); k_whole); intro h' F' N' hi'; (try k_sweep))
  k_with "call builtin:len" => (k_here; (with_reducible show wpAny _ _ (call (Value.builtin "len") [Value.ref _]) _ _ _); k_dflt (refine' by_len ?k1 ?k2 ?k3 ?k4 ?_; (case k1 => k_asm); (case k2 => k_mem); (case k3 => with_reducible assumption); (case k4 => (first | omega | ((simp only [List.length_append, List.length_dropLast, List.length_set, List.length_cons, List.length_nil, List.length_take, List.length_drop] at *); omega))); k_whole))
  k_with "truthy ref" => (k_here; k_dflt (refine' by_truthy ?k1 ?k2 ?k3 ?k4 ?_; (case k1 => k_asm); (case k2 => k_mem); (case k3 => with_reducible assumption); (case k4 => (first | omega | ((simp only [List.length_append, List.length_dropLast, List.length_set, List.length_cons, List.length_nil, List.length_take, List.length_drop] at *); omega))); k_whole))
  k_with "call builtin:list.pop" => (k_here; (with_reducible show wpAny _ _ (call (Value.builtin _) [Value.ref _]) _ _ _); k_dflt (refine' by_pop ?F ?N ?U ?i ?l ?z ?_; (case F => k_asm); (case N => k_asm); (case U => k_upd); (case i => with_reducible assumption); (case l => (first | omega | ((simp only [List.length_append, List.length_dropLast, List.length_set, List.length_cons, List.length_nil, List.length_take, List.length_drop] at *); omega))); (case z => (rw [PySem.sizeLine_eq]; (first | omega | ((simp only [List.length_append, List.length_dropLast, List.length_set, List.length_cons, List.length_nil, List.length_take, List.length_drop] at *); omega)))); k_whole); intro h' t' F' N' hi'; (try k_sweep))
  k_with "call builtin:list.pop" => (k_here; (with_reducible show wpAny _ _ (call (Value.builtin _) [Value.ref _, Value.int _ _]) _ _ _); k_dflt (refine' by_popAt ?F ?N ?U ?i ?l0 ?l ?z ?_; (case F => k_asm); (case N => k_asm); (case U => k_upd); (case i => with_reducible assumption); (case l0 => (first | omega | ((simp only [List.length_append, List.length_dropLast, List.length_set, List.length_cons, List.length_nil, List.length_take, List.length_drop] at *); omega))); (case l => (first | omega | ((simp only [List.length_append, List.length_dropLast, List.length_set, List.length_cons, List.length_nil, List.length_take, List.length_drop] at *); omega))); (case z => (rw [PySem.sizeLine_eq]; (first | omega | ((simp only [List.length_append, List.length_dropLast, List.length_set, List.length_cons, List.length_nil, List.length_take, List.length_drop] at *); omega)))); k_whole); intro h' t' F' N' hi'; (try k_sweep))
  k_with "call builtin:list.append" => (k_here; (with_reducible show wpAny _ _ (call (Value.builtin _) [Value.ref _, Value.bytes _ _]) _ _ _); k_dflt (refine' by_append ?F ?N ?U ?i ?z ?_; (case F => k_asm); (case N => k_asm); (case U => k_upd); (case i => with_reducible assumption); (case z => (rw [PySem.sizeLine_eq]; (first | omega | ((simp only [List.length_append, List.length_dropLast, List.length_set, List.length_cons, List.length_nil, List.length_take, List.length_drop] at *); omega)))); k_whole); intro h' F' N' hi'; (try k_sweep))
  k_with "call type:type" => ((with_reducible show wpAny _ _ (call (Value.type "type") [Value.bytes _ _]) _ _ _); refine call_type_of (Tx := "bytes") rfl (by decide +kernel) ?_)
  k_with "call type:type" => ((with_reducible show wpAny _ _ (call (Value.type "type") [Value.bool _]) _ _ _); refine call_type_of (Tx := "bool") rfl (by decide +kernel) ?_)
  k_with "exec For" => (k_here; (rename Fr _ _ _ _ => lF'); (with_unfolding_all refine' For_invVF lF' ?k1 ?k2 ?_ ?k3 ?k4; (case k1 => exact rfl); (case k2 => exact rfl); (case k3 => (intro _; rfl)); (case k4 => first | assumption | passes_own); k_whole); clear lF')
  k_with "pyIter ref" => refine Hold.of ?_
  (with_unfolding_all refine wpAny_execs_cons ?_)
  k_steps
  unfold Hold
  (rename Fr _ _ _ _ => lF); (rename News _ _ _ _ => lN); (rename IsRange _ _ _ _ _ _ _ _ => lR)
  have hw16 : wd.length ≤ 16 := hW ▸ Nat.add_le_add_left (Nat.min_le_left _ _) 4
  have hrs := range_len (m := wd.length) rfl (hW ▸ Nat.lt_of_lt_of_le (by decide) (Nat.le_add_right 4 _))
  (with_unfolding_all refine' kst_range (σ := S9) (n := wd.length) (fun c => [(lt, W.listOf c.vs.toArray c.n), (L + 2, o2), (L + 1, o1)]) (fun _ => []) (fun c => BytesAre c.vs c.bs) [Str.ofString "second"] (fun pre c => c.bs = pre.map (fun k => text f wd k.toNat)) ⟨[], [], 0⟩ rfl lR (range_small hw16) hrs lF lN BytesAre.nil ?kk rfl ?turn ?done)
  case kk => kst_all
  case turn =>
    rintro ⟨kvs, kbs, kn⟩ pre k tk0 u' h tk own hk hlen hoff hB hP gF gN
    clear lF lN lR
    dsimp only at gF gN hP hB
    have hno : ∀ p ∈ [(L + 2, o2), (L + 1, o1)] ++ own, p.1 ≠ lt := fun p hp => by
      rcases List.mem_append.mp hp with hp | hp
      · simp only [List.mem_cons, List.not_mem_nil, or_false] at hp
        rcases hp with rfl | rfl
        · exact Nat.ne_of_lt hlt1
        · exact Nat.ne_of_lt (Nat.lt_of_succ_lt hlt1)
      · exact hoff p hp lt (List.Mem.head _)
    obtain ⟨j, hj⟩ : ∃ j, j = pre.length := ⟨_, rfl⟩
    rw [← hj] at hlen hk
    have hk' : k = (j : Int) := hk.trans (Int.zero_add _)
    subst hk'
    have hin' := hin (wd.getD j 0) (by rw [List.getD_eq_getElem?_getD, List.getElem?_eq_getElem hlen]; exact List.getElem_mem _)
    have hbl : kbs.length = j := by rw [hP, List.length_map, hj]
    have hb16 : kbs.length ≤ 16 := hbl ▸ Nat.le_trans (Nat.le_of_lt hlen) hw16
    obtain ⟨lv, hlv⟩ : ∃ lv : Nat, lv = (wd.getD j 0).toNat - 65 := ⟨_, rfl⟩
    have hlv2 := lv_of hlv hin'
    have hA := ar_of hf hlen hw16 hlv2.1
    have hwz : wd.length ≤ 1099511627776 := Nat.le_trans hw16 (by decide)
    try k_fold
    k_with_none
    k_with "subscriptTail" => (k_here; (with_reducible show wpAny _ _ (subscriptTail _ _ (Value.ref _) (Value.int _ _)) _ _ _); k_dflt (refine' by_sub ?k1 ?k2 ?k3 ?k4 ?k5 ?k6 ?_ ?k7 ?k8; (case k1 => k_asm); (case k2 => k_mem); (case k3 => with_reducible assumption); (case k4 => (first | omega | ((simp only [List.length_append, List.length_dropLast, List.length_set, List.length_cons, List.length_nil, List.length_take, List.length_drop] at *); omega))); (case k5 => (first | omega | ((simp only [List.length_append, List.length_dropLast, List.length_set, List.length_cons, List.length_nil, List.length_take, List.length_drop] at *); omega))); (case k6 => (first | omega | ((simp only [List.length_append, List.length_dropLast, List.length_set, List.length_cons, List.length_nil, List.length_take, List.length_drop] at *); omega))); (case k7 => with_unfolding_all rfl); (case k8 => (intro _; with_unfolding_all rfl)); k_whole); intro _)
    k_with "compareOp Lt bytes bytes" => refine lt_bytes ?_
    k_with "setItem ref int" => (k_here; (with_reducible show wpAny _ _ (setItem (Value.ref _) (Value.int _ _) (Value.bytes _ _)) _ _ _); k_dflt (refine' by_set ?k1 ?k2 ?k3 ?k4 ?k5 ?k6 ?k7 ?_; (case k1 => k_asm); (case k2 => k_asm); (case k3 => k_upd); (case k4 => with_reducible assumption); (case k5 => (first | omega | ((simp only [List.length_append, List.length_dropLast, List.length_set, List.length_cons, List.length_nil, List.length_take, List.length_drop] at *); omega))); (case k6 => (first | omega | ((simp only [List.length_append, List.length_dropLast, List.length_set, List.length_cons, List.length_nil, List.length_take, List.length_drop] at *); omega))); (case k7 => (first | omega | ((simp only [List.length_append, List.length_dropLast, List.length_set, List.length_cons, List.length_nil, List.length_take, List.length_drop] at *); omega))); k_whole); intro h' F' N' hi'; (try k_sweep))
    k_with "call builtin:len" => (k_here; (with_reducible show wpAny _ _ (call (Value.builtin "len") [Value.ref _]) _ _ _); k_dflt (refine' by_len ?k1 ?k2 ?k3 ?k4 ?_; (case k1 => k_asm); (case k2 => k_mem); (case k3 => with_reducible assumption); (case k4 => (first | omega | ((simp only [List.length_append, List.length_dropLast, List.length_set, List.length_cons, List.length_nil, List.length_take, List.length_drop] at *); omega))); k_whole))
    k_with "truthy ref" => (k_here; k_dflt (refine' by_truthy ?k1 ?k2 ?k3 ?k4 ?_; (case k1 => k_asm); (case k2 => k_mem); (case k3 => with_reducible assumption); (case k4 => (first | omega | ((simp only [List.length_append, List.length_dropLast, List.length_set, List.length_cons, List.length_nil, List.length_take, List.length_drop] at *); omega))); k_whole))
    k_with "call builtin:list.pop" => (k_here; (with_reducible show wpAny _ _ (call (Value.builtin _) [Value.ref _]) _ _ _); k_dflt (refine' by_pop ?F ?N ?U ?i ?l ?z ?_; (case F => k_asm); (case N => k_asm); (case U => k_upd); (case i => with_reducible assumption); (case l => (first | omega | ((simp only [List.length_append, List.length_dropLast, List.length_set, List.length_cons, List.length_nil, List.length_take, List.length_drop] at *); omega))); (case z => (rw [PySem.sizeLine_eq]; (first | omega | ((simp only [List.length_append, List.length_dropLast, List.length_set, List.length_cons, List.length_nil, List.length_take, List.length_drop] at *); omega)))); k_whole); intro h' t' F' N' hi'; (try k_sweep))
    k_with "call builtin:list.pop" => (k_here; (with_reducible show wpAny _ _ (call (Value.builtin _) [Value.ref _, Value.int _ _]) _ _ _); k_dflt (refine' by_popAt ?F ?N ?U ?i ?l0 ?l ?z ?_; (case F => k_asm); (case N => k_asm); (case U => k_upd); (case i => with_reducible assumption); (case l0 => (first | omega | ((simp only [List.length_append, List.length_dropLast, List.length_set, List.length_cons, List.length_nil, List.length_take, List.length_drop] at *); omega))); (case l => (first | omega | ((simp only [List.length_append, List.length_dropLast, List.length_set, List.length_cons, List.length_nil, List.length_take, List.length_drop] at *); omega))); (case z => (rw [PySem.sizeLine_eq]; (first | omega | ((simp only [List.length_append, List.length_dropLast, List.length_set, List.length_cons, List.length_nil, List.length_take, List.length_drop] at *); omega)))); k_whole); intro h' t' F' N' hi'; (try k_sweep))
    k_with "call builtin:list.append" => (k_here; (with_reducible show wpAny _ _ (call (Value.builtin _) [Value.ref _, Value.bytes _ _]) _ _ _); k_dflt (refine' by_append ?F ?N ?U ?i ?z ?_; (case F => k_asm); (case N => k_asm); (case U => k_upd); (case i => with_reducible assumption); (case z => (rw [PySem.sizeLine_eq]; (first | omega | ((simp only [List.length_append, List.length_dropLast, List.length_set, List.length_cons, List.length_nil, List.length_take, List.length_drop] at *); omega)))); k_whole); intro h' F' N' hi'; (try k_sweep))
    k_with "call type:type" => ((with_reducible show wpAny _ _ (call (Value.type "type") [Value.bytes _ _]) _ _ _); refine call_type_of (Tx := "bytes") rfl (by decide +kernel) ?_)
    k_with "call type:type" => ((with_reducible show wpAny _ _ (call (Value.type "type") [Value.bool _]) _ _ _); refine call_type_of (Tx := "bool") rfl (by decide +kernel) ?_)
    k_with "exec For" => (k_here; (rename Fr _ _ _ _ => lF'); (with_unfolding_all refine' For_invVF lF' ?k1 ?k2 ?_ ?k3 ?k4; (case k1 => exact rfl); (case k2 => exact rfl); (case k3 => (intro _; rfl)); (case k4 => first | assumption | passes_own); k_whole); clear lF')
    k_with "binaryOp FloorDiv int int" => refine fdiv4 ?_
    k_with "binaryOp Mod int int" => refine fmod4 ?_
    k_with "subscriptTail" => (dsimp only; first
      | ((with_reducible show wpAny _ _ (subscriptTail _ _ (Value.bytes (List.toArray S) _) _) _ _ _); k_dflt (refine' sg_itemW hS (j := f + j / 4) (Int.natCast_add _ _).symm hA.a ?_ ?k2 ?k3; (case k2 => with_unfolding_all rfl); (case k3 => (intro _; with_unfolding_all rfl))))
      | ((with_reducible show wpAny _ _ (subscriptTail _ _ (Value.bytes (List.toArray S) _) _) _ _ _); k_dflt (refine' sg_itemW hS (j := j % 4 * 16 + lv) (idx_val hlv2.2.2) hA.b ?_ ?k2 ?k3; (case k2 => with_unfolding_all rfl); (case k3 => (intro _; with_unfolding_all rfl))))
      | ((with_reducible show wpAny _ _ (subscriptTail _ _ (Value.bytes (List.toArray wd) _) _) _ _ _); k_dflt (refine' KBy.item_N (x := wd) hwz (Int.natCast_nonneg j) (Int.ofNat_lt.mpr hlen) ?_ ?k2 ?k3; (case k2 => with_unfolding_all rfl); (case k3 => (intro _; with_unfolding_all rfl))); simp only [Int.toNat_natCast]))
    k_with "call type:bytes" => refine Hold.of ?_
    k_steps
    unfold Hold
    (rename Fr _ _ _ _ => lF); (rename News _ _ _ _ => lN); (rename ∀ _, _ → _ < _ => l1)
    have hI : ∀ a b : Int, ∀ t1 t2 t3 t4 : Tok, IntsAre [Value.int a t1, .int b t2, .int 61 t3, .int 61 t4] [a, b, 61, 61] := fun _ _ _ _ _ _ => .cons _ _ (.cons _ _ (.cons _ _ (.cons _ _ .nil)))
    (with_unfolding_all refine' KBa.make_K lF lN rfl (IsL.isList (lN _ (List.Mem.head _)).1) (hI _ _ _ _ _ _) ?r ?z ?_)
    case r =>
      intro x hx
      simp only [List.mem_cons, List.not_mem_nil, or_false] at hx
      rcases hx with rfl | rfl | rfl | rfl
      · exact byte_in (sg _).toNat_lt
      · exact byte_in (sg _).toNat_lt
      · decide
      · decide
    case z => simp
    intro h' t' k' F' N' _
    have N'' : News h₀ L h' ((lt, W.listOf kvs.toArray kn) :: ([(L + 2, o2), (L + 1, o1)] ++ own)) := fun p hp => N' p (List.Mem.tail _ hp)
    clear lF lN N' l1
    have et : byteArr [((sg (f + j / 4)).toNat : Int), ((sg (j % 4 * 16 + lv)).toNat : Int), 61, 61] = text f wd j := by
      unfold text
      rw [← hlv2.2.1]
      simp [byteArr]
    rw [et]
    k_steps
    (rename Fr _ _ _ _ => gF); (rename News _ _ _ _ => gN); (rename BytesAre _ _ => gB)
    (with_unfolding_all refine kst_end ⟨_, _, _⟩ gF gN led_in own_in rfl gB (by kst_all) (by (intro z h1 h2 h3; (simp only [List.forall_mem_cons, List.not_mem_nil, false_implies, implies_true, and_true, ne_eq] at h2); (simp only [List.contains_cons, List.contains_nil, Bool.or_false, Bool.or_eq_false_iff, beq_eq_false_iff_ne, ne_eq] at h3); (simp only [kstB, h1, h2, h3, if_false, List.contains_cons, List.contains_nil, Bool.or_false, Bool.or_eq_true, beq_iff_eq, or_self, or_false, false_or, Bool.false_eq_true]))) ?_)
    dsimp only
    rw [hP, List.map_append, List.map_singleton, Int.toNat_natCast]
  case done =>
    rintro ⟨kvs, kbs, kn⟩ u' h tk hB hP gF gN
    clear lF lN lR
    dsimp only at gF gN hP hB
    have hP' : kbs = (List.range wd.length).map (text f wd) := by
      rw [hP]
      simp [rangeKs, Function.comp_def]
    rw [hP'] at hB
    (with_unfolding_all refine' Seg.use (seg10 kvs kn hB) B (fr_canon gF ?sc) X gN T hl (by assumption) h63 ?sf hdp hun hE ?sg)
    case sc => kst_all
    case sf => exact hlt1
    case sg => exact fun m' news' h' tk' F' N' => hret m' news' h' tk' F' N'
/-! OyS10 -/
theorem seg10 (w : World) (ls : Addr) (vs : List Value) (ns : List Int) (o1 o2 : Obj) (h1 : o2.data = .cell none) (lt : Addr) (t1 t2 t3 t4 : Tok) (h2 : o1.data = .cell (some (.ref lt)))
    (nb : Int) (wd S : List UInt8) (f : Nat) (tvs : List Value) (n : Nat) (tbs : List By) (hT : BytesAre tvs tbs)
    (seg11 : ∀ (lp : Addr) (pvs : List Value) (ps : List Int) (np : Nat), IntsAre pvs ps → 0 < ps.length → ps.length ≤ 12 → Seg w ls vs ns 11 [(Str.ofString "number", .int nb t1), (Str.ofString "word", .bytes wd.toArray t2), (Str.ofString "signs", .bytes S.toArray t3), (Str.ofString "first", .int (f : Int) t4), (Str.ofString "picks", .ref lp)] (fun L => [(lp, W.listOf pvs.toArray np), (lt, W.listOf tvs.toArray n), (L + 2, o2), (L + 1, o1)]) (fun L => L + 2 < lt ∧ @Ne Nat (L + 2) lp)) :
    Seg w ls vs ns 10 [(Str.ofString "script", .ref ls), (Str.ofString "number", .int nb t1), (Str.ofString "word", .bytes wd.toArray t2), (Str.ofString "signs", .bytes S.toArray t3), (Str.ofString "first", .int (f : Int) t4)] (fun L => [(lt, W.listOf tvs.toArray n), (L + 2, o2), (L + 1, o1)]) (fun L => L + 2 < lt) := by
  unfold Seg
  k_fill
  w_top off
  intro p loose mean mg mb dp un gd fa ccd outer A₀ base h₀ L u s Q E B F X N T hl hi h63 hlt1 hdp hun hE hret
  dsimp only at hlt1 N
  replace hlt1 := ltN hlt1
  k_with_none
  k_with "subscriptTail" => (k_here; (with_reducible show wpAny _ _ (subscriptTail _ _ (Value.ref _) (Value.int _ _)) _ _ _); k_dflt (refine' by_sub ?k1 ?k2 ?k3 ?k4 ?k5 ?k6 ?_ ?k7 ?k8; (case k1 => k_asm); (case k2 => k_mem); (case k3 => with_reducible assumption); (case k4 => (first | omega | ((simp only [List.length_append, List.length_dropLast, List.length_set, List.length_cons, List.length_nil, List.length_take, List.length_drop] at *); omega))); (case k5 => (first | omega | ((simp only [List.length_append, List.length_dropLast, List.length_set, List.length_cons, List.length_nil, List.length_take, List.length_drop] at *); omega))); (case k6 => (first | omega | ((simp only [List.length_append, List.length_dropLast, List.length_set, List.length_cons, List.length_nil, List.length_take, List.length_drop] at *); omega))); (case k7 => with_unfolding_all rfl); (case k8 => (intro _; with_unfolding_all rfl)); k_whole); intro _)
  k_with "compareOp Lt bytes bytes" => refine lt_bytes ?_
  k_with "setItem ref int" => (k_here; (with_reducible show wpAny _ _ (setItem (Value.ref _) (Value.int _ _) (Value.bytes _ _)) _ _ _); k_dflt (refine' by_set ?k1 ?k2 ?k3 ?k4 ?k5 ?k6 ?k7 ?_; (case k1 => k_asm); (case k2 => k_asm); (case k3 => k_upd); (case k4 => with_reducible assumption); (case k5 => (first | omega | ((simp only [List.length_append, List.length_dropLast, List.length_set, List.length_cons, List.length_nil, List.length_take, List.length_drop] at *); omega))); (case k6 => (first | omega | ((simp only [List.length_append, List.length_dropLast, List.length_set, List.length_cons, List.length_nil, List.length_take, List.length_drop] at *); omega))); (case k7 => (first | omega | ((simp only [List.length_append, List.length_dropLast, List.length_set, List.length_cons, List.length_nil, List.length_take, List.length_drop] at *); omega))); k_whole); intro h' F' N' hi'; (try k_sweep))
  k_with "call builtin:len" => (k_here; (with_reducible show wpAny _ _ (call (Value.builtin "len") [Value.ref _]) _ _ _); k_dflt (refine' by_len ?k1 ?k2 ?k3 ?k4 ?_; (case k1 => k_asm); (case k2 => k_mem); (case k3 => with_reducible assumption); (case k4 => (first | omega | ((simp only [List.length_append, List.length_dropLast, List.length_set, List.length_cons, List.length_nil, List.length_take, List.length_drop] at *); omega))); k_whole))
  k_with "truthy ref" => (k_here; k_dflt (refine' by_truthy ?k1 ?k2 ?k3 ?k4 ?_; (case k1 => k_asm); (case k2 => k_mem); (case k3 => with_reducible assumption); (case k4 => (first | omega | ((simp only [List.length_append, List.length_dropLast, List.length_set, List.length_cons, List.length_nil, List.length_take, List.length_drop] at *); omega))); k_whole))
  k_with "call builtin:list.pop" => (k_here; (with_reducible show wpAny _ _ (call (Value.builtin _) [Value.ref _]) _ _ _); k_dflt (refine' by_pop ?F ?N ?U ?i ?l ?z ?_; (case F => k_asm); (case N => k_asm); (case U => k_upd); (case i => with_reducible assumption); (case l => (first | omega | ((simp only [List.length_append, List.length_dropLast, List.length_set, List.length_cons, List.length_nil, List.length_take, List.length_drop] at *); omega))); (case z => (rw [PySem.sizeLine_eq]; (first | omega | ((simp only [List.length_append, List.length_dropLast, List.length_set, List.length_cons, List.length_nil, List.length_take, List.length_drop] at *); omega)))); k_whole); intro h' t' F' N' hi'; (try k_sweep))
  k_with "call builtin:list.pop" => (k_here; (with_reducible show wpAny _ _ (call (Value.builtin _) [Value.ref _, Value.int _ _]) _ _ _); k_dflt (refine' by_popAt ?F ?N ?U ?i ?l0 ?l ?z ?_; (case F => k_asm); (case N => k_asm); (case U => k_upd); (case i => with_reducible assumption); (case l0 => (first | omega | ((simp only [List.length_append, List.length_dropLast, List.length_set, List.length_cons, List.length_nil, List.length_take, List.length_drop] at *); omega))); (case l => (first | omega | ((simp only [List.length_append, List.length_dropLast, List.length_set, List.length_cons, List.length_nil, List.length_take, List.length_drop] at *); omega))); (case z => (rw [PySem.sizeLine_eq]; (first | omega | ((simp only [List.length_append, List.length_dropLast, List.length_set, List.length_cons, List.length_nil, List.length_take, List.length_drop] at *); omega)))); k_whole); intro h' t' F' N' hi'; (try k_sweep))
  k_with "call builtin:list.append" => (k_here; (with_reducible show wpAny _ _ (call (Value.builtin _) [Value.ref _, Value.bytes _ _]) _ _ _); k_dflt (refine' by_append ?F ?N ?U ?i ?z ?_; (case F => k_asm); (case N => k_asm); (case U => k_upd); (case i => with_reducible assumption); (case z => (rw [PySem.sizeLine_eq]; (first | omega | ((simp only [List.length_append, List.length_dropLast, List.length_set, List.length_cons, List.length_nil, List.length_take, List.length_drop] at *); omega)))); k_whole); intro h' F' N' hi'; (try k_sweep))
  k_with "call type:type" => ((with_reducible show wpAny _ _ (call (Value.type "type") [Value.bytes _ _]) _ _ _); refine call_type_of (Tx := "bytes") rfl (by decide +kernel) ?_)
  k_with "call type:type" => ((with_reducible show wpAny _ _ (call (Value.type "type") [Value.bool _]) _ _ _); refine call_type_of (Tx := "bool") rfl (by decide +kernel) ?_)
  k_with "exec For" => (k_here; (rename Fr _ _ _ _ => lF'); (with_unfolding_all refine' For_invVF lF' ?k1 ?k2 ?_ ?k3 ?k4; (case k1 => exact rfl); (case k2 => exact rfl); (case k3 => (intro _; rfl)); (case k4 => first | assumption | passes_own); k_whole); clear lF')
  (with_unfolding_all refine wpAny_execs_cons ?_)
  k_with "execs cons" => refine Hold.of ?_
  k_steps
  · unfold Hold
    (rename Fr _ _ _ _ => gF); (rename News _ _ _ _ => gN); (rename IntsAre _ (List.map _ _) => gI); (rename _ ∧ @Ne Addr lt _ ∧ _ => gO); (rename 0 < List.length _ => gL)
    have d2 : @Ne Nat (L + 2) _ := gO.2.2.1
    (with_unfolding_all refine' Seg.use (seg11 _ _ _ _ gI gL ?s1) B (fr_canon gF ?sc) X ?sN T hl hi h63 ⟨hlt1, d2⟩ hdp hun hE ?sg)
    case s1 => (simp; omega)
    case sc => kst_all
    case sN => exact fun p hp => gN p (by
      rcases List.mem_cons.mp hp with rfl | hp
      · exact List.Mem.head _
      · exact List.Mem.tail _ (List.Mem.tail _ hp))
    case sg => exact fun m' news' h' tk' F' N' => hret m' news' h' tk' F' N'
  · unfold Hold
    (rename Fr _ _ _ _ => gF); (rename News _ _ _ _ => gN); (rename _ ∧ _ < _ ∧ _ < _ ∧ _ < _ ∧ _ < _ => gO)
    have d2 : @Ne Nat (L + 2) _ := Nat.ne_of_lt gO.2.2.2.1
    (with_unfolding_all refine' Seg.use (seg11 _ _ _ _ (IntsAre.cons 2 _ .nil) (by decide) (by decide)) B (fr_canon gF ?sc) X ?sN T hl hi h63 ⟨hlt1, d2⟩ hdp hun hE ?sg)
    case sc => kst_all
    case sN => exact fun p hp => gN p (by
      rcases List.mem_cons.mp hp with rfl | hp
      · exact List.Mem.head _
      · exact List.Mem.tail _ (List.Mem.tail _ (List.Mem.tail _ hp)))
    case sg => exact fun m' news' h' tk' F' N' => hret m' news' h' tk' F' N'
/-! OyS11 -/
section
variable {prog : Program} {w : World} {A : Around} {E : Value → Shared → Prop} {s : Shared} {h₀ : Heap} {L D : Addr} {news : List (Addr × Obj)} {a : Int} {k n : Nat} {t u : Tok} {Q : Value → Shared → Prop}
theorem modN (h0 : 0 < k) (h : ∀ r : Nat, r < k → Q (.int (r : Int) s.toks) { s with toks := s.toks + 1 }) : wpAny (model prog w) A (binaryOp .Mod (.int a t) (.int (k : Int) u)) Q E s := by
  refine mod_int' (by omega) ?_
  have e : a.fmod k = ((a.fmod k).toNat : Int) := by
    rw [Int.fmod_eq_emod_of_nonneg _ (by omega)]
    have := Int.emod_nonneg a (show (k : Int) ≠ 0 by omega)
    omega
  rw [e]
  refine h _ ?_
  rw [Int.fmod_eq_emod_of_nonneg _ (by omega)]
  have h1 := Int.emod_nonneg a (show (k : Int) ≠ 0 by omega)
  have h2 := Int.emod_lt_of_pos a (show 0 < (k : Int) by omega)
  omega
theorem in_sub {value slice : PySem.Expr} {ps : List Int} {pvs : List Value} (N : News h₀ L s.heap news) (hm : (D, W.listOf pvs.toArray n) ∈ news) (hi : IntsAre pvs ps) (h1 : k < ps.length) (hfit : (k : Int) < 2 ^ 63) (h : ∀ t, Q (.int (ps.getD k 0) t) s)
    (hs : subscripted slice false (.ref D) (.int (k : Int) u) = operate [.ref D, .int (k : Int) u] (getItem (.ref D) (.int (k : Int) u)) := by with_unfolding_all rfl) (hg : ∀ r, letTemporaryGo value (.ref D) r = pure () := by intro _; with_unfolding_all rfl) :
    wpAny (model prog w) A (subscriptTail value slice (.ref D) (.int (k : Int) u)) Q E s := by
  obtain ⟨t, ht⟩ := hi.get k (ps.getD k 0) (by rw [List.getD_eq_getElem?_getD, List.getElem?_eq_getElem h1]; rfl)
  exact kim_list N hm rfl rfl (by omega) hfit (by simpa using ht) (h t) hs hg
end
structure S11 where
  hvs : List Value
  hbs : List By
  hn : Nat
  lvs : List Value
  lbs : List By
  ln : Nat
theorem seg11 (w : World) (ls : Addr) (vs : List Value) (ns : List Int) (o1 o2 : Obj) (h1 : o2.data = .cell none) (lt : Addr) (t1 t2 t3 t4 : Tok) (h2 : o1.data = .cell (some (.ref lt)))
    (nb : Int) (wd S : List UInt8) (f : Nat) (tvs : List Value) (n : Nat) (tbs : List By) (hT : BytesAre tvs tbs) (hT0 : 0 < tbs.length) (hTl : tbs.length ≤ 16)
    (lp : Addr) (pvs : List Value) (ps : List Int) (np : Nat) (hP : IntsAre pvs ps) (hP0 : 0 < ps.length) (hP1 : ps.length ≤ 12)
    (seg14 : ∀ (lh : Addr) (hvs : List Value) (hbs : List By) (hn : Nat) (o2' : Obj), o2'.data = .cell (some (.ref lh)) → BytesAre hvs hbs → IsHeap blt #[] hbs → hbs.Perm tbs → Seg w ls vs ns 14 [(Str.ofString "number", .int nb t1), (Str.ofString "word", .bytes wd.toArray t2), (Str.ofString "signs", .bytes S.toArray t3), (Str.ofString "first", .int (f : Int) t4)] (fun L => [(lh, W.listOf hvs.toArray hn), (lt, W.listOf tvs.toArray n), (L + 2, o2'), (L + 1, o1)]) (fun L => L + 2 < lt ∧ lt < lh)) :
    Seg w ls vs ns 11 [(Str.ofString "number", .int nb t1), (Str.ofString "word", .bytes wd.toArray t2), (Str.ofString "signs", .bytes S.toArray t3), (Str.ofString "first", .int (f : Int) t4), (Str.ofString "picks", .ref lp)] (fun L => [(lp, W.listOf pvs.toArray np), (lt, W.listOf tvs.toArray n), (L + 2, o2), (L + 1, o1)]) (fun L => L + 2 < lt ∧ @Ne Nat (L + 2) lp) := by
  unfold Seg
  k_fill
  w_top off
  intro p loose mean mg mb dp un gd fa ccd outer A₀ base h₀ L u s Q E B F X N T hl hi h63 hlt1 hdp hun hE hret
  dsimp only at hlt1 N
  obtain ⟨hlt1, hlt2⟩ := hlt1
  replace hlt1 := ltN hlt1
  k_with_none
  k_with "subscriptTail" => (k_here; (with_reducible show wpAny _ _ (subscriptTail _ _ (Value.ref _) (Value.int _ _)) _ _ _); k_dflt (refine' by_sub ?k1 ?k2 ?k3 ?k4 ?k5 ?k6 ?_ ?k7 ?k8; (case k1 => k_asm); (case k2 => k_mem); (case k3 => with_reducible assumption); (case k4 => (first | omega | ((simp only [List.length_append, List.length_dropLast, List.length_set, List.length_cons, List.length_nil, List.length_take, List.length_drop] at *); omega))); (case k5 => (first | omega | ((simp only [List.length_append, List.length_dropLast, List.length_set, List.length_cons, List.length_nil, List.length_take, List.length_drop] at *); omega))); (case k6 => (first | omega | ((simp only [List.length_append, List.length_dropLast, List.length_set, List.length_cons, List.length_nil, List.length_take, List.length_drop] at *); omega))); (case k7 => with_unfolding_all rfl); (case k8 => (intro _; with_unfolding_all rfl)); k_whole); intro _)
  k_with "compareOp Lt bytes bytes" => refine lt_bytes ?_
  k_with "setItem ref int" => (k_here; (with_reducible show wpAny _ _ (setItem (Value.ref _) (Value.int _ _) (Value.bytes _ _)) _ _ _); k_dflt (refine' by_set ?k1 ?k2 ?k3 ?k4 ?k5 ?k6 ?k7 ?_; (case k1 => k_asm); (case k2 => k_asm); (case k3 => k_upd); (case k4 => with_reducible assumption); (case k5 => (first | omega | ((simp only [List.length_append, List.length_dropLast, List.length_set, List.length_cons, List.length_nil, List.length_take, List.length_drop] at *); omega))); (case k6 => (first | omega | ((simp only [List.length_append, List.length_dropLast, List.length_set, List.length_cons, List.length_nil, List.length_take, List.length_drop] at *); omega))); (case k7 => (first | omega | ((simp only [List.length_append, List.length_dropLast, List.length_set, List.length_cons, List.length_nil, List.length_take, List.length_drop] at *); omega))); k_whole); intro h' F' N' hi'; (try k_sweep))
  k_with "call builtin:len" => (k_here; (with_reducible show wpAny _ _ (call (Value.builtin "len") [Value.ref _]) _ _ _); k_dflt (refine' by_len ?k1 ?k2 ?k3 ?k4 ?_; (case k1 => k_asm); (case k2 => k_mem); (case k3 => with_reducible assumption); (case k4 => (first | omega | ((simp only [List.length_append, List.length_dropLast, List.length_set, List.length_cons, List.length_nil, List.length_take, List.length_drop] at *); omega))); k_whole))
  k_with "truthy ref" => (k_here; k_dflt (refine' by_truthy ?k1 ?k2 ?k3 ?k4 ?_; (case k1 => k_asm); (case k2 => k_mem); (case k3 => with_reducible assumption); (case k4 => (first | omega | ((simp only [List.length_append, List.length_dropLast, List.length_set, List.length_cons, List.length_nil, List.length_take, List.length_drop] at *); omega))); k_whole))
  k_with "call builtin:list.pop" => (k_here; (with_reducible show wpAny _ _ (call (Value.builtin _) [Value.ref _]) _ _ _); k_dflt (refine' by_pop ?F ?N ?U ?i ?l ?z ?_; (case F => k_asm); (case N => k_asm); (case U => k_upd); (case i => with_reducible assumption); (case l => (first | omega | ((simp only [List.length_append, List.length_dropLast, List.length_set, List.length_cons, List.length_nil, List.length_take, List.length_drop] at *); omega))); (case z => (rw [PySem.sizeLine_eq]; (first | omega | ((simp only [List.length_append, List.length_dropLast, List.length_set, List.length_cons, List.length_nil, List.length_take, List.length_drop] at *); omega)))); k_whole); intro h' t' F' N' hi'; (try k_sweep))
  k_with "call builtin:list.pop" => (k_here; (with_reducible show wpAny _ _ (call (Value.builtin _) [Value.ref _, Value.int _ _]) _ _ _); k_dflt (refine' by_popAt ?F ?N ?U ?i ?l0 ?l ?z ?_; (case F => k_asm); (case N => k_asm); (case U => k_upd); (case i => with_reducible assumption); (case l0 => (first | omega | ((simp only [List.length_append, List.length_dropLast, List.length_set, List.length_cons, List.length_nil, List.length_take, List.length_drop] at *); omega))); (case l => (first | omega | ((simp only [List.length_append, List.length_dropLast, List.length_set, List.length_cons, List.length_nil, List.length_take, List.length_drop] at *); omega))); (case z => (rw [PySem.sizeLine_eq]; (first | omega | ((simp only [List.length_append, List.length_dropLast, List.length_set, List.length_cons, List.length_nil, List.length_take, List.length_drop] at *); omega)))); k_whole); intro h' t' F' N' hi'; (try k_sweep))
  k_with "call builtin:list.append" => (k_here; (with_reducible show wpAny _ _ (call (Value.builtin _) [Value.ref _, Value.bytes _ _]) _ _ _); k_dflt (refine' by_append ?F ?N ?U ?i ?z ?_; (case F => k_asm); (case N => k_asm); (case U => k_upd); (case i => with_reducible assumption); (case z => (rw [PySem.sizeLine_eq]; (first | omega | ((simp only [List.length_append, List.length_dropLast, List.length_set, List.length_cons, List.length_nil, List.length_take, List.length_drop] at *); omega)))); k_whole); intro h' F' N' hi'; (try k_sweep))
  k_with "call type:type" => ((with_reducible show wpAny _ _ (call (Value.type "type") [Value.bytes _ _]) _ _ _); refine call_type_of (Tx := "bytes") rfl (by decide +kernel) ?_)
  k_with "call type:type" => ((with_reducible show wpAny _ _ (call (Value.type "type") [Value.bool _]) _ _ _); refine call_type_of (Tx := "bool") rfl (by decide +kernel) ?_)
  k_with "exec For" => (k_here; (rename Fr _ _ _ _ => lF'); (with_unfolding_all refine' For_invVF lF' ?k1 ?k2 ?_ ?k3 ?k4; (case k1 => exact rfl); (case k2 => exact rfl); (case k3 => (intro _; rfl)); (case k4 => first | assumption | passes_own); k_whole); clear lF')
  have hTv : tvs.length = tbs.length := hT.length
  k_with "subscriptTail Name Slice ref ref" => (k_here; k_dflt (refine' kmk_slice_lit (its := tvs.toArray) (zs := tvs) ?F ?N ?l ?p ?q ?e ?_ ?s ?t ?z; (case F => k_asm); (case N => k_asm); (case l => kmk_list); (case p => kmk_part); (case q => kmk_part); (case e => rw [slicePick_all]); (case s => with_unfolding_all rfl); (case t => kmk_pure); (case z => (rw [PySem.sizeLine_eq, List.size_toArray]; omega)); k_whole); intro D' h' F' N' l1; (try k_lt l1); (try k_sweep))
  k_with "newList" => (k_dflt (refine' newList_K ?k1 ?k2 ?_; (case k1 => k_asm); (case k2 => k_asm); k_whole); intro lh h' F' N' l2; (try k_lt l2); (try k_sweep))
  k_with "pyIter ref" => refine Hold.of ?_
  (with_unfolding_all refine wpAny_execs_cons ?_)
  k_steps
  unfold Hold
  (rename Fr _ _ _ _ => lF); (rename News _ _ _ _ => lN); (rename IsRange _ _ _ _ _ _ _ _ => lR); (rename _ = Data.cell (some _) => hc)
  have hrs : Builtin.Range.rangeSize 0 (tbs.length : Int) 1 = (tbs.length : Nat) := by
    unfold Builtin.Range.rangeSize; rw [if_pos (by decide), if_pos (by omega)]; omega
  have a1 := ltN l1.2.1
  have a2 := ltN l1.2.2.1
  have a3 := ltN l2.1
  have a4 := ltN l2.2.1
  have a5 := ltN l2.2.2.1
  obtain ⟨o', ho'⟩ : ∃ o : Obj, o.data = .cell (some (.ref lh)) ∧ News h₀ L _ [(lh, W.listOf #[] 0), (D', W.listOf tvs.toArray 0), (lp, W.listOf pvs.toArray np), (lt, W.listOf tvs.toArray n), (L + 2, o), (L + 1, o1)] := ⟨_, hc, lN⟩
  clear hc lN
  obtain ⟨hc, lN⟩ := ho'
  (with_unfolding_all refine' kst_range (σ := S11) (n := tbs.length) (fun c => [(lh, W.listOf c.hvs.toArray c.hn), (D', W.listOf c.lvs.toArray c.ln), (lp, W.listOf pvs.toArray np), (lt, W.listOf tvs.toArray n), (L + 2, o'), (L + 1, o1)]) (fun _ => []) (fun c => BytesAre c.hvs c.hbs ∧ BytesAre c.lvs c.lbs) [] (fun pre c => IsHeap blt #[] c.hbs ∧ (c.hbs ++ c.lbs).Perm tbs ∧ c.hbs.length = pre.length) ⟨[], [], 0, tvs, tbs, 0⟩ rfl lR (small_one (by omega) (by omega) (by omega) (by omega)) hrs lF lN ⟨BytesAre.nil, hT⟩ ?kk ⟨fun i _ h => absurd h (by simp), .refl _, rfl⟩ ?turn ?done)
  case kk => kst_all
  case turn =>
    rintro ⟨hvs, hbs, hn, lvs, lbs, ln⟩ pre k tk0 u' h tk own hk hlen hoff ⟨hB1, hB2⟩ ⟨hP1, hP2, hP3⟩ gF gN
    clear lF lN lR
    dsimp only at gF gN hP1 hP2 hP3 hB1 hB2
    have hlen2 : hbs.length + lbs.length = tbs.length := by rw [← List.length_append]; exact hP2.length_eq
    k_with_none
    k_with "subscriptTail" => (k_here; (with_reducible show wpAny _ _ (subscriptTail _ _ (Value.ref _) (Value.int _ _)) _ _ _); k_dflt (refine' by_sub ?k1 ?k2 ?k3 ?k4 ?k5 ?k6 ?_ ?k7 ?k8; (case k1 => k_asm); (case k2 => k_mem); (case k3 => with_reducible assumption); (case k4 => (first | omega | ((simp only [List.length_append, List.length_dropLast, List.length_set, List.length_cons, List.length_nil, List.length_take, List.length_drop] at *); omega))); (case k5 => (first | omega | ((simp only [List.length_append, List.length_dropLast, List.length_set, List.length_cons, List.length_nil, List.length_take, List.length_drop] at *); omega))); (case k6 => (first | omega | ((simp only [List.length_append, List.length_dropLast, List.length_set, List.length_cons, List.length_nil, List.length_take, List.length_drop] at *); omega))); (case k7 => with_unfolding_all rfl); (case k8 => (intro _; with_unfolding_all rfl)); k_whole); intro _)
    k_with "compareOp Lt bytes bytes" => refine lt_bytes ?_
    k_with "setItem ref int" => (k_here; (with_reducible show wpAny _ _ (setItem (Value.ref _) (Value.int _ _) (Value.bytes _ _)) _ _ _); k_dflt (refine' by_set ?k1 ?k2 ?k3 ?k4 ?k5 ?k6 ?k7 ?_; (case k1 => k_asm); (case k2 => k_asm); (case k3 => k_upd); (case k4 => with_reducible assumption); (case k5 => (first | omega | ((simp only [List.length_append, List.length_dropLast, List.length_set, List.length_cons, List.length_nil, List.length_take, List.length_drop] at *); omega))); (case k6 => (first | omega | ((simp only [List.length_append, List.length_dropLast, List.length_set, List.length_cons, List.length_nil, List.length_take, List.length_drop] at *); omega))); (case k7 => (first | omega | ((simp only [List.length_append, List.length_dropLast, List.length_set, List.length_cons, List.length_nil, List.length_take, List.length_drop] at *); omega))); k_whole); intro h' F' N' hi'; (try k_sweep))
    k_with "call builtin:len" => (k_here; (with_reducible show wpAny _ _ (call (Value.builtin "len") [Value.ref _]) _ _ _); k_dflt (refine' by_len ?k1 ?k2 ?k3 ?k4 ?_; (case k1 => k_asm); (case k2 => k_mem); (case k3 => with_reducible assumption); (case k4 => (first | omega | ((simp only [List.length_append, List.length_dropLast, List.length_set, List.length_cons, List.length_nil, List.length_take, List.length_drop] at *); omega))); k_whole))
    k_with "truthy ref" => (k_here; k_dflt (refine' by_truthy ?k1 ?k2 ?k3 ?k4 ?_; (case k1 => k_asm); (case k2 => k_mem); (case k3 => with_reducible assumption); (case k4 => (first | omega | ((simp only [List.length_append, List.length_dropLast, List.length_set, List.length_cons, List.length_nil, List.length_take, List.length_drop] at *); omega))); k_whole))
    k_with "call builtin:list.pop" => (k_here; (with_reducible show wpAny _ _ (call (Value.builtin _) [Value.ref _]) _ _ _); k_dflt (refine' by_pop ?F ?N ?U ?i ?l ?z ?_; (case F => k_asm); (case N => k_asm); (case U => k_upd); (case i => with_reducible assumption); (case l => (first | omega | ((simp only [List.length_append, List.length_dropLast, List.length_set, List.length_cons, List.length_nil, List.length_take, List.length_drop] at *); omega))); (case z => (rw [PySem.sizeLine_eq]; (first | omega | ((simp only [List.length_append, List.length_dropLast, List.length_set, List.length_cons, List.length_nil, List.length_take, List.length_drop] at *); omega)))); k_whole); intro h' t' F' N' hi'; (try k_sweep))
    k_with "call builtin:list.pop" => (k_here; (with_reducible show wpAny _ _ (call (Value.builtin _) [Value.ref _, Value.int _ _]) _ _ _); k_dflt (refine' by_popAt ?F ?N ?U ?i ?l0 ?l ?z ?_; (case F => k_asm); (case N => k_asm); (case U => k_upd); (case i => with_reducible assumption); (case l0 => (first | omega | ((simp only [List.length_append, List.length_dropLast, List.length_set, List.length_cons, List.length_nil, List.length_take, List.length_drop] at *); omega))); (case l => (first | omega | ((simp only [List.length_append, List.length_dropLast, List.length_set, List.length_cons, List.length_nil, List.length_take, List.length_drop] at *); omega))); (case z => (rw [PySem.sizeLine_eq]; (first | omega | ((simp only [List.length_append, List.length_dropLast, List.length_set, List.length_cons, List.length_nil, List.length_take, List.length_drop] at *); omega)))); k_whole); intro h' t' F' N' hi'; (try k_sweep))
    k_with "call builtin:list.append" => (k_here; (with_reducible show wpAny _ _ (call (Value.builtin _) [Value.ref _, Value.bytes _ _]) _ _ _); k_dflt (refine' by_append ?F ?N ?U ?i ?z ?_; (case F => k_asm); (case N => k_asm); (case U => k_upd); (case i => with_reducible assumption); (case z => (rw [PySem.sizeLine_eq]; (first | omega | ((simp only [List.length_append, List.length_dropLast, List.length_set, List.length_cons, List.length_nil, List.length_take, List.length_drop] at *); omega)))); k_whole); intro h' F' N' hi'; (try k_sweep))
    k_with "call type:type" => ((with_reducible show wpAny _ _ (call (Value.type "type") [Value.bytes _ _]) _ _ _); refine call_type_of (Tx := "bytes") rfl (by decide +kernel) ?_)
    k_with "call type:type" => ((with_reducible show wpAny _ _ (call (Value.type "type") [Value.bool _]) _ _ _); refine call_type_of (Tx := "bool") rfl (by decide +kernel) ?_)
    k_with "exec For" => (k_here; (rename Fr _ _ _ _ => lF'); (with_unfolding_all refine' For_invVF lF' ?k1 ?k2 ?_ ?k3 ?k4; (case k1 => exact rfl); (case k2 => exact rfl); (case k3 => (intro _; rfl)); (case k4 => first | assumption | passes_own); k_whole); clear lF')
    k_with "binaryOp Mod int int" => (refine modN (by first | omega | ((simp only [List.length_append] at *); omega)) ?_; intro r hr)
    k_with "subscriptTail" => (k_here; (with_reducible show wpAny _ _ (subscriptTail _ _ (Value.ref lp) (Value.int _ _)) _ _ _); k_dflt (refine' in_sub ?k1 ?k2 hP ?k4 ?k5 ?_ ?k7 ?k8; (case k1 => k_asm); (case k2 => k_mem); (case k4 => omega); (case k5 => omega); (case k7 => with_unfolding_all rfl); (case k8 => (intro _; with_unfolding_all rfl)); k_whole); intro _)
    k_with "call builtin:list.pop" => (k_here; (with_reducible show wpAny _ _ (call (Value.builtin _) [Value.ref _, Value.int _ _]) _ _ _); k_dflt (refine' by_popAt ?F ?N ?U hB2 ?l0 ?l ?z ?_; (case F => k_asm); (case N => k_asm); (case U => k_upd); (case l0 => omega); (case l => omega); (case z => (rw [PySem.sizeLine_eq]; omega)); k_whole); intro h' t' F' N' hi'; (try k_sweep))
    k_with "call ref" => refine Hold.of ?_
    k_steps
    unfold Hold
    (rename Fr _ _ _ _ => lF); (rename News _ _ _ _ => lN); (rename BytesAre (_ ++ _) _ => hL)
    simp only [Int.toNat_natCast] at hL lN ⊢
    have hne : ∀ p ∈ (D', W.listOf (List.take r lvs ++ List.drop (r + 1) lvs).toArray (ln + 1)) :: ([(lp, W.listOf pvs.toArray np), (lt, W.listOf tvs.toArray n), (L + 2, o'), (L + 1, o1)] ++ own), p.1 ≠ lh := fun p hp => by
      rcases List.mem_cons.mp hp with rfl | hp
      · exact Nat.ne_of_lt a3
      · rcases List.mem_append.mp hp with hp | hp
        · simp only [List.mem_cons, List.not_mem_nil, or_false] at hp
          rcases hp with rfl | rfl | rfl | rfl
          · exact Nat.ne_of_lt a4
          · exact Nat.ne_of_lt a5
          · exact (show @Ne Nat (L + 2) lh by omega)
          · exact (show @Ne Nat (L + 1) lh by omega)
        · exact hoff p hp lh (List.Mem.head _)
    k_dflt (refine' Ct.use (ct_push w lh hvs hbs hn (lbs.getD r #[]) _ _ hne hB1 ?k1) ?B lF ?X lN ?T ?k ?d ?u ?_; (case B => k_asm); (case X => k_asm); (case T => k_asm); (case k => rfl); (case d => omega); (case u => omega); (case k1 => omega))
    rintro v news' h' tk' ⟨rfl, hvs', hn', hB', rfl⟩ F'' N''
    clear lF lN
    have hpp : (hpush blt #[] hbs (lbs.getD r #[]) ++ (List.take r lbs ++ List.drop (r + 1) lbs)).Perm tbs := by
      refine (((hpush_perm (lt := blt) (d := #[]) hbs (lbs.getD r #[])).append_right _).trans ?_).trans hP2
      refine List.Perm.trans ?_ List.perm_append_comm
      refine List.Perm.trans ?_ (List.perm_append_comm (l₁ := hbs) (l₂ := lbs))
      rw [List.cons_append]
      refine List.Perm.trans List.perm_middle.symm ?_
      refine List.Perm.append_left _ ?_
      refine List.Perm.trans List.perm_middle.symm ?_
      have e : lbs = List.take r lbs ++ lbs.getD r #[] :: List.drop (r + 1) lbs := by
        rw [List.getD_eq_getElem?_getD, List.getElem?_eq_getElem hr]
        simp
      exact e ▸ List.Perm.refl _
    k_steps
    (rename Fr _ _ _ _ => eF); (rename News _ _ _ _ => eN)
    (with_unfolding_all refine kst_end ⟨hvs', _, hn', _, _, ln + 1⟩ eF eN ?e1 ?e2 rfl ⟨hB', hL⟩ (by kst_all) (by (intro z h1 h2 h3; (simp only [List.forall_mem_cons, List.not_mem_nil, false_implies, implies_true, and_true, ne_eq] at h2); (simp only [List.contains_cons, List.contains_nil, Bool.or_false, Bool.or_eq_false_iff, beq_eq_false_iff_ne, ne_eq] at h3); (simp only [kstB, h1, h2, h3, if_false, List.contains_cons, List.contains_nil, Bool.or_false, Bool.or_eq_true, beq_iff_eq, or_self, or_false, false_or, Bool.false_eq_true]))) ⟨?e3, ?e4, ?e5⟩)
    case e1 => exact fun p hp => List.mem_append_left own hp
    case e2 => exact fun p hp => List.Mem.tail _ (List.Mem.tail _ (List.mem_append_right _ hp))
    case e3 => exact hpush_heap bltO _ _ hP1
    case e4 => exact hpp
    case e5 => (show (hpush blt #[] hbs (lbs.getD r #[])).length = _; rw [hpush_len, List.length_append, List.length_singleton, hP3])
  case done =>
    rintro ⟨hvs, hbs, hn, lvs, lbs, ln⟩ u' h tk ⟨hB1, hB2⟩ ⟨hP1, hP2, hP3⟩ gF gN
    clear lF lN lR
    dsimp only at gF gN hP1 hP2 hP3 hB1 hB2
    have hr0 : (rangeKs 0 tbs.length).length = tbs.length := rangeKs_length _ _
    have hlen2 : hbs.length + lbs.length = tbs.length := by rw [← List.length_append]; exact hP2.length_eq
    have hl0 : lbs = [] := List.eq_nil_of_length_eq_zero (by omega)
    rw [hl0, List.append_nil] at hP2
    (with_unfolding_all refine' Seg.use (seg14 lh hvs hbs hn o' hc hB1 hP1 hP2) B (fr_canon gF ?sc) X ?sN T hl (by assumption) h63 ⟨hlt1, a5⟩ hdp hun hE ?sg)
    case sc => kst_all
    case sN => exact fun p hp => gN p (by
      rcases List.mem_cons.mp hp with rfl | hp
      · exact List.Mem.head _
      · exact List.Mem.tail _ (List.Mem.tail _ (List.Mem.tail _ hp)))
    case sg => exact fun m' news' h' tk' F' N' => hret m' news' h' tk' F' N'
/-! OyS14 -/
/-- a comprehension's turns by induction -/
theorem comp_ind {prog : Program} {w : World} {A : Around} {h₀ : Heap} {L : Addr} {m : Str → Option Value} {env : Env} {elt : PySem.Expr} {x : Str} {scope : Scope} {cl : List (Str × Addr)} {s : Shared} {S : List (Addr × Obj) → Prop} {P : Nat → Value → Prop} {Fin : List Value → List (Addr × Obj) → Prop}
    (J : Nat → Nat → List Value → List (Addr × Obj) → Prop) (hz : ∀ i ys nw, J 0 i ys nw → Fin ys nw)
    (hs : ∀ k i ys nw, J (k + 1) i ys nw → ∀ v I oI C oC D m₂ h tk (E' : Value → Shared → Prop), P i v → LCg.NsObj oC m₂ → m₂ x = some v → Fr h₀ L h m → News h₀ L h ((I, oI) :: (C, oC) :: (D, LCg.lst ys) :: nw) → LCg.Off3 I C D nw → ((@Ne Nat I C) ∧ (@Ne Nat I D) ∧ (@Ne Nat C D)) →
      wpAny (model prog w) A (eval elt (compEnvC scope cl C env)) (LCg.CompEnd h₀ L m { s with heap := h, toks := tk } I oI C oC D (LCg.lst ys) S (fun y news' => J k (i + 1) (ys ++ [y]) news')) E' { s with heap := h, toks := tk }) :
    ∀ k i ys nw, J k i ys nw → LCg.CompRest prog w A h₀ L m env elt x scope cl s S P Fin k i ys nw := by
  intro k
  induction k with
  | zero => intro i ys nw hJ; exact LCg.CompRest.zero (hz i ys nw hJ)
  | succ k ih =>
    intro i ys nw hJ
    refine LCg.CompRest.succ fun v I oI C oC D m₂ h tk E' h1 h2 h3 h4 h5 h6 h7 => ?_
    refine wpAny_mono (hs k i ys nw hJ v I oI C oC D m₂ h tk E' h1 h2 h3 h4 h5 h6 h7) (fun y s₂ hc => ?_) fun _ _ e => e
    obtain ⟨h', tk', news', e, F, N, off, hS, r⟩ := hc
    exact ⟨h', tk', news', e, F, N, off, hS, ih _ _ _ r⟩
theorem seg14 (w : World) (ls : Addr) (vs : List Value) (ns : List Int) (o1 o2 : Obj) (lt : Addr) (t1 t2 t3 t4 : Tok) (h2 : o1.data = .cell (some (.ref lt)))
    (nb : Int) (wd S : List UInt8) (f : Nat) (tvs : List Value) (n : Nat) (tbs : List By) (hT : BytesAre tvs tbs) (hTl : tbs.length ≤ 16)
    (lh : Addr) (hvs : List Value) (hbs : List By) (hn : Nat) (h3 : o2.data = .cell (some (.ref lh))) (hH : BytesAre hvs hbs) (hHl : hbs.length = tbs.length)
    (seg15 : ∀ (D : Addr) (ovs : List Value) (on : Nat) (hvs : List Value) (hn : Nat), BytesAre ovs (popAll blt #[] hbs.length hbs) → BytesAre hvs [] → Seg w ls vs ns 15 [(Str.ofString "number", .int nb t1), (Str.ofString "word", .bytes wd.toArray t2), (Str.ofString "signs", .bytes S.toArray t3), (Str.ofString "first", .int (f : Int) t4), (Str.ofString "out", .ref D)] (fun L => [(D, W.listOf ovs.toArray on), (lh, W.listOf hvs.toArray hn), (lt, W.listOf tvs.toArray n), (L + 2, o2), (L + 1, o1)]) (fun _ => True)) :
    Seg w ls vs ns 14 [(Str.ofString "number", .int nb t1), (Str.ofString "word", .bytes wd.toArray t2), (Str.ofString "signs", .bytes S.toArray t3), (Str.ofString "first", .int (f : Int) t4)] (fun L => [(lh, W.listOf hvs.toArray hn), (lt, W.listOf tvs.toArray n), (L + 2, o2), (L + 1, o1)]) (fun L => L + 2 < lt ∧ lt < lh) := by
  unfold Seg
  k_fill
  w_top off
  intro p loose mean mg mb dp un gd fa ccd outer A₀ base h₀ L u s Q E B F X N T hl hi h63 hlt1 hdp hun hE hret
  dsimp only at hlt1 N
  obtain ⟨hlt1, hlt2⟩ := hlt1
  replace hlt1 := ltN hlt1
  replace hlt2 := ltN hlt2
  have hTv : tvs.length = tbs.length := hT.length
  have hHv : hvs.length = hbs.length := hH.length
  k_with_none
  k_with "subscriptTail" => (k_here; (with_reducible show wpAny _ _ (subscriptTail _ _ (Value.ref _) (Value.int _ _)) _ _ _); k_dflt (refine' by_sub ?k1 ?k2 ?k3 ?k4 ?k5 ?k6 ?_ ?k7 ?k8; (case k1 => k_asm); (case k2 => k_mem); (case k3 => with_reducible assumption); (case k4 => (first | omega | ((simp only [List.length_append, List.length_dropLast, List.length_set, List.length_cons, List.length_nil, List.length_take, List.length_drop] at *); omega))); (case k5 => (first | omega | ((simp only [List.length_append, List.length_dropLast, List.length_set, List.length_cons, List.length_nil, List.length_take, List.length_drop] at *); omega))); (case k6 => (first | omega | ((simp only [List.length_append, List.length_dropLast, List.length_set, List.length_cons, List.length_nil, List.length_take, List.length_drop] at *); omega))); (case k7 => with_unfolding_all rfl); (case k8 => (intro _; with_unfolding_all rfl)); k_whole); intro _)
  k_with "compareOp Lt bytes bytes" => refine lt_bytes ?_
  k_with "setItem ref int" => (k_here; (with_reducible show wpAny _ _ (setItem (Value.ref _) (Value.int _ _) (Value.bytes _ _)) _ _ _); k_dflt (refine' by_set ?k1 ?k2 ?k3 ?k4 ?k5 ?k6 ?k7 ?_; (case k1 => k_asm); (case k2 => k_asm); (case k3 => k_upd); (case k4 => with_reducible assumption); (case k5 => (first | omega | ((simp only [List.length_append, List.length_dropLast, List.length_set, List.length_cons, List.length_nil, List.length_take, List.length_drop] at *); omega))); (case k6 => (first | omega | ((simp only [List.length_append, List.length_dropLast, List.length_set, List.length_cons, List.length_nil, List.length_take, List.length_drop] at *); omega))); (case k7 => (first | omega | ((simp only [List.length_append, List.length_dropLast, List.length_set, List.length_cons, List.length_nil, List.length_take, List.length_drop] at *); omega))); k_whole); intro h' F' N' hi'; (try k_sweep))
  k_with "call builtin:len" => (k_here; (with_reducible show wpAny _ _ (call (Value.builtin "len") [Value.ref _]) _ _ _); k_dflt (refine' by_len ?k1 ?k2 ?k3 ?k4 ?_; (case k1 => k_asm); (case k2 => k_mem); (case k3 => with_reducible assumption); (case k4 => (first | omega | ((simp only [List.length_append, List.length_dropLast, List.length_set, List.length_cons, List.length_nil, List.length_take, List.length_drop] at *); omega))); k_whole))
  k_with "truthy ref" => (k_here; k_dflt (refine' by_truthy ?k1 ?k2 ?k3 ?k4 ?_; (case k1 => k_asm); (case k2 => k_mem); (case k3 => with_reducible assumption); (case k4 => (first | omega | ((simp only [List.length_append, List.length_dropLast, List.length_set, List.length_cons, List.length_nil, List.length_take, List.length_drop] at *); omega))); k_whole))
  k_with "call builtin:list.pop" => (k_here; (with_reducible show wpAny _ _ (call (Value.builtin _) [Value.ref _]) _ _ _); k_dflt (refine' by_pop ?F ?N ?U ?i ?l ?z ?_; (case F => k_asm); (case N => k_asm); (case U => k_upd); (case i => with_reducible assumption); (case l => (first | omega | ((simp only [List.length_append, List.length_dropLast, List.length_set, List.length_cons, List.length_nil, List.length_take, List.length_drop] at *); omega))); (case z => (rw [PySem.sizeLine_eq]; (first | omega | ((simp only [List.length_append, List.length_dropLast, List.length_set, List.length_cons, List.length_nil, List.length_take, List.length_drop] at *); omega)))); k_whole); intro h' t' F' N' hi'; (try k_sweep))
  k_with "call builtin:list.pop" => (k_here; (with_reducible show wpAny _ _ (call (Value.builtin _) [Value.ref _, Value.int _ _]) _ _ _); k_dflt (refine' by_popAt ?F ?N ?U ?i ?l0 ?l ?z ?_; (case F => k_asm); (case N => k_asm); (case U => k_upd); (case i => with_reducible assumption); (case l0 => (first | omega | ((simp only [List.length_append, List.length_dropLast, List.length_set, List.length_cons, List.length_nil, List.length_take, List.length_drop] at *); omega))); (case l => (first | omega | ((simp only [List.length_append, List.length_dropLast, List.length_set, List.length_cons, List.length_nil, List.length_take, List.length_drop] at *); omega))); (case z => (rw [PySem.sizeLine_eq]; (first | omega | ((simp only [List.length_append, List.length_dropLast, List.length_set, List.length_cons, List.length_nil, List.length_take, List.length_drop] at *); omega)))); k_whole); intro h' t' F' N' hi'; (try k_sweep))
  k_with "call builtin:list.append" => (k_here; (with_reducible show wpAny _ _ (call (Value.builtin _) [Value.ref _, Value.bytes _ _]) _ _ _); k_dflt (refine' by_append ?F ?N ?U ?i ?z ?_; (case F => k_asm); (case N => k_asm); (case U => k_upd); (case i => with_reducible assumption); (case z => (rw [PySem.sizeLine_eq]; (first | omega | ((simp only [List.length_append, List.length_dropLast, List.length_set, List.length_cons, List.length_nil, List.length_take, List.length_drop] at *); omega)))); k_whole); intro h' F' N' hi'; (try k_sweep))
  k_with "call type:type" => ((with_reducible show wpAny _ _ (call (Value.type "type") [Value.bytes _ _]) _ _ _); refine call_type_of (Tx := "bytes") rfl (by decide +kernel) ?_)
  k_with "call type:type" => ((with_reducible show wpAny _ _ (call (Value.type "type") [Value.bool _]) _ _ _); refine call_type_of (Tx := "bool") rfl (by decide +kernel) ?_)
  k_with "exec For" => (k_here; (rename Fr _ _ _ _ => lF'); (with_unfolding_all refine' For_invVF lF' ?k1 ?k2 ?_ ?k3 ?k4; (case k1 => exact rfl); (case k2 => exact rfl); (case k3 => (intro _; rfl)); (case k4 => first | assumption | passes_own); k_whole); clear lF')
  k_with "CompSrc" => refine Hold.of ?_
  (with_unfolding_all refine wpAny_execs_cons ?_)
  k_steps
  unfold Hold
  (rename Fr _ _ _ _ => lF); (rename News _ _ _ _ => lN)
  refine LCg.CompSrc.ledger (by rfl) lF lN (List.Mem.tail _ (List.Mem.head _)) ?z ?_
  case z => (rw [PySem.sizeLine_eq, List.size_toArray]; omega)
  intro g
  rw [List.size_toArray, hTv, ← hHl]
  refine comp_ind (fun k i ysv nw => ∃ hvs hbs' hn' ys, nw = [(lh, W.listOf hvs.toArray hn'), (lt, W.listOf tvs.toArray n), (L + 2, o2), (L + 1, o1)] ∧ BytesAre hvs hbs' ∧ (hbs'.length = k ∧ k ≤ 16) ∧ BytesAre ysv ys ∧ ys ++ popAll blt #[] k hbs' = popAll blt #[] hbs.length hbs) ?hz ?hs _ _ _ _ ⟨hvs, hbs, hn, [], rfl, hH, ⟨rfl, by omega⟩, BytesAre.nil, rfl⟩
  case hz =>
    rintro i ysv nw ⟨hvs', hbs', hn', ys, rfl, hB, ⟨hk, hk16⟩, hY, hE'⟩
    clear lF lN
    have hb0 : hbs' = [] := List.eq_nil_of_length_eq_zero hk
    subst hb0
    have hY' : ys = popAll blt #[] hbs.length hbs := by rw [← hE']; simp [popAll]
    subst hY'
    intro D h tk gF gN _
    (with_unfolding_all refine' Seg.use (seg15 D ysv ysv.length hvs' hn' hY hB) B (fr_canon gF ?sc) X gN T hl (by assumption) h63 trivial hdp hun hE ?sg)
    case sc => kst_all
    case sg => exact fun m' news' h' tk' F' N' => hret m' news' h' tk' F' N'
  case hs =>
    rintro k i ysv nw ⟨hvs', hbs', hn', ys, rfl, hB, ⟨hk, hk16⟩, hY, hE'⟩ v I oI C oC D m₂ h tk E' _ hC hm gF gN hoff hne
    clear lF lN
    simp only [LCg.Off3, and_true] at hoff
    k_with "call ref" => refine Hold.of ?_
    k_steps
    unfold Hold
    have N2 : News h₀ L h ((lh, W.listOf hvs'.toArray hn') :: [(I, oI), (C, oC), (D, LCg.lst ysv), (lt, W.listOf tvs.toArray n), (L + 2, o2), (L + 1, o1)]) := fun p hp => gN p (by
      simp only [List.mem_cons, List.not_mem_nil, or_false] at hp ⊢
      rcases hp with h | h | h | h | h | h | h <;> simp [h])
    have hne2 : ∀ p ∈ [(I, oI), (C, oC), (D, LCg.lst ysv), (lt, W.listOf tvs.toArray n), (L + 2, o2), (L + 1, o1)], p.1 ≠ lh := fun p hp => by
      simp only [List.mem_cons, List.not_mem_nil, or_false] at hp
      rcases hp with rfl | rfl | rfl | rfl | rfl | rfl
      · exact fun e => hoff.1.1 e.symm
      · exact fun e => hoff.1.2.1 e.symm
      · exact fun e => hoff.1.2.2 e.symm
      · exact Nat.ne_of_lt hlt2
      · exact (show @Ne Nat (L + 2) lh by omega)
      · exact (show @Ne Nat (L + 1) lh by omega)
    k_dflt (refine' Ct.use (ct_pop w lh hvs' hbs' hn' _ hne2 hB ?k1 ?k2) ?B gF ?X N2 ?T ?k ?d ?u ?_; (case B => k_asm); (case X => k_asm); (case T => k_asm); (case k => rfl); (case d => omega); (case u => omega); (case k1 => omega); (case k2 => omega))
    rintro v' news' h' tk' ⟨⟨t', rfl⟩, vs', kk, hB', rfl⟩ F'' N''
    clear gF gN N2
    k_unfold
    dsimp only
    refine LCg.CompEnd.intro F'' N'' [(lh, W.listOf vs'.toArray kk), (lt, W.listOf tvs.toArray n), (L + 2, o2), (L + 1, o1)] ?c1 ⟨hoff.1, hoff.2.1, hoff.2.2.1, hoff.2.2.2, trivial⟩ (.inr ⟨_, List.Mem.tail _ (List.Mem.head _), rfl, _, rfl⟩) ⟨vs', _, kk, ys ++ [_], rfl, hB', ?c2, hY.push _ _, ?c3⟩
    case c1 =>
      intro p hp
      simp only [List.mem_cons, List.not_mem_nil, or_false] at hp ⊢
      rcases hp with h | h | h | h | h | h | h <;> simp [h]
    case c2 => exact ⟨by rw [hpop_len _ (by omega)]; omega, by omega⟩
    case c3 => (rw [← hE', List.append_assoc]; rfl)
/-! OyOrd -/
noncomputable def foursI (n : Nat) : List Int := rangeInts 0 4 ((n + 3) / 4)
noncomputable def kA (f : Nat) (k : Int) : Bool := decide (61 < (f : Int) + k.fdiv 4)
noncomputable def kB (f : Nat) (k : Int) : Bool := decide (51 < (f : Int) + k.fdiv 4) && decide ((f : Int) + k.fdiv 4 < 62)
noncomputable def kC (f : Nat) (k : Int) : Bool := decide ((f : Int) + k.fdiv 4 < 52)
noncomputable def kindsI (f n : Nat) : List Int := (foursI n).filter (kA f) ++ (foursI n).filter (kB f) ++ (foursI n).filter (kC f)
theorem small4_all : ∀ n : Fin 17, Builtin.Range.small 0 (n.val : Int) 4 = true ∧ Builtin.Range.rangeSize 0 (n.val : Int) 4 = (((n.val + 3) / 4 : Nat) : Int) := by decide +kernel
theorem small4 {n : Nat} (h : n ≤ 16) : Builtin.Range.small 0 (n : Int) 4 = true ∧ Builtin.Range.rangeSize 0 (n : Int) 4 = (((n + 3) / 4 : Nat) : Int) := small4_all ⟨n, by omega⟩
theorem keepsR (s : Shared) : Keeps s s := ⟨s.heap, s.toks, rfl, fun _ _ e => e⟩
theorem forever_true : ∀ l : List Int, l.filter (fun _ => true) = l := fun l => List.filter_eq_self.mpr fun _ _ => rfl
/-- a new list on the ledger -/
theorem made_in {h₀ h : Heap} {L D : Addr} {m : Str → Option Value} {news : List (Addr × Obj)} {ys : List Value} {as : List Int} (P : NewPlain h news D ys.toArray) (F : Fr h₀ L h m) (N : News h₀ L h news) (hn : h₀.get? D = none) (hc : CarriedAll ys (as.map PyData.int)) :
    ∃ n, News h₀ L h ((D, W.listOf ys.toArray n) :: news) ∧ (∀ p ∈ news, p.1 ≠ D) ∧ IntsAre ys as := by
  obtain ⟨n, hN, _⟩ := gn_enter P F N hn
  refine ⟨n, hN, P.2, ?_⟩
  have := gn_intsOf (f := fun a : Int => a) P hc
  simpa using this
abbrev ordScope : Scope := { kind := ScopeKind.function, names := [(Str.ofString "word", NameKind.cell), (Str.ofString "first", NameKind.cell), (Str.ofString "k", NameKind.local), (Str.ofString "fours", NameKind.local), (Str.ofString "kinds", NameKind.local), (Str.ofString "order", NameKind.local), (Str.ofString "four", NameKind.local), (Str.ofString "range", NameKind.globalImplicit), (Str.ofString "len", NameKind.globalImplicit)], isGenerator := false, isCoroutine := false, more := [(Str.ofString "fast", Const.str (Str.ofString "word")), (Str.ofString "fast", Const.str (Str.ofString "first")), (Str.ofString "fast", Const.str (Str.ofString "k")), (Str.ofString "fast", Const.str (Str.ofString "fours")), (Str.ofString "fast", Const.str (Str.ofString "kinds")), (Str.ofString "fast", Const.str (Str.ofString "order")), (Str.ofString "fast", Const.str (Str.ofString "place")), (Str.ofString "fast", Const.str (Str.ofString "four"))] }
theorem ord_env (l : Addr) : envOfC (Str.ofString "_law_order") { kind := ScopeKind.function, names := [(Str.ofString "word", NameKind.cell), (Str.ofString "first", NameKind.cell), (Str.ofString "k", NameKind.local), (Str.ofString "fours", NameKind.local), (Str.ofString "kinds", NameKind.local), (Str.ofString "order", NameKind.local), (Str.ofString "four", NameKind.local), (Str.ofString "range", NameKind.globalImplicit), (Str.ofString "len", NameKind.globalImplicit)], isGenerator := false, isCoroutine := false, more := [(Str.ofString "fast", Const.str (Str.ofString "word")), (Str.ofString "fast", Const.str (Str.ofString "first")), (Str.ofString "fast", Const.str (Str.ofString "k")), (Str.ofString "fast", Const.str (Str.ofString "fours")), (Str.ofString "fast", Const.str (Str.ofString "kinds")), (Str.ofString "fast", Const.str (Str.ofString "order")), (Str.ofString "fast", Const.str (Str.ofString "place")), (Str.ofString "fast", Const.str (Str.ofString "four"))] } l 149 (Value.ref 148) = envX (Str.ofString "_law_order") ordScope l 149 (Value.ref 148) [(Str.ofString "first", l + 1 + 1), (Str.ofString "word", l + 1)] := by with_unfolding_all rfl
noncomputable def ordBody : List Stmt := match Challenge.rw_oy0052_01.row.prog.main.body.dropLast.getLast? with
  | some (.FunctionDef _ _ body _ _ _ _ _ _ _) => body
  | _ => []
abbrev ordEnv (L : Addr) : Env := envX (Str.ofString "_law_order") ordScope L 149 (Value.ref 148) [(Str.ofString "first", L + 1 + 1), (Str.ofString "word", L + 1)]
/-- the rest of the order's body from its k-th statement on -/
noncomputable def Ord (w : World) (wd : List UInt8) (f k : Nat) (ps : List (Str × Value)) (news : List (Addr × Obj)) (news0 : List (Addr × Obj)) (facts : Addr → Prop) (R : Value → List (Addr × Obj) → Prop) : Prop :=
  ∀ (p : Program) (loose : List Str) (mean : ExcName → Option Value) (mg mb : Str → Option Value) (dp un : Nat) (gd : Option (List Code)) (cn : Str) (cs : Scope) (La a : Addr) (ccd : Value) (cl : List (Str × Addr)) (outer : List Env) (base h₀ : Heap) (L : Addr) (u : Str → Option Value) (o1 o2 : Obj) (t1 t2 : Tok) (s : Shared) (Q : Flow → Shared → Prop) (E : Value → Shared → Prop),
    Fr h₀ L s.heap (kstB u ps) → (hd.heap_39 w.params).In h₀ → Top p loose mean mg mb h₀ → News h₀ L s.heap (news ++ (L + 1 + 1, o1) :: (L + 1, o2) :: news0) → o1.data = .cell (some (.int (f : Int) t1)) → o2.data = .cell (some (.bytes wd.toArray t2)) → facts L →
    PassesOwn (model Challenge.rw_oy0052_01.row.prog w) ((ktrTop dp un gd cn cs La a ccd cl outer).deeper (ordEnv L)) (ordEnv L) E →
    (∀ v news' m' h' tk', R v news' → Fr h₀ L h' m' → News h₀ L h' news' → Q (.ret v) { s with heap := h', toks := tk' }) →
    wpAny (model Challenge.rw_oy0052_01.row.prog w) ((ktrTop dp un gd cn cs La a ccd cl outer).deeper (ordEnv L)) (execs (ordBody.drop k) (ordEnv L)) Q E s
theorem ord0 (w : World) (wd : List UInt8) (f : Nat) (news0 : List (Addr × Obj)) (R : Value → List (Addr × Obj) → Prop) (hw : 4 ≤ wd.length ∧ wd.length ≤ 16) (hf : f ≤ 60)
    (ord1 : ∀ D ys n, IntsAre ys (foursI wd.length) → Ord w wd f 1 [(Str.ofString "fours", .ref D)] [(D, W.listOf ys.toArray n)] news0 (fun _ => True) R) :
    Ord w wd f 0 [] [] news0 (fun _ => True) R := by
  unfold Ord
  k_fill
  w_top off
  intro p loose mean mg mb dp un gd cn cs La a ccd cl outer base h₀ L u o1 o2 t1 t2 s Q E F X T N d1 d2 _ hE hret
  rw [List.nil_append] at N
  have e2 := hw.2
  k_with_none
  k_with "subscriptTail" => (k_here; (with_reducible show wpAny _ _ (subscriptTail _ _ (Value.ref _) (Value.int _ _)) _ _ _); k_dflt (refine' by_sub ?k1 ?k2 ?k3 ?k4 ?k5 ?k6 ?_ ?k7 ?k8; (case k1 => k_asm); (case k2 => k_mem); (case k3 => with_reducible assumption); (case k4 => (first | omega | ((simp only [List.length_append, List.length_dropLast, List.length_set, List.length_cons, List.length_nil, List.length_take, List.length_drop] at *); omega))); (case k5 => (first | omega | ((simp only [List.length_append, List.length_dropLast, List.length_set, List.length_cons, List.length_nil, List.length_take, List.length_drop] at *); omega))); (case k6 => (first | omega | ((simp only [List.length_append, List.length_dropLast, List.length_set, List.length_cons, List.length_nil, List.length_take, List.length_drop] at *); omega))); (case k7 => with_unfolding_all rfl); (case k8 => (intro _; with_unfolding_all rfl)); k_whole); intro _)
  k_with "compareOp Lt bytes bytes" => refine lt_bytes ?_
  k_with "setItem ref int" => (k_here; (with_reducible show wpAny _ _ (setItem (Value.ref _) (Value.int _ _) (Value.bytes _ _)) _ _ _); k_dflt (refine' by_set ?k1 ?k2 ?k3 ?k4 ?k5 ?k6 ?k7 ?_; (case k1 => k_asm); (case k2 => k_asm); (case k3 => k_upd); (case k4 => with_reducible assumption); (case k5 => (first | omega | ((simp only [List.length_append, List.length_dropLast, List.length_set, List.length_cons, List.length_nil, List.length_take, List.length_drop] at *); omega))); (case k6 => (first | omega | ((simp only [List.length_append, List.length_dropLast, List.length_set, List.length_cons, List.length_nil, List.length_take, List.length_drop] at *); omega))); (case k7 => (first | omega | ((simp only [List.length_append, List.length_dropLast, List.length_set, List.length_cons, List.length_nil, List.length_take, List.length_drop] at *); omega))); k_whole); intro h' F' N' hi'; (try k_sweep))
  k_with "call builtin:len" => (k_here; (with_reducible show wpAny _ _ (call (Value.builtin "len") [Value.ref _]) _ _ _); k_dflt (refine' by_len ?k1 ?k2 ?k3 ?k4 ?_; (case k1 => k_asm); (case k2 => k_mem); (case k3 => with_reducible assumption); (case k4 => (first | omega | ((simp only [List.length_append, List.length_dropLast, List.length_set, List.length_cons, List.length_nil, List.length_take, List.length_drop] at *); omega))); k_whole))
  k_with "truthy ref" => (k_here; k_dflt (refine' by_truthy ?k1 ?k2 ?k3 ?k4 ?_; (case k1 => k_asm); (case k2 => k_mem); (case k3 => with_reducible assumption); (case k4 => (first | omega | ((simp only [List.length_append, List.length_dropLast, List.length_set, List.length_cons, List.length_nil, List.length_take, List.length_drop] at *); omega))); k_whole))
  k_with "call builtin:list.pop" => (k_here; (with_reducible show wpAny _ _ (call (Value.builtin _) [Value.ref _]) _ _ _); k_dflt (refine' by_pop ?F ?N ?U ?i ?l ?z ?_; (case F => k_asm); (case N => k_asm); (case U => k_upd); (case i => with_reducible assumption); (case l => (first | omega | ((simp only [List.length_append, List.length_dropLast, List.length_set, List.length_cons, List.length_nil, List.length_take, List.length_drop] at *); omega))); (case z => (rw [PySem.sizeLine_eq]; (first | omega | ((simp only [List.length_append, List.length_dropLast, List.length_set, List.length_cons, List.length_nil, List.length_take, List.length_drop] at *); omega)))); k_whole); intro h' t' F' N' hi'; (try k_sweep))
  k_with "call builtin:list.pop" => (k_here; (with_reducible show wpAny _ _ (call (Value.builtin _) [Value.ref _, Value.int _ _]) _ _ _); k_dflt (refine' by_popAt ?F ?N ?U ?i ?l0 ?l ?z ?_; (case F => k_asm); (case N => k_asm); (case U => k_upd); (case i => with_reducible assumption); (case l0 => (first | omega | ((simp only [List.length_append, List.length_dropLast, List.length_set, List.length_cons, List.length_nil, List.length_take, List.length_drop] at *); omega))); (case l => (first | omega | ((simp only [List.length_append, List.length_dropLast, List.length_set, List.length_cons, List.length_nil, List.length_take, List.length_drop] at *); omega))); (case z => (rw [PySem.sizeLine_eq]; (first | omega | ((simp only [List.length_append, List.length_dropLast, List.length_set, List.length_cons, List.length_nil, List.length_take, List.length_drop] at *); omega)))); k_whole); intro h' t' F' N' hi'; (try k_sweep))
  k_with "call builtin:list.append" => (k_here; (with_reducible show wpAny _ _ (call (Value.builtin _) [Value.ref _, Value.bytes _ _]) _ _ _); k_dflt (refine' by_append ?F ?N ?U ?i ?z ?_; (case F => k_asm); (case N => k_asm); (case U => k_upd); (case i => with_reducible assumption); (case z => (rw [PySem.sizeLine_eq]; (first | omega | ((simp only [List.length_append, List.length_dropLast, List.length_set, List.length_cons, List.length_nil, List.length_take, List.length_drop] at *); omega)))); k_whole); intro h' F' N' hi'; (try k_sweep))
  k_with "call type:type" => ((with_reducible show wpAny _ _ (call (Value.type "type") [Value.bytes _ _]) _ _ _); refine call_type_of (Tx := "bytes") rfl (by decide +kernel) ?_)
  k_with "call type:type" => ((with_reducible show wpAny _ _ (call (Value.type "type") [Value.bool _]) _ _ _); refine call_type_of (Tx := "bool") rfl (by decide +kernel) ?_)
  k_with "exec For" => (k_here; (rename Fr _ _ _ _ => lF'); (with_unfolding_all refine' For_invVF lF' ?k1 ?k2 ?_ ?k3 ?k4; (case k1 => exact rfl); (case k2 => exact rfl); (case k3 => (intro _; rfl)); (case k4 => first | assumption | passes_own); k_whole); clear lF')
  k_with "exec Assign cons ListComp" => refine Hold.of ?_
  (with_unfolding_all refine wpAny_execs_cons ?_)
  k_steps
  unfold Hold
  (rename Fr _ _ _ _ => lF); (rename News _ _ _ _ => lN)
  k_dflt (refine' Assign_ListComp_DCr (h₀ := h₀) (m := kstB u []) (pz := fun _ => true) (d := PyData.int) ?sw ?sL ?hh ?clos ?cell ?kind ?names ?hx ?hy ?hp ?h ?hs)
  case sw => with_unfolding_all rfl
  case sL => with_unfolding_all rfl
  case hh => with_unfolding_all rfl
  case clos => with_unfolding_all rfl
  case cell => decide
  case kind => with_unfolding_all rfl
  case names => decide
  case hx => with_unfolding_all rfl
  case hy => with_unfolding_all rfl
  case hp => with_unfolding_all rfl
  case hs => intro _; with_unfolding_all rfl
  refine wpAny_rangePack ?_
  k_with "RangePack" => refine Hold.of ?_
  k_steps
  unfold Hold
  (rename Fr _ _ _ _ => lF); (rename News _ _ _ _ => lN); (rename IsRange _ _ _ _ _ _ _ _ => lR)
  rw [List.size_toArray] at lR
  refine RangePack.intro ⟨_, _, _, _, _, _, _, _, (wd.length + 3) / 4, rfl, lR, (small4 e2).1, (small4 e2).2, ?sz, lF, lN, ?tests, ?elt, ?fin⟩
  case sz => (rw [PySem.sizeLine_eq]; omega)
  case tests => exact fun C a v s₂ m₂ E' _ _ _ _ _ _ => wpAny_pure ⟨rfl, keepsR _⟩
  case elt =>
    rintro C a v s₂ m₂ E' _ _ ⟨t, rfl⟩ _ hn hm _
    exact wpAny_Name (wpAny_loadName_local rfl rfl hn hm ⟨.int _ _, keepsR _⟩) (by decide)
  case fin =>
    intro D ys h' tk gF gN hD _ gP gC
    clear lF lN
    rw [forever_true] at gC
    obtain ⟨n, gN', gne, gI⟩ := made_in gP gF gN hD gC
    clear gN
    (with_unfolding_all refine' ord1 D ys n gI p loose mean mg mb dp un gd cn cs La a ccd cl outer base h₀ L _ o1 o2 t1 t2 _ Q E (fr_canon gF ?sc) X T gN' d1 d2 trivial hE ?sg)
    case sc => kst_all
    case sg => exact fun v news' m' h' tk' => hret v news' m' h' tk'
theorem foursI_len (n : Nat) : (foursI n).length = (n + 3) / 4 := rangeInts_length _ _ _
theorem ord1 (w : World) (wd : List UInt8) (f : Nat) (news0 : List (Addr × Obj)) (R : Value → List (Addr × Obj) → Prop) (hw : 4 ≤ wd.length ∧ wd.length ≤ 16) (hf : f ≤ 60) (D : Addr) (ys : List Value) (n : Nat) (hI : IntsAre ys (foursI wd.length))
    (ord2 : ∀ D2 ys2 n2, IntsAre ys2 ((foursI wd.length).filter (kA f)) → Ord w wd f 2 [(Str.ofString "fours", .ref D), (Str.ofString "kinds", .ref D2)] [(D2, W.listOf ys2.toArray n2), (D, W.listOf ys.toArray n)] news0 (fun _ => True) R) :
    Ord w wd f 1 [(Str.ofString "fours", .ref D)] [(D, W.listOf ys.toArray n)] news0 (fun _ => True) R := by
  unfold Ord
  k_fill
  w_top off
  intro p loose mean mg mb dp un gd cn cs La a ccd cl outer base h₀ L u o1 o2 t1 t2 s Q E F X T N d1 d2 _ hE hret
  rw [List.cons_append, List.nil_append] at N
  have e2 := hw.2
  have e3 := foursI_len wd.length
  k_with_none
  k_with "subscriptTail" => (k_here; (with_reducible show wpAny _ _ (subscriptTail _ _ (Value.ref _) (Value.int _ _)) _ _ _); k_dflt (refine' by_sub ?k1 ?k2 ?k3 ?k4 ?k5 ?k6 ?_ ?k7 ?k8; (case k1 => k_asm); (case k2 => k_mem); (case k3 => with_reducible assumption); (case k4 => (first | omega | ((simp only [List.length_append, List.length_dropLast, List.length_set, List.length_cons, List.length_nil, List.length_take, List.length_drop] at *); omega))); (case k5 => (first | omega | ((simp only [List.length_append, List.length_dropLast, List.length_set, List.length_cons, List.length_nil, List.length_take, List.length_drop] at *); omega))); (case k6 => (first | omega | ((simp only [List.length_append, List.length_dropLast, List.length_set, List.length_cons, List.length_nil, List.length_take, List.length_drop] at *); omega))); (case k7 => with_unfolding_all rfl); (case k8 => (intro _; with_unfolding_all rfl)); k_whole); intro _)
  k_with "compareOp Lt bytes bytes" => refine lt_bytes ?_
  k_with "setItem ref int" => (k_here; (with_reducible show wpAny _ _ (setItem (Value.ref _) (Value.int _ _) (Value.bytes _ _)) _ _ _); k_dflt (refine' by_set ?k1 ?k2 ?k3 ?k4 ?k5 ?k6 ?k7 ?_; (case k1 => k_asm); (case k2 => k_asm); (case k3 => k_upd); (case k4 => with_reducible assumption); (case k5 => (first | omega | ((simp only [List.length_append, List.length_dropLast, List.length_set, List.length_cons, List.length_nil, List.length_take, List.length_drop] at *); omega))); (case k6 => (first | omega | ((simp only [List.length_append, List.length_dropLast, List.length_set, List.length_cons, List.length_nil, List.length_take, List.length_drop] at *); omega))); (case k7 => (first | omega | ((simp only [List.length_append, List.length_dropLast, List.length_set, List.length_cons, List.length_nil, List.length_take, List.length_drop] at *); omega))); k_whole); intro h' F' N' hi'; (try k_sweep))
  k_with "call builtin:len" => (k_here; (with_reducible show wpAny _ _ (call (Value.builtin "len") [Value.ref _]) _ _ _); k_dflt (refine' by_len ?k1 ?k2 ?k3 ?k4 ?_; (case k1 => k_asm); (case k2 => k_mem); (case k3 => with_reducible assumption); (case k4 => (first | omega | ((simp only [List.length_append, List.length_dropLast, List.length_set, List.length_cons, List.length_nil, List.length_take, List.length_drop] at *); omega))); k_whole))
  k_with "truthy ref" => (k_here; k_dflt (refine' by_truthy ?k1 ?k2 ?k3 ?k4 ?_; (case k1 => k_asm); (case k2 => k_mem); (case k3 => with_reducible assumption); (case k4 => (first | omega | ((simp only [List.length_append, List.length_dropLast, List.length_set, List.length_cons, List.length_nil, List.length_take, List.length_drop] at *); omega))); k_whole))
  k_with "call builtin:list.pop" => (k_here; (with_reducible show wpAny _ _ (call (Value.builtin _) [Value.ref _]) _ _ _); k_dflt (refine' by_pop ?F ?N ?U ?i ?l ?z ?_; (case F => k_asm); (case N => k_asm); (case U => k_upd); (case i => with_reducible assumption); (case l => (first | omega | ((simp only [List.length_append, List.length_dropLast, List.length_set, List.length_cons, List.length_nil, List.length_take, List.length_drop] at *); omega))); (case z => (rw [PySem.sizeLine_eq]; (first | omega | ((simp only [List.length_append, List.length_dropLast, List.length_set, List.length_cons, List.length_nil, List.length_take, List.length_drop] at *); omega)))); k_whole); intro h' t' F' N' hi'; (try k_sweep))
  k_with "call builtin:list.pop" => (k_here; (with_reducible show wpAny _ _ (call (Value.builtin _) [Value.ref _, Value.int _ _]) _ _ _); k_dflt (refine' by_popAt ?F ?N ?U ?i ?l0 ?l ?z ?_; (case F => k_asm); (case N => k_asm); (case U => k_upd); (case i => with_reducible assumption); (case l0 => (first | omega | ((simp only [List.length_append, List.length_dropLast, List.length_set, List.length_cons, List.length_nil, List.length_take, List.length_drop] at *); omega))); (case l => (first | omega | ((simp only [List.length_append, List.length_dropLast, List.length_set, List.length_cons, List.length_nil, List.length_take, List.length_drop] at *); omega))); (case z => (rw [PySem.sizeLine_eq]; (first | omega | ((simp only [List.length_append, List.length_dropLast, List.length_set, List.length_cons, List.length_nil, List.length_take, List.length_drop] at *); omega)))); k_whole); intro h' t' F' N' hi'; (try k_sweep))
  k_with "call builtin:list.append" => (k_here; (with_reducible show wpAny _ _ (call (Value.builtin _) [Value.ref _, Value.bytes _ _]) _ _ _); k_dflt (refine' by_append ?F ?N ?U ?i ?z ?_; (case F => k_asm); (case N => k_asm); (case U => k_upd); (case i => with_reducible assumption); (case z => (rw [PySem.sizeLine_eq]; (first | omega | ((simp only [List.length_append, List.length_dropLast, List.length_set, List.length_cons, List.length_nil, List.length_take, List.length_drop] at *); omega)))); k_whole); intro h' F' N' hi'; (try k_sweep))
  k_with "call type:type" => ((with_reducible show wpAny _ _ (call (Value.type "type") [Value.bytes _ _]) _ _ _); refine call_type_of (Tx := "bytes") rfl (by decide +kernel) ?_)
  k_with "call type:type" => ((with_reducible show wpAny _ _ (call (Value.type "type") [Value.bool _]) _ _ _); refine call_type_of (Tx := "bool") rfl (by decide +kernel) ?_)
  k_with "exec For" => (k_here; (rename Fr _ _ _ _ => lF'); (with_unfolding_all refine' For_invVF lF' ?k1 ?k2 ?_ ?k3 ?k4; (case k1 => exact rfl); (case k2 => exact rfl); (case k3 => (intro _; rfl)); (case k4 => first | assumption | passes_own); k_whole); clear lF')
  k_with "exec Assign cons ListComp" => refine Hold.of ?_
  (with_unfolding_all refine wpAny_execs_cons ?_)
  k_steps
  unfold Hold
  (rename Fr _ _ _ _ => lF); (rename News _ _ _ _ => lN)
  k_dflt (refine' Assign_ListComp_DCn (K := .int) (h₀ := h₀) (m := kstB u [(Str.ofString "fours", .ref D)]) (pz := kA f) (d := PyData.int) ?sw ?sL ?hh ?clos ?cell ?kind ?names ?hx ?hy ?hp ?h ?hs)
  case sw => with_unfolding_all rfl
  case sL => with_unfolding_all rfl
  case hh => with_unfolding_all rfl
  case clos => with_unfolding_all rfl
  case cell => decide
  case kind => with_unfolding_all rfl
  case names => decide
  case hx => with_unfolding_all rfl
  case hy => with_unfolding_all rfl
  case hp => with_unfolding_all rfl
  case hs => intro _; with_unfolding_all rfl
  refine wpAny_rangePack ?_
  k_with "RangePack" => refine Hold.of ?_
  k_steps
  unfold Hold
  refine RangePack.intro ⟨_, _, _, _, rfl, IsL.isList (lN _ (List.Mem.head _)).1, hI.areOf, ?sz, lF, lN, ?tests, ?elt, ?fin⟩
  case sz => (rw [PySem.sizeLine_eq]; omega)
  case tests =>
    rintro C a v s₂ m₂ E' _ _ ⟨t, rfl⟩ hn hm hk
    have F2 := lF.keeps hk
    have N2 := lN.grown hk
    clear lF lN
    k_with_none
    k_with "subscriptTail" => (k_here; (with_reducible show wpAny _ _ (subscriptTail _ _ (Value.ref _) (Value.int _ _)) _ _ _); k_dflt (refine' by_sub ?k1 ?k2 ?k3 ?k4 ?k5 ?k6 ?_ ?k7 ?k8; (case k1 => k_asm); (case k2 => k_mem); (case k3 => with_reducible assumption); (case k4 => (first | omega | ((simp only [List.length_append, List.length_dropLast, List.length_set, List.length_cons, List.length_nil, List.length_take, List.length_drop] at *); omega))); (case k5 => (first | omega | ((simp only [List.length_append, List.length_dropLast, List.length_set, List.length_cons, List.length_nil, List.length_take, List.length_drop] at *); omega))); (case k6 => (first | omega | ((simp only [List.length_append, List.length_dropLast, List.length_set, List.length_cons, List.length_nil, List.length_take, List.length_drop] at *); omega))); (case k7 => with_unfolding_all rfl); (case k8 => (intro _; with_unfolding_all rfl)); k_whole); intro _)
    k_with "compareOp Lt bytes bytes" => refine lt_bytes ?_
    k_with "setItem ref int" => (k_here; (with_reducible show wpAny _ _ (setItem (Value.ref _) (Value.int _ _) (Value.bytes _ _)) _ _ _); k_dflt (refine' by_set ?k1 ?k2 ?k3 ?k4 ?k5 ?k6 ?k7 ?_; (case k1 => k_asm); (case k2 => k_asm); (case k3 => k_upd); (case k4 => with_reducible assumption); (case k5 => (first | omega | ((simp only [List.length_append, List.length_dropLast, List.length_set, List.length_cons, List.length_nil, List.length_take, List.length_drop] at *); omega))); (case k6 => (first | omega | ((simp only [List.length_append, List.length_dropLast, List.length_set, List.length_cons, List.length_nil, List.length_take, List.length_drop] at *); omega))); (case k7 => (first | omega | ((simp only [List.length_append, List.length_dropLast, List.length_set, List.length_cons, List.length_nil, List.length_take, List.length_drop] at *); omega))); k_whole); intro h' F' N' hi'; (try k_sweep))
    k_with "call builtin:len" => (k_here; (with_reducible show wpAny _ _ (call (Value.builtin "len") [Value.ref _]) _ _ _); k_dflt (refine' by_len ?k1 ?k2 ?k3 ?k4 ?_; (case k1 => k_asm); (case k2 => k_mem); (case k3 => with_reducible assumption); (case k4 => (first | omega | ((simp only [List.length_append, List.length_dropLast, List.length_set, List.length_cons, List.length_nil, List.length_take, List.length_drop] at *); omega))); k_whole))
    k_with "truthy ref" => (k_here; k_dflt (refine' by_truthy ?k1 ?k2 ?k3 ?k4 ?_; (case k1 => k_asm); (case k2 => k_mem); (case k3 => with_reducible assumption); (case k4 => (first | omega | ((simp only [List.length_append, List.length_dropLast, List.length_set, List.length_cons, List.length_nil, List.length_take, List.length_drop] at *); omega))); k_whole))
    k_with "call builtin:list.pop" => (k_here; (with_reducible show wpAny _ _ (call (Value.builtin _) [Value.ref _]) _ _ _); k_dflt (refine' by_pop ?F ?N ?U ?i ?l ?z ?_; (case F => k_asm); (case N => k_asm); (case U => k_upd); (case i => with_reducible assumption); (case l => (first | omega | ((simp only [List.length_append, List.length_dropLast, List.length_set, List.length_cons, List.length_nil, List.length_take, List.length_drop] at *); omega))); (case z => (rw [PySem.sizeLine_eq]; (first | omega | ((simp only [List.length_append, List.length_dropLast, List.length_set, List.length_cons, List.length_nil, List.length_take, List.length_drop] at *); omega)))); k_whole); intro h' t' F' N' hi'; (try k_sweep))
    k_with "call builtin:list.pop" => (k_here; (with_reducible show wpAny _ _ (call (Value.builtin _) [Value.ref _, Value.int _ _]) _ _ _); k_dflt (refine' by_popAt ?F ?N ?U ?i ?l0 ?l ?z ?_; (case F => k_asm); (case N => k_asm); (case U => k_upd); (case i => with_reducible assumption); (case l0 => (first | omega | ((simp only [List.length_append, List.length_dropLast, List.length_set, List.length_cons, List.length_nil, List.length_take, List.length_drop] at *); omega))); (case l => (first | omega | ((simp only [List.length_append, List.length_dropLast, List.length_set, List.length_cons, List.length_nil, List.length_take, List.length_drop] at *); omega))); (case z => (rw [PySem.sizeLine_eq]; (first | omega | ((simp only [List.length_append, List.length_dropLast, List.length_set, List.length_cons, List.length_nil, List.length_take, List.length_drop] at *); omega)))); k_whole); intro h' t' F' N' hi'; (try k_sweep))
    k_with "call builtin:list.append" => (k_here; (with_reducible show wpAny _ _ (call (Value.builtin _) [Value.ref _, Value.bytes _ _]) _ _ _); k_dflt (refine' by_append ?F ?N ?U ?i ?z ?_; (case F => k_asm); (case N => k_asm); (case U => k_upd); (case i => with_reducible assumption); (case z => (rw [PySem.sizeLine_eq]; (first | omega | ((simp only [List.length_append, List.length_dropLast, List.length_set, List.length_cons, List.length_nil, List.length_take, List.length_drop] at *); omega)))); k_whole); intro h' F' N' hi'; (try k_sweep))
    k_with "call type:type" => ((with_reducible show wpAny _ _ (call (Value.type "type") [Value.bytes _ _]) _ _ _); refine call_type_of (Tx := "bytes") rfl (by decide +kernel) ?_)
    k_with "call type:type" => ((with_reducible show wpAny _ _ (call (Value.type "type") [Value.bool _]) _ _ _); refine call_type_of (Tx := "bool") rfl (by decide +kernel) ?_)
    k_with "exec For" => (k_here; (rename Fr _ _ _ _ => lF'); (with_unfolding_all refine' For_invVF lF' ?k1 ?k2 ?_ ?k3 ?k4; (case k1 => exact rfl); (case k2 => exact rfl); (case k3 => (intro _; rfl)); (case k4 => first | assumption | passes_own); k_whole); clear lF')
    k_steps
    exact ⟨_, _, rfl, fun _ _ e => e⟩
  case elt =>
    rintro C a v s₂ m₂ E' _ _ ⟨t, rfl⟩ _ hn hm _
    exact wpAny_Name (wpAny_loadName_local rfl rfl hn hm ⟨.int _ _, keepsR _⟩) (by decide)
  case fin =>
    intro D2 ys2 h' tk gF gN hD _ gP gC
    clear lF lN
    obtain ⟨n2, gN', gne, gI⟩ := made_in gP gF gN hD gC
    clear gN
    (with_unfolding_all refine' ord2 D2 ys2 n2 gI p loose mean mg mb dp un gd cn cs La a ccd cl outer base h₀ L _ o1 o2 t1 t2 _ Q E (fr_canon gF ?sc) X T gN' d1 d2 trivial hE ?sg)
    case sc => kst_all
    case sg => exact fun v news' m' h' tk' => hret v news' m' h' tk'
theorem ord2 (w : World) (wd : List UInt8) (f : Nat) (news0 : List (Addr × Obj)) (R : Value → List (Addr × Obj) → Prop) (hw : 4 ≤ wd.length ∧ wd.length ≤ 16) (hf : f ≤ 60) (D : Addr) (ys : List Value) (n : Nat) (hI : IntsAre ys (foursI wd.length))
    (D2 : Addr) (ys2 : List Value) (n2 : Nat) (ks : List Int) (hI2 : IntsAre ys2 ks) (hks : ks.length ≤ 1000)
    (ord3 : ∀ D3 ys3 n3, IntsAre ys3 (ks ++ (foursI wd.length).filter (kB f)) → Ord w wd f 3 [(Str.ofString "fours", .ref D), (Str.ofString "kinds", .ref D3)] [(D3, W.listOf ys3.toArray n3), (D, W.listOf ys.toArray n)] news0 (fun _ => True) R) :
    Ord w wd f 2 [(Str.ofString "fours", .ref D), (Str.ofString "kinds", .ref D2)] [(D2, W.listOf ys2.toArray n2), (D, W.listOf ys.toArray n)] news0 (fun _ => True) R := by
  unfold Ord
  k_fill
  w_top off
  intro p loose mean mg mb dp un gd cn cs La a ccd cl outer base h₀ L u o1 o2 t1 t2 s Q E F X T N d1 d2 _ hE hret
  rw [List.cons_append, List.cons_append, List.nil_append] at N
  have e2 := hw.2
  have e3 := foursI_len wd.length
  k_with_none
  k_with "subscriptTail" => (k_here; (with_reducible show wpAny _ _ (subscriptTail _ _ (Value.ref _) (Value.int _ _)) _ _ _); k_dflt (refine' by_sub ?k1 ?k2 ?k3 ?k4 ?k5 ?k6 ?_ ?k7 ?k8; (case k1 => k_asm); (case k2 => k_mem); (case k3 => with_reducible assumption); (case k4 => (first | omega | ((simp only [List.length_append, List.length_dropLast, List.length_set, List.length_cons, List.length_nil, List.length_take, List.length_drop] at *); omega))); (case k5 => (first | omega | ((simp only [List.length_append, List.length_dropLast, List.length_set, List.length_cons, List.length_nil, List.length_take, List.length_drop] at *); omega))); (case k6 => (first | omega | ((simp only [List.length_append, List.length_dropLast, List.length_set, List.length_cons, List.length_nil, List.length_take, List.length_drop] at *); omega))); (case k7 => with_unfolding_all rfl); (case k8 => (intro _; with_unfolding_all rfl)); k_whole); intro _)
  k_with "compareOp Lt bytes bytes" => refine lt_bytes ?_
  k_with "setItem ref int" => (k_here; (with_reducible show wpAny _ _ (setItem (Value.ref _) (Value.int _ _) (Value.bytes _ _)) _ _ _); k_dflt (refine' by_set ?k1 ?k2 ?k3 ?k4 ?k5 ?k6 ?k7 ?_; (case k1 => k_asm); (case k2 => k_asm); (case k3 => k_upd); (case k4 => with_reducible assumption); (case k5 => (first | omega | ((simp only [List.length_append, List.length_dropLast, List.length_set, List.length_cons, List.length_nil, List.length_take, List.length_drop] at *); omega))); (case k6 => (first | omega | ((simp only [List.length_append, List.length_dropLast, List.length_set, List.length_cons, List.length_nil, List.length_take, List.length_drop] at *); omega))); (case k7 => (first | omega | ((simp only [List.length_append, List.length_dropLast, List.length_set, List.length_cons, List.length_nil, List.length_take, List.length_drop] at *); omega))); k_whole); intro h' F' N' hi'; (try k_sweep))
  k_with "call builtin:len" => (k_here; (with_reducible show wpAny _ _ (call (Value.builtin "len") [Value.ref _]) _ _ _); k_dflt (refine' by_len ?k1 ?k2 ?k3 ?k4 ?_; (case k1 => k_asm); (case k2 => k_mem); (case k3 => with_reducible assumption); (case k4 => (first | omega | ((simp only [List.length_append, List.length_dropLast, List.length_set, List.length_cons, List.length_nil, List.length_take, List.length_drop] at *); omega))); k_whole))
  k_with "truthy ref" => (k_here; k_dflt (refine' by_truthy ?k1 ?k2 ?k3 ?k4 ?_; (case k1 => k_asm); (case k2 => k_mem); (case k3 => with_reducible assumption); (case k4 => (first | omega | ((simp only [List.length_append, List.length_dropLast, List.length_set, List.length_cons, List.length_nil, List.length_take, List.length_drop] at *); omega))); k_whole))
  k_with "call builtin:list.pop" => (k_here; (with_reducible show wpAny _ _ (call (Value.builtin _) [Value.ref _]) _ _ _); k_dflt (refine' by_pop ?F ?N ?U ?i ?l ?z ?_; (case F => k_asm); (case N => k_asm); (case U => k_upd); (case i => with_reducible assumption); (case l => (first | omega | ((simp only [List.length_append, List.length_dropLast, List.length_set, List.length_cons, List.length_nil, List.length_take, List.length_drop] at *); omega))); (case z => (rw [PySem.sizeLine_eq]; (first | omega | ((simp only [List.length_append, List.length_dropLast, List.length_set, List.length_cons, List.length_nil, List.length_take, List.length_drop] at *); omega)))); k_whole); intro h' t' F' N' hi'; (try k_sweep))
  k_with "call builtin:list.pop" => (k_here; (with_reducible show wpAny _ _ (call (Value.builtin _) [Value.ref _, Value.int _ _]) _ _ _); k_dflt (refine' by_popAt ?F ?N ?U ?i ?l0 ?l ?z ?_; (case F => k_asm); (case N => k_asm); (case U => k_upd); (case i => with_reducible assumption); (case l0 => (first | omega | ((simp only [List.length_append, List.length_dropLast, List.length_set, List.length_cons, List.length_nil, List.length_take, List.length_drop] at *); omega))); (case l => (first | omega | ((simp only [List.length_append, List.length_dropLast, List.length_set, List.length_cons, List.length_nil, List.length_take, List.length_drop] at *); omega))); (case z => (rw [PySem.sizeLine_eq]; (first | omega | ((simp only [List.length_append, List.length_dropLast, List.length_set, List.length_cons, List.length_nil, List.length_take, List.length_drop] at *); omega)))); k_whole); intro h' t' F' N' hi'; (try k_sweep))
  k_with "call builtin:list.append" => (k_here; (with_reducible show wpAny _ _ (call (Value.builtin _) [Value.ref _, Value.bytes _ _]) _ _ _); k_dflt (refine' by_append ?F ?N ?U ?i ?z ?_; (case F => k_asm); (case N => k_asm); (case U => k_upd); (case i => with_reducible assumption); (case z => (rw [PySem.sizeLine_eq]; (first | omega | ((simp only [List.length_append, List.length_dropLast, List.length_set, List.length_cons, List.length_nil, List.length_take, List.length_drop] at *); omega)))); k_whole); intro h' F' N' hi'; (try k_sweep))
  k_with "call type:type" => ((with_reducible show wpAny _ _ (call (Value.type "type") [Value.bytes _ _]) _ _ _); refine call_type_of (Tx := "bytes") rfl (by decide +kernel) ?_)
  k_with "call type:type" => ((with_reducible show wpAny _ _ (call (Value.type "type") [Value.bool _]) _ _ _); refine call_type_of (Tx := "bool") rfl (by decide +kernel) ?_)
  k_with "exec For" => (k_here; (rename Fr _ _ _ _ => lF'); (with_unfolding_all refine' For_invVF lF' ?k1 ?k2 ?_ ?k3 ?k4; (case k1 => exact rfl); (case k2 => exact rfl); (case k3 => (intro _; rfl)); (case k4 => first | assumption | passes_own); k_whole); clear lF')
  k_with "eval ListComp" => refine Hold.of ?_
  k_with "binaryOp Add ref ref" => refine Hold.of ?_
  k_with "RangePack" => refine Hold.of ?_
  (with_unfolding_all refine wpAny_execs_cons ?_)
  k_steps
  unfold Hold
  (rename Fr _ _ _ _ => lF); (rename News _ _ _ _ => lN)
  k_dflt (refine' ListComp_DCn (K := .int) (h₀ := h₀) (L := L) (m := kstB u [(Str.ofString "fours", .ref D), (Str.ofString "kinds", .ref D2)]) (pz := kB f) (d := PyData.int) ?hh ?clos ?cell ?kind ?names ?hx ?h ?hs)
  case hh => with_unfolding_all rfl
  case clos => with_unfolding_all rfl
  case cell => decide
  case kind => with_unfolding_all rfl
  case names => decide
  case hx => with_unfolding_all rfl
  case hs => intro _; with_unfolding_all rfl
  refine wpAny_rangePack ?_
  k_steps
  unfold Hold
  refine RangePack.intro ⟨_, _, _, _, rfl, IsL.isList (lN _ (List.Mem.tail _ (List.Mem.head _))).1, hI.areOf, ?sz, lF, lN, ?tests, ?elt, ?fin⟩
  case sz => (rw [PySem.sizeLine_eq]; omega)
  case tests =>
    rintro C a v s₂ m₂ E' _ _ ⟨t, rfl⟩ hn hm hk
    have F2 := lF.keeps hk
    have N2 := lN.grown hk
    clear lF lN
    k_with_none
    k_with "subscriptTail" => (k_here; (with_reducible show wpAny _ _ (subscriptTail _ _ (Value.ref _) (Value.int _ _)) _ _ _); k_dflt (refine' by_sub ?k1 ?k2 ?k3 ?k4 ?k5 ?k6 ?_ ?k7 ?k8; (case k1 => k_asm); (case k2 => k_mem); (case k3 => with_reducible assumption); (case k4 => (first | omega | ((simp only [List.length_append, List.length_dropLast, List.length_set, List.length_cons, List.length_nil, List.length_take, List.length_drop] at *); omega))); (case k5 => (first | omega | ((simp only [List.length_append, List.length_dropLast, List.length_set, List.length_cons, List.length_nil, List.length_take, List.length_drop] at *); omega))); (case k6 => (first | omega | ((simp only [List.length_append, List.length_dropLast, List.length_set, List.length_cons, List.length_nil, List.length_take, List.length_drop] at *); omega))); (case k7 => with_unfolding_all rfl); (case k8 => (intro _; with_unfolding_all rfl)); k_whole); intro _)
    k_with "compareOp Lt bytes bytes" => refine lt_bytes ?_
    k_with "setItem ref int" => (k_here; (with_reducible show wpAny _ _ (setItem (Value.ref _) (Value.int _ _) (Value.bytes _ _)) _ _ _); k_dflt (refine' by_set ?k1 ?k2 ?k3 ?k4 ?k5 ?k6 ?k7 ?_; (case k1 => k_asm); (case k2 => k_asm); (case k3 => k_upd); (case k4 => with_reducible assumption); (case k5 => (first | omega | ((simp only [List.length_append, List.length_dropLast, List.length_set, List.length_cons, List.length_nil, List.length_take, List.length_drop] at *); omega))); (case k6 => (first | omega | ((simp only [List.length_append, List.length_dropLast, List.length_set, List.length_cons, List.length_nil, List.length_take, List.length_drop] at *); omega))); (case k7 => (first | omega | ((simp only [List.length_append, List.length_dropLast, List.length_set, List.length_cons, List.length_nil, List.length_take, List.length_drop] at *); omega))); k_whole); intro h' F' N' hi'; (try k_sweep))
    k_with "call builtin:len" => (k_here; (with_reducible show wpAny _ _ (call (Value.builtin "len") [Value.ref _]) _ _ _); k_dflt (refine' by_len ?k1 ?k2 ?k3 ?k4 ?_; (case k1 => k_asm); (case k2 => k_mem); (case k3 => with_reducible assumption); (case k4 => (first | omega | ((simp only [List.length_append, List.length_dropLast, List.length_set, List.length_cons, List.length_nil, List.length_take, List.length_drop] at *); omega))); k_whole))
    k_with "truthy ref" => (k_here; k_dflt (refine' by_truthy ?k1 ?k2 ?k3 ?k4 ?_; (case k1 => k_asm); (case k2 => k_mem); (case k3 => with_reducible assumption); (case k4 => (first | omega | ((simp only [List.length_append, List.length_dropLast, List.length_set, List.length_cons, List.length_nil, List.length_take, List.length_drop] at *); omega))); k_whole))
    k_with "call builtin:list.pop" => (k_here; (with_reducible show wpAny _ _ (call (Value.builtin _) [Value.ref _]) _ _ _); k_dflt (refine' by_pop ?F ?N ?U ?i ?l ?z ?_; (case F => k_asm); (case N => k_asm); (case U => k_upd); (case i => with_reducible assumption); (case l => (first | omega | ((simp only [List.length_append, List.length_dropLast, List.length_set, List.length_cons, List.length_nil, List.length_take, List.length_drop] at *); omega))); (case z => (rw [PySem.sizeLine_eq]; (first | omega | ((simp only [List.length_append, List.length_dropLast, List.length_set, List.length_cons, List.length_nil, List.length_take, List.length_drop] at *); omega)))); k_whole); intro h' t' F' N' hi'; (try k_sweep))
    k_with "call builtin:list.pop" => (k_here; (with_reducible show wpAny _ _ (call (Value.builtin _) [Value.ref _, Value.int _ _]) _ _ _); k_dflt (refine' by_popAt ?F ?N ?U ?i ?l0 ?l ?z ?_; (case F => k_asm); (case N => k_asm); (case U => k_upd); (case i => with_reducible assumption); (case l0 => (first | omega | ((simp only [List.length_append, List.length_dropLast, List.length_set, List.length_cons, List.length_nil, List.length_take, List.length_drop] at *); omega))); (case l => (first | omega | ((simp only [List.length_append, List.length_dropLast, List.length_set, List.length_cons, List.length_nil, List.length_take, List.length_drop] at *); omega))); (case z => (rw [PySem.sizeLine_eq]; (first | omega | ((simp only [List.length_append, List.length_dropLast, List.length_set, List.length_cons, List.length_nil, List.length_take, List.length_drop] at *); omega)))); k_whole); intro h' t' F' N' hi'; (try k_sweep))
    k_with "call builtin:list.append" => (k_here; (with_reducible show wpAny _ _ (call (Value.builtin _) [Value.ref _, Value.bytes _ _]) _ _ _); k_dflt (refine' by_append ?F ?N ?U ?i ?z ?_; (case F => k_asm); (case N => k_asm); (case U => k_upd); (case i => with_reducible assumption); (case z => (rw [PySem.sizeLine_eq]; (first | omega | ((simp only [List.length_append, List.length_dropLast, List.length_set, List.length_cons, List.length_nil, List.length_take, List.length_drop] at *); omega)))); k_whole); intro h' F' N' hi'; (try k_sweep))
    k_with "call type:type" => ((with_reducible show wpAny _ _ (call (Value.type "type") [Value.bytes _ _]) _ _ _); refine call_type_of (Tx := "bytes") rfl (by decide +kernel) ?_)
    k_with "call type:type" => ((with_reducible show wpAny _ _ (call (Value.type "type") [Value.bool _]) _ _ _); refine call_type_of (Tx := "bool") rfl (by decide +kernel) ?_)
    k_with "exec For" => (k_here; (rename Fr _ _ _ _ => lF'); (with_unfolding_all refine' For_invVF lF' ?k1 ?k2 ?_ ?k3 ?k4; (case k1 => exact rfl); (case k2 => exact rfl); (case k3 => (intro _; rfl)); (case k4 => first | assumption | passes_own); k_whole); clear lF')
    k_steps
    all_goals first
      | exact ⟨_, _, rfl, fun _ _ e => e⟩
      | (unfold kB; rw [decide_eq_true (p := 51 < (f : Int) + a.fdiv 4) (by assumption)]; rfl)
      | (unfold kB; rw [decide_eq_false (p := 51 < (f : Int) + a.fdiv 4) (by assumption)]; rfl)
  case elt =>
    rintro C a v s₂ m₂ E' _ _ ⟨t, rfl⟩ _ hn hm _
    exact wpAny_Name (wpAny_loadName_local rfl rfl hn hm ⟨.int _ _, keepsR _⟩) (by decide)
  case fin =>
    intro D3 ys3 h' tk gF gN hD _ gP gC
    clear lF lN
    obtain ⟨n3, gN', gne, gI⟩ := made_in gP gF gN hD gC
    clear gN
    dsimp only
    try k_fold
    k_with "binaryOp Add ref ref" => refine Hold.of ?_
    k_steps
    unfold Hold
    (rename Fr _ _ _ _ => lF); (rename News _ _ _ _ => lN)
    refine ladd_ints lF lN (News.isList lN (List.Mem.tail _ (List.Mem.head _))) (News.isList lN (List.Mem.head _)) hI2 gI ?sz2 ?_
    case sz2 => (rw [PySem.sizeLine_eq]; have := List.length_filter_le (kB f) (foursI wd.length); omega)
    intro D4 ys4 h' F' N' hI4 _
    clear lF lN
    k_with "execs cons" => refine Hold.of ?_
    k_steps
    unfold Hold
    (rename Fr _ _ _ _ => lF); (rename News _ _ _ _ => lN)
    (with_unfolding_all refine' ord3 D4 ys4 0 hI4 p loose mean mg mb dp un gd cn cs La a ccd cl outer base h₀ L _ o1 o2 t1 t2 _ Q E (fr_canon lF ?sc) X T ?sN d1 d2 trivial hE ?sg)
    case sc => kst_all
    case sN => exact fun p hp => lN p (by
      rcases List.mem_cons.mp hp with rfl | hp
      · exact List.Mem.head _
      · exact List.Mem.tail _ (List.Mem.tail _ (List.Mem.tail _ hp)))
    case sg => exact fun v news' m' h' tk' => hret v news' m' h' tk'
theorem ord3 (w : World) (wd : List UInt8) (f : Nat) (news0 : List (Addr × Obj)) (R : Value → List (Addr × Obj) → Prop) (hw : 4 ≤ wd.length ∧ wd.length ≤ 16) (hf : f ≤ 60) (D : Addr) (ys : List Value) (n : Nat) (hI : IntsAre ys (foursI wd.length))
    (D2 : Addr) (ys2 : List Value) (n2 : Nat) (ks : List Int) (hI2 : IntsAre ys2 ks) (hks : ks.length ≤ 1000)
    (ord5 : ∀ D3 ys3 n3 lo, IntsAre ys3 (ks ++ (foursI wd.length).filter (kC f)) → Ord w wd f 5 [(Str.ofString "kinds", .ref D3), (Str.ofString "order", .ref lo)] [(lo, W.listOf #[] 0), (D3, W.listOf ys3.toArray n3)] news0 (fun L => L + 1 + 1 < lo ∧ D3 < lo ∧ ∀ p ∈ news0, p.1 < lo) R) :
    Ord w wd f 3 [(Str.ofString "fours", .ref D), (Str.ofString "kinds", .ref D2)] [(D2, W.listOf ys2.toArray n2), (D, W.listOf ys.toArray n)] news0 (fun _ => True) R := by
  unfold Ord
  k_fill
  w_top off
  intro p loose mean mg mb dp un gd cn cs La a ccd cl outer base h₀ L u o1 o2 t1 t2 s Q E F X T N d1 d2 _ hE hret
  rw [List.cons_append, List.cons_append, List.nil_append] at N
  have e2 := hw.2
  have e3 := foursI_len wd.length
  k_with_none
  k_with "subscriptTail" => (k_here; (with_reducible show wpAny _ _ (subscriptTail _ _ (Value.ref _) (Value.int _ _)) _ _ _); k_dflt (refine' by_sub ?k1 ?k2 ?k3 ?k4 ?k5 ?k6 ?_ ?k7 ?k8; (case k1 => k_asm); (case k2 => k_mem); (case k3 => with_reducible assumption); (case k4 => (first | omega | ((simp only [List.length_append, List.length_dropLast, List.length_set, List.length_cons, List.length_nil, List.length_take, List.length_drop] at *); omega))); (case k5 => (first | omega | ((simp only [List.length_append, List.length_dropLast, List.length_set, List.length_cons, List.length_nil, List.length_take, List.length_drop] at *); omega))); (case k6 => (first | omega | ((simp only [List.length_append, List.length_dropLast, List.length_set, List.length_cons, List.length_nil, List.length_take, List.length_drop] at *); omega))); (case k7 => with_unfolding_all rfl); (case k8 => (intro _; with_unfolding_all rfl)); k_whole); intro _)
  k_with "compareOp Lt bytes bytes" => refine lt_bytes ?_
  k_with "setItem ref int" => (k_here; (with_reducible show wpAny _ _ (setItem (Value.ref _) (Value.int _ _) (Value.bytes _ _)) _ _ _); k_dflt (refine' by_set ?k1 ?k2 ?k3 ?k4 ?k5 ?k6 ?k7 ?_; (case k1 => k_asm); (case k2 => k_asm); (case k3 => k_upd); (case k4 => with_reducible assumption); (case k5 => (first | omega | ((simp only [List.length_append, List.length_dropLast, List.length_set, List.length_cons, List.length_nil, List.length_take, List.length_drop] at *); omega))); (case k6 => (first | omega | ((simp only [List.length_append, List.length_dropLast, List.length_set, List.length_cons, List.length_nil, List.length_take, List.length_drop] at *); omega))); (case k7 => (first | omega | ((simp only [List.length_append, List.length_dropLast, List.length_set, List.length_cons, List.length_nil, List.length_take, List.length_drop] at *); omega))); k_whole); intro h' F' N' hi'; (try k_sweep))
  k_with "call builtin:len" => (k_here; (with_reducible show wpAny _ _ (call (Value.builtin "len") [Value.ref _]) _ _ _); k_dflt (refine' by_len ?k1 ?k2 ?k3 ?k4 ?_; (case k1 => k_asm); (case k2 => k_mem); (case k3 => with_reducible assumption); (case k4 => (first | omega | ((simp only [List.length_append, List.length_dropLast, List.length_set, List.length_cons, List.length_nil, List.length_take, List.length_drop] at *); omega))); k_whole))
  k_with "truthy ref" => (k_here; k_dflt (refine' by_truthy ?k1 ?k2 ?k3 ?k4 ?_; (case k1 => k_asm); (case k2 => k_mem); (case k3 => with_reducible assumption); (case k4 => (first | omega | ((simp only [List.length_append, List.length_dropLast, List.length_set, List.length_cons, List.length_nil, List.length_take, List.length_drop] at *); omega))); k_whole))
  k_with "call builtin:list.pop" => (k_here; (with_reducible show wpAny _ _ (call (Value.builtin _) [Value.ref _]) _ _ _); k_dflt (refine' by_pop ?F ?N ?U ?i ?l ?z ?_; (case F => k_asm); (case N => k_asm); (case U => k_upd); (case i => with_reducible assumption); (case l => (first | omega | ((simp only [List.length_append, List.length_dropLast, List.length_set, List.length_cons, List.length_nil, List.length_take, List.length_drop] at *); omega))); (case z => (rw [PySem.sizeLine_eq]; (first | omega | ((simp only [List.length_append, List.length_dropLast, List.length_set, List.length_cons, List.length_nil, List.length_take, List.length_drop] at *); omega)))); k_whole); intro h' t' F' N' hi'; (try k_sweep))
  k_with "call builtin:list.pop" => (k_here; (with_reducible show wpAny _ _ (call (Value.builtin _) [Value.ref _, Value.int _ _]) _ _ _); k_dflt (refine' by_popAt ?F ?N ?U ?i ?l0 ?l ?z ?_; (case F => k_asm); (case N => k_asm); (case U => k_upd); (case i => with_reducible assumption); (case l0 => (first | omega | ((simp only [List.length_append, List.length_dropLast, List.length_set, List.length_cons, List.length_nil, List.length_take, List.length_drop] at *); omega))); (case l => (first | omega | ((simp only [List.length_append, List.length_dropLast, List.length_set, List.length_cons, List.length_nil, List.length_take, List.length_drop] at *); omega))); (case z => (rw [PySem.sizeLine_eq]; (first | omega | ((simp only [List.length_append, List.length_dropLast, List.length_set, List.length_cons, List.length_nil, List.length_take, List.length_drop] at *); omega)))); k_whole); intro h' t' F' N' hi'; (try k_sweep))
  k_with "call builtin:list.append" => (k_here; (with_reducible show wpAny _ _ (call (Value.builtin _) [Value.ref _, Value.bytes _ _]) _ _ _); k_dflt (refine' by_append ?F ?N ?U ?i ?z ?_; (case F => k_asm); (case N => k_asm); (case U => k_upd); (case i => with_reducible assumption); (case z => (rw [PySem.sizeLine_eq]; (first | omega | ((simp only [List.length_append, List.length_dropLast, List.length_set, List.length_cons, List.length_nil, List.length_take, List.length_drop] at *); omega)))); k_whole); intro h' F' N' hi'; (try k_sweep))
  k_with "call type:type" => ((with_reducible show wpAny _ _ (call (Value.type "type") [Value.bytes _ _]) _ _ _); refine call_type_of (Tx := "bytes") rfl (by decide +kernel) ?_)
  k_with "call type:type" => ((with_reducible show wpAny _ _ (call (Value.type "type") [Value.bool _]) _ _ _); refine call_type_of (Tx := "bool") rfl (by decide +kernel) ?_)
  k_with "exec For" => (k_here; (rename Fr _ _ _ _ => lF'); (with_unfolding_all refine' For_invVF lF' ?k1 ?k2 ?_ ?k3 ?k4; (case k1 => exact rfl); (case k2 => exact rfl); (case k3 => (intro _; rfl)); (case k4 => first | assumption | passes_own); k_whole); clear lF')
  k_with "eval ListComp" => refine Hold.of ?_
  k_with "binaryOp Add ref ref" => refine Hold.of ?_
  k_with "RangePack" => refine Hold.of ?_
  (with_unfolding_all refine wpAny_execs_cons ?_)
  k_steps
  unfold Hold
  (rename Fr _ _ _ _ => lF); (rename News _ _ _ _ => lN)
  k_dflt (refine' ListComp_DCn (K := .int) (h₀ := h₀) (L := L) (m := kstB u [(Str.ofString "fours", .ref D), (Str.ofString "kinds", .ref D2)]) (pz := kC f) (d := PyData.int) ?hh ?clos ?cell ?kind ?names ?hx ?h ?hs)
  case hh => with_unfolding_all rfl
  case clos => with_unfolding_all rfl
  case cell => decide
  case kind => with_unfolding_all rfl
  case names => decide
  case hx => with_unfolding_all rfl
  case hs => intro _; with_unfolding_all rfl
  refine wpAny_rangePack ?_
  k_steps
  unfold Hold
  refine RangePack.intro ⟨_, _, _, _, rfl, IsL.isList (lN _ (List.Mem.tail _ (List.Mem.head _))).1, hI.areOf, ?sz, lF, lN, ?tests, ?elt, ?fin⟩
  case sz => (rw [PySem.sizeLine_eq]; omega)
  case tests =>
    rintro C a v s₂ m₂ E' _ _ ⟨t, rfl⟩ hn hm hk
    have F2 := lF.keeps hk
    have N2 := lN.grown hk
    clear lF lN
    k_with_none
    k_with "subscriptTail" => (k_here; (with_reducible show wpAny _ _ (subscriptTail _ _ (Value.ref _) (Value.int _ _)) _ _ _); k_dflt (refine' by_sub ?k1 ?k2 ?k3 ?k4 ?k5 ?k6 ?_ ?k7 ?k8; (case k1 => k_asm); (case k2 => k_mem); (case k3 => with_reducible assumption); (case k4 => (first | omega | ((simp only [List.length_append, List.length_dropLast, List.length_set, List.length_cons, List.length_nil, List.length_take, List.length_drop] at *); omega))); (case k5 => (first | omega | ((simp only [List.length_append, List.length_dropLast, List.length_set, List.length_cons, List.length_nil, List.length_take, List.length_drop] at *); omega))); (case k6 => (first | omega | ((simp only [List.length_append, List.length_dropLast, List.length_set, List.length_cons, List.length_nil, List.length_take, List.length_drop] at *); omega))); (case k7 => with_unfolding_all rfl); (case k8 => (intro _; with_unfolding_all rfl)); k_whole); intro _)
    k_with "compareOp Lt bytes bytes" => refine lt_bytes ?_
    k_with "setItem ref int" => (k_here; (with_reducible show wpAny _ _ (setItem (Value.ref _) (Value.int _ _) (Value.bytes _ _)) _ _ _); k_dflt (refine' by_set ?k1 ?k2 ?k3 ?k4 ?k5 ?k6 ?k7 ?_; (case k1 => k_asm); (case k2 => k_asm); (case k3 => k_upd); (case k4 => with_reducible assumption); (case k5 => (first | omega | ((simp only [List.length_append, List.length_dropLast, List.length_set, List.length_cons, List.length_nil, List.length_take, List.length_drop] at *); omega))); (case k6 => (first | omega | ((simp only [List.length_append, List.length_dropLast, List.length_set, List.length_cons, List.length_nil, List.length_take, List.length_drop] at *); omega))); (case k7 => (first | omega | ((simp only [List.length_append, List.length_dropLast, List.length_set, List.length_cons, List.length_nil, List.length_take, List.length_drop] at *); omega))); k_whole); intro h' F' N' hi'; (try k_sweep))
    k_with "call builtin:len" => (k_here; (with_reducible show wpAny _ _ (call (Value.builtin "len") [Value.ref _]) _ _ _); k_dflt (refine' by_len ?k1 ?k2 ?k3 ?k4 ?_; (case k1 => k_asm); (case k2 => k_mem); (case k3 => with_reducible assumption); (case k4 => (first | omega | ((simp only [List.length_append, List.length_dropLast, List.length_set, List.length_cons, List.length_nil, List.length_take, List.length_drop] at *); omega))); k_whole))
    k_with "truthy ref" => (k_here; k_dflt (refine' by_truthy ?k1 ?k2 ?k3 ?k4 ?_; (case k1 => k_asm); (case k2 => k_mem); (case k3 => with_reducible assumption); (case k4 => (first | omega | ((simp only [List.length_append, List.length_dropLast, List.length_set, List.length_cons, List.length_nil, List.length_take, List.length_drop] at *); omega))); k_whole))
    k_with "call builtin:list.pop" => (k_here; (with_reducible show wpAny _ _ (call (Value.builtin _) [Value.ref _]) _ _ _); k_dflt (refine' by_pop ?F ?N ?U ?i ?l ?z ?_; (case F => k_asm); (case N => k_asm); (case U => k_upd); (case i => with_reducible assumption); (case l => (first | omega | ((simp only [List.length_append, List.length_dropLast, List.length_set, List.length_cons, List.length_nil, List.length_take, List.length_drop] at *); omega))); (case z => (rw [PySem.sizeLine_eq]; (first | omega | ((simp only [List.length_append, List.length_dropLast, List.length_set, List.length_cons, List.length_nil, List.length_take, List.length_drop] at *); omega)))); k_whole); intro h' t' F' N' hi'; (try k_sweep))
    k_with "call builtin:list.pop" => (k_here; (with_reducible show wpAny _ _ (call (Value.builtin _) [Value.ref _, Value.int _ _]) _ _ _); k_dflt (refine' by_popAt ?F ?N ?U ?i ?l0 ?l ?z ?_; (case F => k_asm); (case N => k_asm); (case U => k_upd); (case i => with_reducible assumption); (case l0 => (first | omega | ((simp only [List.length_append, List.length_dropLast, List.length_set, List.length_cons, List.length_nil, List.length_take, List.length_drop] at *); omega))); (case l => (first | omega | ((simp only [List.length_append, List.length_dropLast, List.length_set, List.length_cons, List.length_nil, List.length_take, List.length_drop] at *); omega))); (case z => (rw [PySem.sizeLine_eq]; (first | omega | ((simp only [List.length_append, List.length_dropLast, List.length_set, List.length_cons, List.length_nil, List.length_take, List.length_drop] at *); omega)))); k_whole); intro h' t' F' N' hi'; (try k_sweep))
    k_with "call builtin:list.append" => (k_here; (with_reducible show wpAny _ _ (call (Value.builtin _) [Value.ref _, Value.bytes _ _]) _ _ _); k_dflt (refine' by_append ?F ?N ?U ?i ?z ?_; (case F => k_asm); (case N => k_asm); (case U => k_upd); (case i => with_reducible assumption); (case z => (rw [PySem.sizeLine_eq]; (first | omega | ((simp only [List.length_append, List.length_dropLast, List.length_set, List.length_cons, List.length_nil, List.length_take, List.length_drop] at *); omega)))); k_whole); intro h' F' N' hi'; (try k_sweep))
    k_with "call type:type" => ((with_reducible show wpAny _ _ (call (Value.type "type") [Value.bytes _ _]) _ _ _); refine call_type_of (Tx := "bytes") rfl (by decide +kernel) ?_)
    k_with "call type:type" => ((with_reducible show wpAny _ _ (call (Value.type "type") [Value.bool _]) _ _ _); refine call_type_of (Tx := "bool") rfl (by decide +kernel) ?_)
    k_with "exec For" => (k_here; (rename Fr _ _ _ _ => lF'); (with_unfolding_all refine' For_invVF lF' ?k1 ?k2 ?_ ?k3 ?k4; (case k1 => exact rfl); (case k2 => exact rfl); (case k3 => (intro _; rfl)); (case k4 => first | assumption | passes_own); k_whole); clear lF')
    k_steps
    all_goals first
      | exact ⟨_, _, rfl, fun _ _ e => e⟩
      | (unfold kB; rw [decide_eq_true (p := 51 < (f : Int) + a.fdiv 4) (by assumption)]; rfl)
      | (unfold kB; rw [decide_eq_false (p := 51 < (f : Int) + a.fdiv 4) (by assumption)]; rfl)
  case elt =>
    rintro C a v s₂ m₂ E' _ _ ⟨t, rfl⟩ _ hn hm _
    exact wpAny_Name (wpAny_loadName_local rfl rfl hn hm ⟨.int _ _, keepsR _⟩) (by decide)
  case fin =>
    intro D3 ys3 h' tk gF gN hD _ gP gC
    clear lF lN
    obtain ⟨n3, gN', gne, gI⟩ := made_in gP gF gN hD gC
    clear gN
    dsimp only
    try k_fold
    k_with "binaryOp Add ref ref" => refine Hold.of ?_
    k_steps
    unfold Hold
    (rename Fr _ _ _ _ => lF); (rename News _ _ _ _ => lN)
    refine ladd_ints lF lN (News.isList lN (List.Mem.tail _ (List.Mem.head _))) (News.isList lN (List.Mem.head _)) hI2 gI ?sz2 ?_
    case sz2 => (rw [PySem.sizeLine_eq]; have := List.length_filter_le (kC f) (foursI wd.length); omega)
    intro D4 ys4 h' F' N' hI4 _
    clear lF lN
    k_with "execs cons" => refine Hold.of ?_
    k_with "newList" => (k_dflt (refine' newList_K ?k1 ?k2 ?_; (case k1 => k_asm); (case k2 => k_asm); k_whole); intro lo h' F' N' l2; (try k_sweep))
    k_steps
    unfold Hold
    (rename Fr _ _ _ _ => lF); (rename News _ _ _ _ => lN)
    (with_unfolding_all refine' ord5 D4 ys4 0 lo hI4 p loose mean mg mb dp un gd cn cs La a ccd cl outer base h₀ L _ o1 o2 t1 t2 _ Q E (fr_canon lF ?sc) X T ?sN d1 d2 ?sf hE ?sg)
    case sc => kst_all
    case sN => exact fun p hp => lN p (by
      rcases List.mem_cons.mp hp with rfl | hp
      · exact List.Mem.head _
      · rcases List.mem_cons.mp hp with rfl | hp
        · exact List.Mem.tail _ (List.Mem.head _)
        · exact List.Mem.tail _ (List.Mem.tail _ (List.Mem.tail _ (List.Mem.tail _ (List.Mem.tail _ hp)))))
    case sf => exact ⟨l2 (L + 1 + 1, o1) (List.Mem.tail _ (List.Mem.tail _ (List.Mem.tail _ (List.Mem.tail _ (List.Mem.head _))))), l2 _ (List.Mem.head _), fun p hp => l2 p (List.Mem.tail _ (List.Mem.tail _ (List.Mem.tail _ (List.Mem.tail _ (List.Mem.tail _ (List.Mem.tail _ hp))))))⟩
    case sg => exact fun v news' m' h' tk' => hret v news' m' h' tk'
/-! OyOrd2 -/
noncomputable def flI (n : Nat) (k : Int) : List Int := (rangeInts k 1 4).filter fun p => decide (p < (n : Int))
noncomputable def fourI (wd : List UInt8) (k : Int) : List Int := if (flI wd.length k).length = 4 ∧ 68 < ((wd.getD (k + 3).toNat 0).toNat : Int) then [k + 3, k, k + 1, k + 2] else flI wd.length k
theorem flI_len (n : Nat) (k : Int) : (flI n k).length ≤ 4 := by
  have := List.length_filter_le (fun p => decide (p < (n : Int))) (rangeInts k 1 4)
  rw [rangeInts_length] at this
  exact this
theorem flI_full {n : Nat} {k : Int} (h : (flI n k).length = 4) : k + 3 < n := by
  have h1 : (rangeInts k 1 4).length = 4 := rangeInts_length _ _ _
  have h2 := List.length_filter_eq_length_iff.mp (h.trans h1.symm)
  have h3 := h2 (k + 3) (by simp [rangeInts, List.range_succ])
  simpa using h3
theorem int_extend {prog : Program} {w : World} {A : Around} {E : Value → Shared → Prop} {s : Shared} {h₀ : Heap} {L D b : Addr} {m : Str → Option Value} {rest : List (Addr × Obj)} {vs us : List Value} {ns ms : List Int} {n n2 : Nat} {Q : Value → Shared → Prop}
    (F : Fr h₀ L s.heap m) (N : News h₀ L s.heap ((D, W.listOf vs.toArray n) :: rest)) (hne : ∀ p ∈ rest, p.1 ≠ D) (hb : (b, W.listOf us.toArray n2) ∈ rest) (hi : IntsAre vs ns) (hj : IntsAre us ms) (hz : ns.length + ms.length ≤ 1000)
    (h : ∀ h' k, Fr h₀ L h' m → News h₀ L h' ((D, W.listOf (vs ++ us).toArray k) :: rest) → IntsAre (vs ++ us) (ns ++ ms) → Q .none { s with heap := h' }) : wpAny (model prog w) A (call (.builtin "list.extend") [.ref D, .ref b]) Q E s := by
  have hl := hi.length
  have hm := hj.length
  have hd : ¬(!vs.toArray.isEmpty && Builtin.List.listTooLong (vs.toArray.size + us.toArray.size)) = true := by
    have : Builtin.List.listTooLong (vs.toArray.size + us.toArray.size) = false := by
      rw [List.size_toArray, List.size_toArray]
      unfold Builtin.List.listTooLong
      rw [sizeLine_eq]
      simp; omega
    rw [this]; simp
  have hs : sizeLine = 16777216 := sizeLine_eq
  by_cases h0 : us = []
  · subst h0
    refine kxn_extend F N (List.Mem.tail _ hb) rfl (Upd.head hne) hd (by show vs.length ≤ _; omega) (by rw [List.size_toArray, List.size_toArray, List.length_nil]; omega) fun h' F' N' => h h' n F' ?_ (hi.append hj)
    rw [List.append_nil]; exact N'
  · refine kl_extend F N (List.Mem.tail _ hb) (l := vs ++ us) rfl ?_ (Upd.head hne) hd (by show vs.length ≤ _; omega) (by rw [List.size_toArray, List.size_toArray]; omega) fun h' F' N' => h h' (n + 1) F' N' (hi.append hj)
    show us.length ≠ 0
    exact fun e => h0 (List.eq_nil_of_length_eq_zero e)
theorem news_swap2 {h₀ h : Heap} {L : Addr} {a b : Addr × Obj} {rest : List (Addr × Obj)} (N : News h₀ L h (a :: b :: rest)) : News h₀ L h (b :: a :: rest) := fun p hp => N p (by
  rcases List.mem_cons.mp hp with rfl | hp
  · exact List.Mem.tail _ (List.Mem.head _)
  · rcases List.mem_cons.mp hp with rfl | hp
    · exact List.Mem.head _
    · exact List.Mem.tail _ (List.Mem.tail _ hp))
theorem news_swap3 {h₀ h : Heap} {L : Addr} {a b c : Addr × Obj} {rest : List (Addr × Obj)} (N : News h₀ L h (a :: b :: c :: rest)) : News h₀ L h (c :: a :: b :: rest) := fun p hp => N p (by
  rcases List.mem_cons.mp hp with rfl | hp
  · exact List.Mem.tail _ (List.Mem.tail _ (List.Mem.head _))
  · rcases List.mem_cons.mp hp with rfl | hp
    · exact List.Mem.head _
    · rcases List.mem_cons.mp hp with rfl | hp
      · exact List.Mem.tail _ (List.Mem.head _)
      · exact List.Mem.tail _ (List.Mem.tail _ (List.Mem.tail _ hp)))
theorem fourI_len (wd : List UInt8) (k : Int) : (fourI wd k).length ≤ 4 := by
  unfold fourI
  split
  · simp
  · exact flI_len _ _
theorem flat_len (wd : List UInt8) : ∀ ks : List Int, (ks.flatMap (fourI wd)).length ≤ 4 * ks.length
  | [] => by simp
  | k :: r => by
    have h1 := flat_len wd r
    have h2 := fourI_len wd k
    rw [List.flatMap_cons, List.length_append, List.length_cons]
    omega
structure O5 where
  vs : List Value
  os : List Int
  n : Nat
theorem ord5 (w : World) (wd : List UInt8) (f : Nat) (news0 : List (Addr × Obj)) (R : Value → List (Addr × Obj) → Prop) (hw : 4 ≤ wd.length ∧ wd.length ≤ 16) (D : Addr) (ys : List Value) (n : Nat) (lo : Addr) (ks : List Int) (hks : ks.length ≤ 200) (hk0 : ∀ k ∈ ks, 0 ≤ k ∧ k < 16) (hI : IntsAre ys ks)
    (hR : ∀ vs n, IntsAre vs (ks.flatMap (fourI wd)) → R (.ref lo) ((lo, W.listOf vs.toArray n) :: news0)) :
    Ord w wd f 5 [(Str.ofString "kinds", .ref D), (Str.ofString "order", .ref lo)] [(lo, W.listOf #[] 0), (D, W.listOf ys.toArray n)] news0 (fun L => L + 1 + 1 < lo ∧ D < lo ∧ ∀ p ∈ news0, p.1 < lo) R := by
  unfold Ord
  k_fill
  w_top off
  intro p loose mean mg mb dp un gd cn cs La a ccd cl outer base h₀ L u o1 o2 t1 t2 s Q E F X T N d1 d2 hfa hE hret
  obtain ⟨f1, f2, f3⟩ := hfa
  rw [List.cons_append, List.cons_append, List.nil_append] at N
  have e2 := hw.2
  k_with_none
  k_with "subscriptTail" => (k_here; (with_reducible show wpAny _ _ (subscriptTail _ _ (Value.ref _) (Value.int _ _)) _ _ _); k_dflt (refine' by_sub ?k1 ?k2 ?k3 ?k4 ?k5 ?k6 ?_ ?k7 ?k8; (case k1 => k_asm); (case k2 => k_mem); (case k3 => with_reducible assumption); (case k4 => (first | omega | ((simp only [List.length_append, List.length_dropLast, List.length_set, List.length_cons, List.length_nil, List.length_take, List.length_drop] at *); omega))); (case k5 => (first | omega | ((simp only [List.length_append, List.length_dropLast, List.length_set, List.length_cons, List.length_nil, List.length_take, List.length_drop] at *); omega))); (case k6 => (first | omega | ((simp only [List.length_append, List.length_dropLast, List.length_set, List.length_cons, List.length_nil, List.length_take, List.length_drop] at *); omega))); (case k7 => with_unfolding_all rfl); (case k8 => (intro _; with_unfolding_all rfl)); k_whole); intro _)
  k_with "compareOp Lt bytes bytes" => refine lt_bytes ?_
  k_with "setItem ref int" => (k_here; (with_reducible show wpAny _ _ (setItem (Value.ref _) (Value.int _ _) (Value.bytes _ _)) _ _ _); k_dflt (refine' by_set ?k1 ?k2 ?k3 ?k4 ?k5 ?k6 ?k7 ?_; (case k1 => k_asm); (case k2 => k_asm); (case k3 => k_upd); (case k4 => with_reducible assumption); (case k5 => (first | omega | ((simp only [List.length_append, List.length_dropLast, List.length_set, List.length_cons, List.length_nil, List.length_take, List.length_drop] at *); omega))); (case k6 => (first | omega | ((simp only [List.length_append, List.length_dropLast, List.length_set, List.length_cons, List.length_nil, List.length_take, List.length_drop] at *); omega))); (case k7 => (first | omega | ((simp only [List.length_append, List.length_dropLast, List.length_set, List.length_cons, List.length_nil, List.length_take, List.length_drop] at *); omega))); k_whole); intro h' F' N' hi'; (try k_sweep))
  k_with "call builtin:len" => (k_here; (with_reducible show wpAny _ _ (call (Value.builtin "len") [Value.ref _]) _ _ _); k_dflt (refine' by_len ?k1 ?k2 ?k3 ?k4 ?_; (case k1 => k_asm); (case k2 => k_mem); (case k3 => with_reducible assumption); (case k4 => (first | omega | ((simp only [List.length_append, List.length_dropLast, List.length_set, List.length_cons, List.length_nil, List.length_take, List.length_drop] at *); omega))); k_whole))
  k_with "truthy ref" => (k_here; k_dflt (refine' by_truthy ?k1 ?k2 ?k3 ?k4 ?_; (case k1 => k_asm); (case k2 => k_mem); (case k3 => with_reducible assumption); (case k4 => (first | omega | ((simp only [List.length_append, List.length_dropLast, List.length_set, List.length_cons, List.length_nil, List.length_take, List.length_drop] at *); omega))); k_whole))
  k_with "call builtin:list.pop" => (k_here; (with_reducible show wpAny _ _ (call (Value.builtin _) [Value.ref _]) _ _ _); k_dflt (refine' by_pop ?F ?N ?U ?i ?l ?z ?_; (case F => k_asm); (case N => k_asm); (case U => k_upd); (case i => with_reducible assumption); (case l => (first | omega | ((simp only [List.length_append, List.length_dropLast, List.length_set, List.length_cons, List.length_nil, List.length_take, List.length_drop] at *); omega))); (case z => (rw [PySem.sizeLine_eq]; (first | omega | ((simp only [List.length_append, List.length_dropLast, List.length_set, List.length_cons, List.length_nil, List.length_take, List.length_drop] at *); omega)))); k_whole); intro h' t' F' N' hi'; (try k_sweep))
  k_with "call builtin:list.pop" => (k_here; (with_reducible show wpAny _ _ (call (Value.builtin _) [Value.ref _, Value.int _ _]) _ _ _); k_dflt (refine' by_popAt ?F ?N ?U ?i ?l0 ?l ?z ?_; (case F => k_asm); (case N => k_asm); (case U => k_upd); (case i => with_reducible assumption); (case l0 => (first | omega | ((simp only [List.length_append, List.length_dropLast, List.length_set, List.length_cons, List.length_nil, List.length_take, List.length_drop] at *); omega))); (case l => (first | omega | ((simp only [List.length_append, List.length_dropLast, List.length_set, List.length_cons, List.length_nil, List.length_take, List.length_drop] at *); omega))); (case z => (rw [PySem.sizeLine_eq]; (first | omega | ((simp only [List.length_append, List.length_dropLast, List.length_set, List.length_cons, List.length_nil, List.length_take, List.length_drop] at *); omega)))); k_whole); intro h' t' F' N' hi'; (try k_sweep))
  k_with "call builtin:list.append" => (k_here; (with_reducible show wpAny _ _ (call (Value.builtin _) [Value.ref _, Value.bytes _ _]) _ _ _); k_dflt (refine' by_append ?F ?N ?U ?i ?z ?_; (case F => k_asm); (case N => k_asm); (case U => k_upd); (case i => with_reducible assumption); (case z => (rw [PySem.sizeLine_eq]; (first | omega | ((simp only [List.length_append, List.length_dropLast, List.length_set, List.length_cons, List.length_nil, List.length_take, List.length_drop] at *); omega)))); k_whole); intro h' F' N' hi'; (try k_sweep))
  k_with "call type:type" => ((with_reducible show wpAny _ _ (call (Value.type "type") [Value.bytes _ _]) _ _ _); refine call_type_of (Tx := "bytes") rfl (by decide +kernel) ?_)
  k_with "call type:type" => ((with_reducible show wpAny _ _ (call (Value.type "type") [Value.bool _]) _ _ _); refine call_type_of (Tx := "bool") rfl (by decide +kernel) ?_)
  k_with "exec For" => (k_here; (rename Fr _ _ _ _ => lF'); (with_unfolding_all refine' For_invVF lF' ?k1 ?k2 ?_ ?k3 ?k4; (case k1 => exact rfl); (case k2 => exact rfl); (case k3 => (intro _; rfl)); (case k4 => first | assumption | passes_own); k_whole); clear lF')
  k_with "pyIter ref" => refine Hold.of ?_
  (with_unfolding_all refine wpAny_execs_cons ?_)
  k_steps
  unfold Hold
  (rename Fr _ _ _ _ => lF); (rename News _ _ _ _ => lN)
  (with_unfolding_all refine' kst_listL (σ := O5) (ns := ks) (fun c => (lo, W.listOf c.vs.toArray c.n) :: (D, W.listOf ys.toArray n) :: (L + 1 + 1, o1) :: (L + 1, o2) :: news0) (fun _ => [(Str.ofString "kinds", Value.ref D), (Str.ofString "order", Value.ref lo)]) (fun c => IntsAre c.vs c.os) [Str.ofString "four"] (fun pre c => c.os = pre.flatMap (fourI wd)) ⟨[], [], 0⟩ rfl (fun _ => List.Mem.tail _ (List.Mem.head _)) hI lF lN .nil ?kk rfl ?turn ?done)
  case kk => kst_all
  case turn =>
    rintro ⟨kvs, kos, kn⟩ pre post k tk0 u' h tk own hpre hk hoff hB hP gF gN
    clear lF lN
    dsimp only at gF gN hP hB
    obtain ⟨hk0', hk1'⟩ := hk0 k hk
    have hno : ∀ p ∈ (D, W.listOf ys.toArray n) :: (L + 1 + 1, o1) :: (L + 1, o2) :: (news0 ++ own), p.1 ≠ lo := fun p hp => by
      rcases List.mem_cons.mp hp with rfl | hp
      · exact Nat.ne_of_lt f2
      · rcases List.mem_cons.mp hp with rfl | hp
        · exact Nat.ne_of_lt f1
        · rcases List.mem_cons.mp hp with rfl | hp
          · exact Nat.ne_of_lt (Nat.lt_of_succ_lt f1)
          · rcases List.mem_append.mp hp with hp | hp
            · exact Nat.ne_of_lt (f3 p hp)
            · exact hoff p hp lo (List.Mem.head _)
    obtain ⟨M, hM⟩ : ∃ M, M = (fun y => if y = Str.ofString "k" then some (Value.int k tk0) else kstB (fun z => if [Str.ofString "four"].contains z = true then u' z else kstB u [(Str.ofString "kinds", Value.ref D), (Str.ofString "order", Value.ref lo)] z) [(Str.ofString "kinds", Value.ref D), (Str.ofString "order", Value.ref lo)] y) := ⟨_, rfl⟩
    have gF2 : Fr h₀ L h (kstB M [(Str.ofString "k", .int k tk0), (Str.ofString "order", .ref lo)]) := by
      subst hM
      exact fr_canon gF (by kst_all)
    have gN2 : News h₀ L h ((lo, W.listOf kvs.toArray kn) :: (D, W.listOf ys.toArray n) :: (L + 1 + 1, o1) :: (L + 1, o2) :: (news0 ++ own)) := gN
    clear gF gN
    try k_fold
    k_with "exec Assign cons ListComp" => refine Hold.of ?_
    k_steps
    unfold Hold
    k_dflt (refine' Assign_ListComp_DCr (h₀ := h₀) (m := kstB M [(Str.ofString "k", .int k tk0), (Str.ofString "order", .ref lo)]) (pz := fun p => decide (p < (wd.length : Int))) (d := PyData.int) ?sw ?sL ?hh ?clos ?cell ?kind ?names ?hx ?hy ?hp ?h ?hs)
    case sw => with_unfolding_all rfl
    case sL => with_unfolding_all rfl
    case hh => with_unfolding_all rfl
    case clos => with_unfolding_all rfl
    case cell => decide
    case kind => with_unfolding_all rfl
    case names => decide
    case hx => with_unfolding_all rfl
    case hy => with_unfolding_all rfl
    case hp => with_unfolding_all rfl
    case hs => intro _; with_unfolding_all rfl
    refine wpAny_rangePack ?_
    k_with "RangePack" => refine Hold.of ?_
    k_steps
    unfold Hold
    (rename Fr _ _ _ _ => lF); (rename News _ _ _ _ => lN); (rename IsRange _ _ _ _ _ _ _ _ => lR)
    have hrs : Builtin.Range.rangeSize k (k + 4) 1 = (4 : Nat) := by
      unfold Builtin.Range.rangeSize; rw [if_pos (by decide), if_pos (by omega)]; omega
    refine RangePack.intro ⟨_, _, _, _, _, _, _, _, 4, rfl, lR, small_one (by omega) (by omega) (by omega) (by omega), hrs, ?sz, lF, lN, ?tests, ?elt, ?fin⟩
    case sz => (rw [PySem.sizeLine_eq]; omega)
    case tests =>
      rintro C a v s₂ m₂ E' _ _ ⟨t, rfl⟩ hn hm hk
      have F2 := lF.keeps hk
      have N2 := lN.grown hk
      clear lF lN
      k_with_none
      k_with "subscriptTail" => (k_here; (with_reducible show wpAny _ _ (subscriptTail _ _ (Value.ref _) (Value.int _ _)) _ _ _); k_dflt (refine' by_sub ?k1 ?k2 ?k3 ?k4 ?k5 ?k6 ?_ ?k7 ?k8; (case k1 => k_asm); (case k2 => k_mem); (case k3 => with_reducible assumption); (case k4 => (first | omega | ((simp only [List.length_append, List.length_dropLast, List.length_set, List.length_cons, List.length_nil, List.length_take, List.length_drop] at *); omega))); (case k5 => (first | omega | ((simp only [List.length_append, List.length_dropLast, List.length_set, List.length_cons, List.length_nil, List.length_take, List.length_drop] at *); omega))); (case k6 => (first | omega | ((simp only [List.length_append, List.length_dropLast, List.length_set, List.length_cons, List.length_nil, List.length_take, List.length_drop] at *); omega))); (case k7 => with_unfolding_all rfl); (case k8 => (intro _; with_unfolding_all rfl)); k_whole); intro _)
      k_with "compareOp Lt bytes bytes" => refine lt_bytes ?_
      k_with "setItem ref int" => (k_here; (with_reducible show wpAny _ _ (setItem (Value.ref _) (Value.int _ _) (Value.bytes _ _)) _ _ _); k_dflt (refine' by_set ?k1 ?k2 ?k3 ?k4 ?k5 ?k6 ?k7 ?_; (case k1 => k_asm); (case k2 => k_asm); (case k3 => k_upd); (case k4 => with_reducible assumption); (case k5 => (first | omega | ((simp only [List.length_append, List.length_dropLast, List.length_set, List.length_cons, List.length_nil, List.length_take, List.length_drop] at *); omega))); (case k6 => (first | omega | ((simp only [List.length_append, List.length_dropLast, List.length_set, List.length_cons, List.length_nil, List.length_take, List.length_drop] at *); omega))); (case k7 => (first | omega | ((simp only [List.length_append, List.length_dropLast, List.length_set, List.length_cons, List.length_nil, List.length_take, List.length_drop] at *); omega))); k_whole); intro h' F' N' hi'; (try k_sweep))
      k_with "call builtin:len" => (k_here; (with_reducible show wpAny _ _ (call (Value.builtin "len") [Value.ref _]) _ _ _); k_dflt (refine' by_len ?k1 ?k2 ?k3 ?k4 ?_; (case k1 => k_asm); (case k2 => k_mem); (case k3 => with_reducible assumption); (case k4 => (first | omega | ((simp only [List.length_append, List.length_dropLast, List.length_set, List.length_cons, List.length_nil, List.length_take, List.length_drop] at *); omega))); k_whole))
      k_with "truthy ref" => (k_here; k_dflt (refine' by_truthy ?k1 ?k2 ?k3 ?k4 ?_; (case k1 => k_asm); (case k2 => k_mem); (case k3 => with_reducible assumption); (case k4 => (first | omega | ((simp only [List.length_append, List.length_dropLast, List.length_set, List.length_cons, List.length_nil, List.length_take, List.length_drop] at *); omega))); k_whole))
      k_with "call builtin:list.pop" => (k_here; (with_reducible show wpAny _ _ (call (Value.builtin _) [Value.ref _]) _ _ _); k_dflt (refine' by_pop ?F ?N ?U ?i ?l ?z ?_; (case F => k_asm); (case N => k_asm); (case U => k_upd); (case i => with_reducible assumption); (case l => (first | omega | ((simp only [List.length_append, List.length_dropLast, List.length_set, List.length_cons, List.length_nil, List.length_take, List.length_drop] at *); omega))); (case z => (rw [PySem.sizeLine_eq]; (first | omega | ((simp only [List.length_append, List.length_dropLast, List.length_set, List.length_cons, List.length_nil, List.length_take, List.length_drop] at *); omega)))); k_whole); intro h' t' F' N' hi'; (try k_sweep))
      k_with "call builtin:list.pop" => (k_here; (with_reducible show wpAny _ _ (call (Value.builtin _) [Value.ref _, Value.int _ _]) _ _ _); k_dflt (refine' by_popAt ?F ?N ?U ?i ?l0 ?l ?z ?_; (case F => k_asm); (case N => k_asm); (case U => k_upd); (case i => with_reducible assumption); (case l0 => (first | omega | ((simp only [List.length_append, List.length_dropLast, List.length_set, List.length_cons, List.length_nil, List.length_take, List.length_drop] at *); omega))); (case l => (first | omega | ((simp only [List.length_append, List.length_dropLast, List.length_set, List.length_cons, List.length_nil, List.length_take, List.length_drop] at *); omega))); (case z => (rw [PySem.sizeLine_eq]; (first | omega | ((simp only [List.length_append, List.length_dropLast, List.length_set, List.length_cons, List.length_nil, List.length_take, List.length_drop] at *); omega)))); k_whole); intro h' t' F' N' hi'; (try k_sweep))
      k_with "call builtin:list.append" => (k_here; (with_reducible show wpAny _ _ (call (Value.builtin _) [Value.ref _, Value.bytes _ _]) _ _ _); k_dflt (refine' by_append ?F ?N ?U ?i ?z ?_; (case F => k_asm); (case N => k_asm); (case U => k_upd); (case i => with_reducible assumption); (case z => (rw [PySem.sizeLine_eq]; (first | omega | ((simp only [List.length_append, List.length_dropLast, List.length_set, List.length_cons, List.length_nil, List.length_take, List.length_drop] at *); omega)))); k_whole); intro h' F' N' hi'; (try k_sweep))
      k_with "call type:type" => ((with_reducible show wpAny _ _ (call (Value.type "type") [Value.bytes _ _]) _ _ _); refine call_type_of (Tx := "bytes") rfl (by decide +kernel) ?_)
      k_with "call type:type" => ((with_reducible show wpAny _ _ (call (Value.type "type") [Value.bool _]) _ _ _); refine call_type_of (Tx := "bool") rfl (by decide +kernel) ?_)
      k_with "exec For" => (k_here; (rename Fr _ _ _ _ => lF'); (with_unfolding_all refine' For_invVF lF' ?k1 ?k2 ?_ ?k3 ?k4; (case k1 => exact rfl); (case k2 => exact rfl); (case k3 => (intro _; rfl)); (case k4 => first | assumption | passes_own); k_whole); clear lF')
      k_steps
      all_goals exact ⟨_, _, rfl, fun _ _ e => e⟩
    case elt =>
      rintro C a v s₂ m₂ E' _ _ ⟨t, rfl⟩ _ hn hm _
      exact wpAny_Name (wpAny_loadName_local rfl rfl hn hm ⟨.int _ _, keepsR _⟩) (by decide)
    case fin =>
      intro D4 ys4 h' tk gF gN hD _ gP gC
      clear lF lN
      obtain ⟨n4, gN', gne, gI⟩ := made_in gP gF gN hD gC
      clear gN
      obtain ⟨fl, hfl⟩ : ∃ fl, fl = flI wd.length k := ⟨_, rfl⟩
      have gI2 : IntsAre ys4 fl := by rw [hfl]; exact gI
      have hf4 : fl.length ≤ 4 := by rw [hfl]; exact flI_len _ _
      have hff : fl.length = 4 → k + 3 < wd.length := by rw [hfl]; exact flI_full
      clear gI gP gC
      dsimp only
      try k_fold
      k_with_none
      k_with "subscriptTail" => (k_here; (with_reducible show wpAny _ _ (subscriptTail _ _ (Value.ref _) (Value.int _ _)) _ _ _); k_dflt (refine' by_sub ?k1 ?k2 ?k3 ?k4 ?k5 ?k6 ?_ ?k7 ?k8; (case k1 => k_asm); (case k2 => k_mem); (case k3 => with_reducible assumption); (case k4 => (first | omega | ((simp only [List.length_append, List.length_dropLast, List.length_set, List.length_cons, List.length_nil, List.length_take, List.length_drop] at *); omega))); (case k5 => (first | omega | ((simp only [List.length_append, List.length_dropLast, List.length_set, List.length_cons, List.length_nil, List.length_take, List.length_drop] at *); omega))); (case k6 => (first | omega | ((simp only [List.length_append, List.length_dropLast, List.length_set, List.length_cons, List.length_nil, List.length_take, List.length_drop] at *); omega))); (case k7 => with_unfolding_all rfl); (case k8 => (intro _; with_unfolding_all rfl)); k_whole); intro _)
      k_with "compareOp Lt bytes bytes" => refine lt_bytes ?_
      k_with "setItem ref int" => (k_here; (with_reducible show wpAny _ _ (setItem (Value.ref _) (Value.int _ _) (Value.bytes _ _)) _ _ _); k_dflt (refine' by_set ?k1 ?k2 ?k3 ?k4 ?k5 ?k6 ?k7 ?_; (case k1 => k_asm); (case k2 => k_asm); (case k3 => k_upd); (case k4 => with_reducible assumption); (case k5 => (first | omega | ((simp only [List.length_append, List.length_dropLast, List.length_set, List.length_cons, List.length_nil, List.length_take, List.length_drop] at *); omega))); (case k6 => (first | omega | ((simp only [List.length_append, List.length_dropLast, List.length_set, List.length_cons, List.length_nil, List.length_take, List.length_drop] at *); omega))); (case k7 => (first | omega | ((simp only [List.length_append, List.length_dropLast, List.length_set, List.length_cons, List.length_nil, List.length_take, List.length_drop] at *); omega))); k_whole); intro h' F' N' hi'; (try k_sweep))
      k_with "call builtin:len" => (k_here; (with_reducible show wpAny _ _ (call (Value.builtin "len") [Value.ref _]) _ _ _); k_dflt (refine' by_len ?k1 ?k2 ?k3 ?k4 ?_; (case k1 => k_asm); (case k2 => k_mem); (case k3 => with_reducible assumption); (case k4 => (first | omega | ((simp only [List.length_append, List.length_dropLast, List.length_set, List.length_cons, List.length_nil, List.length_take, List.length_drop] at *); omega))); k_whole))
      k_with "truthy ref" => (k_here; k_dflt (refine' by_truthy ?k1 ?k2 ?k3 ?k4 ?_; (case k1 => k_asm); (case k2 => k_mem); (case k3 => with_reducible assumption); (case k4 => (first | omega | ((simp only [List.length_append, List.length_dropLast, List.length_set, List.length_cons, List.length_nil, List.length_take, List.length_drop] at *); omega))); k_whole))
      k_with "call builtin:list.pop" => (k_here; (with_reducible show wpAny _ _ (call (Value.builtin _) [Value.ref _]) _ _ _); k_dflt (refine' by_pop ?F ?N ?U ?i ?l ?z ?_; (case F => k_asm); (case N => k_asm); (case U => k_upd); (case i => with_reducible assumption); (case l => (first | omega | ((simp only [List.length_append, List.length_dropLast, List.length_set, List.length_cons, List.length_nil, List.length_take, List.length_drop] at *); omega))); (case z => (rw [PySem.sizeLine_eq]; (first | omega | ((simp only [List.length_append, List.length_dropLast, List.length_set, List.length_cons, List.length_nil, List.length_take, List.length_drop] at *); omega)))); k_whole); intro h' t' F' N' hi'; (try k_sweep))
      k_with "call builtin:list.pop" => (k_here; (with_reducible show wpAny _ _ (call (Value.builtin _) [Value.ref _, Value.int _ _]) _ _ _); k_dflt (refine' by_popAt ?F ?N ?U ?i ?l0 ?l ?z ?_; (case F => k_asm); (case N => k_asm); (case U => k_upd); (case i => with_reducible assumption); (case l0 => (first | omega | ((simp only [List.length_append, List.length_dropLast, List.length_set, List.length_cons, List.length_nil, List.length_take, List.length_drop] at *); omega))); (case l => (first | omega | ((simp only [List.length_append, List.length_dropLast, List.length_set, List.length_cons, List.length_nil, List.length_take, List.length_drop] at *); omega))); (case z => (rw [PySem.sizeLine_eq]; (first | omega | ((simp only [List.length_append, List.length_dropLast, List.length_set, List.length_cons, List.length_nil, List.length_take, List.length_drop] at *); omega)))); k_whole); intro h' t' F' N' hi'; (try k_sweep))
      k_with "call builtin:list.append" => (k_here; (with_reducible show wpAny _ _ (call (Value.builtin _) [Value.ref _, Value.bytes _ _]) _ _ _); k_dflt (refine' by_append ?F ?N ?U ?i ?z ?_; (case F => k_asm); (case N => k_asm); (case U => k_upd); (case i => with_reducible assumption); (case z => (rw [PySem.sizeLine_eq]; (first | omega | ((simp only [List.length_append, List.length_dropLast, List.length_set, List.length_cons, List.length_nil, List.length_take, List.length_drop] at *); omega)))); k_whole); intro h' F' N' hi'; (try k_sweep))
      k_with "call type:type" => ((with_reducible show wpAny _ _ (call (Value.type "type") [Value.bytes _ _]) _ _ _); refine call_type_of (Tx := "bytes") rfl (by decide +kernel) ?_)
      k_with "call type:type" => ((with_reducible show wpAny _ _ (call (Value.type "type") [Value.bool _]) _ _ _); refine call_type_of (Tx := "bool") rfl (by decide +kernel) ?_)
      k_with "exec For" => (k_here; (rename Fr _ _ _ _ => lF'); (with_unfolding_all refine' For_invVF lF' ?k1 ?k2 ?_ ?k3 ?k4; (case k1 => exact rfl); (case k2 => exact rfl); (case k3 => (intro _; rfl)); (case k4 => first | assumption | passes_own); k_whole); clear lF')
      have ne1 : @Ne Nat D4 lo := fun e => gne _ (List.Mem.head _) e.symm
      k_with "subscriptTail" => (dsimp only; (with_reducible show wpAny _ _ (subscriptTail _ _ (Value.bytes (List.toArray wd) _) _) _ _ _); k_dflt (refine' KBy.item_N (x := wd) ?k4 ?k1 ?k0 ?_ ?k2 ?k3; (case k4 => omega); (case k1 => omega); (case k0 => (have := hff (by omega); omega)); (case k2 => with_unfolding_all rfl); (case k3 => (intro _; with_unfolding_all rfl))))
      k_with "newList" => (k_dflt (refine' newList_K ?k1 ?k2 ?_; (case k1 => k_asm); (case k2 => k_asm); k_whole); intro l4 h' F' N' l5; (have l6 := ltN (l5 _ (List.Mem.tail _ (List.Mem.head _)))); (try dsimp only at l6); (try k_sweep))
      k_with "call builtin:list.extend" => refine Hold.of ?_
      k_steps
      all_goals have hkl : kos.length ≤ 800 := (by
        have h1 := flat_len wd pre
        have h2 : pre.length ≤ ks.length := (by rw [hpre, List.length_append]; omega)
        rw [← hP] at h1
        omega)
      · unfold Hold
        (rename Fr _ _ _ _ => lF); (rename News _ _ _ _ => lN)
        have hfour : fourI wd k = [k + 3, k, k + 1, k + 2] := by
          unfold fourI
          rw [if_pos ⟨by rw [← hfl]; omega, by assumption⟩]
        refine int_extend lF (news_swap3 lN) (fun p hp => by
          rcases List.mem_cons.mp hp with rfl | hp
          · exact Nat.ne_of_gt l6
          · rcases List.mem_cons.mp hp with rfl | hp
            · exact ne1
            · exact hno p hp) (List.Mem.head _) hB (.cons _ _ (.cons _ _ (.cons _ _ (.cons _ _ .nil)))) (by simp only [List.length_cons, List.length_nil]; omega) ?_
        intro h' k' F' N' hI'
        clear lF lN
        k_steps
        (rename Fr _ _ _ _ => lF); (rename News _ _ _ _ => lN)
        subst hM
        (with_unfolding_all refine kst_end ⟨_, _, k'⟩ lF lN ?e1 ?e2 rfl hI' (by kst_all) (by (intro z h1 h2 h3; (simp only [List.forall_mem_cons, List.not_mem_nil, false_implies, implies_true, and_true, ne_eq] at h2); (simp only [List.contains_cons, List.contains_nil, Bool.or_false, Bool.or_eq_false_iff, beq_eq_false_iff_ne, ne_eq] at h3); (simp only [kstB, h1, h2, h3, if_false, List.contains_cons, List.contains_nil, Bool.or_false, Bool.or_eq_true, beq_iff_eq, or_self, or_false, false_or, Bool.false_eq_true]))) ?e3)
        case e1 =>
          intro p hp
          rcases List.mem_cons.mp hp with rfl | hp
          · exact List.Mem.head _
          · exact List.Mem.tail _ (List.Mem.tail _ (List.Mem.tail _ (List.mem_append_left own hp)))
        case e2 => exact fun p hp => List.Mem.tail _ (List.Mem.tail _ (List.Mem.tail _ (List.mem_append_right ((D, W.listOf ys.toArray n) :: (L + 1 + 1, o1) :: (L + 1, o2) :: news0) hp)))
        case e3 => (show kos ++ _ = (pre ++ [k]).flatMap (fourI wd); rw [hP, List.flatMap_append, List.flatMap_cons, List.flatMap_nil, List.append_nil, hfour])
      · unfold Hold
        (rename Fr _ _ _ _ => lF); (rename News _ _ _ _ => lN)
        have hfour : fourI wd k = fl := by
          unfold fourI
          rw [if_neg (by rw [← hfl]; intro h; have := h.2; omega), ← hfl]
        refine int_extend lF (news_swap2 lN) (fun p hp => by
          rcases List.mem_cons.mp hp with rfl | hp
          · exact ne1
          · exact hno p hp) (List.Mem.head _) hB gI2 (by omega) ?_
        intro h' k' F' N' hI'
        clear lF lN
        k_steps
        (rename Fr _ _ _ _ => lF); (rename News _ _ _ _ => lN)
        subst hM
        (with_unfolding_all refine kst_end ⟨_, _, k'⟩ lF lN ?e1 ?e2 rfl hI' (by kst_all) (by (intro z h1 h2 h3; (simp only [List.forall_mem_cons, List.not_mem_nil, false_implies, implies_true, and_true, ne_eq] at h2); (simp only [List.contains_cons, List.contains_nil, Bool.or_false, Bool.or_eq_false_iff, beq_eq_false_iff_ne, ne_eq] at h3); (simp only [kstB, h1, h2, h3, if_false, List.contains_cons, List.contains_nil, Bool.or_false, Bool.or_eq_true, beq_iff_eq, or_self, or_false, false_or, Bool.false_eq_true]))) ?e3)
        case e1 =>
          intro p hp
          rcases List.mem_cons.mp hp with rfl | hp
          · exact List.Mem.head _
          · exact List.Mem.tail _ (List.Mem.tail _ (List.mem_append_left own hp))
        case e2 => exact fun p hp => List.Mem.tail _ (List.Mem.tail _ (List.mem_append_right ((D, W.listOf ys.toArray n) :: (L + 1 + 1, o1) :: (L + 1, o2) :: news0) hp))
        case e3 => (show kos ++ _ = (pre ++ [k]).flatMap (fourI wd); rw [hP, List.flatMap_append, List.flatMap_cons, List.flatMap_nil, List.append_nil, hfour])
      · unfold Hold
        (rename Fr _ _ _ _ => lF); (rename News _ _ _ _ => lN)
        have hfour : fourI wd k = fl := by
          unfold fourI
          rw [if_neg (by rw [← hfl]; intro h; have := h.1; omega), ← hfl]
        refine int_extend lF (news_swap2 lN) (fun p hp => by
          rcases List.mem_cons.mp hp with rfl | hp
          · exact ne1
          · exact hno p hp) (List.Mem.head _) hB gI2 (by omega) ?_
        intro h' k' F' N' hI'
        clear lF lN
        k_steps
        (rename Fr _ _ _ _ => lF); (rename News _ _ _ _ => lN)
        subst hM
        (with_unfolding_all refine kst_end ⟨_, _, k'⟩ lF lN ?e1 ?e2 rfl hI' (by kst_all) (by (intro z h1 h2 h3; (simp only [List.forall_mem_cons, List.not_mem_nil, false_implies, implies_true, and_true, ne_eq] at h2); (simp only [List.contains_cons, List.contains_nil, Bool.or_false, Bool.or_eq_false_iff, beq_eq_false_iff_ne, ne_eq] at h3); (simp only [kstB, h1, h2, h3, if_false, List.contains_cons, List.contains_nil, Bool.or_false, Bool.or_eq_true, beq_iff_eq, or_self, or_false, false_or, Bool.false_eq_true]))) ?e3)
        case e1 =>
          intro p hp
          rcases List.mem_cons.mp hp with rfl | hp
          · exact List.Mem.head _
          · exact List.Mem.tail _ (List.Mem.tail _ (List.mem_append_left own hp))
        case e2 => exact fun p hp => List.Mem.tail _ (List.Mem.tail _ (List.mem_append_right ((D, W.listOf ys.toArray n) :: (L + 1 + 1, o1) :: (L + 1, o2) :: news0) hp))
        case e3 => (show kos ++ _ = (pre ++ [k]).flatMap (fourI wd); rw [hP, List.flatMap_append, List.flatMap_cons, List.flatMap_nil, List.append_nil, hfour])
  case done =>
    rintro ⟨kvs, kos, kn⟩ u' h tk hB hP gF gN
    clear lF lN
    dsimp only at gF gN hP hB
    subst hP
    k_steps
    (rename Fr _ _ _ _ => lF); (rename News _ _ _ _ => lN)
    exact hret _ _ _ _ _ (hR _ _ hB) lF (fun p hp => lN p (by
      rcases List.mem_cons.mp hp with rfl | hp
      · exact List.Mem.head _
      · exact List.Mem.tail _ (List.Mem.tail _ (List.Mem.tail _ (List.Mem.tail _ hp)))))
/-! OyOrd3 -/
noncomputable def orderI (f : Nat) (wd : List UInt8) : List Int := (kindsI f wd.length).flatMap (fourI wd)
theorem kindsI_in {f n : Nat} (h : n ≤ 16) : ∀ k ∈ kindsI f n, 0 ≤ k ∧ k < 16 := by
  intro k hk
  have h1 : k ∈ foursI n := by
    unfold kindsI at hk
    rcases List.mem_append.mp hk with hk | hk
    · rcases List.mem_append.mp hk with hk | hk
      · exact (List.mem_filter.mp hk).1
      · exact (List.mem_filter.mp hk).1
    · exact (List.mem_filter.mp hk).1
  obtain ⟨i, hi, rfl⟩ := List.mem_map.mp h1
  rw [List.mem_range] at hi
  omega
theorem kindsI_len (f n : Nat) (h : n ≤ 16) : (kindsI f n).length ≤ 200 := by
  unfold kindsI
  have h0 := foursI_len n
  have h1 := List.length_filter_le (kA f) (foursI n)
  have h2 := List.length_filter_le (kB f) (foursI n)
  have h3 := List.length_filter_le (kC f) (foursI n)
  rw [List.length_append, List.length_append]
  omega
theorem ct_order (w : World) (wd : List UInt8) (f : Nat) (t u : Tok) (news : List (Addr × Obj)) (hw : 4 ≤ wd.length ∧ wd.length ≤ 16) (hf : f ≤ 60) :
    Ct w 3 149 [.bytes wd.toArray t, .int (f : Int) u] news (fun v n' => ∃ lo vs n, v = .ref lo ∧ IntsAre vs (orderI f wd) ∧ n' = (lo, W.listOf vs.toArray n) :: news) := by
  have hfl := foursI_len wd.length
  have hl1 := List.length_filter_le (kA f) (foursI wd.length)
  have hl2 := List.length_filter_le (kB f) (foursI wd.length)
  unfold Ct
  k_fill
  w_top off
  intro p loose mean mg mb dp un gd cn cs a ccd cl outer A₀ base h₀ L m s Q E B F X N T hk hd hu hret
  refine wpAny_call ?_
  k_dflt (first | (refine' code_def ?k1 ?k2 ?k3 ?k4 ?k5 ?kA ?kF ?kK ?k6 ?k7 ?k8 ?k9 ?kB ?_ ?c2 ?c3 ?c4 ?c5; (case kA => exact rfl); (case kF => exact rfl); (case kK => assumption); (case k1 => k_asm); (case k2 => k_asm); (case k3 => k_asm); (case k4 => k_asm); (case k5 => k_asm); (case k6 => k_is); (case k7 => k_is); (case k8 => ktr_room); (case k9 => first | exact BindsTo.of_eq rfl | exact binds_K (by k_in) rfl (by k_is) rfl rfl rfl); (case c5 => decide); (case kB => exact locs rfl); (case c2 => exact rfl); (case c3 => exact rfl); (case c4 => exact rfl); k_whole; intro g' L' h' FG' F' N' B' X' T'; (try dsimp only); (try k_fold)) | (refine' code_defC ?k1 ?k2 ?k3 ?k4 ?k5 ?kA ?kF ?kK ?k6 ?k7 ?k8 ?k9 ?kB ?kD ?_ ?c2 ?c3 ?c4; (case kA => exact rfl); (case kF => exact rfl); (case kK => assumption); (case k1 => k_asm); (case k2 => k_asm); (case k3 => k_asm); (case k4 => k_asm); (case k5 => k_asm); (case k6 => k_is); (case k7 => k_is); (case k8 => ktr_room); (case k9 => first | exact BindsTo.of_eq rfl | exact binds_K (by k_in) rfl (by k_is) rfl rfl rfl); (case kB => exact rfl); (case kD => decide +kernel); (case c2 => exact rfl); (case c3 => exact rfl); (case c4 => exact rfl); k_whole; intro g' L' h' tk' cells' FG' F' N' Y' B' X' T' l1; k_cells Y'; (try simp only [List.cons_append, List.nil_append] at N'); (try dsimp only); (try k_fold)))
  (rename Fr _ _ _ (bindL _ _ _) => eF); (rename News _ _ _ _ => eN); (rename Frag.In _ _ => eX); (rename Below _ _ _ _ => eB); (rename Top _ _ _ _ _ _ => eT); (rename Fr _ _ _ m => eFG); (rename ∀ p ∈ news, _ => e1)
  with_unfolding_all (replace eF : Fr _ _ _ (kstB (fun _ => none) []) := eF)
  (rename _ = Data.cell (bindC _ _ _ (Str.ofString "word")) => d2)
  (rename _ = Data.cell (bindC _ _ _ (Str.ofString "first")) => d1)
  with_unfolding_all (replace d1 : _ = Data.cell (some (Value.int (f : Int) u)) := d1)
  with_unfolding_all (replace d2 : _ = Data.cell (some (Value.bytes wd.toArray t)) := d2)
  simp only [ord_env]
  have key : Ord w wd f 0 [] [] news (fun _ => True) (fun v n' => ∃ lo vs n, v = .ref lo ∧ IntsAre vs (orderI f wd) ∧ n' = (lo, W.listOf vs.toArray n) :: news) := by
    refine ord0 w wd f news _ hw hf fun D ys n hI => ?_
    refine ord1 w wd f news _ hw hf D ys n hI fun D2 ys2 n2 hI2 => ?_
    refine ord2 w wd f news _ hw hf D ys n hI D2 ys2 n2 _ hI2 (by omega) fun D3 ys3 n3 hI3 => ?_
    refine ord3 w wd f news _ hw hf D ys n hI D3 ys3 n3 _ hI3 (by rw [List.length_append]; omega) fun D4 ys4 n4 lo hI4 => ?_
    exact ord5 w wd f news _ hw D4 ys4 n4 lo (kindsI f wd.length) (kindsI_len _ _ hw.2) (kindsI_in hw.2) hI4 fun vs n hv => ⟨lo, vs, n, rfl, hv, rfl⟩
  unfold Ord at key
  (with_unfolding_all refine' key p loose mean mg mb dp un gd cn cs L a ccd cl outer base _ _ (fun _ => none) _ _ u t _ _ _ eF eX eT eN d1 d2 trivial ?sE ?sg)
  case sE => passes_own
  case sg =>
    intro v news' m' h' tk' hR F' N'
    clear eF eN
    dsimp only
    k_with_none
    k_with "subscriptTail" => (k_here; (with_reducible show wpAny _ _ (subscriptTail _ _ (Value.ref _) (Value.int _ _)) _ _ _); k_dflt (refine' by_sub ?k1 ?k2 ?k3 ?k4 ?k5 ?k6 ?_ ?k7 ?k8; (case k1 => k_asm); (case k2 => k_mem); (case k3 => with_reducible assumption); (case k4 => (first | omega | ((simp only [List.length_append, List.length_dropLast, List.length_set, List.length_cons, List.length_nil, List.length_take, List.length_drop] at *); omega))); (case k5 => (first | omega | ((simp only [List.length_append, List.length_dropLast, List.length_set, List.length_cons, List.length_nil, List.length_take, List.length_drop] at *); omega))); (case k6 => (first | omega | ((simp only [List.length_append, List.length_dropLast, List.length_set, List.length_cons, List.length_nil, List.length_take, List.length_drop] at *); omega))); (case k7 => with_unfolding_all rfl); (case k8 => (intro _; with_unfolding_all rfl)); k_whole); intro _)
    k_with "compareOp Lt bytes bytes" => refine lt_bytes ?_
    k_with "setItem ref int" => (k_here; (with_reducible show wpAny _ _ (setItem (Value.ref _) (Value.int _ _) (Value.bytes _ _)) _ _ _); k_dflt (refine' by_set ?k1 ?k2 ?k3 ?k4 ?k5 ?k6 ?k7 ?_; (case k1 => k_asm); (case k2 => k_asm); (case k3 => k_upd); (case k4 => with_reducible assumption); (case k5 => (first | omega | ((simp only [List.length_append, List.length_dropLast, List.length_set, List.length_cons, List.length_nil, List.length_take, List.length_drop] at *); omega))); (case k6 => (first | omega | ((simp only [List.length_append, List.length_dropLast, List.length_set, List.length_cons, List.length_nil, List.length_take, List.length_drop] at *); omega))); (case k7 => (first | omega | ((simp only [List.length_append, List.length_dropLast, List.length_set, List.length_cons, List.length_nil, List.length_take, List.length_drop] at *); omega))); k_whole); intro h' F' N' hi'; (try k_sweep))
    k_with "call builtin:len" => (k_here; (with_reducible show wpAny _ _ (call (Value.builtin "len") [Value.ref _]) _ _ _); k_dflt (refine' by_len ?k1 ?k2 ?k3 ?k4 ?_; (case k1 => k_asm); (case k2 => k_mem); (case k3 => with_reducible assumption); (case k4 => (first | omega | ((simp only [List.length_append, List.length_dropLast, List.length_set, List.length_cons, List.length_nil, List.length_take, List.length_drop] at *); omega))); k_whole))
    k_with "truthy ref" => (k_here; k_dflt (refine' by_truthy ?k1 ?k2 ?k3 ?k4 ?_; (case k1 => k_asm); (case k2 => k_mem); (case k3 => with_reducible assumption); (case k4 => (first | omega | ((simp only [List.length_append, List.length_dropLast, List.length_set, List.length_cons, List.length_nil, List.length_take, List.length_drop] at *); omega))); k_whole))
    k_with "call builtin:list.pop" => (k_here; (with_reducible show wpAny _ _ (call (Value.builtin _) [Value.ref _]) _ _ _); k_dflt (refine' by_pop ?F ?N ?U ?i ?l ?z ?_; (case F => k_asm); (case N => k_asm); (case U => k_upd); (case i => with_reducible assumption); (case l => (first | omega | ((simp only [List.length_append, List.length_dropLast, List.length_set, List.length_cons, List.length_nil, List.length_take, List.length_drop] at *); omega))); (case z => (rw [PySem.sizeLine_eq]; (first | omega | ((simp only [List.length_append, List.length_dropLast, List.length_set, List.length_cons, List.length_nil, List.length_take, List.length_drop] at *); omega)))); k_whole); intro h' t' F' N' hi'; (try k_sweep))
    k_with "call builtin:list.pop" => (k_here; (with_reducible show wpAny _ _ (call (Value.builtin _) [Value.ref _, Value.int _ _]) _ _ _); k_dflt (refine' by_popAt ?F ?N ?U ?i ?l0 ?l ?z ?_; (case F => k_asm); (case N => k_asm); (case U => k_upd); (case i => with_reducible assumption); (case l0 => (first | omega | ((simp only [List.length_append, List.length_dropLast, List.length_set, List.length_cons, List.length_nil, List.length_take, List.length_drop] at *); omega))); (case l => (first | omega | ((simp only [List.length_append, List.length_dropLast, List.length_set, List.length_cons, List.length_nil, List.length_take, List.length_drop] at *); omega))); (case z => (rw [PySem.sizeLine_eq]; (first | omega | ((simp only [List.length_append, List.length_dropLast, List.length_set, List.length_cons, List.length_nil, List.length_take, List.length_drop] at *); omega)))); k_whole); intro h' t' F' N' hi'; (try k_sweep))
    k_with "call builtin:list.append" => (k_here; (with_reducible show wpAny _ _ (call (Value.builtin _) [Value.ref _, Value.bytes _ _]) _ _ _); k_dflt (refine' by_append ?F ?N ?U ?i ?z ?_; (case F => k_asm); (case N => k_asm); (case U => k_upd); (case i => with_reducible assumption); (case z => (rw [PySem.sizeLine_eq]; (first | omega | ((simp only [List.length_append, List.length_dropLast, List.length_set, List.length_cons, List.length_nil, List.length_take, List.length_drop] at *); omega)))); k_whole); intro h' F' N' hi'; (try k_sweep))
    k_with "call type:type" => ((with_reducible show wpAny _ _ (call (Value.type "type") [Value.bytes _ _]) _ _ _); refine call_type_of (Tx := "bytes") rfl (by decide +kernel) ?_)
    k_with "call type:type" => ((with_reducible show wpAny _ _ (call (Value.type "type") [Value.bool _]) _ _ _); refine call_type_of (Tx := "bool") rfl (by decide +kernel) ?_)
    k_with "exec For" => (k_here; (rename Fr _ _ _ _ => lF'); (with_unfolding_all refine' For_invVF lF' ?k1 ?k2 ?_ ?k3 ?k4; (case k1 => exact rfl); (case k2 => exact rfl); (case k3 => (intro _; rfl)); (case k4 => first | assumption | passes_own); k_whole); clear lF')
    k_steps
    (rename Fr _ _ _ _ => lF); (rename News _ _ _ _ => lN)
    exact hret _ _ _ _ hR lF lN
/-! OyS15 -/
theorem nb_lists {prog : Program} {w : World} {A : Around} {E : Value → Shared → Prop} {s : Shared} {a b : Addr} {vs us : List Value} {bs : List By} {Q : Value → Shared → Prop} (hl : s.heap.IsList a vs.toArray) (hb : s.heap.IsList b us.toArray) (hi : BytesAre vs bs) (hj : BytesAre us bs) (hu : A.units < cLine) (h : Q (.bool false) s) :
    wpAny (model prog w) A (compareOp .NotEq (.ref a) (.ref b)) Q E s := by
  have h1 := hi.length
  have h2 := hj.length
  refine cmp_ofNotEq (SeqAt.RcNeAt.lists (e := fun _ => true) hl hb (by rw [List.size_toArray, List.size_toArray]; omega) hu (fun j j1 j2 => ?_) prog w E Q ?_)
  case refine_2 => (rw [show (List.range vs.toArray.size).all (fun _ => true) = true from List.all_eq_true.mpr fun _ _ => rfl]; exact h)
  rw [List.size_toArray] at j1 j2
  obtain ⟨t, e1⟩ := hi.get (i := j) (by omega)
  obtain ⟨u, e2⟩ := hj.get (i := j) (by omega)
  have f1 : vs.toArray[j]'(by rw [List.size_toArray]; exact j1) = .bytes (bs.getD j #[]) t := by
    rw [List.getElem?_eq_getElem j1] at e1
    simpa using e1
  have f2 : us.toArray[j]'(by rw [List.size_toArray]; exact j2) = .bytes (bs.getD j #[]) u := by
    rw [List.getElem?_eq_getElem j2] at e2
    simpa using e2
  rw [f1, f2]
  intro prog w E Q hq
  exact eqBool_bytes (by simpa using hq)
theorem seg15 (w : World) (ls : Addr) (vs : List Value) (ns : List Int) (o1 o2 : Obj) (lt : Addr) (t1 t2 t3 t4 : Tok) (h2 : o1.data = .cell (some (.ref lt)))
    (nb : Int) (wd S : List UInt8) (f : Nat) (hw : 4 ≤ wd.length ∧ wd.length ≤ 16) (hf : f ≤ 60) (tvs : List Value) (n : Nat) (tbs : List By) (hT : BytesAre tvs tbs) (hTl : tbs.length ≤ 16)
    (lh : Addr) (hvs : List Value) (hn : Nat) (h3 : o2.data = .cell (some (.ref lh))) (hH : BytesAre hvs [])
    (D : Addr) (ovs : List Value) (on : Nat) (hO : BytesAre ovs ((orderI f wd).map fun k => tbs.getD k.toNat #[])) (hk : ∀ k ∈ orderI f wd, 0 ≤ k ∧ k < tbs.length)
    (seg17 : ∀ (lo : Addr) (rvs : List Value) (rn : Nat), IntsAre rvs (orderI f wd) → Seg w ls vs ns 17 [(Str.ofString "number", .int nb t1), (Str.ofString "signs", .bytes S.toArray t3), (Str.ofString "first", .int (f : Int) t4), (Str.ofString "out", .ref D), (Str.ofString "order", .ref lo)] (fun L => [(lo, W.listOf rvs.toArray rn), (D, W.listOf ovs.toArray on)]) (fun _ => True)) :
    Seg w ls vs ns 15 [(Str.ofString "number", .int nb t1), (Str.ofString "word", .bytes wd.toArray t2), (Str.ofString "signs", .bytes S.toArray t3), (Str.ofString "first", .int (f : Int) t4), (Str.ofString "out", .ref D)] (fun L => [(D, W.listOf ovs.toArray on), (lh, W.listOf hvs.toArray hn), (lt, W.listOf tvs.toArray n), (L + 2, o2), (L + 1, o1)]) (fun _ => True) := by
  unfold Seg
  k_fill
  w_top off
  intro p loose mean mg mb dp un gd fa ccd outer A₀ base h₀ L u s Q E B F X N T hl hi h63 _ hdp hun hE hret
  dsimp only at N
  k_with_none
  k_with "subscriptTail" => (k_here; (with_reducible show wpAny _ _ (subscriptTail _ _ (Value.ref _) (Value.int _ _)) _ _ _); k_dflt (refine' by_sub ?k1 ?k2 ?k3 ?k4 ?k5 ?k6 ?_ ?k7 ?k8; (case k1 => k_asm); (case k2 => k_mem); (case k3 => with_reducible assumption); (case k4 => (first | omega | ((simp only [List.length_append, List.length_dropLast, List.length_set, List.length_cons, List.length_nil, List.length_take, List.length_drop] at *); omega))); (case k5 => (first | omega | ((simp only [List.length_append, List.length_dropLast, List.length_set, List.length_cons, List.length_nil, List.length_take, List.length_drop] at *); omega))); (case k6 => (first | omega | ((simp only [List.length_append, List.length_dropLast, List.length_set, List.length_cons, List.length_nil, List.length_take, List.length_drop] at *); omega))); (case k7 => with_unfolding_all rfl); (case k8 => (intro _; with_unfolding_all rfl)); k_whole); intro _)
  k_with "compareOp Lt bytes bytes" => refine lt_bytes ?_
  k_with "setItem ref int" => (k_here; (with_reducible show wpAny _ _ (setItem (Value.ref _) (Value.int _ _) (Value.bytes _ _)) _ _ _); k_dflt (refine' by_set ?k1 ?k2 ?k3 ?k4 ?k5 ?k6 ?k7 ?_; (case k1 => k_asm); (case k2 => k_asm); (case k3 => k_upd); (case k4 => with_reducible assumption); (case k5 => (first | omega | ((simp only [List.length_append, List.length_dropLast, List.length_set, List.length_cons, List.length_nil, List.length_take, List.length_drop] at *); omega))); (case k6 => (first | omega | ((simp only [List.length_append, List.length_dropLast, List.length_set, List.length_cons, List.length_nil, List.length_take, List.length_drop] at *); omega))); (case k7 => (first | omega | ((simp only [List.length_append, List.length_dropLast, List.length_set, List.length_cons, List.length_nil, List.length_take, List.length_drop] at *); omega))); k_whole); intro h' F' N' hi'; (try k_sweep))
  k_with "call builtin:len" => (k_here; (with_reducible show wpAny _ _ (call (Value.builtin "len") [Value.ref _]) _ _ _); k_dflt (refine' by_len ?k1 ?k2 ?k3 ?k4 ?_; (case k1 => k_asm); (case k2 => k_mem); (case k3 => with_reducible assumption); (case k4 => (first | omega | ((simp only [List.length_append, List.length_dropLast, List.length_set, List.length_cons, List.length_nil, List.length_take, List.length_drop] at *); omega))); k_whole))
  k_with "truthy ref" => (k_here; k_dflt (refine' by_truthy ?k1 ?k2 ?k3 ?k4 ?_; (case k1 => k_asm); (case k2 => k_mem); (case k3 => with_reducible assumption); (case k4 => (first | omega | ((simp only [List.length_append, List.length_dropLast, List.length_set, List.length_cons, List.length_nil, List.length_take, List.length_drop] at *); omega))); k_whole))
  k_with "call builtin:list.pop" => (k_here; (with_reducible show wpAny _ _ (call (Value.builtin _) [Value.ref _]) _ _ _); k_dflt (refine' by_pop ?F ?N ?U ?i ?l ?z ?_; (case F => k_asm); (case N => k_asm); (case U => k_upd); (case i => with_reducible assumption); (case l => (first | omega | ((simp only [List.length_append, List.length_dropLast, List.length_set, List.length_cons, List.length_nil, List.length_take, List.length_drop] at *); omega))); (case z => (rw [PySem.sizeLine_eq]; (first | omega | ((simp only [List.length_append, List.length_dropLast, List.length_set, List.length_cons, List.length_nil, List.length_take, List.length_drop] at *); omega)))); k_whole); intro h' t' F' N' hi'; (try k_sweep))
  k_with "call builtin:list.pop" => (k_here; (with_reducible show wpAny _ _ (call (Value.builtin _) [Value.ref _, Value.int _ _]) _ _ _); k_dflt (refine' by_popAt ?F ?N ?U ?i ?l0 ?l ?z ?_; (case F => k_asm); (case N => k_asm); (case U => k_upd); (case i => with_reducible assumption); (case l0 => (first | omega | ((simp only [List.length_append, List.length_dropLast, List.length_set, List.length_cons, List.length_nil, List.length_take, List.length_drop] at *); omega))); (case l => (first | omega | ((simp only [List.length_append, List.length_dropLast, List.length_set, List.length_cons, List.length_nil, List.length_take, List.length_drop] at *); omega))); (case z => (rw [PySem.sizeLine_eq]; (first | omega | ((simp only [List.length_append, List.length_dropLast, List.length_set, List.length_cons, List.length_nil, List.length_take, List.length_drop] at *); omega)))); k_whole); intro h' t' F' N' hi'; (try k_sweep))
  k_with "call builtin:list.append" => (k_here; (with_reducible show wpAny _ _ (call (Value.builtin _) [Value.ref _, Value.bytes _ _]) _ _ _); k_dflt (refine' by_append ?F ?N ?U ?i ?z ?_; (case F => k_asm); (case N => k_asm); (case U => k_upd); (case i => with_reducible assumption); (case z => (rw [PySem.sizeLine_eq]; (first | omega | ((simp only [List.length_append, List.length_dropLast, List.length_set, List.length_cons, List.length_nil, List.length_take, List.length_drop] at *); omega)))); k_whole); intro h' F' N' hi'; (try k_sweep))
  k_with "call type:type" => ((with_reducible show wpAny _ _ (call (Value.type "type") [Value.bytes _ _]) _ _ _); refine call_type_of (Tx := "bytes") rfl (by decide +kernel) ?_)
  k_with "call type:type" => ((with_reducible show wpAny _ _ (call (Value.type "type") [Value.bool _]) _ _ _); refine call_type_of (Tx := "bool") rfl (by decide +kernel) ?_)
  k_with "exec For" => (k_here; (rename Fr _ _ _ _ => lF'); (with_unfolding_all refine' For_invVF lF' ?k1 ?k2 ?_ ?k3 ?k4; (case k1 => exact rfl); (case k2 => exact rfl); (case k3 => (intro _; rfl)); (case k4 => first | assumption | passes_own); k_whole); clear lF')
  k_with "call ref" => refine Hold.of ?_
  (with_unfolding_all refine wpAny_execs_cons ?_)
  k_steps
  unfold Hold
  (rename Fr _ _ _ _ => lF); (rename News _ _ _ _ => lN)
  k_dflt (refine' Ct.use (ct_order w wd f _ _ _ hw hf) ?B lF ?X lN ?T ?k ?d ?u ?_; (case B => k_asm); (case X => k_asm); (case T => k_asm); (case k => rfl); (case d => omega); (case u => omega))
  rintro _ _ h' tk' ⟨lo, rvs, rn, rfl, hR, rfl⟩ F'' N''
  clear lF lN
  k_with "compareOp NotEq ref ref" => refine Hold.of ?_
  k_with "CompSrc" => refine Hold.of ?_
  k_with "execs cons" => (try dsimp only; refine Hold.of ?_)
  k_steps
  unfold Hold
  (with_unfolding_all refine wpAny_execs_cons ?_)
  k_steps
  unfold Hold
  (rename Fr _ _ _ _ => lF); (rename News _ _ _ _ => lN)
  have hH0 : hvs = [] := List.eq_nil_of_length_eq_zero hH.length
  subst hH0
  refine nb_lists (News.isList lN (List.Mem.tail _ (List.Mem.tail _ (List.Mem.tail _ (List.Mem.head _))))) (News.isList lN (List.Mem.head _)) BytesAre.nil BytesAre.nil ?u ?_
  case u => (show un < _; omega)
  k_steps
  unfold Hold
  obtain ⟨le, lN, hle⟩ : ∃ le, News h₀ L _ [(le, W.listOf #[] 0), (lo, W.listOf rvs.toArray rn), (D, W.listOf ovs.toArray on), (lh, W.listOf [].toArray hn), (lt, W.listOf tvs.toArray n), (L + 2, o2), (L + 1, o1)] ∧ True := ⟨_, lN, trivial⟩
  have hRl := hR.length
  have hol : (orderI f wd).length ≤ 1000 := by
    have h1 := flat_len wd (kindsI f wd.length)
    have h2 := kindsI_len f wd.length hw.2
    unfold orderI
    omega
  refine LCg.CompSrc.ledger (by rfl) lF lN (List.Mem.tail _ (List.Mem.head _)) ?z ?_
  case z => (rw [PySem.sizeLine_eq, List.size_toArray]; omega)
  intro g
  rw [List.size_toArray, hRl]
  refine comp_ind (fun k i ysv nw => nw = [(le, W.listOf #[] 0), (lo, W.listOf rvs.toArray rn), (D, W.listOf ovs.toArray on), (lh, W.listOf [].toArray hn), (lt, W.listOf tvs.toArray n), (L + 2, o2), (L + 1, o1)] ∧ k + i = (orderI f wd).length ∧ BytesAre ysv (((orderI f wd).take i).map fun k => tbs.getD k.toNat #[])) ?hz ?hs _ _ _ _ ⟨rfl, rfl, BytesAre.nil⟩
  case hz =>
    rintro i ysv nw ⟨rfl, hk', hY⟩
    clear lF lN
    rw [show i = (orderI f wd).length by omega, List.take_length] at hY
    intro D2 h tk gF gN _
    dsimp only
    refine nb_lists (News.isList gN (List.Mem.tail _ (List.Mem.tail _ (List.Mem.tail _ (List.Mem.head _))))) (News.isList gN (List.Mem.head _)) hO hY ?u ?_
    case u => (show un < _; omega)
    k_with_none
    k_with "subscriptTail" => (k_here; (with_reducible show wpAny _ _ (subscriptTail _ _ (Value.ref _) (Value.int _ _)) _ _ _); k_dflt (refine' by_sub ?k1 ?k2 ?k3 ?k4 ?k5 ?k6 ?_ ?k7 ?k8; (case k1 => k_asm); (case k2 => k_mem); (case k3 => with_reducible assumption); (case k4 => (first | omega | ((simp only [List.length_append, List.length_dropLast, List.length_set, List.length_cons, List.length_nil, List.length_take, List.length_drop] at *); omega))); (case k5 => (first | omega | ((simp only [List.length_append, List.length_dropLast, List.length_set, List.length_cons, List.length_nil, List.length_take, List.length_drop] at *); omega))); (case k6 => (first | omega | ((simp only [List.length_append, List.length_dropLast, List.length_set, List.length_cons, List.length_nil, List.length_take, List.length_drop] at *); omega))); (case k7 => with_unfolding_all rfl); (case k8 => (intro _; with_unfolding_all rfl)); k_whole); intro _)
    k_with "compareOp Lt bytes bytes" => refine lt_bytes ?_
    k_with "setItem ref int" => (k_here; (with_reducible show wpAny _ _ (setItem (Value.ref _) (Value.int _ _) (Value.bytes _ _)) _ _ _); k_dflt (refine' by_set ?k1 ?k2 ?k3 ?k4 ?k5 ?k6 ?k7 ?_; (case k1 => k_asm); (case k2 => k_asm); (case k3 => k_upd); (case k4 => with_reducible assumption); (case k5 => (first | omega | ((simp only [List.length_append, List.length_dropLast, List.length_set, List.length_cons, List.length_nil, List.length_take, List.length_drop] at *); omega))); (case k6 => (first | omega | ((simp only [List.length_append, List.length_dropLast, List.length_set, List.length_cons, List.length_nil, List.length_take, List.length_drop] at *); omega))); (case k7 => (first | omega | ((simp only [List.length_append, List.length_dropLast, List.length_set, List.length_cons, List.length_nil, List.length_take, List.length_drop] at *); omega))); k_whole); intro h' F' N' hi'; (try k_sweep))
    k_with "call builtin:len" => (k_here; (with_reducible show wpAny _ _ (call (Value.builtin "len") [Value.ref _]) _ _ _); k_dflt (refine' by_len ?k1 ?k2 ?k3 ?k4 ?_; (case k1 => k_asm); (case k2 => k_mem); (case k3 => with_reducible assumption); (case k4 => (first | omega | ((simp only [List.length_append, List.length_dropLast, List.length_set, List.length_cons, List.length_nil, List.length_take, List.length_drop] at *); omega))); k_whole))
    k_with "truthy ref" => (k_here; k_dflt (refine' by_truthy ?k1 ?k2 ?k3 ?k4 ?_; (case k1 => k_asm); (case k2 => k_mem); (case k3 => with_reducible assumption); (case k4 => (first | omega | ((simp only [List.length_append, List.length_dropLast, List.length_set, List.length_cons, List.length_nil, List.length_take, List.length_drop] at *); omega))); k_whole))
    k_with "call builtin:list.pop" => (k_here; (with_reducible show wpAny _ _ (call (Value.builtin _) [Value.ref _]) _ _ _); k_dflt (refine' by_pop ?F ?N ?U ?i ?l ?z ?_; (case F => k_asm); (case N => k_asm); (case U => k_upd); (case i => with_reducible assumption); (case l => (first | omega | ((simp only [List.length_append, List.length_dropLast, List.length_set, List.length_cons, List.length_nil, List.length_take, List.length_drop] at *); omega))); (case z => (rw [PySem.sizeLine_eq]; (first | omega | ((simp only [List.length_append, List.length_dropLast, List.length_set, List.length_cons, List.length_nil, List.length_take, List.length_drop] at *); omega)))); k_whole); intro h' t' F' N' hi'; (try k_sweep))
    k_with "call builtin:list.pop" => (k_here; (with_reducible show wpAny _ _ (call (Value.builtin _) [Value.ref _, Value.int _ _]) _ _ _); k_dflt (refine' by_popAt ?F ?N ?U ?i ?l0 ?l ?z ?_; (case F => k_asm); (case N => k_asm); (case U => k_upd); (case i => with_reducible assumption); (case l0 => (first | omega | ((simp only [List.length_append, List.length_dropLast, List.length_set, List.length_cons, List.length_nil, List.length_take, List.length_drop] at *); omega))); (case l => (first | omega | ((simp only [List.length_append, List.length_dropLast, List.length_set, List.length_cons, List.length_nil, List.length_take, List.length_drop] at *); omega))); (case z => (rw [PySem.sizeLine_eq]; (first | omega | ((simp only [List.length_append, List.length_dropLast, List.length_set, List.length_cons, List.length_nil, List.length_take, List.length_drop] at *); omega)))); k_whole); intro h' t' F' N' hi'; (try k_sweep))
    k_with "call builtin:list.append" => (k_here; (with_reducible show wpAny _ _ (call (Value.builtin _) [Value.ref _, Value.bytes _ _]) _ _ _); k_dflt (refine' by_append ?F ?N ?U ?i ?z ?_; (case F => k_asm); (case N => k_asm); (case U => k_upd); (case i => with_reducible assumption); (case z => (rw [PySem.sizeLine_eq]; (first | omega | ((simp only [List.length_append, List.length_dropLast, List.length_set, List.length_cons, List.length_nil, List.length_take, List.length_drop] at *); omega)))); k_whole); intro h' F' N' hi'; (try k_sweep))
    k_with "call type:type" => ((with_reducible show wpAny _ _ (call (Value.type "type") [Value.bytes _ _]) _ _ _); refine call_type_of (Tx := "bytes") rfl (by decide +kernel) ?_)
    k_with "call type:type" => ((with_reducible show wpAny _ _ (call (Value.type "type") [Value.bool _]) _ _ _); refine call_type_of (Tx := "bool") rfl (by decide +kernel) ?_)
    k_with "exec For" => (k_here; (rename Fr _ _ _ _ => lF'); (with_unfolding_all refine' For_invVF lF' ?k1 ?k2 ?_ ?k3 ?k4; (case k1 => exact rfl); (case k2 => exact rfl); (case k3 => (intro _; rfl)); (case k4 => first | assumption | passes_own); k_whole); clear lF')
    k_with "execs cons" => (try dsimp only; refine Hold.of ?_)
    k_steps
    unfold Hold
    (rename Fr _ _ _ _ => eF); (rename News _ _ _ _ => eN)
    (with_unfolding_all refine' Seg.use (seg17 lo rvs rn hR) B (fr_canon eF ?sc) X ?sN T hl (by assumption) h63 trivial hdp hun hE ?sg)
    case sc => kst_all
    case sN => exact fun p hp => eN p (by
      simp only [List.mem_cons, List.not_mem_nil, or_false] at hp ⊢
      rcases hp with h | h <;> simp [h])
    case sg => exact fun m' news' h' tk' F' N' => hret m' news' h' tk' F' N'
  case hs =>
    rintro k i ysv nw ⟨rfl, hk', hY⟩ v I oI C oC D2 m₂ h tk E' hv hC hm gF gN hoff hne
    clear lF lN
    simp only [LCg.Off3, and_true] at hoff
    rw [List.getElem?_toArray] at hv
    obtain ⟨a, t, rfl, ha⟩ := hR.at i v hv
    obtain ⟨ha0, ha1⟩ := hk a (List.mem_of_getElem? ha)
    k_with_none
    k_with "subscriptTail" => (k_here; (with_reducible show wpAny _ _ (subscriptTail _ _ (Value.ref _) (Value.int _ _)) _ _ _); k_dflt (refine' by_sub ?k1 ?k2 ?k3 ?k4 ?k5 ?k6 ?_ ?k7 ?k8; (case k1 => k_asm); (case k2 => k_mem); (case k3 => with_reducible assumption); (case k4 => (first | omega | ((simp only [List.length_append, List.length_dropLast, List.length_set, List.length_cons, List.length_nil, List.length_take, List.length_drop] at *); omega))); (case k5 => (first | omega | ((simp only [List.length_append, List.length_dropLast, List.length_set, List.length_cons, List.length_nil, List.length_take, List.length_drop] at *); omega))); (case k6 => (first | omega | ((simp only [List.length_append, List.length_dropLast, List.length_set, List.length_cons, List.length_nil, List.length_take, List.length_drop] at *); omega))); (case k7 => with_unfolding_all rfl); (case k8 => (intro _; with_unfolding_all rfl)); k_whole); intro _)
    k_with "compareOp Lt bytes bytes" => refine lt_bytes ?_
    k_with "setItem ref int" => (k_here; (with_reducible show wpAny _ _ (setItem (Value.ref _) (Value.int _ _) (Value.bytes _ _)) _ _ _); k_dflt (refine' by_set ?k1 ?k2 ?k3 ?k4 ?k5 ?k6 ?k7 ?_; (case k1 => k_asm); (case k2 => k_asm); (case k3 => k_upd); (case k4 => with_reducible assumption); (case k5 => (first | omega | ((simp only [List.length_append, List.length_dropLast, List.length_set, List.length_cons, List.length_nil, List.length_take, List.length_drop] at *); omega))); (case k6 => (first | omega | ((simp only [List.length_append, List.length_dropLast, List.length_set, List.length_cons, List.length_nil, List.length_take, List.length_drop] at *); omega))); (case k7 => (first | omega | ((simp only [List.length_append, List.length_dropLast, List.length_set, List.length_cons, List.length_nil, List.length_take, List.length_drop] at *); omega))); k_whole); intro h' F' N' hi'; (try k_sweep))
    k_with "call builtin:len" => (k_here; (with_reducible show wpAny _ _ (call (Value.builtin "len") [Value.ref _]) _ _ _); k_dflt (refine' by_len ?k1 ?k2 ?k3 ?k4 ?_; (case k1 => k_asm); (case k2 => k_mem); (case k3 => with_reducible assumption); (case k4 => (first | omega | ((simp only [List.length_append, List.length_dropLast, List.length_set, List.length_cons, List.length_nil, List.length_take, List.length_drop] at *); omega))); k_whole))
    k_with "truthy ref" => (k_here; k_dflt (refine' by_truthy ?k1 ?k2 ?k3 ?k4 ?_; (case k1 => k_asm); (case k2 => k_mem); (case k3 => with_reducible assumption); (case k4 => (first | omega | ((simp only [List.length_append, List.length_dropLast, List.length_set, List.length_cons, List.length_nil, List.length_take, List.length_drop] at *); omega))); k_whole))
    k_with "call builtin:list.pop" => (k_here; (with_reducible show wpAny _ _ (call (Value.builtin _) [Value.ref _]) _ _ _); k_dflt (refine' by_pop ?F ?N ?U ?i ?l ?z ?_; (case F => k_asm); (case N => k_asm); (case U => k_upd); (case i => with_reducible assumption); (case l => (first | omega | ((simp only [List.length_append, List.length_dropLast, List.length_set, List.length_cons, List.length_nil, List.length_take, List.length_drop] at *); omega))); (case z => (rw [PySem.sizeLine_eq]; (first | omega | ((simp only [List.length_append, List.length_dropLast, List.length_set, List.length_cons, List.length_nil, List.length_take, List.length_drop] at *); omega)))); k_whole); intro h' t' F' N' hi'; (try k_sweep))
    k_with "call builtin:list.pop" => (k_here; (with_reducible show wpAny _ _ (call (Value.builtin _) [Value.ref _, Value.int _ _]) _ _ _); k_dflt (refine' by_popAt ?F ?N ?U ?i ?l0 ?l ?z ?_; (case F => k_asm); (case N => k_asm); (case U => k_upd); (case i => with_reducible assumption); (case l0 => (first | omega | ((simp only [List.length_append, List.length_dropLast, List.length_set, List.length_cons, List.length_nil, List.length_take, List.length_drop] at *); omega))); (case l => (first | omega | ((simp only [List.length_append, List.length_dropLast, List.length_set, List.length_cons, List.length_nil, List.length_take, List.length_drop] at *); omega))); (case z => (rw [PySem.sizeLine_eq]; (first | omega | ((simp only [List.length_append, List.length_dropLast, List.length_set, List.length_cons, List.length_nil, List.length_take, List.length_drop] at *); omega)))); k_whole); intro h' t' F' N' hi'; (try k_sweep))
    k_with "call builtin:list.append" => (k_here; (with_reducible show wpAny _ _ (call (Value.builtin _) [Value.ref _, Value.bytes _ _]) _ _ _); k_dflt (refine' by_append ?F ?N ?U ?i ?z ?_; (case F => k_asm); (case N => k_asm); (case U => k_upd); (case i => with_reducible assumption); (case z => (rw [PySem.sizeLine_eq]; (first | omega | ((simp only [List.length_append, List.length_dropLast, List.length_set, List.length_cons, List.length_nil, List.length_take, List.length_drop] at *); omega)))); k_whole); intro h' F' N' hi'; (try k_sweep))
    k_with "call type:type" => ((with_reducible show wpAny _ _ (call (Value.type "type") [Value.bytes _ _]) _ _ _); refine call_type_of (Tx := "bytes") rfl (by decide +kernel) ?_)
    k_with "call type:type" => ((with_reducible show wpAny _ _ (call (Value.type "type") [Value.bool _]) _ _ _); refine call_type_of (Tx := "bool") rfl (by decide +kernel) ?_)
    k_with "exec For" => (k_here; (rename Fr _ _ _ _ => lF'); (with_unfolding_all refine' For_invVF lF' ?k1 ?k2 ?_ ?k3 ?k4; (case k1 => exact rfl); (case k2 => exact rfl); (case k3 => (intro _; rfl)); (case k4 => first | assumption | passes_own); k_whole); clear lF')
    k_with "CompEnd" => refine Hold.of ?_
    k_steps
    unfold Hold
    have e1 : (orderI f wd).take (i + 1) = (orderI f wd).take i ++ [a] := by
      rw [List.take_add_one, ha]; rfl
    refine LCg.CompEnd.intro gF gN [(le, W.listOf #[] 0), (lo, W.listOf rvs.toArray rn), (D, W.listOf ovs.toArray on), (lh, W.listOf [].toArray hn), (lt, W.listOf tvs.toArray n), (L + 2, o2), (L + 1, o1)] (fun _ h => h) ⟨hoff.1, hoff.2.1, hoff.2.2.1, hoff.2.2.2.1, hoff.2.2.2.2.1, hoff.2.2.2.2.2.1, hoff.2.2.2.2.2.2, trivial⟩ (.inr ⟨_, List.Mem.tail _ (List.Mem.head _), rfl, _, rfl⟩) ⟨rfl, by omega, ?_⟩
    rw [e1, List.map_append]
    exact hY.push _ _
/-! OyS17 -/
local macro_rules | `(tactic| walk_at $s:str) => `(tactic| k_extra $s)
section
variable {prog : Program} {w : World} {A : Around} {E : Value → Shared → Prop} {s : Shared} {h₀ : Heap} {L D : Addr} {news : List (Addr × Obj)} {j n : Nat} {t u : Tok} {Q : Value → Shared → Prop}
theorem by_subV {value slice : PySem.Expr} {vs : List Value} {bs : List By} {b : By} (N : News h₀ L s.heap news) (hm : (D, W.listOf vs.toArray n) ∈ news) (hi : BytesAre vs bs) (hj : j < bs.length) (hf : bs.length ≤ 1000) (e : bs.getD j #[] = b) (h : ∀ t, Q (.bytes b t) s)
    (hs : subscripted slice false (.ref D) (.int (j : Int) u) = operate [.ref D, .int (j : Int) u] (getItem (.ref D) (.int (j : Int) u)) := by with_unfolding_all rfl) (hg : ∀ r, letTemporaryGo value (.ref D) r = pure () := by intro _; with_unfolding_all rfl) :
    wpAny (model prog w) A (subscriptTail value slice (.ref D) (.int (j : Int) u)) Q E s := by
  subst e
  exact by_sub N hm hi (by omega) (by omega) (by omega) (fun t => by rw [Int.toNat_natCast]; exact h t) hs hg
theorem in_subV {value slice : PySem.Expr} {ps : List Int} {pvs : List Value} {v : Int} (N : News h₀ L s.heap news) (hm : (D, W.listOf pvs.toArray n) ∈ news) (hi : IntsAre pvs ps) (h1 : j < ps.length) (hf : ps.length ≤ 1000) (e : ps.getD j 0 = v) (h : ∀ t, Q (.int v t) s)
    (hs : subscripted slice false (.ref D) (.int (j : Int) u) = operate [.ref D, .int (j : Int) u] (getItem (.ref D) (.int (j : Int) u)) := by with_unfolding_all rfl) (hg : ∀ r, letTemporaryGo value (.ref D) r = pure () := by intro _; with_unfolding_all rfl) :
    wpAny (model prog w) A (subscriptTail value slice (.ref D) (.int (j : Int) u)) Q E s := by
  subst e
  exact in_sub N hm hi h1 (by omega) h hs hg
end
noncomputable def term (wd : List UInt8) (k : Int) : Int := (((wd.getD k.toNat 0).toNat : Int) - 65) * 16 ^ (wd.length - 1 - k.toNat)
theorem sg_all : ∀ i : Fin 64, b64v ((sg i.val).toNat : Int) = (i.val : Int) ∧ ((sg i.val).toNat : Int) ≠ 61 := by decide +kernel
theorem sg_b64 {i : Nat} (h : i < 64) : b64v ((sg i).toNat : Int) = (i : Int) := (sg_all ⟨i, h⟩).1
theorem sg_ne {i : Nat} (h : i < 64) : ((sg i).toNat : Int) ≠ 61 := (sg_all ⟨i, h⟩).2
theorem ne_same {prog : Program} {w : World} {A : Around} {E : Value → Shared → Prop} {s : Shared} {b c : By} {t u : Tok} {Q : Value → Shared → Prop} (e : b = c) (h : Q (.bool false) s) : wpAny (model prog w) A (compareOp .NotEq (.bytes b t) (.bytes c u)) Q E s := by
  subst e
  exact PySem.W.ne_bytes (by rw [show (b.toList != b.toList) = false from by simp]; exact h)
theorem oct_item {o : UInt8} {prog : Program} {w : World} {A : Around} {E : Value → Shared → Prop} {s : Shared} {t u : Tok} {Q : Value → Shared → Prop} {value slice : PySem.Expr} (h : Q (.int (o.toNat : Int) s.toks) { s with toks := s.toks + 1 })
    (hs : subscripted slice false (.bytes #[o] t) (.int 0 u) = operate [.bytes #[o] t, .int 0 u] (getItem (.bytes #[o] t) (.int 0 u)) := by with_unfolding_all rfl)
    (ht : ∀ r, letTemporaryGo value (.bytes #[o] t) r = pure () := by intro _; with_unfolding_all rfl) :
    wpAny (model prog w) A (subscriptTail value slice (.bytes #[o] t) (.int 0 u)) Q E s := KBy.item_N (x := [o]) (show 1 ≤ 1099511627776 by decide) (by decide) (show (0 : Int) < 1 by decide) h hs ht
theorem sub_val {prog : Program} {w : World} {A : Around} {E : Value → Shared → Prop} {s : Shared} {a b r : Int} {t u : Tok} {Q : Value → Shared → Prop} (e : a - b = r) (h : Q (.int r s.toks) { s with toks := s.toks + 1 }) : wpAny (model prog w) A (binaryOp .Sub (.int a t) (.int b u)) Q E s := sub_int (e ▸ h)
theorem sum_snoc : ∀ (l : List Int) (a : Int), (l ++ [a]).sum = l.sum + a
  | [], a => by simp
  | b :: r, a => by
    rw [List.cons_append, List.sum_cons, List.sum_cons, sum_snoc r a]; omega
theorem sum_step {wd : List UInt8} {ks : List Int} {j : Nat} {b t : Int} (h : b = ((ks.take j).map (term wd)).sum) (hj : j < ks.length) (ht : t = term wd ks[j]) : b + t = ((ks.take (j + 1)).map (term wd)).sum := by
  rw [List.take_add_one, List.getElem?_eq_getElem hj, Option.toList_some, List.map_append, List.map_singleton, sum_snoc, h, ht]
theorem dec_val {a b m : Nat} (h : 4 * a + b / 16 = m) : (4 * (a : Int) + (b : Int) / 16).toNat = m := by omega
theorem at_val {f kn m : Nat} (h : m = 4 * f + kn) : (m : Int) - 4 * (f : Int) = (kn : Int) := by omega
theorem let_val {a b : Nat} : ((a + b : Nat) : Int) - (a : Int) = (b : Int) := by omega
theorem one_val {a b : Nat} (h : a = b) (h' : 0 < b) : (a : Int) - 1 = ((b - 1 : Nat) : Int) := by omega
theorem rest_val {a k n : Nat} (h : a = n - 1) (h' : k < n) : (a : Int) - (k : Int) = ((n - 1 - k : Nat) : Int) := by omega
theorem seg17 (w : World) (ls : Addr) (vs : List Value) (ns : List Int) (t1 t3 t4 : Tok) (nb : Int) (wd S : List UInt8) (f : Nat) (hS : S = SIGNS) (hw : 4 ≤ wd.length ∧ wd.length ≤ 16) (hin : ∀ c ∈ wd, 65 ≤ c.toNat ∧ c.toNat ≤ 80) (hf : f ≤ 60)
    (ks : List Int) (hk : ∀ k ∈ ks, 0 ≤ k ∧ k < wd.length) (hkl : ks.length = wd.length) (D : Addr) (ovs : List Value) (on : Nat) (hO : BytesAre ovs (ks.map fun k => text f wd k.toNat)) (lo : Addr) (rvs : List Value) (rn : Nat) (hR : IntsAre rvs ks) (hsum : (ks.map (term wd)).sum = nb) :
    Seg w ls vs ns 17 [(Str.ofString "number", .int nb t1), (Str.ofString "signs", .bytes S.toArray t3), (Str.ofString "first", .int (f : Int) t4), (Str.ofString "out", .ref D), (Str.ofString "order", .ref lo)] (fun L => [(lo, W.listOf rvs.toArray rn), (D, W.listOf ovs.toArray on)]) (fun _ => True) := by
  unfold Seg
  k_fill
  w_top off
  intro p loose mean mg mb dp un gd fa ccd outer A₀ base h₀ L u s Q E B F X N T hl hi h63 _ hdp hun hE hret
  dsimp only at N
  obtain ⟨obs, hob⟩ : ∃ obs, obs = ks.map fun k => text f wd k.toNat := ⟨_, rfl⟩
  rw [← hob] at hO
  have hol : obs.length = wd.length := by rw [hob, List.length_map, hkl]
  have hw0 : 0 < wd.length := Nat.lt_of_lt_of_le (by decide) hw.1
  have ho16 : obs.length ≤ 16 := hol ▸ hw.2
  have dp1 : dp + 4 < recursionLimit := Nat.lt_of_le_of_lt (Nat.add_le_add_left (by decide) _) hdp
  have un1 : un + 8 * 4 < cLine := Nat.lt_of_le_of_lt (Nat.add_le_add_left (by decide) _) hun
  k_with_none
  k_with "subscriptTail" => (k_here; (with_reducible show wpAny _ _ (subscriptTail _ _ (Value.ref _) (Value.int _ _)) _ _ _); k_dflt (refine' by_sub ?k1 ?k2 ?k3 ?k4 ?k5 ?k6 ?_ ?k7 ?k8; (case k1 => k_asm); (case k2 => k_mem); (case k3 => with_reducible assumption); (case k4 => (first | omega | ((simp only [List.length_append, List.length_dropLast, List.length_set, List.length_cons, List.length_nil, List.length_take, List.length_drop] at *); omega))); (case k5 => (first | omega | ((simp only [List.length_append, List.length_dropLast, List.length_set, List.length_cons, List.length_nil, List.length_take, List.length_drop] at *); omega))); (case k6 => (first | omega | ((simp only [List.length_append, List.length_dropLast, List.length_set, List.length_cons, List.length_nil, List.length_take, List.length_drop] at *); omega))); (case k7 => with_unfolding_all rfl); (case k8 => (intro _; with_unfolding_all rfl)); k_whole); intro _)
  k_with "compareOp Lt bytes bytes" => refine lt_bytes ?_
  k_with "setItem ref int" => (k_here; (with_reducible show wpAny _ _ (setItem (Value.ref _) (Value.int _ _) (Value.bytes _ _)) _ _ _); k_dflt (refine' by_set ?k1 ?k2 ?k3 ?k4 ?k5 ?k6 ?k7 ?_; (case k1 => k_asm); (case k2 => k_asm); (case k3 => k_upd); (case k4 => with_reducible assumption); (case k5 => (first | omega | ((simp only [List.length_append, List.length_dropLast, List.length_set, List.length_cons, List.length_nil, List.length_take, List.length_drop] at *); omega))); (case k6 => (first | omega | ((simp only [List.length_append, List.length_dropLast, List.length_set, List.length_cons, List.length_nil, List.length_take, List.length_drop] at *); omega))); (case k7 => (first | omega | ((simp only [List.length_append, List.length_dropLast, List.length_set, List.length_cons, List.length_nil, List.length_take, List.length_drop] at *); omega))); k_whole); intro h' F' N' hi'; (try k_sweep))
  k_with "call builtin:len" => (k_here; (with_reducible show wpAny _ _ (call (Value.builtin "len") [Value.ref _]) _ _ _); k_dflt (refine' by_len ?k1 ?k2 ?k3 ?k4 ?_; (case k1 => k_asm); (case k2 => k_mem); (case k3 => with_reducible assumption); (case k4 => (first | omega | ((simp only [List.length_append, List.length_dropLast, List.length_set, List.length_cons, List.length_nil, List.length_take, List.length_drop] at *); omega))); k_whole))
  k_with "truthy ref" => (k_here; k_dflt (refine' by_truthy ?k1 ?k2 ?k3 ?k4 ?_; (case k1 => k_asm); (case k2 => k_mem); (case k3 => with_reducible assumption); (case k4 => (first | omega | ((simp only [List.length_append, List.length_dropLast, List.length_set, List.length_cons, List.length_nil, List.length_take, List.length_drop] at *); omega))); k_whole))
  k_with "call builtin:list.pop" => (k_here; (with_reducible show wpAny _ _ (call (Value.builtin _) [Value.ref _]) _ _ _); k_dflt (refine' by_pop ?F ?N ?U ?i ?l ?z ?_; (case F => k_asm); (case N => k_asm); (case U => k_upd); (case i => with_reducible assumption); (case l => (first | omega | ((simp only [List.length_append, List.length_dropLast, List.length_set, List.length_cons, List.length_nil, List.length_take, List.length_drop] at *); omega))); (case z => (rw [PySem.sizeLine_eq]; (first | omega | ((simp only [List.length_append, List.length_dropLast, List.length_set, List.length_cons, List.length_nil, List.length_take, List.length_drop] at *); omega)))); k_whole); intro h' t' F' N' hi'; (try k_sweep))
  k_with "call builtin:list.pop" => (k_here; (with_reducible show wpAny _ _ (call (Value.builtin _) [Value.ref _, Value.int _ _]) _ _ _); k_dflt (refine' by_popAt ?F ?N ?U ?i ?l0 ?l ?z ?_; (case F => k_asm); (case N => k_asm); (case U => k_upd); (case i => with_reducible assumption); (case l0 => (first | omega | ((simp only [List.length_append, List.length_dropLast, List.length_set, List.length_cons, List.length_nil, List.length_take, List.length_drop] at *); omega))); (case l => (first | omega | ((simp only [List.length_append, List.length_dropLast, List.length_set, List.length_cons, List.length_nil, List.length_take, List.length_drop] at *); omega))); (case z => (rw [PySem.sizeLine_eq]; (first | omega | ((simp only [List.length_append, List.length_dropLast, List.length_set, List.length_cons, List.length_nil, List.length_take, List.length_drop] at *); omega)))); k_whole); intro h' t' F' N' hi'; (try k_sweep))
  k_with "call builtin:list.append" => (k_here; (with_reducible show wpAny _ _ (call (Value.builtin _) [Value.ref _, Value.bytes _ _]) _ _ _); k_dflt (refine' by_append ?F ?N ?U ?i ?z ?_; (case F => k_asm); (case N => k_asm); (case U => k_upd); (case i => with_reducible assumption); (case z => (rw [PySem.sizeLine_eq]; (first | omega | ((simp only [List.length_append, List.length_dropLast, List.length_set, List.length_cons, List.length_nil, List.length_take, List.length_drop] at *); omega)))); k_whole); intro h' F' N' hi'; (try k_sweep))
  k_with "call type:type" => ((with_reducible show wpAny _ _ (call (Value.type "type") [Value.bytes _ _]) _ _ _); refine call_type_of (Tx := "bytes") rfl (by decide +kernel) ?_)
  k_with "call type:type" => ((with_reducible show wpAny _ _ (call (Value.type "type") [Value.bool _]) _ _ _); refine call_type_of (Tx := "bool") rfl (by decide +kernel) ?_)
  k_with "exec For" => (k_here; (rename Fr _ _ _ _ => lF'); (with_unfolding_all refine' For_invVF lF' ?k1 ?k2 ?_ ?k3 ?k4; (case k1 => exact rfl); (case k2 => exact rfl); (case k3 => (intro _; rfl)); (case k4 => first | assumption | passes_own); k_whole); clear lF')
  k_with "pyIter ref" => refine Hold.of ?_
  (with_unfolding_all refine wpAny_execs_cons ?_)
  k_steps
  unfold Hold
  (rename Fr _ _ _ _ => lF); (rename News _ _ _ _ => lN); (rename IsRange _ _ _ _ _ _ _ _ => lR)
  have hrs := range_len hol hw0
  (with_unfolding_all refine' kst_range (σ := Int × Tok) (n := obs.length) (fun _ => [(lo, W.listOf rvs.toArray rn), (D, W.listOf ovs.toArray on)]) (fun c => [(Str.ofString "back", .int c.1 c.2)]) (fun _ => True) [Str.ofString "octets", Str.ofString "at", Str.ofString "bare", Str.ofString "letter"] (fun pre c => c.1 = ((ks.take pre.length).map (term wd)).sum) (0, _) rfl lR (range_small ho16) hrs lF lN trivial ?kk rfl ?turn ?done)
  case kk => kst_all
  case turn =>
    rintro ⟨bk, tb⟩ pre k tk0 u' h tk own hk' hlen hoff _ hP gF gN
    clear lF lN lR
    dsimp only at gF gN hP
    obtain ⟨j, hj⟩ : ∃ j, j = pre.length := ⟨_, rfl⟩
    rw [← hj] at hlen hk' hP
    have hkj : k = (j : Int) := hk'.trans (Int.zero_add _)
    subst hkj
    have hjk : j < ks.length := hkl.trans hol.symm ▸ hlen
    obtain ⟨kn, hkn⟩ : ∃ kn : Nat, ks[j] = (kn : Int) := ⟨ks[j].toNat, (Int.toNat_of_nonneg (hk _ (List.getElem_mem hjk)).1).symm⟩
    have hkn2 : kn < wd.length := Int.ofNat_lt.mp (hkn ▸ (hk _ (List.getElem_mem hjk)).2)
    have hks : ks.getD j 0 = (kn : Int) := by rw [List.getD_eq_getElem?_getD, List.getElem?_eq_getElem hjk]; exact hkn
    obtain ⟨lv, hlv⟩ : ∃ lv : Nat, lv = (wd.getD kn 0).toNat - 65 := ⟨_, rfl⟩
    have hin' := hin (wd.getD kn 0) (by rw [List.getD_eq_getElem?_getD, List.getElem?_eq_getElem hkn2]; exact List.getElem_mem _)
    have hlv2 := lv_of hlv hin'
    have hA := ar_of hf hkn2 hw.2 hlv2.1
    obtain ⟨b0, hb0⟩ : ∃ b, b = sg (f + kn / 4) := ⟨_, rfl⟩
    obtain ⟨b1, hb1⟩ : ∃ b, b = sg (kn % 4 * 16 + lv) := ⟨_, rfl⟩
    obtain ⟨b2, hb2⟩ : ∃ b, b = sg (kn % 4 * 16) := ⟨_, rfl⟩
    have ht : obs.getD j #[] = #[b0, b1, 61, 61] := by
      rw [hob, List.getD_eq_getElem?_getD, List.getElem?_map, List.getElem?_eq_getElem hjk, hb0, hb1]
      show text f wd (ks[j]).toNat = _
      rw [hkn, Int.toNat_natCast]
      unfold text
      rw [hlv2.2.1]
    obtain ⟨o, ho⟩ : ∃ o : UInt8, o = (4 * f + kn).toUInt8 := ⟨_, rfl⟩
    have ho2 : o.toNat = 4 * f + kn := by
      rw [ho]
      show (UInt8.ofNat (4 * f + kn)).toNat = _
      rw [UInt8.toNat_ofNat']; exact Nat.mod_eq_of_lt hA.d
    have hod : (4 * (((f + kn / 4 : Nat) : Int)) + ((kn % 4 * 16 + lv : Nat) : Int) / 16).toNat.toUInt8 = o := by
      rw [dec_val hA.e, ho]
    have ho1000 : obs.length ≤ 1000 := Nat.le_trans ho16 (by decide)
    have hk1000 : ks.length ≤ 1000 := (hkl.trans hol.symm) ▸ ho1000
    try k_fold
    k_with_none
    k_with "subscriptTail" => (k_here; (with_reducible show wpAny _ _ (subscriptTail _ _ (Value.ref _) (Value.int _ _)) _ _ _); k_dflt (refine' by_sub ?k1 ?k2 ?k3 ?k4 ?k5 ?k6 ?_ ?k7 ?k8; (case k1 => k_asm); (case k2 => k_mem); (case k3 => with_reducible assumption); (case k4 => (first | omega | ((simp only [List.length_append, List.length_dropLast, List.length_set, List.length_cons, List.length_nil, List.length_take, List.length_drop] at *); omega))); (case k5 => (first | omega | ((simp only [List.length_append, List.length_dropLast, List.length_set, List.length_cons, List.length_nil, List.length_take, List.length_drop] at *); omega))); (case k6 => (first | omega | ((simp only [List.length_append, List.length_dropLast, List.length_set, List.length_cons, List.length_nil, List.length_take, List.length_drop] at *); omega))); (case k7 => with_unfolding_all rfl); (case k8 => (intro _; with_unfolding_all rfl)); k_whole); intro _)
    k_with "compareOp Lt bytes bytes" => refine lt_bytes ?_
    k_with "setItem ref int" => (k_here; (with_reducible show wpAny _ _ (setItem (Value.ref _) (Value.int _ _) (Value.bytes _ _)) _ _ _); k_dflt (refine' by_set ?k1 ?k2 ?k3 ?k4 ?k5 ?k6 ?k7 ?_; (case k1 => k_asm); (case k2 => k_asm); (case k3 => k_upd); (case k4 => with_reducible assumption); (case k5 => (first | omega | ((simp only [List.length_append, List.length_dropLast, List.length_set, List.length_cons, List.length_nil, List.length_take, List.length_drop] at *); omega))); (case k6 => (first | omega | ((simp only [List.length_append, List.length_dropLast, List.length_set, List.length_cons, List.length_nil, List.length_take, List.length_drop] at *); omega))); (case k7 => (first | omega | ((simp only [List.length_append, List.length_dropLast, List.length_set, List.length_cons, List.length_nil, List.length_take, List.length_drop] at *); omega))); k_whole); intro h' F' N' hi'; (try k_sweep))
    k_with "call builtin:len" => (k_here; (with_reducible show wpAny _ _ (call (Value.builtin "len") [Value.ref _]) _ _ _); k_dflt (refine' by_len ?k1 ?k2 ?k3 ?k4 ?_; (case k1 => k_asm); (case k2 => k_mem); (case k3 => with_reducible assumption); (case k4 => (first | omega | ((simp only [List.length_append, List.length_dropLast, List.length_set, List.length_cons, List.length_nil, List.length_take, List.length_drop] at *); omega))); k_whole))
    k_with "truthy ref" => (k_here; k_dflt (refine' by_truthy ?k1 ?k2 ?k3 ?k4 ?_; (case k1 => k_asm); (case k2 => k_mem); (case k3 => with_reducible assumption); (case k4 => (first | omega | ((simp only [List.length_append, List.length_dropLast, List.length_set, List.length_cons, List.length_nil, List.length_take, List.length_drop] at *); omega))); k_whole))
    k_with "call builtin:list.pop" => (k_here; (with_reducible show wpAny _ _ (call (Value.builtin _) [Value.ref _]) _ _ _); k_dflt (refine' by_pop ?F ?N ?U ?i ?l ?z ?_; (case F => k_asm); (case N => k_asm); (case U => k_upd); (case i => with_reducible assumption); (case l => (first | omega | ((simp only [List.length_append, List.length_dropLast, List.length_set, List.length_cons, List.length_nil, List.length_take, List.length_drop] at *); omega))); (case z => (rw [PySem.sizeLine_eq]; (first | omega | ((simp only [List.length_append, List.length_dropLast, List.length_set, List.length_cons, List.length_nil, List.length_take, List.length_drop] at *); omega)))); k_whole); intro h' t' F' N' hi'; (try k_sweep))
    k_with "call builtin:list.pop" => (k_here; (with_reducible show wpAny _ _ (call (Value.builtin _) [Value.ref _, Value.int _ _]) _ _ _); k_dflt (refine' by_popAt ?F ?N ?U ?i ?l0 ?l ?z ?_; (case F => k_asm); (case N => k_asm); (case U => k_upd); (case i => with_reducible assumption); (case l0 => (first | omega | ((simp only [List.length_append, List.length_dropLast, List.length_set, List.length_cons, List.length_nil, List.length_take, List.length_drop] at *); omega))); (case l => (first | omega | ((simp only [List.length_append, List.length_dropLast, List.length_set, List.length_cons, List.length_nil, List.length_take, List.length_drop] at *); omega))); (case z => (rw [PySem.sizeLine_eq]; (first | omega | ((simp only [List.length_append, List.length_dropLast, List.length_set, List.length_cons, List.length_nil, List.length_take, List.length_drop] at *); omega)))); k_whole); intro h' t' F' N' hi'; (try k_sweep))
    k_with "call builtin:list.append" => (k_here; (with_reducible show wpAny _ _ (call (Value.builtin _) [Value.ref _, Value.bytes _ _]) _ _ _); k_dflt (refine' by_append ?F ?N ?U ?i ?z ?_; (case F => k_asm); (case N => k_asm); (case U => k_upd); (case i => with_reducible assumption); (case z => (rw [PySem.sizeLine_eq]; (first | omega | ((simp only [List.length_append, List.length_dropLast, List.length_set, List.length_cons, List.length_nil, List.length_take, List.length_drop] at *); omega)))); k_whole); intro h' F' N' hi'; (try k_sweep))
    k_with "call type:type" => ((with_reducible show wpAny _ _ (call (Value.type "type") [Value.bytes _ _]) _ _ _); refine call_type_of (Tx := "bytes") rfl (by decide +kernel) ?_)
    k_with "call type:type" => ((with_reducible show wpAny _ _ (call (Value.type "type") [Value.bool _]) _ _ _); refine call_type_of (Tx := "bool") rfl (by decide +kernel) ?_)
    k_with "exec For" => (k_here; (rename Fr _ _ _ _ => lF'); (with_unfolding_all refine' For_invVF lF' ?k1 ?k2 ?_ ?k3 ?k4; (case k1 => exact rfl); (case k2 => exact rfl); (case k3 => (intro _; rfl)); (case k4 => first | assumption | passes_own); k_whole); clear lF')
    k_with "subscriptTail" => (dsimp only; first
      | ((with_reducible show wpAny _ _ (subscriptTail _ _ (Value.ref D) (Value.int _ _)) _ _ _); k_dflt (refine' by_subV ?k1 ?k2 hO hlen ho1000 ht ?_ ?k7 ?k8; (case k1 => k_asm); (case k2 => k_mem); (case k7 => with_unfolding_all rfl); (case k8 => (intro _; with_unfolding_all rfl)); k_whole); intro _)
      | ((with_reducible show wpAny _ _ (subscriptTail _ _ (Value.ref lo) (Value.int _ _)) _ _ _); k_dflt (refine' in_subV ?k1 ?k2 hR hjk hk1000 hks ?_ ?k7 ?k8; (case k1 => k_asm); (case k2 => k_mem); (case k7 => with_unfolding_all rfl); (case k8 => (intro _; with_unfolding_all rfl)); k_whole); intro _)
      | ((with_reducible show wpAny _ _ (subscriptTail _ _ (Value.bytes #[o] _) (Value.int _ _)) _ _ _); k_dflt (refine' oct_item ?_ ?k2 ?k3; (case k2 => with_unfolding_all rfl); (case k3 => (intro _; with_unfolding_all rfl))))
      | ((with_reducible show wpAny _ _ (subscriptTail _ _ (Value.bytes (List.toArray S) _) _) _ _ _); k_dflt (refine' sg_itemW hS (j := f + kn / 4) (Int.natCast_add _ _).symm hA.a ?_ ?k2 ?k3; (case k2 => with_unfolding_all rfl); (case k3 => (intro _; with_unfolding_all rfl))))
      | ((with_reducible show wpAny _ _ (subscriptTail _ _ (Value.bytes (List.toArray S) _) _) _ _ _); k_dflt (refine' sg_itemW hS (j := kn % 4 * 16) (Int.natCast_mul _ 16).symm hA.c ?_ ?k2 ?k3; (case k2 => with_unfolding_all rfl); (case k3 => (intro _; with_unfolding_all rfl)))))
    k_with "call ref" => refine Hold.of ?_
    k_steps
    unfold Hold
    (rename Fr _ _ _ _ => lF); (rename News _ _ _ _ => lN)
    k_dflt (refine' Ct.use (ct_dec w b0 b1 ((f + kn / 4 : Nat) : Int) ((kn % 4 * 16 + lv : Nat) : Int) _ _ ?h0 ?h1 ?r0 ?r1 ?n0 ?n1) ?B lF ?X lN ?T ?k ?d ?u ?_; (case B => k_asm); (case X => k_asm); (case T => k_asm); (case k => rfl); (case d => exact dp1); (case u => exact un1); (case h0 => exact hb0 ▸ sg_b64 hA.a); (case h1 => exact hb1 ▸ sg_b64 hA.b); (case r0 => exact cast_in hA.a); (case r1 => exact cast_in hA.b); (case n0 => exact hb0 ▸ sg_ne hA.a); (case n1 => exact hb1 ▸ sg_ne hA.b))
    rintro _ _ h' tk' ⟨⟨t', rfl⟩, rfl⟩ F'' N''
    clear lF lN
    rw [hod]
    k_with "call type:bytes" => refine Hold.of ?_
    k_with "compareOp NotEq bytes bytes" => refine ne_same rfl ?_
    k_with "binaryOp FloorDiv int int" => refine fdiv4 ?_
    k_with "binaryOp Mod int int" => refine fmod4 ?_
    k_with "binaryOp Sub int int" => first
      | refine sub_val (at_val ho2) ?_
      | refine sub_val (let_val (a := kn % 4 * 16) (b := lv)) ?_
      | refine sub_val (one_val hol hw0) ?_
      | refine sub_val (rest_val rfl hkn2) ?_
    k_steps
    unfold Hold
    (rename Fr _ _ _ _ => lF); (rename News _ _ _ _ => lN)
    rw [Int.toNat_natCast, hks, show 4 * (f : Int) + (kn : Int) = ((4 * f + kn : Nat) : Int) from (by rw [Int.natCast_add, Int.natCast_mul]; rfl)] at lN
    (with_unfolding_all refine' KBa.make_K lF lN rfl (IsL.isList (lN _ (List.Mem.head _)).1) (.cons _ _ .nil) ?r ?z ?_)
    case r =>
      intro x hx
      rw [List.mem_singleton.mp hx]; exact byte_in hA.d
    case z => simp
    intro h' t2' k' F' N' _
    have N2 : News h₀ L h' ([(lo, W.listOf rvs.toArray rn), (D, W.listOf ovs.toArray on)] ++ own) := fun p hp => N' p (List.Mem.tail _ hp)
    clear lF lN N'
    have e1 : byteArr [((4 * f + kn : Nat) : Int)] = #[o] := by
      rw [ho]; rfl
    rw [e1]
    k_steps
    unfold Hold
    (rename Fr _ _ _ _ => lF); (rename News _ _ _ _ => lN)
    rw [← hb0, ← hb2] at lN
    have hI : ∀ a b : Int, ∀ t1 t2 t3 t4 : Tok, IntsAre [Value.int a t1, .int b t2, .int 61 t3, .int 61 t4] [a, b, 61, 61] := fun _ _ _ _ _ _ => .cons _ _ (.cons _ _ (.cons _ _ (.cons _ _ .nil)))
    (with_unfolding_all refine' KBa.make_K lF lN rfl (IsL.isList (lN _ (List.Mem.head _)).1) (hI _ _ _ _ _ _) ?r ?z ?_)
    case r =>
      intro x hx
      simp only [List.mem_cons, List.not_mem_nil, or_false] at hx
      rcases hx with rfl | rfl | rfl | rfl
      · exact byte_in b0.toNat_lt
      · exact byte_in b2.toNat_lt
      · decide
      · decide
    case z => simp
    intro h3 t3' k3' F3 N3 _
    have N4 : News h₀ L h3 ([(lo, W.listOf rvs.toArray rn), (D, W.listOf ovs.toArray on)] ++ own) := fun p hp => N3 p (List.Mem.tail _ hp)
    clear lF lN N3
    have e2 : byteArr [(b0.toNat : Int), (b2.toNat : Int), 61, 61] = #[b0, b2, 61, 61] := by simp [byteArr]
    rw [e2]
    k_steps
    unfold Hold
    (rename Fr _ _ _ _ => lF); (rename News _ _ _ _ => lN)
    k_dflt (refine' Ct.use (ct_enc w o _ _) ?B lF ?X lN ?T ?k ?d ?u ?_; (case B => k_asm); (case X => k_asm); (case T => k_asm); (case k => rfl); (case d => exact dp1); (case u => exact un1))
    rintro _ _ h5 tk5 ⟨⟨t5, rfl⟩, rfl⟩ F5 N5
    clear lF lN
    rw [ho2, hA.g, hA.h, ← hb0, ← hb2]
    k_with "getMethod bytes" => refine method_find ?_
    k_with "subscriptTail Subscript Slice bytes ref" => refine Hold.of ?_
    k_with "subscriptTail Name Slice bytes ref" => refine Hold.of ?_
    k_steps
    unfold Hold
    (rename Fr _ _ _ _ => lF); (rename News _ _ _ _ => lN)
    refine KBc.slice_K (s := ⟨_, _, _, _, _⟩) (ks := KBw.bInts #[b0, b1, 61, 61]) lF lN rfl (.int _ _) (.int _ _) (show 4 ≤ 16777216 by decide) ?_
    intro h6 t6 k6 F6 N6 _
    clear lF lN
    rw [show KBy.picked #[b0, b1, 61, 61] (some 1) (some 2) = #[b1] from rfl]
    k_with "call builtin:bytes.find" => first
      | refine call_find hS (i := kn % 4 * 16 + lv) hA.b hb1 ?_
      | refine call_find hS (i := kn % 4 * 16) hA.c hb2 ?_
    k_steps
    unfold Hold
    (rename Fr _ _ _ _ => lF); (rename News _ _ _ _ => lN)
    refine KBc.slice_K (s := ⟨_, _, _, _, _⟩) (ks := KBw.bInts #[b0, b2, 61, 61]) lF lN rfl (.int _ _) (.int _ _) (show 4 ≤ 16777216 by decide) ?_
    intro h7 t7 k7 F7 N7 _
    clear lF lN
    rw [show KBy.picked #[b0, b2, 61, 61] (some 1) (some 2) = #[b2] from rfl]
    k_steps
    (rename Fr _ _ _ _ => lF); (rename News _ _ _ _ => lN)
    rw [Int.toNat_natCast] at lF
    (with_unfolding_all refine kst_end (bk + (lv : Int) * 16 ^ (wd.length - 1 - kn), _) lF lN (fun p hp => List.mem_append_left own hp) (fun p hp => List.mem_append_right _ hp) rfl trivial (by kst_all) (by (intro z h1 h2 h3; (simp only [List.forall_mem_cons, List.not_mem_nil, false_implies, implies_true, and_true, ne_eq] at h2); (simp only [List.contains_cons, List.contains_nil, Bool.or_false, Bool.or_eq_false_iff, beq_eq_false_iff_ne, ne_eq] at h3); (simp only [kstB, h1, h2, h3, if_false, List.contains_cons, List.contains_nil, Bool.or_false, Bool.or_eq_true, beq_iff_eq, or_self, or_false, false_or, Bool.false_eq_true]))) ?_)
    (show bk + (lv : Int) * 16 ^ (wd.length - 1 - kn) = ((ks.take (pre ++ [(j : Int)]).length).map (term wd)).sum)
    rw [List.length_append, List.length_singleton, ← hj]
    exact sum_step hP hjk (by rw [hkn]; unfold term; rw [Int.toNat_natCast, hlv2.2.2])
  case done =>
    rintro ⟨bk, tb⟩ u' h tk _ hP gF gN
    clear lF lN lR
    dsimp only at gF gN hP
    have hb : bk = nb := by
      rw [hP, rangeKs_length, hol, ← hkl, List.take_length, hsum]
    subst hb
    k_steps
    (show Q (Flow.ret (Value.bool (bk == bk))) _)
    rw [show (bk == bk) = true from by simp]
    exact hret _ _ _ _ gF gN
end Mine
end
section
open PySem PySem.W PyProof.Rows PySem.Calls
set_option maxRecDepth 100000
namespace Mine
/-! the order's list: a permutation of the places; its texts rise -/
theorem four_zero (k : Int) : rangeInts k 1 4 = [k, k + 1, k + 2, k + 3] := by
  simp [rangeInts, List.range_succ]
noncomputable def kindsG (f g : Nat) : List Int := (rangeInts 0 4 g).filter (kA f) ++ (rangeInts 0 4 g).filter (kB f) ++ (rangeInts 0 4 g).filter (kC f)
theorem kinds_all : ∀ f : Fin 61, ∀ g : Fin 5, (kindsG f.val g.val).isPerm (rangeInts 0 4 g.val) = true ∧ (kindsG f.val g.val).Pairwise (fun a b => sg (f.val + a.toNat / 4) < sg (f.val + b.toNat / 4)) := by decide +kernel
theorem kinds_perm {f n : Nat} (hf : f ≤ 60) (hn : n ≤ 16) : (kindsI f n).Perm (foursI n) := List.isPerm_iff.mp (kinds_all ⟨f, by omega⟩ ⟨(n + 3) / 4, by omega⟩).1
theorem kinds_rise {f n : Nat} (hf : f ≤ 60) (hn : n ≤ 16) : (kindsI f n).Pairwise (fun a b => sg (f + a.toNat / 4) < sg (f + b.toNat / 4)) := (kinds_all ⟨f, by omega⟩ ⟨(n + 3) / 4, by omega⟩).2
theorem flat_all : ∀ n : Fin 17, (foursI n.val).flatMap (flI n.val) = (List.range n.val).map fun i : Nat => (i : Int) := by decide +kernel
theorem flat_perm {α β : Type} {f g : α → List β} : ∀ (l : List α), (∀ a ∈ l, (f a).Perm (g a)) → (l.flatMap f).Perm (l.flatMap g)
  | [], _ => .refl _
  | a :: r, h => by
    rw [List.flatMap_cons, List.flatMap_cons]
    exact (h a (List.Mem.head _)).append (flat_perm r fun b hb => h b (List.Mem.tail _ hb))
theorem fl_full {n : Nat} {k : Int} (h : (flI n k).length = 4) : flI n k = [k, k + 1, k + 2, k + 3] := by
  have h1 : (rangeInts k 1 4).length = 4 := rangeInts_length _ _ _
  have h2 : flI n k = rangeInts k 1 4 := List.filter_eq_self.mpr (List.length_filter_eq_length_iff.mp (h.trans h1.symm))
  rw [h2, four_zero]
theorem four_perm (wd : List UInt8) (k : Int) : (fourI wd k).Perm (flI wd.length k) := by
  unfold fourI
  split
  · next h =>
    rw [fl_full h.1]
    exact (List.perm_append_comm (l₁ := [k + 3]) (l₂ := [k, k + 1, k + 2]))
  · exact .refl _
theorem order_perm {f : Nat} {wd : List UInt8} (hf : f ≤ 60) (hn : wd.length ≤ 16) : (orderI f wd).Perm ((List.range wd.length).map fun i : Nat => (i : Int)) := by
  unfold orderI
  refine (flat_perm _ fun k _ => four_perm wd k).trans ?_
  refine ((kinds_perm hf hn).flatMap_right _).trans ?_
  rw [flat_all ⟨wd.length, by omega⟩]
theorem order_len {f : Nat} {wd : List UInt8} (hf : f ≤ 60) (hn : wd.length ≤ 16) : (orderI f wd).length = wd.length := by
  rw [(order_perm hf hn).length_eq]; simp
theorem order_in {f : Nat} {wd : List UInt8} (hf : f ≤ 60) (hn : wd.length ≤ 16) : ∀ k ∈ orderI f wd, 0 ≤ k ∧ k < wd.length := by
  intro k hk
  obtain ⟨i, hi, rfl⟩ := List.mem_map.mp ((order_perm hf hn).mem_iff.mp hk)
  rw [List.mem_range] at hi
  omega
/-! the texts -/
theorem low_all : ∀ a b : Fin 52, a.val < b.val → sg a.val < sg b.val := by decide +kernel
theorem high_all : ∀ a : Fin 12, ∀ b : Fin 52, sg (52 + a.val) < sg b.val := by decide +kernel
theorem low_lt {a b : Nat} (h : a < b) (hb : b < 52) : sg a < sg b := low_all ⟨a, by omega⟩ ⟨b, hb⟩ h
theorem high_lt {a b : Nat} (h : 52 ≤ a) (h' : a < 64) (hb : b < 52) : sg a < sg b := by
  have := high_all ⟨a - 52, by omega⟩ ⟨b, hb⟩
  rwa [show 52 + (a - 52) = a by omega] at this
theorem text_first {f : Nat} {wd : List UInt8} {x y : Nat} (h : sg (f + x / 4) < sg (f + y / 4)) : blt (text f wd x) (text f wd y) = true := blt_first (l := [_, 61, 61]) (m := [_, 61, 61]) h
theorem text_second {f : Nat} {wd : List UInt8} {x y : Nat} (h : x / 4 = y / 4) (h2 : sg (x % 4 * 16 + (wd.getD x 0).toNat - 65) < sg (y % 4 * 16 + (wd.getD y 0).toNat - 65)) : blt (text f wd x) (text f wd y) = true := by
  unfold text
  rw [h]
  exact blt_second (l := [61, 61]) (m := [61, 61]) h2
theorem fl_in {n : Nat} {k x : Int} (h : x ∈ flI n k) : k ≤ x ∧ x < k + 4 ∧ x < n := by
  obtain ⟨h1, h2⟩ := List.mem_filter.mp h
  rw [four_zero] at h1
  simp only [List.mem_cons, List.not_mem_nil, or_false] at h1
  have h3 : x < n := by simpa using h2
  omega
theorem fl_last {n : Nat} {k : Int} (h : k + 3 < n) : (flI n k).length = 4 := by
  unfold flI
  rw [four_zero, List.filter_eq_self.mpr]
  · rfl
  · intro a ha
    simp only [List.mem_cons, List.not_mem_nil, or_false] at ha
    simp only [decide_eq_true_eq]
    omega
theorem fl_rise (n : Nat) (k : Int) : (flI n k).Pairwise (fun a b => a < b) := by
  unfold flI
  refine List.Pairwise.filter _ ?_
  rw [four_zero]
  simp only [List.pairwise_cons, List.mem_cons, List.not_mem_nil, or_false, forall_eq_or_imp, forall_eq, false_imp_iff, implies_true, List.Pairwise.nil, and_true]
  omega
theorem text_in {f : Nat} {wd : List UInt8} {q i j : Nat} (hi : i < 4) (hj : j < 4) (h : sg (i * 16 + (wd.getD (4 * q + i) 0).toNat - 65) < sg (j * 16 + (wd.getD (4 * q + j) 0).toNat - 65)) : blt (text f wd (4 * q + i)) (text f wd (4 * q + j)) = true :=
  text_second (by omega) (by rw [show (4 * q + i) % 4 = i by omega, show (4 * q + j) % 4 = j by omega]; exact h)
theorem hi_in {c d i : Nat} (hc : 68 < c) (hc' : c ≤ 80) (hd : d ≤ 80) (hi : i < 3) : sg (3 * 16 + c - 65) < sg (i * 16 + d - 65) := high_lt (by omega) (by omega) (by omega)
theorem lo_in {c d i j : Nat} (hc : c ≤ 80) (hd : 65 ≤ d) (hij : i < j) (hj : j * 16 + d - 65 < 52) : sg (i * 16 + c - 65) < sg (j * 16 + d - 65) := low_lt (by omega) hj
theorem lo_end {d j : Nat} (hd : d ≤ 80) (hj : j < 3) : j * 16 + d - 65 < 52 := by omega
theorem fl_off {n q : Nat} {x : Int} (h : x ∈ flI n ((4 * q : Nat) : Int)) : ∃ i : Nat, i < 4 ∧ x = ((4 * q + i : Nat) : Int) ∧ 4 * q + i < n := by
  have h1 := fl_in h
  exact ⟨(x - ((4 * q : Nat) : Int)).toNat, by omega, by omega, by omega⟩
theorem four_up {f : Nat} {wd : List UInt8} (hc : ∀ i, i < wd.length → 65 ≤ (wd.getD i 0).toNat ∧ (wd.getD i 0).toNat ≤ 80) {q : Nat} (h : ¬ ((flI wd.length ((4 * q : Nat) : Int)).length = 4 ∧ 68 < ((wd.getD (((4 * q : Nat) : Int) + 3).toNat 0).toNat : Int))) {a b : Int}
    (ha : a ∈ flI wd.length ((4 * q : Nat) : Int)) (hb : b ∈ flI wd.length ((4 * q : Nat) : Int)) (hab : a < b) : blt (text f wd a.toNat) (text f wd b.toNat) = true := by
  obtain ⟨i, hi, rfl, hi2⟩ := fl_off ha
  obtain ⟨j, hj, rfl, hj2⟩ := fl_off hb
  rw [Int.toNat_natCast, Int.toNat_natCast]
  have hij : i < j := by clear h ha hb hc; omega
  refine text_in hi hj (lo_in (hc _ hi2).2 (hc _ hj2).1 hij ?_)
  by_cases h3 : j = 3
  · subst h3
    have hl := fl_last (n := wd.length) (k := ((4 * q : Nat) : Int)) (by clear h ha hb hc; omega)
    have h5 : ¬ 68 < ((wd.getD (4 * q + 3) 0).toNat : Int) := fun h6 => h ⟨hl, h6⟩
    have h7 := (hc _ hj2).2
    generalize (wd.getD (4 * q + 3) 0).toNat = c at h5 h7
    clear h ha hb hc
    omega
  · exact lo_end (hc _ hj2).2 (Nat.lt_of_le_of_ne (Nat.le_of_lt_succ hj) h3)
theorem four_rise {f : Nat} {wd : List UInt8} (hin : ∀ c ∈ wd, 65 ≤ c.toNat ∧ c.toNat ≤ 80) {q : Nat} : (fourI wd ((4 * q : Nat) : Int)).Pairwise (fun a b => blt (text f wd a.toNat) (text f wd b.toNat) = true) := by
  have hc : ∀ i, i < wd.length → 65 ≤ (wd.getD i 0).toNat ∧ (wd.getD i 0).toNat ≤ 80 := fun i hi => hin _ (by rw [List.getD_eq_getElem?_getD, List.getElem?_eq_getElem hi]; exact List.getElem_mem _)
  unfold fourI
  split
  · next h =>
    have h3 : 4 * q + 3 < wd.length := Int.ofNat_lt.mp (flI_full h.1)
    have h4 : 68 < (wd.getD (4 * q + 3) 0).toNat := Int.ofNat_lt.mp h.2
    have c0 := hc (4 * q + 0) (Nat.lt_of_le_of_lt (Nat.add_le_add_left (by decide) _) h3)
    have c1 := hc (4 * q + 1) (Nat.lt_of_le_of_lt (Nat.add_le_add_left (by decide) _) h3)
    have c2 := hc (4 * q + 2) (Nat.lt_of_le_of_lt (Nat.add_le_add_left (by decide) _) h3)
    have c3 := (hc (4 * q + 3) h3).2
    (show List.Pairwise _ [((4 * q + 3 : Nat) : Int), ((4 * q + 0 : Nat) : Int), ((4 * q + 1 : Nat) : Int), ((4 * q + 2 : Nat) : Int)])
    simp only [List.pairwise_cons, List.mem_cons, List.not_mem_nil, or_false, forall_eq_or_imp, forall_eq, false_imp_iff, implies_true, List.Pairwise.nil, and_true, Int.toNat_natCast]
    exact ⟨⟨text_in (by decide) (by decide) (hi_in h4 c3 c0.2 (by decide)), text_in (by decide) (by decide) (hi_in h4 c3 c1.2 (by decide)), text_in (by decide) (by decide) (hi_in h4 c3 c2.2 (by decide))⟩,
      ⟨text_in (by decide) (by decide) (lo_in c0.2 c1.1 (by decide) (lo_end c1.2 (by decide))), text_in (by decide) (by decide) (lo_in c0.2 c2.1 (by decide) (lo_end c2.2 (by decide)))⟩, text_in (by decide) (by decide) (lo_in c1.2 c2.1 (by decide) (lo_end c2.2 (by decide)))⟩
  · next h =>
    exact (fl_rise _ _).imp_of_mem fun ha hb hab => four_up hc h ha hb hab
theorem fours_in {n : Nat} {k : Int} (h : k ∈ foursI n) : ∃ q : Nat, k = ((4 * q : Nat) : Int) ∧ 4 * q < n := by
  obtain ⟨i, hi, rfl⟩ := List.mem_map.mp h
  rw [List.mem_range] at hi
  exact ⟨i, by omega, by omega⟩
theorem four_in {wd : List UInt8} {k x : Int} (h : x ∈ fourI wd k) : k ≤ x ∧ x < k + 4 ∧ x < wd.length := fl_in ((four_perm wd k).mem_iff.mp h)
theorem div_in {q : Nat} {x : Int} (h1 : ((4 * q : Nat) : Int) ≤ x) (h2 : x < ((4 * q : Nat) : Int) + 4) : x.toNat / 4 = q := by omega
theorem div_at (q : Nat) : ((4 * q : Nat) : Int).toNat / 4 = q := Nat.mul_div_cancel_left q (by decide)
theorem order_rise {f : Nat} {wd : List UInt8} (hin : ∀ c ∈ wd, 65 ≤ c.toNat ∧ c.toNat ≤ 80) (hf : f ≤ 60) (hn : wd.length ≤ 16) : (orderI f wd).Pairwise (fun a b => blt (text f wd a.toNat) (text f wd b.toNat) = true) := by
  unfold orderI
  have hk : ∀ k ∈ kindsI f wd.length, ∃ q : Nat, k = ((4 * q : Nat) : Int) ∧ 4 * q < wd.length := fun k hk => fours_in ((kinds_perm hf hn).mem_iff.mp hk)
  refine List.pairwise_flatMap.mpr ⟨fun k h => ?_, ?_⟩
  · obtain ⟨q, rfl, hq⟩ := hk k h
    exact four_rise hin
  · refine (kinds_rise hf hn).imp_of_mem ?_
    intro a b ha hb hab x hx y hy
    obtain ⟨q, rfl, hq⟩ := hk a ha
    obtain ⟨r, rfl, hr⟩ := hk b hb
    have hx' := four_in hx
    have hy' := four_in hy
    refine text_first ?_
    rw [div_in hx'.1 hx'.2.1, div_in hy'.1 hy'.2.1, ← div_at q, ← div_at r]
    exact hab
/-! the number out of its letters -/
theorem sum_perm {l m : List Int} (h : l.Perm m) : l.sum = m.sum := by
  induction h with
  | nil => rfl
  | cons a _ ih => rw [List.sum_cons, List.sum_cons, ih]
  | swap a b l => rw [List.sum_cons, List.sum_cons, List.sum_cons, List.sum_cons]; omega
  | trans _ _ h1 h2 => exact h1.trans h2
theorem fold_sum : ∀ (fs : List Int) (a : Int), fs.foldl (fun a f => 16 * a + f) a = a * 16 ^ fs.length + ((List.range fs.length).map fun k => fs.getD k 0 * 16 ^ (fs.length - 1 - k)).sum
  | [], a => by simp
  | f :: r, a => by
    rw [List.foldl_cons, fold_sum r, List.length_cons, List.range_succ_eq_map, List.map_cons, List.sum_cons, List.map_map]
    have e : ((fun k => (f :: r).getD k 0 * 16 ^ (r.length + 1 - 1 - k)) ∘ Nat.succ) = fun k => r.getD k 0 * 16 ^ (r.length - 1 - k) := by
      funext k
      show (f :: r).getD (k + 1) 0 * 16 ^ (r.length + 1 - 1 - (k + 1)) = _
      rw [List.getD_cons_succ, show r.length + 1 - 1 - (k + 1) = r.length - 1 - k from (by rw [Nat.add_sub_cancel, Nat.sub_sub, Nat.add_comm 1 k])]
    rw [e, List.getD_cons_zero, show r.length + 1 - 1 - 0 = r.length from rfl, Int.add_mul, Int.pow_succ, Int.mul_comm 16 a, Int.mul_assoc a 16, Int.mul_comm 16 (16 ^ r.length)]
    omega
theorem word_at (ns : List Int) {k : Nat} (h : k < (figs ns).length) : (((wordL ns).getD k 0).toNat : Int) - 65 = (figs ns).getD k 0 := by
  unfold wordL
  rw [List.getD_eq_getElem?_getD, List.getElem?_map, List.getElem?_eq_getElem h, List.getD_eq_getElem?_getD, List.getElem?_eq_getElem h]
  have h1 := figs_in ns _ (List.getElem_mem h)
  show ((letter (figs ns)[k]).toNat : Int) - 65 = (figs ns)[k]
  have e : (letter (figs ns)[k]).toNat = 65 + (figs ns)[k].toNat := by
    unfold letter
    show (UInt8.ofNat (65 + (figs ns)[k].toNat)).toNat = _
    rw [UInt8.toNat_ofNat']; omega
  rw [e]; omega
theorem sum_numb (ns : List Int) : (((List.range (wordL ns).length).map fun i : Nat => (i : Int)).map (term (wordL ns))).sum = numb ns := by
  unfold numb
  rw [fold_sum, Int.zero_mul, Int.zero_add, List.map_map]
  have hl : (wordL ns).length = (figs ns).length := by unfold wordL; rw [List.length_map]
  rw [hl]
  refine congrArg List.sum (List.map_congr_left ?_)
  intro k hk
  rw [List.mem_range] at hk
  show term (wordL ns) (k : Int) = _
  unfold term
  rw [Int.toNat_natCast, word_at ns hk, hl]
theorem order_sum (ns : List Int) : ((orderI (fi ns) (wordL ns)).map (term (wordL ns))).sum = numb ns := by
  have hw := wordL_len ns
  rw [sum_perm ((order_perm (fi_le ns) (by omega)).map _)]
  exact sum_numb ns
/-! the heap gives the texts in the order -/
theorem order_heap {f : Nat} {wd : List UInt8} (hin : ∀ c ∈ wd, 65 ≤ c.toNat ∧ c.toNat ≤ 80) (hf : f ≤ 60) (hn : wd.length ≤ 16) {hbs : List By} (hp : hbs.Perm ((List.range wd.length).map (text f wd))) (H : IsHeap blt #[] hbs) :
    popAll blt #[] hbs.length hbs = (orderI f wd).map fun k => text f wd k.toNat := by
  refine heap_law bltO blt_tri _ _ H (hp.trans ?_) (List.pairwise_map.mpr (order_rise hin hf hn))
  refine List.Perm.trans (List.Perm.of_eq ?_) ((order_perm hf hn).symm.map fun k => text f wd k.toNat)
  rw [List.map_map]
  refine List.map_congr_left ?_
  intro k _
  show text f wd k = text f wd ((k : Int)).toNat
  rw [Int.toNat_natCast]
end Mine
end
section
open PySem PySem.W PyProof.Rows PySem.Calls
namespace Mine
theorem allHolds : PySem.Challenge.rw_oy0052_01.Holds := by
  refine joined fun w ls vs ns o1 o2 h1 h2 => ?_
  refine seg0 w ls vs ns o1 o2 h1 h2 fun lf fvs t1 t2 hI => ?_
  refine seg4 w ls vs ns o1 o2 h1 h2 lf fvs t1 t2 hI fun lt o1' t3 t4 h3 => ?_
  have hW := wordL_len ns
  have hin := wordL_in ns
  have hf := fi_le ns
  have hn : (wordL ns).length ≤ 16 := by omega
  refine seg9 w ls vs ns o1' o2 h2 lt t1 t2 t3 t4 h3 (numb ns) (wordL ns) SIGNS (fi ns) rfl hW hin hf fun tvs n hT => ?_
  have hTl : ((List.range (wordL ns).length).map (text (fi ns) (wordL ns))).length = (wordL ns).length := by rw [List.length_map, List.length_range]
  refine seg10 w ls vs ns o1' o2 h2 lt t1 t2 t3 t4 h3 (numb ns) (wordL ns) SIGNS (fi ns) tvs n _ hT fun lp pvs ps np hP hP0 hP1 => ?_
  refine seg11 w ls vs ns o1' o2 h2 lt t1 t2 t3 t4 h3 (numb ns) (wordL ns) SIGNS (fi ns) tvs n _ hT (by omega) (by omega) lp pvs ps np hP hP0 hP1 fun lh hvs hbs hn' o2' h4 hH hHeap hPerm => ?_
  refine seg14 w ls vs ns o1' o2' lt t1 t2 t3 t4 h3 (numb ns) (wordL ns) SIGNS (fi ns) tvs n _ hT (by omega) lh hvs hbs hn' h4 hH hPerm.length_eq fun D ovs on hvs2 hn2 hO hH2 => ?_
  rw [order_heap hin hf hn hPerm hHeap] at hO
  have hO2 : (orderI (fi ns) (wordL ns)).map (fun k => text (fi ns) (wordL ns) k.toNat) = (orderI (fi ns) (wordL ns)).map fun k => ((List.range (wordL ns).length).map (text (fi ns) (wordL ns))).getD k.toNat #[] := by
    refine List.map_congr_left ?_
    intro k hk
    have h5 := order_in hf hn k hk
    have h6 : k.toNat < (List.range (wordL ns).length).length := by rw [List.length_range]; omega
    rw [List.getD_eq_getElem?_getD, List.getElem?_map, List.getElem?_eq_getElem h6, List.getElem_range]; rfl
  refine seg15 w ls vs ns o1' o2' lt t1 t2 t3 t4 h3 (numb ns) (wordL ns) SIGNS (fi ns) ⟨by omega, hn⟩ hf tvs n _ hT (by omega) lh hvs2 hn2 h4 hH2 D ovs on (hO2 ▸ hO) (fun k hk => by rw [hTl]; exact order_in hf hn k hk) fun lo rvs rn hR => ?_
  exact seg17 w ls vs ns t1 t3 t4 (numb ns) (wordL ns) SIGNS (fi ns) rfl ⟨by omega, hn⟩ hin hf (orderI (fi ns) (wordL ns)) (order_in hf hn) (order_len hf hn) D ovs on hO lo rvs rn hR (order_sum ns)
end Mine
end
theorem PySem.Challenge.cw_oy0052_01_holds : PySem.Challenge.rw_oy0052_01.Holds := by
  exact Mine.allHolds
