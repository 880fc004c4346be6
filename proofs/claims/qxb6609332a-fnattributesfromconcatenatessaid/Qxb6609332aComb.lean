/-
  Seat b6609332a: the plain law, no Go in sight: places as an arena of nodes. List ids: 0 the root list; of node j: 3j+1 its head block, 3j+2 its own block, 3j+3 its contents. 'Ch x': the nodes of list x, in order. 'ord': the order in which a walk comes to them.
-/
import Derived.Test.Qxb6609332aWf
namespace Go.Proofs.Qxb6609332a

theorem flatMap_same {α β : Type} {f g : α → List β} : ∀ {l : List α}, (∀ a ∈ l, f a = g a) → l.flatMap f = l.flatMap g
  | [], _ => rfl
  | a :: l, h => by
    rw [List.flatMap_cons, List.flatMap_cons, h a (by simp), flatMap_same (fun b hb => h b (by simp [hb]))]

/-- The order of a walk over list x. -/
def ord (Ch : Nat → List Nat) : Nat → Nat → List Nat
  | 0, _ => []
  | f + 1, x => (Ch x).flatMap fun j => j :: (ord Ch f (3 * j + 1) ++ (ord Ch f (3 * j + 2) ++ ord Ch f (3 * j + 3)))

/-- The node n put at the end of list x. -/
def put (Ch : Nat → List Nat) (x n : Nat) : Nat → List Nat := fun y => if y = x then Ch x ++ [n] else Ch y
theorem put_same (Ch : Nat → List Nat) (x n : Nat) : put Ch x n x = Ch x ++ [n] := if_pos rfl
theorem put_other {Ch : Nat → List Nat} {x n y : Nat} (h : y ≠ x) : put Ch x n y = Ch y := if_neg h

/-- The class of a place, a number. -/
def Pl.c (p : Pl) : Nat := if p.inHead then 0 else if p.entry then 1 else 2
theorem cls_c (p : Pl) : p.cls = (p.c : Int) := by unfold Pl.cls Pl.c; split <;> (try split) <;> rfl
theorem c_le (p : Pl) : p.c ≤ 2 := by unfold Pl.c; split <;> (try split) <;> omega
/-- The list into which a place goes, under the open nodes os. -/
def target (os : List Nat) (p : Pl) : Nat := if p.depth = 0 then 0 else 3 * (os[p.depth.toNat - 1]?.getD 0) + p.c + 1

/-- What a list's nodes bear: depth and flags, as the walk hands them out. -/
def Fits (S : Nat → Pl) (x j : Nat) : Prop :=
  if x = 0 then (S j).depth = 0 ∧ (S j).entry = false ∧ (S j).inHead = false
  else (S j).depth = (S ((x - 1) / 3)).depth + 1 ∧
    (if (x - 1) % 3 = 0 then (S j).entry = true ∧ (S j).inHead = true ∧ (S ((x - 1) / 3)).headBlock = true
     else if (x - 1) % 3 = 1 then (S j).entry = true ∧ (S j).inHead = false ∧ (S ((x - 1) / 3)).block = true
     else (S j).entry = false ∧ (S j).inHead = false)

/-- The open nodes, from list x on, beside the stack. -/
def StackInv (Ch : Nat → List Nat) (S : Nat → Pl) : Nat → Nat → List Nat → List Fr → Prop
  | _, _, [], [] => True
  | lv, x, o :: os, f :: st => (∃ init, Ch x = init ++ [o]) ∧ f.blk = (S o).block ∧ f.hd = (S o).headBlock ∧ (S o).depth = (lv : Int) ∧ f.last ≤ 2 ∧
      (∀ c : Nat, f.last < (c : Int) → c < 3 → Ch (3 * o + c + 1) = []) ∧ ((os = [] ∧ st = []) ∨ (0 ≤ f.last ∧ StackInv Ch S (lv + 1) (3 * o + f.last.toNat + 1) os st))
  | _, _, [], _ :: _ => False
  | _, _, _ :: _, [] => False

/-- The arena behind the first n places. -/
structure Comb (Ch : Nat → List Nat) (S : Nat → Pl) (n : Nat) (os : List Nat) (st : List Fr) : Prop where
  mem : ∀ x, ∀ j ∈ Ch x, j < n ∧ x ≤ 3 * j ∧ Fits S x j
  uniq : ∀ x y j, j ∈ Ch x → j ∈ Ch y → x = y
  nodup : ∀ x, (Ch x).Nodup
  order : ord Ch (n + 1) 0 = List.range n
  stack : StackInv Ch S 0 0 os st
  osLt : ∀ o ∈ os, o < n
  osLen : os.length ≤ n

theorem stack_len {Ch : Nat → List Nat} {S : Nat → Pl} : ∀ {os : List Nat} {st : List Fr} {lv x : Nat}, StackInv Ch S lv x os st → os.length = st.length
  | [], [], _, _, _ => rfl
  | o :: os, f :: st, _, _, h => by
    obtain ⟨_, _, _, _, _, _, h⟩ := h
    rcases h with ⟨rfl, rfl⟩ | ⟨_, h⟩
    · rfl
    · simp [stack_len h]
  | [], _ :: _, _, _, h => h.elim
  | _ :: _, [], _, _, h => h.elim

theorem range_length_ord {Ch : Nat → List Nat} {n f : Nat} (h : ord Ch f 0 = List.range n) : (ord Ch f 0).Nodup := by rw [h]; exact List.nodup_range

/-! ### Putting a node that is not there yet -/
section
variable {Ch : Nat → List Nat} {x n : Nat}

/-- A list into which nothing was put, and from which x's holder cannot be come to, is walked as before. -/
theorem ord_put_far {k c : Nat} (hx : x = 3 * k + c + 1) (hc : c < 3) : ∀ (f y : Nat), y ≠ x → k ∉ ord Ch f y → ord (put Ch x n) f y = ord Ch f y
  | 0, _, _, _ => rfl
  | f + 1, y, hy, hk => by
    simp only [ord, put_other hy] at hk ⊢
    have hk' : ∀ j ∈ Ch y, k ∉ (j :: (ord Ch f (3 * j + 1) ++ (ord Ch f (3 * j + 2) ++ ord Ch f (3 * j + 3)))) := fun j hj h => hk (List.mem_flatMap.2 ⟨j, hj, h⟩)
    have each : ∀ j ∈ Ch y, (j :: (ord (put Ch x n) f (3 * j + 1) ++ (ord (put Ch x n) f (3 * j + 2) ++ ord (put Ch x n) f (3 * j + 3)))) = j :: (ord Ch f (3 * j + 1) ++ (ord Ch f (3 * j + 2) ++ ord Ch f (3 * j + 3))) := by
      intro j hj
      have hkj := hk' j hj
      simp only [List.mem_cons, List.mem_append, not_or] at hkj
      obtain ⟨h0, h1, h2, h3⟩ := hkj
      rw [ord_put_far hx hc f _ (by omega) h1, ord_put_far hx hc f _ (by omega) h2, ord_put_far hx hc f _ (by omega) h3]
    exact flatMap_same each
/-- A list beyond x is walked as before. -/
theorem ord_put_beyond (hm : ∀ y, ∀ j ∈ Ch y, y ≤ 3 * j) : ∀ (f y : Nat), x < y → ord (put Ch x n) f y = ord Ch f y
  | 0, _, _ => rfl
  | f + 1, y, hy => by
    simp only [ord, put_other (show y ≠ x by omega)]
    refine flatMap_same fun j hj => ?_
    have := hm y j hj
    rw [ord_put_beyond hm f _ (by omega), ord_put_beyond hm f _ (by omega), ord_put_beyond hm f _ (by omega)]
theorem ord_empty {f y : Nat} (h : Ch y = []) : ord Ch f y = [] := by
  cases f with
  | zero => rfl
  | succ f => simp [ord, h]
/-- The list x itself: n comes last. -/
theorem ord_put_here (hm : ∀ y, ∀ j ∈ Ch y, y ≤ 3 * j) (hx : x ≤ 3 * n) (hn : ∀ c, c < 3 → Ch (3 * n + c + 1) = []) (f : Nat) : ord (put Ch x n) (f + 1) x = ord Ch (f + 1) x ++ [n] := by
  simp only [ord, put_same, List.flatMap_append, List.flatMap_cons, List.flatMap_nil, List.append_nil]
  congr 1
  · refine flatMap_same fun j hj => ?_
    have := hm x j hj
    rw [ord_put_beyond hm f _ (by omega), ord_put_beyond hm f _ (by omega), ord_put_beyond hm f _ (by omega)]
  · rw [ord_put_beyond hm f _ (by omega), ord_put_beyond hm f _ (by omega), ord_put_beyond hm f _ (by omega), ord_empty (hn 0 (by omega)), ord_empty (hn 1 (by omega)), ord_empty (hn 2 (by omega))]
    rfl

/-- The way along the open nodes from list x to list xt: each is the last of its list, and behind the class that the way takes nothing lies. -/
def SpineTo (Ch : Nat → List Nat) : Nat → List Nat → Nat → Prop
  | x, [], xt => x = xt
  | x, o :: rest, xt => (∃ init, Ch x = init ++ [o]) ∧ ∃ c, c < 3 ∧ (∀ c', c < c' → c' < 3 → Ch (3 * o + c' + 1) = []) ∧ SpineTo Ch (3 * o + c + 1) rest xt

theorem spine_le (hm : ∀ y, ∀ j ∈ Ch y, y ≤ 3 * j) : ∀ {path : List Nat} {x xt : Nat}, SpineTo Ch x path xt → x ≤ xt
  | [], _, _, h => Nat.le_of_eq h
  | o :: rest, x, xt, ⟨⟨init, hi⟩, c, _, _, hr⟩ => by
    have := hm x o (by rw [hi]; simp)
    have := spine_le hm hr
    omega
/-- The holder of the list at the way's end is come to. -/
theorem spine_mem (hm : ∀ y, ∀ j ∈ Ch y, y ≤ 3 * j) : ∀ {path : List Nat} {x xt k f : Nat}, SpineTo Ch x path xt → path.getLast? = some k → path.length ≤ f → k ∈ ord Ch f x
  | [], _, _, _, _, _, h, _ => by simp at h
  | o :: rest, x, xt, k, 0, _, _, hf => by simp at hf
  | o :: rest, x, xt, k, f + 1, ⟨⟨init, hi⟩, c, hc, _, hr⟩, hl, hf => by
    simp only [ord]
    refine List.mem_flatMap.2 ⟨o, by rw [hi]; simp, ?_⟩
    cases rest with
    | nil => simp at hl; subst hl; simp
    | cons o' rest' =>
      have hk := spine_mem hm (f := f) hr (by simpa using hl) (by simpa using hf)
      have : c = 0 ∨ c = 1 ∨ c = 2 := by omega
      rcases this with rfl | rfl | rfl
      · exact List.mem_cons_of_mem _ (List.mem_append_left _ hk)
      · exact List.mem_cons_of_mem _ (List.mem_append_right _ (List.mem_append_left _ hk))
      · exact List.mem_cons_of_mem _ (List.mem_append_right _ (List.mem_append_right _ hk))
/-- The list at the way's end lies under the way's last node. -/
theorem spine_end : ∀ {path : List Nat} {x xt k : Nat}, SpineTo Ch x path xt → path.getLast? = some k → ∃ c, c < 3 ∧ xt = 3 * k + c + 1
  | [], _, _, _, _, h => by simp at h
  | o :: rest, x, xt, k, ⟨_, c, hc, _, hr⟩, hl => by
    cases rest with
    | nil => simp at hl; subst hl; exact ⟨c, hc, hr.symm⟩
    | cons o' rest' => exact spine_end hr (by simpa using hl)
/-- PUT AT THE END OF THE WAY, n IS THE LAST TO BE COME TO. -/
theorem ord_put_spine (hm : ∀ y, ∀ j ∈ Ch y, y ≤ 3 * j) (hn : ∀ c, c < 3 → Ch (3 * n + c + 1) = []) : ∀ {path : List Nat} {y xt f : Nat}, SpineTo Ch y path xt → xt ≤ 3 * n → path.length < f → (ord Ch f y).Nodup →
    ord (put Ch xt n) f y = ord Ch f y ++ [n]
  | _, _, _, 0, _, _, hf, _ => by omega
  | [], y, xt, f + 1, h, hx, _, _ => by
    obtain rfl : y = xt := h
    exact ord_put_here hm hx hn f
  | o :: rest, y, xt, f + 1, hs, hx, hf, hnd => by
    have hs' := hs
    obtain ⟨⟨init, hi⟩, c, hc, hem, hr⟩ := hs
    obtain ⟨k, hk⟩ : ∃ k, (o :: rest).getLast? = some k := ⟨_, List.getLast?_eq_some_getLast (by simp)⟩
    obtain ⟨ck, hck, hxt⟩ := spine_end hs' hk
    have hyo := hm y o (by rw [hi]; simp)
    have hle := spine_le hm hr
    have hyx : y ≠ xt := by omega
    -- what the walk over y comes to
    have e0 : ord Ch (f + 1) y = init.flatMap (fun j => j :: (ord Ch f (3 * j + 1) ++ (ord Ch f (3 * j + 2) ++ ord Ch f (3 * j + 3)))) ++ (o :: (ord Ch f (3 * o + 1) ++ (ord Ch f (3 * o + 2) ++ ord Ch f (3 * o + 3)))) := by
      simp [ord, hi]
    have e1 : ord (put Ch xt n) (f + 1) y = init.flatMap (fun j => j :: (ord (put Ch xt n) f (3 * j + 1) ++ (ord (put Ch xt n) f (3 * j + 2) ++ ord (put Ch xt n) f (3 * j + 3)))) ++ (o :: (ord (put Ch xt n) f (3 * o + 1) ++ (ord (put Ch xt n) f (3 * o + 2) ++ ord (put Ch xt n) f (3 * o + 3)))) := by
      simp [ord, put_other hyx, hi]
    rw [e0] at hnd
    have hnd' := List.nodup_append.1 hnd
    -- k lies in o's part
    have hko : k = o ∨ k ∈ ord Ch f (3 * o + c + 1) := by
      cases rest with
      | nil => left; simpa using hk.symm
      | cons o' rest' => right; exact spine_mem hm hr (by simpa using hk) (by simp at hf ⊢; omega)
    have hkseg : k ∈ (o :: (ord Ch f (3 * o + 1) ++ (ord Ch f (3 * o + 2) ++ ord Ch f (3 * o + 3)))) := by
      rcases hko with rfl | h
      · simp
      · have : c = 0 ∨ c = 1 ∨ c = 2 := by omega
        rcases this with rfl | rfl | rfl
        · exact List.mem_cons_of_mem _ (List.mem_append_left _ h)
        · exact List.mem_cons_of_mem _ (List.mem_append_right _ (List.mem_append_left _ h))
        · exact List.mem_cons_of_mem _ (List.mem_append_right _ (List.mem_append_right _ h))
    have hkinit : k ∉ init.flatMap (fun j => j :: (ord Ch f (3 * j + 1) ++ (ord Ch f (3 * j + 2) ++ ord Ch f (3 * j + 3)))) := fun h => hnd'.2.2 k h k hkseg rfl
    have hinit : init.flatMap (fun j => j :: (ord (put Ch xt n) f (3 * j + 1) ++ (ord (put Ch xt n) f (3 * j + 2) ++ ord (put Ch xt n) f (3 * j + 3)))) = init.flatMap (fun j => j :: (ord Ch f (3 * j + 1) ++ (ord Ch f (3 * j + 2) ++ ord Ch f (3 * j + 3)))) := by
      refine flatMap_same fun j hj => ?_
      have hkj : k ∉ (j :: (ord Ch f (3 * j + 1) ++ (ord Ch f (3 * j + 2) ++ ord Ch f (3 * j + 3)))) := fun h => hkinit (List.mem_flatMap.2 ⟨j, hj, h⟩)
      simp only [List.mem_cons, List.mem_append, not_or] at hkj
      obtain ⟨h0, h1, h2, h3⟩ := hkj
      rw [ord_put_far hxt hck f _ (by omega) h1, ord_put_far hxt hck f _ (by omega) h2, ord_put_far hxt hck f _ (by omega) h3]
    -- o's three parts
    have hseg := hnd'.2.1
    simp only [List.nodup_cons, List.mem_append, not_or] at hseg
    obtain ⟨⟨ho1, ho2, ho3⟩, hn123⟩ := hseg
    have hn1 := List.nodup_append.1 hn123
    have hn2 := List.nodup_append.1 hn1.2.1
    have hnext : ord (put Ch xt n) f (3 * o + c + 1) = ord Ch f (3 * o + c + 1) ++ [n] := by
      refine ord_put_spine hm hn hr hx (by simp at hf; omega) ?_
      have : c = 0 ∨ c = 1 ∨ c = 2 := by omega
      rcases this with rfl | rfl | rfl
      · exact hn1.1
      · exact hn2.1
      · exact hn2.2.1
    have hother : ∀ c', c' < 3 → c' ≠ c → 3 * o + c' + 1 ≠ xt := by
      intro c' hc' hne
      cases rest with
      | nil =>
        have : xt = 3 * o + c + 1 := hr.symm
        omega
      | cons o' rest' =>
        have h1 : 3 * o + c + 1 ≤ 3 * o' := hm _ o' (by obtain ⟨⟨i2, hi2⟩, _⟩ := hr; rw [hi2]; simp)
        have h2 : 3 * o' + 1 ≤ xt := by
          obtain ⟨_, c2, _, _, hr2⟩ := hr
          have := spine_le hm hr2
          omega
        omega
    have hgone : ∀ c', c < c' → c' < 3 → ord Ch f (3 * o + c' + 1) = [] ∧ ord (put Ch xt n) f (3 * o + c' + 1) = [] := by
      intro c' h1 h2
      have he := hem c' h1 h2
      exact ⟨ord_empty he, ord_empty (by rw [put_other (hother c' h2 (by omega)), he])⟩
    have hfar : ∀ c', c' < c → ord (put Ch xt n) f (3 * o + c' + 1) = ord Ch f (3 * o + c' + 1) := by
      intro c' h1
      refine ord_put_far hxt hck f _ (hother c' (by omega) (by omega)) ?_
      intro hkc
      rcases hko with rfl | hko
      · have : c' = 0 ∨ c' = 1 := by omega
        rcases this with rfl | rfl
        · exact ho1 hkc
        · exact ho2 hkc
      · have : (c' = 0 ∧ c = 1) ∨ (c' = 0 ∧ c = 2) ∨ (c' = 1 ∧ c = 2) := by omega
        rcases this with ⟨rfl, rfl⟩ | ⟨rfl, rfl⟩ | ⟨rfl, rfl⟩
        · exact hn1.2.2 k hkc k (List.mem_append_left _ hko) rfl
        · exact hn1.2.2 k hkc k (List.mem_append_right _ hko) rfl
        · exact hn2.2.2 k hkc k hko rfl
    rw [e1, e0, hinit]
    have : c = 0 ∨ c = 1 ∨ c = 2 := by omega
    rcases this with rfl | rfl | rfl
    · rw [show 3 * o + 1 = 3 * o + 0 + 1 from rfl, hnext, (hgone 1 (by omega) (by omega)).1, (hgone 1 (by omega) (by omega)).2, (hgone 2 (by omega) (by omega)).1, (hgone 2 (by omega) (by omega)).2]
      simp
    · have h0 := hfar 0 (by omega)
      rw [show 3 * o + 1 = 3 * o + 0 + 1 from rfl, h0, show 3 * o + 2 = 3 * o + 1 + 1 from rfl, hnext, show 3 * o + 3 = 3 * o + 2 + 1 from rfl, (hgone 2 (by omega) (by omega)).1, (hgone 2 (by omega) (by omega)).2]
      simp
    · have h0 := hfar 0 (by omega)
      have h1 := hfar 1 (by omega)
      rw [show 3 * o + 1 = 3 * o + 0 + 1 from rfl, h0, show 3 * o + 2 = 3 * o + 1 + 1 from rfl, h1, show 3 * o + 3 = 3 * o + 2 + 1 from rfl, hnext]
      simp
end

/-! ### The stack and the way -/
section
variable {Ch : Nat → List Nat} {S : Nat → Pl}

/-- Level h of the open nodes, read off the stack: its list, its node, its frame. -/
theorem stack_at : ∀ {os : List Nat} {st : List Fr} {lv x h : Nat} {f : Fr}, StackInv Ch S lv x os st → st[h]? = some f →
    ∃ o y init, os[h]? = some o ∧ Ch y = init ++ [o] ∧ f.blk = (S o).block ∧ f.hd = (S o).headBlock ∧ (S o).depth = (lv + h : Nat) ∧ f.last ≤ 2 ∧ (∀ c : Nat, f.last < (c : Int) → c < 3 → Ch (3 * o + c + 1) = [])
  | [], [], _, _, _, _, _, hf => by simp at hf
  | [], _ :: _, _, _, _, _, h, _ => h.elim
  | _ :: _, [], _, _, _, _, h, _ => h.elim
  | o :: os, f0 :: st, lv, x, 0, f, h, hf => by
    obtain ⟨⟨init, hi⟩, h1, h2, h3, h4, h5, _⟩ := h
    simp at hf
    subst hf
    exact ⟨o, x, init, rfl, hi, h1, h2, by simpa using h3, h4, h5⟩
  | o :: os, f0 :: st, lv, x, h + 1, f, hS, hf => by
    obtain ⟨_, _, _, _, _, _, hr⟩ := hS
    rcases hr with ⟨rfl, rfl⟩ | ⟨_, hr⟩
    · simp at hf
    · obtain ⟨o', y, init, e1, e2, e3, e4, e5, e6, e7⟩ := stack_at hr (h := h) (f := f) (by simpa using hf)
      exact ⟨o', y, init, by simpa using e1, e2, e3, e4, by rw [e5]; omega, e6, e7⟩
/-- The way to a list under level h, its class no less than that level's last. -/
theorem stack_spine : ∀ {os : List Nat} {st : List Fr} {lv x h o c : Nat} {f : Fr}, StackInv Ch S lv x os st → os[h]? = some o → st[h]? = some f → f.last ≤ (c : Int) → c < 3 →
    SpineTo Ch x (os.take (h + 1)) (3 * o + c + 1)
  | [], _, _, _, _, _, _, _, _, h, _, _, _ => by simp at h
  | _ :: _, [], _, _, _, _, _, _, h, _, _, _, _ => h.elim
  | o0 :: os, f0 :: st, lv, x, 0, o, c, f, hS, ho, hf, hc, hc3 => by
    obtain ⟨hi, _, _, _, _, hem, _⟩ := hS
    simp at ho hf
    subst ho; subst hf
    refine ⟨hi, c, hc3, fun c' h1 h2 => hem c' (by omega) h2, ?_⟩
    simp [SpineTo]
  | o0 :: os, f0 :: st, lv, x, h + 1, o, c, f, hS, ho, hf, hc, hc3 => by
    obtain ⟨hi, _, _, _, hle, hem, hr⟩ := hS
    rcases hr with ⟨rfl, rfl⟩ | ⟨h0, hr⟩
    · simp at ho
    · refine ⟨hi, f0.last.toNat, by omega, fun c' h1 h2 => hem c' (by omega) h2, ?_⟩
      exact stack_spine hr (by simpa using ho) (by simpa using hf) hc hc3
/-- The stack behind the put, at level h + 1. -/
theorem stack_put {n : Nat} (hm : ∀ y, ∀ j ∈ Ch y, y ≤ 3 * j) (hn : ∀ c, c < 3 → Ch (3 * n + c + 1) = []) : ∀ {os : List Nat} {st : List Fr} {lv x h o c : Nat} {f : Fr}, StackInv Ch S lv x os st → os[h]? = some o → st[h]? = some f → f.last ≤ (c : Int) → c < 3 →
    (S n).depth = (lv + h + 1 : Nat) → o < n →
    StackInv (put Ch (3 * o + c + 1) n) S lv x (os.take (h + 1) ++ [n]) (st.take h ++ [⟨f.blk, f.hd, c⟩] ++ [(S n).fr])
  | [], _, _, _, _, _, _, _, _, h, _, _, _, _, _ => by simp at h
  | _ :: _, [], _, _, _, _, _, _, h, _, _, _, _, _, _ => h.elim
  | o0 :: os, f0 :: st, lv, x, 0, o, c, f, hS, ho, hf, hc, hc3, hd, hon => by
    obtain ⟨⟨init, hi⟩, h1, h2, h3, hle, hem, _⟩ := hS
    simp at ho hf
    subst ho; subst hf
    have hx := hm x o0 (by rw [hi]; simp)
    refine ⟨⟨init, by rw [put_other (by omega)]; exact hi⟩, h1, h2, h3, by show (c : Int) ≤ 2; omega, fun c' a b => by rw [put_other (by simp at a; omega)]; exact hem c' (by simp at a; omega) b, .inr ⟨by show (0 : Int) ≤ c; omega, ?_⟩⟩
    show StackInv _ S (lv + 1) (3 * o0 + (c : Int).toNat + 1) [n] [(S n).fr]
    refine ⟨⟨Ch (3 * o0 + c + 1), by simp only [Int.toNat_natCast]; exact put_same _ _ _⟩, rfl, rfl, by rw [hd], by show (-1 : Int) ≤ 2; omega, fun c' _ b => by rw [put_other (by omega)]; exact hn c' b, .inl ⟨rfl, rfl⟩⟩
  | o0 :: os, f0 :: st, lv, x, h + 1, o, c, f, hS, ho, hf, hc, hc3, hd, hon => by
    obtain ⟨⟨init, hi⟩, h1, h2, h3, hle, hem, hr⟩ := hS
    rcases hr with ⟨rfl, rfl⟩ | ⟨h0, hr⟩
    · simp at ho
    · have hx := hm x o0 (by rw [hi]; simp)
      have ho' : os[h]? = some o := by simpa using ho
      have hf' : st[h]? = some f := by simpa using hf
      have hsp := stack_spine hr ho' hf' hc hc3
      have hlt : 3 * o0 + f0.last.toNat + 1 < 3 * o + c + 1 ∧ o0 < o := by
        cases hos : os with
        | nil => rw [hos] at ho'; simp at ho'
        | cons o1 os' =>
          rw [hos] at hsp
          obtain ⟨⟨i2, hi2⟩, c2, _, _, hr2⟩ := hsp
          have a1 := hm _ o1 (by rw [hi2]; simp)
          have a2 := spine_le hm hr2
          omega
      obtain ⟨hlt, hoo⟩ := hlt
      refine ⟨⟨init, by rw [put_other (by omega)]; exact hi⟩, h1, h2, h3, hle, fun c' a b => by rw [put_other (by omega)]; exact hem c' a b, .inr ⟨h0, ?_⟩⟩
      have := stack_put hm hn (lv := lv + 1) hr ho' hf' hc hc3 (by rw [hd]; congr 1; omega) hon
      simpa using this
end

/-! ### The step -/
theorem target_zero {os : List Nat} {p : Pl} (h : p.depth = 0) : target os p = 0 := by simp [target, h]
theorem target_succ {os : List Nat} {p : Pl} {h o : Nat} (hd : p.depth = (h : Int) + 1) (ho : os[h]? = some o) : target os p = 3 * o + p.c + 1 := by
  have e : p.depth.toNat - 1 = h := by omega
  unfold target
  rw [if_neg (by omega), e, ho]
  rfl
/-- What 'wfPre' lets by. -/
theorem wfPre_cases {st st2 : List Fr} {p : Pl} (h : wfPre st p = some st2) :
    (p.depth = 0 ∧ p.entry = false ∧ p.inHead = false ∧ st2 = []) ∨
    ∃ (k : Nat) (f : Fr), p.depth = (k : Int) + 1 ∧ st[k]? = some f ∧ okAt f p = true ∧ f.last ≤ (p.c : Int) ∧ st2 = st.take k ++ [⟨f.blk, f.hd, p.c⟩] := by
  unfold wfPre at h
  split at h
  · cases h
  · rename_i hn
    split at h
    · rename_i hz
      split at h
      · cases h
      · rename_i he
        simp at he
        cases h
        exact .inl ⟨hz, he.1, he.2, rfl⟩
    · rename_i hz
      split at h
      · cases h
      · rename_i f hf
        split at h
        · cases h
        · rename_i hok
          simp only [not_or, Bool.not_eq_false, Int.not_lt] at hok
          cases h
          rw [cls_c] at hok ⊢
          exact .inr ⟨p.depth.toNat - 1, f, by omega, hf, hok.1, hok.2, rfl⟩
theorem comb_zero (S : Nat → Pl) : Comb (fun _ => []) S 0 [] [] :=
  ⟨(fun _ _ h => (by cases h)), (fun _ _ _ h => (by cases h)), fun _ => List.nodup_nil, rfl, trivial, (fun _ h => (by cases h)), Nat.le_refl _⟩
theorem fresh_lists {Ch : Nat → List Nat} {S : Nat → Pl} {n : Nat} {os : List Nat} {st : List Fr} (hC : Comb Ch S n os st) (x : Nat) (h : 3 * n < x) : Ch x = [] := by
  cases hx : Ch x with
  | nil => rfl
  | cons j l =>
    have := hC.mem x j (by rw [hx]; simp)
    omega

/-- THE STEP: the next place goes into its list; all that the arena says holds behind it. -/
theorem comb_step {Ch : Nat → List Nat} {S : Nat → Pl} {n : Nat} {os : List Nat} {st st2 : List Fr} (hC : Comb Ch S n os st) (h : wfPre st (S n) = some st2) :
    Comb (put Ch (target os (S n)) n) S (n + 1) (os.take (S n).depth.toNat ++ [n]) (st2 ++ [(S n).fr]) ∧ target os (S n) ≤ 3 * n := by
  have hm : ∀ y, ∀ j ∈ Ch y, y ≤ 3 * j := fun y j hj => (hC.mem y j hj).2.1
  have hn : ∀ c, c < 3 → Ch (3 * n + c + 1) = [] := fun c _ => fresh_lists hC _ (by omega)
  have hnd : (ord Ch (n + 1) 0).Nodup := by rw [hC.order]; exact List.nodup_range
  have hnot : ∀ y, n ∉ Ch y := fun y hy => by have := (hC.mem y n hy).1; omega
  -- one more frame of fuel changes nothing
  have grow : ∀ (f y : Nat), n ≤ f + (y + 2) / 3 → ord Ch (f + 1) y = ord Ch f y := by
    intro f
    induction f with
    | zero =>
      intro y hy
      have : Ch y = [] := by
        cases hx : Ch y with
        | nil => rfl
        | cons j l =>
          have := hC.mem y j (by rw [hx]; simp)
          omega
      rw [ord_empty this, ord_empty this]
    | succ f ih =>
      intro y hy
      rw [ord, ord]
      refine flatMap_same fun j hj => ?_
      have := hC.mem y j hj
      rw [ih (3 * j + 1) (by omega), ih (3 * j + 2) (by omega), ih (3 * j + 3) (by omega)]
  have key : ∀ (x : Nat) (path : List Nat), SpineTo Ch 0 path x → x ≤ 3 * n → path.length ≤ n → ord (put Ch x n) (n + 1 + 1) 0 = List.range (n + 1) := by
    intro x path hs hx hl
    rw [ord_put_spine hm hn hs hx (by omega) (by rw [grow (n + 1) 0 (by omega)]; exact hnd), grow (n + 1) 0 (by omega), hC.order, List.range_succ]
  have memo : ∀ x, x ≤ 3 * n → Fits S x n → ∀ y, ∀ j ∈ put Ch x n y, j < n + 1 ∧ y ≤ 3 * j ∧ Fits S y j := by
    intro x hx hf y j hj
    by_cases e : y = x
    · subst e
      rw [put_same] at hj
      rcases List.mem_append.1 hj with hj | hj
      · have := hC.mem y j hj; exact ⟨by omega, this.2⟩
      · simp at hj; subst hj; exact ⟨by omega, hx, hf⟩
    · rw [put_other e] at hj
      have := hC.mem y j hj; exact ⟨by omega, this.2⟩
  have inPut : ∀ x y j, j ∈ put Ch x n y → (j ∈ Ch y) ∨ (j = n ∧ y = x) := by
    intro x y j hj
    by_cases e : y = x
    · subst e
      rw [put_same] at hj
      rcases List.mem_append.1 hj with hj | hj
      · exact .inl hj
      · simp at hj; exact .inr ⟨hj, rfl⟩
    · rw [put_other e] at hj; exact .inl hj
  have uniq : ∀ x y z j, j ∈ put Ch x n y → j ∈ put Ch x n z → y = z := by
    intro x y z j h1 h2
    rcases inPut x y j h1 with k1 | ⟨k1, k2⟩
    · rcases inPut x z j h2 with l1 | ⟨l1, l2⟩
      · exact hC.uniq y z j k1 l1
      · exact (hnot y (l1 ▸ k1)).elim
    · rcases inPut x z j h2 with l1 | ⟨l1, l2⟩
      · exact (hnot z (k1 ▸ l1)).elim
      · rw [k2, l2]
  have nd : ∀ x y, (put Ch x n y).Nodup := by
    intro x y
    by_cases e : y = x
    · subst e
      rw [put_same]
      refine List.nodup_append.2 ⟨hC.nodup y, by simp, fun a ha b hb => ?_⟩
      simp at hb; subst hb
      rintro rfl
      exact hnot y ha
    · rw [put_other e]; exact hC.nodup y
  rcases wfPre_cases h with ⟨hd, he, hi, rfl⟩ | ⟨k, f, hd, hf, hok, hla, rfl⟩
  · rw [target_zero hd]
    refine ⟨⟨memo 0 (Nat.zero_le _) ?_, uniq 0, nd 0, key 0 [] rfl (Nat.zero_le _) (Nat.zero_le _), ?_, ?_, by rw [hd]; simp⟩, Nat.zero_le _⟩
    · simp [Fits, hd, he, hi]
    · rw [hd]
      show StackInv _ S 0 0 [n] [(S n).fr]
      refine ⟨⟨Ch 0, put_same _ _ _⟩, rfl, rfl, hd, by show (-1 : Int) ≤ 2; omega, fun c' _ b => by rw [put_other (by omega)]; exact hn c' b, .inl ⟨rfl, rfl⟩⟩
    · rw [hd]
      intro o ho
      simp at ho
      omega
  · obtain ⟨o, y, init, ho, hy, hbk, hhd, hdep, hl2, hem⟩ := stack_at hC.stack hf
    have hon : o < n := hC.osLt o (List.mem_of_getElem? ho)
    have hc2 := c_le (S n)
    rw [target_succ hd ho]
    have hsp := stack_spine hC.stack ho hf hla (by omega)
    have hdn : (S n).depth.toNat = k + 1 := by omega
    have hol := hC.osLen
    refine ⟨⟨memo _ (by omega) ?_, uniq _, nd _, key _ _ hsp (by omega) (by rw [List.length_take]; omega), ?_, ?_, by rw [List.length_append, List.length_take]; simp; omega⟩, by omega⟩
    · unfold Fits
      rw [if_neg (by omega)]
      have e1 : (3 * o + (S n).c + 1 - 1) / 3 = o := by omega
      have e2 : (3 * o + (S n).c + 1 - 1) % 3 = (S n).c := by omega
      rw [e1, e2, hd, hdep]
      refine ⟨by simp, ?_⟩
      unfold okAt at hok
      cases h1 : (S n).inHead with
      | true =>
        rw [h1] at hok
        simp at hok
        have : (S n).c = 0 := by simp [Pl.c, h1]
        rw [this]; simp [hok.1, ← hhd, hok.2]
      | false =>
        rw [h1] at hok
        cases h2 : (S n).entry with
        | true =>
          rw [h2] at hok
          simp at hok
          have : (S n).c = 1 := by simp [Pl.c, h1, h2]
          rw [this]; simp [← hbk, hok]
        | false =>
          have : (S n).c = 2 := by simp [Pl.c, h1, h2]
          rw [this]; simp
    · rw [hdn]
      exact stack_put hm hn hC.stack ho hf hla (by omega) (by rw [hd]; simp) hon
    · intro a ha
      rcases List.mem_append.1 ha with ha | ha
      · have := hC.osLt a (List.mem_of_mem_take ha); omega
      · simp at ha; omega
end Go.Proofs.Qxb6609332a
