import Derived.Test.Qxb6609005aB6
namespace Go.Proofs.Qxb6609005a
set_option linter.unusedSimpArgs false
set_option linter.unusedVariables false

/-- event j, a later receive, has a send that comes before event k's -/
def Log.ov (g : Log) (fifo : Bool) (k j : Nat) : Bool :=
  decide (k < j) && g.rv j && (if fifo then decide (g.ho j = g.ho k) && decide (g.own j ≤ g.own k) else decide (g.own j ≤ g.cnt k (g.ho j)))

theorem flatMap_same {α β : Type} {F G : α → List β} : ∀ (l : List α), (∀ x ∈ l, F x = G x) → l.flatMap F = l.flatMap G
  | [], _ => rfl
  | a :: l, h => by
    simp only [List.flatMap_cons]
    rw [h a (List.mem_cons_self), flatMap_same l (fun x hx => h x (List.mem_cons_of_mem _ hx))]

theorem flatMap_cons_one {α : Type} {L : List ByteArray} (hn : L.Nodup) (x : α) (key : ByteArray) (hk : key ∈ L) (A : ByteArray → List α) :
    (L.flatMap fun s => if key = s then x :: A s else A s).Perm (x :: L.flatMap A) := by
  induction L with
  | nil => cases hk
  | cons a L ih =>
    simp only [List.flatMap_cons]
    by_cases e : key = a
    · subst e
      have hno : key ∉ L := (List.nodup_cons.1 hn).1
      have : (L.flatMap fun s => if key = s then x :: A s else A s) = L.flatMap A := by
        refine flatMap_same _ fun s hs => ?_
        rw [if_neg (fun e => hno (by rw [e]; exact hs))]
      rw [if_pos rfl, this]
      exact List.Perm.refl _
    · have hk' : key ∈ L := by
        rcases List.mem_cons.1 hk with h | h
        · exact absurd h e
        · exact h
      rw [if_neg e]
      have := ih (List.nodup_cons.1 hn).2 hk'
      exact (List.Perm.append_left (A a) this).trans (List.perm_middle)

/-- a list parted by keys -/
theorem part_perm {L : List ByteArray} (hn : L.Nodup) (p : Nat → Bool) (key : Nat → ByteArray) : ∀ (l : List Nat), (∀ x ∈ l, p x = true → key x ∈ L) → (L.flatMap fun s => l.filter fun x => p x && decide (key x = s)).Perm (l.filter p)
  | [], _ => by
    have : (L.flatMap fun s => ([] : List Nat).filter fun x => p x && decide (key x = s)) = [] := by simp
    rw [this]; exact List.Perm.refl _
  | a :: l, h => by
    have ih := part_perm hn p key l (fun x hx => h x (List.mem_cons_of_mem _ hx))
    cases hp : p a with
    | false =>
      have e : (fun s => (a :: l).filter fun x => p x && decide (key x = s)) = fun s => l.filter fun x => p x && decide (key x = s) := by
        funext s; rw [List.filter_cons]; simp [hp]
      rw [e, List.filter_cons, hp]
      exact ih
    | true =>
      have e : (fun s => (a :: l).filter fun x => p x && decide (key x = s)) = fun s => if key a = s then a :: (l.filter fun x => p x && decide (key x = s)) else l.filter fun x => p x && decide (key x = s) := by
        funext s; rw [List.filter_cons]
        by_cases e : key a = s
        · simp [hp, e]
        · simp [hp, e]
      rw [e, List.filter_cons, hp]
      exact (flatMap_cons_one hn a (key a) (h a (List.mem_cons_self) hp) _).trans (ih.cons a)

theorem late_perm {g : Log} {s : ByteArray} {D : Array Nat} (hO : Ord g s D) (k : Nat) (c : Int) : (late g D k c).Perm ((List.range g.m).filter fun j => (decide (k < j) && g.rv j && decide (g.own j ≤ c)) && decide (g.ho j = s)) := by
  unfold late
  refine (hO.perm.filter _).trans ?_
  unfold rcv
  rw [List.filter_filter]
  refine List.Perm.of_eq (List.filter_congr fun j _ => ?_)
  cases decide (k < j) <;> cases g.rv j <;> cases decide (g.own j ≤ c) <;> cases decide (g.ho j = s) <;> rfl

/-- fifo: one sender -/
theorem fifo_perm {g : Log} {D : Array Nat} {k : Nat} (hO : Ord g (g.ho k) D) : (late g D k (g.own k)).Perm ((List.range g.m).filter (g.ov true k)) := by
  refine (late_perm hO k _).trans (List.Perm.of_eq (List.filter_congr fun j _ => ?_))
  simp only [Log.ov, if_true]
  cases decide (k < j) <;> cases g.rv j <;> cases decide (g.own j ≤ g.own k) <;> cases decide (g.ho j = g.ho k) <;> rfl

/-- what the first t senders give -/
def accL (g : Log) (L : List ByteArray) (D : Nat → Array Nat) (k t : Nat) : List Nat := (List.range t).flatMap fun u => late g (D u) k (g.cnt k L[u]!)
theorem accL_succ (g : Log) (L : List ByteArray) (D : Nat → Array Nat) (k t : Nat) : accL g L D k (t + 1) = accL g L D k t ++ late g (D t) k (g.cnt k L[t]!) := by
  simp [accL, List.range_succ, List.flatMap_append]

theorem flatMap_perm {α β : Type} {F G : α → List β} : ∀ (l : List α), (∀ x ∈ l, (F x).Perm (G x)) → (l.flatMap F).Perm (l.flatMap G)
  | [], _ => List.Perm.refl _
  | a :: l, h => by
    simp only [List.flatMap_cons]
    exact (h a (List.mem_cons_self)).append (flatMap_perm l (fun x hx => h x (List.mem_cons_of_mem _ hx)))

theorem list_range (L : List ByteArray) : (List.range L.length).map (fun u => L[u]!) = L := by
  apply List.ext_getElem
  · simp
  · intro i h1 h2
    rw [List.getElem_map, List.getElem_range, getElem!_pos L i h2]

/-- causal: all senders -/
theorem causal_perm {g : Log} {L : List ByteArray} {D : Nat → Array Nat} {k : Nat} (hord : ∀ s (hs : s < L.length), Ord g L[s] (D s)) (hn : L.Nodup) (hmem : ∀ i, i < g.m → g.rv i = true → g.ho i ∈ L) : (accL g L D k L.length).Perm ((List.range g.m).filter (g.ov false k)) := by
  have h1 : (accL g L D k L.length).Perm ((List.range L.length).flatMap fun u => (List.range g.m).filter fun j => (g.ov false k j) && decide (g.ho j = L[u]!)) := by
    refine flatMap_perm _ fun u hu => ?_
    rw [List.mem_range] at hu
    have hO := hord u hu
    rw [getElem!_pos L u hu]
    refine (late_perm hO k _).trans (List.Perm.of_eq (List.filter_congr fun j _ => ?_))
    simp only [Log.ov]
    by_cases e : g.ho j = L[u]
    · simp [e]
    · simp [e]
  have h2 : ((List.range L.length).flatMap fun u => (List.range g.m).filter fun j => (g.ov false k j) && decide (g.ho j = L[u]!)) = L.flatMap fun s => (List.range g.m).filter fun j => (g.ov false k j) && decide (g.ho j = s) := by
    conv => rhs; rw [← list_range L, List.flatMap_map]
  rw [h2] at h1
  refine h1.trans (part_perm hn _ _ _ fun x hx hp => ?_)
  rw [List.mem_range] at hx
  refine hmem x hx ?_
  simp only [Log.ov, Bool.and_eq_true] at hp
  exact hp.1.2

/-- what has been found for each event -/
structure GOk (g : Log) (fifo : Bool) (k : Nat) (G : Nat → List Nat) : Prop where
  perm : ∀ i, i < k → g.rv i = true → (G i).Perm ((List.range g.m).filter (g.ov fifo i))
  none : ∀ i, i < k → g.rv i = false → G i = []
  sorted : ∀ i, i < k → KeySorted g (G i)

/-- all that has been found, as cells -/
def allP (g : Log) (G : Nat → List Nat) (k : Nat) : List Value := (List.range k).flatMap fun i => prs (g.pt i) g.pt (G i)
def allN (G : Nat → List Nat) (k : Nat) : Nat := ((List.range k).map fun i => (G i).length).sum

theorem allP_succ (g : Log) (G : Nat → List Nat) (k : Nat) : allP g G (k + 1) = allP g G k ++ prs (g.pt k) g.pt (G k) := by simp [allP, List.range_succ, List.flatMap_append]
theorem allN_succ (G : Nat → List Nat) (k : Nat) : allN G (k + 1) = allN G k + (G k).length := by simp [allN, List.range_succ]
theorem allP_len (g : Log) (G : Nat → List Nat) : ∀ k, (allP g G k).length = allN G k * 2
  | 0 => rfl
  | k + 1 => by rw [allP_succ, allN_succ, List.length_append, allP_len g G k, prs_len]; omega

/-- the next event's pairs -/
theorem GOk.step {g : Log} {fifo : Bool} {k : Nat} {G : Nat → List Nat} (h : GOk g fifo k G) {l : List Nat} (h1 : g.rv k = true → l.Perm ((List.range g.m).filter (g.ov fifo k))) (h2 : g.rv k = false → l = []) (h3 : KeySorted g l) :
    GOk g fifo (k + 1) (fun i => if i = k then l else G i) := by
  refine ⟨fun i hi hr => ?_, fun i hi hr => ?_, fun i hi => ?_⟩
  · by_cases e : i = k
    · subst e; simp only [if_true]; exact h1 hr
    · simp only [e, if_false]; exact h.perm i (by omega) hr
  · by_cases e : i = k
    · subst e; simp only [if_true]; exact h2 hr
    · simp only [e, if_false]; exact h.none i (by omega) hr
  · by_cases e : i = k
    · subst e; simp only [if_true]; exact h3
    · simp only [e, if_false]; exact h.sorted i (by omega)

theorem all_congr {G G' : Nat → List Nat} {k : Nat} (h : ∀ i, i < k → G i = G' i) (g : Log) : allP g G k = allP g G' k ∧ allN G k = allN G' k := by
  constructor
  · unfold allP
    refine flatMap_same _ fun i hi => ?_
    rw [h i (List.mem_range.1 hi)]
  · unfold allN
    congr 1
    apply List.map_congr_left
    intro i hi
    rw [h i (List.mem_range.1 hi)]

theorem ov_len (g : Log) (fifo : Bool) (k : Nat) : ((List.range g.m).filter (g.ov fifo k)).length ≤ g.m := by
  have := List.length_filter_le (g.ov fifo k) (List.range g.m); simpa using this
theorem allN_le {g : Log} {fifo : Bool} {G : Nat → List Nat} : ∀ {k : Nat}, GOk g fifo k G → allN G k ≤ k * g.m
  | 0, _ => Nat.le_of_eq (by simp [allN])
  | k + 1, h => by
    have ih := allN_le (k := k) ⟨fun i hi => h.perm i (by omega), fun i hi => h.none i (by omega), fun i hi => h.sorted i (by omega)⟩
    rw [allN_succ, Nat.add_mul, Nat.one_mul]
    have : (G k).length ≤ g.m := by
      cases hr : g.rv k with
      | true => rw [(h.perm k (by omega) hr).length_eq]; exact ov_len g fifo k
      | false => rw [h.none k (by omega) hr]; simp
    omega

theorem keySorted_small (g : Log) {l : List Nat} (h : l.length ≤ 1) : KeySorted g l := fun i j hij hj => by omega

end Go.Proofs.Qxb6609005a
