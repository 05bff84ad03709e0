import PyProof.Rows.All
import Wide.All
import OpenK.AllK
import Wide.FinOn
import PySem.Challenge.RW_ke0029_01

section
namespace Mine
section plain
variable {α : Type} [DecidableEq α]

/-- the tasks that may come next behind `o` -/
def nexts (ts : List α) (ps : List (α × α)) (o : List α) : List α :=
  ts.filter fun t => decide (t ∉ o) && ps.all fun p => decide (p.2 = t → p.1 ∈ o)
def firstsOf (pt : List α) (pp : List (α × α)) : List α := pt.filter fun t => pp.all fun p => decide (p.2 ≠ t)
def remOf (ts o : List α) : List α := ts.filter fun t => decide (t ∉ o)
def ppOf (ps : List (α × α)) (o : List α) : List (α × α) := ps.filter fun p => decide (p.1 ∉ o)
/-- one turn of the search by levels -/
def level (ts : List α) (ps : List (α × α)) (os : List (List α)) : List (List α) :=
  os.flatMap fun o => (nexts ts ps o).map fun t => o ++ [t]
def levels (ts : List α) (ps : List (α × α)) : Nat → List (List α)
  | 0 => [[]]
  | n + 1 => level ts ps (levels ts ps n)
/-- all orders behind `o`, `k` more tasks -/
def deep (ts : List α) (ps : List (α × α)) : Nat → List α → List (List α)
  | 0, o => [o]
  | k + 1, o => (nexts ts ps o).flatMap fun t => deep ts ps k (o ++ [t])
/-- the function's own road -/
def bld (ts : List α) (ps : List (α × α)) : Nat → List α → Option (List α)
  | 0, o => some o
  | k + 1, o => match nexts ts ps o with
    | [f] => bld ts ps k (o ++ [f])
    | _ => none
/-- what the law wants to be told -/
def single (os : List (List α)) : Option (List α) := match os with
  | [o] => some o
  | _ => none

theorem firsts_nexts (ts : List α) (ps : List (α × α)) (o : List α) : firstsOf (remOf ts o) (ppOf ps o) = nexts ts ps o := by
  unfold firstsOf remOf ppOf nexts
  rw [List.filter_filter]
  refine List.filter_congr fun t _ => ?_
  rw [Bool.and_comm]
  congr 1
  rw [Bool.eq_iff_iff, List.all_eq_true, List.all_eq_true]
  constructor
  · intro h p hp
    rw [decide_eq_true_eq]
    intro e
    refine Decidable.byContradiction fun hn => ?_
    have := h p (List.mem_filter.mpr ⟨hp, by simpa using hn⟩)
    simp [e] at this
  · intro h p hp
    obtain ⟨hp, hn⟩ := List.mem_filter.mp hp
    have := h p hp
    rw [decide_eq_true_eq] at this hn ⊢
    exact fun e => hn (this e)

theorem mem_nexts {ts : List α} {ps : List (α × α)} {o : List α} {t : α} : t ∈ nexts ts ps o ↔ t ∈ ts ∧ t ∉ o ∧ ∀ p ∈ ps, p.2 = t → p.1 ∈ o := by
  unfold nexts
  simp only [List.mem_filter, Bool.and_eq_true, decide_eq_true_eq, List.all_eq_true]

theorem nexts_nodup {ts : List α} (h : ts.Nodup) (ps : List (α × α)) (o : List α) : (nexts ts ps o).Nodup := List.Pairwise.filter _ h

theorem rem_snoc (ts o : List α) (f : α) (h : ts.Nodup) : (remOf ts o).erase f = remOf ts (o ++ [f]) := by
  have hn : (remOf ts o).Nodup := List.Pairwise.filter _ h
  rw [List.Nodup.erase_eq_filter hn]
  unfold remOf
  rw [List.filter_filter]
  refine List.filter_congr fun t _ => ?_
  by_cases h1 : t = f <;> by_cases h2 : t ∈ o <;> simp [h1, h2]
theorem pp_snoc (ps : List (α × α)) (o : List α) (f : α) : (ppOf ps o).filter (fun p => decide (p.1 ≠ f)) = ppOf ps (o ++ [f]) := by
  unfold ppOf
  rw [List.filter_filter]
  refine List.filter_congr fun p _ => ?_
  by_cases h1 : p.1 = f <;> by_cases h2 : p.1 ∈ o <;> simp [h1, h2]

theorem rem_length_snoc {ts o : List α} {f : α} (h : ts.Nodup) (hf : f ∈ ts) (ho : f ∉ o) : (remOf ts (o ++ [f])).length + 1 = (remOf ts o).length := by
  have hm : f ∈ remOf ts o := List.mem_filter.mpr ⟨hf, by simpa using ho⟩
  rw [← rem_snoc ts o f h, List.length_erase_of_mem hm]
  have := List.length_pos_of_mem hm
  omega

theorem level_flat (ts : List α) (ps : List (α × α)) : ∀ (k : Nat) (os : List (List α)),
    Nat.repeat (level ts ps) k os = os.flatMap (deep ts ps k)
  | 0, os => by
    show os = os.flatMap fun o => [o]
    exact (List.flatMap_singleton' os).symm
  | k + 1, os => by
    have comm : ∀ (n : Nat) (x : List (List α)), Nat.repeat (level ts ps) n (level ts ps x) = level ts ps (Nat.repeat (level ts ps) n x) := by
      intro n
      induction n with
      | zero => intro x; rfl
      | succ n ih => intro x; show level ts ps (Nat.repeat _ n _) = _; rw [ih]; rfl
    show level ts ps (Nat.repeat (level ts ps) k os) = _
    rw [← comm, level_flat ts ps k]
    unfold level
    rw [List.flatMap_assoc]
    congr 1
    funext o
    show _ = (nexts ts ps o).flatMap fun t => deep ts ps k (o ++ [t])
    rw [List.flatMap_map]
theorem levels_deep (ts : List α) (ps : List (α × α)) (k : Nat) : levels ts ps k = deep ts ps k [] := by
  have h : ∀ k, levels ts ps k = Nat.repeat (level ts ps) k [[]] := by
    intro k
    induction k with
    | zero => rfl
    | succ k ih => show level ts ps (levels ts ps k) = _; rw [ih]; rfl
  rw [h, level_flat]
  simp

/-- a road of tasks behind `o` -/
def Chain (ts : List α) (ps : List (α × α)) : List α → List α → Prop
  | _, [] => True
  | o, t :: r => t ∈ nexts ts ps o ∧ Chain ts ps (o ++ [t]) r

theorem chain_congr {ts : List α} {ps : List (α × α)} : ∀ {r o o' : List α}, (∀ x, x ∈ o ↔ x ∈ o') → Chain ts ps o r → Chain ts ps o' r
  | [], _, _, _, _ => trivial
  | t :: r, o, o', h, ⟨h1, h2⟩ => by
    refine ⟨?_, chain_congr (fun x => ?_) h2⟩
    · rw [mem_nexts] at h1 ⊢
      exact ⟨h1.1, fun q => h1.2.1 ((h _).mpr q), fun p hp e => (h _).mp (h1.2.2 p hp e)⟩
    · rw [List.mem_append, List.mem_append, h]

theorem next_more {ts : List α} {ps : List (α × α)} {o : List α} {y a : α} (hy : y ∈ nexts ts ps o) (hne : y ≠ a) : y ∈ nexts ts ps (o ++ [a]) := by
  rw [mem_nexts] at hy ⊢
  refine ⟨hy.1, ?_, fun p hp e => List.mem_append_left _ (hy.2.2 p hp e)⟩
  intro h
  rcases List.mem_append.mp h with h | h
  · exact hy.2.1 h
  · exact hne (List.mem_singleton.mp h)

theorem chain_front {ts : List α} {ps : List (α × α)} {y : α} : ∀ {r o : List α}, y ∈ nexts ts ps o → y ∈ r → Chain ts ps o r → ∃ r', r'.length + 1 = r.length ∧ Chain ts ps o (y :: r')
  | a :: r, o, hy, hm, ⟨h1, h2⟩ => by
    by_cases e : y = a
    · subst e
      exact ⟨r, rfl, h1, h2⟩
    · have hm' : y ∈ r := (List.mem_cons.mp hm).resolve_left e
      obtain ⟨r', hl, _, hc⟩ := chain_front (next_more hy e) hm' h2
      refine ⟨a :: r', by simp [← hl], hy, next_more h1 (fun q => e q.symm), chain_congr (fun x => ?_) hc⟩
      simp only [List.mem_append, List.mem_singleton, or_assoc, or_comm (a := x = a)]

theorem chain_all {ts : List α} {ps : List (α × α)} (hn : ts.Nodup) : ∀ {r o : List α}, Chain ts ps o r → r.length = (remOf ts o).length → ∀ y ∈ remOf ts o, y ∈ r
  | [], o, _, hl, y, hy => by
    have : remOf ts o = [] := List.length_eq_zero_iff.mp hl.symm
    rw [this] at hy; cases hy
  | a :: r, o, ⟨h1, h2⟩, hl, y, hy => by
    by_cases e : y = a
    · subst e; exact List.mem_cons_self
    · refine List.mem_cons_of_mem _ (chain_all hn h2 ?_ y ?_)
      · have h1' := mem_nexts.mp h1
        have := rem_length_snoc hn h1'.1 h1'.2.1
        simp only [List.length_cons] at hl
        omega
      · rw [← rem_snoc ts o a hn]
        exact (List.mem_erase_of_ne e).mpr hy

theorem deep_chain {ts : List α} {ps : List (α × α)} : ∀ {k : Nat} {o : List α}, deep ts ps k o ≠ [] ↔ ∃ r, r.length = k ∧ Chain ts ps o r
  | 0, o => by
    constructor
    · exact fun _ => ⟨[], rfl, trivial⟩
    · intro _ h; cases h
  | k + 1, o => by
    constructor
    · intro h
      obtain ⟨x, hx⟩ := List.exists_mem_of_ne_nil _ h
      obtain ⟨t, ht, hx⟩ := List.mem_flatMap.mp hx
      obtain ⟨r, hl, hc⟩ := deep_chain.mp (List.ne_nil_of_mem hx)
      exact ⟨t :: r, by simp [hl], ht, hc⟩
    · rintro ⟨r, hl, hc⟩
      cases r with
      | nil => cases hl
      | cons t r =>
        obtain ⟨ht, hc⟩ := hc
        obtain ⟨x, hx⟩ := List.exists_mem_of_ne_nil _ (deep_chain.mpr ⟨r, by simpa using hl, hc⟩)
        exact List.ne_nil_of_mem (List.mem_flatMap.mpr ⟨t, ht, hx⟩)

theorem deep_both {ts : List α} {ps : List (α × α)} (hn : ts.Nodup) {k : Nat} {o : List α} {x y : α} (hk : (remOf ts o).length = k + 1) (hx : x ∈ nexts ts ps o) (hy : y ∈ nexts ts ps o)
    (h : deep ts ps k (o ++ [x]) ≠ []) : deep ts ps k (o ++ [y]) ≠ [] := by
  obtain ⟨r, hl, hc⟩ := deep_chain.mp h
  have hc' : Chain ts ps o (x :: r) := ⟨hx, hc⟩
  have hy' := mem_nexts.mp hy
  have hm : y ∈ x :: r := chain_all hn hc' (by simp [hl, hk]) y (List.mem_filter.mpr ⟨hy'.1, by simpa using hy'.2.1⟩)
  obtain ⟨r', hl', _, hc''⟩ := chain_front hy hm hc'
  exact deep_chain.mpr ⟨r', by simp [hl] at hl'; exact hl', hc''⟩

theorem bld_deep {ts : List α} {ps : List (α × α)} (hn : ts.Nodup) : ∀ (k : Nat) (o : List α), (remOf ts o).length = k → bld ts ps k o = single (deep ts ps k o)
  | 0, o, _ => rfl
  | k + 1, o, hk => by
    show (match nexts ts ps o with | [f] => bld ts ps k (o ++ [f]) | _ => none) = single ((nexts ts ps o).flatMap fun t => deep ts ps k (o ++ [t]))
    match hN : nexts ts ps o with
    | [] => rfl
    | [f] =>
      simp only [List.flatMap_cons, List.flatMap_nil, List.append_nil]
      have hf : f ∈ nexts ts ps o := by rw [hN]; exact List.mem_cons_self
      have hf' := mem_nexts.mp hf
      have := rem_length_snoc hn hf'.1 hf'.2.1
      exact bld_deep hn k (o ++ [f]) (by omega)
    | x :: y :: r =>
      have hx : x ∈ nexts ts ps o := by rw [hN]; exact List.mem_cons_self
      have hy : y ∈ nexts ts ps o := by rw [hN]; exact List.mem_cons_of_mem _ List.mem_cons_self
      show none = single _
      by_cases h : deep ts ps k (o ++ [x]) = []
      · have hall : ((x :: y :: r).flatMap fun t => deep ts ps k (o ++ [t])) = [] := by
          rw [List.flatMap_eq_nil_iff]
          intro z hz
          refine Decidable.byContradiction fun hne => ?_
          exact deep_both hn hk (hN ▸ hz) hx hne h
        rw [hall]; rfl
      · have h2 := deep_both hn hk hx hy h
        simp only [List.flatMap_cons]
        obtain ⟨a, as, ha⟩ := List.exists_cons_of_ne_nil h
        obtain ⟨b, bs, hb⟩ := List.exists_cons_of_ne_nil h2
        rw [ha, hb]
        cases as <;> rfl

theorem rem_nil (ts : List α) : remOf ts [] = ts := by
  unfold remOf
  exact List.filter_eq_self.mpr (by simp)
theorem pp_nil (ps : List (α × α)) : ppOf ps [] = ps := by
  unfold ppOf
  exact List.filter_eq_self.mpr (by simp)
/-- the plain law -/
theorem plain_law {ts : List α} (hn : ts.Nodup) (ps : List (α × α)) : bld ts ps ts.length [] = single (levels ts ps ts.length) := by
  rw [levels_deep]
  exact bld_deep hn _ _ (by rw [rem_nil])
end plain
end Mine
end

section
open PySem PyProof.Rows
set_option Elab.async false
set_option maxRecDepth 100000
namespace Mine
/-- a small table (mask 7) that is not full has room for every hash -/
theorem go_stop (t : SetTable) (hashAt : Nat → Int) (h : Int) (f : Nat) (p : SetTable.Probe) (hs : t.slot p.j = .empty) : SetTable.probe.go t hashAt h (f + 1) p = some (.empty p.j p.dummy) := by
  rw [SetTable.probe.go, hs]
structure Lone (p : SetTable.Probe) : Prop where
  more : p.more = 0
  same : p.j = p.i
theorem run_end7 (i : Nat) : SetTable.runEnd 7 i = i := by
  unfold SetTable.runEnd
  rw [if_neg (by omega)]
theorem adv_lone (t : SetTable) (hm : t.mask = 7) (p : SetTable.Probe) (L : Lone p) :
    Lone (t.advance p) ∧ (t.advance p).i = (p.i * 5 + 1 + p.perturb / 32) % 8 ∧ (t.advance p).perturb = p.perturb / 32 := by
  unfold SetTable.advance
  rw [if_neg (by rw [L.more]; omega)]
  rw [hm]
  simp only [SetTable.leap]
  refine ⟨⟨?_, rfl⟩, by trivial, by trivial⟩
  show SetTable.runEnd 7 _ - _ = 0
  rw [run_end7]; omega
theorem go_on (t : SetTable) (hm : t.mask = 7) (h : Int) (f : Nat) (p : SetTable.Probe) (L : Lone p) (hs : t.slot p.j ≠ .empty) :
    ∃ p', SetTable.probe.go t (fun _ => h + 1) h (f + 1) p = SetTable.probe.go t (fun _ => h + 1) h f p' ∧ Lone p' ∧ p'.i = (p.i * 5 + 1 + p.perturb / 32) % 8 ∧ p'.perturb = p.perturb / 32 := by
  rw [SetTable.probe.go]
  cases hq : t.slot p.j with
  | empty => exact absurd hq hs
  | dummy =>
    refine ⟨_, rfl, ?_⟩
    exact adv_lone t hm { p with dummy := some p.j } ⟨L.more, L.same⟩
  | live i =>
    dsimp only
    have hne : (h + 1 == h) = false := by
      rw [beq_eq_false_iff_ne]; omega
    rw [hne]
    exact ⟨_, rfl, adv_lone t hm p L⟩
def stp (i : Nat) : Nat := (i * 5 + 1) % 8
theorem reach8 : ∀ i < 8, ∀ e < 8, ∃ k < 8, Nat.repeat stp k i = e := by decide
theorem rep_stp (k i : Nat) : Nat.repeat stp (k + 1) i = Nat.repeat stp k (stp i) := by
  induction k with
  | zero => rfl
  | succ k ih => show stp (Nat.repeat stp (k + 1) i) = stp (Nat.repeat stp k (stp i)); rw [ih]
theorem slow_find (t : SetTable) (hm : t.mask = 7) (h : Int) : ∀ (k f : Nat) (p : SetTable.Probe), k < f → Lone p → p.perturb = 0 → t.slot (Nat.repeat stp k p.i) = .empty →
    ∃ j d, SetTable.probe.go t (fun _ => h + 1) h f p = some (.empty j d)
  | 0, f + 1, p, _, L, _, hs => ⟨_, _, go_stop t _ h f p (by rw [L.same]; exact hs)⟩
  | k + 1, f + 1, p, hk, L, hp, hs => by
    by_cases he : t.slot p.j = .empty
    · exact ⟨_, _, go_stop t _ h f p he⟩
    · obtain ⟨p', hg, L', hi, hq⟩ := go_on t hm h f p L he
      rw [hg]
      refine slow_find t hm h k f p' (by omega) L' (by rw [hq, hp]) ?_
      rw [rep_stp] at hs
      have : p'.i = stp p.i := by rw [hi, hp]; rfl
      rw [this]; exact hs
theorem fast_find (t : SetTable) (hm : t.mask = 7) (h : Int) {e : Nat} (he8 : e < 8) (he : t.slot e = .empty) : ∀ (m f : Nat) (p : SetTable.Probe), m + 8 ≤ f → Lone p → p.i < 8 → p.perturb < 32 ^ m →
    ∃ j d, SetTable.probe.go t (fun _ => h + 1) h f p = some (.empty j d)
  | 0, f, p, hf, L, hi, hp => by
    obtain ⟨k, hk, hr⟩ := reach8 p.i hi e he8
    exact slow_find t hm h k f p (by omega) L (by simpa using hp) (by rw [hr]; exact he)
  | m + 1, f + 1, p, hf, L, hi, hp => by
    by_cases hq : t.slot p.j = .empty
    · exact ⟨_, _, go_stop t _ h f p hq⟩
    · obtain ⟨p', hg, L', hi', hq'⟩ := go_on t hm h f p L hq
      rw [hg]
      refine fast_find t hm h he8 he m f p' (by omega) L' (by rw [hi']; exact Nat.mod_lt _ (by decide)) ?_
      rw [hq']
      rw [Nat.pow_succ] at hp
      exact Nat.div_lt_of_lt_mul (by rw [Nat.mul_comm]; exact hp)

theorem has_mem {xs : Array Nat} {j : Nat} (h : SetTable.has xs j = true) : j ∈ xs.toList := by
  unfold SetTable.has at h
  exact List.mem_of_getElem? (by rw [Array.getElem?_toList]; exact eq_of_beq h)
theorem slot_mem {t : SetTable} {j : Nat} (h : t.slot j ≠ .empty) : j ∈ t.place.toList ++ t.dummies.toList := by
  unfold SetTable.slot at h
  dsimp only at h
  split at h
  · rename_i h1
    exact List.mem_append_left _ (List.mem_of_getElem? (by rw [Array.getElem?_toList]; exact eq_of_beq h1))
  · split at h
    · rename_i h1
      exact List.mem_append_right _ (has_mem h1)
    · exact absurd rfl h
theorem some_empty (t : SetTable) (hf : t.fill < 8) : ∃ e < 8, t.slot e = .empty := by
  refine Decidable.byContradiction fun hn => ?_
  have hsub : List.range 8 ⊆ t.place.toList ++ t.dummies.toList := fun j hj => by
    refine slot_mem fun he => hn ⟨j, List.mem_range.mp hj, he⟩
  have := List.Nodup.length_le_of_subset (List.nodup_range (n := 8)) hsub
  rw [List.length_range, List.length_append, Array.length_toList, Array.length_toList] at this
  unfold SetTable.fill at hf
  omega
theorem free_slot (t : SetTable) (hm : t.mask = 7) (hf : t.fill < 8) (h : Int) : ∃ r, t.freeSlot h = some r := by
  obtain ⟨e, he8, he⟩ := some_empty t hf
  have hb : SetTable.bits h < 32 ^ 13 := by
    unfold SetTable.bits
    have h1 : h % (2 ^ 64 : Int) < 2 ^ 64 := Int.emod_lt_of_pos _ (by decide)
    have h2 : 0 ≤ h % (2 ^ 64 : Int) := Int.emod_nonneg _ (by decide)
    have h3 : (2 : Int) ^ 64 = 18446744073709551616 := by decide
    have h4 : (32 : Nat) ^ 13 = 36893488147419103232 := by decide
    rw [h3] at h1 h2 ⊢
    rw [h4]
    omega
  have L : Lone (t.probeStart h) := by
    unfold SetTable.probeStart
    refine ⟨?_, rfl⟩
    show SetTable.runEnd t.mask _ - _ = 0
    rw [hm, run_end7]; omega
  have hi : (t.probeStart h).i < 8 := by
    show SetTable.bits h % (t.mask + 1) < 8
    rw [hm]; exact Nat.mod_lt _ (by decide)
  obtain ⟨j, d, hg⟩ := fast_find t hm h he8 he 13 (10 * SetTable.turns t.mask) (t.probeStart h) (by rw [hm]; decide) L hi hb
  unfold SetTable.freeSlot SetTable.probe
  rw [hg]
  exact ⟨_, rfl⟩

theorem layNew_clean (t : SetTable) (es : Array (Int × Value)) (h : Int) (x : Value) (hm : t.mask = 7) (hd : t.dummies = #[]) (hp : t.place.size = es.size) (hs : es.size ≤ 5) :
    (layNew t es h x).2.1.mask = 7 ∧ (layNew t es h x).2.1.dummies = #[] := by
  have hfill : t.fill < 8 := by unfold SetTable.fill; rw [hd, hp]; simp; omega
  obtain ⟨⟨slot, wd⟩, hr⟩ := free_slot t hm hfill h
  unfold layNew
  rw [hr]
  dsimp only
  have hh : SetTable.has t.dummies slot = false := by rw [hd]; simp [SetTable.has]
  have hput : (t.put slot).1 = { t with place := SetTable.insertAt t.place (SetTable.below t.place slot) slot } := by
    unfold SetTable.put
    simp only [hh]
    rfl
  have hpsz : (SetTable.insertAt t.place (SetTable.below t.place slot) slot).size = t.place.size + 1 := by
    rw [← Array.length_toList, (SetTable.insertAt_perm _ _ _).length_eq]; simp
  have hesz : (SetTable.insertAt es (t.put slot).2 (h, x)).size = es.size + 1 := by
    rw [← Array.length_toList, (SetTable.insertAt_perm _ _ _).length_eq]; simp
  have hfit : (t.put slot).1.fits (SetTable.insertAt es (t.put slot).2 (h, x)).size = true := by
    rw [hput, hesz]
    simp only [SetTable.fits, SetTable.fill, hpsz, hp, hd, hm, Bool.and_eq_true, beq_iff_eq, decide_eq_true_eq]
    exact ⟨trivial, by simp; omega⟩
  unfold SetTable.orStandIn
  rw [if_pos hfit, hput]
  exact ⟨hm, hd⟩
end Mine
end

section
open PySem PyProof.Rows
set_option Elab.async false
set_option maxRecDepth 100000
namespace Mine

/-- does the world lay the sets' order by the text -/
def byTx (w : World) : Bool := w.params.followText "set-order"
abbrev skey (w : World) (e : Int × Value) : Prop := ∃ k tk, e = (hashStr w k, Value.str k tk)
def keyAt (e : Int × Value) : Str := match e.2 with | .str k _ => k | _ => Str.empty
structure SetD (w : World) (es : Array (Int × Value)) (t : SetTable) (ks : List Str) : Prop where
  keys : ∀ e ∈ es.toList, skey w e
  perm : (es.toList.map keyAt).Perm ks
  fits : t.fits es.size = true
  led : t.led = !byTx w
  plain : es.size ≠ 0 → t.plain = false
/-- a set of the texts ks -/
def SetS (w : World) (o : Obj) (ks : List Str) : Prop := o.ExactSet ∧ ∃ es ep t, o.data = .set es ep t ∧ SetD w es t ks

/-- a small table with no gap left by a removal -/
def Cl (o : Obj) : Prop := ∀ es ep t, o.data = .set es ep t → t.mask = 7 ∧ t.dummies = #[]
section
variable {w : World} {es : Array (Int × Value)} {t : SetTable} {ks : List Str}
theorem SetD.size (d : SetD w es t ks) : es.size = ks.length := by
  rw [← d.perm.length_eq, List.length_map, Array.length_toList]
theorem SetD.elems (d : SetD w es t ks) (prog : Program) : ElemsOf (strKind prog w) es.toList := by
  intro e he
  obtain ⟨k, tk, rfl⟩ := d.keys e he
  exact ⟨⟨k, strKind_is _ _ _ _, rfl⟩, rfl⟩
theorem SetD.mem (d : SetD w es t ks) (prog : Program) (k : Str) : k ∈ ks ↔ ∃ e ∈ es.toList, (strKind prog w).is k e.2 = true := by
  rw [← d.perm.mem_iff, List.mem_map]
  constructor
  · rintro ⟨e, he, rfl⟩
    obtain ⟨k, tk, rfl⟩ := d.keys e he
    exact ⟨_, he, strKind_is _ _ _ _⟩
  · rintro ⟨e, he, hk⟩
    obtain ⟨k', tk, rfl⟩ := d.keys e he
    refine ⟨_, he, ?_⟩
    exact (strKind prog w).inj _ k' k (strKind_is _ _ _ _) hk
theorem SetD.find_none (d : SetD w es t ks) (prog : Program) {k : Str} (h : k ∉ ks) : es.toList.findIdx? (fun e => (strKind prog w).is k e.2) = none := by
  rw [List.findIdx?_eq_none_iff]
  intro e he
  cases hk : (strKind prog w).is k e.2 with
  | false => rfl
  | true => exact absurd ((d.mem prog k).mpr ⟨e, he, hk⟩) h
theorem SetD.setOf (d : SetD w es t ks) (prog : Program) {h : Heap} {a : Addr} {o : Obj} {ep : Nat} (ho : h.get? a = some o) (hx : o.ExactSet) (hd : o.data = .set es ep t) (hb : ks.length < scanBound) :
    h.SetOf (strKind prog w) a (fun k => decide (k ∈ ks)) ks.length :=
  ⟨o, es, ep, t, ho, hx, hd, d.elems prog, fun k => by rw [decide_eq_true_eq]; exact d.mem prog k, by rw [d.size]; exact hb, d.fits, d.size⟩
end

/-- what keeps the two marks of a table -/
theorem or_led (t : SetTable) (n : Nat) : (t.orStandIn n).led = t.led := by
  unfold SetTable.orStandIn
  split <;> rfl
theorem or_plain (t : SetTable) (n : Nat) (h : t.plain = false) : (t.orStandIn n).plain = false := by
  unfold SetTable.orStandIn
  split
  · exact h
  · rfl
theorem layNew_led (t : SetTable) (es : Array (Int × Value)) (h : Int) (x : Value) : (layNew t es h x).2.1.led = t.led := by
  unfold layNew
  split
  · exact or_led (t.put _).1 _
  · rfl
theorem layNew_plain (t : SetTable) (es : Array (Int × Value)) (h : Int) (x : Value) (hp : t.plain = false) : (layNew t es h x).2.1.plain = false := by
  unfold layNew
  split
  · exact or_plain (t.put _).1 _ hp
  · rfl
theorem relayAll_marks (t : SetTable) (es : Array (Int × Value)) (n : Nat) (hp : t.plain = false) : (relayAll t es n).2.1.led = t.led ∧ (relayAll t es n).2.1.plain = false := by
  unfold relayAll
  split
  · rename_i t' order hr
    have hm : t'.led = t.led ∧ t'.plain = t.plain := by
      unfold SetTable.relaid SetTable.laid at hr
      simp only [Option.bind_eq_bind, Option.bind_eq_some_iff, Option.pure_def, Option.some.injEq, Prod.mk.injEq] at hr
      obtain ⟨_, _, rfl, _⟩ := hr
      exact ⟨rfl, rfl⟩
    dsimp only
    split
    · exact ⟨hm.1, hm.2.trans hp⟩
    · exact ⟨rfl, rfl⟩
  · exact ⟨rfl, rfl⟩

section
variable {prog : Program} {w : World} {A : Around} {E : Value → Shared → Prop} {s : Shared} {a : Addr}

theorem SetD.more {es es' : Array (Int × Value)} {t t' : SetTable} {ks : List Str} {k : Str} {tk : Tok} (d : SetD w es t ks) (hp : es'.toList.Perm (es.toList ++ [(hashStr w k, .str k tk)]))
    (hf : t'.fits es'.size = true) (hl : t'.led = t.led) (hq : t'.plain = false) : SetD w es' t' (ks ++ [k]) where
  keys := fun e he => by
    rcases List.mem_append.mp (hp.mem_iff.mp he) with h | h
    · exact d.keys e h
    · exact ⟨k, tk, List.mem_singleton.mp h⟩
  perm := by
    refine (hp.map keyAt).trans ?_
    rw [List.map_append]
    exact d.perm.append_right _
  fits := hf
  led := hl.trans d.led
  plain := fun _ => hq
theorem SetD.same {es es' : Array (Int × Value)} {t t' : SetTable} {ks : List Str} (d : SetD w es t ks) (hp : es'.toList.Perm es.toList)
    (hf : t'.fits es'.size = true) (hl : t'.led = t.led) (hq : t'.plain = false) : SetD w es' t' ks where
  keys := fun e he => d.keys e (hp.mem_iff.mp he)
  perm := (hp.map keyAt).trans d.perm
  fits := hf
  led := hl.trans d.led
  plain := fun _ => hq

theorem store_get {h : Heap} {o : Obj} {es es' : Array (Int × Value)} {ep : Nat} {t t' : SetTable} (ho : h.get? a = some o) (hd : o.data = .set es ep t) :
    (h.update a (Obj.putSet es' t')).get? a = some { o with data := .set es' (ep + 1) t' } := by
  have := Heap.get?_update_self (Obj.putSet es' t') ho (by rw [putSet_of es' t' hd]; rfl)
  rw [putSet_of es' t' hd] at this
  exact this

theorem gave_any {b : Bool} {Q : Unit → Shared → Prop} (h : Q () s) : wpAny (model prog w) A (match b with | true => rule "set.scan.the-table-gave-way" | false => pure ()) Q E s := by
  cases b
  · exact wpAny_pure h
  · exact wpAny_rule h

/-- a text that is not within is put into a set of texts -/
theorem set_put {o : Obj} {ks : List Str} {k : Str} {tk : Tok} {Q : Bool → Shared → Prop} (ho : s.heap.get? a = some o) (hS : SetS w o ks) (hk : k ∉ ks) (hb : ks.length + 1 < scanBound)
    (h : ∀ h' o', Heap.SameBut a s.heap h' → h'.get? a = some o' → SetS w o' (ks ++ [k]) → (ks.length + 1 ≤ 4 → Cl o → Cl o') → Q true { s with heap := h' }) :
    wpAny (model prog w) A (setAddHashed a (.str k tk) (hashStr w k)) Q E s := by
  obtain ⟨hx, es, ep, t, hd, d⟩ := hS
  have hsz := d.size
  have hel := d.elems prog
  have hsc : (Value.str k tk).scannable = true := rfl
  unfold setAddHashed setAddHashedIn
  refine wpAny_holding (wpAny_bind (wpAny_setState_of ho hd d.fits ?_))
  dsimp only
  rw [byScan_of (knd := strKind prog w) hsc (by omega) hel]
  simp only [↓reduceIte]
  unfold setAddByScan
  refine wpAny_bind (wpAny_bind (wpAny_rule (wpAny_bind (wpAny_setScan_of (knd := strKind prog w) (strKind_is _ _ _ _) ho hd d.fits hel ?_))))
  rw [d.find_none prog hk]
  dsimp only
  have hp := layNew_perm t es (hashStr w k) (.str k tk)
  have hf := layNew_fits t es (hashStr w k) (.str k tk)
  have hl := layNew_led t es (hashStr w k) (.str k tk)
  have hq := layNew_plain t es (hashStr w k) (.str k tk)
  have hpl : t.place.size = es.size := by
    have := d.fits
    simp only [SetTable.fits, Bool.and_eq_true, beq_iff_eq, decide_eq_true_eq] at this
    exact this.1
  have hc := fun h1 h2 => layNew_clean t es (hashStr w k) (.str k tk) h1 h2 hpl
  generalize layNew t es (hashStr w k) (.str k tk) = T at hp hf hl hq hc ⊢
  obtain ⟨es1, t1, wd, gv⟩ := T
  dsimp only at hp hf hl hq hc ⊢
  rw [Array.toList_push] at hp
  refine wpAny_bind (gave_any ?_)
  have hsz1 : es1.size = ks.length + 1 := by rw [← Array.length_toList, hp.length_eq, List.length_append, Array.length_toList, hsz]; rfl
  -- the tail, whatever table with its plain mark taken off stands there
  have tail : ∀ t2 : SetTable, t2.fits es1.size = true → t2.led = t.led → t2.plain = false → t2.mask = t1.mask → t2.dummies = t1.dummies →
      wpAny (model prog w) A (do
        storeSet a es1 t2
        if (!wd && t2.tooFull) = true then do
            (match (relayAll t2 es1 (SetTable.grown es1.size)).2.2 with | true => rule "set.scan.the-table-gave-way" | false => pure ())
            storeSet a (relayAll t2 es1 (SetTable.grown es1.size)).1 (relayAll t2 es1 (SetTable.grown es1.size)).2.1
            pure (some true)
          else pure (some true)) (fun r s' => wpAny (model prog w) A (match r with | some added => pure added | none => setAddHashedIn a (.str k tk) (hashStr w k) 99999) Q E s') E s := by
    intro t2 hf2 hl2 hq2 hm2 hd2
    have hcl : ks.length + 1 ≤ 4 → Cl o → t2.mask = 7 ∧ t2.dummies = #[] := fun h4 hC => by
      obtain ⟨c1, c2⟩ := hC _ _ _ hd
      obtain ⟨c3, c4⟩ := hc c1 c2 (by omega)
      exact ⟨hm2.trans c3, hd2.trans c4⟩
    have d1 : SetD w es1 t2 (ks ++ [k]) := d.more hp hf2 hl2 hq2
    refine wpAny_bind (wpAny_storeSet_of ho hd ?_ (fits_of_scanBound (by omega)))
    have ho1 := store_get (es' := es1) (t' := t2) ho hd
    have sb1 := Heap.SameBut.update s.heap a (Obj.putSet es1 t2)
    split
    · rename_i hfull
      have hpr := relayAll_perm t2 es1 (SetTable.grown es1.size)
      have hfr := relayAll_fits t2 es1 (SetTable.grown es1.size)
      have hmr := relayAll_marks t2 es1 (SetTable.grown es1.size) hq2
      generalize relayAll t2 es1 (SetTable.grown es1.size) = R at hpr hfr hmr ⊢
      obtain ⟨es2, t3, gv2⟩ := R
      dsimp only at hpr hfr hmr ⊢
      refine wpAny_bind (gave_any ?_)
      have hsz2 : es2.size = es1.size := by rw [← Array.length_toList, hpr.length_eq, Array.length_toList]
      refine wpAny_bind (wpAny_storeSet_of ho1 rfl ?_ (fits_of_scanBound (by omega)))
      refine wpAny_pure (wpAny_pure (h _ _ (sb1.trans (Heap.SameBut.update _ a _)) (store_get ho1 rfl) ⟨hx, es2, _, t3, rfl, d1.same hpr hfr hmr.1 hmr.2⟩ fun h4 hC => ?_))
      exfalso
      obtain ⟨c1, c2⟩ := hcl h4 hC
      have hps : t2.place.size = es1.size := by
        have := hf2
        simp only [SetTable.fits, Bool.and_eq_true, beq_iff_eq, decide_eq_true_eq] at this
        exact this.1
      simp only [SetTable.tooFull, SetTable.fill, c1, c2, hps, Bool.and_eq_true, decide_eq_true_eq] at hfull
      have := hfull.2
      simp at this
      omega
    · refine wpAny_pure (wpAny_pure (h _ _ sb1 ho1 ⟨hx, es1, _, t2, rfl, d1⟩ fun h4 hC es ep t e => ?_))
      injection e with e1 e2 e3
      subst e3
      exact hcl h4 hC
  cases hpl1 : t1.plain with
  | true =>
    simp only [if_true]
    refine wpAny_bind ?_
    rw [hashByValue_scannable 8 hsc]
    refine wpAny_pure ?_
    simp only [plainKind, Bool.false_eq_true, if_false]
    exact tail _ (SetTable.fits_plain_off hf) hl rfl rfl rfl
  | false =>
    simp only [Bool.false_eq_true, if_false]
    refine wpAny_bind (wpAny_pure ?_)
    simp only [if_true]
    exact tail _ hf hl hpl1 rfl rfl
end
end Mine
end

section
open PySem PyProof.Rows
set_option Elab.async false
set_option maxRecDepth 100000
namespace Mine
section
variable {prog : Program} {w : World} {A : Around} {E : Value → Shared → Prop} {s : Shared}

def freshSet (w : World) : Obj := { cls := .type "set", dict := none, data := .set #[] 0 (.fresh 0 0 (!byTx w)) }
theorem freshSet_is (w : World) : SetS w (freshSet w) [] :=
  ⟨⟨rfl, rfl, rfl⟩, #[], 0, _, rfl, ⟨fun e he => by simp at he, .nil, rfl, rfl, fun h => absurd rfl h⟩⟩

theorem freshSet_cl (w : World) : Cl (freshSet w) := fun es ep t e => by
  injection e with e1 e2 e3
  subst e3
  exact ⟨rfl, rfl⟩
theorem new_set {Q : Value → Shared → Prop} (h : Q (.ref s.heap.objs.size) { s with heap := s.heap.push (freshSet w) }) : wpAny (model prog w) A (newSet (.type "set")) Q E s := by
  unfold newSet setsByText
  refine wpAny_bind (wpAny_bind (wpAny_askSetting (wpAny_pure ?_)))
  dsimp only
  simp only [newObj]
  exact wpAny_bind (wpAny_alloc (wpAny_pure h))

theorem set_loop {R : Result → Shared → Prop} {I S : Addr} {fp wr : List Addr} {ks : List Str} {P : Nat → Value → Prop} {St : Nat → Heap → Prop} (W : Walks prog w A.in1 I fp wr ks.length P St)
    (hS : S ∉ fp) (hv : ∀ i v, P i v → ∃ tk, v = .str (ks.getD i Str.empty) tk) (hn : ks.Nodup) (hb : ks.length + 1 < scanBound) : ∀ (k i : Nat) (s : Shared) (o : Obj), k + i = ks.length → St i s.heap → s.heap.get? S = some o → SetS w o (ks.take i) → (ks.length ≤ 4 → Cl o) →
    (∀ h' tk o', (∀ b x, b ≠ S → b ∉ wr → s.heap.get? b = some x → h'.get? b = some x) → h'.get? S = some o' → SetS w o' ks → (ks.length ≤ 4 → Cl o') → R (.ok (.ret .none)) { s with heap := h', toks := tk }) →
    codeAny (model prog w) A (.builtin "set.update.loop" ⟨[.ref S, .ref I], []⟩) R s := by
  have hSw : S ∉ wr := fun q => hS (W.sub _ q)
  intro k
  induction k with
  | zero =>
    intro i s o hk hst ho hset hcl hR
    have hi : i = ks.length := by omega
    subst hi
    rw [List.take_length] at hset
    refine codeAny_builtin F.entry_set_update_loop ?_
    rw [Around.under_plainId F.plain_set_update_loop _]
    show wpAny _ A.in1 (pyNext (.ref I) >>= _) _ _ s
    refine wpAny_bind (W.done s _ _ hst fun h' tk hk' => ?_)
    show wpAny _ A.in1 (ret Value.none) _ _ _
    exact wpAny_pure (hR h' tk o (fun b x _ hb' e => hk' b x hb' e) (hk' S o hSw ho) hset hcl)
  | succ k ih =>
    intro i s o hk hst ho hset hcl hR
    have hlt : i < ks.length := by omega
    refine codeAny_builtin F.entry_set_update_loop ?_
    rw [Around.under_plainId F.plain_set_update_loop _]
    show wpAny _ A.in1 (pyNext (.ref I) >>= _) _ _ s
    refine wpAny_bind (W.item i s _ _ hlt hst fun v h₁ tk₁ hP hst₁ hk₁ => ?_)
    obtain ⟨tk, rfl⟩ := hv i v hP
    have hg : ks.getD i Str.empty = ks[i] := by simp [List.getD, hlt]
    rw [hg]
    have hnew : ks[i] ∉ ks.take i := fun hm => by
      obtain ⟨j, hj, e⟩ := List.mem_take_iff_getElem.mp hm
      have : j < i := by omega
      exact absurd ((List.getElem_inj hn).mp e) (by omega)
    show wpAny _ A.in1 (holding [Value.str ks[i] tk] (setAdd S (.str ks[i] tk)) >>= _) _ _ _
    refine wpAny_bind (wpAny_holding ?_)
    unfold setAdd
    refine wpAny_holding (wpAny_bind ((strKind prog w).pyHash (k := ks[i]) (strKind_is _ _ _ _) ?_))
    refine set_put (s := { s with heap := h₁, toks := tk₁ + 1 }) (hk₁ S o hSw ho) hset hnew (by rw [List.length_take]; omega) fun h₂ o₂ sb₂ ho₂ hset₂ hcl₂ => ?_
    have e : ks.take i ++ [ks[i]] = ks.take (i + 1) := by rw [List.take_add_one]; simp [hlt]
    rw [e] at hset₂
    refine wpAny_pure ⟨plainId_quiet F.plain_set_update_loop _, ih (i + 1) _ o₂ (by omega) (W.frame _ _ _ hst₁ fun b hb' x e => ?_) ho₂ hset₂ (fun h4 => hcl₂ (by rw [List.length_take]; omega) (hcl h4)) fun h' tk' o' hk' ho' hset' hcl' => ?_⟩
    · exact sb₂.extBut b x (fun q => hS (q ▸ hb')) e
    · exact hR h' tk' o' (fun b x h1 h2 e => hk' b x h1 h2 (sb₂.extBut b x h1 (hk₁ b x h2 e))) ho' hset' hcl'

theorem set_new_1 (a : Value) {Q : Value → Shared → Prop} (h : Q (.ref s.heap.objs.size) { s with heap := s.heap.push (freshSet w) }) :
    codeAny (model prog w) A (.call (.builtin "set.__new__") ⟨[.type "set", a], []⟩) (wants Q E) s := by
  refine codeAny_of_tree ?_
  show wpAny _ A.in1 (do checkBuiltinCall "set.__new__" ⟨[.type "set", a], []⟩; again (.builtin "set.__new__" ⟨[.type "set", a], []⟩)) _ _ s
  refine wpAny_bind (wpAny_of_eq (PySem.F.newCall_set_1 a) (wpAny_pure ⟨plainId_quiet F.plain_set_new _, codeAny_builtin F.entry_set_new ?_⟩))
  rw [Around.under_plainId F.plain_set_new _]
  unfold Builtin.«set.__new__» Builtin.Frozenset.newClass
  have hsub := sub_set_self
  obtain ⟨hp, g, d, tk, os⟩ := s
  dsimp only
  wp_walk
  refine wpAny_askSetting (wpAny_pure ?_)
  dsimp only
  simp only [newObj]
  exact wpAny_bind (wpAny_alloc (wpAny_pure (wpAny_pure h)))
end
end Mine
end

section
open PySem PyProof.Rows
set_option Elab.async false
set_option maxRecDepth 100000
namespace Mine
section
variable {prog : Program} {w : World} {A : Around} {E : Value → Shared → Prop} {s : Shared}

theorem strs_at {items : List Value} {ks : List Str} (hi : StrsAre items ks) (i : Nat) (v : Value) (h : items[i]? = some v) : ∃ tk, v = .str (ks.getD i Str.empty) tk := by
  have hlt : i < ks.length := by
    rw [← hi.len_eq]
    exact (List.getElem?_eq_some_iff.mp h).1
  obtain ⟨t, ht⟩ := hi.at (j := i) (y := ks.getD i Str.empty) (by simp [List.getD, hlt])
  rw [h] at ht
  exact ⟨t, Option.some.inj ht⟩

set_option maxHeartbeats 3200000 in
/-- set(l) of a list of texts, none twice -/
theorem call_set_strs {l : Addr} {items : List Value} {ks : List Str} {Q : Value → Shared → Prop}
    (hh : A.handled = none) (hl : s.heap.IsList l items.toArray) (hi : StrsAre items ks) (hn : ks.Nodup) (hb : ks.length + 1 < scanBound)
    (h : ∀ h' tk o, h'.get? s.heap.objs.size = some o → SetS w o ks → (ks.length ≤ 4 → Cl o) → (∀ b x, b < s.heap.objs.size → s.heap.get? b = some x → h'.get? b = some x) →
      Q (.ref s.heap.objs.size) { s with heap := h', toks := tk }) :
    wpAny (model prog w) A (call (.type "set") [.ref l]) Q E s := by
  obtain ⟨c, tl, hmro⟩ := F.called_set.mro
  have hmade := F.called_set.made
  have hsub := F.called_set.sub
  have h1 := F.called_set.notType
  have h2 := F.called_set.canCreate
  have hct := PySem.F.typeCall_set_1 (.ref l)
  refine wpAny_call (codeAny_of_tree ?_)
  show wpAny _ _ (callAny (.type "set") _) _ _ _
  refine wpAny_pure ⟨Code.quiet_builtin _ (by decide +kernel), codeAny_builtin F.entry_type_call ?_⟩
  rw [Around.under_plain (weight_type_call_type "set" [.ref l] []) rfl]
  repeat (any_goals (first | assumption | wp_step))
  refine codeAny_mono (set_new_1 (w := w) (.ref l) (E := E) (Q := fun obj s₁ => obj = .ref s.heap.objs.size ∧ s₁ = { s with heap := s.heap.push (freshSet w) }) ⟨rfl, rfl⟩) fun r s₁ hr => ?_
  match r, hr with
  | .ok (.ret obj), hr =>
    obtain ⟨rfl, rfl⟩ := hr
    have hS : (s.heap.push (freshSet w)).get? s.heap.objs.size = some (freshSet w) := Heap.get?_push_size _ rfl
    have hT : Shared.TypeIs { s with heap := s.heap.push (freshSet w) } (.ref s.heap.objs.size) "set" := ⟨_, hS, rfl⟩
    have hli := F.called_set.init.lookup
    have hbi := F.called_set.init.bind (.ref s.heap.objs.size)
    repeat (any_goals (first | assumption | wp_step))
    refine codeAny_mono (codeAny_call_builtin (R := wants (fun r s₂ => r = .none ∧ ∃ h' tk o, s₂ = { s with heap := h', toks := tk } ∧ h'.get? s.heap.objs.size = some o ∧ SetS w o ks ∧ (ks.length ≤ 4 → Cl o) ∧
        (∀ b x, b < s.heap.objs.size → s.heap.get? b = some x → h'.get? b = some x)) E) F.called_set.init.plain F.entry_set_init (check_set_init_1 hT ?_)) fun r₂ s₂ hr₂ => ?_
    · obtain ⟨ol, hol, hcl, nl, hdl⟩ := hl
      obtain ⟨ocls, odict, odata, oslots⟩ := ol
      simp only at hcl hdl
      subst hcl; subst hdl
      have hol' : (s.heap.push (freshSet w)).get? l = some { cls := .type "list", dict := odict, data := .seq items.toArray nl, slots := oslots } := Heap.get?_push_of_some _ hol
      have hsls := PySem.F.sub_list_set
      have hslf := PySem.F.sub_list_frozenset
      have hne : (Value.type "list" == Value.type "dict") = false := by decide
      have hl1 : (s.heap.push (freshSet w)).IsList l items.toArray := ⟨_, hol', rfl, nl, rfl⟩
      unfold Builtin.«set.__init__» noKeywords Builtin.Frozenset.updateFrom
      unfold freshSet at hS hT hol' hl1 ⊢
      generalize hPI : pyIter = PI
      wp_walk
      subst hPI
      refine wpAny_pyIter_list hl1 ?_
      refine wpAny_bind (wpAny_runValue ?_)
      have hlS : l < s.heap.objs.size := Heap.lt_size hol
      have hh3 : A.in1.in1.in1.handled = none := by simp [hh]
      have hsz := Heap.size_push s.heap (freshSet w)
      have hneI : l ≠ (s.heap.push (freshSet w)).objs.size := by
        rw [hsz]; exact Nat.ne_of_lt (Nat.lt_succ_of_lt hlS)
      have hSf : s.heap.objs.size ∉ [(s.heap.push (freshSet w)).objs.size, l] := by
        rw [hsz]; simp only [List.mem_cons, List.not_mem_nil, or_false, not_or]
        exact ⟨Nat.ne_of_lt (Nat.lt_succ_self _), Nat.ne_of_gt hlS⟩
      have hlen : items.toArray.size = ks.length := by simp [hi.len_eq]
      have W := Walks.list (prog := prog) (w := w) hh3 (s.heap.push (freshSet w)).objs.size l hneI items.toArray
      rw [hlen] at W
      refine set_loop W hSf (fun i v hv => strs_at hi i v (by simpa using hv)) hn hb ks.length 0 _ (freshSet w) (by omega) ⟨⟨_, Heap.get?_push_size _ rfl, rfl, rfl⟩, hl1.push _⟩ (Heap.get?_push_of_some _ hS) (freshSet_is w) (fun _ => freshSet_cl w) fun h' tk o' hk ho' hset hcl => ?_
      show wpAny _ _ _ _ _ _
      refine wpAny_pure ?_
      show wpAny _ _ (ret Value.none) _ _ _
      refine wpAny_pure ⟨rfl, h', tk, o', rfl, ho', hset, hcl, fun b x hb' e => ?_⟩
      refine hk b x (Nat.ne_of_lt hb') ?_ (Heap.get?_push_of_some _ (Heap.get?_push_of_some _ e))
      rw [hsz, List.mem_singleton]
      exact Nat.ne_of_lt (Nat.lt_succ_of_lt hb')
    · match r₂, hr₂ with
      | .ok (.ret r), hr₂ =>
        obtain ⟨rfl, h', tk, o', rfl, ho', hset, hcl, hk⟩ := hr₂
        repeat (any_goals (first | assumption | wp_step))
        exact h _ _ _ ho' hset hcl hk
      | .error e, hr₂ => exact hr₂
  | .error e, hr => exact hr
end
end Mine
end

section
open PySem PyProof.Rows
set_option Elab.async false
set_option maxRecDepth 100000
namespace Mine

theorem slot_si_next : Slot "set_iterator" "__next__" "set_iterator.__next__" :=
  .of (owner := "set_iterator") (n := "__next__") (by rw [typeLookup_type, builtinLookup_eq_fast]; kernel_rfl) (by decide +kernel) (by decide +kernel) (by decide +kernel)
    (by first | exact .inl (by decide +kernel) | exact .inr (by decide +kernel)) (by rw [isSubtype_type]; kernel_rfl)
theorem slot_si_iter : Slot "set_iterator" "__iter__" "set_iterator.__iter__" :=
  .of (owner := "set_iterator") (n := "__iter__") (by rw [typeLookup_type, builtinLookup_eq_fast]; kernel_rfl) (by decide +kernel) (by decide +kernel) (by decide +kernel)
    (by first | exact .inl (by decide +kernel) | exact .inr (by decide +kernel)) (by rw [isSubtype_type]; kernel_rfl)
theorem entry_si_next : entryFor table "set_iterator.__next__" = some Builtin.«set_iterator.__next__» := entryFor_of_tree (by kernel_rfl)
theorem entry_si_iter : entryFor table "set_iterator.__iter__" = some Builtin.«dict_keyiterator.__iter__» :=
  entryFor_alias (id' := "dict_keyiterator.__iter__") (by kernel_rfl) rfl (by decide +kernel) (by kernel_rfl)
theorem entry_set_iter : entryFor table "set.__iter__" = some Builtin.«frozenset.__iter__» :=
  entryFor_alias (id' := "frozenset.__iter__") (by kernel_rfl) rfl (by decide +kernel) (by kernel_rfl)
theorem args_si_next (a : Value) : argsOk "set_iterator.__next__" ⟨[a], []⟩ := by unfold argsOk; kernel_rfl
theorem args_si_iter (a : Value) : argsOk "set_iterator.__iter__" ⟨[a], []⟩ := by unfold argsOk; kernel_rfl

theorem erase_perm {α : Type} {l : List α} {i : Nat} (h : i < l.length) : (l[i] :: l.eraseIdx i).Perm l := by
  rw [List.eraseIdx_eq_take_drop_succ]
  have e : l = l.take i ++ l[i] :: l.drop (i + 1) := by
    rw [← List.drop_eq_getElem_cons h, List.take_append_drop]
  have p : (l.take i ++ l[i] :: l.drop (i + 1)).Perm (l[i] :: (l.take i ++ l.drop (i + 1))) := List.perm_middle
  rw [← e] at p
  exact p.symm
/-- the drawn orders are orders -/
theorem pick_perm {α : Type} (next : Nat → Nat) : ∀ (n k : Nat) (left : List α) (out : Array α), n = left.length → (pickOrder.go next n k left out).toList.Perm (out.toList ++ left)
  | 0, k, left, out, h => by
    have : left = [] := List.length_eq_zero_iff.mp h.symm
    subst this
    simp [pickOrder.go]
  | n + 1, k, left, out, h => by
    have hpos : 0 < left.length := by omega
    have hlt : next k % left.length < left.length := Nat.mod_lt _ hpos
    rw [pickOrder.go]
    rw [List.getElem?_eq_getElem hlt]
    dsimp only
    refine (pick_perm next n (k + 1) _ _ (by rw [List.length_eraseIdx_of_lt hlt]; omega)).trans ?_
    rw [Array.toList_push, List.append_assoc, List.singleton_append]
    exact (List.perm_append_left_iff _).mpr (erase_perm hlt)
theorem pick_perm' {α : Type} (next : Nat → Nat) (xs : Array α) : (pickOrder next xs).toList.Perm xs.toList := by
  have := pick_perm next xs.size 0 xs.toList #[] (by simp)
  simpa [pickOrder] using this

section
variable {prog : Program} {w : World} {A : Around} {E : Value → Shared → Prop} {s : Shared}
theorem wpAny_choose' {src : Source} {n : Nat} {Q : Nat → Shared → Prop} (hn : n ≠ 0) (h : ∀ i dr, i < n → Q i { s with drawn := dr }) : wpAny (model prog w) A (choose src n) Q E s :=
  fun _ _ _ => ⟨hn, h _ _ (Nat.mod_lt _ (Nat.pos_of_ne_zero hn))⟩
theorem draw_order {α : Type} : ∀ (n : Nat) (xs : List α) (s : Shared) {Q : List α → Shared → Prop}, n = xs.length → (∀ ys dr, ys.Perm xs → Q ys { s with drawn := dr }) → wpAny (model prog w) A (drawOrder n xs) Q E s
  | 0, xs, s, Q, h, hQ => by
    have : xs = [] := List.length_eq_zero_iff.mp h.symm
    subst this
    exact wpAny_pure (hQ [] s.drawn .nil)
  | n + 1, xs, s, Q, h, hQ => by
    obtain ⟨x, r, rfl⟩ : ∃ x r, xs = x :: r := by
      cases xs with
      | nil => cases h
      | cons x r => exact ⟨x, r, rfl⟩
    unfold drawOrder
    refine wpAny_bind (wpAny_choose' (by simp) fun i dr hi => ?_)
    rw [List.getElem?_eq_getElem hi]
    dsimp only
    refine wpAny_bind (draw_order n _ _ (by rw [List.length_eraseIdx_of_lt hi]; omega) fun ys dr' hp => wpAny_pure (hQ _ _ ?_))
    exact (hp.cons _).trans (erase_perm hi)
end
end Mine
end

section
open PySem PyProof.Rows
set_option Elab.async false
set_option maxRecDepth 100000
namespace Mine

abbrev itObj (a : Addr) (first : Value) (i n ep : Nat) : Obj := { cls := .type "set_iterator", data := .fields #[first, rawInt i, .ref a, rawInt n, rawInt ep] }
theorem itObj_first (a : Addr) (f g : Value) (i n ep : Nat) : Obj.mapFields (·.setIfInBounds 0 g) (itObj a f i n ep) = itObj a g i n ep := rfl
theorem itObj_count (a : Addr) (f : Value) (i j n ep : Nat) : Obj.mapFields (·.setIfInBounds 1 (rawInt j)) (itObj a f i n ep) = itObj a f j n ep := rfl

section
variable {prog : Program} {w : World} {A : Around} {E : Value → Shared → Prop} {s : Shared} {a I : Addr} {o : Obj} {es : Array (Int × Value)} {ep : Nat} {t : SetTable}

theorem si_iter {f : Value} {i n : Nat} {Q : Value → Shared → Prop} (hi : s.heap.get? I = some (itObj a f i n ep)) (h : Q (.ref I) s) : wpAny (model prog w) A (pyIter (.ref I)) Q E s := by
  have hT : s.TypeIs (.ref I) "set_iterator" := ⟨_, hi, rfl⟩
  refine wpAny_pyIter_slot hT slot_si_iter (wpAny_call_entry slot_si_iter hT entry_si_iter ?_ (args_si_iter _))
  show wpAny _ _ (ret (.ref I)) _ _ s
  exact wpAny_pure ⟨_, rfl, "set_iterator", _, hT, slot_si_next.lookup, h⟩

/-- an item, by a slot or by a number -/
theorem si_item {sl nx i : Nat} {x : Value} {Q : Option Value → Shared → Prop} (hi : s.heap.get? I = some (itObj a (rawInt sl) i es.size ep)) (ho : s.heap.get? a = some o) (hd : o.data = .set es ep t) (hf : t.fits es.size = true)
    (hn : ∀ (A' : Around) (Q : Option (Value × Nat) → Shared → Prop) (E : Value → Shared → Prop), Q (some (x, nx)) s → wpAny (model prog w) A' (setNext a sl i ep) Q E s)
    (h : ∀ h', h'.get? I = some (itObj a (rawInt nx) (i + 1) es.size ep) → Heap.SameBut I s.heap h' → Q (some x) { s with heap := h' }) : wpAny (model prog w) A (pyNext (.ref I)) Q E s := by
  have hT : s.TypeIs (.ref I) "set_iterator" := ⟨_, hi, rfl⟩
  unfold pyNext
  refine wpAny_bind (wpAny_attempt (wpAny_callSpecial?_slot (name := Str.ofString "__next__") hT slot_si_next (wpAny_call_entry slot_si_next hT entry_si_next ?_ (args_si_next _))))
  unfold Builtin.«set_iterator.__next__»
  refine wpAny_bind (m := slotArgs "__next__" 0 ⟨[.ref I], []⟩) (wpAny_pure ?_)
  refine wpAny_bind (wpAny_fieldsOf hi rfl ?_)
  dsimp only [rawInt]
  refine wpAny_bind (wpAny_setEntries_of ho hd hf ?_)
  rw [if_neg (by simp)]
  show wpAny _ _ (setNext a (Int.toNat sl) (Int.toNat i) (Int.toNat ep) >>= _) _ _ _
  simp only [Int.toNat_natCast]
  refine wpAny_bind (hn _ _ _ ?_)
  dsimp only
  have e1 := itObj_first a (rawInt sl) (rawInt nx) i es.size ep
  have e2 := itObj_count a (rawInt nx) i (i + 1) es.size ep
  refine wpAny_bind (wpAny_setField hi rfl (by simp) ?_)
  have h1 : (s.heap.update I (Obj.mapFields (·.setIfInBounds 0 (rawInt nx)))).get? I = some (itObj a (rawInt nx) i es.size ep) := (Heap.get?_update_self _ hi rfl).trans (congrArg some e1)
  refine wpAny_bind (wpAny_setField h1 rfl (by simp) ?_)
  have h2 := (Heap.get?_update_self (Obj.mapFields (·.setIfInBounds 1 (rawInt ((i : Int) + 1)))) h1 rfl)
  exact wpAny_pure ⟨_, rfl, wpAny_pure (h _ (h2.trans (congrArg some e2)) ((Heap.SameBut.update ..).trans (Heap.SameBut.update ..)))⟩


/-- StopIteration out of the iterator's own call -/
theorem si_stop {k : Nat} {f : Value} {i n : Nat} {E' : Value → Shared → Prop} (hh : A.handled = none) (hi : s.heap.get? I = some (itObj a f i n ep)) (hk : k < 5)
    (h : ∀ h' e, Heap.ExtBut I s.heap h' → (∃ x, h'.get? e = some x ∧ x.cls = .type "StopIteration") → E' (.ref e) { s with heap := h' }) {Q : PySem.Fin → Shared → Prop} :
    wpAny (model prog w) A (do setField (.ref I) k Value.none; raiseNew (← newExc (.type "StopIteration") [])) Q E' s := by
  refine wpAny_bind (wpAny_setField hi rfl (by simpa using hk) ?_)
  refine wpAny_bind ?_
  simp only [newExc, newTuple]
  refine wpAny_bind (wpAny_newObj_type ?_ (by size_fits))
  refine wpAny_bind (m := firstArgMember _ _) (wpAny_of_eq (a := Value.none) (by first | rfl | (simp only [firstArgMember]; rfl)) ?_)
  refine wpAny_newObj_type ?_ (by size_fits)
  simp only [raiseNew]
  refine wpAny_bind (wpAny_handled ?_)
  rw [hh]
  refine wpAny_bind (wpAny_pure (wpAny_throw ?_))
  exact h _ _ (((Heap.SameBut.update ..).extBut.push _).push _) ⟨_, Heap.get?_push_size _ rfl, rfl⟩

/-- the end behind the last -/
theorem si_done {sl i : Nat} {Q : Option Value → Shared → Prop} (hh : A.handled = none) (hi : s.heap.get? I = some (itObj a (rawInt sl) i es.size ep)) (ho : s.heap.get? a = some o) (hd : o.data = .set es ep t) (hf : t.fits es.size = true)
    (hn : ∀ (A' : Around) (Q : Option (Value × Nat) → Shared → Prop) (E : Value → Shared → Prop), Q none s → wpAny (model prog w) A' (setNext a sl i ep) Q E s)
    (h : ∀ h', Heap.ExtBut I s.heap h' → Q none { s with heap := h' }) : wpAny (model prog w) A (pyNext (.ref I)) Q E s := by
  have hT : s.TypeIs (.ref I) "set_iterator" := ⟨_, hi, rfl⟩
  unfold pyNext
  refine wpAny_bind (wpAny_attempt (wpAny_callSpecial?_slot (name := Str.ofString "__next__") hT slot_si_next (wpAny_call_entry slot_si_next hT entry_si_next ?_ (args_si_next _))))
  unfold Builtin.«set_iterator.__next__»
  refine wpAny_bind (m := slotArgs "__next__" 0 ⟨[.ref I], []⟩) (wpAny_pure ?_)
  refine wpAny_bind (wpAny_fieldsOf hi rfl ?_)
  dsimp only [rawInt]
  refine wpAny_bind (wpAny_setEntries_of ho hd hf ?_)
  rw [if_neg (by simp)]
  show wpAny _ _ (setNext a (Int.toNat sl) (Int.toNat i) (Int.toNat ep) >>= _) _ _ _
  simp only [Int.toNat_natCast]
  refine wpAny_bind (hn _ _ _ ?_)
  dsimp only
  refine si_stop (k := 2) (by simpa using hh) hi (by omega) fun h' e hx hE => ?_
  obtain ⟨x, hx1, hx2⟩ := hE
  refine wpAny_bind (wpAny_isInstance (T := "StopIteration") (b := true) ⟨x, hx1, hx2⟩ isSubtype_stop ?_)
  exact wpAny_pure (h _ hx)

/-- the same, by a drawn order -/
theorem sd_item {T i : Nat} {oT : Obj} {pl : Array Nat} {x : Value} {hx : Int} {p : Nat} {Q : Option Value → Shared → Prop} (hi : s.heap.get? I = some (itObj a (.ref T) i es.size ep)) (ho : s.heap.get? a = some o) (hd : o.data = .set es ep t) (hf : t.fits es.size = true)
    {eT : Nat} (hT' : s.heap.get? T = some oT) (hTd : oT.data = .seq (pl.map fun (p : Nat) => rawInt p) eT) (hp : pl[i]? = some p) (hx : es[p]? = some (hx, x))
    (h : ∀ h', h'.get? I = some (itObj a (.ref T) (i + 1) es.size ep) → Heap.SameBut I s.heap h' → Q (some x) { s with heap := h' }) : wpAny (model prog w) A (pyNext (.ref I)) Q E s := by
  have hT : s.TypeIs (.ref I) "set_iterator" := ⟨_, hi, rfl⟩
  unfold pyNext
  refine wpAny_bind (wpAny_attempt (wpAny_callSpecial?_slot (name := Str.ofString "__next__") hT slot_si_next (wpAny_call_entry slot_si_next hT entry_si_next ?_ (args_si_next _))))
  unfold Builtin.«set_iterator.__next__»
  refine wpAny_bind (m := slotArgs "__next__" 0 ⟨[.ref I], []⟩) (wpAny_pure ?_)
  refine wpAny_bind (wpAny_fieldsOf hi rfl ?_)
  dsimp only [rawInt]
  refine wpAny_bind (wpAny_setEntries_of ho hd hf ?_)
  rw [if_neg (by simp)]
  show wpAny _ _ (seqItems? (.ref T) >>= _) _ _ _
  refine wpAny_bind (wpAny_seqItems hT' hTd ?_)
  simp only [Int.toNat_natCast]
  have e0 : (pl.map fun (p : Nat) => rawInt p)[i]? = some (rawInt p) := by simp [hp]
  rw [e0]
  dsimp only [rawInt]
  simp only [Int.toNat_natCast]
  unfold setNextDrawn
  refine wpAny_bind (wpAny_bind (wpAny_setState_of ho hd hf ?_))
  dsimp only
  rw [if_neg (by simp)]
  rw [hx]
  refine wpAny_pure ?_
  have e2 := itObj_count a (.ref T) i (i + 1) es.size ep
  refine wpAny_bind (wpAny_setField hi rfl (by simp) ?_)
  have h2 := (Heap.get?_update_self (Obj.mapFields (·.setIfInBounds 1 (rawInt ((i : Int) + 1)))) hi rfl)
  exact wpAny_pure ⟨_, rfl, wpAny_pure (h _ (h2.trans (congrArg some e2)) (Heap.SameBut.update ..))⟩

theorem sd_done {T i : Nat} {oT : Obj} {pl : Array Nat} {Q : Option Value → Shared → Prop} (hh : A.handled = none) (hi : s.heap.get? I = some (itObj a (.ref T) i es.size ep)) (ho : s.heap.get? a = some o) (hd : o.data = .set es ep t) (hf : t.fits es.size = true)
    {eT : Nat} (hT' : s.heap.get? T = some oT) (hTd : oT.data = .seq (pl.map fun (p : Nat) => rawInt p) eT) (hp : pl[i]? = none)
    (h : ∀ h', Heap.ExtBut I s.heap h' → Q none { s with heap := h' }) : wpAny (model prog w) A (pyNext (.ref I)) Q E s := by
  have hT : s.TypeIs (.ref I) "set_iterator" := ⟨_, hi, rfl⟩
  unfold pyNext
  refine wpAny_bind (wpAny_attempt (wpAny_callSpecial?_slot (name := Str.ofString "__next__") hT slot_si_next (wpAny_call_entry slot_si_next hT entry_si_next ?_ (args_si_next _))))
  unfold Builtin.«set_iterator.__next__»
  refine wpAny_bind (m := slotArgs "__next__" 0 ⟨[.ref I], []⟩) (wpAny_pure ?_)
  refine wpAny_bind (wpAny_fieldsOf hi rfl ?_)
  dsimp only [rawInt]
  refine wpAny_bind (wpAny_setEntries_of ho hd hf ?_)
  rw [if_neg (by simp)]
  show wpAny _ _ (seqItems? (.ref T) >>= _) _ _ _
  refine wpAny_bind (wpAny_seqItems hT' hTd ?_)
  simp only [Int.toNat_natCast]
  have e0 : (pl.map fun (p : Nat) => rawInt p)[i]? = none := by simpa using hp
  rw [e0]
  dsimp only
  refine wpAny_bind (wpAny_setField hi rfl (by simp) ?_)
  have h1 : (s.heap.update I (Obj.mapFields (·.setIfInBounds 0 (rawInt 0)))).get? I = some (itObj a (rawInt 0) i es.size ep) := (Heap.get?_update_self _ hi rfl).trans (congrArg some (itObj_first a (.ref T) (rawInt 0) i es.size ep))
  refine si_stop (k := 2) (s := { s with heap := _ }) (by simpa using hh) h1 (by omega) fun h' e hx hE => ?_
  obtain ⟨x, hx1, hx2⟩ := hE
  refine wpAny_bind (wpAny_isInstance (T := "StopIteration") (b := true) ⟨x, hx1, hx2⟩ isSubtype_stop ?_)
  exact wpAny_pure (h _ fun b x hb e => hx b x hb ((Heap.SameBut.update ..).extBut b x hb e))
end
end Mine
end

section
open PySem PyProof.Rows
set_option Elab.async false
set_option maxRecDepth 100000
namespace Mine
section
variable {prog : Program} {w : World} {A : Around} {E : Value → Shared → Prop} {s : Shared} {a I : Addr} {o : Obj} {es : Array (Int × Value)} {ep : Nat} {t : SetTable}

/-- the world's own order -/
def txOrder (w : World) (a ep : Nat) (es : Array (Int × Value)) : Array (Int × Value) := pickOrder (w.params.setOrder a ep) es

theorem tx_perm (w : World) (a ep : Nat) (es : Array (Int × Value)) : (txOrder w a ep es).toList.Perm es.toList := pick_perm' _ _
theorem next_text {sl i : Nat} {Q : Option (Value × Nat) → Shared → Prop} (hb : byTx w = true) (ho : s.heap.get? a = some o) (hd : o.data = .set es ep t) (hf : t.fits es.size = true)
    (h : Q (((txOrder w a ep es)[i]?).map fun e => (e.2, sl)) s) : wpAny (model prog w) A (setNext a sl i ep) Q E s := by
  unfold byTx at hb
  unfold setNext setsByText
  refine wpAny_bind (wpAny_setState_of ho hd hf ?_)
  dsimp only
  refine wpAny_bind (wpAny_bind (wpAny_askSetting (wpAny_pure ?_)))
  show wpAny _ _ (if w.params.followText "set-order" = true then _ else _) _ _ _
  rw [if_pos hb, if_neg (by simp)]
  unfold setWalk setsByText
  refine wpAny_bind (wpAny_bind (wpAny_setState_of ho hd hf ?_))
  dsimp only
  refine wpAny_bind (wpAny_bind (wpAny_askSetting (wpAny_pure ?_)))
  show wpAny _ _ (if w.params.followText "set-order" = true then _ else _) _ _ _
  rw [if_pos hb]
  exact wpAny_bind (wpAny_askSetting (wpAny_pure (wpAny_pure h)))

theorem next_one {sl i : Nat} {Q : Option (Value × Nat) → Shared → Prop} {ks : List Str} (hb : byTx w = false) (D : SetD w es t ks) (h1 : es.size ≤ 1) (ho : s.heap.get? a = some o) (hd : o.data = .set es ep t)
    (h : Q (match es[SetTable.below t.place sl]?, t.place[SetTable.below t.place sl]? with | some (_, x), some j => some (x, j + 1) | _, _ => none) s) : wpAny (model prog w) A (setNext a sl i ep) Q E s := by
  have hf := D.fits
  have hl := D.led
  rw [hb] at hl
  unfold byTx at hb
  unfold setNext setsByText
  refine wpAny_bind (wpAny_setState_of ho hd hf ?_)
  dsimp only
  refine wpAny_bind (wpAny_bind (wpAny_askSetting (wpAny_pure ?_)))
  show wpAny _ _ (if w.params.followText "set-order" = true then _ else _) _ _ _
  rw [if_neg (by rw [hb]; exact Bool.false_ne_true)]
  have hdr : (!t.plain && decide (es.size > 1)) = false := by
    have : ¬ es.size > 1 := by omega
    simp [this]
  show wpAny _ _ (if (!t.plain && decide (es.size > 1)) = true then _ else _) _ _ _
  rw [if_neg (by rw [hdr]; exact Bool.false_ne_true)]
  show wpAny _ _ ((if (!t.led && !es.isEmpty) = true then unsupported "set:maker-not-led" else pure ()) >>= _) _ _ _
  rw [if_neg (by rw [hl]; simp)]
  exact wpAny_bind (wpAny_pure (wpAny_pure h))

theorem below_one (j sl : Nat) : SetTable.below #[j] sl = if j < sl then 1 else 0 := by
  by_cases h : j < sl <;> simp [SetTable.below, SetTable.below.go, h]
theorem below_none (sl : Nat) : SetTable.below #[] sl = 0 := by simp [SetTable.below, SetTable.below.go]

/-- the values in the order they are met -/
theorem vals_are {ks : List Str} {ps : List (Int × Value)} (D : SetD w es t ks) (hp : ps.Perm es.toList) : ∃ ls, StrsAre (ps.map (·.2)) ls ∧ ls.Perm ks := by
  refine ⟨ps.map keyAt, ?_, (hp.map keyAt).trans D.perm⟩
  have hk : ∀ e ∈ ps, skey w e := fun e he => D.keys e (hp.mem_iff.mp he)
  clear hp D
  induction ps with
  | nil => exact .nil
  | cons e r ih =>
    obtain ⟨k, tk, rfl⟩ := hk e List.mem_cons_self
    exact .cons k tk (ih fun x hx => hk x (List.mem_cons_of_mem _ hx))

def AtI (I a : Addr) (o : Obj) (f : Value) (i n ep : Nat) (h : Heap) : Prop := h.get? I = some (itObj a f i n ep) ∧ h.get? a = some o

theorem walks_text (hh : A.handled = none) {ks : List Str} (hb : byTx w = true) (D : SetD w es t ks) (hd : o.data = .set es ep t) (hne : a ≠ I) :
    Walks prog w A I [I, a] [I] ks.length (fun i v => ((txOrder w a ep es).toList.map (·.2))[i]? = some v) (fun i h => AtI I a o (rawInt 0) i es.size ep h) where
  sub := fun b hb => by simp at hb; simp [hb]
  frame := fun _ _ _ st hk => ⟨hk I (by simp) _ st.1, hk a (by simp) _ st.2⟩
  item := fun i s Q E hi st hQ => by
    have hsz : (txOrder w a ep es).size = ks.length := by
      rw [← Array.length_toList, (tx_perm w a ep es).length_eq, Array.length_toList, D.size]
    have hlt : i < (txOrder w a ep es).size := by omega
    have hx : (txOrder w a ep es)[i]? = some (txOrder w a ep es)[i] := Array.getElem?_eq_getElem hlt
    refine si_item (sl := 0) (nx := 0) (x := (txOrder w a ep es)[i].2) st.1 st.2 hd D.fits (fun A' Q' E' q => next_text hb st.2 hd D.fits (by rw [hx]; exact q)) fun h' e1 e2 => ?_
    exact hQ _ h' s.toks (by rw [List.getElem?_map, Array.getElem?_toList, hx]; rfl) ⟨e1, e2.extBut _ _ hne st.2⟩ fun b x hb e => e2.extBut b x (fun q => hb (by simp [q])) e
  done := fun s Q E st hQ => by
    have hsz : (txOrder w a ep es).size = ks.length := by
      rw [← Array.length_toList, (tx_perm w a ep es).length_eq, Array.length_toList, D.size]
    refine si_done (sl := 0) hh st.1 st.2 hd D.fits (fun A' Q' E' q => next_text hb st.2 hd D.fits (by rw [Array.getElem?_eq_none (by omega)]; exact q)) fun h' e => ?_
    exact hQ h' s.toks fun b x hb hx => e b x (fun q => hb (by simp [q])) hx
  self := fun _ _ _ _ st hQ => si_iter st.1 hQ

theorem walks_one (hh : A.handled = none) {ks : List Str} (hb : byTx w = false) (D : SetD w es t ks) (h1 : es.size ≤ 1) (hd : o.data = .set es ep t) (hne : a ≠ I) :
    Walks prog w A I [I, a] [I] ks.length (fun i v => (es.toList.map (·.2))[i]? = some v) (fun i h => ∃ sl : Nat, AtI I a o (rawInt sl) i es.size ep h ∧ SetTable.below t.place sl = i) where
  sub := fun b hb => by simp at hb; simp [hb]
  frame := fun _ _ _ ⟨sl, st, hs⟩ hk => ⟨sl, ⟨hk I (by simp) _ st.1, hk a (by simp) _ st.2⟩, hs⟩
  item := fun i s Q E hi ⟨sl, st, hs⟩ hQ => by
    have hsz := D.size
    have hi0 : i = 0 := by omega
    subst hi0
    have hes : es.size = 1 := by omega
    have hpl : t.place.size = 1 := by
      have := D.fits
      simp only [SetTable.fits, Bool.and_eq_true, beq_iff_eq, decide_eq_true_eq] at this
      omega
    obtain ⟨j, hj⟩ : ∃ j, t.place = #[j] := by
      match hp : t.place with
      | ⟨[]⟩ => rw [hp] at hpl; cases hpl
      | ⟨[j]⟩ => exact ⟨j, rfl⟩
      | ⟨_ :: _ :: _⟩ => rw [hp] at hpl; simp at hpl
    have hx : es[0]? = some es[0] := Array.getElem?_eq_getElem (by omega)
    refine si_item (sl := sl) (nx := j + 1) (x := es[0].2) st.1 st.2 hd D.fits (fun A' Q' E' q => next_one hb D h1 st.2 hd ?_) fun h' e1 e2 => ?_
    · rw [hs, hx, hj]; exact q
    · exact hQ _ h' s.toks (by rw [List.getElem?_map, Array.getElem?_toList, hx]; rfl) ⟨j + 1, ⟨e1, e2.extBut _ _ hne st.2⟩, by rw [hj, below_one, if_pos (Nat.lt_succ_self j)]⟩ fun b x hb e => e2.extBut b x (fun q => hb (by simp [q])) e
  done := fun s Q E ⟨sl, st, hs⟩ hQ => by
    have hsz := D.size
    refine si_done (sl := sl) hh st.1 st.2 hd D.fits (fun A' Q' E' q => next_one hb D h1 st.2 hd ?_) fun h' e => ?_
    · rw [hs, Array.getElem?_eq_none (by omega)]; exact q
    · exact hQ h' s.toks fun b x hb hx => e b x (fun q => hb (by simp [q])) hx
  self := fun _ _ _ _ ⟨sl, st, _⟩ hQ => si_iter st.1 hQ

theorem walks_drawn (hh : A.handled = none) {ks : List Str} {T eT : Nat} {oT : Obj} {pl : List Nat} (D : SetD w es t ks) (hp : pl.Perm (List.range es.size)) (hd : o.data = .set es ep t) (hTd : oT.data = .seq (pl.toArray.map fun (p : Nat) => rawInt p) eT) (hne : a ≠ I) (hnT : T ≠ I) :
    Walks prog w A I [I, a, T] [I] ks.length (fun i v => (pl.map fun p => (es.getD p (0, .none)).2)[i]? = some v) (fun i h => AtI I a o (.ref T) i es.size ep h ∧ h.get? T = some oT) where
  sub := fun b hb => by simp at hb; simp [hb]
  frame := fun _ _ _ st hk => ⟨⟨hk I (by simp) _ st.1.1, hk a (by simp) _ st.1.2⟩, hk T (by simp) _ st.2⟩
  item := fun i s Q E hi st hQ => by
    have hsz := D.size
    have hlen : pl.length = es.size := by rw [hp.length_eq, List.length_range]
    have hlt : i < pl.length := by omega
    have hpi : pl[i] < es.size := List.mem_range.mp (hp.mem_iff.mp (List.getElem_mem hlt))
    have hx : es[pl[i]]? = some es[pl[i]] := Array.getElem?_eq_getElem hpi
    refine sd_item (pl := pl.toArray) (p := pl[i]) (x := es[pl[i]].2) (hx := es[pl[i]].1) st.1.1 st.1.2 hd D.fits st.2 hTd (by simp [hlt]) hx fun h' e1 e2 => ?_
    refine hQ _ h' s.toks ?_ ⟨⟨e1, e2.extBut _ _ hne st.1.2⟩, e2.extBut _ _ hnT st.2⟩ fun b x hb e => e2.extBut b x (fun q => hb (by simp [q])) e
    rw [List.getElem?_map, List.getElem?_eq_getElem hlt]
    simp [Array.getD, hpi]
  done := fun s Q E st hQ => by
    have hsz := D.size
    have hlen : pl.length = es.size := by rw [hp.length_eq, List.length_range]
    refine sd_done (pl := pl.toArray) hh st.1.1 st.1.2 hd D.fits st.2 hTd (by simp; omega) fun h' e => ?_
    exact hQ h' s.toks fun b x hb hx => e b x (fun q => hb (by simp [q])) hx
  self := fun _ _ _ _ st hQ => si_iter st.1.1 hQ

/-- iter(set): some order of its texts is walked -/
theorem set_iter {ks : List Str} {Q : Value → Shared → Prop} (ho : s.heap.get? a = some o) (hS : SetS w o ks) (hks : ks.length < scanBound)
    (h : ∀ (vs : List Value) (ls : List Str) (I : Addr) (fp : List Addr) (St : Nat → Heap → Prop) h' dr, StrsAre vs ls → ls.Perm ks →
      (∀ A' : Around, A'.handled = none → Walks prog w A' I fp [I] ks.length (fun i v => vs[i]? = some v) St) → St 0 h' → s.heap.objs.size ≤ I → (∀ b ∈ fp, b < h'.objs.size) →
      (∀ i h, St i h → ∃ x, h.get? I = some x) → (∀ b ∈ fp, b = a ∨ s.heap.objs.size ≤ b) →
      (∀ b x, s.heap.get? b = some x → h'.get? b = some x) → Q (.ref I) { s with heap := h', drawn := dr }) :
    wpAny (model prog w) A (pyIter (.ref a)) Q E s := by
  obtain ⟨hx, es, ep, t, hd, D⟩ := hS
  have hT : s.TypeIs (.ref a) "set" := ⟨o, ho, hx.1⟩
  have hal : a < s.heap.objs.size := Heap.lt_size ho
  refine wpAny_pyIter_slot hT F.slot_set_iter (wpAny_call_entry F.slot_set_iter hT entry_set_iter ?_ (F.args_set_iter_1 _))
  unfold Builtin.«frozenset.__iter__»
  refine wpAny_bind (m := Builtin.Frozenset.slot0 "__iter__" ⟨[.ref a], []⟩) ?_
  unfold Builtin.Frozenset.slot0
  refine wpAny_bind (m := slotArgs "__iter__" 0 ⟨[.ref a], []⟩) (wpAny_pure ?_)
  refine wpAny_pure ?_
  unfold Builtin.Frozenset.sizeOf
  refine wpAny_bind (wpAny_bind (wpAny_setEntries_of ho hd D.fits (wpAny_pure ?_)))
  unfold setDrawn setsByText
  refine wpAny_bind ?_
  refine wpAny_bind (wpAny_setState_of ho hd D.fits ?_)
  dsimp only
  refine wpAny_bind (wpAny_bind (wpAny_askSetting (wpAny_pure (wpAny_pure ?_))))
  have fin : ∀ (A : Around) (f : Value) (s' : Shared), s'.heap.get? a = some o → (∀ ls, ls = itObj a f 0 es.size ep → wpAny (model prog w) A (ret (.ref s'.heap.objs.size)) (fun fin s₂ => ∃ r, fin = .done (.ret r) ∧ ∃ T' r', s₂.TypeIs r T' ∧ typeLookup (.type T') "__next__" = pure (some r') ∧ Q r s₂) E { s' with heap := s'.heap.push ls }) →
      wpAny (model prog w) A (do ret (← newFields "set_iterator" [f, rawInt 0, .ref a, rawInt es.size, rawInt (← setEpoch a)])) (fun fin s₂ => ∃ r, fin = .done (.ret r) ∧ ∃ T' r', s₂.TypeIs r T' ∧ typeLookup (.type T') "__next__" = pure (some r') ∧ Q r s₂) E s' := by
    intro A f s' ho' hq
    refine wpAny_bind (wpAny_setEpoch_of ho' hd D.fits ?_)
    exact wpAny_bind (wpAny_newObj_type (hq _ rfl))
  show wpAny _ _ (if (!w.params.followText "set-order" && (!t.plain && decide (es.size > 1))) = true then _ else _) _ _ _
  cases hb : byTx w with
  | true =>
    have hb' : w.params.followText "set-order" = true := hb
    rw [if_neg (by rw [hb']; simp)]
    refine wpAny_bind (wpAny_pure (fin _ _ _ ho fun o' e => ?_))
    subst e
    have hI : (s.heap.push (itObj a (rawInt 0) 0 es.size ep)).get? s.heap.objs.size = some (itObj a (rawInt 0) 0 es.size ep) := Heap.get?_push_size _ rfl
    obtain ⟨ls, h1, h2⟩ := vals_are D (tx_perm w a ep es)
    refine wpAny_pure ⟨_, rfl, "set_iterator", _, ⟨_, hI, rfl⟩, slot_si_next.lookup, ?_⟩
    exact h _ ls _ _ _ _ s.drawn h1 h2 (fun A' hA => walks_text hA hb D hd (Nat.ne_of_lt hal)) ⟨hI, Heap.get?_push_of_some _ ho⟩ (Nat.le_refl _)
      (fun b hb => by
        simp only [List.mem_cons, List.not_mem_nil, or_false] at hb
        rw [Heap.size_push]; exact hb.elim (fun q => q ▸ Nat.lt_succ_self _) fun q => q ▸ Nat.lt_succ_of_lt hal) (fun i h st => ⟨_, st.1⟩)
      (fun b hb => by
        simp only [List.mem_cons, List.not_mem_nil, or_false] at hb
        exact hb.elim (fun q => .inr (q ▸ Nat.le_refl _)) .inl) fun b x e => Heap.get?_push_of_some _ e
  | false =>
    have hb' : w.params.followText "set-order" = false := hb
    rw [hb']
    by_cases h1 : es.size ≤ 1
    · have hc : (!false && (!t.plain && decide (es.size > 1))) = false := by
        have : ¬ es.size > 1 := by omega
        simp [this]
      rw [hc, if_neg Bool.false_ne_true]
      refine wpAny_bind (wpAny_pure (fin _ _ _ ho fun o' e => ?_))
      subst e
      have hI : (s.heap.push (itObj a (rawInt 0) 0 es.size ep)).get? s.heap.objs.size = some (itObj a (rawInt 0) 0 es.size ep) := Heap.get?_push_size _ rfl
      obtain ⟨ls, hs1, hs2⟩ := vals_are D (.refl _)
      refine wpAny_pure ⟨_, rfl, "set_iterator", _, ⟨_, hI, rfl⟩, slot_si_next.lookup, ?_⟩
      have hpl : t.place.size = es.size := by
        have := D.fits
        simp only [SetTable.fits, Bool.and_eq_true, beq_iff_eq, decide_eq_true_eq] at this
        exact this.1
      have hbl : SetTable.below t.place 0 = 0 := by
        match hp : t.place with
        | ⟨[]⟩ => exact below_none 0
        | ⟨[j]⟩ => rw [below_one, if_neg (Nat.not_lt_zero _)]
        | ⟨_ :: _ :: _⟩ => rw [hp] at hpl; simp at hpl; omega
      exact h _ ls _ _ _ _ s.drawn hs1 hs2 (fun A' hA => walks_one hA hb D h1 hd (Nat.ne_of_lt hal)) ⟨0, ⟨hI, Heap.get?_push_of_some _ ho⟩, hbl⟩ (Nat.le_refl _)
        (fun b hb => by
          simp only [List.mem_cons, List.not_mem_nil, or_false] at hb
          rw [Heap.size_push]; exact hb.elim (fun q => q ▸ Nat.lt_succ_self _) fun q => q ▸ Nat.lt_succ_of_lt hal) (fun i h ⟨_, st, _⟩ => ⟨_, st.1⟩)
        (fun b hb => by
          simp only [List.mem_cons, List.not_mem_nil, or_false] at hb
          exact hb.elim (fun q => .inr (q ▸ Nat.le_refl _)) .inl) fun b x e => Heap.get?_push_of_some _ e
    · have hpn : t.plain = false := D.plain (by omega)
      have hc : (!false && (!t.plain && decide (es.size > 1))) = true := by
        have : es.size > 1 := by omega
        simp [this, hpn]
      rw [hc, if_pos rfl]
      refine wpAny_bind (draw_order _ _ _ (by simp) fun pl dr hp => ?_)
      have hlen : pl.length = ks.length := by rw [hp.length_eq, List.length_range, D.size]
      refine wpAny_bind (wpAny_newObj_type ?_ (by
        show (List.map (fun (i : Nat) => rawInt i) pl).toArray.size ≤ sizeLine
        rw [List.size_toArray, List.length_map, hlen]
        exact fits_of_scanBound hks))
      refine fin _ _ { s with drawn := dr, heap := _ } (Heap.get?_push_of_some _ ho) fun o' e => ?_
      subst e
      have hTp : (s.heap.push ({ cls := .type "tuple", data := .seq (List.map (fun (i : Nat) => rawInt i) pl).toArray } : Obj)).get? s.heap.objs.size = some { cls := .type "tuple", data := .seq (List.map (fun (i : Nat) => rawInt i) pl).toArray } := Heap.get?_push_size _ rfl
      generalize hH : s.heap.push ({ cls := .type "tuple", data := .seq (List.map (fun (i : Nat) => rawInt i) pl).toArray } : Obj) = H at hTp ⊢
      have hHs : H.objs.size = s.heap.objs.size + 1 := by rw [← hH, Heap.size_push]
      have hHa : H.get? a = some o := by rw [← hH]; exact Heap.get?_push_of_some _ ho
      have hI : (H.push (itObj a (.ref s.heap.objs.size) 0 es.size ep)).get? H.objs.size = some (itObj a (.ref s.heap.objs.size) 0 es.size ep) := Heap.get?_push_size _ rfl
      have hperm : (pl.map fun p => es.getD p (0, .none)).Perm es.toList := by
        refine (hp.map _).trans (.of_eq ?_)
        refine List.ext_getElem (by simp) fun i h1 h2 => ?_
        simp at h1
        simp [Array.getD, h1]
      obtain ⟨ls, hs1, hs2⟩ := vals_are D hperm
      rw [List.map_map] at hs1
      refine wpAny_pure ⟨_, rfl, "set_iterator", _, ⟨_, hI, rfl⟩, slot_si_next.lookup, ?_⟩
      refine h _ ls _ _ _ _ dr hs1 hs2 (fun A' hA => walks_drawn hA (T := s.heap.objs.size) (pl := pl) D hp hd (by simp; rfl) (Nat.ne_of_lt (hHs ▸ Nat.lt_succ_of_lt hal)) (Nat.ne_of_lt (hHs ▸ Nat.lt_succ_self _))) ⟨⟨hI, Heap.get?_push_of_some _ hHa⟩, Heap.get?_push_of_some _ hTp⟩ (hHs ▸ Nat.le_succ _)
        (fun b hb => ?_) (fun i h st => ⟨_, st.1.1⟩) (fun b hb => ?_) fun b x e => Heap.get?_push_of_some _ (by rw [← hH]; exact Heap.get?_push_of_some _ e)
      · simp only [List.mem_cons, List.not_mem_nil, or_false] at hb
        show b < (H.push _).objs.size
        rw [Heap.size_push, hHs]
        rcases hb with rfl | rfl | rfl
        · rw [← hHs]; exact Nat.lt_succ_self _
        · exact Nat.lt_succ_of_lt (Nat.lt_succ_of_lt hal)
        · exact Nat.lt_succ_of_lt (Nat.lt_succ_self _)
      · simp only [List.mem_cons, List.not_mem_nil, or_false] at hb
        rcases hb with rfl | rfl | rfl
        · exact .inr (hHs ▸ Nat.le_succ _)
        · exact .inl rfl
        · exact .inr (Nat.le_refl _)
end
end Mine
end

section
open PySem PyProof.Rows
set_option Elab.async false
set_option maxRecDepth 100000
namespace Mine
section
variable {prog : Program} {w : World} {A : Around} {E : Value → Shared → Prop} {s : Shared} {a : Addr} {o : Obj} {ks : List Str}

theorem setS_noDict (ho : s.heap.get? a = some o) (hS : SetS w o ks) : ∀ b, Value.ref a = .ref b → ∃ ob, s.heap.get? b = some ob ∧ ob.dict = none :=
  fun b e => by injection e with e; subst e; exact ⟨o, ho, hS.1.2.1⟩
theorem get_copy {pl : Sem Bool} {Q : Value × List Value → Shared → Prop} (ho : s.heap.get? a = some o) (hS : SetS w o ks) (h : Q (.builtin "set.copy", [.ref a]) s) : wpAny (model prog w) A (getMethod (.ref a) "copy" pl) Q E s :=
  getMethod_builtin ⟨o, ho, hS.1.1⟩ F.plainAttrs_set F.slot_set_copy F.type_set_copy (setS_noDict ho hS) h
theorem get_remove {pl : Sem Bool} {Q : Value × List Value → Shared → Prop} (ho : s.heap.get? a = some o) (hS : SetS w o ks) (h : Q (.builtin "set.remove", [.ref a]) s) : wpAny (model prog w) A (getMethod (.ref a) "remove" pl) Q E s :=
  getMethod_builtin ⟨o, ho, hS.1.1⟩ F.plainAttrs_set F.slot_set_remove F.type_set_remove (setS_noDict ho hS) h

/-- s.copy() of a small set without gaps -/
theorem call_copy {Q : Value → Shared → Prop} (ho : s.heap.get? a = some o) (hS : SetS w o ks) (hC : Cl o) (h4 : ks.length ≤ 4)
    (h : ∀ h' o', h'.get? s.heap.objs.size = some o' → SetS w o' ks → (∀ b x, s.heap.get? b = some x → h'.get? b = some x) → Q (.ref s.heap.objs.size) { s with heap := h' }) :
    wpAny (model prog w) A (call (.builtin "set.copy") [.ref a]) Q E s := by
  obtain ⟨hx, es, ep, t, hd, D⟩ := id hS
  obtain ⟨c1, c2⟩ := hC _ _ _ hd
  have hT : s.TypeIs (.ref a) "set" := ⟨o, ho, hx.1⟩
  have hal : a < s.heap.objs.size := Heap.lt_size ho
  refine wpAny_call_entry F.slot_set_copy hT F.entry_set_copy ?_ (F.args_set_copy_1 _)
  unfold Builtin.«set.copy»
  refine wpAny_bind (m := Builtin.Frozenset.noArgs "copy" ⟨[.ref a], []⟩) (wpAny_pure ?_)
  unfold Builtin.Frozenset.copyOf Builtin.Frozenset.baseOf
  refine wpAny_bind (wpAny_bind ?_)
  refine wpAny_bind (wpAny_isInstance hT sub_set_self (wpAny_pure ?_))
  simp only [if_true]
  refine wpAny_bind (new_set (w := w) ?_)
  refine wpAny_bind (m := Builtin.Frozenset.addrOf (.ref s.heap.objs.size)) (wpAny_pure ?_)
  have hS1 : (s.heap.push (freshSet w)).get? s.heap.objs.size = some (freshSet w) := Heap.get?_push_size _ rfl
  have ho1 : (s.heap.push (freshSet w)).get? a = some o := Heap.get?_push_of_some _ ho
  have hsz := D.size
  unfold setMerge
  have hne : (s.heap.objs.size == a) = false := by rw [beq_eq_false_iff_ne]; exact Nat.ne_of_gt hal
  rw [hne]
  simp only [Bool.false_eq_true, if_false]
  refine wpAny_bind (wpAny_bind (wpAny_setState_of ho1 hd D.fits ?_))
  dsimp only
  by_cases he : es.isEmpty = true
  · rw [if_pos he]
    have hks : ks = [] := by
      have : es.size = 0 := by simpa using he
      exact List.length_eq_zero_iff.mp (by omega)
    subst hks
    exact wpAny_pure (wpAny_pure (wpAny_pure ⟨_, rfl, h _ _ hS1 (freshSet_is w) fun b x e => Heap.get?_push_of_some _ e⟩))
  · rw [if_neg he]
    have hpos : 0 < es.size := by
      have : ¬ es.size = 0 := by simpa using he
      omega
    unfold setRoomFor
    have hf0 : (SetTable.fresh 0 0 (!byTx w)).fits 0 = true := rfl
    refine wpAny_bind (wpAny_bind (wpAny_setState_of (es := #[]) hS1 rfl hf0 ?_))
    have hr : (SetTable.fresh 0 0 (!byTx w)).roomFor es.size = none := by
      unfold SetTable.roomFor SetTable.fresh SetTable.fill
      rw [if_neg]
      simp; omega
    dsimp only
    rw [hr]
    refine wpAny_pure ?_
    refine wpAny_bind (wpAny_setState_of (es := #[]) hS1 rfl hf0 ?_)
    have hroad : (SetTable.fresh 0 0 (!byTx w)).road t = .slotForSlot := by
      unfold SetTable.road SetTable.fresh SetTable.fill
      simp [c1, c2]
    dsimp only
    rw [hroad]
    dsimp only
    refine wpAny_storeSet_of hS1 rfl ?_ (fits_of_scanBound (by unfold scanBound; omega))
    have hget := store_get (es' := es) (t' := { t with finger := 0, led := (!byTx w) && t.led, moves := 0, plain := true && t.plain }) hS1 rfl
    refine wpAny_pure (wpAny_pure ⟨_, rfl, h _ _ hget ⟨⟨rfl, rfl, rfl⟩, es, _, _, rfl, ⟨D.keys, D.perm, D.fits, ?_, fun _ => ?_⟩⟩ fun b x e => ?_⟩)
    · show ((!byTx w) && t.led) = !byTx w
      rw [D.led]; cases byTx w <;> rfl
    · show (true && t.plain) = false
      rw [D.plain (by omega)]; rfl
    · exact (Heap.SameBut.update ..).extBut b x (Nat.ne_of_lt (Heap.lt_size e)) (Heap.get?_push_of_some _ e)

theorem erase_at (es : Array (Int × Value)) (j : Nat) : (SetTable.eraseAt es j).toList = es.toList.eraseIdx j := by
  unfold SetTable.eraseAt
  rw [List.eraseIdx_eq_take_drop_succ]
  simp [List.extract_eq_take_drop, List.take_of_length_le]
theorem erase_size {α : Type} (xs : Array α) (j : Nat) (h : j < xs.size) : (SetTable.eraseAt xs j).size + 1 = xs.size := by
  unfold SetTable.eraseAt
  simp; omega

/-- s.remove(x) of a text within -/
theorem call_remove {k : Str} {tk : Tok} {Q : Value → Shared → Prop} (ho : s.heap.get? a = some o) (hS : SetS w o ks) (hk : k ∈ ks) (hb : ks.length < scanBound)
    (h : ∀ h' tk' o', Heap.SameBut a s.heap h' → h'.get? a = some o' → SetS w o' (ks.erase k) → Q .none { s with heap := h', toks := tk' }) :
    wpAny (model prog w) A (call (.builtin "set.remove") [.ref a, .str k tk]) Q E s := by
  obtain ⟨hx, es, ep, t, hd, D⟩ := id hS
  have hT : s.TypeIs (.ref a) "set" := ⟨o, ho, hx.1⟩
  have hel := D.elems prog
  have hsz := D.size
  refine wpAny_call_entry F.slot_set_remove hT F.entry_set_remove ?_ (F.args_set_remove_2 _ _)
  unfold Builtin.«set.remove»
  refine wpAny_bind (m := Builtin.Frozenset.oneOther "remove" ⟨[.ref a, .str k tk], []⟩) (wpAny_pure ?_)
  dsimp only
  unfold Builtin.Frozenset.withSetAsKey
  refine wpAny_bind (wpAny_tryCatch ?_)
  unfold setDiscard
  refine wpAny_holding (wpAny_bind ((strKind prog w).pyHash (k := k) (strKind_is _ _ _ _) ?_))
  unfold setDiscardHashed setFind setFindIn
  refine wpAny_bind (wpAny_bind (wpAny_setState_of (s := { s with toks := s.toks + 1 }) ho hd D.fits ?_))
  dsimp only
  rw [byScan_of (knd := strKind prog w) rfl (by omega) hel]
  simp only [if_true]
  refine wpAny_bind (wpAny_rule (wpAny_bind (wpAny_setScan_of (knd := strKind prog w) (s := { s with toks := s.toks + 1 }) (strKind_is _ _ _ _) ho hd D.fits hel ?_)))
  cases hf : es.toList.findIdx? (fun e => (strKind prog w).is k e.2) with
  | none =>
    obtain ⟨e, he, hke⟩ := (D.mem prog k).mp hk
    have := List.findIdx?_eq_none_iff.mp hf e he
    rw [hke] at this; cases this
  | some j =>
    obtain ⟨hj, hkj, _⟩ := List.findIdx?_eq_some_iff_getElem.mp hf
    have hj' : j < es.size := by simpa using hj
    dsimp only
    refine wpAny_pure ?_
    dsimp only
    simp only [Nat.zero_add]
    refine wpAny_bind (wpAny_setState_of (s := { s with toks := s.toks + 1 }) ho hd D.fits ?_)
    dsimp only
    have hes := erase_size es j hj'
    refine wpAny_bind (wpAny_storeSet_of (s := { s with toks := s.toks + 1 }) ho hd ?_ (fits_of_scanBound (by omega)))
    refine wpAny_bind (wpAny_point (wpAny_pure ?_))
    simp only [Bool.not_true, Bool.false_eq_true, if_false]
    refine wpAny_pure ⟨_, rfl, h _ _ _ (Heap.SameBut.update ..) (store_get ho hd) ⟨hx, _, _, _, rfl, ?_⟩⟩
    have hft : (t.place.size == es.size && decide (t.place.size + t.dummies.size ≤ t.mask)) = true := D.fits
    rw [Bool.and_eq_true] at hft
    have hft1 := eq_of_beq hft.1
    have hft2 := of_decide_eq_true hft.2
    have hpj : t.place[j]? = some t.place[j] := Array.getElem?_eq_getElem (by omega)
    have hps := erase_size t.place j (by omega)
    have hds : (SetTable.insertAt t.dummies (SetTable.below t.dummies t.place[j]) t.place[j]).size = t.dummies.size + 1 := by
      rw [← Array.length_toList, (SetTable.insertAt_perm _ _ _).length_eq]; simp
    have hdrop : t.drop j = { t with place := SetTable.eraseAt t.place j, dummies := SetTable.insertAt t.dummies (SetTable.below t.dummies t.place[j]) t.place[j] } := by
      unfold SetTable.drop; rw [hpj]
    rw [hdrop]
    refine ⟨fun e he => ?_, ?_, ?_, D.led, fun _ => D.plain (by omega)⟩
    · rw [erase_at] at he
      exact D.keys e (List.mem_of_mem_eraseIdx he)
    · rw [erase_at]
      have hkey : keyAt es.toList[j] = k := by
        obtain ⟨k', tk', e⟩ := D.keys _ (List.getElem_mem hj)
        rw [e] at hkj ⊢
        exact (strKind prog w).inj _ k' k (strKind_is _ _ _ _) hkj
      have hp := (erase_perm hj).map keyAt
      rw [List.map_cons, hkey] at hp
      have hp2 : (k :: (es.toList.eraseIdx j).map keyAt).Perm (k :: ks.erase k) := hp.trans (D.perm.trans (List.perm_cons_erase hk))
      exact hp2.cons_inv
    · show ((SetTable.eraseAt t.place j).size == (SetTable.eraseAt es j).size && decide ((SetTable.eraseAt t.place j).size + (SetTable.insertAt t.dummies (SetTable.below t.dummies t.place[j]) t.place[j]).size ≤ t.mask)) = true
      rw [hds, Bool.and_eq_true, beq_iff_eq, decide_eq_true_eq]
      omega
end
end Mine
end

section
open PySem PyProof.Rows
set_option Elab.async false
set_option maxRecDepth 100000
namespace Mine
theorem entry_set_eq : entryFor table "set.__eq__" = some Builtin.«frozenset.__eq__» :=
  entryFor_alias (id' := "frozenset.__eq__") (by kernel_rfl) rfl (by decide +kernel) (by kernel_rfl)
theorem sub_set_frozen : isSubtype (.type "set") (.type "frozenset") = pure false := by rw [isSubtype_type]; kernel_rfl
section
variable {prog : Program} {w : World} {A : Around} {E : Value → Shared → Prop} {s : Shared} {a b : Addr} {o o' : Obj} {ks ls : List Str}
theorem forIn_same {M : Model} {α β : Type} {b0 : β} {f : α → β → Sem (ForInStep β)} {Q : β → Shared → Prop} : ∀ {l : List α}, (∀ x ∈ l, ∀ (Q' : ForInStep β → Shared → Prop), Q' (.yield b0) s → wpAny M A (f x b0) Q' E s) → Q b0 s → wpAny M A (forIn l b0 f) Q E s
  | [], _, h => by rw [List.forIn_nil]; exact wpAny_pure h
  | x :: r, hf, h => by
    rw [List.forIn_cons]
    refine wpAny_bind (hf x List.mem_cons_self _ ?_)
    exact forIn_same (fun y hy => hf y (List.mem_cons_of_mem _ hy)) h
theorem subset_true {es es' : Array (Int × Value)} {ep ep' : Nat} {t t' : SetTable} {Q : Bool → Shared → Prop} {id : String} (ho : s.heap.get? a = some o) (hd : o.data = .set es ep t) (D : SetD w es t ks) (ho' : s.heap.get? b = some o') (hx' : o'.ExactSet) (hd' : o'.data = .set es' ep' t') (D' : SetD w es' t' ls)
    (hp : ks.Perm ls) (hb : ks.length < scanBound) (h : Q true s) : wpAny (model prog w) A (Builtin.Frozenset.subsetOf id a b) Q E s := by
  unfold Builtin.Frozenset.subsetOf Builtin.Frozenset.sizeOf
  have hsz : es.size = es'.size := by rw [D.size, D'.size, hp.length_eq]
  refine wpAny_bind (wpAny_bind (wpAny_setEntries_of ho hd D.fits (wpAny_pure ?_)))
  refine wpAny_bind (wpAny_bind (wpAny_setEntries_of ho' hd' D'.fits (wpAny_pure ?_)))
  rw [if_neg (by omega)]
  refine wpAny_bind (wpAny_setEpoch_of ho hd D.fits ?_)
  unfold Builtin.Frozenset.walkUnseen
  refine wpAny_bind (wpAny_bind (wpAny_setEntries_of ho hd D.fits ?_))
  refine wpAny_bind (wpAny_setEntries_of ho' hd' D'.fits ?_)
  have hk : ∀ e ∈ es.toList ++ es'.toList, skey w e := fun e he => (List.mem_append.mp he).elim (D.keys e) (D'.keys e)
  refine wpAny_bind (forIn_same (fun x hx Q' q => ?_) ?_)
  · obtain ⟨k, tk, rfl⟩ := hk x hx
    exact wpAny_bind (m := Builtin.Frozenset.quietEq (.str k tk)) (wpAny_pure (wpAny_pure q))
  · dsimp only
    refine wpAny_pure ?_
    refine wpAny_bind (forIn_same (fun x hx Q' q => ?_) ?_)
    · obtain ⟨k, tk, rfl⟩ := D.keys x hx
      dsimp only
      have hmem : k ∈ ls := hp.mem_iff.mp ((D.mem prog k).mpr ⟨_, hx, strKind_is _ _ _ _⟩)
      refine wpAny_bind (wpAny_holding (wpAny_setFind_of (knd := strKind prog w) (strKind_is _ _ _ _) rfl (D'.setOf prog ho' hx' hd' (by rw [← hp.length_eq]; exact hb)) fun r hr => ?_))
      rw [decide_eq_true hmem] at hr
      obtain ⟨i, rfl⟩ := Option.isSome_iff_exists.mp hr
      simp only [Option.isNone_some, Bool.false_eq_true, if_false]
      unfold Builtin.Frozenset.unchanged
      refine wpAny_bind (wpAny_bind (wpAny_setEpoch_of ho hd D.fits ?_))
      rw [if_neg (by simp)]
      exact wpAny_pure (wpAny_pure q)
    · exact wpAny_pure h
theorem call_eq {Q : Value → Shared → Prop} (hu : A.units < cLine) (ho : s.heap.get? a = some o) (hS : SetS w o ks) (ho' : s.heap.get? b = some o') (hS' : SetS w o' ls) (hp : ks.Perm ls) (hb : ks.length < scanBound)
    (h : Q (.bool true) s) : wpAny (model prog w) A (richCompare .Eq (.ref a) (.ref b)) Q E s := by
  obtain ⟨hx, es, ep, t, hd, D⟩ := id hS
  obtain ⟨hx', es', ep', t', hd', D'⟩ := id hS'
  have hT : s.TypeIs (.ref a) "set" := ⟨o, ho, hx.1⟩
  have hT' : s.TypeIs (.ref b) "set" := ⟨o', ho', hx'.1⟩
  refine wpAny_richCompare_same_room hT hT' F.slot_set_eq (wpAny_call_entry F.slot_set_eq hT entry_set_eq ?_ (F.args_set_eq_2 _ _)) hu
  unfold Builtin.«frozenset.__eq__»
  wp_delta
  refine wpAny_bind (m := Builtin.Frozenset.slot1 "__eq__" ⟨[.ref a, .ref b], []⟩) (wpAny_pure ?_)
  dsimp only
  unfold Builtin.Frozenset.isAnySet
  refine wpAny_bind (m := (isInstance (Value.ref b) (Value.type "set") <||> isInstance (Value.ref b) (Value.type "frozenset"))) ?_
  unfold orM
  refine wpAny_bind (wpAny_isInstance hT' sub_set_self (wpAny_pure ?_))
  simp only [Bool.not_true, Bool.false_eq_true, if_false]
  refine wpAny_bind (m := Builtin.Frozenset.addrOf (.ref a)) (wpAny_pure ?_)
  refine wpAny_bind (m := Builtin.Frozenset.addrOf (.ref b)) (wpAny_pure ?_)
  unfold Builtin.Frozenset.sizeOf
  refine wpAny_bind (wpAny_bind (wpAny_setEntries_of ho hd D.fits (wpAny_pure ?_)))
  refine wpAny_bind (wpAny_bind (wpAny_setEntries_of ho' hd' D'.fits (wpAny_pure ?_)))
  have hsz : es.size = es'.size := by rw [D.size, D'.size, hp.length_eq]
  refine wpAny_bind ?_
  rw [if_neg (by rw [hsz]; simp)]
  refine wpAny_bind (m := (isInstance (Value.ref a) (Value.type "frozenset") <&&> isInstance (Value.ref b) (Value.type "frozenset"))) ?_
  unfold andM
  refine wpAny_bind (wpAny_isInstance hT sub_set_frozen (wpAny_pure ?_))
  simp only [Bool.false_eq_true, if_false]
  refine subset_true ho hd D ho' hx' hd' D' hp hb ?_
  exact wpAny_pure ⟨_, rfl, (fun q => nomatch q), h⟩
end
end Mine
end

section
open PySem PyProof.Rows
set_option Elab.async false
set_option maxRecDepth 100000
namespace Mine
theorem lookup_set_len : typeLookup (.type "set") "__len__" = pure (some (.builtin "set.__len__")) := by rw [typeLookup_type, builtinLookup_eq_fast]; kernel_rfl
section
variable {prog : Program} {w : World} {A : Around} {E : Value → Shared → Prop} {s : Shared} {a b : Addr} {o o' : Obj} {ks ls : List Str}

theorem collect_set {Q : List Value → Shared → Prop} (hhh : A.handled = none) (ho : s.heap.get? a = some o) (hS : SetS w o ks) (hb : ks.length < scanBound)
    (h : ∀ vs ls h' dr tk, StrsAre vs ls → ls.Perm ks → s.heap.objs.size ≤ h'.objs.size → (∀ b x, s.heap.get? b = some x → h'.get? b = some x) → Q vs { s with heap := h', drawn := dr, toks := tk }) :
    wpAny (model prog w) A (collect (.ref a)) Q E s := by
  have hT0 : s.TypeIs (.ref a) "set" := ⟨o, ho, hS.1.1⟩
  have hal : a < s.heap.objs.size := Heap.lt_size ho
  unfold collect
  refine wpAny_bind (wpAny_runValue (codeAny_builtin PySem.F.entry_proto_collect ?_))
  rw [Around.under_plainId PySem.F.plain_proto_collect _]
  show wpAny _ A.in1 (newList [] >>= fun l => again (.builtin "list.__iadd__" ⟨[l, .ref a], []⟩)) _ _ s
  refine wpAny_bind (wpAny_newObj_type ?_)
  refine wpAny_pure ⟨plainId_quiet PySem.F.plain_list_iadd _, codeAny_builtin PySem.F.entry_list_iadd ?_⟩
  rw [Around.under_plainId PySem.F.plain_list_iadd _]
  generalize hH : s.heap.push ({ cls := .type "list", data := .seq ([] : List Value).toArray } : Obj) = H
  have hS₁ : H.get? s.heap.objs.size = some { cls := .type "list", data := .seq ([] : List Value).toArray } := by rw [← hH]; exact Heap.get?_push_size _ rfl
  have ho1 : H.get? a = some o := by rw [← hH]; exact Heap.get?_push_of_some _ ho
  have hHs : H.objs.size = s.heap.objs.size + 1 := by rw [← hH, Heap.size_push]
  have hne : s.heap.objs.size ≠ a := Nat.ne_of_gt hal
  show wpAny _ A.in1 (Builtin.List.listExtendWith (.ref s.heap.objs.size) (.ref a) (.ref s.heap.objs.size)) _ _ { s with heap := H }
  have hT : Shared.TypeIs { s with heap := H } (.ref a) "set" := ⟨o, ho1, hS.1.1⟩
  unfold Builtin.List.listExtendWith
  refine wpAny_bind (wpAny_typeOf hT ?_)
  have h1 : Builtin.List.listSameRef (.ref s.heap.objs.size) (.ref a) = false := by simp [Builtin.List.listSameRef, hne]
  rw [if_neg (by rw [h1]; decide)]
  refine wpAny_bind (set_iter (s := { s with heap := H }) ho1 hS hb fun vs ls I fp St h₁ dr hv hp W hst hI hfp hIo hfo hk => ?_)
  have hSf : s.heap.objs.size ∉ fp := fun hm => (hfo _ hm).elim hne fun q => by
    have q' : H.objs.size ≤ s.heap.objs.size := q
    rw [hHs] at q'; exact Nat.lt_irrefl _ q'
  have hTa : Shared.TypeIs { s with heap := h₁, drawn := dr } (.ref a) "set" := ⟨o, hk a o ho1, hS.1.1⟩
  refine wpAny_bind (wpAny_holding ?_)
  unfold Builtin.List.listLengthHint
  refine wpAny_bind (wpAny_specialOf hTa lookup_set_len ?_)
  dsimp only
  rw [show splitId "set.__len__" = some ("set", "__len__") from by decide +kernel]
  dsimp only
  refine wpAny_bind (wpAny_isInstance hTa sub_set_self ?_)
  simp only [Bool.not_true, Bool.false_eq_true, if_false]
  rw [if_pos (by decide)]
  refine wpAny_bind (wpAny_typeOf hTa ?_)
  refine wpAny_pure ?_
  rw [if_pos (by decide)]
  refine wpAny_bind (wpAny_rule ?_)
  have hSl := hk _ _ hS₁
  refine wpAny_bind ?_
  show wpAny _ A.in1 (updateSeq s.heap.objs.size (·.push .none) >>= fun _ => updateSeq s.heap.objs.size (·.pop)) _ _ _
  refine wpAny_bind (wpAny_updateSeq hSl rfl ?_)
  have hS₂ := Heap.get?_update_self (Obj.mapSeq (·.push Value.none)) hSl rfl
  refine wpAny_updateSeq hS₂ rfl ?_
  have hS₃ := Heap.get?_update_self (Obj.mapSeq (·.pop)) hS₂ rfl
  generalize hH3 : (h₁.update s.heap.objs.size (Obj.mapSeq (·.push Value.none))).update s.heap.objs.size (Obj.mapSeq (·.pop)) = h₃ at hS₃ ⊢
  have oth : ∀ b x, b ≠ s.heap.objs.size → h₁.get? b = some x → h₃.get? b = some x := fun b x hb' e => by
    rw [← hH3]; exact (Heap.get?_update_other _ _ (Ne.symm hb')).trans ((Heap.get?_update_other _ _ (Ne.symm hb')).trans e)
  refine wpAny_pure ⟨plainId_quiet PySem.F.plain_extend_loop _, codeAny_extend_loopS (W A.in1 hhh).toS (fits_of_scanBound hb) _ hSf _ ks.length 0 _ _ _ rfl (Nat.zero_le _)
    ((W A.in1 hhh).frame 0 _ _ hst fun b hb' x e => oth b x (fun q => hSf (q ▸ hb')) e) hS₃ (ItemsOf.nil _) fun s' acc' c' hm hS' hacc => ?_⟩
  show wpAny _ A (load s.heap.objs.size >>= _) _ _ s'
  refine wpAny_bind (wpAny_load hS' ?_)
  have hvs : acc'.toList = vs := by
    have hlen : vs.length = ks.length := by rw [hv.len_eq, hp.length_eq]
    refine List.ext_getElem? fun i => ?_
    by_cases hi : i < ks.length
    · have hi' : i < acc'.size := by rw [hacc.1]; exact hi
      have h2 := hacc.2 i acc'[i] (Array.getElem?_eq_getElem hi')
      rw [Array.getElem?_toList, Array.getElem?_eq_getElem hi']
      exact h2.symm
    · rw [Array.getElem?_toList, Array.getElem?_eq_none (by rw [hacc.1]; omega), List.getElem?_eq_none (by omega)]
  obtain ⟨h', g', d', tk', os'⟩ := s'
  have eg : g' = s.gens := hm.gens
  have ed : d' = dr := hm.drawn
  have eo : os' = s.os := hm.os
  subst eg; subst ed; subst eo
  dsimp only
  rw [hvs]
  refine wpAny_pure (h vs ls h' _ tk' hv hp (Nat.le_of_lt (Heap.lt_size hS')) fun b x e => ?_)
  have hbs : b ≠ s.heap.objs.size := Nat.ne_of_lt (Heap.lt_size e)
  refine hm.heap b x ?_ (oth b x hbs (hk b x (by rw [← hH]; exact Heap.get?_push_of_some _ e)))
  have hbI : b ≠ I := fun q => by
    have h1 : H.objs.size ≤ I := hI
    rw [hHs, ← q] at h1
    exact absurd (Heap.lt_size e) (Nat.not_lt.mpr (Nat.le_of_lt h1))
  simp only [List.mem_cons, List.not_mem_nil, or_false, not_or]
  exact ⟨hbs, hbI⟩

/-- sorted(set): a new list of its texts, rising -/
theorem sorted_set {Q : Value → Shared → Prop} (hhh : A.handled = none) (ho : s.heap.get? a = some o) (hS : SetS w o ks) (h64 : ks.length < 64)
    (h : ∀ (R : Addr) (n : Nat) vs ls h' dr tk, s.heap.objs.size ≤ R → h'.get? R = some (seqObj "list" vs.toArray n) → StrsAre vs ls → ls.Perm ks → sortedS ls = true →
      (∀ b x, s.heap.get? b = some x → h'.get? b = some x) → Q (.ref R) { s with heap := h', drawn := dr, toks := tk }) :
    wpAny (model prog w) A (call (.builtin "sorted") [.ref a]) Q E s := by
  refine Calls.call_function_entry kind_sorted plain_sorted entry_sorted (args_sorted1 _) ?_
  unfold Builtin.«sorted»
  refine wpAny_bind (m := checkCount "sorted" 1 1 _) (wpAny_pure ?_)
  refine wpAny_bind (collect_set (by simpa using hhh) ho hS (by unfold scanBound; omega) fun vs ls h₁ dr tk hv hp hle hk => ?_)
  have hlen : vs.length = ks.length := by rw [hv.len_eq, hp.length_eq]
  refine wpAny_bind (wpAny_newObj_type ?_ (by
    show vs.toArray.size ≤ sizeLine
    rw [List.size_toArray, hlen]; exact fits_of_scanBound (by unfold scanBound; omega)))
  have hoL : (h₁.push (seqObj "list" vs.toArray 0)).get? h₁.objs.size = some (seqObj "list" vs.toArray 0) := Heap.get?_push_size _ rfl
  refine wpAny_bind (wpAny_holding (wpAny_call_entry slot_list_sort ⟨_, hoL, rfl⟩ entry_list_sort (list_sort_treeK (κ := PyProof.Rows.strKind) strKind_oneLt hoL hv.keysOf (fun v₁ v₂ rest e => keyKind_strs (by rw [← e]; exact hv)) (by omega) fun st' a1 a2 => ⟨_, rfl, ?_⟩) (args_list_sort _)))
  obtain ⟨ss, h1, h2, h3⟩ := sorted_out_str hv a1 a2
  obtain ⟨e, he⟩ := sortedHeap_at hoL (out := (arrOf st').map (·.2))
  refine wpAny_pure ⟨_, rfl, ?_⟩
  refine h _ e ((arrOf st').map (·.2)).toList ss _ dr _ hle ?_ h1 (h2.trans hp) h3 fun b x e => ?_
  · rw [Array.toArray_toList]; exact he
  · have e1 := hk b x e
    exact (sortedHeap_old (Nat.ne_of_lt (Heap.lt_size e1)) (by rw [Heap.size_push]; exact Nat.lt_succ_of_lt (Heap.lt_size e1))).trans (Heap.get?_push_of_some _ e1)
end
end Mine
end

section
open PySem PySem.Calls PyProof.Rows
set_option Elab.async false
set_option maxRecDepth 100000
namespace Mine

/-- what a step keeps: every object off `wr` -/
structure Ext (wr : List Addr) (s s' : Shared) : Prop where
  keep : ∀ b o, b ∉ wr → s.heap.get? b = some o → s'.heap.get? b = some o
  size : s.heap.objs.size ≤ s'.heap.objs.size
  os : s'.os = s.os
  bare : AllBare s.gens → AllBare s'.gens
theorem Ext.refl (wr : List Addr) (s : Shared) : Ext wr s s := ⟨fun _ _ _ e => e, Nat.le_refl _, rfl, id⟩
theorem Ext.trans {wr : List Addr} {a b c : Shared} (x : Ext wr a b) (y : Ext wr b c) : Ext wr a c :=
  ⟨fun b o h e => y.keep b o h (x.keep b o h e), Nat.le_trans x.size y.size, y.os.trans x.os, fun h => y.bare (x.bare h)⟩
theorem Ext.mono {wr wr' : List Addr} {a b : Shared} (x : Ext wr a b) (h : ∀ p ∈ wr, p ∈ wr') : Ext wr' a b :=
  ⟨fun b o hb e => x.keep b o (fun q => hb (h b q)) e, x.size, x.os, x.bare⟩
theorem Ext.of_heap {wr : List Addr} {s : Shared} {h' : Heap} {tk : Nat} {dr : Drawn} (k : ∀ b o, b ∉ wr → s.heap.get? b = some o → h'.get? b = some o) (hs : s.heap.objs.size ≤ h'.objs.size) :
    Ext wr s { s with heap := h', toks := tk, drawn := dr } := ⟨k, hs, rfl, id⟩
/-- new places may be written to -/
theorem Ext.drop {wr wr' : List Addr} {s s' : Shared} (x : Ext wr' s s') (h : ∀ p ∈ wr', p ∈ wr ∨ s.heap.objs.size ≤ p) : Ext wr s s' :=
  ⟨fun b o hb e => x.keep b o (fun q => (h b q).elim hb fun hle => absurd (Heap.lt_size e) (Nat.not_lt.mpr hle)) e, x.size, x.os, x.bare⟩

/-- the ground: names of the module, the built-ins' names, no limit set, the module of built-ins -/
structure Gb (mg mb : Str → Option Value) (h : Heap) : Prop where
  g : h.Ns mainGlobals mg
  b : h.Ns builtinsNs mb
  lim : h.NoLimit
  bm : ∃ bm ob, BMod h mainGlobals mg bm ob
abbrev Kp (h h' : Heap) : Prop := ∀ b o, h.get? b = some o → h'.get? b = some o
theorem Gb.keeps {mg mb : Str → Option Value} {h h' : Heap} (G : Gb mg mb h) (k : Kp h h') : Gb mg mb h' where
  g := G.g.keeps k
  b := G.b.keeps k
  lim := G.lim.keeps k
  bm := let ⟨bm, ob, B⟩ := G.bm; ⟨bm, ob, ⟨B.ns.keeps k, B.name, B.ne, k _ _ B.obj, B.cls, B.dict, B.data⟩⟩

/-- a pair of texts; a list of pairs -/
def PairAt (h : Heap) (v : Value) (p : Str × Str) : Prop := ∃ a t1 t2, v = .ref a ∧ h.IsTuple a #[.str p.1 t1, .str p.2 t2]
inductive PairsAt (h : Heap) : List Value → List (Str × Str) → Prop
  | nil : PairsAt h [] []
  | cons {v p vs ps} : PairAt h v p → PairsAt h vs ps → PairsAt h (v :: vs) (p :: ps)
theorem IsTuple.keeps {h h' : Heap} {a : Addr} {vs : Array Value} (x : h.IsTuple a vs) (k : Kp h h') : h'.IsTuple a vs := let ⟨o, e, r⟩ := x; ⟨o, k _ _ e, r⟩
theorem IsList.keeps {h h' : Heap} {a : Addr} {vs : Array Value} (x : h.IsList a vs) (k : ∀ o, h.get? a = some o → h'.get? a = some o) : h'.IsList a vs := let ⟨o, e, r⟩ := x; ⟨o, k _ e, r⟩
theorem PairsAt.length {h : Heap} {vs : List Value} {ps : List (Str × Str)} (x : PairsAt h vs ps) : vs.length = ps.length := by
  induction x with
  | nil => rfl
  | cons _ _ ih => simp [ih]
theorem PairsAt.get {h : Heap} {vs : List Value} {ps : List (Str × Str)} (x : PairsAt h vs ps) {i : Nat} {p : Str × Str} (hp : ps[i]? = some p) : ∃ v, vs[i]? = some v ∧ PairAt h v p := by
  induction x generalizing i with
  | nil => simp at hp
  | @cons v q vs ps hv _ ih =>
    cases i with
    | zero => simp at hp; subst hp; exact ⟨_, rfl, hv⟩
    | succ i => simp at hp; obtain ⟨v, h1, h2⟩ := ih hp; exact ⟨v, by simpa using h1, h2⟩
theorem PairsAt.all {h h' : Heap} {vs : List Value} {ps : List (Str × Str)} (x : PairsAt h vs ps) (k : ∀ v ∈ vs, ∀ p, PairAt h v p → PairAt h' v p) : PairsAt h' vs ps := by
  induction x with
  | nil => exact .nil
  | cons hv _ ih => exact .cons (k _ List.mem_cons_self _ hv) (ih fun v hm => k v (List.mem_cons_of_mem _ hm))
theorem PairAt.keeps {h h' : Heap} {v : Value} {p : Str × Str} (x : PairAt h v p) (k : ∀ a, v = .ref a → ∀ o, h.get? a = some o → h'.get? a = some o) : PairAt h' v p :=
  let ⟨a, t1, t2, e, o, ho, r⟩ := x; ⟨a, t1, t2, e, o, k a e o ho, r⟩

section
variable {M : Model} {A : Around} {E : Value → Shared → Prop} {s : Shared}
/-- the code object of a generator expression, found or made -/
theorem gen_code {env : Env} {c P : Addr} {ps : Array Value} {pos : Pos} {qualname : Str} {scope : Scope} {Q : Value → Shared → Prop} (hc : env.code = .ref c) (hok : s.heap.IsCode c P ps) (htab : s.heap.TableAt c P ps)
    (hQ : ∀ v h' tk ps', Heap.ExtBut P s.heap h' → s.heap.objs.size ≤ h'.objs.size → h'.IsCode c P ps' → h'.TableAt c P ps' → Q v { s with heap := h', toks := tk }) :
    wpAny M A (genexprCode env pos qualname scope) Q E s := by
  cases hf : codeAmong pos ps.toList with
  | some cv => exact wpAny_genexprCode_hit hc hok hf (hQ cv s.heap s.toks ps (Heap.ExtBut.refl _ _) (Nat.le_refl _) hok htab)
  | none => exact wpAny_genexprCodeX hc hok htab hf fun c' h' tk hx h1 h2 hok' _ htab' _ => hQ _ h' tk _ hx (Nat.le_of_lt (Nat.lt_of_le_of_lt h1 h2)) hok' htab'
end

section
variable {prog : Program} {w : World} {A : Around} {E : Value → Shared → Prop} {s : Shared} {mg mb : Str → Option Value}

theorem name_builtin {hb : Heap} {env : Env} {x : Str} {pos : Pos} {v : Value} {Q : Value → Shared → Prop} (G : Gb mg mb hb) (kp : Kp hb s.heap) (hk : env.scope.kind = .function) (hg : env.globals = mainGlobals) (hbl : env.builtins = builtinsNs)
    (hx : env.kindOf x = some .globalImplicit) (h1 : mg x = none) (h2 : mb x = some v) (h : Q v s) (hd : (x == ("__debug__" : Str)) = false := by decide) : wpAny (model prog w) A (eval (.Name x pos) env) Q E s :=
  Name_function_global hk hx (loadGlobal_builtin (by rw [hg]; exact G.g.keeps kp) h1 (by rw [hbl]; exact G.b.keeps kp) h2 h) hd

theorem closure_gen {env : Env} {gsc : Scope} {xa xb t : Str} {ct : Addr} (hn : gsc.names = [(Str.ofString ".0", NameKind.local), (xa, NameKind.local), (xb, NameKind.local), (t, NameKind.free)]) (hct : env.cells.lookup t = some ct) : closureFor gsc env = pure [(t, ct)] := by
  unfold closureFor
  rw [hn]
  simp [cellOf, hct]
end
end Mine
end

section
open PySem PySem.Calls PyProof.Rows
set_option Elab.async false
set_option maxRecDepth 100000
namespace Mine
section
variable {prog : Program} {w : World} {A : Around} {E : Value → Shared → Prop} {s : Shared} {mg mb : Str → Option Value}

theorem pair_addr {h : Heap} {prs : List Value} {ps : List (Str × Str)} (hp : PairsAt h prs ps) : ∃ (Ts : Nat → Addr) (vals : Nat → Array Value), (∀ j, j < prs.toArray.size → prs.toArray[j]? = some (.ref (Ts j))) ∧
    (∀ j, j < prs.toArray.size → h.IsTuple (Ts j) (vals j)) ∧ ∀ j p, ps[j]? = some p → ∃ t1 t2, vals j = #[.str p.1 t1, .str p.2 t2] := by
  have key : ∀ j, ∃ (T : Addr) (v : Array Value), (j < prs.toArray.size → prs.toArray[j]? = some (.ref T) ∧ h.IsTuple T v) ∧ ∀ p, ps[j]? = some p → ∃ t1 t2, v = #[.str p.1 t1, .str p.2 t2] := by
    intro j
    cases hj : ps[j]? with
    | none => exact ⟨0, #[], fun hlt => by
        have := hp.length
        rw [List.getElem?_eq_none_iff] at hj
        simp at hlt; omega, fun p e => by cases e⟩
    | some p =>
      obtain ⟨v, hv, a, t1, t2, rfl, hT⟩ := hp.get hj
      exact ⟨a, _, fun _ => ⟨by simpa using hv, hT⟩, fun q e => by cases e; exact ⟨t1, t2, rfl⟩⟩
  refine ⟨fun j => (key j).choose, fun j => (key j).choose_spec.choose, fun j hj => ((key j).choose_spec.choose_spec.1 hj).1, fun j hj => ((key j).choose_spec.choose_spec.1 hj).2, fun j p e => (key j).choose_spec.choose_spec.2 p e⟩

theorem isCell_keep {h h' : Heap} {c : Addr} {v : Option Value} (x : h.IsCell c v) (k : ∀ o, h.get? c = some o → h'.get? c = some o) : h'.IsCell c v := let ⟨o, e, r⟩ := x; ⟨o, k _ e, r⟩

/-- all(b != t for a, b in pairs) -/
theorem all_ne {hb : Heap} {env : Env} {c P ct pp : Addr} {tabs : Array Value} {gsc : Scope} {xa xb t k : Str} {tk : Tok} {prs : List Value} {ps : List (Str × Str)} {giter : Expr} {pa p1 p2 p3 p4 p5 p6 p7 p8 : Pos} {kt : Nat} {Q : Value → Shared → Prop}
    (G : Gb mg mb hb) (kp : Kp hb s.heap) (hh : A.handled = none) (hroom : A.depth < recursionLimit) (hk : env.scope.kind = .function) (hg : env.globals = mainGlobals) (hbl : env.builtins = builtinsNs) (hcode : env.code = .ref c)
    (hx : env.kindOf (Str.ofString "all") = some .globalImplicit) (h1 : mg (Str.ofString "all") = none) (h2 : mb (Str.ofString "all") = some (.builtin "all"))
    (hn : gsc.names = [(Str.ofString ".0", NameKind.local), (xa, NameKind.local), (xb, NameKind.local), (t, NameKind.free)]) (hgk : gsc.kind = .function) (hgc : gsc.isCoroutine = false)
    (hd : [Str.ofString ".0", xa, xb, t].Nodup) (hxb : (xb == ("__debug__" : Str)) = false) (ht0 : (t == ("__debug__" : Str)) = false) (ht1 : (t == ("__classdict__" : Str)) = false)
    (hfold : ∀ x, genFold giter env x = pure x)
    (hct : env.cells.lookup t = some ct) (hcv : s.heap.IsCell ct (some (.str k tk)))
    (hit : ∀ (Q : Value → Shared → Prop) (E : Value → Shared → Prop), Q (.ref pp) s → wpAny (model prog w) A (eval giter env) Q E s)
    (hl : s.heap.IsList pp prs.toArray) (hp : PairsAt s.heap prs ps) (hok : s.heap.IsCode c P tabs) (htab : s.heap.TableAt c P tabs)
    (hPc : P ≠ ct) (hPp : P ≠ pp) (hPt : ∀ a, Value.ref a ∈ prs → a ≠ P) (hPb : hb.get? P = none)
    (h : ∀ s' tabs', Ext [P] s s' → s'.heap.IsCode c P tabs' → s'.heap.TableAt c P tabs' → Q (.bool (ps.all fun p => decide (p.2 ≠ k))) s') :
    wpAny (model prog w) A (eval (.Call (.Name (Str.ofString "all") pa) [.GeneratorExp (.Compare (.Name xb p1) [.NotEq] [.Name t p2] p3) [⟨.Tuple [.Name xa p4, .Name xb p5] kt p6, giter, [], 0⟩] gsc p7] [] p8) env) Q E s := by
  have hne : xa ≠ xb ∧ xa ≠ t ∧ xb ≠ t ∧ Str.ofString ".0" ≠ xa ∧ Str.ofString ".0" ≠ xb ∧ Str.ofString ".0" ≠ t := by
    simp only [List.nodup_cons, List.mem_cons, List.not_mem_nil, or_false, not_or, List.nodup_nil, and_true] at hd
    exact ⟨hd.2.1.1, hd.2.1.2, hd.2.2.1, hd.1.1, hd.1.2.1, hd.1.2.2⟩
  obtain ⟨n1, n2, n3, n4, n5, n6⟩ := hne
  have l0 : gsc.names.lookup (Str.ofString ".0") = some NameKind.local := by rw [hn]; simp
  have b1 : (xb == xa) = false := beq_false_of_ne (Ne.symm n1)
  have b2 : (t == xa) = false := beq_false_of_ne (Ne.symm n2)
  have b3 : (t == xb) = false := beq_false_of_ne (Ne.symm n3)
  have b4 : (xa == Str.ofString ".0") = false := beq_false_of_ne (Ne.symm n4)
  have b5 : (xb == Str.ofString ".0") = false := beq_false_of_ne (Ne.symm n5)
  have b6 : (t == Str.ofString ".0") = false := beq_false_of_ne (Ne.symm n6)
  have la : gsc.names.lookup xa = some NameKind.local := by rw [hn]; simp [List.lookup_cons, b4]
  have lb : gsc.names.lookup xb = some NameKind.local := by rw [hn]; simp [List.lookup_cons, b5, b1]
  have lt : gsc.names.lookup t = some NameKind.free := by rw [hn]; simp [List.lookup_cons, b6, b2, b3]
  refine Call_Name1 (name_builtin G kp hk hg hbl hx h1 h2 ?_)
  refine callWith_builtin rfl (evalArgs_plain (spliced_cons ?_))
  refine wpAny_GeneratorExp_walksQTD hh hgc (closure_gen hn hct) (by rw [hn]; simp) l0 la lb n1 hgk hroom (hit _ _ ?_) hfold
  refine wpAny_pyIter_list hl ⟨(G.keeps kp).lim.keeps fun _ _ e => Heap.get?_push_of_some _ e, ?_⟩
  have hokI := hok.push { cls := .type "list_iterator", data := .fields #[.ref pp, .int 0 0] }
  have htabI := htab.push { cls := .type "list_iterator", data := .fields #[.ref pp, .int 0 0] }
  refine gen_code hcode hokI htabI fun code h₃ tk₃ tabs₃ hx₃ hz₃ hok₃ htab₃ => ?_
  have hPlt : P < s.heap.objs.size := hok.lt.2
  have k3 : ∀ b o, b ≠ P → s.heap.get? b = some o → h₃.get? b = some o := fun b o hb' e => hx₃ b o hb' (Heap.get?_push_of_some _ e)
  have kb3 : Kp hb h₃ := fun b o e => k3 b o (fun q => by rw [q, hPb] at e; cases e) (kp b o e)
  have G3 := G.keeps kb3
  obtain ⟨bm, ob, B⟩ := G3.bm
  rw [hg]
  refine wpAny_builtinsFor B.ns B.name B.ne B.obj B.cls B.dict B.data ?_
  obtain ⟨Ts, vals, hT1, hT2, hT3⟩ := pair_addr hp
  have hlen : prs.toArray.size = ps.length := by simp [hp.length]
  have hIs : (s.heap.push ({ cls := .type "list_iterator", data := .fields #[.ref pp, .int 0 0] } : Obj)).get? s.heap.objs.size = some { cls := .type "list_iterator", data := .fields #[.ref pp, .int 0 0] } := Heap.get?_push_size _ rfl
  have hI3 : h₃.get? s.heap.objs.size = some { cls := .type "list_iterator", data := .fields #[.ref pp, .int 0 0] } := hx₃ _ _ (Nat.ne_of_gt hPlt) hIs
  have hIlt : s.heap.objs.size < h₃.objs.size := Heap.lt_size hI3
  have hppl : pp < s.heap.objs.size := let ⟨_, e, _⟩ := hl; Heap.lt_size e
  have hTlt : ∀ j, j < prs.toArray.size → Ts j < s.heap.objs.size := fun j hj => let ⟨_, e, _⟩ := hT2 j hj; Heap.lt_size e
  have hTP : ∀ j, j < prs.toArray.size → Ts j ≠ P := fun j hj => hPt _ (by
    have := hT1 j hj
    rw [List.getElem?_toArray] at this
    exact List.mem_of_getElem? this)
  have hctlt : ct < s.heap.objs.size := let ⟨_, e, _⟩ := hcv; Heap.lt_size e
  have hct3 : h₃.IsCell ct (some (.str k tk)) := isCell_keep hcv fun o e => k3 _ _ (Ne.symm hPc) e
  refine ⟨s.heap.objs.size, _, _, prs.toArray.size, _, _, _, fun _ => true, fun i y => ∃ p, ps[i]? = some p ∧ y = .bool (decide (p.2 ≠ k)), rfl,
    fun A' hA => (WalksU.listOfTuples hA s.heap.objs.size pp (Nat.ne_of_lt hppl) prs.toArray Ts vals hT1 (fun j hj => Nat.ne_of_lt (hTlt j hj))).bound, ?_, ?_, ?_, G3.lim, ?_, ?_, ?_⟩
  · rintro i v ⟨hi, rfl⟩
    obtain ⟨t1, t2, e⟩ := hT3 i ps[i] (List.getElem?_eq_getElem (by omega))
    exact ⟨_, _, e⟩
  · refine ⟨⟨_, hI3, rfl, rfl⟩, IsList.keeps hl fun o e => k3 _ _ (Ne.symm hPp) e, fun j hj => ?_⟩
    obtain ⟨o, e, r⟩ := hT2 j hj
    exact ⟨o, k3 _ _ (hTP j hj) e, r⟩
  · intro b hb'
    rcases List.mem_cons.mp hb' with rfl | hb'
    · exact hIlt
    · rcases List.mem_cons.mp hb' with rfl | hb'
      · exact Nat.lt_trans hppl hIlt
      · obtain ⟨j, hj, rfl⟩ := List.mem_map.mp hb'
        exact Nat.lt_trans (hTlt j (List.mem_range.mp hj)) hIlt
  · intro hm
    rw [List.mem_singleton] at hm
    obtain ⟨_, hn', _⟩ := G.lim
    have h5 : cStatics < s.heap.objs.size := (hn'.keeps kp).lt
    rw [hm] at h5
    exact Nat.lt_irrefl _ h5
  · intro href hkeep
    refine ⟨fun A' E' i va vb s₂ m₂ hA hD hU hP hns hma hmb hk2 => ?_, fun A' E' i va vb s₂ m₂ hA hD hU hP hpz hns hma hmb hk2 => ?_⟩
    · rw [List.forIn_nil]
      exact wpAny_pure ⟨rfl, ⟨s₂.heap, s₂.toks, rfl, fun _ _ e => e⟩⟩
    · obtain ⟨hi, e⟩ := hP
      have hips : i < ps.length := by rw [← hlen]; exact hi
      obtain ⟨t1, t2, e2⟩ := hT3 i ps[i] (List.getElem?_eq_getElem hips)
      rw [e2] at e
      have ea : va = .str ps[i].1 t1 ∧ vb = .str ps[i].2 t2 := by simpa using e
      obtain ⟨rfl, rfl⟩ := ea
      refine wpAny_Compare1 (wpAny_Name (wpAny_loadName_local hgk lb hns hmb ?_) hxb) rfl
      have hcell2 : s₂.heap.IsCell ct (some (.str k tk)) := isCell_keep hct3 fun o e => hk2 ct (List.mem_range.mpr (Nat.lt_trans hctlt hIlt)) (by rw [List.mem_singleton]; exact Nat.ne_of_lt hctlt) o (hkeep _ _ e)
      refine wpAny_Name (wpAny_loadName_free hgk lt (c := ct) (by show List.lookup t [(t, ct)] = some ct; rw [List.lookup_cons, beq_self_eq_true]) hcell2 ?_ ht1) ht0
      refine PyProof.Rows.ne_str ?_
      refine ⟨⟨ps[i], List.getElem?_eq_getElem hips, ?_⟩, ⟨s₂.heap, s₂.toks, rfl, fun _ _ e => e⟩⟩
      congr 1
      by_cases hq : ps[i].2 = k <;> simp [hq]
  · intro a h₅ tk₅ gs hgs ha1 ha2 hk5 W GA
    refine spliced_nil ?_
    refine call_all_walkS ?_
    have hGA := GA
    obtain ⟨hgen, _⟩ := GA
    refine wpAny_pyIter_gen hgen ?_
    have hpass : passing (fun _ => true) prs.toArray.size 0 = List.range prs.toArray.size := by unfold passing; simp
    refine ⟨a, _, _, _, _, _, _, fun j => match ps[j]? with | some p => decide (p.2 ≠ k) | none => true, rfl, W.in4_1, hGA, fun i v s' Q' E' hv hq => ?_, fun s' hm => ?_⟩
    · obtain ⟨j, hj, p, hp1, rfl⟩ := hv
      rw [hpass] at hj
      have hji : j = i := by
        obtain ⟨h1', h2'⟩ := List.getElem?_eq_some_iff.mp hj
        simpa using h2'.symm
      subst hji
      simp only [hp1] at hq
      exact wpAny_truthy_bool hq
    · have haI : a ≠ s.heap.objs.size := fun q => by
        have : h₃.objs.size < a := ha1
        rw [q] at this; exact absurd hIlt (Nat.lt_asymm this)
      have haC : a ≠ h₃.objs.size := Nat.ne_of_gt ha1
      obtain ⟨og, _, _, hog, _⟩ := hgen
      have ha' := hm.heap a og (by simp only [List.mem_cons, List.not_mem_nil, or_false, not_or]; exact ⟨haC, haI⟩) hog
      have up : ∀ b o, b ≠ P → s.heap.get? b = some o → s'.heap.get? b = some o := fun b o hb' e => by
        have e3 := k3 b o hb' e
        refine hm.heap b o ?_ (hk5 b o e3)
        simp only [List.mem_cons, List.not_mem_nil, or_false, not_or]
        exact ⟨Nat.ne_of_lt (Heap.lt_size e3), Nat.ne_of_lt (Heap.lt_size e)⟩
      have upP : ∀ b o, h₃.get? b = some o → b ≠ s.heap.objs.size → s'.heap.get? b = some o := fun b o e hb' => by
        refine hm.heap b o ?_ (hk5 b o e)
        simp only [List.mem_cons, List.not_mem_nil, or_false, not_or]
        exact ⟨Nat.ne_of_lt (Heap.lt_size e), hb'⟩
      have hcl : c ≠ s.heap.objs.size := Nat.ne_of_lt hok.lt.1
      have hPl : P ≠ s.heap.objs.size := Nat.ne_of_lt hPlt
      have e : (List.range (passing (fun _ => true) prs.toArray.size 0).length).all (fun j => match ps[j]? with | some p => decide (p.2 ≠ k) | none => true) = ps.all fun p => decide (p.2 ≠ k) := by
        rw [hpass, List.length_range, hlen]
        rw [Bool.eq_iff_iff, List.all_eq_true, List.all_eq_true]
        constructor
        · intro hq p hp'
          obtain ⟨j, hj⟩ := List.getElem?_of_mem hp'
          have := hq j (List.mem_range.mpr (List.getElem?_eq_some_iff.mp hj).1)
          rw [hj] at this; exact this
        · intro hq j hj
          have hj' := List.mem_range.mp hj
          rw [List.getElem?_eq_getElem hj']
          exact hq _ (List.getElem_mem hj')
      rw [e]
      refine h s' tabs₃ ⟨fun b o hb' e => up b o (by simpa using hb') e, Nat.le_of_lt (Nat.lt_trans (Nat.lt_trans hIlt ha1) (Heap.lt_size ha')), hm.os, fun hbare => ?_⟩ ?_ ?_
      · exact (hbare.push hgs).moved hm.gens
      · obtain ⟨o, vs, file, tf, flags, tg, inF, text, tt, op, q1, r1, r2, r3, r4, r5, r6, q2, r7⟩ := hok₃
        exact ⟨o, vs, file, tf, flags, tg, inF, text, tt, op, upP _ _ q1 hcl, r1, r2, r3, r4, r5, r6, upP _ _ q2 hPl, r7⟩
      · obtain ⟨⟨o, vs, q1, r1⟩, q2⟩ := htab₃
        exact ⟨⟨o, vs, upP _ _ q1 hcl, r1⟩, upP _ _ q2 hPl⟩
end
end Mine
end

section
open PySem PySem.Calls PyProof.Rows
set_option Elab.async false
set_option maxRecDepth 100000
namespace Mine
abbrev lst (ys : List Value) : Obj := { cls := .type "list", data := .seq ys.toArray ys.length }
theorem lst_snoc (ys : List Value) (y : Value) : ({ cls := .type "list", data := .seq (ys.toArray.push y) (ys.length + 1) } : Obj) = lst (ys ++ [y]) := by
  unfold lst
  rw [List.length_append, List.length_singleton, List.push_toArray]
theorem lst_isList {h : Heap} {D : Addr} {ys : List Value} (e : h.get? D = some (lst ys)) : h.IsList D ys.toArray := ⟨_, e, rfl, _, rfl⟩
section
variable {M : Model} {A : Around} {E : Value → Shared → Prop} {s : Shared}
theorem ns_fresh (h : Heap) (c : String) : (h.push ({ cls := .type c, data := .dict #[] } : Obj)).Ns h.objs.size fun _ => none := by
  refine ⟨_, #[], 0, Heap.get?_push_size _ rfl, rfl, ?_, ?_⟩
  · exact (by simp [StrKeys])
  · intro x; rfl
/-- a comprehension's own frame: a cell for its variable -/
theorem env_cell {scope : Scope} {t al pp : Str} {g : Addr} {cl : List (Str × Addr)} {q : Str} {outer : Env} {Q : Env → Shared → Prop}
    (hn : scope.names = [(Str.ofString ".0", NameKind.local), (t, NameKind.cell), (al, NameKind.globalImplicit), (pp, NameKind.free)])
    (h : Q { scope, locals := s.heap.objs.size, globals := g, cells := (t, s.heap.objs.size + 1) :: cl, qual := q, func := none, code := outer.code, frame := outer.frame, builtins := outer.builtins }
      { s with heap := (s.heap.push { cls := .type "dict", data := .dict #[] }).push { cls := .type "cell", data := .cell none } }) :
    wpAny M A (newFunctionEnv scope g cl [] q none .none (some outer)) Q E s := by
  unfold newFunctionEnv
  refine wpAny_bind (wpAny_alloc ?_)
  rw [hn]
  have e1 : (NameKind.local == NameKind.cell) = false := rfl
  have e2 : (NameKind.globalImplicit == NameKind.cell) = false := rfl
  have e3 : (NameKind.free == NameKind.cell) = false := rfl
  have e4 : (NameKind.cell == NameKind.cell) = true := rfl
  simp only [List.forIn_cons, List.forIn_nil, e1, e2, e3, e4, if_true, Bool.false_eq_true, if_false]
  refine wpAny_bind (wpAny_bind (wpAny_pure (wpAny_bind (wpAny_bind (wpAny_alloc (wpAny_pure ?_))))))
  refine wpAny_bind (wpAny_pure (wpAny_bind (wpAny_pure (wpAny_pure ?_))))
  refine wpAny_pure ?_
  simpa [Heap.size_push] using h
end
section
variable {prog : Program} {w : World} {A : Around} {E : Value → Shared → Prop} {s : Shared} {mg mb : Str → Option Value}

theorem filter_snoc {p : Str → Bool} {ls : List Str} {i : Nat} {k : Str} (h : ls[i]? = some k) : (ls.take (i + 1)).filter p = (ls.take i).filter p ++ (if p k then [k] else []) := by
  rw [List.take_add_one, h]
  simp only [Option.toList, List.filter_append, List.filter_cons, List.filter_nil]

theorem strs_snoc {vs : List Value} {ss : List Str} (h : StrsAre vs ss) (k : Str) (tk : Tok) : StrsAre (vs ++ [.str k tk]) (ss ++ [k]) := by
  induction h with
  | nil => exact .cons k tk .nil
  | cons x t _ ih => exact .cons x t ih
theorem strs_get {vs : List Value} {ss : List Str} (h : StrsAre vs ss) {i : Nat} {v : Value} (e : vs[i]? = some v) : ∃ k tk, ss[i]? = some k ∧ v = .str k tk := by
  have hlt : i < ss.length := by rw [← h.len_eq]; exact (List.getElem?_eq_some_iff.mp e).1
  obtain ⟨t, ht⟩ := h.at (List.getElem?_eq_getElem hlt)
  rw [e] at ht
  exact ⟨_, t, List.getElem?_eq_getElem hlt, Option.some.inj ht⟩
theorem Ext.code {s s' : Shared} {c P : Addr} {tabs : Array Value} {wr : List Addr} (x : Ext wr s s') (hc : c ∉ wr) (hP : P ∉ wr) (h : s.heap.IsCode c P tabs) : s'.heap.IsCode c P tabs := by
  obtain ⟨o, vs, file, tf, flags, tg, inF, text, tt, op, q1, r1, r2, r3, r4, r5, r6, q2, r7⟩ := h
  exact ⟨o, vs, file, tf, flags, tg, inF, text, tt, op, x.keep _ _ hc q1, r1, r2, r3, r4, r5, r6, x.keep _ _ hP q2, r7⟩
theorem Ext.table {s s' : Shared} {c P : Addr} {tabs : Array Value} {wr : List Addr} (x : Ext wr s s') (hc : c ∉ wr) (hP : P ∉ wr) (h : s.heap.TableAt c P tabs) : s'.heap.TableAt c P tabs := by
  obtain ⟨⟨o, vs, q1, r1⟩, q2⟩ := h
  exact ⟨⟨o, vs, x.keep _ _ hc q1, r1⟩, x.keep _ _ hP q2⟩
theorem keepsC {h h' : Heap} {c P : Addr} {tabs : Array Value} (x : h.IsCode c P tabs) (k : ∀ b o, b = c ∨ b = P → h.get? b = some o → h'.get? b = some o) : h'.IsCode c P tabs := by
  obtain ⟨o, vs, file, tf, flags, tg, inF, text, tt, op, q1, r1, r2, r3, r4, r5, r6, q2, r7⟩ := x
  exact ⟨o, vs, file, tf, flags, tg, inF, text, tt, op, k _ _ (.inl rfl) q1, r1, r2, r3, r4, r5, r6, k _ _ (.inr rfl) q2, r7⟩
theorem keepsT {h h' : Heap} {c P : Addr} {tabs : Array Value} (x : h.TableAt c P tabs) (k : ∀ b o, b = c ∨ b = P → h.get? b = some o → h'.get? b = some o) : h'.TableAt c P tabs := by
  obtain ⟨⟨o, vs, q1, r1⟩, q2⟩ := x
  exact ⟨⟨o, vs, k _ _ (.inl rfl) q1, r1⟩, k _ _ (.inr rfl) q2⟩
theorem Ext.pairs {s s' : Shared} {wr : List Addr} {prs : List Value} {ps : List (Str × Str)} (x : Ext wr s s') (h : PairsAt s.heap prs ps) (hn : ∀ a, Value.ref a ∈ prs → a ∉ wr) : PairsAt s'.heap prs ps :=
  h.all fun _v hv _p hp => hp.keeps fun a e o ho => x.keep a o (hn a (e ▸ hv)) ho
theorem Ext.cell {s s' : Shared} {wr : List Addr} {c : Addr} {v : Option Value} (x : Ext wr s s') (hc : c ∉ wr) (h : s.heap.IsCell c v) : s'.heap.IsCell c v := isCell_keep h fun o e => x.keep c o hc e
theorem Ext.list {s s' : Shared} {wr : List Addr} {c : Addr} {v : Array Value} (x : Ext wr s s') (hc : c ∉ wr) (h : s.heap.IsList c v) : s'.heap.IsList c v := IsList.keeps h fun o e => x.keep c o hc e
theorem Ext.ns {s s' : Shared} {wr : List Addr} {c : Addr} {m : Str → Option Value} (x : Ext wr s s') (hc : c ∉ wr) (h : s.heap.Ns c m) : s'.heap.Ns c m := h.at' fun o e => x.keep c o hc e
theorem Ext.kp {s s' : Shared} {wr : List Addr} {hb : Heap} (x : Ext wr s s') (k : Kp hb s.heap) (hn : ∀ b ∈ wr, hb.get? b = none) : Kp hb s'.heap :=
  fun b o e => x.keep b o (fun q => by rw [hn b q] at e; cases e) (k b o e)

theorem Ext.next {wr wr' : List Addr} {a b c : Shared} (x : Ext wr a b) (y : Ext wr' b c) (h : ∀ p ∈ wr', p ∈ wr ∨ a.heap.objs.size ≤ p) : Ext wr a c :=
  ⟨fun p o hp e => y.keep p o (fun q => (h p q).elim hp fun hle => absurd (Heap.lt_size e) (Nat.not_lt.mpr hle)) (x.keep p o hp e), Nat.le_trans x.size y.size, y.os.trans x.os, fun h => y.bare (x.bare h)⟩
theorem Ext.same {a : Addr} {s : Shared} {h' : Heap} {tk : Nat} (x : Heap.SameBut a s.heap h') : Ext [a] s { s with heap := h', toks := tk } :=
  ⟨fun b o hb e => (x.2 b (fun q => hb (by simp [q]))).trans e, Nat.le_of_eq x.1.symm, rfl, id⟩

/-- [t for t in SET if all(b != t for a, b in PAIRS)] -/
theorem firsts_comp {hb : Heap} {env : Env} {c P cP a pp : Addr} {o : Obj} {tabs : Array Value} {scope gsc : Scope} {xa xb t ppn : Str} {prs : List Value} {ps : List (Str × Str)} {ks : List Str} {iter giter : Expr} {pos posC pt pt' pa p1 p2 p3 p4 p5 p6 p7 p8 cpos : Pos} {kt : Nat}
    {first : Sem Value} {use : Option (Value → Sem Unit)} {Q : Value → Shared → Prop}
    (G : Gb mg mb hb) (kp : Kp hb s.heap) (hh : A.handled = none) (hroom : A.depth < recursionLimit) (hk : env.scope.kind = .function) (hg : env.globals = mainGlobals) (hbl : env.builtins = builtinsNs) (hcode : env.code = .ref c)
    (h1 : mg (Str.ofString "all") = none) (h2 : mb (Str.ofString "all") = some (.builtin "all"))
    (hn : gsc.names = [(Str.ofString ".0", NameKind.local), (xa, NameKind.local), (xb, NameKind.local), (t, NameKind.free)]) (hgk : gsc.kind = .function) (hgc : gsc.isCoroutine = false)
    (hsn : scope.names = [(Str.ofString ".0", NameKind.local), (t, NameKind.cell), (Str.ofString "all", NameKind.globalImplicit), (ppn, NameKind.free)]) (hsk : scope.kind = .function)
    (hd : [Str.ofString ".0", xa, xb, t].Nodup) (hd2 : [Str.ofString ".0", t, Str.ofString "all", ppn].Nodup) (hxb : (xb == ("__debug__" : Str)) = false) (ht0 : (t == ("__debug__" : Str)) = false) (ht1 : (t == ("__classdict__" : Str)) = false) (hp0 : (ppn == ("__debug__" : Str)) = false)
    (hpk : env.kindOf ppn = some .cell) (hpc : env.cells.lookup ppn = some cP) (hpv : s.heap.IsCell cP (some (.ref pp)))
    (hfirst : ∀ (Q : Value → Shared → Prop) (E : Value → Shared → Prop), Q (.ref a) s → wpAny (model prog w) A first Q E s) (hfold : ∀ x, foldedSetIterable iter env x = pure x)
    (hgi : giter = .Name ppn p8)
    (ho : s.heap.get? a = some o) (hS : SetS w o ks) (hks : ks.length < scanBound)
    (hl : s.heap.IsList pp prs.toArray) (hp : PairsAt s.heap prs ps) (hok : s.heap.IsCode c P tabs) (htab : s.heap.TableAt c P tabs)
    (hPp : P ≠ pp) (hPt : ∀ a, Value.ref a ∈ prs → a ≠ P) (hPb : hb.get? P = none) (hPa : P ≠ a) (hPc : P ≠ cP)
    (h : ∀ s' D C m fs vs tabs', Ext [P] s s' → s.heap.objs.size ≤ D → s.heap.objs.size ≤ C → D ≠ C → s'.heap.get? D = some (lst vs) → StrsAre vs fs → fs.Perm (ks.filter fun k => ps.all fun p => decide (p.2 ≠ k)) →
      s'.heap.IsCode c P tabs' → s'.heap.TableAt c P tabs' → s'.heap.Ns C m → compPost (model prog w) A E use Q (.ref D) C (.ok .next) s') :
    wpAny (model prog w) A (comprehension (.ListComp (.Name t pt) [⟨.Name t pt', iter, [.Call (.Name (Str.ofString "all") pa) [.GeneratorExp (.Compare (.Name xb p1) [.NotEq] [.Name t p2] p3) [⟨.Tuple [.Name xa p4, .Name xb p5] kt p6, giter, [], 0⟩] gsc p7] [] cpos], 0⟩] scope pos) scope env posC (newList []) false first use) Q E s := by
  subst hgi
  have hne : Str.ofString ".0" ≠ t ∧ t ≠ Str.ofString "all" ∧ t ≠ ppn ∧ Str.ofString "all" ≠ ppn ∧ Str.ofString ".0" ≠ ppn := by
    simp only [List.nodup_cons, List.mem_cons, List.not_mem_nil, or_false, not_or, List.nodup_nil, and_true] at hd2
    exact ⟨hd2.1.1, hd2.2.1.1, hd2.2.1.2, hd2.2.2.1, hd2.1.2.2⟩
  obtain ⟨n1, n2, n3, n4, n5⟩ := hne
  have b1 : (t == Str.ofString ".0") = false := beq_false_of_ne (Ne.symm n1)
  have b2 : (Str.ofString "all" == t) = false := beq_false_of_ne (Ne.symm n2)
  have b3 : (ppn == t) = false := beq_false_of_ne (Ne.symm n3)
  have b4 : (ppn == Str.ofString "all") = false := beq_false_of_ne (Ne.symm n4)
  have b5 : (ppn == Str.ofString ".0") = false := beq_false_of_ne (Ne.symm n5)
  have b6 : (Str.ofString "all" == Str.ofString ".0") = false := by decide
  have hclos : closureFor scope env = pure [(ppn, cP)] := by
    unfold closureFor
    rw [hsn]
    simp [cellOf, hpc]
  refine wpAny_comprehension_free rfl hfold hclos hsk (by
    rw [hsn]
    intro x hx hxl
    simp only [List.mem_cons, List.not_mem_nil, or_false] at hx
    rcases hx with rfl | rfl | rfl | rfl
    · simp
    · cases hxl
    · cases hxl
    · cases hxl) (hfirst _ _ ?_)
  refine set_iter ho hS hks fun vs ls I fp St h₁ dr hv hperm W hst hI hfp hIo hfo hk₁ => ?_
  refine wpAny_newObj_type ?_
  refine env_cell hsn ?_
  -- the places: the list, the frame, the variable's cell
  have hDs : (h₁.push (lst [])).objs.size = h₁.objs.size + 1 := Heap.size_push ..
  have hle₁ : s.heap.objs.size ≤ h₁.objs.size := by
    have := hfp I ((W A hh).sub I (List.mem_singleton.mpr rfl))
    exact Nat.le_of_lt (Nat.lt_of_le_of_lt hI this)
  show codeAny _ _ _ _ { s with heap := ((h₁.push (lst [])).push { cls := .type "dict", data := .dict #[] }).push { cls := .type "cell", data := .cell none }, drawn := dr }
  generalize hC : (h₁.push (lst [])).objs.size = C at hDs ⊢
  have hCT : ((h₁.push (lst [])).push ({ cls := .type "dict", data := .dict #[] } : Obj)).objs.size = C + 1 := by rw [Heap.size_push, hC]
  generalize hH : ((h₁.push (lst [])).push ({ cls := .type "dict", data := .dict #[] } : Obj)).push ({ cls := .type "cell", data := .cell none } : Obj) = H
  have hDg : H.get? h₁.objs.size = some (lst []) := by
    rw [← hH]; exact Heap.get?_push_of_some _ (Heap.get?_push_of_some _ (Heap.get?_push_size _ rfl))
  have hCn : H.Ns C (fun _ => none) := by
    rw [← hH, ← hC]
    exact (ns_fresh (h₁.push (lst [])) "dict").push _
  have hTg : H.IsCell (C + 1) none := by
    rw [← hH, ← hCT]; exact ⟨_, Heap.get?_push_size _ rfl, rfl⟩
  have hHs : H.objs.size = h₁.objs.size + 3 := by rw [← hH]; simp only [Heap.size_push]
  have old₁ : ∀ b x, h₁.get? b = some x → H.get? b = some x := fun b x e => by
    rw [← hH]; exact Heap.get?_push_of_some _ (Heap.get?_push_of_some _ (Heap.get?_push_of_some _ e))
  have X0 : Ext [P] s { s with heap := H, drawn := dr } := ⟨fun b x _ e => old₁ b x (hk₁ b x e), by show s.heap.objs.size ≤ H.objs.size; omega, rfl, id⟩
  have hPlt := PySem.W.ltN hok.lt.2
  have hclt := PySem.W.ltN hok.lt.1
  have hcP : c ≠ P := let ⟨_, _, _, _, _, _, _, _, _, _, _, _, _, _, _, _, _, _, _, _, q⟩ := hok; q
  have hppl : pp < s.heap.objs.size := let ⟨_, e, _⟩ := hl; Heap.lt_size e
  have hcPl : cP < s.heap.objs.size := let ⟨_, e, _⟩ := hpv; Heap.lt_size e
  have hrel : (relabel scope env).names = [(Str.ofString ".0", NameKind.local), (t, NameKind.cell), (Str.ofString "all", NameKind.globalImplicit), (ppn, NameKind.cell)] := by
    show scope.names.map _ = _
    rw [hsn]
    simp [hk, hpk]
  have lt : (relabel scope env).names.lookup t = some NameKind.cell := by rw [hrel]; simp [List.lookup_cons, b1]
  have lall : (relabel scope env).names.lookup (Str.ofString "all") = some NameKind.globalImplicit := by rw [hrel]; simp [List.lookup_cons, b6, b2]
  have lpp : (relabel scope env).names.lookup ppn = some NameKind.cell := by rw [hrel]; simp [List.lookup_cons, b5, b3, b4]
  have hrk : (relabel scope env).kind = .function := hsk
  have lct : List.lookup t [(t, C + 1), (ppn, cP)] = some (C + 1) := by simp [List.lookup_cons]
  have lcp : List.lookup ppn [(t, C + 1), (ppn, cP)] = some cP := by simp [List.lookup_cons, b3]
  have hPT : P ≠ C + 1 := by refine PySem.W.neN ?_; omega
  have hCT1 : C + 1 < H.objs.size := by omega
  generalize hE : ({ scope := relabel scope env, locals := C, globals := env.globals, cells := [(t, C + 1), (ppn, cP)], qual := env.qual, func := none, code := env.code, frame := env.frame, builtins := env.builtins } : Env) = cenv
  have hEsc : cenv.scope = relabel scope env := by rw [← hE]
  have hEce : cenv.cells = [(t, C + 1), (ppn, cP)] := by rw [← hE]
  have hEg : cenv.globals = mainGlobals := by rw [← hE]; exact hg
  have hEb : cenv.builtins = builtinsNs := by rw [← hE]; exact hbl
  have hEc : cenv.code = .ref c := by rw [← hE]; exact hcode
  have hEl : cenv.locals = C := by rw [← hE]
  have hEk : cenv.scope.kind = .function := by rw [hEsc]; exact hrk
  have hE' : ({ ({ scope := scope, locals := C, globals := env.globals, cells := [(t, C + 1), (ppn, cP)], qual := env.qual, func := none, code := env.code, frame := env.frame, builtins := env.builtins } : Env) with scope := relabel scope env } : Env) = cenv := hE
  have lk : ∀ x, cenv.kindOf x = (relabel scope env).names.lookup x := fun x => by unfold Env.kindOf; rw [hEsc]
  let pr : Str → Bool := fun k => ps.all fun p => decide (p.2 ≠ k)
  have hDP : P ≠ h₁.objs.size := by refine PySem.W.neN ?_; omega
  have hDC : h₁.objs.size ≠ C := by omega
  have hDT : h₁.objs.size ≠ C + 1 := by refine PySem.W.neN ?_; omega
  have hDT' : C + 1 ≠ h₁.objs.size := Ne.symm hDT
  have hCT' : C ≠ C + 1 := by refine PySem.W.neN ?_; omega
  have hPC : C ≠ P := by refine PySem.W.neN ?_; omega
  have hcD : c ≠ h₁.objs.size := by refine PySem.W.neN ?_; omega
  have hlen : vs.length = ks.length := by rw [hv.len_eq, hperm.length_eq]
  have fpo : ∀ b ∈ fp, b ≠ P ∧ b ≠ h₁.objs.size ∧ b ≠ C ∧ b ≠ C + 1 := fun b hb' => by
    have h1 : b < h₁.objs.size := hfp b hb'
    refine ⟨fun q => ?_, Nat.ne_of_lt h1, Nat.ne_of_lt (by rw [hDs]; exact Nat.lt_succ_of_lt h1), Nat.ne_of_lt (by rw [hDs]; exact Nat.lt_succ_of_lt (Nat.lt_succ_of_lt h1))⟩
    rcases hfo b hb' with q2 | q2
    · exact hPa (q ▸ q2)
    · rw [q] at q2; exact absurd hPlt (Nat.not_lt.mpr q2)
  have hIfp : I ∈ fp := (W A hh).sub I (List.mem_singleton.mpr rfl)
  have hIP := fpo I hIfp
  -- what holds between two turns
  let Inv : Nat → Shared → Prop := fun k s' => ∃ (i : Nat) (ys : List Value) (m : Str → Option Value) (v0 : Option Value) (tabs' : Array Value), i ≤ ks.length ∧ k = ks.length + 1 - i ∧ St i s'.heap ∧ s'.heap.get? h₁.objs.size = some (lst ys) ∧
    StrsAre ys ((ls.take i).filter pr) ∧ s'.heap.Ns C m ∧ s'.heap.IsCell (C + 1) v0 ∧ s'.heap.IsCode c P tabs' ∧ s'.heap.TableAt c P tabs' ∧ Ext [P] s s' ∧ H.objs.size ≤ s'.heap.objs.size
  have step : ∀ (s₁ s₂ : Shared) (i : Nat) (wr : List Addr), Ext wr s₁ s₂ → (∀ b ∈ wr, b = P ∨ b = h₁.objs.size ∨ b = C ∨ b = C + 1) → St i s₁.heap → St i s₂.heap := fun s₁ s₂ i wr X hw st =>
    (W A hh).frame i _ _ st fun b hb' x e => X.keep b x (fun q => by
      obtain ⟨q1, q2, q3, q4⟩ := fpo b hb'
      rcases hw b q with r | r | r | r
      · exact q1 r
      · exact q2 r
      · exact q3 r
      · exact q4 r) e
  have loop : ∀ s₃ : Shared, s₃ = { s with heap := H, drawn := dr } → codeAny (model prog w) A (.compLoop (.ListComp (.Name t pt) [⟨.Name t pt', iter, [.Call (.Name (Str.ofString "all") pa) [.GeneratorExp (.Compare (.Name xb p1) [.NotEq] [.Name t p2] p3) [⟨.Tuple [.Name xa p4, .Name xb p5] kt p6, .Name ppn p8, [], 0⟩] gsc p7] [] cpos], 0⟩] scope pos) 0 (.ref I) (.ref h₁.objs.size) cenv)
      (compPost (model prog w) A E use Q (.ref h₁.objs.size) C) s₃ := by
    rintro s₃ rfl
    refine PySem.W.kct_loop Inv ?_ (ks.length + 1) ⟨0, [], _, none, tabs, Nat.zero_le _, rfl, (W A hh).frame 0 _ _ hst fun b _ x e => old₁ b x e, hDg, .nil, hCn, hTg, hok.keeps fun b x e => old₁ b x (hk₁ b x e), htab.keeps fun b x e => old₁ b x (hk₁ b x e), X0, Nat.le_refl _⟩
    rintro k s' ⟨i, ys, m, v0, tabs', hi, rfl, hst', hD', hys, hC', hT', hok', htab', X', hsz'⟩
    by_cases hlt : i < ks.length
    · refine (W A hh).item i s' _ _ hlt hst' fun v h₂ tk₂ hvi hst₂ hk₂ => ?_
      obtain ⟨kk, tk, hlk, rfl⟩ := strs_get hv hvi
      have kI : ∀ b x, b ≠ I → s'.heap.get? b = some x → h₂.get? b = some x := fun b x hb' e => hk₂ b x (by simpa using hb') e
      have hT2 : h₂.IsCell (C + 1) v0 := isCell_keep hT' fun x e => kI _ x (Ne.symm hIP.2.2.2) e
      have hs2 : H.objs.size ≤ h₂.objs.size := by
        obtain ⟨x, e, _⟩ := hT2
        have := PySem.W.ltN (Heap.lt_size e)
        omega
      have X2 : Ext [P] s { s' with heap := h₂, toks := tk₂ } := ⟨fun b x hb' e => kI b x (fun q => absurd (Heap.lt_size e) (Nat.not_lt.mpr (q ▸ hI))) (X'.keep b x hb' e), by
        show s.heap.objs.size ≤ h₂.objs.size
        omega, X'.os, X'.bare⟩
      refine wpAny_of_eq (rfl : letOwnedTupleGo (.Name t pt') (.ref I) (.str kk tk) = pure ()) ?_
      refine wpAny_assign_Name (wpAny_storeName_cell hEk ((lk t).trans lt) (by rw [hEce]; exact lct) hT2 fun h₃ hT3 hs3 => ?_)
      have X3' : Ext [C + 1] { s' with heap := h₂, toks := tk₂ } { s' with heap := h₃, toks := tk₂ } := Ext.same hs3
      have hCs : s.heap.objs.size ≤ C + 1 := by omega
      have X3 : Ext [P] s { s' with heap := h₃, toks := tk₂ } := X2.next X3' fun p hp => .inr (by rw [List.mem_singleton.mp hp]; exact hCs)
      have k3 : ∀ b x, b ≠ I → b ≠ C + 1 → s'.heap.get? b = some x → h₃.get? b = some x := fun b x hb' hb2 e => X3'.keep b x (by simpa using hb2) (kI b x hb' e)
      have hst₃ : St (i + 1) h₃ := (W A hh).frame _ _ _ hst₂ fun b hb' x e => X3'.keep b x (by simpa using (fpo b hb').2.2.2) e
      have hcI : c ≠ I := fun q => absurd hclt (Nat.not_lt.mpr (q ▸ hI))
      have hcT : c ≠ C + 1 := by refine PySem.W.neN ?_; omega
      refine isTrue_plain (all_ne (s := { s' with heap := h₃, toks := tk₂ }) (ct := C + 1) (k := kk) (tk := tk) G (X3.kp kp fun b hb' => by rw [List.mem_singleton.mp hb']; exact hPb) hh hroom hEk hEg hEb hEc ((lk _).trans lall) h1 h2 hn hgk hgc hd hxb ht0 ht1 (fun _ => rfl) (by rw [hEce]; exact lct) hT3
        (fun Q' E' hq => wpAny_Name (wpAny_loadName_cell hEk ((lk _).trans lpp) (by rw [hEce]; exact lcp) (X3.cell (by simpa using Ne.symm hPc) hpv) hq) hp0)
        (X3.list (by simpa using Ne.symm hPp) hl) (X3.pairs hp fun x hx q => hPt x hx (by simpa using q))
        (keepsC hok' fun b x hb' e => k3 b x (hb'.elim (fun q => q ▸ hcI) fun q => q ▸ Ne.symm hIP.1) (hb'.elim (fun q => q ▸ hcT) fun q => q ▸ hPT) e)
        (keepsT htab' fun b x hb' e => k3 b x (hb'.elim (fun q => q ▸ hcI) fun q => q ▸ Ne.symm hIP.1) (hb'.elim (fun q => q ▸ hcT) fun q => q ▸ hPT) e)
        hPT hPp hPt hPb fun s₄ tabs₄ X4 hok₄ htab₄ => wpAny_truthy_bool ?_)
      have hst₄ : St (i + 1) s₄.heap := (W A hh).frame _ _ _ hst₃ fun b hb' x e => X4.keep b x (by simpa using (fpo b hb').1) e
      have hD4 : s₄.heap.get? h₁.objs.size = some (lst ys) := X4.keep _ _ (by simpa using Ne.symm hDP) (k3 _ _ (Ne.symm hIP.2.1) hDT hD')
      have hC4 : s₄.heap.Ns C m := X4.ns (by simpa using hPC) (hC'.at' fun x e => k3 _ x (Ne.symm hIP.2.2.1) hCT' e)
      have hT4 : s₄.heap.IsCell (C + 1) (some (.str kk tk)) := X4.cell (by simpa using Ne.symm hPT) hT3
      have X4s : Ext [P] s s₄ := X3.trans X4
      have hs4 : H.objs.size ≤ s₄.heap.objs.size := by
        have a1 := X4.size
        have a2 := X3'.size
        exact Nat.le_trans hs2 (Nat.le_trans a2 a1)
      have hfs := filter_snoc (p := pr) hlk
      cases hb : ps.all fun p => decide (p.2 ≠ kk) with
      | false =>
        rw [if_neg (by decide)]
        refine ⟨ks.length + 1 - (i + 1), by omega, i + 1, ys, m, _, tabs₄, hlt, rfl, hst₄, hD4, ?_, hC4, hT4, hok₄, htab₄, X4s, hs4⟩
        rw [hfs, if_neg (by show ¬ (ps.all fun p => decide (p.2 ≠ kk)) = true; rw [hb]; decide), List.append_nil]
        exact hys
      | true =>
        rw [if_pos rfl]
        refine wpAny_Name (wpAny_loadName_cell hEk ((lk t).trans lt) (by rw [hEce]; exact lct) hT4 ?_) ht0
        refine append_at hD4 (fun h₅ hs5 e5 => ?_) ?_
        · have X5' : Ext [h₁.objs.size] s₄ { s₄ with heap := h₅ } := Ext.same (tk := s₄.toks) hs5
          refine ⟨ks.length + 1 - (i + 1), by omega, i + 1, ys ++ [.str kk tk], m, _, tabs₄, hlt, rfl, (W A hh).frame _ _ _ hst₄ fun b hb' x e => X5'.keep b x (by simpa using (fpo b hb').2.1) e, ?_, ?_,
            X5'.ns (by simpa using Ne.symm hDC) hC4, X5'.cell (by simpa using hDT') hT4, X5'.code (by simpa using hcD) (by simpa using hDP) hok₄, X5'.table (by simpa using hcD) (by simpa using hDP) htab₄,
            X4s.next X5' fun p hp => .inr (by rw [List.mem_singleton.mp hp]; exact hle₁), Nat.le_trans hs4 X5'.size⟩
          · rw [e5, lst_snoc]
          · rw [hfs, if_pos (by show (ps.all fun p => decide (p.2 ≠ kk)) = true; exact hb)]
            exact strs_snoc hys kk tk
        · have h1 : ys.length ≤ ks.length := by
            rw [hys.len_eq]
            exact Nat.le_trans (List.length_filter_le _ _) (Nat.le_trans (List.length_take_le' _ _) (Nat.le_of_eq hperm.length_eq))
          have h2 : scanBound ≤ sizeLine := by decide
          simp only [List.size_toArray]
          omega
    · have hin : i = ks.length := by omega
      subst hin
      refine (W A hh).done s' _ _ hst' fun h₂ tk₂ hk₂ => ?_
      have kI : ∀ b x, b ≠ I → s'.heap.get? b = some x → h₂.get? b = some x := fun b x hb' e => hk₂ b x (by simpa using hb') e
      have hT2 : h₂.IsCell (C + 1) v0 := isCell_keep hT' fun x e => kI _ x (Ne.symm hIP.2.2.2) e
      have hs2 : H.objs.size ≤ h₂.objs.size := by
        obtain ⟨x, e, _⟩ := hT2
        have := PySem.W.ltN (Heap.lt_size e)
        omega
      have hcI : c ≠ I := fun q => absurd hclt (Nat.not_lt.mpr (q ▸ hI))
      have X2 : Ext [P] s { s' with heap := h₂, toks := tk₂ } := ⟨fun b x hb' e => kI b x (fun q => absurd (Heap.lt_size e) (Nat.not_lt.mpr (q ▸ hI))) (X'.keep b x hb' e), by
        show s.heap.objs.size ≤ h₂.objs.size
        omega, X'.os, X'.bare⟩
      rw [List.take_of_length_le (Nat.le_of_eq hperm.length_eq)] at hys
      exact h { s' with heap := h₂, toks := tk₂ } h₁.objs.size C m _ ys tabs' X2 hle₁ (by omega) hDC (kI _ _ (Ne.symm hIP.2.1) hD') hys (hperm.filter pr)
        (keepsC hok' fun b x hb' e => kI b x (hb'.elim (fun q => q ▸ hcI) fun q => q ▸ Ne.symm hIP.1) e) (keepsT htab' fun b x hb' e => kI b x (hb'.elim (fun q => q ▸ hcI) fun q => q ▸ Ne.symm hIP.1) e)
        (hC'.at' fun x e => kI _ x (Ne.symm hIP.2.2.1) e)
  refine codeAny_compStart_list ?_ ?_
  · exact loop _ rfl
  · refine (W A hh).self 0 _ _ _ ((W A hh).frame 0 _ _ hst fun b _ x e => old₁ b x e) ?_
    exact loop _ rfl
end
end Mine
end

section
open PySem PySem.Calls PyProof.Rows
set_option Elab.async false
set_option maxRecDepth 100000
namespace Mine
/-- values that stand for things, one by one -/
inductive RelL {α : Type} (R : Value → α → Prop) : List Value → List α → Prop
  | nil : RelL R [] []
  | cons {v p vs ps} : R v p → RelL R vs ps → RelL R (v :: vs) (p :: ps)
theorem RelL.snoc {α : Type} {R : Value → α → Prop} {vs : List Value} {ps : List α} {v : Value} {p : α} (x : RelL R vs ps) (h : R v p) : RelL R (vs ++ [v]) (ps ++ [p]) := by
  induction x with
  | nil => exact .cons h .nil
  | cons a _ ih => exact .cons a ih
theorem RelL.mono {α : Type} {R R' : Value → α → Prop} {vs : List Value} {ps : List α} (x : RelL R vs ps) (h : ∀ v ∈ vs, ∀ p, R v p → R' v p) : RelL R' vs ps := by
  induction x with
  | nil => exact .nil
  | cons a _ ih => exact .cons (h _ List.mem_cons_self _ a) (ih fun v hv => h v (List.mem_cons_of_mem _ hv))
theorem RelL.length {α : Type} {R : Value → α → Prop} {vs : List Value} {ps : List α} (x : RelL R vs ps) : vs.length = ps.length := by
  induction x with
  | nil => rfl
  | cons _ _ ih => simp [ih]
theorem RelL.pairs {h : Heap} {vs : List Value} {ps : List (Str × Str)} (x : RelL (PairAt h) vs ps) : PairsAt h vs ps := by
  induction x with
  | nil => exact .nil
  | cons a _ ih => exact .cons a ih
theorem RelL.strs {vs : List Value} {ps : List (Str × Str)} (x : RelL (fun v p => ∃ t, v = .str p.1 t) vs ps) : StrsAre vs (ps.map (·.1)) := by
  induction x with
  | nil => exact .nil
  | cons a _ ih => obtain ⟨t, rfl⟩ := a; exact .cons _ t ih
theorem filter_snocG {α : Type} {p : α → Bool} {ls : List α} {i : Nat} {k : α} (h : ls[i]? = some k) : (ls.take (i + 1)).filter p = (ls.take i).filter p ++ (if p k then [k] else []) := by
  rw [List.take_add_one, h]
  simp only [Option.toList, List.filter_append, List.filter_cons, List.filter_nil]
section
variable {prog : Program} {w : World} {A : Around} {E : Value → Shared → Prop} {s : Shared} {mg mb : Str → Option Value}

/-- [elt for xa, xb in PAIRS if c] with one free name -/
theorem pairs_comp {env : Env} {pp cY : Addr} {scope : Scope} {xa xb y k : Str} {tk : Tok} {prs : List Value} {ps : List (Str × Str)} {elt c iter : Expr} {pos posC p4 p5 p6 : Pos} {kt : Nat} {keep : Str × Str → Bool} {R : Heap → Value → Str × Str → Prop}
    {first : Sem Value} {use : Option (Value → Sem Unit)} {Q : Value → Shared → Prop}
    (hh : A.handled = none) (hk : env.scope.kind = .function)
    (hsn : scope.names = [(Str.ofString ".0", NameKind.local), (xa, NameKind.local), (xb, NameKind.local), (y, NameKind.free)]) (hsk : scope.kind = .function)
    (hd : [Str.ofString ".0", xa, xb, y].Nodup)
    (hyk : env.kindOf y = some .cell) (hyc : env.cells.lookup y = some cY) (hyv : s.heap.IsCell cY (some (.str k tk)))
    (hfirst : ∀ (Q : Value → Shared → Prop) (E : Value → Shared → Prop), Q (.ref pp) s → wpAny (model prog w) A first Q E s) (hfold : ∀ x, foldedSetIterable iter env x = pure x)
    (hl : s.heap.IsList pp prs.toArray) (hp : PairsAt s.heap prs ps) (hsz : prs.length ≤ sizeLine)
    (hR : ∀ h h' v p, R h v p → (∀ a, v = .ref a → ∀ o, h.get? a = some o → h'.get? a = some o) → R h' v p)
    (htest : ∀ (cenv : Env) (s' : Shared) m p t1 t2 (Q : Bool → Shared → Prop) (E : Value → Shared → Prop), cenv.scope.kind = .function → cenv.kindOf xa = some .local → cenv.kindOf xb = some .local → cenv.kindOf y = some .cell → cenv.cells.lookup y = some cY →
      s'.heap.Ns cenv.locals m → m xa = some (.str p.1 t1) → m xb = some (.str p.2 t2) → s'.heap.IsCell cY (some (.str k tk)) → Q (keep p) s' → wpAny (model prog w) A (isTrue c cenv (eval c cenv)) Q E s')
    (helt : ∀ (cenv : Env) (s' : Shared) m p t1 t2 (Q : Value → Shared → Prop) (E : Value → Shared → Prop), cenv.scope.kind = .function → cenv.kindOf xa = some .local → cenv.kindOf xb = some .local →
      s'.heap.Ns cenv.locals m → m xa = some (.str p.1 t1) → m xb = some (.str p.2 t2) → (∀ v s'', Ext [] s' s'' → R s''.heap v p → (∀ a, v = .ref a → s'.heap.objs.size ≤ a) → Q v s'') → wpAny (model prog w) A (eval elt cenv) Q E s')
    (h : ∀ s' D C m vs, Ext [] s s' → s.heap.objs.size ≤ D → s.heap.objs.size ≤ C → D ≠ C → s'.heap.get? D = some (lst vs) → RelL (R s'.heap) vs (ps.filter keep) → (∀ v ∈ vs, ∀ a, v = .ref a → s.heap.objs.size ≤ a ∧ a ≠ D ∧ a ≠ C) →
      s'.heap.Ns C m → compPost (model prog w) A E use Q (.ref D) C (.ok .next) s') :
    wpAny (model prog w) A (comprehension (.ListComp elt [⟨.Tuple [.Name xa p4, .Name xb p5] kt p6, iter, [c], 0⟩] scope pos) scope env posC (newList []) false first use) Q E s := by
  have hne : xa ≠ xb ∧ xa ≠ y ∧ xb ≠ y ∧ Str.ofString ".0" ≠ xa ∧ Str.ofString ".0" ≠ xb ∧ Str.ofString ".0" ≠ y := by
    simp only [List.nodup_cons, List.mem_cons, List.not_mem_nil, or_false, not_or, List.nodup_nil, and_true] at hd
    exact ⟨hd.2.1.1, hd.2.1.2, hd.2.2.1, hd.1.1, hd.1.2.1, hd.1.2.2⟩
  obtain ⟨n1, n2, n3, n4, n5, n6⟩ := hne
  have b1 : (xb == xa) = false := beq_false_of_ne (Ne.symm n1)
  have b2 : (y == xa) = false := beq_false_of_ne (Ne.symm n2)
  have b3 : (y == xb) = false := beq_false_of_ne (Ne.symm n3)
  have b4 : (xa == Str.ofString ".0") = false := beq_false_of_ne (Ne.symm n4)
  have b5 : (xb == Str.ofString ".0") = false := beq_false_of_ne (Ne.symm n5)
  have b6 : (y == Str.ofString ".0") = false := beq_false_of_ne (Ne.symm n6)
  refine wpAny_comprehension_free rfl hfold (closure_gen hsn hyc) hsk (by
    rw [hsn]
    intro x hx hxl
    simp only [List.mem_cons, List.not_mem_nil, or_false] at hx
    rcases hx with rfl | rfl | rfl | rfl
    · simp
    · simp [List.lookup_cons, b4]
    · simp [List.lookup_cons, b5, b1]
    · cases hxl) (hfirst _ _ ?_)
  refine wpAny_pyIter_list hl ?_
  refine wpAny_newObj_type ?_
  refine wpAny_newFunctionEnv (by rw [hsn]; intro x hx; simp only [List.mem_cons, List.not_mem_nil, or_false] at hx; rcases hx with rfl | rfl | rfl | rfl <;> intro e <;> cases e) (by intro y hy; simp at hy) (fun H hns₁ hsb₁ => ?_) hsk
  dsimp only at hns₁ hsb₁ ⊢
  have hrel : (relabel scope env).names = [(Str.ofString ".0", NameKind.local), (xa, NameKind.local), (xb, NameKind.local), (y, NameKind.cell)] := by
    show scope.names.map _ = _
    rw [hsn]
    simp [hk, hyk]
  generalize hI : s.heap.objs.size = I at hns₁ hsb₁ ⊢
  generalize hH1 : s.heap.push { cls := .type "list_iterator", data := .fields #[.ref pp, .int 0 0] } = H1 at hns₁ hsb₁ ⊢
  have hD1 : H1.objs.size = I + 1 := by rw [← hH1, Heap.size_push, hI]
  generalize hH2 : H1.push { cls := .type "list", dict := none, data := .seq ([] : List Value).toArray } = H2 at hns₁ hsb₁ ⊢
  have hC1 : H2.objs.size = I + 2 := by rw [← hH2, Heap.size_push, hD1]
  generalize hD : H1.objs.size = D at hD1 ⊢
  generalize hC : H2.objs.size = C at hC1 hns₁ hsb₁ ⊢
  have old : ∀ b x, s.heap.get? b = some x → H.get? b = some x := fun b x e => by
    have hb : b < I := hI ▸ Heap.lt_size e
    refine hsb₁.extBut b x (PySem.W.neN (by have := PySem.W.ltN hb; omega)) (Heap.get?_push_of_some _ (hH2 ▸ Heap.get?_push_of_some _ (hH1 ▸ Heap.get?_push_of_some _ e)))
  have hHs : H.objs.size = I + 3 := by rw [hsb₁.1, Heap.size_push, hC, hC1]
  have hIt : H.IsListIter I pp 0 := by
    refine ⟨_, hsb₁.extBut _ _ (PySem.W.neN (by omega)) (Heap.get?_push_of_some _ (hH2 ▸ Heap.get?_push_of_some _ (hH1 ▸ hI ▸ Heap.get?_push_size _ rfl))), rfl, rfl⟩
  have hDg : H.get? D = some (lst []) := hsb₁.extBut _ _ (PySem.W.neN (by omega)) (Heap.get?_push_of_some _ (hH2 ▸ hD ▸ Heap.get?_push_size _ rfl))
  have nID : I ≠ D := PySem.W.neN (by omega)
  have nIC : I ≠ C := PySem.W.neN (by omega)
  have nDC : D ≠ C := PySem.W.neN (by omega)
  have low : ∀ b, b < s.heap.objs.size → b ≠ I ∧ b ≠ D ∧ b ≠ C := fun b hb => by
    have := PySem.W.ltN hb
    exact ⟨PySem.W.neN (by omega), PySem.W.neN (by omega), PySem.W.neN (by omega)⟩
  have hppl : pp < s.heap.objs.size := let ⟨_, e, _⟩ := hl; Heap.lt_size e
  obtain ⟨Ts, vals, hT1, hT2, hT3⟩ := pair_addr hp
  have hlen : prs.toArray.size = ps.length := by simp [hp.length]
  generalize hE : compEnvC scope [(y, cY)] C env = cenv
  have hEsc : cenv.scope = relabel scope env := by rw [← hE]; rfl
  have hEce : cenv.cells = [(y, cY)] := by rw [← hE]; rfl
  have hEl : cenv.locals = C := by rw [← hE]; rfl
  have hEk : cenv.scope.kind = .function := by rw [hEsc]; exact hsk
  have ka : cenv.kindOf xa = some .local := by unfold Env.kindOf; rw [hEsc, hrel]; simp [List.lookup_cons, b4]
  have kb : cenv.kindOf xb = some .local := by unfold Env.kindOf; rw [hEsc, hrel]; simp [List.lookup_cons, b5, b1]
  have ky : cenv.kindOf y = some .cell := by unfold Env.kindOf; rw [hEsc, hrel]; simp [List.lookup_cons, b6, b2, b3]
  have lcy : cenv.cells.lookup y = some cY := by rw [hEce]; simp [List.lookup_cons]
  have X0 : Ext [] s { s with heap := H, toks := s.toks + ([] : List (Str × Value)).length } := ⟨fun b x _ e => old b x e, by show s.heap.objs.size ≤ H.objs.size; omega, rfl, id⟩
  have loop : ∀ s₃ : Shared, s₃ = { s with heap := H, toks := s.toks + ([] : List (Str × Value)).length } →
      codeAny (model prog w) A (.compLoop (.ListComp elt [⟨.Tuple [.Name xa p4, .Name xb p5] kt p6, iter, [c], 0⟩] scope pos) 0 (.ref I) (.ref D) cenv) (compPost (model prog w) A E use Q (.ref D) C) s₃ := by
    rintro s₃ rfl
    refine PySem.W.kct_loop (fun n s' => ∃ (i : Nat) (ys : List Value) (m : Str → Option Value), i ≤ ps.length ∧ n = ps.length + 1 - i ∧ s'.heap.IsListIter I pp i ∧ s'.heap.get? D = some (lst ys) ∧ RelL (R s'.heap) ys ((ps.take i).filter keep) ∧
      (∀ v ∈ ys, ∀ a, v = .ref a → H.objs.size ≤ a) ∧ s'.heap.Ns C m ∧ Ext [] s s' ∧ H.objs.size ≤ s'.heap.objs.size) ?_ (ps.length + 1)
      ⟨0, [], _, Nat.zero_le _, rfl, hIt, hDg, .nil, fun _ hv => absurd hv List.not_mem_nil, hns₁, X0, Nat.le_refl _⟩
    rintro n s' ⟨i, ys, m, hi, rfl, hit', hD', hys, hfr, hC', X', hs'⟩
    have hl' := X'.list List.not_mem_nil hl
    by_cases hlt : i < ps.length
    · have hi' : i < prs.toArray.size := by rw [hlen]; exact hlt
      refine wpAny_pyNext_list_item hit' hl' (hT1 i hi') fun h₂ hit₂ hs₂ => ?_
      dsimp only
      refine wpAny_letOwnedTupleGo_listiter hit₂ ?_
      have X2' : Ext [I] s' { s' with heap := h₂ } := Ext.same (tk := s'.toks) hs₂
      have hTl : Ts i < s.heap.objs.size := let ⟨_, e, _⟩ := hT2 i hi'; Heap.lt_size e
      obtain ⟨t1, t2, hv⟩ := hT3 i _ (List.getElem?_eq_getElem hlt)
      have hTup : h₂.IsTuple (Ts i) (vals i) := by
        obtain ⟨o, e, r⟩ := hT2 i hi'
        exact ⟨o, X2'.keep _ _ (by simpa using (low _ hTl).1) (X'.keep _ _ List.not_mem_nil e), r⟩
      rw [hv] at hTup
      have hC2 : h₂.Ns cenv.locals m := by rw [hEl]; exact X2'.ns (by simpa using Ne.symm nIC) hC'
      refine PySem.W.kcp_assign hh hTup ka kb (by rw [hEk]; rfl) hC2 fun h₃ tk₃ hn₃ hk₃ => ?_
      rw [hEl] at hk₃
      have up : ∀ b x, b ≠ I → b ≠ C → s'.heap.get? b = some x → h₃.get? b = some x := fun b x q1 q2 e => hk₃ b x q2 (X2'.keep b x (by simpa using q1) e)
      have hC3 : h₃.Ns C _ := hEl ▸ hn₃
      have hCl : C < h₃.objs.size := hC3.lt
      have hs3 : H.objs.size ≤ h₃.objs.size := by have := PySem.W.ltN hCl; omega
      have X3 : Ext [] s { s' with heap := h₃, toks := tk₃ } := ⟨fun b x _ e => up b x (low b (Heap.lt_size e)).1 (low b (Heap.lt_size e)).2.2 (X'.keep b x List.not_mem_nil e), by
        show s.heap.objs.size ≤ h₃.objs.size
        omega, X'.os, X'.bare⟩
      have ma : (fun z => if z = xb then some (Value.str ps[i].2 t2) else if z = xa then some (Value.str ps[i].1 t1) else m z) xa = some (.str ps[i].1 t1) := by simp [n1]
      have mb' : (fun z => if z = xb then some (Value.str ps[i].2 t2) else if z = xa then some (Value.str ps[i].1 t1) else m z) xb = some (.str ps[i].2 t2) := by simp
      refine htest cenv { s' with heap := h₃, toks := tk₃ } _ ps[i] t1 t2 _ _ hEk ka kb ky lcy hn₃ ma mb' (X3.cell List.not_mem_nil hyv) ?_
      have hgt : ∀ v ∈ ys, ∀ a, v = .ref a → a ≠ I ∧ a ≠ C ∧ a ≠ D := fun v hv a e => by
        have := hfr v hv a e
        exact ⟨PySem.W.neN (by omega), PySem.W.neN (by omega), PySem.W.neN (by omega)⟩
      have hit₃ : h₃.IsListIter I pp (i + 1) := by
        obtain ⟨o, e, r⟩ := hit₂
        exact ⟨o, hk₃ _ _ nIC e, r⟩
      have hD3 : h₃.get? D = some (lst ys) := up _ _ (Ne.symm nID) nDC hD'
      have hys3 : RelL (R h₃) ys ((ps.take i).filter keep) := hys.mono fun v hv p r => hR _ _ _ _ r fun a e o ho => up a o (hgt v hv a e).1 (hgt v hv a e).2.1 ho
      have hfs := filter_snocG (p := keep) (List.getElem?_eq_getElem hlt)
      cases hb : keep ps[i] with
      | false =>
        rw [if_neg (by decide)]
        refine ⟨ps.length + 1 - (i + 1), by omega, i + 1, ys, _, hlt, rfl, hit₃, hD3, ?_, hfr, hC3, X3, hs3⟩
        rw [hfs, if_neg (by rw [hb]; decide), List.append_nil]
        exact hys3
      | true =>
        rw [if_pos rfl]
        refine helt cenv { s' with heap := h₃, toks := tk₃ } _ ps[i] t1 t2 _ _ hEk ka kb hn₃ ma mb' fun v s₄ X4 hRv hva => ?_
        refine append_at (X4.keep _ _ List.not_mem_nil hD3) (fun h₅ hs5 e5 => ?_) ?_
        · have X5' : Ext [D] s₄ { s₄ with heap := h₅ } := Ext.same (tk := s₄.toks) hs5
          have vge : ∀ a, v = .ref a → H.objs.size ≤ a := fun a e => Nat.le_trans hs3 (hva a e)
          refine ⟨ps.length + 1 - (i + 1), by omega, i + 1, ys ++ [v], _, hlt, rfl, ?_, ?_, ?_, ?_, X5'.ns (by simpa using Ne.symm nDC) (X4.ns List.not_mem_nil hC3),
            (X3.trans X4).next X5' fun p hp => .inr (by rw [List.mem_singleton.mp hp]; omega), Nat.le_trans hs3 (Nat.le_trans X4.size X5'.size)⟩
          · obtain ⟨o, e, r⟩ := hit₃
            exact ⟨o, X5'.keep _ _ (by simpa using nID) (X4.keep _ _ List.not_mem_nil e), r⟩
          · rw [e5, lst_snoc]
          · rw [hfs, if_pos hb]
            refine RelL.snoc (hys3.mono fun v hv p r => hR _ _ _ _ r fun a e o ho => X5'.keep _ _ (by simpa using (hgt v hv a e).2.2) (X4.keep _ _ List.not_mem_nil ho)) (hR _ _ _ _ hRv fun a e o ho => X5'.keep _ _ ?_ ho)
            have := vge a e
            simp only [List.mem_singleton]
            exact PySem.W.neN (by omega)
          · intro v' hv' a e
            rcases List.mem_append.mp hv' with q | q
            · exact hfr v' q a e
            · rw [List.mem_singleton] at q; subst q; exact vge a e
        · have h1 : ys.length ≤ ps.length := by
            rw [hys.length]
            exact Nat.le_trans (List.length_filter_le _ _) (List.length_take_le' _ _)
          simp only [List.size_toArray]
          have := hp.length
          omega
    · have hin : i = ps.length := by omega
      subst hin
      refine wpAny_pyNext_list_end hh hit' hl' (by rw [Array.getElem?_eq_none]; rw [hlen]; exact Nat.le_refl _) fun h₂ hk₂ => ?_
      have hC2 : h₂.Ns C m := hC'.at' fun x e => hk₂ _ x (Ne.symm nIC) e
      have hCl : C < h₂.objs.size := hC2.lt
      have hs2 : H.objs.size ≤ h₂.objs.size := by have := PySem.W.ltN hCl; omega
      rw [List.take_of_length_le (Nat.le_refl _)] at hys
      refine h { s' with heap := h₂ } D C m ys ⟨fun b x _ e => hk₂ b x (low b (Heap.lt_size e)).1 (X'.keep b x List.not_mem_nil e), by
        show s.heap.objs.size ≤ h₂.objs.size
        omega, X'.os, X'.bare⟩ (by omega) (by omega) nDC (hk₂ _ _ (Ne.symm nID) hD') (hys.mono fun v hv p r => hR _ _ _ _ r fun a e o ho => hk₂ a o ?_ ho) (fun v hv a e => ?_) hC2
      · have := hfr v hv a e
        exact PySem.W.neN (by omega)
      · have := hfr v hv a e
        exact ⟨by omega, PySem.W.neN (by omega), PySem.W.neN (by omega)⟩
  refine codeAny_compStart_list ?_ ?_
  · subst hE; exact loop _ rfl
  · subst hE; exact wpAny_pyIter_listiter hIt (loop _ rfl)
end
end Mine
end

section
open PySem PySem.Calls PyProof.Rows PySem.W
set_option Elab.async false
set_option maxRecDepth 100000
namespace Mine
section
variable {prog : Program} {w : World} {A : Around} {E : Value → Shared → Prop} {s : Shared} {mg mb : Str → Option Value} {R : Result → Shared → Prop}
theorem enter_cells {name qual : Str} {params : Arguments} {body : List Stmt} {scope : Scope} {dV kV doc pm cdv ct : Value} {an : Option Addr} {f : Addr} {args : Args} {binds : List (Str × Value)} {fo : Obj}
    (hlim : s.heap.NoLimit) (ho : s.heap.get? f = some fo) (hd : fo.data = .func (fnOf name qual params body scope dV kV doc pm an cdv ct)) (hcd : s.heap.CodeRec cdv qual) (hroom : A.depth < recursionLimit)
    (hbind : BindsTo s (fnOf name qual params body scope dV kV doc pm an cdv ct) args binds)
    (hkind : (binds.all fun y => scope.names.lookup y.1 == some .local || scope.names.lookup y.1 == some .cell) = true)
    (h : ∀ h₁ tk, h₁.Ns s.heap.objs.size (bindL (envOfC qual scope s.heap.objs.size f cdv).kindOf binds fun _ => none) →
      (∀ n c, (cellsFrom (s.heap.objs.size + 1) scope.names []).lookup n = some c → h₁.IsCell c (bindC (envOfC qual scope s.heap.objs.size f cdv).kindOf binds (fun _ => none) n)) → Kp s.heap h₁ →
      wpAny (model prog w) (A.deeper (envOfC qual scope s.heap.objs.size f cdv)) (execs body (envOfC qual scope s.heap.objs.size f cdv))
        (fun fl s' => R (.ok (.ret (match fl with | .ret v => v | _ => .none))) s')
        (fun e s' => wpAny (model prog w) (A.deeper (envOfC qual scope s.heap.objs.size f cdv)) (leaving (envOfC qual scope s.heap.objs.size f cdv) e) (fun _ s'' => R (.error e) s'') (fun e' s'' => R (.error e') s'') s')
        { s with heap := h₁, toks := tk })
    (hco : scope.isCoroutine = false := by rfl) (hgen : scope.isGenerator = false := by rfl) (hk : scope.kind = .function := by rfl) : codeAny (model prog w) A (.call (.ref f) args) R s := by
  refine codeAny_call_function hroom ho hd hco hgen rfl hcd (hbind _ _ _ _ ?_)
  refine wpAny_newFunctionEnv_cells hk (kindsX hkind _) fun env' he s' x => ?_
  subst he
  refine ⟨hlim.keeps x.toInCall.keep, codeAny_func ?_⟩
  obtain ⟨h₁, tk, rfl, _⟩ := x.done
  exact h h₁ tk x.toInCall.ns x.cell x.toInCall.keep
end
end Mine
end

section
open PySem PySem.Calls PyProof.Rows PySem.W
set_option Elab.async false
set_option maxRecDepth 100000
namespace Mine
/-- a list and what it holds -/
def LAt (h : Heap) (l : Addr) (vs : List Value) : Prop := ∃ n, IsL h l vs.toArray n
theorem LAt.isList {h : Heap} {l : Addr} {vs : List Value} (x : LAt h l vs) : h.IsList l vs.toArray := let ⟨_, e⟩ := x; IsL.isList e
theorem LAt.keep {h h' : Heap} {l : Addr} {vs : List Value} (x : LAt h l vs) (k : ∀ o, h.get? l = some o → h'.get? l = some o) : LAt h' l vs := let ⟨n, e⟩ := x; ⟨n, k _ e⟩
theorem LAt.lt {h : Heap} {l : Addr} {vs : List Value} (x : LAt h l vs) : l < h.objs.size := let ⟨_, e⟩ := x; Heap.lt_size e
theorem LAt.of_lst {h : Heap} {l : Addr} {vs : List Value} (x : h.get? l = some (lst vs)) : LAt h l vs := ⟨_, x⟩
theorem Ext.lat {s s' : Shared} {wr : List Addr} {c : Addr} {v : List Value} (x : Ext wr s s') (hc : c ∉ wr) (h : LAt s.heap c v) : LAt s'.heap c v := h.keep fun o e => x.keep c o hc e
theorem Ext.push {s : Shared} {o : Obj} {tk : Nat} : Ext [] s { s with heap := s.heap.push o, toks := tk } := ⟨fun _ _ _ e => Heap.get?_push_of_some _ e, by rw [Heap.size_push]; exact Nat.le_succ _, rfl, id⟩
theorem Ext.kp' {s : Shared} {h' : Heap} {tk : Nat} (k : Kp s.heap h') (hs : s.heap.objs.size ≤ h'.objs.size) : Ext [] s { s with heap := h', toks := tk } := ⟨fun b o _ e => k b o e, hs, rfl, id⟩
theorem Ext.tok {s : Shared} {tk : Nat} : Ext [] s { s with toks := tk } := ⟨fun _ _ _ e => e, Nat.le_refl _, rfl, id⟩
theorem ne_cls {h : Heap} {a b : Addr} {o o' : Obj} (e : h.get? a = some o) (e' : h.get? b = some o') (hc : o.cls ≠ o'.cls) : a ≠ b := fun q => by
  subst q; rw [e] at e'; cases e'; exact hc rfl
section
variable {prog : Program} {w : World} {A : Around} {E : Value → Shared → Prop} {s : Shared} {mg mb : Str → Option Value} {env : Env} {hb : Heap}
/-- an expression that gives v and changes nothing -/
abbrev Gives (prog : Program) (w : World) (A : Around) (env : Env) (e : Expr) (s : Shared) (v : Value) : Prop := ∀ (Q : Value → Shared → Prop) (E : Value → Shared → Prop), Q v s → wpAny (model prog w) A (eval e env) Q E s
theorem gives_local {x : Str} {p : Pos} {m : Str → Option Value} {v : Value} (hk : env.scope.kind = .function) (hx : env.kindOf x = some .local) (hn : s.heap.Ns env.locals m) (hv : m x = some v) (hd : (x == ("__debug__" : Str)) = false := by decide) :
    Gives prog w A env (.Name x p) s v := fun _ _ h => wpAny_Name (wpAny_loadName_local hk hx hn hv h) hd
theorem gives_cell {x : Str} {p : Pos} {c : Addr} {v : Value} (hk : env.scope.kind = .function) (hx : env.kindOf x = some .cell) (hc : env.cells.lookup x = some c) (hv : s.heap.IsCell c (some v)) (hd : (x == ("__debug__" : Str)) = false := by decide) :
    Gives prog w A env (.Name x p) s v := fun _ _ h => wpAny_Name (wpAny_loadName_cell hk hx hc hv h) hd

theorem call_one {x : Str} {p pos : Pos} {e : Expr} {id : String} {v : Value} {Q : Value → Shared → Prop} (G : Gb mg mb hb) (kp : Kp hb s.heap) (hk : env.scope.kind = .function) (hg : env.globals = mainGlobals) (hbl : env.builtins = builtinsNs)
    (hx : env.kindOf x = some .globalImplicit) (h1 : mg x = none) (h2 : mb x = some (.builtin id)) (he : Gives prog w A env e s v)
    (h : wpAny (model prog w) A (call (.builtin id) [v]) Q E s) (hs : starEach [e] env = [(false, eval e env)]) (hd : (x == ("__debug__" : Str)) = false := by decide) : wpAny (model prog w) A (eval (.Call (.Name x p) [e] [] pos) env) Q E s :=
  Call_Name1 (name_builtin G kp hk hg hbl hx h1 h2 (callWith_builtin rfl (evalArgs_plain (spliced_cons (he _ _ (spliced_nil h))))) hd) hs
theorem call_oneT {x : Str} {p pos : Pos} {e : Expr} {id : String} {v : Value} {Q : Value → Shared → Prop} (G : Gb mg mb hb) (kp : Kp hb s.heap) (hk : env.scope.kind = .function) (hg : env.globals = mainGlobals) (hbl : env.builtins = builtinsNs)
    (hx : env.kindOf x = some .globalImplicit) (h1 : mg x = none) (h2 : mb x = some (.type id)) (he : Gives prog w A env e s v)
    (h : wpAny (model prog w) A (call (.type id) [v]) Q E s) (hs : starEach [e] env = [(false, eval e env)]) (hd : (x == ("__debug__" : Str)) = false := by decide) : wpAny (model prog w) A (eval (.Call (.Name x p) [e] [] pos) env) Q E s :=
  Call_Name1 (name_builtin G kp hk hg hbl hx h1 h2 (PySem.callWith_type1 (he _ _ h)) hd) hs
theorem len_list {x : Str} {p pos : Pos} {e : Expr} {l : Addr} {vs : List Value} {Q : Value → Shared → Prop} (G : Gb mg mb hb) (kp : Kp hb s.heap) (hk : env.scope.kind = .function) (hg : env.globals = mainGlobals) (hbl : env.builtins = builtinsNs)
    (hx : env.kindOf x = some .globalImplicit) (h1 : mg x = none) (h2 : mb x = some (.builtin "len")) (he : Gives prog w A env e s (.ref l)) (hl : LAt s.heap l vs) (hf : vs.length < 2 ^ 62)
    (h : ∀ t s', Ext [] s s' → Q (.int vs.length t) s') (hs : starEach [e] env = [(false, eval e env)]) (hd : (x == ("__debug__" : Str)) = false := by decide) : wpAny (model prog w) A (eval (.Call (.Name x p) [e] [] pos) env) Q E s := by
  refine call_one G kp hk hg hbl hx h1 h2 he (call_len_list hl.isList (by simp only [List.size_toArray]; omega) ?_) hs hd
  simp only [List.size_toArray]
  exact h _ _ Ext.tok
theorem len_set {x : Str} {p pos : Pos} {e : Expr} {l : Addr} {o : Obj} {ks : List Str} {Q : Value → Shared → Prop} (G : Gb mg mb hb) (kp : Kp hb s.heap) (hk : env.scope.kind = .function) (hg : env.globals = mainGlobals) (hbl : env.builtins = builtinsNs)
    (hx : env.kindOf x = some .globalImplicit) (h1 : mg x = none) (h2 : mb x = some (.builtin "len")) (he : Gives prog w A env e s (.ref l)) (ho : s.heap.get? l = some o) (hS : SetS w o ks) (hf : ks.length < 2 ^ 62)
    (h : ∀ t s', Ext [] s s' → Q (.int ks.length t) s') (hs : starEach [e] env = [(false, eval e env)]) (hd : (x == ("__debug__" : Str)) = false := by decide) : wpAny (model prog w) A (eval (.Call (.Name x p) [e] [] pos) env) Q E s := by
  obtain ⟨hx', es, ep, t, hdat, D⟩ := hS
  have hsz := D.size
  refine call_one G kp hk hg hbl hx h1 h2 he (call_len_set ho hx' hdat D.fits (by omega) ?_) hs hd
  rw [hsz]
  exact h _ _ Ext.tok
theorem store_local {x : Str} {v : Value} {m : Str → Option Value} {Q : Unit → Shared → Prop} (hx : env.kindOf x = some .local) (hn : s.heap.Ns env.locals m)
    (h : ∀ s', Ext [env.locals] s s' → s'.heap.Ns env.locals (fun y => if y = x then some v else m y) → Q () s') (hp : (env.scope.kind == .class || (env.scope.kind == .module && env.locals != env.globals)) = false) : wpAny (model prog w) A (storeName env x v) Q E s :=
  wpAny_storeName_local hx hn (fun h' hn' hs => h _ (Ext.same hs) hn') hp
theorem store_cell {x : Str} {v : Value} {c : Addr} {v0 : Option Value} {Q : Unit → Shared → Prop} (hk : env.scope.kind = .function) (hx : env.kindOf x = some .cell) (hc : env.cells.lookup x = some c) (hv : s.heap.IsCell c v0)
    (h : ∀ s', Ext [c] s s' → s'.heap.IsCell c (some v) → Q () s') : wpAny (model prog w) A (storeName env x v) Q E s :=
  wpAny_storeName_cell hk hx hc hv fun h' hv' hs => h _ (Ext.same (tk := s.toks) hs) hv'
theorem list_nil {pos : Pos} {Q : Value → Shared → Prop} (h : ∀ D s', Ext [] s s' → s.heap.objs.size ≤ D → LAt s'.heap D [] → Q (.ref D) s') : wpAny (model prog w) A (eval (.List [] pos) env) Q E s :=
  wpAny_List (spliced_nil ⟨Nat.zero_le _, h _ _ (Ext.push (tk := s.toks)) (Nat.le_refl _) ⟨0, IsL.new _ _⟩⟩)
theorem const_int {i : Int} {k : Nat} {pos : Pos} {Q : Value → Shared → Prop} (h : ∀ t s', Ext [] s s' → Q (.int i t) s') : wpAny (model prog w) A (eval (.Constant (.int i) k pos) env) Q E s := wpAny_Constant_int (h _ _ Ext.tok)
/-- x = [..] where the store is done inside -/
theorem comp_used {x : Str} {elt : Expr} {g : Comprehension} {gs : List Comprehension} {scope : Scope} {pos px spos : Pos} {Q : Flow → Shared → Prop} (hsw : swapsWith (.ListComp elt (g :: gs) scope pos) (some (.Name x px)) spos.line env = pure true)
    (h : wpAny (model prog w) A (comprehension (.ListComp elt (g :: gs) scope pos) scope env (firstIterPos (g :: gs) pos) (newList []) (firstAsync (g :: gs)) (firstIter (g :: gs) env) (some (assign (.Name x px) env))) (fun _ s' => Q .next s') E s) :
    wpAny (model prog w) A (exec (.Assign [.Name x px] (.ListComp elt (g :: gs) scope pos) spos) env) Q E s := by
  rw [exec_Assign_Name_used _ _ _ _ hsw]
  refine wpAny_bind (wpAny_standAt (wpAny_bind ?_))
  show wpAny _ A (do let _ ← comprehension (.ListComp elt (g :: gs) scope pos) scope env (firstIterPos (g :: gs) pos) (newList []) (firstAsync (g :: gs)) (firstIter (g :: gs) env) (some (assign (.Name x px) env))) _ _ _
  exact wpAny_bind (wpAny_mono h (fun _ s' hq => wpAny_pure (wpAny_pure hq)) fun _ _ e => e)
theorem comp_plain {elt : Expr} {g : Comprehension} {gs : List Comprehension} {scope : Scope} {pos : Pos} {Q : Value → Shared → Prop}
    (h : wpAny (model prog w) A (comprehension (.ListComp elt (g :: gs) scope pos) scope env (firstIterPos (g :: gs) pos) (newList []) (firstAsync (g :: gs)) (firstIter (g :: gs) env) none) Q E s) :
    wpAny (model prog w) A (eval (.ListComp elt (g :: gs) scope pos) env) Q E s := by
  rw [eval_ListComp]
  exact h
theorem swaps_true {x : Str} {elt : Expr} {gs : List Comprehension} {scope : Scope} {pos px : Pos} {l : Nat} (hb : env.blockKind = .function) (hx : env.kindOf x = some .local) (hl : (px.line == pos.line) = true) (hn : (scope.names.any fun (n, k) => n == x && (k == .local || k == .cell)) = false) :
    swapsWith (.ListComp elt gs scope pos) (some (.Name x px)) l env = pure true := by
  show pure (env.blockKind == .function && env.kindOf x == some .local && px.line == pos.line && !(scope.names.any fun (n, k) => n == x && (k == .local || k == .cell))) = _
  rw [hb, hx, hl, hn]; rfl
theorem swaps_cell {x : Str} {elt : Expr} {gs : List Comprehension} {scope : Scope} {pos px : Pos} {l : Nat} (hx : env.kindOf x = some .cell) :
    swapsWith (.ListComp elt gs scope pos) (some (.Name x px)) l env = pure false := by
  show pure (env.blockKind == .function && env.kindOf x == some .local && px.line == pos.line && !(scope.names.any fun (n, k) => n == x && (k == .local || k == .cell))) = _
  rw [hx, show ((some NameKind.cell : Option NameKind) == some .local) = false from rfl, Bool.and_false, Bool.false_and, Bool.false_and]
/-- set(l) of a list of texts without repeats -/
theorem set_ev {x : Str} {p pos : Pos} {e : Expr} {l : Addr} {vs : List Value} {ks : List Str} {Q : Value → Shared → Prop} (hh : A.handled = none) (G : Gb mg mb hb) (kp : Kp hb s.heap) (hk : env.scope.kind = .function) (hg : env.globals = mainGlobals) (hbl : env.builtins = builtinsNs)
    (hx : env.kindOf x = some .globalImplicit) (h1 : mg x = none) (h2 : mb x = some (.type "set")) (he : Gives prog w A env e s (.ref l)) (hl : LAt s.heap l vs) (hi : StrsAre vs ks) (hn : ks.Nodup) (hf : ks.length + 1 < scanBound)
    (h : ∀ D o s', Ext [] s s' → s.heap.objs.size ≤ D → s'.heap.get? D = some o → SetS w o ks → (ks.length ≤ 4 → Cl o) → Q (.ref D) s') (hs : starEach [e] env = [(false, eval e env)]) (hd : (x == ("__debug__" : Str)) = false := by decide) : wpAny (model prog w) A (eval (.Call (.Name x p) [e] [] pos) env) Q E s :=
  call_oneT G kp hk hg hbl hx h1 h2 he (call_set_strs hh hl.isList hi hn hf fun h' tk o e S C k => h _ o _ (Ext.kp' (fun b x e => k b x (Heap.lt_size e) e) (Nat.le_of_lt (Heap.lt_size e))) (Nat.le_refl _) e S C) hs hd
/-- x = o.copy() and the like: a method without arguments -/
theorem meth0 {o : Expr} {name : Str} {apos pos : Pos} {T id : String} {ov : Value} {Q : Value → Shared → Prop} (hbase : attributeBase o name env (eval o env) = eval o env) (hline : (apos.endLine == pos.line) = true)
    (pa : PlainAttrs T) (sl : Slot T name id) (ty : typeOf (.builtin id) = pure (.type "method_descriptor")) (ho : Gives prog w A env o s ov) (hT : s.TypeIs ov T) (hd : ∀ a, ov = .ref a → ∃ ob, s.heap.get? a = some ob ∧ ob.dict = none)
    (h : ∀ pos', wpAny (model prog w) A (callWith pos' (.builtin id) [ov] [] []) Q E s) : wpAny (model prog w) A (eval (.Call (.Attribute o name apos) [] [] pos) env) Q E s :=
  Call_method0 hbase hline (ho _ _ ⟨T, id, pa, sl, ty, hT, hd, h _⟩)
theorem meth1 {o e : Expr} {name : Str} {apos pos : Pos} {T id : String} {ov : Value} {Q : Value → Shared → Prop} (hbase : attributeBase o name env (eval o env) = eval o env) (hs : starEach [e] env = [(false, eval e env)]) (hline : (apos.endLine == pos.line) = true)
    (pa : PlainAttrs T) (sl : Slot T name id) (ty : typeOf (.builtin id) = pure (.type "method_descriptor")) (ho : Gives prog w A env o s ov) (hT : s.TypeIs ov T) (hd : ∀ a, ov = .ref a → ∃ ob, s.heap.get? a = some ob ∧ ob.dict = none)
    (h : ∀ pos', wpAny (model prog w) A (callWith pos' (.builtin id) [ov] [(false, eval e env)] []) Q E s) : wpAny (model prog w) A (eval (.Call (.Attribute o name apos) [e] [] pos) env) Q E s :=
  Call_method1 hbase hs hline (ho _ _ ⟨T, id, pa, sl, ty, hT, hd, h _⟩)
theorem LAt.typ {s : Shared} {l : Addr} {vs : List Value} (x : LAt s.heap l vs) : s.TypeIs (.ref l) "list" := x.isList.typeIs
theorem LAt.noDict {s : Shared} {l : Addr} {vs : List Value} (x : LAt s.heap l vs) : ∀ a, Value.ref l = .ref a → ∃ ob, s.heap.get? a = some ob ∧ ob.dict = none := fun a e => by
  cases e; obtain ⟨n, e⟩ := x; exact ⟨_, e, rfl⟩
/-- o.append(e) on a list -/
theorem append_ev {o e : Expr} {apos pos : Pos} {l : Addr} {vs : List Value} {v : Value} {Q : Value → Shared → Prop} (hbase : attributeBase o "append" env (eval o env) = eval o env) (hs : starEach [e] env = [(false, eval e env)]) (hline : (apos.endLine == pos.line) = true)
    (ho : Gives prog w A env o s (.ref l)) (he : Gives prog w A env e s v) (hl : LAt s.heap l vs) (hz : vs.length ≤ sizeLine)
    (h : ∀ s', Ext [l] s s' → LAt s'.heap l (vs ++ [v]) → Q .none s') : wpAny (model prog w) A (eval (.Call (.Attribute o "append" apos) [e] [] pos) env) Q E s := by
  refine meth1 hbase hs hline F.plainAttrs_list F.slot_list_append F.type_list_append ho hl.typ hl.noDict fun _ => ?_
  obtain ⟨n, el⟩ := id hl
  have hu := IsL.update el (fun xs => xs.push v)
  simp only [List.push_toArray] at hu
  exact P.append_list (he _ _ ⟨vs.toArray, n, by simpa using hz, el, h _ (Ext.same (tk := s.toks) (Heap.SameBut.update ..)) ⟨_, hu⟩⟩)
/-- o.copy() of a list -/
theorem copyl_ev {o : Expr} {apos pos : Pos} {l : Addr} {vs : List Value} {Q : Value → Shared → Prop} (hbase : attributeBase o "copy" env (eval o env) = eval o env) (hline : (apos.endLine == pos.line) = true)
    (ho : Gives prog w A env o s (.ref l)) (hl : LAt s.heap l vs) (hz : vs.length ≤ sizeLine)
    (h : ∀ D s', Ext [] s s' → s.heap.objs.size ≤ D → LAt s'.heap D vs → Q (.ref D) s') : wpAny (model prog w) A (eval (.Call (.Attribute o "copy" apos) [] [] pos) env) Q E s := by
  refine meth0 hbase hline F.plainAttrs_list F.slot_list_copy F.type_list_copy ho hl.typ hl.noDict fun _ => ?_
  obtain ⟨n, el⟩ := id hl
  refine P.copy_list el (h _ _ (Ext.push (tk := s.toks)) (Nat.le_refl _) ⟨0, ?_⟩) (by simpa using hz)
  exact IsL.new _ _
/-- o.copy() of a set -/
theorem copys_ev {o : Expr} {apos pos : Pos} {a : Addr} {ob : Obj} {ks : List Str} {Q : Value → Shared → Prop} (hbase : attributeBase o "copy" env (eval o env) = eval o env) (hline : (apos.endLine == pos.line) = true)
    (ho : Gives prog w A env o s (.ref a)) (hob : s.heap.get? a = some ob) (hS : SetS w ob ks) (hC : Cl ob) (h4 : ks.length ≤ 4)
    (h : ∀ D o' s', Ext [] s s' → s.heap.objs.size ≤ D → s'.heap.get? D = some o' → SetS w o' ks → Q (.ref D) s') : wpAny (model prog w) A (eval (.Call (.Attribute o "copy" apos) [] [] pos) env) Q E s :=
  meth0 hbase hline F.plainAttrs_set F.slot_set_copy F.type_set_copy ho ⟨ob, hob, hS.1.1⟩ (fun b e => setS_noDict hob hS b e) fun pos' => callWith_builtin rfl (PySem.evalArgs_none (call_copy hob hS hC h4 fun h' o' e S k => h _ o' _ (Ext.kp' (tk := s.toks) k (Nat.le_of_lt (Heap.lt_size e))) (Nat.le_refl _) e S))
/-- o.remove(e) on a set of texts -/
theorem removes_ev {o e : Expr} {apos pos : Pos} {a : Addr} {ob : Obj} {ks : List Str} {k : Str} {tk : Tok} {Q : Value → Shared → Prop} (hbase : attributeBase o "remove" env (eval o env) = eval o env) (hs : starEach [e] env = [(false, eval e env)]) (hline : (apos.endLine == pos.line) = true)
    (ho : Gives prog w A env o s (.ref a)) (he : Gives prog w A env e s (.str k tk)) (hob : s.heap.get? a = some ob) (hS : SetS w ob ks) (hk : k ∈ ks) (hb : ks.length < scanBound)
    (h : ∀ s' o', Ext [a] s s' → s'.heap.get? a = some o' → SetS w o' (ks.erase k) → Q .none s') : wpAny (model prog w) A (eval (.Call (.Attribute o "remove" apos) [e] [] pos) env) Q E s :=
  meth1 hbase hs hline F.plainAttrs_set F.slot_set_remove F.type_set_remove ho ⟨ob, hob, hS.1.1⟩ (fun b e => setS_noDict hob hS b e) fun pos' =>
    callWith_builtin rfl (evalArgs_plain (spliced_cons (he _ _ (spliced_nil (call_remove hob hS hk hb fun h' tk' o' sb e S => h _ o' (Ext.same sb) e S)))))
/-- o[c] on a list -/
theorem item_ev {o : Expr} {i : Int} {kd : Nat} {p pos : Pos} {l : Addr} {vs : List Value} {v : Value} {Q : Value → Shared → Prop} (ho : Gives prog w A env o s (.ref l)) (hl : LAt s.heap l vs) (h0 : 0 ≤ i) (hf : i < 2 ^ 63) (hv : vs[i.toNat]? = some v)
    (h : ∀ s', Ext [] s s' → Q v s') (ht : ∀ o' r, letTemporaryGo o o' r = pure () := by intro _ _; rfl) : wpAny (model prog w) A (eval (.Subscript o (.Constant (.int i) kd p) pos) env) Q E s :=
  Subscript_Constant (ho _ _ (wpAny_Constant_int ⟨"list", "list.__getitem__", F.slot_list_getitem.lookup, hl.typ, getItem_listL (s := { s with toks := s.toks + 1 }) hl.isList h0 hf hv (h _ Ext.tok)⟩)) ht
end
theorem pairs_off {h : Heap} {prs : List Value} {ps : List (Str × Str)} (hp : PairsAt h prs ps) {x : Addr} {o : Obj} (e : h.get? x = some o) (hc : o.cls = .type "tuple" → ∀ xs n, o.data ≠ .seq xs n) : ∀ a, Value.ref a ∈ prs → a ≠ x := by
  induction hp with
  | nil => exact fun a h => absurd h List.not_mem_nil
  | cons hv _ ih =>
    intro a ha
    rcases List.mem_cons.mp ha with rfl | ha
    · obtain ⟨b, t1, t2, e', ob, hb, c1, n, d1⟩ := hv
      cases e'
      intro q
      rw [← q, hb] at e
      cases e
      exact hc c1 _ _ d1
    · exact ih a ha
theorem cell_off {h : Heap} {prs : List Value} {ps : List (Str × Str)} (hp : PairsAt h prs ps) {x : Addr} {v : Option Value} (c : h.IsCell x v) : ∀ a, Value.ref a ∈ prs → a ≠ x := by
  obtain ⟨o, e, d⟩ := c
  exact pairs_off hp e fun _ xs n q => by rw [d] at q; cases q
theorem ns_off {h : Heap} {prs : List Value} {ps : List (Str × Str)} (hp : PairsAt h prs ps) {x : Addr} {m : Str → Option Value} (c : h.Ns x m) : ∀ a, Value.ref a ∈ prs → a ≠ x := by
  obtain ⟨o, es, ep, e, d, _⟩ := c
  exact pairs_off hp e fun _ xs n q => by rw [d] at q; cases q
theorem lat_off {h : Heap} {prs : List Value} {ps : List (Str × Str)} (hp : PairsAt h prs ps) {x : Addr} {v : List Value} (c : LAt h x v) : ∀ a, Value.ref a ∈ prs → a ≠ x := by
  obtain ⟨n, e⟩ := c
  exact pairs_off hp e fun q => by simp at q
theorem pairs_lt {h : Heap} {prs : List Value} {ps : List (Str × Str)} (hp : PairsAt h prs ps) : ∀ a, Value.ref a ∈ prs → a < h.objs.size := by
  induction hp with
  | nil => exact fun a h => absurd h List.not_mem_nil
  | cons hv _ ih =>
    intro a ha
    rcases List.mem_cons.mp ha with rfl | ha
    · obtain ⟨b, t1, t2, e', ob, hb, _⟩ := hv
      cases e'
      exact Heap.lt_size hb
    · exact ih a ha
end Mine
end

section
open PySem PySem.Calls PyProof.Rows PySem.W
set_option Elab.async false
set_option maxRecDepth 100000
namespace Mine
/-- what a step keeps, its heap's size left out -/
structure Ext0 (wr : List Addr) (s s' : Shared) : Prop where
  keep : ∀ b o, b ∉ wr → s.heap.get? b = some o → s'.heap.get? b = some o
  os : s'.os = s.os
  bare : AllBare s.gens → AllBare s'.gens
theorem Ext.e0 {wr : List Addr} {s s' : Shared} (x : Ext wr s s') : Ext0 wr s s' := ⟨x.keep, x.os, x.bare⟩
theorem Ext0.sized {wr : List Addr} {s s' : Shared} (x : Ext0 wr s s') (h : s.heap.objs.size ≤ s'.heap.objs.size) : Ext wr s s' := ⟨x.keep, h, x.os, x.bare⟩
theorem Ext0.by {wr : List Addr} {s s' : Shared} (x : Ext0 wr s s') {z : Addr} (h : s.heap.objs.size ≤ z) (hz : z < s'.heap.objs.size) : Ext wr s s' := x.sized (Nat.le_of_lt (Nat.lt_of_le_of_lt h hz))
theorem Ext0.next {wr wr' : List Addr} {a b c : Shared} (x : Ext0 wr a b) (y : Ext0 wr' b c) (h : ∀ p ∈ wr', p ∈ wr ∨ a.heap.objs.size ≤ p) : Ext0 wr a c :=
  ⟨fun p o hp e => y.keep p o (fun q => (h p q).elim hp fun hle => absurd (Heap.lt_size e) (Nat.not_lt.mpr hle)) (x.keep p o hp e), y.os.trans x.os, fun h => y.bare (x.bare h)⟩
theorem Ext0.mono {wr wr' : List Addr} {a b : Shared} (x : Ext0 wr a b) (h : ∀ p ∈ wr, p ∈ wr') : Ext0 wr' a b := ⟨fun b o hb e => x.keep b o (fun q => hb (h b q)) e, x.os, x.bare⟩
theorem Ext0.refl (wr : List Addr) (s : Shared) : Ext0 wr s s := ⟨fun _ _ _ e => e, rfl, id⟩
section
variable {wr : List Addr} {s s' : Shared} {c : Addr}
theorem Ext0.cell {v : Option Value} (x : Ext0 wr s s') (hc : c ∉ wr) (h : s.heap.IsCell c v) : s'.heap.IsCell c v := isCell_keep h fun o e => x.keep c o hc e
theorem Ext0.lat {v : List Value} (x : Ext0 wr s s') (hc : c ∉ wr) (h : LAt s.heap c v) : LAt s'.heap c v := h.keep fun o e => x.keep c o hc e
theorem Ext0.ns {m : Str → Option Value} (x : Ext0 wr s s') (hc : c ∉ wr) (h : s.heap.Ns c m) : s'.heap.Ns c m := h.at' fun o e => x.keep c o hc e
theorem Ext0.pairs {prs : List Value} {ps : List (Str × Str)} (x : Ext0 wr s s') (h : PairsAt s.heap prs ps) (hn : ∀ a, Value.ref a ∈ prs → a ∉ wr) : PairsAt s'.heap prs ps :=
  h.all fun _v hv _p hp => hp.keeps fun a e o ho => x.keep a o (hn a (e ▸ hv)) ho
theorem Ext0.kp {hb : Heap} (x : Ext0 wr s s') (k : Kp hb s.heap) (hn : ∀ b ∈ wr, hb.get? b = none) : Kp hb s'.heap :=
  fun b o e => x.keep b o (fun q => by rw [hn b q] at e; cases e) (k b o e)
end
section
variable {prog : Program} {w : World} {A : Around} {E : Value → Shared → Prop} {s : Shared} {env : Env}

/-- for TARGET in LIST -/
theorem for_list {x : Str} {px pos : Pos} {iter : Expr} {body : List Stmt} {l : Addr} {vs : List Value} {Q : Flow → Shared → Prop} (hh : A.handled = none) (hiter : Gives prog w A env iter s (.ref l)) (hl : LAt s.heap l vs) (Inv : Addr → Nat → Shared → Prop)
    (h0 : ∀ I s₁, Ext [] s s₁ → s.heap.objs.size ≤ I → I < s₁.heap.objs.size → Inv I 0 s₁)
    (adv : ∀ I i s' s₁, s.heap.objs.size ≤ I → Inv I i s' → Ext [I] s' s₁ → Inv I i s₁)
    (lst : ∀ I i s', s.heap.objs.size ≤ I → Inv I i s' → LAt s'.heap l vs)
    (turn : ∀ I i v s₁ E', s.heap.objs.size ≤ I → (∃ o, s₁.heap.get? I = some o) → vs[i]? = some v → Inv I i s₁ → wpAny (model prog w) A (storeName env x v) (fun _ s₂ => wpAny (model prog w) A (execs body env) (fun f s₃ => f = .next ∧ (∀ o, s₁.heap.get? I = some o → o.cls = .type "list_iterator" → s₃.heap.get? I = some o) ∧ Inv I (i + 1) s₃) E' s₂) E' s₁)
    (hQ : ∀ I s' s₂, s.heap.objs.size ≤ I → Inv I vs.length s' → Ext0 [I] s' s₂ → Q .next s₂)
    (hs : ∀ x, foldedSetIterable iter env x = pure x := by intro _; rfl) :
    wpAny (model prog w) A (exec (.For (.Name x px) iter body [] pos) env) Q E s := by
  refine wpAny_For (hiter _ _ (wpAny_pyIter_list hl.isList ?_)) hs
  have H : ∀ s₁ : Shared, s₁.heap.IsListIter s.heap.objs.size l 0 → Inv s.heap.objs.size 0 s₁ → codeAny (model prog w) A (.forLoop (.Name x px) (.ref s.heap.objs.size) body [] env) (fun r s' => match r with | .ok f => Q f s' | .error e => cameBackBy (model prog w) A env E e s') s₁ := by
    intro s₁ hit hI0
    generalize hI : s.heap.objs.size = I at hit hI0 ⊢
    have hle : s.heap.objs.size ≤ I := Nat.le_of_eq hI
    have hlI : l ≠ I := Nat.ne_of_lt (Nat.lt_of_lt_of_le hl.lt hle)
    refine codeAny_forLoop (fun n s' => ∃ i, i ≤ vs.length ∧ n = vs.length + 1 - i ∧ s'.heap.IsListIter I l i ∧ Inv I i s') ?_ (vs.length + 1) ⟨0, Nat.zero_le _, rfl, hit, hI0⟩
    rintro n s' ⟨i, hi, rfl, hit', hI'⟩
    have hl' := lst I i s' hle hI'
    by_cases hlt : i < vs.length
    · refine wpAny_pyNext_list_item hit' hl'.isList (x := vs[i]) (by simp [hlt]) fun h₂ hit₂ hs₂ => ?_
      have X2 : Ext [I] s' { s' with heap := h₂ } := Ext.same (tk := s'.toks) hs₂
      have hIl : ∃ o, ({ s' with heap := h₂ } : Shared).heap.get? I = some o := let ⟨o, e, _⟩ := hit₂; ⟨o, e⟩
      refine wpAny_assign_Name (wpAny_mono (turn I i vs[i] { s' with heap := h₂ } _ hle hIl (List.getElem?_eq_getElem hlt) (adv I i s' _ hle hI' X2)) (fun _ s₂ h₂' => wpAny_mono h₂' (fun f s₃ hf => ?_) fun _ _ e => e) fun _ _ e => e)
      obtain ⟨rfl, hk, hI₃⟩ := hf
      obtain ⟨o, e, c1, d1⟩ := hit₂
      exact ⟨vs.length + 1 - (i + 1), by omega, i + 1, hlt, rfl, ⟨o, hk o e c1, c1, d1⟩, hI₃⟩
    · have hin : i = vs.length := by omega
      subst hin
      refine wpAny_pyNext_list_end hh hit' hl'.isList (by simp) fun h₂ hk₂ => wpAny_execs_nil ?_
      exact hQ I s' _ hle hI' ⟨fun b o hb e => hk₂ b o (by simpa using hb) e, rfl, id⟩
  refine H _ ⟨_, Heap.get?_push_size _ rfl, rfl, rfl⟩ (h0 _ _ (Ext.push (tk := s.toks)) (Nat.le_refl _) ?_)
  rw [Heap.size_push]; exact Nat.lt_succ_self _

/-- what a loop over range(n) asks -/
def RLoop (prog : Program) (w : World) (A : Around) (env : Env) (x : Str) (body : List Stmt) (Q : Flow → Shared → Prop) (n : Nat) (s : Shared) : Prop :=
  ∃ Inv : Addr → Nat → Shared → Prop,
    (∀ I s₁, Ext [] s s₁ → s.heap.objs.size ≤ I → I < s₁.heap.objs.size → Inv I 0 s₁) ∧
    (∀ I i s' s₁, s.heap.objs.size ≤ I → Inv I i s' → Ext [I] s' s₁ → Inv I i s₁) ∧
    (∀ I i t s₁ E', s.heap.objs.size ≤ I → (∃ o, s₁.heap.get? I = some o ∧ o.cls = .type "range_iterator") → i < n → Inv I i s₁ → wpAny (model prog w) A (storeName env x (.int (i : Nat) t)) (fun _ s₂ => wpAny (model prog w) A (execs body env) (fun f s₃ => f = .next ∧ (∀ o, s₁.heap.get? I = some o → o.cls = .type "range_iterator" → s₃.heap.get? I = some o) ∧ Inv I (i + 1) s₃) E' s₂) E' s₁) ∧
    (∀ I s' s₂, s.heap.objs.size ≤ I → Inv I n s' → Ext0 [I] s' s₂ → Q .next s₂)
/-- for TARGET in range(n), the range object in hand -/
theorem for_range {x : Str} {px pos : Pos} {iter : Expr} {body : List Stmt} {Q : Flow → Shared → Prop} (hh : A.handled = none)
    (h : wpAny (model prog w) A (eval iter env) (fun xv s₁ => ∃ r n t u v, xv = .ref r ∧ IsRange s₁.heap r 0 ((n : Nat) : Int) 1 t u v ∧ n < 2 ^ 31 ∧ RLoop prog w A env x body Q n s₁) E s)
    (hs : ∀ x, foldedSetIterable iter env x = pure x := by intro _; rfl) :
    wpAny (model prog w) A (exec (.For (.Name x px) iter body [] pos) env) Q E s := by
  refine wpAny_For (wpAny_mono h (fun xv s₁ h₁ => ?_) fun _ _ e => e) hs
  obtain ⟨r, n, t, u, v, rfl, hR, hn, Inv, h0, adv, turn, hQ⟩ := h₁
  refine wpAny_pyIter_range hR (small_one (by decide) (by decide) (by omega) (by omega)) ?_
  have hsz : Builtin.Range.rangeSize 0 (n : Int) 1 = (n : Int) := by rw [rangeSize_one]; split <;> omega
  have H : ∀ s₂ : Shared, IsRangeIter s₂.heap s₁.heap.objs.size 0 n 1 → Inv s₁.heap.objs.size 0 s₂ → codeAny (model prog w) A (.forLoop (.Name x px) (.ref s₁.heap.objs.size) body [] env) (fun r s' => match r with | .ok f => Q f s' | .error e => cameBackBy (model prog w) A env E e s') s₂ := by
    intro s₂ hit hI0
    generalize hI : s₁.heap.objs.size = I at hit hI0 ⊢
    have hle : s₁.heap.objs.size ≤ I := Nat.le_of_eq hI
    refine codeAny_forLoop (fun k s' => ∃ i, i ≤ n ∧ k = n + 1 - i ∧ IsRangeIter s'.heap I (i : Nat) ((n : Int) - (i : Nat)) 1 ∧ Inv I i s') ?_ (n + 1) ⟨0, Nat.zero_le _, rfl, by simpa using hit, hI0⟩
    rintro k s' ⟨i, hi, rfl, hit', hI'⟩
    by_cases hlt : i < n
    · refine wpAny_pyNext_range_item hit' (by omega) fun h₂ hit₂ hs₂ => ?_
      have X2 : Ext [I] s' { s' with heap := h₂, toks := s'.toks + 1 } := Ext.same hs₂
      refine wpAny_assign_Name (wpAny_mono (turn I i s'.toks { s' with heap := h₂, toks := s'.toks + 1 } _ hle ⟨_, hit₂, rfl⟩ hlt (adv I i s' _ hle hI' X2)) (fun _ s₂ h₂' => wpAny_mono h₂' (fun f s₃ hf => ?_) fun _ _ e => e) fun _ _ e => e)
      obtain ⟨rfl, hk, hI₃⟩ := hf
      refine ⟨n + 1 - (i + 1), by omega, i + 1, hlt, rfl, ?_, hI₃⟩
      have e1 : ((i + 1 : Nat) : Int) = (i : Int) + 1 := by omega
      have e2 : (n : Int) - ((i + 1 : Nat) : Int) = (n : Int) - (i : Nat) - 1 := by omega
      rw [e2, e1]
      exact hk _ hit₂ rfl
    · have hin : i = n := by omega
      subst hin
      refine wpAny_pyNext_range_end hh hit' (by omega) fun h₂ hk₂ => wpAny_execs_nil ?_
      exact hQ I s' _ hle hI' ⟨fun b o hb e => hk₂ b o (by simpa using hb) e, rfl, id⟩
  refine H _ ?_ (h0 _ _ (Ext.push (tk := s₁.toks)) (Nat.le_refl _) ?_)
  · rw [hsz]; exact Heap.get?_push_size _ rfl
  · rw [Heap.size_push]; exact Nat.lt_succ_self _
end
end Mine
end

section
open PySem PySem.Calls PyProof.Rows PySem.W
set_option Elab.async false
set_option maxRecDepth 100000
namespace Mine
/-- an order: a list of texts -/
def Ord (h : Heap) (v : Value) (o : List Str) : Prop := ∃ a ows, v = .ref a ∧ LAt h a ows ∧ StrsAre ows o
/-- behind all that is live -/
def Fresh (s : Shared) (a : Addr) : Prop := ∀ z o, s.heap.get? z = some o → z < a
theorem Fresh.of_size {s : Shared} {a : Addr} (h : s.heap.objs.size ≤ a) : Fresh s a := fun _ _ e => Nat.lt_of_lt_of_le (Heap.lt_size e) h
theorem Fresh.ne {s : Shared} {a z : Addr} {o : Obj} (x : Fresh s a) (e : s.heap.get? z = some o) : a ≠ z := Nat.ne_of_gt (x z o e)
theorem Ord.keep {h h' : Heap} {v : Value} {o : List Str} (x : Ord h v o) (k : ∀ a, v = .ref a → ∀ ob, h.get? a = some ob → h'.get? a = some ob) : Ord h' v o :=
  let ⟨a, ows, e, l, r⟩ := x; ⟨a, ows, e, l.keep (k a e), r⟩
theorem ords_keep {h h' : Heap} {vs : List Value} {os : List (List Str)} (x : RelL (Ord h) vs os) (k : ∀ a, Value.ref a ∈ vs → ∀ ob, h.get? a = some ob → h'.get? a = some ob) : RelL (Ord h') vs os :=
  x.mono fun _ hv _ r => r.keep fun a e => k a (e ▸ hv)
theorem RelL.append {α : Type} {R : Value → α → Prop} {vs vs' : List Value} {ps ps' : List α} (x : RelL R vs ps) (y : RelL R vs' ps') : RelL R (vs ++ vs') (ps ++ ps') := by
  induction x with
  | nil => exact y
  | cons a _ ih => exact .cons a ih
theorem RelL.at {α : Type} {R : Value → α → Prop} {vs : List Value} {ps : List α} (x : RelL R vs ps) {i : Nat} {v : Value} (h : vs[i]? = some v) : ∃ p, ps[i]? = some p ∧ R v p := by
  induction x generalizing i with
  | nil => simp at h
  | cons a _ ih =>
    cases i with
    | zero => simp at h; subst h; exact ⟨_, rfl, a⟩
    | succ i => simp at h; obtain ⟨p, e, r⟩ := ih h; exact ⟨p, by simpa using e, r⟩
/-- a list of lists has no place of another kind -/
theorem ords_off {h : Heap} {vs : List Value} {os : List (List Str)} (x : RelL (Ord h) vs os) {z : Addr} {ob : Obj} (e : h.get? z = some ob) (hc : ∀ xs n, ob ≠ { cls := .type "list", dict := none, data := .seq xs n, slots := #[] }) : ∀ a, Value.ref a ∈ vs → a ≠ z := by
  induction x with
  | nil => exact fun a h => absurd h List.not_mem_nil
  | cons hv _ ih =>
    intro a ha
    rcases List.mem_cons.mp ha with rfl | ha
    · obtain ⟨b, ows, e', ⟨n, el⟩, _⟩ := hv
      cases e'
      intro q
      rw [← q, el] at e
      cases e
      exact hc _ _ rfl
    · exact ih a ha
def okT (ps : List (Str × Str)) (o : List Str) (t : Str) : Bool := decide (t ∉ o) && ps.all fun p => decide (p.2 = t → p.1 ∈ o)
theorem nexts_okT (ts : List Str) (ps : List (Str × Str)) (o : List Str) : nexts ts ps o = ts.filter (okT ps o) := rfl
theorem live_cell {h : Heap} {c : Addr} {v : Option Value} (x : h.IsCell c v) : ∃ o, h.get? c = some o ∧ ∀ xs n, o ≠ { cls := .type "list", dict := none, data := .seq xs n, slots := #[] } :=
  let ⟨o, e, d⟩ := x; ⟨o, e, fun _ _ q => by rw [q] at d; cases d⟩
theorem live_ns {h : Heap} {c : Addr} {m : Str → Option Value} (x : h.Ns c m) : ∃ o, h.get? c = some o ∧ ∀ xs n, o ≠ { cls := .type "list", dict := none, data := .seq xs n, slots := #[] } :=
  let ⟨o, es, ep, e, d, _⟩ := x; ⟨o, e, fun _ _ q => by rw [q] at d; cases d⟩
section
variable {prog : Program} {w : World} {A : Around} {E : Value → Shared → Prop} {s : Shared} {env : Env}
/-- what one turn of the innermost loop does -/
def TurnSpec (prog : Program) (w : World) (A : Around) (env : Env) (body : List Stmt) (cO cT pl : Addr) (prs : List Value) (ps : List (Str × Str)) (hb : Heap) : Prop :=
  ∀ (s₁ : Shared) m oa ows o t tk lvs LG (Q' : Flow → Shared → Prop) E', Kp hb s₁.heap → s₁.heap.Ns env.locals m → m (Str.ofString "pairs") = some (.ref pl) → m (Str.ofString "longer") = some (.ref LG) →
    s₁.heap.IsCell cO (some (.ref oa)) → LAt s₁.heap oa ows → StrsAre ows o → s₁.heap.IsCell cT (some (.str t tk)) → LAt s₁.heap pl prs → PairsAt s₁.heap prs ps → LAt s₁.heap LG lvs → lvs.length ≤ 2 ^ 20 → o.length ≤ 10 →
    (∀ s₂ new m', Ext0 [env.locals, LG] s₁ s₂ → s₂.heap.Ns env.locals m' → (∀ x, x ≠ Str.ofString "ahead" → m' x = m x) → LAt s₂.heap LG (lvs ++ new) → RelL (Ord s₂.heap) new (if okT ps o t then [o ++ [t]] else []) → (∀ a, Value.ref a ∈ new → Fresh s₁ a) → Q' .next s₂) →
    wpAny (model prog w) A (execs body env) Q' E' s₁

/-- the loop over the tasks -/
theorem inner_loop {body : List Stmt} {cO cT pl tl LG oa : Addr} {prs lvs tvs ows : List Value} {ps : List (Str × Str)} {ts o : List Str} {m : Str → Option Value} {px ip pos : Pos} {vT : Option Value} {Q : Flow → Shared → Prop}
    (hh : A.handled = none) (hk : env.scope.kind = .function) (kt : env.kindOf (Str.ofString "tasks") = some .local) (kT : env.kindOf (Str.ofString "task") = some .cell) (cTl : env.cells.lookup (Str.ofString "task") = some cT)
    {hb : Heap} (T : TurnSpec prog w A env body cO cT pl prs ps hb) (kp : Kp hb s.heap) (hbn : ∀ b ∈ [env.locals, LG, cT, cO], hb.get? b = none)
    (hns : s.heap.Ns env.locals m) (mt : m (Str.ofString "tasks") = some (.ref tl)) (mp : m (Str.ofString "pairs") = some (.ref pl)) (ml : m (Str.ofString "longer") = some (.ref LG))
    (hcO : s.heap.IsCell cO (some (.ref oa))) (hoa : LAt s.heap oa ows) (ho : StrsAre ows o) (hcT : s.heap.IsCell cT vT) (htl : LAt s.heap tl tvs) (hts : StrsAre tvs ts) (hpl : LAt s.heap pl prs) (hps : PairsAt s.heap prs ps) (hLG : LAt s.heap LG lvs)
    (hll : lvs.length + ts.length ≤ 2 ^ 20) (ho10 : o.length ≤ 10) (n1 : oa ≠ LG) (n2 : tl ≠ LG) (n3 : pl ≠ LG)  (n4 : cO ≠ cT)
    (hQ : ∀ s₂ new m' vT', Ext0 [env.locals, LG, cT] s s₂ → s₂.heap.Ns env.locals m' → (∀ x, x ≠ Str.ofString "ahead" → m' x = m x) → s₂.heap.IsCell cT vT' → LAt s₂.heap LG (lvs ++ new) → RelL (Ord s₂.heap) new ((nexts ts ps o).map fun t => o ++ [t]) → (∀ a, Value.ref a ∈ new → Fresh s a) → Q .next s₂) :
    wpAny (model prog w) A (exec (.For (.Name (Str.ofString "task") px) (.Name (Str.ofString "tasks") ip) body [] pos) env) Q E s := by
  obtain ⟨oL, eL, dL⟩ := live_ns hns
  obtain ⟨oT, eT, dT⟩ := live_cell hcT
  obtain ⟨oO, eO, dO⟩ := live_cell hcO
  have hLgl : LG < s.heap.objs.size := hLG.lt
  have lat_ne : ∀ {x y : Addr} {vs : List Value} {ob : Obj}, LAt s.heap x vs → s.heap.get? y = some ob → (∀ xs n, ob ≠ { cls := .type "list", dict := none, data := .seq xs n, slots := #[] }) → x ≠ y := by
    intro x y vs ob ⟨n, e⟩ e2 hc q
    subst q
    exact hc _ _ (Option.some.inj (e2.symm.trans e))
  have tl_off : tl ∉ [env.locals, LG, cT] := by
    simp only [List.mem_cons, List.not_mem_nil, or_false, not_or]
    exact ⟨lat_ne htl eL dL, n2, lat_ne htl eT dT⟩
  have oa_off : oa ∉ [env.locals, LG, cT] := by
    simp only [List.mem_cons, List.not_mem_nil, or_false, not_or]
    exact ⟨lat_ne hoa eL dL, n1, lat_ne hoa eT dT⟩
  have pl_off : pl ∉ [env.locals, LG, cT] := by
    simp only [List.mem_cons, List.not_mem_nil, or_false, not_or]
    exact ⟨lat_ne hpl eL dL, n3, lat_ne hpl eT dT⟩
  have nLT : env.locals ≠ cT := fun q => by
    obtain ⟨o1, e1, d1⟩ := hcT
    obtain ⟨o2, es, ep, e2, d2, _⟩ := hns
    rw [q, e1] at e2; cases e2; rw [d1] at d2; cases d2
  have nLO : env.locals ≠ cO := fun q => by
    obtain ⟨o1, e1, d1⟩ := hcO
    obtain ⟨o2, es, ep, e2, d2, _⟩ := hns
    rw [q, e1] at e2; cases e2; rw [d1] at d2; cases d2
  have nLGL : LG ≠ env.locals := lat_ne hLG eL dL
  have nLGT : LG ≠ cT := lat_ne hLG eT dT
  have nLGO : LG ≠ cO := lat_ne hLG eO dO
  have cO_off : cO ∉ [env.locals, LG, cT] := by
    simp only [List.mem_cons, List.not_mem_nil, or_false, not_or]
    exact ⟨Ne.symm nLO, Ne.symm nLGO, n4⟩
  have pr_off : ∀ a, Value.ref a ∈ prs → a ∉ [env.locals, LG, cT] := fun a ha => by
    simp only [List.mem_cons, List.not_mem_nil, or_false, not_or]
    exact ⟨ns_off hps hns a ha, lat_off hps hLG a ha, cell_off hps hcT a ha⟩
  refine for_list hh (gives_local hk kt hns mt) htl (fun I i s' => i ≤ ts.length ∧ ∃ new m' vT', Ext0 [env.locals, LG, cT] s s' ∧ s'.heap.Ns env.locals m' ∧ (∀ x, x ≠ Str.ofString "ahead" → m' x = m x) ∧ s'.heap.IsCell cT vT' ∧ LAt s'.heap LG (lvs ++ new) ∧
    RelL (Ord s'.heap) new (((ts.take i).filter (okT ps o)).map fun t => o ++ [t]) ∧ (∀ a, Value.ref a ∈ new → Fresh s a ∧ a ≠ I ∧ a ≠ LG ∧ a ≠ cT ∧ a ≠ env.locals)) ?_ ?_ ?_ ?_ ?_
  · intro I s₁ X hI _
    exact ⟨Nat.zero_le _, [], m, vT, X.e0.mono fun _ h => absurd h List.not_mem_nil, X.ns List.not_mem_nil hns, fun _ _ => rfl, X.cell List.not_mem_nil hcT, by rw [List.append_nil]; exact X.lat List.not_mem_nil hLG, .nil, fun _ h => absurd h List.not_mem_nil⟩
  · rintro I i s' s₁ hI ⟨hi, new, m', vT', X', ns', hm', cT', lLG', rel', fr'⟩ X
    have lo : ∀ {z : Addr} {ob : Obj}, s.heap.get? z = some ob → z ∉ [I] := fun e => by simpa using Nat.ne_of_lt (Nat.lt_of_lt_of_le (Heap.lt_size e) hI)
    refine ⟨hi, new, m', vT', X'.next X.e0 (fun p hp => .inr (by rw [List.mem_singleton.mp hp]; exact hI)), X.ns (lo eL) ns', hm', X.cell (lo eT) cT', X.lat (by simpa using Nat.ne_of_lt (Nat.lt_of_lt_of_le hLgl hI)) lLG', ords_keep rel' fun a ha ob e => X.keep _ _ (by simpa using (fr' a ha).2.1) e, fr'⟩
  · rintro I i s' hI ⟨hi, new, m', vT', X', _⟩
    exact X'.lat tl_off htl
  · rintro I i v s₁ E' hI hIl hv ⟨hi, new, m', vT', X', ns', hm', cT', lLG', rel', fr'⟩
    obtain ⟨t, tk, ht, rfl⟩ := strs_get hts hv
    have hit : i < ts.length := (List.getElem?_eq_some_iff.mp ht).1
    refine store_cell hk kT cTl cT' fun s₂ X2 cT2 => ?_
    have ns2 := X2.ns (by simpa using nLT) ns'
    have X2' : Ext0 [env.locals, LG, cT] s s₂ := X'.next X2.e0 (fun p hp => .inl (by rw [List.mem_singleton.mp hp]; simp))
    have lLG2 := X2.lat (by simpa using nLGT) lLG'
    have hln : new.length ≤ ts.length := by
      rw [rel'.length, List.length_map]
      exact Nat.le_trans (List.length_filter_le _ _) (List.length_take_le' _ _)
    have rel2 := ords_keep rel' fun a ha ob e => X2.keep _ _ (by simpa using (fr' a ha).2.2.2.1) e
    refine T s₂ m' oa ows o t tk (lvs ++ new) LG _ _ (X2'.kp kp fun b hb' => hbn b (by simp only [List.mem_cons, List.not_mem_nil, or_false] at hb' ⊢; rcases hb' with h | h | h <;> simp [h])) ns2 ((hm' _ (by decide)).trans mp) ((hm' _ (by decide)).trans ml) (X2'.cell cO_off hcO) (X2'.lat oa_off hoa) ho cT2 (X2'.lat pl_off hpl) (X2'.pairs hps pr_off) lLG2 (by rw [List.length_append]; omega) ho10 fun s₃ new3 m3 X3 ns3 hm3 lLG3 rel3 fr3 => ?_
    have X3' : Ext0 [env.locals, LG, cT] s s₃ := X2'.next X3 (fun p hp => .inl (by simp only [List.mem_cons, List.not_mem_nil, or_false] at hp ⊢; rcases hp with h | h <;> simp [h]))
    have nIL : I ≠ env.locals := Ne.symm (Nat.ne_of_lt (Nat.lt_of_lt_of_le (Heap.lt_size eL) hI))
    have nIG : I ≠ LG := Ne.symm (Nat.ne_of_lt (Nat.lt_of_lt_of_le hLgl hI))
    have nIT : I ≠ cT := Ne.symm (Nat.ne_of_lt (Nat.lt_of_lt_of_le (Heap.lt_size eT) hI))
    refine ⟨rfl, fun ob e _ => X3.keep _ _ (by simp [nIL, nIG]) (X2.keep _ _ (by simpa using nIT) e), hit, new ++ new3, m3, _, X3', ns3, fun x hx => (hm3 x hx).trans (hm' x hx), X3.cell (by simp [Ne.symm nLT, Ne.symm nLGT]) cT2, by rw [← List.append_assoc]; exact lLG3, ?_, ?_⟩
    · have rel3' := ords_keep rel2 fun a ha ob e => X3.keep _ _ (by simp [(fr' a ha).2.2.1, (fr' a ha).2.2.2.2]) e
      rw [filter_snocG ht, List.map_append]
      refine rel3'.append ?_
      cases hok : okT ps o t <;> rw [hok] at rel3 <;> exact rel3
    · intro a ha
      rcases List.mem_append.mp ha with q | q
      · exact fr' a q
      · have hf := fr3 a q
        have live : ∀ z ob, s.heap.get? z = some ob → z < a := fun z ob e => by
          by_cases hz : z ∈ [env.locals, LG, cT]
          · simp only [List.mem_cons, List.not_mem_nil, or_false] at hz
            rcases hz with rfl | rfl | rfl
            · obtain ⟨_, e', _⟩ := live_ns ns2; exact hf _ _ e'
            · obtain ⟨_, e'⟩ := lLG2; exact hf _ _ e'
            · obtain ⟨_, e', _⟩ := live_cell cT2; exact hf _ _ e'
          · exact hf z _ (X2'.keep z ob hz e)
        obtain ⟨oI, eI⟩ := hIl
        exact ⟨live, Nat.ne_of_gt (hf I oI (X2.keep _ _ (by simpa using nIT) eI)), Nat.ne_of_gt (live _ _ hLG.choose_spec), Nat.ne_of_gt (live _ _ eT), Nat.ne_of_gt (live _ _ eL)⟩
  · rintro I s' s₂ hI ⟨hi, new, m', vT', X', ns', hm', cT', lLG', rel', fr'⟩ X
    have lo : ∀ {z : Addr} {ob : Obj}, s.heap.get? z = some ob → z ∉ [I] := fun e => by simpa using Nat.ne_of_lt (Nat.lt_of_lt_of_le (Heap.lt_size e) hI)
    have htl : tvs.length = ts.length := hts.len_eq
    rw [htl, List.take_of_length_le (Nat.le_refl _), ← nexts_okT] at rel'
    exact hQ s₂ new m' vT' (X'.next X (fun p hp => .inr (by rw [List.mem_singleton.mp hp]; exact hI))) (X.ns (lo eL) ns') hm' (X.cell (lo eT) cT') (X.lat (by simpa using Nat.ne_of_lt (Nat.lt_of_lt_of_le hLgl hI)) lLG')
      (ords_keep rel' fun a ha ob e => X.keep _ _ (by simpa using (fr' a ha).2.1) e) fun a ha => (fr' a ha).1
/-- the loop over the orders -/
theorem mid_loop {body : List Stmt} {cO cT pl tl LG OL : Addr} {prs tvs ovs : List Value} {ps : List (Str × Str)} {ts : List Str} {os : List (List Str)} {m : Str → Option Value} {px ip pos px' ip' pos' : Pos} {vT vO : Option Value} {Q : Flow → Shared → Prop}
    (hh : A.handled = none) (hk : env.scope.kind = .function) (kt : env.kindOf (Str.ofString "tasks") = some .local) (ko : env.kindOf (Str.ofString "orders") = some .local) (kT : env.kindOf (Str.ofString "task") = some .cell) (cTl : env.cells.lookup (Str.ofString "task") = some cT)
    (kO : env.kindOf (Str.ofString "order") = some .cell) (cOl : env.cells.lookup (Str.ofString "order") = some cO)
    {hb : Heap} (T : TurnSpec prog w A env body cO cT pl prs ps hb) (kp : Kp hb s.heap) (hbn : ∀ b ∈ [env.locals, LG, cT, cO], hb.get? b = none)
    (hns : s.heap.Ns env.locals m) (mt : m (Str.ofString "tasks") = some (.ref tl)) (mp : m (Str.ofString "pairs") = some (.ref pl)) (ml : m (Str.ofString "longer") = some (.ref LG)) (mo : m (Str.ofString "orders") = some (.ref OL))
    (hcO : s.heap.IsCell cO vO) (hcT : s.heap.IsCell cT vT) (hOL : LAt s.heap OL ovs) (hos : RelL (Ord s.heap) ovs os) (htl : LAt s.heap tl tvs) (hts : StrsAre tvs ts) (hpl : LAt s.heap pl prs) (hps : PairsAt s.heap prs ps) (hLG : LAt s.heap LG [])
    (hll : os.length * ts.length + ts.length ≤ 2 ^ 20) (ho10 : ∀ o ∈ os, o.length ≤ 10) (n1 : ∀ a, Value.ref a ∈ ovs → a ≠ LG) (n2 : tl ≠ LG) (n3 : pl ≠ LG) (n5 : OL ≠ LG) (n4 : cO ≠ cT)
    (hQ : ∀ s₂ new m' vT' vO', Ext0 [env.locals, LG, cT, cO] s s₂ → s₂.heap.Ns env.locals m' → (∀ x, x ≠ Str.ofString "ahead" → m' x = m x) → s₂.heap.IsCell cT vT' → s₂.heap.IsCell cO vO' → LAt s₂.heap LG new → RelL (Ord s₂.heap) new (level ts ps os) → Q .next s₂) :
    wpAny (model prog w) A (exec (.For (.Name (Str.ofString "order") px) (.Name (Str.ofString "orders") ip) [.For (.Name (Str.ofString "task") px') (.Name (Str.ofString "tasks") ip') body [] pos'] [] pos) env) Q E s := by
  obtain ⟨oL, eL, dL⟩ := live_ns hns
  obtain ⟨oT, eT, dT⟩ := live_cell hcT
  obtain ⟨oO, eO, dO⟩ := live_cell hcO
  have hLgl : LG < s.heap.objs.size := hLG.lt
  have lat_ne : ∀ {x y : Addr} {vs : List Value} {ob : Obj}, LAt s.heap x vs → s.heap.get? y = some ob → (∀ xs n, ob ≠ { cls := .type "list", dict := none, data := .seq xs n, slots := #[] }) → x ≠ y := by
    intro x y vs ob ⟨n, e⟩ e2 hc q
    subst q
    exact hc _ _ (Option.some.inj (e2.symm.trans e))
  have off : ∀ {x : Addr} {vs : List Value}, LAt s.heap x vs → x ≠ LG → x ∉ [env.locals, LG, cT, cO] := fun l n => by
    simp only [List.mem_cons, List.not_mem_nil, or_false, not_or]
    exact ⟨lat_ne l eL dL, n, lat_ne l eT dT, lat_ne l eO dO⟩
  have tl_off := off htl n2
  have pl_off := off hpl n3
  have OL_off := off hOL n5
  have os_off : ∀ a, Value.ref a ∈ ovs → a ∉ [env.locals, LG, cT, cO] := fun a ha => by
    simp only [List.mem_cons, List.not_mem_nil, or_false, not_or]
    exact ⟨ords_off hos eL dL a ha, n1 a ha, ords_off hos eT dT a ha, ords_off hos eO dO a ha⟩
  have nLT : env.locals ≠ cT := fun q => by
    obtain ⟨o1, e1, d1⟩ := hcT
    obtain ⟨o2, es, ep, e2, d2, _⟩ := hns
    rw [q, e1] at e2; cases e2; rw [d1] at d2; cases d2
  have nLO : env.locals ≠ cO := fun q => by
    obtain ⟨o1, e1, d1⟩ := hcO
    obtain ⟨o2, es, ep, e2, d2, _⟩ := hns
    rw [q, e1] at e2; cases e2; rw [d1] at d2; cases d2
  have nLGL : LG ≠ env.locals := lat_ne hLG eL dL
  have nLGT : LG ≠ cT := lat_ne hLG eT dT
  have nLGO : LG ≠ cO := lat_ne hLG eO dO
  have pr_off : ∀ a, Value.ref a ∈ prs → a ∉ [env.locals, LG, cT, cO] := fun a ha => by
    simp only [List.mem_cons, List.not_mem_nil, or_false, not_or]
    exact ⟨ns_off hps hns a ha, lat_off hps hLG a ha, cell_off hps hcT a ha, cell_off hps hcO a ha⟩
  refine for_list hh (gives_local hk ko hns mo) hOL (fun I i s' => i ≤ os.length ∧ ∃ new m' vT' vO', Ext0 [env.locals, LG, cT, cO] s s' ∧ s'.heap.Ns env.locals m' ∧ (∀ x, x ≠ Str.ofString "ahead" → m' x = m x) ∧ s'.heap.IsCell cT vT' ∧ s'.heap.IsCell cO vO' ∧ LAt s'.heap LG new ∧
    RelL (Ord s'.heap) new ((os.take i).flatMap fun o => (nexts ts ps o).map fun t => o ++ [t]) ∧ new.length ≤ i * ts.length ∧ (∀ a, Value.ref a ∈ new → a ≠ I ∧ a ≠ LG ∧ a ≠ cT ∧ a ≠ cO ∧ a ≠ env.locals)) ?_ ?_ ?_ ?_ ?_
  · intro I s₁ X hI _
    exact ⟨Nat.zero_le _, [], m, vT, vO, X.e0.mono fun _ h => absurd h List.not_mem_nil, X.ns List.not_mem_nil hns, fun _ _ => rfl, X.cell List.not_mem_nil hcT, X.cell List.not_mem_nil hcO, X.lat List.not_mem_nil hLG, .nil, Nat.zero_le _, fun _ h => absurd h List.not_mem_nil⟩
  · rintro I i s' s₁ hI ⟨hi, new, m', vT', vO', X', ns', hm', cT', cO', lLG', rel', hnl, fr'⟩ X
    have lo : ∀ {z : Addr} {ob : Obj}, s.heap.get? z = some ob → z ∉ [I] := fun e => by simpa using Nat.ne_of_lt (Nat.lt_of_lt_of_le (Heap.lt_size e) hI)
    refine ⟨hi, new, m', vT', vO', X'.next X.e0 (fun p hp => .inr (by rw [List.mem_singleton.mp hp]; exact hI)), X.ns (lo eL) ns', hm', X.cell (lo eT) cT', X.cell (lo eO) cO', X.lat (by simpa using Nat.ne_of_lt (Nat.lt_of_lt_of_le hLgl hI)) lLG', ords_keep rel' fun a ha ob e => X.keep _ _ (by simpa using (fr' a ha).1) e, hnl, fr'⟩
  · rintro I i s' hI ⟨hi, new, m', vT', vO', X', _⟩
    exact X'.lat OL_off hOL
  · rintro I i v s₁ E' hI hIl hv ⟨hi, new, m', vT', vO', X', ns', hm', cT', cO', lLG', rel', hnl, fr'⟩
    obtain ⟨o, hoi, hOv⟩ := hos.at hv
    have hilt : i < os.length := (List.getElem?_eq_some_iff.mp hoi).1
    have hvm : v ∈ ovs := List.mem_of_getElem? hv
    obtain ⟨oa, ows, rfl, loa, so⟩ := hOv
    have oa_off := os_off oa hvm
    refine store_cell hk kO cOl cO' fun s₂ X2 cO2 => ?_
    have ns2 := X2.ns (by simpa using nLO) ns'
    have X2' : Ext0 [env.locals, LG, cT, cO] s s₂ := X'.next X2.e0 (fun p hp => .inl (by rw [List.mem_singleton.mp hp]; simp))
    have lLG2 := X2.lat (by simpa using nLGO) lLG'
    have cT2 := X2.cell (by simpa using Ne.symm n4) cT'
    have rel2 := ords_keep rel' fun a ha ob e => X2.keep _ _ (by simpa using (fr' a ha).2.2.2.1) e
    have hmul : new.length + ts.length ≤ 2 ^ 20 := by
      have : i * ts.length ≤ os.length * ts.length := Nat.mul_le_mul_right _ hi
      omega
    have hn1 : oa ≠ LG := n1 oa hvm
    refine wpAny_execs_cons (inner_loop (s := s₂) (LG := LG) (oa := oa) (lvs := new) (ows := ows) (o := o) (m := m') (ts := ts) (tvs := tvs) (tl := tl) hh hk kt kT cTl T (X2'.kp kp hbn) hbn ns2 ((hm' _ (by decide)).trans mt) ((hm' _ (by decide)).trans mp) ((hm' _ (by decide)).trans ml) cO2 (X2'.lat oa_off loa) so cT2 (X2'.lat tl_off htl) hts (X2'.lat pl_off hpl) (X2'.pairs hps pr_off) lLG2 hmul
      (ho10 o (List.mem_of_getElem? hoi)) hn1 n2 n3 n4 fun s₃ new3 m3 vT3 X3 ns3 hm3 cT3 lLG3 rel3 fr3 => wpAny_execs_nil ?_)
    have nIL : I ≠ env.locals := Ne.symm (Nat.ne_of_lt (Nat.lt_of_lt_of_le (Heap.lt_size eL) hI))
    have nIG : I ≠ LG := Ne.symm (Nat.ne_of_lt (Nat.lt_of_lt_of_le hLgl hI))
    have nIT : I ≠ cT := Ne.symm (Nat.ne_of_lt (Nat.lt_of_lt_of_le (Heap.lt_size eT) hI))
    have nIO : I ≠ cO := Ne.symm (Nat.ne_of_lt (Nat.lt_of_lt_of_le (Heap.lt_size eO) hI))
    have X3' : Ext0 [env.locals, LG, cT, cO] s s₃ := X2'.next X3 (fun p hp => .inl (by simp only [List.mem_cons, List.not_mem_nil, or_false] at hp ⊢; rcases hp with h | h | h <;> simp [h]))
    refine ⟨rfl, fun ob e _ => X3.keep _ _ (by simp [nIL, nIG, nIT]) (X2.keep _ _ (by simpa using nIO) e), hilt, new ++ new3, m3, _, _, X3', ns3, fun x hx => (hm3 x hx).trans (hm' x hx), cT3, X3.cell (by simp [Ne.symm nLO, Ne.symm nLGO, n4]) cO2, lLG3, ?_, ?_, ?_⟩
    · have rel3' := ords_keep rel2 fun a ha ob e => X3.keep _ _ (by simp [(fr' a ha).2.1, (fr' a ha).2.2.2.2, (fr' a ha).2.2.1]) e
      rw [List.take_add_one, hoi, List.flatMap_append]
      refine rel3'.append ?_
      simpa using rel3
    · have h3 : new3.length ≤ ts.length := by
        rw [rel3.length, List.length_map]
        exact List.length_filter_le _ _
      rw [List.length_append, Nat.succ_mul]
      omega
    · intro a ha
      rcases List.mem_append.mp ha with q | q
      · exact fr' a q
      · have hf := fr3 a q
        obtain ⟨oI, eI⟩ := hIl
        obtain ⟨_, e1, _⟩ := live_ns ns2
        obtain ⟨_, e2⟩ := lLG2
        obtain ⟨_, e3, _⟩ := live_cell cT2
        obtain ⟨_, e4, _⟩ := live_cell cO2
        exact ⟨Nat.ne_of_gt (hf I oI (X2.keep _ _ (by simpa using nIO) eI)), hf.ne e2, hf.ne e3, hf.ne e4, hf.ne e1⟩
  · rintro I s' s₂ hI ⟨hi, new, m', vT', vO', X', ns', hm', cT', cO', lLG', rel', hnl, fr'⟩ X
    have lo : ∀ {z : Addr} {ob : Obj}, s.heap.get? z = some ob → z ∉ [I] := fun e => by simpa using Nat.ne_of_lt (Nat.lt_of_lt_of_le (Heap.lt_size e) hI)
    rw [hos.length, List.take_of_length_le (Nat.le_refl _)] at rel'
    exact hQ s₂ new m' vT' vO' (X'.next X (fun p hp => .inr (by rw [List.mem_singleton.mp hp]; exact hI))) (X.ns (lo eL) ns') hm' (X.cell (lo eT) cT') (X.cell (lo eO) cO') (X.lat (by simpa using Nat.ne_of_lt (Nat.lt_of_lt_of_le hLgl hI)) lLG')
      (ords_keep rel' fun a ha ob e => X.keep _ _ (by simpa using (fr' a ha).1) e)
end
end Mine
end

section
open PySem PySem.Calls PyProof.Rows PySem.W
set_option Elab.async false
set_option maxRecDepth 100000
namespace Mine
section
variable {prog : Program} {w : World} {A : Around} {E : Value → Shared → Prop} {s : Shared} {env : Env} {mg mb : Str → Option Value} {hb : Heap}
theorem lat_ne_ns {h : Heap} {l L : Addr} {vs : List Value} {m : Str → Option Value} (x : LAt h l vs) (y : h.Ns L m) : l ≠ L := fun q => by
  subst q
  obtain ⟨n, e⟩ := x
  obtain ⟨o, e2, d⟩ := live_ns y
  exact d _ _ (Option.some.inj (e2.symm.trans e))
theorem lat_ne_cell {h : Heap} {l c : Addr} {vs : List Value} {v : Option Value} (x : LAt h l vs) (y : h.IsCell c v) : l ≠ c := fun q => by
  subst q
  obtain ⟨n, e⟩ := x
  obtain ⟨o, e2, d⟩ := live_cell y
  exact d _ _ (Option.some.inj (e2.symm.trans e))
theorem list_one {e : Expr} {pos : Pos} {Q : Value → Shared → Prop} (he : wpAny (model prog w) A (eval e env) (fun v s₁ => ∀ D s₂, Ext [] s₁ s₂ → s₁.heap.objs.size ≤ D → LAt s₂.heap D [v] → Q (.ref D) s₂) E s) (hs : starEach [e] env = [(false, eval e env)]) : wpAny (model prog w) A (eval (.List [e] pos) env) Q E s := by
  refine wpAny_List ?_
  rw [hs]
  exact spliced_cons (wpAny_mono he (fun v s₁ h₁ => spliced_nil ⟨by show 1 ≤ sizeLine; decide, h₁ _ _ (Ext.push (tk := s₁.toks)) (Nat.le_refl _) ⟨0, IsL.new _ _⟩⟩) fun _ _ e => e)
theorem add_lists {l b : Addr} {vs ws : List Value} {Q : Value → Shared → Prop} (hl : LAt s.heap l vs) (hw : LAt s.heap b ws) (hz : vs.length + ws.length ≤ sizeLine) (h : ∀ D s', Ext [] s s' → s.heap.objs.size ≤ D → LAt s'.heap D (vs ++ ws) → Q (.ref D) s') : wpAny (model prog w) A (binaryOp .Add (.ref l) (.ref b)) Q E s := by
  obtain ⟨n, e⟩ := hl
  obtain ⟨n2, e2⟩ := hw
  refine P.add_list e e2 ?_ (by simpa using hz)
  rw [List.append_toArray]
  exact h _ _ (Ext.push (tk := s.toks)) (Nat.le_refl _) ⟨0, IsL.new _ _⟩
/-- o.append(e), e making something -/
theorem append_ev2 {o e : Expr} {apos pos : Pos} {l : Addr} {vs : List Value} {Q : Value → Shared → Prop} (hbase : attributeBase o "append" env (eval o env) = eval o env) (hs : starEach [e] env = [(false, eval e env)]) (hline : (apos.endLine == pos.line) = true)
    (ho : Gives prog w A env o s (.ref l)) (hl : LAt s.heap l vs) (hz : vs.length ≤ sizeLine)
    (he : wpAny (model prog w) A (eval e env) (fun v s₁ => LAt s₁.heap l vs ∧ ∀ s', Ext [l] s₁ s' → LAt s'.heap l (vs ++ [v]) → Q .none s') E s) : wpAny (model prog w) A (eval (.Call (.Attribute o "append" apos) [e] [] pos) env) Q E s := by
  refine meth1 hbase hs hline F.plainAttrs_list F.slot_list_append F.type_list_append ho hl.typ hl.noDict fun _ => ?_
  refine P.append_list (wpAny_mono he (fun v s₁ hv => ?_) fun _ _ e => e)
  obtain ⟨⟨n, el⟩, h⟩ := hv
  have hu := IsL.update el (fun xs => xs.push v)
  simp only [List.push_toArray] at hu
  exact ⟨vs.toArray, n, by simpa using hz, el, h _ (Ext.same (tk := s₁.toks) (Heap.SameBut.update ..)) ⟨_, hu⟩⟩
def isStr (t : Str) : Value → Bool | .str k _ => k == t | _ => false
theorem any_isStr {vs : List Value} {ks : List Str} (h : StrsAre vs ks) (t : Str) : vs.any (isStr t) = decide (t ∈ ks) := by
  induction h with
  | nil => rfl
  | cons x k _ ih =>
    rw [List.any_cons, ih]
    show ((x == t) || _) = _
    rw [Bool.eq_iff_iff]
    simp only [Bool.or_eq_true, beq_iff_eq, decide_eq_true_eq, List.mem_cons]
    exact ⟨fun h => h.imp Eq.symm id, fun h => h.imp Eq.symm id⟩
theorem strs_mem {vs : List Value} {ks : List Str} (h : StrsAre vs ks) : ∀ y ∈ vs, ∃ k t, y = .str k t := by
  induction h with
  | nil => exact fun _ h => absurd h List.not_mem_nil
  | cons x k _ ih =>
    intro y hy
    rcases List.mem_cons.mp hy with rfl | hy
    · exact ⟨_, _, rfl⟩
    · exact ih y hy
theorem in_strs {l : Addr} {vs : List Value} {ks : List Str} {t : Str} {tk : Tok} {Q : Value → Shared → Prop} (hl : LAt s.heap l vs) (hs : StrsAre vs ks) (h : Q (.bool (decide (t ∈ ks))) s) : wpAny (model prog w) A (compareOp .In (.str t tk) (.ref l)) Q E s := by
  refine SeqAt.in_listAt (isStr t) hl.isList (fun y hy => ?_) ?_
  · obtain ⟨k, u, rfl⟩ := strs_mem hs y (by simpa using hy)
    exact SeqAt.EqAt.str_str k u t tk
  · rw [← Array.any_toList, show vs.toArray.toList = vs from rfl, any_isStr hs]; exact h
theorem notin_strs {l : Addr} {vs : List Value} {ks : List Str} {t : Str} {tk : Tok} {Q : Value → Shared → Prop} (hl : LAt s.heap l vs) (hs : StrsAre vs ks) (h : Q (.bool (decide (t ∉ ks))) s) : wpAny (model prog w) A (compareOp .NotIn (.str t tk) (.ref l)) Q E s := by
  refine SeqAt.notIn_listAt (isStr t) hl.isList (fun y hy => ?_) ?_
  · obtain ⟨k, u, rfl⟩ := strs_mem hs y (by simpa using hy)
    exact SeqAt.EqAt.str_str k u t tk
  · rw [← Array.any_toList, show vs.toArray.toList = vs from rfl, any_isStr hs, show (!decide (t ∈ ks)) = decide (t ∉ ks) by simp]; exact h
/-- all(l) of a list of truth values -/
theorem all_list {l : Addr} {vs : List Value} {bs : List Bool} {Q : Value → Shared → Prop} (hh : A.handled = none) (hl : LAt s.heap l vs) (hb : vs = bs.map Value.bool) (h : ∀ s', Ext0 [] s s' → Q (.bool (bs.all id)) s') : wpAny (model prog w) A (call (.builtin "all") [.ref l]) Q E s := by
  subst hb
  refine call_all_walk (wpAny_pyIter_list hl.isList ?_)
  refine ⟨s.heap.objs.size, _, _, _, _, _, fun i => bs.getD i true, rfl, Walks.list (A := A.in1) hh s.heap.objs.size l (Nat.ne_of_lt hl.lt) (bs.map Value.bool).toArray, ⟨⟨_, Heap.get?_push_size _ rfl, rfl, rfl⟩, hl.isList.push _⟩, ?_, fun h' tk hk => ?_⟩
  · intro i v s' Q' E' hP hQ
    have hi : i < bs.length := by
      have := (Array.getElem?_eq_some_iff.mp hP).1
      simpa using this
    have e : v = .bool bs[i] := by
      have : ((bs.map Value.bool).toArray)[i]? = some (.bool bs[i]) := by simp [hi]
      exact Option.some.inj (hP.symm.trans this)
    subst e
    have e2 : bs.getD i true = bs[i] := by simp [hi]
    simp only [e2] at hQ
    exact wpAny_truthy_bool hQ
  · have e : (List.range (bs.map Value.bool).toArray.size).all (fun i => bs.getD i true) = bs.all id := by
      rw [Bool.eq_iff_iff, List.all_eq_true, List.all_eq_true]
      simp only [List.size_toArray, List.length_map, List.mem_range, id]
      constructor
      · intro hq b hb
        obtain ⟨j, hj⟩ := List.getElem?_of_mem hb
        have := hq j (List.getElem?_eq_some_iff.mp hj).1
        rw [List.getD_eq_getElem?_getD, hj] at this; exact this
      · intro hq j hj
        rw [List.getD_eq_getElem?_getD, List.getElem?_eq_getElem hj]
        exact hq _ (List.getElem_mem hj)
    rw [e]
    exact h _ ⟨fun b o _ eb => hk b o (by simpa using Nat.ne_of_lt (Heap.lt_size eb)) (Heap.get?_push_of_some _ eb), rfl, id⟩
theorem paired_map {avs : List Value} {as : List Str} {f : Str → Bool} (sa : StrsAre avs as) : ∀ {l : List Value}, Paired (fun v b => ∃ k tk, v = Value.str k tk ∧ b = Value.bool (f k)) avs l → l = as.map fun k => Value.bool (f k) := by
  induction sa with
  | nil => intro l h; cases h; rfl
  | cons x t _ ih =>
    intro l h
    cases h with
    | cons h1 h2 =>
      obtain ⟨k, tk, e, rfl⟩ := h1
      cases e
      rw [List.map_cons, ih h2]
/-- [x in l for x in m] -/
theorem in_comp {scope : Scope} {x y : Str} {cY oa D : Addr} {avs ows : List Value} {as o : List Str} {iter : Expr} {pos px p1 p2 p3 : Pos} {Q : Value → Shared → Prop} (hh : A.handled = none) (hk : env.scope.kind = .function)
    (hsn : scope.names = [(Str.ofString ".0", NameKind.local), (x, NameKind.local), (y, NameKind.free)]) (hsk : scope.kind = .function) (hd : [Str.ofString ".0", x, y].Nodup) (hdx : (x == ("__debug__" : Str)) = false) (hdy : (y == ("__debug__" : Str)) = false)
    (hyk : env.kindOf y = some .cell) (hyc : env.cells.lookup y = some cY) (hyv : s.heap.IsCell cY (some (.ref oa))) (hoa : LAt s.heap oa ows) (so : StrsAre ows o)
    (hiter : Gives prog w A env iter s (.ref D)) (hD : LAt s.heap D avs) (sa : StrsAre avs as) (hz : as.length ≤ sizeLine)
    (h : ∀ s' B, Ext0 [] s s' → LAt s'.heap B (as.map fun k => Value.bool (decide (k ∈ o))) → Q (.ref B) s')
    (hs : ∀ x, foldedSetIterable iter env x = pure x := by intro _; rfl) :
    wpAny (model prog w) A (eval (.ListComp (.Compare (.Name x p1) [.In] [.Name y p2] p3) [⟨.Name x px, iter, [], 0⟩] scope pos) env) Q E s := by
  have hne : x ≠ y ∧ Str.ofString ".0" ≠ x ∧ Str.ofString ".0" ≠ y := by
    simp only [List.nodup_cons, List.mem_cons, List.not_mem_nil, or_false, not_or, List.nodup_nil, and_true] at hd
    exact ⟨hd.2.1, hd.1.1, hd.1.2⟩
  obtain ⟨n1, n2, n3⟩ := hne
  have b1 : (y == x) = false := beq_false_of_ne (Ne.symm n1)
  have b2 : (x == Str.ofString ".0") = false := beq_false_of_ne (Ne.symm n2)
  have b3 : (y == Str.ofString ".0") = false := beq_false_of_ne (Ne.symm n3)
  have hclos : closureFor scope env = pure [(y, cY)] := by
    unfold closureFor
    rw [hsn]
    simp [cellOf, hyc]
  have hrel : (relabel scope env).names = [(Str.ofString ".0", NameKind.local), (x, NameKind.local), (y, NameKind.cell)] := by
    show scope.names.map _ = _
    rw [hsn]
    simp [hk, hyk]
  refine wpAny_ListComp_free (cl := [(y, cY)]) (fun _ => true) (fun v b => ∃ k tk, v = .str k tk ∧ b = .bool (decide (k ∈ o))) hclos (by rw [hsn]; intro z hz; simp only [List.mem_cons, List.not_mem_nil, or_false] at hz; rcases hz with rfl | rfl | rfl <;> intro e <;> cases e) hsk
    (by
      rw [hsn]
      intro z hz hzl
      simp only [List.mem_cons, List.not_mem_nil, or_false] at hz
      rcases hz with rfl | rfl | rfl
      · simp
      · simp [List.lookup_cons, b2]
      · cases hzl) (by rw [hsn]; simp [List.lookup_cons, b2]) (hiter _ _ (wpAny_pyIter_list hD.isList ?_)) hs
  have hlen : avs.length = as.length := sa.len_eq
  have kold : ∀ b ob, s.heap.get? b = some ob → (s.heap.push ({ cls := .type "list_iterator", data := .fields #[.ref D, .int 0 0] } : Obj)).get? b = some ob := fun b ob e => Heap.get?_push_of_some _ e
  have noI : ∀ {b : Addr} {ob : Obj}, s.heap.get? b = some ob → b ∉ [s.heap.objs.size] := fun e => by simpa using Nat.ne_of_lt (Heap.lt_size e)
  refine ⟨s.heap.objs.size, _, _, _, _, _, rfl, Walks.list hh s.heap.objs.size D (Nat.ne_of_lt hD.lt) avs.toArray, by simp only [List.size_toArray]; omega, ⟨⟨_, Heap.get?_push_size _ rfl, rfl, rfl⟩, hD.isList.push _⟩, ?_, ⟨?_, ?_⟩, ?_⟩
  · intro b hb
    rw [Heap.size_push]
    simp only [List.mem_cons, List.not_mem_nil, or_false] at hb
    rcases hb with rfl | rfl
    · exact Nat.lt_succ_self _
    · exact Nat.lt_succ_of_lt hD.lt
  · intro C i v s₃ m₃ E' _ _ _ _ _ _
    rw [List.forIn_nil]
    exact wpAny_pure ⟨rfl, ⟨s₃.heap, s₃.toks, rfl, fun _ _ e => e⟩⟩
  · intro C i v s₃ m₃ E' hC hP _ hn hm hk3 _
    obtain ⟨k, tk, _, rfl⟩ := strs_get sa (i := i) (v := v) (by simpa using hP)
    have kk : (compEnvC scope [(y, cY)] C env).scope.kind = .function := hsk
    have kx : (compEnvC scope [(y, cY)] C env).kindOf x = some .local := by unfold Env.kindOf; show (relabel scope env).names.lookup x = _; rw [hrel]; simp [List.lookup_cons, b2]
    have ky : (compEnvC scope [(y, cY)] C env).kindOf y = some .cell := by unfold Env.kindOf; show (relabel scope env).names.lookup y = _; rw [hrel]; simp [List.lookup_cons, b1, b3]
    have up : ∀ b ob, s.heap.get? b = some ob → s₃.heap.get? b = some ob := fun b ob e => hk3 b ob (noI e) (kold b ob e)
    refine wpAny_Compare1 ((gives_local kk kx hn hm hdx) _ _ ((gives_cell (c := cY) kk ky (by show List.lookup y [(y, cY)] = _; simp [List.lookup_cons]) (isCell_keep hyv fun ob e => up _ ob e) hdy) _ _ (in_strs (hoa.keep fun ob e => up _ ob e) so ?_)))
    exact ⟨⟨k, tk, rfl, rfl⟩, ⟨s₃.heap, s₃.toks, rfl, fun _ _ e => e⟩⟩
  · intro B h' tk ys vs hB hl hpl hvl hPv hF hkp
    have X : Ext0 [] s { s with heap := h', toks := tk } := ⟨fun b ob _ e => hkp b ob (noI e) (kold b ob e), rfl, id⟩
    refine h _ B X ?_
    obtain ⟨n, el⟩ := hpl
    have hva : vs = avs := by
      apply List.ext_getElem?
      intro j
      cases hj : vs[j]? with
      | some v => have := hPv j v hj; simpa using this.symm
      | none =>
        rw [List.getElem?_eq_none_iff] at hj
        have : avs.length ≤ j := by simpa [hvl] using hj
        rw [List.getElem?_eq_none this]
    subst hva
    rw [List.filter_eq_self.mpr (fun _ _ => rfl)] at hF
    have hys := paired_map (f := fun k => decide (k ∈ o)) sa hF
    rw [← hys]
    exact ⟨n, el⟩
end
end Mine
end

section
open PySem PySem.W PyProof.Rows
set_option Elab.async false
set_option maxRecDepth 100000
set_option maxHeartbeats 8000000
namespace Mine
open_top hd for PySem.Challenge.rw_ke0029_01

end Mine
end

section
open PySem PySem.W PyProof.Rows PySem.Calls
set_option Elab.async false
set_option maxRecDepth 100000
namespace Mine
/-- what holds at the head of the loop -/
structure BInv (w : World) (c P L cP cF a : Addr) (s : Shared) (ts : List Str) (ps : List (Str × Str)) (dn : List Str) (O PT PP : Addr) (m : Str → Option Value) (v0 : Option Value) (oS : Obj) (vs prs' : List Value) (tabs' : Array Value) (s' : Shared) : Prop where
  ext : Ext [P] s s'
  ns : s'.heap.Ns L m
  mo : m (Str.ofString "order") = some (.ref O)
  mp : m (Str.ofString "pending_tasks") = some (.ref PT)
  mt : m (Str.ofString "tasks") = some (.ref a)
  cp : s'.heap.IsCell cP (some (.ref PP))
  cf : s'.heap.IsCell cF v0
  lo : LAt s'.heap O vs
  so : StrsAre vs dn
  gp : s'.heap.get? PT = some oS
  sp : SetS w oS (remOf ts dn)
  lp : LAt s'.heap PP prs'
  pp : PairsAt s'.heap prs' (ppOf ps dn)
  code : s'.heap.IsCode c P tabs'
  tab : s'.heap.TableAt c P tabs'
  hP : P < s.heap.objs.size
  nL : s.heap.objs.size ≤ L
  nO : s.heap.objs.size ≤ O
  nPT : s.heap.objs.size ≤ PT
  nPP : s.heap.objs.size ≤ PP
  nOP : O ≠ PP
  nLF : L ≠ cF
  nPF : cP ≠ cF
  nF : s.heap.objs.size ≤ cF
  nP : s.heap.objs.size ≤ cP
  nCO : cP ≠ O
  nCT : cP ≠ PT
  nFO : cF ≠ O
  nFT : cF ≠ PT
  nFP : cF ≠ PP
  nCP : cP ≠ PP
  nLO : L ≠ O
  nLT : L ≠ PT
  nLP : L ≠ PP
  nLC : L ≠ cP
  nOT : O ≠ PT
  nTP : PT ≠ PP
theorem BInv.go {w : World} {c P L cP cF a : Addr} {s : Shared} {ts : List Str} {ps : List (Str × Str)} {dn : List Str} {O PT PP : Addr} {m : Str → Option Value} {v0 : Option Value} {oS : Obj} {vs prs' : List Value} {tabs' : Array Value} {s' s'' : Shared} (B : BInv w c P L cP cF a s ts ps dn O PT PP m v0 oS vs prs' tabs' s') (x : Ext [] s' s'') :
    BInv w c P L cP cF a s ts ps dn O PT PP m v0 oS vs prs' tabs' s'' :=
  { B with
    ext := B.ext.next x fun _ h => absurd h List.not_mem_nil
    ns := x.ns List.not_mem_nil B.ns
    cp := x.cell List.not_mem_nil B.cp
    cf := x.cell List.not_mem_nil B.cf
    lo := x.lat List.not_mem_nil B.lo
    gp := x.keep _ _ List.not_mem_nil B.gp
    lp := x.lat List.not_mem_nil B.lp
    pp := x.pairs B.pp fun _ _ => List.not_mem_nil
    code := x.code List.not_mem_nil List.not_mem_nil B.code
    tab := x.table List.not_mem_nil List.not_mem_nil B.tab }

section
variable {w : World} {c P L cP cF a : Addr} {s : Shared} {ts : List Str} {ps : List (Str × Str)} {dn : List Str} {O PT PP : Addr} {m : Str → Option Value} {v0 : Option Value} {oS : Obj} {vs prs' : List Value} {tabs' : Array Value} {s' s'' : Shared}
theorem BInv.lts (B : BInv w c P L cP cF a s ts ps dn O PT PP m v0 oS vs prs' tabs' s') : L < s'.heap.objs.size ∧ cP < s'.heap.objs.size ∧ cF < s'.heap.objs.size ∧ O < s'.heap.objs.size ∧ PT < s'.heap.objs.size ∧ PP < s'.heap.objs.size ∧ c < s'.heap.objs.size ∧ P < s'.heap.objs.size :=
  ⟨B.ns.lt, (let ⟨_, e, _⟩ := B.cp; Heap.lt_size e), (let ⟨_, e, _⟩ := B.cf; Heap.lt_size e), B.lo.lt, Heap.lt_size B.gp, B.lp.lt, B.code.lt.1, B.code.lt.2⟩
/-- a write elsewhere -/
theorem BInv.off (B : BInv w c P L cP cF a s ts ps dn O PT PP m v0 oS vs prs' tabs' s') {x : Addr} (X : Ext [x] s' s'') (hx : s.heap.objs.size ≤ x) (h1 : x ≠ L) (h2 : x ≠ cP) (h3 : x ≠ cF) (h4 : x ≠ O) (h5 : x ≠ PT) (h6 : x ≠ PP) (hcs : c < s.heap.objs.size) (hp : ∀ b, Value.ref b ∈ prs' → b ≠ x) :
    BInv w c P L cP cF a s ts ps dn O PT PP m v0 oS vs prs' tabs' s'' := by
  have nm : ∀ {x y : Addr}, y ≠ x → x ∉ [y] := fun h => by simpa using Ne.symm h
  have nc : c ∉ [x] := nm (Ne.symm (Nat.ne_of_lt (Nat.lt_of_lt_of_le hcs hx)))
  have nP : P ∉ [x] := nm (Ne.symm (Nat.ne_of_lt (Nat.lt_of_lt_of_le B.hP hx)))
  exact { B with
    ext := B.ext.next X fun p hp => .inr (by rw [List.mem_singleton.mp hp]; exact hx)
    ns := X.ns (nm h1) B.ns
    cp := X.cell (nm h2) B.cp
    cf := X.cell (nm h3) B.cf
    lo := X.lat (nm h4) B.lo
    gp := X.keep _ _ (nm h5) B.gp
    lp := X.lat (nm h6) B.lp
    pp := X.pairs B.pp fun b hb => by simpa using hp b hb
    code := X.code nc nP B.code
    tab := X.table nc nP B.tab }
/-- a write to a new place -/
theorem BInv.new (B : BInv w c P L cP cF a s ts ps dn O PT PP m v0 oS vs prs' tabs' s') {x : Addr} {sm : Shared} (X0 : Ext [] s' sm) (X : Ext [x] sm s'') (hx : s'.heap.objs.size ≤ x) (hcs : c < s.heap.objs.size) : BInv w c P L cP cF a s ts ps dn O PT PP m v0 oS vs prs' tabs' s'' := by
  obtain ⟨l1, l2, l3, l4, l5, l6, l7, l8⟩ := B.lts
  have lt1 : ∀ {y : Nat}, y < s'.heap.objs.size → x ≠ y := fun h1 => Nat.ne_of_gt (Nat.lt_of_lt_of_le h1 hx)
  exact (B.go X0).off X (Nat.le_trans B.ext.size hx) (lt1 l1) (lt1 l2) (lt1 l3) (lt1 l4) (lt1 l5) (lt1 l6) hcs fun b hb => Ne.symm (lt1 (pairs_lt B.pp b hb))
/-- a store into the frame -/
theorem BInv.loc (B : BInv w c P L cP cF a s ts ps dn O PT PP m v0 oS vs prs' tabs' s') {m' : Str → Option Value} (X : Ext [L] s' s'') (hn : s''.heap.Ns L m') (e1 : m' (Str.ofString "order") = m (Str.ofString "order")) (e2 : m' (Str.ofString "pending_tasks") = m (Str.ofString "pending_tasks")) (e3 : m' (Str.ofString "tasks") = m (Str.ofString "tasks")) (hcs : c < s.heap.objs.size) :
    BInv w c P L cP cF a s ts ps dn O PT PP m' v0 oS vs prs' tabs' s'' := by
  have nm : ∀ {x y : Addr}, y ≠ x → x ∉ [y] := fun h => by simpa using Ne.symm h
  have nc : c ∉ [L] := nm (Ne.symm (Nat.ne_of_lt (Nat.lt_of_lt_of_le hcs B.nL)))
  have nP : P ∉ [L] := nm (Ne.symm (Nat.ne_of_lt (Nat.lt_of_lt_of_le B.hP B.nL)))
  exact { B with
    ext := B.ext.next X fun p hp => .inr (by rw [List.mem_singleton.mp hp]; exact B.nL)
    ns := hn
    mo := e1.trans B.mo
    mp := e2.trans B.mp
    mt := e3.trans B.mt
    cp := X.cell (nm B.nLC) B.cp
    cf := X.cell (nm B.nLF) B.cf
    lo := X.lat (nm B.nLO) B.lo
    gp := X.keep _ _ (nm B.nLT) B.gp
    lp := X.lat (nm B.nLP) B.lp
    pp := X.pairs B.pp fun b hb => by simpa using ns_off B.pp B.ns b hb
    code := X.code nc nP B.code
    tab := X.table nc nP B.tab }
/-- the code table grows -/
theorem BInv.tbl (B : BInv w c P L cP cF a s ts ps dn O PT PP m v0 oS vs prs' tabs' s') {tabs'' : Array Value} (X : Ext [P] s' s'') (hc : s''.heap.IsCode c P tabs'') (ht : s''.heap.TableAt c P tabs'') : BInv w c P L cP cF a s ts ps dn O PT PP m v0 oS vs prs' tabs'' s'' := by
  have nm : ∀ {x : Addr}, s.heap.objs.size ≤ x → x ∉ [P] := fun h => by simpa using Ne.symm (Nat.ne_of_lt (Nat.lt_of_lt_of_le B.hP h))
  exact { B with
    ext := B.ext.trans X
    ns := X.ns (nm B.nL) B.ns
    cp := X.cell (nm B.nP) B.cp
    cf := X.cell (nm B.nF) B.cf
    lo := X.lat (nm B.nO) B.lo
    gp := X.keep _ _ (nm B.nPT) B.gp
    lp := X.lat (nm B.nPP) B.lp
    pp := X.pairs B.pp fun b hb => by simpa using pairs_off B.pp B.tab.2 (by intro q; cases q) b hb
    code := hc
    tab := ht }
end

theorem build_contract {w : World} {A : Around} {s : Shared} {mg mb : Str → Option Value} {R : Result → Shared → Prop} {hb : Heap} {a pl : Addr} {o : Obj} {ts : List Str} {prs : List Value} {ps : List (Str × Str)} {tabs : Array Value}
    (G : Gb mg mb hb) (KX : (hd.heap_39 w.params).In hb) (kp : Kp hb s.heap) (hh : A.handled = none) (hu : A.units + 20 < cLine) (hroom : A.depth + 20 < recursionLimit)
    (n1 : mg (Str.ofString "all") = none) (n2 : mg (Str.ofString "len") = none) (n3 : mg (Str.ofString "set") = none)
    (b1 : mb (Str.ofString "all") = some (.builtin "all")) (b2 : mb (Str.ofString "len") = some (.builtin "len")) (b3 : mb (Str.ofString "set") = some (.type "set"))
    (ho : s.heap.get? a = some o) (hS : SetS w o ts) (hCl : Cl o) (hts : ts.length ≤ 4) (hnd : ts.Nodup)
    (hl : LAt s.heap pl prs) (hp : PairsAt s.heap prs ps) (hps : prs.length ≤ 10) (hok : s.heap.IsCode 18 16 tabs) (htab : s.heap.TableAt 18 16 tabs)
    (hPb : hb.get? 16 = none) (hPl : (16 : Addr) ≠ pl) (hPt : ∀ a, Value.ref a ∈ prs → a ≠ 16) (hPa : (16 : Addr) ≠ a)
    (h : ∀ s' v tabs', Ext [16] s s' → s'.heap.TableAt 18 16 tabs' → (match bld ts ps ts.length [] with
        | none => v = .none
        | some o => ∃ R vs, v = .ref R ∧ s.heap.objs.size ≤ R ∧ LAt s'.heap R vs ∧ StrsAre vs o) → R (.ok (.ret v)) s') :
    codeAny (model PySem.Challenge.rw_ke0029_01.row.prog w) A (.call (.ref 19) ⟨[.ref a, .ref pl], []⟩) R s := by
  refine enter_cells (s := s) ((G.keeps kp).lim) ((KX.keeps kp) 19 _ rfl) rfl (codeRec_of (KX.keeps kp) rfl) (by omega) (BindsTo.of_eq rfl) (by rfl) fun h₁ tk hns hcell hk₁ => ?_
  obtain ⟨m, hns, m1, m2⟩ : ∃ m, h₁.Ns s.heap.objs.size m ∧ m (Str.ofString "tasks") = some (.ref a) ∧ m (Str.ofString "precedences") = some (.ref pl) := ⟨_, hns, rfl, rfl⟩
  have hcP := hcell (Str.ofString "pending_precedences") (s.heap.objs.size + 1) rfl
  have hcF := hcell (Str.ofString "first") (s.heap.objs.size + 2) rfl
  clear hcell
  generalize hE : envOfC _ _ _ _ _ = env at hcP hcF ⊢
  have hk : env.scope.kind = .function := by rw [← hE]; rfl
  have hg : env.globals = mainGlobals := by rw [← hE]; rfl
  have hbl : env.builtins = builtinsNs := by rw [← hE]; rfl
  have hcode : env.code = .ref 18 := by rw [← hE]; rfl
  have hloc : env.locals = s.heap.objs.size := by rw [← hE]; rfl
  have k1 : env.kindOf (Str.ofString "order") = some .local := by rw [← hE]; rfl
  have k2 : env.kindOf (Str.ofString "pending_tasks") = some .local := by rw [← hE]; rfl
  have k3 : env.kindOf (Str.ofString "firsts") = some .local := by rw [← hE]; rfl
  have k4 : env.kindOf (Str.ofString "tasks") = some .local := by rw [← hE]; rfl
  have k5 : env.kindOf (Str.ofString "precedences") = some .local := by rw [← hE]; rfl
  have k6 : env.kindOf (Str.ofString "pending_precedences") = some .cell := by rw [← hE]; rfl
  have k7 : env.kindOf (Str.ofString "first") = some .cell := by rw [← hE]; rfl
  have k8 : env.kindOf (Str.ofString "len") = some .globalImplicit := by rw [← hE]; rfl
  have k9 : env.kindOf (Str.ofString "set") = some .globalImplicit := by rw [← hE]; rfl
  have c1 : env.cells.lookup (Str.ofString "pending_precedences") = some (s.heap.objs.size + 1) := by rw [← hE]; rfl
  have c2 : env.cells.lookup (Str.ofString "first") = some (s.heap.objs.size + 2) := by rw [← hE]; rfl
  have hi : interactive env = false := by rw [← hE]; rfl
  have hcls : (env.scope.kind == .class || (env.scope.kind == .module && env.locals != env.globals)) = false := by rw [hk]; rfl
  have hblk : env.blockKind = .function := by rw [← hE]; rfl
  clear hE
  have hhd : (A.deeper env).handled = none := hh
  have X0 : Ext [] s { s with heap := h₁, toks := tk } := Ext.kp' hk₁ (Nat.le_of_lt hns.lt)
  have hns' : ({ s with heap := h₁, toks := tk } : Shared).heap.Ns env.locals m := by rw [hloc]; exact hns
  have hcP' : ({ s with heap := h₁, toks := tk } : Shared).heap.IsCell _ _ := hcP
  have hcF' : ({ s with heap := h₁, toks := tk } : Shared).heap.IsCell _ _ := hcF
  clear hns hcP hcF
  generalize hs1 : ({ s with heap := h₁, toks := tk } : Shared) = s₁ at X0 hns' hcP' hcF' ⊢
  clear hs1 hk₁
  have hLs : s.heap.objs.size ≤ env.locals := Nat.le_of_eq hloc.symm
  generalize hCP : s.heap.objs.size + 1 = cP at c1 hcP'
  generalize hCF : s.heap.objs.size + 2 = cF at c2 hcF'
  have fL : ∀ x, s.heap.objs.size ≤ x → ∀ p ∈ [x], p ∈ ([] : List Addr) ∨ s.heap.objs.size ≤ p := fun x hx p hp => .inr (by rw [List.mem_singleton.mp hp]; exact hx)
  have nm : ∀ {x y : Addr}, x ≠ y → x ∉ [y] := fun h => by simpa using h
  -- order = []
  refine wpAny_execs_cons (wpAny_Assign_Name (list_nil fun O s₂ X₁ hO lO => store_local k1 (X₁.ns List.not_mem_nil hns') (fun s₃ X₂ ns₃ => ?_) hcls))
  have lOs : s.heap.objs.size ≤ O := Nat.le_trans X0.size hO
  have lO₃ : LAt s₃.heap O [] := X₂.lat (nm (Ne.symm (PySem.W.neN (Nat.ne_of_lt (Nat.lt_of_lt_of_le hns'.lt hO))))) lO
  have X3 : Ext [] s s₃ := (X0.trans X₁).next X₂ (fL _ hLs)
  -- pending_tasks = tasks.copy()
  refine wpAny_execs_cons (wpAny_Assign_Name (copys_ev rfl rfl (gives_local hk k4 ns₃ (v := .ref a) ((if_neg (by decide)).trans m1)) (X3.keep _ _ List.not_mem_nil ho) hS hCl hts fun PT oS s₄ X₄ hPT gPT sPT => store_local k2 (X₄.ns List.not_mem_nil ns₃) (fun s₅ X₅ ns₅ => ?_) hcls))
  have lPTs : s.heap.objs.size ≤ PT := Nat.le_trans X3.size hPT
  have hLs₃ : env.locals < s₃.heap.objs.size := ns₃.lt
  have lO₅ : LAt s₅.heap O [] := X₅.lat (nm (Ne.symm (PySem.W.neN (Nat.ne_of_lt (Nat.lt_of_lt_of_le hns'.lt hO))))) (X₄.lat List.not_mem_nil lO₃)
  have gPT₅ : s₅.heap.get? PT = some oS := X₅.keep _ _ (nm (Ne.symm (PySem.W.neN (Nat.ne_of_lt (Nat.lt_of_lt_of_le hLs₃ hPT))))) gPT
  have X5 : Ext [] s s₅ := (X3.trans X₄).next X₅ (fL _ hLs)
  -- pending_precedences = precedences.copy()
  have hps' : prs.length ≤ sizeLine := Nat.le_trans hps (by decide)
  have hlocN : @Eq Nat env.locals s.heap.objs.size := hloc
  have nLP : env.locals ≠ cP := PySem.W.neN (by omega)
  have nLF : env.locals ≠ cF := PySem.W.neN (by omega)
  have nPF : cP ≠ cF := PySem.W.neN (by omega)
  have hcP₁ : cP < s₁.heap.objs.size := let ⟨_, e, _⟩ := hcP'; Heap.lt_size e
  have lt1 : ∀ {x y n : Nat}, x < n → n ≤ y → x ≠ y := fun h1 h2 => Nat.ne_of_lt (Nat.lt_of_lt_of_le h1 h2)
  have hcF₁ : cF < s₁.heap.objs.size := let ⟨_, e, _⟩ := hcF'; Heap.lt_size e
  have hs13 : s₁.heap.objs.size ≤ s₃.heap.objs.size := Nat.le_trans X₁.size X₂.size
  have hPs : (16 : Addr) < s.heap.objs.size := hok.lt.2
  have hcs : (18 : Addr) < s.heap.objs.size := hok.lt.1
  have cP₅ := X₅.cell (nm (Ne.symm nLP)) (X₄.cell List.not_mem_nil (X₂.cell (nm (Ne.symm nLP)) (X₁.cell List.not_mem_nil hcP')))
  have cF₅ := X₅.cell (nm (Ne.symm nLF)) (X₄.cell List.not_mem_nil (X₂.cell (nm (Ne.symm nLF)) (X₁.cell List.not_mem_nil hcF')))
  have hcF₅ : cF < s₅.heap.objs.size := let ⟨_, e, _⟩ := cF₅; Heap.lt_size e
  have hcPlt : cP < s₅.heap.objs.size := let ⟨_, e, _⟩ := cP₅; Heap.lt_size e
  refine wpAny_execs_cons (wpAny_Assign_Name (copyl_ev rfl rfl (gives_local hk k5 ns₅ (v := .ref pl) ((if_neg (by decide)).trans ((if_neg (by decide)).trans m2))) (X5.lat List.not_mem_nil hl) hps' fun PP s₆ X₆ hPP lPP => store_cell hk k6 c1 (X₆.cell List.not_mem_nil cP₅) fun s₇ X₇ cp₇ => ?_))
  have hOP : O ≠ PP := PySem.W.neN (Nat.ne_of_lt (Nat.lt_of_lt_of_le lO₅.lt hPP))
  have lPPs : s.heap.objs.size ≤ PP := Nat.le_trans X5.size hPP
  have lcP : s.heap.objs.size ≤ cP := by omega
  have lcF : s.heap.objs.size ≤ cF := by omega
  have nPPcP : PP ≠ cP := Ne.symm (PySem.W.neN (Nat.ne_of_lt (Nat.lt_of_lt_of_le hcPlt hPP)))
  have X7 : Ext [] s s₇ := (X5.trans X₆).next X₇ (fL _ lcP)
  have gPT₇ : s₇.heap.get? PT = some oS := by
    exact X₇.keep _ _ (nm (Ne.symm (PySem.W.neN (Nat.ne_of_lt (Nat.lt_of_lt_of_le hcP₁ (Nat.le_trans hs13 hPT)))))) (X₆.keep _ _ List.not_mem_nil gPT₅)
  have lO₇ : LAt s₇.heap O [] := X₇.lat (nm (Ne.symm (PySem.W.neN (Nat.ne_of_lt (Nat.lt_of_lt_of_le hcP₁ hO))))) (X₆.lat List.not_mem_nil lO₅)
  have B₀ : BInv w 18 16 env.locals cP cF a s ts ps [] O PT PP _ _ oS [] prs tabs s₇ :=
    { ext := X7.mono fun _ h => absurd h List.not_mem_nil
      ns := X₇.ns (nm nLP) (X₆.ns List.not_mem_nil ns₅)
      mo := (if_neg (by decide)).trans (if_pos rfl)
      mp := if_pos rfl
      mt := (if_neg (by decide)).trans ((if_neg (by decide)).trans m1)
      cp := cp₇
      cf := X₇.cell (nm (Ne.symm nPF)) (X₆.cell List.not_mem_nil cF₅)
      lo := lO₇
      so := .nil
      gp := gPT₇
      sp := by rw [rem_nil]; exact sPT
      lp := X₇.lat (nm nPPcP) lPP
      pp := by rw [pp_nil]; exact X7.pairs hp fun _ _ => List.not_mem_nil
      code := X7.code List.not_mem_nil List.not_mem_nil hok
      tab := X7.table List.not_mem_nil List.not_mem_nil htab
      hP := hPs, nL := hLs, nO := lOs, nPT := lPTs, nPP := lPPs, nOP := hOP, nLF := nLF, nPF := nPF, nF := lcF, nP := lcP, nCO := lt1 hcP₁ hO, nCT := lt1 hcP₁ (Nat.le_trans hs13 hPT), nFO := lt1 hcF₁ hO, nFT := lt1 hcF₁ (Nat.le_trans hs13 hPT), nFP := lt1 hcF₅ hPP, nCP := lt1 hcPlt hPP, nLO := lt1 hns'.lt hO, nLT := lt1 hLs₃ hPT, nLP := lt1 ns₅.lt hPP, nLC := nLP, nOT := lt1 lO₃.lt hPT, nTP := lt1 (Heap.lt_size gPT₅) hPP }
  refine wpAny_execs_cons (wpAny_While (codeAny_whileLoop (fun n s' => ∃ dn O PT PP m v0 oS vs prs' tabs', BInv w 18 16 env.locals cP cF a s ts ps dn O PT PP m v0 oS vs prs' tabs' s' ∧ dn.length + n = ts.length ∧ (dn ++ remOf ts dn).Perm ts ∧ prs'.length ≤ 10 ∧
    bld ts ps ts.length [] = bld ts ps n dn) ?_ ts.length ⟨[], O, PT, PP, _, _, oS, [], prs, tabs, B₀, by simp, by rw [rem_nil]; exact List.Perm.refl _, hps, rfl⟩))
  rintro n s' ⟨dn, O, PT, PP, m, v0, oS, vs, prs', tabs', B, hn, hperm, hpl, hbld⟩
  have hrem : (remOf ts dn).length = n := by
    have := hperm.length_eq
    rw [List.length_append] at this
    omega
  have kpB : ∀ s', Ext [16] s s' → Kp hb s'.heap := fun s' X => X.kp kp fun b hb' => by rw [List.mem_singleton.mp hb']; exact hPb
  have hroom' : (A.deeper env).depth < recursionLimit := by show A.depth + 1 < _; omega
  have hsc : scanBound = 4096 := rfl
  have hsl : sizeLine = 2 ^ 24 := rfl
  refine wpAny_isTrue_Compare1 (len_set G (kpB _ B.ext) hk hg hbl k8 n2 b2 (gives_local hk k2 B.ns B.mp) B.gp B.sp (by omega) (fun t1 s₈ X₈ => const_int fun t2 s₉ X₉ => gt_int (wpAny_truthy_bool ?_)) rfl)
  replace B := (B.go X₈).go X₉
  clear X₈ X₉
  rw [hrem]
  by_cases hn0 : 0 < n
  · rw [decide_eq_true (by omega : (0 : Int) < (n : Int)), if_pos rfl]
    obtain ⟨q1, q2, q3, q4, q5, q6, q7, q8⟩ := B.lts
    -- firsts = [..]
    refine wpAny_execs_cons (comp_used (swaps_true hblk k3 rfl rfl) ?_)
    refine firsts_comp (c := 18) (P := 16) (cP := cP) (pp := PP) (a := PT) G (kpB _ B.ext) hhd hroom' hk hg hbl hcode n1 b1 rfl rfl rfl rfl rfl (by decide) (by decide) (by decide) (by decide) (by decide) (by decide) k6 c1 B.cp (gives_local hk k2 B.ns B.mp) (fun _ => rfl) rfl B.gp B.sp (by omega) B.lp.isList B.pp B.code B.tab
      (lt1 hPs B.nPP) (fun b hb' => pairs_off B.pp B.tab.2 (by intro q; cases q) b hb') hPb (lt1 hPs B.nPT) (lt1 hPs B.nP) fun s₁₀ D C m' fs fvs tabs'' X10 hD hC hDC gD sfs pfs code10 tab10 nsC => ?_
    have B10 := B.tbl X10 code10 tab10
    have hDC' : D ≠ C := hDC
    have lD : LAt s₁₀.heap D fvs := LAt.of_lst gD
    refine wpAny_assign_Name (store_local k3 B10.ns (fun s₁₁ X11 ns11 => ⟨m', X11.ns (nm (Ne.symm (lt1 q1 hC))) nsC, fun h12 sb => ?_⟩) hcls)
    have X12 : Ext [C] s₁₁ { s₁₁ with heap := h12 } := Ext.same (tk := s₁₁.toks) sb
    generalize ({ s₁₁ with heap := h12 } : Shared) = s₁₂ at X12 ⊢
    have hC10 : C < s₁₀.heap.objs.size := nsC.lt
    have B12 := (B10.loc X11 ns11 (if_neg (by decide)) (if_neg (by decide)) (if_neg (by decide)) hcs).off X12 (Nat.le_trans B.ext.size hC) (Ne.symm (lt1 q1 hC)) (Ne.symm (lt1 q2 hC)) (Ne.symm (lt1 q3 hC)) (Ne.symm (lt1 q4 hC)) (Ne.symm (lt1 q5 hC)) (Ne.symm (lt1 q6 hC)) hcs
      (fun b hb' => lt1 (pairs_lt B.pp b hb') hC)
    have lD12 : LAt s₁₂.heap D fvs := X12.lat (nm hDC') (X11.lat (nm (Ne.symm (lt1 q1 hD))) lD)
    have mf : (fun y => if y = Str.ofString "firsts" then some (Value.ref D) else m y) (Str.ofString "firsts") = some (.ref D) := if_pos rfl
    have hDl : D < s₁₂.heap.objs.size := lD12.lt
    generalize hm12 : (fun y => if y = Str.ofString "firsts" then some (Value.ref D) else m y) = m12 at B12 mf
    have pfs' : fs.Perm (nexts ts ps dn) := by rw [← firsts_nexts]; exact pfs
    have hfl : fvs.length = fs.length := sfs.len_eq
    have hfn : fs.length ≤ ts.length := by
      rw [pfs'.length_eq]
      exact List.length_filter_le _ _
    -- if len(firsts) != 1
    refine wpAny_execs_cons (wpAny_If (wpAny_isTrue_Compare1 (len_list G (kpB _ B12.ext) hk hg hbl k8 n2 b2 (gives_local hk k3 B12.ns mf) lD12 (by omega) (fun t3 s₁₃ X13 => const_int fun t4 s₁₄ X14 => ne_int (wpAny_truthy_bool ?_)) rfl)))
    have B14 := (B12.go X13).go X14
    have lD14 := X14.lat List.not_mem_nil (X13.lat List.not_mem_nil lD12)
    obtain ⟨k, rfl⟩ : ∃ k, n = k + 1 := ⟨n - 1, by omega⟩
    by_cases hf1 : fs.length = 1
    · rw [hfl, hf1]
      rw [if_neg (by decide)]
      refine wpAny_execs_nil ?_
      obtain ⟨f, hfe⟩ : ∃ f, fs = [f] := by
        match fs, hf1 with
        | [f], _ => exact ⟨f, rfl⟩
      subst hfe
      have hnx : nexts ts ps dn = [f] := List.perm_singleton.mp pfs'.symm
      obtain ⟨tf, hfv⟩ : ∃ tf, fvs = [.str f tf] := by
        cases sfs with
        | cons _ tf r => cases r; exact ⟨tf, rfl⟩
      subst hfv
      -- first = firsts[0]
      refine wpAny_execs_cons (wpAny_Assign_Name (item_ev (gives_local hk k3 B14.ns mf) lD14 (by decide) (by decide) rfl fun s₁₅ X15 => store_cell hk k7 c2 (X15.cell List.not_mem_nil B14.cf) fun s₁₆ X16 cf16 => ?_))
      have B15 := B14.go X15
      have B16 : BInv w 18 16 env.locals cP cF a s ts ps dn O PT PP m12 (some (.str f tf)) oS vs prs' tabs'' s₁₆ :=
        { B15 with
          ext := B15.ext.next X16 (fun p hp => .inr (by rw [List.mem_singleton.mp hp]; exact B.nF))
          ns := X16.ns (nm B.nLF) B15.ns
          cp := X16.cell (nm B.nPF) B15.cp
          cf := cf16
          lo := X16.lat (nm (Ne.symm B.nFO)) B15.lo
          gp := X16.keep _ _ (nm (Ne.symm B.nFT)) B15.gp
          lp := X16.lat (nm (Ne.symm B.nFP)) B15.lp
          pp := X16.pairs B15.pp fun b hb => by simpa using cell_off B15.pp B15.cf b hb
          code := X16.code (nm (lt1 hcs B.nF)) (nm (lt1 hPs B.nF)) B15.code
          tab := X16.table (nm (lt1 hcs B.nF)) (nm (lt1 hPs B.nF)) B15.tab }
      -- order.append(first)
      have hvl : vs.length ≤ ts.length := by
        have := B.so.len_eq
        omega
      refine wpAny_execs_cons (wpAny_Expr_any (append_ev rfl rfl rfl (gives_local hk k1 B16.ns B16.mo) (gives_cell hk k7 c2 B16.cf) B16.lo (by omega) fun s₁₇ X17 l17 => ?_) hi rfl)
      have hfrem : f ∈ remOf ts dn := by
        have : f ∈ nexts ts ps dn := by rw [hnx]; exact List.mem_singleton.mpr rfl
        obtain ⟨h1, h2, _⟩ := mem_nexts.mp this
        exact List.mem_filter.mpr ⟨h1, by simpa using h2⟩
      have hOP' : ∀ b, Value.ref b ∈ prs' → b ≠ O := fun b hb => lat_off B16.pp B16.lo b hb
      -- pending_tasks.remove(first)
      refine wpAny_execs_cons (wpAny_Expr_any (removes_ev rfl rfl rfl (gives_local hk k2 (X17.ns (nm B.nLO) B16.ns) B16.mp) (gives_cell hk k7 c2 (X17.cell (nm B.nFO) B16.cf)) (X17.keep _ _ (nm (Ne.symm B.nOT)) B16.gp) B16.sp hfrem (by omega) fun s₁₈ oS' X18 g18 S18 => ?_) hi rfl)
      have so18 : StrsAre (vs ++ [.str f tf]) (dn ++ [f]) := strs_snoc B.so f tf
      have ns18 := X18.ns (nm B.nLT) (X17.ns (nm B.nLO) B16.ns)
      have cp18 := X18.cell (nm B.nCT) (X17.cell (nm B.nCO) B16.cp)
      have cf18 := X18.cell (nm B.nFT) (X17.cell (nm B.nFO) B16.cf)
      have lo18 := X18.lat (nm B.nOT) l17
      have lp18 := X18.lat (nm (Ne.symm B.nTP)) (X17.lat (nm (Ne.symm B.nOP)) B16.lp)
      have pp17 := X17.pairs B16.pp fun b hb => by simpa using hOP' b hb
      have pp18 := X18.pairs pp17 fun b hb => by simpa using (pairs_off B16.pp B16.gp (by intro q; rw [B16.sp.1.1] at q; simp at q) b hb)
      have code18 := X18.code (nm (lt1 hcs B.nPT)) (nm (lt1 hPs B.nPT)) (X17.code (nm (lt1 hcs B.nO)) (nm (lt1 hPs B.nO)) B16.code)
      have tab18 := X18.table (nm (lt1 hcs B.nPT)) (nm (lt1 hPs B.nPT)) (X17.table (nm (lt1 hcs B.nO)) (nm (lt1 hPs B.nO)) B16.tab)
      have ext18 := (B16.ext.next X17 (fun p hp => .inr (by rw [List.mem_singleton.mp hp]; exact B.nO))).next X18 (fun p hp => .inr (by rw [List.mem_singleton.mp hp]; exact B.nPT))
      -- pending_precedences = [..]
      refine wpAny_execs_cons (wpAny_Assign_Name (comp_plain ?_) (swaps_cell k6))
      refine pairs_comp (cY := cF) (k := f) (tk := tf) (keep := fun p => decide (p.1 ≠ f)) (R := PairAt) hhd hk rfl rfl (by decide) k7 c2 cf18 (gives_cell hk k6 c1 cp18) (fun _ => rfl) lp18.isList pp18 (by omega) (fun h h' v p r kk => r.keeps kk)
        (fun cenv s' m p t1 t2 Q E hk' ka kb ky kc hn ma mb hc hq => wpAny_isTrue_Compare1 ((gives_local hk' ka hn ma) _ _ ((gives_cell hk' ky kc hc) _ _ (PyProof.Rows.ne_str (wpAny_truthy_bool ?_)))))
        (fun cenv s' m p t1 t2 Q E hk' ka kb hn ma mb hq => wpAny_Tuple (spliced_cons ((gives_local hk' ka hn ma) _ _ (spliced_cons ((gives_local hk' kb hn mb) _ _ (spliced_nil ⟨(by show 2 ≤ sizeLine; decide), hq _ _ (Ext.push (tk := s'.toks)) ⟨_, t1, t2, rfl, _, Heap.get?_push_size _ rfl, rfl, _, rfl⟩ (fun a e => by cases e; exact Nat.le_refl _)⟩))))))
        fun s₁₉ D2 C2 m2 vs2 X19 hD2 hC2 hDC2 gD2 rel2 fr2 nsC2 => ⟨m2, nsC2, fun h20 sb2 => ?_⟩
      · have e : (p.1 != f) = decide (p.1 ≠ f) := by by_cases q : p.1 = f <;> simp [q]
        rw [e]; exact hq
      have X20 : Ext [C2] s₁₉ { s₁₉ with heap := h20 } := Ext.same (tk := s₁₉.toks) sb2
      generalize ({ s₁₉ with heap := h20 } : Shared) = s₂₀ at X20 ⊢
      have hcP18 : cP < s₁₈.heap.objs.size := let ⟨_, e, _⟩ := cp18; Heap.lt_size e
      refine store_cell hk k6 c1 (X20.cell (nm (lt1 hcP18 hC2)) (X19.cell List.not_mem_nil cp18)) fun s₂₁ X21 cp21 => wpAny_execs_nil ?_
      have lD20 : LAt s₂₀.heap D2 vs2 := X20.lat (nm hDC2) (LAt.of_lst gD2)
      have nD2 : cP ≠ D2 := lt1 hcP18 hD2
      have frs : s.heap.objs.size ≤ s₁₈.heap.objs.size := ext18.size
      have L18 : ∀ {y : Nat}, y < s₁₈.heap.objs.size → C2 ∉ ([] : List Addr) ∧ y ≠ C2 ∧ y ≠ D2 := fun h => ⟨List.not_mem_nil, lt1 h hC2, lt1 h hD2⟩
      have lo21 := X21.lat (nm (Ne.symm B.nCO)) (X20.lat (nm (L18 lo18.lt).2.1) (X19.lat List.not_mem_nil lo18))
      have g21 := X21.keep _ _ (nm (Ne.symm B.nCT)) (X20.keep _ _ (nm (L18 (Heap.lt_size g18)).2.1) (X19.keep _ _ List.not_mem_nil g18))
      have ns21 := X21.ns (nm B.nLC) (X20.ns (nm (L18 ns18.lt).2.1) (X19.ns List.not_mem_nil ns18))
      have hcF18 : cF < s₁₈.heap.objs.size := let ⟨_, e, _⟩ := cf18; Heap.lt_size e
      have cf21 := X21.cell (nm (Ne.symm B.nPF)) (X20.cell (nm (L18 hcF18).2.1) (X19.cell List.not_mem_nil cf18))
      have ext21 := ((ext18.next X19 (fun p hp => absurd hp List.not_mem_nil)).next X20 (fun p hp => .inr (by rw [List.mem_singleton.mp hp]; exact Nat.le_trans frs hC2))).next X21 (fun p hp => .inr (by rw [List.mem_singleton.mp hp]; exact B.nP))
      have pp20 : PairsAt s₂₀.heap vs2 ((ppOf ps dn).filter fun p => decide (p.1 ≠ f)) := X20.pairs rel2.pairs fun b hb => by simpa using (fr2 _ hb b rfl).2.2
      have pp21 := X21.pairs pp20 fun b hb => by
        have := (fr2 _ hb b rfl).1
        simpa using Ne.symm (lt1 hcP18 this)
      have code21 := X21.code (nm (lt1 hcs B.nP)) (nm (lt1 hPs B.nP)) (X20.code (nm (L18 code18.lt.1).2.1) (nm (L18 code18.lt.2).2.1) (X19.code List.not_mem_nil List.not_mem_nil code18))
      have tab21 := X21.table (nm (lt1 hcs B.nP)) (nm (lt1 hPs B.nP)) (X20.table (nm (L18 code18.lt.1).2.1) (nm (L18 code18.lt.2).2.1) (X19.table List.not_mem_nil List.not_mem_nil tab18))
      have hfd : f ∉ dn := by
        obtain ⟨_, h2⟩ := List.mem_filter.mp hfrem
        simpa using h2
      have hfts : f ∈ ts := (List.mem_filter.mp hfrem).1
      rw [rem_snoc ts dn f hnd] at S18
      rw [pp_snoc] at pp21
      refine ⟨k, Nat.lt_succ_self k, dn ++ [f], O, PT, D2, _, _, oS', vs ++ [.str f tf], vs2, tabs'',
        { ext := ext21, ns := ns21, mo := B16.mo, mp := B16.mp, mt := B16.mt, cp := cp21, cf := cf21, lo := lo21, so := so18, gp := g21, sp := S18, lp := X21.lat (nm (Ne.symm nD2)) lD20, pp := pp21, code := code21, tab := tab21,
          hP := hPs, nL := B.nL, nO := B.nO, nPT := B.nPT, nPP := Nat.le_trans frs hD2, nOP := (L18 lo18.lt).2.2, nLF := B.nLF, nPF := B.nPF, nF := B.nF, nP := B.nP, nCO := B.nCO, nCT := B.nCT, nFO := B.nFO, nFT := B.nFT, nFP := (L18 hcF18).2.2, nCP := nD2, nLO := B.nLO, nLT := B.nLT, nLP := (L18 ns18.lt).2.2, nLC := B.nLC, nOT := B.nOT, nTP := (L18 (Heap.lt_size g18)).2.2 }, ?_, ?_, ?_, ?_⟩
      · rw [List.length_append, List.length_singleton]; omega
      · rw [← rem_snoc ts dn f hnd, List.append_assoc]
        exact (List.Perm.append_left dn (List.perm_cons_erase hfrem).symm).trans hperm
      · rw [rel2.length]
        exact Nat.le_trans (List.length_filter_le _ _) (by rw [← B16.pp.length]; exact hpl)
      · rw [hbld]
        simp only [bld, hnx]
    · have e1 : ((fvs.length : Int) != 1) = true := by
        rw [hfl]
        simp only [bne_iff_ne, ne_eq]
        omega
      rw [e1, if_pos rfl]
      refine wpAny_execs_cons (wpAny_Return_some (Constant_none ?_))
      refine h _ _ _ B14.ext B14.tab ?_
      have : bld ts ps ts.length [] = none := by
        rw [hbld]
        have hnl : (nexts ts ps dn).length ≠ 1 := by rw [← pfs'.length_eq]; exact hf1
        simp only [bld]
        split
        · rename_i f' heq
          exact absurd (by rw [heq]; rfl) hnl
        · rfl
      rw [this]
  · have hz : n = 0 := by omega
    subst hz
    rw [decide_eq_false (by omega), if_neg (by decide)]
    refine wpAny_execs_nil ?_
    have hdn : dn.Perm ts := by
      have e : remOf ts dn = [] := List.length_eq_zero_iff.mp hrem
      rw [e, List.append_nil] at hperm
      exact hperm
    have hlen : dn.length = ts.length := hdn.length_eq
    have hdnn : dn.Nodup := hdn.nodup_iff.mpr hnd
    -- assert len(pending_tasks) == 0
    refine wpAny_execs_cons (wpAny_Assert_holds (wpAny_isTrue_Compare1 (len_set G (kpB _ B.ext) hk hg hbl k8 n2 b2 (gives_local hk k2 B.ns B.mp) B.gp B.sp (by omega) (fun t3 s₁₀ X10 => const_int fun t4 s₁₁ X11 => PyProof.Rows.eq_int (wpAny_truthy_bool ⟨by rw [hrem]; rfl, ?_⟩)) rfl)))
    replace B := (B.go X10).go X11
    -- assert len(order) == len(tasks)
    have hoB : ∀ {s'}, Ext [16] s s' → s'.heap.get? a = some o := fun X => X.keep _ _ (nm (Ne.symm hPa)) ho
    refine wpAny_execs_cons (wpAny_Assert_holds (wpAny_isTrue_Compare1 (len_list G (kpB _ B.ext) hk hg hbl k8 n2 b2 (gives_local hk k1 B.ns B.mo) B.lo (by rw [B.so.len_eq]; omega) (fun t5 s₁₂ X12 => ?_) rfl)))
    replace B := B.go X12
    refine len_set G (kpB _ B.ext) hk hg hbl k8 n2 b2 (gives_local hk k4 B.ns B.mt) (hoB B.ext) hS (by omega) (fun t6 s₁₃ X13 => PyProof.Rows.eq_int (wpAny_truthy_bool ⟨by rw [B.so.len_eq, hlen]; simp, ?_⟩)) rfl
    replace B := B.go X13
    -- assert set(order) == tasks
    refine wpAny_execs_cons (wpAny_Assert_holds (wpAny_isTrue_Compare1 (set_ev hhd G (kpB _ B.ext) hk hg hbl k9 n3 b3 (gives_local hk k1 B.ns B.mo) B.lo B.so hdnn (by omega) (fun D oD s₁₄ X14 hD gD SD _ => ?_) rfl)))
    have B14 := B.go X14
    have hu' : (A.deeper env).units < cLine := by show A.units + 3 < _; omega
    refine (gives_local hk k4 B14.ns B14.mt) _ _ (cmp_ofEq (call_eq hu' gD SD (hoB B14.ext) hS hdn (by omega) (wpAny_truthy_bool ⟨rfl, ?_⟩)))
    -- return order
    refine wpAny_execs_cons (wpAny_Return_some ((gives_local hk k1 B14.ns B14.mo) _ _ ?_))
    refine h _ _ _ B14.ext B14.tab ?_
    rw [hbld]
    exact ⟨O, vs, rfl, B14.nO, B14.lo, B14.so⟩
end Mine
end

section
open PySem PySem.W PyProof.Rows PySem.Calls
set_option Elab.async false
set_option maxRecDepth 100000
namespace Mine
theorem levels_len (ts : List Str) (ps : List (Str × Str)) : ∀ n, (levels ts ps n).length ≤ ts.length ^ n
  | 0 => Nat.le_refl _
  | n + 1 => by
    have ih := levels_len ts ps n
    show (List.flatMap _ (levels ts ps n)).length ≤ _
    rw [List.length_flatMap, Nat.pow_succ]
    refine Nat.le_trans ?_ (Nat.mul_le_mul_right _ ih)
    generalize levels ts ps n = os
    induction os with
    | nil => simp
    | cons o r ih2 =>
      rw [List.map_cons, List.sum_cons, List.length_cons, Nat.succ_mul, List.length_map]
      have : (nexts ts ps o).length ≤ ts.length := List.length_filter_le _ _
      omega
theorem levels_olen (ts : List Str) (ps : List (Str × Str)) : ∀ n, ∀ o ∈ levels ts ps n, o.length = n
  | 0 => fun o h => by
    have : o = [] := List.mem_singleton.mp h
    rw [this]; rfl
  | n + 1 => fun o h => by
    obtain ⟨o', h1, h2⟩ := List.mem_flatMap.mp h
    obtain ⟨t, _, rfl⟩ := List.mem_map.mp h2
    rw [List.length_append, levels_olen ts ps n o' h1]
    rfl
theorem orders_contract {w : World} {A : Around} {s : Shared} {mg mb : Str → Option Value} {R : Result → Shared → Prop} {hb : Heap} {tl pl : Addr} {ts : List Str} {tvs prs : List Value} {ps : List (Str × Str)}
    (G : Gb mg mb hb) (KX : (hd.heap_39 w.params).In hb) (kp : Kp hb s.heap) (hh : A.handled = none) (hroom : A.depth + 20 < recursionLimit)
    (n1 : mg (Str.ofString "all") = none) (n2 : mg (Str.ofString "len") = none) (n3 : mg (Str.ofString "range") = none)
    (b1 : mb (Str.ofString "all") = some (.builtin "all")) (b2 : mb (Str.ofString "len") = some (.builtin "len")) (b3 : mb (Str.ofString "range") = some (.type "range"))
    (ht : LAt s.heap tl tvs) (hts : StrsAre tvs ts) (ht4 : ts.length ≤ 4)
    (hl : LAt s.heap pl prs) (hp : PairsAt s.heap prs ps) (hps : prs.length ≤ 10)
    (h : ∀ s' OL ovs, Ext [] s s' → s.heap.objs.size ≤ OL → LAt s'.heap OL ovs → RelL (Ord s'.heap) ovs (levels ts ps ts.length) → R (.ok (.ret (.ref OL))) s') :
    codeAny (model PySem.Challenge.rw_ke0029_01.row.prog w) A (.call (.ref 31) ⟨[.ref tl, .ref pl], []⟩) R s := by
  refine enter_cells (s := s) ((G.keeps kp).lim) ((KX.keeps kp) 31 _ rfl) rfl (codeRec_of (KX.keeps kp) rfl) (by omega) (BindsTo.of_eq rfl) (by rfl) fun h₁ tk hns hcell hk₁ => ?_
  obtain ⟨m, hns, m1, m2⟩ : ∃ m, h₁.Ns s.heap.objs.size m ∧ m (Str.ofString "tasks") = some (.ref tl) ∧ m (Str.ofString "pairs") = some (.ref pl) := ⟨_, hns, rfl, rfl⟩
  have hcO := hcell (Str.ofString "order") (s.heap.objs.size + 1) rfl
  have hcT := hcell (Str.ofString "task") (s.heap.objs.size + 2) rfl
  clear hcell
  generalize hE : envOfC _ _ _ _ _ = env at hcO hcT ⊢
  have hk : env.scope.kind = .function := by rw [← hE]; rfl
  have hg : env.globals = mainGlobals := by rw [← hE]; rfl
  have hbl : env.builtins = builtinsNs := by rw [← hE]; rfl
  have hloc : env.locals = s.heap.objs.size := by rw [← hE]; rfl
  have k1 : env.kindOf (Str.ofString "orders") = some .local := by rw [← hE]; rfl
  have k2 : env.kindOf (Str.ofString "turn") = some .local := by rw [← hE]; rfl
  have k3 : env.kindOf (Str.ofString "longer") = some .local := by rw [← hE]; rfl
  have k4 : env.kindOf (Str.ofString "tasks") = some .local := by rw [← hE]; rfl
  have k5 : env.kindOf (Str.ofString "pairs") = some .local := by rw [← hE]; rfl
  have k6 : env.kindOf (Str.ofString "order") = some .cell := by rw [← hE]; rfl
  have k7 : env.kindOf (Str.ofString "task") = some .cell := by rw [← hE]; rfl
  have k8 : env.kindOf (Str.ofString "len") = some .globalImplicit := by rw [← hE]; rfl
  have k9 : env.kindOf (Str.ofString "range") = some .globalImplicit := by rw [← hE]; rfl
  have k10 : env.kindOf (Str.ofString "all") = some .globalImplicit := by rw [← hE]; rfl
  have k11 : env.kindOf (Str.ofString "ahead") = some .local := by rw [← hE]; rfl
  have c1 : env.cells.lookup (Str.ofString "order") = some (s.heap.objs.size + 1) := by rw [← hE]; rfl
  have c2 : env.cells.lookup (Str.ofString "task") = some (s.heap.objs.size + 2) := by rw [← hE]; rfl
  have hi : interactive env = false := by rw [← hE]; rfl
  have hcls : (env.scope.kind == .class || (env.scope.kind == .module && env.locals != env.globals)) = false := by rw [hk]; rfl
  have hblk : env.blockKind = .function := by rw [← hE]; rfl
  clear hE
  have hhd : (A.deeper env).handled = none := hh
  have X0 : Ext [] s { s with heap := h₁, toks := tk } := Ext.kp' hk₁ (Nat.le_of_lt hns.lt)
  have hns' : ({ s with heap := h₁, toks := tk } : Shared).heap.Ns env.locals m := by rw [hloc]; exact hns
  have hcO' : ({ s with heap := h₁, toks := tk } : Shared).heap.IsCell _ _ := hcO
  have hcT' : ({ s with heap := h₁, toks := tk } : Shared).heap.IsCell _ _ := hcT
  clear hns hcO hcT
  generalize hs1 : ({ s with heap := h₁, toks := tk } : Shared) = s₁ at X0 hns' hcO' hcT' ⊢
  clear hs1 hk₁
  have hLs : s.heap.objs.size ≤ env.locals := Nat.le_of_eq hloc.symm
  have hlocN : @Eq Nat env.locals s.heap.objs.size := hloc
  generalize hCO : s.heap.objs.size + 1 = cO at c1 hcO'
  generalize hCT : s.heap.objs.size + 2 = cT at c2 hcT'
  have nOT : cO ≠ cT := PySem.W.neN (by omega)
  have nLO : env.locals ≠ cO := PySem.W.neN (by omega)
  have nLT : env.locals ≠ cT := PySem.W.neN (by omega)
  have fL : ∀ x, s.heap.objs.size ≤ x → ∀ p ∈ [x], p ∈ ([] : List Addr) ∨ s.heap.objs.size ≤ p := fun x hx p hp => .inr (by rw [List.mem_singleton.mp hp]; exact hx)
  have nm : ∀ {x y : Addr}, x ≠ y → x ∉ [y] := fun h => by simpa using h
  have hsl : sizeLine = 2 ^ 24 := rfl
  have hroom' : (A.deeper env).depth < recursionLimit := by show A.depth + 1 < _; omega
  -- orders = [[]]
  refine wpAny_execs_cons (wpAny_Assign_Name (list_one (list_nil fun D s₂ X2 hD lD OL s₃ X3 hOL lOL => store_local k1 (X3.ns List.not_mem_nil (X2.ns List.not_mem_nil hns')) (fun s₄ X4 ns4 => ?_) hcls) rfl))
  have hLl1 : env.locals < s₁.heap.objs.size := hns'.lt
  have X04 : Ext [] s s₄ := ((X0.trans X2).trans X3).next X4 (fL _ hLs)
  have nDL : D ≠ env.locals := Ne.symm (Nat.ne_of_lt (Nat.lt_of_lt_of_le hLl1 hD))
  have nOL : OL ≠ env.locals := Ne.symm (Nat.ne_of_lt (Nat.lt_of_lt_of_le hLl1 (Nat.le_trans X2.size hOL)))
  have lD4 : LAt s₄.heap D [] := X4.lat (nm nDL) (X3.lat List.not_mem_nil lD)
  have lOL4 : LAt s₄.heap OL [.ref D] := X4.lat (nm nOL) lOL
  have hOLs : s.heap.objs.size ≤ OL := Nat.le_trans X0.size (Nat.le_trans X2.size hOL)
  have cO4 := X4.cell (nm (Ne.symm nLO)) (X3.cell List.not_mem_nil (X2.cell List.not_mem_nil hcO'))
  have cT4 := X4.cell (nm (Ne.symm nLT)) (X3.cell List.not_mem_nil (X2.cell List.not_mem_nil hcT'))
  -- for turn in range(len(tasks))
  refine wpAny_execs_cons (for_range hhd (Call_Name1 (name_builtin G (X04.kp kp (fun b hb' => absurd hb' List.not_mem_nil)) hk hg hbl k9 n3 b3 (PySem.callWith_type1 (len_list G (X04.kp kp (fun b hb' => absurd hb' List.not_mem_nil)) hk hg hbl k8 n2 b2 (gives_local hk k4 ns4 ((if_neg (by decide)).trans m1)) (X04.lat List.not_mem_nil ht) (by rw [hts.len_eq]; omega) (fun t s₅ X5 => call_range_1 ⟨_, tvs.length, _, _, _, rfl, Heap.get?_push_size _ rfl, by rw [hts.len_eq]; omega, ?_⟩) rfl))) rfl))
  have X6 : Ext [] s₅ { s₅ with heap := s₅.heap.push { cls := .type "range", data := .fields #[.int 0 s₅.toks, .int tvs.length t, .int 1 (s₅.toks + 1)] }, toks := s₅.toks + 1 + 1 } := Ext.push
  generalize ({ s₅ with heap := s₅.heap.push { cls := .type "range", data := .fields #[.int 0 s₅.toks, .int tvs.length t, .int 1 (s₅.toks + 1)] }, toks := s₅.toks + 1 + 1 } : Shared) = s₆ at X6 ⊢
  have X46 : Ext [] s₄ s₆ := X5.trans X6
  have X06 : Ext [] s s₆ := X04.trans X46
  have htn : tvs.length = ts.length := hts.len_eq
  have tl6 := X06.lat List.not_mem_nil ht
  have pl6 := X06.lat List.not_mem_nil hl
  have ps6 := X06.pairs hp fun _ _ => List.not_mem_nil
  have ns6 := X46.ns List.not_mem_nil ns4
  have cO6 := X46.cell List.not_mem_nil cO4
  have cT6 := X46.cell List.not_mem_nil cT4
  have off3 : ∀ {l : Addr} {vs : List Value}, LAt s₆.heap l vs → l ∉ [env.locals, cT, cO] := fun x => by
    simp only [List.mem_cons, List.not_mem_nil, or_false, not_or]
    exact ⟨lat_ne_ns x ns6, lat_ne_cell x cT6, lat_ne_cell x cO6⟩
  have proff : ∀ a, Value.ref a ∈ prs → a ∉ [env.locals, cT, cO] := fun a ha => by
    simp only [List.mem_cons, List.not_mem_nil, or_false, not_or]
    exact ⟨ns_off ps6 ns6 a ha, cell_off ps6 cT6 a ha, cell_off ps6 cO6 a ha⟩
  obtain ⟨oL, eL, dL⟩ := live_ns ns6
  obtain ⟨oT, eT, dT⟩ := live_cell cT6
  obtain ⟨oO, eO, dO⟩ := live_cell cO6
  have w3 : ∀ p ∈ [env.locals, cT, cO], p ∈ ([] : List Addr) ∨ s.heap.objs.size ≤ p := fun p hp => .inr (by
    simp only [List.mem_cons, List.not_mem_nil, or_false] at hp
    rcases hp with rfl | rfl | rfl
    · exact hLs
    · omega
    · omega)
  refine ⟨fun I i s' => i ≤ ts.length ∧ ∃ OL ovs m' vT' vO', Ext0 [env.locals, cT, cO] s₆ s' ∧ s'.heap.Ns env.locals m' ∧ m' (Str.ofString "tasks") = some (.ref tl) ∧ m' (Str.ofString "pairs") = some (.ref pl) ∧ m' (Str.ofString "orders") = some (.ref OL) ∧
    s'.heap.IsCell cT vT' ∧ s'.heap.IsCell cO vO' ∧ LAt s'.heap OL ovs ∧ RelL (Ord s'.heap) ovs (levels ts ps i) ∧ OL ≠ I ∧ s.heap.objs.size ≤ OL ∧ (∀ a, Value.ref a ∈ ovs → a ≠ I), ?_, ?_, ?_, ?_⟩
  · intro I s₇ X7 hI _
    have nI : ∀ {z : Addr}, z < s₆.heap.objs.size → z ≠ I := fun h => Nat.ne_of_lt (Nat.lt_of_lt_of_le h hI)
    have lD7 := X7.lat List.not_mem_nil (X46.lat List.not_mem_nil lD4)
    refine ⟨Nat.zero_le _, OL, [.ref D], _, _, _, X7.e0.mono fun _ h => absurd h List.not_mem_nil, X7.ns List.not_mem_nil ns6, (if_neg (by decide)).trans m1, (if_neg (by decide)).trans m2, if_pos rfl, X7.cell List.not_mem_nil cT6, X7.cell List.not_mem_nil cO6, X7.lat List.not_mem_nil (X46.lat List.not_mem_nil lOL4), .cons ⟨D, [], rfl, lD7, .nil⟩ .nil, nI (X46.lat List.not_mem_nil lOL4).lt, hOLs, ?_⟩
    intro a ha
    rw [List.mem_singleton] at ha
    cases ha
    exact nI (X46.lat List.not_mem_nil lD4).lt
  · rintro I i s' s₇ hI ⟨hi', OL, ovs, m', vT', vO', X', ns', mt', mp', mo', cT', cO', lOL', rel', nOI, hOLs', fr'⟩ X
    have lo : ∀ {z : Addr} {ob : Obj}, s₆.heap.get? z = some ob → z ∉ [I] := fun e => by simpa using Nat.ne_of_lt (Nat.lt_of_lt_of_le (Heap.lt_size e) hI)
    exact ⟨hi', OL, ovs, m', vT', vO', X'.next X.e0 (fun p hp => .inr (by rw [List.mem_singleton.mp hp]; exact hI)), X.ns (lo eL) ns', mt', mp', mo', X.cell (lo eT) cT', X.cell (lo eO) cO', X.lat (nm nOI) lOL', ords_keep rel' fun a ha ob e => X.keep _ _ (nm (fr' a ha)) e, nOI, hOLs', fr'⟩
  · rintro I i t' s' E' hI hIl hin ⟨hi', OL, ovs, m', vT', vO', X', ns', mt', mp', mo', cT', cO', lOL', rel', nOI, hOLs', fr'⟩
    have lol : ∀ {l : Addr} {vs : List Value}, LAt s'.heap l vs → l ∉ [env.locals] := fun x => nm (lat_ne_ns x ns')
    refine store_local k2 ns' (fun s₈ X8 ns8 => ?_) hcls
    have cT8 := X8.cell (nm (Ne.symm nLT)) cT'
    have cO8 := X8.cell (nm (Ne.symm nLO)) cO'
    have lOL8 := X8.lat (lol lOL') lOL'
    have rel8 := ords_keep rel' fun a ha ob e => X8.keep _ _ (nm (by obtain ⟨oL', eL', dL'⟩ := live_ns ns'; exact ords_off rel' eL' dL' a ha)) e
    refine wpAny_execs_cons (wpAny_Assign_Name (list_nil fun LG s₉ X9 hLG lLG => store_local k3 (X9.ns List.not_mem_nil ns8) (fun s₁₀ X10 ns10 => ?_) hcls))
    have lol8 : ∀ {l : Addr} {vs : List Value}, LAt s₈.heap l vs → l ∉ [env.locals] := fun x => nm (lat_ne_ns x ns8)
    have lLG10 := X10.lat (nm (Ne.symm (Nat.ne_of_lt (Nat.lt_of_lt_of_le ns8.lt hLG)))) lLG
    have cT10 := X10.cell (nm (Ne.symm nLT)) (X9.cell List.not_mem_nil cT8)
    have cO10 := X10.cell (nm (Ne.symm nLO)) (X9.cell List.not_mem_nil cO8)
    have lOL10 := X10.lat (lol8 lOL8) (X9.lat List.not_mem_nil lOL8)
    have rel10 := ords_keep rel8 fun a ha ob e => X10.keep _ _ (nm (by obtain ⟨oL', eL', dL'⟩ := live_ns ns8; exact ords_off rel8 eL' dL' a ha)) (X9.keep _ _ List.not_mem_nil e)
    have X10' : Ext0 [env.locals, cT, cO] s₆ s₁₀ := ((X'.next X8.e0 (fun p hp => .inl (by rw [List.mem_singleton.mp hp]; simp))).next X9.e0 (fun p hp => absurd hp List.not_mem_nil)).next X10.e0 (fun p hp => .inl (by rw [List.mem_singleton.mp hp]; simp))
    have tl8 : LAt s₈.heap tl tvs := ((X'.next X8.e0 (fun p hp => .inl (by rw [List.mem_singleton.mp hp]; simp)))).lat (off3 tl6) tl6
    have pl8 : LAt s₈.heap pl prs := ((X'.next X8.e0 (fun p hp => .inl (by rw [List.mem_singleton.mp hp]; simp)))).lat (off3 pl6) pl6
    have fresh9 : Fresh s₈ LG := Fresh.of_size hLG
    have nLGa : ∀ a, Value.ref a ∈ ovs → a ≠ LG := fun a ha q => by
      obtain ⟨j, hj⟩ := List.getElem?_of_mem ha
      obtain ⟨o, _, b, ows, e, ⟨n, lb⟩, _⟩ := rel8.at hj
      cases e
      exact fresh9.ne lb q.symm
    have hnew : ∀ {x : Addr}, s.heap.objs.size ≤ x → hb.get? x = none := fun {x} hx => by
      cases e : hb.get? x with
      | none => rfl
      | some o => exact absurd (Heap.lt_size (kp x o e)) (Nat.not_lt.mpr hx)
    have w3n : ∀ b ∈ [env.locals, cT, cO], hb.get? b = none := fun b hb' => (w3 b hb').elim (fun h => absurd h List.not_mem_nil) hnew
    have kp10 : Kp hb s₁₀.heap := X10'.kp (X06.kp kp fun _ h => absurd h List.not_mem_nil) w3n
    have hLGs0 : s.heap.objs.size ≤ LG := by
      obtain ⟨oI, eI, _⟩ := hIl
      exact Nat.le_trans X06.size (Nat.le_of_lt (Nat.lt_of_le_of_lt hI (fresh9 _ _ (X8.keep _ _ (nm (Ne.symm (Nat.ne_of_lt (Nat.lt_of_lt_of_le ns6.lt hI)))) eI))))
    have hbn10 : ∀ b ∈ [env.locals, LG, cT, cO], hb.get? b = none := fun b hb' => by
      simp only [List.mem_cons, List.not_mem_nil, or_false] at hb'
      rcases hb' with rfl | rfl | rfl | rfl
      · exact w3n _ (by simp)
      · exact hnew hLGs0
      · exact w3n _ (by simp)
      · exact w3n _ (by simp)
    have hpow : (levels ts ps i).length * ts.length + ts.length ≤ 2 ^ 20 := by
      have h1 := levels_len ts ps i
      have h2 : ts.length ^ i ≤ 4 ^ 4 := Nat.le_trans (Nat.pow_le_pow_left ht4 i) (Nat.pow_le_pow_right (by decide) (by omega))
      have h3 : (levels ts ps i).length * ts.length ≤ 4 ^ 4 * 4 := Nat.mul_le_mul (Nat.le_trans h1 h2) ht4
      omega
    refine wpAny_execs_cons (mid_loop (s := s₁₀) (LG := LG) (OL := OL) (ovs := ovs) (os := levels ts ps i) (ts := ts) (tvs := tvs) (tl := tl) (pl := pl) (prs := prs) (ps := ps) hhd hk k4 k1 k7 c2 k6 c1 ?T kp10 hbn10 ns10 ((if_neg (by decide)).trans ((if_neg (by decide)).trans mt')) ((if_neg (by decide)).trans ((if_neg (by decide)).trans mp')) (if_pos rfl) ((if_neg (by decide)).trans ((if_neg (by decide)).trans mo')) cO10 cT10 lOL10 rel10 (X10'.lat (off3 tl6) tl6) hts (X10'.lat (off3 pl6) pl6) (X10'.pairs ps6 proff) lLG10 hpow
      (fun o ho => by rw [levels_olen ts ps i o ho]; omega) nLGa (Ne.symm (fresh9.ne tl8.choose_spec)) (Ne.symm (fresh9.ne pl8.choose_spec)) (Ne.symm (fresh9.ne lOL8.choose_spec)) nOT fun s₁₁ new m11 vT11 vO11 X11 ns11 hm11 cT11 cO11 lLG11 rel11 => ?_)
    case T =>
      intro z₁ mz oa ows o t tk lvs LZ Q' E'' kpz hnz mpz mlz hcOz loa so hcTz lplz hpsz lLZ hll ho10 hQ
      obtain ⟨oLz, eLz, dLz⟩ := live_ns hnz
      -- ahead = [..]
      refine wpAny_execs_cons (comp_used (swaps_true hblk k11 rfl rfl) (pairs_comp (cY := cT) (k := t) (tk := tk) (keep := fun p => decide (p.2 = t)) (R := fun _ v p => ∃ t1, v = .str p.1 t1) hhd hk rfl rfl (by decide) k7 c2 hcTz (gives_local hk k5 hnz mpz) (fun _ => rfl) lplz.isList hpsz (by omega) (fun _ _ _ _ r _ => r)
        (fun cenv s' m p t1 t2 Q E hk' ka kb ky kc hn ma mb hc hq => wpAny_isTrue_Compare1 ((gives_local hk' kb hn mb) _ _ ((gives_cell hk' ky kc hc) _ _ (PyProof.Rows.eq_str (wpAny_truthy_bool ?_)))))
        (fun cenv s' m p t1 t2 Q E hk' ka kb hn ma mb hq => (gives_local hk' ka hn ma) _ _ (hq _ _ (Ext.refl _ _) ⟨t1, rfl⟩ (fun a e => by cases e)))
        fun z₂ D C m2 avs X2 hD hC hDC gD rel fr nsC => ?_))
      · have e : (p.2 == t) = decide (p.2 = t) := by by_cases q : p.2 = t <;> simp [q]
        rw [e]; exact hq
      have nLC : env.locals ≠ C := Nat.ne_of_lt (Nat.lt_of_lt_of_le hnz.lt hC)
      have nLD : env.locals ≠ D := Nat.ne_of_lt (Nat.lt_of_lt_of_le hnz.lt hD)
      refine wpAny_assign_Name (store_local k11 (X2.ns List.not_mem_nil hnz) (fun z₃ X3 ns3 => ⟨m2, X3.ns (nm (Ne.symm nLC)) nsC, fun h4 sb => ?_⟩) hcls)
      have X4 : Ext [C] z₃ { z₃ with heap := h4 } := Ext.same (tk := z₃.toks) sb
      generalize ({ z₃ with heap := h4 } : Shared) = z₄ at X4 ⊢
      have sas := rel.strs
      have lowC : ∀ {y : Addr}, y < z₁.heap.objs.size → y ≠ C := fun h => Nat.ne_of_lt (Nat.lt_of_lt_of_le h hC)
      have X14 : Ext0 [env.locals] z₁ z₄ := ((X2.e0.mono (fun _ h => absurd h List.not_mem_nil)).next X3.e0 (fun p hp => .inl hp)).next X4.e0 (fun p hp => .inr (by rw [List.mem_singleton.mp hp]; exact hC))
      have ns4 := X4.ns (nm nLC) ns3
      have lD4 : LAt z₄.heap D avs := X4.lat (nm hDC) (X3.lat (nm (Ne.symm nLD)) (LAt.of_lst gD))
      have offz : ∀ {l : Addr} {vs : List Value}, LAt z₁.heap l vs → l ∉ [env.locals] := fun x => nm (lat_ne_ns x hnz)
      have cT4 := X14.cell (nm (Ne.symm nLT)) hcTz
      have cO4 := X14.cell (nm (Ne.symm nLO)) hcOz
      have loa4 := X14.lat (offz loa) loa
      have lLZ4 := X14.lat (offz lLZ) lLZ
      have kp4 : Kp hb z₄.heap := X14.kp kpz fun b hb' => w3n b (by rw [List.mem_singleton.mp hb']; simp)
      have mah : (fun y => if y = Str.ofString "ahead" then some (Value.ref D) else mz y) (Str.ofString "ahead") = some (.ref D) := if_pos rfl
      have hm4 : ∀ x, x ≠ Str.ofString "ahead" → (fun y => if y = Str.ofString "ahead" then some (Value.ref D) else mz y) x = mz x := fun x hx => if_neg hx
      generalize (fun y => if y = Str.ofString "ahead" then some (Value.ref D) else mz y) = m4 at ns4 mah hm4
      have hal : (((ps.filter fun p => decide (p.2 = t)).map (·.1)).length ≤ sizeLine) := by
        rw [List.length_map]
        have := List.length_filter_le (fun p : Str × Str => decide (p.2 = t)) ps
        have := hp.length
        omega
      have hokE : okT ps o t = (decide (t ∉ o) && (((ps.filter fun p => decide (p.2 = t)).map (·.1)).map fun k => decide (k ∈ o)).all id) := by
        unfold okT
        congr 1
        rw [Bool.eq_iff_iff, List.all_eq_true, List.all_eq_true]
        constructor
        · intro h x hx
          obtain ⟨k, hk1, rfl⟩ := List.mem_map.mp hx
          obtain ⟨p, hp1, rfl⟩ := List.mem_map.mp hk1
          obtain ⟨hp1, hp2⟩ := List.mem_filter.mp hp1
          have := h p hp1
          simp only [decide_eq_true_eq] at this hp2
          simpa using this hp2
        · intro h p hp1
          rw [decide_eq_true_eq]
          intro e
          have := h (decide (p.1 ∈ o)) (List.mem_map.mpr ⟨p.1, List.mem_map.mpr ⟨p, List.mem_filter.mpr ⟨hp1, by simpa using e⟩, rfl⟩, rfl⟩)
          simpa using this
      -- if task not in order and all(..)
      refine wpAny_execs_cons (wpAny_If (isTrue_and (wpAny_isTrue_Compare1 ((gives_cell hk k7 c2 cT4) _ _ ((gives_cell hk k6 c1 cO4) _ _ (notin_strs loa4 so (wpAny_truthy_bool ?_)))))))
      by_cases hto : t ∈ o
      · rw [decide_eq_false (by simpa using hto), if_neg (by decide), if_neg (by decide)]
        refine wpAny_execs_nil (wpAny_execs_nil ?_)
        refine hQ z₄ [] m4 (X14.mono (fun p hp => by rw [List.mem_singleton.mp hp]; simp)) ns4 hm4 (by rw [List.append_nil]; exact lLZ4) ?_ (fun a ha => absurd ha List.not_mem_nil)
        rw [hokE, decide_eq_false (by simpa using hto), Bool.false_and, if_neg (by decide)]
        exact .nil
      · rw [decide_eq_true hto, if_pos rfl]
        refine isTrue_and (isTrue_plain (Call_Name1 (name_builtin G kp4 hk hg hbl k10 n1 b1 (callWith_builtin rfl (evalArgs_plain (spliced_cons (in_comp (cY := cO) hhd hk rfl rfl (by decide) (by decide) (by decide) k6 c1 cO4 loa4 so (gives_local hk k11 ns4 mah) lD4 sas hal fun z₅ B X5 lB => spliced_nil ?_))))) rfl))
        refine all_list hhd lB (List.map_map ..).symm fun z₆ X6 => wpAny_truthy_bool ?_
        by_cases hall : (((ps.filter fun p => decide (p.2 = t)).map (·.1)).map fun k => decide (k ∈ o)).all id = true
        · rw [hall, if_pos rfl]
          refine isTrue_and_nil ?_
          rw [if_pos rfl]
          have X46 : Ext0 [] z₄ z₆ := X5.next X6 fun _ h => absurd h List.not_mem_nil
          have ns6' := X46.ns List.not_mem_nil ns4
          -- longer.append(order + [task])
          have lLZ6 := X46.lat List.not_mem_nil lLZ4
          have loa6 := X46.lat List.not_mem_nil loa4
          have cO6' := X46.cell List.not_mem_nil cO4
          have cT6' := X46.cell List.not_mem_nil cT4
          have hol : ows.length ≤ 10 := by rw [so.len_eq]; exact ho10
          refine wpAny_execs_cons (wpAny_Expr_any (append_ev2 rfl rfl rfl (gives_local hk k3 ns6' ((hm4 _ (by decide)).trans mlz)) lLZ6 (by omega) (wpAny_BinOp ((gives_cell hk k6 c1 cO6') _ _ (list_one ((gives_cell hk k7 c2 cT6') _ _ fun N z₇ X7 hN lN => add_lists (X7.lat List.not_mem_nil loa6) lN (by show ows.length + 1 ≤ _; omega) fun W z₈ X8 hW lW => ⟨X8.lat List.not_mem_nil (X7.lat List.not_mem_nil lLZ6), fun z₉ X9 lZ9 => wpAny_execs_nil (wpAny_execs_nil ?_)⟩) rfl)))) hi rfl)
          have X79 : Ext0 [LZ] z₆ z₉ := ((X7.e0.mono (fun _ h => absurd h List.not_mem_nil)).next X8.e0 (fun p hp => absurd hp List.not_mem_nil)).next X9.e0 (fun p hp => .inl hp)
          have nWL : W ≠ LZ := Ne.symm (Nat.ne_of_lt (Nat.lt_of_lt_of_le (X7.lat List.not_mem_nil lLZ6).lt hW))
          have nLZL : LZ ≠ env.locals := lat_ne_ns lLZ hnz
          refine hQ z₉ [.ref W] m4 ?_ (X79.ns (nm (Ne.symm nLZL)) ns6') hm4 lZ9 ?_ ?_
          · refine ((X14.next X46 (fun p hp => absurd hp List.not_mem_nil)).mono (fun p hp => by rw [List.mem_singleton.mp hp]; simp)).next X79 (fun p hp => .inl (by rw [List.mem_singleton.mp hp]; simp))
          · rw [hokE, decide_eq_true hto, hall, Bool.and_true, if_pos rfl]
            exact .cons ⟨W, _, rfl, X9.lat (nm nWL) lW, strs_snoc so t tk⟩ .nil
          · intro a ha
            rw [List.mem_singleton] at ha
            cases ha
            intro y oy ey
            have hWz : ∀ {y : Addr} {oy : Obj}, z₆.heap.get? y = some oy → y < W := fun e => Nat.lt_of_lt_of_le (Heap.lt_size (X7.keep _ _ List.not_mem_nil e)) hW
            by_cases hy : y = env.locals
            · obtain ⟨_, e, _⟩ := live_ns ns6'
              rw [hy]; exact hWz e
            · exact hWz ((X14.next X46 (fun p hp => absurd hp List.not_mem_nil)).keep _ _ (nm hy) ey)
        · have hall' : (((ps.filter fun p => decide (p.2 = t)).map (·.1)).map fun k => decide (k ∈ o)).all id = false := by simpa using hall
          rw [hall', if_neg (by decide), if_neg (by decide)]
          refine wpAny_execs_nil (wpAny_execs_nil ?_)
          have X46 : Ext0 [] z₄ z₆ := X5.next X6 fun _ h => absurd h List.not_mem_nil
          refine hQ z₆ [] m4 ((X14.next X46 (fun p hp => absurd hp List.not_mem_nil)).mono (fun p hp => by rw [List.mem_singleton.mp hp]; simp)) (X46.ns List.not_mem_nil ns4) hm4 (by rw [List.append_nil]; exact X46.lat List.not_mem_nil lLZ4) ?_ (fun a ha => absurd ha List.not_mem_nil)
          rw [hokE, hall', Bool.and_false, if_neg (by decide)]
          exact .nil
    have mm : ∀ x, x ≠ Str.ofString "ahead" → x ≠ Str.ofString "longer" → x ≠ Str.ofString "turn" → m11 x = m' x := fun x q1 q2 q3 => (hm11 x q1).trans ((if_neg q2).trans (if_neg q3))
    have ml11 : m11 (Str.ofString "longer") = some (.ref LG) := (hm11 _ (by decide)).trans (if_pos rfl)
    refine wpAny_execs_cons (wpAny_Assign_Name ((gives_local hk k3 ns11 ml11) _ _ (store_local k1 ns11 (fun s₁₂ X12 ns12 => wpAny_execs_nil ?_) hcls)))
    have nLGL : LG ≠ env.locals := lat_ne_ns lLG11 ns11
    obtain ⟨oI, eI, cI⟩ := hIl
    have nIl : ∀ {z : Addr}, z < s₆.heap.objs.size → I ≠ z := fun h => Ne.symm (Nat.ne_of_lt (Nat.lt_of_lt_of_le h hI))
    have nIL : I ≠ env.locals := nIl ns6.lt
    have nIT : I ≠ cT := nIl (Heap.lt_size eT)
    have nIO : I ≠ cO := nIl (Heap.lt_size eO)
    have eI8 := X8.keep _ _ (nm nIL) eI
    have nILG : I ≠ LG := Ne.symm (fresh9.ne eI8)
    have keepI : ∀ ob, s'.heap.get? I = some ob → s₁₂.heap.get? I = some ob := fun ob e => X12.keep _ _ (nm nIL) (X11.keep _ _ (by simp [nIL, nILG, nIT, nIO]) (X10.keep _ _ (nm nIL) (X9.keep _ _ List.not_mem_nil (X8.keep _ _ (nm nIL) e))))
    have hLGs : s₆.heap.objs.size ≤ LG := Nat.le_of_lt (Nat.lt_of_le_of_lt hI (fresh9 _ _ eI8))
    refine ⟨rfl, fun ob e _ => keepI ob e, by omega, LG, new, _, _, _, ?_, ns12, (if_neg (by decide)).trans ((mm _ (by decide) (by decide) (by decide)).trans mt'), (if_neg (by decide)).trans ((mm _ (by decide) (by decide) (by decide)).trans mp'), if_pos rfl, X12.cell (nm (Ne.symm nLT)) cT11, X12.cell (nm (Ne.symm nLO)) cO11, X12.lat (nm nLGL) lLG11, ?_, Ne.symm nILG, Nat.le_trans X06.size hLGs, ?_⟩
    · refine (X10'.next X11 (fun p hp => ?_)).next X12.e0 (fun p hp => .inl (by rw [List.mem_singleton.mp hp]; simp))
      simp only [List.mem_cons, List.not_mem_nil, or_false] at hp
      rcases hp with rfl | rfl | rfl | rfl
      · exact .inl (by simp)
      · exact .inr hLGs
      · exact .inl (by simp)
      · exact .inl (by simp)
    · exact ords_keep rel11 fun a ha ob e => X12.keep _ _ (nm (by obtain ⟨oL', eL', dL'⟩ := live_ns ns11; exact ords_off rel11 eL' dL' a ha)) e
    · intro a ha
      have eI11 := X11.keep _ _ (by simp [nIL, nILG, nIT, nIO]) (X10.keep _ _ (nm nIL) (X9.keep _ _ List.not_mem_nil eI8))
      exact ords_off rel11 eI11 (fun xs n q => by rw [q] at cI; simp at cI) a ha
  · rintro I s' s₇ hI ⟨hi', OL, ovs, m', vT', vO', X', ns', mt', mp', mo', cT', cO', lOL', rel', nOI, hOLs', fr'⟩ X
    have lo : ∀ {z : Addr} {ob : Obj}, s₆.heap.get? z = some ob → z ∉ [I] := fun e => by simpa using Nat.ne_of_lt (Nat.lt_of_lt_of_le (Heap.lt_size e) hI)
    have ns7 := X.ns (lo eL) ns'
    refine wpAny_execs_cons (wpAny_Return_some ((gives_local hk k1 ns7 mo') _ _ ?_))
    have X7 : Ext0 [] s s₇ := ((X06.e0.next X' w3)).next X (fun p hp => .inr (by rw [List.mem_singleton.mp hp]; exact Nat.le_trans X06.size hI))
    rw [htn] at rel'
    exact h s₇ OL ovs (X7.by hLs ns7.lt) hOLs' (X.lat (nm nOI) lOL') (ords_keep rel' fun a ha ob e => X.keep _ _ (nm (fr' a ha)) e)
end Mine
end

section
open PySem PySem.W PyProof.Rows PySem.Calls
set_option Elab.async false
set_option maxRecDepth 100000
namespace Mine
section
variable {prog : Program} {w : World} {A : Around} {E : Value → Shared → Prop} {s : Shared} {env : Env} {mg mb : Str → Option Value} {hb : Heap}
/-- a, b = l -/
theorem unpack_two {a b : Str} {pa pb tp : Pos} {kk : Nat} {l : Addr} {x y : Value} {m : Str → Option Value} {Q : Unit → Shared → Prop} (hh : A.handled = none) (hl : s.heap.IsList l #[x, y])
    (ha : env.kindOf a = some .local) (hb : env.kindOf b = some .local) (hp : (env.scope.kind == .class || (env.scope.kind == .module && env.locals != env.globals)) = false) (hn : s.heap.Ns env.locals m)
    (h : ∀ s', Ext0 [env.locals] s s' → s'.heap.Ns env.locals (fun z => if z = b then some y else if z = a then some x else m z) → Q () s') :
    wpAny (model prog w) A (assign (.Tuple [.Name a pa, .Name b pb] kk tp) env (.ref l)) Q E s := by
  rw [assign_Tuple]
  refine wpAny_bind (wpAny_standAt ?_)
  unfold unpack
  rw [show (assignEach [.Name a pa, .Name b pb] env).findIdx? (·.1) = none from rfl]
  show wpAny _ _ (holding _ (unpackItems (.ref l) (#[x, y] : Array Value).size none) >>= _) _ _ _
  refine wpAny_bind (wpAny_holding (kun_itemsOf hh hl fun h₁ he₁ => ?_))
  have hL : env.locals ≠ s.heap.objs.size := Nat.ne_of_lt hn.lt
  have hn₁ : h₁.Ns env.locals m := hn.at' fun o e => he₁ _ o hL e
  show wpAny _ _ (assignInOrder [assign (.Name a pa) env, assign (.Name b pb) env] [x, y]) _ _ _
  refine assignInOrder_cons ?_
  refine wpAny_assign_Name (wpAny_storeName_local ha hn₁ (fun h₂ hn₂ hs₂ => ?_) hp)
  refine assignInOrder_cons ?_
  refine wpAny_assign_Name (wpAny_storeName_local hb hn₂ (fun h₃ hn₃ hs₃ => ?_) hp)
  refine assignInOrder_nil ?_
  refine h _ ⟨fun c o hc e => ?_, rfl, id⟩ hn₃
  have hc' : c ≠ env.locals := by simpa using hc
  exact hs₃.extBut c o hc' (hs₂.extBut c o hc' (he₁ c o (Nat.ne_of_lt (Heap.lt_size e)) e))
theorem addI {a b : Int} {t u : Tok} {Q : Value → Shared → Prop} (h : ∀ t s', Ext [] s s' → Q (.int (a + b) t) s') : wpAny (model prog w) A (binaryOp .Add (.int a t) (.int b u)) Q E s := PyProof.Rows.add_int (h _ _ Ext.tok)
theorem subI {a b : Int} {t u : Tok} {Q : Value → Shared → Prop} (h : ∀ t s', Ext [] s s' → Q (.int (a - b) t) s') : wpAny (model prog w) A (binaryOp .Sub (.int a t) (.int b u)) Q E s := PyProof.Rows.sub_int (h _ _ Ext.tok)
theorem mulI {a b : Int} {t u : Tok} {Q : Value → Shared → Prop} (hm : IntMulOk a b) (h : ∀ t s', Ext [] s s' → Q (.int (a * b) t) s') : wpAny (model prog w) A (binaryOp .Mult (.int a t) (.int b u)) Q E s := PyProof.Rows.mul_int (h _ _ Ext.tok) hm
theorem modI {a b : Int} {t u : Tok} {Q : Value → Shared → Prop} (hb : b ≠ 0) (h : ∀ t s', Ext [] s s' → Q (.int (a.fmod b) t) s') : wpAny (model prog w) A (binaryOp .Mod (.int a t) (.int b u)) Q E s := PyProof.Rows.mod_int hb (h _ _ Ext.tok)
theorem fdivI {a b : Int} {t u : Tok} {Q : Value → Shared → Prop} (hb : b ≠ 0) (hs : b.natAbs < 1073741824) (h : ∀ t s', Ext [] s s' → Q (.int (a.fdiv b) t) s') : wpAny (model prog w) A (binaryOp .FloorDiv (.int a t) (.int b u)) Q E s := PyProof.Rows.floordiv_int hb (h _ _ Ext.tok) (.inl (PyProof.noPylong_small hs))
/-- l[i] = v on a list of two, i = 1 -/
theorem set_one {l : Addr} {x y v : Value} {t : Tok} {Q : Unit → Shared → Prop} (hl : s.heap.IsList l #[x, y]) (h : ∀ s', Ext [l] s s' → s'.heap.IsList l #[x, v] → Q () s') : wpAny (model prog w) A (setItem (.ref l) (.int 1 t) v) Q E s :=
  wpAny_setItem_list hl (by decide) (by decide) (by show (1 : Int) < 2; decide) fun h' hl' hs => h _ (Ext.same (tk := s.toks) hs) hl'
theorem mulOk_small {a b : Int} (ha : a.natAbs < 2 ^ 64) : IntMulOk a b := IntMulOk.of_left (intBits_le_iff.mpr ha)
end
theorem fmod_range {a m : Int} (h : 0 < m) : 0 ≤ a.fmod m ∧ a.fmod m < m := ⟨Int.fmod_nonneg_of_pos _ h, Int.fmod_lt_of_pos _ h⟩
theorem next_contract {w : World} {A : Around} {s : Shared} {mg mb : Str → Option Value} {R : Result → Shared → Prop} {hb : Heap} {hand S : Addr} {ws : List Value} {xs : List Int} {k many : Int} {tk tm : Tok}
    (G : Gb mg mb hb) (KX : (hd.heap_39 w.params).In hb) (kp : Kp hb s.heap) (hh : A.handled = none) (hroom : A.depth + 20 < recursionLimit)
    (n2 : mg (Str.ofString "len") = none) (n3 : mg (Str.ofString "int") = none)
    (b2 : mb (Str.ofString "len") = some (.builtin "len")) (b3 : mb (Str.ofString "int") = some (.type "int"))
    (hhand : s.heap.IsList hand #[.ref S, .int k tk]) (hS : s.heap.IsList S ws.toArray) (hxs : IntsAre ws xs) (h40 : xs.length ≤ 40) (hk0 : 0 ≤ k) (hk1 : k ≤ 1000) (hmany : 0 < many) (hne : S ≠ hand) (hbn : hb.get? hand = none)
    (h : ∀ s' r t t', Ext [hand] s s' → 0 ≤ r → r < many → s'.heap.IsList hand #[.ref S, .int (k + 1) t'] → R (.ok (.ret (.int r t))) s') :
    codeAny (model PySem.Challenge.rw_ke0029_01.row.prog w) A (.call (.ref 26) ⟨[.ref hand, .int many tm], []⟩) R s := by
  have hhl : hand < s.heap.objs.size := let ⟨_, e, _⟩ := hhand; Heap.lt_size e
  have hSl : S < s.heap.objs.size := let ⟨_, e, _⟩ := hS; Heap.lt_size e
  refine enter_cells (s := s) ((G.keeps kp).lim) ((KX.keeps kp) 26 _ rfl) rfl (codeRec_of (KX.keeps kp) rfl) (by omega) (BindsTo.of_eq rfl) (by rfl) fun h₁ tk1 hns hcell hk₁ => ?_
  obtain ⟨m, hns, m1, m2⟩ : ∃ m, h₁.Ns s.heap.objs.size m ∧ m (Str.ofString "hand") = some (.ref hand) ∧ m (Str.ofString "many") = some (.int many tm) := ⟨_, hns, rfl, rfl⟩
  clear hcell
  generalize hE : envOfC _ _ _ _ _ = env at ⊢
  have hk : env.scope.kind = .function := by rw [← hE]; rfl
  have hg : env.globals = mainGlobals := by rw [← hE]; rfl
  have hbl : env.builtins = builtinsNs := by rw [← hE]; rfl
  have hloc : env.locals = s.heap.objs.size := by rw [← hE]; rfl
  have k1 : env.kindOf (Str.ofString "hand") = some .local := by rw [← hE]; rfl
  have k2 : env.kindOf (Str.ofString "many") = some .local := by rw [← hE]; rfl
  have k3 : env.kindOf (Str.ofString "script") = some .local := by rw [← hE]; rfl
  have k4 : env.kindOf (Str.ofString "k") = some .local := by rw [← hE]; rfl
  have k5 : env.kindOf (Str.ofString "n") = some .local := by rw [← hE]; rfl
  have k8 : env.kindOf (Str.ofString "len") = some .globalImplicit := by rw [← hE]; rfl
  have k9 : env.kindOf (Str.ofString "int") = some .globalImplicit := by rw [← hE]; rfl
  have hcls : (env.scope.kind == .class || (env.scope.kind == .module && env.locals != env.globals)) = false := by rw [hk]; rfl
  clear hE
  have hhd : (A.deeper env).handled = none := hh
  have X0 : Ext [] s { s with heap := h₁, toks := tk1 } := Ext.kp' hk₁ (Nat.le_of_lt hns.lt)
  have hns' : ({ s with heap := h₁, toks := tk1 } : Shared).heap.Ns env.locals m := by rw [hloc]; exact hns
  clear hns
  generalize hs1 : ({ s with heap := h₁, toks := tk1 } : Shared) = s₁ at X0 hns' ⊢
  clear hs1 hk₁
  have hLs : s.heap.objs.size ≤ env.locals := Nat.le_of_eq hloc.symm
  have nLh : hand ≠ env.locals := Nat.ne_of_lt (Nat.lt_of_lt_of_le hhl hLs)
  have nLS : S ≠ env.locals := Nat.ne_of_lt (Nat.lt_of_lt_of_le hSl hLs)
  have nm : ∀ {x y : Addr}, x ≠ y → x ∉ [y] := fun h => by simpa using h
  have il : ∀ {s₁ s₂ : Shared} {wr : List Addr} {l : Addr} {vs : Array Value}, Ext0 wr s₁ s₂ → l ∉ wr → s₁.heap.IsList l vs → s₂.heap.IsList l vs := fun X hl ⟨o, e, r⟩ => ⟨o, X.keep _ _ hl e, r⟩
  -- script, k = hand
  refine wpAny_execs_cons (Assign_Tuple ((gives_local hk k1 hns' m1) _ _ (unpack_two hhd (il X0.e0 List.not_mem_nil hhand) k3 k4 hcls hns' fun s₂ X2 ns2 => ?_)))
  have X02 : Ext0 [] s s₂ := X0.e0.next X2 (fun p hp => .inr (by rw [List.mem_singleton.mp hp]; exact hLs))
  have hh2 := il X02 List.not_mem_nil hhand
  have hS2 := il X02 List.not_mem_nil hS
  have m2h : (fun z => if z = Str.ofString "k" then some (Value.int k tk) else if z = Str.ofString "script" then some (Value.ref S) else m z) (Str.ofString "hand") = some (.ref hand) := (if_neg (by decide)).trans ((if_neg (by decide)).trans m1)
  have m2m : (fun z => if z = Str.ofString "k" then some (Value.int k tk) else if z = Str.ofString "script" then some (Value.ref S) else m z) (Str.ofString "many") = some (.int many tm) := (if_neg (by decide)).trans ((if_neg (by decide)).trans m2)
  have m2s : (fun z => if z = Str.ofString "k" then some (Value.int k tk) else if z = Str.ofString "script" then some (Value.ref S) else m z) (Str.ofString "script") = some (.ref S) := (if_neg (by decide)).trans (if_pos rfl)
  have m2k : (fun z => if z = Str.ofString "k" then some (Value.int k tk) else if z = Str.ofString "script" then some (Value.ref S) else m z) (Str.ofString "k") = some (.int k tk) := if_pos rfl
  generalize (fun z => if z = Str.ofString "k" then some (Value.int k tk) else if z = Str.ofString "script" then some (Value.ref S) else m z) = m' at ns2 m2h m2m m2s m2k
  -- hand[1] = k + 1
  refine wpAny_execs_cons (wpAny_Assign_Subscript (wpAny_BinOp ((gives_local hk k4 ns2 m2k) _ _ (const_int fun t3 s₃ X3 => addI fun t4 s₄ X4 => (gives_local hk k1 (X4.ns List.not_mem_nil (X3.ns List.not_mem_nil ns2)) m2h) _ _ (const_int fun t5 s₅ X5 => set_one (il ((X3.trans X4).trans X5).e0 List.not_mem_nil hh2) fun s₆ X6 hh6 => ?_)))))
  have X25 : Ext [] s₂ s₅ := (X3.trans X4).trans X5
  have X06 : Ext0 [hand] s s₆ := ((X02.next X25.e0 (fun p hp => absurd hp List.not_mem_nil)).mono (fun _ h => absurd h List.not_mem_nil)).next X6.e0 (fun p hp => .inl hp)
  have ns6 := X6.ns (nm (Ne.symm nLh)) (X25.ns List.not_mem_nil ns2)
  have hS6 := il X06 (nm hne) hS
  have kp6 : Kp hb s₆.heap := X06.kp kp fun b hb' => by rw [List.mem_singleton.mp hb']; exact hbn
  have hws : ws.length = xs.length := hxs.length
  -- n = len(script)
  refine wpAny_execs_cons (wpAny_Assign_Name (call_one G kp6 hk hg hbl k8 n2 b2 (gives_local hk k3 ns6 m2s) (call_len_list hS6 (by simp only [List.size_toArray]; omega) ?_) rfl))
  have X7 : Ext [] s₆ { s₆ with toks := s₆.toks + 1 + 1 } := Ext.tok
  generalize ({ s₆ with toks := s₆.toks + 1 + 1 } : Shared) = s₇ at X7 ⊢
  generalize s₆.toks + 1 = t7
  refine store_local k5 (X7.ns List.not_mem_nil ns6) (fun s₈ X8 ns8 => ?_) hcls
  have X08 : Ext0 [hand] s s₈ := (X06.next X7.e0 (fun p hp => absurd hp List.not_mem_nil)).next X8.e0 (fun p hp => .inr (by rw [List.mem_singleton.mp hp]; exact hLs))
  have hh8 := il X8.e0 (nm nLh) (il X7.e0 List.not_mem_nil hh6)
  have hS8 := il X08 (nm hne) hS
  have kp8 : Kp hb s₈.heap := X08.kp kp fun b hb' => by rw [List.mem_singleton.mp hb']; exact hbn
  have m8n : (fun y => if y = Str.ofString "n" then some (Value.int (ws.toArray.size : Nat) t7) else m' y) (Str.ofString "n") = some (.int (ws.toArray.size : Nat) t7) := if_pos rfl
  have m8k : (fun y => if y = Str.ofString "n" then some (Value.int (ws.toArray.size : Nat) t7) else m' y) (Str.ofString "k") = some (.int k tk) := (if_neg (by decide)).trans m2k
  have m8m : (fun y => if y = Str.ofString "n" then some (Value.int (ws.toArray.size : Nat) t7) else m' y) (Str.ofString "many") = some (.int many tm) := (if_neg (by decide)).trans m2m
  have m8s : (fun y => if y = Str.ofString "n" then some (Value.int (ws.toArray.size : Nat) t7) else m' y) (Str.ofString "script") = some (.ref S) := (if_neg (by decide)).trans m2s
  generalize (fun y => if y = Str.ofString "n" then some (Value.int (ws.toArray.size : Nat) t7) else m' y) = m8 at ns8 m8n m8k m8m m8s
  rw [show ws.toArray.size = xs.length by simp [hws]] at m8n
  have fin : ∀ s' r t, Ext [] s₈ s' → 0 ≤ r → r < many → R (.ok (.ret (.int r t))) s' := fun s' r t X h0 h1 =>
    h s' r t _ ((X08.next X.e0 (fun p hp => absurd hp List.not_mem_nil)).by hLs (X.ns List.not_mem_nil ns8).lt) h0 h1 (il X.e0 List.not_mem_nil hh8)
  -- if n == 0
  refine wpAny_execs_cons (wpAny_If (wpAny_isTrue_Compare1 ((gives_local hk k5 ns8 m8n) _ _ (const_int fun t9 s₉ X9 => PyProof.Rows.eq_int (wpAny_truthy_bool ?_)))))
  have ns9 := X9.ns List.not_mem_nil ns8
  have hmn : many ≠ 0 := by omega
  by_cases hn0 : xs.length = 0
  · rw [hn0]
    rw [if_pos (by decide)]
    refine wpAny_execs_cons (wpAny_Return_some (wpAny_BinOp (wpAny_BinOp (wpAny_BinOp (const_int fun t10 s₁₀ X10 => ?_)))))
    refine (gives_local hk k4 (X10.ns List.not_mem_nil ns9) m8k) _ _ (mulI (mulOk_small (by decide)) fun t11 s₁₁ X11 => const_int fun t12 s₁₂ X12 => addI fun t13 s₁₃ X13 => ?_)
    refine (gives_local hk k2 (X13.ns List.not_mem_nil (X12.ns List.not_mem_nil (X11.ns List.not_mem_nil (X10.ns List.not_mem_nil ns9)))) m8m) _ _ (modI hmn fun t14 s₁₄ X14 => ?_)
    exact fin _ _ _ (((((X9.trans X10).trans X11).trans X12).trans X13).trans X14) (fmod_range hmany).1 (fmod_range hmany).2
  · have hnp : 0 < (xs.length : Int) := by omega
    have e0 : ((xs.length : Int) == 0) = false := by simp only [beq_eq_false_iff_ne, ne_eq]; omega
    rw [e0, if_neg (by decide)]
    refine wpAny_execs_nil ?_
    have kp9 : Kp hb s₉.heap := X9.kp kp8 fun b hb' => absurd hb' List.not_mem_nil
    obtain ⟨r0, r1⟩ := fmod_range (a := k) hnp
    obtain ⟨j, hj⟩ : ∃ j : Nat, k.fmod xs.length = j := ⟨(k.fmod xs.length).toNat, by omega⟩
    have hjl : j < xs.length := by omega
    obtain ⟨u, hu⟩ := hxs.get j xs[j] (List.getElem?_eq_getElem hjl)
    refine wpAny_execs_cons (wpAny_Return_some (wpAny_BinOp (wpAny_BinOp ?_)))
    refine Call_Name1 (name_builtin G kp9 hk hg hbl k9 n3 b3 (PySem.callWith_type1 (Subscript_ ((gives_local hk k3 ns9 m8s) _ _ (wpAny_BinOp ((gives_local hk k4 ns9 m8k) _ _ ((gives_local hk k5 ns9 m8n) _ _ (modI (by omega) fun t10 s₁₀ X10 => ?_)))))))) rfl
    have hS10 := il X10.e0 List.not_mem_nil (il X9.e0 List.not_mem_nil hS8)
    refine subscriptTail_builtin hS10.typeIs F.slot_list_getitem.lookup (getItem_listL hS10 r0 (by omega) (x := .int xs[j] u) (by rw [hj]; exact hu) (PySem.call_int_int ?_))
    have ns10 := X10.ns List.not_mem_nil ns9
    refine wpAny_BinOp (wpAny_BinOp (const_int fun t11 s₁₁ X11 => ?_))
    have ns11 := X11.ns List.not_mem_nil ns10
    refine (gives_local hk k4 ns11 m8k) _ _ (mulI (mulOk_small (by decide)) fun t12 s₁₂ X12 => ?_)
    have ns12 := X12.ns List.not_mem_nil ns11
    refine wpAny_BinOp ((gives_local hk k4 ns12 m8k) _ _ ((gives_local hk k5 ns12 m8n) _ _ (fdivI (by omega) (by omega) fun t13 s₁₃ X13 => mulI (mulOk_small (by omega)) fun t14 s₁₄ X14 => addI fun t15 s₁₅ X15 => ?_)))
    have ns15 := X15.ns List.not_mem_nil (X14.ns List.not_mem_nil (X13.ns List.not_mem_nil ns12))
    refine (gives_local hk k2 ns15 m8m) _ _ (modI hmn fun t16 s₁₆ X16 => ?_)
    exact fin _ _ _ (((((((X9.trans X10).trans X11).trans X12).trans X13).trans X14).trans X15).trans X16) (fmod_range hmany).1 (fmod_range hmany).2
end Mine
end

section
open PySem PySem.W PyProof.Rows PySem.Calls
set_option Elab.async false
set_option maxRecDepth 100000
namespace Mine
section
variable {prog : Program} {w : World} {A : Around} {E : Value → Shared → Prop} {s : Shared} {env : Env} {mg mb : Str → Option Value} {hb : Heap}
/-- f(e₁, e₂) of a function of the module -/
theorem call_fn2 {x : Str} {p pos : Pos} {e₁ e₂ : Expr} {f : Addr} {o : Obj} {fd : FuncData} {v₁ : Value} {P : Value → Prop} {Q : Value → Shared → Prop} (G : Gb mg mb hb) (kp : Kp hb s.heap) (hk : env.scope.kind = .function) (hg : env.globals = mainGlobals)
    (hx : env.kindOf x = some .globalImplicit) (h1 : mg x = some (.ref f)) (ho : hb.get? f = some o) (hd : o.data = .func fd) (he1 : Gives prog w A env e₁ s v₁)
    (he2 : ∀ (Q' : Value → Shared → Prop) E', (∀ v s', P v → Ext [] s s' → Q' v s') → wpAny (model prog w) A (eval e₂ env) Q' E' s)
    (h : ∀ v s', P v → Ext [] s s' → codeAny (model prog w) A (.call (.ref f) ⟨[v₁, v], []⟩) (fun r s'' => match r with | .ok (.ret v) => Q v s'' | .ok _ => False | .error e => E e s'') s')
    (hs : starEach [e₁, e₂] env = [(false, eval e₁ env), (false, eval e₂ env)]) (hdb : (x == ("__debug__" : Str)) = false := by decide) : wpAny (model prog w) A (eval (.Call (.Name x p) [e₁, e₂] [] pos) env) Q E s :=
  Call_Name2 (Name_function_global hk hx (loadGlobal_global (by rw [hg]; exact G.g.keeps kp) h1 (callWith_function (o := o) (fd := fd) (evalArgs_plain (spliced_cons (he1 _ _ (spliced_cons (he2 _ _ fun v s' hP X => spliced_nil ⟨⟨X.keep _ _ List.not_mem_nil (kp _ _ ho), hd⟩, wpAny_call (h v s' hP X)⟩))))))) hdb) hs
end
/-- what stands fast while the law runs -/
structure LC (w : World) (A : Around) (env : Env) (mg mb : Str → Option Value) (hb : Heap) (hand S : Addr) (ws : List Value) (xs : List Int) : Prop where
  G : Gb mg mb hb
  KX : (hd.heap_39 w.params).In hb
  hh : A.handled = none
  hroom : A.depth + 40 < recursionLimit
  hu : A.units + 40 < cLine
  hk : env.scope.kind = .function
  hg : env.globals = mainGlobals
  hbl : env.builtins = builtinsNs
  hcls : (env.scope.kind == .class || (env.scope.kind == .module && env.locals != env.globals)) = false
  hi : interactive env = false
  kn : env.kindOf (Str.ofString "_law_next") = some .globalImplicit
  kl : env.kindOf (Str.ofString "len") = some .globalImplicit
  kh : env.kindOf (Str.ofString "hand") = some .local
  gn : mg (Str.ofString "_law_next") = some (.ref 26)
  n2 : mg (Str.ofString "len") = none
  n3 : mg (Str.ofString "int") = none
  b2 : mb (Str.ofString "len") = some (.builtin "len")
  b3 : mb (Str.ofString "int") = some (.type "int")
  hxs : IntsAre ws xs
  h40 : xs.length ≤ 40
  hne : S ≠ hand
  hbn : hb.get? hand = none
/-- what the law's own frame and hand are -/
structure LS (sb : Shared) (env : Env) (hb : Heap) (hand S : Addr) (ws : List Value) (k : Int) (m : Str → Option Value) (s : Shared) : Prop where
  ns : s.heap.Ns env.locals m
  mh : m (Str.ofString "hand") = some (.ref hand)
  hand : ∃ t, s.heap.IsList hand #[.ref S, .int k t]
  scr : s.heap.IsList S ws.toArray
  kp : Kp hb s.heap
  k0 : 0 ≤ k
  t16 : s.heap.get? 16 = some (tabObj #[])
  os : s.os = sb.os
  bare : AllBare s.gens
section
variable {w : World} {A : Around} {E : Value → Shared → Prop} {s : Shared} {env : Env} {mg mb : Str → Option Value} {hb : Heap} {hand S : Addr} {ws : List Value} {xs : List Int} {k : Int} {m : Str → Option Value} {sb : Shared}
theorem il {s₁ s₂ : Shared} {wr : List Addr} {l : Addr} {vs : Array Value} (X : Ext0 wr s₁ s₂) (hl : l ∉ wr) (h : s₁.heap.IsList l vs) : s₂.heap.IsList l vs := let ⟨o, e, r⟩ := h; ⟨o, X.keep _ _ hl e, r⟩
/-- a step that leaves hand, frame and ground alone -/
theorem LS.go {s' : Shared} {wr : List Addr} (L : LS sb env hb hand S ws k m s) (X : Ext0 wr s s') (h1 : env.locals ∉ wr) (h2 : hand ∉ wr) (h3 : S ∉ wr) (h4 : ∀ b ∈ wr, hb.get? b = none) (h5 : 16 ∉ wr) : LS sb env hb hand S ws k m s' :=
  ⟨X.ns h1 L.ns, L.mh, L.hand.imp fun _ h => il X h2 h, il X h3 L.scr, X.kp L.kp h4, L.k0, X.keep _ _ h5 L.t16, X.os.trans L.os, X.bare L.bare⟩
theorem LS.go0 {s' : Shared} (L : LS sb env hb hand S ws k m s) (X : Ext0 [] s s') : LS sb env hb hand S ws k m s' := L.go X List.not_mem_nil List.not_mem_nil List.not_mem_nil (fun _ h => absurd h List.not_mem_nil) List.not_mem_nil
theorem LS.hL (L : LS sb env hb hand S ws k m s) : hand ≠ env.locals := fun q => by
  obtain ⟨t, o, e, c, n, d⟩ := L.hand
  obtain ⟨o2, es, ep, e2, d2, _⟩ := L.ns
  rw [q, e2] at e; cases e; rw [d2] at d; cases d
theorem LS.SL (L : LS sb env hb hand S ws k m s) : S ≠ env.locals := fun q => by
  obtain ⟨o, e, c, n, d⟩ := L.scr
  obtain ⟨o2, es, ep, e2, d2, _⟩ := L.ns
  rw [q, e2] at e; cases e; rw [d2] at d; cases d
theorem LS.tL (L : LS sb env hb hand S ws k m s) : 16 ≠ env.locals := fun q => by
  obtain ⟨o2, es, ep, e2, d2, _⟩ := L.ns
  have e := L.t16
  rw [q, e2] at e; cases e; cases d2
theorem LS.tH (L : LS sb env hb hand S ws k m s) : 16 ≠ hand := fun q => by
  obtain ⟨t, o, e, c, n, d⟩ := L.hand
  have e2 := L.t16
  rw [q, e] at e2; cases e2; cases c
theorem LS.tA (L : LS sb env hb hand S ws k m s) {l : Addr} {vs : List Value} (x : LAt s.heap l vs) : 16 ≠ l := fun q => by
  obtain ⟨n, e⟩ := x
  have e2 := L.t16
  rw [q] at e2
  have e3 := e2.symm.trans e
  cases e3
/-- a store into the frame -/
theorem LS.loc {s' : Shared} {m' : Str → Option Value} (L : LS sb env hb hand S ws k m s) (X : Ext [env.locals] s s') (hn : s'.heap.Ns env.locals m') (hm : m' (Str.ofString "hand") = m (Str.ofString "hand")) (hbl : hb.get? env.locals = none) : LS sb env hb hand S ws k m' s' :=
  ⟨hn, hm.trans L.mh, L.hand.imp fun _ h => il X.e0 (by simpa using L.hL) h, il X.e0 (by simpa using L.SL) L.scr, X.kp L.kp (fun b hb' => by rw [List.mem_singleton.mp hb']; exact hbl), L.k0, X.keep _ _ (by simpa using L.tL) L.t16, X.os.trans L.os, X.bare L.bare⟩
/-- _law_next(hand, e₂) -/
theorem next_ev {p p1 pos : Pos} {e₂ : Expr} {many : Int} {Q : Value → Shared → Prop} (C : LC w A env mg mb hb hand S ws xs) (L : LS sb env hb hand S ws k m s) (hk1 : k ≤ 1000)
    (he₂ : ∀ (Q' : Value → Shared → Prop) E', (∀ t s', Ext [] s s' → Q' (.int many t) s') → wpAny (model PySem.Challenge.rw_ke0029_01.row.prog w) A (eval e₂ env) Q' E' s) (hmany : 0 < many)
    (hs : starEach [.Name (Str.ofString "hand") p1, e₂] env = [(false, eval (.Name (Str.ofString "hand") p1) env), (false, eval e₂ env)])
    (h : ∀ s' r t, Ext [hand] s s' → 0 ≤ r → r < many → LS sb env hb hand S ws (k + 1) m s' → Q (.int r t) s') :
    wpAny (model PySem.Challenge.rw_ke0029_01.row.prog w) A (eval (.Call (.Name (Str.ofString "_law_next") p) [.Name (Str.ofString "hand") p1, e₂] [] pos) env) Q E s := by
  refine call_fn2 (P := fun v => ∃ t, v = .int many t) C.G L.kp C.hk C.hg C.kn C.gn (C.KX 26 _ rfl) rfl (gives_local C.hk C.kh L.ns L.mh) (fun Q' E' hq => he₂ Q' E' fun t s' X => hq _ s' ⟨t, rfl⟩ X) (fun v s₁ hP X => ?_) hs
  obtain ⟨tm, rfl⟩ := hP
  have L1 := L.go0 X.e0
  obtain ⟨tk, hh1⟩ := L1.hand
  refine next_contract C.G C.KX L1.kp C.hh (by have := C.hroom; omega) C.n2 C.n3 C.b2 C.b3 hh1 L1.scr C.hxs C.h40 L.k0 hk1 hmany C.hne C.hbn fun s' r t t' X2 h0 h1 hh2 => ?_
  have X2' : Ext [hand] s s' := (X.mono (fun _ h => absurd h List.not_mem_nil)).trans X2
  have nh : env.locals ∉ [hand] := by simpa using Ne.symm L.hL
  refine h s' r t X2' h0 h1 ⟨X2'.ns nh L.ns, L.mh, ⟨t', hh2⟩, il X2'.e0 (by simpa using C.hne) L.scr, X2'.kp L.kp (fun b hb' => by rw [List.mem_singleton.mp hb']; exact C.hbn), (by have := L.k0; omega), X2'.keep _ _ (by simpa using L.tH) L.t16, X2'.os.trans L.os, X2'.bare L.bare⟩
end
end Mine
end

section
open PySem PySem.W PyProof.Rows PySem.Calls
set_option Elab.async false
set_option maxRecDepth 100000
namespace Mine
section
variable {prog : Program} {w : World} {A : Around} {E : Value → Shared → Prop} {s : Shared} {env : Env} {mg mb : Str → Option Value} {hb : Heap}
/-- list(e) -/
theorem listc_ev {x : Str} {p pos : Pos} {e : Expr} {l : Addr} {vs : List Value} {Q : Value → Shared → Prop} (G : Gb mg mb hb) (kp : Kp hb s.heap) (hk : env.scope.kind = .function) (hg : env.globals = mainGlobals) (hbl : env.builtins = builtinsNs)
    (hx : env.kindOf x = some .globalImplicit) (h1 : mg x = none) (h2 : mb x = some (.type "list")) (he : Gives prog w A env e s (.ref l)) (hl : LAt s.heap l vs) (hz : vs.length ≤ sizeLine)
    (h : ∀ D s', Ext [] s s' → s.heap.objs.size ≤ D → LAt s'.heap D vs → Q (.ref D) s') (hs : starEach [e] env = [(false, eval e env)]) (hd : (x == ("__debug__" : Str)) = false := by decide) : wpAny (model prog w) A (eval (.Call (.Name x p) [e] [] pos) env) Q E s := by
  obtain ⟨n, el⟩ := hl
  refine call_oneT G kp hk hg hbl hx h1 h2 he (call_list_seq l (.inl rfl) el rfl rfl (fun h' c' k e2 => ?_) (by simpa using hz)) hs hd
  exact h _ _ (Ext.kp' (tk := s.toks) k (Nat.le_of_lt (Heap.lt_size e2))) (Nat.le_refl _) ⟨c', e2⟩
/-- o.pop(e) -/
theorem pop_ev {o e : Expr} {apos pos : Pos} {l : Addr} {vs : List Value} {Q : Value → Shared → Prop} (hbase : attributeBase o "pop" env (eval o env) = eval o env) (hs : starEach [e] env = [(false, eval e env)]) (hline : (apos.endLine == pos.line) = true)
    (ho : Gives prog w A env o s (.ref l)) (hl : LAt s.heap l vs) (hz : vs.length ≤ 1000)
    (he : wpAny (model prog w) A (eval e env) (fun v s₁ => ∃ (i : Nat) (t : Tok) (y : Value), v = .int i t ∧ LAt s₁.heap l vs ∧ vs[i]? = some y ∧ ∀ s', Ext [l] s₁ s' → LAt s'.heap l (vs.eraseIdx i) → Q y s') E s) : wpAny (model prog w) A (eval (.Call (.Attribute o "pop" apos) [e] [] pos) env) Q E s := by
  refine meth1 hbase hs hline F.plainAttrs_list F.slot_list_pop F.type_list_pop ho hl.typ hl.noDict fun _ => ?_
  refine P.pop_at_list (prog := prog) (w := w) ?_
  refine wpAny_mono he (fun v s₁ hv => ?_) fun _ _ e => e
  obtain ⟨i, t, y, rfl, ⟨n, el⟩, hy, h⟩ := hv
  have hil : i < vs.length := (List.getElem?_eq_some_iff.mp hy).1
  have hu := IsL.update el (fun xs => xs.eraseIdxIfInBounds i)
  have e1 : (vs.toArray.eraseIdxIfInBounds i) = (vs.eraseIdx i).toArray := by
    simp
  have hsl : sizeLine = 2 ^ 24 := rfl
  refine ⟨vs.toArray, n, i, t, i, y, by simp only [List.size_toArray]; omega, rfl, el, ?_, ?_, by simpa using hy, ?_⟩
  · unfold Builtin.List.listFitsIndex
    simp
    omega
  · unfold seqIndex?
    simp
    omega
  · refine h _ (Ext.same (tk := s₁.toks) (Heap.SameBut.update ..)) ?_
    show ∃ c, IsL _ l _ c
    rw [← e1]
    exact ⟨_, hu⟩
/-- o.insert(e₁, e₂) -/
theorem insert_ev {o e₁ e₂ : Expr} {apos pos : Pos} {l : Addr} {vs : List Value} {Q : Value → Shared → Prop} (hbase : attributeBase o "insert" env (eval o env) = eval o env) (hs : starEach [e₁, e₂] env = [(false, eval e₁ env), (false, eval e₂ env)]) (hline : (apos.endLine == pos.line) = true)
    (ho : Gives prog w A env o s (.ref l)) (hl : LAt s.heap l vs) (hz : vs.length ≤ 1000)
    (he : wpAny (model prog w) A (eval e₁ env) (fun v₁ s₁ => wpAny (model prog w) A (eval e₂ env) (fun v₂ s₂ => ∃ (x : Int) (t : Tok), v₁ = .int x t ∧ LAt s₂.heap l vs ∧ 0 ≤ x ∧ x.toNat ≤ vs.length ∧ ∀ s', Ext [l] s₂ s' → LAt s'.heap l (vs.take x.toNat ++ v₂ :: vs.drop x.toNat) → Q .none s') E s₁) E s) : wpAny (model prog w) A (eval (.Call (.Attribute o "insert" apos) [e₁, e₂] [] pos) env) Q E s := by
  refine Call_method2 hbase hs hline (ho _ _ ⟨"list", "list.insert", F.plainAttrs_list, F.slot_list_insert, F.type_list_insert, hl.typ, hl.noDict, ?_⟩)
  refine callWith_builtin rfl (evalArgs_plain (spliced_cons (wpAny_mono he (fun v₁ s₁ h₁ => spliced_cons (wpAny_mono h₁ (fun v₂ s₂ h₂ => spliced_nil ?_) fun _ _ e => e)) fun _ _ e => e)))
  obtain ⟨x, t, rfl, ⟨n, el⟩, hx0, hx, h⟩ := h₂
  have hsl : sizeLine = 2 ^ 24 := rfl
  have hfit : Builtin.List.listFitsIndex x = true := by
    unfold Builtin.List.listFitsIndex
    simp
    omega
  have hc0 : ¬ (!Builtin.List.listFitsIndex x) = true := by rw [hfit]; exact Bool.false_ne_true
  have hsz0 : vs.toArray.size ≤ sizeLine := by simp only [List.size_toArray]; omega
  have hmeet := AutoListH.list_insert_list_int_val_1 l vs.toArray n x t v₂ hc0 hsz0
  have hu := IsL.update el (fun xs => have k := if x < 0 then (x + ((xs.size : Nat) : Int)).toNat else min x.toNat xs.size; (xs.extract 0 k).push v₂ ++ xs.extract k)
  have hk : (if x < 0 then (x + ((vs.toArray.size : Nat) : Int)).toNat else min x.toNat vs.toArray.size) = x.toNat := by
    rw [if_neg (by omega)]
    simp only [List.size_toArray]
    omega
  have e1 : (fun xs : Array Value => have k := if x < 0 then (x + ((xs.size : Nat) : Int)).toNat else min x.toNat xs.size; (xs.extract 0 k).push v₂ ++ xs.extract k) vs.toArray = (vs.take x.toNat ++ v₂ :: vs.drop x.toNat).toArray := by
    simp only [hk]
    simp [List.extract_eq_take_drop]
    exact List.take_of_length_le (by simp)
  refine call_meets F.slot_list_insert ⟨_, el, rfl⟩ F.entry_list_insert (F.args_list_insert_3 _ _ _) hmeet ⟨el, ?_⟩
  refine h _ (Ext.same (tk := s₂.toks) (Heap.SameBut.update ..)) ?_
  show ∃ c, IsL _ l _ c
  rw [← e1]
  exact ⟨_, hu⟩
/-- l != [] -/
theorem ne_nil_ev {e : Expr} {p pos : Pos} {l : Addr} {vs : List Value} {whole : Sem Value} {Q : Bool → Shared → Prop} (hu : A.units + 1 < cLine) (he : Gives prog w A env e s (.ref l)) (hl : LAt s.heap l vs)
    (h : ∀ s', Ext [] s s' → Q (decide (vs ≠ [])) s') : wpAny (model prog w) A (isTrue (.Compare e [.NotEq] [.List [] p] pos) env whole) Q E s := by
  refine wpAny_isTrue_Compare1 (he _ _ (list_nil fun D s₁ X hD lD => ?_))
  have hl1 := X.lat List.not_mem_nil hl
  by_cases hv : vs = []
  · subst hv
    refine EqBoolInt.of_rcne (SeqAt.RcNeAt.lists (e := fun _ => true) hl1.isList lD.isList rfl (by omega) (fun j h1 _ => absurd h1 (by simp))) (wpAny_truthy_bool ?_)
    exact h _ X
  · refine EqBoolInt.of_rcne (SeqAt.RcNeAt.lists_lengths hl1.isList lD.isList (by cases vs with | nil => exact absurd rfl hv | cons a r => simp) (by omega)) (wpAny_truthy_bool ?_)
    rw [show true = decide (vs ≠ []) by simp [hv]]
    exact h _ X
/-- two lists of the same texts -/
theorem ne_strs {l b : Addr} {vs ws : List Value} {ks : List Str} {Q : Value → Shared → Prop} (hu : A.units < cLine) (hl : LAt s.heap l vs) (hv : StrsAre vs ks) (hb : LAt s.heap b ws) (hw : StrsAre ws ks) (h : Q (.bool false) s) : wpAny (model prog w) A (compareOp .NotEq (.ref l) (.ref b)) Q E s := by
  refine EqBoolInt.of_rcne (SeqAt.RcNeAt.lists (e := fun _ => true) hl.isList hb.isList (by simp [hv.len_eq, hw.len_eq]) hu (fun j h1 h2 => ?_)) ?_
  · have hj : j < ks.length := by rw [← hv.len_eq]; simpa using h1
    obtain ⟨t1, e1⟩ := hv.at (List.getElem?_eq_getElem hj)
    obtain ⟨t2, e2⟩ := hw.at (List.getElem?_eq_getElem hj)
    have q1 : vs.toArray[j] = .str ks[j] t1 := by
      have : vs[j]? = some vs.toArray[j] := by simp
      exact Option.some.inj (this.symm.trans e1)
    have q2 : ws.toArray[j] = .str ks[j] t2 := by
      have : ws[j]? = some ws.toArray[j] := by simp
      exact Option.some.inj (this.symm.trans e2)
    rw [q1, q2]
    have := SeqAt.EqAt.str_str (A := A.in1) (s := s) ks[j] t1 ks[j] t2
    rwa [beq_self_eq_true] at this
  · rw [show (List.range vs.toArray.size).all (fun _ => true) = true from List.all_eq_true.mpr (fun _ _ => rfl)]; exact h
theorem eq_strs {l b : Addr} {vs ws : List Value} {ks : List Str} {Q : Value → Shared → Prop} (hu : A.units < cLine) (hl : LAt s.heap l vs) (hv : StrsAre vs ks) (hb : LAt s.heap b ws) (hw : StrsAre ws ks) (h : Q (.bool true) s) : wpAny (model prog w) A (compareOp .Eq (.ref l) (.ref b)) Q E s := by
  refine EqBoolInt.of_rc (SeqAt.RcAt.lists (e := fun _ => true) hl.isList hb.isList (by simp [hv.len_eq, hw.len_eq]) hu (fun j h1 h2 => ?_)) ?_
  · have hj : j < ks.length := by rw [← hv.len_eq]; simpa using h1
    obtain ⟨t1, e1⟩ := hv.at (List.getElem?_eq_getElem hj)
    obtain ⟨t2, e2⟩ := hw.at (List.getElem?_eq_getElem hj)
    have q1 : vs.toArray[j] = .str ks[j] t1 := by
      have : vs[j]? = some vs.toArray[j] := by simp
      exact Option.some.inj (this.symm.trans e1)
    have q2 : ws.toArray[j] = .str ks[j] t2 := by
      have : ws[j]? = some ws.toArray[j] := by simp
      exact Option.some.inj (this.symm.trans e2)
    rw [q1, q2]
    have := SeqAt.EqAt.str_str (A := A.in1) (s := s) ks[j] t1 ks[j] t2
    rwa [beq_self_eq_true] at this
  · rw [show (List.range vs.toArray.size).all (fun _ => true) = true from List.all_eq_true.mpr (fun _ _ => rfl)]; exact h
/-- two lists of the same values -/
theorem ne_same {l b : Addr} {vs : List Value} {Q : Value → Shared → Prop} (hu : A.units < cLine) (hl : LAt s.heap l vs) (hb : LAt s.heap b vs) (h : Q (.bool false) s) : wpAny (model prog w) A (compareOp .NotEq (.ref l) (.ref b)) Q E s := by
  refine EqBoolInt.of_rcne (SeqAt.RcNeAt.lists (e := fun _ => true) hl.isList hb.isList rfl hu (fun j h1 h2 => SeqAt.EqAt.same _)) ?_
  rw [show (List.range vs.toArray.size).all (fun _ => true) = true from List.all_eq_true.mpr (fun _ _ => rfl)]; exact h
end
end Mine
end

section
open PySem PySem.W PyProof.Rows PySem.Calls
set_option Elab.async false
set_option maxRecDepth 100000
namespace Mine
theorem mb_all : bootBuiltins (Str.ofString "all") = some (.builtin "all") := by kernel_rfl
theorem mb_len : bootBuiltins (Str.ofString "len") = some (.builtin "len") := by kernel_rfl
theorem mb_sorted : bootBuiltins (Str.ofString "sorted") = some (.builtin "sorted") := by kernel_rfl
theorem mb_set : bootBuiltins (Str.ofString "set") = some (.type "set") := by kernel_rfl
theorem mb_list : bootBuiltins (Str.ofString "list") = some (.type "list") := by kernel_rfl
theorem mb_int : bootBuiltins (Str.ofString "int") = some (.type "int") := by kernel_rfl
theorem mb_range : bootBuiltins (Str.ofString "range") = some (.type "range") := by kernel_rfl
theorem mg_free {mean : ExcName → Option Value} {mg mb : Str → Option Value} {h : Heap} (T : Top hd.view_39 (looseW hd.view_39 []) mean mg mb h) :
    mg (Str.ofString "all") = none ∧ mg (Str.ofString "len") = none ∧ mg (Str.ofString "sorted") = none ∧ mg (Str.ofString "set") = none ∧ mg (Str.ofString "list") = none ∧ mg (Str.ofString "int") = none ∧ mg (Str.ofString "range") = none := by
  refine ⟨T.free _ ?_ ?_ ?_ ?_ ?_, T.free _ ?_ ?_ ?_ ?_ ?_, T.free _ ?_ ?_ ?_ ?_ ?_, T.free _ ?_ ?_ ?_ ?_ ?_, T.free _ ?_ ?_ ?_ ?_ ?_, T.free _ ?_ ?_ ?_ ?_ ?_, T.free _ ?_ ?_ ?_ ?_ ?_⟩ <;> decide +kernel
theorem mg_fns {w : World} {mg : Str → Option Value} {h : Heap} (X : (hd.heap_39 w.params).In h) (G : h.Ns mainGlobals mg) :
    mg (Str.ofString "_law_next") = some (.ref 26) ∧ mg (Str.ofString "_build_total_order") = some (.ref 19) ∧ mg (Str.ofString "_law_orders") = some (.ref 31) :=
  ⟨mg_of X G (by kernel_rfl), mg_of X G (by kernel_rfl), mg_of X G (by kernel_rfl)⟩
theorem gb_of {p : Program} {loose : List Str} {mean : ExcName → Option Value} {mg mb : Str → Option Value} {h : Heap} (T : Top p loose mean mg mb h) : Gb mg mb h :=
  ⟨T.g, T.b, T.nolimit, let ⟨bm, ob, a1, a2, a3, a4, a5, a6⟩ := T.bmain; ⟨bm, ob, ⟨T.g, a1, a2, a3, a4, a5, a6⟩⟩⟩

/-- the law's lists beside its frame and hand -/
structure LX (sb : Shared) (env : Env) (hb : Heap) (hand S : Addr) (ws : List Value) (TL : Addr) (tvs : List Value) (PL : Addr) (k : Int) (m : Str → Option Value) (prs : List Value) (ps : List (Str × Str)) (s : Shared) : Prop where
  L : LS sb env hb hand S ws k m s
  mt : m (Str.ofString "tasks") = some (.ref TL)
  mp : m (Str.ofString "pairs") = some (.ref PL)
  lt : LAt s.heap TL tvs
  lp : LAt s.heap PL prs
  pp : PairsAt s.heap prs ps
  hbL : hb.get? env.locals = none
  hbP : hb.get? PL = none
  nTP : TL ≠ PL
  nSP : S ≠ PL
  nHP : hand ≠ PL
  nHT : hand ≠ TL
theorem new_none {hb : Heap} {s : Shared} {x : Addr} (kp : Kp hb s.heap) (hx : s.heap.objs.size ≤ x) : hb.get? x = none := by
  cases e : hb.get? x with
  | none => rfl
  | some o => exact absurd (Heap.lt_size (kp x o e)) (Nat.not_lt.mpr hx)
section
variable {w : World} {A : Around} {E : Value → Shared → Prop} {s s' : Shared} {env : Env} {mg mb : Str → Option Value} {hb : Heap} {hand S TL PL : Addr} {ws tvs prs : List Value} {xs : List Int} {k k' : Int} {m m' : Str → Option Value} {sb : Shared} {ps : List (Str × Str)}
theorem hand_off (L : LS sb env hb hand S ws k m s) (pp : PairsAt s.heap prs ps) : ∀ a, Value.ref a ∈ prs → a ≠ hand := by
  obtain ⟨t, o, e, c, n, d⟩ := L.hand
  exact pairs_off pp e fun q => by rw [c] at q; simp at q
theorem LX.go {wr : List Addr} (X : LX sb env hb hand S ws TL tvs PL k m prs ps s) (x : Ext0 wr s s') (h1 : env.locals ∉ wr) (h2 : hand ∉ wr) (h3 : S ∉ wr) (h4 : ∀ b ∈ wr, hb.get? b = none) (h5 : 16 ∉ wr) (h6 : TL ∉ wr) (h7 : PL ∉ wr) (h8 : ∀ a, Value.ref a ∈ prs → a ∉ wr) :
    LX sb env hb hand S ws TL tvs PL k m prs ps s' := { X with L := X.L.go x h1 h2 h3 h4 h5, lt := x.lat h6 X.lt, lp := x.lat h7 X.lp, pp := x.pairs X.pp h8 }
theorem LX.go0 (X : LX sb env hb hand S ws TL tvs PL k m prs ps s) (x : Ext0 [] s s') : LX sb env hb hand S ws TL tvs PL k m prs ps s' :=
  X.go x List.not_mem_nil List.not_mem_nil List.not_mem_nil (fun _ h => absurd h List.not_mem_nil) List.not_mem_nil List.not_mem_nil List.not_mem_nil fun _ _ => List.not_mem_nil
/-- a store of another name -/
theorem LX.loc (X : LX sb env hb hand S ws TL tvs PL k m prs ps s) (x : Ext [env.locals] s s') (hn : s'.heap.Ns env.locals m') (e1 : m' (Str.ofString "hand") = m (Str.ofString "hand")) (e2 : m' (Str.ofString "tasks") = m (Str.ofString "tasks")) (e3 : m' (Str.ofString "pairs") = m (Str.ofString "pairs")) :
    LX sb env hb hand S ws TL tvs PL k m' prs ps s' :=
  { X with L := X.L.loc x hn e1 X.hbL, mt := e2.trans X.mt, mp := e3.trans X.mp, lt := x.lat (by simpa using lat_ne_ns X.lt X.L.ns) X.lt, lp := x.lat (by simpa using lat_ne_ns X.lp X.L.ns) X.lp, pp := x.pairs X.pp fun a ha => by simpa using ns_off X.pp X.L.ns a ha }
/-- behind a draw -/
theorem LX.next (X : LX sb env hb hand S ws TL tvs PL k m prs ps s) (x : Ext [hand] s s') (L' : LS sb env hb hand S ws k' m s') : LX sb env hb hand S ws TL tvs PL k' m prs ps s' :=
  { X with L := L', lt := x.lat (by simpa using Ne.symm X.nHT) X.lt, lp := x.lat (by simpa using Ne.symm X.nHP) X.lp, pp := x.pairs X.pp fun a ha => by simpa using hand_off X.L X.pp a ha }
/-- a write to another list of the law's -/
theorem LX.other {l : Addr} {vs : List Value} (X : LX sb env hb hand S ws TL tvs PL k m prs ps s) (x : Ext [l] s s') (hl : LAt s.heap l vs) (h1 : l ≠ hand) (h2 : l ≠ S) (h3 : l ≠ TL) (h4 : l ≠ PL) (h5 : hb.get? l = none) : LX sb env hb hand S ws TL tvs PL k m prs ps s' :=
  X.go x.e0 (by simpa using Ne.symm (lat_ne_ns hl X.L.ns)) (by simpa using Ne.symm h1) (by simpa using Ne.symm h2) (fun b hb' => by rw [List.mem_singleton.mp hb']; exact h5) (by simpa using X.L.tA hl) (by simpa using Ne.symm h3) (by simpa using Ne.symm h4) fun a ha => by simpa using lat_off X.pp hl a ha
/-- pairs made longer -/
theorem LX.pair {s'' : Shared} {prs' : List Value} {ps' : List (Str × Str)} (X : LX sb env hb hand S ws TL tvs PL k m prs ps s) (x : Ext [PL] s s') (hl : LAt s'.heap PL prs') (hp : PairsAt s'.heap prs' ps') (_ : s'' = s') : LX sb env hb hand S ws TL tvs PL k m prs' ps' s' :=
  { X with L := X.L.go x.e0 (by simpa using Ne.symm (lat_ne_ns X.lp X.L.ns)) (by simpa using X.nHP) (by simpa using X.nSP) (fun b hb' => by rw [List.mem_singleton.mp hb']; exact X.hbP) (by simpa using X.L.tA X.lp), lt := x.lat (by simpa using X.nTP) X.lt, lp := hl, pp := hp }
theorem const_str {x : Str} {kk : Nat} {pos : Pos} {prog : Program} {Q : Value → Shared → Prop} (h : ∀ t s', Ext [] s s' → Q (.str x t) s') : wpAny (model prog w) A (eval (.Constant (.str x) kk pos) env) Q E s := wpAny_Constant_str (h _ _ Ext.tok)
theorem pick4 (a b c d : Value) : ∀ j : Nat, j ≤ 4 → slicePick #[a, b, c, d] none (some (j : Int)) none = ([a, b, c, d].take j).toArray
  | 0, _ => rfl
  | 1, _ => rfl
  | 2, _ => rfl
  | 3, _ => rfl
  | 4, _ => rfl
  | _ + 5, h => absurd h (by omega)
theorem law_start {α : Type} {M : Model} {t : Sem α} {Q : α → Shared → Prop} {h' : Heap} {L : Addr} {gs : Array GenState} {dr : Drawn} {tk t0 : Nat} {sb : Shared} {c1 c2 : Nat} {tb : Obj} (htb : tb = tabObj #[])
    (F : Fr hb L h' m) (N : News hb L h' [(hand, W.listOf #[.ref S, .int 0 t0] c1), (S, W.listOf ws.toArray c2), (16, tb)]) (hxs : IntsAre ws xs) (hL : env.locals = L) (mh : m (Str.ofString "hand") = some (.ref hand)) (hbare : AllBare gs)
    (h : ∀ s, LS sb env hb hand S ws 0 m s → hb.get? env.locals = none → hb.get? hand = none → S ≠ hand → wpAny M A t Q E s) : wpAny M A t Q E { heap := h', gens := gs, drawn := dr, toks := tk, os := sb.os } := by
  subst htb hL
  have h1 := N _ (List.mem_cons_self ..)
  have h2 := N _ (List.mem_cons_of_mem _ (List.mem_cons_self ..))
  have h3 := N _ (List.mem_cons_of_mem _ (List.mem_cons_of_mem _ (List.mem_cons_self ..)))
  refine h _ ⟨F.ns, mh, ⟨t0, _, h1.1, rfl, _, rfl⟩, ⟨_, h2.1, rfl, _, rfl⟩, F.keep, Int.le_refl _, h3.1, rfl, hbare⟩ (Heap.get?_none_of_le F.above) h1.2.2 fun q => ?_
  have e1 := h1.1
  have e2 := h2.1
  simp only at e1 e2
  rw [q] at e2
  have e3 := Option.some.inj (e1.symm.trans e2)
  simp only [W.listOf, Obj.mk.injEq, Data.seq.injEq, true_and, and_true] at e3
  have e4 : ws = [.ref S, .int 0 t0] := by
    have := congrArg Array.toList e3.1
    simpa using this.symm
  subst e4
  cases hxs
theorem law_done {cw : ClaimW} {cl : Str → Option Addr} {mean : ExcName → Option Value} {args : List WData} {s₁ s' : Shared} {qs : Array Value} {v : Value} (hT : TabsAt [(18, 16)] s₁.heap) (hr : ∀ a x, cw.raises a x = false) (hpost : cw.post args (.bool true) args = true)
    (hv : v = .bool true) (hkp : Kp (ghostOf s₁.heap [(18, 16)]) s'.heap) (h16 : s'.heap.get? 16 = some (tabObj qs)) (hos : s'.os = s₁.os) (hbare : AllBare s'.gens) : GoodWG cw cl mean args s₁ (.ok (.ret v)) s' := by
  subst hv
  have hq := hT (18, 16) (List.mem_cons_self ..)
  refine ⟨.inl ⟨.bool true, .bool true, [], rfl, fun _ => hr _ _, ReadsW.bool true, hpost, fun _ => ⟨List.nodup_nil, fun a ha => nomatch ha⟩⟩, ⟨fun b o e => ?_, fun b o e => ?_⟩, hos, hbare⟩
  · by_cases hb : b = 16
    · subst hb
      have e2 : o = tabObj #[] := Option.some.inj (e.symm.trans hq.2)
      subst e2
      exact .inr (.inl ⟨(hq.1.tab hq.2).isCodeTable, rfl, #[], qs, rfl, by rw [Array.empty_append]; exact h16⟩)
    · exact .inl (hkp _ _ (ghost_ne e (by simpa using hb)))
  · by_cases hb : b = 16
    · subst hb; exact ⟨_, h16⟩
    · exact ⟨o, hkp _ _ (ghost_ne e (by simpa using hb))⟩
theorem list4 {prog : Program} {a b c d : Str} {q1 q2 q3 q4 : Nat} {p1 p2 p3 p4 pos : Pos} {Q : Value → Shared → Prop}
    (h : ∀ t1 t2 t3 t4 D s', Ext [] s s' → s.heap.objs.size ≤ D → LAt s'.heap D [.str a t1, .str b t2, .str c t3, .str d t4] → Q (.ref D) s') :
    wpAny (model prog w) A (eval (.List [.Constant (.str a) q1 p1, .Constant (.str b) q2 p2, .Constant (.str c) q3 p3, .Constant (.str d) q4 p4] pos) env) Q E s := by
  refine wpAny_List ?_
  rw [show starEach [.Constant (.str a) q1 p1, .Constant (.str b) q2 p2, .Constant (.str c) q3 p3, .Constant (.str d) q4 p4] env = [(false, eval (.Constant (.str a) q1 p1) env), (false, eval (.Constant (.str b) q2 p2) env), (false, eval (.Constant (.str c) q3 p3) env), (false, eval (.Constant (.str d) q4 p4) env)] from rfl]
  refine spliced_cons (x := eval (.Constant (.str a) q1 p1) env) (const_str fun t1 z1 X1 => ?_)
  refine spliced_cons (x := eval (.Constant (.str b) q2 p2) env) (const_str fun t2 z2 X2 => ?_)
  refine spliced_cons (x := eval (.Constant (.str c) q3 p3) env) (const_str fun t3 z3 X3 => ?_)
  refine spliced_cons (x := eval (.Constant (.str d) q4 p4) env) (const_str fun t4 z4 X4 => spliced_nil ⟨by show 4 ≤ sizeLine; decide, ?_⟩)
  have X := ((X1.trans X2).trans X3).trans X4
  exact h t1 t2 t3 t4 _ _ (X.trans (Ext.push (tk := z4.toks))) X.size ⟨0, IsL.new _ _⟩
theorem two_pushed (s : Shared) (sl : Obj) (vs : List Value) : Ext [] s { s with heap := (s.heap.push sl).push { cls := .type "list", data := .seq vs.toArray } } ∧ LAt ((s.heap.push sl).push { cls := .type "list", data := .seq vs.toArray }) (s.heap.objs.size + 1) vs := by
  refine ⟨(Ext.push (s := s) (o := sl) (tk := s.toks)).trans (Ext.push (s := { s with heap := s.heap.push sl, toks := s.toks }) (tk := s.toks)), 0, ?_⟩
  have := IsL.new (s.heap.push sl) vs.toArray
  rwa [Heap.size_push] at this
theorem hand_lt {sb : Shared} (L : LS sb env hb hand S ws k m s) : hand < s.heap.objs.size := let ⟨_, _, e, _⟩ := L.hand; Heap.lt_size e
theorem scr_lt {sb : Shared} (L : LS sb env hb hand S ws k m s) : S < s.heap.objs.size := let ⟨_, e, _⟩ := L.scr; Heap.lt_size e
/-- the four names -/
def four : List Str := [Str.ofString "t0", Str.ofString "t1", Str.ofString "t2", Str.ofString "t3"]
theorem four_take (t1 t2 t3 t4 : Tok) : ∀ j : Nat, j ≤ 4 → StrsAre ([Value.str (Str.ofString "t0") t1, .str (Str.ofString "t1") t2, .str (Str.ofString "t2") t3, .str (Str.ofString "t3") t4].take j) (four.take j)
  | 0, _ => .nil
  | 1, _ => .cons _ _ .nil
  | 2, _ => .cons _ _ (.cons _ _ .nil)
  | 3, _ => .cons _ _ (.cons _ _ (.cons _ _ .nil))
  | 4, _ => .cons _ _ (.cons _ _ (.cons _ _ (.cons _ _ .nil)))
  | _ + 5, h => absurd h (by omega)
theorem four_nodup (j : Nat) : (four.take j).Nodup := List.Sublist.nodup (List.take_sublist j four) (by decide)
theorem cut {α : Type} {M : Model} {t : Sem α} {Q : α → Shared → Prop} (J : α → Shared → Prop) (h : wpAny M A t J E s) (k : ∀ a z, J a z → Q a z) : wpAny M A t Q E s := wpAny_mono h k fun _ _ e => e
theorem strs_erase {vs : List Value} {ks : List Str} (h : StrsAre vs ks) : ∀ i, StrsAre (vs.eraseIdx i) (ks.eraseIdx i) := by
  induction h with
  | nil => intro i; exact .nil
  | cons x t h ih =>
    intro i
    cases i with
    | zero => exact h
    | succ i => exact .cons x t (ih i)
theorem pairs_snoc {h : Heap} {vs : List Value} {ps : List (Str × Str)} {v : Value} {p : Str × Str} (x : PairsAt h vs ps) (y : PairAt h v p) : PairsAt h (vs ++ [v]) (ps ++ [p]) := by
  induction x with
  | nil => exact .cons y .nil
  | cons a _ ih => exact .cons a ih
theorem pairs_insert {h : Heap} {v : Value} {p : Str × Str} (y : PairAt h v p) : ∀ {vs : List Value} {ps : List (Str × Str)} (i : Nat), PairsAt h vs ps → PairsAt h (vs.take i ++ v :: vs.drop i) (ps.take i ++ p :: ps.drop i)
  | _, _, 0, x => .cons y x
  | _, _, i + 1, .nil => .cons y .nil
  | _, _, i + 1, .cons a r => .cons a (pairs_insert y i r)
end
end Mine
end

section
open PySem PySem.W PyProof.Rows PySem.Calls
set_option maxRecDepth 100000
namespace Mine
theorem uq1 : ∀ a ∈ four.take 1, [a] = four.take 1 := by decide +kernel
theorem uq2 : ∀ a ∈ four.take 2, ∀ b ∈ four.take 2, sortedS [a, b] = true → [a, b].Nodup → [a, b] = four.take 2 := by decide +kernel
theorem uq3 : ∀ a ∈ four.take 3, ∀ b ∈ four.take 3, ∀ c ∈ four.take 3, sortedS [a, b, c] = true → [a, b, c].Nodup → [a, b, c] = four.take 3 := by decide +kernel
theorem uq4 : ∀ a ∈ four.take 4, ∀ b ∈ four.take 4, ∀ c ∈ four.take 4, ∀ d ∈ four.take 4, sortedS [a, b, c, d] = true → [a, b, c, d].Nodup → [a, b, c, d] = four.take 4 := by decide +kernel
theorem sorted_four {j : Nat} (hj : j ≤ 4) {ls : List Str} (hp : ls.Perm (four.take j)) (hs : sortedS ls = true) : ls = four.take j := by
  have hn : ls.Nodup := hp.nodup_iff.mpr (four_nodup j)
  have hm : ∀ x ∈ ls, x ∈ four.take j := fun x hx => hp.mem_iff.mp hx
  have hl : ls.length = j := by rw [hp.length_eq, List.length_take]; show min j 4 = j; omega
  match j, hj, ls, hl with
  | 0, _, [], _ => rfl
  | 1, _, [a], _ => exact uq1 a (hm a (by simp))
  | 2, _, [a, b], _ => exact uq2 a (hm a (by simp)) b (hm b (by simp)) hs hn
  | 3, _, [a, b, c], _ => exact uq3 a (hm a (by simp)) b (hm b (by simp)) c (hm c (by simp)) hs hn
  | 4, _, [a, b, c, d], _ => exact uq4 a (hm a (by simp)) b (hm b (by simp)) c (hm c (by simp)) d (hm d (by simp)) hs hn
end Mine
end

open PySem PySem.W PyProof.Rows PySem.Calls Mine
set_option Elab.async false
set_option maxRecDepth 100000 in
set_option maxHeartbeats 8000000 in
theorem PySem.Challenge.cw_ke0029_01_holds : PySem.Challenge.rw_ke0029_01.Holds := by
  refine hd ?_
  k_fill
  intro w s₀ s₁ mg mb G Y fa o pm cd doc dV kV ho hd hcd hD hmg hg args vals as hpre hlay hrd hwl hlo
  have KX := kIn_of Y
  have X := (Ground.X G).1
  have V := (Ground.X G).2
  refine Ground.open G ?_
  intro T B D TE TW
  try (refine guard_noD D (by decide +kernel) ?_; clear D)
  have hT9 : TabsAt ([(18, 16)] : List (Addr × Addr)) s₁.heap := List.forall_mem_cons.mpr ⟨tab_of (x := PySem.Str.ofString "_build_total_order") (c := 18) (P := 16) T KX rfl (by kernel_rfl), fun _ h => nomatch h⟩
  clear hmg
  wrow_args hpre hlay hrd hwl hlo
  all_goals (
    first | refine callC_kw (enter_call ?_) | refine enter_call ?_
    w_top on
    w_call any ho hd hcd hD T F
    clear hd
    kn_ghosts F T
    k_drop
    skip)
  (all_goals try k_fold)
  iterate 18 (first | (k_unfold; (try dsimp only)) | (k_end; wrow_close) | walk1 | (dsimp only; walk1) | (leave1; walk_say "STEP leave1"; try dsimp only))
  rename News _ _ _ _ => N
  rename Fr _ _ _ _ => F
  rename IntsAre _ _ => hxs
  rename Frag.In _ _ => KH
  rename Top _ _ _ _ _ _ => TH
  have h40 : ∀ ys : List Int, (List.take 40 ys).length ≤ 40 := fun ys => by rw [List.length_take]; omega
  obtain ⟨n1, n2, n4, n3, n5, n6, n7⟩ := mg_free T
  obtain ⟨g1, g2, g3⟩ := mg_fns KH TH.g
  have b1 := (TH.builtins (Str.ofString "all") (by decide)).trans mb_all
  have b2 := (TH.builtins (Str.ofString "len") (by decide)).trans mb_len
  have b3 := (TH.builtins (Str.ofString "set") (by decide)).trans mb_set
  have b4 := (TH.builtins (Str.ofString "sorted") (by decide)).trans mb_sorted
  have b5 := (TH.builtins (Str.ofString "list") (by decide)).trans mb_list
  have b6 := (TH.builtins (Str.ofString "int") (by decide)).trans mb_int
  have b7 := (TH.builtins (Str.ofString "range") (by decide)).trans mb_range
  have GB := gb_of TH
  rename CodeHd _ _ _ => CH
  have CH1 : CodeHd (ghostOf s₁.heap [(18, 16)]) 18 16 := CH
  have hgst : ∀ b o, b ≠ 16 → s₁.heap.get? b = some o → (ghostOf s₁.heap [(18, 16)]).get? b = some o := fun b o hb e => ghost_ne e (by simpa using hb)
  have hP16 : (ghostOf s₁.heap [(18, 16)]).get? 16 = none := hideAll_none _ (by simp)
  generalize hE : envOf _ _ _ _ _ = env
  refine law_start (env := env) (sb := s₁) rfl F N hxs (by rw [← hE]; rfl) (if_pos rfl) (.of_eq hg) fun s LS0 hbL hbh hSh => ?_
  clear F N
  generalize hHB : ghostOf s₁.heap [(18, 16)] = hb at *
  have kk : ∀ x kd, env.scope.names.lookup x = some kd → env.kindOf x = some kd := fun x kd e => e
  have hk : env.scope.kind = .function := by rw [← hE]; rfl
  have hblk : env.blockKind = .function := by rw [← hE]; rfl
  have eg : env.globals = mainGlobals := by rw [← hE]; rfl
  have ebl : env.builtins = builtinsNs := by rw [← hE]; rfl
  have hcls : (env.scope.kind == .class || (env.scope.kind == .module && env.locals != env.globals)) = false := by rw [hk]; rfl
  have hi : interactive env = false := by rw [← hE]; rfl
  have k1 : env.kindOf (Str.ofString "hand") = some .local := by rw [← hE]; rfl
  have k2 : env.kindOf (Str.ofString "tasks") = some .local := by rw [← hE]; rfl
  have k3 : env.kindOf (Str.ofString "pairs") = some .local := by rw [← hE]; rfl
  have k4 : env.kindOf (Str.ofString "left") = some .local := by rw [← hE]; rfl
  have k5 : env.kindOf (Str.ofString "order") = some .local := by rw [← hE]; rfl
  have k6 : env.kindOf (Str.ofString "k") = some .local := by rw [← hE]; rfl
  have k7 : env.kindOf (Str.ofString "one") = some .local := by rw [← hE]; rfl
  have k8 : env.kindOf (Str.ofString "other") = some .local := by rw [← hE]; rfl
  have k9 : env.kindOf (Str.ofString "names") = some .local := by rw [← hE]; rfl
  have k10 : env.kindOf (Str.ofString "rows") = some .local := by rw [← hE]; rfl
  have k11 : env.kindOf (Str.ofString "told") = some .local := by rw [← hE]; rfl
  have k12 : env.kindOf (Str.ofString "orders") = some .local := by rw [← hE]; rfl
  have j1 : env.kindOf (Str.ofString "_law_next") = some .globalImplicit := by rw [← hE]; rfl
  have j2 : env.kindOf (Str.ofString "list") = some .globalImplicit := by rw [← hE]; rfl
  have j3 : env.kindOf (Str.ofString "len") = some .globalImplicit := by rw [← hE]; rfl
  have j4 : env.kindOf (Str.ofString "range") = some .globalImplicit := by rw [← hE]; rfl
  have j5 : env.kindOf (Str.ofString "set") = some .globalImplicit := by rw [← hE]; rfl
  have j6 : env.kindOf (Str.ofString "_build_total_order") = some .globalImplicit := by rw [← hE]; rfl
  have j7 : env.kindOf (Str.ofString "_law_orders") = some .globalImplicit := by rw [← hE]; rfl
  have j8 : env.kindOf (Str.ofString "sorted") = some .globalImplicit := by rw [← hE]; rfl
  clear hE
  generalize hA : callerA.deeper env = A
  have C : LC w A env mg mb hb _ _ _ _ := ⟨GB, KH, by rw [← hA]; rfl, by rw [← hA]; show callerA.depth + 1 + 40 < recursionLimit; decide +kernel, by rw [← hA]; show callerA.units + 3 + 40 < cLine; decide +kernel, hk, eg, ebl, hcls, hi, j1, j3, k1, g1, n2, n6, b2, b6, hxs, h40 _, hSh, hbh⟩
  obtain ⟨hand, S, ws, xs, m0, C, LS0⟩ : ∃ hand S ws xs m0, LC w A env mg mb hb hand S ws xs ∧ LS s₁ env hb hand S ws 0 m0 s := ⟨_, _, _, _, _, C, LS0⟩
  -- tasks = [..][:_law_next(hand, 5)]
  refine wpAny_Assign_Name (Subscript_ (list4 fun t1 t2 t3 t4 D0 z1 X1 hD0 lD0 => wpAny_Slice (evalPart_none_step (evalPart_some_step ?_))))
  have L1 := LS0.go0 X1.e0
  refine next_ev C L1 (by decide) (fun Q' E' hq => const_int fun t z X => hq t z X) (by decide) rfl fun z2 r tr X2 hr0 hr1 L2 => evalPart_none_step ?_
  obtain ⟨j, hj, rfl⟩ : ∃ j : Nat, j ≤ 4 ∧ r = j := ⟨r.toNat, by omega, by omega⟩
  have lD2 : LAt z2.heap D0 _ := X2.lat (by
    obtain ⟨t, hh⟩ := LS0.hand
    obtain ⟨ob, e, _⟩ := hh
    simpa using Ne.symm (Nat.ne_of_lt (Nat.lt_of_lt_of_le (Heap.lt_size e) hD0))) lD0
  refine kba_turn (value' := .Name (Str.ofString "x") ⟨0, 0, 0, 0⟩) (fun _ => rfl) ?_
  refine slice_listK lD2.isList .none (.int _ _) ?_
  rw [pick4 _ _ _ _ j hj]
  obtain ⟨X3, lTL⟩ := two_pushed z2 { cls := .type "slice", data := .fields #[.none, .int (j : Int) tr, .none] } ([Value.str (Str.ofString "t0") t1, .str (Str.ofString "t1") t2, .str (Str.ofString "t2") t3, .str (Str.ofString "t3") t4].take j)
  have hts := four_take t1 t2 t3 t4 j hj
  have hnd := four_nodup j
  have ht4 : (four.take j).length ≤ 4 := by rw [List.length_take]; exact Nat.le_trans (Nat.min_le_left _ _) hj
  generalize ([Value.str (Str.ofString "t0") t1, .str (Str.ofString "t1") t2, .str (Str.ofString "t2") t3, .str (Str.ofString "t3") t4].take j) = tvs at X3 lTL hts ⊢
  generalize hts' : four.take j = ts at hts hnd ht4
  have L3 := L2.go0 X3.e0
  have hTL0 : z2.heap.objs.size ≤ z2.heap.objs.size + 1 := Nat.le_succ _
  generalize z2.heap.objs.size + 1 = TL at lTL hTL0 ⊢
  have lTL' : LAt ({ z2 with heap := (z2.heap.push { cls := .type "slice", data := .fields #[.none, .int (j : Int) tr, .none] }).push { cls := .type "list", data := .seq tvs.toArray } } : Shared).heap TL tvs := lTL
  clear lTL
  generalize ({ z2 with heap := (z2.heap.push { cls := .type "slice", data := .fields #[.none, .int (j : Int) tr, .none] }).push { cls := .type "list", data := .seq tvs.toArray } } : Shared) = z3 at X3 L3 lTL' ⊢
  have htl : tvs.length = ts.length := hts.len_eq
  have nHT := Nat.ne_of_lt (Nat.lt_of_lt_of_le (hand_lt L2) hTL0)
  refine store_local k2 L3.ns (fun z4 X4 ns4 => ?_) hcls
  have L4 := L3.loc X4 ns4 (if_neg (by decide)) hbL
  have lT4 := X4.lat (by simpa using lat_ne_ns lTL' L3.ns) lTL'
  -- pairs = []
  refine wpAny_execs_cons (wpAny_Assign_Name (list_nil fun PL z5 X5 hPL lPL => store_local k3 (X5.ns List.not_mem_nil L4.ns) (fun z6 X6 ns6 => ?_) hcls))
  have L5 := L4.go0 X5.e0
  have hbP := new_none L4.kp hPL
  have nLP := Nat.ne_of_lt (Nat.lt_of_lt_of_le L4.ns.lt hPL)
  have X6L : LX s₁ env hb _ _ _ TL tvs PL 1 _ [] [] z6 :=
    { L := L5.loc X6 ns6 (if_neg (by decide)) hbL
      mt := (if_neg (by decide)).trans (if_pos rfl)
      mp := if_pos rfl
      lt := X6.lat (by simpa using lat_ne_ns (X5.lat List.not_mem_nil lT4) L5.ns) (X5.lat List.not_mem_nil lT4)
      lp := X6.lat (by simpa using Ne.symm nLP) lPL
      pp := .nil
      hbL := hbL, hbP := hbP
      nTP := Nat.ne_of_lt (Nat.lt_of_lt_of_le lT4.lt hPL)
      nSP := Nat.ne_of_lt (Nat.lt_of_lt_of_le (scr_lt L4) hPL)
      nHP := Nat.ne_of_lt (Nat.lt_of_lt_of_le (hand_lt L4) hPL)
      nHT := nHT }
  clear X6 ns6 L5 X5 lPL hPL lT4 L4 X4 ns4 L3 X3 L2 X2 L1 X1 LS0 lD0 hD0 lD2 nLP lTL'
  obtain ⟨m6, X6L⟩ : ∃ m6, LX s₁ env hb hand S ws TL tvs PL 1 m6 [] [] z6 := ⟨_, X6L⟩
  have hu1 : A.units + 1 < cLine := by have := C.hu; omega
  have hsl : sizeLine = 2 ^ 24 := rfl
  -- if _law_next(hand, 2) == 0 and tasks != []
  refine wpAny_execs_cons (cut (fun f z => f = .next ∧ ∃ k m prs ps, LX s₁ env hb hand S ws TL tvs PL k m prs ps z ∧ k ≤ 20 ∧ prs.length ≤ 3) ?blk1 fun f z7 hz7 => ?rest)
  case blk1 =>
    refine wpAny_If (isTrue_and (wpAny_isTrue_Compare1 (next_ev C X6L.L (by decide) (fun Q' E' hq => const_int fun t z X => hq t z X) (by decide) rfl fun z8 r tr X8 hr0 hr1 L8 => const_int fun t9 z9 X9 => PyProof.Rows.eq_int (wpAny_truthy_bool ?_))))
    have X9L := (X6L.next X8 L8).go0 X9.e0
    by_cases hr : r = 0
    · rw [hr, if_pos (by decide)]
      refine isTrue_and (ne_nil_ev hu1 (gives_local hk k2 X9L.L.ns X9L.mt) X9L.lt fun z10 X10 => ?_)
      have X10L := X9L.go0 X10.e0
      by_cases hne : tvs = []
      · rw [decide_eq_false (by simpa using hne), if_neg (by decide), if_neg (by decide)]
        exact wpAny_execs_nil ⟨rfl, _, _, _, _, X10L, by omega, by simp⟩
      · rw [decide_eq_true hne, if_pos rfl]
        refine isTrue_and_nil ?_
        rw [if_pos rfl]
        -- left = list(tasks)
        refine wpAny_execs_cons (wpAny_Assign_Name (listc_ev C.G X10L.L.kp hk eg ebl j2 n5 b5 (gives_local hk k2 X10L.L.ns X10L.mt) X10L.lt (by omega) (fun LF z11 X11 hLF lLF => store_local k4 (X11.ns List.not_mem_nil X10L.L.ns) (fun z12 X12 ns12 => ?_) hcls) rfl))
        have X11L := X10L.go0 X11.e0
        have X12L := X11L.loc X12 ns12 (if_neg (by decide)) (if_neg (by decide)) (if_neg (by decide))
        have lLF12 := X12.lat (by simpa using lat_ne_ns lLF X11L.L.ns) lLF
        have hbF := new_none X10L.L.kp hLF
        have lt1 : ∀ {x y n : Nat}, x < n → n ≤ y → y ≠ x := fun h1 h2 => Nat.ne_of_gt (Nat.lt_of_lt_of_le h1 h2)
        have nFh := lt1 (hand_lt X10L.L) hLF
        have nFS := lt1 (scr_lt X10L.L) hLF
        have nFT := lt1 X10L.lt.lt hLF
        have nFP := lt1 X10L.lp.lt hLF
        -- order = []
        refine wpAny_execs_cons (wpAny_Assign_Name (list_nil fun OD z13 X13 hOD lOD => store_local k5 (X13.ns List.not_mem_nil X12L.L.ns) (fun z14 X14 ns14 => ?_) hcls))
        have X13L := X12L.go0 X13.e0
        have X14L := X13L.loc X14 ns14 (if_neg (by decide)) (if_neg (by decide)) (if_neg (by decide))
        have lF13 := X13.lat List.not_mem_nil lLF12
        have lF14 := X14.lat (by simpa using lat_ne_ns lF13 X13L.L.ns) lF13
        have lO14 := X14.lat (by simpa using lat_ne_ns lOD X13L.L.ns) lOD
        have hbO := new_none X12L.L.kp hOD
        have nOh := lt1 (hand_lt X12L.L) hOD
        have nOS := lt1 (scr_lt X12L.L) hOD
        have nOT := lt1 X12L.lt.lt hOD
        have nOP := lt1 X12L.lp.lt hOD
        have nOF := lt1 lLF12.lt hOD
        have hn0 : 0 < tvs.length := by cases tvs with | nil => exact absurd rfl hne | cons a r => simp
        -- while left != []
        refine wpAny_execs_cons (wpAny_While (codeAny_whileLoop (fun n z => ∃ k m lvs ovs lks oks, LX s₁ env hb hand S ws TL tvs PL k m [] [] z ∧ m (Str.ofString "left") = some (.ref LF) ∧ m (Str.ofString "order") = some (.ref OD) ∧ LAt z.heap LF lvs ∧ StrsAre lvs lks ∧ LAt z.heap OD ovs ∧ StrsAre ovs oks ∧ n = lvs.length ∧ ovs.length + lvs.length = tvs.length ∧ k = 2 + (ovs.length : Int)) ?turn tvs.length
          ⟨_, _, tvs, [], ts, [], X14L, (if_neg (by decide)).trans (if_pos rfl), if_pos rfl, lF14, hts, lO14, .nil, rfl, by simp, by simp⟩))
        rintro n z ⟨k, m, lvs, ovs, lks, oks, XL, ml, mo, lF, sF, lO, sO, rfl, hlen, hkk⟩
        refine ne_nil_ev hu1 (gives_local hk k4 XL.L.ns ml) lF fun z1 X1 => ?_
        have XL1 := XL.go0 X1.e0
        have lF1 := X1.lat List.not_mem_nil lF
        have lO1 := X1.lat List.not_mem_nil lO
        by_cases hl : lvs = []
        · rw [decide_eq_false (by simpa using hl), if_neg (by decide)]
          refine wpAny_execs_nil ?_
          subst hl
          have hol : ovs.length = tvs.length := by simpa using hlen
          have eN : ((ovs.length : Nat) : Int) - 1 = ((ovs.length - 1 : Nat) : Int) := by omega
          -- for k in range(len(order) - 1)
          refine wpAny_execs_cons (for_range C.hh (Call_Name1 (name_builtin C.G XL1.L.kp hk eg ebl j4 n7 b7 (PySem.callWith_type1 (wpAny_BinOp (len_list C.G XL1.L.kp hk eg ebl j3 n2 b2 (gives_local hk k5 XL1.L.ns mo) lO1 (by omega) (fun t5 z5 X5 => const_int fun t6 z6' X6 => subI fun t7 z7 X7 => ?_) rfl)))) rfl))
          rw [eN]
          refine call_range_1 ⟨_, ovs.length - 1, _, _, _, rfl, Heap.get?_push_size _ rfl, by omega, ?_⟩
          have X8' : Ext [] z7 { z7 with heap := z7.heap.push { cls := .type "range", data := .fields #[.int 0 z7.toks, .int ((ovs.length - 1 : Nat) : Int) t7, .int 1 (z7.toks + 1)] }, toks := z7.toks + 1 + 1 } := Ext.push
          generalize ({ z7 with heap := z7.heap.push { cls := .type "range", data := .fields #[.int 0 z7.toks, .int ((ovs.length - 1 : Nat) : Int) t7, .int 1 (z7.toks + 1)] }, toks := z7.toks + 1 + 1 } : Shared) = zb at X8' ⊢
          have XB := ((X5.trans X6).trans X7).trans X8'
          have XLb := XL1.go0 XB.e0
          have lOb := XB.lat List.not_mem_nil lO1
          refine ⟨fun I i z => i ≤ ovs.length - 1 ∧ ∃ k m prs ps, LX s₁ env hb hand S ws TL tvs PL k m prs ps z ∧ m (Str.ofString "order") = some (.ref OD) ∧ LAt z.heap OD ovs ∧ k ≤ 6 + (i : Int) ∧ prs.length ≤ i ∧ ∀ a, Value.ref a ∈ prs → a ≠ I, ?_, ?_, ?_, ?_⟩
          · intro I z X hI _
            exact ⟨Nat.zero_le _, k, m, [], [], XLb.go0 X.e0, mo, X.lat List.not_mem_nil lOb, by omega, Nat.le_refl _, fun _ h => absurd h List.not_mem_nil⟩
          · rintro I i z z' hI ⟨hi', k, m, prs, ps, XL, mo, lO, hkk, hpl, fr⟩ X
            have nI : ∀ {x : Nat}, x < zb.heap.objs.size → x ∉ [I] := fun h => by simpa using Nat.ne_of_lt (Nat.lt_of_lt_of_le h hI)
            exact ⟨hi', k, m, prs, ps, XL.go X.e0 (nI XLb.L.ns.lt) (nI (hand_lt XLb.L)) (nI (scr_lt XLb.L)) (fun b hb' => by rw [List.mem_singleton.mp hb']; exact new_none XLb.L.kp hI) (nI (Heap.lt_size XLb.L.t16)) (nI XLb.lt.lt) (nI XLb.lp.lt) (fun a ha => by simpa using fr a ha), mo, X.lat (nI lOb.lt) lO, hkk, hpl, fr⟩
          · rintro I i t z E' hI ⟨oI, eI, cI⟩ hin ⟨hi', k, m, prs, ps, XL, mo, lO, hkk, hpl, fr⟩
            have nI : ∀ {x : Nat}, x < zb.heap.objs.size → I ≠ x := fun h => Ne.symm (Nat.ne_of_lt (Nat.lt_of_lt_of_le h hI))
            refine store_local k6 XL.L.ns (fun z1 X1 ns1 => ?_) hcls
            have XL1 := XL.loc X1 ns1 (if_neg (by decide)) (if_neg (by decide)) (if_neg (by decide))
            have lO1 := X1.lat (by simpa using lat_ne_ns lO XL.L.ns) lO
            have eI1 := X1.keep _ _ (by simpa using nI XLb.L.ns.lt) eI
            refine wpAny_execs_cons (wpAny_If (wpAny_isTrue_Compare1 (next_ev C XL1.L (by omega) (fun Q' E' hq => const_int fun t z X => hq t z X) (by decide) rfl fun z2 r tr X2 hr0 hr1 L2 => const_int fun t3 z3 X3 => PyProof.Rows.gt_int (wpAny_truthy_bool ?_))))
            have XL3 := (XL1.next X2 L2).go0 X3.e0
            have lO3 := X3.lat List.not_mem_nil (X2.lat (by simpa using nOh) lO1)
            have eI3 := X3.keep _ _ List.not_mem_nil (X2.keep _ _ (by simpa using nI (hand_lt XLb.L)) eI1)
            have mo3 : (fun y => if y = Str.ofString "k" then some (Value.int (i : Int) t) else m y) (Str.ofString "order") = some (.ref OD) := (if_neg (by decide)).trans mo
            have mk3 : (fun y => if y = Str.ofString "k" then some (Value.int (i : Int) t) else m y) (Str.ofString "k") = some (.int (i : Int) t) := if_pos rfl
            by_cases hr : 0 < r
            · rw [decide_eq_true hr, if_pos rfl]
              obtain ⟨x1, u1, _, e1⟩ := strs_get sO (List.getElem?_eq_getElem (show i < ovs.length by omega))
              obtain ⟨x2, u2, _, e2⟩ := strs_get sO (List.getElem?_eq_getElem (show i + 1 < ovs.length by omega))
              have q1 : ovs[((i : Nat) : Int).toNat]? = some (.str x1 u1) := by rw [← e1]; simpa using List.getElem?_eq_getElem (show i < ovs.length by omega)
              have q2 : ovs[(((i : Nat) : Int) + 1).toNat]? = some (.str x2 u2) := by
                rw [← e2, show (((i : Nat) : Int) + 1).toNat = i + 1 by omega]
                exact List.getElem?_eq_getElem (show i + 1 < ovs.length by omega)
              -- pairs.append((order[k], order[k + 1]))
              refine wpAny_execs_cons (wpAny_Expr_any (append_ev2 rfl rfl rfl (gives_local hk k3 XL3.L.ns XL3.mp) XL3.lp (by omega) (wpAny_Tuple (spliced_cons (Subscript_ ((gives_local hk k5 XL3.L.ns mo3) _ _ ((gives_local hk k6 XL3.L.ns mk3) _ _ ?_)))))) hi rfl)
              refine subscriptTail_builtin lO3.typ F.slot_list_getitem.lookup (getItem_listL lO3.isList (by omega) (by omega) q1 (spliced_cons (Subscript_ ((gives_local hk k5 XL3.L.ns mo3) _ _ (wpAny_BinOp ((gives_local hk k6 XL3.L.ns mk3) _ _ (const_int fun t4 z4 X4 => addI fun t5 z5' X5' => ?_)))))))
              have X45 : Ext [] z3 z5' := X4.trans X5'
              have XL5 := XL3.go0 X45.e0
              have lO5 := X45.lat List.not_mem_nil lO3
              refine subscriptTail_builtin lO5.typ F.slot_list_getitem.lookup (getItem_listL lO5.isList (by omega) (by omega) q2 (spliced_nil ⟨by show 2 ≤ sizeLine; decide, ?_⟩))
              have X6' : Ext [] z5' { z5' with heap := z5'.heap.push { cls := .type "tuple", data := .seq (List.toArray [.str x1 u1, .str x2 u2]) } } := Ext.push (tk := z5'.toks)
              have pt : PairAt (z5'.heap.push { cls := .type "tuple", data := .seq (List.toArray [.str x1 u1, .str x2 u2]) }) (.ref z5'.heap.objs.size) (x1, x2) := ⟨_, u1, u2, rfl, _, Heap.get?_push_size _ rfl, rfl, _, rfl⟩
              have XL6 := XL5.go0 X6'.e0
              refine ⟨XL6.lp, fun z7' X7' l7 => wpAny_execs_nil (wpAny_execs_nil ?_)⟩
              have nPT : PL ≠ z5'.heap.objs.size := Nat.ne_of_lt XL5.lp.lt
              have eI5 := X45.keep _ _ List.not_mem_nil eI3
              have nIP : I ≠ PL := nI XLb.lp.lt
              have pp7 := X7'.pairs (pairs_snoc XL6.pp pt) fun a ha => by
                rcases List.mem_append.mp ha with q | q
                · simpa using lat_off XL6.pp XL6.lp a q
                · rw [List.mem_singleton] at q; cases q; simpa using Ne.symm nPT
              have XL7 := XL6.pair X7' l7 pp7 rfl
              refine ⟨rfl, fun ob e _ => ?_, hin, _, _, _, _, XL7, mo3, X7'.lat (by simpa using nOP) (X6'.lat List.not_mem_nil lO5), by omega, by rw [List.length_append, List.length_singleton]; omega, fun a ha => ?_⟩
              · have e1' := X3.keep _ _ List.not_mem_nil (X2.keep _ _ (by simpa using nI (hand_lt XLb.L)) (X1.keep _ _ (by simpa using nI XLb.L.ns.lt) e))
                exact X7'.keep _ _ (by simpa using nIP) (X6'.keep _ _ List.not_mem_nil (X45.keep _ _ List.not_mem_nil e1'))
              · rcases List.mem_append.mp ha with q | q
                · exact fr a q
                · rw [List.mem_singleton] at q; cases q
                  exact Nat.ne_of_gt (Heap.lt_size eI5)
            · rw [decide_eq_false hr, if_neg (by decide)]
              refine wpAny_execs_nil (wpAny_execs_nil ⟨rfl, fun ob e _ => ?_, hin, _, _, prs, ps, XL3, mo3, lO3, by omega, by omega, fr⟩)
              exact X3.keep _ _ List.not_mem_nil (X2.keep _ _ (by simpa using nI (hand_lt XLb.L)) (X1.keep _ _ (by simpa using nI XLb.L.ns.lt) e))
          · rintro I z z' hI ⟨hi', k, m, prs, ps, XL, mo, lO, hkk, hpl, fr⟩ X
            have nI : ∀ {x : Nat}, x < zb.heap.objs.size → x ∉ [I] := fun h => by simpa using Nat.ne_of_lt (Nat.lt_of_lt_of_le h hI)
            refine wpAny_execs_nil ⟨rfl, k, m, prs, ps, XL.go X (nI XLb.L.ns.lt) (nI (hand_lt XLb.L)) (nI (scr_lt XLb.L)) (fun b hb' => by rw [List.mem_singleton.mp hb']; exact new_none XLb.L.kp hI) (nI (Heap.lt_size XLb.L.t16)) (nI XLb.lt.lt) (nI XLb.lp.lt) (fun a ha => by simpa using fr a ha), ?_, ?_⟩
            · omega
            · omega
        · rw [decide_eq_true hl, if_pos rfl]
          have hlp : 0 < lvs.length := by cases lvs with | nil => exact absurd rfl hl | cons a r => simp
          refine wpAny_execs_cons (wpAny_Expr_any (append_ev2 rfl rfl rfl (gives_local hk k5 XL1.L.ns mo) lO1 (by omega) (pop_ev rfl rfl rfl (gives_local hk k4 XL1.L.ns ml) lF1 (by omega) (next_ev (many := (lvs.length : Int)) C XL1.L (by omega) (fun Q' E' hq => len_list C.G XL1.L.kp hk eg ebl j3 n2 b2 (gives_local hk k4 XL1.L.ns ml) lF1 (by omega) (fun t z X => hq t z X) rfl) (by omega) rfl fun z2 r tr X2 hr0 hr1 L2 => ?_))) hi rfl)
          obtain ⟨i, rfl⟩ : ∃ i : Nat, r = i := ⟨r.toNat, by omega⟩
          have hil : i < lvs.length := by omega
          have XL2 := XL1.next X2 L2
          have lF2 := X2.lat (by simpa using nFh) lF1
          have lO2 := X2.lat (by simpa using nOh) lO1
          obtain ⟨kk', tkk, hkk1, hkk2⟩ := strs_get sF (List.getElem?_eq_getElem hil)
          refine ⟨i, tr, lvs[i], rfl, lF2, List.getElem?_eq_getElem hil, fun z3 X3 lF3 => ⟨X3.lat (by simpa using nOF) lO2, fun z4 X4 lO4 => wpAny_execs_nil ?_⟩⟩
          have XL3 := XL2.other X3 lF2 nFh nFS nFT nFP hbF
          have XL4 := XL3.other X4 (X3.lat (by simpa using nOF) lO2) nOh nOS nOT nOP hbO
          rw [hkk2] at lO4
          refine ⟨lvs.length - 1, by omega, k + 1, m, lvs.eraseIdx i, ovs ++ [.str kk' tkk], lks.eraseIdx i, oks ++ [kk'], XL4, ml, mo, X4.lat (by simpa using Ne.symm nOF) lF3, strs_erase sF i, lO4, strs_snoc sO kk' tkk, by rw [List.length_eraseIdx_of_lt hil], by rw [List.length_eraseIdx_of_lt hil, List.length_append, List.length_singleton]; omega, by rw [List.length_append, List.length_singleton]; omega⟩
    · have e1 : (r == 0) = false := by simp [hr]
      rw [e1, if_neg (by decide), if_neg (by decide)]
      exact wpAny_execs_nil ⟨rfl, _, _, _, _, X9L, by omega, by simp⟩
  case rest =>
    obtain ⟨rfl, k, m7, prs, ps, X7L, hk7, hp7⟩ := hz7
    -- if tasks != []
    refine wpAny_execs_cons (cut (fun f z => f = .next ∧ ∃ k m prs ps, LX s₁ env hb hand S ws TL tvs PL k m prs ps z ∧ prs.length ≤ 8) ?blk2 fun f z8 hz8 => ?rest2)
    case blk2 =>
      refine wpAny_If (ne_nil_ev hu1 (gives_local hk k2 X7L.L.ns X7L.mt) X7L.lt fun z8 X8 => ?_)
      have X8L := X7L.go0 X8.e0
      by_cases hne : tvs = []
      · rw [decide_eq_false (by simpa using hne), if_neg (by decide)]
        exact wpAny_execs_nil ⟨rfl, _, _, _, _, X8L, by omega⟩
      · rw [decide_eq_true hne, if_pos rfl]
        have hn0 : 0 < tvs.length := by cases tvs with | nil => exact absurd rfl hne | cons a r => simp
        refine wpAny_execs_cons (for_range C.hh (Call_Name1 (name_builtin C.G X8L.L.kp hk eg ebl j4 n7 b7 (PySem.callWith_type1 (next_ev C X8L.L (by omega) (fun Q' E' hq => const_int fun t z X => hq t z X) (by decide) rfl fun z9 r tr X9 hr0 hr1 L9 => ?_))) rfl))
        obtain ⟨j2, hj2, rfl⟩ : ∃ j2 : Nat, j2 ≤ 4 ∧ r = j2 := ⟨r.toNat, by omega, by omega⟩
        refine call_range_1 ⟨_, j2, _, _, _, rfl, Heap.get?_push_size _ rfl, by omega, ?_⟩
        have X8' : Ext [] z9 { z9 with heap := z9.heap.push { cls := .type "range", data := .fields #[.int 0 z9.toks, .int (j2 : Int) tr, .int 1 (z9.toks + 1)] }, toks := z9.toks + 1 + 1 } := Ext.push
        generalize ({ z9 with heap := z9.heap.push { cls := .type "range", data := .fields #[.int 0 z9.toks, .int (j2 : Int) tr, .int 1 (z9.toks + 1)] }, toks := z9.toks + 1 + 1 } : Shared) = zb at X8' ⊢
        have XLb := (X8L.next X9 L9).go0 X8'.e0
        refine ⟨fun I i z => i ≤ j2 ∧ ∃ k m prs ps, LX s₁ env hb hand S ws TL tvs PL k m prs ps z ∧ k ≤ 30 + 3 * (i : Int) ∧ prs.length ≤ 3 + i ∧ ∀ a, Value.ref a ∈ prs → a ≠ I, ?_, ?_, ?_, ?_⟩
        · intro I z X hI _
          exact ⟨Nat.zero_le _, _, m7, prs, ps, XLb.go0 X.e0, by omega, by omega, fun a ha => Nat.ne_of_lt (Nat.lt_of_lt_of_le (pairs_lt XLb.pp a ha) hI)⟩
        · rintro I i z z' hI ⟨hi', k, m, prs, ps, XL, hkk, hpl, fr⟩ X
          have nI : ∀ {x : Nat}, x < zb.heap.objs.size → x ∉ [I] := fun h => by simpa using Nat.ne_of_lt (Nat.lt_of_lt_of_le h hI)
          exact ⟨hi', k, m, prs, ps, XL.go X.e0 (nI XLb.L.ns.lt) (nI (hand_lt XLb.L)) (nI (scr_lt XLb.L)) (fun b hb' => by rw [List.mem_singleton.mp hb']; exact new_none XLb.L.kp hI) (nI (Heap.lt_size XLb.L.t16)) (nI XLb.lt.lt) (nI XLb.lp.lt) (fun a ha => by simpa using fr a ha), hkk, hpl, fr⟩
        · rintro I i t z E' hI ⟨oI, eI, cI⟩ hin ⟨hi', k, m, prs, ps, XL, hkk, hpl, fr⟩
          have nI : ∀ {x : Nat}, x < zb.heap.objs.size → I ≠ x := fun h => Ne.symm (Nat.ne_of_lt (Nat.lt_of_lt_of_le h hI))
          have nIL : I ∉ [env.locals] := by simpa using nI XLb.L.ns.lt
          have nIh : I ∉ [hand] := by simpa using nI (hand_lt XLb.L)
          have nIP : I ∉ [PL] := by simpa using nI XLb.lp.lt
          refine store_local k6 XL.L.ns (fun z1 X1 ns1 => ?_) hcls
          have XL1 := XL.loc X1 ns1 (if_neg (by decide)) (if_neg (by decide)) (if_neg (by decide))
          -- one = tasks[..]
          refine wpAny_execs_cons (wpAny_Assign_Name (Subscript_ ((gives_local hk k2 XL1.L.ns XL1.mt) _ _ (next_ev (many := (tvs.length : Int)) C XL1.L (by omega) (fun Q' E' hq => len_list C.G XL1.L.kp hk eg ebl j3 n2 b2 (gives_local hk k2 XL1.L.ns XL1.mt) XL1.lt (by omega) (fun t z X => hq t z X) rfl) (by omega) rfl fun z2 r2 tr2 X2 h20 h21 L2 => ?_))))
          have XL2 := XL1.next X2 L2
          obtain ⟨x1, u1, _, e1⟩ := strs_get hts (List.getElem?_eq_getElem (show r2.toNat < tvs.length by omega))
          refine subscriptTail_builtin XL2.lt.typ F.slot_list_getitem.lookup (getItem_listL XL2.lt.isList h20 (by omega) ((List.getElem?_eq_getElem (show r2.toNat < tvs.length by omega)).trans (congrArg some e1)) (store_local k7 XL2.L.ns (fun z3 X3 ns3 => ?_) hcls))
          have XL3 := XL2.loc X3 ns3 (if_neg (by decide)) (if_neg (by decide)) (if_neg (by decide))
          -- other = tasks[..]
          refine wpAny_execs_cons (wpAny_Assign_Name (Subscript_ ((gives_local hk k2 XL3.L.ns XL3.mt) _ _ (next_ev (many := (tvs.length : Int)) C XL3.L (by omega) (fun Q' E' hq => len_list C.G XL3.L.kp hk eg ebl j3 n2 b2 (gives_local hk k2 XL3.L.ns XL3.mt) XL3.lt (by omega) (fun t z X => hq t z X) rfl) (by omega) rfl fun z4 r4 tr4 X4 h40' h41 L4 => ?_))))
          have XL4 := XL3.next X4 L4
          obtain ⟨x2, u2, _, e2⟩ := strs_get hts (List.getElem?_eq_getElem (show r4.toNat < tvs.length by omega))
          refine subscriptTail_builtin XL4.lt.typ F.slot_list_getitem.lookup (getItem_listL XL4.lt.isList h40' (by omega) ((List.getElem?_eq_getElem (show r4.toNat < tvs.length by omega)).trans (congrArg some e2)) (store_local k8 XL4.L.ns (fun z5 X5 ns5 => ?_) hcls))
          have XL5 := XL4.loc X5 ns5 (if_neg (by decide)) (if_neg (by decide)) (if_neg (by decide))
          obtain ⟨m5, XL5, mo1, mo2⟩ : ∃ m5, LX s₁ env hb hand S ws TL tvs PL _ m5 prs ps z5 ∧ m5 (Str.ofString "one") = some (.str x1 u1) ∧ m5 (Str.ofString "other") = some (.str x2 u2) := ⟨_, XL5, (if_neg (by decide)).trans (if_pos rfl), if_pos rfl⟩
          -- pairs.insert(.., (one, other))
          refine wpAny_execs_cons (wpAny_Expr_any (insert_ev rfl rfl rfl (gives_local hk k3 XL5.L.ns XL5.mp) XL5.lp (by omega) (next_ev (many := (prs.length : Int) + 1) C XL5.L (by omega) (fun Q' E' hq => wpAny_BinOp (len_list C.G XL5.L.kp hk eg ebl j3 n2 b2 (gives_local hk k3 XL5.L.ns XL5.mp) XL5.lp (by omega) (fun t z X => const_int fun t2 z2 X2 => addI fun t3 z3 X3 => hq t3 z3 ((X.trans X2).trans X3)) rfl)) (by omega) rfl fun z6 r6 tr6 X6 h60 h61 L6 => ?_)) hi rfl)
          have XL6 := XL5.next X6 L6
          refine wpAny_Tuple (spliced_cons ((gives_local hk k7 XL6.L.ns mo1) _ _ (spliced_cons ((gives_local hk k8 XL6.L.ns mo2) _ _ (spliced_nil ⟨by show 2 ≤ sizeLine; decide, ?_⟩)))))
          have X6' : Ext [] z6 { z6 with heap := z6.heap.push { cls := .type "tuple", data := .seq (List.toArray [.str x1 u1, .str x2 u2]) } } := Ext.push (tk := z6.toks)
          have pt : PairAt (z6.heap.push { cls := .type "tuple", data := .seq (List.toArray [.str x1 u1, .str x2 u2]) }) (.ref z6.heap.objs.size) (x1, x2) := ⟨_, u1, u2, rfl, _, Heap.get?_push_size _ rfl, rfl, _, rfl⟩
          have XL7 := XL6.go0 X6'.e0
          refine ⟨r6, tr6, rfl, XL7.lp, h60, by omega, fun z8 X8 l8 => wpAny_execs_nil ?_⟩
          have nPT : PL ≠ z6.heap.objs.size := Nat.ne_of_lt XL6.lp.lt
          have mem : ∀ a, Value.ref a ∈ prs.take r6.toNat ++ Value.ref z6.heap.objs.size :: prs.drop r6.toNat → Value.ref a ∈ prs ∨ a = z6.heap.objs.size := fun a ha => by
            rcases List.mem_append.mp ha with q | q
            · exact .inl (List.mem_of_mem_take q)
            · rcases List.mem_cons.mp q with q | q
              · cases q; exact .inr rfl
              · exact .inl (List.mem_of_mem_drop q)
          have pp8 := X8.pairs (pairs_insert pt r6.toNat XL7.pp) fun a ha => by
            rcases mem a ha with q | q
            · simpa using lat_off XL7.pp XL7.lp a q
            · subst q; simpa using Ne.symm nPT
          have XL8 := XL7.pair X8 l8 pp8 rfl
          have upI : ∀ ob, z.heap.get? I = some ob → z6.heap.get? I = some ob := fun ob e => X6.keep _ _ nIh (X5.keep _ _ nIL (X4.keep _ _ nIh (X3.keep _ _ nIL (X2.keep _ _ nIh (X1.keep _ _ nIL e)))))
          refine ⟨rfl, fun ob e _ => X8.keep _ _ nIP (X6'.keep _ _ List.not_mem_nil (upI ob e)), hin, _, _, _, _, XL8, by omega, ?_, fun a ha => ?_⟩
          · rw [List.length_append, List.length_cons, List.length_take, List.length_drop]
            omega
          · rcases mem a ha with q | q
            · exact fr a q
            · rw [q]; exact Nat.ne_of_gt (Heap.lt_size (upI _ eI))
        · rintro I z z' hI ⟨hi', k, m, prs, ps, XL, hkk, hpl, fr⟩ X
          have nI : ∀ {x : Nat}, x < zb.heap.objs.size → x ∉ [I] := fun h => by simpa using Nat.ne_of_lt (Nat.lt_of_lt_of_le h hI)
          exact wpAny_execs_nil ⟨rfl, k, m, prs, ps, XL.go X (nI XLb.L.ns.lt) (nI (hand_lt XLb.L)) (nI (scr_lt XLb.L)) (fun b hb' => by rw [List.mem_singleton.mp hb']; exact new_none XLb.L.kp hI) (nI (Heap.lt_size XLb.L.t16)) (nI XLb.lt.lt) (nI XLb.lp.lt) (fun a ha => by simpa using fr a ha), by omega⟩
    case rest2 =>
      clear X7L
      obtain ⟨rfl, k, m8, prs, ps, X8L, hp8⟩ := hz8
      have hsc : scanBound = 4096 := rfl
      have lt1 : ∀ {x y n : Nat}, x < n → n ≤ y → y ≠ x := fun h1 h2 => Nat.ne_of_gt (Nat.lt_of_lt_of_le h1 h2)
      -- names = set(tasks)
      refine wpAny_execs_cons (wpAny_Assign_Name (set_ev C.hh C.G X8L.L.kp hk eg ebl j5 n3 b3 (gives_local hk k2 X8L.L.ns X8L.mt) X8L.lt hts hnd (by omega) (fun NM oN z9 X9 hNM gN SN CN => store_local k9 (X9.ns List.not_mem_nil X8L.L.ns) (fun z10 X10 ns10 => ?_) hcls) rfl))
      have X9L := X8L.go0 X9.e0
      have X10L := X9L.loc X10 ns10 (if_neg (by decide)) (if_neg (by decide)) (if_neg (by decide))
      have gN10 := X10.keep _ _ (by simpa using lt1 X8L.L.ns.lt hNM) gN
      have nNL := lt1 X8L.L.ns.lt hNM
      -- rows = list(pairs)
      refine wpAny_execs_cons (wpAny_Assign_Name (listc_ev C.G X10L.L.kp hk eg ebl j2 n5 b5 (gives_local hk k3 X10L.L.ns X10L.mp) X10L.lp (by omega) (fun RW z11 X11 hRW lRW => store_local k10 (X11.ns List.not_mem_nil X10L.L.ns) (fun z12 X12 ns12 => ?_) hcls) rfl))
      have X11L := X10L.go0 X11.e0
      have X12L := X11L.loc X12 ns12 (if_neg (by decide)) (if_neg (by decide)) (if_neg (by decide))
      have nRL := lt1 X10L.L.ns.lt hRW
      have lRW12 := X12.lat (by simpa using nRL) lRW
      have gN12 := X12.keep _ _ (by simpa using nNL) (X11.keep _ _ List.not_mem_nil gN10)
      obtain ⟨m12, X12L, mN, mR⟩ : ∃ m12, LX s₁ env hb hand S ws TL tvs PL k m12 prs ps z12 ∧ m12 (Str.ofString "names") = some (.ref NM) ∧ m12 (Str.ofString "rows") = some (.ref RW) := ⟨_, X12L, (if_neg (by decide)).trans (if_pos rfl), if_pos rfl⟩
      clear X12 X11 X11L X10L X10 X9L X9 X8L ns12 ns10 gN10 gN lRW
      have n16N : (16 : Addr) ≠ NM := fun q => by
        have e := X12L.L.t16
        rw [q, gN12] at e
        have c := SN.1.1
        cases e; cases c
      have n16R := X12L.L.tA lRW12
      have n16L := X12L.L.tL
      have hP16b : hb.get? 16 = none := hP16
      -- told = _build_total_order(names, rows)
      refine wpAny_execs_cons (wpAny_Assign_Name (call_fn2 (P := fun v => v = .ref RW) C.G X12L.L.kp hk eg j6 g2 (C.KX 19 _ rfl) rfl (gives_local hk k9 X12L.L.ns mN) (fun Q' E' hq => (gives_local hk k10 X12L.L.ns mR) _ _ (hq _ _ rfl (Ext.refl _ _))) (fun v z hv X => ?_) rfl))
      subst hv
      have XzL := X12L.go0 X.e0
      have gNz := X.keep _ _ List.not_mem_nil gN12
      have lRz := X.lat List.not_mem_nil lRW12
      have CHz : CodeHd z.heap 18 16 := CH1.keeps XzL.L.kp
      refine build_contract C.G C.KX XzL.L.kp C.hh (by have := C.hu; omega) (by have := C.hroom; omega) n1 n2 n3 b1 b2 b3 gNz SN (CN ht4) ht4 hnd lRz XzL.pp (by omega) (CHz.code XzL.L.t16 (by exact True.intro)) (CHz.tab XzL.L.t16) hP16b n16R (fun a ha => pairs_off XzL.pp XzL.L.t16 (by intro q; cases q) a ha) n16N fun z13 told tabs' X13 tab13 htold => ?_
      have nm : ∀ {x y : Addr}, x ≠ y → x ∉ [y] := fun h => by simpa using h
      have ns13 := X13.ns (nm (Ne.symm n16L)) XzL.L.ns
      refine store_local k11 ns13 (fun z14 X14 ns14 => ?_) hcls
      have w16 : ∀ p ∈ [16, env.locals], hb.get? p = none := fun p hp => by
        simp only [List.mem_cons, List.not_mem_nil, or_false] at hp
        rcases hp with rfl | rfl
        · exact hP16b
        · exact hbL
      have Y14 : Ext0 [16, env.locals] z z14 := (X13.e0.mono (fun p hp => by simp at hp ⊢; exact .inl hp)).next X14.e0 (fun p hp => .inl (by simp at hp ⊢; exact .inr hp))
      have off : ∀ {l : Addr} {vs : List Value}, LAt z.heap l vs → l ∉ [16, env.locals] := fun x => by
        simp only [List.mem_cons, List.not_mem_nil, or_false, not_or]
        exact ⟨Ne.symm (XzL.L.tA x), lat_ne_ns x XzL.L.ns⟩
      have proff : ∀ a, Value.ref a ∈ prs → a ∉ [16, env.locals] := fun a ha => by
        simp only [List.mem_cons, List.not_mem_nil, or_false, not_or]
        exact ⟨pairs_off XzL.pp XzL.L.t16 (by intro q; cases q) a ha, ns_off XzL.pp XzL.L.ns a ha⟩
      have lT14 := Y14.lat (off XzL.lt) XzL.lt
      have lP14 := Y14.lat (off XzL.lp) XzL.lp
      have lR14 := Y14.lat (off lRz) lRz
      have pp14 := Y14.pairs XzL.pp proff
      have gN14 := Y14.keep _ _ (by simp only [List.mem_cons, List.not_mem_nil, or_false, not_or]; exact ⟨Ne.symm n16N, nNL⟩) gNz
      have kp14 := Y14.kp XzL.L.kp w16
      have t14 : z14.heap.get? 16 = some (tabObj tabs') := X14.keep _ _ (nm n16L) tab13.2
      have os14 : z14.os = s₁.os := Y14.os.trans XzL.L.os
      have bare14 : AllBare z14.gens := Y14.bare XzL.L.bare
      obtain ⟨m14, ns14, mT, mP, mN, mR, mB⟩ : ∃ m14, z14.heap.Ns env.locals m14 ∧ m14 (Str.ofString "tasks") = some (.ref TL) ∧ m14 (Str.ofString "pairs") = some (.ref PL) ∧ m14 (Str.ofString "names") = some (.ref NM) ∧ m14 (Str.ofString "rows") = some (.ref RW) ∧ m14 (Str.ofString "told") = some told :=
        ⟨_, ns14, (if_neg (by decide)).trans X12L.mt, (if_neg (by decide)).trans X12L.mp, (if_neg (by decide)).trans mN, (if_neg (by decide)).trans mR, if_pos rfl⟩
      -- orders = _law_orders(tasks, pairs)
      refine wpAny_execs_cons (wpAny_Assign_Name (call_fn2 (P := fun v => v = .ref PL) C.G kp14 hk eg j7 g3 (C.KX 31 _ rfl) rfl (gives_local hk k2 ns14 mT) (fun Q' E' hq => (gives_local hk k3 ns14 mP) _ _ (hq _ _ rfl (Ext.refl _ _))) (fun v y hv X' => ?_) rfl))
      subst hv
      refine orders_contract C.G C.KX (X'.kp kp14 (fun b hb' => absurd hb' List.not_mem_nil)) C.hh (by have := C.hroom; omega) n1 n2 n7 b1 b2 b7 (X'.lat List.not_mem_nil lT14) hts ht4 (X'.lat List.not_mem_nil lP14) (X'.pairs pp14 fun _ _ => List.not_mem_nil) (by omega) fun z15 OL ovs X15 hOL lOL rel => ?_
      have Y15 : Ext [] z14 z15 := X'.trans X15
      refine store_local k12 (Y15.ns List.not_mem_nil ns14) (fun z16 X16 ns16 => ?_) hcls
      have nOL := lt1 (X'.ns List.not_mem_nil ns14).lt hOL
      have lO16 := X16.lat (nm nOL) lOL
      have rel16 := ords_keep rel fun a ha ob e => X16.keep _ _ (nm (by obtain ⟨oL', eL', dL'⟩ := live_ns (Y15.ns List.not_mem_nil ns14); exact ords_off rel eL' dL' a ha)) e
      have Y16 : Ext0 [env.locals] z14 z16 := (Y15.e0.mono (fun _ h => absurd h List.not_mem_nil)).next X16.e0 (fun p hp => .inl hp)
      have hu0 : A.units < cLine := by omega
      have nmL : ∀ x v, x ≠ Str.ofString "orders" → m14 x = some v → (fun y => if y = Str.ofString "orders" then some (Value.ref OL) else m14 y) x = some v := fun x v hx e => (if_neg hx).trans e
      have mT16 := nmL _ _ (by decide) mT
      have mP16 := nmL _ _ (by decide) mP
      have mN16 := nmL _ _ (by decide) mN
      have mR16 := nmL _ _ (by decide) mR
      have mB16 := nmL _ _ (by decide) mB
      have mO16 : (fun y => if y = Str.ofString "orders" then some (Value.ref OL) else m14 y) (Str.ofString "orders") = some (.ref OL) := if_pos rfl
      generalize (fun y => if y = Str.ofString "orders" then some (Value.ref OL) else m14 y) = m16 at ns16 mT16 mP16 mN16 mR16 mB16 mO16
      have off14 : ∀ {l : Addr} {vs : List Value}, LAt z14.heap l vs → l ∉ [env.locals] := fun x => nm (lat_ne_ns x ns14)
      have gN16 := Y16.keep _ _ (nm nNL) gN14
      have kp16 := Y16.kp kp14 fun b hb' => by rw [List.mem_singleton.mp hb']; exact hbL
      -- if sorted(names) != tasks or rows != pairs
      refine wpAny_execs_cons (wpAny_If (isTrue_or (wpAny_isTrue_Compare1 (call_one C.G kp16 hk eg ebl j8 n4 b4 (gives_local hk k9 ns16 mN16) (sorted_set C.hh gN16 SN (by omega) fun SR n vs ls h' dr tk hSR gSR sls pls srt kps => ?_) rfl))))
      have X17 : Ext [] z16 { z16 with heap := h', drawn := dr, toks := tk } := ⟨fun b x _ e => kps b x e, Nat.le_of_lt (Nat.lt_of_le_of_lt hSR (Heap.lt_size gSR)), rfl, id⟩
      have lSR : LAt ({ z16 with heap := h', drawn := dr, toks := tk } : Shared).heap SR vs := ⟨n, gSR⟩
      generalize ({ z16 with heap := h', drawn := dr, toks := tk } : Shared) = z17 at X17 lSR ⊢
      have hls : ls = ts := by
        rw [← hts'] at pls ⊢
        exact sorted_four hj pls srt
      subst hls
      have Y17 : Ext0 [env.locals] z14 z17 := Y16.next X17.e0 (fun p hp => absurd hp List.not_mem_nil)
      have ns17 := X17.ns List.not_mem_nil ns16
      have lT17 := Y17.lat (off14 lT14) lT14
      have lP17 := Y17.lat (off14 lP14) lP14
      have lR17 := Y17.lat (off14 lR14) lR14
      have lO17 := X17.lat List.not_mem_nil lO16
      have rel17 := ords_keep rel16 fun a ha ob e => X17.keep _ _ List.not_mem_nil e
      refine (gives_local hk k2 ns17 mT16) _ _ (ne_strs hu0 lSR sls lT17 hts (wpAny_truthy_bool ?_))
      rw [if_neg (by decide)]
      refine isTrue_or (wpAny_isTrue_Compare1 ((gives_local hk k10 ns17 mR16) _ _ ((gives_local hk k3 ns17 mP16) _ _ (ne_same hu0 lR17 lP17 (wpAny_truthy_bool ?_)))))
      rw [if_neg (by decide)]
      refine isTrue_or_nil ?_
      rw [if_neg (by decide)]
      refine wpAny_execs_nil ?_
      have hpl := plain_law hnd ps
      have hov : ovs.length = (levels ls ps ls.length).length := rel.length
      have hol : ovs.length ≤ 1000 := by
        rw [hov]
        refine Nat.le_trans (levels_len ls ps ls.length) (Nat.le_trans (Nat.pow_le_pow_left ht4 _) (Nat.le_trans (Nat.pow_le_pow_right (by decide) ht4) (by decide)))
      have fin : ∀ z18, Ext [] z17 z18 → Kp (ghostOf s₁.heap [(18, 16)]) z18.heap ∧ z18.heap.get? 16 = some (tabObj tabs') ∧ z18.os = s₁.os ∧ AllBare z18.gens := fun z18 X18 => by
        have Y18 : Ext0 [env.locals] z14 z18 := Y17.next X18.e0 (fun p hp => absurd hp List.not_mem_nil)
        refine ⟨?_, Y18.keep _ _ (nm n16L) t14, Y18.os.trans os14, Y18.bare bare14⟩
        rw [hHB]
        exact Y18.kp kp14 fun b hb' => by rw [List.mem_singleton.mp hb']; exact hbL
      have kp17 := X17.kp kp16 fun b hb' => absurd hb' List.not_mem_nil
      -- if len(orders) == 1
      refine wpAny_execs_cons (wpAny_If (wpAny_isTrue_Compare1 (len_list C.G kp17 hk eg ebl j3 n2 b2 (gives_local hk k12 ns17 mO16) lO17 (by omega) (fun t z18 X18 => const_int fun t2 z19 X19 => PyProof.Rows.eq_int (wpAny_truthy_bool ?_)) rfl)))
      have X1719 : Ext [] z17 z19 := X18.trans X19
      have ns19 := X1719.ns List.not_mem_nil ns17
      by_cases h1 : ovs.length = 1
      · rw [h1, if_pos (by decide)]
        obtain ⟨o1, hlv⟩ : ∃ o1, levels ls ps ls.length = [o1] := by
          rw [h1] at hov
          match hq : levels ls ps ls.length, hov with
          | [o1], _ => exact ⟨o1, rfl⟩
        rw [hlv] at hpl rel17
        obtain ⟨v1, hvv, hv1⟩ : ∃ v1, ovs = [v1] ∧ Ord z17.heap v1 o1 := by
          cases rel17 with
          | cons a r => cases r; exact ⟨_, rfl, a⟩
        subst hvv
        obtain ⟨oa, ows, rfl, loa, soa⟩ := hv1
        have hb1 : bld ls ps ls.length [] = some o1 := hpl
        rw [hb1] at htold
        obtain ⟨R1, vs1, rfl, hR1, lR1, sR1⟩ := htold
        have lR1' : LAt z14.heap R1 vs1 := X14.lat (nm (lat_ne_ns lR1 ns13)) lR1
        have lR17' := Y17.lat (off14 lR1') lR1'
        refine wpAny_execs_cons (wpAny_Return_some (wpAny_Compare1 ((gives_local hk k11 ns19 mB16) _ _ (item_ev (gives_local hk k12 ns19 mO16) (X1719.lat List.not_mem_nil lO17) (by decide) (by decide) rfl fun z20 X20 => ?_))))
        have X20' : Ext [] z17 z20 := X1719.trans X20
        obtain ⟨f1, f2, f3, f4⟩ := fin z20 X20'
        refine eq_strs hu0 (X20'.lat List.not_mem_nil lR17') sR1 (X20'.lat List.not_mem_nil loa) soa ?_
        exact law_done hT9 (fun _ _ => rfl) (by wrow_post) rfl f1 f2 f3 f4
      · have e1 : ((ovs.length : Int) == 1) = false := by simp only [beq_eq_false_iff_ne, ne_eq]; omega
        rw [e1, if_neg (by decide)]
        refine wpAny_execs_nil ?_
        have hb1 : bld ls ps ls.length [] = none := by
          rw [hpl]
          have hne1 : (levels ls ps ls.length).length ≠ 1 := by rw [← hov]; exact h1
          match hq : levels ls ps ls.length, hne1 with
          | [], _ => rfl
          | [_], h => exact absurd rfl h
          | _ :: _ :: _, _ => rfl
        rw [hb1] at htold
        have htn : told = Value.none := htold
        subst htn
        obtain ⟨f1, f2, f3, f4⟩ := fin z19 X1719
        refine wpAny_execs_cons (wpAny_Return_some (wpAny_Compare1 ((gives_local hk k11 ns19 mB16) _ _ (Constant_none (is_none ?_)))))
        exact law_done hT9 (fun _ _ => rfl) (by wrow_post) rfl f1 f2 f3 f4
