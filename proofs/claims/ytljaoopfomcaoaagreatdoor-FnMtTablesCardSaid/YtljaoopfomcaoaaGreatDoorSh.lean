/-
  The library's sort of texts, laid at the program (the first two declarations: printed by the kit's tool), and what it makes of an owned slice of keys.
-/
import Derived.Shelf.Sort.Plain
import Derived.Shelf.Slices.In.SortNone
import Derived.Sort.OwnSorted
import Derived.Test.YtljaoopfomcaoaaGreatDoorVf
set_option linter.unusedVariables false
set_option linter.unusedSimpArgs false
namespace Go.Proofs.YtljaoopfomcaoaaGreatDoor
open Go.RowKit Go.Shelf Go.Sort

def lays190_ren : Go.Shelf.Ren := ⟨fun | 190 => 119 | 125 => 148 | 258 => 147 | 128 => 172 | 129 => 173 | 302 => 163 | 303 => 164 | 304 => 165 | 305 => 166 | 306 => 167 | 307 => 168 | 308 => 169 | 309 => 170 | 310 => 171 | 333 => 197 | 329 => 198 | 330 => 199 | 334 => 200 | 335 => 201 | 336 => 202 | 344 => 214 | n => n, fun | 31 => 23 | 9 => 9 | 3 => 3 | 46 => 201 | 0 => 0 | 51 => 228 | 53 => 230 | 4 => 4 | 183 => 221 | 182 => 220 | 131 => 225 | 5 => 5 | 218 => 258 | 222 => 85 | 228 => 280 | 229 => 281 | n => n, fun | n => n⟩
theorem lays190 : Go.Proofs.Lays.n190 Tryz.prog lays190_ren := {
  mixed := by kernel_rfl
  f125 := Tryz.func148.trans (congrArg some (by kernel_rfl))
  f128 := Tryz.func172.trans (congrArg some (by kernel_rfl))
  f129 := Tryz.func173.trans (congrArg some (by kernel_rfl))
  f190 := Tryz.func119.trans (congrArg some (by kernel_rfl))
  f258 := Tryz.func147.trans (congrArg some (by kernel_rfl))
  f302 := Tryz.func163.trans (congrArg some (by kernel_rfl))
  f303 := Tryz.func164.trans (congrArg some (by kernel_rfl))
  f304 := Tryz.func165.trans (congrArg some (by kernel_rfl))
  f305 := Tryz.func166.trans (congrArg some (by kernel_rfl))
  f306 := Tryz.func167.trans (congrArg some (by kernel_rfl))
  f307 := Tryz.func168.trans (congrArg some (by kernel_rfl))
  f308 := Tryz.func169.trans (congrArg some (by kernel_rfl))
  f309 := Tryz.func170.trans (congrArg some (by kernel_rfl))
  f310 := Tryz.func171.trans (congrArg some (by kernel_rfl))
  f329 := Tryz.func198.trans (congrArg some (by kernel_rfl))
  f330 := Tryz.func199.trans (congrArg some (by kernel_rfl))
  f333 := Tryz.func197.trans (congrArg some (by kernel_rfl))
  f334 := Tryz.func200.trans (congrArg some (by kernel_rfl))
  f335 := Tryz.func201.trans (congrArg some (by kernel_rfl))
  f336 := Tryz.func202.trans (congrArg some (by kernel_rfl))
  f344 := Tryz.func214.trans (congrArg some (by kernel_rfl))
  t0 := Tryz.underlying0
  a0 := Tryz.isAgg0
  z0 := Tryz.sizeOf0
  v0 := Tryz.zeroValue0
  t3 := Tryz.underlying3
  a3 := Tryz.isAgg3
  z3 := Tryz.sizeOf3
  v3 := Tryz.zeroValue3
  t4 := Tryz.underlying4
  a4 := Tryz.isAgg4
  z4 := Tryz.sizeOf4
  v4 := Tryz.zeroValue4
  t5 := Tryz.underlying5
  a5 := Tryz.isAgg5
  z5 := Tryz.sizeOf5
  v5 := Tryz.zeroValue5
  t9 := Tryz.underlying9
  a9 := Tryz.isAgg9
  z9 := Tryz.sizeOf9
  v9 := Tryz.zeroValue9
  t31 := Tryz.underlying23
  a31 := Tryz.isAgg23
  z31 := Tryz.sizeOf23
  v31 := Tryz.zeroValue23
  t46 := Tryz.underlying201
  a46 := Tryz.isAgg201
  z46 := Tryz.sizeOf201
  v46 := Tryz.zeroValue201
  t51 := Tryz.underlying228
  a51 := Tryz.isAgg228
  z51 := Tryz.sizeOf228
  v51 := Tryz.zeroValue228
  t53 := Tryz.underlying230
  a53 := Tryz.isAgg230
  z53 := Tryz.sizeOf230
  v53 := Tryz.zeroValue230
  t131 := Tryz.underlying225
  a131 := Tryz.isAgg225
  z131 := Tryz.sizeOf225
  v131 := Tryz.zeroValue225
  t182 := Tryz.underlying220
  a182 := Tryz.isAgg220
  z182 := Tryz.sizeOf220
  v182 := Tryz.zeroValue220
  t183 := Tryz.underlying221
  a183 := Tryz.isAgg221
  z183 := Tryz.sizeOf221
  v183 := Tryz.zeroValue221
  t218 := Tryz.underlying258
  a218 := Tryz.isAgg258
  z218 := Tryz.sizeOf258
  v218 := Tryz.zeroValue258
  t222 := Tryz.underlying85
  a222 := Tryz.isAgg85
  z222 := Tryz.sizeOf85
  v222 := Tryz.zeroValue85
  t228 := Tryz.underlying280
  a228 := Tryz.isAgg280
  z228 := Tryz.sizeOf280
  v228 := Tryz.zeroValue280
  t229 := Tryz.underlying281
  a229 := Tryz.isAgg281
  z229 := Tryz.sizeOf281
  v229 := Tryz.zeroValue281 }

/-- Rows of keys. -/
abbrev kRows (ks : List K) : List (List Value) := ks.map fun k => [Value.string k]

def kle (a b : K) : Bool := decide (a.data.toList ≤ b.data.toList)

theorem sort_keys {w : World} {base : Nat} {v : Value} {ks : List K} (h : OwnR w base 9 1 v (kRows ks)) (hl : ks.length < 1099511627776) :
    Calls Tryz.prog 119 #[v] w fun e w' => e = .returned (.tuple #[]) ∧ ∃ ks' : List K, ks'.Perm ks ∧ ks'.Pairwise (fun a b => a.data.toList ≤ b.data.toList) ∧ OwnR w' base 9 1 v (kRows ks') ∧ Chg (fun b => v.ownBlock = some b) w w' := by
  have hren : lays190_ren.f 190 = 119 := rfl
  rcases h.2.2 with ⟨rfl, hn⟩ | ⟨g, cap, cur, rfl, hg, hb, h1, h2, h3, h4⟩
  · have hk : ks = [] := by simpa using hn
    subst hk
    refine (Any.slices_Sort_string_none lays190 none 0 w).mono ?_
    rintro e w' ⟨rfl, rfl⟩
    exact ⟨rfl, [], .refl _, List.Pairwise.nil, OwnR.nil _ _ _ _, Chg.refl _ _⟩
  · obtain ⟨ss, hss⟩ : ∃ ss : List (List UInt8), ss = ks.map fun k => k.data.toList := ⟨_, rfl⟩
    have hflat : ∀ l : List K, (kRows l).flatten = (l.map fun k => k.data.toList).map encStr := fun l => by
      induction l with
      | nil => rfl
      | cons a r ih =>
        simp only [kRows, List.map_cons, List.flatten_cons] at ih ⊢
        rw [ih]
        rfl
    have hlen : (kRows ks).length = ss.length := by simp [hss]
    rw [hlen] at h1 h4 ⊢
    rw [hflat, ← hss, Nat.mul_one] at h4
    have hH := holds_of_block hb h4
    refine (Any.slices_Sort_string lays190 g 0 cap ss w hH (Array.getElem?_eq_some_iff.1 hb).1 (by rw [hss]; simp; omega)).mono ?_
    rintro e w' ⟨rfl, n, os, rfl⟩
    have hperm := List.mergeSort_perm ss (fun x y => decide (x ≤ y))
    have hmk : ∀ l : List (List UInt8), (l.map fun b => (⟨b.toArray⟩ : K)).map (fun k => k.data.toList) = l := fun l => by
      rw [List.map_map]; exact List.map_id'' (fun x => rfl) l
    have hmk2 : ∀ l : List K, (l.map fun k => k.data.toList).map (fun b => (⟨b.toArray⟩ : K)) = l := fun l => by
      rw [List.map_map]; exact List.map_id'' (fun x => rfl) l
    refine ⟨rfl, (ss.mergeSort fun x y => decide (x ≤ y)).map fun b => (⟨b.toArray⟩ : K), ?_, ?_, ⟨by simp, ?_⟩, (Chg.grown (grownBy_sorted _)).mono (fun i _ e => by cases e; rfl)⟩
    · have hp2 := hperm.map (fun b => (⟨b.toArray⟩ : K))
      rw [hss, hmk2] at hp2
      rw [hss]
      exact hp2
    · rw [List.pairwise_map]
      have hs := List.pairwise_mergeSort (le := fun x y : List UInt8 => decide (x ≤ y)) (fun a b c hab hbc => by simp at *; exact List.le_trans hab hbc) (fun a b => by simpa using List.le_total a b) ss
      exact hs.imp (fun h => by simpa using h)
    · have hfin := ownsRow_sorted (n := n) (os := os) (ts := ss.mergeSort fun x y => decide (x ≤ y)) (by simp) hg hb h1 h2 h3
      rw [hflat, hmk]
      simpa using hfin

end Go.Proofs.YtljaoopfomcaoaaGreatDoor
