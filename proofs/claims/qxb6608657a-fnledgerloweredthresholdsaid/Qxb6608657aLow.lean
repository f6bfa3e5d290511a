/-
  CONTRACTS of (*Ledger).lowered (19), a region that draws its order, and of ZZlowered (17).
-/
import Derived.Test.Qxb6608657aLedg
import Derived.StillTactics
import Derived.Deep.RegionHeld3
import Derived.Deep.RegionWith
namespace Go.Proofs.Qxb6608657a
open Go.RowKit

set_option maxHeartbeats 1000000 in
theorem lowered_ft (b : Nat) (c hh hl la th tl : Int) (w : World) (hL : Led b c hh hl la th tl w) (x : Bool) (ea : atm hh hl c = false) (eb : atm th tl c = x) :
    Calls Try.prog 19 #[.pointer (some ⟨b, 0, none⟩)] w fun e w' => e = .returned (.bool (!x)) ∧ Grown w w' := by
  obtain ⟨h0, h1, h2, h3, h4, h5, h6⟩ := hL
  clear h4
  go_enter Try.func19, Try.ntmps19
  go_wp2
  go_region_held3 (fun w' => b < w'.heap.size ∧ w'.cell? ⟨b, 2, none⟩ = some (.int .u64 c) ∧ w'.cell? ⟨b, 18, none⟩ = some (.int .u64 hh) ∧ w'.cell? ⟨b, 19, none⟩ = some (.int .u64 hl) ∧ w'.cell? ⟨b, 22, none⟩ = some (.int .u64 th) ∧ w'.cell? ⟨b, 23, none⟩ = some (.int .u64 tl)) (simp [*, go_sem, World.cell?_alloc_past] <;> omega)
    (first
      | (go_at_call 13; refine (atMost_any _ _ _ _).mono ?_; rintro e w' ⟨rfl, o1, rfl⟩))
  all_goals (go_wp2; go_ret; exact ⟨rfl, by repeat (first | exact Grown.refl _ | apply Grown.drew | apply Grown.alloc)⟩)

section
variable {P : Program} {ops : Array Oper} {Q : Exit → Act → World → Prop} {md : Region.Mode} {S : World → Prop}
/-- An operation that is wanted and yields v in every world that meets S is taken first; its slot by number. -/
theorem takeH {i : Nat} {oi : Oper} {d : Option Tmp} {v : Value} {fuel : Nat} {listed : Array Bool} {a : Act} {w : World} (hi : ops[i]? = some oi) (hd : oi.dst = d)
    (hs : Region.noSelect ops = true) (hf : Region.free md ops listed i = true) (hr : (Region.ready md ops listed).contains i = true)
    (hQ : ∀ c a w, Q (.panic c) (a.put d v) w → Q (.panic c) a w) (hw : Region.wanted oi (yielded ops a.tmps) = true) (hy : ∀ w, S w → (execOp a.eval oi).run P w = .ok (.value v) w) (hS : S w)
    (h : wpAnyH P md ops Q S fuel (listed.setIfInBounds i true) (a.put d v) w) : wpAnyH P md ops Q S (fuel + 1) listed a w := by
  subst hd
  exact wpAnyH_take hi hs hf hr hQ (Or.inl ⟨hw, hy⟩) hS h
/-- An operation whose guard says no is passed over first. -/
theorem skipH {i : Nat} {oi : Oper} {d : Option Tmp} {fuel : Nat} {listed : Array Bool} {a : Act} {w : World} (hi : ops[i]? = some oi) (hd : oi.dst = d)
    (hs : Region.noSelect ops = true) (hf : Region.free md ops listed i = true) (hr : (Region.ready md ops listed).contains i = true)
    (hQ : ∀ c a w, Q (.panic c) (a.put d undef) w → Q (.panic c) a w) (hw : Region.wanted oi (yielded ops a.tmps) = false) (hS : S w)
    (h : wpAnyH P md ops Q S fuel (listed.setIfInBounds i true) (a.put d undef) w) : wpAnyH P md ops Q S (fuel + 1) listed a w := by
  subst hd
  exact wpAnyH_take hi hs hf hr hQ (Or.inr ⟨hw, rfl⟩) hS h
end

set_option maxHeartbeats 1000000 in
theorem lowered_t (b : Nat) (c hh hl la th tl : Int) (w : World) (hL : Led b c hh hl la th tl w) (ea : atm hh hl c = true) :
    Calls Try.prog 19 #[.pointer (some ⟨b, 0, none⟩)] w fun e w' => e = .returned (.bool false) ∧ Grown w w' := by
  obtain ⟨h0, h1, h2, h3, h4, h5, h6⟩ := hL
  clear h4 h5 h6
  go_enter Try.func19, Try.ntmps19
  go_wp2
  refine wp_region_held_drew (S := fun w' => b < w'.heap.size ∧ w'.cell? ⟨b, 2, none⟩ = some (.int .u64 c) ∧ w'.cell? ⟨b, 18, none⟩ = some (.int .u64 hh) ∧ w'.cell? ⟨b, 19, none⟩ = some (.int .u64 hl)) (by kernel_rfl) (by simp [*, go_sem]) (fun hS => ?_)
  refine takeH (i := 0) (d := some 3) (v := .pointer (some ⟨b, 0, none⟩)) rfl rfl (by kernel_rfl) (by kernel_rfl) (by kernel_rfl) (fun _ _ _ h => h) (by rfl) ?_ (by assumption) ?_
  · intro w1 hSw
    go_simp
  simp only [Act.put, List.setIfInBounds_toArray, List.set_cons_zero, List.set_cons_succ]
  refine takeH (i := 1) (d := some 4) (v := .pointer (some ⟨b, 0, none⟩)) rfl rfl (by kernel_rfl) (by kernel_rfl) (by kernel_rfl) (fun _ _ _ h => h) (by rfl) ?_ (by assumption) ?_
  · intro w1 hSw
    go_simp
  simp only [Act.put, List.setIfInBounds_toArray, List.set_cons_zero, List.set_cons_succ]
  refine takeH (i := 2) (d := some 5) (v := .pointer (some ⟨b, 18, none⟩)) rfl rfl (by kernel_rfl) (by kernel_rfl) (by kernel_rfl) (fun _ _ _ h => h) (by rfl) ?_ (by assumption) ?_
  · intro w1 hSw
    go_simp
  simp only [Act.put, List.setIfInBounds_toArray, List.set_cons_zero, List.set_cons_succ]
  refine takeH (i := 3) (d := some 6) (v := .agg #[.int .u64 hh, .int .u64 hl]) rfl rfl (by kernel_rfl) (by kernel_rfl) (by kernel_rfl) (fun _ _ _ h => h) (by rfl) ?_ (by assumption) ?_
  · intro w1 hSw
    go_simp
  simp only [Act.put, List.setIfInBounds_toArray, List.set_cons_zero, List.set_cons_succ]
  refine takeH (i := 4) (d := some 7) (v := .pointer (some ⟨b, 0, none⟩)) rfl rfl (by kernel_rfl) (by kernel_rfl) (by kernel_rfl) (fun _ _ _ h => h) (by rfl) ?_ (by assumption) ?_
  · intro w1 hSw
    go_simp
  simp only [Act.put, List.setIfInBounds_toArray, List.set_cons_zero, List.set_cons_succ]
  refine takeH (i := 5) (d := some 8) (v := .pointer (some ⟨b, 0, none⟩)) rfl rfl (by kernel_rfl) (by kernel_rfl) (by kernel_rfl) (fun _ _ _ h => h) (by rfl) ?_ (by assumption) ?_
  · intro w1 hSw
    go_simp
  simp only [Act.put, List.setIfInBounds_toArray, List.set_cons_zero, List.set_cons_succ]
  refine takeH (i := 6) (d := some 9) (v := .pointer (some ⟨b, 0, none⟩)) rfl rfl (by kernel_rfl) (by kernel_rfl) (by kernel_rfl) (fun _ _ _ h => h) (by rfl) ?_ (by assumption) ?_
  · intro w1 hSw
    go_simp
  simp only [Act.put, List.setIfInBounds_toArray, List.set_cons_zero, List.set_cons_succ]
  refine takeH (i := 7) (d := some 10) (v := .pointer (some ⟨b, 2, none⟩)) rfl rfl (by kernel_rfl) (by kernel_rfl) (by kernel_rfl) (fun _ _ _ h => h) (by rfl) ?_ (by assumption) ?_
  · intro w1 hSw
    go_simp
  simp only [Act.put, List.setIfInBounds_toArray, List.set_cons_zero, List.set_cons_succ]
  refine takeH (i := 8) (d := some 11) (v := .int .u64 c) rfl rfl (by kernel_rfl) (by kernel_rfl) (by kernel_rfl) (fun _ _ _ h => h) (by rfl) ?_ (by assumption) ?_
  · intro w1 hSw
    go_simp
  simp only [Act.put, List.setIfInBounds_toArray, List.set_cons_zero, List.set_cons_succ]
  refine wpAnyH_ready (rs := [9]) (by kernel_rfl) (by simp) ?_
  refine AllReadyH.cons rfl (fun K hK => ?_) AllReadyH.nil
  go_simp
  go_wp2_with (go_at_call 13; refine (atMost_any _ _ _ _).mono ?_; rintro e w' ⟨rfl, o1, rfl⟩)
  refine hK.out _ _ ?_ (fun hS2 => ?_)
  · simp [*, go_sem, World.cell?_alloc_past] <;> omega
  clear hK K hS
  try simp only [Act.put, List.setIfInBounds_toArray, List.set_cons_zero, List.set_cons_succ]
  refine takeH (i := 10) (d := some 13) (v := .bool false) rfl rfl (by kernel_rfl) (by kernel_rfl) (by kernel_rfl) (fun _ _ _ h => h) (by rfl) ?_ (by assumption) ?_
  · intro w1 hSw
    go_simp
  simp only [Act.put, List.setIfInBounds_toArray, List.set_cons_zero, List.set_cons_succ]
  refine takeH (i := 11) (d := some 14) (v := .bool false) rfl rfl (by kernel_rfl) (by kernel_rfl) (by kernel_rfl) (fun _ _ _ h => h) (by rfl) ?_ (by assumption) ?_
  · intro w1 hSw
    go_simp
  simp only [Act.put, List.setIfInBounds_toArray, List.set_cons_zero, List.set_cons_succ]
  refine skipH (i := 12) (d := some 15) rfl rfl (by kernel_rfl) (by kernel_rfl) (by kernel_rfl) (fun _ _ _ h => h) (by rfl) (by assumption) ?_
  simp only [Act.put, List.setIfInBounds_toArray, List.set_cons_zero, List.set_cons_succ]
  refine skipH (i := 13) (d := some 16) rfl rfl (by kernel_rfl) (by kernel_rfl) (by kernel_rfl) (fun _ _ _ h => h) (by rfl) (by assumption) ?_
  simp only [Act.put, List.setIfInBounds_toArray, List.set_cons_zero, List.set_cons_succ]
  refine skipH (i := 14) (d := some 17) rfl rfl (by kernel_rfl) (by kernel_rfl) (by kernel_rfl) (fun _ _ _ h => h) (by rfl) (by assumption) ?_
  simp only [Act.put, List.setIfInBounds_toArray, List.set_cons_zero, List.set_cons_succ]
  refine skipH (i := 15) (d := some 18) rfl rfl (by kernel_rfl) (by kernel_rfl) (by kernel_rfl) (fun _ _ _ h => h) (by rfl) (by assumption) ?_
  simp only [Act.put, List.setIfInBounds_toArray, List.set_cons_zero, List.set_cons_succ]
  refine skipH (i := 16) (d := some 19) rfl rfl (by kernel_rfl) (by kernel_rfl) (by kernel_rfl) (fun _ _ _ h => h) (by rfl) (by assumption) ?_
  simp only [Act.put, List.setIfInBounds_toArray, List.set_cons_zero, List.set_cons_succ]
  refine skipH (i := 17) (d := some 20) rfl rfl (by kernel_rfl) (by kernel_rfl) (by kernel_rfl) (fun _ _ _ h => h) (by rfl) (by assumption) ?_
  simp only [Act.put, List.setIfInBounds_toArray, List.set_cons_zero, List.set_cons_succ]
  refine skipH (i := 18) (d := some 21) rfl rfl (by kernel_rfl) (by kernel_rfl) (by kernel_rfl) (fun _ _ _ h => h) (by rfl) (by assumption) ?_
  simp only [Act.put, List.setIfInBounds_toArray, List.set_cons_zero, List.set_cons_succ]
  refine skipH (i := 19) (d := some 22) rfl rfl (by kernel_rfl) (by kernel_rfl) (by kernel_rfl) (fun _ _ _ h => h) (by rfl) (by assumption) ?_
  simp only [Act.put, List.setIfInBounds_toArray, List.set_cons_zero, List.set_cons_succ]
  refine skipH (i := 20) (d := some 23) rfl rfl (by kernel_rfl) (by kernel_rfl) (by kernel_rfl) (fun _ _ _ h => h) (by rfl) (by assumption) ?_
  simp only [Act.put, List.setIfInBounds_toArray, List.set_cons_zero, List.set_cons_succ]
  refine skipH (i := 21) (d := some 24) rfl rfl (by kernel_rfl) (by kernel_rfl) (by kernel_rfl) (fun _ _ _ h => h) (by rfl) (by assumption) ?_
  simp only [Act.put, List.setIfInBounds_toArray, List.set_cons_zero, List.set_cons_succ]
  refine skipH (i := 22) (d := some 25) rfl rfl (by kernel_rfl) (by kernel_rfl) (by kernel_rfl) (fun _ _ _ h => h) (by rfl) (by assumption) ?_
  simp only [Act.put, List.setIfInBounds_toArray, List.set_cons_zero, List.set_cons_succ]
  refine takeH (i := 23) (d := some 26) (v := .bool false) rfl rfl (by kernel_rfl) (by kernel_rfl) (by kernel_rfl) (fun _ _ _ h => h) (by rfl) ?_ (by assumption) ?_
  · intro w1 hSw
    go_simp
  simp only [Act.put, List.setIfInBounds_toArray, List.set_cons_zero, List.set_cons_succ]
  refine takeH (i := 24) (d := some 2) (v := .bool false) rfl rfl (by kernel_rfl) (by kernel_rfl) (by kernel_rfl) (fun _ _ _ h => h) (by rfl) ?_ (by assumption) ?_
  · intro w1 hSw
    go_simp
  simp only [Act.put, List.setIfInBounds_toArray, List.set_cons_zero, List.set_cons_succ]
  refine wpAnyH_done (by kernel_rfl) ?_ _
  go_wp2
  go_ret
  exact ⟨rfl, by repeat (first | exact Grown.refl _ | apply Grown.drew | apply Grown.alloc)⟩

/-- What lowered answers. -/
def low (c hh hl th tl : Int) : Bool := !atm hh hl c && !atm th tl c

theorem lowered_any (b : Nat) (c hh hl la th tl : Int) (w : World) (hL : Led b c hh hl la th tl w) :
    Calls Try.prog 19 #[.pointer (some ⟨b, 0, none⟩)] w fun e w' => e = .returned (.bool (low c hh hl th tl)) ∧ Grown w w' := by
  cases ea : atm hh hl c
  · refine (lowered_ft b c hh hl la th tl w hL _ ea rfl).mono ?_
    rintro e w' ⟨rfl, hg⟩
    exact ⟨ret_bool (by simp [low, ea]), hg⟩
  · refine (lowered_t b c hh hl la th tl w hL ea).mono ?_
    rintro e w' ⟨rfl, hg⟩
    exact ⟨ret_bool (by simp [low, ea]), hg⟩

theorem zzlowered_any (b : Nat) (c hh hl la th tl : Int) (w : World) (hL : Led b c hh hl la th tl w) :
    Calls Try.prog 17 #[.pointer (some ⟨b, 0, none⟩)] w fun e w' => e = .returned (.bool (low c hh hl th tl)) ∧ Grown w w' := by
  go_enter Try.func17, Try.ntmps17
  go_wp2_with (go_at_call 19; refine (lowered_any _ c hh hl la th tl _ hL).mono ?_; rintro e w' ⟨rfl, hg⟩)
  go_ret
  exact ⟨rfl, hg⟩

end Go.Proofs.Qxb6608657a
