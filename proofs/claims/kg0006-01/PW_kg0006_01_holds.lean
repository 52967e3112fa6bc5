import PyProof.Rows.All
import Wide.All
import OpenK.AllK
import Wide.FinOn
import PySem.Challenge.RW_kg0006_01
open PySem PySem.W PyProof.Rows
set_option Elab.async false
namespace Mine
open PySem PySem.Calls PyProof.Rows PyProof.V PySem.Spec

/-- an item of a list of ints that the module's top has left, at a place that is not written but lies in it; the first item aside, all are lo or more -/
theorem topListAny {prog : Program} {w : World} {A : Around} {E : Value → Shared → Prop} {s : Shared} {K : Frag} {h₀ : Heap} {L a : Addr} {m : Str → Option Value} {n : Nat} {value slice : PySem.Expr} {l : List Value} {ns : List Int} {dd : Option Addr} {sl : Array (Option Value)} {k : Int} {u : Tok} {Q : Value → Shared → Prop}
    (F : Fr h₀ L s.heap m) (X₀ : K.In h₀) (hl : K.lookup a = some ⟨.type "list", dd, .seq l.toArray n, sl⟩) (hi : IntsAre l ns)
    (lo : Int) (hlo : ns.tail.all (fun x => decide (lo ≤ x)) = true) (h0 : 1 ≤ k) (h1 : k < ns.length) (hfit : k < 2 ^ 63) (h : ∀ t, lo ≤ ns.getD k.toNat 0 → Q (.int (ns.getD k.toNat 0) t) s)
    (hs : subscripted slice false (.ref a) (.int k u) = operate [.ref a, .int k u] (getItem (.ref a) (.int k u)) := by with_unfolding_all rfl) :
    wpAny (model prog w) A (subscriptTail value slice (.ref a) (.int k u)) Q E s := by
  refine item_anyK (listIn X₀ F hl) hi (by omega) h1 hfit (fun t => h t ?_) hs
  cases ns with
  | nil => simp at h1; omega
  | cons x r =>
    have e : k.toNat = (k.toNat - 1) + 1 := by omega
    have hl : k.toNat - 1 < r.length := by simp at h1; omega
    rw [e, List.getD_cons_succ]
    have e' : r.getD (k.toNat - 1) 0 = r[k.toNat - 1] := by simp [List.getD, hl]
    rw [e']
    have := List.all_eq_true.mp hlo r[k.toNat - 1] (List.getElem_mem hl)
    simpa using this

def leapI (y : Int) : Bool := decide (Int.fmod y 4 = 0) && (!decide (Int.fmod y 100 = 0) || decide (Int.fmod y 400 = 0))
def dbyI (y : Int) : Int := (y - 1) * 365 + Int.fdiv (y - 1) 4 - Int.fdiv (y - 1) 100 + Int.fdiv (y - 1) 400

/-- the days before a year's first, from one year to the next -/
theorem year_turn (y : Int) : dbyI (y + 1) = dbyI y + 365 + (if leapI y = true then 1 else 0) := by
  unfold dbyI leapI
  simp only [Int.fdiv_eq_ediv_of_nonneg _ (show (0 : Int) ≤ 4 by decide), Int.fdiv_eq_ediv_of_nonneg _ (show (0 : Int) ≤ 100 by decide), Int.fdiv_eq_ediv_of_nonneg _ (show (0 : Int) ≤ 400 by decide), Int.fmod_eq_emod_of_nonneg _ (show (0 : Int) ≤ 4 by decide), Int.fmod_eq_emod_of_nonneg _ (show (0 : Int) ≤ 100 by decide), Int.fmod_eq_emod_of_nonneg _ (show (0 : Int) ≤ 400 by decide)]
  simp only [Bool.and_eq_true, Bool.or_eq_true, Bool.not_eq_true', decide_eq_true_eq, decide_eq_false_iff_not]
  split <;> omega

/-- the weekday of a month's thirteenth: D days before the year, b: a leap year -/
def wdI (D : Int) (b : Bool) (m : Int) : Int := (D + ([-1, 0, 31, 59, 90, 120, 151, 181, 212, 243, 273, 304, 334].getD m.toNat 0 + (if 2 < m ∧ b = true then 1 else 0)) + 13 + 6).fmod 7
theorem wd_mod (D : Int) (b : Bool) (m : Int) : wdI D b m = wdI (D % 7) b m := by
  unfold wdI
  rw [Int.fmod_eq_emod_of_nonneg _ (by decide), Int.fmod_eq_emod_of_nonneg _ (by decide)]
  omega
theorem wd_all : ∀ (r x : Fin 7) (b : Bool), 1 ≤ ((rangeKs 1 (13 - 1 : Int).toNat).map (wdI (r.val : Int) b)).count (x.val : Int) ∧ ((rangeKs 1 (13 - 1 : Int).toNat).map (wdI (r.val : Int) b)).count (x.val : Int) ≤ 3 := by decide +kernel
theorem wd_count (D : Int) (b : Bool) (x : Int) (h0 : 0 ≤ x) (h1 : x < 7) : 1 ≤ ((rangeKs 1 (13 - 1 : Int).toNat).map (wdI D b)).count x ∧ ((rangeKs 1 (13 - 1 : Int).toNat).map (wdI D b)).count x ≤ 3 := by
  have e : wdI D b = wdI (D % 7) b := funext fun m => wd_mod D b m
  have h := wd_all ⟨(D % 7).toNat, by omega⟩ ⟨x.toNat, by omega⟩ b
  have e1 : (((D % 7).toNat : Nat) : Int) = D % 7 := by omega
  have e2 : ((x.toNat : Nat) : Int) = x := by omega
  simp only [e1, e2] at h
  rw [e]
  exact h
theorem fold_still {g : List Int → Int → List Int} : ∀ (xs : List Int), (∀ x ∈ xs, g [] x = []) → xs.foldl g [] = []
  | [], _ => rfl
  | x :: r, h => by
    rw [List.foldl_cons, h x (.head _)]
    exact fold_still r fun y hy => h y (.tail _ hy)
theorem range_mem {a : Int} {n : Nat} {v : Int} (h : v ∈ rangeKs a n) : a ≤ v ∧ v < a + (n : Int) := by
  unfold rangeKs at h
  obtain ⟨i, hi, rfl⟩ := List.mem_map.mp h
  have := List.mem_range.mp hi
  omega
/-- no weekday falls out of its bounds: the list that the law holds against [] -/
theorem none_out {D : Int} {b : Bool} {f : Int → Int} {g : List Int → Int → List Int}
    (hf : ∀ m, 1 ≤ m → m ≤ 12 → f m = wdI D b m)
    (hg : ∀ (l : List Int) (x : Int), (1 ≤ (((rangeKs 1 (13 - 1 : Int).toNat).map f).count x : Int) ∧ (((rangeKs 1 (13 - 1 : Int).toNat).map f).count x : Int) ≤ 3) → g l x = l) :
    (rangeKs 0 (7 - 0 : Int).toNat).foldl g [] = [] := by
  have e : (rangeKs 1 (13 - 1 : Int).toNat).map f = (rangeKs 1 (13 - 1 : Int).toNat).map (wdI D b) := by
    refine List.map_congr_left fun m hm => ?_
    have := range_mem hm
    exact hf m this.1 (by have := this.2; simp at this; omega)
  refine fold_still _ fun x hx => hg [] x ?_
  have hx' := range_mem hx
  have h := wd_count D b x hx'.1 (by have := hx'.2; simp at this; omega)
  rw [e]
  omega
theorem by_months {P : Int → Prop} (h : P 1 ∧ P 2 ∧ P 3 ∧ P 4 ∧ P 5 ∧ P 6 ∧ P 7 ∧ P 8 ∧ P 9 ∧ P 10 ∧ P 11 ∧ P 12) (m : Int) (h1 : 1 ≤ m) (h2 : m ≤ 12) : P m := by
  obtain ⟨a1, a2, a3, a4, a5, a6, a7, a8, a9, a10, a11, a12⟩ := h
  have h : m = 1 ∨ m = 2 ∨ m = 3 ∨ m = 4 ∨ m = 5 ∨ m = 6 ∨ m = 7 ∨ m = 8 ∨ m = 9 ∨ m = 10 ∨ m = 11 ∨ m = 12 := by omega
  rcases h with h | h | h | h | h | h | h | h | h | h | h | h <;> subst h <;> assumption
/-- the law's first end: the list held against [] is empty, so this way is none -/
theorem end_no {ns : List Int} {f : Int → Int} {g : List Int → Int → List Int} {inst : Decidable ((rangeKs 0 (7 - 0 : Int).toNat).foldl g [] = [])}
    (hE : @decide ((rangeKs 0 (7 - 0 : Int).toNat).foldl g [] = []) inst = false)
    (_ : Spec.Shape.int.list.has (PySem.PyData.list (ns.map PySem.PyData.int)) = true)
    (hg : ∀ (l : List Int) (x : Int), (1 ≤ (((rangeKs 1 (13 - 1 : Int).toNat).map f).count x : Int) ∧ (((rangeKs 1 (13 - 1 : Int).toNat).map f).count x : Int) ≤ 3) → g l x = l)
    (hf : ∀ (D : Int) (b : Bool), dbyI ns.sum = D → leapI ns.sum = b → ∀ m, 1 ≤ m → m ≤ 12 → f m = wdI D b m) : False :=
  of_decide_eq_false hE (none_out (hf _ _ rfl rfl) hg)
end Mine
local macro_rules | `(tactic| walk_at "subscriptTail Name Name ref int") => `(tactic| (k_here; (with_reducible show wpAny _ _ (subscriptTail _ _ (Value.ref _) (Value.int _ _)) _ _ _); (fail_if_success (with_reducible show wpAny _ _ (subscriptTail _ _ (Value.ref _) (Value.int (OfNat.ofNat _) _)) _ _ _)); (first
  | (with_unfolding_all refine' Mine.topListAny ?F ?X ?l ?i 28 ?b ?k3 ?k4 ?k5 ?_ ?k6; (case F => k_asm); (case X => k_asm); (case l => k_is); (case i => l_ints); (case b => decide); (case k3 => l_idx); (case k4 => l_idx); (case k5 => l_idx); (case k6 => with_unfolding_all rfl); k_whole)
  | (with_unfolding_all refine' Mine.topListAny ?F ?X ?l ?i 0 ?b ?k3 ?k4 ?k5 ?_ ?k6; (case F => k_asm); (case X => k_asm); (case l => k_is); (case i => l_ints); (case b => decide); (case k3 => l_idx); (case k4 => l_idx); (case k5 => l_idx); (case k6 => with_unfolding_all rfl); k_whole)); intro _ hItem))

set_option maxRecDepth 100000 in
set_option maxHeartbeats 8000000 in
theorem PySem.Challenge.cw_kg0006_01_holds : PySem.Challenge.rw_kg0006_01.Holds := by
  (k_with "call ref" => first | (k_call_by "_is_leap" Mine.leapI) | (k_call_by "_days_before_year" Mine.dbyI))
  (k_with "tree" => first | simp only [Mine.leapI] | simp only [Mine.dbyI])
  (k_with "end" => first
    | (exfalso; refine' Mine.end_no ?mineE ?mineS ?mineG ?mineF; (case mineE => assumption); (case mineS => assumption); (case mineG => exact fun l x h => if_pos h); (case mineF => (intro D b hD hb; rw [hD, hb]; refine Mine.by_months ?_; clear hD hb; dsimp only [Mine.wdI]; cases b <;> simp)))
    | (simp [Mine.year_turn]; done)
    | (simp [Mine.year_turn]; omega))
  open_k
