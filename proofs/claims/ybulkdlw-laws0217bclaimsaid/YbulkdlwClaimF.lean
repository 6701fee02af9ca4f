/- claim, all cases in one contract over plain functions. -/
import Derived.Test.YbulkdlwClaimE
namespace Go.Proofs.Ybulkdlw.Claim
open Go.RowKit

def shdB (stale : Bool) (sel word tid : Int) (I : List Int) : Bool := !stale && (sel == 2) && !decide (tid ∈ held word I)
def outO (stale : Bool) (sel tid : Int) (I : List Int) : List Int := if stale = true then [] else if (sel == 2) = true then [] else oth I tid I.length
def tkB (stale : Bool) (sel word tid : Int) (I : List Int) : Bool := shdB stale sel word tid I || (!stale && !(sel == 2) && (oth I tid I.length).isEmpty)
def outW (stale : Bool) (sel word tid : Int) (I : List Int) : Int := if stale = true then word else if (sel == 2) = true then word' word else if (oth I tid I.length).isEmpty = true then tk sel word tid else word
def outE (stale : Bool) (sel word tid : Int) (I : List Int) : List Int := if shdB stale sel word tid I = true then held word I ++ [tid] else I
def outP (stale : Bool) (sel word tid : Int) (I : List Int) : Bool := shdB stale sel word tid I || decide (0 < I.length)

structure Out (w : World) (B rs ref t tb tb2 : Nat) (s tid : Int) (e2 : Option Value) (o : Value) (O : List Int) (shd : Bool) (W : Int) (pres : Bool) (E : List Int) : Prop where
  st : ∃ mv tv e1, S w B rs ref t tb tb2 s 0 mv W tid tv e2 e1 ∧ (shd = true → w.ownsRow B 102 2 tv 1 [.pointer (some ⟨tb, 0, none⟩), .int .u32 s]) ∧ (shd = false → tv = .slice none 0 0) ∧ (pres = true → ∃ v k, e1 = some v ∧ w.ownsRow B 29 1 v k (us E)) ∧ (pres = false → e1 = none)
  own : w.ownsRow B 29 1 o O.length (us O)
  nil : o = .slice none 0 0 ↔ O = []

theorem claim_all (B rs ref t tb tb2 : Nat) (s met sel wt word tid : Int) (mv : Value) (e2 e1 : Option Value) (sa : Option Addr) (I : List Int) (stale : Bool) (w : World) (hS : S w B rs ref t tb tb2 s 0 mv word tid (.slice none 0 0) e2 e1)
    (hst : stale = true → word ≠ met) (hst' : stale = false → met = word) (hv : vOf e1 = .slice sa I.length I.length) (hI : w.ownsRow B 29 1 (.slice sa I.length I.length) I.length (us I)) (hn : I.length ≤ 1024)
    (hp : 0 < I.length → e1 = some (.slice sa I.length I.length)) (hp' : I.length = 0 → e1 = none) :
    Calls Yba.prog 5 (Rargs rs ref t tb s met sel wt) w fun e w' => ∃ o, e = .returned (.tuple #[o, .bool (tkB stale sel word tid I), .bool stale]) ∧ Hid (G B w w' ∧ Out w' B rs ref t tb tb2 s tid e2 o (outO stale sel tid I) (shdB stale sel word tid I) (outW stale sel word tid I) (outP stale sel word tid I) (outE stale sel word tid I)) := by
  have same : ∀ w', G B w w' → (decide (0 < I.length) = true → ∃ v k, e1 = some v ∧ w'.ownsRow B 29 1 v k (us I)) ∧ (decide (0 < I.length) = false → e1 = none) := fun w' g =>
    ⟨fun h => ⟨_, _, hp (by simpa using h), own_kept rfl hI g⟩, fun h => hp' (Nat.eq_zero_of_not_pos (of_decide_eq_false h))⟩
  cases stale with
  | true =>
    refine (claim_stale B rs ref t tb tb2 s met sel wt word tid mv _ e2 e1 w hS (hst rfl)).mono ?_
    rintro e w' ⟨rfl, H⟩
    obtain ⟨h1, g⟩ := H.out
    obtain ⟨p1, p2⟩ := same w' g
    have e1s : shdB true sel word tid I = false := rfl
    have e3 : outP true sel word tid I = decide (0 < I.length) := by simp [outP, e1s]
    have e4 : outE true sel word tid I = I := by simp [outE, e1s]
    refine ⟨.slice none 0 0, by simp [tkB, e1s], g, ⟨⟨mv, _, e1, h1, ?_, fun _ => rfl, ?_, ?_⟩, World.ownsRow_nil _ _ _ _, by simp [outO]⟩⟩
    · intro h; cases h
    · rw [e3, e4]; exact p1
    · rw [e3]; exact p2
  | false =>
    obtain rfl := hst' rfl
    by_cases h2 : (sel == 2) = true
    · have hs2 : sel = 2 := by simpa using h2
      subst hs2
      by_cases hin : tid ∈ held met I
      · have e1s : shdB false 2 met tid I = false := by simp [shdB, hin]
        have hsh : shB met = true := by
          by_cases h : shB met = true
          · exact h
          · rw [held, if_neg h] at hin; cases hin
        have hin' : tid ∈ I := by rw [held, if_pos hsh] at hin; exact hin
        refine (claim_in B rs ref t tb tb2 s 2 wt met tid mv _ e2 e1 sa _ _ I w hS rfl hsh hv hI (by omega) hin').mono ?_
        rintro e w' ⟨rfl, H⟩
        obtain ⟨h1, g⟩ := H.out
        obtain ⟨p1, p2⟩ := same w' g
        have e3 : outP false 2 met tid I = decide (0 < I.length) := by simp [outP, e1s]
        have e4 : outE false 2 met tid I = I := by simp [outE, e1s]
        have e5 : outW false 2 met tid I = met := by simp [outW, hsh]
        refine ⟨.slice none 0 0, by simp [tkB, e1s], g, ⟨⟨mv, _, e1, by rw [e5]; exact h1, ?_, fun _ => rfl, ?_, ?_⟩, World.ownsRow_nil _ _ _ _, by simp [outO]⟩⟩
        · rw [e1s]; intro h; cases h
        · rw [e3, e4]; exact p1
        · rw [e3]; exact p2
      · have e1s : shdB false 2 met tid I = true := by simp [shdB, hin]
        refine (claim_join B rs ref t tb tb2 s wt met tid mv e2 e1 sa _ I w hS hv hI hn hin).mono ?_
        rintro e w' ⟨rfl, H⟩
        obtain ⟨v', tv, m, k, h1, g, o1, o2⟩ := H.out
        have e3 : outP false 2 met tid I = true := by simp [outP, e1s]
        have e4 : outE false 2 met tid I = held met I ++ [tid] := by simp [outE, e1s]
        have e5 : outW false 2 met tid I = word' met := by simp [outW]
        refine ⟨.slice none 0 0, by simp [tkB, e1s], g, ⟨⟨_, tv, some v', by rw [e5]; exact h1, fun _ => o2, ?_, ?_, ?_⟩, World.ownsRow_nil _ _ _ _, by simp [outO]⟩⟩
        · rw [e1s]; intro h; cases h
        · rw [e4]; exact fun _ => ⟨v', k, rfl, o1⟩
        · rw [e3]; intro h; cases h
    · have h2' : (sel == 2) = false := by simpa using h2
      have e1s : shdB false sel met tid I = false := by simp [shdB, h2']
      refine (claim_other B rs ref t tb tb2 s sel wt met tid mv e2 e1 sa _ I w hS h2' hv hI hn).mono ?_
      rintro e w' ⟨o, rfl, H⟩
      obtain ⟨h1, g, o1, o2⟩ := H.out
      obtain ⟨p1, p2⟩ := same w' g
      have e3 : outP false sel met tid I = decide (0 < I.length) := by simp [outP, e1s]
      have e4 : outE false sel met tid I = I := by simp [outE, e1s]
      have e5 : outW false sel met tid I = if (oth I tid I.length).isEmpty = true then tk sel met tid else met := by unfold outW; rw [if_neg (by simp), if_neg (by rw [h2']; simp)]
      have e6 : outO false sel tid I = oth I tid I.length := by unfold outO; rw [if_neg (by simp), if_neg (by rw [h2']; simp)]
      have e7 : tkB false sel met tid I = (oth I tid I.length).isEmpty := by unfold tkB; rw [e1s, h2']; simp
      refine ⟨o, by rw [e7], g, ⟨⟨mv, _, e1, by rw [e5]; exact h1, ?_, fun _ => rfl, ?_, ?_⟩, by rw [e6]; exact o1, by rw [e6]; exact o2⟩⟩
      · rw [e1s]; intro h; cases h
      · rw [e3, e4]; exact p1
      · rw [e3]; exact p2
end Go.Proofs.Ybulkdlw.Claim
