/- Plain law: simple folding of code points: its orbits have at most four members and rise; to be in one orbit is an equivalence. Conditions: none. -/
import Derived.Lib.CaseU
import Derived.Shelf.Unicode.CaseLaid
namespace Go.Proofs.YtkglbkgbgajbkaaDoor
open Go Go.Lib

def asciiF (r : Nat) : Nat := if r = 107 then 8490 else if r = 115 then 383 else if 65 ≤ r ∧ r ≤ 90 then r + 32 else if 97 ≤ r ∧ r ≤ 122 then r - 32 else r
/-- the code points of orbits of more than two, and those that stand alone -/
def orbitT : List (Nat × Nat) := [(75, 107), (83, 115), (107, 8490), (115, 383), (181, 924), (197, 229), (223, 7838), (229, 8491), (304, 304), (305, 305), (383, 83), (452, 453), (453, 454), (454, 452), (455, 456), (456, 457), (457, 455), (458, 459), (459, 460), (460, 458), (497, 498), (498, 499), (499, 497), (837, 921), (912, 8147), (914, 946), (917, 949), (920, 952), (921, 953), (922, 954), (924, 956), (928, 960), (929, 961), (931, 962), (934, 966), (937, 969), (944, 8163), (946, 976), (949, 1013), (952, 977), (953, 8126), (954, 1008), (956, 181), (960, 982), (961, 1009), (962, 963), (963, 931), (966, 981), (969, 8486), (976, 914), (977, 1012), (981, 934), (982, 928), (1008, 922), (1009, 929), (1012, 920), (1013, 917), (1042, 1074), (1044, 1076), (1054, 1086), (1057, 1089), (1058, 1090), (1066, 1098), (1074, 7296), (1076, 7297), (1086, 7298), (1089, 7299), (1090, 7300), (1098, 7302), (1122, 1123), (1123, 7303), (7296, 1042), (7297, 1044), (7298, 1054), (7299, 1057), (7300, 7301), (7301, 1058), (7302, 1066), (7303, 1122), (7304, 42570), (7776, 7777), (7777, 7835), (7835, 7776), (7838, 223), (8126, 837), (8147, 912), (8163, 944), (8486, 937), (8490, 75), (8491, 197), (42570, 42571), (42571, 7304), (64261, 64262), (64262, 64261)]
noncomputable def lookO (r : Nat) (T : List (Nat × Nat)) : Option Nat := List.rec (motive := fun _ => Option Nat) none (fun x _ ih => bif Nat.beq x.1 r then some x.2 else ih) T
noncomputable def orb (r : Nat) : Option Nat := lookO r orbitT
noncomputable def lookR (r : Nat) (T : List CaseRow) : Option CaseRow := List.rec (motive := fun _ => Option CaseRow) none (fun x _ ih => bif Nat.ble r x.2.1 then (bif Nat.ble x.1 r then some x else none) else ih) T
noncomputable def rowOf (r : Nat) : Option CaseRow := lookR r caseT
def rowFold (r : Nat) (x : CaseRow) : Int := if convertR 1 r x ≠ (r : Int) then convertR 1 r x else convertR 0 r x
/-- the next one of the same orbit -/
noncomputable def sfold (r : Nat) : Nat :=
  bif Nat.ble 128 r then
    match orb r with
    | some t => t
    | none => match rowOf r with
      | some x => (rowFold r x).toNat
      | none => r
  else asciiF r
def force (n : Nat) (k : Nat → Bool) : Bool := match n with
  | 0 => k 0
  | m + 1 => k (m + 1)
theorem force_eq (n : Nat) (k : Nat → Bool) : force n k = k n := by cases n <;> rfl
noncomputable def okF (x : Nat) : Bool := force (sfold x) fun a => force (sfold a) fun b => bif Nat.beq b x then true else force (sfold b) fun c =>
  bif Nat.beq c x then (!Nat.blt x b || Nat.blt a b) else Nat.beq (sfold c) x && (!Nat.blt x b || Nat.blt a b) && (!Nat.blt x c || (Nat.blt a c && Nat.blt b c))
def cased : List Nat := List.range 128 ++ orbitT.map (·.1) ++ caseT.flatMap fun x => List.range' x.1 (x.2.1 + 1 - x.1)

theorem cased0 : ((cased.drop 0).take 160).all okF = true := by decide +kernel
theorem cased1 : ((cased.drop 160).take 160).all okF = true := by decide +kernel
theorem cased2 : ((cased.drop 320).take 160).all okF = true := by decide +kernel
theorem cased3 : ((cased.drop 480).take 160).all okF = true := by decide +kernel
theorem cased4 : ((cased.drop 640).take 160).all okF = true := by decide +kernel
theorem cased5 : ((cased.drop 800).take 160).all okF = true := by decide +kernel
theorem cased6 : ((cased.drop 960).take 160).all okF = true := by decide +kernel
theorem cased7 : ((cased.drop 1120).take 160).all okF = true := by decide +kernel
theorem cased8 : ((cased.drop 1280).take 160).all okF = true := by decide +kernel
theorem cased9 : ((cased.drop 1440).take 160).all okF = true := by decide +kernel
theorem cased10 : ((cased.drop 1600).take 160).all okF = true := by decide +kernel
theorem cased11 : ((cased.drop 1760).take 160).all okF = true := by decide +kernel
theorem cased12 : ((cased.drop 1920).take 160).all okF = true := by decide +kernel
theorem cased13 : ((cased.drop 2080).take 160).all okF = true := by decide +kernel
theorem cased14 : ((cased.drop 2240).take 160).all okF = true := by decide +kernel
theorem cased15 : ((cased.drop 2400).take 160).all okF = true := by decide +kernel
theorem cased16 : ((cased.drop 2560).take 160).all okF = true := by decide +kernel
theorem cased17 : ((cased.drop 2720).take 160).all okF = true := by decide +kernel
theorem cased18 : ((cased.drop 2880).take 160).all okF = true := by decide +kernel
theorem cased19 : ((cased.drop 3040).take 160).all okF = true := by decide +kernel
theorem cased20 : ((cased.drop 3200).take 160).all okF = true := by decide +kernel
theorem cased_len : cased.length = 3211 := by decide +kernel
theorem all_split {α : Type} (p : α → Bool) (l : List α) (n : Nat) (h1 : (l.take n).all p = true) (h2 : (l.drop n).all p = true) : l.all p = true := by
  rw [← List.take_append_drop n l, List.all_append, h1, h2]; rfl
theorem drop_all {α : Type} (p : α → Bool) (l : List α) (k n : Nat) (h1 : ((l.drop k).take n).all p = true) (h2 : (l.drop (k + n)).all p = true) : (l.drop k).all p = true :=
  all_split p _ n h1 (by rw [List.drop_drop]; exact h2)
theorem cased_all : cased.all okF = true := by
  have h : (cased.drop 3360).all okF = true := by rw [List.drop_of_length_le (by rw [cased_len]; omega)]; rfl
  replace h := drop_all okF cased 3200 160 cased20 h
  replace h := drop_all okF cased 3040 160 cased19 h
  replace h := drop_all okF cased 2880 160 cased18 h
  replace h := drop_all okF cased 2720 160 cased17 h
  replace h := drop_all okF cased 2560 160 cased16 h
  replace h := drop_all okF cased 2400 160 cased15 h
  replace h := drop_all okF cased 2240 160 cased14 h
  replace h := drop_all okF cased 2080 160 cased13 h
  replace h := drop_all okF cased 1920 160 cased12 h
  replace h := drop_all okF cased 1760 160 cased11 h
  replace h := drop_all okF cased 1600 160 cased10 h
  replace h := drop_all okF cased 1440 160 cased9 h
  replace h := drop_all okF cased 1280 160 cased8 h
  replace h := drop_all okF cased 1120 160 cased7 h
  replace h := drop_all okF cased 960 160 cased6 h
  replace h := drop_all okF cased 800 160 cased5 h
  replace h := drop_all okF cased 640 160 cased4 h
  replace h := drop_all okF cased 480 160 cased3 h
  replace h := drop_all okF cased 320 160 cased2 h
  replace h := drop_all okF cased 160 160 cased1 h
  replace h := drop_all okF cased 0 160 cased0 h
  exact h

theorem sorted_orb : (orbitT.zip (orbitT.drop 1)).all (fun x => Nat.blt x.1.1 x.2.1) = true := by decide +kernel
theorem sorted_rows : (caseT.zip (caseT.drop 1)).all (fun x => Nat.blt x.1.2.1 x.2.1) = true := by decide +kernel
theorem rows_le : caseT.all (fun x => Nat.ble x.1 x.2.1 && Nat.ble x.2.1 1114111) = true := by decide +kernel
end Go.Proofs.YtkglbkgbgajbkaaDoor
