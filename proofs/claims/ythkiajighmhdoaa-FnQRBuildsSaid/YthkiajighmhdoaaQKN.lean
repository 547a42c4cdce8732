/-
  How many modules of a QR symbol carry data (plain): counted by the kernel, all versions. No program in sight.
-/
import Derived.Test.YthkiajighmhdoaaQKQ
namespace Go.Qz.QK
open Go.Qz Go.Qz.QW
set_option linter.unusedVariables false

def nearF (a b : Nat) : Bool := Nat.ble a (b + 2) && Nat.ble b (a + 2)
def anyF (r : Nat) : List Nat → Bool
  | [] => false
  | a :: l => nearF r a || anyF r l
def fixF (v n r c : Nat) : Bool := (Nat.ble r 8 && (Nat.ble c 8 || Nat.ble (n - 8) c)) || ((Nat.ble (n - 8) r && Nat.ble c 8) || (Nat.beq r 6 || (Nat.beq c 6 || (Nat.ble 7 v && ((Nat.ble r 5 && Nat.ble (n - 11) c) || (Nat.ble c 5 && Nat.ble (n - 11) r))))))
def cnrF (n r c : Nat) : Bool := (nearF r 6 && (nearF c 6 || nearF c (n - 7))) || (nearF r (n - 7) && nearF c 6)
def gvF (v n : Nat) (cs : List Nat) (r c : Nat) : Bool := fixF v n r c || (anyF r cs && (anyF c cs && !cnrF n r c))
def one (b : Bool) : Nat := match b with | true => 0 | false => 1
def rowF (n p j : Nat) : Nat := match Nat.beq (p % 2) 0 with | true => n - 1 - j | false => j
def rgtF (n p : Nat) : Nat := match Nat.ble n (8 + 2 * p) with | false => n - 1 - 2 * p | true => n - 2 - 2 * p
/-- The data modules of a pair of columns in a row. -/
def cq (v n : Nat) (cs : List Nat) (r c : Nat) : Nat := match Nat.ble 9 r, Nat.ble (r + 12) n, anyF r cs with
  | true, true, false => 2
  | _, _, _ => one (gvF v n cs r c) + one (gvF v n cs r (c - 1))
def cj (v n : Nat) (cs : List Nat) (p : Nat) : Nat → Nat
  | 0 => 0
  | j + 1 => cj v n cs p j + cq v n cs (rowF n p j) (rgtF n p)
def cp (v n : Nat) (cs : List Nat) : Nat → Nat
  | 0 => 0
  | p + 1 => cp v n cs p + cj v n cs p n
def okR (x : Nat × Nat × List Nat × Nat) : Bool := match x with | (v, n, cs, room) => Nat.beq (cp v n cs ((n - 1) / 2)) room
def tabR : List (Nat × Nat × List Nat × Nat) := [(1, 21, [], 208), (2, 25, [6, 18], 359), (3, 29, [6, 22], 567), (4, 33, [6, 26], 807), (5, 37, [6, 30], 1079), (6, 41, [6, 34], 1383), (7, 45, [6, 22, 38], 1568), (8, 49, [6, 24, 42], 1936), (9, 53, [6, 26, 46], 2336), (10, 57, [6, 28, 50], 2768), (11, 61, [6, 30, 54], 3232), (12, 65, [6, 32, 58], 3728), (13, 69, [6, 34, 62], 4256), (14, 73, [6, 26, 46, 66], 4651), (15, 77, [6, 26, 48, 70], 5243), (16, 81, [6, 26, 50, 74], 5867), (17, 85, [6, 30, 54, 78], 6523), (18, 89, [6, 30, 56, 82], 7211), (19, 93, [6, 30, 58, 86], 7931), (20, 97, [6, 34, 62, 90], 8683), (21, 101, [6, 28, 50, 72, 94], 9252), (22, 105, [6, 26, 50, 74, 98], 10068), (23, 109, [6, 30, 54, 78, 102], 10916), (24, 113, [6, 28, 54, 80, 106], 11796), (25, 117, [6, 32, 58, 84, 110], 12708), (26, 121, [6, 30, 58, 86, 114], 13652), (27, 125, [6, 34, 62, 90, 118], 14628), (28, 129, [6, 26, 50, 74, 98, 122], 15371), (29, 133, [6, 30, 54, 78, 102, 126], 16411), (30, 137, [6, 26, 52, 78, 104, 130], 17483), (31, 141, [6, 30, 56, 82, 108, 134], 18587), (32, 145, [6, 34, 60, 86, 112, 138], 19723), (33, 149, [6, 30, 58, 86, 114, 142], 20891), (34, 153, [6, 34, 62, 90, 118, 146], 22091), (35, 157, [6, 30, 54, 78, 102, 126, 150], 23008), (36, 161, [6, 24, 50, 76, 102, 128, 154], 24272), (37, 165, [6, 28, 54, 80, 106, 132, 158], 25568), (38, 169, [6, 32, 58, 84, 110, 136, 162], 26896), (39, 173, [6, 26, 54, 82, 110, 138, 166], 28256), (40, 177, [6, 30, 58, 86, 114, 142, 170], 29648)]
theorem tabR_eq : tabR = (List.range 40).map fun v => (v + 1, dimOf (v + 1), cenOf (v + 1), roomOf (v + 1)) := by decide +kernel
end Go.Qz.QK
