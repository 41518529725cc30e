import Derived.Test.Qxb6000769aRows
import Derived.WalkKit
import Derived.ProofKit
namespace Go.Proofs.Qxb6000769a.fnPositionRoundTripsToOffset

/-- The signs of the head of the dump. The kernel reads the closed facts over this list in a second and over the text itself in a minute each. -/
def c (n : Nat) : Char := Char.ofNat n
set_option maxRecDepth 100000 in
def headC : List Char := [c 104, c 97, c 114, c 110, c 101, c 115, c 115, c 32, c 57, c 57, c 56, c 51, c 53, c 57, c 53, c 50, c 99, c 53, c 51, c 102, c 51, c 97, c 102, c
    101, c 55, c 48, c 98, c 56, c 55, c 56, c 53, c 101, c 49, c 48, c 49, c 101, c 97, c 48, c 54, c 51, c 48, c 57, c 51, c 54, c 49, c 102, c 52, c
    100, c 50, c 48, c 100, c 48, c 50, c 56, c 57, c 50, c 55, c 101, c 98, c 102, c 55, c 50, c 51, c 54, c 98, c 53, c 49, c 48, c 53, c 49, c 57, c
    99, c 32, c 99, c 117, c 116, c 32, c 97, c 116, c 32, c 101, c 120, c 97, c 109, c 112, c 108, c 101, c 46, c 99, c 111, c 109, c 47, c 116, c 97, c
    98, c 108, c 101, c 45, c 116, c 111, c 45, c 116, c 111, c 112, c 105, c 99, c 47, c 116, c 97, c 98, c 108, c 101, c 45, c 116, c 111, c 45, c 116,
    c 111, c 112, c 105, c 99, c 47, c 122, c 122, c 108, c 97, c 119, c 115, c 95, c 99, c 111, c 110, c 102, c 105, c 103, c 95, c 98, c 49, c 46, c 70,
    c 110, c 83, c 101, c 116, c 116, c 105, c 110, c 103, c 78, c 97, c 109, c 101, c 78, c 101, c 115, c 116, c 115, c 65, c 115, c 115, c 111, c 99, c
    105, c 97, c 116, c 105, c 118, c 101, c 108, c 121, c 32, c 101, c 120, c 97, c 109, c 112, c 108, c 101, c 46, c 99, c 111, c 109, c 47, c 116, c
    97, c 98, c 108, c 101, c 45, c 116, c 111, c 45, c 116, c 111, c 112, c 105, c 99, c 47, c 116, c 97, c 98, c 108, c 101, c 45, c 116, c 111, c 45, c
    116, c 111, c 112, c 105, c 99, c 47, c 122, c 122, c 108, c 97, c 119, c 115, c 95, c 99, c 111, c 110, c 102, c 105, c 103, c 95, c 98, c 49, c 46,
    c 70, c 110, c 83, c 101, c 116, c 116, c 105, c 110, c 103, c 78, c 97, c 109, c 101, c 73, c 110, c 106, c 101, c 99, c 116, c 105, c 118, c 101, c
    73, c 110, c 75, c 101, c 121, c 32, c 101, c 120, c 97, c 109, c 112, c 108, c 101, c 46, c 99, c 111, c 109, c 47, c 116, c 97, c 98, c 108, c 101,
    c 45, c 116, c 111, c 45, c 116, c 111, c 112, c 105, c 99, c 47, c 116, c 97, c 98, c 108, c 101, c 45, c 116, c 111, c 45, c 116, c 111, c 112, c
    105, c 99, c 47, c 122, c 122, c 108, c 97, c 119, c 115, c 95, c 99, c 111, c 110, c 102, c 105, c 103, c 95, c 98, c 49, c 46, c 70, c 110, c 68, c
    105, c 115, c 112, c 108, c 97, c 121, c 78, c 97, c 109, c 101, c 78, c 111, c 110, c 69, c 109, c 112, c 116, c 121, c 65, c 110, c 100, c 73, c
    100, c 101, c 109, c 112, c 111, c 116, c 101, c 110, c 116, c 32, c 101, c 120, c 97, c 109, c 112, c 108, c 101, c 46, c 99, c 111, c 109, c 47, c
    116, c 97, c 98, c 108, c 101, c 45, c 116, c 111, c 45, c 116, c 111, c 112, c 105, c 99, c 47, c 116, c 97, c 98, c 108, c 101, c 45, c 116, c 111,
    c 45, c 116, c 111, c 112, c 105, c 99, c 47, c 122, c 122, c 108, c 97, c 119, c 115, c 95, c 99, c 111, c 110, c 102, c 105, c 103, c 95, c 98, c
    49, c 46, c 70, c 110, c 68, c 105, c 115, c 112, c 108, c 97, c 121, c 78, c 97, c 109, c 101, c 83, c 104, c 111, c 119, c 115, c 78, c 101, c 115,
    c 116, c 101, c 100, c 83, c 101, c 116, c 116, c 105, c 110, c 103, c 86, c 101, c 114, c 98, c 97, c 116, c 105, c 109, c 32, c 101, c 120, c 97, c
    109, c 112, c 108, c 101, c 46, c 99, c 111, c 109, c 47, c 116, c 97, c 98, c 108, c 101, c 45, c 116, c 111, c 45, c 116, c 111, c 112, c 105, c 99,
    c 47, c 116, c 97, c 98, c 108, c 101, c 45, c 116, c 111, c 45, c 116, c 111, c 112, c 105, c 99, c 47, c 122, c 122, c 108, c 97, c 119, c 115, c
    95, c 99, c 111, c 110, c 102, c 105, c 103, c 95, c 98, c 49, c 46, c 70, c 110, c 80, c 111, c 115, c 105, c 116, c 105, c 111, c 110, c 77, c 97, c
    116, c 99, c 104, c 101, c 115, c 83, c 99, c 97, c 110, c 77, c 111, c 100, c 101, c 108, c 32, c 101, c 120, c 97, c 109, c 112, c 108, c 101, c 46,
    c 99, c 111, c 109, c 47, c 116, c 97, c 98, c 108, c 101, c 45, c 116, c 111, c 45, c 116, c 111, c 112, c 105, c 99, c 47, c 116, c 97, c 98, c 108,
    c 101, c 45, c 116, c 111, c 45, c 116, c 111, c 112, c 105, c 99, c 47, c 122, c 122, c 108, c 97, c 119, c 115, c 95, c 99, c 111, c 110, c 102, c
    105, c 103, c 95, c 98, c 49, c 46, c 70, c 110, c 80, c 111, c 115, c 105, c 116, c 105, c 111, c 110, c 82, c 111, c 117, c 110, c 100, c 84, c 114,
    c 105, c 112, c 115, c 84, c 111, c 79, c 102, c 102, c 115, c 101, c 116, c 32, c 101, c 120, c 97, c 109, c 112, c 108, c 101, c 46, c 99, c 111, c
    109, c 47, c 116, c 97, c 98, c 108, c 101, c 45, c 116, c 111, c 45, c 116, c 111, c 112, c 105, c 99, c 47, c 116, c 97, c 98, c 108, c 101, c 45, c
    116, c 111, c 45, c 116, c 111, c 112, c 105, c 99, c 47, c 122, c 122, c 108, c 97, c 119, c 115, c 95, c 99, c 111, c 110, c 102, c 105, c 103, c
    95, c 98, c 49, c 46, c 70, c 110, c 80, c 111, c 115, c 105, c 116, c 105, c 111, c 110, c 77, c 111, c 110, c 111, c 116, c 111, c 110, c 101, c 65,
    c 110, c 100, c 67, c 108, c 97, c 109, c 112, c 101, c 100]
set_option maxRecDepth 100000 in
def wordsC : List (List Char) := [[c 104, c 97, c 114, c 110, c 101, c 115, c 115], [c 57, c 57, c 56, c 51, c 53, c 57, c 53, c 50, c 99, c 53, c 51, c 102, c 51, c 97, c 102, c 101,
    c 55, c 48, c 98, c 56, c 55, c 56, c 53, c 101, c 49, c 48, c 49, c 101, c 97, c 48, c 54, c 51, c 48, c 57, c 51, c 54, c 49, c 102, c 52, c 100, c
    50, c 48, c 100, c 48, c 50, c 56, c 57, c 50, c 55, c 101, c 98, c 102, c 55, c 50, c 51, c 54, c 98, c 53, c 49, c 48, c 53, c 49, c 57, c 99], [c
    99, c 117, c 116], [c 97, c 116], [c 101, c 120, c 97, c 109, c 112, c 108, c 101, c 46, c 99, c 111, c 109, c 47, c 116, c 97, c 98, c 108, c 101, c
    45, c 116, c 111, c 45, c 116, c 111, c 112, c 105, c 99, c 47, c 116, c 97, c 98, c 108, c 101, c 45, c 116, c 111, c 45, c 116, c 111, c 112, c 105,
    c 99, c 47, c 122, c 122, c 108, c 97, c 119, c 115, c 95, c 99, c 111, c 110, c 102, c 105, c 103, c 95, c 98, c 49, c 46, c 70, c 110, c 83, c 101,
    c 116, c 116, c 105, c 110, c 103, c 78, c 97, c 109, c 101, c 78, c 101, c 115, c 116, c 115, c 65, c 115, c 115, c 111, c 99, c 105, c 97, c 116, c
    105, c 118, c 101, c 108, c 121], [c 101, c 120, c 97, c 109, c 112, c 108, c 101, c 46, c 99, c 111, c 109, c 47, c 116, c 97, c 98, c 108, c 101, c
    45, c 116, c 111, c 45, c 116, c 111, c 112, c 105, c 99, c 47, c 116, c 97, c 98, c 108, c 101, c 45, c 116, c 111, c 45, c 116, c 111, c 112, c 105,
    c 99, c 47, c 122, c 122, c 108, c 97, c 119, c 115, c 95, c 99, c 111, c 110, c 102, c 105, c 103, c 95, c 98, c 49, c 46, c 70, c 110, c 83, c 101,
    c 116, c 116, c 105, c 110, c 103, c 78, c 97, c 109, c 101, c 73, c 110, c 106, c 101, c 99, c 116, c 105, c 118, c 101, c 73, c 110, c 75, c 101, c
    121], [c 101, c 120, c 97, c 109, c 112, c 108, c 101, c 46, c 99, c 111, c 109, c 47, c 116, c 97, c 98, c 108, c 101, c 45, c 116, c 111, c 45, c
    116, c 111, c 112, c 105, c 99, c 47, c 116, c 97, c 98, c 108, c 101, c 45, c 116, c 111, c 45, c 116, c 111, c 112, c 105, c 99, c 47, c 122, c 122,
    c 108, c 97, c 119, c 115, c 95, c 99, c 111, c 110, c 102, c 105, c 103, c 95, c 98, c 49, c 46, c 70, c 110, c 68, c 105, c 115, c 112, c 108, c 97,
    c 121, c 78, c 97, c 109, c 101, c 78, c 111, c 110, c 69, c 109, c 112, c 116, c 121, c 65, c 110, c 100, c 73, c 100, c 101, c 109, c 112, c 111, c
    116, c 101, c 110, c 116], [c 101, c 120, c 97, c 109, c 112, c 108, c 101, c 46, c 99, c 111, c 109, c 47, c 116, c 97, c 98, c 108, c 101, c 45, c
    116, c 111, c 45, c 116, c 111, c 112, c 105, c 99, c 47, c 116, c 97, c 98, c 108, c 101, c 45, c 116, c 111, c 45, c 116, c 111, c 112, c 105, c 99,
    c 47, c 122, c 122, c 108, c 97, c 119, c 115, c 95, c 99, c 111, c 110, c 102, c 105, c 103, c 95, c 98, c 49, c 46, c 70, c 110, c 68, c 105, c 115,
    c 112, c 108, c 97, c 121, c 78, c 97, c 109, c 101, c 83, c 104, c 111, c 119, c 115, c 78, c 101, c 115, c 116, c 101, c 100, c 83, c 101, c 116, c
    116, c 105, c 110, c 103, c 86, c 101, c 114, c 98, c 97, c 116, c 105, c 109], [c 101, c 120, c 97, c 109, c 112, c 108, c 101, c 46, c 99, c 111, c
    109, c 47, c 116, c 97, c 98, c 108, c 101, c 45, c 116, c 111, c 45, c 116, c 111, c 112, c 105, c 99, c 47, c 116, c 97, c 98, c 108, c 101, c 45, c
    116, c 111, c 45, c 116, c 111, c 112, c 105, c 99, c 47, c 122, c 122, c 108, c 97, c 119, c 115, c 95, c 99, c 111, c 110, c 102, c 105, c 103, c
    95, c 98, c 49, c 46, c 70, c 110, c 80, c 111, c 115, c 105, c 116, c 105, c 111, c 110, c 77, c 97, c 116, c 99, c 104, c 101, c 115, c 83, c 99, c
    97, c 110, c 77, c 111, c 100, c 101, c 108], [c 101, c 120, c 97, c 109, c 112, c 108, c 101, c 46, c 99, c 111, c 109, c 47, c 116, c 97, c 98, c
    108, c 101, c 45, c 116, c 111, c 45, c 116, c 111, c 112, c 105, c 99, c 47, c 116, c 97, c 98, c 108, c 101, c 45, c 116, c 111, c 45, c 116, c 111,
    c 112, c 105, c 99, c 47, c 122, c 122, c 108, c 97, c 119, c 115, c 95, c 99, c 111, c 110, c 102, c 105, c 103, c 95, c 98, c 49, c 46, c 70, c 110,
    c 80, c 111, c 115, c 105, c 116, c 105, c 111, c 110, c 82, c 111, c 117, c 110, c 100, c 84, c 114, c 105, c 112, c 115, c 84, c 111, c 79, c 102, c
    102, c 115, c 101, c 116], [c 101, c 120, c 97, c 109, c 112, c 108, c 101, c 46, c 99, c 111, c 109, c 47, c 116, c 97, c 98, c 108, c 101, c 45, c
    116, c 111, c 45, c 116, c 111, c 112, c 105, c 99, c 47, c 116, c 97, c 98, c 108, c 101, c 45, c 116, c 111, c 45, c 116, c 111, c 112, c 105, c 99,
    c 47, c 122, c 122, c 108, c 97, c 119, c 115, c 95, c 99, c 111, c 110, c 102, c 105, c 103, c 95, c 98, c 49, c 46, c 70, c 110, c 80, c 111, c 115,
    c 105, c 116, c 105, c 111, c 110, c 77, c 111, c 110, c 111, c 116, c 111, c 110, c 101, c 65, c 110, c 100, c 67, c 108, c 97, c 109, c 112, c 101,
    c 100]]
set_option maxRecDepth 100000 in
def restC : List (List Char) := [[c 99, c 117, c 116], [c 97, c 116], [c 101, c 120, c 97, c 109, c 112, c 108, c 101, c 46, c 99, c 111, c 109, c 47, c 116, c 97, c 98, c 108, c
    101, c 45, c 116, c 111, c 45, c 116, c 111, c 112, c 105, c 99, c 47, c 116, c 97, c 98, c 108, c 101, c 45, c 116, c 111, c 45, c 116, c 111, c 112,
    c 105, c 99, c 47, c 122, c 122, c 108, c 97, c 119, c 115, c 95, c 99, c 111, c 110, c 102, c 105, c 103, c 95, c 98, c 49, c 46, c 70, c 110, c 83,
    c 101, c 116, c 116, c 105, c 110, c 103, c 78, c 97, c 109, c 101, c 78, c 101, c 115, c 116, c 115, c 65, c 115, c 115, c 111, c 99, c 105, c 97, c
    116, c 105, c 118, c 101, c 108, c 121], [c 101, c 120, c 97, c 109, c 112, c 108, c 101, c 46, c 99, c 111, c 109, c 47, c 116, c 97, c 98, c 108, c
    101, c 45, c 116, c 111, c 45, c 116, c 111, c 112, c 105, c 99, c 47, c 116, c 97, c 98, c 108, c 101, c 45, c 116, c 111, c 45, c 116, c 111, c 112,
    c 105, c 99, c 47, c 122, c 122, c 108, c 97, c 119, c 115, c 95, c 99, c 111, c 110, c 102, c 105, c 103, c 95, c 98, c 49, c 46, c 70, c 110, c 83,
    c 101, c 116, c 116, c 105, c 110, c 103, c 78, c 97, c 109, c 101, c 73, c 110, c 106, c 101, c 99, c 116, c 105, c 118, c 101, c 73, c 110, c 75, c
    101, c 121], [c 101, c 120, c 97, c 109, c 112, c 108, c 101, c 46, c 99, c 111, c 109, c 47, c 116, c 97, c 98, c 108, c 101, c 45, c 116, c 111, c
    45, c 116, c 111, c 112, c 105, c 99, c 47, c 116, c 97, c 98, c 108, c 101, c 45, c 116, c 111, c 45, c 116, c 111, c 112, c 105, c 99, c 47, c 122,
    c 122, c 108, c 97, c 119, c 115, c 95, c 99, c 111, c 110, c 102, c 105, c 103, c 95, c 98, c 49, c 46, c 70, c 110, c 68, c 105, c 115, c 112, c
    108, c 97, c 121, c 78, c 97, c 109, c 101, c 78, c 111, c 110, c 69, c 109, c 112, c 116, c 121, c 65, c 110, c 100, c 73, c 100, c 101, c 109, c
    112, c 111, c 116, c 101, c 110, c 116], [c 101, c 120, c 97, c 109, c 112, c 108, c 101, c 46, c 99, c 111, c 109, c 47, c 116, c 97, c 98, c 108, c
    101, c 45, c 116, c 111, c 45, c 116, c 111, c 112, c 105, c 99, c 47, c 116, c 97, c 98, c 108, c 101, c 45, c 116, c 111, c 45, c 116, c 111, c 112,
    c 105, c 99, c 47, c 122, c 122, c 108, c 97, c 119, c 115, c 95, c 99, c 111, c 110, c 102, c 105, c 103, c 95, c 98, c 49, c 46, c 70, c 110, c 68,
    c 105, c 115, c 112, c 108, c 97, c 121, c 78, c 97, c 109, c 101, c 83, c 104, c 111, c 119, c 115, c 78, c 101, c 115, c 116, c 101, c 100, c 83, c
    101, c 116, c 116, c 105, c 110, c 103, c 86, c 101, c 114, c 98, c 97, c 116, c 105, c 109], [c 101, c 120, c 97, c 109, c 112, c 108, c 101, c 46, c
    99, c 111, c 109, c 47, c 116, c 97, c 98, c 108, c 101, c 45, c 116, c 111, c 45, c 116, c 111, c 112, c 105, c 99, c 47, c 116, c 97, c 98, c 108, c
    101, c 45, c 116, c 111, c 45, c 116, c 111, c 112, c 105, c 99, c 47, c 122, c 122, c 108, c 97, c 119, c 115, c 95, c 99, c 111, c 110, c 102, c
    105, c 103, c 95, c 98, c 49, c 46, c 70, c 110, c 80, c 111, c 115, c 105, c 116, c 105, c 111, c 110, c 77, c 97, c 116, c 99, c 104, c 101, c 115,
    c 83, c 99, c 97, c 110, c 77, c 111, c 100, c 101, c 108], [c 101, c 120, c 97, c 109, c 112, c 108, c 101, c 46, c 99, c 111, c 109, c 47, c 116, c
    97, c 98, c 108, c 101, c 45, c 116, c 111, c 45, c 116, c 111, c 112, c 105, c 99, c 47, c 116, c 97, c 98, c 108, c 101, c 45, c 116, c 111, c 45, c
    116, c 111, c 112, c 105, c 99, c 47, c 122, c 122, c 108, c 97, c 119, c 115, c 95, c 99, c 111, c 110, c 102, c 105, c 103, c 95, c 98, c 49, c 46,
    c 70, c 110, c 80, c 111, c 115, c 105, c 116, c 105, c 111, c 110, c 82, c 111, c 117, c 110, c 100, c 84, c 114, c 105, c 112, c 115, c 84, c 111, c
    79, c 102, c 102, c 115, c 101, c 116], [c 101, c 120, c 97, c 109, c 112, c 108, c 101, c 46, c 99, c 111, c 109, c 47, c 116, c 97, c 98, c 108, c
    101, c 45, c 116, c 111, c 45, c 116, c 111, c 112, c 105, c 99, c 47, c 116, c 97, c 98, c 108, c 101, c 45, c 116, c 111, c 45, c 116, c 111, c 112,
    c 105, c 99, c 47, c 122, c 122, c 108, c 97, c 119, c 115, c 95, c 99, c 111, c 110, c 102, c 105, c 103, c 95, c 98, c 49, c 46, c 70, c 110, c 80,
    c 111, c 115, c 105, c 116, c 105, c 111, c 110, c 77, c 111, c 110, c 111, c 116, c 111, c 110, c 101, c 65, c 110, c 100, c 67, c 108, c 97, c 109,
    c 112, c 101, c 100]]

theorem head_is : Try.prog.initOrder = String.ofList headC := by kernel_rfl

theorem chars_are : Try.prog.initOrder.toList = headC := by rw [head_is, String.toList_ofList]

theorem words_are : wordsSigns headC = wordsC := by kernel_rfl

theorem rest_is : behindMainWord wordsC = restC := by kernel_rfl

theorem behind_are : behindMainWord (wordsSigns Try.prog.initOrder.toList) = restC := by rw [chars_are, words_are, rest_is]

theorem make_of (P : Program) (h : (behindMainWord (wordsSigns P.initOrder.toList)).head? = some ['c', 'u', 't']) : P.make = some .cut := by
  unfold Program.make
  cases hb : behindMainWord (wordsSigns P.initOrder.toList) with
  | nil => rw [hb] at h; cases h
  | cons c rest =>
    rw [hb] at h
    obtain rfl : c = ['c', 'u', 't'] := by simpa using h
    rfl

theorem enter_of (P : Program) (ws : List (List Char)) (hb : behindMainWord (wordsSigns P.initOrder.toList) = ws) (h : (stripLifts liftWords ws) = ([], ws)) (hh : ws.head? = some ['c', 'u', 't'])
    (l : P.laysLater = false) (b : P.bearsReflect = false) (d : P.doorFits [] = true) : P.mayEnter = true := by
  unfold Program.mayEnter
  rw [hb]
  cases ws with
  | nil => cases hh
  | cons c rest =>
    have e : (stripLifts liftWords (c :: rest)).1 = [] := by rw [h]
    have e2 : (stripLifts liftWords (c :: rest)).2 = c :: rest := by rw [h]
    obtain rfl : c = ['c', 'u', 't'] := by simpa using hh
    simp [e, e2, l, b, d]

theorem later : Try.prog.laysLater = false := by kernel_rfl
theorem mirror : Try.prog.bearsReflect = false := by kernel_rfl
theorem door : Try.prog.doorFits [] = true := by kernel_rfl
theorem strip : stripLifts liftWords restC = ([], restC) := by kernel_rfl

theorem enters : Try.prog.mayEnter = true := enter_of _ restC behind_are strip rfl later mirror door

theorem made : (Try.prog.make == some Rows.fnPositionRoundTripsToOffsetRow.make) = true := by rw [make_of _ (by rw [behind_are]; rfl)]; rfl

theorem lifts : (Rows.fnPositionRoundTripsToOffsetRow.lifted == Try.prog.liftsFinal) = true := by
  unfold Program.liftsFinal Program.headLifts
  rw [behind_are]
  kernel_rfl

theorem facts : joinedFacts Try.prog 8 Try.f8 Rows.fnPositionRoundTripsToOffsetSpec Rows.fnPositionRoundTripsToOffsetRow = true := by
  unfold joinedFacts
  simp only [Bool.and_eq_true]
  repeat' refine And.intro ?_ ?_
  all_goals first
    | with_reducible exact enters
    | with_reducible exact made
    | with_reducible exact lifts
    | kernel_rfl

end Go.Proofs.Qxb6000769a.fnPositionRoundTripsToOffset
