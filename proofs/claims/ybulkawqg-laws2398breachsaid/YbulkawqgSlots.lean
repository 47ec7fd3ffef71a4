/-
  components: the frames of its loops; the loops' bodies out of the translation.
-/
import Derived.Test.YbulkawqgVisit
namespace Go.Proofs.Ybulkawqg
open Go.RowKit
open Plain (upd St)

/-- The bodies of all loops of a piece of code, the outer one first. -/
def loops : Code → List Code
  | .loop c => c :: loops c
  | .seq a b => loops a ++ loops b
  | .block _ c => loops c
  | .scope c => loops c
  | .cond _ a b => loops a ++ loops b
  | _ => []

theorem by_range (t : Array Value) : t = ((List.range t.size).map fun i => t.getD i undef).toArray := by
  apply Array.ext'
  apply List.ext_getElem
  · simp
  · intro i h1 h2
    simp at h1
    simp [Array.getD, h1]

/-- A frame of 178 slots, written out. -/
theorem lit178 (t : Array Value) (h : t.size = 178) : t = #[t.getD 0 undef, t.getD 1 undef, t.getD 2 undef, t.getD 3 undef, t.getD 4 undef, t.getD 5 undef, t.getD 6 undef, t.getD 7 undef, t.getD 8 undef, t.getD 9 undef, t.getD 10 undef, t.getD 11 undef, t.getD 12 undef, t.getD 13 undef, t.getD 14 undef, t.getD 15 undef, t.getD 16 undef, t.getD 17 undef, t.getD 18 undef, t.getD 19 undef, t.getD 20 undef, t.getD 21 undef, t.getD 22 undef, t.getD 23 undef, t.getD 24 undef, t.getD 25 undef, t.getD 26 undef, t.getD 27 undef, t.getD 28 undef, t.getD 29 undef, t.getD 30 undef, t.getD 31 undef, t.getD 32 undef, t.getD 33 undef, t.getD 34 undef, t.getD 35 undef, t.getD 36 undef, t.getD 37 undef, t.getD 38 undef, t.getD 39 undef, t.getD 40 undef, t.getD 41 undef, t.getD 42 undef, t.getD 43 undef, t.getD 44 undef, t.getD 45 undef, t.getD 46 undef, t.getD 47 undef, t.getD 48 undef, t.getD 49 undef, t.getD 50 undef, t.getD 51 undef, t.getD 52 undef, t.getD 53 undef, t.getD 54 undef, t.getD 55 undef, t.getD 56 undef, t.getD 57 undef, t.getD 58 undef, t.getD 59 undef, t.getD 60 undef, t.getD 61 undef, t.getD 62 undef, t.getD 63 undef, t.getD 64 undef, t.getD 65 undef, t.getD 66 undef, t.getD 67 undef, t.getD 68 undef, t.getD 69 undef, t.getD 70 undef, t.getD 71 undef, t.getD 72 undef, t.getD 73 undef, t.getD 74 undef, t.getD 75 undef, t.getD 76 undef, t.getD 77 undef, t.getD 78 undef, t.getD 79 undef, t.getD 80 undef, t.getD 81 undef, t.getD 82 undef, t.getD 83 undef, t.getD 84 undef, t.getD 85 undef, t.getD 86 undef, t.getD 87 undef, t.getD 88 undef, t.getD 89 undef, t.getD 90 undef, t.getD 91 undef, t.getD 92 undef, t.getD 93 undef, t.getD 94 undef, t.getD 95 undef, t.getD 96 undef, t.getD 97 undef, t.getD 98 undef, t.getD 99 undef, t.getD 100 undef, t.getD 101 undef, t.getD 102 undef, t.getD 103 undef, t.getD 104 undef, t.getD 105 undef, t.getD 106 undef, t.getD 107 undef, t.getD 108 undef, t.getD 109 undef, t.getD 110 undef, t.getD 111 undef, t.getD 112 undef, t.getD 113 undef, t.getD 114 undef, t.getD 115 undef, t.getD 116 undef, t.getD 117 undef, t.getD 118 undef, t.getD 119 undef, t.getD 120 undef, t.getD 121 undef, t.getD 122 undef, t.getD 123 undef, t.getD 124 undef, t.getD 125 undef, t.getD 126 undef, t.getD 127 undef, t.getD 128 undef, t.getD 129 undef, t.getD 130 undef, t.getD 131 undef, t.getD 132 undef, t.getD 133 undef, t.getD 134 undef, t.getD 135 undef, t.getD 136 undef, t.getD 137 undef, t.getD 138 undef, t.getD 139 undef, t.getD 140 undef, t.getD 141 undef, t.getD 142 undef, t.getD 143 undef, t.getD 144 undef, t.getD 145 undef, t.getD 146 undef, t.getD 147 undef, t.getD 148 undef, t.getD 149 undef, t.getD 150 undef, t.getD 151 undef, t.getD 152 undef, t.getD 153 undef, t.getD 154 undef, t.getD 155 undef, t.getD 156 undef, t.getD 157 undef, t.getD 158 undef, t.getD 159 undef, t.getD 160 undef, t.getD 161 undef, t.getD 162 undef, t.getD 163 undef, t.getD 164 undef, t.getD 165 undef, t.getD 166 undef, t.getD 167 undef, t.getD 168 undef, t.getD 169 undef, t.getD 170 undef, t.getD 171 undef, t.getD 172 undef, t.getD 173 undef, t.getD 174 undef, t.getD 175 undef, t.getD 176 undef, t.getD 177 undef] := by
  have e := by_range t
  rw [h] at e
  exact e

/-- What the loops of components need to know of the frame. -/
structure Sl (t : Array Value) (gb B n : Nat) (k : Int) : Prop where
  size : t.size = 178
  s0 : t.getD 0 undef = .slice (some ⟨gb, 0, none⟩) n n
  s3 : t.getD 3 undef = .pointer (some ⟨B + 1, 0, none⟩)
  s4 : t.getD 4 undef = .pointer (some ⟨B + 3, 0, none⟩)
  s5 : t.getD 5 undef = .slice (some ⟨B + 4, 0, none⟩) n n
  s7 : t.getD 7 undef = .pointer (some ⟨B + 5, 0, none⟩)
  s8 : t.getD 8 undef = .pointer (some ⟨B + 6, 0, none⟩)
  s11 : t.getD 11 undef = .func (.func 24) #[] #[.pointer (some ⟨B + 7, 0, none⟩), .pointer (some ⟨B + 1, 0, none⟩), .pointer (some ⟨B + 3, 0, none⟩), .pointer (some ⟨B + 5, 0, none⟩), .pointer (some ⟨B + 6, 0, none⟩)]
  s41 : t.getD 41 undef = .int .i64 (n : Int)
  s42 : t.getD 42 undef = .int .i64 k

end Go.Proofs.Ybulkawqg
