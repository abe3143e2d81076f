import Derived.Test.Qxb6003797aSide
namespace Go.Proofs.Qxb6003797a
open Go.RowKit

/-- The law's frame, its slots by number. -/
def fr5 (f : Nat → Value) : Act := { tmps := [f 0, f 1, f 2, f 3, f 4, f 5, f 6, f 7, f 8, f 9, f 10, f 11, f 12, f 13, f 14, f 15, f 16, f 17, f 18, f 19, f 20, f 21, f 22, f 23, f 24, f 25, f 26, f 27, f 28, f 29, f 30, f 31, f 32, f 33, f 34, f 35, f 36, f 37, f 38, f 39, f 40, f 41, f 42, f 43, f 44, f 45, f 46, f 47, f 48, f 49, f 50, f 51, f 52, f 53, f 54, f 55, f 56, f 57, f 58, f 59, f 60, f 61, f 62, f 63, f 64, f 65, f 66, f 67, f 68, f 69, f 70, f 71, f 72, f 73, f 74, f 75, f 76, f 77, f 78, f 79, f 80, f 81, f 82, f 83, f 84, f 85, f 86, f 87, f 88, f 89, f 90, f 91, f 92, f 93, f 94, f 95, f 96, f 97, f 98, f 99, f 100, f 101, f 102, f 103, f 104, f 105, f 106, f 107, f 108, f 109, f 110, f 111, f 112, f 113, f 114, f 115, f 116, f 117, f 118, f 119, f 120, f 121, f 122, f 123, f 124, f 125, f 126, f 127, f 128, f 129, f 130, f 131, f 132, f 133, f 134, f 135, f 136, f 137, f 138, f 139, f 140, f 141, f 142, f 143, f 144, f 145, f 146, f 147, f 148, f 149, f 150, f 151, f 152, f 153, f 154, f 155, f 156, f 157, f 158, f 159, f 160, f 161, f 162, f 163, f 164, f 165, f 166, f 167, f 168, f 169, f 170, f 171, f 172, f 173, f 174, f 175, f 176, f 177, f 178, f 179, f 180, f 181, f 182, f 183, f 184, f 185, f 186, f 187, f 188, f 189, f 190, f 191, f 192, f 193, f 194, f 195, f 196, f 197, f 198, f 199, f 200, f 201, f 202, f 203, f 204, f 205, f 206, f 207, f 208, f 209, f 210, f 211, f 212, f 213, f 214, f 215, f 216, f 217, f 218, f 219, f 220, f 221, f 222, f 223, f 224, f 225, f 226, f 227, f 228, f 229, f 230, f 231, f 232, f 233, f 234, f 235, f 236, f 237, f 238, f 239, f 240, f 241, f 242, f 243, f 244, f 245, f 246, f 247, f 248, f 249, f 250, f 251, f 252, f 253, f 254, f 255, f 256, f 257, f 258, f 259, f 260, f 261, f 262, f 263, f 264, f 265, f 266, f 267, f 268, f 269, f 270, f 271, f 272, f 273, f 274, f 275, f 276, f 277, f 278, f 279, f 280, f 281, f 282, f 283, f 284, f 285, f 286, f 287, f 288, f 289, f 290, f 291, f 292, f 293, f 294, f 295, f 296, f 297, f 298, f 299, f 300, f 301, f 302, f 303, f 304, f 305, f 306, f 307, f 308, f 309, f 310, f 311, f 312, f 313, f 314, f 315, f 316, f 317, f 318, f 319, f 320, f 321, f 322, f 323, f 324, f 325, f 326, f 327, f 328, f 329, f 330, f 331, f 332, f 333, f 334, f 335, f 336, f 337, f 338, f 339, f 340, f 341, f 342, f 343, f 344, f 345, f 346, f 347, f 348, f 349, f 350, f 351, f 352].toArray, defers := [] }

set_option maxRecDepth 100000 in
theorem fr5_eq (f : Nat → Value) : fr5 f = { tmps := ((List.range 353).map f).toArray, defers := [] } := by kernel_rfl

/-- Any frame of 353 slots is of this shape. -/
theorem fr5_of (a : Act) (h : a.tmps.size = 353) (hd : a.defers = []) : a = fr5 (fun i => a.tmps.getD i undef) := by
  rw [fr5_eq]
  obtain ⟨t, d⟩ := a
  simp only at h hd
  subst hd
  congr 1
  apply Array.ext
  · simp [h]
  · intro i h1 h2
    simp [Array.getD, h1]

/-- A frame that is 353 slots long; what the law's variables hold. -/
structure F5 (a : Act) (v0 v1 v2 v3 v9 v10 : Value) : Prop where
  size : a.tmps.size = 353
  defers : a.defers = []
  s0 : a.tmps.getD 0 undef = v0
  s1 : a.tmps.getD 1 undef = v1
  s2 : a.tmps.getD 2 undef = v2
  s3 : a.tmps.getD 3 undef = v3
  s9 : a.tmps.getD 9 undef = v9
  s10 : a.tmps.getD 10 undef = v10

theorem F5.open {a : Act} {v0 v1 v2 v3 v9 v10 : Value} (h : F5 a v0 v1 v2 v3 v9 v10) : ∃ f : Nat → Value, a = fr5 f ∧ f 0 = v0 ∧ f 1 = v1 ∧ f 2 = v2 ∧ f 3 = v3 ∧ f 9 = v9 ∧ f 10 = v10 ∧ ∀ i, f i = a.tmps.getD i undef :=
  ⟨_, fr5_of a h.size h.defers, h.s0, h.s1, h.s2, h.s3, h.s9, h.s10, fun _ => rfl⟩
end Go.Proofs.Qxb6003797a
