/-
  nextStdChunk: the walk (printed by gen_Hc.py).
-/
import Derived.Test.YtchmhdmapknmfaaGreatDoorHb
import Derived.Test.YtchmhdmapknmfaaGreatDoorEe
import Derived.Deep.QuietTactic
import Derived.BigQuiet
namespace Go.Proofs.YtchmhdmapknmfaaGreatDoor
open Go.RowKit

/-- What the loop's frame is: the layout, the place; the other slots hold whatever they hold. -/
def NxInv (s : ByteArray) (w : World) (a' : Act) (w' : World) : Prop := ∃ (f : Nat → Value) (k : Nat), NxRel s w k w' ∧ a' = ⟨#[.string s, undef, f 2, f 3, f 4, .int .i64 (k : Int), f 6, f 7, f 8, f 9, f 10, f 11, f 12, f 13, f 14, f 15, f 16, f 17, f 18, f 19, f 20, f 21, f 22, f 23, f 24, f 25, f 26, f 27, f 28, f 29, f 30, f 31, f 32, f 33, f 34, f 35, f 36, f 37, f 38, f 39, f 40, f 41, f 42, f 43, f 44, f 45, f 46, f 47, f 48, f 49, f 50, f 51, f 52, f 53, f 54, f 55, f 56, f 57, f 58, f 59, f 60, f 61, f 62, f 63, f 64, f 65, f 66, f 67, f 68, f 69, f 70, f 71, f 72, f 73, f 74, f 75, f 76, f 77, f 78, f 79, f 80, f 81, f 82, f 83, f 84, f 85, f 86, f 87, f 88, f 89, f 90, f 91, f 92, f 93, f 94, f 95, f 96, f 97, f 98, f 99, f 100, f 101, f 102, f 103, f 104, f 105, f 106, f 107, f 108, f 109, f 110, f 111, f 112, f 113, f 114, f 115, f 116, f 117, f 118, f 119, f 120, f 121, f 122, f 123, f 124, f 125, f 126, f 127, f 128, f 129, f 130, f 131, f 132, f 133, f 134, f 135, f 136, f 137, f 138, f 139, f 140, f 141, f 142, f 143, f 144, f 145, f 146, f 147, f 148, f 149, f 150, f 151, f 152, f 153, f 154, f 155, f 156, f 157, f 158, f 159, f 160, f 161, f 162, f 163, f 164, f 165, f 166, f 167, f 168, f 169, f 170, f 171, f 172, f 173, f 174, f 175, f 176, f 177, f 178, f 179, f 180, f 181, f 182, f 183, f 184, f 185, f 186, f 187, f 188, f 189, f 190, f 191, f 192, f 193, f 194, f 195, f 196, f 197, f 198, f 199, f 200, f 201, f 202, f 203, f 204, f 205, f 206, f 207, f 208, f 209, f 210, f 211, f 212, f 213, f 214, f 215, f 216, f 217, f 218, f 219, f 220, f 221, f 222, f 223, f 224, f 225, f 226, f 227, f 228, f 229, f 230, f 231, f 232, f 233, f 234, f 235, f 236, f 237, f 238, f 239, f 240, f 241, f 242, f 243, f 244, f 245, f 246, f 247, f 248, f 249, f 250, f 251, f 252, f 253, f 254, f 255, f 256, f 257, f 258, f 259, f 260, f 261, f 262, f 263, f 264, f 265, f 266, f 267, f 268, f 269, f 270, f 271, f 272, f 273, f 274, f 275, f 276, f 277, f 278, f 279, f 280, f 281, f 282, f 283, f 284, f 285, f 286, f 287, f 288, f 289, f 290, f 291, f 292, f 293, f 294, f 295, f 296, f 297, f 298, f 299, f 300, f 301, f 302, f 303, f 304, f 305, f 306, f 307, f 308, f 309, f 310, f 311, f 312, f 313, f 314, f 315, f 316, f 317, f 318, f 319, f 320, f 321, f 322, f 323, f 324, f 325, f 326, f 327, f 328, f 329, f 330, f 331, f 332, f 333, f 334, f 335, f 336, f 337, f 338, f 339, f 340, f 341, f 342, f 343, f 344, f 345, f 346, f 347, f 348, f 349, f 350, f 351, f 352, f 353, f 354, f 355, f 356, f 357, f 358, f 359, f 360, f 361, f 362, f 363, f 364, f 365, f 366, f 367, f 368, f 369, f 370, f 371, f 372, f 373, f 374, f 375, f 376, f 377, f 378, f 379, f 380, f 381, f 382, f 383, f 384, f 385, f 386, f 387, f 388, f 389, f 390, f 391, f 392, f 393, f 394, f 395, f 396, f 397, f 398, f 399, f 400, f 401, f 402, f 403, f 404, f 405, f 406, f 407, f 408, f 409, f 410, f 411, f 412, f 413, f 414, f 415, f 416, f 417, f 418, f 419, f 420, f 421, f 422, f 423, f 424, f 425, f 426, f 427, f 428, f 429, f 430, f 431, f 432, f 433, f 434, f 435, f 436, f 437, f 438, f 439, f 440, f 441, f 442, f 443, f 444, f 445, f 446, f 447, f 448, f 449, f 450, f 451, f 452, f 453, f 454, f 455, f 456, f 457, f 458, f 459, f 460, f 461, f 462, f 463, f 464, f 465, f 466, f 467, f 468, f 469, f 470, f 471, f 472, f 473, f 474, f 475, f 476, f 477, f 478, f 479, f 480, f 481, f 482, f 483, f 484, f 485, f 486, f 487, f 488, f 489, f 490, f 491, f 492, f 493, f 494, f 495, f 496, f 497, f 498, f 499, f 500, f 501, f 502, f 503, f 504, f 505, f 506, f 507, f 508, f 509, f 510, f 511, f 512, f 513, f 514, f 515, f 516, f 517, f 518, f 519, f 520, f 521, f 522, f 523, f 524, f 525, f 526, f 527, f 528, f 529, f 530, f 531, f 532, f 533, f 534, f 535, f 536, f 537, f 538, f 539, f 540, f 541, f 542, f 543, f 544, f 545, f 546, f 547, f 548, f 549, f 550, f 551, f 552, f 553, f 554, f 555, f 556, f 557, f 558, f 559, f 560, f 561, f 562, f 563, f 564, f 565, f 566, f 567, f 568, f 569, f 570, f 571, f 572, f 573, f 574, f 575, f 576, f 577, f 578, f 579, f 580, f 581, f 582, f 583, f 584, f 585, f 586, f 587, f 588, f 589, f 590, f 591, f 592, f 593, f 594, f 595, f 596, f 597, f 598, f 599, f 600, f 601, f 602, f 603, f 604, f 605, f 606, f 607, f 608, f 609, f 610, f 611, f 612, f 613, f 614, f 615, f 616, f 617, f 618, f 619, f 620, f 621, f 622, f 623, f 624, f 625, f 626, f 627, f 628, f 629, f 630, f 631, f 632, f 633, f 634, f 635, f 636, f 637, f 638, f 639, f 640, f 641, f 642, f 643, f 644, f 645, f 646, f 647, f 648, f 649, f 650, f 651, f 652, f 653], []⟩
def nxMu (s : ByteArray) (a' : Act) : Nat := s.size - (intOf (a'.tmps.getD 5 undef)).toNat

def nxRow (x0 x1 x5 : Value) (f : Nat → Value) : List Value := [x0, x1, f 2, f 3, f 4, x5, f 6, f 7, f 8, f 9, f 10, f 11, f 12, f 13, f 14, f 15, f 16, f 17, f 18, f 19, f 20, f 21, f 22, f 23, f 24, f 25, f 26, f 27, f 28, f 29, f 30, f 31, f 32, f 33, f 34, f 35, f 36, f 37, f 38, f 39, f 40, f 41, f 42, f 43, f 44, f 45, f 46, f 47, f 48, f 49, f 50, f 51, f 52, f 53, f 54, f 55, f 56, f 57, f 58, f 59, f 60, f 61, f 62, f 63, f 64, f 65, f 66, f 67, f 68, f 69, f 70, f 71, f 72, f 73, f 74, f 75, f 76, f 77, f 78, f 79, f 80, f 81, f 82, f 83, f 84, f 85, f 86, f 87, f 88, f 89, f 90, f 91, f 92, f 93, f 94, f 95, f 96, f 97, f 98, f 99, f 100, f 101, f 102, f 103, f 104, f 105, f 106, f 107, f 108, f 109, f 110, f 111, f 112, f 113, f 114, f 115, f 116, f 117, f 118, f 119, f 120, f 121, f 122, f 123, f 124, f 125, f 126, f 127, f 128, f 129, f 130, f 131, f 132, f 133, f 134, f 135, f 136, f 137, f 138, f 139, f 140, f 141, f 142, f 143, f 144, f 145, f 146, f 147, f 148, f 149, f 150, f 151, f 152, f 153, f 154, f 155, f 156, f 157, f 158, f 159, f 160, f 161, f 162, f 163, f 164, f 165, f 166, f 167, f 168, f 169, f 170, f 171, f 172, f 173, f 174, f 175, f 176, f 177, f 178, f 179, f 180, f 181, f 182, f 183, f 184, f 185, f 186, f 187, f 188, f 189, f 190, f 191, f 192, f 193, f 194, f 195, f 196, f 197, f 198, f 199, f 200, f 201, f 202, f 203, f 204, f 205, f 206, f 207, f 208, f 209, f 210, f 211, f 212, f 213, f 214, f 215, f 216, f 217, f 218, f 219, f 220, f 221, f 222, f 223, f 224, f 225, f 226, f 227, f 228, f 229, f 230, f 231, f 232, f 233, f 234, f 235, f 236, f 237, f 238, f 239, f 240, f 241, f 242, f 243, f 244, f 245, f 246, f 247, f 248, f 249, f 250, f 251, f 252, f 253, f 254, f 255, f 256, f 257, f 258, f 259, f 260, f 261, f 262, f 263, f 264, f 265, f 266, f 267, f 268, f 269, f 270, f 271, f 272, f 273, f 274, f 275, f 276, f 277, f 278, f 279, f 280, f 281, f 282, f 283, f 284, f 285, f 286, f 287, f 288, f 289, f 290, f 291, f 292, f 293, f 294, f 295, f 296, f 297, f 298, f 299, f 300, f 301, f 302, f 303, f 304, f 305, f 306, f 307, f 308, f 309, f 310, f 311, f 312, f 313, f 314, f 315, f 316, f 317, f 318, f 319, f 320, f 321, f 322, f 323, f 324, f 325, f 326, f 327, f 328, f 329, f 330, f 331, f 332, f 333, f 334, f 335, f 336, f 337, f 338, f 339, f 340, f 341, f 342, f 343, f 344, f 345, f 346, f 347, f 348, f 349, f 350, f 351, f 352, f 353, f 354, f 355, f 356, f 357, f 358, f 359, f 360, f 361, f 362, f 363, f 364, f 365, f 366, f 367, f 368, f 369, f 370, f 371, f 372, f 373, f 374, f 375, f 376, f 377, f 378, f 379, f 380, f 381, f 382, f 383, f 384, f 385, f 386, f 387, f 388, f 389, f 390, f 391, f 392, f 393, f 394, f 395, f 396, f 397, f 398, f 399, f 400, f 401, f 402, f 403, f 404, f 405, f 406, f 407, f 408, f 409, f 410, f 411, f 412, f 413, f 414, f 415, f 416, f 417, f 418, f 419, f 420, f 421, f 422, f 423, f 424, f 425, f 426, f 427, f 428, f 429, f 430, f 431, f 432, f 433, f 434, f 435, f 436, f 437, f 438, f 439, f 440, f 441, f 442, f 443, f 444, f 445, f 446, f 447, f 448, f 449, f 450, f 451, f 452, f 453, f 454, f 455, f 456, f 457, f 458, f 459, f 460, f 461, f 462, f 463, f 464, f 465, f 466, f 467, f 468, f 469, f 470, f 471, f 472, f 473, f 474, f 475, f 476, f 477, f 478, f 479, f 480, f 481, f 482, f 483, f 484, f 485, f 486, f 487, f 488, f 489, f 490, f 491, f 492, f 493, f 494, f 495, f 496, f 497, f 498, f 499, f 500, f 501, f 502, f 503, f 504, f 505, f 506, f 507, f 508, f 509, f 510, f 511, f 512, f 513, f 514, f 515, f 516, f 517, f 518, f 519, f 520, f 521, f 522, f 523, f 524, f 525, f 526, f 527, f 528, f 529, f 530, f 531, f 532, f 533, f 534, f 535, f 536, f 537, f 538, f 539, f 540, f 541, f 542, f 543, f 544, f 545, f 546, f 547, f 548, f 549, f 550, f 551, f 552, f 553, f 554, f 555, f 556, f 557, f 558, f 559, f 560, f 561, f 562, f 563, f 564, f 565, f 566, f 567, f 568, f 569, f 570, f 571, f 572, f 573, f 574, f 575, f 576, f 577, f 578, f 579, f 580, f 581, f 582, f 583, f 584, f 585, f 586, f 587, f 588, f 589, f 590, f 591, f 592, f 593, f 594, f 595, f 596, f 597, f 598, f 599, f 600, f 601, f 602, f 603, f 604, f 605, f 606, f 607, f 608, f 609, f 610, f 611, f 612, f 613, f 614, f 615, f 616, f 617, f 618, f 619, f 620, f 621, f 622, f 623, f 624, f 625, f 626, f 627, f 628, f 629, f 630, f 631, f 632, f 633, f 634, f 635, f 636, f 637, f 638, f 639, f 640, f 641, f 642, f 643, f 644, f 645, f 646, f 647, f 648, f 649, f 650, f 651, f 652, f 653]
theorem nxRow_eq (f : Nat → Value) : (List.range 654).map f = nxRow (f 0) (f 1) (f 5) f := by kernel_rfl

theorem nx_frame {s : ByteArray} {w wr : World} {k : Nat} {A : Array Value} (h : NxRel s w k wr) (h1 : A.size = 654) (h0 : A.getD 0 undef = .string s) (hu : A.getD 1 undef = undef) (h5 : A.getD 5 undef = .int .i64 (k : Int)) : NxInv s w ⟨A, []⟩ wr := by
  refine ⟨fun n => A.getD n undef, k, h, ?_⟩
  have e : A = (nxRow (.string s) undef (.int .i64 (k : Int)) (fun n => A.getD n undef)).toArray := by
    have e1 := nxRow_eq (fun n => A.getD n undef)
    rw [h0, hu, h5] at e1
    rw [← e1]
    apply Array.ext
    · simp [h1]
    · intro i hi hi2
      simp [Array.getD, hi]
  exact congrArg (fun x => (⟨x, []⟩ : Act)) e

theorem nx_less {s : ByteArray} {A B : Array Value} {k : Nat} (hA : A.getD 5 undef = .int .i64 ((k + 1 : Nat) : Int)) (hB : B.getD 5 undef = .int .i64 (k : Int)) (hlt : k < s.size) : nxMu s ⟨A, []⟩ < nxMu s ⟨B, []⟩ := by
  unfold nxMu
  simp only
  rw [hA, hB]
  simp only [intOf]
  omega

theorem nx_below {w wr : World} (h : Below w.heap.size w wr) (n : Nat) : Below w.heap.size w (wr.drewN n) := below_drewN h n

theorem nx_ne {x : UInt8} (h : x.toNat ≠ 48) : x ≠ 48 := fun e => h (by rw [e]; rfl)
theorem nx_range {x : UInt8} (h1 : x ≠ 49) (h2 : x ≠ 50) (h3 : x ≠ 51) (h4 : x ≠ 52) (h5 : x ≠ 53) (h6 : x ≠ 54) : x.toNat < 49 ∨ 54 < x.toNat := by
  have t : ∀ a : UInt8, x ≠ a → x.toNat ≠ a.toNat := fun a h e => h (UInt8.toNat_inj.1 e)
  have := t 49 h1; have := t 50 h2; have := t 51 h3; have := t 52 h4; have := t 53 h5; have := t 54 h6
  simp only [UInt8.reduceToNat] at *
  omega
theorem pre_not {l : List UInt8} {a b : UInt8} {p q : List UInt8} (h : a ≠ b) (hp : Ly.pre (a :: p) l = true) : Ly.pre (b :: q) l = false := by
  cases l with
  | nil => rfl
  | cons c l =>
    simp only [Ly.pre, Bool.and_eq_true, beq_iff_eq] at hp
    show (b == c && Ly.pre q l) = false
    rw [← hp.1, beq_eq_false_iff_ne.2 (Ne.symm h), Bool.false_and]
theorem pre_tail {s : ByteArray} {k : Nat} {a : UInt8} {p : List UInt8} (h : k < s.size) (hp : Ly.pre (a :: p) ((bts s).drop k) = true) : Ly.pre p ((bts s).drop (k + 1)) = true := by
  rw [bts_drop s k h] at hp
  simp only [Ly.pre, Bool.and_eq_true] at hp
  exact hp.2

/-- What the loop over the digits of parts of a second keeps. -/
def FrR (s : ByteArray) (k : Nat) (d : UInt8) (w4 : World) (v8 : Value) (w8 : World) : Prop :=
  ∃ j : Nat, v8 = .int .i64 (j : Int) ∧ k + 1 ≤ j ∧ j ≤ s.size ∧ Ly.run d ((bts s).drop (k + 1)) = j - (k + 1) + Ly.run d ((bts s).drop j) ∧ w8 = w4

theorem run_step {s : ByteArray} {k j : Nat} {d : UInt8} (hj : j < s.size) (hd : s[j] = d) (h : Ly.run d ((bts s).drop (k + 1)) = j - (k + 1) + Ly.run d ((bts s).drop j)) (h1 : k + 1 ≤ j) :
    Ly.run d ((bts s).drop (k + 1)) = j + 1 - (k + 1) + Ly.run d ((bts s).drop (j + 1)) := by
  rw [bts_drop s j hj] at h
  simp only [Ly.run, hd, if_true] at h
  omega
theorem run_end {s : ByteArray} {k j : Nat} {d : UInt8} (hj : j < s.size) (hd : s[j] ≠ d) (h : Ly.run d ((bts s).drop (k + 1)) = j - (k + 1) + Ly.run d ((bts s).drop j)) : Ly.run d ((bts s).drop (k + 1)) = j - (k + 1) := by
  rw [bts_drop s j hj] at h
  simp only [Ly.run, hd, if_false] at h
  omega
theorem run_over {s : ByteArray} {k j : Nat} {d : UInt8} (hj : s.size ≤ j) (h : Ly.run d ((bts s).drop (k + 1)) = j - (k + 1) + Ly.run d ((bts s).drop j)) : Ly.run d ((bts s).drop (k + 1)) = j - (k + 1) := by
  rw [List.drop_of_length_le (l := bts s) (i := j) (by rw [bts_length]; exact hj)] at h
  exact h
theorem ck_frac {s : ByteArray} {k j : Nat} {c d : UInt8} (hc1 : c = 46 ∨ c = 44) (hd1 : d = 48 ∨ d = 57) (hlt : k < s.size) (hc : s[k] = c) (h1 : k + 1 < s.size) (hd : s[k + 1] = d) (hj : k + 1 ≤ j) (hr : Ly.run d ((bts s).drop (k + 1)) = j - (k + 1)) :
    Ly.ck ((bts s).drop k) = if Ly.dig ((bts s).drop j) = true then none else some (Ly.frac c d (j - (k + 1)), j - k) := by
  have e : ∀ r, Ly.ck (c :: d :: r) = if Ly.dig ((d :: r).drop (Ly.run d (d :: r))) = true then none else some (Ly.frac c d (Ly.run d (d :: r)), Ly.run d (d :: r) + 1) := by
    intro r
    rcases hc1 with rfl | rfl <;> rcases hd1 with rfl | rfl <;> simp [Ly.ck]
  have hdr := bts_drop s (k + 1) h1
  rw [hd] at hdr
  rw [bts_drop s k hlt, hc, hdr, e, ← hdr, hr, List.drop_drop, show k + 1 + (j - (k + 1)) = j by omega, show j - (k + 1) + 1 = j - k by omega]

/-- The table of the parts that begin with a nought. -/
def Std0 (w : World) : Prop := w.cell? ⟨4, 0, none⟩ = some (.int .i64 260) ∧ w.cell? ⟨4, 1, none⟩ = some (.int .i64 265) ∧ w.cell? ⟨4, 2, none⟩ = some (.int .i64 1038) ∧ w.cell? ⟨4, 3, none⟩ = some (.int .i64 1040) ∧
  w.cell? ⟨4, 4, none⟩ = some (.int .i64 1042) ∧ w.cell? ⟨4, 5, none⟩ = some (.int .i64 276)

theorem Std0.later {w w' : World} (h : Std0 w) (hb : Below w.heap.size w w') (hH : 11 ≤ w.heap.size) : Std0 w' := by
  unfold Std0 at *
  have e : ∀ i, w'.cell? ⟨4, i, none⟩ = w.cell? ⟨4, i, none⟩ := fun i => hb.cell (by show 4 < _; omega)
  simp only [e]
  exact h

/-- The round's code. -/
noncomputable def nxBody : Code := match Tryz.f162.body with
  | some (.seq _ (.seq (.seq _ (.block _ (.loop c))) _)) => c
  | _ => .skip

end Go.Proofs.YtchmhdmapknmfaaGreatDoor
