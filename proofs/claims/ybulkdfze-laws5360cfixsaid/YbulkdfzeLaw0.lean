import Derived.Test.YbulkdfzeFix
namespace Go.Proofs.Ybulkdfze
open Go Go.RowKit Go.Lib Go.Shelf

/-- What follows behind the n-th statement. -/
def seqDrop : Nat → Code → Code
  | 0, c => c
  | n + 1, .seq _ b => seqDrop n b
  | _ + 1, c => c
def C3 (f : Func) (n : Nat) : Code := seqDrop n (f.body.getD .skip)

set_option maxRecDepth 1000000 in
set_option maxHeartbeats 4000000 in
/-- The frame, written out by a function. -/
def frame (u : Nat → Value) : Array Value := #[u 0, u 1, u 2, u 3, u 4, u 5, u 6, u 7, u 8, u 9, u 10, u 11, u 12, u 13, u 14, u 15, u 16, u 17, u 18, u 19, u 20, u 21, u 22, u 23, u 24, u 25, u 26, u 27, u 28, u 29, u 30, u 31, u 32, u 33, u 34, u 35, u 36, u 37, u 38, u 39, u 40, u 41, u 42, u 43, u 44, u 45, u 46, u 47, u 48, u 49, u 50, u 51, u 52, u 53, u 54, u 55, u 56, u 57, u 58, u 59, u 60, u 61, u 62, u 63, u 64, u 65, u 66, u 67, u 68, u 69, u 70, u 71, u 72, u 73, u 74, u 75, u 76, u 77, u 78, u 79, u 80, u 81, u 82, u 83, u 84, u 85, u 86, u 87, u 88, u 89, u 90, u 91, u 92, u 93, u 94, u 95, u 96, u 97, u 98, u 99, u 100, u 101, u 102, u 103, u 104, u 105, u 106, u 107, u 108, u 109, u 110, u 111, u 112, u 113, u 114, u 115, u 116, u 117, u 118, u 119, u 120, u 121, u 122, u 123, u 124, u 125, u 126, u 127, u 128, u 129, u 130, u 131, u 132, u 133, u 134, u 135, u 136, u 137, u 138, u 139, u 140, u 141, u 142, u 143, u 144, u 145, u 146, u 147, u 148, u 149, u 150, u 151, u 152, u 153, u 154, u 155, u 156, u 157, u 158, u 159, u 160, u 161, u 162, u 163, u 164, u 165, u 166, u 167, u 168, u 169, u 170, u 171, u 172, u 173, u 174, u 175, u 176, u 177, u 178, u 179, u 180, u 181, u 182, u 183, u 184, u 185, u 186, u 187, u 188, u 189, u 190, u 191, u 192, u 193, u 194, u 195, u 196, u 197, u 198, u 199, u 200, u 201, u 202, u 203, u 204, u 205, u 206, u 207, u 208, u 209, u 210, u 211, u 212, u 213, u 214, u 215, u 216, u 217, u 218, u 219, u 220, u 221, u 222, u 223, u 224, u 225, u 226, u 227, u 228, u 229, u 230, u 231, u 232, u 233, u 234, u 235, u 236, u 237, u 238, u 239, u 240, u 241, u 242, u 243, u 244, u 245, u 246, u 247, u 248, u 249, u 250, u 251, u 252, u 253, u 254, u 255, u 256, u 257, u 258, u 259, u 260, u 261, u 262, u 263, u 264, u 265, u 266, u 267, u 268, u 269, u 270, u 271, u 272, u 273, u 274, u 275, u 276, u 277, u 278, u 279, u 280, u 281, u 282, u 283, u 284, u 285, u 286, u 287, u 288, u 289, u 290, u 291, u 292, u 293, u 294, u 295, u 296, u 297, u 298, u 299, u 300, u 301, u 302, u 303, u 304, u 305, u 306, u 307, u 308, u 309, u 310, u 311, u 312, u 313, u 314, u 315, u 316, u 317, u 318, u 319, u 320, u 321, u 322, u 323, u 324, u 325, u 326, u 327, u 328, u 329, u 330, u 331, u 332, u 333, u 334, u 335, u 336, u 337, u 338, u 339, u 340, u 341, u 342, u 343, u 344, u 345, u 346, u 347, u 348, u 349, u 350, u 351, u 352, u 353, u 354, u 355, u 356, u 357, u 358, u 359, u 360, u 361, u 362, u 363, u 364, u 365, u 366, u 367, u 368, u 369, u 370, u 371, u 372, u 373, u 374, u 375, u 376, u 377, u 378, u 379, u 380, u 381, u 382, u 383, u 384, u 385, u 386, u 387, u 388, u 389, u 390, u 391, u 392, u 393, u 394, u 395, u 396, u 397, u 398, u 399, u 400, u 401, u 402, u 403, u 404, u 405, u 406, u 407, u 408, u 409, u 410, u 411, u 412, u 413, u 414, u 415, u 416, u 417, u 418, u 419, u 420, u 421, u 422, u 423, u 424, u 425, u 426, u 427, u 428, u 429, u 430, u 431, u 432, u 433, u 434, u 435, u 436, u 437, u 438, u 439, u 440, u 441, u 442, u 443, u 444, u 445, u 446, u 447, u 448, u 449, u 450, u 451, u 452, u 453, u 454, u 455, u 456, u 457, u 458, u 459, u 460, u 461, u 462, u 463, u 464, u 465, u 466, u 467, u 468, u 469, u 470, u 471, u 472, u 473, u 474, u 475, u 476, u 477, u 478, u 479, u 480, u 481, u 482, u 483, u 484, u 485, u 486, u 487, u 488, u 489, u 490, u 491, u 492, u 493, u 494, u 495, u 496, u 497, u 498, u 499, u 500, u 501, u 502, u 503, u 504, u 505, u 506, u 507, u 508, u 509, u 510, u 511, u 512, u 513, u 514, u 515, u 516, u 517, u 518, u 519, u 520, u 521, u 522, u 523, u 524, u 525, u 526, u 527, u 528, u 529, u 530, u 531, u 532, u 533, u 534, u 535, u 536, u 537, u 538, u 539, u 540, u 541, u 542, u 543, u 544, u 545, u 546, u 547, u 548, u 549, u 550, u 551, u 552, u 553, u 554, u 555, u 556, u 557, u 558, u 559, u 560, u 561, u 562, u 563, u 564, u 565, u 566, u 567, u 568, u 569, u 570, u 571, u 572, u 573, u 574, u 575, u 576, u 577, u 578, u 579, u 580, u 581, u 582, u 583, u 584, u 585, u 586, u 587, u 588, u 589, u 590, u 591, u 592, u 593, u 594, u 595, u 596, u 597, u 598, u 599, u 600, u 601, u 602, u 603, u 604, u 605, u 606, u 607, u 608, u 609, u 610, u 611, u 612, u 613, u 614, u 615, u 616, u 617, u 618, u 619, u 620, u 621, u 622, u 623, u 624, u 625, u 626, u 627, u 628, u 629, u 630, u 631, u 632, u 633, u 634, u 635, u 636, u 637, u 638, u 639, u 640, u 641, u 642, u 643, u 644, u 645, u 646, u 647, u 648, u 649, u 650, u 651, u 652, u 653, u 654, u 655, u 656, u 657, u 658, u 659, u 660, u 661, u 662, u 663, u 664, u 665, u 666, u 667, u 668, u 669, u 670, u 671, u 672, u 673, u 674, u 675, u 676, u 677, u 678, u 679, u 680, u 681, u 682, u 683, u 684, u 685, u 686, u 687, u 688, u 689, u 690, u 691, u 692, u 693, u 694, u 695, u 696, u 697, u 698, u 699, u 700, u 701, u 702, u 703, u 704, u 705, u 706, u 707, u 708, u 709, u 710, u 711, u 712, u 713, u 714, u 715, u 716, u 717, u 718, u 719, u 720, u 721, u 722, u 723, u 724, u 725, u 726, u 727, u 728, u 729, u 730, u 731, u 732, u 733, u 734, u 735, u 736, u 737, u 738, u 739, u 740, u 741, u 742, u 743, u 744, u 745, u 746, u 747, u 748, u 749, u 750, u 751, u 752, u 753, u 754, u 755, u 756, u 757, u 758, u 759, u 760, u 761, u 762, u 763, u 764, u 765, u 766, u 767, u 768, u 769, u 770, u 771, u 772, u 773, u 774, u 775, u 776, u 777, u 778, u 779, u 780, u 781, u 782, u 783, u 784, u 785, u 786, u 787, u 788, u 789, u 790, u 791, u 792, u 793, u 794, u 795]

set_option maxRecDepth 1000000 in
theorem frame_list (u : Nat → Value) : (frame u).toList = (List.range 796).map u := by kernel_rfl

theorem frame_of (a : Act) (hs : a.tmps.size = 796) (hd : a.defers = []) : ∃ u : Nat → Value, (∀ k v, a.tmps[k]? = some v → u k = v) ∧ a = ⟨frame u, []⟩ := by
  refine ⟨fun k => (a.tmps[k]?).getD undef, fun k v h => by simp [h], ?_⟩
  obtain ⟨tm, df⟩ := a
  simp only at hs hd
  subst hd
  congr 1
  apply Array.ext'
  rw [frame_list]
  apply List.ext_getElem?
  intro i
  rw [List.getElem?_map]
  by_cases h : i < 796
  · have hi : i < tm.size := by omega
    rw [List.getElem?_range h]
    simp [hi]
  · have hi : tm.toList.length ≤ i := by simp; omega
    rw [List.getElem?_eq_none hi, List.getElem?_eq_none (by simp; omega)]
    rfl
end Go.Proofs.Ybulkdfze
