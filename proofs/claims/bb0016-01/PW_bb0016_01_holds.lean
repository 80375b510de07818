import PyProof.Rows.All
import Wide.All
import OpenK.AllK
import Wide.FinOn
import KE.KDictIter
import KE.KDictList
import KE.KOwnIter
import KE.KRevSl
import KE.KSliceW
import KE.KSorted
import KE.KTypeName
import KE.LcSums
import Lean
import PySem.Challenge.RW_bb0016_01
set_option Elab.async false
section
open PySem PySem.W PyProof.Rows
namespace Mine
/-- a goal, and beside it three that are none of the goal's -/
theorem aside {G T U V : Prop} (hl : T) (hw : U) (hc : V) (main : G) : G := main
set_option Elab.async true in
set_option maxRecDepth 100000 in
set_option maxHeartbeats 0 in
/-- of no weight by itself: in passing it writes out the heap behind the text's top (pre.heap_1_1) and the view of the text (pre.view_1_2), which the contracts below speak of -/
theorem pre (_h : False) : PySem.Challenge.rw_bb0016_01.row.wellSaid = true → PySem.Challenge.rw_bb0016_01.row.Holds := by
  intro said
  apply aside
  contradiction
  contradiction
  contradiction
  k_head
end Mine
end
section
open PySem PySem.W PySem.Spec PySem.Calls PyProof.Rows
namespace Mine
def whole.tw7208788226228431162 : Nat := 0
def whole.tw6933000274411077331 : Nat := 0
def whole.tw16097647494793596952 : Nat := 0
def whole.tw7477298336846816707 : Nat := 0
def whole.tw15401925785045324024 : Nat := 0
def whole.tw17825696286857249293 : Nat := 0
def whole.tw8225724979897877496 : Nat := 0
def whole.tw16362739435301404231 : Nat := 0
def whole.tw11835021682919670469 : Nat := 0
def whole.tw1015794307526443389 : Nat := 0
def whole.tw6609050250326073825 : Nat := 0
def whole.tw3558229853436854668 : Nat := 0
def whole.tw8018726054813208042 : Nat := 0
def whole.tw520772439267309755 : Nat := 0
def whole.tw2323286053635943406 : Nat := 0
def whole.tw14329967948234053142 : Nat := 0
def whole.tw18398550330971950925 : Nat := 0
def whole.tw16886603127163593874 : Nat := 0
def whole.tw6514368954673115680 : Nat := 0
def whole.tw10301058789083799970 : Nat := 0
def whole.tw7444777326323625896 : Nat := 0
def whole.tw14229200239333095832 : Nat := 0
def whole.tw3189793309571991228 : Nat := 0
def whole.tw8397569064536599937 : Nat := 0
def whole.tw14184711312988654859 : Nat := 0
def whole.tw5923511863534929302 : Nat := 0
def whole.tw14327238373524491041 : Nat := 0
def whole.tw17701995262425396594 : Nat := 0
def whole.tw10025580647900007667 : Nat := 0
def whole.tw18436196361677291066 : Nat := 0
def whole.tw13299354312176971544 : Nat := 0
def whole.tw11096717647830507963 : Nat := 0
def whole.tw11497535229794068515 : Nat := 0
def whole.tw15304457243387637030 : Nat := 0
def whole.tw8133624915074358956 : Nat := 0
def whole.tw7483708298544864208 : Nat := 0
def whole.tw14879920056562544496 : Nat := 0
def whole.tw802311668785564688 : Nat := 0
def whole.tw17104684553832851489 : Nat := 0
def whole.tw13766397564060867634 : Nat := 0
def whole.tw8553467027442095714 : Nat := 0
def whole.tw8712884159472740715 : Nat := 0
def whole.tw3285051714500770498 : Nat := 0
def whole.tw1131265310218800333 : Nat := 0
def whole.tw12086665354221477700 : Nat := 0
def whole.tw10409929718923898528 : Nat := 0
def whole.tw590388290315067818 : Nat := 0
/-- a goal, and beside it another of the library's own, whose proof o_head looks for by its name -/
theorem takeHl {T Hd : Prop} (main : False → Hd) (hl : T) : T := hl
theorem asideC {G U V : Prop} (hw : U) (hc : V) (main : G) : G := main
theorem asideL {G T : Prop} (hl : T) (main : G) : G := main
set_option Elab.async true in
set_option maxRecDepth 100000 in
set_option maxHeartbeats 0 in
theorem whole : LeftO PySem.Challenge.rw_bb0016_01.row.prog Mine.pre.view_1_2 [Str.ofString "Iterable", Str.ofString "Sized", Str.ofString "Container", Str.ofString "Collection", Str.ofString "Set", Str.ofString "Mapping", Str.ofString "MappingView", Str.ofString "KeysView", Str.ofString "ItemsView", Str.ofString "ValuesView", Str.ofString "MutableMapping", Str.ofString "Cache", Str.ofString "FIFOCache", Str.ofString "LRUCache"] (fun s => xlAt Mine.pre.view_1_2 ([] : List (Str × WData)) s && recOk (RowW.records PySem.Challenge.rw_bb0016_01.row.toRowW) s) (Hook.obs (kHook Mine.pre.heap_1_1 [2, 3, 33, 35, 36, 38, 39, 40, 47, 49, 50, 52, 53, 54, 55, 56, 59, 66, 68, 69, 71, 72, 73, 75, 76, 78, 79, 80, 82, 83, 85, 86, 87, 88, 89, 92, 94, 95, 97, 98, 99, 101, 102, 104, 105, 106, 108, 109, 111, 112, 113, 115, 116, 118, 119, 120, 122, 123, 125, 126, 127, 129, 130, 132, 133, 141, 142, 144, 145, 147, 148, 149, 151, 152, 154, 155, 156, 158, 159, 161, 162, 163, 165, 166, 167, 170, 178, 179, 181, 182, 184, 185, 186, 188, 189, 191, 192, 193, 195, 196, 199, 207, 208, 210, 211, 213, 214, 215, 217, 218, 220, 221, 222, 224, 225, 227, 228, 229, 231, 232, 233, 236, 237, 244, 245, 247, 248, 250, 251, 252, 254, 255, 258, 259, 266, 267, 269, 270, 272, 273, 274, 276, 277, 279, 280, 281, 283, 284, 286, 287, 288, 290, 291, 293, 294, 295, 297, 298, 300, 301, 302, 304, 305, 307, 308, 309, 310, 311, 312, 314, 315, 317, 318, 319, 321, 322, 324, 325, 326, 328, 329, 331, 332, 333, 335, 336, 338, 339, 340, 342, 343, 345, 346, 347, 349, 350, 352, 353, 354, 356, 357, 359, 360, 361, 363, 364, 366, 367, 368, 370, 371, 374, 375, 382, 383, 385, 386, 388, 389, 390, 391, 393, 394, 396, 397, 398, 400, 401, 403, 404, 405, 407, 408, 410, 411, 412, 414, 415, 417, 418, 419, 421, 422, 424, 425, 426, 428, 429, 431, 432, 433, 435, 436, 438, 439, 440, 442, 443, 446, 447, 454, 455, 457, 458, 460, 461, 462, 464, 465, 467, 468, 469, 471, 472, 474, 475, 476, 478, 479, 481, 482, 483, 485, 486, 488, 489, 490, 492, 493, 494, 495, 498, 505, 506, 508, 509, 511, 512, 513, 514, 515, 516, 518, 519, 521, 522, 523, 525, 526, 528, 529, 530, 532, 533, 535, 536, 537, 539, 540, 543, 550, 551, 553, 554, 556, 557, 558, 559, 560, 561, 563, 564, 566, 567, 568, 570, 571, 573, 574, 575, 577, 578, 580, 581, 582, 584, 585, 588, 595, 596, 598, 599, 601, 602, 603, 605, 606, 608, 609, 610, 612, 613, 615, 616, 617, 619, 620, 623, 630, 631, 633, 634, 636, 637, 638, 640, 641, 643, 644, 645, 646, 647, 649, 650, 652, 653, 654, 656, 657, 659, 660, 661, 663, 664, 666, 667, 668, 669, 670, 672, 673, 675, 676, 677, 678, 680, 681, 683, 684, 685, 687, 688, 690, 691, 692, 694, 695, 698, 699, 706, 707, 708, 710, 711, 713, 714, 715, 717, 718, 720, 721, 722, 724, 725, 727, 728, 729, 731, 732, 734, 735, 736, 738, 739, 741, 742, 743, 745, 746, 748, 749, 750, 752, 753, 755, 756, 757, 759, 760, 762, 763, 764, 766, 767, 769, 770, 771, 772, 774, 775, 777, 778, 779, 780, 782, 783, 785, 786, 787, 788, 790, 791, 793, 794, 795, 797, 798, 800, 801, 802, 804, 805, 807, 808, 809, 810, 812, 813, 815, 816, 817, 818, 820, 821, 823, 824, 825, 826, 827, 828, 829, 830, 831, 832, 835, 842, 843, 845, 846, 848, 849, 850, 851, 853, 854, 856, 857, 858, 859, 861, 862, 864, 865, 866, 868, 869, 871, 872, 873, 875, 876, 878, 879, 880, 881, 882, 885, 892, 893, 895, 896, 898, 899, 900, 901, 903, 904, 906, 907, 908, 909, 911, 912, 914, 915, 916, 917, 919, 920, 922, 923, 924, 926, 927, 929, 930, 931, 933, 934, 936, 937, 938, 940, 941, 943, 944, 945, 946, 947, 950, 952, 953, 955, 956, 957, 959, 960, 962, 963, 964, 967, 968] (fun _ => by kernel_rfl))) (Hook.val (kHook Mine.pre.heap_1_1 [2, 3, 33, 35, 36, 38, 39, 40, 47, 49, 50, 52, 53, 54, 55, 56, 59, 66, 68, 69, 71, 72, 73, 75, 76, 78, 79, 80, 82, 83, 85, 86, 87, 88, 89, 92, 94, 95, 97, 98, 99, 101, 102, 104, 105, 106, 108, 109, 111, 112, 113, 115, 116, 118, 119, 120, 122, 123, 125, 126, 127, 129, 130, 132, 133, 141, 142, 144, 145, 147, 148, 149, 151, 152, 154, 155, 156, 158, 159, 161, 162, 163, 165, 166, 167, 170, 178, 179, 181, 182, 184, 185, 186, 188, 189, 191, 192, 193, 195, 196, 199, 207, 208, 210, 211, 213, 214, 215, 217, 218, 220, 221, 222, 224, 225, 227, 228, 229, 231, 232, 233, 236, 237, 244, 245, 247, 248, 250, 251, 252, 254, 255, 258, 259, 266, 267, 269, 270, 272, 273, 274, 276, 277, 279, 280, 281, 283, 284, 286, 287, 288, 290, 291, 293, 294, 295, 297, 298, 300, 301, 302, 304, 305, 307, 308, 309, 310, 311, 312, 314, 315, 317, 318, 319, 321, 322, 324, 325, 326, 328, 329, 331, 332, 333, 335, 336, 338, 339, 340, 342, 343, 345, 346, 347, 349, 350, 352, 353, 354, 356, 357, 359, 360, 361, 363, 364, 366, 367, 368, 370, 371, 374, 375, 382, 383, 385, 386, 388, 389, 390, 391, 393, 394, 396, 397, 398, 400, 401, 403, 404, 405, 407, 408, 410, 411, 412, 414, 415, 417, 418, 419, 421, 422, 424, 425, 426, 428, 429, 431, 432, 433, 435, 436, 438, 439, 440, 442, 443, 446, 447, 454, 455, 457, 458, 460, 461, 462, 464, 465, 467, 468, 469, 471, 472, 474, 475, 476, 478, 479, 481, 482, 483, 485, 486, 488, 489, 490, 492, 493, 494, 495, 498, 505, 506, 508, 509, 511, 512, 513, 514, 515, 516, 518, 519, 521, 522, 523, 525, 526, 528, 529, 530, 532, 533, 535, 536, 537, 539, 540, 543, 550, 551, 553, 554, 556, 557, 558, 559, 560, 561, 563, 564, 566, 567, 568, 570, 571, 573, 574, 575, 577, 578, 580, 581, 582, 584, 585, 588, 595, 596, 598, 599, 601, 602, 603, 605, 606, 608, 609, 610, 612, 613, 615, 616, 617, 619, 620, 623, 630, 631, 633, 634, 636, 637, 638, 640, 641, 643, 644, 645, 646, 647, 649, 650, 652, 653, 654, 656, 657, 659, 660, 661, 663, 664, 666, 667, 668, 669, 670, 672, 673, 675, 676, 677, 678, 680, 681, 683, 684, 685, 687, 688, 690, 691, 692, 694, 695, 698, 699, 706, 707, 708, 710, 711, 713, 714, 715, 717, 718, 720, 721, 722, 724, 725, 727, 728, 729, 731, 732, 734, 735, 736, 738, 739, 741, 742, 743, 745, 746, 748, 749, 750, 752, 753, 755, 756, 757, 759, 760, 762, 763, 764, 766, 767, 769, 770, 771, 772, 774, 775, 777, 778, 779, 780, 782, 783, 785, 786, 787, 788, 790, 791, 793, 794, 795, 797, 798, 800, 801, 802, 804, 805, 807, 808, 809, 810, 812, 813, 815, 816, 817, 818, 820, 821, 823, 824, 825, 826, 827, 828, 829, 830, 831, 832, 835, 842, 843, 845, 846, 848, 849, 850, 851, 853, 854, 856, 857, 858, 859, 861, 862, 864, 865, 866, 868, 869, 871, 872, 873, 875, 876, 878, 879, 880, 881, 882, 885, 892, 893, 895, 896, 898, 899, 900, 901, 903, 904, 906, 907, 908, 909, 911, 912, 914, 915, 916, 917, 919, 920, 922, 923, 924, 926, 927, 929, 930, 931, 933, 934, 936, 937, 938, 940, 941, 943, 944, 945, 946, 947, 950, 952, 953, 955, 956, 957, 959, 960, 962, 963, 964, 967, 968] (fun _ => by kernel_rfl))) 18998 := by
  refine takeHl (Hd := PySem.Challenge.rw_bb0016_01.row.wellSaid = true → PySem.Challenge.rw_bb0016_01.row.Holds) ?_ ?hl
  intro _f said
  apply asideC
  contradiction
  contradiction
  o_head (kHook Mine.pre.heap_1_1 [2, 3, 33, 35, 36, 38, 39, 40, 47, 49, 50, 52, 53, 54, 55, 56, 59, 66, 68, 69, 71, 72, 73, 75, 76, 78, 79, 80, 82, 83, 85, 86, 87, 88, 89, 92, 94, 95, 97, 98, 99, 101, 102, 104, 105, 106, 108, 109, 111, 112, 113, 115, 116, 118, 119, 120, 122, 123, 125, 126, 127, 129, 130, 132, 133, 141, 142, 144, 145, 147, 148, 149, 151, 152, 154, 155, 156, 158, 159, 161, 162, 163, 165, 166, 167, 170, 178, 179, 181, 182, 184, 185, 186, 188, 189, 191, 192, 193, 195, 196, 199, 207, 208, 210, 211, 213, 214, 215, 217, 218, 220, 221, 222, 224, 225, 227, 228, 229, 231, 232, 233, 236, 237, 244, 245, 247, 248, 250, 251, 252, 254, 255, 258, 259, 266, 267, 269, 270, 272, 273, 274, 276, 277, 279, 280, 281, 283, 284, 286, 287, 288, 290, 291, 293, 294, 295, 297, 298, 300, 301, 302, 304, 305, 307, 308, 309, 310, 311, 312, 314, 315, 317, 318, 319, 321, 322, 324, 325, 326, 328, 329, 331, 332, 333, 335, 336, 338, 339, 340, 342, 343, 345, 346, 347, 349, 350, 352, 353, 354, 356, 357, 359, 360, 361, 363, 364, 366, 367, 368, 370, 371, 374, 375, 382, 383, 385, 386, 388, 389, 390, 391, 393, 394, 396, 397, 398, 400, 401, 403, 404, 405, 407, 408, 410, 411, 412, 414, 415, 417, 418, 419, 421, 422, 424, 425, 426, 428, 429, 431, 432, 433, 435, 436, 438, 439, 440, 442, 443, 446, 447, 454, 455, 457, 458, 460, 461, 462, 464, 465, 467, 468, 469, 471, 472, 474, 475, 476, 478, 479, 481, 482, 483, 485, 486, 488, 489, 490, 492, 493, 494, 495, 498, 505, 506, 508, 509, 511, 512, 513, 514, 515, 516, 518, 519, 521, 522, 523, 525, 526, 528, 529, 530, 532, 533, 535, 536, 537, 539, 540, 543, 550, 551, 553, 554, 556, 557, 558, 559, 560, 561, 563, 564, 566, 567, 568, 570, 571, 573, 574, 575, 577, 578, 580, 581, 582, 584, 585, 588, 595, 596, 598, 599, 601, 602, 603, 605, 606, 608, 609, 610, 612, 613, 615, 616, 617, 619, 620, 623, 630, 631, 633, 634, 636, 637, 638, 640, 641, 643, 644, 645, 646, 647, 649, 650, 652, 653, 654, 656, 657, 659, 660, 661, 663, 664, 666, 667, 668, 669, 670, 672, 673, 675, 676, 677, 678, 680, 681, 683, 684, 685, 687, 688, 690, 691, 692, 694, 695, 698, 699, 706, 707, 708, 710, 711, 713, 714, 715, 717, 718, 720, 721, 722, 724, 725, 727, 728, 729, 731, 732, 734, 735, 736, 738, 739, 741, 742, 743, 745, 746, 748, 749, 750, 752, 753, 755, 756, 757, 759, 760, 762, 763, 764, 766, 767, 769, 770, 771, 772, 774, 775, 777, 778, 779, 780, 782, 783, 785, 786, 787, 788, 790, 791, 793, 794, 795, 797, 798, 800, 801, 802, 804, 805, 807, 808, 809, 810, 812, 813, 815, 816, 817, 818, 820, 821, 823, 824, 825, 826, 827, 828, 829, 830, 831, 832, 835, 842, 843, 845, 846, 848, 849, 850, 851, 853, 854, 856, 857, 858, 859, 861, 862, 864, 865, 866, 868, 869, 871, 872, 873, 875, 876, 878, 879, 880, 881, 882, 885, 892, 893, 895, 896, 898, 899, 900, 901, 903, 904, 906, 907, 908, 909, 911, 912, 914, 915, 916, 917, 919, 920, 922, 923, 924, 926, 927, 929, 930, 931, 933, 934, 936, 937, 938, 940, 941, 943, 944, 945, 946, 947, 950, 952, 953, 955, 956, 957, 959, 960, 962, 963, 964, 967, 968] (fun _ => by kernel_rfl))
end Mine
end
section
open PySem PySem.W PySem.Spec PySem.Calls PyProof.Rows
namespace Mine

/-- what a called def is handed: a heap g that stays, and its own objects, written out, which g does not know -/
def Fit (g : Heap) (own : List (Addr × Obj)) (h : Heap) : Prop :=
  g.StaysIn h ∧ g.objs.size ≤ h.objs.size ∧ ∀ p ∈ own, h.get? p.1 = some p.2 ∧ g.get? p.1 = none

/-- around a call: nothing handled, a bound on the depth and on the units -/
abbrev arnd (d u : Nat) (fr : List Env) (gs : Option (List Code)) : Around := { handled := none, depth := d, frames := some fr, guards := gs, units := u }

theorem code_up {M : Model} {A : Around} {c : Code} {R : Result → Shared → Prop} {s : Shared} {d u : Nat} {fr : List Env} (h : codeAny M (arnd d u fr A.guards) c R s)
    (hh : A.handled = none) (hf : A.frames = some fr) (hd : A.depth ≤ d) (hu : A.units ≤ u) : codeAny M A c R s := by
  intro Γ p hc hΓ
  refine h Γ p hc ⟨hΓ.1.trans hh, Nat.le_trans hΓ.2.1 hd, fun l hl => hΓ.2.2.1 l (hf.trans hl), fun g hg => hΓ.2.2.2.1 g hg, Nat.le_trans hΓ.2.2.2.2 hu⟩

theorem Fit.fr {g h h₁ : Heap} {own : List (Addr × Obj)} {m : Str → Option Value} (f : Fit g own h) (hns : h₁.Ns h.objs.size m) (hk : ∀ b o, h.get? b = some o → h₁.get? b = some o) :
    Fr g h.objs.size h₁ m ∧ News g h.objs.size h₁ own :=
  ⟨⟨hns, fun b o e => hk b o (f.1 b o e), f.2.1⟩, fun p hp => ⟨hk _ _ (f.2.2 p hp).1, Nat.ne_of_lt (Heap.lt_size (f.2.2 p hp).1), (f.2.2 p hp).2⟩⟩
theorem Fit.of {g h : Heap} {L : Addr} {m : Str → Option Value} {own news : List (Addr × Obj)} (F : Fr g L h m) (N : News g L h news) (ho : ∀ p ∈ own, p ∈ news) : Fit g own h :=
  ⟨F.keep, Nat.le_of_lt (Nat.lt_of_le_of_lt F.above F.ns.lt), fun p hp => ⟨(N p (ho p hp)).1, (N p (ho p hp)).2.2⟩⟩

section
variable {prog : Program} {w : World} {A A₀ : Around} {s : Shared} {base h₀ g : Heap} {fr outer : List Env} {env : Env} {L f : Addr} {m mg mb : Str → Option Value} {K : Frag} {p : Program} {loose : List Str} {mean : ExcName → Option Value} {own news : List (Addr × Obj)}
  {R : Result → Shared → Prop} {name qual : Str} {params : Arguments} {body : List Stmt} {scope : Scope} {dV kV doc pm cdv ct oc : Value} {an od : Option Addr} {osl : Array (Option Value)} {args : Args} {binds : List (Str × Value)}

theorem enter (X : K.In g) (T : Top p loose mean mg mb g) (ft : Fit g own s.heap)
    (ho : K.lookup f = some ⟨oc, od, .func (fnOf name qual params body scope dV kV doc pm an cdv ct), osl⟩) (hcd : codeIn K cdv qual = true) (hroom : A.depth < recursionLimit)
    (hbind : BindsTo s (fnOf name qual params body scope dV kV doc pm an cdv ct) args binds) (hloc : ∀ y ∈ binds, scope.names.lookup y.1 = some .local)
    (h : ∀ L' h₁, Fr g L' h₁ (fun y => binds.reverse.lookup y) → News g L' h₁ own →
      wpAny (model prog w) (A.deeper (envOf qual scope L' f cdv)) (execs body (envOf qual scope L' f cdv))
        (fun fl s' => R (.ok (.ret (match fl with | .ret v => v | _ => .none))) s')
        (fun e s' => wpAny (model prog w) (A.deeper (envOf qual scope L' f cdv)) (leaving (envOf qual scope L' f cdv) e) (fun _ s'' => R (.error e) s'') (fun e' s'' => R (.error e') s'') s')
        { s with heap := h₁, toks := s.toks + binds.length })
    (hco : scope.isCoroutine = false) (hgen : scope.isGenerator = false) (hk : scope.kind = .function)
    (hcell : ∀ x ∈ scope.names, x.2 ≠ .cell) : codeAny (model prog w) A (.call (.ref f) args) R s := by
  have X' := X.keeps ft.1
  refine codeAny_call_def (fd := fnOf name qual params body scope dV kV doc pm an cdv ct) (body := body) (binds := binds) hroom (X' _ _ ho) rfl (T.nolimit.keeps ft.1) (codeRec_of X' hcd) rfl hbind hcell hloc (fun h₁ hns hk₁ => ?_) hco hgen hk
  obtain ⟨F, N⟩ := ft.fr hns hk₁
  exact h _ h₁ F N

theorem hand {P : Prop} (B : Below A₀ base outer h₀) (F : Fr h₀ L s.heap m) (X : K.In h₀) (N : News h₀ L s.heap news) (T : Top p loose mean mg mb h₀) (hA : A.frames = some (env :: outer)) (hf : env.frame = some L) (hke : env.scope.kind = .function)
    (own rest : List (Addr × Obj)) (ho : ∀ q ∈ own, q ∈ news) (hr : ∀ q ∈ rest, q ∈ news) (hne : ∀ q ∈ rest, q.1 ∉ own.map (·.1))
    (k : ∀ g, Fit g own s.heap → Below A base (env :: outer) g → K.In g → Top p loose mean mg mb g → (∀ h' own', Fit g own' h' → Fr h₀ L h' m ∧ News h₀ L h' (own' ++ rest)) → P) : P := by
  have No : News h₀ L s.heap own := fun q hq => N q (ho q hq)
  obtain ⟨FG, BG, st, _⟩ := groundX (A := A) (R := fun _ _ => True) B F No hA hf hke
  refine k (hideAll s.heap (own.map (·.1))) ⟨fun b o e => of_hideAll _ e, Nat.le_of_eq (hideAll_size _ _), fun q hq => ⟨(No q hq).1, hideAll_none _ (List.mem_map_of_mem hq)⟩⟩ BG (X.keeps fun b o e => st b o e) (T.keeps fun b o e => st b o e) fun h' own' ft => ⟨⟨?_, fun b o e => ft.1 b o (FG.keep b o e), FG.above⟩, fun q hq => ?_⟩
  · obtain ⟨oL, es, ep, hL, r⟩ := FG.ns
    exact ⟨oL, es, ep, ft.1 _ _ hL, r⟩
  · rcases List.mem_append.mp hq with hq | hq
    · have z := ft.2.2 q hq
      refine ⟨z.1, fun e => ?_, ?_⟩
      · obtain ⟨oL, es, ep, hL, _⟩ := FG.ns
        rw [e, hL] at z; exact nomatch z.2
      · cases e : h₀.get? q.1 with
        | none => rfl
        | some o => have := FG.keep _ _ e; rw [z.2] at this; exact nomatch this
    · have z := N q (hr q hq)
      exact ⟨ft.1 _ _ (hideAll_get _ z.1 (hne q hq)), z.2⟩
end
end Mine
end
section
open PySem PySem.W PySem.Spec PySem.Calls PyProof.Rows
namespace Mine
section
variable {prog : Program} {w : World} {A : Around} {E : Value → Shared → Prop} {s : Shared} {K : Frag} {x C p L : Addr} {ox : Obj} {name : Str} {expr : Bool} {h₀ : Heap} {m : Str → Option Value} {es : List DictEntry} {n : Nat} {Q : Value → Shared → Prop} {f : Value} {rest : List Value}
theorem get_sm (F : Fr h₀ L s.heap m) (X₀ : K.In h₀) (I : InstAt s.heap x ox C (some (dictOf es n))) (hg : plainGet K C name = true) (hh : hasDictIn K C = true)
    (ha : findIn K (.ref C) name = some (some (.ref p))) (hgf : specialIn K (.ref p) "__get__" = some (some (.builtin "staticmethod.__get__"))) (ht : takesIn K (.ref p) = some false) (hc : copiedNames.contains name = false) (hl : getL name es = some none)
    (hp : recIn K p "staticmethod" = some (f :: rest)) (hv : handedIn f = true) (h : Q f { s with toks := s.toks + 1 }) : wpAny (model prog w) A (getAttr (.ref x) name expr) Q E s :=
  get_bind (X₀.keeps F.keep) I (plainGet_of hg).1 (findObj_fn hh ha hgf ht hc (by show lookIn name (dictOf es n) = _; rw [lookIn_dict, hl])) (plainGet_of hg).2
    (wpAny_call (sm_get (s := { s with toks := s.toks + 1 }) (X₀.keeps F.keep) hp (handed_on hv h)))
end
end Mine
namespace Mine
open PyProof.V
section
variable {K : Type} [DecidableEq K]
theorem without_len (kvs : List (K × Value)) (k : K) : (without kvs k).length ≤ kvs.length := List.length_filter_le _ _
theorem stored_len (kvs : List (K × Value)) (k : K) (v : Value) : (stored kvs k v).length ≤ kvs.length + 1 := by
  unfold stored
  split
  · simp
  · simp
end
section
variable {prog : Program} {w : World} {K : Type} [DecidableEq K] {knd : KeyKind prog w K} {A : Around} {E : Value → Shared → Prop} {s : Shared} {h₀ : Heap} {L d : Addr} {m : Str → Option Value} {news : List (Addr × Obj)} {g : Obj → List (Addr × Obj)} {o : Obj} {kvs : List (K × Value)} {k : K} {key v : Value}
theorem dk_del {Q : Unit → Shared → Prop} (F : Fr h₀ L s.heap m) (N : News h₀ L s.heap news) (U : UpdF d o news g) (hd : o.IsDictOf knd kvs) (hkey : knd.is k key = true) (hl : (valueAt kvs k).isSome = true) (hsz : kvs.length ≤ 16777216)
    (h : ∀ h' o', Fr h₀ L h' m → News h₀ L h' (g o') → o'.IsDictOf knd (without kvs k) → Q () { s with heap := h', toks := s.toks + 1 }) : wpAny (model prog w) A (delItem (.ref d) key) Q E s := by
  obtain ⟨pre, post, rfl, hg, h1, h2⟩ := U.split
  have hm := N (d, o) (List.mem_append_right _ (.head _))
  have hD : s.heap.DictOf knd d kvs := Heap.dictOf_iff.mpr ⟨o, hm.1, hd⟩
  unfold delItem
  try with_reducible refine wpAny_holding ?_
  refine wpAny_bind (wpAny_sequenceKey hD.typeIs (by decide) ?_)
  refine wpAny_bind (wpAny_callSpecial?_slot (name := Str.ofString "__delitem__") hD.typeIs PySem.F.slot_dict_delitem
    (call_meetsIn PySem.F.slot_dict_delitem hD.typeIs PySem.F.entry_dict_delitem (PySem.F.args_dict_delitem_2 _ _) (meets_dict_delitem_pairs knd d hkey) ⟨kvs, hD, by rw [sizeLine_eq]; exact hsz, hl, fun h' hmm hs => ?_⟩))
  obtain ⟨o', ho', hd'⟩ := Heap.dictOf_iff.mp hmm
  exact wpAny_pure (h h' o' (F.change hs hm.2.1 hm.2.2) (hg o' ▸ N.setIn h1 h2 hs ho') hd')
theorem dk_pop {more : List Value} {Q : Value → Shared → Prop} (hmore : more = [] ∨ ∃ x, more = [x]) (hpart : (keyPart key).isSome = true) (hargs : argsOk "dict.pop" ⟨.ref d :: key :: more, []⟩)
    (F : Fr h₀ L s.heap m) (N : News h₀ L s.heap news) (U : UpdF d o news g) (hd : o.IsDictOf knd kvs) (hkey : knd.is k key = true) (hl : valueAt kvs k = some v) (hsz : kvs.length ≤ 16777216)
    (h : ∀ h' o', Fr h₀ L h' m → News h₀ L h' (g o') → o'.IsDictOf knd (without kvs k) → Q v { s with heap := h', toks := s.toks + 1 }) : wpAny (model prog w) A (call (.builtin "dict.pop") (.ref d :: key :: more)) Q E s := by
  obtain ⟨pre, post, rfl, hg, h1, h2⟩ := U.split
  have hm := N (d, o) (List.mem_append_right _ (.head _))
  have hD : s.heap.DictOf knd d kvs := Heap.dictOf_iff.mpr ⟨o, hm.1, hd⟩
  refine call_meetsIn PySem.F.slot_dict_pop hD.typeIs PySem.F.entry_dict_pop hargs (meets_dict_pop_there knd d hkey more hmore hpart) ⟨kvs, v, hD, by rw [sizeLine_eq]; exact hsz, hl, fun h' hmm hs => ?_⟩
  obtain ⟨o', ho', hd'⟩ := Heap.dictOf_iff.mp hmm
  exact h h' o' (F.change hs hm.2.1 hm.2.2) (hg o' ▸ N.setIn h1 h2 hs ho') hd'
theorem dk_popMiss {Q : Value → Shared → Prop} (hh : A.handled = none) (hpart : (keyPart key).isSome = true) (hargs : argsOk "dict.pop" ⟨[.ref d, key], []⟩) (N : News h₀ L s.heap news) (hp : (d, o) ∈ news) (hd : o.IsDictOf knd kvs)
    (hlo : (d == sysModules) = false) (hkey : knd.is k key = true) (hl : valueAt kvs k = none) (h : ∀ h' e, Heap.NewExc s.heap h' e "KeyError" → E (.ref e) { s with heap := h', toks := s.toks + 1 }) : wpAny (model prog w) A (call (.builtin "dict.pop") [.ref d, key]) Q E s :=
  have hD : s.heap.DictOf knd d kvs := Heap.dictOf_iff.mpr ⟨o, (N (d, o) hp).1, hd⟩
  call_meetsIn PySem.F.slot_dict_pop hD.typeIs PySem.F.entry_dict_pop hargs (meets_dict_pop_missing knd d hkey hlo hpart) ⟨hh, kvs, hD, hl, fun h' e x => h h' e x⟩
theorem dk_popMeth {pl : Sem Bool} {Q : Value × List Value → Shared → Prop} (N : News h₀ L s.heap news) (hp : (d, o) ∈ news) (hd : o.IsDictOf knd kvs) (h : Q (.builtin "dict.pop", [.ref d]) s) : wpAny (model prog w) A (getMethod (.ref d) "pop" pl) Q E s :=
  have hD := kda_dict N hp hd
  getMethod_builtin hD.typeIs PySem.F.plainAttrs_dict PySem.F.slot_dict_pop PySem.F.type_dict_pop hD.mapOf.noDict h
theorem dk_get {Q : Value → Shared → Prop} (N : News h₀ L s.heap news) (hp : (d, o) ∈ news) (hd : o.IsDictOf knd kvs) (hkey : knd.is k key = true) (hl : valueAt kvs k = some v) (h : Q v { s with toks := s.toks + 1 }) :
    wpAny (model prog w) A (getItem (.ref d) key) Q E s := wpAny_getItem_of hkey (kda_dict N hp hd).mapOf hl h
end
end Mine
namespace Mine
section
variable {M : Model} {A : Around} {E : Value → Shared → Prop} {s : Shared} {K : Frag} {x C L f : Addr} {h₀ : Heap} {m : Str → Option Value} {ox : Obj} {od : Option Obj} {i : Value}
theorem del_own {Q : Unit → Shared → Prop} (F : Fr h₀ L s.heap m) (X₀ : K.In h₀) (I : InstAt s.heap x ox C od) (hq : noSeq K C = true) (hs : findIn K (.ref C) "__delitem__" = some (some (.ref f))) (hf : isFn K (.ref f) = true)
    (h : wpAny M A (call (.ref f) [.ref x, i]) (fun _ s' => Q () s') E s) : wpAny M A (delItem (.ref x) i) Q E s := by
  have X := X₀.keeps F.keep
  unfold delItem sequenceKey
  refine wpAny_holding (wpAny_bind (wpAny_bind (I.type.here ?_)))
  refine wpAny_bind ((anyM_none X hq).here ?_)
  rw [if_pos (show (!false) = true from rfl)]
  exact wpAny_pure (wpAny_bind (special_fn X I hs (beq_iff_eq.mp hf) (wpAny_mono h (fun _ _ z => wpAny_pure z) fun _ _ z => z)))
end
end Mine
namespace Mine
section
variable {K : Type} [DecidableEq K]
theorem valueAt_head (k : K) (v : Value) (r : List (K × Value)) : valueAt ((k, v) :: r) k = some v := by simp [valueAt]
theorem isSome_of {α : Type} {o : Option α} {v : α} (h : o = some v) : o.isSome = true := by rw [h]; rfl
end
end Mine
namespace Mine
theorem isNone_of {α : Type} {o : Option α} (h : o = none) : o.isSome = false := by rw [h]; rfl
end Mine
namespace Mine
section
variable {A A₀ : Around} {s : Shared} {base h₀ : Heap} {outer : List Env} {env : Env} {L : Addr} {m mg mb : Str → Option Value} {K : Frag} {p : Program} {loose : List Str} {mean : ExcName → Option Value} {news : List (Addr × Obj)}
theorem hand0 {P : Prop} (B : Below A₀ base outer h₀) (F : Fr h₀ L s.heap m) (X : K.In h₀) (N : News h₀ L s.heap news) (T : Top p loose mean mg mb h₀) (hA : A.frames = some (env :: outer)) (hf : env.frame = some L) (hke : env.scope.kind = .function)
    (k : ∀ g, Fit g news s.heap → Below A base (env :: outer) g → K.In g → Top p loose mean mg mb g → (∀ h' own', Fit g own' h' → Fr h₀ L h' m ∧ News h₀ L h' own') → P) : P :=
  hand (A := A) B F X N T hA hf hke news [] (fun _ h => h) (fun _ h => (nomatch h)) (fun _ h => (nomatch h)) fun g a b c d e => k g a b c d fun h' own' ft => by
    have := e h' own' ft
    rw [List.append_nil] at this
    exact this
theorem Fit.sub {g h : Heap} {L : Addr} {m : Str → Option Value} {own news : List (Addr × Obj)} (F : Fr g L h m) (N : News g L h news) (ho : SubL own news) : Fit g own h := Fit.of F N ho.mem
theorem below_up {A : Around} {base g : Heap} {fr : List Env} {d u : Nat} (B : Below A base fr g) : Below (arnd d u fr A.guards) base fr g := ⟨rfl, B.stays, B.frames⟩
end
end Mine
end
section
open PySem PySem.W PySem.Spec PySem.Calls PyProof.Rows
namespace Mine
/-- h where P says so, with room for n objects -/
def restr (n : Nat) (P : Addr → Bool) (h : Heap) : Heap := ⟨Array.ofFn (n := n) fun i => if P i.val then (h.objs[i.val]?).getD { cls := .none, data := .freed } else { cls := .none, data := .freed }, h.life⟩
theorem restr_size (n : Nat) (P : Addr → Bool) (h : Heap) : (restr n P h).objs.size = n := by simp [restr]
theorem restr_get {n : Nat} {P : Addr → Bool} {h : Heap} {b : Addr} : (restr n P h).get? b = if b < n ∧ P b = true then h.get? b else none := by
  unfold restr Heap.get?
  by_cases hb : b < n
  · by_cases hp : P b = true
    · rw [if_pos ⟨hb, hp⟩]
      simp only [Array.getElem?_ofFn, hb, dif_pos, hp, if_true]
      cases h.objs[b]? with
      | none => rfl
      | some o => rfl
    · rw [if_neg (fun x => hp x.2)]
      simp only [Array.getElem?_ofFn, hb, dif_pos, hp]
      rfl
  · rw [if_neg (fun x => hb x.1)]
    simp only [Array.getElem?_ofFn, hb, dif_neg, not_false_eq_true]
/-- the same heap, but for the marks that a raise leaves on the frames' dicts -/
structure Up (base : Heap) (fr : List Env) (g g' : Heap) : Prop where
  stays : base.StaysIn g'
  size : g'.objs.size = g.objs.size
  none : ∀ b, g.get? b = none → g'.get? b = none
  up : g.UpToSlots g'
  frames : g'.FunFrames base fr
theorem Up.refl {A : Around} {base g : Heap} {fr : List Env} (B : Below A base fr g) : Up base fr g g := ⟨B.stays, rfl, fun _ e => e, Heap.UpToSlots.refl g, B.frames⟩
theorem Up.trans {base g₁ g₂ g₃ : Heap} {fr : List Env} (x : Up base fr g₁ g₂) (y : Up base fr g₂ g₃) : Up base fr g₁ g₃ := ⟨y.stays, y.size.trans x.size, fun b e => y.none b (x.none b e), x.up.trans y.up, y.frames⟩
theorem Up.below {A : Around} {base g g' : Heap} {fr : List Env} (u : Up base fr g g') (B : Below A base fr g) : Below A base fr g' := ⟨B.stack, u.stays, u.frames⟩

/-- h₀ as it stands in h' -/
def asNow (h₀ h' : Heap) : Heap := restr h₀.objs.size (fun b => (h₀.get? b).isSome) h'
theorem asNow_get {h₀ h' : Heap} {b : Addr} : (asNow h₀ h').get? b = if (h₀.get? b).isSome = true then h'.get? b else none := by
  unfold asNow
  rw [restr_get]
  by_cases hs : (h₀.get? b).isSome = true
  · obtain ⟨o, ho⟩ := Option.isSome_iff_exists.mp hs
    rw [if_pos ⟨Heap.lt_size ho, hs⟩, if_pos hs]
  · rw [if_neg (fun x => hs x.2), if_neg hs]
theorem asNow_some {h₀ h' : Heap} {b : Addr} {o o' : Obj} (h : h₀.get? b = some o) (q : h'.get? b = some o') : (asNow h₀ h').get? b = some o' := by
  rw [asNow_get, if_pos (by rw [h]; rfl)]; exact q
theorem asNow_keep {h₀ h' : Heap} {b : Addr} {o : Obj} (h : (asNow h₀ h').get? b = some o) : h'.get? b = some o := by
  rw [asNow_get] at h
  split at h
  · exact h
  · cases h
theorem asNow_none {h₀ h' : Heap} {b : Addr} (h : h₀.get? b = none) : (asNow h₀ h').get? b = none := by
  rw [asNow_get, if_neg (by rw [h]; exact Bool.false_ne_true)]
theorem asNow_up {base h₀ h' : Heap} {outer l : List Env} (hb : base.StaysIn h₀) (hs : base.StaysIn h') (hu : h₀.UpToSlots h') (hf : h'.FunFrames base outer) (h0f : h₀.FunFrames base outer) : Up base outer h₀ (asNow h₀ h') := by
  refine ⟨fun b o e => asNow_some (hb b o e) (hs b o e), restr_size _ _ _, fun b e => asNow_none e, fun b o e hn => ?_, ?_⟩
  · obtain ⟨sl, q⟩ := hu b o e hn
    exact ⟨sl, asNow_some e q⟩
  · clear l
    induction outer with
    | nil => trivial
    | cons env r ih =>
      obtain ⟨hk, ⟨L, o, hf1, hn, ho, hd⟩, hr⟩ := hf
      obtain ⟨_, ⟨L₂, o₂, hf2, _, ho2, _⟩, hr2⟩ := h0f
      cases hf1.symm.trans hf2
      exact ⟨hk, ⟨L, o, hf1, hn, asNow_some ho2 ho, hd⟩, ih hr hr2⟩

section
variable {A A₀ : Around} {s : Shared} {base h₀ : Heap} {outer : List Env} {env : Env} {L : Addr} {m : Str → Option Value} {news : List (Addr × Obj)}
/-- a call that may mark the frames: what it's handed, and what comes back -/
theorem handU {P : Prop} (B : Below A₀ base outer h₀) (sz : base.objs.size ≤ h₀.objs.size) (F : Fr h₀ L s.heap m) (N : News h₀ L s.heap news) (hA : A.frames = some (env :: outer)) (hf : env.frame = some L) (hke : env.scope.kind = .function)
    (k : ∀ g, Fit g news s.heap → Below A base (env :: outer) g → base.objs.size ≤ g.objs.size →
      (∀ g' h' own', Up base (env :: outer) g g' → Fit g' own' h' → ∃ h₁, Up base outer h₀ h₁ ∧ Below A₀ base outer h₁ ∧ Fr h₁ L h' m ∧ News h₁ L h' own') → P) : P := by
  obtain ⟨FG, BG, st, _⟩ := groundX (A := A) (R := fun _ _ => True) B F N hA hf hke
  have hsz : (hideAll s.heap (news.map (·.1))).objs.size = s.heap.objs.size := hideAll_size _ _
  refine k (hideAll s.heap (news.map (·.1))) ⟨fun b o e => of_hideAll _ e, Nat.le_of_eq hsz, fun q hq => ⟨(N q hq).1, hideAll_none _ (List.mem_map_of_mem hq)⟩⟩ BG ?_ fun g' h' own' u ft => ?_
  · rw [hsz]; exact Nat.le_trans sz (Nat.le_of_lt (Nat.lt_of_le_of_lt F.above F.ns.lt))
  · have u1 : Up base outer h₀ (asNow h₀ g') := asNow_up (l := []) B.stays u.stays (fun b o e hn => u.up b o (FG.keep b o e) hn) u.frames.2.2 B.frames
    refine ⟨asNow h₀ g', u1, u1.below B, ⟨?_, fun b o e => ft.1 b o (asNow_keep e), by rw [u1.size]; exact FG.above⟩, fun q hq => ?_⟩
    · obtain ⟨oL, es, ep, hL, hd, r⟩ := FG.ns
      obtain ⟨sl, q⟩ := u.up L oL hL fun vs z => by rw [hd] at z; cases z
      exact ⟨_, es, ep, ft.1 _ _ q, hd, r⟩
    · have z := ft.2.2 q hq
      refine ⟨z.1, fun e => ?_, ?_⟩
      · obtain ⟨oL, es, ep, hL, hd, r⟩ := FG.ns
        obtain ⟨sl, qq⟩ := u.up L oL hL fun vs z => by rw [hd] at z; cases z
        rw [e, qq] at z; exact nomatch z.2
      · cases e : h₀.get? q.1 with
        | none => exact asNow_none e
        | some o => rw [asNow_get, e]; exact z.2
end

section
variable {prog : Program} {w : World} {A₀ : Around} {E : Value → Shared → Prop} {s' : Shared} {base h₀ h : Heap} {outer : List Env} {L a e : Addr} {m : Str → Option Value} {name : Str} {scope : Scope} {cd : Value}
  {b₀ : Stmt} {suite : List Stmt} {pos np : Pos} {rest : List ExceptHandler} {Q : Flow → Shared → Prop} {news : List (Addr × Obj)}
  {p : Program} {loose : List Str} {mean : ExcName → Option Value} {mg mb : Str → Option Value} {x : Str} {X T' : String} {Kf : Frag}
/-- an exception that a built-in raises, caught by the frame's own try -/
theorem caught_new (K : Below A₀ base outer h₀) (hx : Heap.NewExc h s'.heap e X) (F : Fr h₀ L h m) (N : News h₀ L h news)
    (X0 : Kf.In base) (T : Top p loose mean mg mb base) (e0 : nsIn Kf mainGlobals x = some none) (hv : bootBuiltins x = some (.type T'))
    (hexc : isSubtype (.type T') (.type "BaseException") = pure true) (hnt : isSubtype (.type ((Manifest.find? T').elim "type" fun y => y.metatype)) (.type "tuple") = pure false) (hsub : isSubtype (.type X) (.type T') = pure true)
    (k : ∀ h₁ h', Up base outer h₀ h₁ → Below A₀ base outer h₁ → Fr h₁ L h' m → News h₁ L h' news →
      wpAny (model prog w) ((A₀.deeper (envOf name scope L a cd)).mark (some (.ref e))) (execs (b₀ :: suite) (envOf name scope L a cd)) Q E { s' with heap := h' })
    (hn : x ≠ "__name__" := by decide +kernel)
    (hk : scope.kind = .function := by rfl) (hxk : (envOf name scope L a cd).kindOf x = some .globalImplicit := by rfl) (hd : (x == ("__debug__" : Str)) = false := by decide)
    (hE : PassesOwnAt (model prog w) ((A₀.deeper (envOf name scope L a cd)).mark (some (.ref e))) (A₀.deeper (envOf name scope L a cd)) (envOf name scope L a cd) E := by passes_own) :
    wpAny (model prog w) (A₀.deeper (envOf name scope L a cd)) (noteFrame (.ref e) (envOf name scope L a cd))
      (fun _ s₂ => wpAny (model prog w) (A₀.deeper (envOf name scope L a cd)) (setFlight (.ref e) none) (fun _ s₃ =>
        wpAny (model prog w) (A₀.deeper (envOf name scope L a cd)) (handleBy (.ref e) (envOf name scope L a cd) (.ExceptHandler (some (.Name x np)) none (b₀ :: suite) pos :: rest)) Q E s₃) E s₂) E s' := by
  have K' := K.push (name := name) (a := a) (cd := cd) F hk
  have hin : ∀ env ∈ (envOf name scope L a cd :: outer), ∀ b, env.frame = some b → b ∈ (envOf name scope L a cd :: outer).filterMap (·.frame) := fun env he b hb => List.mem_filterMap.mpr ⟨env, he, hb⟩
  obtain ⟨ob, tp, he, hcls, hdd⟩ := hx.there
  have hen : (hideAll h ((envOf name scope L a cd :: outer).filterMap (·.frame))).get? e = none := by
    cases q : (hideAll h ((envOf name scope L a cd :: outer).filterMap (·.frame))).get? e with
    | none => rfl
    | some o => have := of_hideAll _ q; rw [hx.new] at this; cases this
  have hff : s'.heap.FunFrames (hideAll h ((envOf name scope L a cd :: outer).filterMap (·.frame))) (envOf name scope L a cd :: outer) := (funFrames_hide K'.frames hin).of_keeps fun b o hb _ => ⟨o, hx.keeps b o hb, rfl⟩
  have bst : ∀ b o, base.get? b = some o → (hideAll h ((envOf name scope L a cd :: outer).filterMap (·.frame))).get? b = some o := fun b o q => hideAll_get _ (K'.stays b o q) fun hm => by
    rw [(K'.frames.mem hm).1] at q; cases q
  unfold noteFrame
  simp only [show (envOf name scope L a cd).frame = some L from rfl]
  refine wpAny_bind (wpAny_field he hdd (x := .none) rfl ?_)
  rw [if_neg (by decide)]
  refine wpAny_entryW (a0 := tp) (Around.frames_deeper K.stack) hff rfl he (fun b o hb => hx.keeps b o (of_hideAll _ hb)) hen hdd (by show 1 < 6; decide) rfl fun h₁ hN => ?_
  obtain ⟨n1, n2, n3, n4⟩ := hN
  refine wpAny_landsW (s := { s' with heap := h₁ }) ⟨n1, hen, n2, n3⟩ fun h₂ hf₂ sm₂ => ?_
  have sm₁₂ : s'.heap.UpToSlots h₂ := (show s'.heap.UpToSlots h₁ from n4).trans sm₂
  have smh : h.UpToSlots h₂ := (Heap.UpToSlots.of_keeps hx.keeps).trans sm₁₂
  have F₂ : Fr (asNow h₀ h₂) L h₂ m := ⟨smh.ns F.ns, fun b o q => asNow_keep q, by rw [show (asNow h₀ h₂).objs.size = h₀.objs.size from restr_size _ _ _]; exact F.above⟩
  have T₂ : Top p loose mean mg mb (asNow h₀ h₂) := T.keeps fun b o q => asNow_some (K.stays b o q) (hf₂.1 b o (bst b o q))
  obtain ⟨ob₂, hob₂, hobc₂⟩ := hf₂.there
  refine wpAny_handleBy_builtin (X := X) (T := T') (b := true) hexc hnt hsub (ld_builtin_at F₂ T₂.g (mg_none_of X0 T.g e0) T₂.b ((T₂.builtins x hn).trans hv) ⟨rfl, ⟨ob₂, hob₂, hobc₂.trans hcls⟩, ?_⟩ hk hxk hd)
  refine lands_againW hf₂ fun h₆ hf₆ sm₆ => ?_
  have sm' : h.UpToSlots h₆ := smh.trans sm₆
  have st6 : base.StaysIn h₆ := fun b o q => hf₆.1 b o (bst b o q)
  have F₆ : Fr (asNow h₀ h₆) L h₆ m := ⟨sm'.ns F.ns, fun b o q => asNow_keep q, by rw [show (asNow h₀ h₆).objs.size = h₀.objs.size from restr_size _ _ _]; exact F.above⟩
  have u : Up base outer h₀ (asNow h₀ h₆) := asNow_up (l := []) K.stays st6 (fun b o q hn => sm' b o (F.keep b o q) hn) (flyingW_base bst hf₆).2.2.1.2.2 K.frames
  exact wpAny_passesOwnAt hE (k _ h₆ u (u.below K) F₆ fun q hq => ⟨hf₆.1 _ _ (hideAll_get _ (N q hq).1 fun hm => by
    obtain ⟨env, he, hf⟩ := List.mem_filterMap.mp hm
    rcases List.mem_cons.mp he with rfl | he
    · exact (N q hq).2.1 (Option.some.inj hf).symm
    · obtain ⟨o, ho, _⟩ := (K.frames.mem (List.mem_filterMap.mpr ⟨env, he, hf⟩)).2
      rw [(N q hq).2.2] at ho; cases ho), (N q hq).2.1, asNow_none (N q hq).2.2⟩)
end
end Mine
end
section
open PySem PySem.W PySem.Spec PySem.Calls PyProof.Rows
namespace Mine
/-- where a cache lies: its object, its dict, the dicts of its data and of its order; the marks of its attributes; its room -/
structure Loc where
  x : Addr
  dx : Addr
  d1 : Addr
  d2 : Addr
  ta : Tok
  tb : Tok
  tc : Tok
  td : Tok
  tf : Tok
  mx : Int
/-- a cache's four objects, written out -/
def led (P : Params) (C : Addr) (on : Str) (c : Loc) (cur : Int) (te : Tok) (o1 o2 : Obj) : List (Addr × Obj) :=
  [(c.x, instObj C c.dx), (c.dx, dictOf [⟨PyData.keyHash P (Str.ofString "_Cache__data"), .str (Str.ofString "_Cache__data") c.ta, .ref c.d1⟩, ⟨PyData.keyHash P (Str.ofString "_Cache__currsize"), .str (Str.ofString "_Cache__currsize") c.tb, .int cur te⟩, ⟨PyData.keyHash P (Str.ofString "_Cache__maxsize"), .str (Str.ofString "_Cache__maxsize") c.tc, .int c.mx c.tf⟩, ⟨PyData.keyHash P on, .str on c.td, .ref c.d2⟩] 4), (c.d1, o1), (c.d2, o2)]
structure Loc.Ok (c : Loc) : Prop where
  l1 : @LT.lt Nat _ c.dx c.x
  l2 : @LT.lt Nat _ c.x c.d1
  l3 : @LT.lt Nat _ c.d1 c.d2
  lo1 : (c.d1 == sysModules) = false
  lo2 : (c.d2 == sysModules) = false
/-- the order's dict: each key with None -/
def nones {K : Type} (ord : List K) : List (K × Value) := ord.map fun k => (k, Value.none)

section
variable {prog : Program} {K : Type} [DecidableEq K] (KK : Params → Frag) (q : Program) (knd : ∀ w, PySem.KeyKind prog w K) (mk : K → Tok → Value) (C : Addr) (on : Str)
/-- a call's surroundings: what stays whatever is raised (base), what the callers have beside (g) -/
structure Sur (D : Nat) (w : World) (base g : Heap) (fr : List Env) (gs : Option (List Code)) (mean : ExcName → Option Value) (mg mb : Str → Option Value) (lse : List Str) : Prop where
  B : Below (arnd D D fr gs) base fr g
  sz : base.objs.size ≤ g.objs.size
  X : (KK w.params).In base
  T : Top q lse mean mg mb base
/-- the cache at c, in the heap h, beside g -/
def Cash (w : World) (c : Loc) (g h : Heap) (cur : Int) (more : List (Addr × Obj)) (kvs ov : List (K × Value)) : Prop :=
  ∃ te o1 o2, Fit g (more ++ led w.params C on c cur te o1 o2) h ∧ o1.IsDictOf (knd w) kvs ∧ o2.IsDictOf (knd w) ov

/-- what a call of fn does: args, what it asks of the cache, what it leaves -/
def Deed (D : Nat) (fn : Addr) (args : Loc → K → Tok → Value → List Value) (Pre : Loc → Int → List (K × Value) → List (K × Value) → K → Value → Value → Prop)
    (Post : Loc → Int → List (K × Value) → List (K × Value) → K → Value → Value → Value × Int × List (K × Value) × List (K × Value)) : Prop :=
  ∀ {w : World} {s : Shared} {c : Loc} {cur : Int} {kvs ov : List (K × Value)} {k : K} {v dv : Value} {tk : Tok} {base g : Heap} {fr : List Env} {gs mean mg mb lse} {R : Result → Shared → Prop},
  Sur KK q D w base g fr gs mean mg mb lse → c.Ok → Cash knd C on w c g s.heap cur [] kvs ov → Pre c cur kvs ov k v dv →
  (∀ g' h' tk', Up base fr g g' → Cash knd C on w c g' h' (Post c cur kvs ov k v dv).2.1 [] (Post c cur kvs ov k v dv).2.2.1 (Post c cur kvs ov k v dv).2.2.2 → R (.ok (.ret (Post c cur kvs ov k v dv).1)) { s with heap := h', toks := tk' }) →
  codeAny (model prog w) (arnd D D fr gs) (.call (.ref fn) ⟨args c k tk dv, []⟩) R s

/-- setdefault of a key that the cache has -/
def SdHit (fn : Addr) (touch : Bool) : Prop := Deed KK q knd C on 350 fn (fun c k tk dv => [.ref c.x, mk k tk, dv])
  (fun _ _ kvs ov k v _ => valueAt kvs k = some v ∧ valueAt ov k = some .none ∧ kvs.length ≤ 12 ∧ ov.length ≤ 12) (fun _ cur kvs ov k v _ => (v, cur, kvs, if touch then stored (without ov k) k .none else ov))
/-- setdefault of a key that the cache has not, with a place left -/
def SdNew (fn : Addr) : Prop := Deed KK q knd C on 350 fn (fun c k tk dv => [.ref c.x, mk k tk, dv])
  (fun c cur kvs ov k _ _ => valueAt kvs k = none ∧ valueAt ov k = none ∧ cur < c.mx ∧ 1 ≤ c.mx ∧ c.mx ≤ 12 ∧ kvs.length ≤ 12 ∧ ov.length ≤ 12) (fun _ cur kvs ov k _ dv => (dv, cur + 1, stored kvs k dv, stored ov k .none))
/-- __setitem__ of a key that the cache has not, with a place left -/
def StNew (fn : Addr) : Prop := Deed KK q knd C on 380 fn (fun c k tk dv => [.ref c.x, mk k tk, dv])
  (fun c cur kvs ov k _ _ => valueAt kvs k = none ∧ valueAt ov k = none ∧ cur < c.mx ∧ 1 ≤ c.mx ∧ c.mx ≤ 12 ∧ kvs.length ≤ 12 ∧ ov.length ≤ 12) (fun _ cur kvs ov k _ dv => (.none, cur + 1, stored kvs k dv, stored ov k .none))
/-- the touch of a key that the order has not -/
def Touch (fn : Addr) : Prop := Deed KK q knd C on 400 fn (fun c k tk _ => [.ref c.x, mk k tk])
  (fun _ _ kvs ov k _ _ => valueAt ov k = none ∧ kvs.length ≤ 13 ∧ ov.length ≤ 13) (fun _ cur kvs ov k _ _ => (.none, cur, kvs, stored ov k .none))
/-- what a full cache drops -/
def FullPre (c : Loc) (cur : Int) (kvs ov : List (K × Value)) (k : K) : Prop :=
  ∃ k0 v0 rest, ov = (k0, .none) :: rest ∧ cur = c.mx ∧ valueAt kvs k0 = some v0 ∧ valueAt kvs k = none ∧ valueAt (without kvs k0) k = none ∧ valueAt (without ov k0) k = none ∧ 1 ≤ c.mx ∧ c.mx ≤ 12 ∧ kvs.length ≤ 12 ∧ rest.length ≤ 11
def first (ov : List (K × Value)) (k : K) : K := match ov with | [] => k | (k0, _) :: _ => k0
/-- setdefault of a key that the cache has not, with no place left -/
def SdFull (fn : Addr) : Prop := Deed KK q knd C on 350 fn (fun c k tk dv => [.ref c.x, mk k tk, dv])
  (fun c cur kvs ov k _ _ => FullPre c cur kvs ov k) (fun c _ kvs ov k _ dv => (dv, c.mx - 1 + 1, stored (without kvs (first ov k)) k dv, stored (without ov (first ov k)) k .none))
/-- __setitem__ of a key that the cache has not, with no place left -/
def StFull (fn : Addr) : Prop := Deed KK q knd C on 380 fn (fun c k tk dv => [.ref c.x, mk k tk, dv])
  (fun c cur kvs ov k _ _ => FullPre c cur kvs ov k) (fun c _ kvs ov k _ dv => (.none, c.mx - 1 + 1, stored (without kvs (first ov k)) k dv, stored (without ov (first ov k)) k .none))
end
section
variable {prog : Program} {K : Type} [DecidableEq K] {KK : Params → Frag} {q : Program} {knd : ∀ w, PySem.KeyKind prog w K} {C : Addr} {on : Str}
variable {w : World} {A A₀ : Around} {s : Shared} {base h₀ : Heap} {outer : List Env} {env : Env} {L : Addr} {m mg mb : Str → Option Value} {news : List (Addr × Obj)} {lse : List Str} {mean : ExcName → Option Value}
variable {D fn : Addr} {args : Loc → K → Tok → Value → List Value} {Pre : Loc → Int → List (K × Value) → List (K × Value) → K → Value → Value → Prop} {Post : Loc → Int → List (K × Value) → List (K × Value) → K → Value → Value → Value × Int × List (K × Value) × List (K × Value)}
variable {R : Result → Shared → Prop} {c : Loc} {cur : Int} {te : Tok} {o1 o2 : Obj} {kvs ov : List (K × Value)} {k : K} {v dv : Value} {tk : Tok} {as : List Value}
/-- a call of a function whose deed is told, by a function that knows no more objects -/
theorem Deed.code (d : Deed KK q knd C on D fn args Pre Post) (B : Below A₀ base outer h₀) (sz : base.objs.size ≤ h₀.objs.size) (X : (KK w.params).In base) (T : Top q lse mean mg mb base)
    (F : Fr h₀ L s.heap m) (N : News h₀ L s.heap news) (hh : A.handled = none) (hA : A.frames = some (env :: outer)) (hf : env.frame = some L) (hke : env.scope.kind = .function) (hd : A.depth ≤ D) (hu : A.units ≤ D)
    (ho : SubL (led w.params C on c cur te o1 o2) news) (D1 : o1.IsDictOf (knd w) kvs) (D2 : o2.IsDictOf (knd w) ov) (ok : c.Ok) (ha : as = args c k tk dv) (hp : Pre c cur kvs ov k v dv)
    (h : ∀ h₁ h' tk' te' p1 p2, Up base outer h₀ h₁ → Below A₀ base outer h₁ → (KK w.params).In h₁ → Top q lse mean mg mb h₁ → base.objs.size ≤ h₁.objs.size → Fr h₁ L h' m → News h₁ L h' (led w.params C on c (Post c cur kvs ov k v dv).2.1 te' p1 p2) → p1.IsDictOf (knd w) (Post c cur kvs ov k v dv).2.2.1 → p2.IsDictOf (knd w) (Post c cur kvs ov k v dv).2.2.2 →
      R (.ok (.ret (Post c cur kvs ov k v dv).1)) { s with heap := h', toks := tk' }) : codeAny (model prog w) A (.call (.ref fn) ⟨as, []⟩) R s := by
  subst ha
  refine handU (A := A) B sz F N hA hf hke fun g ft Bg szg back => ?_
  refine code_up (d (R := _) ⟨⟨rfl, Bg.stays, Bg.frames⟩, szg, X, T⟩ ok ⟨te, o1, o2, ⟨ft.1, ft.2.1, fun p hp => ft.2.2 p (ho.mem p hp)⟩, D1, D2⟩ hp fun g' h' tk' u cc => ?_) hh hA hd hu
  obtain ⟨te', p1, p2, ft', D1', D2'⟩ := cc
  obtain ⟨h₁, u1, B1, F1, N1⟩ := back g' h' _ u ft'
  exact h h₁ h' tk' te' p1 p2 u1 B1 (X.keeps B1.stays) (T.keeps B1.stays) (by rw [u1.size]; exact sz) F1 N1 D1' D2'
end
end Mine
end
section
open PySem PySem.W PySem.Spec PySem.Calls PyProof.Rows
namespace Mine
section
variable {prog : Program} {w : World} {K : Type} [DecidableEq K] {knd : KeyKind prog w K} {A : Around} {E : Value → Shared → Prop} {s : Shared} {h₀ : Heap} {L d : Addr} {news : List (Addr × Obj)} {o : Obj} {kvs : List (K × Value)} {k : K} {key : Value}
theorem dk_getMiss {Q : Value → Shared → Prop} (hh : A.handled = none) (N : News h₀ L s.heap news) (hp : (d, o) ∈ news) (hd : o.IsDictOf knd kvs) (hlo : (d == sysModules) = false) (hkey : knd.is k key = true) (hl : valueAt kvs k = none)
    (h : ∀ h' e, Heap.NewExc s.heap h' e "KeyError" → E (.ref e) { s with heap := h', toks := s.toks + 1 }) : wpAny (model prog w) A (getItem (.ref d) key) Q E s :=
  wpAny_getItem_missing_of hkey hlo hh (kda_dict N hp hd).mapOf hl h
end
section
variable {prog : Program} {K : Type} [DecidableEq K] (KK : Params → Frag) (q : Program) (knd : ∀ w, PySem.KeyKind prog w K) (mk : K → Tok → Value) (C : Addr) (on : Str)
/-- __getitem__ of a key that the cache has -/
def GtHit (fn : Addr) (touch : Bool) : Prop := Deed KK q knd C on 350 fn (fun c k tk _ => [.ref c.x, mk k tk])
  (fun _ _ kvs ov k v _ => valueAt kvs k = some v ∧ valueAt ov k = some .none ∧ kvs.length ≤ 12 ∧ ov.length ≤ 12) (fun _ cur kvs ov k v _ => (v, cur, kvs, if touch then stored (without ov k) k .none else ov))
/-- pop of a key that the cache has -/
def PpHit (fn : Addr) (touch : Bool) : Prop := Deed KK q knd C on 350 fn (fun c k tk _ => [.ref c.x, mk k tk])
  (fun _ _ kvs ov k v _ => valueAt kvs k = some v ∧ valueAt ov k = some .none ∧ kvs.length ≤ 12 ∧ ov.length ≤ 12) (fun _ cur kvs ov k v _ => (v, cur - 1, without kvs k, if touch then without (stored (without ov k) k .none) k else without ov k))
/-- pop with a default, of a key that the cache has -/
def PdHit (fn : Addr) (touch : Bool) : Prop := Deed KK q knd C on 350 fn (fun c k tk dv => [.ref c.x, mk k tk, dv])
  (fun _ _ kvs ov k v _ => valueAt kvs k = some v ∧ valueAt ov k = some .none ∧ kvs.length ≤ 12 ∧ ov.length ≤ 12) (fun _ cur kvs ov k v _ => (v, cur - 1, without kvs k, if touch then without (stored (without ov k) k .none) k else without ov k))
/-- pop with the default None, of a key that the cache has not -/
def PdMiss (fn : Addr) : Prop := Deed KK q knd C on 350 fn (fun c k tk _ => [.ref c.x, mk k tk, .none])
  (fun _ _ kvs _ k _ _ => valueAt kvs k = none ∧ kvs.length ≤ 12) (fun _ cur kvs ov _ _ _ => (.none, cur, kvs, ov))
/-- __setitem__ of a key that the cache has -/
def StHit (fn : Addr) : Prop := Deed KK q knd C on 380 fn (fun c k tk dv => [.ref c.x, mk k tk, dv])
  (fun c _ kvs ov k v _ => valueAt kvs k = some v ∧ valueAt ov k = some .none ∧ 1 ≤ c.mx ∧ c.mx ≤ 12 ∧ kvs.length ≤ 12 ∧ ov.length ≤ 12) (fun _ cur kvs ov k _ dv => (.none, cur, stored kvs k dv, stored (without ov k) k .none))
/-- the law's own look whether a key is lost: it is -/
def Lost (fn : Addr) : Prop := Deed KK q knd C on 350 fn (fun c k tk _ => [.ref c.x, mk k tk])
  (fun _ _ kvs _ k _ _ => valueAt kvs k = none ∧ kvs.length ≤ 12) (fun _ cur kvs ov _ _ _ => (.bool true, cur, kvs, ov))
/-- popitem of a cache that has a key: a pair, newly laid -/
def Popped (fn : Addr) : Prop :=
  ∀ {w : World} {s : Shared} {c : Loc} {cur : Int} {kvs rest : List (K × Value)} {k0 : K} {v : Value} {base g : Heap} {fr : List Env} {gs mean mg mb lse} {R : Result → Shared → Prop},
  Sur KK q 350 w base g fr gs mean mg mb lse → c.Ok → Cash knd C on w c g s.heap cur [] kvs ((k0, .none) :: rest) → valueAt kvs k0 = some v → kvs.length ≤ 12 → rest.length ≤ 11 →
  (∀ g' h' tk' T t, Up base fr g g' → Cash knd C on w c g' h' (cur - 1) [(T, { cls := .type "tuple", data := .seq #[mk k0 t, v] })] (without kvs k0) (without ((k0, .none) :: rest) k0) → R (.ok (.ret (.ref T))) { s with heap := h', toks := tk' }) →
  codeAny (model prog w) (arnd 350 350 fr gs) (.call (.ref fn) ⟨[.ref c.x], []⟩) R s
end
end Mine
end
section
open PySem PySem.W PySem.Spec PySem.Calls PyProof.Rows
namespace Mine
section
variable {prog : Program} (KK : Params → Frag) (q : Program)
/-- what a call does with its own objects: what it gives back, what it leaves -/
def Callee (D : Nat) (fn : Addr) (as : List Value) (own : List (Addr × Obj)) (w : World) (s : Shared) (Post : Value → List (Addr × Obj) → Prop) : Prop :=
  ∀ {base g : Heap} {fr : List Env} {gs mean mg mb lse} {R : Result → Shared → Prop},
  Sur KK q D w base g fr gs mean mg mb lse → Fit g own s.heap →
  (∀ g' h' tk' v own', Up base fr g g' → Fit g' own' h' → Post v own' → R (.ok (.ret v)) { s with heap := h', toks := tk' }) →
  codeAny (model prog w) (arnd D D fr gs) (.call (.ref fn) ⟨as, []⟩) R s
end
theorem funFrames_less {base base' h h₀ : Heap} : ∀ {l : List Env}, h.FunFrames base' l → h₀.FunFrames base l → h.FunFrames base l
  | [], _, _ => trivial
  | _ :: _, ⟨hk, ⟨L, o, hf, _, ho, hd⟩, hr⟩, ⟨_, ⟨L₂, _, hf2, hn2, _, _⟩, hr2⟩ => by
    cases hf.symm.trans hf2
    exact ⟨hk, ⟨L, o, hf, hn2, ho, hd⟩, funFrames_less hr hr2⟩
theorem funFrames_hid {base h : Heap} {l : List Env} {as : List Addr} (B : h.FunFrames base l) (hs : ∀ a ∈ l.filterMap (·.frame), a ∈ as) {g : Heap} (e : ∀ a o, h.get? a = some o → a ∈ l.filterMap (·.frame) → g.get? a = some o) (base' : Heap) (hb : ∀ a ∈ as, base'.get? a = none) : g.FunFrames base' l := by
  induction l with
  | nil => trivial
  | cons env r ih =>
    obtain ⟨hk, ⟨L, o, hf, hn, ho, hd⟩, hr⟩ := B
    have hm : L ∈ (env :: r).filterMap (·.frame) := List.mem_filterMap.mpr ⟨env, List.mem_cons_self, hf⟩
    exact ⟨hk, ⟨L, o, hf, hb L (hs L hm), e L o ho hm, hd⟩, ih hr (fun a ha => hs a (by rw [List.filterMap_cons, hf]; exact List.mem_cons_of_mem _ ha)) fun a o' ho' ha => e a o' ho' (by rw [List.filterMap_cons, hf]; exact List.mem_cons_of_mem _ ha)⟩
section
variable {prog : Program} {KK : Params → Frag} {q : Program} {D fn : Addr} {as : List Value} {own rest news : List (Addr × Obj)} {w : World} {s : Shared} {Post : Value → List (Addr × Obj) → Prop}
variable {A A₀ : Around} {E : Value → Shared → Prop} {base h₀ : Heap} {outer : List Env} {env : Env} {L : Addr} {m mg mb : Str → Option Value} {lse : List Str} {mean : ExcName → Option Value}
theorem Callee.law {Q : Value → Shared → Prop} (d : Callee (prog := prog) KK q D fn as own w s Post) (F : Fr h₀ L s.heap m) (X : (KK w.params).In h₀) (N : News h₀ L s.heap news) (T : Top q lse mean mg mb h₀) (hh : A.handled = none) (hA : A.frames = some [env]) (hf : env.frame = some L) (hke : env.scope.kind = .function) (hd : A.depth ≤ D) (hu : A.units ≤ D)
    (so : ∀ p ∈ own, p ∈ news) (sr : ∀ p ∈ rest, p ∈ news) (off : ∀ p ∈ rest, p.1 ∉ own.map (·.1))
    (h : ∀ h' tk' v own', Fr h₀ L h' m → News h₀ L h' (own' ++ rest) → (∀ p ∈ own', ∀ q ∈ rest, p.1 ≠ q.1) → Post v own' → Q v { s with heap := h', toks := tk' }) : wpAny (model prog w) A (call (.ref fn) as) Q E s := by
  refine wpAny_call ?_
  have hL₀ : h₀.get? L = none := Heap.get?_none_of_le F.above
  have No : ∀ p ∈ own, s.heap.get? p.1 = some p.2 ∧ p.1 ≠ L ∧ h₀.get? p.1 = none := fun p hp => N p (so p hp)
  obtain ⟨oL, es, ep, hL, hLd, hLk, hLf⟩ := F.ns
  have nL : L ∉ own.map (·.1) := fun z => by
    obtain ⟨p, hp, e⟩ := List.mem_map.mp z
    exact (No p hp).2.1 e
  have n0 : ∀ b o, h₀.get? b = some o → b ∉ own.map (·.1) := fun b o e z => by
    obtain ⟨p, hp, rfl⟩ := List.mem_map.mp z
    rw [(No p hp).2.2] at e; cases e
  have gL : (hideAll s.heap (own.map (·.1))).get? L = some oL := hideAll_get _ hL nL
  have bst : ∀ b o, s.heap.get? b = some o → b ∉ own.map (·.1) → b ≠ L → (hideAll (hideAll s.heap (own.map (·.1))) [L]).get? b = some o := fun b o e hb hl => hideAll_get _ (hideAll_get _ e hb) (by simpa using hl)
  have st0 : h₀.StaysIn (hideAll (hideAll s.heap (own.map (·.1))) [L]) := fun b o e => bst b o (F.keep b o e) (n0 b o e) (fun z => by rw [z, hL₀] at e; cases e)
  have B : Below (arnd D D [env] A.guards) (hideAll (hideAll s.heap (own.map (·.1))) [L]) [env] (hideAll s.heap (own.map (·.1))) :=
    ⟨rfl, fun b o e => of_hideAll _ e, Heap.FunFrames.cons (by rw [hke]; decide) hf ⟨oL, es, ep, gL, hLd, hLk, hLf⟩ (hideAll_none _ (List.mem_singleton.mpr rfl)) trivial⟩
  refine code_up (d (R := _) ⟨B, Nat.le_of_eq (hideAll_size _ _), X.keeps st0, T.keeps st0⟩ ⟨fun b o e => of_hideAll _ e, Nat.le_of_eq (hideAll_size _ _), fun p hp => ⟨(No p hp).1, hideAll_none _ (List.mem_map_of_mem hp)⟩⟩ fun g' h' tk' v own' u ft' hP => ?_) hh hA hd hu
  have st1 : h₀.StaysIn h' := fun b o e => ft'.1 b o (u.stays b o (st0 b o e))
  obtain ⟨sl, qL⟩ := u.up L oL gL fun vs z => by rw [hLd] at z; cases z
  have gr : ∀ p ∈ rest, g'.get? p.1 = some p.2 := fun p hp => by
    have z := N p (sr p hp)
    exact u.stays _ _ (bst _ _ z.1 (off p hp) z.2.1)
  refine h h' tk' v own' ⟨⟨_, es, ep, ft'.1 _ _ qL, hLd, hLk, hLf⟩, st1, F.above⟩ (fun p hp => ?_) (fun p hp r hr e => ?_) hP
  · rcases List.mem_append.mp hp with hp | hp
    · have z := ft'.2.2 p hp
      refine ⟨z.1, fun e => ?_, ?_⟩
      · rw [e, qL] at z; exact nomatch z.2
      · cases e : h₀.get? p.1 with
        | none => rfl
        | some o => have := u.stays _ _ (st0 _ _ e); rw [z.2] at this; cases this
    · exact ⟨ft'.1 _ _ (gr p hp), (N p (sr p hp)).2⟩
  · have z := (ft'.2.2 p hp).2
    rw [e, gr r hr] at z; cases z
theorem Callee.code {R : Result → Shared → Prop} (d : Callee (prog := prog) KK q D fn as own w s Post) (B : Below A₀ base outer h₀) (sz : base.objs.size ≤ h₀.objs.size) (X : (KK w.params).In base) (T : Top q lse mean mg mb base)
    (F : Fr h₀ L s.heap m) (N : News h₀ L s.heap news) (hh : A.handled = none) (hA : A.frames = some (env :: outer)) (hf : env.frame = some L) (hke : env.scope.kind = .function) (hd : A.depth ≤ D) (hu : A.units ≤ D)
    (so : ∀ p ∈ own, p ∈ news) (sr : ∀ p ∈ rest, p ∈ news) (off : ∀ p ∈ rest, p.1 ∉ own.map (·.1))
    (h : ∀ h₁ h' tk' v own', Up base outer h₀ h₁ → Below A₀ base outer h₁ → (KK w.params).In h₁ → Top q lse mean mg mb h₁ → base.objs.size ≤ h₁.objs.size → Fr h₁ L h' m → News h₁ L h' (own' ++ rest) → (∀ p ∈ own', ∀ q ∈ rest, p.1 ≠ q.1) → Post v own' →
      R (.ok (.ret v)) { s with heap := h', toks := tk' }) : codeAny (model prog w) A (.call (.ref fn) ⟨as, []⟩) R s := by
  have hL₀ : h₀.get? L = none := Heap.get?_none_of_le F.above
  have No : ∀ p ∈ own, s.heap.get? p.1 = some p.2 ∧ p.1 ≠ L ∧ h₀.get? p.1 = none := fun p hp => N p (so p hp)
  obtain ⟨oL, es, ep, hL, hLd, hLk, hLf⟩ := F.ns
  have nL : L ∉ own.map (·.1) := fun z => by
    obtain ⟨p, hp, e⟩ := List.mem_map.mp z
    exact (No p hp).2.1 e
  have n0 : ∀ b o, h₀.get? b = some o → b ∉ own.map (·.1) := fun b o e z => by
    obtain ⟨p, hp, rfl⟩ := List.mem_map.mp z
    rw [(No p hp).2.2] at e; cases e
  let G := hideAll s.heap (own.map (·.1))
  let fs := (env :: outer).filterMap (·.frame)
  let bas := hideAll G fs
  have gL : G.get? L = some oL := hideAll_get _ hL nL
  have g0 : ∀ b o, h₀.get? b = some o → G.get? b = some o := fun b o e => hideAll_get _ (F.keep b o e) (n0 b o e)
  have fin : ∀ a ∈ fs, a = L ∨ (base.get? a = none ∧ ∃ o, h₀.get? a = some o) := fun a ha => by
    obtain ⟨e, he, hfe⟩ := List.mem_filterMap.mp ha
    rcases List.mem_cons.mp he with rfl | he
    · exact .inl (Option.some.inj (hfe.symm.trans hf))
    · have z := B.frames.mem (List.mem_filterMap.mpr ⟨e, he, hfe⟩)
      exact .inr ⟨z.1, let ⟨o, ho, _⟩ := z.2; ⟨o, ho⟩⟩
  have bst : base.StaysIn bas := fun b o e => hideAll_get _ (g0 b o (B.stays b o e)) fun hm => by
    rcases fin b hm with rfl | z
    · rw [B.stays b o e] at hL₀; cases hL₀
    · rw [z.1] at e; cases e
  have bL : base.get? L = none := by
    cases z : base.get? L with
    | none => rfl
    | some o => rw [B.stays L o z] at hL₀; cases hL₀
  have GF : G.FunFrames base (env :: outer) := ⟨by rw [hke]; decide, ⟨L, oL, hf, bL, gL, fun vs z => by rw [hLd] at z; cases z⟩, B.frames.of_keeps fun b o e _ => ⟨o, g0 b o e, rfl⟩⟩
  have BG : Below (arnd D D (env :: outer) A.guards) bas (env :: outer) G := ⟨rfl, fun b o e => of_hideAll _ e, funFrames_hid GF (fun a ha => ha) (fun a o e _ => e) bas fun a ha => hideAll_none _ ha⟩
  refine code_up (d (R := _) ⟨BG, Nat.le_of_eq (hideAll_size _ _), X.keeps bst, T.keeps bst⟩ ⟨fun b o e => of_hideAll _ e, Nat.le_of_eq (hideAll_size _ _), fun p hp => ⟨(No p hp).1, hideAll_none _ (List.mem_map_of_mem hp)⟩⟩ fun g' h' tk' v own' u ft' hP => ?_) hh hA hd hu
  have u1 : Up base outer h₀ (asNow h₀ g') := asNow_up (l := []) B.stays (fun b o e => u.stays b o (bst b o e)) (fun b o e hn => u.up b o (g0 b o e) hn) (funFrames_less u.frames.2.2 B.frames) B.frames
  have B1 := u1.below B
  obtain ⟨sl, qL⟩ := u.up L oL gL fun vs z => by rw [hLd] at z; cases z
  have gr : ∀ p ∈ rest, g'.get? p.1 = some p.2 := fun p hp => by
    have z := N p (sr p hp)
    refine u.stays _ _ (hideAll_get _ (hideAll_get _ z.1 (off p hp)) fun hm => ?_)
    rcases fin p.1 hm with e | ⟨_, o, ho⟩
    · exact z.2.1 e
    · rw [z.2.2] at ho; cases ho
  refine h (asNow h₀ g') h' tk' v own' u1 B1 (X.keeps B1.stays) (T.keeps B1.stays) (by rw [u1.size]; exact sz) ⟨⟨_, es, ep, ft'.1 _ _ qL, hLd, hLk, hLf⟩, fun b o e => ft'.1 b o (asNow_keep e), by rw [u1.size]; exact F.above⟩ (fun p hp => ?_) (fun p hp r hr e => ?_) hP
  · rcases List.mem_append.mp hp with hp | hp
    · have z := ft'.2.2 p hp
      refine ⟨z.1, fun e => ?_, ?_⟩
      · rw [e, qL] at z; exact nomatch z.2
      · cases e : h₀.get? p.1 with
        | none => exact asNow_none e
        | some o => rw [asNow_get, e]; exact z.2
    · exact ⟨ft'.1 _ _ (gr p hp), (N p (sr p hp)).2.1, asNow_none (N p (sr p hp)).2.2⟩
  · have z := (ft'.2.2 p hp).2
    rw [e, gr r hr] at z; cases z
end
end Mine
end
section
open PySem PySem.W PySem.Spec PySem.Calls PyProof.Rows
namespace Mine
section
variable {prog : Program} {w : World} {A : Around} {E : Value → Shared → Prop} {s : Shared} {env : Env} {h₀ : Heap} {target : PySem.Expr} {body : List Stmt} {Q : Flow → Shared → Prop} {ws : List (Addr × String)} {keep : List (Addr × Obj)}
theorem AllObj.mono : ∀ {ws : List (Addr × String)} {k k' : List (Addr × Obj) → Prop}, (∀ its, k its → k' its) → AllObj ws k → AllObj ws k'
  | [], _, _, f, h => f [] h
  | _ :: _, _, _, f, h => fun o ho => AllObj.mono (fun its z => f _ z) (h o ho)
/-- a loop over items, by what holds ahead of each turn -/
theorem items_inv {n : Nat} (its : Nat → List Itm) (Inv : Nat → (Str → Option Value) → List (Addr × Obj) → Prop) (hz : its n = []) (hs : ∀ i, i < n → ∃ a, its i = a :: its (i + 1))
    (step : ∀ i a m news (K : (Str → Option Value) → List (Addr × Obj) → Prop), i < n → its i = a :: its (i + 1) → Inv i m news → (∀ m' n' n₀, SubL n₀ n' → Inv (i + 1) m' n₀ → K m' n') →
      ∀ v h tk, a.Is v h → Fr h₀ env.locals h m → AllObj ws (fun its => News h₀ env.locals h (its ++ news) →
        wpAny (model prog w) A (assign target env v) (fun _ s₂ => wpAny (model prog w) A (execs body env) (UnrPostW h₀ env.locals { s with heap := h, toks := tk } its (fun m' n' => SubL keep n' ∧ K m' n') Q) E s₂) E { s with heap := h, toks := tk }))
    (fin : ∀ m news, Inv n m news → ∀ h tk, Fr h₀ env.locals h m → News h₀ env.locals h news → Q .next { s with heap := h, toks := tk }) :
    ∀ k i m news news₀, i + k = n → (∀ p ∈ news₀, p ∈ news) → Inv i m news₀ → ItemsRest prog w A E h₀ env target body Q s ws keep (its i) m news
  | 0, i, m, news, news₀, e, sub, hi => by
    have e' : i = n := e
    subst e'
    rw [hz]
    exact fun h tk F N => fin m news₀ hi h tk F fun p hp => N p (sub p hp)
  | k + 1, i, m, news, news₀, e, sub, hi => by
    have hlt : i < n := by omega
    obtain ⟨a, ha⟩ := hs i hlt
    rw [ha]
    intro v h tk hv F
    exact AllObj.mono (fun its z N => z fun p hp => N p (by
        rcases List.mem_append.mp hp with hp | hp
        · exact List.mem_append_left _ hp
        · exact List.mem_append_right _ (sub p hp)))
      (step i a m news₀ _ hlt ha hi (fun m' n' n₀ sb z => items_inv its Inv hz hs step fin k (i + 1) m' n' n₀ (by omega) sb.mem z) v h tk hv F)
theorem enum_at {vs : List Value} {a i : Nat} (h : i < vs.length) : ∃ x, vs[i]? = some x ∧ enumItems (a + i) (vs.drop i) = .pair (fun t => .int ((a + i : Nat) : Int) t) x :: enumItems (a + (i + 1)) (vs.drop (i + 1)) :=
  ⟨vs[i], by simp [h], by rw [List.drop_eq_getElem_cons h]; rfl⟩
/-- a loop over enumerate(list) -/
theorem enum_inv {vs : List Value} (Inv : Nat → (Str → Option Value) → List (Addr × Obj) → Prop)
    (step : ∀ i x m news (K : (Str → Option Value) → List (Addr × Obj) → Prop), vs[i]? = some x → Inv i m news → (∀ m' n' n₀, SubL n₀ n' → Inv (i + 1) m' n₀ → K m' n') →
      ∀ T t h tk, IsTup h T #[.int (i : Int) t, x] → Fr h₀ env.locals h m → AllObj ws (fun its => News h₀ env.locals h (its ++ news) →
        wpAny (model prog w) A (assign target env (.ref T)) (fun _ s₂ => wpAny (model prog w) A (execs body env) (UnrPostW h₀ env.locals { s with heap := h, toks := tk } its (fun m' n' => SubL keep n' ∧ K m' n') Q) E s₂) E { s with heap := h, toks := tk }))
    (fin : ∀ m news, Inv vs.length m news → ∀ h tk, Fr h₀ env.locals h m → News h₀ env.locals h news → Q .next { s with heap := h, toks := tk })
    {m : Str → Option Value} {news : List (Addr × Obj)} (news₀ : List (Addr × Obj)) (sub : SubL news₀ news) (h0 : Inv 0 m news₀) : ItemsRest prog w A E h₀ env target body Q s ws keep (enumItems 0 vs) m news := by
  have z := items_inv (prog := prog) (w := w) (A := A) (E := E) (s := s) (env := env) (h₀ := h₀) (target := target) (body := body) (Q := Q) (ws := ws) (keep := keep) (n := vs.length) (fun i => enumItems i (vs.drop i)) Inv (by simp [enumItems])
    (fun i hi => by obtain ⟨x, _, e⟩ := enum_at (a := 0) hi; rw [Nat.zero_add, Nat.zero_add] at e; exact ⟨_, e⟩)
    (fun i a m news K hi ha hinv hK v h tk hv F => by
      obtain ⟨x, hx, e⟩ := enum_at (a := 0) hi
      rw [Nat.zero_add, Nat.zero_add] at e
      cases List.cons.inj (ha.symm.trans e) |>.1
      obtain ⟨T, t, rfl, hT⟩ := hv
      exact step i x m news K hx hinv hK T t h tk hT F) fin vs.length 0 m news news₀ (by omega) sub.mem h0
  exact z
/-- a loop over a list's values -/
theorem vals_inv {vs : List Value} (Inv : Nat → (Str → Option Value) → List (Addr × Obj) → Prop)
    (step : ∀ i x m news (K : (Str → Option Value) → List (Addr × Obj) → Prop), vs[i]? = some x → Inv i m news → (∀ m' n' n₀, SubL n₀ n' → Inv (i + 1) m' n₀ → K m' n') →
      ∀ h tk, Fr h₀ env.locals h m → AllObj ws (fun its => News h₀ env.locals h (its ++ news) →
        wpAny (model prog w) A (assign target env x) (fun _ s₂ => wpAny (model prog w) A (execs body env) (UnrPostW h₀ env.locals { s with heap := h, toks := tk } its (fun m' n' => SubL keep n' ∧ K m' n') Q) E s₂) E { s with heap := h, toks := tk }))
    (fin : ∀ m news, Inv vs.length m news → ∀ h tk, Fr h₀ env.locals h m → News h₀ env.locals h news → Q .next { s with heap := h, toks := tk })
    {m : Str → Option Value} {news : List (Addr × Obj)} (news₀ : List (Addr × Obj)) (sub : SubL news₀ news) (h0 : Inv 0 m news₀) : ItemsRest prog w A E h₀ env target body Q s ws keep (vs.map .val) m news := by
  have z := items_inv (prog := prog) (w := w) (A := A) (E := E) (s := s) (env := env) (h₀ := h₀) (target := target) (body := body) (Q := Q) (ws := ws) (keep := keep) (n := vs.length) (fun i => (vs.drop i).map .val) Inv (by simp)
    (fun i hi => ⟨.val vs[i], by rw [List.drop_eq_getElem_cons hi]; rfl⟩)
    (fun i a m news K hi ha hinv hK v h tk hv F => by
      rw [List.drop_eq_getElem_cons hi] at ha
      cases List.cons.inj ha |>.1
      have hv' : v = vs[i] := hv
      subst hv'
      exact step i vs[i] m news K (by simp [hi]) hinv hK h tk F) fin vs.length 0 m news news₀ (by omega) sub.mem h0
  exact z
end
section
variable {prog : Program} {w : World} {A : Around} {s : Shared} {h₀ : Heap} {L : Addr} {m : Str → Option Value} {env : Env} {ct elt : PySem.Expr} {x : Str} {scope : Scope} {cl : List (Str × Addr)} {S : List (Addr × Obj) → Prop} {P : Nat → Value → Prop} {Fin : List Value → List (Addr × Obj) → Prop}
/-- a comprehension, by what holds ahead of each turn -/
theorem comp_inv {n : Nat} (Inv : Nat → List Value → List (Addr × Obj) → Prop)
    (step : ∀ i ys news (K : Value → List (Addr × Obj) → Prop), i < n → Inv i ys news → (∀ y n', Inv (i + 1) (ys ++ [y]) n' → K y n') →
      ∀ v I oI C oC D m₂ h tk (E' : Value → Shared → Prop), P i v → LCg.NsObj oC m₂ → m₂ x = some v → Fr h₀ L h m → News h₀ L h ((I, oI) :: (C, oC) :: (D, LCg.lst ys) :: news) → LCg.Off3 I C D news → ((@Ne Nat I C) ∧ (@Ne Nat I D) ∧ (@Ne Nat C D)) →
      wpAny (model prog w) A (eval elt (compEnvC scope cl C env)) (LCg.CompEnd h₀ L m { s with heap := h, toks := tk } I oI C oC D (LCg.lst ys) S K) E' { s with heap := h, toks := tk })
    (fin : ∀ ys news, Inv n ys news → Fin ys news) : ∀ k i ys news, i + k = n → Inv i ys news → LCg.CompRest prog w A h₀ L m env elt x scope cl s S P Fin k i ys news
  | 0, i, ys, news, e, hi => by
    have e' : i = n := e
    subst e'
    exact fin ys news hi
  | k + 1, i, ys, news, e, hi => fun v I oI C oC D m₂ h tk E' a b c d e' f g => step i ys news _ (by omega) hi (fun y n' z => comp_inv Inv step fin k (i + 1) (ys ++ [y]) n' (by omega) z) v I oI C oC D m₂ h tk E' a b c d e' f g
/-- a comprehension with a test -/
theorem compT_inv {n : Nat} (Inv : Nat → List Value → List (Addr × Obj) → Prop)
    (step : ∀ i ys news (K K' : Value → List (Addr × Obj) → Prop), i < n → Inv i ys news → (∀ y n', Inv (i + 1) (ys ++ [y]) n' → K y n') → (∀ y n', Inv (i + 1) ys n' → K' y n') →
      ∀ v I oI C oC D m₂ h tk (E' : Value → Shared → Prop), P i v → LCg.NsObj oC m₂ → m₂ x = some v → Fr h₀ L h m → News h₀ L h ((I, oI) :: (C, oC) :: (D, LCg.lst ys) :: news) → LCg.Off3 I C D news → ((@Ne Nat I C) ∧ (@Ne Nat I D) ∧ (@Ne Nat C D)) →
      wpAny (model prog w) A (isTrue ct (compEnvC scope cl C env) (eval ct (compEnvC scope cl C env))) (fun ok s' => if ok = true then
        wpAny (model prog w) A (eval elt (compEnvC scope cl C env)) (LCg.CompEnd h₀ L m { s with heap := h, toks := tk } I oI C oC D (LCg.lst ys) S K) E' s'
        else LCg.CompEnd h₀ L m { s with heap := h, toks := tk } I oI C oC D (LCg.lst ys) S K' Value.none s') E' { s with heap := h, toks := tk })
    (fin : ∀ ys news, Inv n ys news → Fin ys news) : ∀ k i ys news, i + k = n → Inv i ys news → LCt.CompRestT prog w A h₀ L m env ct elt x scope cl s S P Fin k i ys news
  | 0, i, ys, news, e, hi => by
    have e' : i = n := e
    subst e'
    exact fin ys news hi
  | k + 1, i, ys, news, e, hi => fun v I oI C oC D m₂ h tk E' a b c d e' f g => step i ys news _ _ (by omega) hi (fun y n' z => compT_inv Inv step fin k (i + 1) (ys ++ [y]) n' (by omega) z) (fun _ n' z => compT_inv Inv step fin k (i + 1) ys n' (by omega) z) v I oI C oC D m₂ h tk E' a b c d e' f g
end
section
variable {h₀ h' : Heap} {L I C D : Addr} {m : Str → Option Value} {s₁ : Shared} {oI oC oD : Obj} {S : List (Addr × Obj) → Prop} {K : Value → List (Addr × Obj) → Prop} {tk : Nat} {all base tups : List (Addr × Obj)} {y : Value}
/-- the end of a comprehension's turn that keeps base, written out, and tups -/
theorem keep_end (F : Fr h₀ L h' m) (N : News h₀ L h' all) (hb : SubL ((I, oI) :: (C, oC) :: (D, oD) :: base) all) (ht : ∀ q ∈ tups, q ∈ all) (off : LCg.Off3 I C D (base ++ tups)) (hS : S (base ++ tups)) (hK : K y (base ++ tups)) :
    LCg.CompEnd h₀ L m s₁ I oI C oC D oD S K y { s₁ with heap := h', toks := tk } :=
  ⟨h', tk, base ++ tups, rfl, F, fun p hp => by
    rcases List.mem_cons.mp hp with rfl | hp
    · exact N _ hb.1
    · rcases List.mem_cons.mp hp with rfl | hp
      · exact N _ hb.2.1
      · rcases List.mem_cons.mp hp with rfl | hp
        · exact N _ hb.2.2.1
        · rcases List.mem_append.mp hp with hp | hp
          · exact N p (SubL.mem hb.2.2.2 p hp)
          · exact N p (ht p hp), off, hS, hK⟩
theorem off_snoc {I C D T : Addr} {o : Obj} : ∀ {base tups : List (Addr × Obj)}, LCg.Off3 I C D (base ++ tups) → ((@Ne Nat T I) ∧ (@Ne Nat T C) ∧ (@Ne Nat T D)) → LCg.Off3 I C D (base ++ (T, o) :: tups)
  | [], _, x, n => ⟨n, x⟩
  | _ :: _, _, x, n => ⟨x.1, off_snoc x.2 n⟩
end
section
variable {prog : Program} {w : World} {A : Around} {s : Shared} {g : Heap} {f : Addr} {mg mb : Str → Option Value} {K : Frag} {p : Program} {loose : List Str} {mean : ExcName → Option Value} {own : List (Addr × Obj)}
  {R : Result → Shared → Prop} {name qual : Str} {params : Arguments} {body : List Stmt} {scope : Scope} {dV kV doc pm cdv ct oc : Value} {an od : Option Addr} {osl : Array (Option Value)} {args : Args} {binds : List (Str × Value)}
theorem enterC (X : K.In g) (T : Top p loose mean mg mb g) (ft : Fit g own s.heap)
    (ho : K.lookup f = some ⟨oc, od, .func (fnOf name qual params body scope dV kV doc pm an cdv ct), osl⟩) (hcd : codeIn K cdv qual = true) (hroom : A.depth < recursionLimit)
    (hbind : BindsTo s (fnOf name qual params body scope dV kV doc pm an cdv ct) args binds) (hkind : (binds.all fun y => scope.names.lookup y.1 == some .local || scope.names.lookup y.1 == some .cell) = true)
    (hnd : ((cellsFrom 0 scope.names []).map (·.1)).Nodup)
    (h : ∀ L' h₁ tk cells, Fr g L' h₁ (bindL (envOfC qual scope L' f cdv).kindOf binds fun _ => none) → News g L' h₁ (cells ++ own) →
      CellsAre (bindC (envOfC qual scope L' f cdv).kindOf binds fun _ => none) (cellsFrom (L' + 1) scope.names []) cells → (∀ p ∈ own, p.1 < L') →
      wpAny (model prog w) (A.deeper (envOfC qual scope L' f cdv)) (execs body (envOfC qual scope L' f cdv))
        (fun fl s' => R (.ok (.ret (match fl with | .ret v => v | _ => .none))) s')
        (fun e s' => wpAny (model prog w) (A.deeper (envOfC qual scope L' f cdv)) (leaving (envOfC qual scope L' f cdv) e) (fun _ s'' => R (.error e) s'') (fun e' s'' => R (.error e') s'') s')
        { s with heap := h₁, toks := tk })
    (hco : scope.isCoroutine = false) (hgen : scope.isGenerator = false) (hk : scope.kind = .function) : codeAny (model prog w) A (.call (.ref f) args) R s := by
  have X' := X.keeps ft.1
  refine codeAny_call_function hroom (X' _ _ ho) rfl hco hgen rfl (codeRec_of X' hcd) (hbind _ _ _ _ ?_)
  refine wpAny_newFunctionEnv_cells hk (kindsX hkind _) fun env' he s' x => ?_
  subst he
  refine ⟨(T.nolimit.keeps ft.1).keeps x.toInCall.keep, codeAny_func ?_⟩
  obtain ⟨h₁, tk, rfl, _⟩ := x.done
  have hk₁ := x.toInCall.keep
  obtain ⟨cells, NC, Y⟩ := Cl.news (h₀ := s.heap) (Nat.le_refl _) fun n c hm => ⟨x.cell n c (lookup_of_mem_nodup (cellsFrom_names scope.names 0 (s.heap.objs.size + 1) [] [] rfl ▸ hnd) hm), x.above n c hm⟩
  refine wpAny_mono (h s.heap.objs.size h₁ tk cells ⟨x.toInCall.ns, fun b o e => hk₁ b o (ft.1 b o e), ft.2.1⟩ (fun p hp => ?_) Y (fun p hp => Heap.lt_size (ft.2.2 p hp).1)) (fun fl s' hl => hl) fun _ _ y => y
  rcases List.mem_append.mp hp with hp | hp
  · refine ⟨(NC p hp).1, (NC p hp).2.1, ?_⟩
    cases q : g.get? p.1 with
    | none => rfl
    | some o => have := ft.1 _ _ q; rw [(NC p hp).2.2] at this; cases this
  · exact ⟨hk₁ _ _ (ft.2.2 p hp).1, Nat.ne_of_lt (Heap.lt_size (ft.2.2 p hp).1), (ft.2.2 p hp).2⟩
end
end Mine
end
section
open PySem PySem.W PySem.Spec PySem.Calls PyProof.Rows
namespace Mine
/-- a is the greater pair -/
def lexGt (a b : Int × Int) : Bool := if a.1 = b.1 then decide (a.2 > b.2) else decide (a.1 > b.1)
section
variable {prog : Program} {w : World} {A : Around} {E : Value → Shared → Prop} {s : Shared}
theorem pair_gt {T U : Addr} {a b : Int × Int} {t1 t2 u1 u2 : Tok} {Q : Value → Shared → Prop} (hu : A.units < cLine)
    (hT : IsTup s.heap T #[.int a.1 t1, .int a.2 t2]) (hU : IsTup s.heap U #[.int b.1 u1, .int b.2 u2]) (h : Q (.bool (lexGt a b)) s) : wpAny (model prog w) A (richCompare .Gt (.ref T) (.ref U)) Q E s := by
  obtain ⟨oa, hoa, hca, na, hda⟩ := hT
  obtain ⟨ob, hob, hcb, nb, hdb⟩ := hU
  have hTa : s.TypeIs (.ref T) "tuple" := ⟨oa, hoa, hca⟩
  have hTb : s.TypeIs (.ref U) "tuple" := ⟨ob, hob, hcb⟩
  refine wpAny_richCompare_same_room hTa hTb F.slot_tuple_gt (wpAny_call_entry F.slot_tuple_gt hTa F.entry_tuple_gt ?_ (F.args_tuple_gt_2 _ _)) hu
  show wpAny _ _ (isInstance (.ref U) (.type "tuple") >>= _) _ _ s
  refine wpAny_bind (wpAny_isInstance hTb isSubtype_tuple_tuple ?_)
  simp only [Bool.not_true, Bool.false_eq_true, if_false]
  refine wpAny_bind (wpAny_tupleItemsOf hoa hda ?_)
  refine wpAny_bind (wpAny_tupleItemsOf hob hdb ?_)
  refine wpAny_bind ?_
  show wpAny _ _ (forIn [(Value.int a.1 t1, Value.int b.1 u1), (Value.int a.2 t2, Value.int b.2 u2)] _ _) _ _ _
  rw [List.forIn_cons]
  refine wpAny_bind ?_
  refine wpAny_bind (wpAny_eqBool_int ?_)
  unfold lexGt at h
  by_cases h1 : a.1 = b.1
  · rw [if_pos h1] at h
    rw [show (a.1 == b.1) = true from by simpa using h1]
    simp only [Bool.not_true, Bool.false_eq_true, if_false]
    refine wpAny_pure ?_
    dsimp only
    rw [List.forIn_cons]
    refine wpAny_bind ?_
    refine wpAny_bind (wpAny_eqBool_int ?_)
    by_cases h2 : a.2 = b.2
    · rw [show (a.2 == b.2) = true from by simpa using h2]
      simp only [Bool.not_true, Bool.false_eq_true, if_false]
      refine wpAny_pure ?_
      dsimp only
      rw [List.forIn_nil]
      refine wpAny_pure ?_
      refine wpAny_pure ⟨_, rfl, (fun z => nomatch z), ?_⟩
      have : decide (a.2 > b.2) = false := by rw [decide_eq_false_iff_not]; omega
      rw [this] at h
      exact h
    · rw [show (a.2 == b.2) = false from by simpa using h2]
      simp only [Bool.not_false, if_true]
      refine wpAny_bind (wpAny_rule (wpAny_bind (richCompare_gives (op := .Gt) (typeIs_int s _ t2) (typeIs_int s _ u2) F.slot_int_gt F.entry_int_gt (F.args_int_gt_2 _ _) (gives_int_gt _ _ t2 u2) (fun x => nomatch x) ?_)))
      refine wpAny_bind (wpAny_pure (wpAny_pure ?_))
      exact wpAny_pure (wpAny_pure ⟨_, rfl, (fun z => nomatch z), h⟩)
  · rw [if_neg h1] at h
    rw [show (a.1 == b.1) = false from by simpa using h1]
    simp only [Bool.not_false, if_true]
    refine wpAny_bind (wpAny_rule (wpAny_bind (richCompare_gives (op := .Gt) (typeIs_int s _ t1) (typeIs_int s _ u1) F.slot_int_gt F.entry_int_gt (F.args_int_gt_2 _ _) (gives_int_gt _ _ t1 u1) (fun x => nomatch x) ?_)))
    refine wpAny_bind (wpAny_pure (wpAny_pure ?_))
    exact wpAny_pure (wpAny_pure ⟨_, rfl, (fun z => nomatch z), h⟩)
end

section
variable {prog : Program} {w : World} {A : Around} {E : Value → Shared → Prop} {s : Shared} {R : Result → Shared → Prop} {I : Addr} {fp wr : List Addr} {n : Nat} {P : Nat → Value → Prop} {St : Nat → Heap → Prop} {G : Heap → Prop} {bt : Nat → Nat → Bool} {S : Addr}
/-- max's own loop, where a comparison may read what G says of the heap -/
theorem mx_loop (W : Walks prog w A.in1 I fp wr n P St) (hG : ∀ h h', G h → (∀ b o, b ∉ wr → b ≠ S → h.get? b = some o → h'.get? b = some o) → G h')
    (hcmp : ∀ i j vi vj (s : Shared) (Q : Value → Shared → Prop) (E : Value → Shared → Prop), G s.heap → P i vi → P j vj → Q (.bool (bt i j)) s → wpAny (model prog w) A.in1 (richCompare .Gt vi vj) Q E s) (hSf : S ∉ fp) :
    ∀ (k j : Nat) (s : Shared) (vb : Value) (c : Nat), n - (j + 1) = k → j + 1 ≤ n → St (j + 1) s.heap → G s.heap → P (argBest bt j) vb →
    s.heap.get? S = some { cls := .type "list", dict := none, data := .seq #[vb, vb] c, slots := #[] } →
    (∀ v h' tk, P (argBest bt (n - 1)) v → (∀ b o, b ∉ wr → b ≠ S → s.heap.get? b = some o → h'.get? b = some o) → R (.ok (.ret v)) { s with heap := h', toks := tk }) →
    codeAny (model prog w) A (.builtin "max.loop" ⟨[.ref I, .none, .ref S], []⟩) R s := by
  have hSw : S ∉ wr := fun h => hSf (W.sub _ h)
  have hname : (toString "max" ++ toString ".loop" : String) = "max.loop" := by decide
  intro k
  induction k with
  | zero =>
    intro j s vb c hk hj hst _ hPb hS hR
    have hin : j + 1 = n := by omega
    refine codeAny_builtin F.entry_max_loop ?_
    rw [Around.under_plainId F.plain_max_loop _]
    show wpAny _ A.in1 (seqItems? (.ref S) >>= _) _ _ s
    refine wpAny_bind (wpAny_seqItems hS rfl ?_)
    show wpAny _ A.in1 (tryCatch (pyNext (.ref I)) _ >>= _) _ _ s
    refine wpAny_bind (wpAny_tryCatch (W.done s _ _ (hin ▸ hst) fun h' tk hk' => ?_))
    show wpAny _ A.in1 (updateSeq S (fun _ => #[]) >>= _) _ _ _
    refine wpAny_bind ?_
    refine wpAny_updateSeq (hk' S _ hSw hS) rfl (wpAny_bind (wpAny_letGo (wpAny_pure ?_)))
    refine hR vb _ tk (by rw [← hin]; exact hPb) fun b o hbw hbS e => (Heap.get?_update_other _ _ (Ne.symm hbS)).trans (hk' b o hbw e)
  | succ k ih =>
    intro j s vb c hk hj hst hg hPb hS hR
    have hlt : j + 1 < n := by omega
    refine codeAny_builtin F.entry_max_loop ?_
    rw [Around.under_plainId F.plain_max_loop _]
    show wpAny _ A.in1 (seqItems? (.ref S) >>= _) _ _ s
    refine wpAny_bind (wpAny_seqItems hS rfl ?_)
    show wpAny _ A.in1 (tryCatch (pyNext (.ref I)) _ >>= _) _ _ s
    refine wpAny_bind (wpAny_tryCatch (W.item (j + 1) s _ _ hlt hst fun v h' tk hP hst' hk' => ?_))
    have hS' := hk' S _ hSw hS
    have hg' : G h' := hG _ _ hg fun b o hb _ e => hk' b o hb e
    show wpAny _ A.in1 (tryCatch (holding [v, v] (richCompare .Gt v vb >>= _)) _ >>= _) _ _ _
    refine wpAny_bind (wpAny_tryCatch (wpAny_holding (wpAny_bind (hcmp (j + 1) (argBest bt j) v vb _ _ _ hg' hP hPb ?_))))
    refine wpAny_bind (wpAny_holding (wpAny_truthy_bool ?_))
    refine wpAny_bind (wpAny_letGo (wpAny_pure ?_))
    cases hb : bt (j + 1) (argBest bt j) with
    | true =>
      simp only [if_true]
      refine wpAny_bind ?_
      refine wpAny_updateSeq hS' rfl (wpAny_bind (wpAny_letGo ?_))
      rw [hname]
      refine wpAny_pure ⟨plainId_quiet F.plain_max_loop _, ih (j + 1) _ v _ (by omega) hlt (W.frame _ _ _ hst' fun b hbf o e => ?_) (hG _ _ hg' fun b o _ hbS e => (Heap.get?_update_other _ _ (Ne.symm hbS)).trans e)
        (by simp only [argBest, hb, if_true]; exact hP) (Heap.get?_update_self _ hS' rfl) fun v' h'' tk'' hP' hk'' => ?_⟩
      · exact (Heap.get?_update_other _ _ (fun h : S = b => hSf (by rw [h]; exact hbf))).trans e
      · exact hR v' h'' tk'' hP' fun b o hbw hbS e => hk'' b o hbw hbS ((Heap.get?_update_other _ _ (Ne.symm hbS)).trans (hk' b o hbw e))
    | false =>
      simp only [Bool.false_eq_true, if_false]
      refine wpAny_bind (wpAny_letGo ?_)
      rw [hname]
      refine wpAny_pure ⟨plainId_quiet F.plain_max_loop _, ih (j + 1) _ vb c (by omega) hlt hst' hg' (by simp only [argBest, hb, Bool.false_eq_true, if_false]; exact hPb) hS' fun v' h'' tk'' hP' hk'' => ?_⟩
      exact hR v' h'' tk'' hP' fun b o hbw hbS e => hk'' b o hbw hbS (hk' b o hbw e)
theorem mx_call {x : Value} {Q : Value → Shared → Prop}
    (h : wpAny (model prog w) A.in1 (pyIter x) (fun it s₂ => ∃ I fp wr n P St bt, ∃ G : Heap → Prop, it = .ref I ∧ Walks prog w A.in1 I fp wr n P St ∧ St 0 s₂.heap ∧ (∀ b ∈ fp, b < s₂.heap.objs.size) ∧ 0 < n ∧ G s₂.heap ∧
      (∀ h h' : Heap, G h → (∀ b o, b ∉ wr → b < s₂.heap.objs.size → h.get? b = some o → h'.get? b = some o) → G h') ∧
      (∀ i j vi vj (s : Shared) (Q : Value → Shared → Prop) (E : Value → Shared → Prop), G s.heap → P i vi → P j vj → Q (.bool (bt i j)) s → wpAny (model prog w) A.in1 (richCompare .Gt vi vj) Q E s) ∧
      ∀ v h' tk, P (argBest bt (n - 1)) v → (∀ b o, b ∉ wr → s₂.heap.get? b = some o → h'.get? b = some o) → Q v { s₂ with heap := h', toks := tk }) E s) :
    wpAny (model prog w) A (call (.builtin "max") [x]) Q E s := by
  have hname : (toString "max" ++ toString ".loop" : String) = "max.loop" := by decide
  refine call_function_tree F.kind_max F.plain_max F.entry_max (F.args_max1 _) ?_
  show wpAny _ A.in1 (Builtin.Builtins.bindParams "max" ["key", "default"] 0 ⟨[], []⟩ >>= _) _ _ s
  refine wpAny_bind (wpAny_of_eq (show Builtin.Builtins.bindParams "max" ["key", "default"] 0 ⟨[], []⟩ = pure [none, none] from rfl) ?_)
  refine wpAny_bind (wpAny_pure ?_)
  refine wpAny_bind (wpAny_mono h (fun it s₂ h₂ => ?_) fun _ _ e => e)
  obtain ⟨I, fp, wr, n, P, St, bt, G, rfl, W, hst, hfp, hn, hg, hG, hcmp, hQ⟩ := h₂
  refine wpAny_bind (wpAny_newObj_type ?_)
  have hSf : s₂.heap.objs.size ∉ fp := fun hm => Nat.lt_irrefl _ (hfp _ hm)
  have hSw : s₂.heap.objs.size ∉ wr := fun h => hSf (W.sub _ h)
  have hG' : ∀ h h', G h → (∀ b o, b ∉ wr → b ≠ s₂.heap.objs.size → h.get? b = some o → h'.get? b = some o) → G h' := fun h h' x y => hG h h' x fun b o hb hl e => y b o hb (Nat.ne_of_lt hl) e
  rw [hname]
  refine wpAny_pure ⟨plainId_quiet F.plain_max_loop _, ?_⟩
  -- the first turn
  refine codeAny_builtin F.entry_max_loop ?_
  rw [Around.under_plainId F.plain_max_loop _]
  have hS0 := Heap.get?_push_size s₂.heap (o := { cls := .type "list", dict := none, data := .seq ([] : List Value).toArray }) rfl
  show wpAny _ A.in1 (seqItems? (.ref s₂.heap.objs.size) >>= _) _ _ _
  refine wpAny_bind (wpAny_seqItems hS0 rfl ?_)
  show wpAny _ A.in1 (tryCatch (pyNext (.ref I)) _ >>= _) _ _ _
  refine wpAny_bind (wpAny_tryCatch (W.item 0 _ _ _ hn (W.frame _ _ _ hst fun b _ o e => Heap.get?_push_of_some _ e) fun v h' tk hP hst' hk' => ?_))
  have hS' := hk' _ _ hSw hS0
  show wpAny _ A.in1 (updateSeq s₂.heap.objs.size (fun _ => #[v, v]) >>= _) _ _ _
  refine wpAny_bind ?_
  refine wpAny_updateSeq hS' rfl ?_
  rw [hname]
  refine wpAny_pure ⟨plainId_quiet F.plain_max_loop _, mx_loop W hG' hcmp hSf _ 0 _ v _ rfl hn (W.frame _ _ _ hst' fun b hbf o e => ?_) (hG _ _ hg fun b o hb hl e => ?_) hP (Heap.get?_update_self _ hS' rfl) fun v' h'' tk'' hP' hk'' => ?_⟩
  · exact (Heap.get?_update_other _ _ (fun h : s₂.heap.objs.size = b => hSf (by rw [h]; exact hbf))).trans e
  · exact (Heap.get?_update_other _ _ (Ne.symm (Nat.ne_of_lt hl))).trans (hk' b o hb (Heap.get?_push_of_some _ e))
  · exact hQ v' h'' tk'' hP' fun b o hbw e => hk'' b o hbw (Nat.ne_of_lt (Heap.lt_size e)) ((Heap.get?_update_other _ _ (Ne.symm (Nat.ne_of_lt (Heap.lt_size e)))).trans (hk' b o hbw (Heap.get?_push_of_some _ e)))
end
/-- the values vs are the pairs ps, which lie in h -/
def Prs (h : Heap) (vs : List Value) (ps : List (Int × Int)) : Prop := vs.length = ps.length ∧ ∀ (i : Nat) (v : Value) (p : Int × Int), vs[i]? = some v → ps[i]? = some p → ∃ T t u, v = .ref T ∧ IsTup h T #[.int p.1 t, .int p.2 u]
theorem Prs.keeps {h h' : Heap} {vs : List Value} {ps : List (Int × Int)} (x : Prs h vs ps) (k : ∀ b o, h.get? b = some o → h'.get? b = some o) : Prs h' vs ps :=
  ⟨x.1, fun i v p hv hp => let ⟨T, t, u, e, q⟩ := x.2 i v p hv hp; ⟨T, t, u, e, q.keeps k⟩⟩
theorem at_getD {α : Type} {l : List α} {i : Nat} {d : α} (h : i < l.length) : l[i]? = some (l.getD i d) := by simp [h]
theorem lexGt_iff {a b : Int × Int} : lexGt a b = true ↔ (a.1 > b.1 ∨ (a.1 = b.1 ∧ a.2 > b.2)) := by
  unfold lexGt
  split
  · rw [decide_eq_true_iff]; omega
  · rw [decide_eq_true_iff]; omega
theorem argBest_top (f : Nat → Int × Int) : ∀ k, argBest (fun i j => lexGt (f i) (f j)) k ≤ k ∧ ∀ j ≤ k, (f j).1 < (f (argBest (fun i j => lexGt (f i) (f j)) k)).1 ∨ ((f j).1 = (f (argBest (fun i j => lexGt (f i) (f j)) k)).1 ∧ (f j).2 ≤ (f (argBest (fun i j => lexGt (f i) (f j)) k)).2)
  | 0 => ⟨Nat.le_refl _, fun j hj => by rw [Nat.le_zero.mp hj]; exact .inr ⟨rfl, Int.le_refl _⟩⟩
  | k + 1 => by
    obtain ⟨h1, h2⟩ := argBest_top f k
    by_cases hb : lexGt (f (k + 1)) (f (argBest (fun i j => lexGt (f i) (f j)) k)) = true
    · have e : argBest (fun i j => lexGt (f i) (f j)) (k + 1) = k + 1 := by simp only [argBest, hb, if_true]
      rw [e]
      refine ⟨Nat.le_refl _, fun j hj => ?_⟩
      rcases Nat.lt_or_eq_of_le hj with hj | hj
      · have := h2 j (Nat.le_of_lt_succ hj)
        have := lexGt_iff.mp hb
        omega
      · rw [hj]; exact .inr ⟨rfl, Int.le_refl _⟩
    · have hb' : lexGt (f (k + 1)) (f (argBest (fun i j => lexGt (f i) (f j)) k)) = false := by simpa using hb
      have e : argBest (fun i j => lexGt (f i) (f j)) (k + 1) = argBest (fun i j => lexGt (f i) (f j)) k := by simp only [argBest, hb', Bool.false_eq_true, if_false]
      rw [e]
      refine ⟨Nat.le_succ_of_le h1, fun j hj => ?_⟩
      rcases Nat.lt_or_eq_of_le hj with hj | hj
      · exact h2 j (Nat.le_of_lt_succ hj)
      · rw [hj]
        have := mt lexGt_iff.mpr hb
        omega
section
variable {prog : Program} {w : World} {A : Around} {E : Value → Shared → Prop} {s : Shared} {l : Addr} {vs : List Value} {ps : List (Int × Int)}
/-- the greatest of a list of pairs -/
theorem max_pairs {Q : Value → Shared → Prop} (hh : A.handled = none) (hu : A.units < cLine - 1) (hl : s.heap.IsList l vs.toArray) (hp : Prs s.heap vs ps) (hne : 0 < ps.length)
    (h : ∀ h' tk T p t u, (∀ b o, s.heap.get? b = some o → h'.get? b = some o) → p ∈ ps → (∀ q ∈ ps, q.1 < p.1 ∨ (q.1 = p.1 ∧ q.2 ≤ p.2)) → IsTup h' T #[.int p.1 t, .int p.2 u] → Q (.ref T) { s with heap := h', toks := tk }) :
    wpAny (model prog w) A (call (.builtin "max") [.ref l]) Q E s := by
  have hlt : l < s.heap.objs.size := by obtain ⟨_, e, _⟩ := hl; exact Heap.lt_size e
  refine mx_call (wpAny_pyIter_list hl ?_)
  have up : ∀ b o, s.heap.get? b = some o → (s.heap.push { cls := .type "list_iterator", data := .fields #[.ref l, .int 0 0] }).get? b = some o := fun b o e => Heap.get?_push_of_some _ e
  refine ⟨_, _, _, _, _, _, fun i j => lexGt (ps.getD i (0, 0)) (ps.getD j (0, 0)), fun h => (∀ b o, s.heap.get? b = some o → h.get? b = some o), rfl, Walks.list (A := A.in1) hh s.heap.objs.size l (Nat.ne_of_lt hlt) vs.toArray,
    ⟨⟨_, Heap.get?_push_size _ rfl, rfl, rfl⟩, hl.push _⟩, fun b hb => ?_, by simpa [hp.1] using hne, up, fun h₁ h₂ g k b o e => k b o (fun hm => ?_) ?_ (g b o e), fun i j vi vj s' Q' E' g hi hj hq => ?_, fun v h' tk hP hk => ?_⟩
  · show b < (s.heap.push _).objs.size
    rw [Heap.size_push]
    rcases List.mem_cons.mp hb with rfl | hb
    · exact Nat.lt_succ_self _
    · rw [List.mem_singleton.mp hb]; exact Nat.lt_succ_of_lt hlt
  · exact absurd (Heap.lt_size e) (by rw [List.mem_singleton.mp hm]; exact Nat.lt_irrefl _)
  · show b < (s.heap.push _).objs.size
    rw [Heap.size_push]; exact Nat.lt_succ_of_lt (Heap.lt_size e)
  · have hi' : vs[i]? = some vi := by simpa using hi
    have hj' : vs[j]? = some vj := by simpa using hj
    have li : i < ps.length := by rw [← hp.1]; exact (List.getElem?_eq_some_iff.mp hi').1
    have lj : j < ps.length := by rw [← hp.1]; exact (List.getElem?_eq_some_iff.mp hj').1
    have ei : ps[i]? = some (ps.getD i (0, 0)) := at_getD li
    have ej : ps[j]? = some (ps.getD j (0, 0)) := at_getD lj
    obtain ⟨T, t1, t2, rfl, hT⟩ := (hp.keeps g).2 i vi _ hi' ei
    obtain ⟨U, u1, u2, rfl, hU⟩ := (hp.keeps g).2 j vj _ hj' ej
    exact pair_gt (by show A.units + 1 < cLine; omega) hT hU hq
  · have hv : vs[argBest (fun i j => lexGt (ps.getD i (0, 0)) (ps.getD j (0, 0))) (vs.length - 1)]? = some v := by simpa using hP
    obtain ⟨b1, b2⟩ := argBest_top (fun i => ps.getD i (0, 0)) (vs.length - 1)
    have lb : argBest (fun i j => lexGt (ps.getD i (0, 0)) (ps.getD j (0, 0))) (vs.length - 1) < ps.length := by rw [← hp.1]; exact (List.getElem?_eq_some_iff.mp hv).1
    have eb : ps[argBest (fun i j => lexGt (ps.getD i (0, 0)) (ps.getD j (0, 0))) (vs.length - 1)]? = some (ps.getD (argBest (fun i j => lexGt (ps.getD i (0, 0)) (ps.getD j (0, 0))) (vs.length - 1)) (0, 0)) := at_getD lb
    have old : ∀ b o, s.heap.get? b = some o → h'.get? b = some o := fun b o e => hk b o (fun hm => absurd (Heap.lt_size e) (by rw [List.mem_singleton.mp hm]; exact Nat.lt_irrefl _)) (up b o e)
    obtain ⟨T, t, u, rfl, hT⟩ := (hp.keeps old).2 _ v _ hv eb
    refine h h' tk T _ t u old (List.mem_of_getElem? eb) (fun q hq => ?_) hT
    obtain ⟨j, hj, rfl⟩ := List.getElem_of_mem hq
    have := b2 j (by rw [hp.1]; omega)
    rw [show ps.getD j (0, 0) = ps[j] from by simp [hj]] at this
    exact this
end
theorem idx_le : ∀ {l : List Int} {i : Nat} {k : Int} (h : i < l.length), l[i] = k → l.idxOf k ≤ i
  | a :: l, 0, k, _, e => by
    have e' : a = k := e
    rw [List.idxOf_cons, beq_iff_eq.mpr e']; exact Nat.le_refl _
  | a :: l, i + 1, k, h, e => by
    rw [List.idxOf_cons]
    have := idx_le (l := l) (i := i) (Nat.lt_of_succ_lt_succ h) e
    cases (a == k) <;> simp only [cond_true, cond_false] <;> omega
theorem int_eq {ws : List Value} {xs : List Int} (h : IntsAre ws xs) (k : Int) (t : Tok) : ∀ y, y ∈ ws → MeetsSeq.EqGives y (.int k t) (isInt k y) := by
  induction h with
  | nil => intro y hy; cases hy
  | cons a u _ ih =>
    intro y hy
    rcases List.mem_cons.mp hy with rfl | hy
    · exact MeetsSeq.EqGives.int a k u t
    · exact ih y hy
section
variable {prog : Program} {w : World} {A : Around} {E : Value → Shared → Prop} {s : Shared} {h₀ : Heap} {L D : Addr} {news : List (Addr × Obj)} {ws : List Value} {xs : List Int} {n : Nat}
theorem index_ints {k : Int} {t : Tok} {Q : Value → Shared → Prop} (N : News h₀ L s.heap news) (hm : (D, W.listOf ws.toArray n) ∈ news) (hi : IntsAre ws xs) (hk : (xs.any fun x => x == k) = true) (hz : xs.length ≤ 1000)
    (h : Q (.int (xs.idxOf k : Int) s.toks) { s with toks := s.toks + 1 }) : wpAny (model prog w) A (call (.builtin "list.index") [.ref D, .int k t]) Q E s := by
  have hkm : k ∈ xs := by
    obtain ⟨x, hx, e⟩ := List.any_eq_true.mp hk
    rw [← (beq_iff_eq.mp e : x = k)]; exact hx
  have hlt := List.idxOf_lt_length_iff.mpr hkm
  have hl := hi.length
  have at_ : ∀ i (hi' : i < ws.toArray.size), isInt k ws.toArray[i] = (xs.getD i 0 == k) := fun i hi' => by
    have hi2 : i < xs.length := by rw [List.size_toArray] at hi'; omega
    obtain ⟨u, hu⟩ := hi.get i xs[i] (by simp [hi2])
    have hi3 : i < ws.length := by omega
    have : ws[i] = .int xs[i] u := by
      have := List.getElem?_eq_getElem hi3
      rw [hu] at this; exact (Option.some.inj this).symm
    simp only [List.getElem_toArray, this, isInt]
    simp [hi2]
  refine call_meets PySem.F.slot_list_index ⟨_, (N _ hm).1, rfl⟩ PySem.F.entry_list_index (PySem.F.args_list_index_2 _ _)
    (MeetsSeq.list_index D ws.toArray n (.int k t) (isInt k) (fun y hy => int_eq hi k t y (by simpa using hy)) (xs.idxOf k) (by rw [List.size_toArray]; omega) (by omega) ?_ (fun i hi' hlt' => ?_)) ⟨(N _ hm).1, h⟩
  · rw [at_ _ (by rw [List.size_toArray]; omega)]
    simp [hlt, List.getElem_idxOf hlt]
  · rw [at_ i hi']
    have hi2 : i < xs.length := by rw [List.size_toArray] at hi'; omega
    have : xs[i] ≠ k := fun e => by
      have : i ∈ List.range xs.length := by simpa using hi2
      have := idx_le hi2 e
      omega
    simp [hi2, this]
end
end Mine
end
section
/-! Plain law for bb0016-02: Belady's row of loads is a lower bound; stretches. -/
namespace Mine
open List

theorem nodup_sub_len {α : Type} [DecidableEq α] : ∀ {l₁ l₂ : List α}, l₁.Nodup → (∀ x ∈ l₁, x ∈ l₂) → l₁.length ≤ l₂.length
  | [], _, _, _ => Nat.zero_le _
  | a :: l, l₂, hn, hs => by
    have ha : a ∈ l₂ := hs a (.head _)
    have hn' := List.nodup_cons.mp hn
    have : l.length ≤ (l₂.erase a).length := nodup_sub_len hn'.2 fun x hx => by
      have hne : x ≠ a := fun e => hn'.1 (e ▸ hx)
      exact (List.mem_erase_of_ne hne).mpr (hs x (.tail _ hx))
    have h2 := List.length_erase_of_mem ha
    have h3 : 0 < l₂.length := List.length_pos_of_mem ha
    simp only [List.length_cons]
    omega

def cnt (X S : List Int) : Nat := X.countP fun x => decide (x ∈ S)
def cn2 (k : Int) (X S : List Int) : Nat := X.countP fun x => decide (x ≠ k ∧ x ∈ S)

theorem cnt_cons (k : Int) (S : List Int) : ∀ {X : List Int}, X.Nodup → cnt X (k :: S) = (if k ∈ X then 1 else 0) + cn2 k X S
  | [], _ => by simp [cnt, cn2]
  | a :: X, hn => by
    have hn' := List.nodup_cons.mp hn
    have ih := cnt_cons k S hn'.2
    unfold cnt cn2 at *
    rw [List.countP_cons, List.countP_cons, ih]
    by_cases e : a = k
    · subst e
      simp [hn'.1]
      omega
    · have e' : ¬ k = a := fun q => e q.symm
      simp [e, e']
      omega
theorem cnt_same (k : Int) (S : List Int) : ∀ {X : List Int}, X.Nodup → cnt X S = (if k ∈ X ∧ k ∈ S then 1 else 0) + cn2 k X S
  | [], _ => by simp [cnt, cn2]
  | a :: X, hn => by
    have hn' := List.nodup_cons.mp hn
    have ih := cnt_same k S hn'.2
    unfold cnt cn2 at *
    rw [List.countP_cons, List.countP_cons, ih]
    by_cases e : a = k
    · subst e
      by_cases hs : a ∈ S <;> simp [hn'.1, hs]
      omega
    · have e' : ¬ k = a := fun q => e q.symm
      by_cases hk : k ∈ X <;> by_cases hs : k ∈ S <;> simp [e, e', hk, hs] <;> omega
theorem cn2_sub {k : Int} {S X Y : List Int} (hn : X.Nodup) (hs : ∀ x ∈ X, x ∈ Y ∨ x = k) : cn2 k X S ≤ cn2 k Y S := by
  unfold cn2
  rw [List.countP_eq_length_filter, List.countP_eq_length_filter]
  refine nodup_sub_len (hn.sublist List.filter_sublist) fun x hx => ?_
  have h := List.mem_filter.mp hx
  have h2 : x ≠ k ∧ x ∈ S := by simpa using h.2
  refine List.mem_filter.mpr ⟨(hs x h.1).resolve_right h2.1, h.2⟩
theorem cn2_lt {k : Int} {S X : List Int} (hk : k ∈ X) : cn2 k X S + 1 ≤ X.length := by
  have h1 : cn2 k X S ≤ cn2 k (X.erase k) S + 0 := by
    unfold cn2
    have := (List.perm_cons_erase hk).countP_eq (fun x => decide (x ≠ k ∧ x ∈ S))
    rw [this, List.countP_cons]
    simp
  have h2 : cn2 k (X.erase k) S ≤ (X.erase k).length := List.countP_le_length
  have h3 := List.length_erase_of_mem hk
  have h4 := List.length_pos_of_mem hk
  omega

/-- one step of any cache: what is held after the ask of k -/
structure Pol (room : Nat) (k : Int) (P P' : List Int) : Prop where
  nodup : P'.Nodup
  has : k ∈ P'
  len : P'.length ≤ room
  sub : ∀ x ∈ P', x ∈ P ∨ x = k
/-- the best way's step where it must load -/
structure Far (room : Nat) (k : Int) (rest B B' : List Int) : Prop where
  nodup : B'.Nodup
  has : k ∈ B'
  len : B'.length ≤ room
  keep : ∀ t, (∀ x ∈ B, x ≠ k → x ∈ rest.take t → x ∈ B') ∨ (B'.length = room ∧ ∀ x ∈ B', x = k ∨ x ∈ rest.take t)

theorem cn2_full {k : Int} {S X : List Int} (hk : k ∈ X) (hn : X.Nodup) (h : ∀ x ∈ X, x = k ∨ x ∈ S) : cn2 k X S + 1 = X.length := by
  have h1 : cn2 k X S = cn2 k (X.erase k) S := by
    unfold cn2
    have := (List.perm_cons_erase hk).countP_eq (fun x => decide (x ≠ k ∧ x ∈ S))
    rw [this, List.countP_cons]
    simp
  have h2 : cn2 k (X.erase k) S = (X.erase k).length := by
    unfold cn2
    rw [List.countP_eq_length]
    intro x hx
    have hx' := (List.Nodup.mem_erase_iff hn).mp hx
    have := (h x hx'.2).resolve_left hx'.1
    simp [hx'.1, this]
  have h3 := List.length_erase_of_mem hk
  have h4 := List.length_pos_of_mem hk
  omega

theorem bel_step {room d c : Nat} {k : Int} {rest B B' P P' : List Int} (hB : B.Nodup) (hP : P.Nodup) (pol : Pol room k P P')
    (hD : ∀ t, cnt P ((k :: rest).take t) ≤ cnt B ((k :: rest).take t) + d)
    (far : (k ∈ B ∧ (∀ x, x ∈ B' ↔ x ∈ B) ∧ B'.Nodup ∧ c = 0) ∨ (k ∉ B ∧ Far room k rest B B' ∧ c = 1)) :
    ∃ d', c + d' ≤ (if k ∈ P then 0 else 1) + d ∧ ∀ t, cnt P' (rest.take t) ≤ cnt B' (rest.take t) + d' := by
  have hD' : ∀ t, (if k ∈ P then 1 else 0) + cn2 k P (rest.take t) ≤ (if k ∈ B then 1 else 0) + cn2 k B (rest.take t) + d := fun t => by
    have := hD (t + 1)
    rw [List.take_succ_cons, cnt_cons k _ hP, cnt_cons k _ hB] at this
    exact this
  have hP' : ∀ t, cn2 k P' (rest.take t) ≤ cn2 k P (rest.take t) := fun t => cn2_sub pol.nodup pol.sub
  have hl : ∀ t, cn2 k P' (rest.take t) + 1 ≤ room := fun t => Nat.le_trans (cn2_lt pol.has) pol.len
  rcases far with ⟨hk, hs, hn, rfl⟩ | ⟨hk, far, rfl⟩
  · have hB' : ∀ t, cn2 k B (rest.take t) ≤ cn2 k B' (rest.take t) := fun t => cn2_sub hB fun x hx => .inl ((hs x).mpr hx)
    have hk' : k ∈ B' := (hs k).mpr hk
    by_cases hp : k ∈ P
    · refine ⟨d, by simp [hp], fun t => ?_⟩
      have h1 := hD' t; have h2 := hP' t; have h3 := hB' t
      rw [cnt_same k _ pol.nodup, cnt_same k _ hn]
      simp only [pol.has, hk', hp, hk, if_true, true_and] at *
      omega
    · refine ⟨d + 1, by simp [hp]; omega, fun t => ?_⟩
      have h1 := hD' t; have h2 := hP' t; have h3 := hB' t
      rw [cnt_same k _ pol.nodup, cnt_same k _ hn]
      simp only [pol.has, hk', hp, hk, if_true, if_false, true_and] at *
      omega
  · have key : ∀ t, cn2 k B (rest.take t) ≤ cn2 k B' (rest.take t) ∨ cn2 k B' (rest.take t) + 1 = room := fun t => by
      rcases far.keep t with h | ⟨h1, h2⟩
      · left
        unfold cn2
        rw [List.countP_eq_length_filter, List.countP_eq_length_filter]
        refine nodup_sub_len (hB.sublist List.filter_sublist) fun x hx => ?_
        have h' := List.mem_filter.mp hx
        have h2 : x ≠ k ∧ x ∈ rest.take t := by simpa using h'.2
        exact List.mem_filter.mpr ⟨h x h'.1 h2.1 h2.2, h'.2⟩
      · right
        rw [cn2_full far.has far.nodup h2, h1]
    by_cases hp : k ∈ P
    · have h0 := hD' 0
      simp only [List.take_zero, hp, hk, if_true, if_false] at h0
      have e0 : ∀ X, cn2 k X [] = 0 := fun X => by unfold cn2; simp
      rw [e0, e0] at h0
      refine ⟨d - 1, by simp [hp]; omega, fun t => ?_⟩
      have h1 := hD' t; have h2 := hP' t; have h3 := key t; have h4 := hl t
      rw [cnt_same k _ pol.nodup, cnt_same k _ far.nodup]
      simp only [pol.has, far.has, hp, hk, if_true, if_false, true_and] at *
      omega
    · refine ⟨d, by simp [hp], fun t => ?_⟩
      have h1 := hD' t; have h2 := hP' t; have h3 := key t; have h4 := hl t
      rw [cnt_same k _ pol.nodup, cnt_same k _ far.nodup]
      simp only [pol.has, far.has, hp, hk, if_true, if_false, true_and] at *
      omega

end Mine
end
section
/-! Plain law for bb0016-02, second part: the runs of the two caches, and the stretches. -/
namespace Mine
open List

/-- the best way's states -/
inductive BelTo (room : Nat) (row : List Int) : Nat → List Int → Nat → Prop
  | zero : BelTo room row 0 [] 0
  | hit {i c k B} : BelTo room row i B c → row[i]? = some k → k ∈ B → BelTo room row (i + 1) B c
  | load {i c k B B'} : BelTo room row i B c → row[i]? = some k → k ∉ B → Far room k (row.drop (i + 1)) B B' → BelTo room row (i + 1) B' (c + 1)
/-- a cache's states -/
inductive PolTo (room : Nat) (row : List Int) : Nat → List Int → Nat → Prop
  | zero : PolTo room row 0 [] 0
  | hit {i c k P P'} : PolTo room row i P c → row[i]? = some k → k ∈ P → Pol room k P P' → PolTo room row (i + 1) P' c
  | load {i c k P P'} : PolTo room row i P c → row[i]? = some k → k ∉ P → Pol room k P P' → PolTo room row (i + 1) P' (c + 1)

theorem BelTo.nodup {room : Nat} {row : List Int} {i c : Nat} {B : List Int} (h : BelTo room row i B c) : B.Nodup := by
  induction h with
  | zero => exact List.nodup_nil
  | hit _ _ _ ih => exact ih
  | load _ _ _ f _ => exact f.nodup
theorem BelTo.len {room : Nat} {row : List Int} {i c : Nat} {B : List Int} (h : BelTo room row i B c) : B.length ≤ room := by
  induction h with
  | zero => exact Nat.zero_le _
  | hit _ _ _ ih => exact ih
  | load _ _ _ f _ => exact f.len
theorem PolTo.nodup {room : Nat} {row : List Int} {i c : Nat} {B : List Int} (h : PolTo room row i B c) : B.Nodup := by
  cases h with
  | zero => exact List.nodup_nil
  | hit _ _ _ f => exact f.nodup
  | load _ _ _ f => exact f.nodup

theorem drop_at {row : List Int} {i : Nat} {k : Int} (h : row[i]? = some k) : row.drop i = k :: row.drop (i + 1) := by
  obtain ⟨hl, e⟩ := List.getElem?_eq_some_iff.mp h
  rw [List.drop_eq_getElem_cons hl, e]

theorem bel_le {room : Nat} {row : List Int} : ∀ {i c l : Nat} {B P : List Int}, BelTo room row i B c → PolTo room row i P l →
    ∃ d, c + d ≤ l ∧ ∀ t, cnt P ((row.drop i).take t) ≤ cnt B ((row.drop i).take t) + d
  | 0, _, _, _, _, .zero, .zero => ⟨0, Nat.le_refl _, fun _ => Nat.le_refl _⟩
  | i + 1, _, _, _, _, hB, hP => by
    have key : ∀ {c₀ l₀ : Nat} {k : Int} {B₀ B' P₀ P' : List Int} {cc pp : Nat}, BelTo room row i B₀ c₀ → PolTo room row i P₀ l₀ → row[i]? = some k → Pol room k P₀ P' → (pp = if k ∈ P₀ then 0 else 1) →
        ((k ∈ B₀ ∧ (∀ x, x ∈ B' ↔ x ∈ B₀) ∧ B'.Nodup ∧ cc = 0) ∨ (k ∉ B₀ ∧ Far room k (row.drop (i + 1)) B₀ B' ∧ cc = 1)) →
        ∃ d, c₀ + cc + d ≤ l₀ + pp ∧ ∀ t, cnt P' ((row.drop (i + 1)).take t) ≤ cnt B' ((row.drop (i + 1)).take t) + d := by
      intro c₀ l₀ k B₀ B' P₀ P' cc pp b p hk pol hpp far
      obtain ⟨d, h1, h2⟩ := bel_le b p
      obtain ⟨d', h3, h4⟩ := bel_step b.nodup p.nodup pol (d := d) (rest := row.drop (i + 1)) (fun t => by rw [← drop_at hk]; exact h2 t) far
      exact ⟨d', by omega, h4⟩
    cases hB with
    | hit b hk hm =>
      have hn := b.nodup
      cases hP with
      | hit p hk' hm' pol =>
        cases hk.symm.trans hk'
        exact key (pp := 0) b p hk pol (by simp [hm']) (.inl ⟨hm, fun _ => Iff.rfl, hn, rfl⟩)
      | load p hk' hm' pol =>
        cases hk.symm.trans hk'
        exact key (pp := 1) b p hk pol (by simp [hm']) (.inl ⟨hm, fun _ => Iff.rfl, hn, rfl⟩)
    | load b hk hm far =>
      cases hP with
      | hit p hk' hm' pol =>
        cases hk.symm.trans hk'
        exact key (pp := 0) b p hk pol (by simp [hm']) (.inr ⟨hm, far, rfl⟩)
      | load p hk' hm' pol =>
        cases hk.symm.trans hk'
        exact key (pp := 1) b p hk pol (by simp [hm']) (.inr ⟨hm, far, rfl⟩)

theorem best_le {room : Nat} {row : List Int} {i c l : Nat} {B P : List Int} (b : BelTo room row i B c) (p : PolTo room row i P l) : c ≤ l := by
  obtain ⟨d, h, _⟩ := bel_le b p
  omega

/-! stretches -/
def Wide (room : Nat) (row : List Int) (p e : Nat) : Prop := ∃ s : List Int, s.Nodup ∧ room < s.length ∧ ∀ x ∈ s, ∃ j, p ≤ j ∧ j < e ∧ row[j]? = some x
theorem Wide.mono {room : Nat} {row : List Int} {p e e' : Nat} (h : Wide room row p e) (he : e ≤ e') : Wide room row p e' := by
  obtain ⟨s, a, b, c⟩ := h
  exact ⟨s, a, b, fun x hx => let ⟨j, h1, h2, h3⟩ := c x hx; ⟨j, h1, Nat.lt_of_lt_of_le h2 he, h3⟩⟩
def Stands (room : Nat) (row : List Int) (t : Nat) (ord : List Int) (p : Nat) : Prop :=
  p < t ∧ ∃ x, row[p]? = some x ∧ ((∃ u v, ord = u ++ x :: v ∧ ∀ y ∈ v, ∃ j, p ≤ j ∧ j < t ∧ row[j]? = some y) ∨ Wide room row p t)
structure Ldd (room : Nat) (row : List Int) (t : Nat) (ord : List Int) (loads : List Nat) : Prop where
  st : ∀ p ∈ loads, Stands room row t ord p
  apart : ∀ p ∈ loads, ∀ e ∈ loads, p < e → row[p]? = row[e]? → Wide room row p e
theorem Ldd.zero {room : Nat} {row : List Int} : Ldd room row 0 [] [] := ⟨fun _ h => (nomatch h), fun _ h => (nomatch h)⟩
theorem after_mono {row : List Int} {p t : Nat} {v : List Int} (h : ∀ y ∈ v, ∃ j, p ≤ j ∧ j < t ∧ row[j]? = some y) : ∀ y ∈ v, ∃ j, p ≤ j ∧ j < t + 1 ∧ row[j]? = some y :=
  fun y hy => let ⟨j, h1, h2, h3⟩ := h y hy; ⟨j, h1, Nat.lt_succ_of_lt h2, h3⟩
theorem Ldd.stay {room : Nat} {row : List Int} {t : Nat} {ord : List Int} {loads : List Nat} (h : Ldd room row t ord loads) : Ldd room row (t + 1) ord loads := by
  refine ⟨fun p hp => ?_, h.apart⟩
  · skip
    obtain ⟨h1, x, hx, h2⟩ := h.st p hp
    refine ⟨Nat.lt_succ_of_lt h1, x, hx, ?_⟩
    rcases h2 with ⟨u, v, e, hv⟩ | w
    · exact .inl ⟨u, v, e, after_mono hv⟩
    · exact .inr (w.mono (Nat.le_succ _))
theorem Ldd.touch {room : Nat} {row : List Int} {t : Nat} {ord : List Int} {loads : List Nat} {k : Int} (h : Ldd room row t ord loads) (hk : row[t]? = some k) (hm : k ∈ ord) : Ldd room row (t + 1) (ord.erase k ++ [k]) loads := by
  refine ⟨fun p hp => ?_, h.apart⟩
  · skip
    obtain ⟨h1, x, hx, h2⟩ := h.st p hp
    refine ⟨Nat.lt_succ_of_lt h1, x, hx, ?_⟩
    rcases h2 with ⟨u, v, e, hv⟩ | w
    · left
      subst e
      have last : ∃ j, p ≤ j ∧ j < t + 1 ∧ row[j]? = some k := ⟨t, Nat.le_of_lt h1, Nat.lt_succ_self _, hk⟩
      by_cases hu : k ∈ u
      · rw [List.erase_append_left _ hu]
        refine ⟨u.erase k, v ++ [k], by simp, fun y hy => ?_⟩
        rcases List.mem_append.mp hy with hy | hy
        · exact after_mono hv y hy
        · rw [List.mem_singleton.mp hy]; exact last
      · rw [List.erase_append_right _ hu]
        by_cases hxk : x = k
        · subst hxk
          rw [List.erase_cons_head]
          exact ⟨u ++ v, [], by simp, fun _ hy => nomatch hy⟩
        · rw [List.erase_cons_tail (by simpa using hxk)]
          refine ⟨u, v.erase k ++ [k], by simp, fun y hy => ?_⟩
          rcases List.mem_append.mp hy with hy | hy
          · exact after_mono hv y (List.mem_of_mem_erase hy)
          · rw [List.mem_singleton.mp hy]; exact last
    · exact .inr (w.mono (Nat.le_succ _))
theorem Ldd.load {room : Nat} {row : List Int} {t : Nat} {ord : List Int} {loads : List Nat} {k : Int} (h : Ldd room row t ord loads) (hn : ord.Nodup) (_hl : ord.length ≤ room) (hk : row[t]? = some k) (hm : k ∉ ord) :
    Ldd room row (t + 1) ((if ord.length = room then ord.tail else ord) ++ [k]) (loads ++ [t]) := by
  have last : ∀ p, p ≤ t → ∃ j, p ≤ j ∧ j < t + 1 ∧ row[j]? = some k := fun p hp => ⟨t, hp, Nat.lt_succ_self _, hk⟩
  refine ⟨fun p hp => ?_, fun p hp e he hlt heq => ?_⟩
  · rcases List.mem_append.mp hp with hp | hp
    · obtain ⟨h1, x, hx, h2⟩ := h.st p hp
      refine ⟨Nat.lt_succ_of_lt h1, x, hx, ?_⟩
      rcases h2 with ⟨u, v, e, hv⟩ | w
      · by_cases hfull : ord.length = room
        · rw [if_pos hfull]
          cases u with
          | nil =>
            right
            have e' : ord = x :: v := e
            refine ⟨ord ++ [k], ?_, by simp; omega, fun y hy => ?_⟩
            · rw [List.nodup_append]
              refine ⟨hn, by simp, fun a ha b hb => ?_⟩
              rw [List.mem_singleton.mp hb]
              exact fun q => hm (q ▸ ha)
            · rcases List.mem_append.mp hy with hy | hy
              · rw [e'] at hy
                rcases List.mem_cons.mp hy with rfl | hy
                · exact ⟨p, Nat.le_refl _, Nat.lt_succ_of_lt h1, hx⟩
                · exact after_mono hv y hy
              · rw [List.mem_singleton.mp hy]; exact last p (Nat.le_of_lt h1)
          | cons a u =>
            left
            refine ⟨u, v ++ [k], by rw [e]; simp, fun y hy => ?_⟩
            rcases List.mem_append.mp hy with hy | hy
            · exact after_mono hv y hy
            · rw [List.mem_singleton.mp hy]; exact last p (Nat.le_of_lt h1)
        · rw [if_neg hfull]
          left
          refine ⟨u, v ++ [k], by rw [e]; simp, fun y hy => ?_⟩
          rcases List.mem_append.mp hy with hy | hy
          · exact after_mono hv y hy
          · rw [List.mem_singleton.mp hy]; exact last p (Nat.le_of_lt h1)
      · exact .inr (w.mono (Nat.le_succ _))
    · rw [List.mem_singleton.mp hp]
      exact ⟨Nat.lt_succ_self _, k, hk, .inl ⟨_, [], rfl, fun _ hy => nomatch hy⟩⟩
  · have fresh : ∀ p ∈ loads, row[p]? = some k → Wide room row p t := fun p hp hpk => by
      obtain ⟨h1, x, hx, h2⟩ := h.st p hp
      rcases h2 with ⟨u, v, e, _⟩ | w
      · exfalso
        cases hx.symm.trans hpk
        exact hm (by rw [e]; simp)
      · exact w
    rcases List.mem_append.mp hp with hp | hp
    · rcases List.mem_append.mp he with he | he
      · exact h.apart p hp e he hlt heq
      · rw [List.mem_singleton.mp he] at heq ⊢
        exact fresh p hp (heq.trans hk)
    · rw [List.mem_singleton.mp hp] at hlt
      rcases List.mem_append.mp he with he | he
      · have := (h.st e he).1; omega
      · rw [List.mem_singleton.mp he] at hlt; omega

/-- the end of a turn of the inner check: a key loaded twice in a stretch makes the stretch wide -/
theorem stretch_no {room : Nat} {row S : List Int} {t b e p : Nat} {ord : List Int} {loads : List Nat} {k : Int} (h : Ldd room row t ord loads) (hp : p ∈ loads) (he : e ∈ loads) (hb : b ≤ p) (hlt : p < e)
    (hpk : row[p]? = some k) (hek : row[e]? = some k) (hS : ∀ j x, b ≤ j → j < e → row[j]? = some x → x ∈ S) : room < S.length := by
  obtain ⟨s, hn, hl, hs⟩ := h.apart p hp e he hlt (hpk.trans hek.symm)
  have := nodup_sub_len hn fun x hx => let ⟨j, h1, h2, h3⟩ := hs x hx; hS j x (Nat.le_trans hb h1) h2 h3
  omega

/-- the caches' own step -/
theorem pol_touch {room : Nat} {k : Int} {P : List Int} (hn : P.Nodup) (hl : P.length ≤ room) (hm : k ∈ P) : Pol room k P (P.erase k ++ [k]) := by
  have he := List.length_erase_of_mem hm
  have hp := List.length_pos_of_mem hm
  refine ⟨?_, by simp, by simp; omega, fun x hx => ?_⟩
  · rw [List.nodup_append]
    refine ⟨hn.sublist List.erase_sublist, by simp, fun a ha b hb => ?_⟩
    rw [List.mem_singleton.mp hb]
    exact ((List.Nodup.mem_erase_iff hn).mp ha).1
  · rcases List.mem_append.mp hx with hx | hx
    · exact .inl (List.mem_of_mem_erase hx)
    · exact .inr (List.mem_singleton.mp hx)
theorem pol_stay {room : Nat} {k : Int} {P : List Int} (hn : P.Nodup) (hl : P.length ≤ room) (hm : k ∈ P) : Pol room k P P := ⟨hn, hm, hl, fun _ hx => .inl hx⟩
theorem pol_load {room : Nat} {k : Int} {P : List Int} (hr : 0 < room) (hn : P.Nodup) (hl : P.length ≤ room) (hm : k ∉ P) : Pol room k P ((if P.length = room then P.tail else P) ++ [k]) := by
  have key : ∀ {R : List Int}, R.Nodup → (∀ x ∈ R, x ∈ P) → R.length < room → Pol room k P (R ++ [k]) := fun hR hs hlt => by
    refine ⟨?_, by simp, by simp; omega, fun x hx => ?_⟩
    · rw [List.nodup_append]
      refine ⟨hR, by simp, fun a ha b hb => ?_⟩
      rw [List.mem_singleton.mp hb]
      exact fun q => hm (q ▸ hs _ ha)
    · rcases List.mem_append.mp hx with hx | hx
      · exact .inl (hs x hx)
      · exact .inr (List.mem_singleton.mp hx)
  by_cases hf : P.length = room
  · rw [if_pos hf]
    refine key (hn.sublist (List.tail_sublist _)) (fun x hx => List.mem_of_mem_tail hx) ?_
    rw [List.length_tail]; omega
  · rw [if_neg hf]
    exact key hn (fun _ hx => hx) (by omega)
end Mine
end
section
/-! Plain law for bb0016-02, third part: the best way's step, as the program takes it. -/
namespace Mine
open List
/-- where x comes next, seen from i on; past the row's end where it comes no more -/
def nu (row : List Int) (i : Nat) (x : Int) : Int := if x ∈ row.drop i then ((row.drop i).idxOf x : Int) else (row.length : Int)
theorem nu_in {row : List Int} {i : Nat} {x : Int} (h : x ∈ row.drop i) : nu row i x = ((row.drop i).idxOf x : Int) := if_pos h
theorem nu_out {row : List Int} {i : Nat} {x : Int} (h : x ∉ row.drop i) : nu row i x = (row.length : Int) := if_neg h
theorem mem_take_of_idx {l : List Int} {x : Int} {t : Nat} (h : x ∈ l) (ht : l.idxOf x < t) : x ∈ l.take t := by
  have hl := List.idxOf_lt_length_iff.mpr h
  refine List.mem_take_iff_getElem.mpr ⟨l.idxOf x, by omega, ?_⟩
  exact List.getElem_idxOf hl
theorem idx_of_mem_take : ∀ {l : List Int} {x : Int} {t : Nat}, x ∈ l.take t → l.idxOf x < t
  | [], _, _, h => by simp at h
  | _ :: _, _, 0, h => by simp at h
  | a :: l, x, t + 1, h => by
    rw [List.idxOf_cons]
    by_cases hx : a = x
    · simp [hx]
    · have h' : x ∈ l.take t := by
        rw [List.take_succ_cons] at h
        exact (List.mem_cons.mp h).resolve_left fun q => hx q.symm
      have := idx_of_mem_take h'
      rw [beq_false_of_ne hx]
      simp only [cond_false]; omega
theorem near_ok {room i : Nat} {row B : List Int} {k : Int} (hB : B.Nodup) (hkB : k ∉ B) (hl : B.length < room) : Far room k (row.drop (i + 1)) B (B ++ [k]) := by
  refine ⟨?_, by simp, by simp; omega, fun t => .inl fun x hx _ _ => by simp [hx]⟩
  rw [List.nodup_append]
  refine ⟨hB, by simp, fun a ha b hb => ?_⟩
  rw [List.mem_singleton.mp hb]
  exact fun q => hkB (q ▸ ha)
theorem filter_ne_len {B : List Int} {M : Int} (hB : B.Nodup) (hM : M ∈ B) : (B.filter fun x => decide (x ≠ M)).length + 1 = B.length := by
  have e : (B.filter fun x => decide (x ≠ M)) = B.erase M := by
    rw [hB.erase_eq_filter]
    congr 1
    funext x
    by_cases h : x = M <;> simp [h]
  have := List.length_erase_of_mem hM
  have := List.length_pos_of_mem hM
  rw [e]; omega
theorem far_ok {room i : Nat} {row B : List Int} {k M : Int} (hk : row[i]? = some k) (hB : B.Nodup) (hkB : k ∉ B) (hl : B.length = room) (hM : M ∈ B)
    (hmax : ∀ x ∈ B, nu row i x < nu row i M ∨ (nu row i x = nu row i M ∧ x ≤ M)) : Far room k (row.drop (i + 1)) B (B.filter (fun x => decide (x ≠ M)) ++ [k]) := by
  have hd := drop_at hk
  have hlen := filter_ne_len hB hM
  refine ⟨?_, by simp, by simp at hlen ⊢; omega, fun t => ?_⟩
  · rw [List.nodup_append]
    refine ⟨hB.sublist List.filter_sublist, by simp, fun a ha b hb => ?_⟩
    rw [List.mem_singleton.mp hb]
    exact fun q => hkB (q ▸ (List.mem_filter.mp ha).1)
  · by_cases hMt : M ∈ (row.drop (i + 1)).take t
    · right
      refine ⟨by simp at hlen ⊢; omega, fun x hx => ?_⟩
      rcases List.mem_append.mp hx with hx | hx
      · right
        have hxB := (List.mem_filter.mp hx).1
        have hxk : x ≠ k := fun q => hkB (q ▸ hxB)
        have hMk : M ≠ k := fun q => hkB (q ▸ hM)
        have hMd : M ∈ row.drop i := by rw [hd]; exact List.mem_cons_of_mem _ (List.mem_of_mem_take hMt)
        have hMi : (row.drop i).idxOf M < t + 1 := idx_of_mem_take (by rw [hd, List.take_succ_cons]; exact List.mem_cons_of_mem _ hMt)
        have hML : (row.drop i).idxOf M < row.length := by
          have := List.idxOf_lt_length_iff.mpr hMd
          rw [List.length_drop] at this; omega
        have hle : nu row i x ≤ nu row i M := by
          rcases hmax x hxB with h | h
          · omega
          · omega
        rw [nu_in hMd] at hle
        by_cases hxd : x ∈ row.drop i
        · rw [nu_in hxd] at hle
          have := mem_take_of_idx hxd (t := t + 1) (by omega)
          rw [hd, List.take_succ_cons] at this
          exact (List.mem_cons.mp this).resolve_left hxk
        · rw [nu_out hxd] at hle; omega
      · exact .inl (List.mem_singleton.mp hx)
    · left
      intro x hx _ hxt
      refine List.mem_append_left _ (List.mem_filter.mpr ⟨hx, ?_⟩)
      have : x ≠ M := fun q => hMt (q ▸ hxt)
      simpa using this
end Mine
end
section
open PySem PySem.W PySem.Spec PySem.Calls PyProof.Rows
namespace Mine
section
variable {prog : Program} (KK : Params → Frag) (q : Program)
/-- the least number of loads -/
def BestSpec (fn : Addr) : Prop := ∀ {w : World} {s : Shared} {l : Addr} {vs : List Value} {n : Nat} {ns : List Int} {room : Int} {t : Tok} {base g : Heap} {fr : List Env} {gs mean mg mb lse} {R : Result → Shared → Prop},
  Below (arnd 400 400 fr gs) base fr g → (KK w.params).In g → Top q lse mean mg mb g → Fit g [(l, W.listOf vs.toArray n)] s.heap → IntsAre vs ns → ns.length ≤ 16 → 1 ≤ room → room ≤ 12 →
  (∀ h' tk best B t', Fit g [(l, W.listOf vs.toArray n)] h' → BelTo room.toNat ns ns.length B best → R (.ok (.ret (.int (best : Int) t'))) { s with heap := h', toks := tk }) →
  codeAny (model prog w) (arnd 400 400 fr gs) (.call (.ref fn) ⟨[.ref l, .int room t], []⟩) R s
end
abbrev pairObj (p : Int × Int) (t u : Tok) : Obj := { cls := .type "tuple", data := .seq #[.int p.1 t, .int p.2 u] }
/-- the values ys are the pairs ps, which lie in tups -/
def TupsOf (ys : List Value) (ps : List (Int × Int)) (tups : List (Addr × Obj)) : Prop :=
  ys.length = ps.length ∧ ∀ (i : Nat) (v : Value) (p : Int × Int), ys[i]? = some v → ps[i]? = some p → ∃ T t u, v = .ref T ∧ (T, pairObj p t u) ∈ tups
theorem TupsOf.nil : TupsOf [] [] [] := ⟨rfl, fun i v p h => by simp at h⟩
theorem TupsOf.snoc {ys : List Value} {ps : List (Int × Int)} {tups : List (Addr × Obj)} {T : Addr} {p : Int × Int} {t u : Tok} (x : TupsOf ys ps tups) : TupsOf (ys ++ [.ref T]) (ps ++ [p]) ((T, pairObj p t u) :: tups) := by
  refine ⟨by simp [x.1], fun i v q hv hq => ?_⟩
  by_cases hi : i < ys.length
  · rw [List.getElem?_append_left hi] at hv
    rw [List.getElem?_append_left (by rw [← x.1]; exact hi)] at hq
    obtain ⟨T', t', u', e, hm⟩ := x.2 i v q hv hq
    exact ⟨T', t', u', e, List.mem_cons_of_mem _ hm⟩
  · have hi' : i = ys.length := by
      have := (List.getElem?_eq_some_iff.mp hv).1
      simp at this; omega
    subst hi'
    rw [List.getElem?_concat_length] at hv
    rw [x.1, List.getElem?_concat_length] at hq
    cases hv; cases hq
    exact ⟨T, t, u, rfl, List.mem_cons_self⟩
theorem TupsOf.prs {ys : List Value} {ps : List (Int × Int)} {tups news : List (Addr × Obj)} {h₀ h : Heap} {L : Addr} (x : TupsOf ys ps tups) (N : News h₀ L h news) (hs : ∀ q ∈ tups, q ∈ news) : Prs h ys ps :=
  ⟨x.1, fun i v p hv hp => let ⟨T, t, u, e, hm⟩ := x.2 i v p hv hp; ⟨T, t, u, e, _, (N _ (hs _ hm)).1, rfl, 0, rfl⟩⟩
theorem take_map {B : List Int} {j : Nat} (f : Int → Int × Int) (h : j < B.length) : (B.take (j + 1)).map f = (B.take j).map f ++ [f (B.getD j 0)] := by
  rw [List.take_add_one, List.map_append]; simp [h]
theorem take_filter {B : List Int} {j : Nat} (f : Int → Bool) (h : j < B.length) : (B.take (j + 1)).filter f = (B.take j).filter f ++ (if f (B.getD j 0) = true then [B.getD j 0] else []) := by
  rw [List.take_add_one, List.filter_append]
  simp only [List.getElem?_eq_getElem h, Option.toList_some, List.getD_eq_getElem?_getD, Option.getD_some, List.filter_cons, List.filter_nil]
/-- of all that are held, the one that comes last -/
theorem farthest (row : List Int) (i : Nat) : ∀ {B : List Int}, B ≠ [] → ∃ M ∈ B, ∀ x ∈ B, nu row i x < nu row i M ∨ (nu row i x = nu row i M ∧ x ≤ M)
  | [], h => absurd rfl h
  | [a], _ => ⟨a, List.mem_cons_self, fun x hx => by rw [List.mem_singleton.mp hx]; exact .inr ⟨rfl, Int.le_refl _⟩⟩
  | a :: b :: r, _ => by
    obtain ⟨M, hM, hm⟩ := farthest row i (B := b :: r) (by simp)
    by_cases h : nu row i a < nu row i M ∨ (nu row i a = nu row i M ∧ a ≤ M)
    · refine ⟨M, List.mem_cons_of_mem _ hM, fun x hx => ?_⟩
      rcases List.mem_cons.mp hx with rfl | hx
      · exact h
      · exact hm x hx
    · refine ⟨a, List.mem_cons_self, fun x hx => ?_⟩
      rcases List.mem_cons.mp hx with rfl | hx
      · exact .inr ⟨rfl, Int.le_refl _⟩
      · have := hm x hx; omega
theorem nu_any {row : List Int} {i : Nat} {x : Int} (h : ((row.drop i).any fun y => y == x) = true) : nu row i x = ((row.drop i).idxOf x : Int) := by
  obtain ⟨z, hz, e⟩ := List.any_eq_true.mp h
  exact nu_in (by rw [← (beq_iff_eq.mp e : z = x)]; exact hz)
theorem nu_none {row : List Int} {i : Nat} {x : Int} (h : ((row.drop i).any fun y => y == x) = false) : nu row i x = (row.length : Int) := by
  refine nu_out fun hz => ?_
  rw [List.any_eq_false] at h
  exact h x hz (beq_self_eq_true x)
def FInv (base : List (Addr × Obj)) (c : Addr) (f : Nat → List (Int × Int)) (j : Nat) (ys : List Value) (news : List (Addr × Obj)) : Prop := ∃ tups, news = base ++ tups ∧ TupsOf ys (f j) tups ∧ ∀ q ∈ tups, @Ne Nat q.1 c
theorem FInv.zero {base : List (Addr × Obj)} {c : Addr} {f : Nat → List (Int × Int)} (h : f 0 = []) : FInv base c f 0 [] base := ⟨[], (List.append_nil _).symm, h ▸ TupsOf.nil, fun _ h => (nomatch h)⟩
theorem far_end {h₀ h' : Heap} {L I C D T : Addr} {m : Str → Option Value} {s₁ : Shared} {oI oC oD : Obj} {S : List (Addr × Obj) → Prop} {K : Value → List (Addr × Obj) → Prop} {tk j : Nat} {c : Addr} {all base tups : List (Addr × Obj)} {ys : List Value} {f : Nat → List (Int × Int)} {p : Int × Int} {t u : Tok}
    (F : Fr h₀ L h' m) (N : News h₀ L h' all) (hK : ∀ y n', FInv base c f (j + 1) (ys ++ [y]) n' → K y n') (hY : TupsOf ys (f j) tups) (hc : ∀ q ∈ tups, @Ne Nat q.1 c) (hTc : @Ne Nat T c) (hb : SubL ((I, oI) :: (C, oC) :: (D, oD) :: base) all) (ht : ∀ q ∈ tups, q ∈ all) (hT : (T, pairObj p t u) ∈ all)
    (off : LCg.Off3 I C D (base ++ tups)) (ne : (@Ne Nat T I) ∧ (@Ne Nat T C) ∧ (@Ne Nat T D)) (hS : ∀ n', S (base ++ n')) (hf : f (j + 1) = f j ++ [p]) :
    LCg.CompEnd h₀ L m s₁ I oI C oC D oD S K (.ref T) { s₁ with heap := h', toks := tk } :=
  keep_end (base := base) (tups := (T, pairObj p t u) :: tups) F N hb (fun q hq => by
    rcases List.mem_cons.mp hq with rfl | hq
    · exact hT
    · exact ht q hq) (off_snoc off ne) (hS _) (hK _ _ ⟨_, rfl, by rw [hf]; exact hY.snoc, fun q hq => by
    rcases List.mem_cons.mp hq with rfl | hq
    · exact hTc
    · exact hc q hq⟩)
def TInv (base : List (Addr × Obj)) (M : Int) (B : List Int) (j : Nat) (zs : List Value) (news : List (Addr × Obj)) : Prop := news = base ∧ IntsAre zs ((B.take j).filter fun x => decide (x ≠ M))
theorem TInv.zero {base : List (Addr × Obj)} {M : Int} {B : List Int} : TInv base M B 0 [] base := ⟨rfl, .nil⟩
theorem ints_snoc {vs : List Value} {ns : List Int} {k : Int} {t : Tok} (h : IntsAre vs ns) : IntsAre (vs ++ [.int k t]) (ns ++ [k]) := by
  induction h with
  | nil => exact .cons k t .nil
  | cons a u _ ih => exact .cons a u ih
theorem TInv.yes {base : List (Addr × Obj)} {M : Int} {B : List Int} {j : Nat} {zs : List Value} {t : Tok} (h : IntsAre zs ((B.take j).filter fun x => decide (x ≠ M))) (hj : j < B.length) (hne : B.getD j 0 ≠ M) : TInv base M B (j + 1) (zs ++ [.int (B.getD j 0) t]) base :=
  ⟨rfl, by rw [take_filter _ hj, if_pos (by simpa using hne)]; exact ints_snoc h⟩
theorem TInv.no {base : List (Addr × Obj)} {M : Int} {B : List Int} {j : Nat} {zs : List Value} (h : IntsAre zs ((B.take j).filter fun x => decide (x ≠ M))) (hj : j < B.length) (hne : B.getD j 0 = M) : TInv base M B (j + 1) zs base :=
  ⟨rfl, by rw [take_filter _ hj, if_neg (by simpa using hne), List.append_nil]; exact h⟩
theorem max_is {B row : List Int} {i : Nat} {M : Int} {p : Int × Int} (hp : p ∈ B.map fun x => (nu row i x, x)) (hm : ∀ q ∈ B.map fun x => (nu row i x, x), q.1 < p.1 ∨ (q.1 = p.1 ∧ q.2 ≤ p.2)) (hM : M ∈ B)
    (hx : ∀ x ∈ B, nu row i x < nu row i M ∨ (nu row i x = nu row i M ∧ x ≤ M)) : p.2 = M := by
  obtain ⟨x, hxB, rfl⟩ := List.mem_map.mp hp
  have h1 := hm (nu row i M, M) (List.mem_map.mpr ⟨M, hM, rfl⟩)
  have h2 := hx x hxB
  dsimp only at h1 ⊢
  omega
/-- ahead of a turn of the best way's loop -/
def BInv (L l : Addr) (lo : Obj) (room : Int) (tr : Tok) (ns : List Int) (i : Nat) (m : Str → Option Value) (news : List (Addr × Obj)) : Prop :=
  ∃ oF oP oR H hs hn B c tc vF vP, oF.data = .cell vF ∧ oP.data = .cell vP ∧ oR.data = .cell (some (.ref l)) ∧ IntsAre hs B ∧ BelTo room.toNat ns i B c ∧
    m (Str.ofString "held") = some (.ref H) ∧ m (Str.ofString "loads") = some (.int (c : Int) tc) ∧ m (Str.ofString "room") = some (.int room tr) ∧
    (@LT.lt Nat _ (L + 1 + 1 + 1) H ∧ @LT.lt Nat _ (L + 1 + 1) H ∧ @LT.lt Nat _ (L + 1) H ∧ @LT.lt Nat _ l H) ∧ news = [(L + 1 + 1 + 1, oF), (L + 1 + 1, oP), (L + 1, oR), (l, lo), (H, W.listOf hs.toArray hn)]
section
variable {L l H : Addr} {lo oF oP oR : Obj} {room : Int} {tr tc : Tok} {ns B : List Int} {i c hn : Nat} {m' : Str → Option Value} {all its : List (Addr × Obj)} {hs : List Value} {vF vP : Option Value} {K : (Str → Option Value) → List (Addr × Obj) → Prop}
theorem BInv.go (hK : ∀ m' n' n₀, SubL n₀ n' → BInv L l lo room tr ns i m' n₀ → K m' n') (held : m' (Str.ofString "held") = some (.ref H)) (loads : m' (Str.ofString "loads") = some (.int (c : Int) tc)) (rm : m' (Str.ofString "room") = some (.int room tr))
    (hF : (L + 1 + 1 + 1, oF) ∈ all) (dF : oF.data = .cell vF) (hP : (L + 1 + 1, oP) ∈ all) (dP : oP.data = .cell vP) (hR : (L + 1, oR) ∈ all) (dR : oR.data = .cell (some (.ref l))) (hl : (l, lo) ∈ all) (hH : (H, W.listOf hs.toArray hn) ∈ all)
    (hB : IntsAre hs B) (hBel : BelTo room.toNat ns i B c) (lt : @LT.lt Nat _ (L + 1 + 1 + 1) H ∧ @LT.lt Nat _ (L + 1 + 1) H ∧ @LT.lt Nat _ (L + 1) H ∧ @LT.lt Nat _ l H) : K m' all :=
  hK m' all [(L + 1 + 1 + 1, oF), (L + 1 + 1, oP), (L + 1, oR), (l, lo), (H, W.listOf hs.toArray hn)] ⟨hF, hP, hR, hl, hH, trivial⟩ ⟨oF, oP, oR, H, hs, hn, B, c, tc, vF, vP, dF, dP, dR, hB, hBel, held, loads, rm, lt, rfl⟩
theorem BInv.fin {h₀ h' : Heap} {L0 : Addr} {s₁ : Shared} {tk : Nat} (F : Fr h₀ L0 h' m') (N : News h₀ L0 h' all) (hK : ∀ m' n' n₀, SubL n₀ n' → BInv L l lo room tr ns i m' n₀ → K m' n') (held : m' (Str.ofString "held") = some (.ref H)) (loads : m' (Str.ofString "loads") = some (.int (c : Int) tc)) (rm : m' (Str.ofString "room") = some (.int room tr))
    (hF : (L + 1 + 1 + 1, oF) ∈ all) (dF : oF.data = .cell vF) (hP : (L + 1 + 1, oP) ∈ all) (dP : oP.data = .cell vP) (hR : (L + 1, oR) ∈ all) (dR : oR.data = .cell (some (.ref l))) (hl : (l, lo) ∈ all) (hH : (H, W.listOf hs.toArray hn) ∈ all)
    (hB : IntsAre hs B) (hBel : BelTo room.toNat ns i B c) (lt : @LT.lt Nat _ (L + 1 + 1 + 1) H ∧ @LT.lt Nat _ (L + 1 + 1) H ∧ @LT.lt Nat _ (L + 1) H ∧ @LT.lt Nat _ l H)
    (hits : SubL its all) (off : OffW its [(L + 1 + 1 + 1, oF), (L + 1 + 1, oP), (L + 1, oR), (l, lo), (H, W.listOf hs.toArray hn)]) : UnrEndW h₀ L0 s₁ its (fun m' n' => SubL [(l, lo)] n' ∧ K m' n') { s₁ with heap := h', toks := tk } :=
  UnrEndW.intro F N [(L + 1 + 1 + 1, oF), (L + 1 + 1, oP), (L + 1, oR), (l, lo), (H, W.listOf hs.toArray hn)] hits ⟨hF, hP, hR, hl, hH, trivial⟩ off
    ⟨⟨.tail _ (.tail _ (.tail _ (.head _))), trivial⟩, BInv.go hK held loads rm (.head _) dF (.tail _ (.head _)) dP (.tail _ (.tail _ (.head _))) dR (.tail _ (.tail _ (.tail _ (.head _)))) (.tail _ (.tail _ (.tail _ (.tail _ (.head _))))) hB hBel lt⟩
end
theorem not_any {B : List Int} {k : Int} (h : (B.any fun x => x == k) = false) : k ∉ B := fun hz => by
  rw [List.any_eq_false] at h
  exact h k hz (beq_self_eq_true k)
theorem is_any {B : List Int} {k : Int} (h : (B.any fun x => x == k) = true) : k ∈ B := by
  obtain ⟨z, hz, e⟩ := List.any_eq_true.mp h
  rw [← (beq_iff_eq.mp e : z = k)]; exact hz
end Mine
end
section
open PySem PySem.W PySem.Spec PySem.Calls PyProof.Rows
namespace Mine
/-- p taken out of a ledger -/
inductive Pick1 (p : Addr × Obj) : List (Addr × Obj) → List (Addr × Obj) → Prop
  | here {r} : Pick1 p (p :: r) r
  | there {q r r'} : Pick1 p r r' → Pick1 p (q :: r) (q :: r')
inductive Pick : List (Addr × Obj) → List (Addr × Obj) → List (Addr × Obj) → Prop
  | nil {n} : Pick [] n n
  | cons {p own n n1 n2} : Pick1 p n n1 → Pick own n1 n2 → Pick (p :: own) n n2
theorem Pick1.of {p : Addr × Obj} {n r : List (Addr × Obj)} (h : Pick1 p n r) : p ∈ n ∧ ∀ q ∈ r, q ∈ n := by
  induction h with
  | here => exact ⟨List.mem_cons_self, fun q hq => List.mem_cons_of_mem _ hq⟩
  | there _ ih =>
    refine ⟨List.mem_cons_of_mem _ ih.1, fun q hq => ?_⟩
    rcases List.mem_cons.mp hq with rfl | hq
    · exact List.mem_cons_self
    · exact List.mem_cons_of_mem _ (ih.2 q hq)
theorem Pick.own {own n r : List (Addr × Obj)} (h : Pick own n r) : ∀ q ∈ own, q ∈ n := by
  induction h with
  | nil => intro q hq; cases hq
  | cons a _ ih =>
    intro q hq
    rcases List.mem_cons.mp hq with rfl | hq
    · exact a.of.1
    · exact a.of.2 q (ih q hq)
theorem Pick.rest {own n r : List (Addr × Obj)} (h : Pick own n r) : ∀ q ∈ r, q ∈ n := by
  induction h with
  | nil => exact fun q hq => hq
  | cons a _ ih => exact fun q hq => a.of.2 q (ih q hq)
theorem Pick.all {own n r : List (Addr × Obj)} (h : Pick own n r) : ∀ q ∈ own ++ r, q ∈ n := fun q hq => by
  rcases List.mem_append.mp hq with hq | hq
  · exact h.own q hq
  · exact h.rest q hq
def OffA (a : Addr) : List (Addr × Obj) → Prop
  | [] => True
  | q :: r => (@Ne Nat q.1 a) ∧ OffA a r
def OffP : List (Addr × Obj) → List (Addr × Obj) → Prop
  | [], _ => True
  | p :: r, rest => OffA p.1 rest ∧ OffP r rest
theorem OffA.of {a : Addr} : ∀ {l : List (Addr × Obj)}, OffA a l → ∀ q ∈ l, q.1 ≠ a
  | [], _, _, h => nomatch h
  | _ :: _, x, q, h => by
    rcases List.mem_cons.mp h with rfl | h
    · exact x.1
    · exact OffA.of x.2 q h
theorem OffP.of : ∀ {own rest : List (Addr × Obj)}, OffP own rest → ∀ q ∈ rest, q.1 ∉ own.map (·.1)
  | [], _, _, _, _, h => nomatch h
  | p :: r, rest, x, q, hq, h => by
    rcases List.mem_cons.mp h with h | h
    · exact OffA.of x.1 q hq h
    · exact OffP.of x.2 q hq h

section
variable {prog : Program} {w : World} {A A₀ : Around} {E : Value → Shared → Prop} {s : Shared} {base h₀ : Heap} {outer : List Env} {env : Env} {L : Addr} {m mg mb : Str → Option Value} {news rest : List (Addr × Obj)} {lse : List Str} {mean : ExcName → Option Value} {KK : Params → Frag} {q : Program} {fn l : Addr}
  {vs : List Value} {n : Nat} {ns : List Int} {room : Int} {t : Tok} {Q : Value → Shared → Prop}
theorem BestSpec.call (d : BestSpec (prog := prog) KK q fn) (B : Below A₀ base outer h₀) (F : Fr h₀ L s.heap m) (X : (KK w.params).In h₀) (N : News h₀ L s.heap news) (T : Top q lse mean mg mb h₀) (hh : A.handled = none) (hA : A.frames = some (env :: outer)) (hf : env.frame = some L) (hke : env.scope.kind = .function)
    (hd : A.depth ≤ 400) (hu : A.units ≤ 400) (pick : Pick [(l, W.listOf vs.toArray n)] news rest) (off : OffP [(l, W.listOf vs.toArray n)] rest) (hI : IntsAre vs ns) (hn : ns.length ≤ 16) (m1 : 1 ≤ room) (m2 : room ≤ 12)
    (h : ∀ h' tk best Bh t', Fr h₀ L h' m → News h₀ L h' ((l, W.listOf vs.toArray n) :: rest) → BelTo room.toNat ns ns.length Bh best → Q (.int (best : Int) t') { s with heap := h', toks := tk }) :
    wpAny (model prog w) A (call (.ref fn) [.ref l, .int room t]) Q E s := by
  refine wpAny_call ?_
  refine hand (A := A) B F X N T hA hf hke [(l, W.listOf vs.toArray n)] rest pick.own pick.rest off.of fun g ft Bg Xg Tg back => ?_
  refine code_up (d (R := _) ⟨rfl, Bg.stays, Bg.frames⟩ Xg Tg ft hI hn m1 m2 fun h' tk best Bh t' ft' hb => ?_) hh hA hd hu
  obtain ⟨F', N'⟩ := back h' _ ft'
  exact h h' tk best Bh t' F' N' hb
end

section
variable {prog : Program} {K : Type} [DecidableEq K] {KK : Params → Frag} {q : Program} {knd : ∀ w, PySem.KeyKind prog w K} {C : Addr} {on : Str}
variable {w : World} {A : Around} {s : Shared} {h₀ : Heap} {env : Env} {L : Addr} {m mg mb : Str → Option Value} {news rest : List (Addr × Obj)} {lse : List Str} {mean : ExcName → Option Value}
variable {D fn : Addr} {args : Loc → K → Tok → Value → List Value} {Pre : Loc → Int → List (K × Value) → List (K × Value) → K → Value → Value → Prop} {Post : Loc → Int → List (K × Value) → List (K × Value) → K → Value → Value → Value × Int × List (K × Value) × List (K × Value)}
variable {Q : Value → Shared → Prop} {E : Value → Shared → Prop} {c : Loc} {cur : Int} {te : Tok} {o1 o2 : Obj} {kvs ov : List (K × Value)} {k : K} {v dv : Value} {tk : Tok} {as : List Value}
/-- a deed done from the law's own frame: all else stays -/
theorem Deed.law (d : Deed KK q knd C on D fn args Pre Post) (F : Fr h₀ L s.heap m) (X : (KK w.params).In h₀) (N : News h₀ L s.heap news) (T : Top q lse mean mg mb h₀) (hh : A.handled = none) (hA : A.frames = some [env]) (hf : env.frame = some L) (hke : env.scope.kind = .function) (hd : A.depth ≤ D) (hu : A.units ≤ D)
    (pick : Pick (led w.params C on c cur te o1 o2) news rest) (off : OffP (led w.params C on c cur te o1 o2) rest) (D1 : o1.IsDictOf (knd w) kvs) (D2 : o2.IsDictOf (knd w) ov) (ok : c.Ok) (ha : as = args c k tk dv) (hp : Pre c cur kvs ov k v dv)
    (h : ∀ h' tk' te' p1 p2, Fr h₀ L h' m → News h₀ L h' (led w.params C on c (Post c cur kvs ov k v dv).2.1 te' p1 p2 ++ rest) → p1.IsDictOf (knd w) (Post c cur kvs ov k v dv).2.2.1 → p2.IsDictOf (knd w) (Post c cur kvs ov k v dv).2.2.2 →
      Q (Post c cur kvs ov k v dv).1 { s with heap := h', toks := tk' }) : wpAny (model prog w) A (call (.ref fn) as) Q E s := by
  subst ha
  refine wpAny_call ?_
  have hL₀ : h₀.get? L = none := Heap.get?_none_of_le F.above
  have No : ∀ p ∈ led w.params C on c cur te o1 o2, s.heap.get? p.1 = some p.2 ∧ p.1 ≠ L ∧ h₀.get? p.1 = none := fun p hp => N p (pick.own p hp)
  obtain ⟨oL, es, ep, hL, hLd, hLk, hLf⟩ := F.ns
  have nL : L ∉ (led w.params C on c cur te o1 o2).map (·.1) := fun z => by
    obtain ⟨p, hp, e⟩ := List.mem_map.mp z
    exact (No p hp).2.1 e
  have n0 : ∀ b o, h₀.get? b = some o → b ∉ (led w.params C on c cur te o1 o2).map (·.1) := fun b o e z => by
    obtain ⟨p, hp, rfl⟩ := List.mem_map.mp z
    rw [(No p hp).2.2] at e; cases e
  have gL : (hideAll s.heap ((led w.params C on c cur te o1 o2).map (·.1))).get? L = some oL := hideAll_get _ hL nL
  have bst : ∀ b o, s.heap.get? b = some o → b ∉ (led w.params C on c cur te o1 o2).map (·.1) → b ≠ L → (hideAll (hideAll s.heap ((led w.params C on c cur te o1 o2).map (·.1))) [L]).get? b = some o := fun b o e hb hl => hideAll_get _ (hideAll_get _ e hb) (by simpa using hl)
  have st0 : h₀.StaysIn (hideAll (hideAll s.heap ((led w.params C on c cur te o1 o2).map (·.1))) [L]) := fun b o e => bst b o (F.keep b o e) (n0 b o e) (fun z => by rw [z, hL₀] at e; cases e)
  have B : Below (arnd D D [env] A.guards) (hideAll (hideAll s.heap ((led w.params C on c cur te o1 o2).map (·.1))) [L]) [env] (hideAll s.heap ((led w.params C on c cur te o1 o2).map (·.1))) :=
    ⟨rfl, fun b o e => of_hideAll _ e, Heap.FunFrames.cons (by rw [hke]; decide) hf ⟨oL, es, ep, gL, hLd, hLk, hLf⟩ (hideAll_none _ (List.mem_singleton.mpr rfl)) trivial⟩
  refine code_up (d (R := _) ⟨B, Nat.le_of_eq (hideAll_size _ _), X.keeps st0, T.keeps st0⟩ ok ⟨te, o1, o2, ⟨fun b o e => of_hideAll _ e, Nat.le_of_eq (hideAll_size _ _), fun p hp => ⟨(No p hp).1, hideAll_none _ (List.mem_map_of_mem hp)⟩⟩, D1, D2⟩ hp fun g' h' tk' u cc => ?_) hh hA hd hu
  obtain ⟨te', p1, p2, ft', D1', D2'⟩ := cc
  have st1 : h₀.StaysIn h' := fun b o e => ft'.1 b o (u.stays b o (st0 b o e))
  obtain ⟨sl, qL⟩ := u.up L oL gL fun vs z => by rw [hLd] at z; cases z
  refine h h' tk' te' p1 p2 ⟨⟨_, es, ep, ft'.1 _ _ qL, hLd, hLk, hLf⟩, st1, F.above⟩ (fun p hp => ?_) D1' D2'
  rcases List.mem_append.mp hp with hp | hp
  · have z := ft'.2.2 p hp
    refine ⟨z.1, fun e => ?_, ?_⟩
    · rw [e, qL] at z; exact nomatch z.2
    · cases e : h₀.get? p.1 with
      | none => rfl
      | some o => have := u.stays _ _ (st0 _ _ e); rw [z.2] at this; cases this
  · have z := N p (pick.rest p hp)
    exact ⟨ft'.1 _ _ (u.stays _ _ (bst _ _ z.1 (off.of p hp) z.2.1)), z.2⟩
end

theorem subL_of : ∀ {l all : List (Addr × Obj)}, (∀ p ∈ l, p ∈ all) → SubL l all
  | [], _, _ => trivial
  | _ :: _, _, h => ⟨h _ List.mem_cons_self, subL_of fun p hp => h p (List.mem_cons_of_mem _ hp)⟩
section
variable {prog : Program} {w : World} {A : Around} {E : Value → Shared → Prop} {s : Shared} {env : Env} {h₀ : Heap} {x : Str} {px : Pos} {body : List Stmt} {Q : Flow → Shared → Prop} {ws : List (Addr × String)} {keep : List (Addr × Obj)}
theorem News.cut {g : Heap} {L : Addr} {h : Heap} {l l' : List (Addr × Obj)} (N : News g L h l) (hs : SubL l' l) : News g L h l' := fun p hp => N p (hs.mem p hp)
def rangeItems (a : Int) (n : Nat) (i : Nat) : List Itm := (List.range' i (n - i)).map fun (j : Nat) => Itm.tok fun t => .int (a + (j : Int)) t
/-- a loop over range -/
theorem iter_rangeTurns {r : Addr} {a b : Int} {t u v : Tok} {n : Nat} {m₀ : Str → Option Value} {news : List (Addr × Obj)}
    (hh : A.handled = none) (F : Fr h₀ env.locals s.heap m₀) (N : News h₀ env.locals s.heap news) (hr : IsRange s.heap r a b 1 t u v) (hsm : Builtin.Range.small a b 1 = true) (hn : Builtin.Range.rangeSize a b 1 = ((n : Nat) : Int))
    (rest₀ : ∀ I : Addr, (∀ p ∈ news, p.1 < I) → ItemsRest prog w A E h₀ env (.Name x px) body Q s [(I, "range_iterator")] [] (rangeItems a n 0) m₀ news) :
    wpAny (model prog w) A (pyIter (.ref r)) (fun it s₂ => TurnsAt prog w A h₀ env (.Name x px) body Q E it s₂) E s := by
  refine wpAny_pyIter_range hr hsm ?_
  refine ktu_core (tk0 := s.toks) (keep := []) (KTurns.ofWalks (Walks.range hh s.heap.objs.size a 1 n).bound fun i v s Q E st q => wpAny_of_eq (rfl : letOwnedTupleGo (.Name x px) (.ref _) v = pure ()) q) (by simp [rangeItems]) (fun i v h hp => ?_) (fun i h st => ?_) (fun b hb => ?_) (fun b hb => by simpa using hb) (fun b hb => .inl (by simpa using hb)) ?_ (fun p hp hI => ?_) ?_ (F.keeps fun _ _ e => Heap.get?_push_of_some _ e) (N.grown fun _ _ e => Heap.get?_push_of_some _ e) trivial (rest₀ _ fun p hp => Heap.lt_size (N p hp).1)
  · obtain ⟨hi, t, rfl⟩ := hp
    refine ⟨.tok fun t => .int (a + (i : Int)) t, ?_, t, by rw [Int.mul_one]⟩
    simp [rangeItems, hi]
  · exact ⟨[(s.heap.objs.size, _)], ⟨⟨rfl, rfl⟩, trivial⟩, fun p hp => by rw [List.mem_singleton.mp hp]; exact st⟩
  · have hb' : b = s.heap.objs.size := by simpa using hb
    rw [hb']
    exact ⟨List.mem_singleton.mpr rfl, next_is_new F⟩
  · intro hI
    exact absurd F.ns.lt ((List.mem_singleton.mp hI) ▸ Nat.lt_irrefl _)
  · exact absurd (Heap.lt_size (N p hp).1) ((List.mem_singleton.mp hI) ▸ Nat.lt_irrefl _)
  · show IsRangeIter _ _ _ _ _
    rw [hn]; simpa using Heap.get?_push_size _ rfl
theorem range_inv {a : Int} {n : Nat} (Inv : Nat → (Str → Option Value) → List (Addr × Obj) → Prop)
    (step : ∀ i m news (K : (Str → Option Value) → List (Addr × Obj) → Prop), i < n → Inv i m news → (∀ m' n' n₀, SubL n₀ n' → Inv (i + 1) m' n₀ → K m' n') →
      ∀ t h tk, Fr h₀ env.locals h m → AllObj ws (fun its => News h₀ env.locals h (its ++ news) →
        wpAny (model prog w) A (assign (.Name x px) env (.int (a + (i : Int)) t)) (fun _ s₂ => wpAny (model prog w) A (execs body env) (UnrPostW h₀ env.locals { s with heap := h, toks := tk } its (fun m' n' => SubL keep n' ∧ K m' n') Q) E s₂) E { s with heap := h, toks := tk }))
    (fin : ∀ m news, Inv n m news → ∀ h tk, Fr h₀ env.locals h m → News h₀ env.locals h news → Q .next { s with heap := h, toks := tk })
    {m : Str → Option Value} {news own base : List (Addr × Obj)} (pick : Pick own news base) (h0 : Inv 0 m (own ++ base)) : ItemsRest prog w A E h₀ env (.Name x px) body Q s ws keep (rangeItems a n 0) m news := by
  have cons_ : ∀ i, i < n → rangeItems a n i = .tok (fun t => .int (a + (i : Int)) t) :: rangeItems a n (i + 1) := fun i hi => by
    unfold rangeItems
    rw [show n - i = (n - (i + 1)) + 1 from by omega, List.range'_succ]
    rfl
  exact items_inv (prog := prog) (w := w) (A := A) (E := E) (s := s) (env := env) (h₀ := h₀) (target := .Name x px) (body := body) (Q := Q) (ws := ws) (keep := keep) (n := n) (fun i => rangeItems a n i) Inv (by simp [rangeItems])
    (fun i hi => ⟨_, cons_ i hi⟩)
    (fun i itm m news K hi ha hinv hK v h tk hv F => by
      cases List.cons.inj (ha.symm.trans (cons_ i hi)) |>.1
      obtain ⟨t, rfl⟩ := hv
      exact step i m news K hi hinv hK t h tk F) fin n 0 m news (own ++ base) (by omega) pick.all h0
theorem enum_pick {elts : List PySem.Expr} {k : Nat} {pos : Pos} {vs : List Value} (Inv : Nat → (Str → Option Value) → List (Addr × Obj) → Prop)
    (step : ∀ i x m news (K : (Str → Option Value) → List (Addr × Obj) → Prop), vs[i]? = some x → Inv i m news → (∀ m' n' n₀, SubL n₀ n' → Inv (i + 1) m' n₀ → K m' n') →
      ∀ T t h tk, IsTup h T #[.int (i : Int) t, x] → Fr h₀ env.locals h m → AllObj ws (fun its => News h₀ env.locals h (its ++ news) →
        wpAny (model prog w) A (assign (.Tuple elts k pos) env (.ref T)) (fun _ s₂ => wpAny (model prog w) A (execs body env) (UnrPostW h₀ env.locals { s with heap := h, toks := tk } its (fun m' n' => SubL keep n' ∧ K m' n') Q) E s₂) E { s with heap := h, toks := tk }))
    (fin : ∀ m news, Inv vs.length m news → ∀ h tk, Fr h₀ env.locals h m → News h₀ env.locals h news → Q .next { s with heap := h, toks := tk })
    {m : Str → Option Value} {news own base : List (Addr × Obj)} (pick : Pick own news base) (h0 : Inv 0 m (own ++ base)) : ItemsRest prog w A E h₀ env (.Tuple elts k pos) body Q s ws keep (enumItems 0 vs) m news := by
  exact enum_inv Inv step fin (own ++ base) (subL_of pick.all) h0
end
/-- marks that switch rules of the walk on and off -/
inductive Mark : Prop | mk
inductive MarkB : Prop | mk
inductive MarkL : Prop | mk
structure Box (p : Prop) : Prop where
  out : p
section
variable {M : Model} {A : Around} {E : Value → Shared → Prop} {s : Shared} {h₀ : Heap} {L : Addr} {m : Str → Option Value} {Q : Value → Shared → Prop} {e : Sem Value}
/-- a list of at most 16 ints -/
def RowAt (h₀ : Heap) (L : Addr) (m : Str → Option Value) (s : Shared) (v : Value) (s' : Shared) : Prop :=
  ∃ D vs n ns h tk, v = .ref D ∧ s' = { s with heap := h, toks := tk } ∧ Fr h₀ L h m ∧ News h₀ L h [(D, W.listOf vs.toArray n)] ∧ IntsAre vs ns ∧ ns.length ≤ 16
theorem RowAt.intro {D : Addr} {vs : List Value} {n tk : Nat} {ns : List Int} {h : Heap} {news : List (Addr × Obj)} (F : Fr h₀ L h m) (N : News h₀ L h news) (hm : (D, W.listOf vs.toArray n) ∈ news) (hI : IntsAre vs ns) (hz : ns.length ≤ 16) : RowAt h₀ L m s (.ref D) { s with heap := h, toks := tk } :=
  ⟨D, vs, n, ns, h, tk, rfl, rfl, F, fun p hp => by rw [List.mem_singleton.mp hp]; exact N _ hm, hI, hz⟩
theorem RowAt.introA {D : Addr} {its : Array Value} {n tk : Nat} {ns : List Int} {h : Heap} {news : List (Addr × Obj)} (F : Fr h₀ L h m) (N : News h₀ L h news) (hm : (D, W.listOf its n) ∈ news) (hI : IntsAre its.toList ns) (hz : ns.length ≤ 16) : RowAt h₀ L m s (.ref D) { s with heap := h, toks := tk } :=
  RowAt.intro (vs := its.toList) (n := n) F N (by rw [Array.toArray_toList]; exact hm) hI hz
theorem or_join {x : Int} {tr : Tok} (_F : Fr h₀ L s.heap m) (hr : m (Str.ofString "room") = some (.int (1 + Int.fmod x 4) tr)) (h : wpAny M A e (RowAt h₀ L m s) E s)
    (k : ∀ D vs n ns h tk m' room tr, 1 ≤ room → room ≤ 4 → m' (Str.ofString "room") = some (.int room tr) → Fr h₀ L h m' → News h₀ L h [(D, W.listOf vs.toArray n)] → IntsAre vs ns → ns.length ≤ 16 → Q (.ref D) { s with heap := h, toks := tk }) : wpAny M A e Q E s :=
  wpAny_mono h (fun v s' ⟨D, vs, n, ns, h, tk, e1, e2, F, N, hI, hz⟩ => by
    subst e1; subst e2
    have h1 := Int.fmod_nonneg_of_pos x (show (0 : Int) < 4 by decide)
    have h2 := Int.fmod_lt_of_pos x (show (0 : Int) < 4 by decide)
    exact k D vs n ns h tk m _ tr (by omega) (by omega) hr F N hI hz) fun _ _ e => e
end
end Mine
end
section
open PySem PySem.W PySem.Spec PySem.Calls PyProof.Rows PyProof.V
namespace Mine
section
variable {K : Type} [DecidableEq K]
theorem valueAt_nil (k : K) : valueAt ([] : List (K × Value)) k = none := rfl
theorem valueAt_cons (a : K × Value) (r : List (K × Value)) (k : K) : valueAt (a :: r) k = if a.1 = k then some a.2 else valueAt r k := by
  unfold valueAt
  rw [List.find?_cons]
  by_cases h : a.1 = k <;> simp [h]
theorem valueAt_none {kvs : List (K × Value)} {k : K} (h : k ∉ kvs.map (·.1)) : valueAt kvs k = none := PyProof.Rows.valueAt_none_of_not_mem h
theorem not_mem_of {kvs : List (K × Value)} {k : K} (h : valueAt kvs k = none) : k ∉ kvs.map (·.1) := by
  induction kvs with
  | nil => simp
  | cons a r ih =>
    rw [valueAt_cons] at h
    by_cases ha : a.1 = k
    · rw [if_pos ha] at h; cases h
    · rw [if_neg ha] at h
      rw [List.map_cons, List.mem_cons, not_or]
      exact ⟨fun z => ha z.symm, ih h⟩
theorem valueAt_app {kvs r : List (K × Value)} {k : K} : valueAt (kvs ++ r) k = (valueAt kvs k).or (valueAt r k) := by
  induction kvs with
  | nil => simp [valueAt_nil]
  | cons a l ih =>
    rw [List.cons_append, valueAt_cons, valueAt_cons, ih]
    by_cases h : a.1 = k <;> simp [h]
theorem valueAt_stored (kvs : List (K × Value)) (k : K) (v : Value) : valueAt (stored kvs k v) k = some v := by
  cases h : valueAt kvs k with
  | none => rw [stored_absent h, valueAt_app, h, valueAt_cons]; simp
  | some u =>
    unfold stored
    rw [if_pos (by rw [← valueAt_isSome_eq_any, h]; rfl)]
    induction kvs with
    | nil => cases h
    | cons a l ih =>
      rw [List.map_cons, valueAt_cons]
      rw [valueAt_cons] at h
      by_cases ha : a.1 = k
      · simp [ha]
      · rw [if_neg ha] at h
        simp only [if_neg ha]
        exact ih h
theorem valueAt_other {kvs : List (K × Value)} {k j : K} {v : Value} (hj : j ≠ k) : valueAt (stored kvs k v) j = valueAt kvs j := by
  unfold stored
  split
  · induction kvs with
    | nil => rfl
    | cons a l ih =>
      rw [List.map_cons, valueAt_cons, valueAt_cons]
      by_cases ha : a.1 = k
      · have : a.1 ≠ j := fun z => hj (z.symm.trans ha)
        have h2 : k ≠ j := fun z => hj z.symm
        simp only [if_pos ha, if_neg this, if_neg h2]
        by_cases hl : (l.any fun kv => decide (kv.1 = k)) = true
        · exact ih hl
        · have : l.map (fun kv => if kv.1 = k then (kv.1, v) else kv) = l := by
            have h3 : ∀ x ∈ l, (fun kv : K × Value => if kv.1 = k then (kv.1, v) else kv) x = id x := fun x hx => by
              have : x.1 ≠ k := fun z => hl (List.any_eq_true.mpr ⟨x, hx, by simpa using z⟩)
              simp [this]
            rw [List.map_congr_left h3, List.map_id]
          rw [this]
      · simp only [if_neg ha]
        rename_i hany
        rw [List.any_cons] at hany
        have : (l.any fun kv => decide (kv.1 = k)) = true := by simpa [ha] using hany
        rw [ih this]
  · rw [valueAt_app, valueAt_cons, valueAt_nil]
    have : k ≠ j := fun z => hj z.symm
    simp [this]
theorem valueAt_without {kvs : List (K × Value)} {k j : K} (hj : j ≠ k) : valueAt (without kvs k) j = valueAt kvs j := by
  unfold without
  induction kvs with
  | nil => rfl
  | cons a l ih =>
    rw [List.filter_cons, valueAt_cons]
    by_cases ha : a.1 = k
    · have : a.1 ≠ j := fun z => hj (z.symm.trans ha)
      simp only [ha, ne_eq, not_true, decide_false, Bool.false_eq_true, if_false]
      rw [ih, if_neg (by rw [← ha]; exact this)]
    · simp only [ne_eq, ha, not_false_eq_true, decide_true, if_true]
      rw [valueAt_cons, ih]
theorem without_keys {kvs : List (K × Value)} {k : K} : (without kvs k).map (·.1) = (kvs.map (·.1)).filter fun x => decide (x ≠ k) := by
  unfold without
  rw [List.filter_map]; rfl
theorem nones_keys (ord : List K) : (nones ord).map (·.1) = ord := by
  unfold nones
  rw [List.map_map]
  exact List.map_id _
theorem nones_some {ord : List K} {k : K} (h : k ∈ ord) : valueAt (nones ord) k = some .none := by
  induction ord with
  | nil => cases h
  | cons a r ih =>
    show valueAt ((a, Value.none) :: nones r) k = _
    rw [valueAt_cons]
    by_cases ha : a = k
    · simp [ha]
    · rw [if_neg ha]
      exact ih ((List.mem_cons.mp h).resolve_left fun z => ha z.symm)
theorem nones_none {ord : List K} {k : K} (h : k ∉ ord) : valueAt (nones ord) k = none := valueAt_none (by rw [nones_keys]; exact h)
theorem nones_stored {ord : List K} {k : K} (h : k ∉ ord) : stored (nones ord) k .none = nones (ord ++ [k]) := by
  rw [stored_absent (nones_none h)]
  unfold nones
  rw [List.map_append]; rfl
theorem nones_without (ord : List K) (k : K) : without (nones ord) k = nones (ord.filter fun x => decide (x ≠ k)) := by
  unfold without nones
  rw [List.filter_map]; rfl
theorem erase_filter {ord : List K} {k : K} (h : ord.Nodup) : (ord.filter fun x => decide (x ≠ k)) = ord.erase k := by
  rw [h.erase_eq_filter]
  congr 1
  funext x
  by_cases hx : x = k <;> simp [hx]
end
/-- what holds of a cache after i asks -/
structure Core (room : Nat) (ns : List Int) (i : Nat) (ord : List Int) (kvs lkv : List (Int × Value)) (lds : List Nat) : Prop where
  perm : (kvs.map (·.1)).Perm ord
  val : ∀ k ∈ ord, ∃ p t, valueAt kvs k = some (.int p t) ∧ valueAt lkv k = some (.int p t)
  pol : PolTo room ns i ord lds.length
  ldd : Ldd room ns i ord lds
  lk : lkv.length ≤ i
  ll : lds.length ≤ i
theorem PolTo.len {room : Nat} {row : List Int} {i c : Nat} {B : List Int} (h : PolTo room row i B c) : B.length ≤ room := by
  cases h with
  | zero => exact Nat.zero_le _
  | hit _ _ _ f => exact f.len
  | load _ _ _ f => exact f.len
section
variable {room : Nat} {ns : List Int} {i : Nat} {ord : List Int} {kvs lkv : List (Int × Value)} {lds : List Nat} {k : Int}
theorem Core.zero : Core room ns 0 [] [] [] [] := ⟨.refl _, fun k h => (nomatch h), .zero, .zero, Nat.le_refl _, Nat.le_refl _⟩
theorem Core.len (h : Core room ns i ord kvs lkv lds) : kvs.length = ord.length := by
  have := h.perm.length_eq
  rwa [List.length_map] at this
theorem Core.none (h : Core room ns i ord kvs lkv lds) (hk : k ∉ ord) : valueAt kvs k = .none := valueAt_none fun z => hk (h.perm.mem_iff.mp z)
theorem Core.stay (h : Core room ns i ord kvs lkv lds) (hr : ns[i]? = some k) (hk : k ∈ ord) : Core room ns (i + 1) ord kvs lkv lds :=
  ⟨h.perm, h.val, h.pol.hit hr hk (pol_stay h.pol.nodup h.pol.len hk), h.ldd.stay, Nat.le_succ_of_le h.lk, Nat.le_succ_of_le h.ll⟩
theorem Core.touch (h : Core room ns i ord kvs lkv lds) (hr : ns[i]? = some k) (hk : k ∈ ord) : Core room ns (i + 1) (ord.erase k ++ [k]) kvs lkv lds := by
  have hp : (ord.erase k ++ [k]).Perm ord := (List.perm_append_comm.trans (List.perm_cons_erase hk).symm)
  exact ⟨h.perm.trans hp.symm, fun j hj => h.val j (hp.mem_iff.mp hj), h.pol.hit hr hk (pol_touch h.pol.nodup h.pol.len hk), h.ldd.touch hr hk, Nat.le_succ_of_le h.lk, Nat.le_succ_of_le h.ll⟩
theorem Core.touched (h : Core room ns i ord kvs lkv lds) (hk : k ∈ ord) : stored (without (nones ord) k) k .none = nones (ord.erase k ++ [k]) := by
  rw [nones_without, erase_filter h.pol.nodup, nones_stored (fun z => ((List.Nodup.mem_erase_iff h.pol.nodup).mp z).1 rfl)]
theorem Core.load (h : Core room ns i ord kvs lkv lds) (hr0 : 0 < room) (hr : ns[i]? = some k) (hk : k ∉ ord) (hlt : ord.length < room) (t : Tok) :
    Core room ns (i + 1) (ord ++ [k]) (stored kvs k (.int i t)) (stored lkv k (.int i t)) (lds ++ [i]) := by
  have e : (if ord.length = room then ord.tail else ord) ++ [k] = ord ++ [k] := by rw [if_neg (by omega)]
  refine ⟨?_, fun j hj => ?_, ?_, ?_, ?_, by simp; exact h.ll⟩
  · rw [stored_absent (h.none hk), List.map_append]
    exact h.perm.append_right _
  · by_cases hjk : j = k
    · subst hjk; exact ⟨_, _, valueAt_stored _ _ _, valueAt_stored _ _ _⟩
    · rw [valueAt_other hjk, valueAt_other hjk]
      exact h.val j ((List.mem_append.mp hj).resolve_right fun z => hjk (List.mem_singleton.mp z))
  · rw [List.length_append, List.length_singleton, ← e]
    exact h.pol.load hr hk (pol_load hr0 h.pol.nodup h.pol.len hk)
  · rw [← e]; exact h.ldd.load h.pol.nodup h.pol.len hr hk
  · exact Nat.le_trans (stored_len _ _ _) (Nat.succ_le_succ h.lk)
theorem Core.drop {k0 : Int} {rest : List Int} (h : Core room ns i (k0 :: rest) kvs lkv lds) (hr0 : 0 < room) (hr : ns[i]? = some k) (hk : k ∉ k0 :: rest) (hlt : (k0 :: rest).length = room) (t : Tok) :
    Core room ns (i + 1) (rest ++ [k]) (stored (without kvs k0) k (.int i t)) (stored lkv k (.int i t)) (lds ++ [i]) := by
  have e : (if (k0 :: rest).length = room then (k0 :: rest).tail else (k0 :: rest)) ++ [k] = rest ++ [k] := by rw [if_pos hlt]; rfl
  have hnd := List.nodup_cons.mp h.pol.nodup
  have hk0 : k ≠ k0 := fun z => hk (z ▸ List.mem_cons_self)
  have hw : valueAt (without kvs k0) k = .none := by rw [valueAt_without hk0]; exact h.none hk
  refine ⟨?_, fun j hj => ?_, ?_, ?_, ?_, by simp; exact h.ll⟩
  · rw [stored_absent hw, List.map_append]
    refine List.Perm.append_right _ ?_
    rw [without_keys]
    have := h.perm.filter fun x => decide (x ≠ k0)
    refine this.trans ?_
    rw [List.filter_cons]
    simp only [ne_eq, not_true, decide_false, Bool.false_eq_true, if_false]
    rw [List.filter_eq_self.mpr fun x hx => by simpa using fun z : x = k0 => hnd.1 (z ▸ hx)]
  · by_cases hjk : j = k
    · subst hjk; exact ⟨_, _, valueAt_stored _ _ _, valueAt_stored _ _ _⟩
    · have hjr := (List.mem_append.mp hj).resolve_right fun z => hjk (List.mem_singleton.mp z)
      have hj0 : j ≠ k0 := fun z => hnd.1 (z ▸ hjr)
      rw [valueAt_other hjk, valueAt_other hjk, valueAt_without hj0]
      exact h.val j (List.mem_cons_of_mem _ hjr)
  · rw [List.length_append, List.length_singleton, ← e]
    exact h.pol.load hr hk (pol_load hr0 h.pol.nodup h.pol.len hk)
  · rw [← e]; exact h.ldd.load h.pol.nodup h.pol.len hr hk
  · exact Nat.le_trans (stored_len _ _ _) (Nat.succ_le_succ h.lk)
theorem Core.dropped {k0 : Int} {rest : List Int} (h : Core room ns i (k0 :: rest) kvs lkv lds) (hk : k ∉ k0 :: rest) : stored (without (nones (k0 :: rest)) k0) k .none = nones (rest ++ [k]) := by
  have hnd := List.nodup_cons.mp h.pol.nodup
  rw [nones_without, List.filter_cons]
  simp only [ne_eq, not_true, decide_false, Bool.false_eq_true, if_false]
  rw [List.filter_eq_self.mpr fun x hx => by simpa using fun z : x = k0 => hnd.1 (z ▸ hx), nones_stored fun z => hk (List.mem_cons_of_mem _ z)]
theorem Core.full {k0 : Int} {rest : List Int} {c : Loc} (h : Core room ns i (k0 :: rest) kvs lkv lds) (hk : k ∉ k0 :: rest) (hlt : (k0 :: rest).length = room) (hm : c.mx = (room : Int)) (h1 : 1 ≤ room) (h4 : room ≤ 4) :
    FullPre c ((k0 :: rest).length : Int) kvs (nones (k0 :: rest)) k := by
  have hk0 : k ≠ k0 := fun z => hk (z ▸ List.mem_cons_self)
  obtain ⟨p, t, hv, _⟩ := h.val k0 List.mem_cons_self
  have hl := h.len
  have hl2 : rest.length + 1 = room := hlt
  have hl3 : kvs.length = rest.length + 1 := hl
  refine ⟨k0, _, nones rest, rfl, by rw [hm, hlt], hv, h.none hk, by rw [valueAt_without hk0]; exact h.none hk, by rw [valueAt_without hk0]; exact nones_none hk, by omega, by omega, by omega, by unfold nones; rw [List.length_map]; omega⟩
end
section
variable {prog : Program} {w : World} (P : Params) (knd : PySem.KeyKind prog w Int) (C : Addr) (on : Str) (c : Loc) (Lo Ld D : Addr) (room : Int) (tr : Tok) (best : Int) (tb : Tok) (ns : List Int) (base : List (Addr × Obj))
/-- ahead of a turn of the law's loop over the asks -/
def LInv (i : Nat) (m : Str → Option Value) (news : List (Addr × Obj)) : Prop :=
  ∃ cur te o1 o2 od kvs ov lkv ord lds lsv lsn, Core room.toNat ns i ord kvs lkv lds ∧ cur = (ord.length : Int) ∧ ov = nones ord ∧ o1.IsDictOf knd kvs ∧ o2.IsDictOf knd ov ∧ od.IsDictOf knd lkv ∧ IntsAre lsv (lds.map fun j => ((j : Nat) : Int)) ∧
    m (Str.ofString "cache") = some (.ref c.x) ∧ m (Str.ofString "loads") = some (.ref Lo) ∧ m (Str.ofString "loaded") = some (.ref Ld) ∧ m (Str.ofString "row") = some (.ref D) ∧ m (Str.ofString "room") = some (.int room tr) ∧ m (Str.ofString "best") = some (.int best tb) ∧
    news = (led P C on c cur te o1 o2 ++ [(Lo, W.listOf lsv.toArray lsn), (Ld, od)]) ++ base
end
section
variable {prog : Program} {w : World} {P : Params} {knd : PySem.KeyKind prog w Int} {C : Addr} {on : Str} {c : Loc} {Lo Ld D : Addr} {room : Int} {tr : Tok} {best : Int} {tb : Tok} {ns : List Int} {base all : List (Addr × Obj)} {i : Nat} {m : Str → Option Value}
  {cur : Int} {te : Tok} {o1 o2 od : Obj} {kvs ov lkv : List (Int × Value)} {ord : List Int} {lds : List Nat} {lsv : List Value} {lsn : Nat} {K : (Str → Option Value) → List (Addr × Obj) → Prop}
theorem LInv.go (hK : ∀ m' n' n₀, SubL n₀ n' → LInv P knd C on c Lo Ld D room tr best tb ns base i m' n₀ → K m' n') (hs : SubL ((led P C on c cur te o1 o2 ++ [(Lo, W.listOf lsv.toArray lsn), (Ld, od)]) ++ base) all)
    (core : Core room.toNat ns i ord kvs lkv lds) (hcur : cur = (ord.length : Int)) (hov : ov = nones ord) (D1 : o1.IsDictOf knd kvs) (D2 : o2.IsDictOf knd ov) (D3 : od.IsDictOf knd lkv) (hI : IntsAre lsv (lds.map fun j => ((j : Nat) : Int)))
    (m1 : m (Str.ofString "cache") = some (.ref c.x)) (m2 : m (Str.ofString "loads") = some (.ref Lo)) (m3 : m (Str.ofString "loaded") = some (.ref Ld)) (m4 : m (Str.ofString "row") = some (.ref D)) (m5 : m (Str.ofString "room") = some (.int room tr)) (m6 : m (Str.ofString "best") = some (.int best tb)) : K m all :=
  hK m all _ hs ⟨cur, te, o1, o2, od, kvs, ov, lkv, ord, lds, lsv, lsn, core, hcur, hov, D1, D2, D3, hI, m1, m2, m3, m4, m5, m6, rfl⟩
theorem LInv.zero (m2 : m (Str.ofString "loads") = some (.ref Lo)) (m3 : m (Str.ofString "loaded") = some (.ref Ld)) (m1 : m (Str.ofString "cache") = some (.ref c.x)) (m4 : m (Str.ofString "row") = some (.ref D)) (m5 : m (Str.ofString "room") = some (.int room tr)) (m6 : m (Str.ofString "best") = some (.int best tb))
    (D1 : o1.IsDictOf knd []) (D2 : o2.IsDictOf knd []) (D3 : od.IsDictOf knd []) : LInv P knd C on c Lo Ld D room tr best tb ns base 0 m ((led P C on c 0 te o1 o2 ++ [(Lo, W.listOf ([] : List Value).toArray lsn), (Ld, od)]) ++ base) :=
  ⟨0, te, o1, o2, od, [], [], [], [], [], [], lsn, .zero, rfl, rfl, D1, D2, D3, .nil, m1, m2, m3, m4, m5, m6, rfl⟩
end
section
variable {prog : Program} {w : World} {A : Around} {E : Value → Shared → Prop} {s : Shared} {env : Env} {h₀ : Heap} {body : List Stmt} {Q : Flow → Shared → Prop} {ws : List (Addr × String)} {keep : List (Addr × Obj)} {elts : List PySem.Expr} {k : Nat} {pos : Pos} {vs : List Value}
  {P : Params} {knd : PySem.KeyKind prog w Int} {C : Addr} {on : Str} {c : Loc} {Lo Ld D : Addr} {room : Int} {tr : Tok} {best : Int} {tb : Tok} {ns : List Int} {news base : List (Addr × Obj)} {m : Str → Option Value} {te : Tok} {o1 o2 od : Obj} {lsn : Nat}
theorem law_loop (P : Params) (knd : PySem.KeyKind prog w Int) (C : Addr) (on : Str) (c : Loc)
    (m2 : m (Str.ofString "loads") = some (.ref Lo)) (m3 : m (Str.ofString "loaded") = some (.ref Ld)) (m1 : m (Str.ofString "cache") = some (.ref c.x)) (m4 : m (Str.ofString "row") = some (.ref D)) (m5 : m (Str.ofString "room") = some (.int room tr)) (m6 : m (Str.ofString "best") = some (.int best tb))
    (pick : Pick (led P C on c 0 te o1 o2 ++ [(Lo, W.listOf ([] : List Value).toArray lsn), (Ld, od)]) news base) (D1 : o1.IsDictOf knd []) (D2 : o2.IsDictOf knd []) (D3 : od.IsDictOf knd [])
    (step : ∀ i x m news (K : (Str → Option Value) → List (Addr × Obj) → Prop), vs[i]? = some x → LInv P knd C on c Lo Ld D room tr best tb ns base i m news → (∀ m' n' n₀, SubL n₀ n' → LInv P knd C on c Lo Ld D room tr best tb ns base (i + 1) m' n₀ → K m' n') →
      ∀ T t h tk, IsTup h T #[.int (i : Int) t, x] → Fr h₀ env.locals h m → AllObj ws (fun its => News h₀ env.locals h (its ++ news) →
        wpAny (model prog w) A (assign (.Tuple elts k pos) env (.ref T)) (fun _ s₂ => wpAny (model prog w) A (execs body env) (UnrPostW h₀ env.locals { s with heap := h, toks := tk } its (fun m' n' => SubL keep n' ∧ K m' n') Q) E s₂) E { s with heap := h, toks := tk }))
    (fin : ∀ m news, LInv P knd C on c Lo Ld D room tr best tb ns base vs.length m news → ∀ h tk, Fr h₀ env.locals h m → News h₀ env.locals h news → Q .next { s with heap := h, toks := tk }) :
    ItemsRest prog w A E h₀ env (.Tuple elts k pos) body Q s ws keep (enumItems 0 vs) m news :=
  enum_pick (LInv P knd C on c Lo Ld D room tr best tb ns base) step fin pick (LInv.zero m2 m3 m1 m4 m5 m6 D1 D2 D3)
end
end Mine
end
section
/-! the plain law of row 01: a chain of caches is one row. A cache: its room and what it holds, the newest first -/
namespace Mine
variable {α : Type}
/-- what `_law_laid` does -/
def lay : List (Nat × List α) → α → List (Nat × List α) × Option α
  | [], x => ([], some x)
  | (r, seg) :: rest, x =>
    if seg.length = r then
      match seg.getLast? with
      | some y => ((r, x :: seg.dropLast) :: (lay rest y).1, (lay rest y).2)
      | none => ((r, [x]) :: rest, none)
    else ((r, x :: seg) :: rest, none)
/-- what a chain holds -/
def held (cs : List (Nat × List α)) : List α := (cs.map (·.2)).flatten
/-- the places of a chain -/
def room (cs : List (Nat × List α)) : Nat := (cs.map (·.1)).sum
def Fits (cs : List (Nat × List α)) : Prop := ∀ c ∈ cs, 1 ≤ c.1 ∧ c.2.length ≤ c.1
theorem held_cons (r : Nat) (seg : List α) (cs : List (Nat × List α)) : held ((r, seg) :: cs) = seg ++ held cs := rfl
theorem Fits.le {cs : List (Nat × List α)} (h : Fits cs) : (held cs).length ≤ room cs := by
  induction cs with
  | nil => exact Nat.le_refl _
  | cons c cs ih =>
    obtain ⟨r, seg⟩ := c
    have h1 := (h (r, seg) List.mem_cons_self).2
    have h2 := ih fun c hc => h c (List.mem_cons_of_mem _ hc)
    rw [held_cons, List.length_append]
    simp only [room, List.map_cons, List.sum_cons] at h2 ⊢
    have h1' : seg.length ≤ r := h1
    omega
theorem lay_held : ∀ {cs : List (Nat × List α)} {x : α}, Fits cs → held (lay cs x).1 ++ (lay cs x).2.toList = x :: held cs
  | [], x, _ => rfl
  | (r, seg) :: rest, x, h => by
    unfold lay
    split
    · rename_i hf
      have hr : 1 ≤ r := (h (r, seg) List.mem_cons_self).1
      split
      · rename_i y hy
        have ih := lay_held (cs := rest) (x := y) fun c hc => h c (List.mem_cons_of_mem _ hc)
        have hs : seg.dropLast ++ [y] = seg := by obtain ⟨ys, e⟩ := List.getLast?_eq_some_iff.mp hy; rw [e]; simp
        show held ((r, x :: seg.dropLast) :: (lay rest y).1) ++ (lay rest y).2.toList = _
        rw [held_cons, held_cons, List.append_assoc, ih]
        conv => rhs; rw [← hs]
        simp
      · rename_i hy
        have : seg = [] := List.getLast?_eq_none_iff.mp hy
        rw [this] at hf
        simp at hf
        omega
    · simp [held_cons]
theorem lay_fits : ∀ {cs : List (Nat × List α)} {x : α}, Fits cs → Fits (lay cs x).1
  | [], _, _ => fun _ h => (nomatch h)
  | (r, seg) :: rest, x, h => by
    have hr := h (r, seg) List.mem_cons_self
    have hrest : Fits rest := fun c hc => h c (List.mem_cons_of_mem _ hc)
    unfold lay
    split
    · rename_i hf
      split
      · rename_i y hy
        intro c hc
        rcases List.mem_cons.mp hc with rfl | hc
        · refine ⟨hr.1, ?_⟩
          simp only [List.length_cons, List.length_dropLast]
          have := hr.1
          simp only at this
          omega
        · exact lay_fits hrest c hc
      · intro c hc
        rcases List.mem_cons.mp hc with rfl | hc
        · exact ⟨hr.1, by simpa using hr.1⟩
        · exact hrest c hc
    · rename_i hf
      intro c hc
      rcases List.mem_cons.mp hc with rfl | hc
      · refine ⟨hr.1, ?_⟩
        have h2 : seg.length ≤ r := hr.2
        simp only [List.length_cons]
        omega
      · exact hrest c hc
theorem lay_room : ∀ {cs : List (Nat × List α)} {x : α}, (lay cs x).1.map (·.1) = cs.map (·.1)
  | [], _ => rfl
  | (r, seg) :: rest, x => by
    unfold lay
    split
    · split
      · rename_i y _
        simp only [List.map_cons, lay_room (cs := rest) (x := y)]
      · rfl
    · rfl
/-- something falls out at the chain's end only where each cache is full -/
theorem lay_full : ∀ {cs : List (Nat × List α)} {x y : α}, Fits cs → (lay cs x).2 = some y → (held cs).length = room cs
  | [], _, _, _, _ => rfl
  | (r, seg) :: rest, x, y, h, he => by
    have hrest : Fits rest := fun c hc => h c (List.mem_cons_of_mem _ hc)
    unfold lay at he
    split at he
    · rename_i hf
      split at he
      · rename_i z _
        have ih := lay_full (cs := rest) (x := z) hrest he
        rw [held_cons, List.length_append, ih, hf]
        simp [room]
      · cases he
    · cases he
/-- what the law asks of a laying: the row's first places stay, what is beyond them falls out -/
theorem lay_law {cs : List (Nat × List α)} {x : α} (h : Fits cs) : held (lay cs x).1 = (x :: held cs).take (room cs) ∧ (lay cs x).2.toList = (x :: held cs).drop (room cs) := by
  have e := lay_held (x := x) h
  have hf := (lay_fits (x := x) h).le
  have hr : room (lay cs x).1 = room cs := by unfold room; rw [lay_room]
  rw [hr] at hf
  cases hl : (lay cs x).2 with
  | none =>
    rw [hl] at e
    have e' : held (lay cs x).1 = x :: held cs := by simpa using e
    rw [← e', List.take_of_length_le hf, List.drop_eq_nil_of_le hf]
    exact ⟨rfl, rfl⟩
  | some y =>
    have full := lay_full h hl
    rw [hl] at e
    have hlen : (held (lay cs x).1).length = room cs := by
      have := congrArg List.length e
      simp at this
      omega
    rw [← e, ← hlen]
    simp
/-- a key taken out of a chain (of pairs) -/
def out {κ β : Type} [DecidableEq κ] (k : κ) (l : List (κ × β)) : List (κ × β) := l.filter fun p => decide (p.1 ≠ k)
theorem held_out {κ β : Type} [DecidableEq κ] (k : κ) : ∀ cs : List (Nat × List (κ × β)), held (cs.map fun c => (c.1, out k c.2)) = out k (held cs)
  | [] => rfl
  | (r, seg) :: cs => by
    rw [List.map_cons, held_cons, held_cons, held_out k cs]
    exact (List.filter_append ..).symm
theorem fits_out {κ β : Type} [DecidableEq κ] {k : κ} {cs : List (Nat × List (κ × β))} (h : Fits cs) : Fits (cs.map fun c => (c.1, out k c.2)) := fun c hc => by
  obtain ⟨c', hc', rfl⟩ := List.mem_map.mp hc
  exact ⟨(h c' hc').1, Nat.le_trans (List.length_filter_le ..) (h c' hc').2⟩
theorem room_out {κ β : Type} [DecidableEq κ] {k : κ} {cs : List (Nat × List (κ × β))} : room (cs.map fun c => (c.1, out k c.2)) = room cs := by
  unfold room; rw [List.map_map]; rfl
/-- what the last cache that holds something gives out is the row's last -/
theorem held_last {cs rest : List (Nat × List α)} {r : Nat} {seg : List α} {y : α} (h : ∀ c ∈ rest, c.2 = []) : (held (cs ++ (r, seg ++ [y]) :: rest)) = held (cs ++ (r, seg) :: rest) ++ [y] := by
  have hr : held rest = [] := by
    induction rest with
    | nil => rfl
    | cons c rest ih =>
      have h1 := h c List.mem_cons_self
      have h2 := ih fun c hc => h c (List.mem_cons_of_mem _ hc)
      show c.2 ++ held rest = []
      rw [h1, h2]; rfl
  have ha : ∀ a b : List (Nat × List α), held (a ++ b) = held a ++ held b := fun a b => by unfold held; rw [List.map_append, List.flatten_append]
  rw [ha, ha, held_cons, held_cons, hr]
  simp
end Mine
end
section
open PySem PySem.W PySem.Spec PySem.Calls PyProof.Rows PyProof.V
namespace Mine
/-- the pairs kvs of a cache's data hold what seg says -/
structure KV (kvs : List (Str × Value)) (seg : List (Str × Int)) : Prop where
  perm : (kvs.map (·.1)).Perm (seg.map (·.1))
  val : ∀ p ∈ seg, ∃ t, valueAt kvs p.1 = some (.int p.2 t)
abbrev keys (seg : List (Str × Int)) : List Str := seg.map (·.1)
section
variable {kvs : List (Str × Value)} {seg : List (Str × Int)} {k : Str} {p : Int} {t : Tok}
theorem KV.nil : KV [] [] := ⟨.refl _, fun _ h => (nomatch h)⟩
theorem KV.len (h : KV kvs seg) : kvs.length = seg.length := by have := h.perm.length_eq; simpa using this
theorem KV.none (h : KV kvs seg) (hk : k ∉ keys seg) : valueAt kvs k = .none := valueAt_none fun z => hk (h.perm.mem_iff.mp z)
theorem out_keys (k : Str) (seg : List (Str × Int)) : keys (out k seg) = (keys seg).filter fun x => decide (x ≠ k) := by
  unfold out keys
  rw [List.filter_map]; rfl
theorem out_of_not (h : k ∉ keys seg) : out k seg = seg := by
  unfold out
  rw [List.filter_eq_self]
  intro q hq
  simpa using fun e => h (List.mem_map.mpr ⟨q, hq, e⟩)
theorem out_not (k : Str) (seg : List (Str × Int)) : k ∉ keys (out k seg) := by
  rw [out_keys]
  simp
theorem out_nodup (h : (keys seg).Nodup) : (keys (out k seg)).Nodup := by rw [out_keys]; exact h.filter _
theorem out_len (k : Str) (seg : List (Str × Int)) : (out k seg).length ≤ seg.length := List.length_filter_le ..
theorem out_len_in (hn : (keys seg).Nodup) (h : k ∈ keys seg) : (out k seg).length + 1 = seg.length := by
  have e : (out k seg).length = (keys (out k seg)).length := (List.length_map ..).symm
  rw [e, out_keys, erase_filter hn, List.length_erase_of_mem h, List.length_map]
  have := List.length_pos_of_mem h
  rw [List.length_map] at this
  omega
theorem KV.out (h : KV kvs seg) (k : Str) : KV (without kvs k) (out k seg) := by
  refine ⟨?_, fun q hq => ?_⟩
  · rw [without_keys]
    show List.Perm _ (keys (Mine.out k seg))
    rw [out_keys]
    exact h.perm.filter _
  · have hm := List.mem_filter.mp hq
    have : q.1 ≠ k := by simpa using hm.2
    rw [valueAt_without this]
    exact h.val q hm.1
theorem KV.put (h : KV kvs seg) (hk : k ∉ keys seg) : KV (stored kvs k (.int p t)) ((k, p) :: seg) := by
  refine ⟨?_, fun q hq => ?_⟩
  · rw [stored_absent (h.none hk), List.map_append]
    exact (List.perm_append_comm).trans (h.perm.cons k)
  · rcases List.mem_cons.mp hq with rfl | hq
    · exact ⟨t, valueAt_stored _ _ _⟩
    · have : q.1 ≠ k := fun e => hk (List.mem_map.mpr ⟨q, hq, e⟩)
      rw [valueAt_other this]
      exact h.val q hq
theorem stored_keys (h : valueAt kvs k ≠ none) (v : Value) : (stored kvs k v).map (·.1) = kvs.map (·.1) := by
  unfold stored
  rw [if_pos (by
    have : (valueAt kvs k).isSome = true := by cases e : valueAt kvs k <;> simp_all
    rw [valueAt_isSome_eq_any] at this; exact this), List.map_map]
  exact List.map_congr_left fun x _ => by
    by_cases hx : x.1 = k <;> simp [hx]
theorem KV.change (h : KV kvs seg) (hn : (keys seg).Nodup) (hk : k ∈ keys seg) : KV (stored kvs k (.int p t)) ((k, p) :: Mine.out k seg) := by
  obtain ⟨q, hq, rfl⟩ := List.mem_map.mp hk
  obtain ⟨t0, hv⟩ := h.val q hq
  refine ⟨?_, fun r hr => ?_⟩
  · rw [stored_keys (by rw [hv]; simp)]
    refine h.perm.trans ?_
    show List.Perm (keys seg) (q.1 :: keys (Mine.out q.1 seg))
    rw [out_keys, erase_filter hn]
    exact List.perm_cons_erase hk
  · rcases List.mem_cons.mp hr with rfl | hr
    · exact ⟨t, valueAt_stored _ _ _⟩
    · have hm := List.mem_filter.mp hr
      have : r.1 ≠ q.1 := by simpa using hm.2
      rw [valueAt_other this]
      exact h.val r hm.1
theorem KV.same (h : KV kvs seg) {seg' : List (Str × Int)} (hp : seg'.Perm seg) : KV kvs seg' := ⟨h.perm.trans (hp.symm.map _), fun q hq => h.val q (hp.mem_iff.mp hq)⟩
theorem seg_perm (hn : (keys seg).Nodup) (h : (k, p) ∈ seg) : ((k, p) :: Mine.out k seg).Perm seg := by
  induction seg with
  | nil => cases h
  | cons a r ih =>
    have hn' := List.nodup_cons.mp (show (a.1 :: keys r).Nodup from hn)
    rcases List.mem_cons.mp h with e | hr
    · subst e
      have : Mine.out k ((k, p) :: r) = r := by
        show ((k, p) :: r).filter _ = r
        rw [List.filter_cons]
        simp only [ne_eq, not_true, decide_false, Bool.false_eq_true, if_false]
        exact out_of_not hn'.1
      rw [this]
    · have hak : a.1 ≠ k := fun e => hn'.1 (e ▸ List.mem_map.mpr ⟨_, hr, rfl⟩)
      have : Mine.out k (a :: r) = a :: Mine.out k r := by
        show (a :: r).filter _ = _
        rw [List.filter_cons, if_pos (by simpa using hak)]; rfl
      rw [this]
      exact (List.Perm.swap ..).trans ((ih hn'.2 hr).cons a)
theorem ord_out (k : Str) (seg : List (Str × Int)) : without (nones (keys seg).reverse) k = nones (keys (Mine.out k seg)).reverse := by
  rw [nones_without, out_keys, List.filter_reverse]
theorem ord_put (h : k ∉ keys seg) : stored (nones (keys seg).reverse) k .none = nones (keys ((k, p) :: seg)).reverse := by
  rw [nones_stored (fun z => h (List.mem_reverse.mp z))]
  simp [keys]
theorem ord_touch (k : Str) (seg : List (Str × Int)) : stored (without (nones (keys seg).reverse) k) k .none = nones (keys ((k, p) :: Mine.out k seg)).reverse := by
  rw [ord_out, ord_put (p := p) (out_not k seg)]
theorem ord_some (h : k ∈ keys seg) : valueAt (nones (keys seg).reverse) k = some .none := nones_some (List.mem_reverse.mpr h)
theorem ord_none (h : k ∉ keys seg) : valueAt (nones (keys seg).reverse) k = none := nones_none fun z => h (List.mem_reverse.mp z)
theorem out_out (k : Str) (seg : List (Str × Int)) : Mine.out k ((k, p) :: Mine.out k seg) = Mine.out k seg := by
  show ((k, p) :: Mine.out k seg).filter _ = _
  rw [List.filter_cons]
  simp only [ne_eq, not_true, decide_false, Bool.false_eq_true, if_false]
  exact out_of_not (out_not k seg)
theorem nones_len (l : List Str) : (nones l).length = l.length := by unfold nones; rw [List.length_map]
theorem ord_len (seg : List (Str × Int)) : (nones (keys seg).reverse).length = seg.length := by rw [nones_len, List.length_reverse, List.length_map]
theorem keys_mem (h : (k, p) ∈ seg) : k ∈ keys seg := List.mem_map.mpr ⟨_, h, rfl⟩
theorem key_one (hn : (keys seg).Nodup) {p' : Int} (h : (k, p) ∈ seg) (h' : (k, p') ∈ seg) : p = p' := by
  induction seg with
  | nil => cases h
  | cons a r ih =>
    have hn' := List.nodup_cons.mp (show (a.1 :: keys r).Nodup from hn)
    rcases List.mem_cons.mp h with e | hr
    · rcases List.mem_cons.mp h' with e' | hr'
      · rw [← e] at e'; exact (Prod.mk.inj e').2.symm
      · exact absurd (keys_mem hr') (by rw [show k = a.1 from by rw [← e]]; exact hn'.1)
    · rcases List.mem_cons.mp h' with e' | hr'
      · exact absurd (keys_mem hr) (by rw [show k = a.1 from by rw [← e']]; exact hn'.1)
      · exact ih hn'.2 hr hr'
theorem mem_of_key (h : k ∈ keys seg) : ∃ p, (k, p) ∈ seg := by
  obtain ⟨q, hq, e⟩ := List.mem_map.mp h
  exact ⟨q.2, by rw [← e]; exact hq⟩
end
end Mine
end
section
open PySem PySem.W PySem.Spec PySem.Calls PyProof.Rows PyProof.V
namespace Mine
/-- what a call is handed beside the cache -/
structure Arg where
  k : Str
  t : Tok
  p : Int
  u : Tok
abbrev Seg := List (Str × Int)
section
variable {prog : Program} {w : World} (P : Params) (knd : PySem.KeyKind prog w Str) (C : Addr) (on : Str)
/-- objs are the cache at c, which holds seg, the newest first -/
def CellIs (c : Loc) (seg : Seg) (objs : List (Addr × Obj)) : Prop :=
  ∃ te o1 o2 kvs, objs = led P C on c (seg.length : Int) te o1 o2 ∧ o1.IsDictOf knd kvs ∧ o2.IsDictOf knd (nones (keys seg).reverse) ∧ KV kvs seg ∧ (keys seg).Nodup ∧ (seg.length : Int) ≤ c.mx ∧ 1 ≤ c.mx ∧ c.mx ≤ 9 ∧ c.Ok
end
section
variable {prog : Program} (KK : Params → Frag) (q : Program) (knd : ∀ w, PySem.KeyKind prog w Str) (C : Addr) (on : Str)
/-- what a function does with a cache -/
def COp (D fn : Nat) (as : Loc → Arg → List Value) (Pre : Loc → Seg → Arg → Prop) (Post : Loc → Seg → Arg → Value → List (Addr × Obj) → Seg → Prop) : Prop :=
  ∀ {w : World} {s : Shared} {c : Loc} {seg : Seg} {objs : List (Addr × Obj)} (a : Arg), CellIs w.params (knd w) C on c seg objs → Pre c seg a →
    Callee (prog := prog) KK q D fn (as c a) objs w s fun v own' => ∃ more objs' seg', own' = more ++ objs' ∧ CellIs w.params (knd w) C on c seg' objs' ∧ Post c seg a v more seg'
abbrev asK : Loc → Arg → List Value := fun c a => [.ref c.x, .str a.k a.t]
abbrev asKV : Loc → Arg → List Value := fun c a => [.ref c.x, .str a.k a.t, .int a.p a.u]
abbrev asKN : Loc → Arg → List Value := fun c a => [.ref c.x, .str a.k a.t, .none]
abbrev as0 : Loc → Arg → List Value := fun c _ => [.ref c.x]
def OGet (fn : Nat) (touch : Bool) : Prop := COp KK q knd C on 350 fn asK (fun _ seg a => (a.k, a.p) ∈ seg) fun _ seg a v more seg' => more = [] ∧ (∃ t, v = .int a.p t) ∧ seg' = if touch then (a.k, a.p) :: out a.k seg else seg
def OPop (fn : Nat) : Prop := COp KK q knd C on 350 fn asK (fun _ seg a => (a.k, a.p) ∈ seg) fun _ seg a v more seg' => more = [] ∧ (∃ t, v = .int a.p t) ∧ seg' = out a.k seg
def OPopD (fn : Nat) : Prop := COp KK q knd C on 350 fn asKN (fun _ _ _ => True) fun _ seg a v more seg' => more = [] ∧ ((a.k ∉ keys seg ∧ v = .none) ∨ ∃ p t, (a.k, p) ∈ seg ∧ v = .int p t) ∧ seg' = out a.k seg
def OLost (fn : Nat) : Prop := COp KK q knd C on 350 fn asK (fun _ seg a => a.k ∉ keys seg) fun _ seg _ v more seg' => more = [] ∧ v = .bool true ∧ seg' = seg
def OSet (fn : Nat) : Prop := COp KK q knd C on 350 fn asKV (fun _ _ _ => True) fun c seg a v more seg' => more = [] ∧ v = .none ∧ seg' = ((a.k, a.p) :: out a.k seg).take c.mx.toNat
def OPopitem (fn : Nat) : Prop := COp KK q knd C on 350 fn as0 (fun _ seg _ => seg ≠ []) fun _ seg _ v more seg' => ∃ T k p t u, seg = seg' ++ [(k, p)] ∧ v = .ref T ∧ more = [(T, { cls := .type "tuple", data := .seq #[.str k t, .int p u] })]
def OHas (fn : Nat) : Prop := COp KK q knd C on 350 fn asK (fun _ _ _ => True) fun _ seg a v more seg' => more = [] ∧ v = .bool (decide (a.k ∈ keys seg)) ∧ seg' = seg
def OLen (fn : Nat) : Prop := COp KK q knd C on 350 fn as0 (fun _ _ _ => True) fun _ seg _ v more seg' => more = [] ∧ (∃ t, v = .int (seg.length : Int) t) ∧ seg' = seg
def OMax (fn : Nat) : Prop := COp KK q knd C on 350 fn as0 (fun _ _ _ => True) fun c seg _ v more seg' => more = [] ∧ (∃ t, v = .int c.mx t) ∧ seg' = seg
end
section
variable {prog : Program} {KK : Params → Frag} {q : Program} {knd : ∀ w, PySem.KeyKind prog w Str} {C : Addr} {on : Str} {fn : Nat}
theorem Sur.less {D D' : Nat} {w : World} {base g : Heap} {fr : List Env} {gs : Option (List Code)} {mean : ExcName → Option Value} {mg mb : Str → Option Value} {lse : List Str} (S : Sur KK q D w base g fr gs mean mg mb lse) : Sur KK q D' w base g fr gs mean mg mb lse := ⟨⟨rfl, S.B.stays, S.B.frames⟩, S.sz, S.X, S.T⟩
theorem code_less {M : Model} {D D' : Nat} {fr : List Env} {gs : Option (List Code)} {c : Code} {R : Result → Shared → Prop} {s : Shared} (hD : D ≤ D') (h : codeAny M (arnd D' D' fr gs) c R s) : codeAny M (arnd D D fr gs) c R s :=
  code_up (A := arnd D D fr gs) h rfl rfl hD hD
theorem OGet.of {touch : Bool} (d : GtHit KK q knd Value.str C on fn touch) : OGet KK q knd C on fn touch := by
  intro w s c seg objs a ⟨te, o1, o2, kvs, e, D1, D2, kv, hn, hl, m1, m9, ok⟩ hp base g fr gs mean mg mb lse R S ft hR
  subst e
  obtain ⟨t, hv⟩ := kv.val _ hp
  have hle := kv.len
  have hlo := ord_len seg
  refine code_less (show 350 ≤ 350 by decide) (d (v := .int a.p t) (dv := .none) S.less ok ⟨te, o1, o2, ft, D1, D2⟩ ⟨hv, ord_some (keys_mem hp), by omega, by omega⟩ fun g' h' tk' u cc => ?_)
  obtain ⟨te', p1, p2, ft', D1', D2'⟩ := cc
  have pm := seg_perm hn hp
  have D2x : p2.IsDictOf (knd w) (nones (keys (if touch then (a.k, a.p) :: out a.k seg else seg)).reverse) := by
    cases touch with
    | false => exact D2'
    | true =>
      have := D2'
      simp only [if_true] at this
      rw [ord_touch (p := a.p)] at this
      exact this
  have px : (if touch then (a.k, a.p) :: out a.k seg else seg).Perm seg := by cases touch <;> first | exact .refl _ | exact pm
  refine hR g' h' tk' _ _ u ft' ⟨[], _, _, rfl, ⟨te', p1, p2, kvs, ?_, D1', D2x, kv.same px, (px.map _).nodup_iff.mpr hn, ?_, m1, m9, ok⟩, rfl, ⟨t, rfl⟩, rfl⟩
  · rw [px.length_eq]
  · rw [px.length_eq]; exact hl
theorem OPop.of {touch : Bool} (d : PpHit KK q knd Value.str C on fn touch) : OPop KK q knd C on fn := by
  intro w s c seg objs a ⟨te, o1, o2, kvs, e, D1, D2, kv, hn, hl, m1, m9, ok⟩ hp base g fr gs mean mg mb lse R S ft hR
  subst e
  obtain ⟨t, hv⟩ := kv.val _ hp
  have hle := kv.len
  have hlo := ord_len seg
  have hol := out_len_in hn (keys_mem hp)
  refine d (v := .int a.p t) (dv := .none) S ok ⟨te, o1, o2, ft, D1, D2⟩ ⟨hv, ord_some (keys_mem hp), by omega, by omega⟩ fun g' h' tk' u cc => ?_
  obtain ⟨te', p1, p2, ft', D1', D2'⟩ := cc
  have D2x : p2.IsDictOf (knd w) (nones (keys (out a.k seg)).reverse) := by
    cases touch with
    | false => have := D2'; simp only [Bool.false_eq_true, if_false] at this; rw [ord_out] at this; exact this
    | true =>
      have := D2'
      simp only [if_true] at this
      rw [ord_touch (p := a.p), ord_out, out_out] at this
      exact this
  refine hR g' h' tk' _ _ u ft' ⟨[], _, _, rfl, ⟨te', p1, p2, _, ?_, D1', D2x, kv.out a.k, out_nodup hn, by omega, m1, m9, ok⟩, rfl, ⟨t, rfl⟩, rfl⟩
  show led _ _ _ _ ((seg.length : Int) - 1) _ _ _ = led _ _ _ _ ((out a.k seg).length : Int) _ _ _
  rw [show ((seg.length : Int) - 1) = ((out a.k seg).length : Int) by omega]
theorem OPopD.of {touch : Bool} (d : PdHit KK q knd Value.str C on fn touch) (d0 : PdMiss KK q knd Value.str C on fn) : OPopD KK q knd C on fn := by
  intro w s c seg objs a ⟨te, o1, o2, kvs, e, D1, D2, kv, hn, hl, m1, m9, ok⟩ _ base g fr gs mean mg mb lse R S ft hR
  subst e
  have hle := kv.len
  have hlo := ord_len seg
  by_cases hk : a.k ∈ keys seg
  · obtain ⟨p, hp⟩ := mem_of_key hk
    obtain ⟨t, hv⟩ := kv.val _ hp
    have hol := out_len_in hn hk
    refine d (v := .int p t) (dv := .none) S ok ⟨te, o1, o2, ft, D1, D2⟩ ⟨hv, ord_some hk, by omega, by omega⟩ fun g' h' tk' u cc => ?_
    obtain ⟨te', p1, p2, ft', D1', D2'⟩ := cc
    have D2x : p2.IsDictOf (knd w) (nones (keys (out a.k seg)).reverse) := by
      cases touch with
      | false => have := D2'; simp only [Bool.false_eq_true, if_false] at this; rw [ord_out] at this; exact this
      | true =>
        have := D2'
        simp only [if_true] at this
        rw [ord_touch (p := p), ord_out, out_out] at this
        exact this
    refine hR g' h' tk' _ _ u ft' ⟨[], _, _, rfl, ⟨te', p1, p2, _, ?_, D1', D2x, kv.out a.k, out_nodup hn, by omega, m1, m9, ok⟩, rfl, .inr ⟨p, t, hp, rfl⟩, rfl⟩
    show led _ _ _ _ ((seg.length : Int) - 1) _ _ _ = led _ _ _ _ ((out a.k seg).length : Int) _ _ _
    rw [show ((seg.length : Int) - 1) = ((out a.k seg).length : Int) by omega]
  · refine d0 (v := .none) (dv := .none) S ok ⟨te, o1, o2, ft, D1, D2⟩ ⟨kv.none hk, by omega⟩ fun g' h' tk' u cc => ?_
    obtain ⟨te', p1, p2, ft', D1', D2'⟩ := cc
    exact hR g' h' tk' _ _ u ft' ⟨[], _, seg, rfl, ⟨te', p1, p2, _, rfl, D1', D2', kv, hn, hl, m1, m9, ok⟩, rfl, .inl ⟨hk, rfl⟩, (out_of_not hk).symm⟩
theorem OLost.of (d : Lost KK q knd Value.str C on fn) : OLost KK q knd C on fn := by
  intro w s c seg objs a ⟨te, o1, o2, kvs, e, D1, D2, kv, hn, hl, m1, m9, ok⟩ hk base g fr gs mean mg mb lse R S ft hR
  subst e
  have hle := kv.len
  refine d (v := .none) (dv := .none) S ok ⟨te, o1, o2, ft, D1, D2⟩ ⟨kv.none hk, by omega⟩ fun g' h' tk' u cc => ?_
  obtain ⟨te', p1, p2, ft', D1', D2'⟩ := cc
  exact hR g' h' tk' _ _ u ft' ⟨[], _, seg, rfl, ⟨te', p1, p2, _, rfl, D1', D2', kv, hn, hl, m1, m9, ok⟩, rfl, rfl, rfl⟩
theorem OSet.of (d1 : StHit KK q knd Value.str C on fn) (d2 : StNew KK q knd Value.str C on fn) (d3 : StFull KK q knd Value.str C on fn) : OSet KK q knd C on fn := by
  intro w s c seg objs a ⟨te, o1, o2, kvs, e, D1, D2, kv, hn, hl, m1, m9, ok⟩ _ base g fr gs mean mg mb lse R S ft hR
  subst e
  have hle := kv.len
  have hlo := ord_len seg
  by_cases hk : a.k ∈ keys seg
  · obtain ⟨p, hp⟩ := mem_of_key hk
    obtain ⟨t, hv⟩ := kv.val _ hp
    have hol := out_len_in hn hk
    have et : ((a.k, a.p) :: out a.k seg).take c.mx.toNat = (a.k, a.p) :: out a.k seg := List.take_of_length_le (by rw [List.length_cons]; omega)
    refine code_less (show 350 ≤ 380 by decide) (d1 (v := .int p t) (dv := .int a.p a.u) S.less ok ⟨te, o1, o2, ft, D1, D2⟩ ⟨hv, ord_some hk, m1, by omega, by omega, by omega⟩ fun g' h' tk' u cc => ?_)
    obtain ⟨te', p1, p2, ft', D1', D2'⟩ := cc
    have D2x : p2.IsDictOf (knd w) (nones (keys ((a.k, a.p) :: out a.k seg)).reverse) := by rw [← ord_touch]; exact D2'
    refine hR g' h' tk' _ _ u ft' ⟨[], _, (a.k, a.p) :: out a.k seg, rfl, ⟨te', p1, p2, _, ?_, D1', D2x, kv.change hn hk, List.nodup_cons.mpr ⟨out_not _ _, out_nodup hn⟩, by rw [List.length_cons]; omega, m1, m9, ok⟩, rfl, rfl, et.symm⟩
    rw [List.length_cons, hol]
  · have eo := out_of_not hk
    by_cases hf : (seg.length : Int) < c.mx
    · have et : ((a.k, a.p) :: out a.k seg).take c.mx.toNat = (a.k, a.p) :: seg := by rw [eo, List.take_of_length_le (by rw [List.length_cons]; omega)]
      refine code_less (show 350 ≤ 380 by decide) (d2 (v := .none) (dv := .int a.p a.u) S.less ok ⟨te, o1, o2, ft, D1, D2⟩ ⟨kv.none hk, ord_none hk, hf, m1, by omega, by omega, by omega⟩ fun g' h' tk' u cc => ?_)
      obtain ⟨te', p1, p2, ft', D1', D2'⟩ := cc
      have D2x : p2.IsDictOf (knd w) (nones (keys ((a.k, a.p) :: seg)).reverse) := by rw [← ord_put hk]; exact D2'
      exact hR g' h' tk' _ _ u ft' ⟨[], _, (a.k, a.p) :: seg, rfl, ⟨te', p1, p2, _, by rw [List.length_cons]; rfl, D1', D2x, kv.put hk, List.nodup_cons.mpr ⟨hk, hn⟩, by rw [List.length_cons]; omega, m1, m9, ok⟩, rfl, rfl, et.symm⟩
    · obtain ⟨seg0, ⟨k0, p0⟩, es⟩ : ∃ s0 y, seg = s0 ++ [y] := by
        rcases List.eq_nil_or_concat seg with e | ⟨s0, y, e⟩
        · rw [e] at hf hl; simp at hf hl; omega
        · exact ⟨s0, y, by rw [e, List.concat_eq_append]⟩
      subst es
      have hn0 : k0 ∉ keys seg0 := by
        have : ((keys seg0) ++ [k0]).Nodup := by simpa [keys] using hn
        intro z
        exact (List.nodup_append.mp this).2.2 k0 z k0 (by simp) rfl
      have hnn : (keys seg0).Nodup := by
        have : ((keys seg0) ++ [k0]).Nodup := by simpa [keys] using hn
        exact (List.nodup_append.mp this).1
      have hk0 : a.k ≠ k0 := fun e => hk (by rw [e]; simp [keys])
      have hks : a.k ∉ keys seg0 := fun z => hk (by simp only [keys, List.map_append, List.mem_append]; exact .inl z)
      have eo0 : out k0 (seg0 ++ [(k0, p0)]) = seg0 := by
        have : out k0 (seg0 ++ [(k0, p0)]) = out k0 seg0 ++ out k0 [(k0, p0)] := List.filter_append ..
        rw [this, out_of_not hn0]
        simp [out]
      have ll : (seg0 ++ [(k0, p0)]).length = seg0.length + 1 := by simp
      rw [ll] at hf hl hle hlo
      have et : ((a.k, a.p) :: out a.k (seg0 ++ [(k0, p0)])).take c.mx.toNat = (a.k, a.p) :: seg0 := by
        rw [eo, show c.mx.toNat = seg0.length + 1 by omega, List.take_succ_cons, List.take_append_of_le_length (Nat.le_refl _), List.take_length]
      obtain ⟨t, hv⟩ := kv.val (k0, p0) (by simp)
      have eord : nones (keys (seg0 ++ [(k0, p0)])).reverse = (k0, .none) :: nones (keys seg0).reverse := by simp [keys, nones]
      have hwo : valueAt (without (nones (keys (seg0 ++ [(k0, p0)])).reverse) k0) a.k = none := by rw [ord_out, eo0]; exact ord_none hks
      have hfst : first (nones (keys (seg0 ++ [(k0, p0)])).reverse) a.k = k0 := by rw [eord]; rfl
      refine code_less (show 350 ≤ 380 by decide) (d3 (v := .none) (dv := .int a.p a.u) S.less ok ⟨te, o1, o2, ft, D1, D2⟩ ⟨k0, _, _, eord, by rw [ll]; omega, hv, kv.none hk, by rw [valueAt_without hk0]; exact kv.none hk, hwo, m1, by omega, by omega, by rw [ord_len]; omega⟩ fun g' h' tk' u cc => ?_)
      dsimp only at cc
      rw [hfst, ord_out, eo0, ord_put (p := a.p) hks] at cc
      obtain ⟨te', p1, p2, ft', D1', D2'⟩ := cc
      have kv0 := kv.out k0
      rw [eo0] at kv0
      refine hR g' h' tk' _ _ u ft' ⟨[], _, (a.k, a.p) :: seg0, rfl, ⟨te', p1, p2, _, ?_, D1', D2', kv0.put hks, List.nodup_cons.mpr ⟨hks, hnn⟩, by rw [List.length_cons]; omega, m1, m9, ok⟩, rfl, rfl, et.symm⟩
      rw [List.length_cons, show c.mx - 1 + 1 = ((seg0.length + 1 : Nat) : Int) by omega]
theorem OPopitem.of (d : Popped KK q knd Value.str C on fn) : OPopitem KK q knd C on fn := by
  intro w s c seg objs a ⟨te, o1, o2, kvs, e, D1, D2, kv, hn, hl, m1, m9, ok⟩ hne base g fr gs mean mg mb lse R S ft hR
  subst e
  have hle := kv.len
  obtain ⟨seg0, ⟨k0, p0⟩, es⟩ : ∃ s0 y, seg = s0 ++ [y] := by
    rcases List.eq_nil_or_concat seg with e | ⟨s0, y, e⟩
    · exact absurd e hne
    · exact ⟨s0, y, by rw [e, List.concat_eq_append]⟩
  subst es
  have hn2 : ((keys seg0) ++ [k0]).Nodup := by simpa [keys] using hn
  have hn0 : k0 ∉ keys seg0 := fun z => (List.nodup_append.mp hn2).2.2 k0 z k0 (by simp) rfl
  have eo0 : out k0 (seg0 ++ [(k0, p0)]) = seg0 := by
    have : out k0 (seg0 ++ [(k0, p0)]) = out k0 seg0 ++ out k0 [(k0, p0)] := List.filter_append ..
    rw [this, out_of_not hn0]
    simp [out]
  have ll : (seg0 ++ [(k0, p0)]).length = seg0.length + 1 := by simp
  obtain ⟨t, hv⟩ := kv.val (k0, p0) (by simp)
  have eord : nones (keys (seg0 ++ [(k0, p0)])).reverse = (k0, .none) :: nones (keys seg0).reverse := by simp [keys, nones]
  have D2e : o2.IsDictOf (knd w) ((k0, .none) :: nones (keys seg0).reverse) := by rw [← eord]; exact D2
  refine d (v := .int p0 t) S ok ⟨te, o1, o2, ft, D1, D2e⟩ hv (by rw [hle]; omega) (by rw [ord_len]; omega) fun g' h' tk' T t' u cc => ?_
  rw [← eord, ord_out, eo0] at cc
  obtain ⟨te', p1, p2, ft', D1', D2'⟩ := cc
  have kv0 := kv.out k0
  rw [eo0] at kv0
  refine hR g' h' tk' _ _ u ft' ⟨_, _, seg0, rfl, ⟨te', p1, p2, _, ?_, D1', D2', kv0, (List.nodup_append.mp hn2).1, by omega, m1, m9, ok⟩, T, k0, p0, t', t, rfl, rfl, rfl⟩
  rw [ll, show ((seg0.length + 1 : Nat) : Int) - 1 = (seg0.length : Int) by omega]
end
end Mine
end
section
open PySem PySem.W PySem.Spec PySem.Calls PyProof.Rows
namespace Mine
section
variable {prog : Program} (KK : Params → Frag) (q : Program) (knd : ∀ w, PySem.KeyKind prog w Str) (C : Addr) (on : Str)
/-- whether a key is there -/
def Has (fn : Addr) : Prop := Deed KK q knd C on 350 fn (fun c k tk _ => [.ref c.x, .str k tk]) (fun _ _ kvs _ _ _ _ => kvs.length ≤ 12) (fun _ cur kvs ov k _ _ => (.bool (valueAt kvs k).isSome, cur, kvs, ov))
/-- the room -/
def Mxs (fn : Addr) : Prop := Deed KK q knd C on 350 fn (fun c _ _ _ => [.ref c.x]) (fun _ _ _ _ _ _ _ => True) (fun c cur kvs ov _ _ _ => (.int c.mx c.tf, cur, kvs, ov))
/-- how many -/
def Lens (fn : Addr) : Prop :=
  ∀ {w : World} {s : Shared} {c : Loc} {cur : Int} {kvs ov : List (Str × Value)} {base g : Heap} {fr : List Env} {gs mean mg mb lse} {R : Result → Shared → Prop},
  Sur KK q 350 w base g fr gs mean mg mb lse → c.Ok → Cash knd C on w c g s.heap cur [] kvs ov → kvs.length ≤ 12 →
  (∀ g' h' tk' t, Up base fr g g' → Cash knd C on w c g' h' cur [] kvs ov → R (.ok (.ret (.int (kvs.length : Int) t))) { s with heap := h', toks := tk' }) →
  codeAny (model prog w) (arnd 350 350 fr gs) (.call (.ref fn) ⟨[.ref c.x], []⟩) R s
/-- an iterator over the keys -/
def Iters (fn : Addr) : Prop :=
  ∀ {w : World} {s : Shared} {c : Loc} {cur : Int} {kvs ov : List (Str × Value)} {base g : Heap} {fr : List Env} {gs mean mg mb lse} {R : Result → Shared → Prop},
  Sur KK q 350 w base g fr gs mean mg mb lse → c.Ok → Cash knd C on w c g s.heap cur [] kvs ov → kvs.length ≤ 12 →
  (∀ g' h' tk' I oI ep, Up base fr g g' → Cash knd C on w c g' h' cur [(I, oI)] kvs ov → h'.IsKeyIter I c.d1 0 kvs.length ep → h'.DictAt (knd w) c.d1 kvs ep → R (.ok (.ret (.ref I))) { s with heap := h', toks := tk' }) →
  codeAny (model prog w) (arnd 350 350 fr gs) (.call (.ref fn) ⟨[.ref c.x], []⟩) R s
end
section
variable {prog : Program} {KK : Params → Frag} {q : Program} {knd : ∀ w, PySem.KeyKind prog w Str} {C : Addr} {on : Str} {fn : Nat}
theorem OHas.of (d : Has KK q knd C on fn) : OHas KK q knd C on fn := by
  intro w s c seg objs a ⟨te, o1, o2, kvs, e, D1, D2, kv, hn, hl, m1, m9, ok⟩ _ base g fr gs mean mg mb lse R S ft hR
  subst e
  have hle := kv.len
  refine d (v := .none) (dv := .none) S ok ⟨te, o1, o2, ft, D1, D2⟩ (by omega) fun g' h' tk' u cc => ?_
  obtain ⟨te', p1, p2, ft', D1', D2'⟩ := cc
  refine hR g' h' tk' _ _ u ft' ⟨[], _, seg, rfl, ⟨te', p1, p2, _, rfl, D1', D2', kv, hn, hl, m1, m9, ok⟩, rfl, ?_, rfl⟩
  by_cases hk : a.k ∈ keys seg
  · obtain ⟨p, hp⟩ := mem_of_key hk
    obtain ⟨t, hv⟩ := kv.val _ hp
    dsimp only
    rw [show valueAt kvs a.k = _ from hv, decide_eq_true hk]; rfl
  · dsimp only
    rw [kv.none hk, decide_eq_false hk]; rfl
theorem OMax.of (d : Mxs KK q knd C on fn) : OMax KK q knd C on fn := by
  intro w s c seg objs a ⟨te, o1, o2, kvs, e, D1, D2, kv, hn, hl, m1, m9, ok⟩ _ base g fr gs mean mg mb lse R S ft hR
  subst e
  refine d (k := a.k) (v := .none) (dv := .none) (tk := a.t) S ok ⟨te, o1, o2, ft, D1, D2⟩ trivial fun g' h' tk' u cc => ?_
  obtain ⟨te', p1, p2, ft', D1', D2'⟩ := cc
  exact hR g' h' tk' _ _ u ft' ⟨[], _, seg, rfl, ⟨te', p1, p2, _, rfl, D1', D2', kv, hn, hl, m1, m9, ok⟩, rfl, ⟨_, rfl⟩, rfl⟩
theorem OLen.of (d : Lens KK q knd C on fn) : OLen KK q knd C on fn := by
  intro w s c seg objs a ⟨te, o1, o2, kvs, e, D1, D2, kv, hn, hl, m1, m9, ok⟩ _ base g fr gs mean mg mb lse R S ft hR
  subst e
  have hle := kv.len
  refine d S ok ⟨te, o1, o2, ft, D1, D2⟩ (by omega) fun g' h' tk' t u cc => ?_
  obtain ⟨te', p1, p2, ft', D1', D2'⟩ := cc
  exact hR g' h' tk' _ _ u ft' ⟨[], _, seg, rfl, ⟨te', p1, p2, _, rfl, D1', D2', kv, hn, hl, m1, m9, ok⟩, rfl, ⟨t, by rw [hle]⟩, rfl⟩
end
end Mine
end
section
open PySem PySem.W PySem.Spec PySem.Calls PyProof.Rows PyProof.V
namespace Mine
structure Cell where
  c : Loc
  seg : Seg
def Loc.adr (c : Loc) : List Addr := [c.x, c.dx, c.d1, c.d2]
abbrev adrs (cells : List Cell) : List Addr := cells.flatMap fun b => b.c.adr
/-- no part of a cache -/
def NonC (o : Obj) : Prop := (o.data ≠ .plain ∧ ∀ es n, o.data ≠ .dict es n) ∨ ∃ T, o.cls = .type T ∧ T ≠ "dict"
theorem NonC.list {vs : Array Value} {n : Nat} : NonC (W.listOf vs n) := .inl ⟨fun e => (nomatch e), fun _ _ e => (nomatch e)⟩
theorem NonC.seq {o : Obj} {vs : Array Value} {n : Nat} (h : o.data = .seq vs n) : NonC o := .inl ⟨fun e => (by rw [h] at e; cases e), fun _ _ e => (by rw [h] at e; cases e)⟩
theorem NonC.cell {o : Obj} {v : Option Value} (h : o.data = .cell v) : NonC o := .inl ⟨fun e => (by rw [h] at e; cases e), fun _ _ e => (by rw [h] at e; cases e)⟩
theorem NonC.fields {o : Obj} {v : Array Value} (h : o.data = .fields v) : NonC o := .inl ⟨fun e => (by rw [h] at e; cases e), fun _ _ e => (by rw [h] at e; cases e)⟩
inductive FrontOf : List (Addr × Obj) → List (Addr × Obj) → List (Addr × Obj) → Prop
  | nil {all} : FrontOf all [] all
  | cons {p n f all} : FrontOf n f all → FrontOf (p :: n) (p :: f) all
theorem FrontOf.eq {n f all : List (Addr × Obj)} (h : FrontOf n f all) : n = f ++ all := by
  induction h with
  | nil => rfl
  | cons _ ih => rw [ih]; rfl
def FOff (l : List Addr) : List (Addr × Obj) → Prop
  | [] => True
  | p :: r => p.1 ∉ l ∧ FOff l r
theorem FOff.of {l : List Addr} : ∀ {f : List (Addr × Obj)}, FOff l f → ∀ p ∈ f, p.1 ∉ l
  | [], _, _, h => nomatch h
  | _ :: _, x, p, h => by
    rcases List.mem_cons.mp h with rfl | h
    · exact x.1
    · exact FOff.of x.2 p h
section
variable {prog : Program} {w : World} (P : Params) (knd : PySem.KeyKind prog w Str) (C : Addr) (on : Str)
/-- all holds the caches -/
structure Hold (cells : List Cell) (all : List (Addr × Obj)) : Prop where
  has : ∀ b ∈ cells, ∃ objs, CellIs P knd C on b.c b.seg objs ∧ ∀ p ∈ objs, p ∈ all
  off : (adrs cells).Nodup
end
section
variable {prog : Program} {w : World} {P : Params} {knd : PySem.KeyKind prog w Str} {C : Addr} {on : Str} {cells pre post : List Cell} {b : Cell} {c : Loc} {seg : Seg} {objs all all' news front more : List (Addr × Obj)} {h₀ h : Heap} {L : Addr}
theorem CellIs.adr (h : CellIs P knd C on c seg objs) : objs.map (·.1) = c.adr := by
  obtain ⟨te, o1, o2, kvs, rfl, _⟩ := h
  rfl
theorem CellIs.not (h : CellIs P knd C on c seg objs) : ∀ p ∈ objs, ¬ NonC p.2 := by
  obtain ⟨te, o1, o2, kvs, rfl, ⟨es, ep, x1, hd, _⟩, ⟨es2, ep2, x2, hd2, _⟩, _⟩ := h
  intro p hp n
  simp only [led, List.mem_cons, List.not_mem_nil, or_false] at hp
  have dict : ∀ (o : Obj) es n, o.cls = .type "dict" → o.data = .dict es n → ¬ NonC o := fun o es n hc hd z => by
    rcases z with z | ⟨T, e, hT⟩
    · exact z.2 _ _ hd
    · rw [hc] at e
      injection e with e
      exact hT e.symm
  rcases hp with rfl | rfl | rfl | rfl
  · rcases n with n | ⟨T, e, _⟩
    · exact n.1 rfl
    · cases e
  · exact dict _ _ _ rfl rfl n
  · exact dict _ _ _ x1.1 hd n
  · exact dict _ _ _ x2.1 hd2 n
theorem Hold.mono (H : Hold P knd C on cells all) (hs : ∀ p ∈ all, p ∈ all') : Hold P knd C on cells all' := ⟨fun b hb => let ⟨objs, h1, h2⟩ := H.has b hb; ⟨objs, h1, fun p hp => hs p (h2 p hp)⟩, H.off⟩
theorem adrs_sub {a b : List Cell} (h : List.Sublist a b) : List.Sublist (adrs a) (adrs b) := by
  induction h with
  | slnil => exact .refl _
  | cons x _ ih => exact ih.trans (List.sublist_append_right _ _)
  | cons_cons x _ ih => exact List.Sublist.append (.refl _) ih
theorem Hold.sub {cells' : List Cell} (H : Hold P knd C on cells all) (hs : List.Sublist cells' cells) : Hold P knd C on cells' all := ⟨fun b hb => H.has b (hs.subset hb), H.off.sublist (adrs_sub hs)⟩
/-- what is no part of a cache lies elsewhere -/
theorem Hold.plain (H : Hold P knd C on cells all) (N : News h₀ L h news) (hs : ∀ p ∈ all, p ∈ news) (hb : b ∈ cells) {p : Addr × Obj} (hp : p ∈ news) (hn : NonC p.2) : p.1 ∉ b.c.adr := fun hm => by
  obtain ⟨objs, h1, h2⟩ := H.has b hb
  rw [← h1.adr] at hm
  obtain ⟨q, hq, e⟩ := List.mem_map.mp hm
  have z1 := (N p hp).1
  have z2 := (N q (hs q (h2 q hq))).1
  rw [e, z1] at z2
  exact h1.not q hq (Option.some.inj z2 ▸ hn)
theorem adrs_mid : adrs (pre ++ b :: post) = adrs pre ++ (b.c.adr ++ adrs post) := by simp [adrs]
/-- one cache turned: the others stay -/
theorem Hold.turn {c : Loc} {s1 seg' : Seg} {objs' : List (Addr × Obj)} (H : Hold P knd C on (pre ++ ⟨c, s1⟩ :: post) all) (h' : CellIs P knd C on c seg' objs') (ho : ∀ p ∈ objs', p ∈ all') (hk : ∀ p ∈ all, p.1 ∉ c.adr → p ∈ all') : Hold P knd C on (pre ++ ⟨c, seg'⟩ :: post) all' := by
  refine ⟨fun b hb => ?_, ?_⟩
  · have other : ∀ b, b ∈ pre ∨ b ∈ post → ∃ objs, CellIs P knd C on b.c b.seg objs ∧ ∀ p ∈ objs, p ∈ all' := fun b hb => by
      obtain ⟨objs, h1, h2⟩ := H.has b (by
        rcases hb with hb | hb
        · exact List.mem_append_left _ hb
        · exact List.mem_append_right _ (List.mem_cons_of_mem _ hb))
      refine ⟨objs, h1, fun p hp => hk p (h2 p hp) fun hm => ?_⟩
      have hp1 : p.1 ∈ b.c.adr := by rw [← h1.adr]; exact List.mem_map_of_mem hp
      have nd := H.off
      rw [adrs_mid] at nd
      rcases hb with hb | hb
      · exact (List.nodup_append.mp nd).2.2 _ (List.mem_flatMap.mpr ⟨b, hb, hp1⟩) _ (List.mem_append_left _ hm) rfl
      · exact (List.nodup_append.mp (List.nodup_append.mp nd).2.1).2.2 _ hm _ (List.mem_flatMap.mpr ⟨b, hb, hp1⟩) rfl
    rcases List.mem_append.mp hb with hb | hb
    · exact other b (.inl hb)
    · rcases List.mem_cons.mp hb with rfl | hb
      · exact ⟨objs', h', ho⟩
      · exact other b (.inr hb)
  · have := H.off
    rw [adrs_mid] at this ⊢
    exact this
end
section
variable {prog : Program} {KK : Params → Frag} {q : Program} {knd : ∀ w, PySem.KeyKind prog w Str} {C : Addr} {on : Str} {fn D : Nat} {as : Loc → Arg → List Value} {Pre : Loc → Seg → Arg → Prop} {Post : Loc → Seg → Arg → Value → List (Addr × Obj) → Seg → Prop}
variable {w : World} {s : Shared} {A A₀ : Around} {E : Value → Shared → Prop} {base h₀ : Heap} {outer : List Env} {env : Env} {L : Addr} {m mg mb : Str → Option Value} {lse : List Str} {mean : ExcName → Option Value} {pre post : List Cell} {c : Loc} {seg : Seg} {all front news : List (Addr × Obj)} {a : Arg} {vs : List Value}
/-- a deed done to one of the caches, from the law's own frame -/
theorem Hold.law {Q : Value → Shared → Prop} (d : COp KK q knd C on D fn as Pre Post) (F : Fr h₀ L s.heap m) (X : (KK w.params).In h₀) (N : News h₀ L s.heap news) (T : Top q lse mean mg mb h₀) (hh : A.handled = none) (hA : A.frames = some [env]) (hf : env.frame = some L) (hke : env.scope.kind = .function) (hd : A.depth ≤ D) (hu : A.units ≤ D)
    (H : Hold w.params (knd w) C on (pre ++ ⟨c, seg⟩ :: post) all) (hs : FrontOf news front all) (hp : Pre c seg a) (off : FOff c.adr front) (ha : vs = as c a)
    (h : ∀ h' tk' v more all' seg', Fr h₀ L h' m → News h₀ L h' (more ++ (front ++ all')) → Hold w.params (knd w) C on (pre ++ ⟨c, seg'⟩ :: post) all' → (∀ p ∈ all, NonC p.2 → p ∈ all') → (∀ p ∈ all', ∃ q ∈ all, q.1 = p.1) → Post c seg a v more seg' → Q v { s with heap := h', toks := tk' }) :
    wpAny (model prog w) A (call (.ref fn) vs) Q E s := by
  subst ha
  have hs := hs.eq
  subst hs
  have hb : (⟨c, seg⟩ : Cell) ∈ pre ++ ⟨c, seg⟩ :: post := by simp
  obtain ⟨objs, h1, h2⟩ := H.has _ hb
  refine Callee.law (rest := front ++ all.filter fun p => decide (p.1 ∉ c.adr)) (d a h1 hp) F X N T hh hA hf hke hd hu (fun p hp => List.mem_append_right _ (h2 p hp)) (fun p hp => ?_) (fun p hp => ?_) fun h' tk' v own' F' N' _ hP => ?_
  · rcases List.mem_append.mp hp with hp | hp
    · exact List.mem_append_left _ hp
    · exact List.mem_append_right _ (List.mem_filter.mp hp).1
  · rw [h1.adr]
    rcases List.mem_append.mp hp with hp | hp
    · exact off.of p hp
    · simpa using (List.mem_filter.mp hp).2
  · obtain ⟨more, objs', seg', rfl, h3, hP⟩ := hP
    have keep : ∀ p ∈ all, p.1 ∉ c.adr → p ∈ objs' ++ all.filter fun p => decide (p.1 ∉ c.adr) := fun p hp hn => List.mem_append_right _ (List.mem_filter.mpr ⟨hp, by simpa using hn⟩)
    refine h h' tk' v more (objs' ++ all.filter fun p => decide (p.1 ∉ c.adr)) seg' F' (fun p hp => N' p ?_) (H.turn h3 (fun p hp => List.mem_append_left _ hp) keep) (fun p hp hn => keep p hp (H.plain N (fun q hq => List.mem_append_right _ hq) hb (List.mem_append_right _ hp) hn)) (fun p hp => ?_) hP
    · simp only [List.mem_append] at hp ⊢
      rcases hp with hp | hp | hp | hp
      · exact .inl (.inl hp)
      · exact .inr (.inl hp)
      · exact .inl (.inr hp)
      · exact .inr (.inr hp)
    · rcases List.mem_append.mp hp with hp | hp
      · have hm : p.1 ∈ objs.map (·.1) := by rw [h1.adr, ← h3.adr]; exact List.mem_map_of_mem hp
        obtain ⟨q, hq, e⟩ := List.mem_map.mp hm
        exact ⟨q, h2 q hq, e⟩
      · exact ⟨p, (List.mem_filter.mp hp).1, rfl⟩
/-- a deed done to one of the caches, from a function that knows no more objects -/
theorem Hold.code {R : Result → Shared → Prop} (d : COp KK q knd C on D fn as Pre Post) (B : Below A₀ base outer h₀) (sz : base.objs.size ≤ h₀.objs.size) (X : (KK w.params).In base) (T : Top q lse mean mg mb base)
    (F : Fr h₀ L s.heap m) (N : News h₀ L s.heap news) (hh : A.handled = none) (hA : A.frames = some (env :: outer)) (hf : env.frame = some L) (hke : env.scope.kind = .function) (hd : A.depth ≤ D) (hu : A.units ≤ D)
    (H : Hold w.params (knd w) C on (pre ++ ⟨c, seg⟩ :: post) all) (hs : FrontOf news front all) (hp : Pre c seg a) (off : FOff c.adr front) (ha : vs = as c a)
    (h : ∀ h₁ h' tk' v more all' seg', Up base outer h₀ h₁ → Below A₀ base outer h₁ → (KK w.params).In h₁ → Top q lse mean mg mb h₁ → base.objs.size ≤ h₁.objs.size → Fr h₁ L h' m → News h₁ L h' (more ++ (front ++ all')) → Hold w.params (knd w) C on (pre ++ ⟨c, seg'⟩ :: post) all' → (∀ p ∈ all, NonC p.2 → p ∈ all') → (∀ p ∈ all', ∃ q ∈ all, q.1 = p.1) → (∀ p ∈ all', p ∈ all ∨ ¬ NonC p.2) → Post c seg a v more seg' → R (.ok (.ret v)) { s with heap := h', toks := tk' }) :
    codeAny (model prog w) A (.call (.ref fn) ⟨vs, []⟩) R s := by
  subst ha
  have hs := hs.eq
  subst hs
  have hb : (⟨c, seg⟩ : Cell) ∈ pre ++ ⟨c, seg⟩ :: post := by simp
  obtain ⟨objs, h1, h2⟩ := H.has _ hb
  refine Callee.code (rest := front ++ all.filter fun p => decide (p.1 ∉ c.adr)) (d a h1 hp) B sz X T F N hh hA hf hke hd hu (fun p hp => List.mem_append_right _ (h2 p hp)) (fun p hp => ?_) (fun p hp => ?_) fun hb1 h' tk' v own' U1 B1 X1 T1 sz1 F' N' _ hP => ?_
  · rcases List.mem_append.mp hp with hp | hp
    · exact List.mem_append_left _ hp
    · exact List.mem_append_right _ (List.mem_filter.mp hp).1
  · rw [h1.adr]
    rcases List.mem_append.mp hp with hp | hp
    · exact off.of p hp
    · simpa using (List.mem_filter.mp hp).2
  · obtain ⟨more, objs', seg', rfl, h3, hP⟩ := hP
    have keep : ∀ p ∈ all, p.1 ∉ c.adr → p ∈ objs' ++ all.filter fun p => decide (p.1 ∉ c.adr) := fun p hp hn => List.mem_append_right _ (List.mem_filter.mpr ⟨hp, by simpa using hn⟩)
    refine h hb1 h' tk' v more (objs' ++ all.filter fun p => decide (p.1 ∉ c.adr)) seg' U1 B1 X1 T1 sz1 F' (fun p hp => N' p ?_) (H.turn h3 (fun p hp => List.mem_append_left _ hp) keep) (fun p hp hn => keep p hp (H.plain N (fun q hq => List.mem_append_right _ hq) hb (List.mem_append_right _ hp) hn)) (fun p hp => ?_) (fun p hp => ?_) hP
    · simp only [List.mem_append] at hp ⊢
      rcases hp with hp | hp | hp | hp
      · exact .inl (.inl hp)
      · exact .inr (.inl hp)
      · exact .inl (.inr hp)
      · exact .inr (.inr hp)
    · rcases List.mem_append.mp hp with hp | hp
      · have hm : p.1 ∈ objs.map (·.1) := by rw [h1.adr, ← h3.adr]; exact List.mem_map_of_mem hp
        obtain ⟨q, hq, e⟩ := List.mem_map.mp hm
        exact ⟨q, h2 q hq, e⟩
      · exact ⟨p, (List.mem_filter.mp hp).1, rfl⟩
    · rcases List.mem_append.mp hp with hp | hp
      · exact .inr (h3.not p hp)
      · exact .inl (List.mem_filter.mp hp).1
end
end Mine
end
section
open PySem PySem.W PySem.Spec PySem.Calls PyProof.Rows
namespace Mine
abbrev testsOf (ifs : List PySem.Expr) (env : Env) : Sem Bool := forIn ifs true fun c r => if r = true then do let ok ← isTrue c env (eval c env); pure (ForInStep.yield ok) else pure (ForInStep.yield r)
section
variable {prog : Program} {w : World} {A : Around} {R : Result → Shared → Prop} {s : Shared} {elt : PySem.Expr} {gens : List Comprehension} {scope : Scope} {pos : Pos} {depth : Nat} {g g' : Comprehension} {it acc : Value} {env : Env}
/-- a loop of a comprehension at its last clause -/
theorem clause_last (hg : gens[depth]? = some g) (ha : g.is_async = 0) (hl : gens[depth + 1]? = none) (I : Nat → Shared → Prop)
    (turn : ∀ n s, I n s → wpAny (model prog w) A (pyNext it) (fun r s₁ => match r with
      | none => R (.ok .next) s₁
      | some v => wpAny (model prog w) A (letOwnedTupleGo g.target it v) (fun _ s₁' => wpAny (model prog w) A (assign g.target env v) (fun _ s₂ =>
          wpAny (model prog w) A (testsOf g.ifs env) (fun ok s₃ =>
            if ok = true then wpAny (model prog w) A (eval elt env) (fun x s₄ =>
              wpAny (model prog w) A (call (.builtin "list.append") [acc, x]) (fun _ s₅ => ∃ m, m < n ∧ I m s₅) (notedBy (model prog w) A env fun e s' => R (.error e) s') s₄) (notedBy (model prog w) A env fun e s' => R (.error e) s') s₃
            else ∃ m, m < n ∧ I m s₃) (notedBy (model prog w) A env fun e s' => R (.error e) s') s₂) (notedBy (model prog w) A env fun e s' => R (.error e) s') s₁') (notedBy (model prog w) A env fun e s' => R (.error e) s') s₁) (notedBy (model prog w) A env fun e s' => R (.error e) s') s)
    (n : Nat) (h : I n s) : codeAny (model prog w) A (.compLoop (.ListComp elt gens scope pos) depth it acc env) R s := by
  refine codeAny_loop rfl I (fun n s hI => ?_) n h
  show wpAny _ A ((compTurn (.ListComp elt gens scope pos) depth it acc env).onRaise (fun x => do noteFrame x env; theTreesLotGoes x)) _ _ s
  refine wpAny_noted ?_
  unfold compTurn
  simp only [hg, ha, hl]
  refine wpAny_bind (wpAny_standAt (wpAny_bind (wpAny_mono (turn n s hI) (fun r s₁ h₁ => ?_) fun _ _ h' => h')))
  cases r with
  | none => exact wpAny_pure h₁
  | some v =>
    refine wpAny_bind (wpAny_mono h₁ (fun _ s₁' h₁' => ?_) fun _ _ h' => h')
    refine wpAny_bind (wpAny_mono h₁' (fun _ s₂ h₂ => wpAny_bind (wpAny_mono h₂ (fun ok s₃ h₃ => ?_) fun _ _ h' => h')) fun _ _ h' => h')
    cases ok with
    | false => exact wpAny_pure ⟨rfl, h₃⟩
    | true => exact wpAny_bind (wpAny_bind (wpAny_mono h₃ (fun x s₄ h₄ => wpAny_bind (wpAny_mono h₄ (fun _ s₅ h₅ => wpAny_pure (wpAny_pure ⟨rfl, h₅⟩)) fun _ _ h' => h')) fun _ _ h' => h'))
/-- a loop of a comprehension at a clause that another follows -/
theorem clause_more (hg : gens[depth]? = some g) (ha : g.is_async = 0) (hl : gens[depth + 1]? = some g') (ha' : g'.is_async = 0) (hi : g.ifs = []) (I : Nat → Shared → Prop) (hs : ∀ x, foldedSetIterable g'.iter env x = pure x)
    (turn : ∀ n s, I n s → wpAny (model prog w) A (pyNext it) (fun r s₁ => match r with
      | none => R (.ok .next) s₁
      | some v => wpAny (model prog w) A (letOwnedTupleGo g.target it v) (fun _ s₁' => wpAny (model prog w) A (assign g.target env v) (fun _ s₂ =>
          wpAny (model prog w) A (eval g'.iter env) (fun x s₃ => wpAny (model prog w) A (pyIter x) (fun it' s₄ =>
            codeAny (model prog w) (A.mark none) (.compStart (.ListComp elt gens scope pos) (depth + 1) it' acc env) (fun r s' => match r with | .ok _ => ∃ m, m < n ∧ I m s' | .error e => cameBackBy (model prog w) A env (notedBy (model prog w) A env fun e s' => R (.error e) s') e s') s₄)
            (notedBy (model prog w) A env fun e s' => R (.error e) s') s₃) (notedBy (model prog w) A env fun e s' => R (.error e) s') s₂) (notedBy (model prog w) A env fun e s' => R (.error e) s') s₁') (notedBy (model prog w) A env fun e s' => R (.error e) s') s₁) (notedBy (model prog w) A env fun e s' => R (.error e) s') s)
    (n : Nat) (h : I n s) : codeAny (model prog w) A (.compLoop (.ListComp elt gens scope pos) depth it acc env) R s := by
  refine codeAny_loop rfl I (fun n s hI => ?_) n h
  show wpAny _ A ((compTurn (.ListComp elt gens scope pos) depth it acc env).onRaise (fun x => do noteFrame x env; theTreesLotGoes x)) _ _ s
  refine wpAny_noted ?_
  unfold compTurn
  simp only [hg, ha, hl, ha', hi]
  refine wpAny_bind (wpAny_standAt (wpAny_bind (wpAny_mono (turn n s hI) (fun r s₁ h₁ => ?_) fun _ _ h' => h')))
  cases r with
  | none => exact wpAny_pure h₁
  | some v =>
    refine wpAny_bind (wpAny_mono h₁ (fun _ s₁' h₁' => ?_) fun _ _ h' => h')
    refine wpAny_bind (wpAny_mono h₁' (fun _ s₂ h₂ => wpAny_bind (wpAny_tests_nil ?_)) fun _ _ h' => h')
    refine wpAny_bind (wpAny_mono h₂ (fun x s₃ h₃ => wpAny_bind (wpAny_standAt ?_)) fun _ _ h' => h')
    rw [if_neg (by decide)]
    refine wpAny_bind (wpAny_of_eq (hs x) ?_)
    rw [if_neg (by decide)]
    refine wpAny_bind (wpAny_holding (wpAny_mono h₃ (fun it' s₄ h₄ => ?_) fun _ _ h' => h'))
    exact wpAny_bind (wpAny_runOwn (codeAny_mono h₄ fun r s' hr => by
      cases r with
      | ok f => exact wpAny_pure ⟨rfl, hr⟩
      | error e => exact hr))
theorem start_any (hg : gens[depth]? = some g) (ha : g.is_async = 0) (h0 : codeAny (model prog w) A (.compLoop (.ListComp elt gens scope pos) depth it acc env) R s)
    (h : wpAny (model prog w) A (pyIter it) (fun it' s' => codeAny (model prog w) A (.compLoop (.ListComp elt gens scope pos) depth it' acc env) R s') (notedBy (model prog w) A env fun x s' => R (.error x) s') s) :
    codeAny (model prog w) A (.compStart (.ListComp elt gens scope pos) depth it acc env) R s := by
  refine codeAny_of_tree ?_
  show wpAny _ _ ((compStart (.ListComp elt gens scope pos) depth it acc env).onRaise (fun x => do noteFrame x env; standAt theWindowsPlace)) _ _ s
  refine wpAny_notedAt ?_
  unfold compStart
  simp only [show clausesOf (.ListComp elt gens scope pos) = gens from rfl, hg, Option.elim, ha]
  rw [if_neg (by decide)]
  refine wpAny_bind (wpAny_askSetting (wpAny_ite ?_))
  split
  · exact wpAny_pure (And.intro rfl h0)
  · exact wpAny_bind (wpAny_rule (wpAny_bind (wpAny_standAt (wpAny_bind (wpAny_mono h (fun it' s' h' => wpAny_pure (And.intro rfl h')) fun _ _ x => x)))))
end
end Mine
end
section
open PySem PySem.W PySem.Spec PySem.Calls PyProof.Rows PyProof.Rows.LCg
namespace Mine
section
variable {prog : Program} {w : World} {A : Around} {E : Value → Shared → Prop} {s : Shared} {h₀ : Heap} {L : Addr} {m : Str → Option Value} {env : Env}
theorem gc_block {elt target iter : PySem.Expr} {ifs : List PySem.Expr} {scope : Scope} {cl : List (Str × Addr)} {pos : Pos} {s₂ : Shared} {I : Addr} {fp : List Addr} {n : Nat} {P : Nat → Value → Prop} {St : Nat → Heap → Prop} {S : List (Addr × Obj) → Prop} {news : List (Addr × Obj)}
    {Inv : Nat → List Value → List (Addr × Obj) → Prop} {Bound : Nat → (Str → Option Value) → Value → Prop} {RR : Value → Addr → Result → Shared → Prop}
    (W : Walks prog w A I fp [I] n P St) (hsz : n ≤ sizeLine) (hIo : ∀ i h, St i h → ∃ o, h.get? I = some o)
    (hSt : ∀ i h h' o nw, St i h → h.get? I = some o → h'.get? I = some o → (∀ b o, h₀.get? b = some o → h'.get? b = some o) → News h₀ L h' nw → S nw → St i h')
    (hcell : ∀ y ∈ scope.names, y.2 ≠ .cell) (hkind : scope.kind = .function)
    (asg : ∀ i ys news v oI C oC D h tk mC (Q : Unit → Shared → Prop) (E : Value → Shared → Prop), i < n → Inv i ys news → P i v → St (i + 1) h → NsObj oC mC → Fr h₀ L h m → News h₀ L h ((I, oI) :: (C, oC) :: (D, lst ys) :: news) →
      (∀ h' m₂ tk', h'.Ns C m₂ → Bound i m₂ v → Heap.ExtBut C h h' → Q () { s₂ with heap := h', toks := tk' }) →
      wpAny (model prog w) A (letOwnedTupleGo target (.ref I) v) (fun _ s' => wpAny (model prog w) A (assign target (compEnvC scope cl C env) v) Q E s') E { s₂ with heap := h, toks := tk })
    (step : ∀ i ys news v, i < n → Inv i ys news → P i v → ∀ oI C oC D m₂ h tk (E' : Value → Shared → Prop), NsObj oC m₂ → Bound i m₂ v → Fr h₀ L h m → News h₀ L h ((I, oI) :: (C, oC) :: (D, lst ys) :: news) → Off3 I C D news → ((@Ne Nat I C) ∧ (@Ne Nat I D) ∧ (@Ne Nat C D)) →
      wpAny (model prog w) A (testsOf ifs (compEnvC scope cl C env)) (fun ok s' => if ok = true then
        wpAny (model prog w) A (eval elt (compEnvC scope cl C env)) (CompEnd h₀ L m { s₂ with heap := h, toks := tk } I oI C oC D (lst ys) S (fun y n' => Inv (i + 1) (ys ++ [y]) n')) E' s'
        else CompEnd h₀ L m { s₂ with heap := h, toks := tk } I oI C oC D (lst ys) S (fun _ n' => Inv (i + 1) ys n') Value.none s') E' { s₂ with heap := h, toks := tk })
    (hst : St 0 s₂.heap) (hfp : ∀ b ∈ fp, b < s₂.heap.objs.size)
    (F : Fr h₀ L s₂.heap m) (N : News h₀ L s₂.heap news) (hIL : L ≠ I) (hI₀ : h₀.get? I = none) (off : ∀ p ∈ news, p.1 ≠ I) (hS : S news) (hinv : Inv 0 [] news)
    (hRR : ∀ D C h tk m' ys news', Fr h₀ L h m → News h₀ L h ((D, lst ys) :: news') → Off1 D news' → h.Ns C m' → h₀.get? C = none → h₀.get? D = none → C ≠ L → D ≠ L → C ≠ D → (∀ p ∈ news', p.1 ≠ C) → Inv n ys news' → RR (.ref D) C (.ok .next) { s₂ with heap := h, toks := tk }) :
    wpAny (model prog w) A (newList []) (fun acc s₃ => wpAny (model prog w) A (newFunctionEnv scope env.globals cl [] env.qual none .none (some env)) (fun cenv s₄ =>
      codeAny (model prog w) A (.compStart (.ListComp elt [⟨target, iter, ifs, 0⟩] scope pos) 0 (.ref I) acc { cenv with scope := relabel scope env }) (RR acc cenv.locals) s₄) E s₃) E s₂ := by
  refine wpAny_newObj_type (wpAny_newFunctionEnv hcell (by intro y hy; simp at hy) (fun h₁ hns₁ hsb₁ => ?_) hkind)
  dsimp only at hns₁ hsb₁ ⊢
  generalize hH2 : s₂.heap.push { cls := .type "list", dict := none, data := .seq ([] : List Value).toArray } = H2 at hns₁ hsb₁ ⊢
  have hC : H2.objs.size = s₂.heap.objs.size + 1 := by rw [← hH2, Heap.size_push]
  -- the three fresh places
  have neDC : s₂.heap.objs.size ≠ H2.objs.size := by rw [hC]; exact Nat.ne_of_lt (Nat.lt_succ_self _)
  have lowC : ∀ b, b < s₂.heap.objs.size → b ≠ H2.objs.size := fun b hb => by rw [hC]; exact Nat.ne_of_lt (Nat.lt_succ_of_lt hb)
  have hIlt : I < s₂.heap.objs.size := hfp I (W.sub I (List.mem_singleton.mpr rfl))
  have old : ∀ b o, s₂.heap.get? b = some o → h₁.get? b = some o := fun b o e => hsb₁.extBut b o (lowC b (Heap.lt_size e)) (Heap.get?_push_of_some _ (hH2 ▸ Heap.get?_push_of_some _ e))
  have hacc : h₁.get? s₂.heap.objs.size = some (lst []) := hsb₁.extBut _ _ neDC (Heap.get?_push_of_some _ (hH2 ▸ Heap.get?_push_size _ rfl))
  have un₀ : ∀ a, s₂.heap.objs.size ≤ a → h₀.get? a = none := fun a ha => by
    cases e : h₀.get? a with
    | none => rfl
    | some o' => exact absurd (Heap.lt_size (F.keep a o' e)) (Nat.not_lt.mpr ha)
  have hD₀ := un₀ s₂.heap.objs.size (Nat.le_refl _)
  have hC₀ := un₀ H2.objs.size (by rw [hC]; exact Nat.le_succ _)
  have hLlt : L < s₂.heap.objs.size := F.ns.lt
  have hDL : s₂.heap.objs.size ≠ L := Nat.ne_of_gt hLlt
  have hCL : H2.objs.size ≠ L := Ne.symm (lowC L hLlt)
  have hIC : I ≠ H2.objs.size := lowC I hIlt
  have hID : I ≠ s₂.heap.objs.size := Nat.ne_of_lt hIlt
  have off₀ : Off3 I H2.objs.size s₂.heap.objs.size news := Off3.of fun p hp => ⟨off p hp, lowC _ (Heap.lt_size (N p hp).1), Nat.ne_of_lt (Heap.lt_size (N p hp).1)⟩
  have loop : ∀ s₃ : Shared, s₃ = { s₂ with heap := h₁, toks := s₂.toks + ([] : List (Str × Value)).length } →
      codeAny (model prog w) A (.compLoop (.ListComp elt [⟨target, iter, ifs, 0⟩] scope pos) 0 (.ref I) (.ref s₂.heap.objs.size) (compEnvC scope cl H2.objs.size env))
        (RR (.ref s₂.heap.objs.size) H2.objs.size) s₃ := by
    rintro s₃ rfl
    refine clause_last (g := ⟨target, iter, ifs, 0⟩) rfl rfl rfl
      (fun k s' => ∃ h' tk i ys m' news', s' = { s₂ with heap := h', toks := tk } ∧ i ≤ n ∧ k = n + 1 - i ∧ ys.length ≤ i ∧ St i h' ∧ Fr h₀ L h' m ∧ h'.Ns H2.objs.size m' ∧ News h₀ L h' ((s₂.heap.objs.size, lst ys) :: news') ∧
        Off3 I H2.objs.size s₂.heap.objs.size news' ∧ S news' ∧ Inv i ys news') ?_ (n + 1)
      ⟨h₁, _, 0, [], _, news, rfl, Nat.zero_le _, rfl, Nat.le_refl _, W.frame _ _ _ hst fun b _ o e => old b o e, F.keeps old, hns₁, fun p hp => ?_, off₀, hS, hinv⟩
    · rintro k s' ⟨h', tk, i, ys, m', news', rfl, hi, rfl, hyl, hst', F', hn', N', off', hS', J⟩
      have off3 := off'.mem
      by_cases hlt : i < n
      · refine W.item i _ _ _ hlt hst' fun v h₂ tk₂ hPv hst₂ hk₂ => ?_
        obtain ⟨oI, heI⟩ := hIo _ _ hst₂
        have hn₂ : h₂.Ns H2.objs.size m' := hn'.at' fun o e => hk₂ _ o (by simpa using Ne.symm hIC) e
        obtain ⟨oC, heC, hoC⟩ := ns_obj hn₂
        have F₂ : Fr h₀ L h₂ m := fr_but F' hk₂ hIL hI₀
        have N₂ : News h₀ L h₂ ((s₂.heap.objs.size, lst ys) :: news') := news_but N' hk₂ fun p hp => by
          rcases List.mem_cons.mp hp with rfl | hp
          · exact Ne.symm hID
          · exact (off3 p hp).1
        refine asg i ys news' v oI _ oC s₂.heap.objs.size h₂ tk₂ m' _ _ hlt J hPv hst₂ hoC F₂ (fun p hp => ?_) fun h₃ m₂ tk₃ hn₃ hB hx₃ => ?_
        · rcases List.mem_cons.mp hp with rfl | hp
          · exact ⟨heI, Ne.symm hIL, hI₀⟩
          · rcases List.mem_cons.mp hp with rfl | hp
            · exact ⟨heC, hCL, hC₀⟩
            · exact N₂ p hp
        have hst₃ : St (i + 1) h₃ := hSt _ _ _ _ _ hst₂ heI (hx₃ _ _ hIC heI) (fun b o e => hx₃ b o (fun q => by rw [q, hC₀] at e; cases e) (F₂.keep b o e)) (fun p hp => ⟨hx₃ _ _ (off3 p hp).2.1 (N₂ p (List.mem_cons_of_mem _ hp)).1, (N₂ p (List.mem_cons_of_mem _ hp)).2⟩) hS'
        obtain ⟨oC₃, heC₃, hoC₃⟩ := ns_obj hn₃
        have F₃ : Fr h₀ L h₃ m := ⟨F₂.ns.at' fun o e => hx₃ _ o (Ne.symm hCL) e, fun b o e => hx₃ b o (fun q => by rw [q, hC₀] at e; cases e) (F₂.keep b o e), F₂.above⟩
        have N₃ : News h₀ L h₃ ((I, oI) :: (H2.objs.size, oC₃) :: (s₂.heap.objs.size, lst ys) :: news') := fun p hp => by
          rcases List.mem_cons.mp hp with rfl | hp
          · exact ⟨hx₃ _ _ hIC heI, Ne.symm hIL, hI₀⟩
          · rcases List.mem_cons.mp hp with rfl | hp
            · exact ⟨heC₃, hCL, hC₀⟩
            · refine ⟨hx₃ _ _ ?_ (N₂ p hp).1, (N₂ p hp).2⟩
              rcases List.mem_cons.mp hp with rfl | hp
              · exact neDC
              · exact (off3 p hp).2.1
        have back : ∀ (ys' : List Value) (y : Value) (s₄ : Shared), CompEnd h₀ L m { s₂ with heap := h₃, toks := tk₃ } I oI H2.objs.size oC₃ s₂.heap.objs.size (lst ys) S (fun _ n' => Inv (i + 1) ys' n') y s₄ →
            ∃ h₄ tk₄ news₄, s₄ = { s₂ with heap := h₄, toks := tk₄ } ∧ Fr h₀ L h₄ m ∧ News h₀ L h₄ ((I, oI) :: (H2.objs.size, oC₃) :: (s₂.heap.objs.size, lst ys) :: news₄) ∧ Off3 I H2.objs.size s₂.heap.objs.size news₄ ∧ S news₄ ∧ St (i + 1) h₄ ∧ Inv (i + 1) ys' news₄ := by
          rintro ys' y s₄ ⟨h₄, tk₄, news₄, rfl, F₄, N₄, off₄, hS₄, R₄⟩
          exact ⟨h₄, tk₄, news₄, rfl, F₄, N₄, off₄, hS₄, hSt _ _ _ _ _ hst₃ (hx₃ _ _ hIC heI) (N₄ (I, oI) List.mem_cons_self).1 F₄.keep (fun p hp => N₄ p (List.mem_cons_of_mem _ (List.mem_cons_of_mem _ (List.mem_cons_of_mem _ hp)))) hS₄, R₄⟩
        refine wpAny_mono (step i ys news' v hlt J hPv oI H2.objs.size oC₃ s₂.heap.objs.size m₂ h₃ tk₃ _ hoC₃ hB F₃ N₃ off' ⟨hIC, hID, Ne.symm neDC⟩) (fun ok s₄ h₄ => ?_) fun _ _ e => e
        cases ok with
        | true =>
          simp only [if_true] at h₄ ⊢
          refine wpAny_mono h₄ (fun y s₅ h₅ => ?_) fun _ _ e => e
          obtain ⟨h₅, tk₅, news₅, rfl, F₅, N₅, off₅, hS₅, R₅⟩ := h₅
          obtain ⟨_, _, _, e, _, _, _, _, st₅, _⟩ := back (ys ++ [y]) y _ ⟨h₅, tk₅, news₅, rfl, F₅, N₅, off₅, hS₅, R₅⟩
          have e' := congrArg Shared.heap e
          dsimp only at e'
          rw [← e'] at st₅
          have zC := (N₅ (H2.objs.size, oC₃) (List.mem_cons_of_mem _ List.mem_cons_self)).1
          have zD := (N₅ (s₂.heap.objs.size, lst ys) (List.mem_cons_of_mem _ (List.mem_cons_of_mem _ List.mem_cons_self))).1
          have N₅' : News h₀ L h₅ news₅ := fun p hp => N₅ p (List.mem_cons_of_mem _ (List.mem_cons_of_mem _ (List.mem_cons_of_mem _ hp)))
          have zI := (N₅ (I, oI) List.mem_cons_self).1
          refine append_at (hsz := by show ys.toArray.size ≤ sizeLine; rw [List.size_toArray]; exact Nat.le_trans hyl (Nat.le_trans hi hsz)) zD fun h₆ hs₆ hD₆ => ?_
          have off5 := off₅.mem
          refine ⟨n + 1 - (i + 1), by omega, h₆, tk₅, i + 1, ys ++ [y], _, news₅, rfl, hlt, rfl, by rw [List.length_append, List.length_singleton]; omega,
            hSt _ _ _ _ _ st₅ zI (hs₆.extBut _ _ hID zI) (fun b o e => hs₆.extBut b o (fun q => by rw [q, hD₀] at e; cases e) (F₅.keep b o e)) (fun p hp => ⟨hs₆.extBut _ _ (off5 p hp).2.2 (N₅' p hp).1, (N₅' p hp).2⟩) hS₅,
            F₅.change hs₆ hDL hD₀, (hoC₃.ns zC).sameBut hs₆ (Ne.symm neDC), fun p hp => ?_, off₅, hS₅, R₅⟩
          rcases List.mem_cons.mp hp with rfl | hp
          · exact ⟨hD₆.trans (congrArg some (lst_snoc ys y)), hDL, hD₀⟩
          · exact ⟨hs₆.extBut _ _ (off5 p hp).2.2 (N₅' p hp).1, (N₅' p hp).2⟩
        | false =>
          simp only [Bool.false_eq_true, if_false] at h₄ ⊢
          obtain ⟨h₅, tk₅, news₅, rfl, F₅, N₅, off₅, hS₅, st₅, R₅⟩ := back ys _ _ h₄
          have zC := (N₅ (H2.objs.size, oC₃) (List.mem_cons_of_mem _ List.mem_cons_self)).1
          exact ⟨n + 1 - (i + 1), by omega, h₅, tk₅, i + 1, ys, _, news₅, rfl, hlt, rfl, Nat.le_succ_of_le hyl, st₅, F₅, hoC₃.ns zC, fun p hp => N₅ p (List.mem_cons_of_mem _ (List.mem_cons_of_mem _ hp)), off₅, hS₅, R₅⟩
      · obtain rfl : i = n := Nat.le_antisymm hi (Nat.not_lt.mp hlt)
        refine W.done _ _ _ hst' fun h₂ tk₂ hk₂ => ?_
        exact hRR _ _ h₂ tk₂ _ ys news' (fr_but F' hk₂ hIL hI₀) (news_but N' hk₂ fun p hp => by
          rcases List.mem_cons.mp hp with rfl | hp
          · exact Ne.symm hID
          · exact (off3 p hp).1) off'.one (hn'.at' fun o e => hk₂ _ o (by simpa using Ne.symm hIC) e) hC₀ hD₀ hCL hDL (Ne.symm neDC) (fun p hp => (off3 p hp).2.1) J
    · rcases List.mem_cons.mp hp with rfl | hp
      · exact ⟨hacc, hDL, hD₀⟩
      · exact ⟨old _ _ (N p hp).1, (N p hp).2⟩
  exact start_any (g := ⟨target, iter, ifs, 0⟩) rfl rfl (loop _ rfl) (W.self 0 _ _ _ (W.frame _ _ _ hst fun b _ o e => old b o e) (loop _ rfl))
end
end Mine
end
section
open PySem PySem.W PySem.Spec PySem.Calls PyProof.Rows PyProof.Rows.LCg
namespace Mine
section
variable (prog : Program) (w : World) (A : Around) (h₀ : Heap) (L : Addr) (m : Str → Option Value) (env : Env) (elt : PySem.Expr) (ifs : List PySem.Expr) (scope : Scope) (cl : List (Str × Addr)) (s : Shared) (S : List (Addr × Obj) → Prop) (P : Nat → Value → Prop) (n : Nat) (Inv : Nat → List Value → List (Addr × Obj) → Prop) (Bound : Nat → (Str → Option Value) → Value → Prop)
/-- each turn of a comprehension -/
def GStep : Prop := ∀ i ys news v, i < n → Inv i ys news → P i v → ∀ I oI C oC D m₂ h tk (E' : Value → Shared → Prop), NsObj oC m₂ → Bound i m₂ v → Fr h₀ L h m → News h₀ L h ((I, oI) :: (C, oC) :: (D, lst ys) :: news) → Off3 I C D news → ((@Ne Nat I C) ∧ (@Ne Nat I D) ∧ (@Ne Nat C D)) →
      wpAny (model prog w) A (testsOf ifs (compEnvC scope cl C env)) (fun ok s' => if ok = true then
        wpAny (model prog w) A (eval elt (compEnvC scope cl C env)) (CompEnd h₀ L m { s with heap := h, toks := tk } I oI C oC D (lst ys) S (fun y n' => Inv (i + 1) (ys ++ [y]) n')) E' s'
        else CompEnd h₀ L m { s with heap := h, toks := tk } I oI C oC D (lst ys) S (fun _ n' => Inv (i + 1) ys n') Value.none s') E' { s with heap := h, toks := tk }
/-- pairs: what is unpacked at turn i -/
def GTup (Vals : Nat → Value → Value → Prop) : Prop := ∀ i ys news v, i < n → Inv i ys news → P i v → ∃ T o v1 v2 k, v = .ref T ∧ (T, o) ∈ news ∧ o.cls = .type "tuple" ∧ o.data = .seq #[v1, v2] k ∧ Vals i v1 v2
end
def B1 (x : Str) : Nat → (Str → Option Value) → Value → Prop := fun _ m₂ v => m₂ x = some v
def B2 (x y : Str) (Vals : Nat → Value → Value → Prop) : Nat → (Str → Option Value) → Value → Prop := fun i m₂ _ => ∃ v1 v2, Vals i v1 v2 ∧ m₂ x = some v1 ∧ m₂ y = some v2
section
variable {prog : Program} {w : World} {A : Around} {E : Value → Shared → Prop} {s : Shared} {h₀ : Heap} {L : Addr} {m : Str → Option Value} {env : Env} {elt iter : PySem.Expr} {ifs : List PySem.Expr} {scope : Scope} {cl : List (Str × Addr)} {pos : Pos} {n : Nat} {P : Nat → Value → Prop} {Inv : Nat → List Value → List (Addr × Obj) → Prop}
theorem asg_one {x : Str} {px : Pos} {I C : Addr} {oI oC : Obj} {D : Addr} {ys : List Value} {news : List (Addr × Obj)} {h : Heap} {tk : Nat} {mC : Str → Option Value} {v : Value} {i : Nat} {Q : Unit → Shared → Prop} (hkind : scope.kind = .function) (hx : scope.names.lookup x = some .local) (hC : NsObj oC mC) (N : News h₀ L h ((I, oI) :: (C, oC) :: (D, lst ys) :: news))
    (k : ∀ h' m₂ tk', h'.Ns C m₂ → B1 x i m₂ v → Heap.ExtBut C h h' → Q () { s with heap := h', toks := tk' }) :
    wpAny (model prog w) A (letOwnedTupleGo (.Name x px) (.ref I) v) (fun _ s' => wpAny (model prog w) A (assign (.Name x px) (compEnvC scope cl C env) v) Q E s') E { s with heap := h, toks := tk } := by
  refine wpAny_of_eq (show letOwnedTupleGo (.Name x px) (.ref I) v = pure () from rfl) ?_
  refine wpAny_assign_Name (wpAny_storeName_local (lookup_relabel_local hx) (hC.ns (N (C, oC) (by simp)).1) (fun h₃ hn₃ hs₃ => k h₃ _ _ hn₃ (by simp [B1]) hs₃.extBut) (by simp [compEnvC, relabel, hkind]))
theorem asg_two {x y : Str} {px py tp : Pos} {tn : Nat} {I l C : Addr} {oI oC : Obj} {D : Addr} {ys : List Value} {news : List (Addr × Obj)} {h : Heap} {tk j : Nat} {mC : Str → Option Value} {v : Value} {i : Nat} {Vals : Nat → Value → Value → Prop} {Q : Unit → Shared → Prop} (hkind : scope.kind = .function) (hx : scope.names.lookup x = some .local) (hy : scope.names.lookup y = some .local) (hxy : x ≠ y) (hh : A.handled = none)
    (hI : h.IsListIter I l j) (hC : NsObj oC mC) (N : News h₀ L h ((I, oI) :: (C, oC) :: (D, lst ys) :: news)) (ht : ∃ T o v1 v2 k, v = .ref T ∧ (T, o) ∈ news ∧ o.cls = .type "tuple" ∧ o.data = .seq #[v1, v2] k ∧ Vals i v1 v2)
    (k : ∀ h' m₂ tk', h'.Ns C m₂ → B2 x y Vals i m₂ v → Heap.ExtBut C h h' → Q () { s with heap := h', toks := tk' }) :
    wpAny (model prog w) A (letOwnedTupleGo (.Tuple [.Name x px, .Name y py] tn tp) (.ref I) v) (fun _ s' => wpAny (model prog w) A (assign (.Tuple [.Name x px, .Name y py] tn tp) (compEnvC scope cl C env) v) Q E s') E { s with heap := h, toks := tk } := by
  obtain ⟨T, o, v1, v2, kk, rfl, hm, hc, hd, hV⟩ := ht
  have hT : IsTup h T #[v1, v2] := ⟨o, (N _ (List.mem_cons_of_mem _ (List.mem_cons_of_mem _ (List.mem_cons_of_mem _ hm)))).1, hc, kk, hd⟩
  have hn := hC.ns (N (C, oC) (by simp)).1
  refine wpAny_letOwnedTupleGo_listiter hI ?_
  refine assign_Tuple_tuple hh hT rfl rfl fun h₅ he => ?_
  have he' : ∀ b o, h.get? b = some o → h₅.get? b = some o := fun b o e => he b o (Nat.ne_of_lt (Heap.lt_size e)) e
  refine assignInOrder_cons (wpAny_assign_Name (wpAny_storeName_local (lookup_relabel_local hx) (hn.at' fun o e => he' _ o e) (fun h₆ hn₆ hs₆ => ?_) (by simp [compEnvC, relabel, hkind])))
  refine assignInOrder_cons (wpAny_assign_Name (wpAny_storeName_local (lookup_relabel_local hy) hn₆ (fun h₃ hn₃ hs₃ => ?_) (by simp [compEnvC, relabel, hkind])))
  exact assignInOrder_nil (k h₃ _ _ hn₃ ⟨v1, v2, hV, by simp [hxy], by simp⟩ fun b o hb e => hs₃.extBut b o hb (hs₆.extBut b o hb (he' b o e)))
theorem post_eval {Q : Value → Shared → Prop} {D C : Addr} {h : Heap} {tk : Nat} {m' : Str → Option Value} {ys : List Value} {news' : List (Addr × Obj)} (F' : Fr h₀ L h m) (N' : News h₀ L h ((D, lst ys) :: news')) (o1 : Off1 D news') (hn : h.Ns C m') (hC₀ : h₀.get? C = none) (hCL : C ≠ L) (hCD : C ≠ D) (offC : ∀ p ∈ news', p.1 ≠ C) (fin : FinE h₀ L m s Q ys news') :
    compPost (model prog w) A E none Q (.ref D) C (.ok .next) { s with heap := h, toks := tk } :=
  ⟨m', hn, fun h'' hs'' => fin D h'' tk (F'.change hs'' hCL hC₀) (fun p hp => ⟨hs''.extBut _ _ (by
    rcases List.mem_cons.mp hp with rfl | hp
    · exact Ne.symm hCD
    · exact offC p hp) (N' p hp).1, (N' p hp).2⟩) o1⟩
theorem post_assign {y : Str} {py : Pos} {Q : Flow → Shared → Prop} {D C : Addr} {h : Heap} {tk : Nat} {m' : Str → Option Value} {ys : List Value} {news' : List (Addr × Obj)} (F' : Fr h₀ env.locals h m) (N' : News h₀ env.locals h ((D, lst ys) :: news')) (o1 : Off1 D news') (hn : h.Ns C m') (hC₀ : h₀.get? C = none) (hCL : C ≠ env.locals) (hCD : C ≠ D) (offC : ∀ p ∈ news', p.1 ≠ C)
    (hy : env.kindOf y = some .local) (hp : (env.scope.kind == .class || (env.scope.kind == .module && env.locals != env.globals)) = false) (fin : FinA h₀ env.locals m s y Q ys news') :
    compPost (model prog w) A E (some (assign (.Name y py) env)) (fun _ s' => Q .next s') (.ref D) C (.ok .next) { s with heap := h, toks := tk } := by
  show wpAny _ A (assign (.Name y py) env (.ref D)) _ _ _
  refine wpAny_assign_Name (wpAny_storeName_local hy F'.ns (fun h₂ hn₂ hs₂ => ?_) hp)
  have hL₀ : h₀.get? env.locals = none := Heap.get?_none_of_le F'.above
  have F₂ : Fr h₀ env.locals h₂ (fun z => if z = y then some (.ref D) else m z) := ⟨hn₂, fun b o e => hs₂.extBut b o (fun q => by rw [q, hL₀] at e; cases e) (F'.keep b o e), F'.above⟩
  refine ⟨m', hn.sameBut hs₂ hCL, fun h'' hs'' => fin D h'' _ (F₂.change hs'' hCL hC₀) (fun p hp => ⟨hs''.extBut _ _ ?_ (hs₂.extBut _ _ (N' p hp).2.1 (N' p hp).1), (N' p hp).2⟩) o1⟩
  rcases List.mem_cons.mp hp with rfl | hp
  · exact Ne.symm hCD
  · exact offC p hp
end
section
variable (prog : Program) (w : World) (A : Around) (h₀ : Heap) (L : Addr) (m : Str → Option Value) (env : Env) (elt : PySem.Expr) (ifs : List PySem.Expr) (scope : Scope) (cl : List (Str × Addr))
/-- the source of a comprehension with one name: a list or a range -/
def GSrc1 (x : Str) (Fin : Shared → List Value → List (Addr × Obj) → Prop) (xv : Value) (s : Shared) : Prop :=
  (∃ ax its news Inv, xv = .ref ax ∧ A.handled = none ∧ Fr h₀ L s.heap m ∧ News h₀ L s.heap news ∧ SrcAt h₀ ax its news ∧ its.size ≤ sizeLine ∧ Inv 0 [] news ∧ (∀ ys news, Inv its.size ys news → Fin s ys news) ∧
    GStep prog w A h₀ L m env elt ifs scope cl s (SrcAt h₀ ax its) (fun i v => its[i]? = some v) its.size Inv (B1 x)) ∨
  (∃ r a b t u v n news Inv, xv = .ref r ∧ A.handled = none ∧ Fr h₀ L s.heap m ∧ News h₀ L s.heap news ∧ IsRange s.heap r a b 1 t u v ∧ Builtin.Range.small a b 1 = true ∧ Builtin.Range.rangeSize a b 1 = ((n : Nat) : Int) ∧ n ≤ sizeLine ∧ Inv 0 [] news ∧ (∀ ys news, Inv n ys news → Fin s ys news) ∧
    GStep prog w A h₀ L m env elt ifs scope cl s (fun _ => True) (fun i v => ∃ t, v = .int (a + (i : Int)) t) n Inv (B1 x))
/-- the source of a comprehension with two names: a list of pairs -/
def GSrc2 (x y : Str) (Fin : Shared → List Value → List (Addr × Obj) → Prop) (xv : Value) (s : Shared) : Prop :=
  ∃ ax its news Inv Vals, xv = .ref ax ∧ A.handled = none ∧ Fr h₀ L s.heap m ∧ News h₀ L s.heap news ∧ SrcAt h₀ ax its news ∧ its.size ≤ sizeLine ∧ Inv 0 [] news ∧ (∀ ys news, Inv its.size ys news → Fin s ys news) ∧ GTup (fun i v => its[i]? = some v) its.size Inv Vals ∧
    GStep prog w A h₀ L m env elt ifs scope cl s (SrcAt h₀ ax its) (fun i v => its[i]? = some v) its.size Inv (B2 x y Vals)
end
section
variable {prog : Program} {w : World} {A : Around} {E : Value → Shared → Prop} {s : Shared} {h₀ : Heap} {L : Addr} {m : Str → Option Value} {env : Env} {elt iter : PySem.Expr} {ifs : List PySem.Expr} {scope : Scope} {cl : List (Str × Addr)} {pos : Pos}
theorem gc_one {x : Str} {px : Pos} {use : Option (Value → Sem Unit)} {Q : Value → Shared → Prop} {Fin : Shared → List Value → List (Addr × Obj) → Prop} (hcell : ∀ y ∈ scope.names, y.2 ≠ .cell) (hkind : scope.kind = .function) (hx : scope.names.lookup x = some .local) {xv : Value} (h : GSrc1 prog w A h₀ L m env elt ifs scope cl x Fin xv s)
    (hp : ∀ D C h tk m' ys news', Fr h₀ L h m → News h₀ L h ((D, lst ys) :: news') → Off1 D news' → h.Ns C m' → h₀.get? C = none → h₀.get? D = none → C ≠ L → D ≠ L → C ≠ D → (∀ p ∈ news', p.1 ≠ C) → Fin s ys news' → compPost (model prog w) A E use Q (.ref D) C (.ok .next) { s with heap := h, toks := tk }) :
    wpAny (model prog w) A (pyIter xv) (fun it s₂ => wpAny (model prog w) A (newList []) (fun acc s₃ => wpAny (model prog w) A (newFunctionEnv scope env.globals cl [] env.qual none .none (some env)) (fun cenv s₄ =>
      codeAny (model prog w) A (.compStart (.ListComp elt [⟨.Name x px, iter, ifs, 0⟩] scope pos) 0 it acc { cenv with scope := relabel scope env }) (compPost (model prog w) A E use Q acc cenv.locals) s₄) E s₃) E s₂) E s := by
  rcases h with ⟨ax, its, news, Inv, rfl, hh, F, N, S, hsz, h0, fin, st⟩ | ⟨r, a, b, t, u, v, n, news, Inv, rfl, hh, F, N, hr, hsm, hn, hsz, h0, fin, st⟩
  · have hl := S.list F.keep N
    have hlt : ax < s.heap.objs.size := by obtain ⟨_, e, _⟩ := hl; exact Heap.lt_size e
    refine wpAny_pyIter_list hl ?_
    have up : ∀ b o, s.heap.get? b = some o → (s.heap.push { cls := .type "list_iterator", data := .fields #[.ref ax, .int 0 0] }).get? b = some o := fun b o e => Heap.get?_push_of_some _ e
    refine gc_block (Inv := Inv) (Bound := B1 x) (Walks.list hh s.heap.objs.size ax (Nat.ne_of_lt hlt) its) hsz (fun i h st => by obtain ⟨o, e, _⟩ := st.1; exact ⟨o, e⟩) list_st hcell hkind
      (fun i ys news v oI oC C D h tk mC Q E _ _ _ _ hC _ N k => asg_one hkind hx hC N k)
      (fun i ys news v hi hI hP oI C oC D m₂ h tk E' hC hB F N o ne => st i ys news v hi hI hP _ oI C oC D m₂ h tk E' hC hB F N o ne) ⟨⟨_, Heap.get?_push_size _ rfl, rfl, rfl⟩, hl.push _⟩ (fun b hb => ?_)
      (F.keeps up) (N.grown up) (Nat.ne_of_lt F.ns.lt) (next_is_new F) (fun p hp => Nat.ne_of_lt (Heap.lt_size (N p hp).1)) S h0 ?_
    · show b < (s.heap.push _).objs.size
      rw [Heap.size_push]
      rcases List.mem_cons.mp hb with rfl | hb
      · exact Nat.lt_succ_self _
      · rw [List.mem_singleton.mp hb]; exact Nat.lt_succ_of_lt hlt
    · intro D C h tk m' ys news' F' N' o1 hn hC₀ hD₀ hCL hDL hCD offC hI
      exact hp D C h tk m' ys news' F' N' o1 hn hC₀ hD₀ hCL hDL hCD offC (fin ys news' hI)
  · refine wpAny_pyIter_range hr hsm ?_
    refine gc_block (Inv := Inv) (Bound := B1 x) (range_walks hh a n) hsz (fun i h st => ⟨_, st⟩) range_st hcell hkind
      (fun i ys news v oI oC C D h tk mC Q E _ _ _ _ hC _ N k => asg_one hkind hx hC N k)
      (fun i ys news v hi hI hP oI C oC D m₂ h tk E' hC hB F N o ne => st i ys news v hi hI hP _ oI C oC D m₂ h tk E' hC hB F N o ne) (by show IsRangeIter _ _ _ _ _; rw [hn]; simpa using Heap.get?_push_size _ rfl) (fun b hb => ?_)
      (F.keeps fun _ _ e => Heap.get?_push_of_some _ e) (N.grown fun _ _ e => Heap.get?_push_of_some _ e) (Nat.ne_of_lt F.ns.lt) (next_is_new F) (fun p hp => Nat.ne_of_lt (Heap.lt_size (N p hp).1)) trivial h0 ?_
    · rw [List.mem_singleton.mp hb]
      show s.heap.objs.size < (s.heap.push _).objs.size
      rw [Heap.size_push]; exact Nat.lt_succ_self _
    · intro D C h tk m' ys news' F' N' o1 hn hC₀ hD₀ hCL hDL hCD offC hI
      exact hp D C h tk m' ys news' F' N' o1 hn hC₀ hD₀ hCL hDL hCD offC (fin ys news' hI)
theorem gc_two {x y : Str} {px py tp : Pos} {tn : Nat} {use : Option (Value → Sem Unit)} {Q : Value → Shared → Prop} {Fin : Shared → List Value → List (Addr × Obj) → Prop} (hcell : ∀ y ∈ scope.names, y.2 ≠ .cell) (hkind : scope.kind = .function) (hx : scope.names.lookup x = some .local) (hy : scope.names.lookup y = some .local) (hxy : x ≠ y) {xv : Value} (h : GSrc2 prog w A h₀ L m env elt ifs scope cl x y Fin xv s)
    (hp : ∀ D C h tk m' ys news', Fr h₀ L h m → News h₀ L h ((D, lst ys) :: news') → Off1 D news' → h.Ns C m' → h₀.get? C = none → h₀.get? D = none → C ≠ L → D ≠ L → C ≠ D → (∀ p ∈ news', p.1 ≠ C) → Fin s ys news' → compPost (model prog w) A E use Q (.ref D) C (.ok .next) { s with heap := h, toks := tk }) :
    wpAny (model prog w) A (pyIter xv) (fun it s₂ => wpAny (model prog w) A (newList []) (fun acc s₃ => wpAny (model prog w) A (newFunctionEnv scope env.globals cl [] env.qual none .none (some env)) (fun cenv s₄ =>
      codeAny (model prog w) A (.compStart (.ListComp elt [⟨.Tuple [.Name x px, .Name y py] tn tp, iter, ifs, 0⟩] scope pos) 0 it acc { cenv with scope := relabel scope env }) (compPost (model prog w) A E use Q acc cenv.locals) s₄) E s₃) E s₂) E s := by
  obtain ⟨ax, its, news, Inv, Vals, rfl, hh, F, N, S, hsz, h0, fin, tup, st⟩ := h
  have hl := S.list F.keep N
  have hlt : ax < s.heap.objs.size := by obtain ⟨_, e, _⟩ := hl; exact Heap.lt_size e
  refine wpAny_pyIter_list hl ?_
  have up : ∀ b o, s.heap.get? b = some o → (s.heap.push { cls := .type "list_iterator", data := .fields #[.ref ax, .int 0 0] }).get? b = some o := fun b o e => Heap.get?_push_of_some _ e
  refine gc_block (Inv := Inv) (Bound := B2 x y Vals) (Walks.list hh s.heap.objs.size ax (Nat.ne_of_lt hlt) its) hsz (fun i h st => by obtain ⟨o, e, _⟩ := st.1; exact ⟨o, e⟩) list_st hcell hkind
    (fun i ys news v oI oC C D h tk mC Q E hi hI hP hst hC _ N k => asg_two hkind hx hy hxy hh hst.1 hC N (tup i ys news v hi hI hP) k)
    (fun i ys news v hi hI hP oI C oC D m₂ h tk E' hC hB F N o ne => st i ys news v hi hI hP _ oI C oC D m₂ h tk E' hC hB F N o ne) ⟨⟨_, Heap.get?_push_size _ rfl, rfl, rfl⟩, hl.push _⟩ (fun b hb => ?_)
    (F.keeps up) (N.grown up) (Nat.ne_of_lt F.ns.lt) (next_is_new F) (fun p hp => Nat.ne_of_lt (Heap.lt_size (N p hp).1)) S h0 ?_
  · show b < (s.heap.push _).objs.size
    rw [Heap.size_push]
    rcases List.mem_cons.mp hb with rfl | hb
    · exact Nat.lt_succ_self _
    · rw [List.mem_singleton.mp hb]; exact Nat.lt_succ_of_lt hlt
  · intro D C h tk m' ys news' F' N' o1 hn hC₀ hD₀ hCL hDL hCD offC hI
    exact hp D C h tk m' ys news' F' N' o1 hn hC₀ hD₀ hCL hDL hCD offC (fin ys news' hI)
theorem comp1_eval {x : Str} {px : Pos} {Q : Value → Shared → Prop} (F₀ : Fr h₀ L s.heap m) (hclos : closureFor scope env = pure cl) (hcell : ∀ y ∈ scope.names, y.2 ≠ .cell) (hkind : scope.kind = .function) (hnames : ∀ y ∈ scope.names, y.2 = .local → scope.names.lookup y.1 = some .local) (hx : scope.names.lookup x = some .local)
    (h : wpAny (model prog w) A (eval iter env) (GSrc1 prog w A h₀ L m env elt ifs scope cl x (fun s ys news => FinE h₀ L m s Q ys news)) E s) (hs : ∀ x, foldedSetIterable iter env x = pure x := by intro _; rfl) :
    wpAny (model prog w) A (eval (.ListComp elt [⟨.Name x px, iter, ifs, 0⟩] scope pos) env) Q E s := by
  rw [eval_ListComp]
  exact wpAny_comprehension_free (use := none) rfl hs hclos hkind hnames (wpAny_mono h (fun xv s₁ h₁ => gc_one hcell hkind hx h₁ fun D C h tk m' ys news' F' N' o1 hn hC₀ hD₀ hCL hDL hCD offC fin => post_eval F' N' o1 hn hC₀ hCL hCD offC fin) fun _ _ e => e)
theorem comp2_eval {x y : Str} {px py tp : Pos} {tn : Nat} {Q : Value → Shared → Prop} (F₀ : Fr h₀ L s.heap m) (hclos : closureFor scope env = pure cl) (hcell : ∀ y ∈ scope.names, y.2 ≠ .cell) (hkind : scope.kind = .function) (hnames : ∀ y ∈ scope.names, y.2 = .local → scope.names.lookup y.1 = some .local) (hx : scope.names.lookup x = some .local) (hy : scope.names.lookup y = some .local) (hxy : x ≠ y)
    (h : wpAny (model prog w) A (eval iter env) (GSrc2 prog w A h₀ L m env elt ifs scope cl x y (fun s ys news => FinE h₀ L m s Q ys news)) E s) (hs : ∀ x, foldedSetIterable iter env x = pure x := by intro _; rfl) :
    wpAny (model prog w) A (eval (.ListComp elt [⟨.Tuple [.Name x px, .Name y py] tn tp, iter, ifs, 0⟩] scope pos) env) Q E s := by
  rw [eval_ListComp]
  exact wpAny_comprehension_free (use := none) rfl hs hclos hkind hnames (wpAny_mono h (fun xv s₁ h₁ => gc_two hcell hkind hx hy hxy h₁ fun D C h tk m' ys news' F' N' o1 hn hC₀ hD₀ hCL hDL hCD offC fin => post_eval F' N' o1 hn hC₀ hCL hCD offC fin) fun _ _ e => e)
theorem comp1_assign {x y : Str} {px py spos : Pos} {Q : Flow → Shared → Prop} (F₀ : Fr h₀ env.locals s.heap m)
    (hsw : swapsWith (.ListComp elt [⟨.Name x px, iter, ifs, 0⟩] scope pos) (some (.Name y py)) spos.line env = pure true)
    (hclos : closureFor scope env = pure cl) (hcell : ∀ y ∈ scope.names, y.2 ≠ .cell) (hkind : scope.kind = .function) (hnames : ∀ y ∈ scope.names, y.2 = .local → scope.names.lookup y.1 = some .local) (hx : scope.names.lookup x = some .local)
    (hy : env.kindOf y = some .local) (hp : (env.scope.kind == .class || (env.scope.kind == .module && env.locals != env.globals)) = false)
    (h : wpAny (model prog w) A (eval iter env) (GSrc1 prog w A h₀ env.locals m env elt ifs scope cl x (fun s ys news => FinA h₀ env.locals m s y Q ys news)) E s) (hs : ∀ x, foldedSetIterable iter env x = pure x := by intro _; rfl) :
    wpAny (model prog w) A (exec (.Assign [.Name y py] (.ListComp elt [⟨.Name x px, iter, ifs, 0⟩] scope pos) spos) env) Q E s := by
  rw [exec_Assign_Name_used _ _ _ _ hsw]
  refine wpAny_bind (wpAny_standAt (wpAny_bind ?_))
  show wpAny _ A (do let _ ← comprehension (.ListComp elt [⟨.Name x px, iter, ifs, 0⟩] scope pos) scope env _ (newList []) false (eval iter env) (some (assign (.Name y py) env))) _ _ s
  exact wpAny_bind (wpAny_mono (wpAny_comprehension_free (use := some (assign (.Name y py) env)) (Q := fun _ s' => Q .next s') rfl hs hclos hkind hnames
    (wpAny_mono h (fun xv s₁ h₁ => gc_one hcell hkind hx h₁ fun D C h tk m' ys news' F' N' o1 hn hC₀ hD₀ hCL hDL hCD offC fin => post_assign F' N' o1 hn hC₀ hCL hCD offC hy hp fin) fun _ _ e => e)) (fun _ s' hq => wpAny_pure (wpAny_pure hq)) fun _ _ e => e)
theorem comp2_assign {x x₂ y : Str} {px px₂ py tp spos : Pos} {tn : Nat} {Q : Flow → Shared → Prop} (F₀ : Fr h₀ env.locals s.heap m)
    (hsw : swapsWith (.ListComp elt [⟨.Tuple [.Name x px, .Name x₂ px₂] tn tp, iter, ifs, 0⟩] scope pos) (some (.Name y py)) spos.line env = pure true)
    (hclos : closureFor scope env = pure cl) (hcell : ∀ y ∈ scope.names, y.2 ≠ .cell) (hkind : scope.kind = .function) (hnames : ∀ y ∈ scope.names, y.2 = .local → scope.names.lookup y.1 = some .local) (hx : scope.names.lookup x = some .local) (hx₂ : scope.names.lookup x₂ = some .local) (hxy : x ≠ x₂)
    (hy : env.kindOf y = some .local) (hp : (env.scope.kind == .class || (env.scope.kind == .module && env.locals != env.globals)) = false)
    (h : wpAny (model prog w) A (eval iter env) (GSrc2 prog w A h₀ env.locals m env elt ifs scope cl x x₂ (fun s ys news => FinA h₀ env.locals m s y Q ys news)) E s) (hs : ∀ x, foldedSetIterable iter env x = pure x := by intro _; rfl) :
    wpAny (model prog w) A (exec (.Assign [.Name y py] (.ListComp elt [⟨.Tuple [.Name x px, .Name x₂ px₂] tn tp, iter, ifs, 0⟩] scope pos) spos) env) Q E s := by
  rw [exec_Assign_Name_used _ _ _ _ hsw]
  refine wpAny_bind (wpAny_standAt (wpAny_bind ?_))
  show wpAny _ A (do let _ ← comprehension (.ListComp elt [⟨.Tuple [.Name x px, .Name x₂ px₂] tn tp, iter, ifs, 0⟩] scope pos) scope env _ (newList []) false (eval iter env) (some (assign (.Name y py) env))) _ _ s
  exact wpAny_bind (wpAny_mono (wpAny_comprehension_free (use := some (assign (.Name y py) env)) (Q := fun _ s' => Q .next s') rfl hs hclos hkind hnames
    (wpAny_mono h (fun xv s₁ h₁ => gc_two hcell hkind hx hx₂ hxy h₁ fun D C h tk m' ys news' F' N' o1 hn hC₀ hD₀ hCL hDL hCD offC fin => post_assign F' N' o1 hn hC₀ hCL hCD offC hy hp fin) fun _ _ e => e)) (fun _ s' hq => wpAny_pure (wpAny_pure hq)) fun _ _ e => e)
end
end Mine
end
section
open PySem PySem.W PySem.Spec PySem.Calls PyProof.Rows
namespace Mine
/-- a def's body and scope, out of the written heap -/
@[irreducible] def fnBody (K : Frag) (f : Addr) : List Stmt := match K.lookup f with
  | some ⟨_, _, .func fd, _⟩ => (match fd.body with | .stmts b => b | _ => [])
  | _ => []
@[irreducible] def fnScope (K : Frag) (f : Addr) : Scope := match K.lookup f with
  | some ⟨_, _, .func fd, _⟩ => fd.scope
  | _ => default
theorem fnBody_eq {K : Frag} {f : Addr} {name qual : Str} {params : Arguments} {body : List Stmt} {scope : Scope} {dV kV doc pm cdv ct oc : Value} {an od : Option Addr} {osl : Array (Option Value)}
    (h : K.lookup f = some ⟨oc, od, .func (fnOf name qual params body scope dV kV doc pm an cdv ct), osl⟩) : fnBody K f = body ∧ fnScope K f = scope := by
  unfold fnBody fnScope
  rw [h]
  exact ⟨rfl, rfl⟩
def nthS : List Stmt → Nat → Stmt
  | s :: _, 0 => s
  | _ :: r, n + 1 => nthS r n
  | [], _ => .Pass default
def subS : Stmt → List Stmt
  | .For _ _ b _ _ => b
  | .If _ b _ _ => b
  | .Try b _ _ _ _ => b
  | _ => []
def elsS : Stmt → List Stmt
  | .If _ _ o _ => o
  | _ => []
end Mine
end
section
open PySem PySem.W PySem.Spec PySem.Calls PyProof.Rows
namespace Mine
abbrev tupO (p : Str × Int) (t u : Tok) : Obj := { cls := .type "tuple", data := .seq #[.str p.1 t, .int p.2 u] }
theorem NonC.tup {p : Str × Int} {t u : Tok} : NonC (tupO p t u) := .seq (n := 0) rfl
/-- the values rvs are the pairs of row, which lie in all -/
def RowIs (rvs : List Value) (row : Seg) (all : List (Addr × Obj)) : Prop :=
  rvs.length = row.length ∧ ∀ (i : Nat) (v : Value) (p : Str × Int), rvs[i]? = some v → row[i]? = some p → ∃ T t u, v = .ref T ∧ (T, tupO p t u) ∈ all
theorem RowIs.mono {rvs : List Value} {row : Seg} {all all' : List (Addr × Obj)} (h : RowIs rvs row all) (hs : ∀ p ∈ all, NonC p.2 → p ∈ all') : RowIs rvs row all' :=
  ⟨h.1, fun i v p hv hp => let ⟨T, t, u, e, hm⟩ := h.2 i v p hv hp; ⟨T, t, u, e, hs _ hm .tup⟩⟩
theorem RowIs.nil {all : List (Addr × Obj)} : RowIs [] [] all := ⟨rfl, fun i v p h => by simp at h⟩
theorem RowIs.snoc {rvs : List Value} {row : Seg} {all : List (Addr × Obj)} {T : Addr} {p : Str × Int} {t u : Tok} (h : RowIs rvs row all) (hT : (T, tupO p t u) ∈ all) : RowIs (rvs ++ [.ref T]) (row ++ [p]) all := by
  refine ⟨by simp [h.1], fun i v q hv hq => ?_⟩
  by_cases hi : i < rvs.length
  · rw [List.getElem?_append_left hi] at hv
    rw [List.getElem?_append_left (by rw [← h.1]; exact hi)] at hq
    exact h.2 i v q hv hq
  · have hi' : i = rvs.length := by
      have := (List.getElem?_eq_some_iff.mp hv).1
      simp at this; omega
    subst hi'
    rw [List.getElem?_concat_length] at hv
    rw [h.1, List.getElem?_concat_length] at hq
    cases hv; cases hq
    exact ⟨T, t, u, rfl, hT⟩
abbrev refs (cs : List Cell) : List Value := cs.map fun b => .ref b.c.x
/-- what the law's loop carries -/
structure LSt where
  kd : Int
  kt : Tok
  Lc : Addr
  Lr : Addr
  Lm : Addr
  W : Cell
  cs : List Cell
  row : Seg
  o1 : Obj
  o2 : Obj
  o3 : Obj
  o4 : Obj
  o5 : Obj
  all : List (Addr × Obj)
  ex : List (Addr × Obj)
abbrev cel5 (L : Addr) (σ : LSt) : List (Addr × Obj) := [(L + 1 + 1 + 1 + 1 + 1, σ.o5), (L + 1 + 1 + 1 + 1, σ.o4), (L + 1 + 1 + 1, σ.o3), (L + 1 + 1, σ.o2), (L + 1, σ.o1)]
/-- a is no place of all's -/
def Off (a : Addr) (all : List (Addr × Obj)) : Prop := ∀ p ∈ all, @Ne Nat p.1 a
/-- none of the frame's own cells -/
def NoCell (L : Addr) (all : List (Addr × Obj)) : Prop := Off (L + 1) all ∧ Off (L + 1 + 1) all ∧ Off (L + 1 + 1 + 1) all ∧ Off (L + 1 + 1 + 1 + 1) all ∧ Off (L + 1 + 1 + 1 + 1 + 1) all
section
variable {prog : Program} (w : World) (knd : PySem.KeyKind prog w Str) (C : Addr) (on : Str) (h₀ : Heap) (L : Addr)
/-- the law's state, but for the heap -/
structure Lq (m : Str → Option Value) (σ : LSt) : Prop where
  d1 : σ.o1.data = .cell (some (.int σ.kd σ.kt))
  d2 : σ.o2.data = .cell (some (.ref σ.Lc))
  d3 : σ.o3.data = .cell (some (.ref σ.W.c.x))
  d4 : ∃ v, σ.o4.data = .cell v
  d5 : ∃ v, σ.o5.data = .cell v
  H : Hold w.params knd C on (σ.W :: σ.cs) σ.all
  chain : ∃ n, (σ.Lc, W.listOf (refs σ.cs).toArray n) ∈ σ.all
  rows : ∃ rvs n, (σ.Lr, W.listOf rvs.toArray n) ∈ σ.all ∧ RowIs rvs σ.row σ.all
  rooms : ∃ vs n, (σ.Lm, W.listOf vs.toArray n) ∈ σ.all ∧ IntsAre vs (σ.cs.map (·.c.mx))
  r1 : m (Str.ofString "row") = some (.ref σ.Lr)
  r2 : m (Str.ofString "rooms") = some (.ref σ.Lm)
  nc : NoCell L σ.all
  len : σ.cs.length ≤ 3
  rl : σ.row.length ≤ 12
  ext : ∀ p ∈ σ.ex, p ∈ σ.all ∧ NonC p.2
structure Lw (m : Str → Option Value) (h : Heap) (σ : LSt) : Prop where
  F : Fr h₀ L h m
  N : News h₀ L h (cel5 L σ ++ σ.all)
  q : Lq w knd C on L m σ
end
section
variable {prog : Program} {w : World} {knd : PySem.KeyKind prog w Str} {C : Addr} {on : Str} {h₀ : Heap} {L : Addr} {m m' : Str → Option Value} {h h' : Heap} {σ : LSt} {A : Around} {E : Value → Shared → Prop} {s : Shared} {news : List (Addr × Obj)} {env : Env}
theorem Lq.names (q : Lq w knd C on L m σ) (r1 : m' (Str.ofString "row") = m (Str.ofString "row")) (r2 : m' (Str.ofString "rooms") = m (Str.ofString "rooms")) : Lq w knd C on L m' σ :=
  ⟨q.d1, q.d2, q.d3, q.d4, q.d5, q.H, q.chain, q.rows, q.rooms, r1.trans q.r1, r2.trans q.r2, q.nc, q.len, q.rl, q.ext⟩
theorem Lw.move (S : Lw w knd C on h₀ L m h σ) (F : Fr h₀ L h' m') (N : News h₀ L h' news) (hs : ∀ p ∈ cel5 L σ ++ σ.all, p ∈ news) (r1 : m' (Str.ofString "row") = m (Str.ofString "row")) (r2 : m' (Str.ofString "rooms") = m (Str.ofString "rooms")) : Lw w knd C on h₀ L m' h' σ :=
  ⟨F, fun p hp => N p (hs p hp), S.q.names r1 r2⟩
theorem Lq.lw (q : Lq w knd C on L m σ) (F : Fr h₀ L h m) (N : News h₀ L h news) (hs : ∀ p ∈ cel5 L σ ++ σ.all, p ∈ news) : Lw w knd C on h₀ L m h σ := ⟨F, fun p hp => N p (hs p hp), q⟩
/-- more objects beside the caches -/
theorem Lq.more {all : List (Addr × Obj)} (S : Lq w knd C on L m σ) (hs : ∀ p ∈ σ.all, p ∈ all) (hl : NoCell L all) : Lq w knd C on L m { σ with all := all } :=
  ⟨S.d1, S.d2, S.d3, S.d4, S.d5, S.H.mono hs, let ⟨n, hm⟩ := S.chain; ⟨n, hs _ hm⟩, let ⟨rvs, n, hm, hr⟩ := S.rows; ⟨rvs, n, hs _ hm, hr.mono fun p hp _ => hs p hp⟩,
    let ⟨vs, n, hm, hr⟩ := S.rooms; ⟨vs, n, hs _ hm, hr⟩, S.r1, S.r2, hl, S.len, S.rl, fun p hp => ⟨hs _ (S.ext p hp).1, (S.ext p hp).2⟩⟩
theorem Off.cons {x a : Addr} {o : Obj} {all : List (Addr × Obj)} (h : Off x all) (hl : @Ne Nat a x) : Off x ((a, o) :: all) := fun p hp => by
  rcases List.mem_cons.mp hp with rfl | hp
  · exact hl
  · exact h p hp
/-- a is none of the frame's own cells -/
def NotCell (L a : Addr) : Prop := (@Ne Nat a (L + 1)) ∧ (@Ne Nat a (L + 1 + 1)) ∧ (@Ne Nat a (L + 1 + 1 + 1)) ∧ (@Ne Nat a (L + 1 + 1 + 1 + 1)) ∧ (@Ne Nat a (L + 1 + 1 + 1 + 1 + 1))
theorem NoCell.cons {a : Addr} {o : Obj} {all : List (Addr × Obj)} (h : NoCell L all) (hl : NotCell L a) : NoCell L ((a, o) :: all) := ⟨h.1.cons hl.1, h.2.1.cons hl.2.1, h.2.2.1.cons hl.2.2.1, h.2.2.2.1.cons hl.2.2.2.1, h.2.2.2.2.cons hl.2.2.2.2⟩
theorem NoCell.mono {all all' : List (Addr × Obj)} (h : NoCell L all) (k : ∀ x, Off x all → Off x all') : NoCell L all' := ⟨k _ h.1, k _ h.2.1, k _ h.2.2.1, k _ h.2.2.2.1, k _ h.2.2.2.2⟩
theorem Lq.grow {a : Addr} {o : Obj} (S : Lq w knd C on L m σ) (hl : NotCell L a) : Lq w knd C on L m { σ with all := (a, o) :: σ.all } := S.more (fun p hp => List.mem_cons_of_mem _ hp) (S.nc.cons hl)
/-- the key's cell stored -/
theorem Lw.key {v : Value} {Q : Unit → Shared → Prop} (S : Lw w knd C on h₀ L m s.heap σ) (hk : env.scope.kind = .function) (hl : env.kindOf (Str.ofString "key") = some .cell) (hc : env.cells.lookup (Str.ofString "key") = some (L + 1 + 1 + 1 + 1))
    (k : ∀ hp o, Lw w knd C on h₀ L m hp { σ with o4 := o } → o.data = .cell (some v) → Q () { s with heap := hp }) : wpAny (model prog w) A (storeName env (Str.ofString "key") v) Q E s := by
  obtain ⟨v4, d4⟩ := S.q.d4
  have z := S.N (L + 1 + 1 + 1 + 1, σ.o4) (by simp)
  refine wpAny_storeName_cell hk hl hc ⟨_, z.1, d4⟩ fun hp ⟨o, ho, hd⟩ hs => ?_
  refine k hp o ⟨S.F.change hs z.2.1 z.2.2, fun p hp' => ?_, S.q.d1, S.q.d2, S.q.d3, ⟨_, hd⟩, S.q.d5, S.q.H, S.q.chain, S.q.rows, S.q.rooms, S.q.r1, S.q.r2, S.q.nc, S.q.len, S.q.rl, S.q.ext⟩ hd
  by_cases he : p.1 = L + 1 + 1 + 1 + 1
  · have : p = (L + 1 + 1 + 1 + 1, o) := by
      rcases List.mem_append.mp hp' with h1 | h1
      · simp only [cel5, List.mem_cons, List.not_mem_nil, or_false] at h1
        rcases h1 with rfl | rfl | rfl | rfl | rfl
        · exact absurd he (Nat.ne_of_gt (Nat.lt_succ_self _))
        · rfl
        · exact absurd he (Nat.ne_of_lt (Nat.lt_succ_self _))
        · exact absurd he (Nat.ne_of_lt (Nat.lt_succ_of_lt (Nat.lt_succ_self _)))
        · exact absurd he (Nat.ne_of_lt (Nat.lt_succ_of_lt (Nat.lt_succ_of_lt (Nat.lt_succ_self _))))
      · exact absurd he (S.q.nc.2.2.2.1 p h1)
    rw [this]; exact ⟨ho, z.2⟩
  · have hp2 : p ∈ cel5 L σ ++ σ.all := by
      rcases List.mem_append.mp hp' with h1 | h1
      · refine List.mem_append_left _ ?_
        simp only [cel5, List.mem_cons, List.not_mem_nil, or_false] at h1 ⊢
        rcases h1 with rfl | rfl | rfl | rfl | rfl
        · exact .inl rfl
        · exact absurd rfl he
        · exact .inr (.inr (.inl rfl))
        · exact .inr (.inr (.inr (.inl rfl)))
        · exact .inr (.inr (.inr (.inr rfl)))
      · exact List.mem_append_right _ h1
    exact ⟨hs.extBut _ _ he (S.N p hp2).1, (S.N p hp2).2⟩
theorem set_split {cs : List Cell} {i : Nat} {b : Cell} (h : cs[i]? = some b) (b' : Cell) : cs = cs.take i ++ b :: cs.drop (i + 1) ∧ cs.set i b' = cs.take i ++ b' :: cs.drop (i + 1) := by
  obtain ⟨hi, e⟩ := List.getElem?_eq_some_iff.mp h
  refine ⟨?_, List.set_eq_take_append_cons_drop .. |>.trans (if_pos hi)⟩
  rw [← e, ← List.drop_eq_getElem_cons hi, List.take_append_drop]
theorem refs_set {cs : List Cell} {i : Nat} {c : Loc} {s1 s2 : Seg} (h : cs[i]? = some ⟨c, s1⟩) : refs (cs.set i ⟨c, s2⟩) = refs cs := by
  obtain ⟨e1, e2⟩ := set_split h ⟨c, s2⟩
  rw [e2]; conv => rhs; rw [e1]
  simp
theorem mxs_set {cs : List Cell} {i : Nat} {c : Loc} {s1 s2 : Seg} (h : cs[i]? = some ⟨c, s1⟩) : (cs.set i ⟨c, s2⟩).map (·.c.mx) = cs.map (·.c.mx) := by
  obtain ⟨e1, e2⟩ := set_split h ⟨c, s2⟩
  rw [e2]; conv => rhs; rw [e1]
  simp
theorem off_adr {P : Params} {cells : List Cell} {all : List (Addr × Obj)} {b : Cell} {a : Addr} (H : Hold P knd C on cells all) (hb : b ∈ cells) (ho : Off a all) : a ∉ b.c.adr := fun hm => by
  obtain ⟨objs, h1, h2⟩ := H.has b hb
  rw [← h1.adr] at hm
  obtain ⟨q, hq, e⟩ := List.mem_map.mp hm
  exact ho q (h2 q hq) e
theorem memT {α : Type} {a : α} {l : List α} (h : a ∈ l) : List.Mem a l := h
def Offs : List (Addr × Obj) → List (Addr × Obj) → Prop
  | [], _ => True
  | x :: r, all => Off x.1 all ∧ Offs r all
theorem Offs.of {all : List (Addr × Obj)} : ∀ {xs : List (Addr × Obj)}, Offs xs all → ∀ x ∈ xs, Off x.1 all
  | [], _, _, h => nomatch h
  | _ :: _, o, x, h => by
    rcases List.mem_cons.mp h with rfl | h
    · exact o.1
    · exact Offs.of o.2 x h
theorem fOff {l : List Addr} : ∀ {f : List (Addr × Obj)}, (∀ p ∈ f, p.1 ∉ l) → FOff l f
  | [], _ => trivial
  | _ :: _, h => ⟨h _ List.mem_cons_self, fOff fun p hp => h p (List.mem_cons_of_mem _ hp)⟩
theorem NoCell.off5 (h : NoCell L σ.all) : ∀ p ∈ cel5 L σ, Off p.1 σ.all := fun p hp => by
  simp only [cel5, List.mem_cons, List.not_mem_nil, or_false] at hp
  rcases hp with rfl | rfl | rfl | rfl | rfl
  · exact h.2.2.2.2
  · exact h.2.2.2.1
  · exact h.2.2.1
  · exact h.2.1
  · exact h.1
theorem frontOf_all {all : List (Addr × Obj)} : ∀ f : List (Addr × Obj), FrontOf (f ++ all) f all
  | [] => .nil
  | _ :: f => .cons (frontOf_all f)
end
section
variable {prog : Program} {KK : Params → Frag} {q : Program} {knd : ∀ w, PySem.KeyKind prog w Str} {C : Addr} {on : Str} {fn D : Nat} {as : Loc → Arg → List Value} {Pre : Loc → Seg → Arg → Prop} {Post : Loc → Seg → Arg → Value → List (Addr × Obj) → Seg → Prop}
variable {w : World} {s : Shared} {A : Around} {E : Value → Shared → Prop} {h₀ : Heap} {env : Env} {L : Addr} {m mm mg mb : Str → Option Value} {lse : List Str} {mean : ExcName → Option Value} {a : Arg} {vs : List Value} {σ : LSt} {c : Loc} {seg : Seg}
/-- a deed done to one of the chain's caches -/
theorem Lq.opC {Q : Value → Shared → Prop} {i : Nat} (xs : List (Addr × Obj)) (d : COp KK q knd C on D fn as Pre Post) (S : Lq w (knd w) C on L m σ) (F : Fr h₀ L s.heap mm) (X : (KK w.params).In h₀) (N : News h₀ L s.heap (xs ++ (cel5 L σ ++ σ.all))) (T : Top q lse mean mg mb h₀) (hh : A.handled = none) (hA : A.frames = some [env]) (hf : env.frame = some L) (hke : env.scope.kind = .function) (hd : A.depth ≤ D) (hu : A.units ≤ D)
    (hi : σ.cs[i]? = some ⟨c, seg⟩) (hp : Pre c seg a) (off : Offs xs σ.all) (ha : vs = as c a)
    (h : ∀ h' tk' v more all' seg', Fr h₀ L h' mm → News h₀ L h' (more ++ (xs ++ (cel5 L σ ++ all'))) → Lq w (knd w) C on L m { σ with cs := σ.cs.set i ⟨c, seg'⟩, all := all' } → (∀ p ∈ σ.all, NonC p.2 → p ∈ all') → (∀ x, Off x σ.all → Off x all') → Post c seg a v more seg' → Q v { s with heap := h', toks := tk' }) :
    wpAny (model prog w) A (call (.ref fn) vs) Q E s := by
  obtain ⟨e1, _⟩ := set_split hi ⟨c, seg⟩
  have H : Hold w.params (knd w) C on ((σ.W :: σ.cs.take i) ++ ⟨c, seg⟩ :: σ.cs.drop (i + 1)) σ.all := by
    have := S.H
    rw [e1] at this
    exact this
  have hb : (⟨c, seg⟩ : Cell) ∈ ((σ.W :: σ.cs.take i) ++ ⟨c, seg⟩ :: σ.cs.drop (i + 1)) := by simp
  rw [← List.append_assoc] at N
  refine Hold.law d F X N T hh hA hf hke hd hu H (frontOf_all _) hp (fOff fun p hp => ?_) ha fun h' tk' v more all' seg' F' N' H' keep adr hP => ?_
  · rcases List.mem_append.mp hp with hp | hp
    · exact off_adr H hb (off.of p hp)
    · exact off_adr H hb (S.nc.off5 p hp)
  · rw [List.append_assoc] at N'
    refine h h' tk' v more all' seg' F' N' ⟨S.d1, S.d2, S.d3, S.d4, S.d5, ?_, ?_, ?_, ?_, S.r1, S.r2, S.nc.mono fun x hx p hp => ?_, ?_, S.rl, fun p hp => ⟨keep p (S.ext p hp).1 (S.ext p hp).2, (S.ext p hp).2⟩⟩ keep (fun x hx p hp => ?_) hP
    · show Hold _ _ _ _ (σ.W :: σ.cs.set i ⟨c, seg'⟩) all'
      rw [(set_split hi ⟨c, seg'⟩).2]
      exact H'
    · obtain ⟨n, hm⟩ := S.chain
      refine ⟨n, ?_⟩
      dsimp only
      rw [refs_set hi]
      exact keep _ hm .list
    · obtain ⟨rvs, n, hm, hr⟩ := S.rows
      exact ⟨rvs, n, keep _ hm .list, hr.mono keep⟩
    · obtain ⟨vs', n, hm, hr⟩ := S.rooms
      refine ⟨vs', n, keep _ hm .list, ?_⟩
      dsimp only
      rw [mxs_set hi]
      exact hr
    · obtain ⟨q', hq, e⟩ := adr p hp
      rw [← e]; exact hx q' hq
    · dsimp only
      rw [List.length_set]
      exact S.len
    · obtain ⟨q', hq, e⟩ := adr p hp
      rw [← e]; exact hx q' hq
/-- a deed done to the whole's cache -/
theorem Lq.opW {Q : Value → Shared → Prop} (xs : List (Addr × Obj)) (d : COp KK q knd C on D fn as Pre Post) (S : Lq w (knd w) C on L m σ) (F : Fr h₀ L s.heap mm) (X : (KK w.params).In h₀) (N : News h₀ L s.heap (xs ++ (cel5 L σ ++ σ.all))) (T : Top q lse mean mg mb h₀) (hh : A.handled = none) (hA : A.frames = some [env]) (hf : env.frame = some L) (hke : env.scope.kind = .function) (hd : A.depth ≤ D) (hu : A.units ≤ D)
    (hp : Pre σ.W.c σ.W.seg a) (off : Offs xs σ.all) (ha : vs = as σ.W.c a)
    (h : ∀ h' tk' v more all' seg', Fr h₀ L h' mm → News h₀ L h' (more ++ (xs ++ (cel5 L σ ++ all'))) → Lq w (knd w) C on L m { σ with W := ⟨σ.W.c, seg'⟩, all := all' } → (∀ p ∈ σ.all, NonC p.2 → p ∈ all') → (∀ x, Off x σ.all → Off x all') → Post σ.W.c σ.W.seg a v more seg' → Q v { s with heap := h', toks := tk' }) :
    wpAny (model prog w) A (call (.ref fn) vs) Q E s := by
  have H : Hold w.params (knd w) C on ([] ++ ⟨σ.W.c, σ.W.seg⟩ :: σ.cs) σ.all := S.H
  have hb : (⟨σ.W.c, σ.W.seg⟩ : Cell) ∈ ([] ++ ⟨σ.W.c, σ.W.seg⟩ :: σ.cs) := by simp
  rw [← List.append_assoc] at N
  refine Hold.law d F X N T hh hA hf hke hd hu H (frontOf_all _) hp (fOff fun p hp => ?_) ha fun h' tk' v more all' seg' F' N' H' keep adr hP => ?_
  · rcases List.mem_append.mp hp with hp | hp
    · exact off_adr H hb (off.of p hp)
    · exact off_adr H hb (S.nc.off5 p hp)
  · rw [List.append_assoc] at N'
    refine h h' tk' v more all' seg' F' N' ⟨S.d1, S.d2, S.d3, S.d4, S.d5, H', ?_, ?_, ?_, S.r1, S.r2, S.nc.mono fun x hx p hp => ?_, S.len, S.rl, fun p hp => ⟨keep p (S.ext p hp).1 (S.ext p hp).2, (S.ext p hp).2⟩⟩ keep (fun x hx p hp => ?_) hP
    · obtain ⟨n, hm⟩ := S.chain
      exact ⟨n, keep _ hm .list⟩
    · obtain ⟨rvs, n, hm, hr⟩ := S.rows
      exact ⟨rvs, n, keep _ hm .list, hr.mono keep⟩
    · obtain ⟨vs', n, hm, hr⟩ := S.rooms
      exact ⟨vs', n, keep _ hm .list, hr⟩
    · obtain ⟨q', hq, e⟩ := adr p hp
      rw [← e]; exact hx q' hq
    · obtain ⟨q', hq, e⟩ := adr p hp
      rw [← e]; exact hx q' hq
end
end Mine
end
section
open PySem PySem.W PySem.Spec PySem.Calls PyProof.Rows
namespace Mine
/-- what the written heap says of a cache's class -/
structure ClsF (K : Frag) (C : Addr) (on : Str) (gfn sfn pfn : Addr) : Prop where
  on_ : on = Str.ofString "_FIFOCache__order" ∨ on = Str.ofString "_LRUCache__order"
  has : findIn K (.ref C) "__contains__" = some (some (.ref 749))
  hasF : isFn K (.ref 749) = true
  len : findIn K (.ref C) "__len__" = some (some (.ref 770))
  lenF : isFn K (.ref 770) = true
  iter : findIn K (.ref C) "__iter__" = some (some (.ref 763))
  iterF : isFn K (.ref 763) = true
  gt : findIn K (.ref C) "__getitem__" = some (some (.ref gfn))
  gtF : isFn K (.ref gfn) = true
  gtN : fnIn K gfn = true
  seq : noSeq K C = true
  st : findIn K (.ref C) "__setitem__" = some (some (.ref sfn))
  stF : isFn K (.ref sfn) = true
  pop : findIn K (.ref C) "pop" = some (some (.ref 786))
  popF : isFn K (.ref 786) = true
  popG : plainGet K C "pop" = true
  popi : findIn K (.ref C) "popitem" = some (some (.ref pfn))
  popiF : isFn K (.ref pfn) = true
  popiG : plainGet K C "popitem" = true
  popiK : keepIn K (.ref pfn) = true
  mx : ∃ p rest, findIn K (.ref C) "maxsize" = some (some (.ref p)) ∧ specialIn K (.ref p) "__get__" = some (some (.builtin "property.__get__")) ∧ takesIn K (.ref p) = some true ∧ recIn K p "property" = some (.ref 808 :: rest)
  mxG : plainGet K C "maxsize" = true
  mxH : hasDictIn K C = true
section
variable {prog : Program} {w : World} {P : Params} {knd : PySem.KeyKind prog w Str} {C : Addr} {on : Str} {cells : List Cell} {b : Cell} {all news : List (Addr × Obj)} {h₀ h : Heap} {L : Addr}
theorem Hold.inst (H : Hold P knd C on cells all) (N : News h₀ L h news) (hs : ∀ p ∈ all, p ∈ news) (hb : b ∈ cells) (hon : on = Str.ofString "_FIFOCache__order" ∨ on = Str.ofString "_LRUCache__order") :
    ∃ es, InstAt h b.c.x (instObj C b.c.dx) C (some (dictOf es 4)) ∧ getL (Str.ofString "pop") es = some none ∧ getL (Str.ofString "popitem") es = some none := by
  obtain ⟨objs, ⟨te, o1, o2, kvs, e, _⟩, h2⟩ := H.has b hb
  subst e
  refine ⟨_, InstAt.of_news N (hs _ (h2 _ List.mem_cons_self)) (hs _ (h2 _ (List.mem_cons_of_mem _ List.mem_cons_self))), ?_⟩
  rcases hon with rfl | rfl
  · exact ⟨by rfl, by rfl⟩
  · exact ⟨by rfl, by rfl⟩
end
section
variable {prog : Program} {KK : Params → Frag} {q : Program} {knd : ∀ w, PySem.KeyKind prog w Str} {C gfn sfn pfn : Addr} {on : Str}
variable {w : World} {s : Shared} {A : Around} {E : Value → Shared → Prop} {h₀ : Heap} {env : Env} {L : Addr} {m mm mg mb : Str → Option Value} {lse : List Str} {mean : ExcName → Option Value} {σ : LSt} {c : Loc} {seg : Seg} {i : Nat} {k : Str} {t : Tok}
theorem Lq.instC (S : Lq w (knd w) C on L m σ) (cf : ClsF (KK w.params) C on gfn sfn pfn) (xs : List (Addr × Obj)) (N : News h₀ L s.heap (xs ++ (cel5 L σ ++ σ.all))) (hi : σ.cs[i]? = some ⟨c, seg⟩) :
    ∃ es, InstAt s.heap c.x (instObj C c.dx) C (some (dictOf es 4)) ∧ getL (Str.ofString "pop") es = some none ∧ getL (Str.ofString "popitem") es = some none :=
  S.H.inst (b := ⟨c, seg⟩) N (fun p hp => List.mem_append_right _ (List.mem_append_right _ hp)) (List.mem_cons_of_mem _ (List.mem_of_getElem? hi)) cf.on_
theorem Lq.instW (S : Lq w (knd w) C on L m σ) (cf : ClsF (KK w.params) C on gfn sfn pfn) (xs : List (Addr × Obj)) (N : News h₀ L s.heap (xs ++ (cel5 L σ ++ σ.all))) :
    ∃ es, InstAt s.heap σ.W.c.x (instObj C σ.W.c.dx) C (some (dictOf es 4)) ∧ getL (Str.ofString "pop") es = some none ∧ getL (Str.ofString "popitem") es = some none :=
  S.H.inst (b := σ.W) N (fun p hp => List.mem_append_right _ (List.mem_append_right _ hp)) List.mem_cons_self cf.on_
/-- nothing but marks: the caches hold what they held -/
structure Same (w : World) (knd : PySem.KeyKind prog w Str) (C : Addr) (on : Str) (L : Addr) (m : Str → Option Value) (σ : LSt) (all' : List (Addr × Obj)) : Prop where
  q : Lq w knd C on L m { σ with all := all' }
  keep : ∀ p ∈ σ.all, NonC p.2 → p ∈ all'
  off : ∀ x, Off x σ.all → Off x all'
theorem set_self {cs : List Cell} {i : Nat} {b : Cell} (h : cs[i]? = some b) : cs.set i b = cs := by
  obtain ⟨hi, e⟩ := List.getElem?_eq_some_iff.mp h
  rw [← e, List.set_getElem_self]
theorem Lq.hasC {Q : Value → Shared → Prop} (xs : List (Addr × Obj)) (oh : OHas KK q knd C on 749) (cf : ClsF (KK w.params) C on gfn sfn pfn) (S : Lq w (knd w) C on L m σ) (F : Fr h₀ L s.heap mm) (X : (KK w.params).In h₀) (N : News h₀ L s.heap (xs ++ (cel5 L σ ++ σ.all))) (T : Top q lse mean mg mb h₀) (hh : A.handled = none) (hA : A.frames = some [env]) (hf : env.frame = some L) (hke : env.scope.kind = .function) (hd : A.depth ≤ 350) (hu : A.units ≤ 350)
    (hi : σ.cs[i]? = some ⟨c, seg⟩) (off : Offs xs σ.all)
    (h : ∀ h' tk' all', Fr h₀ L h' mm → News h₀ L h' (xs ++ (cel5 L σ ++ all')) → Same w (knd w) C on L m σ all' → Q (.bool (decide (k ∈ keys seg))) { s with heap := h', toks := tk' }) :
    wpAny (model prog w) A (compareOp .In (.str k t) (.ref c.x)) Q E s := by
  obtain ⟨es, I, _⟩ := S.instC cf xs N hi
  refine in_K F X I cf.has cf.hasF (S.opC xs oh F X N T hh hA hf hke hd hu hi (a := ⟨k, t, 0, 0⟩) trivial off rfl fun h' tk' v more all' seg' F' N' S' keep offs hP => ?_)
  obtain ⟨rfl, rfl, rfl⟩ := hP
  refine wpAny_truthy_bool (h h' tk' all' F' N' ⟨?_, keep, offs⟩)
  rw [set_self hi] at S'
  exact S'
theorem Lq.hasW {Q : Value → Shared → Prop} (xs : List (Addr × Obj)) (oh : OHas KK q knd C on 749) (cf : ClsF (KK w.params) C on gfn sfn pfn) (S : Lq w (knd w) C on L m σ) (F : Fr h₀ L s.heap mm) (X : (KK w.params).In h₀) (N : News h₀ L s.heap (xs ++ (cel5 L σ ++ σ.all))) (T : Top q lse mean mg mb h₀) (hh : A.handled = none) (hA : A.frames = some [env]) (hf : env.frame = some L) (hke : env.scope.kind = .function) (hd : A.depth ≤ 350) (hu : A.units ≤ 350)
    (off : Offs xs σ.all)
    (h : ∀ h' tk' all', Fr h₀ L h' mm → News h₀ L h' (xs ++ (cel5 L σ ++ all')) → Same w (knd w) C on L m σ all' → Q (.bool (decide (k ∈ keys σ.W.seg))) { s with heap := h', toks := tk' }) :
    wpAny (model prog w) A (compareOp .In (.str k t) (.ref σ.W.c.x)) Q E s := by
  obtain ⟨es, I, _⟩ := S.instW cf xs N
  refine in_K F X I cf.has cf.hasF (S.opW xs oh F X N T hh hA hf hke hd hu (a := ⟨k, t, 0, 0⟩) trivial off rfl fun h' tk' v more all' seg' F' N' S' keep offs hP => ?_)
  obtain ⟨rfl, rfl, rfl⟩ := hP
  exact wpAny_truthy_bool (h h' tk' all' F' N' ⟨S', keep, offs⟩)
end
end Mine
end
section
open PySem PySem.W PySem.Spec PySem.Calls PyProof.Rows PyProof.Rows.LCg
namespace Mine
section
variable {prog : Program} {w : World} {knd : PySem.KeyKind prog w Str} {C : Addr} {on : Str} {h₀ h : Heap} {L : Addr} {m m' : Str → Option Value} {σ : LSt} {all all' : List (Addr × Obj)}
/-- the caches hold what they held, and what lies beside stays -/
structure Kept (w : World) (knd : PySem.KeyKind prog w Str) (C : Addr) (on : Str) (L : Addr) (m : Str → Option Value) (σ : LSt) (all' : List (Addr × Obj)) : Prop where
  q : Lq w knd C on L m { σ with all := all' }
  keep : ∀ p ∈ σ.all, NonC p.2 → p ∈ all'
theorem Same.kept (a : Same w knd C on L m σ all) : Kept w knd C on L m σ all := ⟨a.q, a.keep⟩
theorem Kept.trans (a : Kept w knd C on L m σ all) (b : Kept w knd C on L m { σ with all := all } all') : Kept w knd C on L m σ all' := ⟨b.q, fun p hp hn => b.keep p (a.keep p hp hn) hn⟩
theorem Kept.names (a : Kept w knd C on L m σ all) (r1 : m' (Str.ofString "row") = m (Str.ofString "row")) (r2 : m' (Str.ofString "rooms") = m (Str.ofString "rooms")) : Kept w knd C on L m' σ all := ⟨a.q.names r1 r2, a.keep⟩
theorem Kept.grow {a : Addr} {o : Obj} (k : Kept w knd C on L m σ all) (h : NotCell L a) : Kept w knd C on L m σ ((a, o) :: all) := ⟨k.q.grow h, fun p hp hn => List.mem_cons_of_mem _ (k.keep p hp hn)⟩
theorem Same.refl (q : Lq w knd C on L m σ) : Same w knd C on L m σ σ.all := ⟨q, fun _ h _ => h, fun _ h => h⟩
theorem Same.trans (a : Same w knd C on L m σ all) (b : Same w knd C on L m { σ with all := all } all') : Same w knd C on L m σ all' := ⟨b.q, fun p hp hn => b.keep p (a.keep p hp hn) hn, fun x hx => b.off x (a.off x hx)⟩
theorem Same.names (a : Same w knd C on L m σ all) (r1 : m' (Str.ofString "row") = m (Str.ofString "row")) (r2 : m' (Str.ofString "rooms") = m (Str.ofString "rooms")) : Same w knd C on L m' σ all := ⟨a.q.names r1 r2, a.keep, a.off⟩
theorem Off3.same {I C D : Addr} (h : Off3 I C D (cel5 L σ ++ all)) (k : ∀ x, Off x all → Off x all') : Off3 I C D (cel5 L σ ++ all') := by
  have z := h.mem
  have o : ∀ x, (∀ p ∈ all, @Ne Nat p.1 x) → ∀ p ∈ all', @Ne Nat p.1 x := k
  refine Off3.of fun p hp => ?_
  rcases List.mem_append.mp hp with hp | hp
  · exact z p (List.mem_append_left _ hp)
  · exact ⟨o I (fun q hq => (z q (List.mem_append_right _ hq)).1) p hp, o C (fun q hq => (z q (List.mem_append_right _ hq)).2.1) p hp, o D (fun q hq => (z q (List.mem_append_right _ hq)).2.2) p hp⟩
theorem Off3.offs {I C D : Addr} {oI oC oD : Obj} (h : Off3 I C D (cel5 L σ ++ all)) : Offs [(I, oI), (C, oC), (D, oD)] all := by
  have z := h.mem
  exact ⟨fun q hq => (z q (List.mem_append_right _ hq)).1, fun q hq => (z q (List.mem_append_right _ hq)).2.1, fun q hq => (z q (List.mem_append_right _ hq)).2.2, trivial⟩
theorem Off1.off {D : Addr} : ∀ {news : List (Addr × Obj)}, Off1 D news → Off D news
  | [], _ => fun _ h => (nomatch h)
  | _ :: _, x => fun p hp => by
    rcases List.mem_cons.mp hp with rfl | hp
    · exact x.1
    · exact Off1.off x.2 p hp
theorem notCell_of {D : Addr} (h : Off D (cel5 L σ ++ all)) : NotCell L D := by
  have z : ∀ a o, (a, o) ∈ cel5 L σ → @Ne Nat D a := fun a o ha => Ne.symm (h _ (List.mem_append_left _ ha))
  exact ⟨z _ σ.o1 (by simp), z _ σ.o2 (by simp), z _ σ.o3 (by simp), z _ σ.o4 (by simp), z _ σ.o5 (by simp)⟩
theorem src_all {ax n : Nat} {its : Array Value} (hm : (ax, W.listOf its n) ∈ all) : SrcAt h₀ ax its (cel5 L σ ++ all) := .inr ⟨_, List.mem_append_right _ hm, rfl, _, rfl⟩
theorem take_filter' {α : Type} {l : List α} {i : Nat} {x : α} (f : α → Bool) (h : l[i]? = some x) : (l.take (i + 1)).filter f = (l.take i).filter f ++ if f x = true then [x] else [] := by
  rw [List.take_add_one, h, List.filter_append]
  by_cases hx : f x = true <;> simp [hx]
/-- which caches have the key -/
def hasAt (cs : List Cell) (k : Str) (j : Nat) : Bool := (cs[j]?.map fun b => decide (k ∈ keys b.seg)).getD false
def havs (cs : List Cell) (k : Str) (i : Nat) : List Nat := (List.range i).filter (hasAt cs k)
theorem havs_succ (cs : List Cell) (k : Str) (i : Nat) : havs cs k (i + 1) = havs cs k i ++ if hasAt cs k i = true then [i] else [] := by
  unfold havs
  rw [List.range_succ, List.filter_append]
  congr 1
  by_cases h : hasAt cs k i = true <;> simp [h]
theorem Lq.item {A : Around} {E : Value → Shared → Prop} {s : Shared} {value slice : PySem.Expr} {u : Tok} {kk : Int} {i : Nat} {b : Cell} {Q : Value → Shared → Prop} (S : Lq w knd C on L m σ) (xs : List (Addr × Obj)) (N : News h₀ L s.heap (xs ++ (cel5 L σ ++ σ.all))) (hi : σ.cs[i]? = some b) (hk : kk = (i : Int)) (h : Q (.ref b.c.x) s)
    (hs : subscripted slice false (.ref σ.Lc) (.int kk u) = operate [.ref σ.Lc, .int kk u] (getItem (.ref σ.Lc) (.int kk u)) := by with_unfolding_all rfl) (hg : ∀ r, letTemporaryGo value (.ref σ.Lc) r = pure () := by intro _; with_unfolding_all rfl) :
    wpAny (model prog w) A (subscriptTail value slice (.ref σ.Lc) (.int kk u)) Q E s := by
  obtain ⟨n, hm⟩ := S.chain
  have hl := (List.getElem?_eq_some_iff.mp hi).1
  have h3 := S.len
  subst hk
  exact item_list (News.isList N (List.mem_append_right _ (List.mem_append_right _ hm))) (by omega) (by omega) (by simp [hi]) h hs hg
variable (w knd C on L m σ)
/-- ahead of a turn of a comprehension that only looks at the caches -/
def LookInv (R : Nat → List Value → Prop) (i : Nat) (ys : List Value) (news : List (Addr × Obj)) : Prop :=
  ∃ all', news = cel5 L σ ++ all' ∧ Same w knd C on L m σ all' ∧ R i ys
variable {w knd C on L m σ}
theorem look_end {I C' D : Addr} {oI oC oD : Obj} {mm : Str → Option Value} {s₁ : Shared} {S : List (Addr × Obj) → Prop} {R : Nat → List Value → Prop} {ys : List Value} {y : Value} {tk i : Nat} (F : Fr h₀ L h mm) (N : News h₀ L h ((I, oI) :: (C', oC) :: (D, oD) :: (cel5 L σ ++ all))) (off : Off3 I C' D (cel5 L σ ++ all)) (hS : S (cel5 L σ ++ all)) (Sm : Same w knd C on L m σ all) (hR : R i ys) :
    CompEnd h₀ L mm s₁ I oI C' oC D oD S (fun _ n' => LookInv w knd C on L m σ R i ys n') y { s₁ with heap := h, toks := tk } := ⟨h, tk, _, rfl, F, N, off, hS, all, rfl, Sm, hR⟩
theorem look_end' {I C' D : Addr} {oI oC oD : Obj} {mm : Str → Option Value} {s₁ : Shared} {S : List (Addr × Obj) → Prop} {R : Nat → List Value → Prop} {ys : List Value} {y : Value} {tk i : Nat} (F : Fr h₀ L h mm) (N : News h₀ L h ((I, oI) :: (C', oC) :: (D, oD) :: (cel5 L σ ++ all))) (off : Off3 I C' D (cel5 L σ ++ all)) (hS : S (cel5 L σ ++ all)) (Sm : Same w knd C on L m σ all) (hR : R i (ys ++ [y])) :
    CompEnd h₀ L mm s₁ I oI C' oC D oD S (fun y n' => LookInv w knd C on L m σ R i (ys ++ [y]) n') y { s₁ with heap := h, toks := tk } := ⟨h, tk, _, rfl, F, N, off, hS, all, rfl, Sm, hR⟩
end
end Mine
end
section
open PySem PySem.W PySem.Spec PySem.Calls PyProof.Rows
namespace Mine
/-- nothing but parts of caches -/
def AllC (all : List (Addr × Obj)) : Prop := ∀ p ∈ all, ¬ NonC p.2
section
variable {prog : Program} {KK : Params → Frag} {q : Program} {knd : ∀ w, PySem.KeyKind prog w Str} {C gfn sfn pfn : Addr} {on : Str} {fn D : Nat} {as : Loc → Arg → List Value} {Pre : Loc → Seg → Arg → Prop} {Post : Loc → Seg → Arg → Value → List (Addr × Obj) → Seg → Prop}
variable {w : World} {s : Shared} {A A₀ : Around} {E : Value → Shared → Prop} {base h₀ : Heap} {outer : List Env} {env : Env} {L : Addr} {m mg mb : Str → Option Value} {lse : List Str} {mean : ExcName → Option Value} {cells : List Cell} {c : Loc} {seg : Seg} {i : Nat} {all : List (Addr × Obj)} {a : Arg} {vs : List Value}
/-- a deed done to a cache from a callee's frame -/
theorem Hold.callU {Q : Value → Shared → Prop} (xs : List (Addr × Obj)) (d : COp KK q knd C on D fn as Pre Post) (B : Below A₀ base outer h₀) (sz : base.objs.size ≤ h₀.objs.size) (X : (KK w.params).In base) (T : Top q lse mean mg mb base)
    (F : Fr h₀ L s.heap m) (N : News h₀ L s.heap (xs ++ all)) (hh : A.handled = none) (hA : A.frames = some (env :: outer)) (hf : env.frame = some L) (hke : env.scope.kind = .function) (hd : A.depth ≤ D) (hu : A.units ≤ D)
    (H : Hold w.params (knd w) C on cells all) (hc : AllC all) (hi : cells[i]? = some ⟨c, seg⟩) (hp : Pre c seg a) (hx : ∀ p ∈ xs, NonC p.2) (ha : vs = as c a)
    (h : ∀ h₁ h' tk' v more all' seg', Up base outer h₀ h₁ → Below A₀ base outer h₁ → (KK w.params).In h₁ → Top q lse mean mg mb h₁ → base.objs.size ≤ h₁.objs.size → Fr h₁ L h' m → News h₁ L h' (more ++ (xs ++ all')) → Hold w.params (knd w) C on (cells.set i ⟨c, seg'⟩) all' → AllC all' → Post c seg a v more seg' → Q v { s with heap := h', toks := tk' }) :
    wpAny (model prog w) A (call (.ref fn) vs) Q E s := by
  obtain ⟨e1, _⟩ := set_split hi ⟨c, seg⟩
  have H1 : Hold w.params (knd w) C on (cells.take i ++ ⟨c, seg⟩ :: cells.drop (i + 1)) all := by
    have := H
    rw [e1] at this
    exact this
  have hb : (⟨c, seg⟩ : Cell) ∈ (cells.take i ++ ⟨c, seg⟩ :: cells.drop (i + 1)) := by simp
  refine wpAny_call ?_
  refine Hold.code d B sz X T F N hh hA hf hke hd hu H1 (frontOf_all _) hp (fOff fun p hp => ?_) ha fun h₁ h' tk' v more all' seg' U' B' X' T' sz' F' N' H' keep adr cc hP => ?_
  · exact H1.plain N (fun q hq => List.mem_append_right _ hq) hb (List.mem_append_left _ hp) (hx p hp)
  · refine h h₁ h' tk' v more all' seg' U' B' X' T' sz' F' N' ?_ (fun p hp => ?_) hP
    · rw [(set_split hi ⟨c, seg'⟩).2]; exact H'
    · rcases cc p hp with h1 | h1
      · exact hc p h1
      · exact h1
theorem Hold.instU (H : Hold w.params (knd w) C on cells all) (cf : ClsF (KK w.params) C on gfn sfn pfn) (xs : List (Addr × Obj)) (N : News h₀ L s.heap (xs ++ all)) (hi : cells[i]? = some ⟨c, seg⟩) :
    ∃ es, InstAt s.heap c.x (instObj C c.dx) C (some (dictOf es 4)) ∧ getL (Str.ofString "pop") es = some none ∧ getL (Str.ofString "popitem") es = some none :=
  H.inst (b := ⟨c, seg⟩) N (fun p hp => List.mem_append_right _ hp) (List.mem_of_getElem? hi) cf.on_
theorem lenU {Q : Value → Shared → Prop} (xs : List (Addr × Obj)) (d : OLen KK q knd C on 770) (cf : ClsF (KK w.params) C on gfn sfn pfn) (B : Below A₀ base outer h₀) (sz : base.objs.size ≤ h₀.objs.size) (X : (KK w.params).In base) (T : Top q lse mean mg mb base)
    (F : Fr h₀ L s.heap m) (N : News h₀ L s.heap (xs ++ all)) (hh : A.handled = none) (hA : A.frames = some (env :: outer)) (hf : env.frame = some L) (hke : env.scope.kind = .function) (hd : A.depth ≤ 350) (hu : A.units ≤ 349)
    (H : Hold w.params (knd w) C on cells all) (hc : AllC all) (hi : cells[i]? = some ⟨c, seg⟩) (hl : seg.length ≤ 100) (hx : ∀ p ∈ xs, NonC p.2)
    (h : ∀ h₁ h' tk' t all', Up base outer h₀ h₁ → Below A₀ base outer h₁ → (KK w.params).In h₁ → Top q lse mean mg mb h₁ → base.objs.size ≤ h₁.objs.size → Fr h₁ L h' m → News h₁ L h' (xs ++ all') → Hold w.params (knd w) C on cells all' → AllC all' → Q (.int (seg.length : Int) t) { s with heap := h', toks := tk' }) :
    wpAny (model prog w) A (call (.builtin "len") [.ref c.x]) Q E s := by
  obtain ⟨es, I, _⟩ := H.instU cf xs N hi
  refine len_K F (X.keeps B.stays) I cf.len cf.lenF (Hold.callU xs d B sz X T F N hh hA hf hke hd (by show A.units + 1 ≤ 350; omega) H hc hi (a := ⟨default, 0, 0, 0⟩) trivial hx rfl fun h₁ h' tk' v more all' seg' U' B' X' T' sz' F' N' H' hc' hP => ?_)
  obtain ⟨rfl, ⟨t, rfl⟩, rfl⟩ := hP
  rw [set_self hi] at H'
  exact ⟨⟨Int.natCast_nonneg _, by omega⟩, h h₁ h' _ _ all' U' B' X' T' sz' F' N' H' hc'⟩
theorem maxU {Q : Value → Shared → Prop} {expr : Bool} (xs : List (Addr × Obj)) (d : OMax KK q knd C on 808) (cf : ClsF (KK w.params) C on gfn sfn pfn) (B : Below A₀ base outer h₀) (sz : base.objs.size ≤ h₀.objs.size) (X : (KK w.params).In base) (T : Top q lse mean mg mb base)
    (F : Fr h₀ L s.heap m) (N : News h₀ L s.heap (xs ++ all)) (hh : A.handled = none) (hA : A.frames = some (env :: outer)) (hf : env.frame = some L) (hke : env.scope.kind = .function) (hd : A.depth ≤ 350) (hu : A.units ≤ 349)
    (H : Hold w.params (knd w) C on cells all) (hc : AllC all) (hi : cells[i]? = some ⟨c, seg⟩) (hx : ∀ p ∈ xs, NonC p.2)
    (h : ∀ h₁ h' tk' t all', Up base outer h₀ h₁ → Below A₀ base outer h₁ → (KK w.params).In h₁ → Top q lse mean mg mb h₁ → base.objs.size ≤ h₁.objs.size → Fr h₁ L h' m → News h₁ L h' (xs ++ all') → Hold w.params (knd w) C on cells all' → AllC all' → Q (.int c.mx t) { s with heap := h', toks := tk' }) :
    wpAny (model prog w) A (getAttr (.ref c.x) (Str.ofString "maxsize") expr) Q E s := by
  obtain ⟨es, I, _⟩ := H.instU cf xs N hi
  obtain ⟨p, rest, m1, m2, m3, m4⟩ := cf.mx
  refine get_prop F (X.keeps B.stays) I cf.mxG cf.mxH m1 m2 m3 m4 ?_
  have e1 : (cells.take i ++ ⟨c, seg⟩ :: cells.drop (i + 1)) = cells := (set_split hi ⟨c, seg⟩).1.symm
  have H1 : Hold w.params (knd w) C on (cells.take i ++ ⟨c, seg⟩ :: cells.drop (i + 1)) all := by rw [e1]; exact H
  have hb : (⟨c, seg⟩ : Cell) ∈ (cells.take i ++ ⟨c, seg⟩ :: cells.drop (i + 1)) := by simp
  refine Hold.code (s := { s with toks := s.toks + 1 }) d B sz X T F N hh hA hf hke hd (by show A.units + 1 ≤ 350; omega) H1 (frontOf_all _) (a := ⟨default, 0, 0, 0⟩) trivial (fOff fun p hp => H1.plain N (fun q hq => List.mem_append_right _ hq) hb (List.mem_append_left _ hp) (hx p hp)) rfl fun h₁ h' tk' v more all' seg' U' B' X' T' sz' F' N' H' keep adr cc hP => ?_
  obtain ⟨rfl, ⟨t, rfl⟩, rfl⟩ := hP
  rw [e1] at H'
  refine handed_on rfl ?_
  exact h h₁ h' tk' t all' U' B' X' T' sz' F' N' H' fun p hp => by
    rcases cc p hp with h1 | h1
    · exact hc p h1
    · exact h1
theorem setU {Q : Unit → Shared → Prop} {k : Str} {t u : Tok} {p : Int} (xs : List (Addr × Obj)) (d : OSet KK q knd C on sfn) (cf : ClsF (KK w.params) C on gfn sfn pfn) (B : Below A₀ base outer h₀) (sz : base.objs.size ≤ h₀.objs.size) (X : (KK w.params).In base) (T : Top q lse mean mg mb base)
    (F : Fr h₀ L s.heap m) (N : News h₀ L s.heap (xs ++ all)) (hh : A.handled = none) (hA : A.frames = some (env :: outer)) (hf : env.frame = some L) (hke : env.scope.kind = .function) (hd : A.depth ≤ 350) (hu : A.units ≤ 349)
    (H : Hold w.params (knd w) C on cells all) (hc : AllC all) (hi : cells[i]? = some ⟨c, seg⟩) (hx : ∀ p ∈ xs, NonC p.2)
    (h : ∀ h₁ h' tk' all', Up base outer h₀ h₁ → Below A₀ base outer h₁ → (KK w.params).In h₁ → Top q lse mean mg mb h₁ → base.objs.size ≤ h₁.objs.size → Fr h₁ L h' m → News h₁ L h' (xs ++ all') → Hold w.params (knd w) C on (cells.set i ⟨c, ((k, p) :: out k seg).take c.mx.toNat⟩) all' → AllC all' → Q () { s with heap := h', toks := tk' }) :
    wpAny (model prog w) A (setItem (.ref c.x) (.str k t) (.int p u)) Q E s := by
  obtain ⟨es, I, _⟩ := H.instU cf xs N hi
  refine ksp_setItem F (X.keeps B.stays) I cf.seq cf.st cf.stF (Hold.callU xs d B sz X T F N hh hA hf hke hd (by omega) H hc hi (a := ⟨k, t, p, u⟩) trivial hx rfl fun h₁ h' tk' v more all' seg' U' B' X' T' sz' F' N' H' hc' hP => ?_)
  obtain ⟨rfl, rfl, rfl⟩ := hP
  exact h h₁ h' tk' all' U' B' X' T' sz' F' N' H' hc'
theorem popiMeth {Q : Value × List Value → Shared → Prop} {pl : Sem Bool} (xs : List (Addr × Obj)) (cf : ClsF (KK w.params) C on gfn sfn pfn) (X : (KK w.params).In h₀) (F : Fr h₀ L s.heap m) (N : News h₀ L s.heap (xs ++ all)) (H : Hold w.params (knd w) C on cells all) (hi : cells[i]? = some ⟨c, seg⟩)
    (h : Q (.ref pfn, [.ref c.x]) s) : wpAny (model prog w) A (getMethod (.ref c.x) (Str.ofString "popitem") pl) Q E s := by
  obtain ⟨es, I, _, hp⟩ := H.instU cf xs N hi
  exact method_inst F X I cf.popiG cf.popi cf.popiF hp h
theorem popiU {Q : Value → Shared → Prop} (xs : List (Addr × Obj)) (d : OPopitem KK q knd C on pfn) (B : Below A₀ base outer h₀) (sz : base.objs.size ≤ h₀.objs.size) (X : (KK w.params).In base) (T : Top q lse mean mg mb base)
    (F : Fr h₀ L s.heap m) (N : News h₀ L s.heap (xs ++ all)) (hh : A.handled = none) (hA : A.frames = some (env :: outer)) (hf : env.frame = some L) (hke : env.scope.kind = .function) (hd : A.depth ≤ 350) (hu : A.units ≤ 349)
    (H : Hold w.params (knd w) C on cells all) (hc : AllC all) (hi : cells[i]? = some ⟨c, seg⟩) (hne : seg ≠ []) (hx : ∀ p ∈ xs, NonC p.2)
    (h : ∀ h₁ h' tk' T y t u seg' all', seg = seg' ++ [y] → Up base outer h₀ h₁ → Below A₀ base outer h₁ → (KK w.params).In h₁ → Top q lse mean mg mb h₁ → base.objs.size ≤ h₁.objs.size → Fr h₁ L h' m → News h₁ L h' ((T, tupO y t u) :: (xs ++ all')) → Hold w.params (knd w) C on (cells.set i ⟨c, seg'⟩) all' → AllC all' → Q (.ref T) { s with heap := h', toks := tk' }) :
    wpAny (model prog w) A (call (.ref pfn) [.ref c.x]) Q E s := by
  refine Hold.callU xs d B sz X T F N hh hA hf hke hd (by omega) H hc hi (a := ⟨default, 0, 0, 0⟩) hne hx rfl fun h₁ h' tk' v more all' seg' U' B' X' T' sz' F' N' H' hc' hP => ?_
  obtain ⟨T1, k, p, t, u, es, rfl, rfl⟩ := hP
  exact h h₁ h' tk' T1 (k, p) t u seg' all' es U' B' X' T' sz' F' N' H' hc'
end
end Mine
end
section
open PySem PySem.W PySem.Spec PySem.Calls PyProof.Rows
namespace Mine
section
variable {prog : Program} {w : World} {A : Around} {E : Value → Shared → Prop} {s : Shared} {env : Env} {x : Str} {px pos : Pos} {iter : PySem.Expr} {body : List Stmt} {Q : Flow → Shared → Prop} {items : List Value}
/-- a loop over a list, by what holds of the whole state -/
theorem for_listJ (hh : A.handled = none) (J : Nat → Addr → Addr → Shared → Prop)
    (src : wpAny (model prog w) A (eval iter env) (fun xv s₁ => ∃ ax, xv = .ref ax ∧ s₁.heap.IsList ax items.toArray ∧ ∀ h', h'.IsListIter s₁.heap.objs.size ax 0 → (∀ b o, s₁.heap.get? b = some o → h'.get? b = some o) → J 0 s₁.heap.objs.size ax { s₁ with heap := h' }) E s)
    (live : ∀ i I ax s', J i I ax s' → s'.heap.IsListIter I ax i ∧ s'.heap.IsList ax items.toArray ∧ ax ≠ I)
    (turn : ∀ i I ax v s' h', items[i]? = some v → J i I ax s' → h'.IsListIter I ax (i + 1) → (∀ b o, b ≠ I → s'.heap.get? b = some o → h'.get? b = some o) →
      wpAny (model prog w) A (assign (.Name x px) env v) (fun _ s₂ => wpAny (model prog w) A (execs body env) (fun f s₃ => match f with | .next => J (i + 1) I ax s₃ | .cont => J (i + 1) I ax s₃ | .brk => Q .next s₃ | .ret v => Q (.ret v) s₃) E s₂) E { s' with heap := h' })
    (fin : ∀ I ax s' h', J items.length I ax s' → (∀ b o, b ≠ I → s'.heap.get? b = some o → h'.get? b = some o) → Q .next { s' with heap := h' })
    (hs : ∀ x, foldedSetIterable iter env x = pure x := by intro _; rfl)
    (hE : PassesOwn (model prog w) A env E := by passes_own) :
    wpAny (model prog w) A (exec (.For (.Name x px) iter body [] pos) env) Q E s := by
  refine wpAny_For (wpAny_mono src (fun xv s₁ h₁ => ?_) fun _ _ e => e) hs
  obtain ⟨ax, rfl, hl, h0⟩ := h₁
  have hlt : ax < s₁.heap.objs.size := by obtain ⟨_, e, _⟩ := hl; exact Heap.lt_size e
  refine wpAny_pyIter_list hl ?_
  have j0 : J 0 s₁.heap.objs.size ax { s₁ with heap := s₁.heap.push { cls := .type "list_iterator", data := .fields #[.ref ax, .int 0 0] } } := h0 _ ⟨_, Heap.get?_push_size _ rfl, rfl, rfl⟩ fun b o e => Heap.get?_push_of_some _ e
  refine codeAny_forLoop (fun k s' => ∃ i, i ≤ items.length ∧ k = items.length + 1 - i ∧ J i s₁.heap.objs.size ax s') ?_ (items.length + 1) ⟨0, Nat.zero_le _, rfl, j0⟩
  rintro k s' ⟨i, hi, rfl, j⟩
  obtain ⟨hit, hl', hne⟩ := live _ _ _ _ j
  by_cases hlt' : i < items.length
  · refine wpAny_pyNext_list_item hit hl' (x := items[i]) (by simp [hlt']) fun h' hit' hs' => ?_
    refine wpAny_mono (turn i _ ax items[i] s' h' (by simp [hlt']) j hit' fun b o hb e => hs'.extBut b o hb e) (fun _ s₂ h₂ => wpAny_passesOwn hE (wpAny_mono h₂ (fun f s₃ h₃ => ?_) fun _ _ e => e)) hE
    cases f with
    | next => exact ⟨items.length + 1 - (i + 1), by omega, i + 1, hlt', rfl, h₃⟩
    | cont => exact ⟨items.length + 1 - (i + 1), by omega, i + 1, hlt', rfl, h₃⟩
    | brk => exact h₃
    | ret v => exact h₃
  · have hin : i = items.length := by omega
    subst hin
    exact wpAny_pyNext_list_end hh hit hl' (by simp) fun h' he' => wpAny_execs_nil (fin _ _ _ h' j fun b o hb e => he' b o hb e)
end
/-- what `_law_laid` does to the chain's caches -/
def layC : List Cell → (Str × Int) → List Cell × Option (Str × Int)
  | [], x => ([], some x)
  | b :: r, x =>
    if (b.seg.length : Int) = b.c.mx then
      match b.seg.getLast? with
      | some y => (⟨b.c, x :: b.seg.dropLast⟩ :: (layC r y).1, (layC r y).2)
      | none => (⟨b.c, x :: b.seg⟩ :: r, none)
    else (⟨b.c, x :: b.seg⟩ :: r, none)
abbrev heldC (cs : List Cell) : Seg := cs.flatMap (·.seg)
section
variable {b : Cell} {r : List Cell} {x y : Str × Int} {seg : Seg}
theorem layC_full (h : (b.seg.length : Int) = b.c.mx) (e : b.seg = seg ++ [y]) : layC (b :: r) x = (⟨b.c, x :: seg⟩ :: (layC r y).1, (layC r y).2) := by
  conv => lhs; unfold layC
  rw [if_pos h, e]
  simp only [List.getLast?_concat, List.dropLast_concat]
theorem layC_free (h : (b.seg.length : Int) ≠ b.c.mx) : layC (b :: r) x = (⟨b.c, x :: b.seg⟩ :: r, none) := by
  conv => lhs; unfold layC
  rw [if_neg h]
end
section
variable {prog : Program} (KK : Params → Frag) (q : Program) (knd : ∀ w, PySem.KeyKind prog w Str) (C : Addr) (on : Str)
/-- the law's `_law_laid` -/
def Laid (fn : Addr) : Prop := ∀ {w : World} {s : Shared} {Lc : Addr} {n : Nat} {cells : List Cell} {all : List (Addr × Obj)} (x : Str × Int) (t u : Tok),
  Hold w.params (knd w) C on cells all → AllC all → cells.length ≤ 3 → x.1 ∉ keys (heldC cells) → (keys (heldC cells)).Nodup →
  Callee (prog := prog) KK q 330 fn [.ref Lc, .str x.1 t, .int x.2 u] ((Lc, W.listOf (refs cells).toArray n) :: all) w s
    (fun v own' => ∃ more all', own' = more ++ (Lc, W.listOf (refs cells).toArray n) :: all' ∧ Hold w.params (knd w) C on (layC cells x).1 all' ∧ AllC all' ∧
      (((layC cells x).2 = none ∧ v = .none ∧ more = []) ∨ ∃ y T t' u', (layC cells x).2 = some y ∧ v = .ref T ∧ more = [(T, tupO y t' u')]))
end
section
variable {prog : Program} (KK : Params → Frag) (q : Program) (knd : ∀ w, PySem.KeyKind prog w Str) (C : Addr) (on : Str)
/-- ahead of a turn of `_law_laid`'s loop -/
def LJ (w : World) (base g : Heap) (fr : List Env) (gs : Option (List Code)) (L Lc : Addr) (n : Nat) (cells : List Cell) (x : Str × Int) (s : Shared) (i : Nat) (I ax : Addr) (s' : Shared) : Prop :=
  ax = Lc ∧ ∃ g1 h tk m all dn y T t u oI, s' = { s with heap := h, toks := tk } ∧ Up base fr g g1 ∧ Below (arnd 330 330 fr gs) base fr g1 ∧ base.objs.size ≤ g1.objs.size ∧ Fr g1 L h m ∧
    News g1 L h ([(I, oI), (T, tupO y t u), (Lc, W.listOf (refs cells).toArray n)] ++ all) ∧ h.IsListIter I Lc i ∧ Hold w.params (knd w) C on (dn ++ cells.drop i) all ∧ AllC all ∧ dn.length = i ∧
    layC cells x = (dn ++ (layC (cells.drop i) y).1, (layC (cells.drop i) y).2) ∧ y.1 ∉ keys (heldC (cells.drop i)) ∧ (keys (heldC (cells.drop i))).Nodup ∧ m (Str.ofString "carried") = some (.ref T) ∧ i ≤ cells.length
end
section
variable {base g g1 h h' : Heap} {L I Lc T : Addr} {m : Str → Option Value} {oI oT oL : Obj} {all : List (Addr × Obj)} {i : Nat}
/-- the iterator's own step -/
theorem step_iter (F : Fr g L h m) (N : News g L h ([(I, oI), (T, oT), (Lc, oL)] ++ all)) (hnT : NonC oT) (hnL : NonC oL) (hc : AllC all) (hit : h'.IsListIter I Lc i) (hTI : T ≠ I) (hLI : Lc ≠ I) (hIo : NonC oI) (k : ∀ b o, b ≠ I → h.get? b = some o → h'.get? b = some o) :
    ∃ oJ, NonC oJ ∧ (∀ h2 : Heap, h2.get? I = some oJ → h2.IsListIter I Lc i) ∧ Fr g L h' m ∧ News g L h' ([(I, oJ), (T, oT), (Lc, oL)] ++ all) := by
  obtain ⟨oJ, hJ, hJc, hJd⟩ := hit
  have zI := N (I, oI) (by simp)
  have keep : ∀ p : Addr × Obj, p ∈ [(I, oI), (T, oT), (Lc, oL)] ++ all → p.1 ≠ I → h'.get? p.1 = some p.2 ∧ p.1 ≠ L ∧ g.get? p.1 = none := fun p hp hne => ⟨k _ _ hne (N p hp).1, (N p hp).2⟩
  refine ⟨oJ, .fields hJd, fun h2 e => ⟨oJ, e, hJc, hJd⟩, ⟨F.ns.at' fun o e => k _ o (Ne.symm zI.2.1) e, fun b o e => k b o (fun q => by rw [q, zI.2.2] at e; cases e) (F.keep b o e), F.above⟩, fun p hp => ?_⟩
  rcases List.mem_cons.mp hp with rfl | hp
  · exact ⟨hJ, zI.2⟩
  · refine keep p (List.mem_cons_of_mem _ hp) fun e => ?_
    rcases List.mem_cons.mp hp with rfl | hp
    · exact hTI e
    · rcases List.mem_cons.mp hp with rfl | hp
      · exact hLI e
      · have hp' : p ∈ all := hp
        have z := (N p (List.mem_append_right _ hp')).1
        rw [e, zI.1] at z
        exact hc p hp' (Option.some.inj z ▸ hIo)
end
theorem Hold.bnd {prog : Program} {w : World} {P : Params} {knd : PySem.KeyKind prog w Str} {C : Addr} {on : Str} {cells : List Cell} {all : List (Addr × Obj)} {i : Nat} {c : Loc} {seg : Seg} (H : Hold P knd C on cells all) (hi : cells[i]? = some ⟨c, seg⟩) : (seg.length : Int) ≤ c.mx ∧ 1 ≤ c.mx ∧ c.mx ≤ 9 ∧ (keys seg).Nodup := by
  obtain ⟨objs, ⟨te, o1, o2, kvs, _, _, _, _, hn, hl, m1, m9, _⟩, _⟩ := H.has _ (List.mem_of_getElem? hi)
  exact ⟨hl, m1, m9, hn⟩
theorem iter_ne {h : Heap} {I a ax : Addr} {o : Obj} {i : Nat} {n : String} (hit : h.IsListIter I ax i) (ha : h.get? a = some o) (hc : o.cls = .type n) (hn : n ≠ "list_iterator") : a ≠ I := fun e => by
  obtain ⟨oI, hI, hIc, _⟩ := hit
  rw [e, hI] at ha
  cases ha
  exact hn (Value.type.inj (hc.symm.trans hIc))
theorem iter_nonC {h : Heap} {I ax : Addr} {o : Obj} {i : Nat} (hit : h.IsListIter I ax i) (ha : h.get? I = some o) : NonC o := by
  obtain ⟨oI, hI, _, hd⟩ := hit
  rw [hI] at ha
  cases ha
  exact .fields hd
theorem set_mid {dn r : List Cell} {b b' : Cell} {i : Nat} (h : dn.length = i) : (dn ++ b :: r).set i b' = dn ++ b' :: r := by
  subst h
  rw [List.set_append_right _ _ (Nat.le_refl _), Nat.sub_self]; rfl
theorem get_mid {dn r : List Cell} {b : Cell} {i : Nat} (h : dn.length = i) : (dn ++ b :: r)[i]? = some b := by
  subst h
  rw [List.getElem?_append_right (Nat.le_refl _), Nat.sub_self]; rfl
theorem put_take {k : Str} {p : Int} {seg : Seg} {n : Nat} (hk : k ∉ keys seg) (hl : seg.length + 1 ≤ n) : ((k, p) :: out k seg).take n = (k, p) :: seg := by
  rw [out_of_not hk, List.take_of_length_le (by rw [List.length_cons]; omega)]
theorem keys_app (a b : Seg) : keys (a ++ b) = keys a ++ keys b := List.map_append
theorem heldC_cons (b : Cell) (r : List Cell) : heldC (b :: r) = b.seg ++ heldC r := rfl
theorem LJ.intro {prog : Program} {knd : ∀ w, PySem.KeyKind prog w Str} {C : Addr} {on : Str} {w : World} {base g g1 h : Heap} {fr : List Env} {gs : Option (List Code)} {L Lc I T : Addr} {n i tk : Nat} {cells dn : List Cell} {x y : Str × Int} {s : Shared} {m : Str → Option Value} {all news : List (Addr × Obj)} {t u : Tok} {oI : Obj}
    (U : Up base fr g g1) (B : Below (arnd 330 330 fr gs) base fr g1) (sz : base.objs.size ≤ g1.objs.size) (F : Fr g1 L h m) (N : News g1 L h news) (hs : ∀ p ∈ [(I, oI), (T, tupO y t u), (Lc, W.listOf (refs cells).toArray n)] ++ all, p ∈ news) (hit : ∀ h2 : Heap, h2.get? I = some oI → h2.IsListIter I Lc i) (H : Hold w.params (knd w) C on (dn ++ cells.drop i) all) (hc : AllC all) (hd : dn.length = i)
    (hlay : layC cells x = (dn ++ (layC (cells.drop i) y).1, (layC (cells.drop i) y).2)) (hy : y.1 ∉ keys (heldC (cells.drop i))) (hnd : (keys (heldC (cells.drop i))).Nodup) (hcar : m (Str.ofString "carried") = some (.ref T)) (hi : i ≤ cells.length) :
    LJ knd C on w base g fr gs L Lc n cells x s i I Lc { s with heap := h, toks := tk } :=
  ⟨rfl, g1, h, tk, m, all, dn, y, T, t, u, oI, rfl, U, B, sz, F, fun p hp => N p (hs p hp), hit _ (N (I, oI) (hs _ (by simp))).1, H, hc, hd, hlay, hy, hnd, hcar, hi⟩
theorem lay_step {cells dn r : List Cell} {b : Cell} {x y y8 : Str × Int} {sg : Seg} (hlay : layC cells x = (dn ++ (layC (b :: r) y).1, (layC (b :: r) y).2)) (hf : (b.seg.length : Int) = b.c.mx) (es : b.seg = sg ++ [y8]) (hnd : (keys (heldC (b :: r))).Nodup) :
    layC cells x = ((dn ++ [⟨b.c, y :: sg⟩]) ++ (layC r y8).1, (layC r y8).2) ∧ y8.1 ∉ keys (heldC r) ∧ (keys (heldC r)).Nodup := by
  refine ⟨by rw [hlay, layC_full hf es]; simp, ?_, ?_⟩
  · rw [heldC_cons, es, keys_app, keys_app] at hnd
    have := (List.nodup_append.mp hnd).2.2 y8.1 (by simp)
    exact fun z => this _ z rfl
  · rw [heldC_cons, keys_app] at hnd
    exact (List.nodup_append.mp hnd).2.1
end Mine
end
section
open PySem PySem.W PySem.Spec PySem.Calls PyProof.Rows
namespace Mine
theorem layC_locs : ∀ (cs : List Cell) (x : Str × Int), (layC cs x).1.map (·.c) = cs.map (·.c)
  | [], _ => rfl
  | b :: r, x => by
    unfold layC
    split
    · split
      · rename_i y _
        simp [layC_locs r y]
      · rfl
    · rfl
theorem adrs_locs {a b : List Cell} (h : a.map (·.c) = b.map (·.c)) : adrs a = adrs b := by
  have e : ∀ l : List Cell, adrs l = (l.map (·.c)).flatMap Loc.adr := fun l => by simp [adrs, List.flatMap_map]
  rw [e, e, h]
theorem refs_locs {a b : List Cell} (h : a.map (·.c) = b.map (·.c)) : refs a = refs b := by
  have e : ∀ l : List Cell, refs l = (l.map (·.c)).map fun c => Value.ref c.x := fun l => by simp [refs]
  rw [e, e, h]
theorem mxs_locs {a b : List Cell} (h : a.map (·.c) = b.map (·.c)) : a.map (·.c.mx) = b.map (·.c.mx) := by
  have e : ∀ l : List Cell, l.map (·.c.mx) = (l.map (·.c)).map fun c => c.mx := fun l => by simp
  rw [e, e, h]
section
variable {prog : Program} {KK : Params → Frag} {q : Program} {knd : ∀ w, PySem.KeyKind prog w Str} {C gfn sfn pfn : Addr} {on : Str}
variable {w : World} {s : Shared} {A : Around} {E : Value → Shared → Prop} {h₀ : Heap} {env : Env} {L : Addr} {m mm mg mb : Str → Option Value} {lse : List Str} {mean : ExcName → Option Value} {σ : LSt} {c : Loc} {seg : Seg} {i : Nat} {k : Str} {t u : Tok} {p : Int}
/-- `_law_laid`, called by the law -/
theorem Lq.laid {Q : Value → Shared → Prop} {fn : Addr} (xs : List (Addr × Obj)) (d : Laid KK q knd C on fn) (S : Lq w (knd w) C on L m σ) (F : Fr h₀ L s.heap mm) (X : (KK w.params).In h₀) (N : News h₀ L s.heap (xs ++ (cel5 L σ ++ σ.all))) (T : Top q lse mean mg mb h₀) (hh : A.handled = none) (hA : A.frames = some [env]) (hf : env.frame = some L) (hke : env.scope.kind = .function) (hd : A.depth ≤ 330) (hu : A.units ≤ 330)
    (hk : k ∉ keys (heldC σ.cs)) (hn : (keys (heldC σ.cs)).Nodup) (off : Offs xs σ.all)
    (h : ∀ h' tk' v more all', Fr h₀ L h' mm → News h₀ L h' (more ++ (xs ++ (cel5 L σ ++ all'))) → Lq w (knd w) C on L m { σ with cs := (layC σ.cs (k, p)).1, all := all' } → (∀ p ∈ σ.all, NonC p.2 → p ∈ all') → (∀ x, Off x σ.all → Off x all') →
      (((layC σ.cs (k, p)).2 = none ∧ v = .none ∧ more = []) ∨ ∃ y T t' u', (layC σ.cs (k, p)).2 = some y ∧ v = .ref T ∧ more = [(T, tupO y t' u')]) → Q v { s with heap := h', toks := tk' }) :
    wpAny (model prog w) A (call (.ref fn) [.ref σ.Lc, .str k t, .int p u]) Q E s := by
  obtain ⟨n, hch⟩ := S.chain
  have inN : ∀ p ∈ σ.all, p ∈ xs ++ (cel5 L σ ++ σ.all) := fun p hp => List.mem_append_right _ (List.mem_append_right _ hp)
  have Hc : Hold w.params (knd w) C on σ.cs σ.all := S.H.sub (List.sublist_cons_self _ _)
  -- the caches' own objects
  let own := σ.all.filter fun p => decide (p.1 ∈ adrs σ.cs)
  let rest := σ.all.filter fun p => decide (¬ (p.1 = σ.Lc ∨ p.1 ∈ adrs σ.cs))
  have adrIn : ∀ a ∈ adrs σ.cs, ∃ p ∈ σ.all, p.1 = a := fun a ha => by
    obtain ⟨b, hb, hab⟩ := List.mem_flatMap.mp ha
    obtain ⟨objs, h1, h2⟩ := Hc.has b hb
    rw [← h1.adr] at hab
    obtain ⟨p, hp, e⟩ := List.mem_map.mp hab
    exact ⟨p, h2 p hp, e⟩
  have Ho : Hold w.params (knd w) C on σ.cs own := ⟨fun b hb => by
    obtain ⟨objs, h1, h2⟩ := Hc.has b hb
    exact ⟨objs, h1, fun p hp => List.mem_filter.mpr ⟨h2 p hp, decide_eq_true (List.mem_flatMap.mpr ⟨b, hb, by rw [← h1.adr]; exact List.mem_map_of_mem hp⟩)⟩⟩, Hc.off⟩
  have Ao : AllC own := fun p hp hnc => by
    obtain ⟨hp1, hp2⟩ := List.mem_filter.mp hp
    obtain ⟨b, hb, hab⟩ := List.mem_flatMap.mp (of_decide_eq_true hp2)
    exact Hc.plain N inN hb (inN p hp1) hnc hab
  have LcNot : σ.Lc ∉ adrs σ.cs := fun hm => by
    obtain ⟨b, hb, hab⟩ := List.mem_flatMap.mp hm
    exact Hc.plain (p := (σ.Lc, W.listOf (refs σ.cs).toArray n)) N inN hb (inN _ hch) .list hab
  refine Callee.law (rest := xs ++ (cel5 L σ ++ rest)) (d (k, p) t u Ho Ao S.len hk hn (Lc := σ.Lc) (n := n)) F X N T hh hA hf hke hd hu (fun p hp => ?_) (fun p hp => ?_) (fun p hp hm => ?_) fun h' tk' v own' F' N' _ hP => ?_
  · rcases List.mem_cons.mp hp with rfl | hp
    · exact inN _ hch
    · exact inN _ (List.mem_filter.mp hp).1
  · rcases List.mem_append.mp hp with hp | hp
    · exact List.mem_append_left _ hp
    · rcases List.mem_append.mp hp with hp | hp
      · exact List.mem_append_right _ (List.mem_append_left _ hp)
      · exact inN _ (List.mem_filter.mp hp).1
  · have hin : p.1 = σ.Lc ∨ p.1 ∈ adrs σ.cs := by
      rcases List.mem_cons.mp hm with e | hm
      · exact .inl e
      · obtain ⟨r, hr, e⟩ := List.mem_map.mp hm
        rw [← e]; exact .inr (of_decide_eq_true (List.mem_filter.mp hr).2)
    have hall : ∃ r ∈ σ.all, r.1 = p.1 := by
      rcases hin with e | e
      · exact ⟨_, hch, e.symm⟩
      · exact adrIn _ e
    obtain ⟨r, hr, e⟩ := hall
    rcases List.mem_append.mp hp with hp | hp
    · exact off.of p hp r hr e
    · rcases List.mem_append.mp hp with hp | hp
      · exact S.nc.off5 p hp r hr e
      · exact of_decide_eq_true (List.mem_filter.mp hp).2 hin
  · obtain ⟨more, all2', rfl, H2', A2, hv⟩ := hP
    have locs := layC_locs σ.cs (k, p)
    let all2 := all2'.filter fun p => decide (p.1 ∈ adrs σ.cs)
    have H2 : Hold w.params (knd w) C on (layC σ.cs (k, p)).1 all2 := ⟨fun b hb => by
      obtain ⟨objs, h1, h2⟩ := H2'.has b hb
      exact ⟨objs, h1, fun p hp => List.mem_filter.mpr ⟨h2 p hp, decide_eq_true (by rw [← adrs_locs locs]; exact List.mem_flatMap.mpr ⟨b, hb, by rw [← h1.adr]; exact List.mem_map_of_mem hp⟩)⟩⟩, H2'.off⟩
    have keep : ∀ p ∈ σ.all, NonC p.2 → p ∈ (σ.Lc, W.listOf (refs σ.cs).toArray n) :: (all2 ++ rest) := fun p hp hnc => by
      by_cases e : p.1 = σ.Lc
      · have z1 := (N p (inN p hp)).1
        have z2 := (N _ (inN _ hch)).1
        rw [e, z2] at z1
        have : p = (σ.Lc, W.listOf (refs σ.cs).toArray n) := Prod.ext e (Option.some.inj z1).symm
        rw [this]; exact List.mem_cons_self
      · refine List.mem_cons_of_mem _ (List.mem_append_right _ (List.mem_filter.mpr ⟨hp, decide_eq_true fun z => ?_⟩))
        rcases z with z | z
        · exact e z
        · obtain ⟨b, hb, hab⟩ := List.mem_flatMap.mp z
          exact Hc.plain N inN hb (inN p hp) hnc hab
    have adr2 : ∀ p ∈ all2, p.1 ∈ adrs σ.cs := fun p hp => of_decide_eq_true (List.mem_filter.mp hp).2
    have adrs' : ∀ p ∈ (σ.Lc, W.listOf (refs σ.cs).toArray n) :: (all2 ++ rest), ∃ r ∈ σ.all, r.1 = p.1 := fun p hp => by
      rcases List.mem_cons.mp hp with rfl | hp
      · exact ⟨_, hch, rfl⟩
      · rcases List.mem_append.mp hp with hp | hp
        · exact adrIn _ (adr2 p hp)
        · exact ⟨p, (List.mem_filter.mp hp).1, rfl⟩
    have offs : ∀ x, Off x σ.all → Off x ((σ.Lc, W.listOf (refs σ.cs).toArray n) :: (all2 ++ rest)) := fun x hx p hp => by
      obtain ⟨r, hr, e⟩ := adrs' p hp
      rw [← e]; exact hx r hr
    refine h h' tk' v more _ F' (fun p hp => N' p ?_) ⟨S.d1, S.d2, S.d3, S.d4, S.d5, ⟨fun b hb => ?_, ?_⟩, ⟨n, ?_⟩, ?_, ?_, S.r1, S.r2, S.nc.mono offs, ?_, S.rl, fun p hp => ⟨keep p (S.ext p hp).1 (S.ext p hp).2, (S.ext p hp).2⟩⟩ keep offs hv
    · have sub : ∀ p ∈ all2, p ∈ all2' := fun p hp => (List.mem_filter.mp hp).1
      simp only [List.mem_append, List.mem_cons] at hp ⊢
      rcases hp with hp | hp | hp | hp | hp | hp
      · exact .inl (.inl hp)
      · exact .inr (.inl hp)
      · exact .inr (.inr (.inl hp))
      · exact .inl (.inr (.inl hp))
      · exact .inl (.inr (.inr (sub p hp)))
      · exact .inr (.inr (.inr hp))
    · rcases List.mem_cons.mp hb with rfl | hb
      · obtain ⟨objs, h1, h2⟩ := S.H.has σ.W List.mem_cons_self
        refine ⟨objs, h1, fun p hp => List.mem_cons_of_mem _ (List.mem_append_right _ (List.mem_filter.mpr ⟨h2 p hp, decide_eq_true fun z => ?_⟩))⟩
        have hpw : p.1 ∈ σ.W.c.adr := by rw [← h1.adr]; exact List.mem_map_of_mem hp
        rcases z with z | z
        · exact S.H.plain (p := (σ.Lc, W.listOf (refs σ.cs).toArray n)) N inN List.mem_cons_self (inN _ hch) .list (by rw [← z]; exact hpw)
        · have nd := S.H.off
          exact (List.nodup_append.mp (show (σ.W.c.adr ++ adrs σ.cs).Nodup from nd)).2.2 _ hpw _ z rfl
      · obtain ⟨objs, h1, h2⟩ := H2.has b hb
        exact ⟨objs, h1, fun p hp => List.mem_cons_of_mem _ (List.mem_append_left _ (h2 p hp))⟩
    · have nd := S.H.off
      show (σ.W.c.adr ++ adrs (layC σ.cs (k, p)).1).Nodup
      rw [adrs_locs locs]; exact nd
    · dsimp only
      rw [refs_locs locs]; exact List.mem_cons_self
    · obtain ⟨rvs, n', hm, hr⟩ := S.rows
      exact ⟨rvs, n', keep _ hm .list, hr.mono keep⟩
    · obtain ⟨vs', n', hm, hr⟩ := S.rooms
      refine ⟨vs', n', keep _ hm .list, ?_⟩
      dsimp only
      rw [mxs_locs locs]; exact hr
    · have := congrArg List.length locs
      rw [List.length_map, List.length_map] at this
      dsimp only
      rw [this]; exact S.len
end
section
variable {prog : Program} {KK : Params → Frag} {q : Program} {knd : ∀ w, PySem.KeyKind prog w Str} {C gfn sfn pfn : Addr} {on : Str}
variable {w : World} {s : Shared} {A : Around} {E : Value → Shared → Prop} {h₀ : Heap} {env : Env} {L : Addr} {m mm mg mb : Str → Option Value} {lse : List Str} {mean : ExcName → Option Value} {σ : LSt} {c : Loc} {seg : Seg} {i : Nat} {k : Str} {t u : Tok} {p : Int} {touch : Bool}
theorem Lq.getC {Q : Value → Shared → Prop} (xs : List (Addr × Obj)) (og : OGet KK q knd C on gfn touch) (cf : ClsF (KK w.params) C on gfn sfn pfn) (S : Lq w (knd w) C on L m σ) (F : Fr h₀ L s.heap mm) (X : (KK w.params).In h₀) (N : News h₀ L s.heap (xs ++ (cel5 L σ ++ σ.all))) (T : Top q lse mean mg mb h₀) (hh : A.handled = none) (hA : A.frames = some [env]) (hf : env.frame = some L) (hke : env.scope.kind = .function) (hd : A.depth ≤ 330) (hu : A.units ≤ 330)
    (hi : σ.cs[i]? = some ⟨c, seg⟩) (hp : (k, p) ∈ seg) (off : Offs xs σ.all)
    (h : ∀ h' tk' t' all', Fr h₀ L h' mm → News h₀ L h' (xs ++ (cel5 L σ ++ all')) → Lq w (knd w) C on L m { σ with cs := σ.cs.set i ⟨c, if touch then (k, p) :: out k seg else seg⟩, all := all' } → (∀ p ∈ σ.all, NonC p.2 → p ∈ all') → (∀ x, Off x σ.all → Off x all') → Q (.int p t') { s with heap := h', toks := tk' }) :
    wpAny (model prog w) A (getItem (.ref c.x) (.str k t)) Q E s := by
  obtain ⟨es, I, _⟩ := S.instC cf xs N hi
  refine getItem_K F X I cf.seq cf.gt cf.gtF (S.opC xs og F X N T hh hA hf hke (Nat.le_trans hd (by decide)) (Nat.le_trans hu (by decide)) hi (a := ⟨k, t, p, 0⟩) hp off rfl fun h' tk' v more all' seg' F' N' S' keep offs hP => ?_)
  obtain ⟨rfl, ⟨t', rfl⟩, rfl⟩ := hP
  exact h h' tk' t' all' F' N' S' keep offs
theorem Lq.subC {value slice : PySem.Expr} {Q : Value → Shared → Prop} (xs : List (Addr × Obj)) (og : OGet KK q knd C on gfn touch) (cf : ClsF (KK w.params) C on gfn sfn pfn) (S : Lq w (knd w) C on L m σ) (F : Fr h₀ L s.heap mm) (X : (KK w.params).In h₀) (N : News h₀ L s.heap (xs ++ (cel5 L σ ++ σ.all))) (T : Top q lse mean mg mb h₀) (hh : A.handled = none) (hA : A.frames = some [env]) (hf : env.frame = some L) (hke : env.scope.kind = .function) (hd : A.depth ≤ 330) (hu : A.units ≤ 330)
    (hi : σ.cs[i]? = some ⟨c, seg⟩) (hp : (k, p) ∈ seg) (off : Offs xs σ.all)
    (h : ∀ h' tk' t' all', Fr h₀ L h' mm → News h₀ L h' (xs ++ (cel5 L σ ++ all')) → Lq w (knd w) C on L m { σ with cs := σ.cs.set i ⟨c, if touch then (k, p) :: out k seg else seg⟩, all := all' } → (∀ p ∈ σ.all, NonC p.2 → p ∈ all') → (∀ x, Off x σ.all → Off x all') → Q (.int p t') { s with heap := h', toks := tk' })
    (hsl : subscripted slice true (.ref c.x) (.str k t) = runValue (.builtin "lifetime.subscript" ⟨[.ref c.x, .str k t], []⟩) := by with_unfolding_all rfl) :
    wpAny (model prog w) A (subscriptTail value slice (.ref c.x) (.str k t)) Q E s := by
  obtain ⟨es, I, _⟩ := S.instC cf xs N hi
  refine sub_K (hsl := hsl) F X I cf.gt cf.gtN cf.gtF (S.opC (A := A.in1) xs og F X N T hh hA hf hke (Nat.le_trans hd (by decide)) (by show A.units + 1 ≤ 350; omega) hi (a := ⟨k, t, p, 0⟩) hp off rfl fun h' tk' v more all' seg' F' N' S' keep offs hP => ?_)
  obtain ⟨rfl, ⟨t', rfl⟩, rfl⟩ := hP
  exact h h' tk' t' all' F' N' S' keep offs
theorem Lq.popMC {Q : Value × List Value → Shared → Prop} {pl : Sem Bool} (xs : List (Addr × Obj)) (cf : ClsF (KK w.params) C on gfn sfn pfn) (S : Lq w (knd w) C on L m σ) (F : Fr h₀ L s.heap mm) (X : (KK w.params).In h₀) (N : News h₀ L s.heap (xs ++ (cel5 L σ ++ σ.all))) (hi : σ.cs[i]? = some ⟨c, seg⟩) 
    (h : Q (.ref 786, [.ref c.x]) s) : wpAny (model prog w) A (getMethod (.ref c.x) (Str.ofString "pop") pl) Q E s := by
  obtain ⟨es, I, hp, _⟩ := S.instC cf xs N hi
  exact method_inst F X I cf.popG cf.pop cf.popF hp h
theorem Lq.popiMC {Q : Value × List Value → Shared → Prop} {pl : Sem Bool} (xs : List (Addr × Obj)) (cf : ClsF (KK w.params) C on gfn sfn pfn) (S : Lq w (knd w) C on L m σ) (F : Fr h₀ L s.heap mm) (X : (KK w.params).In h₀) (N : News h₀ L s.heap (xs ++ (cel5 L σ ++ σ.all))) (hi : σ.cs[i]? = some ⟨c, seg⟩) 
    (h : Q (.ref pfn, [.ref c.x]) s) : wpAny (model prog w) A (getMethod (.ref c.x) (Str.ofString "popitem") pl) Q E s := by
  obtain ⟨es, I, _, hp⟩ := S.instC cf xs N hi
  exact method_inst F X I cf.popiG cf.popi cf.popiF hp h
theorem Lq.popC {Q : Value → Shared → Prop} (xs : List (Addr × Obj)) (og : OPop KK q knd C on 786) (S : Lq w (knd w) C on L m σ) (F : Fr h₀ L s.heap mm) (X : (KK w.params).In h₀) (N : News h₀ L s.heap (xs ++ (cel5 L σ ++ σ.all))) (T : Top q lse mean mg mb h₀) (hh : A.handled = none) (hA : A.frames = some [env]) (hf : env.frame = some L) (hke : env.scope.kind = .function) (hd : A.depth ≤ 330) (hu : A.units ≤ 330)
    (hi : σ.cs[i]? = some ⟨c, seg⟩) (hp : (k, p) ∈ seg) (off : Offs xs σ.all)
    (h : ∀ h' tk' t' all', Fr h₀ L h' mm → News h₀ L h' (xs ++ (cel5 L σ ++ all')) → Lq w (knd w) C on L m { σ with cs := σ.cs.set i ⟨c, out k seg⟩, all := all' } → (∀ p ∈ σ.all, NonC p.2 → p ∈ all') → (∀ x, Off x σ.all → Off x all') → Q (.int p t') { s with heap := h', toks := tk' }) :
    wpAny (model prog w) A (call (.ref 786) [.ref c.x, .str k t]) Q E s := by
  refine S.opC xs og F X N T hh hA hf hke (Nat.le_trans hd (by decide)) (Nat.le_trans hu (by decide)) hi (a := ⟨k, t, p, 0⟩) hp off rfl fun h' tk' v more all' seg' F' N' S' keep offs hP => ?_
  obtain ⟨rfl, ⟨t', rfl⟩, rfl⟩ := hP
  exact h h' tk' t' all' F' N' S' keep offs
theorem Lq.popiC {Q : Value → Shared → Prop} (xs : List (Addr × Obj)) (og : OPopitem KK q knd C on pfn) (S : Lq w (knd w) C on L m σ) (F : Fr h₀ L s.heap mm) (X : (KK w.params).In h₀) (N : News h₀ L s.heap (xs ++ (cel5 L σ ++ σ.all))) (T : Top q lse mean mg mb h₀) (hh : A.handled = none) (hA : A.frames = some [env]) (hf : env.frame = some L) (hke : env.scope.kind = .function) (hd : A.depth ≤ 330) (hu : A.units ≤ 330)
    (hi : σ.cs[i]? = some ⟨c, seg⟩) (hne : seg ≠ []) (off : Offs xs σ.all)
    (h : ∀ h' tk' all' seg' y T t u, seg = seg' ++ [y] → Fr h₀ L h' mm → News h₀ L h' ((T, tupO y t u) :: (xs ++ (cel5 L σ ++ all'))) → Lq w (knd w) C on L m { σ with cs := σ.cs.set i ⟨c, seg'⟩, all := all' } → (∀ p ∈ σ.all, NonC p.2 → p ∈ all') → (∀ x, Off x σ.all → Off x all') → Q (.ref T) { s with heap := h', toks := tk' }) :
    wpAny (model prog w) A (call (.ref pfn) [.ref c.x]) Q E s := by
  refine S.opC xs og F X N T hh hA hf hke (Nat.le_trans hd (by decide)) (Nat.le_trans hu (by decide)) hi (a := ⟨default, 0, 0, 0⟩) hne off rfl fun h' tk' v more all' seg' F' N' S' keep offs hP => ?_
  obtain ⟨T1, k, p, t, u, es, rfl, rfl⟩ := hP
  exact h h' tk' all' seg' (k, p) T1 t u es F' N' S' keep offs
theorem Lq.lenC {Q : Value → Shared → Prop} (xs : List (Addr × Obj)) (og : OLen KK q knd C on 770) (cf : ClsF (KK w.params) C on gfn sfn pfn) (S : Lq w (knd w) C on L m σ) (F : Fr h₀ L s.heap mm) (X : (KK w.params).In h₀) (N : News h₀ L s.heap (xs ++ (cel5 L σ ++ σ.all))) (T : Top q lse mean mg mb h₀) (hh : A.handled = none) (hA : A.frames = some [env]) (hf : env.frame = some L) (hke : env.scope.kind = .function) (hd : A.depth ≤ 330) (hu : A.units ≤ 330)
    (hi : σ.cs[i]? = some ⟨c, seg⟩) (off : Offs xs σ.all)
    (h : ∀ h' tk' t' all', Fr h₀ L h' mm → News h₀ L h' (xs ++ (cel5 L σ ++ all')) → Same w (knd w) C on L m σ all' → seg.length ≤ 9 → Q (.int (seg.length : Int) t') { s with heap := h', toks := tk' }) :
    wpAny (model prog w) A (call (.builtin "len") [.ref c.x]) Q E s := by
  obtain ⟨es, I, _⟩ := S.instC cf xs N hi
  have bnd : seg.length ≤ 9 := by
    obtain ⟨objs, ⟨te, o1, o2, kvs, _, _, _, _, hn, hl, m1, m9, _⟩, _⟩ := S.H.has _ (List.mem_cons_of_mem _ (List.mem_of_getElem? hi))
    (try dsimp only at hl m9)
    omega
  refine len_K F X I cf.len cf.lenF (S.opC (A := A.in1) xs og F X N T hh hA hf hke (Nat.le_trans hd (by decide)) (by show A.units + 1 ≤ 350; omega) hi (a := ⟨default, 0, 0, 0⟩) trivial off rfl fun h' tk' v more all' seg' F' N' S' keep offs hP => ?_)
  obtain ⟨rfl, ⟨t', rfl⟩, rfl⟩ := hP
  rw [set_self hi] at S'
  exact ⟨⟨Int.natCast_nonneg _, by omega⟩, h h' _ _ all' F' N' ⟨S', keep, offs⟩ bnd⟩
theorem Lq.getW {Q : Value → Shared → Prop} (xs : List (Addr × Obj)) (og : OGet KK q knd C on gfn touch) (cf : ClsF (KK w.params) C on gfn sfn pfn) (S : Lq w (knd w) C on L m σ) (F : Fr h₀ L s.heap mm) (X : (KK w.params).In h₀) (N : News h₀ L s.heap (xs ++ (cel5 L σ ++ σ.all))) (T : Top q lse mean mg mb h₀) (hh : A.handled = none) (hA : A.frames = some [env]) (hf : env.frame = some L) (hke : env.scope.kind = .function) (hd : A.depth ≤ 330) (hu : A.units ≤ 330)
    (hp : (k, p) ∈ σ.W.seg) (off : Offs xs σ.all)
    (h : ∀ h' tk' t' all', Fr h₀ L h' mm → News h₀ L h' (xs ++ (cel5 L σ ++ all')) → Lq w (knd w) C on L m { σ with W := ⟨σ.W.c, if touch then (k, p) :: out k σ.W.seg else σ.W.seg⟩, all := all' } → (∀ p ∈ σ.all, NonC p.2 → p ∈ all') → (∀ x, Off x σ.all → Off x all') → Q (.int p t') { s with heap := h', toks := tk' }) :
    wpAny (model prog w) A (getItem (.ref σ.W.c.x) (.str k t)) Q E s := by
  obtain ⟨es, I, _⟩ := S.instW cf xs N
  refine getItem_K F X I cf.seq cf.gt cf.gtF (S.opW xs og F X N T hh hA hf hke (Nat.le_trans hd (by decide)) (Nat.le_trans hu (by decide)) (a := ⟨k, t, p, 0⟩) hp off rfl fun h' tk' v more all' seg' F' N' S' keep offs hP => ?_)
  obtain ⟨rfl, ⟨t', rfl⟩, rfl⟩ := hP
  exact h h' tk' t' all' F' N' S' keep offs
theorem Lq.subW {value slice : PySem.Expr} {Q : Value → Shared → Prop} (xs : List (Addr × Obj)) (og : OGet KK q knd C on gfn touch) (cf : ClsF (KK w.params) C on gfn sfn pfn) (S : Lq w (knd w) C on L m σ) (F : Fr h₀ L s.heap mm) (X : (KK w.params).In h₀) (N : News h₀ L s.heap (xs ++ (cel5 L σ ++ σ.all))) (T : Top q lse mean mg mb h₀) (hh : A.handled = none) (hA : A.frames = some [env]) (hf : env.frame = some L) (hke : env.scope.kind = .function) (hd : A.depth ≤ 330) (hu : A.units ≤ 330)
    (hp : (k, p) ∈ σ.W.seg) (off : Offs xs σ.all)
    (h : ∀ h' tk' t' all', Fr h₀ L h' mm → News h₀ L h' (xs ++ (cel5 L σ ++ all')) → Lq w (knd w) C on L m { σ with W := ⟨σ.W.c, if touch then (k, p) :: out k σ.W.seg else σ.W.seg⟩, all := all' } → (∀ p ∈ σ.all, NonC p.2 → p ∈ all') → (∀ x, Off x σ.all → Off x all') → Q (.int p t') { s with heap := h', toks := tk' })
    (hsl : subscripted slice true (.ref σ.W.c.x) (.str k t) = runValue (.builtin "lifetime.subscript" ⟨[.ref σ.W.c.x, .str k t], []⟩) := by with_unfolding_all rfl) :
    wpAny (model prog w) A (subscriptTail value slice (.ref σ.W.c.x) (.str k t)) Q E s := by
  obtain ⟨es, I, _⟩ := S.instW cf xs N
  refine sub_K (hsl := hsl) F X I cf.gt cf.gtN cf.gtF (S.opW (A := A.in1) xs og F X N T hh hA hf hke (Nat.le_trans hd (by decide)) (by show A.units + 1 ≤ 350; omega) (a := ⟨k, t, p, 0⟩) hp off rfl fun h' tk' v more all' seg' F' N' S' keep offs hP => ?_)
  obtain ⟨rfl, ⟨t', rfl⟩, rfl⟩ := hP
  exact h h' tk' t' all' F' N' S' keep offs
theorem Lq.popMW {Q : Value × List Value → Shared → Prop} {pl : Sem Bool} (xs : List (Addr × Obj)) (cf : ClsF (KK w.params) C on gfn sfn pfn) (S : Lq w (knd w) C on L m σ) (F : Fr h₀ L s.heap mm) (X : (KK w.params).In h₀) (N : News h₀ L s.heap (xs ++ (cel5 L σ ++ σ.all))) 
    (h : Q (.ref 786, [.ref σ.W.c.x]) s) : wpAny (model prog w) A (getMethod (.ref σ.W.c.x) (Str.ofString "pop") pl) Q E s := by
  obtain ⟨es, I, hp, _⟩ := S.instW cf xs N
  exact method_inst F X I cf.popG cf.pop cf.popF hp h
theorem Lq.popiMW {Q : Value × List Value → Shared → Prop} {pl : Sem Bool} (xs : List (Addr × Obj)) (cf : ClsF (KK w.params) C on gfn sfn pfn) (S : Lq w (knd w) C on L m σ) (F : Fr h₀ L s.heap mm) (X : (KK w.params).In h₀) (N : News h₀ L s.heap (xs ++ (cel5 L σ ++ σ.all))) 
    (h : Q (.ref pfn, [.ref σ.W.c.x]) s) : wpAny (model prog w) A (getMethod (.ref σ.W.c.x) (Str.ofString "popitem") pl) Q E s := by
  obtain ⟨es, I, _, hp⟩ := S.instW cf xs N
  exact method_inst F X I cf.popiG cf.popi cf.popiF hp h
theorem Lq.popW {Q : Value → Shared → Prop} (xs : List (Addr × Obj)) (og : OPop KK q knd C on 786) (S : Lq w (knd w) C on L m σ) (F : Fr h₀ L s.heap mm) (X : (KK w.params).In h₀) (N : News h₀ L s.heap (xs ++ (cel5 L σ ++ σ.all))) (T : Top q lse mean mg mb h₀) (hh : A.handled = none) (hA : A.frames = some [env]) (hf : env.frame = some L) (hke : env.scope.kind = .function) (hd : A.depth ≤ 330) (hu : A.units ≤ 330)
    (hp : (k, p) ∈ σ.W.seg) (off : Offs xs σ.all)
    (h : ∀ h' tk' t' all', Fr h₀ L h' mm → News h₀ L h' (xs ++ (cel5 L σ ++ all')) → Lq w (knd w) C on L m { σ with W := ⟨σ.W.c, out k σ.W.seg⟩, all := all' } → (∀ p ∈ σ.all, NonC p.2 → p ∈ all') → (∀ x, Off x σ.all → Off x all') → Q (.int p t') { s with heap := h', toks := tk' }) :
    wpAny (model prog w) A (call (.ref 786) [.ref σ.W.c.x, .str k t]) Q E s := by
  refine S.opW xs og F X N T hh hA hf hke (Nat.le_trans hd (by decide)) (Nat.le_trans hu (by decide)) (a := ⟨k, t, p, 0⟩) hp off rfl fun h' tk' v more all' seg' F' N' S' keep offs hP => ?_
  obtain ⟨rfl, ⟨t', rfl⟩, rfl⟩ := hP
  exact h h' tk' t' all' F' N' S' keep offs
theorem Lq.popiW {Q : Value → Shared → Prop} (xs : List (Addr × Obj)) (og : OPopitem KK q knd C on pfn) (S : Lq w (knd w) C on L m σ) (F : Fr h₀ L s.heap mm) (X : (KK w.params).In h₀) (N : News h₀ L s.heap (xs ++ (cel5 L σ ++ σ.all))) (T : Top q lse mean mg mb h₀) (hh : A.handled = none) (hA : A.frames = some [env]) (hf : env.frame = some L) (hke : env.scope.kind = .function) (hd : A.depth ≤ 330) (hu : A.units ≤ 330)
    (hne : σ.W.seg ≠ []) (off : Offs xs σ.all)
    (h : ∀ h' tk' all' seg' y T t u, σ.W.seg = seg' ++ [y] → Fr h₀ L h' mm → News h₀ L h' ((T, tupO y t u) :: (xs ++ (cel5 L σ ++ all'))) → Lq w (knd w) C on L m { σ with W := ⟨σ.W.c, seg'⟩, all := all' } → (∀ p ∈ σ.all, NonC p.2 → p ∈ all') → (∀ x, Off x σ.all → Off x all') → Q (.ref T) { s with heap := h', toks := tk' }) :
    wpAny (model prog w) A (call (.ref pfn) [.ref σ.W.c.x]) Q E s := by
  refine S.opW xs og F X N T hh hA hf hke (Nat.le_trans hd (by decide)) (Nat.le_trans hu (by decide)) (a := ⟨default, 0, 0, 0⟩) hne off rfl fun h' tk' v more all' seg' F' N' S' keep offs hP => ?_
  obtain ⟨T1, k, p, t, u, es, rfl, rfl⟩ := hP
  exact h h' tk' all' seg' (k, p) T1 t u es F' N' S' keep offs
theorem Lq.lenW {Q : Value → Shared → Prop} (xs : List (Addr × Obj)) (og : OLen KK q knd C on 770) (cf : ClsF (KK w.params) C on gfn sfn pfn) (S : Lq w (knd w) C on L m σ) (F : Fr h₀ L s.heap mm) (X : (KK w.params).In h₀) (N : News h₀ L s.heap (xs ++ (cel5 L σ ++ σ.all))) (T : Top q lse mean mg mb h₀) (hh : A.handled = none) (hA : A.frames = some [env]) (hf : env.frame = some L) (hke : env.scope.kind = .function) (hd : A.depth ≤ 330) (hu : A.units ≤ 330)
    (off : Offs xs σ.all)
    (h : ∀ h' tk' t' all', Fr h₀ L h' mm → News h₀ L h' (xs ++ (cel5 L σ ++ all')) → Same w (knd w) C on L m σ all' → σ.W.seg.length ≤ 9 → Q (.int (σ.W.seg.length : Int) t') { s with heap := h', toks := tk' }) :
    wpAny (model prog w) A (call (.builtin "len") [.ref σ.W.c.x]) Q E s := by
  obtain ⟨es, I, _⟩ := S.instW cf xs N
  have bnd : σ.W.seg.length ≤ 9 := by
    obtain ⟨objs, ⟨te, o1, o2, kvs, _, _, _, _, hn, hl, m1, m9, _⟩, _⟩ := S.H.has _ (List.mem_cons_self)
    (try dsimp only at hl m9)
    omega
  refine len_K F X I cf.len cf.lenF (S.opW (A := A.in1) xs og F X N T hh hA hf hke (Nat.le_trans hd (by decide)) (by show A.units + 1 ≤ 350; omega) (a := ⟨default, 0, 0, 0⟩) trivial off rfl fun h' tk' v more all' seg' F' N' S' keep offs hP => ?_)
  obtain ⟨rfl, ⟨t', rfl⟩, rfl⟩ := hP
  skip
  exact ⟨⟨Int.natCast_nonneg _, by omega⟩, h h' _ _ all' F' N' ⟨S', keep, offs⟩ bnd⟩
theorem Lq.popDW {Q : Value → Shared → Prop} (xs : List (Addr × Obj)) (og : OPopD KK q knd C on 786) (S : Lq w (knd w) C on L m σ) (F : Fr h₀ L s.heap mm) (X : (KK w.params).In h₀) (N : News h₀ L s.heap (xs ++ (cel5 L σ ++ σ.all))) (T : Top q lse mean mg mb h₀) (hh : A.handled = none) (hA : A.frames = some [env]) (hf : env.frame = some L) (hke : env.scope.kind = .function) (hd : A.depth ≤ 330) (hu : A.units ≤ 330)
    (off : Offs xs σ.all)
    (h : ∀ h' tk' v all', Fr h₀ L h' mm → News h₀ L h' (xs ++ (cel5 L σ ++ all')) → Lq w (knd w) C on L m { σ with W := ⟨σ.W.c, out k σ.W.seg⟩, all := all' } → (∀ p ∈ σ.all, NonC p.2 → p ∈ all') → (∀ x, Off x σ.all → Off x all') → ((k ∉ keys σ.W.seg ∧ v = .none) ∨ ∃ p t, (k, p) ∈ σ.W.seg ∧ v = .int p t) → Q v { s with heap := h', toks := tk' }) :
    wpAny (model prog w) A (call (.ref 786) [.ref σ.W.c.x, .str k t, .none]) Q E s := by
  refine S.opW xs og F X N T hh hA hf hke (Nat.le_trans hd (by decide)) (Nat.le_trans hu (by decide)) (a := ⟨k, t, 0, 0⟩) trivial off rfl fun h' tk' v more all' seg' F' N' S' keep offs hP => ?_
  obtain ⟨rfl, hv, rfl⟩ := hP
  exact h h' tk' v all' F' N' S' keep offs hv
theorem Lq.lostW {Q : Value → Shared → Prop} (xs : List (Addr × Obj)) (og : OLost KK q knd C on 963) (S : Lq w (knd w) C on L m σ) (F : Fr h₀ L s.heap mm) (X : (KK w.params).In h₀) (N : News h₀ L s.heap (xs ++ (cel5 L σ ++ σ.all))) (T : Top q lse mean mg mb h₀) (hh : A.handled = none) (hA : A.frames = some [env]) (hf : env.frame = some L) (hke : env.scope.kind = .function) (hd : A.depth ≤ 330) (hu : A.units ≤ 330)
    (hk : k ∉ keys σ.W.seg) (off : Offs xs σ.all)
    (h : ∀ h' tk' all', Fr h₀ L h' mm → News h₀ L h' (xs ++ (cel5 L σ ++ all')) → Same w (knd w) C on L m σ all' → Q (.bool true) { s with heap := h', toks := tk' }) :
    wpAny (model prog w) A (call (.ref 963) [.ref σ.W.c.x, .str k t]) Q E s := by
  refine S.opW xs og F X N T hh hA hf hke (Nat.le_trans hd (by decide)) (Nat.le_trans hu (by decide)) (a := ⟨k, t, 0, 0⟩) hk off rfl fun h' tk' v more all' seg' F' N' S' keep offs hP => ?_
  obtain ⟨rfl, rfl, rfl⟩ := hP
  exact h h' tk' all' F' N' ⟨S', keep, offs⟩
theorem Lq.setW {Q : Unit → Shared → Prop} (xs : List (Addr × Obj)) (og : OSet KK q knd C on sfn) (cf : ClsF (KK w.params) C on gfn sfn pfn) (S : Lq w (knd w) C on L m σ) (F : Fr h₀ L s.heap mm) (X : (KK w.params).In h₀) (N : News h₀ L s.heap (xs ++ (cel5 L σ ++ σ.all))) (T : Top q lse mean mg mb h₀) (hh : A.handled = none) (hA : A.frames = some [env]) (hf : env.frame = some L) (hke : env.scope.kind = .function) (hd : A.depth ≤ 330) (hu : A.units ≤ 330)
    (off : Offs xs σ.all)
    (h : ∀ h' tk' all', Fr h₀ L h' mm → News h₀ L h' (xs ++ (cel5 L σ ++ all')) → Lq w (knd w) C on L m { σ with W := ⟨σ.W.c, ((k, p) :: out k σ.W.seg).take σ.W.c.mx.toNat⟩, all := all' } → (∀ p ∈ σ.all, NonC p.2 → p ∈ all') → (∀ x, Off x σ.all → Off x all') → Q () { s with heap := h', toks := tk' }) :
    wpAny (model prog w) A (setItem (.ref σ.W.c.x) (.str k t) (.int p u)) Q E s := by
  obtain ⟨es, I, _⟩ := S.instW cf xs N
  refine ksp_setItem F X I cf.seq cf.st cf.stF (S.opW xs og F X N T hh hA hf hke (Nat.le_trans hd (by decide)) (Nat.le_trans hu (by decide)) (a := ⟨k, t, p, u⟩) trivial off rfl fun h' tk' v more all' seg' F' N' S' keep offs hP => ?_)
  obtain ⟨rfl, rfl, rfl⟩ := hP
  exact h h' tk' all' F' N' S' keep offs
theorem Lq.hasNotW {Q : Value → Shared → Prop} (xs : List (Addr × Obj)) (oh : OHas KK q knd C on 749) (cf : ClsF (KK w.params) C on gfn sfn pfn) (S : Lq w (knd w) C on L m σ) (F : Fr h₀ L s.heap mm) (X : (KK w.params).In h₀) (N : News h₀ L s.heap (xs ++ (cel5 L σ ++ σ.all))) (T : Top q lse mean mg mb h₀) (hh : A.handled = none) (hA : A.frames = some [env]) (hf : env.frame = some L) (hke : env.scope.kind = .function) (hd : A.depth ≤ 330) (hu : A.units ≤ 330)
    (off : Offs xs σ.all)
    (h : ∀ h' tk' all', Fr h₀ L h' mm → News h₀ L h' (xs ++ (cel5 L σ ++ all')) → Same w (knd w) C on L m σ all' → Q (.bool (!decide (k ∈ keys σ.W.seg))) { s with heap := h', toks := tk' }) :
    wpAny (model prog w) A (compareOp .NotIn (.str k t) (.ref σ.W.c.x)) Q E s := by
  obtain ⟨es, I, _⟩ := S.instW cf xs N
  refine notIn_K F X I cf.has cf.hasF (S.opW xs oh F X N T hh hA hf hke (Nat.le_trans hd (by decide)) (Nat.le_trans hu (by decide)) (a := ⟨k, t, 0, 0⟩) trivial off rfl fun h' tk' v more all' seg' F' N' S' keep offs hP => ?_)
  obtain ⟨rfl, rfl, rfl⟩ := hP
  exact wpAny_truthy_bool (h h' tk' all' F' N' ⟨S', keep, offs⟩)
end
end Mine
end
section
open PySem PySem.W PySem.Spec PySem.Calls PyProof.Rows PyProof.Rows.LCg
namespace Mine
section
variable {prog : Program} (KK : Params → Frag) (q : Program) (knd : ∀ w, PySem.KeyKind prog w Str) (C : Addr) (on : Str)
/-- an iterator over a cache's keys -/
def OIter (fn : Addr) : Prop := ∀ {w : World} {s : Shared} {c : Loc} {seg : Seg} {objs : List (Addr × Obj)}, CellIs w.params (knd w) C on c seg objs →
  Callee (prog := prog) KK q 350 fn [.ref c.x] objs w s fun v own' => ∃ I oI objs' ep kvs o1, own' = (I, oI) :: objs' ∧ v = .ref I ∧ CellIs w.params (knd w) C on c seg objs' ∧ KdkIter oI c.d1 0 kvs.length ep ∧ (c.d1, o1) ∈ objs' ∧ KdkAt (knd w) o1 kvs ep ∧ (kvs.map (·.1)).Perm (keys seg) ∧ (c.d1 == sysModules) = false
/-- all that the law asks of the caches' class -/
structure Ops (gfn sfn pfn : Addr) (touch : Bool) : Prop where
  cf : ∀ P, ClsF (KK P) C on gfn sfn pfn
  get : OGet KK q knd C on gfn touch
  pop : OPop KK q knd C on 786
  popd : OPopD KK q knd C on 786
  lost : OLost KK q knd C on 963
  set : OSet KK q knd C on sfn
  popi : OPopitem KK q knd C on pfn
  has : OHas KK q knd C on 749
  len : OLen KK q knd C on 770
  max : OMax KK q knd C on 808
  iter : OIter KK q knd C on 763
  laid : Laid KK q knd C on 956
end
section
variable {prog : Program} {KK : Params → Frag} {q : Program} {knd : ∀ w, PySem.KeyKind prog w Str} {C : Addr} {on : Str} {fn : Addr}
theorem OIter.of (d : Iters KK q knd C on fn) : OIter KK q knd C on fn := by
  intro w s c seg objs ⟨te, o1, o2, kvs, e, D1, D2, kv, hn, hl, m1, m9, ok⟩ base g fr gs mean mg mb lse R S ft hR
  subst e
  have hle := kv.len
  refine d S ok ⟨te, o1, o2, ft, D1, D2⟩ (by omega) fun g' h' tk' I oI ep u cc it at_ => ?_
  obtain ⟨te', p1, p2, ft', D1', D2'⟩ := cc
  have z1 := (ft'.2.2 (I, oI) (by simp)).1
  have z2 := (ft'.2.2 (c.d1, p1) (by simp [led])).1
  obtain ⟨oi, hi, hic, hid⟩ := it
  rw [z1] at hi
  cases hi
  obtain ⟨od, es, hod, r⟩ := at_
  rw [z2] at hod
  cases hod
  exact hR g' h' tk' _ _ u ft' ⟨I, oI, _, ep, kvs, p1, rfl, rfl, ⟨te', p1, p2, kvs, rfl, D1', D2', kv, hn, hl, m1, m9, ok⟩, ⟨hic, hid⟩, by simp [led], ⟨es, r⟩, kv.perm, ok.lo1⟩
end
section
variable {prog : Program} {w : World} {knd : PySem.KeyKind prog w Str} {C : Addr} {on : Str} {h₀ h : Heap} {L : Addr} {m m' : Str → Option Value} {σ : LSt} {all all' : List (Addr × Obj)}
/-- another row -/
theorem Lq.setRow {D : Addr} {ys : List Value} {n : Nat} {row' : Seg} (S : Lq w knd C on L m σ) (hm : (D, W.listOf ys.toArray n) ∈ σ.all) (hr : RowIs ys row' σ.all) (r1 : m' (Str.ofString "row") = some (.ref D)) (r2 : m' (Str.ofString "rooms") = m (Str.ofString "rooms")) (hl : row'.length ≤ 12) :
    Lq w knd C on L m' { σ with Lr := D, row := row' } :=
  ⟨S.d1, S.d2, S.d3, S.d4, S.d5, S.H, S.chain, ⟨ys, n, hm, hr⟩, S.rooms, r1, r2.trans S.r2, S.nc, S.len, hl, S.ext⟩
theorem take_out {row : Seg} {i : Nat} {p : Str × Int} {k : Str} (h : row[i]? = some p) : out k (row.take (i + 1)) = out k (row.take i) ++ if p.1 ≠ k then [p] else [] := by
  unfold out
  rw [take_filter' _ h]
  by_cases hp : p.1 = k <;> simp [hp]
end
theorem item_one {prog : Program} {w : World} {A : Around} {E : Value → Shared → Prop} {s : Shared} {h₀ : Heap} {L a : Addr} {news : List (Addr × Obj)} {value slice : PySem.Expr} {x : Value} {n : Nat} {u : Tok} {Q : Value → Shared → Prop} (N : News h₀ L s.heap news) (hm : (a, W.listOf #[x] n) ∈ news) (h : Q x s)
    (hs : subscripted slice false (.ref a) (.int 0 u) = operate [.ref a, .int 0 u] (getItem (.ref a) (.int 0 u)) := by with_unfolding_all rfl) (hg : ∀ r, letTemporaryGo value (.ref a) r = pure () := by intro _; with_unfolding_all rfl) :
    wpAny (model prog w) A (subscriptTail value slice (.ref a) (.int 0 u)) Q E s := item_list (News.isList N hm) (by decide) (by decide) rfl h hs hg
theorem News.cutTo {g : Heap} {L : Addr} {h : Heap} {l l' : List (Addr × Obj)} (N : News g L h l) (hs : ∀ p ∈ l', p ∈ l) : News g L h l' := fun p hp => N p (hs p hp)
theorem RowIs.cons {rvs : List Value} {row : Seg} {all : List (Addr × Obj)} {T : Addr} {p : Str × Int} {t u : Tok} (h : RowIs rvs row all) (hT : (T, tupO p t u) ∈ all) : RowIs (.ref T :: rvs) (p :: row) all := by
  refine ⟨by simp [h.1], fun i v q hv hq => ?_⟩
  cases i with
  | zero =>
    simp only [List.getElem?_cons_zero, Option.some.injEq] at hv hq
    subst hv; subst hq
    exact ⟨T, t, u, rfl, hT⟩
  | succ j =>
    simp only [List.getElem?_cons_succ] at hv hq
    exact h.2 j v q hv hq
theorem off_new {D : Addr} {news : List (Addr × Obj)} (h : ∀ p ∈ news, p.1 < D) : Off D news := fun p hp => Nat.ne_of_lt (h p hp)
end Mine
end
section
open PySem PySem.W PySem.Spec PySem.Calls PyProof.Rows PyProof.Rows.LCg
namespace Mine
section
variable {prog : Program} {KK : Params → Frag} {q : Program} {knd : ∀ w, PySem.KeyKind prog w Str} {C gfn sfn pfn : Addr} {on : Str} {fn : Addr}
variable {w : World} {s : Shared} {A : Around} {E : Value → Shared → Prop} {h₀ : Heap} {env : Env} {L : Addr} {m mm mg mb : Str → Option Value} {lse : List Str} {mean : ExcName → Option Value} {σ : LSt} {c : Loc} {seg : Seg} {i : Nat} {b : Cell}
/-- what an iterator over a cache's keys is -/
def IterIs (w : World) (knd : PySem.KeyKind prog w Str) (c : Loc) (seg : Seg) (oI : Obj) (all : List (Addr × Obj)) (kvs : List (Str × Value)) (ep : Nat) : Prop :=
  ∃ o1, KdkIter oI c.d1 0 kvs.length ep ∧ (c.d1, o1) ∈ all ∧ KdkAt knd o1 kvs ep ∧ (kvs.map (·.1)).Perm (keys seg) ∧ (c.d1 == sysModules) = false
/-- __iter__ of one of the law's caches -/
theorem Lq.iterB {Q : Value → Shared → Prop} (xs : List (Addr × Obj)) (d : OIter KK q knd C on fn) (S : Lq w (knd w) C on L m σ) (F : Fr h₀ L s.heap mm) (X : (KK w.params).In h₀) (N : News h₀ L s.heap (xs ++ (cel5 L σ ++ σ.all))) (T : Top q lse mean mg mb h₀) (hh : A.handled = none) (hA : A.frames = some [env]) (hf : env.frame = some L) (hke : env.scope.kind = .function) (hd : A.depth ≤ 340) (hu : A.units ≤ 340)
    (hb : b ∈ σ.W :: σ.cs) (off : Offs xs σ.all)
    (h : ∀ h' tk' I oI all' kvs ep, Fr h₀ L h' mm → News h₀ L h' ((I, oI) :: (xs ++ (cel5 L σ ++ all'))) → Same w (knd w) C on L m σ all' → Off I (xs ++ (cel5 L σ ++ all')) → IterIs w (knd w) b.c b.seg oI all' kvs ep → Q (.ref I) { s with heap := h', toks := tk' }) :
    wpAny (model prog w) A (call (.ref fn) [.ref b.c.x]) Q E s := by
  obtain ⟨objs, h1, h2⟩ := S.H.has b hb
  have inN : ∀ p ∈ σ.all, p ∈ xs ++ (cel5 L σ ++ σ.all) := fun p hp => List.mem_append_right _ (List.mem_append_right _ hp)
  let rest := σ.all.filter fun p => decide (p.1 ∉ b.c.adr)
  refine Callee.law (rest := xs ++ (cel5 L σ ++ rest)) (d h1) F X N T hh hA hf hke (Nat.le_trans hd (by decide)) (Nat.le_trans hu (by decide)) (fun p hp => inN _ (h2 p hp)) (fun p hp => ?_) (fun p hp => ?_) fun h' tk' v own' F' N' off' hP => ?_
  · rcases List.mem_append.mp hp with hp | hp
    · exact List.mem_append_left _ hp
    · rcases List.mem_append.mp hp with hp | hp
      · exact List.mem_append_right _ (List.mem_append_left _ hp)
      · exact inN _ (List.mem_filter.mp hp).1
  · rw [h1.adr]
    rcases List.mem_append.mp hp with hp | hp
    · exact off_adr S.H hb (off.of p hp)
    · rcases List.mem_append.mp hp with hp | hp
      · exact off_adr S.H hb (S.nc.off5 p hp)
      · exact of_decide_eq_true (List.mem_filter.mp hp).2
  · obtain ⟨I, oI, objs', ep, kvs, o1, rfl, rfl, h3, hit, hm1, hat, hpm, hlo⟩ := hP
    have keepA : ∀ p ∈ σ.all, p.1 ∉ b.c.adr → p ∈ objs' ++ rest := fun p hp hn => List.mem_append_right _ (List.mem_filter.mpr ⟨hp, decide_eq_true hn⟩)
    have keep : ∀ p ∈ σ.all, NonC p.2 → p ∈ objs' ++ rest := fun p hp hn => keepA p hp (S.H.plain N inN hb (inN p hp) hn)
    have adr : ∀ p ∈ objs' ++ rest, ∃ r ∈ σ.all, r.1 = p.1 := fun p hp => by
      rcases List.mem_append.mp hp with hp | hp
      · have hm : p.1 ∈ objs.map (·.1) := by rw [h1.adr, ← h3.adr]; exact List.mem_map_of_mem hp
        obtain ⟨r, hr, e⟩ := List.mem_map.mp hm
        exact ⟨r, h2 r hr, e⟩
      · exact ⟨p, (List.mem_filter.mp hp).1, rfl⟩
    have offs : ∀ x, Off x σ.all → Off x (objs' ++ rest) := fun x hx p hp => by
      obtain ⟨r, hr, e⟩ := adr p hp
      rw [← e]; exact hx r hr
    have N2 : News h₀ L h' ((I, oI) :: (xs ++ (cel5 L σ ++ (objs' ++ rest)))) := fun p hp => N' p (by
      simp only [List.mem_append, List.mem_cons] at hp ⊢
      rcases hp with hp | hp | hp | hp | hp
      · exact .inl (.inl hp)
      · exact .inr (.inl hp)
      · exact .inr (.inr (.inl hp))
      · exact .inl (.inr hp)
      · exact .inr (.inr (.inr hp)))
    have H' : Hold w.params (knd w) C on (σ.W :: σ.cs) (objs' ++ rest) := by
      obtain ⟨pre, post, e⟩ := List.append_of_mem hb
      have H0 := S.H
      rw [e] at H0 ⊢
      exact Hold.turn (c := b.c) (s1 := b.seg) (seg' := b.seg) H0 h3 (fun p hp => List.mem_append_left _ hp) keepA
    have nI : NonC oI := .fields hit.2
    refine h h' tk' I oI (objs' ++ rest) kvs ep F' N2 ⟨⟨S.d1, S.d2, S.d3, S.d4, S.d5, H', ?_, ?_, ?_, S.r1, S.r2, S.nc.mono offs, S.len, S.rl, fun p hp => ⟨keep p (S.ext p hp).1 (S.ext p hp).2, (S.ext p hp).2⟩⟩, keep, offs⟩ (fun p hp e => ?_) ⟨o1, hit, List.mem_append_left _ hm1, hat, hpm, hlo⟩
    · obtain ⟨n, hm⟩ := S.chain
      exact ⟨n, keep _ hm .list⟩
    · obtain ⟨rvs, n, hm, hr⟩ := S.rows
      exact ⟨rvs, n, keep _ hm .list, hr.mono keep⟩
    · obtain ⟨vs', n, hm, hr⟩ := S.rooms
      exact ⟨vs', n, keep _ hm .list, hr⟩
    · have hp : p ∈ objs' ∨ p ∈ xs ++ (cel5 L σ ++ rest) := by
        simp only [List.mem_append] at hp ⊢
        rcases hp with hp | hp | hp | hp
        · exact .inr (.inl hp)
        · exact .inr (.inr (.inl hp))
        · exact .inl hp
        · exact .inr (.inr (.inr hp))
      rcases hp with hp | hp
      · have z1 := (N2 (I, oI) List.mem_cons_self).1
        have z2 := (N2 p (List.mem_cons_of_mem _ (List.mem_append_right _ (List.mem_append_right _ (List.mem_append_left _ hp))))).1
        have e' : p.1 = I := e
        rw [e', z1] at z2
        exact h3.not p hp (Option.some.inj z2 ▸ nI)
      · exact off' (I, oI) List.mem_cons_self p hp e.symm
theorem Lq.instB (S : Lq w (knd w) C on L m σ) (cf : ClsF (KK w.params) C on gfn sfn pfn) (xs : List (Addr × Obj)) (N : News h₀ L s.heap (xs ++ (cel5 L σ ++ σ.all))) (hb : b ∈ σ.W :: σ.cs) :
    ∃ es, InstAt s.heap b.c.x (instObj C b.c.dx) C (some (dictOf es 4)) :=
  let ⟨es, I, _⟩ := S.H.inst N (fun p hp => List.mem_append_right _ (List.mem_append_right _ hp)) hb cf.on_
  ⟨es, I⟩
/-- iter(cache), as a loop asks it -/
theorem Lq.pyIterB {Q : Value → Shared → Prop} (xs : List (Addr × Obj)) (d : OIter KK q knd C on 763) (cf : ClsF (KK w.params) C on gfn sfn pfn) (S : Lq w (knd w) C on L m σ) (F : Fr h₀ L s.heap mm) (X : (KK w.params).In h₀) (N : News h₀ L s.heap (xs ++ (cel5 L σ ++ σ.all))) (T : Top q lse mean mg mb h₀) (hh : A.handled = none) (hA : A.frames = some [env]) (hf : env.frame = some L) (hke : env.scope.kind = .function) (hd : A.depth ≤ 340) (hu : A.units ≤ 340)
    (hb : b ∈ σ.W :: σ.cs) (off : Offs xs σ.all)
    (h : ∀ h' tk' I oI all' kvs ep, Fr h₀ L h' mm → News h₀ L h' ((I, oI) :: (xs ++ (cel5 L σ ++ all'))) → Same w (knd w) C on L m σ all' → Off I (xs ++ (cel5 L σ ++ all')) → IterIs w (knd w) b.c b.seg oI all' kvs ep → Q (.ref I) { s with heap := h', toks := tk' }) :
    wpAny (model prog w) A (pyIter (.ref b.c.x)) Q E s := by
  obtain ⟨es, I⟩ := S.instB cf xs N hb
  refine owit_iter F X I cf.iter cf.iterF (S.iterB xs d F X N T hh hA hf hke hd hu hb off fun h' tk' I oI all' kvs ep F' N' S' oI' it => ?_)
  have hty : Shared.TypeIs { s with heap := h', toks := tk' } (.ref I) "dict_keyiterator" := ⟨oI, (N' (I, oI) List.mem_cons_self).1, it.choose_spec.1.1⟩
  unfold OwitIt
  refine wpAny_specialOf (name := Str.ofString "__next__") hty PySem.F.slot_dict_keyiterator_next.lookup ?_
  exact h h' tk' I oI all' kvs ep F' N' S' oI' it
end
end Mine
end
section
open PySem PySem.W PySem.Spec PySem.Calls PyProof.Rows PyProof.Rows.LCg
namespace Mine
section
variable {prog : Program} (KK : Params → Frag) (q : Program) (knd : ∀ w, PySem.KeyKind prog w Str) (C : Addr) (on : Str)
/-- how many; nothing changes -/
def LensS (fn : Addr) : Prop :=
  ∀ {w : World} {s : Shared} {c : Loc} {cur : Int} {te : Tok} {o1 o2 : Obj} {kvs ov : List (Str × Value)} {base g : Heap} {fr : List Env} {gs mean mg mb lse} {R : Result → Shared → Prop},
  Sur KK q 350 w base g fr gs mean mg mb lse → c.Ok → Fit g (led w.params C on c cur te o1 o2) s.heap → o1.IsDictOf (knd w) kvs → o2.IsDictOf (knd w) ov → kvs.length ≤ 12 →
  (∀ g' h' tk' t, Up base fr g g' → Fit g' (led w.params C on c cur te o1 o2) h' → R (.ok (.ret (.int (kvs.length : Int) t))) { s with heap := h', toks := tk' }) →
  codeAny (model prog w) (arnd 350 350 fr gs) (.call (.ref fn) ⟨[.ref c.x], []⟩) R s
def OLenS (fn : Addr) : Prop := ∀ {w : World} {s : Shared} {c : Loc} {seg : Seg} {objs : List (Addr × Obj)}, CellIs w.params (knd w) C on c seg objs →
  Callee (prog := prog) KK q 350 fn [.ref c.x] objs w s fun v own' => own' = objs ∧ ∃ t, v = .int (seg.length : Int) t
end
section
variable {prog : Program} {KK : Params → Frag} {q : Program} {knd : ∀ w, PySem.KeyKind prog w Str} {C : Addr} {on : Str} {fn : Addr}
theorem LensS.len (d : LensS KK q knd C on fn) : Lens KK q knd C on fn := by
  intro w s c cur kvs ov base g fr gs mean mg mb lse R S O ⟨te, o1, o2, ft, D1, D2⟩ hl hR
  exact d S O ft D1 D2 hl fun g' h' tk' t u ft' => hR g' h' tk' t u ⟨te, o1, o2, ft', D1, D2⟩
theorem OLenS.of (d : LensS KK q knd C on fn) : OLenS KK q knd C on fn := by
  intro w s c seg objs ⟨te, o1, o2, kvs, e, D1, D2, kv, hn, hl, m1, m9, ok⟩ base g fr gs mean mg mb lse R S ft hR
  subst e
  have hle := kv.len
  exact d S ok ft D1 D2 (by omega) fun g' h' tk' t u ft' => hR g' h' tk' _ _ u ft' ⟨rfl, t, by rw [hle]⟩
end
section
variable {prog : Program} {KK : Params → Frag} {q : Program} {D fn : Addr} {as : List Value} {own news : List (Addr × Obj)} {w : World} {s : Shared} {Post : Value → Prop}
variable {A : Around} {E : Value → Shared → Prop} {h₀ : Heap} {env : Env} {L : Addr} {m mg mb : Str → Option Value} {lse : List Str} {mean : ExcName → Option Value}
/-- a call that leaves its own objects as they are -/
theorem Callee.law_same {Q : Value → Shared → Prop} (d : Callee (prog := prog) KK q D fn as own w s fun v own' => own' = own ∧ Post v) (F : Fr h₀ L s.heap m) (X : (KK w.params).In h₀) (N : News h₀ L s.heap news) (T : Top q lse mean mg mb h₀) (hh : A.handled = none) (hA : A.frames = some [env]) (hf : env.frame = some L) (hke : env.scope.kind = .function) (hd : A.depth ≤ D) (hu : A.units ≤ D)
    (so : ∀ p ∈ own, p ∈ news) (h : ∀ h' tk' v, Fr h₀ L h' m → News h₀ L h' news → Post v → Q v { s with heap := h', toks := tk' }) : wpAny (model prog w) A (call (.ref fn) as) Q E s := by
  refine Callee.law (rest := news.filter fun p => decide (p.1 ∉ own.map (·.1))) d F X N T hh hA hf hke hd hu so (fun p hp => (List.mem_filter.mp hp).1) (fun p hp => of_decide_eq_true (List.mem_filter.mp hp).2) fun h' tk' v own' F' N' _ ⟨e, hP⟩ => ?_
  subst e
  refine h h' tk' v F' (fun p hp => ?_) hP
  by_cases hm : p.1 ∈ own'.map (·.1)
  · obtain ⟨r, hr, e⟩ := List.mem_map.mp hm
    have z1 := (N r (so r hr)).1
    have z2 := (N p hp).1
    rw [e, z2] at z1
    have : p = r := Prod.ext e.symm (Option.some.inj z1)
    rw [this]
    exact N' r (List.mem_append_left _ hr)
  · exact N' p (List.mem_append_right _ (List.mem_filter.mpr ⟨hp, decide_eq_true hm⟩))
end
section
variable {prog : Program} {KK : Params → Frag} {q : Program} {knd : ∀ w, PySem.KeyKind prog w Str} {C gfn sfn pfn : Addr} {on : Str} {fn : Addr}
variable {w : World} {s : Shared} {A : Around} {E : Value → Shared → Prop} {h₀ : Heap} {env : Env} {L : Addr} {m mm mg mb : Str → Option Value} {lse : List Str} {mean : ExcName → Option Value} {σ : LSt} {b : Cell} {news : List (Addr × Obj)}
/-- len(cache): nothing changes -/
theorem Lq.lenB {Q : Value → Shared → Prop} (xs : List (Addr × Obj)) (og : OLenS KK q knd C on 770) (cf : ClsF (KK w.params) C on gfn sfn pfn) (S : Lq w (knd w) C on L m σ) (F : Fr h₀ L s.heap mm) (X : (KK w.params).In h₀) (N : News h₀ L s.heap (xs ++ (cel5 L σ ++ σ.all))) (T : Top q lse mean mg mb h₀) (hh : A.handled = none) (hA : A.frames = some [env]) (hf : env.frame = some L) (hke : env.scope.kind = .function) (hd : A.depth ≤ 330) (hu : A.units ≤ 330)
    (hb : b ∈ σ.W :: σ.cs)
    (h : ∀ h' tk' t', Fr h₀ L h' mm → News h₀ L h' (xs ++ (cel5 L σ ++ σ.all)) → Q (.int (b.seg.length : Int) t') { s with heap := h', toks := tk' }) :
    wpAny (model prog w) A (call (.builtin "len") [.ref b.c.x]) Q E s := by
  obtain ⟨es, I⟩ := S.instB cf xs N hb
  obtain ⟨objs, h1, h2⟩ := S.H.has b hb
  have bnd : b.seg.length ≤ 9 := by
    obtain ⟨te, o1, o2, kvs, _, _, _, _, hn, hl, m1, m9, _⟩ := h1
    (try dsimp only at hl m9)
    omega
  refine len_K F X I cf.len cf.lenF (Callee.law_same (A := A.in1) (og h1) F X N T hh hA hf hke (Nat.le_trans hd (by decide)) (by show A.units + 1 ≤ 350; omega) (fun p hp => List.mem_append_right _ (List.mem_append_right _ (h2 p hp))) fun h' tk' v F' N' hP => ?_)
  obtain ⟨t', rfl⟩ := hP
  exact ⟨⟨Int.natCast_nonneg _, by omega⟩, h h' _ _ F' N'⟩
end
end Mine
end
section
open PySem PySem.W PySem.Spec PySem.Calls PyProof.Rows PyProof.Rows.LCg
set_option maxRecDepth 100000
namespace Mine
section
variable {prog : Program} {KK : Params → Frag} {q : Program} {knd : ∀ w, PySem.KeyKind prog w Str} {C gfn sfn pfn : Addr} {on : Str} {fn : Addr}
variable {w : World} {s : Shared} {A : Around} {E : Value → Shared → Prop} {h₀ : Heap} {env : Env} {L : Addr} {m mm mg mb : Str → Option Value} {lse : List Str} {mean : ExcName → Option Value} {σ : LSt} {b : Cell} {news : List (Addr × Obj)}
theorem Lq.hintB {Q : Bool → Shared → Prop} (xs : List (Addr × Obj)) (og : OLenS KK q knd C on 770) (cf : ClsF (KK w.params) C on gfn sfn pfn) (S : Lq w (knd w) C on L m σ) (F : Fr h₀ L s.heap mm) (X : (KK w.params).In h₀) (N : News h₀ L s.heap (xs ++ (cel5 L σ ++ σ.all))) (T : Top q lse mean mg mb h₀) (hh : A.handled = none) (hA : A.frames = some [env]) (hf : env.frame = some L) (hke : env.scope.kind = .function) (hd : A.depth ≤ 330) (hu : A.units ≤ 330)
    (hb : b ∈ σ.W :: σ.cs)
    (h : ∀ h' tk' r, Fr h₀ L h' mm → News h₀ L h' (xs ++ (cel5 L σ ++ σ.all)) → Q r { s with heap := h', toks := tk' }) :
    wpAny (model prog w) A (Builtin.List.listLengthHint (.ref b.c.x)) Q E s := by
  obtain ⟨es, I⟩ := S.instB cf xs N hb
  have bnd : b.seg.length ≤ 9 := by
    obtain ⟨objs, h1, h2⟩ := S.H.has b hb
    obtain ⟨te, o1, o2, kvs, _, _, _, _, hn, hl, m1, m9, _⟩ := h1
    (try dsimp only at hl m9)
    omega
  unfold Builtin.List.listLengthHint
  refine wpAny_bind (wpAny_bind (I.type.here ((looks_findIn (X.keeps F.keep) cf.len).here ?_)))
  dsimp only [Option.isSome]
  refine wpAny_ite_split (fun e => absurd e (by decide)) (fun _ => ?_)
  refine wpAny_ite_split (fun _ => ?_) (fun e => absurd rfl e)
  refine wpAny_bind (wpAny_rule ?_)
  refine wpAny_bind (wpAny_attempt ?_)
  refine Lq.lenB xs og cf S F X N T hh hA hf hke hd hu hb fun h' tk' t' F' N' => ?_
  dsimp only
  refine wpAny_bind (wpAny_pure ?_)
  dsimp only
  refine wpAny_ite_split (fun e => ?_) (fun _ => wpAny_pure (h h' tk' _ F' N'))
  exact absurd e (by unfold Builtin.List.listTooLong; rw [sizeLine_eq]; simp; omega)
theorem Off.pushed {h : Heap} {l : List (Addr × Obj)} (N : News h₀ L h l) : Off h.objs.size l := fun p hp => Nat.ne_of_lt (Heap.lt_size (N p hp).1)
/-- list(cache) -/
theorem Lq.listB {Q : Value → Shared → Prop} (xs : List (Addr × Obj)) (og : OLenS KK q knd C on 770) (d : OIter KK q knd C on 763) (cf : ClsF (KK w.params) C on gfn sfn pfn) (S : Lq w (knd w) C on L m σ) (F : Fr h₀ L s.heap mm) (X : (KK w.params).In h₀) (N : News h₀ L s.heap (xs ++ (cel5 L σ ++ σ.all))) (T : Top q lse mean mg mb h₀) (hh : A.handled = none) (hA : A.frames = some [env]) (hf : env.frame = some L) (hke : env.scope.kind = .function) (hd : A.depth ≤ 320) (hu : A.units ≤ 320)
    (hb : b ∈ σ.W :: σ.cs) (off : Offs xs σ.all)
    (h : ∀ h' tk' D n (vs : List Value) (ks : List Str) all', Fr h₀ L h' mm → News h₀ L h' ((D, W.listOf vs.toArray n) :: (xs ++ (cel5 L σ ++ all'))) → Same w (knd w) C on L m σ all' → Off D (xs ++ (cel5 L σ ++ all')) → ks.Perm (keys b.seg) → vs.length = ks.length → (∀ (j : Nat) (v : Value), vs[j]? = some v → ∃ k, ks[j]? = some k ∧ (knd w).is k v = true) → Q (.ref D) { s with heap := h', toks := tk' }) :
    wpAny (model prog w) A (call (.type "list") [.ref b.c.x]) Q E s := by
  have bnd : b.seg.length ≤ 9 := by
    obtain ⟨objs, h1, h2⟩ := S.H.has b hb
    obtain ⟨te, o1, o2, kvs, _, _, _, _, hn, hl, m1, m9, _⟩ := h1
    (try dsimp only at hl m9)
    omega
  refine callType_codes (Q₁ := fun obj s₁ => obj = .ref s.heap.objs.size ∧ s₁ = { s with heap := s.heap.push { cls := .type "list", data := .seq #[] } }) PySem.F.called_list (PySem.F.typeCall_list_1 _) PySem.F.entry_list_init
    (code_list_new _ ⟨rfl, rfl⟩) fun obj s₁ h₁ => ?_
  obtain ⟨rfl, rfl⟩ := h₁
  have hS : (s.heap.push { cls := .type "list", data := .seq #[] }).get? s.heap.objs.size = some { cls := .type "list", data := .seq #[] } := Heap.get?_push_size _ rfl
  refine ⟨⟨_, hS, rfl⟩, PySem.F.args_list_init_2 _ _, ?_⟩
  show wpAny _ _ (do let old ← Builtin.List.listItems (.ref s.heap.objs.size); Builtin.List.listUpdate (.ref s.heap.objs.size) (fun _ => #[]); letGo old.toList.reverse; Builtin.List.listExtendWith (.ref s.heap.objs.size) (.ref b.c.x) .none) _ _ _
  refine wpAny_bind ?_
  unfold Builtin.List.listItems
  refine wpAny_bind (wpAny_seqItems hS rfl (wpAny_pure ?_))
  show wpAny _ _ (updateSeq s.heap.objs.size (fun _ => #[]) >>= fun _ => letGo (#[] : Array Value).toList.reverse >>= fun _ => Builtin.List.listExtendWith (.ref s.heap.objs.size) (.ref b.c.x) .none) _ _ _
  refine wpAny_bind (wpAny_updateSeq hS rfl ?_)
  have hS₂ := Heap.get?_update_self (Obj.mapSeq (fun _ => (#[] : Array Value))) hS rfl
  have oth : ∀ b o, s.heap.get? b = some o → ((s.heap.push { cls := .type "list", data := .seq #[] }).update s.heap.objs.size (Obj.mapSeq (fun _ => (#[] : Array Value)))).get? b = some o :=
    fun b o e => (Heap.get?_update_other _ _ (Ne.symm (Nat.ne_of_lt (Heap.lt_size e)))).trans (Heap.get?_push_of_some _ e)
  refine wpAny_bind (wpAny_letGo ?_)
  dsimp only
  obtain ⟨c₀, hS₃⟩ : ∃ c₀, ((s.heap.push { cls := .type "list", data := .seq #[] }).update s.heap.objs.size (Obj.mapSeq (fun _ => (#[] : Array Value)))).get? s.heap.objs.size = some (W.listOf #[] c₀) := ⟨_, hS₂⟩
  have oS := Off.pushed N
  have hne : s.heap.objs.size ≠ b.c.x := fun e => by
    obtain ⟨objs, h1, h2⟩ := S.H.has b hb
    obtain ⟨te, o1, o2, kvs, eo, _⟩ := h1
    exact oS _ (List.mem_append_right _ (List.mem_append_right _ (h2 (b.c.x, instObj C b.c.dx) (by rw [eo]; exact List.mem_cons_self)))) e.symm
  have N1 : News h₀ L _ ((s.heap.objs.size, W.listOf #[] c₀) :: (xs ++ (cel5 L σ ++ σ.all))) := news_pushed F N oth hS₃ rfl
  have F1 := F.keeps oth
  generalize ((s.heap.push { cls := .type "list", data := .seq #[] }).update s.heap.objs.size (Obj.mapSeq (fun _ => (#[] : Array Value)))) = hp1 at *
  generalize s.heap.objs.size = SA at *
  clear hS hS₂ N F
  obtain ⟨es, I⟩ := S.instB (s := { s with heap := hp1 }) cf ((SA, W.listOf #[] c₀) :: xs) N1 hb
  unfold Builtin.List.listExtendWith
  refine wpAny_bind (I.type.here ?_)
  have h1 : Builtin.List.listSameRef (.ref SA) (.ref b.c.x) = false := by simp [Builtin.List.listSameRef, hne]
  have n1 : (Value.ref C == Value.type "list") = false := rfl
  have n2 : (Value.ref C == Value.type "tuple") = false := rfl
  simp only [h1, n1, n2, Bool.or_false, Bool.false_eq_true, if_false]
  refine wpAny_bind (Lq.pyIterB (s := { s with heap := hp1 }) (A := A.in1.in1) ((SA, W.listOf #[] c₀) :: xs) d cf S F1 X N1 T hh hA hf hke (Nat.le_trans hd (by decide)) (by show A.units + 1 + 1 ≤ 340; omega) hb ⟨fun p hp => oS p (List.mem_append_right _ (List.mem_append_right _ hp)), off⟩ fun h3 tk3 I oI all' kvs ep F3 N3 S3 oI3 it => ?_)
  refine wpAny_bind (wpAny_holding (Lq.hintB (A := A.in1.in1) ((I, oI) :: (SA, W.listOf #[] c₀) :: xs) og cf S3.q F3 X N3 T hh hA hf hke (Nat.le_trans hd (by decide)) (by show A.units + 1 + 1 ≤ 330; omega) hb fun h4 tk4 r F4 N4 => ?_))
  obtain ⟨o1, hit, hm1, hat, hpm, hlo⟩ := it
  have oS' : Off SA (xs ++ (cel5 L σ ++ all')) := fun p hp => by
    simp only [List.mem_append] at hp
    rcases hp with hp | hp | hp
    · exact oS p (List.mem_append_left _ hp)
    · exact oS p (List.mem_append_right _ (List.mem_append_left _ hp))
    · exact S3.off SA (fun p hp => oS p (List.mem_append_right _ (List.mem_append_right _ hp))) p hp
  have hSI : @Ne Nat SA I := oI3 _ (List.mem_append_left _ List.mem_cons_self)
  have hSd : @Ne Nat SA b.c.d1 := fun e => oS' _ (List.mem_append_right _ (List.mem_append_right _ hm1)) e.symm
  have hId : @Ne Nat I b.c.d1 := fun e => oI3 (b.c.d1, o1) (List.mem_append_right _ (List.mem_append_right _ hm1)) e.symm
  have hlen : kvs.length = b.seg.length := by have := hpm.length_eq; simpa using this
  have key : ∀ (hp : Heap) (c₁ tk : Nat), (∀ b o, b ≠ SA → h4.get? b = some o → hp.get? b = some o) → hp.get? SA = some { cls := .type "list", data := .seq #[] c₁ } →
      codeAny (model prog w) A.in1 (.builtin "list.extend.loop" ⟨[.ref SA, .ref I, .none], []⟩) (wants (fun r s₂ => r = Value.none ∧ Q (Value.ref SA) s₂) E) { s with heap := hp, toks := tk } := by
    intro hp c₁ tk hk hS₁
    have Wk := (Walks.dictKeys (knd := knd w) (A := A.in1.in1) hh I b.c.d1 hId.symm kvs ep).toS
    refine codeAny_extend_loopS Wk (by rw [sizeLine_eq]; omega) SA (by simp only [List.mem_cons, List.not_mem_nil, or_false, not_or]; exact ⟨hSI, hSd⟩) .none kvs.length 0 _ #[] c₁ rfl (Nat.zero_le _) ⟨hit.at (hk _ _ hSI.symm (N4 (I, oI) (by simp)).1), hat.dictAt (hk _ _ hSd.symm (N4 (b.c.d1, o1) (by simp [hm1])).1)⟩ hS₁ (ItemsOf.nil _) fun s' acc' c' hm hS' hacc => ?_
    rw [Moved.eq_with hm]
    have hk2 : ∀ b o, b ≠ SA → b ≠ I → h4.get? b = some o → s'.heap.get? b = some o := fun b o b1 b2 e => hm.heap b o (by simp [b1, b2]) (hk b o b1 e)
    refine ⟨rfl, h s'.heap s'.toks SA c' acc'.toList (kvs.map (·.1)) all' ?_ ?_ S3 oS' hpm (by rw [List.length_map, Array.length_toList]; exact hacc.1) fun j v e => ?_⟩
    · obtain ⟨oL, es, ep, hL, hLd, hLk, hLf⟩ := F4.ns
      have z1 := N4 (I, oI) (by simp)
      have z2 := N4 (SA, W.listOf #[] c₀) (by simp)
      refine ⟨⟨oL, es, ep, hk2 _ _ (fun e => z2.2.1 e.symm) (fun e => z1.2.1 e.symm) hL, hLd, hLk, hLf⟩, fun b o e => hk2 b o (fun e' => ?_) (fun e' => ?_) (F4.keep b o e), F4.above⟩
      · have := z2.2.2; rw [← e', e] at this; cases this
      · have := z1.2.2; rw [← e', e] at this; cases this
    · intro p hp
      have z2 := N4 (SA, W.listOf #[] c₀) (by simp)
      rcases List.mem_cons.mp hp with rfl | hp
      · exact ⟨by simpa using hS', z2.2⟩
      · have z := N4 p (List.mem_cons_of_mem _ (List.mem_cons_of_mem _ hp))
        exact ⟨hk2 _ _ (oS' p hp) (oI3 p (List.mem_cons_of_mem _ hp)) z.1, z.2⟩
    · obtain ⟨k, x, e1, e2⟩ := hacc.2 j v (by rw [← Array.getElem?_toList]; exact e)
      exact ⟨k, by rw [List.getElem?_map, e1]; rfl, e2⟩
  have hS4 := (N4 (SA, W.listOf #[] c₀) (by simp)).1
  refine wpAny_ite_split (fun _ => ?_) (fun _ => wpAny_pure ⟨plainId_quiet PySem.F.plain_extend_loop _, key h4 c₀ _ (fun b o _ e => e) hS4⟩)
  refine wpAny_bind (wpAny_rule ?_)
  refine wpAny_bind ?_
  show wpAny _ _ (updateSeq SA (·.push .none) >>= fun _ => updateSeq SA (·.pop)) _ _ _
  refine wpAny_bind (wpAny_updateSeq hS4 rfl ?_)
  have hS5 := Heap.get?_update_self (Obj.mapSeq (·.push Value.none)) hS4 rfl
  refine wpAny_updateSeq (hz := by seq_fits) hS5 rfl ?_
  have hS6 := Heap.get?_update_self (Obj.mapSeq (·.pop)) hS5 rfl
  exact wpAny_pure ⟨plainId_quiet PySem.F.plain_extend_loop _, key _ _ _ (fun b o hb e => (Heap.get?_update_other _ _ (Ne.symm hb)).trans ((Heap.get?_update_other _ _ (Ne.symm hb)).trans e)) hS6⟩
end
end Mine
end
section
open PySem PySem.W PySem.Spec PySem.Calls PyProof.Rows PyProof.Rows.LCg
set_option maxRecDepth 100000
namespace Mine
def pd (p : Str × Int) : PyData := .tuple [.str p.1, .int p.2]
theorem pd_eqv (p p' : Str × Int) : PyData.eqv (pd p) (pd p') = decide (p = p') := by
  obtain ⟨a, b⟩ := p
  obtain ⟨c, d⟩ := p'
  by_cases h1 : a = c <;> by_cases h2 : b = d <;> simp [pd, PyData.eqv, PyData.eqvAll, h1, h2]
theorem pds_eqv : ∀ r r' : Seg, PyData.eqvAll (r.map pd) (r'.map pd) = decide (r = r')
  | [], [] => by simp [PyData.eqvAll]
  | [], _ :: _ => by simp [PyData.eqvAll]
  | _ :: _, [] => by simp [PyData.eqvAll]
  | a :: r, b :: t => by
    simp only [List.map_cons, PyData.eqvAll, pd_eqv, pds_eqv r t]
    by_cases h : a = b <;> by_cases h' : r = t <;> simp [h, h']
theorem strs_eqv : ∀ r r' : List Str, PyData.eqvAll (r.map PyData.str) (r'.map PyData.str) = decide (r = r')
  | [], [] => by simp [PyData.eqvAll]
  | [], _ :: _ => by simp [PyData.eqvAll]
  | _ :: _, [] => by simp [PyData.eqvAll]
  | a :: r, b :: t => by
    simp only [List.map_cons, PyData.eqvAll, PyData.eqv, strs_eqv r t]
    by_cases h : a = b <;> by_cases h' : r = t <;> simp [h, h']
/-- names that a program can write -/
def NamesOk (ss : List Str) : Prop := ∀ x ∈ ss, PyData.strOk x = true
theorem NamesOk.perm {ss ss' : List Str} (h : NamesOk ss) (p : ss'.Perm ss) : NamesOk ss' := fun x hx => h x (p.mem_iff.mp hx)
theorem pd_lay (p : Str × Int) (hp : PyData.strOk p.1 = true) : (pd p).canLay0 = true ∧ (pd p).depth ≤ 1 := ⟨by simp [pd, PyData.canLay0, PyData.canLayAll0, hp], by simp [pd, PyData.depth, PyData.depthAll]⟩
theorem pds_lay : ∀ r : Seg, NamesOk (keys r) → PyData.canLayAll0 (r.map pd) = true ∧ PyData.depthAll (r.map pd) ≤ 1
  | [], _ => ⟨rfl, by simp [PyData.depthAll]⟩
  | a :: r, h => by
    have h1 := pd_lay a (h _ List.mem_cons_self)
    have h2 := pds_lay r fun x hx => h x (List.mem_cons_of_mem _ hx)
    simp only [List.map_cons, PyData.canLayAll0, PyData.depthAll, h1.1, h2.1]
    exact ⟨rfl, by omega⟩
theorem strs_lay : ∀ r : List Str, NamesOk r → PyData.canLayAll0 (r.map PyData.str) = true ∧ PyData.depthAll (r.map PyData.str) ≤ 1
  | [], _ => ⟨rfl, by simp [PyData.depthAll]⟩
  | a :: r, h => by
    have h1 := h _ List.mem_cons_self
    have h2 := strs_lay r fun x hx => h x (List.mem_cons_of_mem _ hx)
    simp only [List.map_cons, PyData.canLayAll0, PyData.depthAll, PyData.canLay0, PyData.depth, h2.1, h1]
    exact ⟨rfl, by omega⟩
theorem shaped_pd (p : Str × Int) (hp : PyData.strOk p.1 = true) : SeqAt.shaped (pd p) = true := by
  have h := pd_lay p hp
  unfold SeqAt.shaped; rw [h.1, Bool.true_and]; exact decide_eq_true (Nat.le_trans h.2 (by decide))
theorem shaped_pds (r : Seg) (hr : NamesOk (keys r)) : SeqAt.shaped (.list (r.map pd)) = true := by
  have h := pds_lay r hr
  unfold SeqAt.shaped; simp only [PyData.canLay0, PyData.depth, h.1, Bool.true_and]; exact decide_eq_true (Nat.le_trans (Nat.succ_le_succ h.2) (by decide))
theorem shaped_strs (r : List Str) (hr : NamesOk r) : SeqAt.shaped (.list (r.map PyData.str)) = true := by
  have h := strs_lay r hr
  unfold SeqAt.shaped; simp only [PyData.canLay0, PyData.depth, h.1, Bool.true_and]; exact decide_eq_true (Nat.le_trans (Nat.succ_le_succ h.2) (by decide))
theorem strs_of {prog : Program} {w : World} : ∀ {vs : List Value} {ks : List Str}, vs.length = ks.length → (∀ (j : Nat) (v : Value), vs[j]? = some v → ∃ k, ks[j]? = some k ∧ (PySem.strKind prog w).is k v = true) → StrsAre vs ks
  | [], [], _, _ => .nil
  | [], _ :: _, h, _ => by cases h
  | _ :: _, [], h, _ => by cases h
  | v :: vs, k :: ks, h, hv => by
    obtain ⟨k', e, hk⟩ := hv 0 v rfl
    obtain rfl : k = k' := by simpa using e
    obtain ⟨t, rfl⟩ := Value.isStrOf_shape hk
    exact .cons k t (strs_of (by simpa using h) fun j v hj => hv (j + 1) v (by simpa using hj))
section
variable {prog : Program} {w : World} {A : Around} {E : Value → Shared → Prop} {s : Shared} {h₀ : Heap} {L a b : Addr} {news all : List (Addr × Obj)} {rvs rvs' : List Value} {row row' : Seg} {ss ss' : List Str} {n n' : Nat} {p p' : Str × Int} {t u t' u' : Tok} {Q : Value → Shared → Prop}
theorem pd_reads {h : Heap} {T : Addr} (N : News h₀ L h news) (hm : (T, tupO p t u) ∈ news) : Reads h (.ref T) (pd p) [] :=
  reads_tuple_at (N.get hm) rfl rfl (.cons (as := []) (.str _ _) (.cons (as := []) (.int _ _) .nil))
theorem RowIs.tail {v : Value} (h : RowIs (v :: rvs) (p :: row) all) : RowIs rvs row all := ⟨by have := h.1; simpa using this, fun i v p hv hp => h.2 (i + 1) v p (by simpa using hv) (by simpa using hp)⟩
theorem RowIs.reads {h : Heap} (N : News h₀ L h news) (hs : ∀ p ∈ all, p ∈ news) : ∀ {rvs : List Value} {row : Seg}, RowIs rvs row all → ReadsAll h rvs (row.map pd) []
  | [], [], _ => .nil
  | [], _ :: _, h => by have := h.1; cases this
  | _ :: _, [], h => by have := h.1; cases this
  | v :: rvs, p :: row, h => by
    obtain ⟨T, t, u, rfl, hm⟩ := h.2 0 v p rfl rfl
    exact .cons (as := []) (pd_reads N (hs _ hm)) (RowIs.reads N hs h.tail)
theorem ne_rows (N : News h₀ L s.heap news) (hs : ∀ p ∈ all, p ∈ news) (ma : (a, W.listOf rvs.toArray n) ∈ news) (mb : (b, W.listOf rvs'.toArray n') ∈ news) (ha : RowIs rvs row all) (hb : RowIs rvs' row' all) (oa : NamesOk (keys row)) (ob : NamesOk (keys row')) (hu : A.units + 64 < cLine) (h : Q (.bool (!decide (row = row'))) s) :
    wpAny (model prog w) A (compareOp .NotEq (.ref a) (.ref b)) Q E s :=
  ne_dataH (reads_list_at (N.get ma) rfl rfl (by simpa using ha.reads N hs)) (reads_list_at (N.get mb) rfl rfl (by simpa using hb.reads N hs)) (shaped_pds _ oa) (shaped_pds _ ob) hu (by simp only [PyData.eqv, pds_eqv]; exact h)
theorem ne_strs (N : News h₀ L s.heap news) (ma : (a, W.listOf rvs.toArray n) ∈ news) (mb : (b, W.listOf rvs'.toArray n') ∈ news) (ha : StrsAre rvs ss) (hb : StrsAre rvs' ss') (oa : NamesOk ss) (ob : NamesOk ss') (hu : A.units + 64 < cLine) (h : Q (.bool (!decide (ss = ss'))) s) :
    wpAny (model prog w) A (compareOp .NotEq (.ref a) (.ref b)) Q E s :=
  ne_dataH (reads_list_at (N.get ma) rfl rfl (by simpa using ha.reads s.heap)) (reads_list_at (N.get mb) rfl rfl (by simpa using hb.reads s.heap)) (shaped_strs _ oa) (shaped_strs _ ob) hu (by simp only [PyData.eqv, strs_eqv]; exact h)
theorem ne_pairs (N : News h₀ L s.heap news) (ma : (a, tupO p t u) ∈ news) (mb : (b, tupO p' t' u') ∈ news) (oa : PyData.strOk p.1 = true) (ob : PyData.strOk p'.1 = true) (hu : A.units + 64 < cLine) (h : Q (.bool (!decide (p = p'))) s) :
    wpAny (model prog w) A (compareOp .NotEq (.ref a) (.ref b)) Q E s :=
  ne_dataH (pd_reads N ma) (pd_reads N mb) (shaped_pd _ oa) (shaped_pd _ ob) hu (by rw [pd_eqv]; exact h)
end
end Mine
end
section
open PySem PySem.W PySem.Spec PySem.Calls PyProof.Rows PyProof.Rows.LCg
set_option maxRecDepth 100000
namespace Mine
section
variable {prog : Program} {w : World} {knd : PySem.KeyKind prog w Str} {C : Addr} {on : Str} {h₀ h : Heap} {L : Addr} {m : Str → Option Value} {σ : LSt} {news : List (Addr × Obj)}
theorem Lq.notCell {T : Addr} {o : Obj} (S : Lq w knd C on L m σ) (N : News h₀ L h news) (hs : ∀ p ∈ cel5 L σ, p ∈ news) (ht : (T, o) ∈ news) (no : ∀ v, o.data ≠ .cell v) : NotCell L T := by
  obtain ⟨v4, d4⟩ := S.d4
  obtain ⟨v5, d5⟩ := S.d5
  have go : ∀ (a : Addr) (oc : Obj) v, (a, oc) ∈ cel5 L σ → oc.data = .cell v → @Ne Nat T a := fun a oc v hm hd e => by
    have z1 := (N (T, o) ht).1
    have z2 := (N (a, oc) (hs _ hm)).1
    dsimp only at z1 z2
    rw [e, z2] at z1
    exact no v (by rw [← Option.some.inj z1]; exact hd)
  exact ⟨go _ _ _ (by simp) S.d1, go _ _ _ (by simp) S.d2, go _ _ _ (by simp) S.d3, go _ _ _ (by simp) d4, go _ _ _ (by simp) d5⟩
end
theorem mem5 {a b c d e x : Addr × Obj} {l : List (Addr × Obj)} (h : x ∈ l) : x ∈ a :: b :: c :: d :: e :: l := List.mem_cons_of_mem _ (List.mem_cons_of_mem _ (List.mem_cons_of_mem _ (List.mem_cons_of_mem _ (List.mem_cons_of_mem _ h))))
def tstS : Stmt → PySem.Expr
  | .If t _ _ _ => t
  | .Return (some e) _ => e
  | .For _ e _ _ _ => e
  | .Assign _ e _ => e
  | _ => .Constant .none 0 default
theorem q_eq {α : Type} {Q : Bool → α → Prop} {a b : Bool} {x : α} (h : Q a x) (e : a = b) : Q b x := e ▸ h
theorem exec_if {M : Model} {A : Around} {E : Value → Shared → Prop} {s : Shared} {env : Env} {st : Stmt} {Q : Flow → Shared → Prop} (hs : ∃ t b o p, st = .If t b o p)
    (h : wpAny M A (isTrue (tstS st) env (eval (tstS st) env)) (fun b s₂ => if b then wpAny M A (execs (subS st) env) Q E s₂ else wpAny M A (execs (elsS st) env) Q E s₂) E s) : wpAny M A (exec st env) Q E s := by
  obtain ⟨t, b, o, p, rfl⟩ := hs
  exact wpAny_If h
/-- which caches hold something -/
def livAt (cs : List Cell) (j : Nat) : Bool := (cs[j]?.map fun b => decide (b.seg ≠ [])).getD false
def livs (cs : List Cell) (i : Nat) : List Nat := (List.range i).filter (livAt cs)
theorem livs_succ (cs : List Cell) (i : Nat) : livs cs (i + 1) = livs cs i ++ if livAt cs i = true then [i] else [] := by
  unfold livs
  rw [List.range_succ, List.filter_append]
  congr 1
  by_cases h : livAt cs i = true <;> simp [h]
/-- all the caches' room -/
def mxs (cs : List Cell) : Int := (cs.map fun b => b.c.mx).sum
theorem item_last {prog : Program} {w : World} {A : Around} {E : Value → Shared → Prop} {s : Shared} {h₀ : Heap} {L a : Addr} {news all : List (Addr × Obj)} {value slice : PySem.Expr} {rvs : List Value} {row' : Seg} {y : Str × Int} {n : Nat} {u : Tok} {Q : Value → Shared → Prop} (N : News h₀ L s.heap news) (hm : (a, W.listOf rvs.toArray n) ∈ news) (hR : RowIs rvs (row' ++ [y]) all) (hl : (row' ++ [y]).length ≤ 12) (h : ∀ T t u', (T, tupO y t u') ∈ all → Q (.ref T) s)
    (hs : subscripted slice false (.ref a) (.int (-1) u) = operate [.ref a, .int (-1) u] (getItem (.ref a) (.int (-1) u)) := by with_unfolding_all rfl) (hg : ∀ r, letTemporaryGo value (.ref a) r = pure () := by intro _; with_unfolding_all rfl) :
    wpAny (model prog w) A (subscriptTail value slice (.ref a) (.int (-1) u)) Q E s := by
  have hlen := hR.1
  rw [List.length_append, List.length_singleton] at hlen hl
  have hlt : row'.length < rvs.length := by omega
  obtain ⟨T, t, u', e, hT⟩ := hR.2 row'.length rvs[row'.length] y (by simp) (by simp)
  have hi : rvs.toArray[((-1 : Int) + (rvs.toArray.size : Int)).toNat]? = some (.ref T) := by
    have : ((-1 : Int) + (rvs.toArray.size : Int)).toNat = row'.length := by rw [List.size_toArray]; omega
    rw [this]
    simp [hlt, e]
  exact subscriptTail_builtin (News.isList N hm).typeIs slot_list_getitem.lookup (wpAny_getItem_list_neg (News.isList N hm) (by decide) (by rw [List.size_toArray]; omega) (by decide) hi (h T t u' hT)) hs hg
theorem pick_from (l : List Value) {x : Int} (h : 0 ≤ x) : kms_pick l (some x) none = l.drop x.toNat := by
  unfold kms_pick kms_lo kms_hi
  simp only [if_neg (show ¬ x < 0 by omega)]
  rw [kmk_drop_min]
  exact List.take_of_length_le (by rw [List.length_drop]; omega)
theorem pick_upto (l : List Value) {x : Int} (h : 0 ≤ x) : kms_pick l none (some x) = l.take x.toNat := by
  unfold kms_pick kms_lo kms_hi
  simp only [if_neg (show ¬ x < 0 by omega), List.drop_zero, Nat.sub_zero]
  exact kmk_take_min ..
theorem pick_init (l : List Value) : kms_pick l none (some (-1)) = l.take (l.length - 1) := by
  unfold kms_pick kms_lo kms_hi
  simp
theorem RowIs.take {rvs : List Value} {row : Seg} {all : List (Addr × Obj)} (h : RowIs rvs row all) (n : Nat) : RowIs (rvs.take n) (row.take n) all := by
  refine ⟨by simp [h.1], fun i v p hv hp => ?_⟩
  rw [List.getElem?_take] at hv hp
  split at hv
  · rename_i hi
    rw [if_pos hi] at hp
    exact h.2 i v p hv hp
  · cases hv
theorem RowIs.drop {rvs : List Value} {row : Seg} {all : List (Addr × Obj)} (h : RowIs rvs row all) (n : Nat) : RowIs (rvs.drop n) (row.drop n) all := by
  refine ⟨by simp [h.1], fun i v p hv hp => ?_⟩
  rw [List.getElem?_drop] at hv hp
  exact h.2 _ v p hv hp
theorem RowIs.rev {rvs : List Value} {row : Seg} {all : List (Addr × Obj)} (h : RowIs rvs row all) : RowIs rvs.reverse row.reverse all := by
  refine ⟨by simp [h.1], fun i v p hv hp => ?_⟩
  have hi := (List.getElem?_eq_some_iff.mp hv).1
  have hj := (List.getElem?_eq_some_iff.mp hp).1
  rw [List.length_reverse] at hi hj
  rw [List.getElem?_reverse hi] at hv
  rw [List.getElem?_reverse hj] at hp
  rw [h.1] at hv
  exact h.2 _ v p hv hp
end Mine
end
section
open PySem PySem.W PySem.Spec PySem.Calls PyProof.Rows PyProof.Rows.LCg
set_option maxRecDepth 100000
namespace Mine
section
variable {prog : Program} {w : World} {A : Around} {s₂ : Shared} {h₀ : Heap} {L : Addr} {m : Str → Option Value} {env : Env} {gens : List Comprehension} {scope : Scope} {cl : List (Str × Addr)} {pos : Pos} {y : Str} {py pe : Pos} {iter2 : PySem.Expr}
variable {I J C D : Addr} {oI : Obj} {fp4 : List Addr} {n4 : Nat} {P4 : Nat → Value → Prop} {St4 : Nat → Heap → Prop} {news4 : List (Addr × Obj)} {ys : List Value} {R : Result → Shared → Prop} {h : Heap} {tk : Nat} {m' : Str → Option Value}
/-- the inner loop of `[y for x in .. for y in ..]` -/
theorem inner_loop (hg : gens[1]? = some ⟨.Name y py, iter2, [], 0⟩) (hl : gens[2]? = none) (hkind : scope.kind = .function) (hy : scope.names.lookup y = some .local) (hdb : (y == ("__debug__" : Str)) = false)
    (W : Walks prog w A J fp4 [J] n4 P4 St4) (hsz : ys.length + n4 ≤ sizeLine)
    (hCL : C ≠ L) (hDL : D ≠ L) (hJL : L ≠ J) (hC₀ : h₀.get? C = none) (hD₀ : h₀.get? D = none) (hJ₀ : h₀.get? J = none)
    (hIC : @Ne Nat I C) (hID : @Ne Nat I D) (hCD : @Ne Nat C D) (hIJ : @Ne Nat I J) (hJC : @Ne Nat J C) (hJD : @Ne Nat J D) (fpC : ∀ b ∈ fp4, @Ne Nat b C) (fpD : ∀ b ∈ fp4, @Ne Nat b D)
    (off : ∀ p ∈ news4, (@Ne Nat p.1 C) ∧ (@Ne Nat p.1 D) ∧ (@Ne Nat p.1 J))
    (hst : St4 0 h) (F : Fr h₀ L h m) (hn : h.Ns C m') (N : News h₀ L h ((I, oI) :: (D, lst ys) :: news4))
    (k : ∀ h' tk' m'' vs, vs.length = n4 → (∀ (j : Nat) (v : Value), vs[j]? = some v → P4 j v) → Fr h₀ L h' m → h'.Ns C m'' → News h₀ L h' ((I, oI) :: (D, lst (ys ++ vs)) :: news4) → R (.ok .next) { s₂ with heap := h', toks := tk' }) :
    codeAny (model prog w) A (.compLoop (.ListComp (.Name y pe) gens scope pos) 1 (.ref J) (.ref D) (compEnvC scope cl C env)) R { s₂ with heap := h, toks := tk } := by
  refine clause_last (g := ⟨.Name y py, iter2, [], 0⟩) hg rfl hl
    (fun k s' => ∃ h' tk j vs m'', s' = { s₂ with heap := h', toks := tk } ∧ j ≤ n4 ∧ k = n4 + 1 - j ∧ vs.length = j ∧ (∀ (i : Nat) (v : Value), vs[i]? = some v → P4 i v) ∧ St4 j h' ∧ Fr h₀ L h' m ∧ h'.Ns C m'' ∧ News h₀ L h' ((I, oI) :: (D, lst (ys ++ vs)) :: news4)) ?_ (n4 + 1)
    ⟨h, tk, 0, [], m', rfl, Nat.zero_le _, rfl, rfl, fun i v e => by simp at e, hst, F, hn, by simpa using N⟩
  rintro k' s' ⟨h', tk', j, vs, m'', rfl, hj, rfl, hvl, hP, hst', F', hn', N'⟩
  by_cases hlt : j < n4
  · refine W.item j _ _ _ hlt hst' fun v h₂ tk₂ hPv hst₂ hk₂ => ?_
    have hk : ∀ b o, @Ne Nat b J → h'.get? b = some o → h₂.get? b = some o := fun b o hb e => hk₂ b o (by simpa using hb) e
    have hn₂ : h₂.Ns C m'' := hn'.at' fun o e => hk _ o hJC.symm e
    have F₂ : Fr h₀ L h₂ m := fr_but F' hk₂ hJL hJ₀
    refine wpAny_of_eq (show letOwnedTupleGo (.Name y py) (.ref J) v = pure () from rfl) ?_
    refine wpAny_assign_Name (wpAny_storeName_local (lookup_relabel_local hy) hn₂ (fun h₃ hn₃ hs₃ => ?_) (by simp [compEnvC, relabel, hkind]))
    refine wpAny_tests_nil ?_
    rw [if_pos rfl]
    refine wpAny_Name (wpAny_loadName_local (v := v) (by simp [compEnvC, relabel, hkind]) (lookup_relabel_local hy) hn₃ (by simp) ?_) hdb
    have zI := N' (I, oI) (by simp)
    have zD := N' (D, lst (ys ++ vs)) (by simp)
    have zD₃ : h₃.get? D = some (lst (ys ++ vs)) := hs₃.extBut _ _ hCD.symm (hk _ _ hJD.symm zD.1)
    refine append_at (hsz := by show (ys ++ vs).toArray.size ≤ sizeLine; rw [List.size_toArray, List.length_append]; omega) zD₃ fun h₆ hs₆ hD₆ => ?_
    have up : ∀ b o, @Ne Nat b J → @Ne Nat b C → @Ne Nat b D → h'.get? b = some o → h₆.get? b = some o := fun b o b1 b2 b3 e => hs₆.extBut _ _ b3 (hs₃.extBut _ _ b2 (hk _ _ b1 e))
    have up₀ : ∀ b o, h₀.get? b = some o → @Ne Nat b C ∧ @Ne Nat b D ∧ @Ne Nat b J := fun b o e => ⟨fun z => (by rw [z, hC₀] at e; cases e), fun z => (by rw [z, hD₀] at e; cases e), fun z => (by rw [z, hJ₀] at e; cases e)⟩
    refine ⟨n4 + 1 - (j + 1), by omega, h₆, _, j + 1, vs ++ [v], _, rfl, hlt, rfl, by rw [List.length_append, hvl]; rfl, fun i u e => ?_, W.frame _ _ _ hst₂ fun b hb o e => hs₆.extBut _ _ (fpD b hb) (hs₃.extBut _ _ (fpC b hb) e),
      ⟨(F₂.ns.at' fun o e => hs₆.extBut _ _ (Ne.symm hDL) (hs₃.extBut _ _ (Ne.symm hCL) e)), fun b o e => up b o (up₀ b o e).2.2 (up₀ b o e).1 (up₀ b o e).2.1 (F'.keep b o e), F'.above⟩, hn₃.sameBut hs₆ (Ne.symm (show @Ne Nat D C from hCD.symm)), fun p hp => ?_⟩
    · by_cases hi : i < vs.length
      · rw [List.getElem?_append_left hi] at e
        exact hP i u e
      · have hi' : i = vs.length := by
          have := (List.getElem?_eq_some_iff.mp e).1
          simp at this; omega
        subst hi'
        rw [List.getElem?_concat_length] at e
        cases e
        rw [hvl]; exact hPv
    · rcases List.mem_cons.mp hp with rfl | hp
      · exact ⟨up _ _ hIJ hIC hID zI.1, zI.2⟩
      · rcases List.mem_cons.mp hp with rfl | hp
        · exact ⟨by rw [← List.append_assoc]; exact hD₆.trans (congrArg some (lst_snoc (ys ++ vs) v)), zD.2⟩
        · have z := N' p (by simp [hp])
          have o := off p hp
          exact ⟨up _ _ o.2.2 o.1 o.2.1 z.1, z.2⟩
  · obtain rfl : j = n4 := Nat.le_antisymm hj (Nat.not_lt.mp hlt)
    refine W.done _ _ _ hst' fun h₂ tk₂ hk₂ => ?_
    have hk : ∀ b o, @Ne Nat b J → h'.get? b = some o → h₂.get? b = some o := fun b o hb e => hk₂ b o (by simpa using hb) e
    exact k h₂ tk₂ m'' vs hvl hP (fr_but F' hk₂ hJL hJ₀) (hn'.at' fun o e => hk _ o hJC.symm e) fun p hp => by
      have z := N' p hp
      refine ⟨hk _ _ ?_ z.1, z.2⟩
      rcases List.mem_cons.mp hp with rfl | hp
      · exact hIJ
      · rcases List.mem_cons.mp hp with rfl | hp
        · exact hJD.symm
        · exact (off p hp).2.2
end
end Mine
end
section
open PySem PySem.W PySem.Spec PySem.Calls PyProof.Rows PyProof.Rows.LCg
set_option maxRecDepth 100000
namespace Mine
section
variable (prog : Program) (w : World) (A : Around) (h₀ : Heap) (L : Addr) (m : Str → Option Value) (env : Env) (iter2 : PySem.Expr) (x : Str) (scope : Scope) (cl : List (Str × Addr)) (s₂ : Shared) (ax : Addr) (its : Array Value) (Inv : Nat → List Value → List (Addr × Obj) → Prop)
/-- what an inner clause walks over -/
def InnerAt (i : Nat) (I : Addr) (oI : Obj) (C : Addr) (oC : Obj) (D : Addr) (ys : List Value) (it' : Value) (s₄ : Shared) : Prop :=
  ∃ (J : Addr) (oJ : Obj) (h4 : Heap) (tk4 : Nat) (news4 : List (Addr × Obj)) (n4 : Nat) (fp4 : List Addr) (P4 : Nat → Value → Prop) (St4 : Nat → Heap → Prop), it' = .ref J ∧ s₄ = { s₂ with heap := h4, toks := tk4 } ∧ Fr h₀ L h4 m ∧ News h₀ L h4 ((J, oJ) :: (I, oI) :: (C, oC) :: (D, lst ys) :: news4) ∧
    ((@Ne Nat J I) ∧ (@Ne Nat J C) ∧ (@Ne Nat J D)) ∧ Off J news4 ∧ Off3 I C D news4 ∧ SrcAt h₀ ax its news4 ∧ Walks prog w A J fp4 [J] n4 P4 St4 ∧ St4 0 h4 ∧ (∀ b ∈ fp4, (@Ne Nat b C) ∧ (@Ne Nat b D)) ∧ ys.length + n4 ≤ sizeLine ∧
    (∀ vs, vs.length = n4 → (∀ (j : Nat) (v : Value), vs[j]? = some v → P4 j v) → Inv (i + 1) (ys ++ vs) news4)
def NStep : Prop := ∀ i ys news v, i < its.size → Inv i ys news → its[i]? = some v → ∀ I oI C oC D m₂ h tk (E' : Value → Shared → Prop), NsObj oC m₂ → m₂ x = some v → Fr h₀ L h m → News h₀ L h ((I, oI) :: (C, oC) :: (D, lst ys) :: news) → Off3 I C D news → ((@Ne Nat I C) ∧ (@Ne Nat I D) ∧ (@Ne Nat C D)) →
      wpAny (model prog w) A (eval iter2 (compEnvC scope cl C env)) (fun xv s₃ => wpAny (model prog w) A (pyIter xv) (InnerAt prog w A h₀ L m s₂ ax its Inv i I oI C oC D ys) E' s₃) E' { s₂ with heap := h, toks := tk }
def NSrc (Fin : Shared → List Value → List (Addr × Obj) → Prop) (xv : Value) (s : Shared) : Prop :=
  ∃ ax its news Inv, xv = .ref ax ∧ A.handled = none ∧ Fr h₀ L s.heap m ∧ News h₀ L s.heap news ∧ SrcAt h₀ ax its news ∧ its.size ≤ sizeLine ∧ Inv 0 [] news ∧ (∀ ys news, Inv its.size ys news → Fin s ys news) ∧ NStep prog w A h₀ L m env iter2 x scope cl s ax its Inv
end
section
variable {prog : Program} {w : World} {A : Around} {E : Value → Shared → Prop} {s : Shared} {h₀ : Heap} {L : Addr} {m : Str → Option Value} {env : Env} {iter1 iter2 : PySem.Expr} {scope : Scope} {cl : List (Str × Addr)} {pos : Pos} {x y : Str} {px py pe : Pos}
theorem nest_src {use : Option (Value → Sem Unit)} {Q : Value → Shared → Prop} {Fin : Shared → List Value → List (Addr × Obj) → Prop} (hcell : ∀ y ∈ scope.names, y.2 ≠ .cell) (hkind : scope.kind = .function) (hx : scope.names.lookup x = some .local) (hy : scope.names.lookup y = some .local) (hdb : (y == ("__debug__" : Str)) = false) (hfold : ∀ e x, foldedSetIterable iter2 e x = pure x)
    {xv : Value} (h : NSrc prog w A h₀ L m env iter2 x scope cl Fin xv s)
    (hp : ∀ D C h tk m' ys news', Fr h₀ L h m → News h₀ L h ((D, lst ys) :: news') → Off1 D news' → h.Ns C m' → h₀.get? C = none → h₀.get? D = none → C ≠ L → D ≠ L → C ≠ D → (∀ p ∈ news', p.1 ≠ C) → Fin s ys news' → compPost (model prog w) A E use Q (.ref D) C (.ok .next) { s with heap := h, toks := tk }) :
    wpAny (model prog w) A (pyIter xv) (fun it s₂ => wpAny (model prog w) A (newList []) (fun acc s₃ => wpAny (model prog w) A (newFunctionEnv scope env.globals cl [] env.qual none .none (some env)) (fun cenv s₄ =>
      codeAny (model prog w) A (.compStart (.ListComp (.Name y pe) [⟨.Name x px, iter1, [], 0⟩, ⟨.Name y py, iter2, [], 0⟩] scope pos) 0 it acc { cenv with scope := relabel scope env }) (compPost (model prog w) A E use Q acc cenv.locals) s₄) E s₃) E s₂) E s := by
  obtain ⟨ax, its, news, Inv, rfl, hh, F, N, S, hsz, h0, fin, st⟩ := h
  have hl := S.list F.keep N
  have hlt : ax < s.heap.objs.size := by obtain ⟨_, e, _⟩ := hl; exact Heap.lt_size e
  refine wpAny_pyIter_list hl ?_
  have W := Walks.list (prog := prog) (w := w) hh s.heap.objs.size ax (Nat.ne_of_lt hlt) its
  have hI1 : (s.heap.push { cls := .type "list_iterator", data := .fields #[.ref ax, .int 0 0] }).get? s.heap.objs.size = some { cls := .type "list_iterator", data := .fields #[.ref ax, .int 0 0] } := Heap.get?_push_size _ rfl
  have up : ∀ b o, s.heap.get? b = some o → (s.heap.push { cls := .type "list_iterator", data := .fields #[.ref ax, .int 0 0] }).get? b = some o := fun b o e => Heap.get?_push_of_some _ e
  have hst0 : (s.heap.push { cls := .type "list_iterator", data := .fields #[.ref ax, .int 0 0] }).IsListIter s.heap.objs.size ax 0 ∧ (s.heap.push { cls := .type "list_iterator", data := .fields #[.ref ax, .int 0 0] }).IsList ax its := ⟨⟨_, hI1, rfl, rfl⟩, hl.push _⟩
  have hIL : L ≠ s.heap.objs.size := Nat.ne_of_lt F.ns.lt
  have hI₀ : h₀.get? s.heap.objs.size = none := next_is_new F
  have offI : ∀ p ∈ news, p.1 ≠ s.heap.objs.size := fun p hp => Nat.ne_of_lt (Heap.lt_size (N p hp).1)
  have F1 := F.keeps up
  have N1 := N.grown up
  have hIs : s.heap.objs.size < (s.heap.push { cls := .type "list_iterator", data := .fields #[.ref ax, .int 0 0] }).objs.size := Heap.lt_size hI1
  generalize s.heap.push { cls := .type "list_iterator", data := .fields #[.ref ax, .int 0 0] } = hp1 at *
  generalize s.heap.objs.size = I at *
  clear N F hl hI1 up
  refine wpAny_newObj_type (wpAny_newFunctionEnv hcell (by intro y hy; simp at hy) (fun h₁ hns₁ hsb₁ => ?_) hkind)
  dsimp only at hns₁ hsb₁ ⊢
  generalize hH2 : hp1.push { cls := .type "list", dict := none, data := .seq ([] : List Value).toArray } = H2 at hns₁ hsb₁ ⊢
  have hC : H2.objs.size = hp1.objs.size + 1 := by rw [← hH2, Heap.size_push]
  have neDC : hp1.objs.size ≠ H2.objs.size := by rw [hC]; exact Nat.ne_of_lt (Nat.lt_succ_self _)
  have lowC : ∀ b, b < hp1.objs.size → b ≠ H2.objs.size := fun b hb => by rw [hC]; exact Nat.ne_of_lt (Nat.lt_succ_of_lt hb)
  have old : ∀ b o, hp1.get? b = some o → h₁.get? b = some o := fun b o e => hsb₁.extBut b o (lowC b (Heap.lt_size e)) (Heap.get?_push_of_some _ (hH2 ▸ Heap.get?_push_of_some _ e))
  have hacc : h₁.get? hp1.objs.size = some (lst []) := hsb₁.extBut _ _ neDC (Heap.get?_push_of_some _ (hH2 ▸ Heap.get?_push_size _ rfl))
  have un₀ : ∀ a, hp1.objs.size ≤ a → h₀.get? a = none := fun a ha => by
    cases e : h₀.get? a with
    | none => rfl
    | some o' => exact absurd (Heap.lt_size (F1.keep a o' e)) (Nat.not_lt.mpr ha)
  have hD₀ := un₀ hp1.objs.size (Nat.le_refl _)
  have hC₀ := un₀ H2.objs.size (by rw [hC]; exact Nat.le_succ _)
  have hLlt : L < hp1.objs.size := F1.ns.lt
  have hDL : hp1.objs.size ≠ L := Nat.ne_of_gt hLlt
  have hCL : H2.objs.size ≠ L := Ne.symm (lowC L hLlt)
  have hIC : I ≠ H2.objs.size := lowC I hIs
  have hID : I ≠ hp1.objs.size := Nat.ne_of_lt hIs
  have off₀ : Off3 I H2.objs.size hp1.objs.size news := Off3.of fun p hp => ⟨offI p hp, lowC _ (Heap.lt_size (N1 p hp).1), Nat.ne_of_lt (Heap.lt_size (N1 p hp).1)⟩
  generalize hp1.objs.size = D at *
  generalize H2.objs.size = C at *
  have hmk : A.mark none = A := rfl
  have loop : ∀ s₃ : Shared, (∃ tk, s₃ = { s with heap := h₁, toks := tk }) →
      codeAny (model prog w) A (.compLoop (.ListComp (.Name y pe) [⟨.Name x px, iter1, [], 0⟩, ⟨.Name y py, iter2, [], 0⟩] scope pos) 0 (.ref I) (.ref D) (compEnvC scope cl C env)) (compPost (model prog w) A E use Q (.ref D) C) s₃ := by
    rintro s₃ ⟨tk0, rfl⟩
    refine clause_more (g := ⟨.Name x px, iter1, [], 0⟩) (g' := ⟨.Name y py, iter2, [], 0⟩) rfl rfl rfl rfl rfl
      (fun k s' => ∃ h' tk i ys m' news', s' = { s with heap := h', toks := tk } ∧ i ≤ its.size ∧ k = its.size + 1 - i ∧ (h'.IsListIter I ax i ∧ h'.IsList ax its) ∧ Fr h₀ L h' m ∧ h'.Ns C m' ∧ News h₀ L h' ((D, lst ys) :: news') ∧
        Off3 I C D news' ∧ SrcAt h₀ ax its news' ∧ Inv i ys news') (fun x => hfold _ x) ?_ (its.size + 1)
      ⟨h₁, tk0, 0, [], _, news, rfl, Nat.zero_le _, rfl, W.frame _ _ _ hst0 fun b _ o e => old b o e, F1.keeps old, hns₁, fun p hp => ?_, off₀, S, h0⟩
    · rintro k s' ⟨h', tk, i, ys, m', news', rfl, hi, rfl, hst', F', hn', N', off', hS', J⟩
      have off3 := off'.mem
      by_cases hlt : i < its.size
      · refine W.item i _ _ _ hlt hst' fun v h₂ tk₂ hPv hst₂ hk₂ => ?_
        obtain ⟨oI, heI, _⟩ := id hst₂.1
        have hn₂ : h₂.Ns C m' := hn'.at' fun o e => hk₂ _ o (by simpa using Ne.symm hIC) e
        have F₂ : Fr h₀ L h₂ m := fr_but F' hk₂ hIL hI₀
        have N₂ : News h₀ L h₂ ((D, lst ys) :: news') := news_but N' hk₂ fun p hp => by
          rcases List.mem_cons.mp hp with rfl | hp
          · exact Ne.symm hID
          · exact (off3 p hp).1
        refine wpAny_of_eq (show letOwnedTupleGo (.Name x px) (.ref I) v = pure () from rfl) ?_
        refine wpAny_assign_Name (wpAny_storeName_local (lookup_relabel_local hx) hn₂ (fun h₃ hn₃ hs₃ => ?_) (by simp [compEnvC, relabel, hkind]))
        have hx₃ : Heap.ExtBut C h₂ h₃ := hs₃.extBut
        obtain ⟨oC₃, heC₃, hoC₃⟩ := ns_obj hn₃
        have F₃ : Fr h₀ L h₃ m := ⟨F₂.ns.at' fun o e => hx₃ _ o (Ne.symm hCL) e, fun b o e => hx₃ b o (fun q => by rw [q, hC₀] at e; cases e) (F₂.keep b o e), F₂.above⟩
        have N₃ : News h₀ L h₃ ((I, oI) :: (C, oC₃) :: (D, lst ys) :: news') := fun p hp => by
          rcases List.mem_cons.mp hp with rfl | hp
          · exact ⟨hx₃ _ _ hIC heI, Ne.symm hIL, hI₀⟩
          · rcases List.mem_cons.mp hp with rfl | hp
            · exact ⟨heC₃, hCL, hC₀⟩
            · refine ⟨hx₃ _ _ ?_ (N₂ p hp).1, (N₂ p hp).2⟩
              rcases List.mem_cons.mp hp with rfl | hp
              · exact neDC
              · exact (off3 p hp).2.1
        refine wpAny_mono (st i ys news' v hlt J hPv I oI C oC₃ D _ h₃ _ _ hoC₃ (by simp) F₃ N₃ off' ⟨hIC, hID, Ne.symm neDC⟩) (fun xv s₄ h₄ => wpAny_mono h₄ (fun it' s₅ h₅ => ?_) fun _ _ e => e) fun _ _ e => e
        obtain ⟨J4, oJ, h4, tk4, news4, n4, fp4, P4, St4, rfl, rfl, F4, N4, ⟨nJI, nJC, nJD⟩, offJ, off4, hS4, W4, hst4, hfp, hsz4, inv4⟩ := h₅
        rw [hmk]
        have zC := N4 (C, oC₃) (by simp)
        have zI := N4 (I, oI) (by simp)
        have zJ := N4 (J4, oJ) (by simp)
        have inner : ∀ tk', codeAny (model prog w) A (.compLoop (.ListComp (.Name y pe) [⟨.Name x px, iter1, [], 0⟩, ⟨.Name y py, iter2, [], 0⟩] scope pos) 1 (.ref J4) (.ref D) (compEnvC scope cl C env))
            (fun r s' => match r with
              | .ok _ => ∃ m_1, m_1 < its.size + 1 - i ∧ (∃ h' tk i ys m' news', s' = { s with heap := h', toks := tk } ∧ i ≤ its.size ∧ m_1 = its.size + 1 - i ∧ (h'.IsListIter I ax i ∧ h'.IsList ax its) ∧ Fr h₀ L h' m ∧ h'.Ns C m' ∧ News h₀ L h' ((D, lst ys) :: news') ∧ Off3 I C D news' ∧ SrcAt h₀ ax its news' ∧ Inv i ys news')
              | .error e => cameBackBy (model prog w) A (compEnvC scope cl C env) (notedBy (model prog w) A (compEnvC scope cl C env) fun e s' => compPost (model prog w) A E use Q (.ref D) C (.error e) s') e s') { s with heap := h4, toks := tk' } := by
          intro tk'
          refine inner_loop (oI := oI) (m' := _) rfl rfl hkind hy hdb W4 hsz4 hCL hDL (Ne.symm zJ.2.1) hC₀ hD₀ zJ.2.2 hIC hID (Ne.symm neDC) (Ne.symm nJI) nJC nJD (fun b hb => (hfp b hb).1) (fun b hb => (hfp b hb).2) (fun p hp => ⟨(off4.mem p hp).2.1, (off4.mem p hp).2.2, offJ p hp⟩) hst4 F4 (hoC₃.ns zC.1) (fun p hp => N4 p (by simp only [List.mem_cons] at hp ⊢; grind)) fun h6 tk6 m6 vs hvl hvP F6 hn6 N6 => ?_
          refine ⟨its.size + 1 - (i + 1), by omega, h6, tk6, i + 1, ys ++ vs, m6, news4, rfl, hlt, rfl, ⟨?_, hS4.list F6.keep fun p hp => N6 p (by simp [hp])⟩, F6, hn6, fun p hp => N6 p (List.mem_cons_of_mem _ hp), off4, hS4, inv4 vs hvl hvP⟩
          obtain ⟨o, e, r⟩ := hst₂.1
          rw [heI] at e
          cases e
          exact ⟨oI, (N6 (I, oI) List.mem_cons_self).1, r⟩
        exact start_any (g := ⟨.Name y py, iter2, [], 0⟩) rfl rfl (inner _) (W4.self 0 _ _ _ hst4 (inner _))
      · obtain rfl : i = its.size := Nat.le_antisymm hi (Nat.not_lt.mp hlt)
        refine W.done _ _ _ hst' fun h₂ tk₂ hk₂ => ?_
        exact hp D C h₂ tk₂ _ ys news' (fr_but F' hk₂ hIL hI₀) (news_but N' hk₂ fun p hp => by
          rcases List.mem_cons.mp hp with rfl | hp
          · exact Ne.symm hID
          · exact (off3 p hp).1) off'.one (hn'.at' fun o e => hk₂ _ o (by simpa using Ne.symm hIC) e) hC₀ hD₀ hCL hDL (Ne.symm neDC) (fun p hp => (off3 p hp).2.1) (fin ys news' J)
    · rcases List.mem_cons.mp hp with rfl | hp
      · exact ⟨hacc, hDL, hD₀⟩
      · exact ⟨old _ _ (N1 p hp).1, (N1 p hp).2⟩
  exact start_any (g := ⟨.Name x px, iter1, [], 0⟩) rfl rfl (loop _ ⟨_, rfl⟩) (W.self 0 _ _ _ (W.frame _ _ _ hst0 fun b _ o e => old b o e) (loop _ ⟨_, rfl⟩))
theorem nest_eval {Q : Value → Shared → Prop} (hclos : closureFor scope env = pure cl) (hcell : ∀ y ∈ scope.names, y.2 ≠ .cell) (hkind : scope.kind = .function) (hnames : ∀ y ∈ scope.names, y.2 = .local → scope.names.lookup y.1 = some .local) (hx : scope.names.lookup x = some .local) (hy : scope.names.lookup y = some .local) (hdb : (y == ("__debug__" : Str)) = false)
    (h : wpAny (model prog w) A (eval iter1 env) (NSrc prog w A h₀ L m env iter2 x scope cl (fun s ys news => FinE h₀ L m s Q ys news)) E s) (hs : ∀ x, foldedSetIterable iter1 env x = pure x := by intro _; rfl) (hfold : ∀ e x, foldedSetIterable iter2 e x = pure x := by intro _ _; rfl) :
    wpAny (model prog w) A (eval (.ListComp (.Name y pe) [⟨.Name x px, iter1, [], 0⟩, ⟨.Name y py, iter2, [], 0⟩] scope pos) env) Q E s := by
  rw [eval_ListComp]
  exact wpAny_comprehension_free (use := none) rfl hs hclos hkind hnames (wpAny_mono h (fun xv s₁ h₁ => nest_src hcell hkind hx hy hdb hfold h₁ fun D C h tk m' ys news' F' N' o1 hn hC₀ hD₀ hCL hDL hCD offC fin => post_eval F' N' o1 hn hC₀ hCL hCD offC fin) fun _ _ e => e)
end
end Mine
end
section
open PySem PySem.W PySem.Spec PySem.Calls PyProof.Rows PyProof.Rows.LCg
set_option maxRecDepth 100000
namespace Mine
theorem ltCps_iff : ∀ a b : List Nat, ltCps a b = true ↔ a < b
  | [], [] => by simp [ltCps]
  | [], _ :: _ => by simp [ltCps]
  | _ :: _, [] => by simp [ltCps]
  | a :: r, b :: t => by
    simp only [ltCps, Bool.or_eq_true, Bool.and_eq_true, decide_eq_true_eq, beq_iff_eq, List.cons_lt_cons_iff, ltCps_iff r t]
def leS (a b : Str) : Prop := a.cps.toList ≤ b.cps.toList
theorem leS_of {a b : Str} (h : ltCps b.cps.toList a.cps.toList = false) : leS a b := by
  unfold leS
  rw [← List.not_lt]
  intro z
  rw [(ltCps_iff _ _).mpr z] at h; cases h
theorem rising_pair : ∀ (p : Str) (l : List Str), risingS p l = true → (p :: l).Pairwise leS
  | p, [], _ => by simp
  | p, x :: r, h => by
    have h' : (!ltCps x.cps.toList p.cps.toList && risingS x r) = true := h
    simp only [Bool.and_eq_true, Bool.not_eq_true'] at h'
    have ih := rising_pair x r h'.2
    have h1 := leS_of h'.1
    refine List.pairwise_cons.mpr ⟨fun y hy => ?_, ih⟩
    rcases List.mem_cons.mp hy with rfl | hy
    · exact h1
    · exact List.le_trans h1 ((List.pairwise_cons.mp ih).1 y hy)
theorem sorted_pair : ∀ l : List Str, sortedS l = true → l.Pairwise leS
  | [], _ => .nil
  | x :: r, h => rising_pair x r h
theorem sorted_eq {l l' : List Str} (h : sortedS l = true) (h' : sortedS l' = true) (p : l.Perm l') : l = l' :=
  List.Perm.eq_of_pairwise (fun a b _ _ h1 h2 => by
    have := List.le_antisymm h1 h2
    cases a; cases b
    simp only [Str.mk.injEq]
    exact Array.toList_inj.mp this) (sorted_pair l h) (sorted_pair l' h') p
section
variable {prog : Program} {KK : Params → Frag} {q : Program} {C gfn sfn pfn : Addr} {on : Str}
variable {w : World} {s : Shared} {A : Around} {h₀ : Heap} {env env' : Env} {L : Addr} {m mg mb : Str → Option Value} {lse : List Str} {mean : ExcName → Option Value} {σ : LSt} {ax : Addr} {n : Nat} {scope : Scope} {cl : List (Str × Addr)} {x : Str} {px : Pos}
theorem Lq.bnd {knd : PySem.KeyKind prog w Str} (S : Lq w knd C on L m σ) {b : Cell} (hb : b ∈ σ.W :: σ.cs) : b.seg.length ≤ 9 := by
  obtain ⟨objs, h1, h2⟩ := S.H.has b hb
  obtain ⟨te, o1, o2, kvs, _, _, _, _, hn, hl, m1, m9, _⟩ := h1
  (try dsimp only at hl m9)
  omega
/-- `for name in one`, one of the chain's caches -/
theorem Lq.chainStep (d : OIter KK q (fun w => PySem.strKind prog w) C on 763) (cf : ClsF (KK w.params) C on gfn sfn pfn) (S : Lq w (PySem.strKind prog w) C on L m σ) (X : (KK w.params).In h₀) (T : Top q lse mean mg mb h₀) (hh : A.handled = none) (hA : A.frames = some [env']) (hf : env'.frame = some L) (hke : env'.scope.kind = .function) (hd : A.depth ≤ 340) (hu : A.units ≤ 340)
    (hm : (ax, W.listOf (refs σ.cs).toArray n) ∈ σ.all) (hkind : scope.kind = .function) (hx : scope.names.lookup x = some .local) (hdb : (x == ("__debug__" : Str)) = false) (hl : (heldC σ.cs).length ≤ 12) :
    NStep prog w A h₀ L m env (.Name x px) x scope cl s ax (refs σ.cs).toArray (LookInv w (PySem.strKind prog w) C on L m σ fun i ys => ∃ ks, StrsAre ys ks ∧ ks.Perm (keys (heldC (σ.cs.take i)))) := by
  rintro i ys news v hi ⟨all', rfl, Sm, ks, hS, hP⟩ hv I oI C' oC D m₂ h tk E' hC hB F' N' off ⟨nIC, nID, nCD⟩
  rw [List.size_toArray, List.length_map] at hi
  obtain ⟨b, hb⟩ : ∃ b, σ.cs[i]? = some b := ⟨σ.cs[i], by simp [hi]⟩
  have hbm : b ∈ σ.W :: σ.cs := List.mem_cons_of_mem _ (List.mem_of_getElem? hb)
  obtain rfl : v = .ref b.c.x := by
    have : ((refs σ.cs).toArray)[i]? = some (.ref b.c.x) := by simp [hb]
    rw [this] at hv
    exact (Option.some.inj hv).symm
  refine wpAny_Name (wpAny_loadName_local (by simp [compEnvC, relabel, hkind]) (lookup_relabel_local hx) (hC.ns (N' (C', oC) (by simp)).1) hB ?_) hdb
  refine Lq.pyIterB (σ := { σ with all := all' }) [(I, oI), (C', oC), (D, LCg.lst ys)] d cf Sm.q F' X N' T hh hA hf hke hd hu hbm (Mine.Off3.offs (L := L) (σ := σ) off) fun h2 tk2 J oJ all2 kvs ep F2 N2 S2 oJ2 it => ?_
  obtain ⟨o1, hit, hm1, hat, hpm, hlo⟩ := it
  have off2 := Mine.Off3.same (L := L) (σ := σ) off S2.off
  have S3 := Sm.trans S2
  have hcsl : σ.cs.take (i + 1) = σ.cs.take i ++ [b] := by rw [List.take_add_one, hb]; rfl
  have hlen1 : (heldC (σ.cs.take (i + 1))).length ≤ (heldC σ.cs).length := by
    have e : heldC σ.cs = heldC (σ.cs.take (i + 1)) ++ heldC (σ.cs.drop (i + 1)) := by
      show List.flatMap _ _ = List.flatMap _ _ ++ List.flatMap _ _
      rw [← List.flatMap_append, List.take_append_drop]
    rw [e, List.length_append]
    exact Nat.le_add_right ..
  have hkl : kvs.length = b.seg.length := by have := hpm.length_eq; simpa using this
  have hyl : ys.length = (heldC (σ.cs.take i)).length := by rw [hS.length, hP.length_eq, List.length_map]
  have hd1 := off2.mem (b.c.d1, o1) (List.mem_append_right _ hm1)
  have zJ := N2 (J, oJ) List.mem_cons_self
  refine ⟨J, oJ, h2, tk2, cel5 L σ ++ all2, kvs.length, [J, b.c.d1], _, _, rfl, rfl, F2, N2, ⟨(oJ2 (I, oI) (by simp)).symm, (oJ2 (C', oC) (by simp)).symm, (oJ2 (D, LCg.lst ys) (by simp)).symm⟩, fun p hp => oJ2 p (List.mem_append_right _ hp), off2, src_all (S3.keep _ hm .list),
    Walks.dictKeys (knd := PySem.strKind prog w) hh J b.c.d1 (oJ2 (b.c.d1, o1) (List.mem_append_right _ (List.mem_append_right _ hm1))) kvs ep, ⟨hit.at zJ.1, hat.dictAt (N2 (b.c.d1, o1) (by simp [hm1])).1⟩, fun b' hb' => ?_, ?_, fun vs hl' hv' => ⟨all2, rfl, S3, ks ++ kvs.map (·.1), hS.append' (strs_of (prog := prog) (w := w) (by rw [hl', List.length_map]) fun j v e => ?_), ?_⟩⟩
  · rcases List.mem_cons.mp hb' with rfl | hb'
    · exact ⟨(oJ2 (C', oC) (by simp)).symm, (oJ2 (D, LCg.lst ys) (by simp)).symm⟩
    · rw [List.mem_singleton.mp hb']
      exact ⟨hd1.2.1, hd1.2.2⟩
  · rw [hcsl] at hlen1
    simp only [heldC, List.flatMap_append, List.length_append, List.flatMap_cons, List.flatMap_nil, List.append_nil] at hlen1 hyl hl
    rw [sizeLine_eq]
    omega
  · obtain ⟨k, x', e1, e2⟩ := hv' j v e
    exact ⟨k, by rw [List.getElem?_map, e1]; rfl, e2⟩
  · rw [hcsl]
    simp only [heldC, keys, List.flatMap_append, List.map_append, List.flatMap_cons, List.flatMap_nil, List.append_nil]
    exact hP.append hpm
end
section
variable {prog : Program} {w : World} {A : Around} {E : Value → Shared → Prop} {s : Shared} {h₀ : Heap} {L l : Addr} {m : Str → Option Value} {news : List (Addr × Obj)} {vs : List Value} {ss : List Str} {n : Nat} {Q : Value → Shared → Prop}
theorem sorted_L (F : Fr h₀ L s.heap m) (N : News h₀ L s.heap news) (hm : (l, W.listOf vs.toArray n) ∈ news) (hS : StrsAre vs ss) (h64 : ss.length < 64)
    (h : ∀ D e h' vs' ss', Fr h₀ L h' m → News h₀ L h' ((D, W.listOf (List.toArray vs') e) :: news) → Off D news → StrsAre vs' ss' → ss'.Perm ss → sortedS ss' = true → Q (.ref D) { s with heap := h' }) :
    wpAny (model prog w) A (call (.builtin "sorted") [.ref l]) Q E s :=
  sorted_N_str F N (News.isList N hm) hS (by rw [hS.length]; exact h64) fun h' vs' ss' e F' N' a b c => h _ e h' vs' ss' F' N' (fun p hp => Nat.ne_of_lt (Nat.lt_succ_of_lt (Heap.lt_size (N p hp).1))) a b c
end
end Mine
end
section
open PySem PySem.W PySem.Spec PySem.Calls PyProof.Rows PyProof.Rows.LCg
set_option maxRecDepth 100000
namespace Mine
section
variable {prog : Program} {KK : Params → Frag} {q : Program} {knd : ∀ w, PySem.KeyKind prog w Str} {C : Addr} {on : Str} {fn D : Nat} {as : Loc → Arg → List Value} {Pre : Loc → Seg → Arg → Prop} {Post : Loc → Seg → Arg → Value → List (Addr × Obj) → Seg → Prop}
variable {w : World} {s : Shared} {A A₀ : Around} {E : Value → Shared → Prop} {base h₀ : Heap} {outer : List Env} {env : Env} {L : Addr} {m mg mb : Str → Option Value} {lse : List Str} {mean : ExcName → Option Value} {pre post : List Cell} {c : Loc} {seg : Seg} {all front news : List (Addr × Obj)} {a : Arg} {vs : List Value}
theorem Hold.lawD {Q : Value → Shared → Prop} (d : COp KK q knd C on D fn as Pre Post) (F : Fr h₀ L s.heap m) (X : (KK w.params).In h₀) (N : News h₀ L s.heap news) (T : Top q lse mean mg mb h₀) (hh : A.handled = none) (hA : A.frames = some [env]) (hf : env.frame = some L) (hke : env.scope.kind = .function) (hd : A.depth ≤ D) (hu : A.units ≤ D)
    (H : Hold w.params (knd w) C on (pre ++ ⟨c, seg⟩ :: post) all) (hs : FrontOf news front all) (hp : Pre c seg a) (off : FOff c.adr front) (ha : vs = as c a)
    (h : ∀ h' tk' v more all' seg', Fr h₀ L h' m → News h₀ L h' (more ++ (front ++ all')) → (∀ p ∈ more, ∀ q ∈ front, @Ne Nat p.1 q.1) → Hold w.params (knd w) C on (pre ++ ⟨c, seg'⟩ :: post) all' → (∀ p ∈ all, NonC p.2 → p ∈ all') → (∀ p ∈ all', ∃ q ∈ all, q.1 = p.1) → Post c seg a v more seg' → Q v { s with heap := h', toks := tk' }) :
    wpAny (model prog w) A (call (.ref fn) vs) Q E s := by
  subst ha
  have hs := hs.eq
  subst hs
  have hb : (⟨c, seg⟩ : Cell) ∈ pre ++ ⟨c, seg⟩ :: post := by simp
  obtain ⟨objs, h1, h2⟩ := H.has _ hb
  refine Callee.law (rest := front ++ all.filter fun p => decide (p.1 ∉ c.adr)) (d a h1 hp) F X N T hh hA hf hke hd hu (fun p hp => List.mem_append_right _ (h2 p hp)) (fun p hp => ?_) (fun p hp => ?_) fun h' tk' v own' F' N' oD hP => ?_
  · rcases List.mem_append.mp hp with hp | hp
    · exact List.mem_append_left _ hp
    · exact List.mem_append_right _ (List.mem_filter.mp hp).1
  · rw [h1.adr]
    rcases List.mem_append.mp hp with hp | hp
    · exact off.of p hp
    · simpa using (List.mem_filter.mp hp).2
  · obtain ⟨more, objs', seg', rfl, h3, hP⟩ := hP
    have keep : ∀ p ∈ all, p.1 ∉ c.adr → p ∈ objs' ++ all.filter fun p => decide (p.1 ∉ c.adr) := fun p hp hn => List.mem_append_right _ (List.mem_filter.mpr ⟨hp, by simpa using hn⟩)
    refine h h' tk' v more (objs' ++ all.filter fun p => decide (p.1 ∉ c.adr)) seg' F' (fun p hp => N' p ?_) (fun p hp q hq => oD p (List.mem_append_left _ hp) q (List.mem_append_left _ hq)) (H.turn h3 (fun p hp => List.mem_append_left _ hp) keep) (fun p hp hn => keep p hp (H.plain N (fun q hq => List.mem_append_right _ hq) hb (List.mem_append_right _ hp) hn)) (fun p hp => ?_) hP
    · simp only [List.mem_append] at hp ⊢
      rcases hp with hp | hp | hp | hp
      · exact .inl (.inl hp)
      · exact .inr (.inl hp)
      · exact .inl (.inr hp)
      · exact .inr (.inr hp)
    · rcases List.mem_append.mp hp with hp | hp
      · have hm : p.1 ∈ objs.map (·.1) := by rw [h1.adr, ← h3.adr]; exact List.mem_map_of_mem hp
        obtain ⟨q, hq, e⟩ := List.mem_map.mp hm
        exact ⟨q, h2 q hq, e⟩
      · exact ⟨p, (List.mem_filter.mp hp).1, rfl⟩
end
section
variable {prog : Program} {KK : Params → Frag} {q : Program} {knd : ∀ w, PySem.KeyKind prog w Str} {C : Addr} {on : Str} {fn D : Nat} {as : Loc → Arg → List Value} {Pre : Loc → Seg → Arg → Prop} {Post : Loc → Seg → Arg → Value → List (Addr × Obj) → Seg → Prop}
variable {w : World} {s : Shared} {A : Around} {E : Value → Shared → Prop} {h₀ : Heap} {env : Env} {L : Addr} {m mm mg mb : Str → Option Value} {lse : List Str} {mean : ExcName → Option Value} {a : Arg} {vs : List Value} {σ : LSt} {c : Loc} {seg : Seg}
/-- a deed done to one of the chain's caches -/
theorem Lq.opCD {Q : Value → Shared → Prop} {i : Nat} (xs : List (Addr × Obj)) (d : COp KK q knd C on D fn as Pre Post) (S : Lq w (knd w) C on L m σ) (F : Fr h₀ L s.heap mm) (X : (KK w.params).In h₀) (N : News h₀ L s.heap (xs ++ (cel5 L σ ++ σ.all))) (T : Top q lse mean mg mb h₀) (hh : A.handled = none) (hA : A.frames = some [env]) (hf : env.frame = some L) (hke : env.scope.kind = .function) (hd : A.depth ≤ D) (hu : A.units ≤ D)
    (hi : σ.cs[i]? = some ⟨c, seg⟩) (hp : Pre c seg a) (off : Offs xs σ.all) (ha : vs = as c a)
    (h : ∀ h' tk' v more all' seg', Fr h₀ L h' mm → News h₀ L h' (more ++ (xs ++ (cel5 L σ ++ all'))) → (∀ p ∈ more, ∀ q ∈ xs, @Ne Nat p.1 q.1) → Lq w (knd w) C on L m { σ with cs := σ.cs.set i ⟨c, seg'⟩, all := all' } → (∀ p ∈ σ.all, NonC p.2 → p ∈ all') → (∀ x, Off x σ.all → Off x all') → Post c seg a v more seg' → Q v { s with heap := h', toks := tk' }) :
    wpAny (model prog w) A (call (.ref fn) vs) Q E s := by
  obtain ⟨e1, _⟩ := set_split hi ⟨c, seg⟩
  have H : Hold w.params (knd w) C on ((σ.W :: σ.cs.take i) ++ ⟨c, seg⟩ :: σ.cs.drop (i + 1)) σ.all := by
    have := S.H
    rw [e1] at this
    exact this
  have hb : (⟨c, seg⟩ : Cell) ∈ ((σ.W :: σ.cs.take i) ++ ⟨c, seg⟩ :: σ.cs.drop (i + 1)) := by simp
  rw [← List.append_assoc] at N
  refine Hold.lawD d F X N T hh hA hf hke hd hu H (frontOf_all _) hp (fOff fun p hp => ?_) ha fun h' tk' v more all' seg' F' N' oM H' keep adr hP => ?_
  · rcases List.mem_append.mp hp with hp | hp
    · exact off_adr H hb (off.of p hp)
    · exact off_adr H hb (S.nc.off5 p hp)
  · rw [List.append_assoc] at N'
    refine h h' tk' v more all' seg' F' N' (fun p hp q hq => oM p hp q (List.mem_append_left _ hq)) ⟨S.d1, S.d2, S.d3, S.d4, S.d5, ?_, ?_, ?_, ?_, S.r1, S.r2, S.nc.mono fun x hx p hp => ?_, ?_, S.rl, fun p hp => ⟨keep p (S.ext p hp).1 (S.ext p hp).2, (S.ext p hp).2⟩⟩ keep (fun x hx p hp => ?_) hP
    · show Hold _ _ _ _ (σ.W :: σ.cs.set i ⟨c, seg'⟩) all'
      rw [(set_split hi ⟨c, seg'⟩).2]
      exact H'
    · obtain ⟨n, hm⟩ := S.chain
      refine ⟨n, ?_⟩
      dsimp only
      rw [refs_set hi]
      exact keep _ hm .list
    · obtain ⟨rvs, n, hm, hr⟩ := S.rows
      exact ⟨rvs, n, keep _ hm .list, hr.mono keep⟩
    · obtain ⟨vs', n, hm, hr⟩ := S.rooms
      refine ⟨vs', n, keep _ hm .list, ?_⟩
      dsimp only
      rw [mxs_set hi]
      exact hr
    · obtain ⟨q', hq, e⟩ := adr p hp
      rw [← e]; exact hx q' hq
    · dsimp only
      rw [List.length_set]
      exact S.len
    · obtain ⟨q', hq, e⟩ := adr p hp
      rw [← e]; exact hx q' hq
/-- a deed done to the whole's cache -/
theorem Lq.opWD {Q : Value → Shared → Prop} (xs : List (Addr × Obj)) (d : COp KK q knd C on D fn as Pre Post) (S : Lq w (knd w) C on L m σ) (F : Fr h₀ L s.heap mm) (X : (KK w.params).In h₀) (N : News h₀ L s.heap (xs ++ (cel5 L σ ++ σ.all))) (T : Top q lse mean mg mb h₀) (hh : A.handled = none) (hA : A.frames = some [env]) (hf : env.frame = some L) (hke : env.scope.kind = .function) (hd : A.depth ≤ D) (hu : A.units ≤ D)
    (hp : Pre σ.W.c σ.W.seg a) (off : Offs xs σ.all) (ha : vs = as σ.W.c a)
    (h : ∀ h' tk' v more all' seg', Fr h₀ L h' mm → News h₀ L h' (more ++ (xs ++ (cel5 L σ ++ all'))) → (∀ p ∈ more, ∀ q ∈ xs, @Ne Nat p.1 q.1) → Lq w (knd w) C on L m { σ with W := ⟨σ.W.c, seg'⟩, all := all' } → (∀ p ∈ σ.all, NonC p.2 → p ∈ all') → (∀ x, Off x σ.all → Off x all') → Post σ.W.c σ.W.seg a v more seg' → Q v { s with heap := h', toks := tk' }) :
    wpAny (model prog w) A (call (.ref fn) vs) Q E s := by
  have H : Hold w.params (knd w) C on ([] ++ ⟨σ.W.c, σ.W.seg⟩ :: σ.cs) σ.all := S.H
  have hb : (⟨σ.W.c, σ.W.seg⟩ : Cell) ∈ ([] ++ ⟨σ.W.c, σ.W.seg⟩ :: σ.cs) := by simp
  rw [← List.append_assoc] at N
  refine Hold.lawD d F X N T hh hA hf hke hd hu H (frontOf_all _) hp (fOff fun p hp => ?_) ha fun h' tk' v more all' seg' F' N' oM H' keep adr hP => ?_
  · rcases List.mem_append.mp hp with hp | hp
    · exact off_adr H hb (off.of p hp)
    · exact off_adr H hb (S.nc.off5 p hp)
  · rw [List.append_assoc] at N'
    refine h h' tk' v more all' seg' F' N' (fun p hp q hq => oM p hp q (List.mem_append_left _ hq)) ⟨S.d1, S.d2, S.d3, S.d4, S.d5, H', ?_, ?_, ?_, S.r1, S.r2, S.nc.mono fun x hx p hp => ?_, S.len, S.rl, fun p hp => ⟨keep p (S.ext p hp).1 (S.ext p hp).2, (S.ext p hp).2⟩⟩ keep (fun x hx p hp => ?_) hP
    · obtain ⟨n, hm⟩ := S.chain
      exact ⟨n, keep _ hm .list⟩
    · obtain ⟨rvs, n, hm, hr⟩ := S.rows
      exact ⟨rvs, n, keep _ hm .list, hr.mono keep⟩
    · obtain ⟨vs', n, hm, hr⟩ := S.rooms
      exact ⟨vs', n, keep _ hm .list, hr⟩
    · obtain ⟨q', hq, e⟩ := adr p hp
      rw [← e]; exact hx q' hq
    · obtain ⟨q', hq, e⟩ := adr p hp
      rw [← e]; exact hx q' hq
end
section
variable {prog : Program} {KK : Params → Frag} {q : Program} {knd : ∀ w, PySem.KeyKind prog w Str} {C gfn sfn pfn : Addr} {on : Str}
variable {w : World} {s : Shared} {A : Around} {E : Value → Shared → Prop} {h₀ : Heap} {env : Env} {L : Addr} {m mm mg mb : Str → Option Value} {lse : List Str} {mean : ExcName → Option Value} {σ : LSt} {c : Loc} {seg : Seg} {i : Nat} {k : Str} {t u : Tok} {p : Int} {touch : Bool}
theorem Lq.popiCD {Q : Value → Shared → Prop} (xs : List (Addr × Obj)) (og : OPopitem KK q knd C on pfn) (S : Lq w (knd w) C on L m σ) (F : Fr h₀ L s.heap mm) (X : (KK w.params).In h₀) (N : News h₀ L s.heap (xs ++ (cel5 L σ ++ σ.all))) (T : Top q lse mean mg mb h₀) (hh : A.handled = none) (hA : A.frames = some [env]) (hf : env.frame = some L) (hke : env.scope.kind = .function) (hd : A.depth ≤ 330) (hu : A.units ≤ 330)
    (hi : σ.cs[i]? = some ⟨c, seg⟩) (hne : seg ≠ []) (off : Offs xs σ.all)
    (h : ∀ h' tk' all' seg' y T t u, seg = seg' ++ [y] → Fr h₀ L h' mm → News h₀ L h' ((T, tupO y t u) :: (xs ++ (cel5 L σ ++ all'))) → (∀ q ∈ xs, @Ne Nat T q.1) → Lq w (knd w) C on L m { σ with cs := σ.cs.set i ⟨c, seg'⟩, all := all' } → (∀ p ∈ σ.all, NonC p.2 → p ∈ all') → (∀ x, Off x σ.all → Off x all') → Q (.ref T) { s with heap := h', toks := tk' }) :
    wpAny (model prog w) A (call (.ref pfn) [.ref c.x]) Q E s := by
  refine S.opCD xs og F X N T hh hA hf hke (Nat.le_trans hd (by decide)) (Nat.le_trans hu (by decide)) hi (a := ⟨default, 0, 0, 0⟩) hne off rfl fun h' tk' v more all' seg' F' N' oM S' keep offs hP => ?_
  obtain ⟨T1, k, p, t, u, es, rfl, rfl⟩ := hP
  exact h h' tk' all' seg' (k, p) T1 t u es F' N' (fun q hq => oM _ List.mem_cons_self q hq) S' keep offs
theorem Lq.popiWD {Q : Value → Shared → Prop} (xs : List (Addr × Obj)) (og : OPopitem KK q knd C on pfn) (S : Lq w (knd w) C on L m σ) (F : Fr h₀ L s.heap mm) (X : (KK w.params).In h₀) (N : News h₀ L s.heap (xs ++ (cel5 L σ ++ σ.all))) (T : Top q lse mean mg mb h₀) (hh : A.handled = none) (hA : A.frames = some [env]) (hf : env.frame = some L) (hke : env.scope.kind = .function) (hd : A.depth ≤ 330) (hu : A.units ≤ 330)
    (hne : σ.W.seg ≠ []) (off : Offs xs σ.all)
    (h : ∀ h' tk' all' seg' y T t u, σ.W.seg = seg' ++ [y] → Fr h₀ L h' mm → News h₀ L h' ((T, tupO y t u) :: (xs ++ (cel5 L σ ++ all'))) → (∀ q ∈ xs, @Ne Nat T q.1) → Lq w (knd w) C on L m { σ with W := ⟨σ.W.c, seg'⟩, all := all' } → (∀ p ∈ σ.all, NonC p.2 → p ∈ all') → (∀ x, Off x σ.all → Off x all') → Q (.ref T) { s with heap := h', toks := tk' }) :
    wpAny (model prog w) A (call (.ref pfn) [.ref σ.W.c.x]) Q E s := by
  refine S.opWD xs og F X N T hh hA hf hke (Nat.le_trans hd (by decide)) (Nat.le_trans hu (by decide)) (a := ⟨default, 0, 0, 0⟩) hne off rfl fun h' tk' v more all' seg' F' N' oM S' keep offs hP => ?_
  obtain ⟨T1, k, p, t, u, es, rfl, rfl⟩ := hP
  exact h h' tk' all' seg' (k, p) T1 t u es F' N' (fun q hq => oM _ List.mem_cons_self q hq) S' keep offs
end
end Mine
end
section
open PySem PySem.W PySem.Spec PySem.Calls PyProof.Rows PyProof.Rows.LCg
set_option maxRecDepth 100000
namespace Mine
/-- an empty cache -/
def emp (b : Cell) : Cell := ⟨b.c, []⟩
/-- the chain after the last i caches are emptied -/
def empd (cs : List Cell) (i : Nat) : List Cell := cs.take (cs.length - i) ++ (cs.drop (cs.length - i)).map emp
theorem empd_zero (cs : List Cell) : empd cs 0 = cs := by simp [empd]
theorem empd_len (cs : List Cell) (i : Nat) : (empd cs i).length = cs.length := by simp only [empd, List.length_append, List.length_map, List.length_take, List.length_drop]; omega
theorem empd_all (cs : List Cell) : empd cs cs.length = cs.map emp := by simp [empd]
theorem empd_get {cs : List Cell} {i : Nat} (hi : i < cs.length) : (empd cs i)[cs.length - 1 - i]? = cs[cs.length - 1 - i]? := by
  unfold empd
  rw [List.getElem?_append_left (by rw [List.length_take]; omega), List.getElem?_take, if_pos (by omega)]
theorem empd_set {cs : List Cell} {i : Nat} {b : Cell} (hi : i < cs.length) (hb : cs[cs.length - 1 - i]? = some b) : (empd cs i).set (cs.length - 1 - i) ⟨b.c, []⟩ = empd cs (i + 1) := by
  unfold empd
  have e1 : cs.length - i = cs.length - 1 - i + 1 := by omega
  have e2 : cs.length - (i + 1) = cs.length - 1 - i := by omega
  rw [List.set_append_left _ _ (by rw [List.length_take]; omega), e2, e1]
  obtain ⟨h, hb'⟩ := List.getElem?_eq_some_iff.mp hb
  rw [List.take_succ_eq_append_getElem h, List.set_append_right _ _ (by rw [List.length_take]; omega), List.drop_eq_getElem_cons h, hb']
  have : cs.length - 1 - i - (cs.take (cs.length - 1 - i)).length = 0 := by rw [List.length_take]; omega
  rw [this]
  simp [emp]
theorem empd_held {cs : List Cell} {i : Nat} {b : Cell} (hi : i < cs.length) (hb : cs[cs.length - 1 - i]? = some b) : (heldC (cs.drop (cs.length - (i + 1)))).reverse = (heldC (cs.drop (cs.length - i))).reverse ++ b.seg.reverse := by
  have e2 : cs.length - (i + 1) = cs.length - 1 - i := by omega
  have e1 : cs.length - i = cs.length - 1 - i + 1 := by omega
  obtain ⟨h, hb'⟩ := List.getElem?_eq_some_iff.mp hb
  rw [e2, e1, List.drop_eq_getElem_cons h, hb', heldC_cons, List.reverse_append]
theorem RowIs.append {a b : List Value} {r t : Seg} {all : List (Addr × Obj)} (h : RowIs a r all) (h' : RowIs b t all) : RowIs (a ++ b) (r ++ t) all := by
  refine ⟨by simp [h.1, h'.1], fun i v p hv hp => ?_⟩
  by_cases hi : i < a.length
  · rw [List.getElem?_append_left hi] at hv
    rw [List.getElem?_append_left (by rw [← h.1]; exact hi)] at hp
    exact h.2 i v p hv hp
  · rw [List.getElem?_append_right (by omega)] at hv
    rw [List.getElem?_append_right (by rw [← h.1]; omega), ← h.1] at hp
    exact h'.2 _ v p hv hp
theorem take_rev {seg seg' : Seg} {y : Str × Int} {k : Nat} (hk : k < seg.length) (e : seg.take (seg.length - k) = seg' ++ [y]) : seg' = seg.take (seg.length - (k + 1)) ∧ (seg.drop (seg.length - (k + 1))).reverse = (seg.drop (seg.length - k)).reverse ++ [y] := by
  have e1 : seg.length - k = seg.length - (k + 1) + 1 := by omega
  have hlt : seg.length - (k + 1) < seg.length := by omega
  rw [e1, List.take_succ_eq_append_getElem hlt] at e
  obtain ⟨a, b⟩ := List.append_inj' e rfl
  refine ⟨a.symm, ?_⟩
  rw [e1, List.drop_eq_getElem_cons hlt, List.reverse_cons]
  rw [b]
section
variable {prog : Program} {w : World} {knd : PySem.KeyKind prog w Str} {C : Addr} {on : Str} {h₀ h h' : Heap} {L I ax : Addr} {m mm : Str → Option Value} {σ : LSt} {A : Around} {E : Value → Shared → Prop} {s : Shared} {env : Env} {oI : Obj} {rest : List (Addr × Obj)} {i : Nat}
theorem iter_step (F : Fr h₀ L h m) (N : News h₀ L h ((I, oI) :: rest)) (off : Off I rest) (hit : h'.IsListIter I ax i) (k : ∀ b o, b ≠ I → h.get? b = some o → h'.get? b = some o) :
    ∃ oJ, NonC oJ ∧ (∀ v, oJ.data ≠ .cell v) ∧ (∀ h2 : Heap, h2.get? I = some oJ → h2.IsListIter I ax i) ∧ Fr h₀ L h' m ∧ News h₀ L h' ((I, oJ) :: rest) := by
  obtain ⟨oJ, hJ, hJc, hJd⟩ := hit
  have zI := N (I, oI) (by simp)
  refine ⟨oJ, .fields hJd, fun v => by rw [hJd]; simp, fun h2 e => ⟨oJ, e, hJc, hJd⟩, ⟨F.ns.at' fun o e => k _ o (Ne.symm zI.2.1) e, fun b o e => k b o (fun q => by rw [q, zI.2.2] at e; cases e) (F.keep b o e), F.above⟩, fun p hp => ?_⟩
  rcases List.mem_cons.mp hp with rfl | hp
  · exact ⟨hJ, zI.2⟩
  · have z := N p (List.mem_cons_of_mem _ hp)
    exact ⟨k _ _ (off p hp) z.1, z.2⟩
/-- the cell of `one` stored -/
theorem Lq.storeOne {v : Value} {Q : Unit → Shared → Prop} (xs : List (Addr × Obj)) (S : Lq w knd C on L m σ) (F : Fr h₀ L s.heap mm) (N : News h₀ L s.heap (xs ++ (cel5 L σ ++ σ.all))) (hx : ∀ p ∈ xs, @Ne Nat p.1 (L + 1 + 1 + 1 + 1 + 1)) (hk : env.scope.kind = .function) (hl : env.kindOf (Str.ofString "one") = some .cell) (hc : env.cells.lookup (Str.ofString "one") = some (L + 1 + 1 + 1 + 1 + 1))
    (k : ∀ hp o, Fr h₀ L hp mm → News h₀ L hp (xs ++ (cel5 L { σ with o5 := o } ++ σ.all)) → Lq w knd C on L m { σ with o5 := o } → o.data = .cell (some v) → Q () { s with heap := hp }) : wpAny (model prog w) A (storeName env (Str.ofString "one") v) Q E s := by
  obtain ⟨v5, d5⟩ := S.d5
  have z := N (L + 1 + 1 + 1 + 1 + 1, σ.o5) (by simp)
  refine wpAny_storeName_cell hk hl hc ⟨_, z.1, d5⟩ fun hp ⟨o, ho, hd⟩ hs => ?_
  refine k hp o (F.change hs z.2.1 z.2.2) (fun p hp' => ?_) ⟨S.d1, S.d2, S.d3, S.d4, ⟨_, hd⟩, S.H, S.chain, S.rows, S.rooms, S.r1, S.r2, S.nc, S.len, S.rl, S.ext⟩ hd
  have other : ∀ p ∈ xs ++ (cel5 L σ ++ σ.all), @Ne Nat p.1 (L + 1 + 1 + 1 + 1 + 1) → hp.get? p.1 = some p.2 ∧ p.1 ≠ L ∧ h₀.get? p.1 = none := fun p hp he => ⟨hs.extBut _ _ he (N p hp).1, (N p hp).2⟩
  rcases List.mem_append.mp hp' with h1 | h1
  · exact other p (List.mem_append_left _ h1) (hx p h1)
  · rcases List.mem_append.mp h1 with h1 | h1
    · simp only [cel5, List.mem_cons, List.not_mem_nil, or_false] at h1
      rcases h1 with rfl | rfl | rfl | rfl | rfl
      · exact ⟨ho, z.2⟩
      · exact other (L + 1 + 1 + 1 + 1, σ.o4) (by simp) (Nat.ne_of_lt (Nat.lt_succ_self _))
      · exact other (L + 1 + 1 + 1, σ.o3) (by simp) (Nat.ne_of_lt (Nat.lt_succ_of_lt (Nat.lt_succ_self _)))
      · exact other (L + 1 + 1, σ.o2) (by simp) (Nat.ne_of_lt (Nat.lt_succ_of_lt (Nat.lt_succ_of_lt (Nat.lt_succ_self _))))
      · exact other (L + 1, σ.o1) (by simp) (Nat.ne_of_lt (Nat.lt_succ_of_lt (Nat.lt_succ_of_lt (Nat.lt_succ_of_lt (Nat.lt_succ_self _)))))
    · exact other p (List.mem_append_right _ (List.mem_append_right _ h1)) (S.nc.2.2.2.2 p h1)
variable (w knd C on h₀ L)
/-- ahead of a turn of `for one in chain[::-1]` -/
def GJ (σ : LSt) (s : Shared) (i : Nat) (I ax : Addr) (s' : Shared) : Prop :=
  ∃ h tk m' all o5 oI G gvs ng nx, s' = { s with heap := h, toks := tk } ∧ Fr h₀ L h m' ∧ News h₀ L h ((I, oI) :: (cel5 L { σ with o5 := o5 } ++ all)) ∧ Off I (cel5 L { σ with o5 := o5 } ++ all) ∧ h.IsListIter I ax i ∧ (ax, W.listOf (refs σ.cs).reverse.toArray nx) ∈ all ∧
    Lq w knd C on L m' { σ with cs := empd σ.cs i, o5 := o5, all := all } ∧ (G, W.listOf gvs.toArray ng) ∈ all ∧ RowIs gvs (heldC (σ.cs.drop (σ.cs.length - i))).reverse all ∧ m' (Str.ofString "given") = some (.ref G)
end
end Mine
end
section
open PySem PySem.W PySem.Spec PySem.Calls PyProof.Rows
namespace Mine
theorem entry_unchain : entryFor table "proto.unchain" = some Builtin.«proto.unchain» := entryFor_of_tree (by kernel_rfl)
section
variable {prog : Program} {w : World} {A : Around} {E : Value → Shared → Prop} {s : Shared} {env : Env}
/-- the chain of a handled exception that has no context: nothing is cut -/
theorem wpAny_unchain {e e1 : Addr} {o1 : Obj} {vs : Array Value} {Q : Value → Shared → Prop} (h1 : s.heap.get? e1 = some o1) (hd : o1.data = .fields vs) (h2 : vs[2]? = some .none) (h : Q .none s) :
    wpAny (model prog w) A (runValue (.builtin "proto.unchain" ⟨[.ref e, .ref e1, .ref e1, .bool false], []⟩)) Q E s := by
  refine wpAny_runValue (codeAny_builtin entry_unchain ?_)
  unfold Builtin.«proto.unchain»
  refine wpAny_bind (wpAny_field h1 hd h2 ?_)
  exact wpAny_pure h
theorem wpAny_raiseNew_in {α : Type} {e e1 : Addr} {o o1 : Obj} {vs vs1 : Array Value} {Q : α → Shared → Prop} (hh : A.handled = some (.ref e1)) (hne : e1 ≠ e) (he : s.heap.get? e = some o) (hd : o.data = .fields vs) (hz : 2 < vs.size)
    (h1 : s.heap.get? e1 = some o1) (hd1 : o1.data = .fields vs1) (h2 : vs1[2]? = some .none)
    (h : E (.ref e) { s with heap := s.heap.update e (Obj.mapFields (·.setIfInBounds 2 (.ref e1))) }) : wpAny (model prog w) A (raiseNew (.ref e) : Sem α) Q E s := by
  unfold raiseNew
  refine wpAny_bind (wpAny_handled ?_)
  rw [hh]
  have hb : (Value.ref e1 != Value.ref e) = true := by simpa [bne_iff_ne] using hne
  simp only [hb, if_true]
  refine wpAny_bind (wpAny_holding (wpAny_unchain h1 hd1 h2 ?_))
  refine wpAny_bind ?_
  simp only [updateField]
  refine wpAny_bind (wpAny_load he ?_)
  rw [hd]
  simp only [hz, if_true]
  exact wpAny_update he (wpAny_throw h)
/-- the object of a built-in exception just made -/
def fresh6 (cls : String) (t : Addr) : Obj := { cls := .type cls, data := .fields #[.ref t, .none, .none, .none, .bool false, .none] }
theorem wpAny_raiseStmt_in {cls : String} (F : ExcRaiseFacts cls) {x : Sem Value} {e1 : Addr} {Q : Flow → Shared → Prop} (hh : A.handled = some (.ref e1))
    (h : wpAny (model prog w) A x (fun v s₁ => ∃ e t o1 vs1, v = .ref e ∧ s₁.heap.get? e = some (fresh6 cls t) ∧ e1 ≠ e ∧ s₁.heap.get? e1 = some o1 ∧ o1.data = .fields vs1 ∧ vs1[2]? = some .none ∧
      E (.ref e) { s₁ with heap := s₁.heap.update e (Obj.mapFields (·.setIfInBounds 2 (.ref e1))) }) E s) :
    wpAny (model prog w) A (raiseStmt env (some x) none) Q E s := by
  unfold raiseStmt
  refine wpAny_bind (wpAny_mono h (fun v s₁ h₁ => ?_) fun _ _ x => x)
  obtain ⟨e, t, o1, vs1, rfl, he, hne, h1, hd1, h2, hE⟩ := h₁
  obtain ⟨hp, g, d, tk, os⟩ := s₁
  have hsub := F.isExc
  have hmeta := F.plainMeta
  have he' : hp.get? e = some { cls := .type cls, data := .fields #[.ref t, .none, .none, .none, .bool false, .none] } := he
  repeat (first | with_reducible refine wpAny_loadPart he' ?_ | wp_step)
  exact wpAny_raiseNew_in hh hne he rfl (by show 2 < 6; decide) h1 hd1 h2 hE
theorem wpAny_Raise_in {cls : String} (F : ExcRaiseFacts cls) {x : PySem.Expr} {pos : Pos} {e1 : Addr} {Q : Flow → Shared → Prop} (hh : A.handled = some (.ref e1))
    (h : wpAny (model prog w) A (eval x env) (fun v s₁ => ∃ e t o1 vs1, v = .ref e ∧ s₁.heap.get? e = some (fresh6 cls t) ∧ e1 ≠ e ∧ s₁.heap.get? e1 = some o1 ∧ o1.data = .fields vs1 ∧ vs1[2]? = some .none ∧
      E (.ref e) { s₁ with heap := s₁.heap.update e (Obj.mapFields (·.setIfInBounds 2 (.ref e1))) }) E s) :
    wpAny (model prog w) A (exec (.Raise (some x) none pos) env) Q E s := by
  rw [arm_exec_Raise]
  first
    | exact wpAny_bind (wpAny_standAt (wpAny_raiseStmt_in F hh (wpAny_bind (wpAny_mono h (fun v s₁ h₁ => wpAny_bind (wpAny_standAt (wpAny_pure h₁))) fun _ _ x => x))))
    | (simp only [evalOpt, Option.map]; exact wpAny_bind (wpAny_standAt (wpAny_raiseStmt_in F hh (wpAny_bind (wpAny_mono h (fun v s₁ h₁ => wpAny_bind (wpAny_standAt (wpAny_pure h₁))) fun _ _ x => x)))))
    | (show wpAny (model prog w) A (do standAt pos; raiseStmt env (some (do let v ← eval x env; standAt pos; pure v)) none) Q E s; exact wpAny_bind (wpAny_standAt (wpAny_raiseStmt_in F hh (wpAny_bind (wpAny_mono h (fun v s₁ h₁ => wpAny_bind (wpAny_standAt (wpAny_pure h₁))) fun _ _ x => x)))))
theorem wpAny_Raise_call_in {cls newId initId : String} (F : ExcCallFacts cls newId initId) (G : ExcRaiseFacts cls) {x : Str} {np cpos pos : Pos} {args : List PySem.Expr} {e1 : Addr} {Q : Flow → Shared → Prop}
    (hh : A.handled = some (.ref e1)) (hplain : (backTo cpos (starEach args env)).any (·.1) = false)
    (h : wpAny (model prog w) A (eval (.Name x np) env) (fun f s₁ => f = .type cls ∧ wpAny (model prog w) A (evalArgs (.type cls) true (backTo cpos (starEach args env)) [])
      (fun a s₂ => a.kw = [] ∧ a.pos.length ≤ sizeLine ∧ ∃ o1 vs1, s₂.heap.get? e1 = some o1 ∧ o1.data = .fields vs1 ∧ vs1[2]? = some .none ∧
        ∀ h' e, Heap.MadeExc s₂.heap h' e cls a.pos → E (.ref e) { s₂ with heap := h'.update e (Obj.mapFields (·.setIfInBounds 2 (.ref e1))) }) E s₁) E s) :
    wpAny (model prog w) A (exec (.Raise (some (.Call (.Name x np) args [] cpos)) none pos) env) Q E s := by
  refine wpAny_Raise_in G hh (wpAny_Call_ofName (wpAny_mono h (fun f s₁ h₁ => ?_) fun _ _ x => x))
  obtain ⟨rfl, h₁⟩ := h₁
  refine callWith_excType hplain (wpAny_mono h₁ (fun a s₂ h₂ => ?_) fun _ _ x => x)
  obtain ⟨apos, akw⟩ := a
  obtain ⟨hkw, hlen, o1, vs1, h1, hd1, h2, h₂⟩ := h₂
  obtain rfl : akw = [] := hkw
  obtain ⟨hp, g, d, tk, os⟩ := s₂
  refine wpAny_call_exc F (hrest := hlen) fun h' e hm => ?_
  have hm' := hm
  obtain ⟨t, ht, _, _⟩ := hm.there
  have hne : e1 ≠ e := by
    intro z
    have hn := hm'.new
    have h1' : hp.get? e1 = some o1 := h1
    rw [z] at h1'
    rw [h1'] at hn
    cases hn
  exact ⟨e, t, o1, vs1, rfl, ht, hne, hm'.keeps _ _ h1, hd1, h2, h₂ h' e hm⟩
end
section
variable {M : Model} {A : Around} {E : Value → Shared → Prop} {s : Shared}
/-- the context field of an exception's object -/
def Ctx (e : Addr) (c : Value) (h : Heap) : Prop := ∃ oe vs, h.get? e = some oe ∧ oe.data = .fields vs ∧ vs[2]? = some c
/-- the end of a flight: of the exception's own object nothing changes -/
theorem flightC {base : Heap} {l : List Env} {e : Addr} {cls a0 fl c : Value} {Q : Unit → Shared → Prop} (hb : base.StaysIn s.heap) (hl : s.heap.FunFrames base l) (ht : s.heap.TracedAtW base e cls a0 fl) (hc : Ctx e c s.heap)
    (h : ∀ h', base.StaysIn h' → h'.FunFrames base l → h'.TracedW base e cls a0 → s.heap.UpToSlots h' → Ctx e c h' → Q () { s with heap := h' }) : wpAny M A (setFlight (.ref e) none) Q E s := by
  obtain ⟨oe, vs, T, oT, ts, he, hcl, hd, h1, hnT, hTe, hT, hdT, h3⟩ := ht
  obtain ⟨oc, ws, hoc, hdc, h2⟩ := hc
  have low : 3 < ts.size := (Array.getElem?_eq_some_iff.mp h3).1
  unfold setFlight
  refine wpAny_bind (wpAny_field he hd h1 ?_)
  rw [if_pos (by simp)]
  refine wpAny_setField hT hdT low ?_
  generalize hu : s.heap.update T (Obj.mapFields fun x => x.setIfInBounds 3 ((none : Option Addr).elim Value.none fun f => rawInt f)) = h'
  have els : ∀ b, b ≠ T → h'.get? b = s.heap.get? b := fun b q => by rw [← hu]; exact Heap.get?_update_other _ _ (Ne.symm q)
  have rec_ : ∀ b o, s.heap.get? b = some o → (∀ us, o.data ≠ .fields us) → b ≠ T := fun b o q nf z => by
    rw [z, hT] at q; cases q; exact nf ts hdT
  have up : s.heap.UpToSlots h' := fun b o q nf => ⟨o.slots, (els b (rec_ b o q nf)).trans q⟩
  have tT : h'.get? T = some (Obj.mapFields (fun x => x.setIfInBounds 3 ((none : Option Addr).elim Value.none fun f => rawInt f)) oT) := by
    rw [← hu]; exact Heap.get?_update_self _ hT (Obj.isFreed_of_fields (Obj.data_mapFields hdT _))
  refine h h' (fun b o q => (els b fun z => ?_).trans (hb b o q)) (hl.of_keeps fun b o q nf => ⟨o, (els b (rec_ b o q nf)).trans q, rfl⟩) ?_ up ⟨oc, ws, (els e (Ne.symm hTe)).trans hoc, hdc, h2⟩
  · rw [z, hnT] at q; cases q
  · exact ⟨oe, vs, T, _, _, (els e (Ne.symm hTe)).trans he, hcl, hd, h1, hnT, hTe, tT, Obj.data_mapFields hdT _, by simp [low]⟩
/-- the first entry of an exception's trace -/
theorem entryC {base : Heap} {env : Env} {outer : List Env} {L e : Addr} {oe : Obj} {vs : Array Value} {head a0 c : Value} {nx : Bool} {Q : Unit → Shared → Prop}
    (hfr : A.frames = some (env :: outer)) (hl : s.heap.FunFrames base (env :: outer)) (hf : env.frame = some L) (he : s.heap.get? e = some oe) (hb : base.StaysIn s.heap) (hen : base.get? e = none)
    (hd : oe.data = .fields vs) (hz : 1 < vs.size) (h0 : vs[0]? = some a0) (h2 : vs[2]? = some c)
    (h : ∀ h', Heap.NotedW base (env :: outer) e oe.cls a0 (rawInt L) s.heap h' → Ctx e c h' → Q () { s with heap := h' }) :
    wpAny M A (do let a ← frameOf env; let pl ← entryPlaceOf L nx; let b ← EntryCells.newEntry head a .none (rawInt L) .none pl; setField (.ref e) 1 b) Q E s := by
  have out : e ∉ (env :: outer).filterMap (·.frame) := fun z => by
    obtain ⟨_, o, q, nf⟩ := hl.mem z
    rw [he] at q; cases q; exact nf vs hd
  refine wpAny_bind (wpAny_frameOf_fun hfr hl hf fun h₁ so => ?_)
  refine wpAny_bind (wpAny_entryPlaceOf fun pl hpl => ?_)
  unfold EntryCells.newEntry newFields
  refine wpAny_bind (wpAny_newObj_type ?_ (hpl.sizeOk5 _ _ _ _ _))
  have e1 : h₁.get? e = some oe := (so.2.1 e out).trans he
  have b1 : base.StaysIn h₁ := fun b o q => (so.2.1 b fun z => by rw [(hl.mem z).1] at q; cases q).trans (hb b o q)
  generalize hob : ({ cls := .type "traceback", dict := none, data := .fields ([head, .ref L, .none, rawInt L, .none] ++ (if pl.isEmpty then List.replicate 6 Value.none else pl)).toArray } : Obj) = ob
  have hobd : ob.data = .fields ([head, .ref L, .none, rawInt L, .none] ++ (if pl.isEmpty then List.replicate 6 Value.none else pl)).toArray := by rw [← hob]
  have hobf : ob.isFreed = false := Obj.isFreed_of_fields hobd
  have e2 : (h₁.push ob).get? e = some oe := Heap.get?_push_of_some ob e1
  have ne : h₁.objs.size ≠ e := Nat.ne_of_gt (Heap.lt_size e1)
  refine wpAny_setField e2 hd hz ?_
  generalize hu : (h₁.push ob).update e (Obj.mapFields fun x => x.setIfInBounds 1 (Value.ref h₁.objs.size)) = h'
  have d3 := Obj.data_mapFields hd fun x => x.setIfInBounds 1 (Value.ref h₁.objs.size)
  have e3 : h'.get? e = some (Obj.mapFields (fun x => x.setIfInBounds 1 (Value.ref h₁.objs.size)) oe) := by rw [← hu]; exact Heap.get?_update_self _ e2 (Obj.isFreed_of_fields d3)
  have els : ∀ b, b ≠ e → h'.get? b = (h₁.push ob).get? b := fun b q => by rw [← hu]; exact Heap.get?_update_other _ _ (Ne.symm q)
  have t3 : h'.get? h₁.objs.size = some ob := (els _ ne).trans (Heap.get?_push_size h₁ hobf)
  have rec_ : ∀ b o, s.heap.get? b = some o → (∀ us, o.data ≠ .fields us) → b ≠ e := fun b o q nf z => by
    rw [z, he] at q; cases q; exact nf vs hd
  have kp : ∀ b o, b ≠ e → h₁.get? b = some o → h'.get? b = some o := fun b o z q => (els b z).trans (Heap.get?_push_of_some ob q)
  refine h h' ⟨fun b o q => kp b o (fun z => by rw [z, hen] at q; cases q) (b1 b o q), hl.of_keeps fun b o q nf => ?_, ?_, fun b o q nf => ?_⟩ ⟨_, _, e3, d3, by rw [Array.getElem?_setIfInBounds_ne (by decide)]; exact h2⟩
  · obtain ⟨sl, z⟩ := so.2.2 b o q
    exact ⟨_, kp b _ (rec_ b o q nf) z, rfl⟩
  · refine ⟨_, _, h₁.objs.size, ob, _, e3, ⟨Obj.cls_mapFields _ _, by rw [Array.getElem?_setIfInBounds_ne (by decide)]; exact h0⟩, d3, by simp [hz], b1.fresh, ne, t3, hobd, ?_⟩
    first | (simp; done) | (rcases hpl with rfl | ⟨_, _, _, _, _, _, _, rfl⟩ <;> simp)
  · obtain ⟨sl, z⟩ := so.2.2 b o q
    exact ⟨sl, kp b _ (rec_ b o q nf) z⟩
end
section
variable {prog : Program} {w : World} {A₀ : Around} {E : Value → Shared → Prop} {s' : Shared} {base h₀ h : Heap} {outer : List Env} {L a e : Addr} {m : Str → Option Value} {name : Str} {scope : Scope} {cd : Value}
  {b₀ : Stmt} {suite : List Stmt} {pos np : Pos} {rest : List ExceptHandler} {Q : Flow → Shared → Prop} {news : List (Addr × Obj)}
  {p : Program} {loose : List Str} {mean : ExcName → Option Value} {mg mb : Str → Option Value} {x : Str} {X T' : String} {Kf : Frag}
/-- an exception that a built-in raises, caught by the frame's own try; its object is told on -/
theorem caught_newC (K : Below A₀ base outer h₀) (hx : Heap.NewExc h s'.heap e X) (F : Fr h₀ L h m) (N : News h₀ L h news)
    (X0 : Kf.In base) (T : Top p loose mean mg mb base) (e0 : nsIn Kf mainGlobals x = some none) (hv : bootBuiltins x = some (.type T'))
    (hexc : isSubtype (.type T') (.type "BaseException") = pure true) (hnt : isSubtype (.type ((Manifest.find? T').elim "type" fun y => y.metatype)) (.type "tuple") = pure false) (hsub : isSubtype (.type X) (.type T') = pure true)
    (k : ∀ h₁ h' oe vs, Up base outer h₀ h₁ → Below A₀ base outer h₁ → Fr h₁ L h' m → News h₁ L h' ((e, oe) :: news) → oe.data = .fields vs → vs[2]? = some .none →
      wpAny (model prog w) ((A₀.deeper (envOf name scope L a cd)).mark (some (.ref e))) (execs (b₀ :: suite) (envOf name scope L a cd)) Q E { s' with heap := h' })
    (hn : x ≠ "__name__" := by decide +kernel)
    (hk : scope.kind = .function := by rfl) (hxk : (envOf name scope L a cd).kindOf x = some .globalImplicit := by rfl) (hd : (x == ("__debug__" : Str)) = false := by decide)
    (hE : PassesOwnAt (model prog w) ((A₀.deeper (envOf name scope L a cd)).mark (some (.ref e))) (A₀.deeper (envOf name scope L a cd)) (envOf name scope L a cd) E := by passes_own) :
    wpAny (model prog w) (A₀.deeper (envOf name scope L a cd)) (noteFrame (.ref e) (envOf name scope L a cd))
      (fun _ s₂ => wpAny (model prog w) (A₀.deeper (envOf name scope L a cd)) (setFlight (.ref e) none) (fun _ s₃ =>
        wpAny (model prog w) (A₀.deeper (envOf name scope L a cd)) (handleBy (.ref e) (envOf name scope L a cd) (.ExceptHandler (some (.Name x np)) none (b₀ :: suite) pos :: rest)) Q E s₃) E s₂) E s' := by
  have K' := K.push (name := name) (a := a) (cd := cd) F hk
  have hin : ∀ env ∈ (envOf name scope L a cd :: outer), ∀ b, env.frame = some b → b ∈ (envOf name scope L a cd :: outer).filterMap (·.frame) := fun env he b hb => List.mem_filterMap.mpr ⟨env, he, hb⟩
  obtain ⟨ob, tp, he, hcls, hdd⟩ := hx.there
  have hen : (hideAll h ((envOf name scope L a cd :: outer).filterMap (·.frame))).get? e = none := by
    cases q : (hideAll h ((envOf name scope L a cd :: outer).filterMap (·.frame))).get? e with
    | none => rfl
    | some o => have := of_hideAll _ q; rw [hx.new] at this; cases this
  have hff : s'.heap.FunFrames (hideAll h ((envOf name scope L a cd :: outer).filterMap (·.frame))) (envOf name scope L a cd :: outer) := (funFrames_hide K'.frames hin).of_keeps fun b o hb _ => ⟨o, hx.keeps b o hb, rfl⟩
  have bst : ∀ b o, base.get? b = some o → (hideAll h ((envOf name scope L a cd :: outer).filterMap (·.frame))).get? b = some o := fun b o q => hideAll_get _ (K'.stays b o q) fun hm => by
    rw [(K'.frames.mem hm).1] at q; cases q
  unfold noteFrame
  simp only [show (envOf name scope L a cd).frame = some L from rfl]
  refine wpAny_bind (wpAny_field he hdd (x := .none) rfl ?_)
  rw [if_neg (by decide)]
  refine entryC (a0 := tp) (c := .none) (Around.frames_deeper K.stack) hff rfl he (fun b o hb => hx.keeps b o (of_hideAll _ hb)) hen hdd (by show 1 < 6; decide) rfl rfl fun h₁ hN cx₁ => ?_
  obtain ⟨n1, n2, n3, n4⟩ := hN
  refine flightC (s := { s' with heap := h₁ }) n1 n2 n3 cx₁ fun h₂ q1 q2 q3 sm₂ cx₂ => ?_
  have hf₂ : Heap.FlyingW (hideAll h ((envOf name scope L a cd :: outer).filterMap (·.frame))) (envOf name scope L a cd :: outer) e ob.cls tp h₂ := ⟨q1, hen, q2, q3⟩
  have sm₁₂ : s'.heap.UpToSlots h₂ := (show s'.heap.UpToSlots h₁ from n4).trans sm₂
  have smh : h.UpToSlots h₂ := (Heap.UpToSlots.of_keeps hx.keeps).trans sm₁₂
  have F₂ : Fr (asNow h₀ h₂) L h₂ m := ⟨smh.ns F.ns, fun b o q => asNow_keep q, by rw [show (asNow h₀ h₂).objs.size = h₀.objs.size from restr_size _ _ _]; exact F.above⟩
  have T₂ : Top p loose mean mg mb (asNow h₀ h₂) := T.keeps fun b o q => asNow_some (K.stays b o q) (hf₂.1 b o (bst b o q))
  obtain ⟨ob₂, hob₂, hobc₂⟩ := hf₂.there
  refine wpAny_handleBy_builtin (X := X) (T := T') (b := true) hexc hnt hsub (ld_builtin_at F₂ T₂.g (mg_none_of X0 T.g e0) T₂.b ((T₂.builtins x hn).trans hv) ⟨rfl, ⟨ob₂, hob₂, hobc₂.trans hcls⟩, ?_⟩ hk hxk hd)
  refine flightC (s := { s' with heap := h₂ }) q1 q2 q3.at cx₂ fun h₆ w1 w2 w3 sm₆ cx₆ => ?_
  have hf₆ : Heap.FlyingW (hideAll h ((envOf name scope L a cd :: outer).filterMap (·.frame))) (envOf name scope L a cd :: outer) e ob.cls tp h₆ := ⟨w1, hen, w2, w3⟩
  obtain ⟨oe₆, vs₆, g6, d6, c6⟩ := cx₆
  have sm' : h.UpToSlots h₆ := smh.trans sm₆
  have st6 : base.StaysIn h₆ := fun b o q => hf₆.1 b o (bst b o q)
  have F₆ : Fr (asNow h₀ h₆) L h₆ m := ⟨sm'.ns F.ns, fun b o q => asNow_keep q, by rw [show (asNow h₀ h₆).objs.size = h₀.objs.size from restr_size _ _ _]; exact F.above⟩
  have u : Up base outer h₀ (asNow h₀ h₆) := asNow_up (l := []) K.stays st6 (fun b o q hn => sm' b o (F.keep b o q) hn) (flyingW_base bst hf₆).2.2.1.2.2 K.frames
  have eL : e ≠ L := fun z => by
    obtain ⟨oL, _, _, q, _⟩ := F.ns
    have n0 := hx.new
    rw [z, q] at n0; cases n0
  have e0 : (asNow h₀ h₆).get? e = none := asNow_none (by
    cases q : h₀.get? e with
    | none => rfl
    | some o => have q' := F.keep e o q; rw [hx.new] at q'; cases q')
  refine wpAny_passesOwnAt hE (k _ h₆ oe₆ vs₆ u (u.below K) F₆ (fun q hq => ?_) d6 c6)
  rcases List.mem_cons.mp hq with rfl | hq
  · exact ⟨g6, eL, e0⟩
  · exact ⟨hf₆.1 _ _ (hideAll_get _ (N q hq).1 fun hm => by
      obtain ⟨env, he, hf⟩ := List.mem_filterMap.mp hm
      rcases List.mem_cons.mp he with rfl | he
      · exact (N q hq).2.1 (Option.some.inj hf).symm
      · obtain ⟨o, ho, _⟩ := (K.frames.mem (List.mem_filterMap.mpr ⟨env, he, hf⟩)).2
        rw [(N q hq).2.2] at ho; cases ho), (N q hq).2.1, asNow_none (N q hq).2.2⟩
end
end Mine
end
section
open PySem PySem.W
set_option maxRecDepth 100000
namespace Mine
theorem keyErrRaise : ExcRaiseFacts "KeyError" where
  isExc := by rw [isSubtype_type]; kernel_rfl
  plainMeta := by kernel_rfl
theorem keyErrInit : Slot "KeyError" "__init__" "KeyError.__init__" := .of (owner := "KeyError") (n := "__init__") (by rw [typeLookup_type, builtinLookup_eq_fast]; kernel_rfl) (by decide +kernel) (by decide +kernel) (by decide +kernel) (by first | exact .inl (by decide +kernel) | exact .inr (by decide +kernel)) (by rw [isSubtype_type]; kernel_rfl)
theorem keyErrSelf : isSubtype (.type "KeyError") (.type "KeyError") = pure true := by rw [isSubtype_type]; kernel_rfl
theorem keyErrLook : isSubtype (.type "KeyError") (.type "LookupError") = pure true := by rw [isSubtype_type]; kernel_rfl
theorem keyErrAttr : isSubtype (.type "KeyError") (.type "AttributeError") = pure false := by rw [isSubtype_type]; kernel_rfl
theorem keyErrName : isSubtype (.type "KeyError") (.type "NameError") = pure false := by rw [isSubtype_type]; kernel_rfl
theorem keyErrMadeHere : Bind.madeHere "BaseException.__new__" (.type "KeyError") = pure () := by kernel_rfl
theorem keyErrMadeBy : Bind.madeBy (.type "KeyError") = pure (some "LookupError.__new__") := by kernel_rfl
theorem keyErrInitEntry : entryFor table "KeyError.__init__" = some Builtin.«BaseException.__init__» := entryFor_alias (id' := "BaseException.__init__") (by rw [fastTable_eq_tree]; kernel_rfl) (by first | rfl | decide +kernel) (by decide +kernel) (by rw [fastTable_eq_tree]; kernel_rfl)
theorem keyErrMro : mroOf (.type "KeyError") = pure [.type "KeyError", .type "LookupError", .type "Exception", .type "BaseException", .type "object"] := by rw [mroOf_type]; kernel_rfl
theorem keyErrRow : Manifest.signature? "KeyError.__init__" = some ⟨.positional, "*", "KeyError", .self, [⟨"args", .varPos, false⟩]⟩ := by kernel_rfl
section
variable {prog : Program} {w : World} {A : Around} {R : Result → Shared → Prop} {rest : List Value} {hp : Heap} {g : Array GenState} {d : Drawn} {tk : Nat} {os : OsState}
theorem keyErr_new (h : R (.ok (.ret (.ref (hp.objs.size + 1)))) ⟨(hp.push { cls := .type "tuple", data := .seq rest.toArray }).push { cls := .type "KeyError", data := .fields #[.ref hp.objs.size, .none, .none, .none, .bool false, .none] }, g, d, tk, os⟩)
    (hz : rest.length ≤ sizeLine) : codeAny (model prog w) A (.builtin "LookupError.__new__" ⟨.type "KeyError" :: rest, []⟩) R ⟨hp, g, d, tk, os⟩ := by
  have F := PySem.F.excCall_LookupError
  have f1 := F.ends
  have f2 := F.owner
  have f3 := keyErrLook
  have f4 := keyErrAttr
  have f5 := keyErrName
  have f6 := keyErrMadeHere
  refine codeAny_builtinAt F.entry ?_
  unfold Builtin.«BaseException.__new__»
  refine wpAt_bind ?_
  show wpAt _ _ _ (stack >>= _) _ _ _
  refine wpAt_bind (wpAt_stack fun p below => wpAt_of_wpAny ?_)
  wp_walk
  refine wpAt_of_wpAny ?_
  rw [f2]
  wp_walk
  show R _ _
  rw [Heap.size_push]
  exact h
theorem keyErr_check {M : Model} {self : Value} {E : Value → Shared → Prop} {Q : Unit → Shared → Prop} (hT : Shared.TypeIs ⟨hp, g, d, tk, os⟩ self "KeyError") (h : Q () ⟨hp, g, d, tk, os⟩) :
    wpAny M A (checkBuiltinCall "KeyError.__init__" ⟨self :: rest, []⟩) Q E ⟨hp, g, d, tk, os⟩ := by
  have c1 := keyErrSelf
  have c2 : ("KeyError" != "*") = true := by decide +kernel
  have c3 : builtinKind "KeyError.__init__" = some .slot := by kernel_rfl
  have c4 : splitId "KeyError.__init__" = some ("KeyError", "__init__") := by kernel_rfl
  simp only [checkBuiltinCall, c3, c4, keyErrRow]
  wp_walk
  refine wpAny_onRaise ?_
  rw [show ∀ (a b : String) (n : Nat), Bind.check ⟨.positional, "*", "KeyError", .self, [⟨"args", .varPos, false⟩]⟩ a b n (List.map (fun x => x.fst) ({ pos := self :: rest } : Args).kw) = pure () from
    fun a b n => check_star_args _ _ _ _ _ _]
  exact wpAny_pure h
set_option maxHeartbeats 2000000 in
theorem keyErr_type {E : Value → Shared → Prop} {Q : PySem.Fin → Shared → Prop} (h : ∀ h' e, Heap.MadeExc hp h' e "KeyError" rest → Q (.done (.ret (.ref e))) ⟨h', g, d, tk, os⟩) (hz : rest.length ≤ sizeLine) :
    wpAny (model prog w) A (Builtin.«type.__call__» ⟨.type "KeyError" :: rest, []⟩) Q E ⟨hp, g, d, tk, os⟩ := by
  have t1 : (Value.type "KeyError" == Value.type "type") = false := by decide +kernel
  have t2 : ((Manifest.find? "KeyError").bind fun x => List.findSome? (fun t => (Manifest.find? t).bind fun b =>
    if b.noNew = true then some true else if (b.attrs.any fun x => x.fst == "__new__") = true then some false else none) x.mro).getD false = false := by kernel_rfl
  have t3 : checkTypeCall "KeyError" ⟨rest, []⟩ = pure () := by kernel_rfl
  have t4 := keyErrMro
  have t5 := keyErrMadeBy
  wp_walk
  refine codeAny_call_builtin_code (Code.quiet_builtin _ (by decide +kernel)) (wpAny_of_eq (show checkBuiltinCall "LookupError.__new__" ⟨.type "KeyError" :: rest, []⟩ = pure () by kernel_rfl) ?_)
  clear t1 t2 t3 t4 t5
  refine keyErr_new ?_ hz
  show wpAny _ _ _ _ _ _
  have got : ((hp.push { cls := .type "tuple", data := .seq rest.toArray }).push { cls := .type "KeyError", data := .fields #[.ref hp.objs.size, .none, .none, .none, .bool false, .none] }).get? (hp.objs.size + 1) = some
      { cls := .type "KeyError", data := .fields #[.ref hp.objs.size, .none, .none, .none, .bool false, .none] } := by heap_get
  refine wpAny_bind (wpAny_isInstance ⟨_, got, rfl⟩ keyErrSelf ?_)
  wp_step
  refine wpAny_bind (wpAny_holding (wpAny_callSpecial?_slot ⟨_, got, rfl⟩ keyErrInit (wpAny_call (codeAny_call_builtin keyErrInit.plain keyErrInitEntry (keyErr_check ⟨_, got, rfl⟩ ?_)))))
  wp_walk
  refine h _ _ ⟨fun b o hb => ?_, Heap.get?_none_of_le (Nat.le_succ _), hp.objs.size + 2, ?_, Heap.get?_none_of_le (by omega), ?_⟩
  · rw [Heap.get?_update_other _ _ (Nat.ne_of_gt (Nat.lt_succ_of_lt (Heap.lt_size hb)))]
    exact Heap.get?_push_of_some _ (Heap.get?_push_of_some _ (Heap.get?_push_of_some _ hb))
  · rw [Heap.get?_update_self _ (Heap.get?_push_of_some _ got) rfl]
    simp only [Heap.size_push]
    rfl
  · rw [Heap.get?_update_other _ _ (show hp.objs.size + 1 ≠ hp.objs.size + 2 by omega)]
    exact Heap.get?_push_at (by simp only [Heap.size_push]) rfl
set_option maxHeartbeats 2000000 in
theorem keyErr_call {E : Value → Shared → Prop} {Q : Value → Shared → Prop} (h : ∀ h' e, Heap.MadeExc hp h' e "KeyError" rest → Q (.ref e) ⟨h', g, d, tk, os⟩) (hz : rest.length ≤ sizeLine) :
    wpAny (model prog w) A (call (.type "KeyError") rest) Q E ⟨hp, g, d, tk, os⟩ := by
  refine wpAny_call (codeAny_of_tree ?_)
  show wpAny _ _ (again (.builtin "type.__call__" ⟨.type "KeyError" :: rest, []⟩)) _ _ _
  exact wpAny_pure ⟨Code.quiet_builtin _ (by decide +kernel), codeAny_builtin entry_typeCall (keyErr_type (fun h' e hm => h h' e hm) hz)⟩
end
section
variable {prog : Program} {w : World} {A : Around} {E : Value → Shared → Prop} {s : Shared} {env : Env}
/-- raise KeyError(..) inside the handler of e1 -/
theorem Raise_key_in {x : Str} {np cpos pos : Pos} {e₀ : PySem.Expr} {args : List PySem.Expr} {e1 : Addr} {Q : Flow → Shared → Prop}
    (hh : A.handled = some (.ref e1))
    (h : wpAny (model prog w) A (eval (.Name x np) env) (fun f s₁ => f = .type "KeyError" ∧ wpAny (model prog w) A (spliced (backTo cpos (starEach (e₀ :: args) env)))
      (fun vs s₂ => vs.length ≤ sizeLine ∧ ∃ o1 vs1, s₂.heap.get? e1 = some o1 ∧ o1.data = .fields vs1 ∧ vs1[2]? = some .none ∧
        ∀ h' e, Heap.MadeExc s₂.heap h' e "KeyError" vs → E (.ref e) { s₂ with heap := h'.update e (Obj.mapFields (·.setIfInBounds 2 (.ref e1))) }) E s₁) E s)
    (he : starEach (e₀ :: args) env = (false, eval e₀ env) :: starEach args env := by rfl) (hplain : (backTo cpos (starEach args env)).any (·.1) = false := by rfl) :
    wpAny (model prog w) A (exec (.Raise (some (.Call (.Name x np) (e₀ :: args) [] cpos)) none pos) env) Q E s := by
  refine wpAny_Raise_in keyErrRaise hh (wpAny_Call_ofName (wpAny_mono h (fun f s₁ h₁ => ?_) fun _ _ x => x))
  obtain ⟨rfl, h₁⟩ := h₁
  refine callWith_excType (by rw [he]; show (false || (backTo cpos (starEach args env)).any (·.1)) = false; rw [hplain]; rfl) ?_
  rw [he] at h₁ ⊢
  refine Calls.evalArgs_plain (wpAny_mono h₁ (fun vs s₂ h₂ => ?_) fun _ _ y => y)
  obtain ⟨hlen, o1, vs1, h1, hd1, h2, h₂⟩ := h₂
  obtain ⟨hp, g, d, tk, os⟩ := s₂
  refine keyErr_call (fun h' e hm => ?_) hlen
  have hm' := hm
  obtain ⟨t, ht, _, _⟩ := hm.there
  have hne : e1 ≠ e := by
    intro z
    have hn := hm'.new
    have h1' : hp.get? e1 = some o1 := h1
    rw [z] at h1'
    rw [h1'] at hn
    cases hn
  exact ⟨e, t, o1, vs1, rfl, ht, hne, hm'.keeps _ _ h1, hd1, h2, h₂ h' e hm⟩
end
end Mine
end
section
open PySem PySem.W PySem.Spec PySem.Calls PyProof.Rows
namespace Mine
/-- an exception newly made, whatever its context -/
structure NewCtx (h h' : Heap) (e : Addr) (cls : String) : Prop where
  keeps : ∀ b o, b ≠ e → h.get? b = some o → h'.get? b = some o
  new : h.get? e = none
  there : ∃ ob vs a0, h'.get? e = some ob ∧ ob.cls = .type cls ∧ ob.data = .fields vs ∧ vs[0]? = some a0 ∧ vs[1]? = some .none
theorem NewCtx.of {h h' : Heap} {e e1 : Addr} {cls : String} {vs : List Value} (m : Heap.MadeExc h h' e cls vs) : NewCtx h (h'.update e (Obj.mapFields (·.setIfInBounds 2 (.ref e1)))) e cls := by
  obtain ⟨t, ht, _, _⟩ := m.there
  refine ⟨fun b o hb q => (Heap.get?_update_other _ _ (Ne.symm hb)).trans (m.keeps b o q), m.new, _, _, _, Heap.get?_update_self _ ht rfl, rfl, rfl, rfl, rfl⟩
section
variable {M : Model} {A : Around} {E : Value → Shared → Prop} {s' : Shared} {base g h : Heap} {outer : List Env} {L a e : Addr} {m : Str → Option Value} {name : Str} {scope : Scope} {cd : Value} {Q : Unit → Shared → Prop} {news : List (Addr × Obj)} {cls : String}
/-- such an exception leaves the frame in which it was raised -/
theorem leave_ctx (K : Below A base outer g) (hx : NewCtx h s'.heap e cls) (F : Fr g L h m) (N : News g L h news)
    (hQ : ∀ h', RaisedSN base g outer e (.type cls) news h' → g.UpToSlots h' → Q () { s' with heap := h' }) (hk : scope.kind = .function := by rfl) :
    wpAny M (A.deeper (envOf name scope L a cd)) (leaving (envOf name scope L a cd) (.ref e)) Q E s' := by
  have K' := K.push (name := name) (a := a) (cd := cd) F hk
  generalize hfs : (envOf name scope L a cd :: outer).filterMap (·.frame) = fs
  have mem : ∀ env ∈ (envOf name scope L a cd :: outer), ∀ b, env.frame = some b → b ∈ fs := fun env he b hb => by rw [← hfs]; exact List.mem_filterMap.mpr ⟨env, he, hb⟩
  have inF : ∀ b, b ∈ fs → b = L ∨ b ∈ outer.filterMap (·.frame) := fun b hb => kts_mem (by rw [hfs]; exact hb)
  have kp : ∀ b o, h.get? b = some o → s'.heap.get? b = some o := fun b o q => hx.keeps b o (fun z => by rw [z, hx.new] at q; cases q) q
  have low : ∀ b o, (hideAll h fs).get? b = some o → s'.heap.get? b = some o := fun b o q => kp b o (of_hideAll _ q)
  have en : (hideAll h fs).get? e = none := by
    cases q : (hideAll h fs).get? e with
    | none => rfl
    | some o => have z := of_hideAll _ q; rw [hx.new] at z; cases z
  have bs : base.StaysIn (hideAll h fs) := fun b o q => hideAll_get _ (K'.stays b o q) fun hm => by
    rw [← hfs] at hm; rw [(K'.frames.mem hm).1] at q; cases q
  have gs : ∀ b o, g.get? b = some o → b ∉ outer.filterMap (·.frame) → (hideAll h fs).get? b = some o := fun b o q nm => hideAll_get _ (F.keep b o q) fun hm => by
    rcases inF b hm with z | z
    · rw [z, kts_self F] at q; cases q
    · exact nm z
  have ls : ∀ q ∈ news, (hideAll h fs).get? q.1 = some q.2 ∧ g.get? q.1 = none ∧ base.get? q.1 = none := fun q hq => by
    refine ⟨hideAll_get _ (N q hq).1 fun hm => ?_, (N q hq).2.2, fresh_of_stays K.stays (N q hq).2.2⟩
    rcases inF q.1 hm with z | z
    · exact (N q hq).2.1 z
    · obtain ⟨o, ho, _⟩ := (K.frames.mem z).2
      rw [(N q hq).2.2] at ho; cases ho
  obtain ⟨ob, vs, a0, g1, g2, g3, g4, g5⟩ := hx.there
  have ff : s'.heap.FunFrames (hideAll h fs) (envOf name scope L a cd :: outer) := (funFrames_hide K'.frames mem).of_keeps fun b o hb _ => ⟨o, kp b o hb, rfl⟩
  refine wpAny_leaving_firstW (a0 := a0) K'.stack ff rfl g1 low en g3 g5 g4 fun h' left => ?_
  obtain ⟨k1, ⟨_, _, k2⟩, k3, k4⟩ := left
  exact hQ h' ⟨_, a0, bs, gs, ls, k1, en, k2, by rw [← g2]; exact k3⟩ (((Heap.UpToSlots.of_keeps F.keep).trans (Heap.UpToSlots.of_keeps kp)).trans k4)
end
section
variable {prog : Program} {w : World} {A₀ : Around} {E : Value → Shared → Prop} {s' : Shared} {base h₀ G G₀ hc : Heap} {outer : List Env} {L a e : Addr} {m : Str → Option Value} {name : Str} {scope : Scope} {cd : Value}
  {b₀ : Stmt} {suite : List Stmt} {pos np : Pos} {rest : List ExceptHandler} {Q : Flow → Shared → Prop} {news news₀ : List (Addr × Obj)}
  {p : Program} {loose : List Str} {mean : ExcName → Option Value} {mg mb : Str → Option Value} {x : Str} {X T' : String} {Kf : Frag}
/-- an exception that flies out of a callee, caught by this frame's own try -/
theorem caught_fly (K : Below A₀ base outer h₀) (R : RaisedSN base G (envOf name scope L a cd :: outer) e (.type X) news s'.heap) (F : Fr h₀ L G₀ m) (U : Up base (envOf name scope L a cd :: outer) G₀ G) (N₀ : News h₀ L hc news₀) (hs : SubL news₀ news) (hsm : G.UpToSlots s'.heap)
    (X0 : Kf.In base) (T : Top p loose mean mg mb base) (e0 : nsIn Kf mainGlobals x = some none) (hv : bootBuiltins x = some (.type T'))
    (hexc : isSubtype (.type T') (.type "BaseException") = pure true) (hnt : isSubtype (.type ((Manifest.find? T').elim "type" fun y => y.metatype)) (.type "tuple") = pure false) (hsub : isSubtype (.type X) (.type T') = pure true)
    (k : ∀ h₁ h', Up base outer h₀ h₁ → Below A₀ base outer h₁ → Fr h₁ L h' m → News h₁ L h' news₀ →
      wpAny (model prog w) ((A₀.deeper (envOf name scope L a cd)).mark (some (.ref e))) (execs (b₀ :: suite) (envOf name scope L a cd)) Q E { s' with heap := h' })
    (hn : x ≠ "__name__" := by decide +kernel)
    (hk : scope.kind = .function := by rfl) (hxk : (envOf name scope L a cd).kindOf x = some .globalImplicit := by rfl) (hd : (x == ("__debug__" : Str)) = false := by decide)
    (hE : PassesOwnAt (model prog w) ((A₀.deeper (envOf name scope L a cd)).mark (some (.ref e))) (A₀.deeper (envOf name scope L a cd)) (envOf name scope L a cd) E := by passes_own) :
    wpAny (model prog w) (A₀.deeper (envOf name scope L a cd)) (noteFrame (.ref e) (envOf name scope L a cd))
      (fun _ s₂ => wpAny (model prog w) (A₀.deeper (envOf name scope L a cd)) (setFlight (.ref e) none) (fun _ s₃ =>
        wpAny (model prog w) (A₀.deeper (envOf name scope L a cd)) (handleBy (.ref e) (envOf name scope L a cd) (.ExceptHandler (some (.Name x np)) none (b₀ :: suite) pos :: rest)) Q E s₃) E s₂) E s' := by
  obtain ⟨B, a0, hB, hBG, hl, fl⟩ := R
  have hL : B.get? L = none := by
    obtain ⟨_, ⟨L', _, hf, hn', _⟩, _⟩ := fl.2.2.1
    obtain rfl : L = L' := Option.some.inj hf
    exact hn'
  refine wpAny_looks_onW (Around.frames_deeper K.stack) rfl fl fun h₄ held sm₄ => ?_
  refine wpAny_landsW held fun h₅ fl₅ sm₅ => ?_
  have sm : G₀.UpToSlots h₅ := U.up.trans (hsm.trans (sm₄.trans sm₅))
  have F₅ : Fr (asNow h₀ h₅) L h₅ m := ⟨sm.ns F.ns, fun b o q => asNow_keep q, by rw [show (asNow h₀ h₅).objs.size = h₀.objs.size from restr_size _ _ _]; exact F.above⟩
  have T₅ : Top p loose mean mg mb (asNow h₀ h₅) := T.keeps fun b o q => asNow_some (K.stays b o q) (fl₅.1 b o (hB b o q))
  obtain ⟨ob, g1, g2⟩ := fl₅.there
  refine wpAny_handleBy_builtin (X := X) (T := T') (b := true) hexc hnt hsub (ld_builtin_at F₅ T₅.g (mg_none_of X0 T.g e0) T₅.b ((T₅.builtins x hn).trans hv) ⟨rfl, ⟨ob, g1, g2⟩, ?_⟩ hk hxk hd)
  refine lands_againW fl₅ fun h₆ fl₆ sm₆ => ?_
  have sm' : G₀.UpToSlots h₆ := sm.trans sm₆
  have st6 : base.StaysIn h₆ := fun b o q => fl₆.1 b o (hB b o q)
  have F₆ : Fr (asNow h₀ h₆) L h₆ m := ⟨sm'.ns F.ns, fun b o q => asNow_keep q, by rw [show (asNow h₀ h₆).objs.size = h₀.objs.size from restr_size _ _ _]; exact F.above⟩
  have u : Up base outer h₀ (asNow h₀ h₆) := asNow_up (l := []) K.stays st6 (fun b o q hn => sm' b o (F.keep b o q) hn) (flyingW_base hB fl₆).2.2.1.2.2 K.frames
  exact wpAny_passesOwnAt hE (k _ h₆ u (u.below K) F₆ fun q hq => ⟨fl₆.1 _ _ (hl q (hs.mem q hq)).1, (fun z => by have y := (hl q (hs.mem q hq)).1; rw [z, hL] at y; cases y), asNow_none (N₀ q hq).2.2⟩)
end
section
variable {M : Model} {A : Around} {E : Value → Shared → Prop} {s' : Shared} {base g G G₀ hc : Heap} {outer : List Env} {L a e : Addr} {m : Str → Option Value} {name : Str} {scope : Scope} {cd : Value} {Q : Unit → Shared → Prop} {news news₀ : List (Addr × Obj)} {cls : Value}
/-- a flying exception leaves a frame whose callee's ground an inner catch has turned -/
theorem leave_up (K : Below A base outer g) (F : Fr g L G₀ m) (U : Up base (envOf name scope L a cd :: outer) G₀ G) (R : RaisedSN base G (envOf name scope L a cd :: outer) e cls news s'.heap) (hsm : G.UpToSlots s'.heap) (N₀ : News g L hc news₀) (hs : SubL news₀ news)
    (hQ : ∀ h' g₁, Up base outer g g₁ → Below A base outer g₁ → RaisedSN base g₁ outer e cls news₀ h' → g₁.UpToSlots h' → Q () { s' with heap := h' }) :
    wpAny M (A.deeper (envOf name scope L a cd)) (leaving (envOf name scope L a cd) (.ref e)) Q E s' := by
  obtain ⟨B, a0, hB, hBG, hl, fl⟩ := R
  refine wpAny_leaves_onW (Around.frames_deeper K.stack) rfl fl fun h' x1 x2 => ?_
  have up0 : G₀.UpToSlots h' := U.up.trans (hsm.trans x2)
  generalize hg : restr g.objs.size (fun b => (g.get? b).isSome && ((B.get? b).isSome || decide (b ∈ outer.filterMap (·.frame)))) h' = g₁
  have at_ : ∀ b, g₁.get? b = if b < g.objs.size ∧ ((g.get? b).isSome && ((B.get? b).isSome || decide (b ∈ outer.filterMap (·.frame)))) = true then h'.get? b else none := fun b => by rw [← hg]; exact restr_get
  have has : ∀ b o, g.get? b = some o → ((B.get? b).isSome || decide (b ∈ outer.filterMap (·.frame))) = true → g₁.get? b = h'.get? b := fun b o q z => by
    rw [at_ b, if_pos ⟨Heap.lt_size q, by rw [q, z]; rfl⟩]
  have inB : ∀ b o, g.get? b = some o → (∀ us, o.data ≠ .fields us) → ((B.get? b).isSome || decide (b ∈ outer.filterMap (·.frame))) = true := fun b o q nf => by
    by_cases hm : b ∈ outer.filterMap (·.frame)
    · simp [hm]
    · obtain ⟨sl, z⟩ := U.up b o (F.keep b o q) nf
      have y := hBG b _ z fun w => by
        rcases kts_mem w with w | w
        · rw [w, kts_self F] at q; cases q
        · exact hm w
      rw [y]; rfl
  have up1 : g.UpToSlots g₁ := fun b o q nf => by
    obtain ⟨sl, z⟩ := up0 b o (F.keep b o q) nf
    exact ⟨sl, (has b o q (inB b o q nf)).trans z⟩
  have back : ∀ b o, g₁.get? b = some o → h'.get? b = some o ∧ ((B.get? b).isSome || decide (b ∈ outer.filterMap (·.frame))) = true := fun b o q => by
    rw [at_ b] at q
    split at q
    · rename_i c
      have c2 := c.2
      rw [Bool.and_eq_true] at c2
      exact ⟨q, c2.2⟩
    · cases q
  have none_ : ∀ b, g.get? b = none → g₁.get? b = none := fun b q => by rw [at_ b, if_neg (by rw [q]; simp)]
  have u : Up base outer g g₁ := ⟨fun b o q => (has b o (K.stays b o q) (by rw [hB b o q]; rfl)).trans (x1.1 b o (hB b o q)), by rw [← hg]; exact restr_size _ _ _, none_, up1,
    K.frames.of_keeps fun b o q nf => let ⟨sl, z⟩ := up1 b o q nf; ⟨_, z, rfl⟩⟩
  refine hQ h' g₁ u (u.below K) ⟨B, a0, hB, fun b o q nm => ?_, fun q hq => ⟨(hl q (hs.mem q hq)).1, none_ _ (N₀ q hq).2.2, (hl q (hs.mem q hq)).2.2⟩, x1⟩ fun b o q _ => ⟨o.slots, (back b o q).1⟩
  obtain ⟨z1, z2⟩ := back b o q
  cases y : B.get? b with
  | none => rw [y] at z2; simp [nm] at z2
  | some o' => rw [x1.1 b o' y] at z1; exact z1
end
end Mine
end
section
open PySem PySem.W PySem.Spec PySem.Calls PyProof.Rows
namespace Mine
section
variable {prog : Program} (KK : Params → Frag) (q : Program) (knd : ∀ w, PySem.KeyKind prog w Str) (C : Addr) (on : Str)
/-- popitem of an empty cache: KeyError; the cache stays as it is -/
def PopNone (fn : Addr) : Prop :=
  ∀ {w : World} {s : Shared} {c : Loc} {cur : Int} {te : Tok} {o1 o2 : Obj} {base g : Heap} {fr : List Env} {gs mean mg mb lse} {R : Result → Shared → Prop},
  Sur KK q 350 w base g fr gs mean mg mb lse → c.Ok → Fit g (led w.params C on c cur te o1 o2) s.heap → o1.IsDictOf (knd w) ([] : List (Str × Value)) → o2.IsDictOf (knd w) ([] : List (Str × Value)) →
  (∀ g' h' tk' e, Up base fr g g' → RaisedSN base g' fr e (.type "KeyError") (led w.params C on c cur te o1 o2) h' → g'.UpToSlots h' → R (.error (.ref e)) { s with heap := h', toks := tk' }) →
  codeAny (model prog w) (arnd 350 350 fr gs) (.call (.ref fn) ⟨[.ref c.x], []⟩) R s
end
end Mine
end
section
open PySem PySem.W PySem.Spec PySem.Calls PyProof.Rows
set_option maxRecDepth 100000
namespace Mine
section
variable {prog : Program} {w : World} {K : Type} [DecidableEq K] {knd : PySem.KeyKind prog w K} {A : Around} {E : Value → Shared → Prop} {s : Shared} {h₀ : Heap} {L d it : Addr} {m : Str → Option Value} {news : List (Addr × Obj)} {g : Obj → List (Addr × Obj)} {o io : Obj} {kvs : List (K × Value)} {i ep : Nat}
/-- `__next__` of a dict's iterator at its end -/
theorem special_stop {Q : Option Value → Shared → Prop} (hh : A.handled = none) (hit : s.heap.IsKeyIter it d i kvs.length ep) (hm : s.heap.DictAt knd d kvs ep) (hx : kvs[i]? = none)
    (hQ : ∀ hu h' e, Heap.SameBut it s.heap hu → (∃ o', hu.get? it = some o') → Heap.NewExc hu h' e "StopIteration" → E (.ref e) { s with heap := h' }) :
    wpAny (model prog w) A (callSpecial? (.ref it) (Str.ofString "__next__")) Q E s := by
  obtain ⟨o, ho, hc, hd⟩ := id hit
  obtain ⟨od, es, hod, hcd, hdd, hk, hp, hn⟩ := id hm
  refine wpAny_callSpecial?_slot (name := Str.ofString "__next__") hit.typeIs PySem.F.slot_dict_keyiterator_next
    (wpAny_call_entry PySem.F.slot_dict_keyiterator_next hit.typeIs PySem.F.entry_dict_keyiterator_next ?_ (PySem.F.args_dict_keyiterator_next_1 _))
  refine wpAny_bind (wpAny_pure ?_)
  refine wpAny_bind ?_
  refine wpAny_bind ?_
  first | refine wpAny_bind (wpAny_typeNameOfWhole_keyiter hit.typeIs (wpAny_pure ?_)) | refine wpAny_bind (wpAny_typeNameOf_keyiter hit.typeIs (wpAny_pure ?_))
  refine wpAny_bind (wpAny_fieldsOf ho hd ?_)
  have hown : Builtin.Dict_items.ownsTuple "dict_keyiterator" = false := by decide
  simp only [hown, Bool.false_eq_true, if_false]
  show wpAny _ _ (if (Value.ref d == Value.none) = true then _ else _) _ _ s
  rw [if_neg (show ¬ ((Value.ref d == Value.none) = true) from Bool.false_ne_true)]
  refine wpAny_bind (wpAny_pure ?_)
  refine wpAny_bind (wpAny_dictEntries hod hdd ?_)
  have hsz : es.size = kvs.length := by rw [← hp.length]; simp
  rw [if_neg (by rw [hsz]; simp)]
  refine wpAny_bind (wpAny_pure ?_)
  refine wpAny_bind (wpAny_dictEpoch hod hdd ?_)
  rw [if_neg (by simp)]
  refine wpAny_pure ?_
  have hge : es.size ≤ i := by rw [hsz]; simpa using hx
  simp only [show ¬ ((i : Int) < 0) from by omega, if_false, Int.toNat_natCast, Array.getElem?_eq_none hge]
  refine wpAny_bind ?_
  first | refine wpAny_bind (wpAny_typeNameOfWhole_keyiter hit.typeIs (wpAny_pure ?_)) | refine wpAny_bind (wpAny_typeNameOf_keyiter hit.typeIs (wpAny_pure ?_))
  show wpAny _ _ (setField (.ref it) 0 .none >>= _) _ _ s
  refine wpAny_bind (wpAny_setField ho hd (by simp) ?_)
  show wpAny _ _ (newExc (.type "StopIteration") [] >>= _) _ _ _
  refine wpAny_bind ?_
  simp only [newExc, newTuple]
  refine wpAny_bind (wpAny_newObj_type ?_ (by size_fits))
  refine wpAny_bind (m := firstArgMember _ _) (wpAny_of_eq (a := Value.none) (by first | rfl | (simp only [firstArgMember]; rfl)) ?_)
  refine wpAny_newObj_type ?_ (by size_fits)
  simp only [raiseNew]
  refine wpAny_bind (wpAny_handled ?_)
  rw [show A.in1.handled = none from hh]
  refine wpAny_bind (wpAny_pure (wpAny_throw ?_))
  refine hQ (s.heap.update it (Obj.mapFields (·.setIfInBounds 0 .none))) _ _ (Heap.SameBut.update ..) ?_ ?_
  · exact ⟨_, Heap.get?_update_self _ ho (Obj.isFreed_of_fields (Obj.data_mapFields hd _))⟩
  · have e0 : ownMembersOf (Value.type "StopIteration") [] = #[] := by first | rfl | decide +kernel | kernel_rfl
    refine ⟨fun b o e => Heap.get?_push_of_some _ (Heap.get?_push_of_some _ e), Heap.get?_none_of_le ?_, ⟨_, .ref (s.heap.update it (Obj.mapFields (·.setIfInBounds 0 .none))).objs.size, Heap.get?_push_size _ rfl, rfl, ?_⟩⟩
    · rw [Heap.size_push]; exact Nat.le_succ _
    · rw [e0]; rfl
/-- next() of a dict's iterator at its end -/
theorem next_stop {Q : Value → Shared → Prop} (hh : A.handled = none) (F : Fr h₀ L s.heap m) (N : News h₀ L s.heap news) (U : UpdF it io news g) (hi : KdkIter io d i kvs.length ep) (ha : KdkAt knd o kvs ep) (hp : (d, o) ∈ news) (hx : kvs[i]? = none)
    (h : ∀ hu h' e o', Fr h₀ L hu m → News h₀ L hu (g o') → Heap.NewExc hu h' e "StopIteration" → E (.ref e) { s with heap := h' }) :
    wpAny (model prog w) A (call (.builtin "next") [.ref it]) Q E s := by
  obtain ⟨pre, post, hl, hg, a, b⟩ := U.split
  have hmem : (it, io) ∈ news := by rw [hl]; exact List.mem_append_right _ (.head _)
  have hm := N (it, io) hmem
  have hit := hi.at hm.1
  refine call_function_entry (by decide +kernel) (by decide +kernel) kdk_entry_next (kdk_args_next _) ?_
  unfold Builtin.«next»
  refine wpAny_bind (m := someArgs "next" 1 2 _) (wpAny_of_eq (a := [Value.ref it]) (by first | rfl | kernel_rfl!) ?_)
  dsimp only
  refine wpAny_bind (wpAny_specialOf (name := Str.ofString "__next__") hit.typeIs PySem.F.slot_dict_keyiterator_next.lookup ?_)
  refine wpAny_ite_split (fun hab => absurd hab (by decide)) (fun _ => ?_)
  refine wpAny_bind (special_stop (A := A.in1) hh hit (ha.dictAt (N _ hp).1) hx fun hu h' e hs ho' ne => ?_)
  obtain ⟨o', ho'⟩ := ho'
  exact h hu h' e o' (F.change hs hm.2.1 hm.2.2) (hg o' ▸ (show News h₀ L s.heap (pre ++ (it, io) :: post) from hl ▸ N).setIn a b hs ho') ne
end
theorem stop_isExc : isSubtype (.type "StopIteration") (.type "BaseException") = pure true := by rw [isSubtype_type]; kernel_rfl
theorem stop_notTuple : isSubtype (.type ((Manifest.find? "StopIteration").elim "type" fun y => y.metatype)) (.type "tuple") = pure false := by
  first
    | (rw [isSubtype_type]; kernel_rfl)
    | exact kr_notTuple_KeyError
end Mine
end
section
open PySem PySem.W PySem.Spec PySem.Calls PyProof.Rows
set_option maxRecDepth 100000
namespace Mine
section
variable {prog : Program} {w : World} {A : Around} {E : Value → Shared → Prop} {s : Shared} {env : Env}
/-- what `from None` leaves of an exception's object, raised inside the handler of e1 -/
abbrev fromNone (h : Heap) (e e1 : Addr) : Heap := ((h.update e (Obj.mapFields (·.setIfInBounds 3 .none))).update e (Obj.mapFields (·.setIfInBounds 4 (.bool true)))).update e (Obj.mapFields (·.setIfInBounds 2 (.ref e1)))
set_option maxHeartbeats 1000000 in
theorem wpAny_raiseStmt_from {cls : String} (F : ExcRaiseFacts cls) {x c : Sem Value} {e1 : Addr} {Q : Flow → Shared → Prop} (hh : A.handled = some (.ref e1))
    (h : wpAny (model prog w) A x (fun v s₁ => wpAny (model prog w) A c (fun cv s₂ => cv = .none ∧ ∃ e t o1 vs1, v = .ref e ∧ s₂.heap.get? e = some (fresh6 cls t) ∧ e1 ≠ e ∧ s₂.heap.get? e1 = some o1 ∧ o1.data = .fields vs1 ∧ vs1[2]? = some .none ∧
      E (.ref e) { s₂ with heap := fromNone s₂.heap e e1 }) E s₁) E s) :
    wpAny (model prog w) A (raiseStmt env (some x) (some c)) Q E s := by
  unfold raiseStmt
  refine wpAny_bind (wpAny_mono h (fun v s₁ h₁ => ?_) fun _ _ x => x)
  refine wpAny_bind (wpAny_holding (wpAny_mono h₁ (fun cv s₂ h₂ => wpAny_bind (wpAny_pure ?_)) fun _ _ x => x))
  obtain ⟨rfl, e, t, o1, vs1, rfl, he, hne, h1, hd1, h2, hE⟩ := h₂
  obtain ⟨hp, g, d, tk, os⟩ := s₂
  have hsub := F.isExc
  have hmeta := F.plainMeta
  have he' : hp.get? e = some { cls := .type cls, data := .fields #[.ref t, .none, .none, .none, .bool false, .none] } := he
  have g3 : (hp.update e (Obj.mapFields (·.setIfInBounds 3 .none))).get? e = some { cls := .type cls, data := .fields #[.ref t, .none, .none, .none, .bool false, .none] } := by rw [Heap.get?_update_self _ he' rfl]; rfl
  have g4 : ((hp.update e (Obj.mapFields (·.setIfInBounds 3 .none))).update e (Obj.mapFields (·.setIfInBounds 4 (.bool true)))).get? e = some { cls := .type cls, data := .fields #[.ref t, .none, .none, .none, .bool true, .none] } := by rw [Heap.get?_update_self _ g3 rfl]; rfl
  have k1 : ((hp.update e (Obj.mapFields (·.setIfInBounds 3 .none))).update e (Obj.mapFields (·.setIfInBounds 4 (.bool true)))).get? e1 = some o1 := by
    rw [Heap.get?_update_other _ _ hne.symm, Heap.get?_update_other _ _ hne.symm]; exact h1
  repeat (first | with_reducible refine wpAny_loadPart he' ?_ | wp_step)
  exact wpAny_raiseNew_in hh hne g4 rfl (by show 2 < 6; decide) k1 hd1 h2 hE
theorem wpAny_Raise_from {cls : String} (F : ExcRaiseFacts cls) {x c : PySem.Expr} {pos : Pos} {e1 : Addr} {Q : Flow → Shared → Prop} (hh : A.handled = some (.ref e1))
    (h : wpAny (model prog w) A (eval x env) (fun v s₁ => wpAny (model prog w) A (eval c env) (fun cv s₂ => cv = .none ∧ ∃ e t o1 vs1, v = .ref e ∧ s₂.heap.get? e = some (fresh6 cls t) ∧ e1 ≠ e ∧ s₂.heap.get? e1 = some o1 ∧ o1.data = .fields vs1 ∧ vs1[2]? = some .none ∧
      E (.ref e) { s₂ with heap := fromNone s₂.heap e e1 }) E s₁) E s) :
    wpAny (model prog w) A (exec (.Raise (some x) (some c) pos) env) Q E s := by
  rw [arm_exec_Raise]
  show wpAny (model prog w) A (do standAt pos; raiseStmt env (some (do let v ← eval x env; standAt pos; pure v)) (some (do let v ← eval c env; standAt pos; pure v))) Q E s
  exact wpAny_bind (wpAny_standAt (wpAny_raiseStmt_from F hh (wpAny_bind (wpAny_mono h (fun v s₁ h₁ => wpAny_bind (wpAny_standAt (wpAny_pure (wpAny_bind (wpAny_mono h₁ (fun cv s₂ h₂ => wpAny_bind (wpAny_standAt (wpAny_pure h₂))) fun _ _ x => x))))) fun _ _ x => x))))
/-- raise KeyError(..) from None, inside the handler of e1 -/
theorem Raise_key_from {x : Str} {np cpos pos : Pos} {e₀ c : PySem.Expr} {args : List PySem.Expr} {e1 : Addr} {Q : Flow → Shared → Prop}
    (hh : A.handled = some (.ref e1)) (hc : ∀ (s' : Shared) (Q' : Value → Shared → Prop), Q' .none s' → wpAny (model prog w) A (eval c env) Q' E s')
    (h : wpAny (model prog w) A (eval (.Name x np) env) (fun f s₁ => f = .type "KeyError" ∧ wpAny (model prog w) A (spliced (backTo cpos (starEach (e₀ :: args) env)))
      (fun vs s₂ => vs.length ≤ sizeLine ∧ ∃ o1 vs1, s₂.heap.get? e1 = some o1 ∧ o1.data = .fields vs1 ∧ vs1[2]? = some .none ∧
        ∀ h' e, Heap.MadeExc s₂.heap h' e "KeyError" vs → E (.ref e) { s₂ with heap := fromNone h' e e1 }) E s₁) E s)
    (he : starEach (e₀ :: args) env = (false, eval e₀ env) :: starEach args env := by rfl) (hplain : (backTo cpos (starEach args env)).any (·.1) = false := by rfl) :
    wpAny (model prog w) A (exec (.Raise (some (.Call (.Name x np) (e₀ :: args) [] cpos)) (some c) pos) env) Q E s := by
  refine wpAny_Raise_from keyErrRaise hh (wpAny_Call_ofName (wpAny_mono h (fun f s₁ h₁ => ?_) fun _ _ x => x))
  obtain ⟨rfl, h₁⟩ := h₁
  refine callWith_excType (by rw [he]; show (false || (backTo cpos (starEach args env)).any (·.1)) = false; rw [hplain]; rfl) ?_
  rw [he] at h₁ ⊢
  refine Calls.evalArgs_plain (wpAny_mono h₁ (fun vs s₂ h₂ => ?_) fun _ _ y => y)
  obtain ⟨hlen, o1, vs1, h1, hd1, h2, h₂⟩ := h₂
  obtain ⟨hp, g, d, tk, os⟩ := s₂
  refine keyErr_call (fun h' e hm => ?_) hlen
  have hm' := hm
  obtain ⟨t, ht, _, _⟩ := hm.there
  have hne : e1 ≠ e := by
    intro z
    have hn := hm'.new
    have h1' : hp.get? e1 = some o1 := h1
    rw [z] at h1'
    rw [h1'] at hn
    cases hn
  exact hc _ _ ⟨rfl, e, t, o1, vs1, rfl, ht, hne, hm'.keeps _ _ h1, hd1, h2, h₂ h' e hm⟩
theorem NewCtx.from {h h' : Heap} {e e1 : Addr} {cls : String} {vs : List Value} (m : Heap.MadeExc h h' e cls vs) : NewCtx h (fromNone h' e e1) e cls := by
  obtain ⟨t, ht, _, _⟩ := m.there
  have g3 := Heap.get?_update_self (Obj.mapFields (·.setIfInBounds 3 Value.none)) ht rfl
  have g4 := Heap.get?_update_self (Obj.mapFields (·.setIfInBounds 4 (Value.bool true))) g3 rfl
  refine ⟨fun b o hb q => (Heap.get?_update_other _ _ (Ne.symm hb)).trans ((Heap.get?_update_other _ _ (Ne.symm hb)).trans ((Heap.get?_update_other _ _ (Ne.symm hb)).trans (m.keeps b o q))), m.new, _, _, _, Heap.get?_update_self _ g4 rfl, rfl, rfl, rfl, rfl⟩
end
end Mine
end
section
open PySem PySem.W PySem.Spec PySem.Calls PyProof.Rows Builtin Builtin.ObjectAttr Builtin.Getset_descriptor
set_option maxRecDepth 100000
namespace Mine
section
variable {prog : Program} {w : World} {A : Around} {E : Value → Shared → Prop} {s : Shared} {K : Frag} {R : Result → Shared → Prop} {C : Addr} {mc : Value} {nm : Str} {t : Tok} {o : Obj} {h₀ : Heap} {L : Addr} {m : Str → Option Value}
theorem ktyn_dgaO (d tp : Value) (C : Addr) : descrGetArgs ⟨[d, .ref C, tp], []⟩ = pure (d, some (.ref C), given tp) := by kernel_rfl
theorem ktyn_getO (X : K.In s.heap) (hl : s.heap.get? C = some o) (hsl : o.slots[2]? = some (some (.str nm t))) (ht : typeIn K (.ref C) = some mc) (hsub : subIn K mc (.type "type") = some true) (h : R (.ok (.ret (.str nm t))) s) :
    codeAny (model prog w) A (.call (.builtin "getset_descriptor.__get__") ⟨[.builtin "type.__name__", .ref C, mc], []⟩) R s := by
  obtain ⟨hh, g, dr, tk, os⟩ := s
  have L0 : Looks (model prog w) hh (typeOf (.ref C)) mc := looks_typeIn X ht
  have L1 : Looks (model prog w) hh (isSubtype mc (.type "type")) true := looks_subIn X hsub
  refine codeAny_call_builtin KF.slot_gs.plain KF.entry_gs (KF.slot_gs.check _ _ _ _ _ _ _ _ ktyn_type (KF.args_gs _ _ _) ?_)
  unfold Builtin.«getset_descriptor.__get__» descrGet
  rw [ktyn_dgaO]
  refine wpAny_bind (wpAny_pure ?_)
  unfold descrGetter descrCheckInstance descrNameAndClass isInstance
  simp only [ktyn_owner]
  repeat lk
  refine ⟨Code.quiet_builtin _ (by decide +kernel), codeAny_builtin ktyn_entry ?_⟩
  unfold Builtin.«type.__name__»
  dsimp only
  unfold keptObject slotAt
  dsimp only
  refine wpAny_bind (wpAny_bind (wpAny_loadPart hl ?_))
  rw [hsl]
  exact wpAny_pure (wpAny_pure h)
/-- an own class's name, as the class object keeps it -/
theorem own_name {expr : Bool} {Q : Value → Shared → Prop} (F : Fr h₀ L s.heap m) (X₀ : K.In h₀) (hl : K.lookup C = some o) (hsl : o.slots[2]? = some (some (.str nm t))) (_hm : typeIn K (.ref C) = some mc) (hr : readsIn K C mc = true)
    (e : findCls K (.ref C) mc "__name__" = some (.get (.builtin "getset_descriptor.__get__") (.builtin "type.__name__") (.ref C) mc)) (h : ∀ u, Q (.str nm t) { s with toks := u }) : wpAny (model prog w) A (getAttr (.ref C) "__name__" expr) Q E s := by
  have X := X₀.keeps F.keep
  have hr' := hr
  simp only [readsIn, Bool.and_eq_true, beq_iff_eq] at hr'
  obtain ⟨⟨⟨⟨_, b⟩, _⟩, _⟩, f⟩ := hr'
  exact cls_bind X hr e (wpAny_call (ktyn_getO (s := { s with toks := s.toks + 1 }) X (X _ _ hl) hsl b f (handed_on rfl (h _))))
end
theorem raised_less {base g h' : Heap} {fr : List Env} {e : Addr} {cls : Value} {news own : List (Addr × Obj)} (R : RaisedSN base g fr e cls news h') (hs : SubL own news) : RaisedSN base g fr e cls own h' :=
  let ⟨B, a0, hB, hBG, hl, fl⟩ := R
  ⟨B, a0, hB, hBG, fun q hq => hl q (hs.mem q hq), fl⟩
end Mine
end
section
open PySem PySem.W PySem.Spec PySem.Calls PyProof.Rows
set_option maxRecDepth 100000
namespace Mine
/-- an exception in flight at the law's own frame: what the law knew stays -/
def Aloft (h₀ : Heap) (L : Addr) (env : Env) (m : Str → Option Value) (e : Addr) (X : String) (news : List (Addr × Obj)) (h' : Heap) : Prop :=
  ∃ B a0, h₀.StaysIn B ∧ (∀ q ∈ news, B.get? q.1 = some q.2 ∧ q.1 ≠ L ∧ h₀.get? q.1 = none) ∧ Heap.FlyingW B [env] e (.type X) a0 h' ∧ h'.Ns L m ∧ h₀.objs.size ≤ L
section
variable {prog : Program} {KK : Params → Frag} {q : Program} {knd : ∀ w, PySem.KeyKind prog w Str} {C : Addr} {on : Str} {fn : Addr} {w : World} {s : Shared}
variable {A : Around} {E : Value → Shared → Prop} {h₀ : Heap} {env : Env} {L : Addr} {m mg mb : Str → Option Value} {lse : List Str} {mean : ExcName → Option Value} {c : Loc} {objs news : List (Addr × Obj)}
/-- popitem of an empty cache, called by the law -/
theorem PopNone.law {Q : Value → Shared → Prop} (d : PopNone KK q knd C on fn) (F : Fr h₀ L s.heap m) (X : (KK w.params).In h₀) (N : News h₀ L s.heap news) (T : Top q lse mean mg mb h₀) (hh : A.handled = none) (hA : A.frames = some [env]) (hf : env.frame = some L) (hke : env.scope.kind = .function) (hd : A.depth ≤ 350) (hu : A.units ≤ 350)
    (hc : CellIs w.params (knd w) C on c [] objs) (so : ∀ p ∈ objs, p ∈ news)
    (h : ∀ h' tk' e, Aloft h₀ L env m e "KeyError" news h' → E (.ref e) { s with heap := h', toks := tk' }) : wpAny (model prog w) A (call (.ref fn) [.ref c.x]) Q E s := by
  obtain ⟨te, o1, o2, kvs, rfl, D1, D2, kv, hn, hl, m1, m9, ok⟩ := hc
  obtain rfl : kvs = [] := List.length_eq_zero_iff.mp kv.len
  refine wpAny_call ?_
  generalize hown : led w.params C on c (([] : Seg).length : Int) te o1 o2 = own at so
  have hL₀ : h₀.get? L = none := Heap.get?_none_of_le F.above
  have No : ∀ p ∈ own, s.heap.get? p.1 = some p.2 ∧ p.1 ≠ L ∧ h₀.get? p.1 = none := fun p hp => N p (so p hp)
  obtain ⟨oL, es, ep, hL, hLd, hLk, hLf⟩ := F.ns
  have nL : L ∉ own.map (·.1) := fun z => by
    obtain ⟨p, hp, e⟩ := List.mem_map.mp z
    exact (No p hp).2.1 e
  have n0 : ∀ b o, h₀.get? b = some o → b ∉ own.map (·.1) := fun b o e z => by
    obtain ⟨p, hp, rfl⟩ := List.mem_map.mp z
    rw [(No p hp).2.2] at e; cases e
  have gL : (hideAll s.heap (own.map (·.1))).get? L = some oL := hideAll_get _ hL nL
  have bst : ∀ b o, s.heap.get? b = some o → b ∉ own.map (·.1) → b ≠ L → (hideAll (hideAll s.heap (own.map (·.1))) [L]).get? b = some o := fun b o e hb hl => hideAll_get _ (hideAll_get _ e hb) (by simpa using hl)
  have st0 : h₀.StaysIn (hideAll (hideAll s.heap (own.map (·.1))) [L]) := fun b o e => bst b o (F.keep b o e) (n0 b o e) (fun z => by rw [z, hL₀] at e; cases e)
  have B : Below (arnd 350 350 [env] A.guards) (hideAll (hideAll s.heap (own.map (·.1))) [L]) [env] (hideAll s.heap (own.map (·.1))) :=
    ⟨rfl, fun b o e => of_hideAll _ e, Heap.FunFrames.cons (by rw [hke]; decide) hf ⟨oL, es, ep, gL, hLd, hLk, hLf⟩ (hideAll_none _ (List.mem_singleton.mpr rfl)) trivial⟩
  have ft : Fit (hideAll s.heap (own.map (·.1))) own s.heap := ⟨fun b o e => of_hideAll _ e, Nat.le_of_eq (hideAll_size _ _), fun p hp => ⟨(No p hp).1, hideAll_none _ (List.mem_map_of_mem hp)⟩⟩
  subst hown
  refine code_up (d (R := _) ⟨B, Nat.le_of_eq (hideAll_size _ _), X.keeps st0, T.keeps st0⟩ ok ft D1 D2 fun g' h' tk' e u hR hsm => ?_) hh hA hd hu
  obtain ⟨Bx, a0, hB, hBG, hl', fl⟩ := hR
  have hLx : Bx.get? L = none := by
    obtain ⟨_, ⟨L', _, hf', hn', _⟩, _⟩ := fl.2.2.1
    obtain rfl : L = L' := Option.some.inj (hf.symm.trans hf')
    exact hn'
  refine h h' tk' e ⟨Bx, a0, fun b o z => hB b o (st0 b o z), fun p hp => ?_, fl, (u.up.trans hsm).ns ⟨oL, es, ep, gL, hLd, hLk, hLf⟩, F.above⟩
  have z := N p hp
  refine ⟨?_, z.2⟩
  by_cases hm : p.1 ∈ (led w.params C on c (([] : Seg).length : Int) te o1 o2).map (·.1)
  · obtain ⟨r, hr, er⟩ := List.mem_map.mp hm
    have z1 := (No r hr).1
    rw [er, z.1] at z1
    have : p = r := Prod.ext er.symm (Option.some.inj z1)
    rw [this]
    exact (hl' r hr).1
  · exact hB _ _ (bst _ _ z.1 hm z.2.1)
end
section
variable {prog : Program} {w : World} {A : Around} {E : Value → Shared → Prop} {s' : Shared} {h₀ : Heap} {L a e : Addr} {m : Str → Option Value} {name : Str} {scope : Scope} {cd : Value}
  {b₀ : Stmt} {suite : List Stmt} {pos np : Pos} {rest : List ExceptHandler} {Q : Flow → Shared → Prop} {news : List (Addr × Obj)}
  {p : Program} {loose : List Str} {mean : ExcName → Option Value} {mg mb : Str → Option Value} {x : Str} {X T' : String} {Kf : Frag}
/-- an exception that flies out of a callee, caught by the law's own try -/
theorem caught_law (hA : A.frames = some [envOfC name scope L a cd]) (R : Aloft h₀ L (envOfC name scope L a cd) m e X news s'.heap)
    (X0 : Kf.In h₀) (T : Top p loose mean mg mb h₀) (e0 : nsIn Kf mainGlobals x = some none) (hv : bootBuiltins x = some (.type T'))
    (hexc : isSubtype (.type T') (.type "BaseException") = pure true) (hnt : isSubtype (.type ((Manifest.find? T').elim "type" fun y => y.metatype)) (.type "tuple") = pure false) (hsub : isSubtype (.type X) (.type T') = pure true)
    (hE : PassesOwnAt (model prog w) (A.mark (some (.ref e))) A (envOfC name scope L a cd) E)
    (k : ∀ h', Fr h₀ L h' m → News h₀ L h' news →
      wpAny (model prog w) (A.mark (some (.ref e))) (execs (b₀ :: suite) (envOfC name scope L a cd)) Q E { s' with heap := h' })
    (hn : x ≠ "__name__" := by decide +kernel)
    (hk : scope.kind = .function := by rfl) (hxk : (envOfC name scope L a cd).kindOf x = some .globalImplicit := by rfl) (hd : (x == ("__debug__" : Str)) = false := by decide) :
    wpAny (model prog w) A (noteFrame (.ref e) (envOfC name scope L a cd))
      (fun _ s₂ => wpAny (model prog w) A (setFlight (.ref e) none) (fun _ s₃ =>
        wpAny (model prog w) A (handleBy (.ref e) (envOfC name scope L a cd) (.ExceptHandler (some (.Name x np)) none (b₀ :: suite) pos :: rest)) Q E s₃) E s₂) E s' := by
  obtain ⟨B, a0, hB, hl, fl, ns, ab⟩ := R
  refine wpAny_looks_onW hA rfl fl fun h₄ held sm₄ => ?_
  refine wpAny_landsW held fun h₅ fl₅ sm₅ => ?_
  have sm : s'.heap.UpToSlots h₅ := sm₄.trans sm₅
  have F₅ : Fr h₀ L h₅ m := ⟨sm.ns ns, fun b o q => fl₅.1 b o (hB b o q), ab⟩
  obtain ⟨ob, g1, g2⟩ := fl₅.there
  refine wpAny_handleBy_builtin (X := X) (T := T') (b := true) hexc hnt hsub (Calls.Name_function_global hk hxk (Calls.loadGlobal_builtin (env := envOfC name scope L a cd) (T.g.keeps F₅.keep) (mg_none_of X0 T.g e0) (T.b.keeps F₅.keep) ((T.builtins x hn).trans hv) ⟨rfl, ⟨ob, g1, g2⟩, ?_⟩) hd)
  refine lands_againW fl₅ fun h₆ fl₆ sm₆ => ?_
  have sm' : s'.heap.UpToSlots h₆ := sm.trans sm₆
  exact wpAny_passesOwnAt hE (k h₆ ⟨sm'.ns ns, fun b o q => fl₆.1 b o (hB b o q), ab⟩ fun q hq => ⟨fl₆.1 _ _ (hl q hq).1, (hl q hq).2⟩)
end
end Mine
end
section
open PySem PySem.W PySem.Spec PySem.Calls PyProof.Rows PyProof.Rows.LCg
set_option maxRecDepth 100000
namespace Mine
section
variable {prog : Program} {KK : Params → Frag} {q : Program} {knd : ∀ w, PySem.KeyKind prog w Str} {C gfn sfn pfn : Addr} {on : Str}
variable {w : World} {s : Shared} {A : Around} {E : Value → Shared → Prop} {h₀ : Heap} {env : Env} {L : Addr} {m mm mg mb : Str → Option Value} {lse : List Str} {mean : ExcName → Option Value} {σ : LSt} {b : Cell}
theorem Lq.popiMB {Q : Value × List Value → Shared → Prop} {pl : Sem Bool} (xs : List (Addr × Obj)) (cf : ClsF (KK w.params) C on gfn sfn pfn) (S : Lq w (knd w) C on L m σ) (F : Fr h₀ L s.heap mm) (X : (KK w.params).In h₀) (N : News h₀ L s.heap (xs ++ (cel5 L σ ++ σ.all))) (hb : b ∈ σ.W :: σ.cs)
    (h : Q (.ref pfn, [.ref b.c.x]) s) : wpAny (model prog w) A (getMethod (.ref b.c.x) (Str.ofString "popitem") pl) Q E s := by
  obtain ⟨es, I, _, hp⟩ := S.H.inst (b := b) N (fun p hp => List.mem_append_right _ (List.mem_append_right _ hp)) hb cf.on_
  exact method_inst F X I cf.popiG cf.popi cf.popiF hp h
/-- popitem of an empty cache -/
theorem Lq.popiNone {Q : Value → Shared → Prop} (xs : List (Addr × Obj)) (d : PopNone KK q knd C on pfn) (S : Lq w (knd w) C on L m σ) (F : Fr h₀ L s.heap mm) (X : (KK w.params).In h₀) (N : News h₀ L s.heap (xs ++ (cel5 L σ ++ σ.all))) (T : Top q lse mean mg mb h₀) (hh : A.handled = none) (hA : A.frames = some [env]) (hf : env.frame = some L) (hke : env.scope.kind = .function) (hd : A.depth ≤ 330) (hu : A.units ≤ 330)
    (hb : b ∈ σ.W :: σ.cs) (he : b.seg = [])
    (h : ∀ h' tk' e, Aloft h₀ L env mm e "KeyError" (xs ++ (cel5 L σ ++ σ.all)) h' → E (.ref e) { s with heap := h', toks := tk' }) :
    wpAny (model prog w) A (call (.ref pfn) [.ref b.c.x]) Q E s := by
  obtain ⟨objs, h1, h2⟩ := S.H.has b hb
  rw [he] at h1
  exact d.law F X N T hh hA hf hke (Nat.le_trans hd (by decide)) (Nat.le_trans hu (by decide)) h1 (fun p hp => List.mem_append_right _ (List.mem_append_right _ (h2 p hp))) h
variable (w knd C on h₀ L)
/-- ahead of a turn of `for cache in [whole] + chain` -/
def FJ (σ : LSt) (s : Shared) (i : Nat) (I ax : Addr) (s' : Shared) : Prop :=
  ∃ h tk m' all oI nx t, s' = { s with heap := h, toks := tk } ∧ Fr h₀ L h m' ∧ News h₀ L h ((I, oI) :: (cel5 L σ ++ all)) ∧ Off I (cel5 L σ ++ all) ∧ h.IsListIter I ax i ∧ (ax, W.listOf (refs (σ.W :: σ.cs)).toArray nx) ∈ all ∧
    Lq w (knd w) C on L m' { σ with all := all } ∧ m' (Str.ofString "refused") = some (.int (i : Int) t)
end
end Mine
end
section
open PySem PySem.W PySem.Spec PySem.Calls PyProof.Rows PyProof.V
set_option maxRecDepth 100000
namespace Mine
section
variable {prog : Program} (KK : Params → Frag) (q : Program) (knd : ∀ w, PySem.KeyKind prog w Str) (C : Addr) (on : Str)
/-- __init__ of a cache that is just laid -/
def InitOp (fn : Addr) : Prop :=
  ∀ {w : World} {s : Shared} {x dx : Addr} {r : Int} {tr : Tok} {base g : Heap} {fr : List Env} {gs mean mg mb lse} {R : Result → Shared → Prop},
  Sur KK q 350 w base g fr gs mean mg mb lse → @LT.lt Nat _ dx x → 1 ≤ r → r ≤ 9 → Fit g [(x, instObj C dx), (dx, emptyDict)] s.heap →
  (∀ g' h' tk' c te o1 o2, Up base fr g g' → Fit g' (led w.params C on c 0 te o1 o2) h' → o1.IsDictOf (knd w) ([] : List (Str × Value)) → o2.IsDictOf (knd w) ([] : List (Str × Value)) → c.Ok → c.x = x → c.dx = dx → c.mx = r → R (.ok (.ret .none)) { s with heap := h', toks := tk' }) →
  codeAny (model prog w) (arnd 350 350 fr gs) (.call (.ref fn) ⟨[.ref x, .int r tr], []⟩) R s
end
section
variable {prog : Program} {KK : Params → Frag} {q : Program} {D fn : Addr} {as : List Value} {own rest news : List (Addr × Obj)} {w : World} {s : Shared} {Post : Value → List (Addr × Obj) → Prop}
variable {A : Around} {E : Value → Shared → Prop} {h₀ : Heap} {env : Env} {L : Addr} {m mg mb : Str → Option Value} {lse : List Str} {mean : ExcName → Option Value}
/-- Callee.law, of a code -/
theorem Callee.lawR {R : Result → Shared → Prop} (d : Callee (prog := prog) KK q D fn as own w s Post) (F : Fr h₀ L s.heap m) (X : (KK w.params).In h₀) (N : News h₀ L s.heap news) (T : Top q lse mean mg mb h₀) (hh : A.handled = none) (hA : A.frames = some [env]) (hf : env.frame = some L) (hke : env.scope.kind = .function) (hd : A.depth ≤ D) (hu : A.units ≤ D)
    (so : ∀ p ∈ own, p ∈ news) (sr : ∀ p ∈ rest, p ∈ news) (off : ∀ p ∈ rest, p.1 ∉ own.map (·.1))
    (h : ∀ h' tk' v own', Fr h₀ L h' m → News h₀ L h' (own' ++ rest) → (∀ p ∈ own', ∀ q ∈ rest, p.1 ≠ q.1) → Post v own' → R (.ok (.ret v)) { s with heap := h', toks := tk' }) : codeAny (model prog w) A (.call (.ref fn) ⟨as, []⟩) R s := by
  have hL₀ : h₀.get? L = none := Heap.get?_none_of_le F.above
  have No : ∀ p ∈ own, s.heap.get? p.1 = some p.2 ∧ p.1 ≠ L ∧ h₀.get? p.1 = none := fun p hp => N p (so p hp)
  obtain ⟨oL, es, ep, hL, hLd, hLk, hLf⟩ := F.ns
  have nL : L ∉ own.map (·.1) := fun z => by
    obtain ⟨p, hp, e⟩ := List.mem_map.mp z
    exact (No p hp).2.1 e
  have n0 : ∀ b o, h₀.get? b = some o → b ∉ own.map (·.1) := fun b o e z => by
    obtain ⟨p, hp, rfl⟩ := List.mem_map.mp z
    rw [(No p hp).2.2] at e; cases e
  have gL : (hideAll s.heap (own.map (·.1))).get? L = some oL := hideAll_get _ hL nL
  have bst : ∀ b o, s.heap.get? b = some o → b ∉ own.map (·.1) → b ≠ L → (hideAll (hideAll s.heap (own.map (·.1))) [L]).get? b = some o := fun b o e hb hl => hideAll_get _ (hideAll_get _ e hb) (by simpa using hl)
  have st0 : h₀.StaysIn (hideAll (hideAll s.heap (own.map (·.1))) [L]) := fun b o e => bst b o (F.keep b o e) (n0 b o e) (fun z => by rw [z, hL₀] at e; cases e)
  have B : Below (arnd D D [env] A.guards) (hideAll (hideAll s.heap (own.map (·.1))) [L]) [env] (hideAll s.heap (own.map (·.1))) :=
    ⟨rfl, fun b o e => of_hideAll _ e, Heap.FunFrames.cons (by rw [hke]; decide) hf ⟨oL, es, ep, gL, hLd, hLk, hLf⟩ (hideAll_none _ (List.mem_singleton.mpr rfl)) trivial⟩
  refine code_up (d (R := R) ⟨B, Nat.le_of_eq (hideAll_size _ _), X.keeps st0, T.keeps st0⟩ ⟨fun b o e => of_hideAll _ e, Nat.le_of_eq (hideAll_size _ _), fun p hp => ⟨(No p hp).1, hideAll_none _ (List.mem_map_of_mem hp)⟩⟩ fun g' h' tk' v own' u ft' hP => ?_) hh hA hd hu
  have st1 : h₀.StaysIn h' := fun b o e => ft'.1 b o (u.stays b o (st0 b o e))
  obtain ⟨sl, qL⟩ := u.up L oL gL fun vs z => by rw [hLd] at z; cases z
  have gr : ∀ p ∈ rest, g'.get? p.1 = some p.2 := fun p hp => by
    have z := N p (sr p hp)
    exact u.stays _ _ (bst _ _ z.1 (off p hp) z.2.1)
  refine h h' tk' v own' ⟨⟨_, es, ep, ft'.1 _ _ qL, hLd, hLk, hLf⟩, st1, F.above⟩ (fun p hp => ?_) (fun p hp r hr e => ?_) hP
  · rcases List.mem_append.mp hp with hp | hp
    · have z := ft'.2.2 p hp
      refine ⟨z.1, fun e => ?_, ?_⟩
      · rw [e, qL] at z; exact nomatch z.2
      · cases e : h₀.get? p.1 with
        | none => rfl
        | some o => have := u.stays _ _ (st0 _ _ e); rw [z.2] at this; cases this
    · exact ⟨ft'.1 _ _ (gr p hp), (N p (sr p hp)).2⟩
  · have z := (ft'.2.2 p hp).2
    rw [e, gr r hr] at z; cases z
end
section
variable {prog : Program} {KK : Params → Frag} {q : Program} {knd : ∀ w, PySem.KeyKind prog w Str} {C : Addr} {on : Str} {fn : Addr} {w : World} {s : Shared} {news : List (Addr × Obj)}
variable {A : Around} {E : Value → Shared → Prop} {h₀ : Heap} {env : Env} {L : Addr} {m mg mb : Str → Option Value} {lse : List Str} {mean : ExcName → Option Value} {r : Int} {tr : Tok}
/-- a cache made by the law -/
theorem InitOp.make {Q : Value → Shared → Prop} (d : InitOp KK q knd C on fn) (F : Fr h₀ L s.heap m) (X : (KK w.params).In h₀) (N : News h₀ L s.heap news) (T : Top q lse mean mg mb h₀) (hh : A.handled = none) (hA : A.frames = some [env]) (hf : env.frame = some L) (hke : env.scope.kind = .function) (hd : A.depth ≤ 330) (hu : A.units ≤ 330)
    (hm : makesIn (KK w.params) C = true) (hi : findIn (KK w.params) (.ref C) "__init__" = some (some (.ref fn))) (ht : typeIn (KK w.params) (.ref fn) = some (.type "function")) (r1 : 1 ≤ r) (r9 : r ≤ 9)
    (h : ∀ h' tk' c objs, Fr h₀ L h' m → News h₀ L h' (objs ++ news) → CellIs w.params (knd w) C on c [] objs → c.mx = r → (∀ p ∈ objs, ∀ q ∈ news, @Ne Nat p.1 q.1) → Q (.ref c.x) { s with heap := h', toks := tk' }) :
    wpAny (model prog w) A (call (.ref C) [.int r tr]) Q E s := by
  refine wpAny_call (make_K F N (X.keeps F.keep) hm hi ht fun x dx h' F' N' lt1 lt2 => ?_)
  refine Callee.lawR (KK := KK) (q := q) (D := 350) (own := [(x, instObj C dx), (dx, emptyDict)]) (rest := news) (Post := fun v own' => v = .none ∧ ∃ c te o1 o2, own' = led w.params C on c 0 te o1 o2 ∧ o1.IsDictOf (knd w) ([] : List (Str × Value)) ∧ o2.IsDictOf (knd w) ([] : List (Str × Value)) ∧ c.Ok ∧ c.x = x ∧ c.mx = r)
    (fun {base g fr gs mean mg mb lse R} S ft hR => d S lt2 r1 r9 ft fun g' h' tk' c te o1 o2 u ft' D1 D2 ok e1 _ e3 => hR g' h' tk' _ _ u ft' ⟨rfl, c, te, o1, o2, rfl, D1, D2, ok, e1, e3⟩)
    F' X N' T hh hA hf hke ?_ ?_ ?_ ?_ ?_ ?_
  · show A.depth + 1 ≤ 350
    omega
  · show A.units + 1 ≤ 350
    omega
  · intro p hp
    simp only [List.mem_cons, List.not_mem_nil, or_false] at hp ⊢
    rcases hp with rfl | rfl
    · exact .inl rfl
    · exact .inr (.inl rfl)
  · intro p hp
    exact List.mem_cons_of_mem _ (List.mem_cons_of_mem _ hp)
  · intro p hp hm'
    have l1 := lt1 p hp
    simp only [List.map_cons, List.map_nil, List.mem_cons, List.not_mem_nil, or_false] at hm'
    rcases hm' with e | e
    · exact absurd e (Nat.ne_of_lt (Nat.lt_trans l1 lt2))
    · exact absurd e (Nat.ne_of_lt l1)
  · rintro h2 tk2 v own' F2 N2 oD ⟨rfl, c, te, o1, o2, rfl, D1, D2, ok, rfl, rfl⟩
    refine ⟨rfl, h h2 tk2 c _ F2 N2 ⟨te, o1, o2, [], rfl, D1, D2, KV.nil, List.nodup_nil, by simp; omega, r1, r9, ok⟩ rfl oD⟩
end
theorem fit_led {P : Params} {C : Addr} {on : Str} {g h : Heap} {x dx d1 d2 : Addr} {ta tb tc td te tf : Tok} {r : Int} {o1 o2 : Obj}
    (ft : Fit g [(d2, o2), (d1, o1), (x, instObj C dx), (dx, dictOf [⟨PyData.keyHash P (Str.ofString "_Cache__data"), .str (Str.ofString "_Cache__data") ta, .ref d1⟩, ⟨PyData.keyHash P (Str.ofString "_Cache__currsize"), .str (Str.ofString "_Cache__currsize") tb, .int 0 te⟩, ⟨PyData.keyHash P (Str.ofString "_Cache__maxsize"), .str (Str.ofString "_Cache__maxsize") tc, .int r tf⟩, ⟨PyData.keyHash P on, .str on td, .ref d2⟩] 4)] h) :
    Fit g (led P C on ⟨x, dx, d1, d2, ta, tb, tc, td, tf, r⟩ 0 te o1 o2) h :=
  ⟨ft.1, ft.2.1, fun p hp => ft.2.2 p (by
    simp only [led, List.mem_cons, List.not_mem_nil, or_false] at hp ⊢
    rcases hp with e | e | e | e
    · exact .inr (.inr (.inl e))
    · exact .inr (.inr (.inr e))
    · exact .inr (.inl e)
    · exact .inl e)⟩
end Mine
end
section
open PySem PySem.W PySem.Spec PySem.Calls PyProof.Rows PyProof.Rows.LCg
set_option maxRecDepth 100000
namespace Mine
section
variable {prog : Program} {w : World} {P : Params} {knd : PySem.KeyKind prog w Str} {C : Addr} {on : Str} {cs : List Cell} {c : Loc} {objs all : List (Addr × Obj)} {h₀ h : Heap} {L : Addr} {σ : LSt}
theorem adr_nodup (ok : c.Ok) : c.adr.Nodup := by
  have l1 : @LT.lt Nat _ c.dx c.x := ok.l1
  have l2 : @LT.lt Nat _ c.x c.d1 := ok.l2
  have l3 : @LT.lt Nat _ c.d1 c.d2 := ok.l3
  have n1 : c.x ≠ c.dx := Nat.ne_of_gt l1
  have n2 : c.x ≠ c.d1 := Nat.ne_of_lt l2
  have n3 : c.x ≠ c.d2 := Nat.ne_of_lt (Nat.lt_trans l2 l3)
  have n4 : c.dx ≠ c.d1 := Nat.ne_of_lt (Nat.lt_trans l1 l2)
  have n5 : c.dx ≠ c.d2 := Nat.ne_of_lt (Nat.lt_trans l1 (Nat.lt_trans l2 l3))
  have n6 : c.d1 ≠ c.d2 := Nat.ne_of_lt l3
  unfold Loc.adr
  simp [n1, n2, n3, n4, n5, n6]
theorem CellIs.ok {seg : Seg} (h : CellIs P knd C on c seg objs) : c.Ok := by
  obtain ⟨te, o1, o2, kvs, _, _, _, _, _, _, _, _, ok⟩ := h
  exact ok
theorem Hold.nil : Hold P knd C on [] all := ⟨fun _ h => (nomatch h), List.nodup_nil⟩
theorem Hold.apart (H : Hold P knd C on cs all) (hc : CellIs P knd C on c [] objs) (dj : ∀ p ∈ objs, ∀ q ∈ all, @Ne Nat p.1 q.1) : ∀ a ∈ adrs cs, ∀ b ∈ c.adr, a ≠ b := fun a ha b hb e => by
  obtain ⟨d, hd, had⟩ := List.mem_flatMap.mp ha
  obtain ⟨ob, h1, h2⟩ := H.has d hd
  rw [← h1.adr] at had
  obtain ⟨q, hq, eq⟩ := List.mem_map.mp had
  rw [← hc.adr] at hb
  obtain ⟨p, hp, ep⟩ := List.mem_map.mp hb
  exact dj p hp q (h2 q hq) (by rw [ep, eq]; exact e.symm)
/-- one more cache, newly made -/
theorem Hold.snoc (H : Hold P knd C on cs all) (hc : CellIs P knd C on c [] objs) (dj : ∀ p ∈ objs, ∀ q ∈ all, @Ne Nat p.1 q.1) : Hold P knd C on (cs ++ [⟨c, []⟩]) (objs ++ all) := by
  refine ⟨fun b hb => ?_, ?_⟩
  · rcases List.mem_append.mp hb with hb | hb
    · obtain ⟨ob, h1, h2⟩ := H.has b hb
      exact ⟨ob, h1, fun p hp => List.mem_append_right _ (h2 p hp)⟩
    · rw [List.mem_singleton.mp hb]
      exact ⟨objs, hc, fun p hp => List.mem_append_left _ hp⟩
  · show (List.flatMap (fun b : Cell => b.c.adr) (cs ++ [⟨c, []⟩])).Nodup
    rw [List.flatMap_append]
    refine List.nodup_append.mpr ⟨H.off, by simpa using adr_nodup hc.ok, fun a ha b hb => H.apart hc dj a ha b (by simpa using hb)⟩
theorem Hold.front (H : Hold P knd C on cs all) (hc : CellIs P knd C on c [] objs) (dj : ∀ p ∈ objs, ∀ q ∈ all, @Ne Nat p.1 q.1) : Hold P knd C on (⟨c, []⟩ :: cs) (objs ++ all) := by
  have z := H.snoc hc dj
  refine ⟨fun b hb => z.has b ?_, ?_⟩
  · rcases List.mem_cons.mp hb with rfl | hb
    · simp
    · exact List.mem_append_left _ hb
  · show (c.adr ++ adrs cs).Nodup
    exact List.nodup_append.mpr ⟨adr_nodup hc.ok, H.off, fun a ha b hb e => H.apart hc dj b hb a ha e.symm⟩
theorem NoCell.apart {new : List (Addr × Obj)} (h : NoCell L all) (dj : ∀ p ∈ new, ∀ q ∈ cel5 L σ, @Ne Nat p.1 q.1) : NoCell L (new ++ all) := by
  have go : ∀ a o, (a, o) ∈ cel5 L σ → Off a all → Off a (new ++ all) := fun a o ha ho p hp => by
    rcases List.mem_append.mp hp with hp | hp
    · exact dj p hp _ ha
    · exact ho p hp
  exact ⟨go _ σ.o1 (by simp) h.1, go _ σ.o2 (by simp) h.2.1, go _ σ.o3 (by simp) h.2.2.1, go _ σ.o4 (by simp) h.2.2.2.1, go _ σ.o5 (by simp) h.2.2.2.2⟩
theorem NoCell.new {a : Addr} {o : Obj} (h : NoCell L all) (ho : Off a (cel5 L σ ++ all)) : NoCell L ((a, o) :: all) := h.cons (notCell_of (σ := { σ with all := all }) ho)
theorem off3_more {I C' D : Addr} {new : List (Addr × Obj)} (h : Off3 I C' D (cel5 L σ ++ all)) (dj : ∀ p ∈ new, @Ne Nat p.1 I ∧ @Ne Nat p.1 C' ∧ @Ne Nat p.1 D) : Off3 I C' D (cel5 L σ ++ (new ++ all)) := by
  have z := h.mem
  refine Off3.of fun p hp => ?_
  simp only [List.mem_append] at hp
  rcases hp with hp | hp | hp
  · exact z p (List.mem_append_left _ hp)
  · exact dj p hp
  · exact z p (List.mem_append_right _ hp)
/-- one of the frame's own cells stored -/
theorem store_cell {M : Model} {A : Around} {E : Value → Shared → Prop} {s : Shared} {env : Env} {m : Str → Option Value} {n : Str} {a : Addr} {o : Obj} {v0 : Option Value} {v : Value} {pre post : List (Addr × Obj)} {Q : Unit → Shared → Prop}
    (F : Fr h₀ L s.heap m) (N : News h₀ L s.heap (pre ++ (a, o) :: post)) (hd : o.data = .cell v0) (h1 : Off a pre) (h2 : Off a post) (hk : env.scope.kind = .function) (hl : env.kindOf n = some .cell) (hc : env.cells.lookup n = some a)
    (k : ∀ hp o', Fr h₀ L hp m → News h₀ L hp (pre ++ (a, o') :: post) → o'.data = .cell (some v) → Q () { s with heap := hp }) : wpAny M A (storeName env n v) Q E s := by
  have z := N (a, o) (by simp)
  refine wpAny_storeName_cell hk hl hc ⟨_, z.1, hd⟩ fun hp ⟨o', ho, hd'⟩ hs => ?_
  refine k hp o' (F.change hs z.2.1 z.2.2) (fun p hp' => ?_) hd'
  have other : ∀ p ∈ pre ++ (a, o) :: post, @Ne Nat p.1 a → hp.get? p.1 = some p.2 ∧ p.1 ≠ L ∧ h₀.get? p.1 = none := fun p hp he => ⟨hs.extBut _ _ he (N p hp).1, (N p hp).2⟩
  rcases List.mem_append.mp hp' with h | h
  · exact other p (List.mem_append_left _ h) (h1 p h)
  · rcases List.mem_cons.mp h with rfl | h
    · exact ⟨ho, z.2⟩
    · exact other p (List.mem_append_right _ (List.mem_cons_of_mem _ h)) (h2 p h)
/-- ahead of a turn of the chain's comprehension -/
def MkInv (w : World) (knd : PySem.KeyKind prog w Str) (C : Addr) (on : Str) (L : Addr) (σ : LSt) (rs : List Int) (i : Nat) (ys : List Value) (news : List (Addr × Obj)) : Prop :=
  ∃ cs all', news = cel5 L σ ++ all' ∧ ys = refs cs ∧ Hold w.params knd C on cs all' ∧ (∀ b ∈ cs, b.seg = []) ∧ cs.map (·.c.mx) = rs.take i ∧ (∀ p ∈ σ.all, p ∈ all') ∧ NoCell L all'
end
theorem strOk_of (s : String) : PyData.strOk (Str.ofString s) = true := by
  rw [Str.ofString_eq_toList]
  unfold PyData.strOk
  simp only [Array.all_eq_true, decide_eq_true_eq]
  intro i hi
  simp only [List.getElem_toArray, List.getElem_map]
  generalize s.toList[i]'(by simpa using hi) = c
  have := c.valid
  have h : c.toNat.isValidChar := c.valid
  rcases h with h | h
  · exact Nat.lt_trans h (by decide)
  · exact h.2
theorem strOk_add {a b : Str} (ha : PyData.strOk a = true) (hb : PyData.strOk b = true) : PyData.strOk (a ++ b) = true := by
  show (a.cps ++ b.cps).all _ = true
  rw [Array.all_append]
  unfold PyData.strOk at ha hb
  rw [ha, hb]; rfl
end Mine
end
section
open PySem PySem.W PySem.Spec PySem.Calls PyProof.Rows
set_option maxRecDepth 100000
namespace Mine
/-! the plain law of a turn: what the chain, the one cache and the row hold -/
def toR (cs : List Cell) : List (Nat × Seg) := cs.map fun b => (b.c.mx.toNat, b.seg)
def FitC (cs : List Cell) : Prop := ∀ b ∈ cs, 1 ≤ b.c.mx ∧ (b.seg.length : Int) ≤ b.c.mx
theorem toR_held : ∀ cs : List Cell, held (toR cs) = heldC cs
  | [] => rfl
  | b :: r => by
    show b.seg ++ held (toR r) = b.seg ++ heldC r
    rw [toR_held r]
theorem mxs_cons (b : Cell) (r : List Cell) : mxs (b :: r) = b.c.mx + mxs r := by simp [mxs]
theorem toR_room : ∀ {cs : List Cell}, FitC cs → ((room (toR cs) : Nat) : Int) = mxs cs
  | [], _ => rfl
  | b :: r, h => by
    have h1 := (h b List.mem_cons_self).1
    have ih := toR_room (cs := r) fun c hc => h c (List.mem_cons_of_mem _ hc)
    rw [mxs_cons, ← ih]
    show ((b.c.mx.toNat + room (toR r) : Nat) : Int) = _
    omega
theorem toR_fits {cs : List Cell} (h : FitC cs) : Fits (toR cs) := fun c hc => by
  obtain ⟨b, hb, rfl⟩ := List.mem_map.mp hc
  have := h b hb
  refine ⟨?_, ?_⟩ <;> (dsimp only; omega)
theorem toR_lay : ∀ {cs : List Cell} (x : Str × Int), FitC cs → lay (toR cs) x = (toR (layC cs x).1, (layC cs x).2)
  | [], x, _ => rfl
  | b :: r, x, h => by
    have hb := h b List.mem_cons_self
    have hr : FitC r := fun c hc => h c (List.mem_cons_of_mem _ hc)
    show lay ((b.c.mx.toNat, b.seg) :: toR r) x = _
    by_cases hf : (b.seg.length : Int) = b.c.mx
    · have hf' : b.seg.length = b.c.mx.toNat := by omega
      rcases List.eq_nil_or_concat b.seg with e | ⟨s0, y, e⟩
      · rw [e] at hf; simp at hf; omega
      · rw [List.concat_eq_append] at e
        rw [layC_full hf e]
        unfold lay
        rw [if_pos hf']
        have ih := toR_lay (cs := r) y hr
        simp only [e, List.getLast?_concat, List.dropLast_concat, ih]
        rfl
    · have hf' : ¬ b.seg.length = b.c.mx.toNat := by omega
      rw [layC_free hf]
      unfold lay
      rw [if_neg hf']
      rfl
/-- what a laying does -/
theorem layC_law {cs : List Cell} {x : Str × Int} {M : Nat} (h : FitC cs) (hM : mxs cs = (M : Int)) : heldC (layC cs x).1 = (x :: heldC cs).take M ∧ (layC cs x).2.toList = (x :: heldC cs).drop M := by
  have z := lay_law (x := x) (toR_fits h)
  have hr := toR_room h
  have e : room (toR cs) = M := by omega
  rw [toR_lay x h, e, toR_held, toR_held] at z
  exact z
theorem heldC_le {cs : List Cell} {M : Nat} (h : FitC cs) (hM : mxs cs = (M : Int)) : (heldC cs).length ≤ M := by
  have z := (toR_fits h).le
  have hr := toR_room h
  rw [toR_held] at z
  omega
theorem layC_none {cs : List Cell} {x : Str × Int} {M : Nat} (h : FitC cs) (hM : mxs cs = (M : Int)) (hl : (heldC cs).length < M) : (layC cs x).2 = none ∧ heldC (layC cs x).1 = x :: heldC cs := by
  obtain ⟨z1, z2⟩ := layC_law (x := x) h hM
  rw [List.drop_eq_nil_of_le (by rw [List.length_cons]; omega)] at z2
  rw [List.take_of_length_le (by rw [List.length_cons]; omega)] at z1
  refine ⟨?_, z1⟩
  cases e : (layC cs x).2 with
  | none => rfl
  | some y => rw [e] at z2; cases z2
theorem mxs_locs' {a b : List Cell} (h : a.map (·.c) = b.map (·.c)) : mxs a = mxs b := by
  have e : ∀ l : List Cell, mxs l = ((l.map (·.c)).map (·.mx)).sum := fun l => by rw [List.map_map]; rfl
  rw [e, e, h]
theorem set_locs {cs : List Cell} {i : Nat} {c : Loc} {s1 s2 : Seg} (h : cs[i]? = some ⟨c, s1⟩) : (cs.set i ⟨c, s2⟩).map (·.c) = cs.map (·.c) := by
  obtain ⟨e1, e2⟩ := set_split h ⟨c, s2⟩
  rw [e2]; conv => rhs; rw [e1]
  simp
theorem heldC_split {cs : List Cell} {i : Nat} {c : Loc} {seg : Seg} (h : cs[i]? = some ⟨c, seg⟩) (s2 : Seg) : heldC cs = heldC (cs.take i) ++ (seg ++ heldC (cs.drop (i + 1))) ∧ heldC (cs.set i ⟨c, s2⟩) = heldC (cs.take i) ++ (s2 ++ heldC (cs.drop (i + 1))) := by
  obtain ⟨e1, e2⟩ := set_split h ⟨c, s2⟩
  refine ⟨?_, ?_⟩
  · conv => lhs; rw [e1]
    simp [heldC]
  · rw [e2]; simp [heldC]
theorem keys_app' (a b : Seg) : keys (a ++ b) = keys a ++ keys b := List.map_append
theorem out_app (k : Str) (a b : Seg) : Mine.out k (a ++ b) = Mine.out k a ++ Mine.out k b := List.filter_append ..
theorem keys_of {k : Str} {p : Int} {l : Seg} (h : (k, p) ∈ l) : k ∈ keys l := List.mem_map.mpr ⟨_, h, rfl⟩
/-- a key taken out of the cache that has it -/
theorem heldC_out {cs : List Cell} {i : Nat} {c : Loc} {seg : Seg} {k : Str} (h : cs[i]? = some ⟨c, seg⟩) (hk : k ∈ keys seg) (hn : (keys (heldC cs)).Nodup) :
    k ∉ keys (heldC (cs.take i)) ∧ k ∉ keys (heldC (cs.drop (i + 1))) ∧ heldC (cs.set i ⟨c, Mine.out k seg⟩) = Mine.out k (heldC cs) := by
  obtain ⟨e1, e2⟩ := heldC_split h (Mine.out k seg)
  rw [e1, keys_app', keys_app'] at hn
  have h1 : k ∉ keys (heldC (cs.take i)) := fun z => (List.nodup_append.mp hn).2.2 k z k (List.mem_append_left _ hk) rfl
  have h2 : k ∉ keys (heldC (cs.drop (i + 1))) := fun z => (List.nodup_append.mp (List.nodup_append.mp hn).2.1).2.2 k hk k z rfl
  refine ⟨h1, h2, ?_⟩
  rw [e2, e1, out_app, out_app, out_of_not h1, out_of_not h2]
theorem mem_heldC {cs : List Cell} {i : Nat} {c : Loc} {seg : Seg} {x : Str × Int} (h : cs[i]? = some ⟨c, seg⟩) (hx : x ∈ seg) : x ∈ heldC cs := List.mem_flatMap.mpr ⟨_, List.mem_of_getElem? h, hx⟩
/-- no cache has the key -/
theorem havs_nil {cs : List Cell} {k : Str} (h : k ∉ keys (heldC cs)) (n : Nat) : havs cs k n = [] := by
  unfold havs
  refine List.filter_eq_nil_iff.mpr fun j _ hj => h ?_
  unfold hasAt at hj
  cases e : cs[j]? with
  | none => rw [e] at hj; cases hj
  | some b =>
    rw [e] at hj
    have hk : k ∈ keys b.seg := by simpa using hj
    obtain ⟨p, hp⟩ := mem_of_key hk
    exact keys_of (mem_heldC (c := b.c) (seg := b.seg) e hp)
/-- one cache has it -/
theorem havs_one {cs : List Cell} {k : Str} {p : Int} (h : (k, p) ∈ heldC cs) (hn : (keys (heldC cs)).Nodup) : ∃ i c seg, havs cs k cs.length = [i] ∧ cs[i]? = some ⟨c, seg⟩ ∧ (k, p) ∈ seg := by
  obtain ⟨b, hb, hp⟩ := List.mem_flatMap.mp h
  obtain ⟨i, hi, e⟩ := List.getElem_of_mem hb
  have hi' : cs[i]? = some ⟨b.c, b.seg⟩ := by rw [List.getElem?_eq_getElem hi, e]
  refine ⟨i, b.c, b.seg, ?_, hi', hp⟩
  obtain ⟨n1, n2, _⟩ := heldC_out hi' (keys_of hp) hn
  have other : ∀ j, j ≠ i → hasAt cs k j = false := fun j hj => by
    unfold hasAt
    cases ej : cs[j]? with
    | none => rfl
    | some d =>
      simp only [Option.map_some, Option.getD_some, decide_eq_false_iff_not]
      intro hk
      obtain ⟨p', hp'⟩ := mem_of_key hk
      rcases Nat.lt_or_gt_of_ne hj with hlt | hgt
      · refine n1 (keys_of (p := p') (mem_heldC (c := d.c) (i := j) (seg := d.seg) ?_ hp'))
        rw [List.getElem?_take, if_pos hlt]; exact ej
      · refine n2 (keys_of (p := p') (mem_heldC (c := d.c) (i := j - (i + 1)) (seg := d.seg) ?_ hp'))
        rw [List.getElem?_drop, show i + 1 + (j - (i + 1)) = j by omega]; exact ej
  have self : hasAt cs k i = true := by
    unfold hasAt
    rw [hi']
    simpa using keys_of hp
  unfold havs
  have hsp : List.range cs.length = List.range i ++ i :: (List.range (cs.length - (i + 1))).map (· + (i + 1)) := by
    have e1 : cs.length = i + (1 + (cs.length - (i + 1))) := by omega
    conv => lhs; rw [e1, List.range_add, Nat.add_comm 1, List.range_succ_eq_map]
    simp only [List.map_cons, List.map_map, Nat.add_zero]
    congr 2
    refine List.map_congr_left fun x _ => ?_
    show i + (x + 1) = x + (i + 1)
    omega
  rw [hsp, List.filter_append, List.filter_cons, if_pos self]
  rw [List.filter_eq_nil_iff.mpr fun j hj => by
    have := List.mem_range.mp hj
    rw [other j (by omega)]; decide]
  rw [List.filter_eq_nil_iff.mpr fun j hj => by
    obtain ⟨x, _, rfl⟩ := List.mem_map.mp hj
    rw [other _ (by omega)]; decide]
  rfl
theorem worths_nil {row : Seg} {k : Str} (h : k ∉ keys row) : row.filter (fun p => decide (p.1 = k)) = [] := by
  refine List.filter_eq_nil_iff.mpr fun p hp he => h ?_
  have : p.1 = k := by simpa using he
  exact List.mem_map.mpr ⟨p, hp, this⟩
theorem worths_one : ∀ {row : Seg} {k : Str} {p : Int}, (k, p) ∈ row → (keys row).Nodup → row.filter (fun p => decide (p.1 = k)) = [(k, p)]
  | [], _, _, h, _ => (nomatch h)
  | a :: r, k, p, h, hn => by
    have hn' := List.nodup_cons.mp (show (a.1 :: keys r).Nodup from hn)
    rcases List.mem_cons.mp h with e | h
    · subst e
      rw [List.filter_cons, if_pos (by simp), worths_nil hn'.1]
    · have : a.1 ≠ k := fun e => hn'.1 (e ▸ keys_of h)
      rw [List.filter_cons, if_neg (by simpa using this)]
      exact worths_one h hn'.2
/-- what the caches and the row hold between two turns -/
structure PL (M : Nat) (cs : List Cell) (W : Cell) (row : Seg) : Prop where
  hc : heldC cs = row
  hw : W.seg = row
  nd : (keys row).Nodup
  ok : NamesOk (keys row)
  sum : mxs cs = (M : Int)
  wmx : W.c.mx = (M : Int)
  m1 : 1 ≤ M
  m9 : M ≤ 9
  ne : 1 ≤ cs.length
section
variable {M : Nat} {cs : List Cell} {W : Cell} {row : Seg} {k : Str} {p : Int} {i : Nat} {c : Loc} {seg : Seg}
theorem PL.len (h : PL M cs W row) (f : FitC cs) : row.length ≤ M := by rw [← h.hc]; exact heldC_le f h.sum
theorem PL.cell (h : PL M cs W row) (hp : (k, p) ∈ row) : ∃ i c seg, havs cs k cs.length = [i] ∧ cs[i]? = some ⟨c, seg⟩ ∧ (k, p) ∈ seg := havs_one (by rw [h.hc]; exact hp) (by rw [h.hc]; exact h.nd)
theorem keys_out_sub (k : Str) (l : Seg) : ∀ x ∈ keys (Mine.out k l), x ∈ keys l ∧ x ≠ k := fun x hx => by
  obtain ⟨q, hq, rfl⟩ := List.mem_map.mp hx
  have := List.mem_filter.mp hq
  exact ⟨List.mem_map.mpr ⟨q, this.1, rfl⟩, by simpa using this.2⟩
theorem ok_cons (h : NamesOk (keys row)) (hk : PyData.strOk k = true) : NamesOk (keys ((k, p) :: Mine.out k row)) := fun x hx => by
  rcases List.mem_cons.mp hx with rfl | hx
  · exact hk
  · exact h x (keys_out_sub k row x hx).1
theorem nd_cons (h : (keys row).Nodup) : (keys ((k, p) :: Mine.out k row)).Nodup := List.nodup_cons.mpr ⟨out_not k row, out_nodup h⟩
theorem out_lt (hn : (keys row).Nodup) (hk : k ∈ keys row) : (Mine.out k row).length + 1 = row.length := out_len_in hn hk
theorem PL.set (h : PL M cs W row) (hi : cs[i]? = some ⟨c, seg⟩) (hk : k ∈ keys seg) : heldC (cs.set i ⟨c, Mine.out k seg⟩) = Mine.out k row := by
  rw [← h.hc]
  exact (heldC_out hi hk (by rw [h.hc]; exact h.nd)).2.2
theorem FitC.set (f : FitC cs) (hi : cs[i]? = some ⟨c, seg⟩) : FitC (cs.set i ⟨c, Mine.out k seg⟩) := fun b hb => by
  have h0 := f _ (List.mem_of_getElem? hi)
  rcases List.mem_or_eq_of_mem_set hb with h | rfl
  · exact f b h
  · exact ⟨h0.1, Int.le_trans (Int.ofNat_le.mpr (out_len k seg)) h0.2⟩
/-- a key asked, in the first cache of a recently-used chain -/
theorem PL.front (h : PL M cs W row) (hi : cs[0]? = some ⟨c, seg⟩) (hp : (k, p) ∈ seg) (hk : PyData.strOk k = true) : PL M (cs.set 0 ⟨c, (k, p) :: Mine.out k seg⟩) ⟨W.c, (k, p) :: Mine.out k W.seg⟩ ((k, p) :: Mine.out k row) := by
  refine ⟨?_, by rw [h.hw], nd_cons h.nd, ok_cons h.ok hk, by rw [mxs_locs' (set_locs hi)]; exact h.sum, h.wmx, h.m1, h.m9, by rw [List.length_set]; exact h.ne⟩
  obtain ⟨_, e2⟩ := heldC_split hi ((k, p) :: Mine.out k seg)
  obtain ⟨_, e3⟩ := heldC_split hi (Mine.out k seg)
  have e4 := h.set hi (keys_of hp)
  rw [e3] at e4
  rw [e2]
  simp only [List.take_zero, heldC, List.flatMap_nil, List.nil_append, List.cons_append] at e4 ⊢
  rw [e4]
/-- a key asked, out of a later cache into the first -/
theorem PL.lift (h : PL M cs W row) (f : FitC cs) (hi : cs[i]? = some ⟨c, seg⟩) (hp : (k, p) ∈ seg) (hk : PyData.strOk k = true) :
    k ∉ keys (heldC (cs.set i ⟨c, Mine.out k seg⟩)) ∧ (keys (heldC (cs.set i ⟨c, Mine.out k seg⟩))).Nodup ∧ (layC (cs.set i ⟨c, Mine.out k seg⟩) (k, p)).2 = none ∧
    PL M (layC (cs.set i ⟨c, Mine.out k seg⟩) (k, p)).1 ⟨W.c, (k, p) :: Mine.out k W.seg⟩ ((k, p) :: Mine.out k row) := by
  have e := h.set hi (keys_of hp)
  have hs : mxs (cs.set i ⟨c, Mine.out k seg⟩) = (M : Int) := by rw [mxs_locs' (set_locs hi)]; exact h.sum
  have hkr : k ∈ keys row := by rw [← h.hc]; exact keys_of (mem_heldC hi hp)
  have hlt := out_lt h.nd hkr
  have hle := h.len f
  obtain ⟨z1, z2⟩ := layC_none (x := (k, p)) (f.set (k := k) hi) hs (by rw [e]; omega)
  refine ⟨by rw [e]; exact out_not k row, by rw [e]; exact out_nodup h.nd, z1, by rw [z2, e], by rw [h.hw], nd_cons h.nd, ok_cons h.ok hk, by rw [mxs_locs' (layC_locs _ _)]; exact hs, h.wmx, h.m1, h.m9, ?_⟩
  have := congrArg List.length (layC_locs (cs.set i ⟨c, Mine.out k seg⟩) (k, p))
  simp only [List.length_map, List.length_set] at this
  rw [this]; exact h.ne
/-- the names that are lost where one key is laid -/
theorem lost_names {ks : List Str} {tick : Int} (hM : 1 ≤ M) (hn : (keys row).Nodup) (hks : ks.Perm (keys row)) (hl : (Mine.out k row).length ≤ M) :
    (ks.filter fun x => decide (x ∉ keys (((k, tick) :: Mine.out k row).take M))) = keys (((k, tick) :: Mine.out k row).drop M) := by
  generalize hl0 : (k, tick) :: Mine.out k row = l
  have nl : (keys l).Nodup := by rw [← hl0]; exact nd_cons hn
  have hkt : k ∈ keys (l.take M) := by
    obtain ⟨M', rfl⟩ : ∃ M', M = M' + 1 := ⟨M - 1, by omega⟩
    rw [← hl0, List.take_succ_cons]
    exact List.mem_cons_self
  have hsp : keys l = keys (l.take M) ++ keys (l.drop M) := by rw [← keys_app', List.take_append_drop]
  have nd' := nl
  rw [hsp] at nd'
  have mem : ∀ x, x ∈ ks.filter (fun x => decide (x ∉ keys (l.take M))) ↔ x ∈ keys (l.drop M) := fun x => by
    rw [List.mem_filter, decide_eq_true_eq]
    refine ⟨fun ⟨h1, h2⟩ => ?_, fun h => ?_⟩
    · have h3 := hks.mem_iff.mp h1
      have hxk : x ≠ k := fun e => h2 (e ▸ hkt)
      have h4 : x ∈ keys l := by
        rw [← hl0]
        obtain ⟨q, hq, rfl⟩ := List.mem_map.mp h3
        exact List.mem_cons_of_mem _ (List.mem_map.mpr ⟨q, List.mem_filter.mpr ⟨hq, by simpa using hxk⟩, rfl⟩)
      rw [hsp] at h4
      exact (List.mem_append.mp h4).resolve_left h2
    · have h2 : x ∉ keys (l.take M) := fun z => (List.nodup_append.mp nd').2.2 x z x h rfl
      have hxk : x ≠ k := fun e => h2 (e ▸ hkt)
      have h4 : x ∈ keys l := by rw [hsp]; exact List.mem_append_right _ h
      rw [← hl0] at h4
      refine ⟨hks.mem_iff.mpr ?_, h2⟩
      rcases List.mem_cons.mp h4 with e | h4
      · exact absurd e hxk
      · exact (keys_out_sub k row x h4).1
  have nf : (ks.filter (fun x => decide (x ∉ keys (l.take M)))).Nodup := (hks.nodup_iff.mpr hn).filter _
  have hlen : (l.drop M).length ≤ 1 := by rw [← hl0, List.length_drop, List.length_cons]; omega
  generalize ks.filter (fun x => decide (x ∉ keys (l.take M))) = fl at mem nf
  match hd : l.drop M, hlen with
  | [], _ =>
    rw [hd] at mem
    exact List.eq_nil_iff_forall_not_mem.mpr fun x hx => by have := (mem x).mp hx; cases this
  | [y], _ =>
    rw [hd] at mem
    have one : ∀ x, x ∈ fl ↔ x = y.1 := fun x => by rw [mem x]; simp [keys]
    match fl, nf, one with
    | [], _, one => exact absurd ((one y.1).mpr rfl) (by simp)
    | [a], _, one => rw [(one a).mp List.mem_cons_self]; rfl
    | a :: b :: r, nf, one =>
      have ea := (one a).mp List.mem_cons_self
      have eb := (one b).mp (List.mem_cons_of_mem _ List.mem_cons_self)
      exact absurd (show a = b by rw [ea, eb]) (by
        have := (List.nodup_cons.mp nf).1
        intro e
        exact this (e ▸ List.mem_cons_self))
/-- a key laid with a new worth -/
theorem PL.put {cs1 : List Cell} {tick : Int} (h : PL M cs W row) (f1 : FitC cs1) (hl : cs1.map (·.c) = cs.map (·.c)) (e : heldC cs1 = Mine.out k row) (hk : PyData.strOk k = true) :
    k ∉ keys (heldC cs1) ∧ (keys (heldC cs1)).Nodup ∧ (layC cs1 (k, tick)).2.toList = ((k, tick) :: Mine.out k row).drop M ∧
    PL M (layC cs1 (k, tick)).1 ⟨W.c, ((k, tick) :: Mine.out k W.seg).take W.c.mx.toNat⟩ (((k, tick) :: Mine.out k row).take M) := by
  have hs : mxs cs1 = (M : Int) := by rw [mxs_locs' hl]; exact h.sum
  obtain ⟨z1, z2⟩ := layC_law (x := (k, tick)) f1 hs
  rw [e] at z1 z2
  have nt : (keys (((k, tick) :: Mine.out k row).take M)).Nodup := by
    show (List.map _ _).Nodup
    rw [List.map_take]
    exact (nd_cons (k := k) (p := tick) h.nd).sublist (List.take_sublist _ _)
  refine ⟨by rw [e]; exact out_not k row, by rw [e]; exact out_nodup h.nd, z2, z1, by rw [h.hw, show W.c.mx.toNat = M by rw [h.wmx]; rfl], nt, fun x hx => ?_, by rw [mxs_locs' (layC_locs _ _)]; exact hs, h.wmx, h.m1, h.m9, ?_⟩
  · refine ok_cons (p := tick) h.ok hk x ?_
    obtain ⟨q, hq, rfl⟩ := List.mem_map.mp hx
    exact List.mem_map.mpr ⟨q, List.mem_of_mem_take hq, rfl⟩
  · have e1 := congrArg List.length (layC_locs cs1 (k, tick))
    have e2 := congrArg List.length hl
    simp only [List.length_map] at e1 e2
    rw [e1, e2]; exact h.ne
/-- a key taken away -/
theorem PL.away {cs1 : List Cell} (h : PL M cs W row) (hl : cs1.map (·.c) = cs.map (·.c)) (e : heldC cs1 = Mine.out k row) : PL M cs1 ⟨W.c, Mine.out k W.seg⟩ (Mine.out k row) := by
  refine ⟨e, by rw [h.hw], out_nodup h.nd, fun x hx => h.ok x (keys_out_sub k row x hx).1, by rw [mxs_locs' hl]; exact h.sum, h.wmx, h.m1, h.m9, ?_⟩
  have e2 := congrArg List.length hl
  simp only [List.length_map] at e2
  rw [e2]; exact h.ne
theorem livs_ne (h : row ≠ []) (hc : heldC cs = row) : livs cs cs.length ≠ [] := fun z => h (by
  rw [← hc]
  refine List.flatMap_eq_nil_iff.mpr fun b hb => ?_
  obtain ⟨i, hi, e⟩ := List.getElem_of_mem hb
  have := List.filter_eq_nil_iff.mp z i (List.mem_range.mpr hi)
  unfold livAt at this
  rw [List.getElem?_eq_getElem hi, e] at this
  simpa using this)
/-- the one that goes next -/
theorem PL.last {j : Nat} (h : PL M cs W row) (hj : j ∈ livs cs cs.length) (hm : ∀ a ∈ livs cs cs.length, a ≤ j) :
    ∃ c seg y row', cs[j]? = some ⟨c, seg ++ [y]⟩ ∧ W.seg = row' ++ [y] ∧ row = row' ++ [y] ∧ PyData.strOk y.1 = true ∧ PL M (cs.set j ⟨c, seg⟩) ⟨W.c, row'⟩ row' := by
  obtain ⟨hr, hl⟩ := List.mem_filter.mp hj
  have hjl := List.mem_range.mp hr
  unfold livAt at hl
  rw [List.getElem?_eq_getElem hjl] at hl
  have hne : cs[j].seg ≠ [] := by simpa using hl
  rcases List.eq_nil_or_concat cs[j].seg with e | ⟨seg, y, e⟩
  · exact absurd e hne
  rw [List.concat_eq_append] at e
  have hcj : cs[j]? = some ⟨cs[j].c, seg ++ [y]⟩ := by rw [List.getElem?_eq_getElem hjl, ← e]
  have hrest : heldC (cs.drop (j + 1)) = [] := List.flatMap_eq_nil_iff.mpr fun b hb => by
    obtain ⟨i, hi, eb⟩ := List.getElem_of_mem hb
    rw [List.length_drop] at hi
    have hlt : j + 1 + i < cs.length := by omega
    have hb' : cs[j + 1 + i] = b := by rw [← eb, List.getElem_drop]
    by_cases hs : b.seg = []
    · exact hs
    · have := hm (j + 1 + i) (List.mem_filter.mpr ⟨List.mem_range.mpr hlt, by unfold livAt; rw [List.getElem?_eq_getElem hlt, hb']; simpa using hs⟩)
      omega
  obtain ⟨e1, e2⟩ := heldC_split hcj seg
  rw [hrest, List.append_nil] at e1 e2
  rw [h.hc] at e1
  have er : row = (heldC (cs.take j) ++ seg) ++ [y] := by rw [e1, List.append_assoc]
  have nd := h.nd
  rw [er, keys_app'] at nd
  refine ⟨cs[j].c, seg, y, heldC (cs.take j) ++ seg, hcj, by rw [h.hw]; exact er, er, h.ok y.1 (by rw [er, keys_app']; exact List.mem_append_right _ List.mem_cons_self), e2, rfl, (List.nodup_append.mp nd).1, fun x hx => h.ok x (by rw [er, keys_app']; exact List.mem_append_left _ hx), by rw [mxs_locs' (set_locs hcj)]; exact h.sum, h.wmx, h.m1, h.m9, by rw [List.length_set]; exact h.ne⟩
end
theorem Lq.fitC {prog : Program} {w : World} {knd : PySem.KeyKind prog w Str} {C : Addr} {on : Str} {L : Addr} {m : Str → Option Value} {σ : LSt} (S : Lq w knd C on L m σ) : FitC σ.cs := fun b hb => by
  obtain ⟨objs, ⟨te, o1, o2, kvs, _, _, _, _, _, hl, m1, _, _⟩, _⟩ := S.H.has b (List.mem_cons_of_mem _ hb)
  exact ⟨m1, hl⟩
end Mine
end
section
open PySem PySem.W PySem.Spec PySem.Calls PyProof.Rows PyProof.Rows.LCg
set_option maxRecDepth 100000
namespace Mine
section
variable {prog : Program} {w : World} {knd : PySem.KeyKind prog w Str} {C : Addr} {on : Str} {h₀ h : Heap} {L I J D : Addr} {m : Str → Option Value} {σ : LSt} {oi oj lo : Obj}
theorem nonC_cls {o : Obj} {T : String} (h : o.cls = .type T) (hT : T ≠ "dict") : NonC o := .inr ⟨T, h, hT⟩
theorem cls_ne {a b : String} (h : a ≠ b) : Value.type a ≠ Value.type b := fun e => h (by injection e)
theorem notCell_off {a : Addr} {all : List (Addr × Obj)} (h : Off a (cel5 L σ ++ all)) : NotCell L a := notCell_of (L := L) (σ := σ) h
/-- the loop's iterators laid beside the state -/
theorem Lq.its (S : Lq w knd C on L m σ) (ci : oi.cls = .type "enumerate") (cj : oj.cls = .type "list_iterator") (hI : Off I (cel5 L σ ++ σ.all)) (hJ : Off J (cel5 L σ ++ σ.all)) :
    Lq w knd C on L m { σ with all := (I, oi) :: (J, oj) :: σ.all, ex := (I, oi) :: (J, oj) :: σ.ex } := by
  have z := (S.grow (a := J) (o := oj) (notCell_off hJ)).grow (a := I) (o := oi) (notCell_off hI)
  refine ⟨z.d1, z.d2, z.d3, z.d4, z.d5, z.H, z.chain, z.rows, z.rooms, z.r1, z.r2, z.nc, z.len, z.rl, fun p hp => ?_⟩
  rcases List.mem_cons.mp hp with rfl | hp
  · exact ⟨List.mem_cons_self, nonC_cls ci (by decide)⟩
  · rcases List.mem_cons.mp hp with rfl | hp
    · exact ⟨List.mem_cons_of_mem _ List.mem_cons_self, nonC_cls cj (by decide)⟩
    · have := S.ext p hp
      exact ⟨List.mem_cons_of_mem _ (List.mem_cons_of_mem _ this.1), this.2⟩
def noAt (I J : Addr) (p : Addr × Obj) : Bool := decide (¬ (@Eq Nat p.1 I) ∧ ¬ (@Eq Nat p.1 J))
/-- and taken away again -/
theorem Lq.noIts (S : Lq w knd C on L m σ) (N : News h₀ L h (cel5 L σ ++ σ.all)) (ci : oi.cls = .type "enumerate") (cj : oj.cls = .type "list_iterator") (hI : (I, oi) ∈ σ.all) (hJ : (J, oj) ∈ σ.all) (hD : (D, lo) ∈ σ.all) (cl : lo.cls = .type "list") :
    Lq w knd C on L m { σ with all := σ.all.filter (noAt I J), ex := [(D, lo)] } ∧ (D, lo) ∈ σ.all.filter (noAt I J) ∧ Off I (cel5 L σ ++ σ.all.filter (noAt I J)) ∧ Off J (cel5 L σ ++ σ.all.filter (noAt I J)) := by
  have inN : ∀ p ∈ σ.all, p ∈ cel5 L σ ++ σ.all := fun p hp => List.mem_append_right _ hp
  have same : ∀ p ∈ σ.all, ∀ q ∈ σ.all, p.1 = q.1 → p.2 = q.2 := fun p hp q hq e => by
    have z1 := (N p (inN p hp)).1
    have z2 := (N q (inN q hq)).1
    rw [e, z2] at z1
    exact (Option.some.inj z1).symm
  have keepP : ∀ p ∈ σ.all, p.2.cls ≠ .type "enumerate" → p.2.cls ≠ .type "list_iterator" → p ∈ σ.all.filter (noAt I J) := fun p hp h1 h2 => by
    refine List.mem_filter.mpr ⟨hp, decide_eq_true ⟨fun e => h1 ?_, fun e => h2 ?_⟩⟩
    · rw [same p hp _ hI e]; exact ci
    · rw [same p hp _ hJ e]; exact cj
  have listP : ∀ (a : Addr) (vs : Array Value) (n : Nat), (a, W.listOf vs n) ∈ σ.all → (a, W.listOf vs n) ∈ σ.all.filter (noAt I J) := fun a vs n hp => keepP _ hp (cls_ne (by decide)) (cls_ne (by decide))
  have tupP : ∀ (T : Addr) (p : Str × Int) (t u : Tok), (T, tupO p t u) ∈ σ.all → (T, tupO p t u) ∈ σ.all.filter (noAt I J) := fun T p t u hp => keepP _ hp (cls_ne (by decide)) (cls_ne (by decide))
  have hDf : (D, lo) ∈ σ.all.filter (noAt I J) := keepP _ hD (by rw [show (D, lo).2.cls = _ from cl]; exact cls_ne (by decide)) (by rw [show (D, lo).2.cls = _ from cl]; exact cls_ne (by decide))
  have cells : ∀ a o, (a, o) ∈ σ.all → ∀ p ∈ cel5 L σ, @Ne Nat p.1 a := fun a o ha p hp e => S.nc.off5 p hp (a, o) ha e.symm
  refine ⟨⟨S.d1, S.d2, S.d3, S.d4, S.d5, ⟨fun b hb => ?_, S.H.off⟩, ?_, ?_, ?_, S.r1, S.r2, S.nc.mono fun x hx p hp => hx p (List.mem_filter.mp hp).1, S.len, S.rl, fun p hp => ?_⟩, hDf, fun p hp => ?_, fun p hp => ?_⟩
  · obtain ⟨objs, h1, h2⟩ := S.H.has b hb
    refine ⟨objs, h1, fun p hp => List.mem_filter.mpr ⟨h2 p hp, decide_eq_true ⟨fun e => ?_, fun e => ?_⟩⟩⟩
    · refine S.H.plain N inN hb (inN _ hI) (nonC_cls ci (by decide)) ?_
      rw [← h1.adr]
      exact List.mem_map.mpr ⟨p, hp, e⟩
    · refine S.H.plain N inN hb (inN _ hJ) (nonC_cls cj (by decide)) ?_
      rw [← h1.adr]
      exact List.mem_map.mpr ⟨p, hp, e⟩
  · obtain ⟨n, hm⟩ := S.chain
    exact ⟨n, listP _ _ _ hm⟩
  · obtain ⟨rvs, n, hm, hr⟩ := S.rows
    exact ⟨rvs, n, listP _ _ _ hm, hr.1, fun i v p hv hp => by
      obtain ⟨T, t, u, e, hT⟩ := hr.2 i v p hv hp
      exact ⟨T, t, u, e, tupP _ _ _ _ hT⟩⟩
  · obtain ⟨vs, n, hm, hr⟩ := S.rooms
    exact ⟨vs, n, listP _ _ _ hm, hr⟩
  · rw [List.mem_singleton.mp hp]
    exact ⟨hDf, nonC_cls cl (by decide)⟩
  · rcases List.mem_append.mp hp with hp | hp
    · exact cells I oi hI p hp
    · exact (of_decide_eq_true (List.mem_filter.mp hp).2).1
  · rcases List.mem_append.mp hp with hp | hp
    · exact cells J oj hJ p hp
    · exact (of_decide_eq_true (List.mem_filter.mp hp).2).2
variable (w knd C on L)
/-- ahead of a turn of the law's loop -/
def TurnI (M : Nat) (kd : Int) (I D : Addr) (lo : Obj) (_i : Nat) (m : Str → Option Value) (news : List (Addr × Obj)) : Prop :=
  ∃ σ : LSt, news = cel5 L σ ++ σ.all ∧ Lq w knd C on L m σ ∧ PL M σ.cs σ.W σ.row ∧ σ.kd = kd ∧ σ.ex = [(D, lo)] ∧ Off (I + 1) (cel5 L σ ++ σ.all) ∧ Off I (cel5 L σ ++ σ.all)
end
section
variable {M : Model} {A : Around} {E : Value → Shared → Prop} {s : Shared} {h₀ : Heap} {L : Addr} {m : Str → Option Value} {Q : Value → Shared → Prop} {e : Sem Value} {base : List (Addr × Obj)}
/-- one list, whichever way it came -/
def ListAt (h₀ : Heap) (L : Addr) (m : Str → Option Value) (base : List (Addr × Obj)) (s : Shared) (v : Value) (s' : Shared) : Prop :=
  ∃ D vs n ns h tk, v = .ref D ∧ s' = { s with heap := h, toks := tk } ∧ Fr h₀ L h m ∧ News h₀ L h ((D, W.listOf vs.toArray n) :: base) ∧ IntsAre vs ns
theorem ListAt.introA {D : Addr} {its : Array Value} {n tk : Nat} {ns : List Int} {h : Heap} {news : List (Addr × Obj)} (F : Fr h₀ L h m) (N : News h₀ L h news) (hm : (D, W.listOf its n) ∈ news) (hb : ∀ p ∈ base, p ∈ news) (hI : IntsAre its.toList ns) : ListAt h₀ L m base s (.ref D) { s with heap := h, toks := tk } :=
  ⟨D, its.toList, n, ns, h, tk, rfl, rfl, F, fun p hp => N p (by
    rcases List.mem_cons.mp hp with rfl | hp
    · rw [Array.toArray_toList]; exact hm
    · exact hb p hp), hI⟩
theorem subL_mem : ∀ {a b : List (Addr × Obj)}, (∀ p ∈ a, p ∈ b) → SubL a b
  | [], _, _ => trivial
  | p :: _, _, h => ⟨h p List.mem_cons_self, subL_mem fun q hq => h q (List.mem_cons_of_mem _ hq)⟩
theorem list_join (h : wpAny M A e (ListAt h₀ L m base s) E s)
    (k : ∀ D vs n ns h tk, Fr h₀ L h m → News h₀ L h ((D, W.listOf vs.toArray n) :: base) → IntsAre vs ns → Q (.ref D) { s with heap := h, toks := tk }) : wpAny M A e Q E s :=
  wpAny_mono h (fun v s' ⟨D, vs, n, ns, h, tk, e1, e2, F, N, hI⟩ => by
    subst e1; subst e2
    exact k D vs n ns h tk F N hI) fun _ _ e => e
end
end Mine
end
section
open PySem PySem.W PySem.Spec PySem.Calls PyProof.Rows
set_option maxRecDepth 100000
namespace Mine
/-- lists alone lie in none of the frame's cells -/
theorem nocell_lists {h₀ h : Heap} {L : Addr} {σ : LSt} {all : List (Addr × Obj)} {v1 v2 v3 v4 v5 : Option Value} (N : News h₀ L h (cel5 L σ ++ all)) (d1 : σ.o1.data = .cell v1) (d2 : σ.o2.data = .cell v2) (d3 : σ.o3.data = .cell v3) (d4 : σ.o4.data = .cell v4) (d5 : σ.o5.data = .cell v5)
    (al : ∀ p ∈ all, ∃ vs n, p.2 = W.listOf vs n) : NoCell L all := by
  have go : ∀ (a : Addr) (o : Obj) (v : Option Value), (a, o) ∈ cel5 L σ → o.data = .cell v → Off a all := fun a o v ha hv p hp e => by
    have z1 := (N p (List.mem_append_right _ hp)).1
    have z2 := (N (a, o) (List.mem_append_left _ ha)).1
    rw [show p.1 = a from e, z2] at z1
    have z3 : o = p.2 := Option.some.inj z1
    obtain ⟨vs, n, e2⟩ := al p hp
    rw [z3, e2] at hv
    cases hv
  exact ⟨go _ _ _ (by simp) d1, go _ _ _ (by simp) d2, go _ _ _ (by simp) d3, go _ _ _ (by simp) d4, go _ _ _ (by simp) d5⟩
theorem sum_ge : ∀ {rs : List Int}, (∀ r ∈ rs, 1 ≤ r ∧ r ≤ 3) → 2 ≤ rs.length → 1 ≤ rs.sum
  | [], _, h => by simp at h
  | a :: r, h, _ => by
    have h1 := h a List.mem_cons_self
    have h2 : 0 ≤ r.sum := sum_nonneg fun x hx => by have := h x (List.mem_cons_of_mem _ hx); omega
    rw [List.sum_cons]; omega
  where sum_nonneg : ∀ {rs : List Int}, (∀ r ∈ rs, 0 ≤ r) → 0 ≤ rs.sum
    | [], _ => by simp
    | a :: r, h => by
      have h1 := h a List.mem_cons_self
      have h2 := sum_nonneg fun x hx => h x (List.mem_cons_of_mem _ hx)
      rw [List.sum_cons]; omega
theorem sum_le3 : ∀ {rs : List Int}, (∀ r ∈ rs, 1 ≤ r ∧ r ≤ 3) → rs.sum ≤ 3 * (rs.length : Int)
  | [], _ => by simp
  | a :: r, h => by
    have h1 := h a List.mem_cons_self
    have h2 := sum_le3 fun x hx => h x (List.mem_cons_of_mem _ hx)
    rw [List.sum_cons, List.length_cons]; omega
theorem sum_le {rs : List Int} (h : ∀ r ∈ rs, 1 ≤ r ∧ r ≤ 3) (l : rs.length ≤ 3) : rs.sum ≤ 9 := by
  have := sum_le3 h
  omega
end Mine
end
section
open PySem PySem.W PySem.Spec PySem.Calls PyProof.Rows
set_option maxRecDepth 100000
namespace Mine
/-- `x` is a plain local name of the scope -/
structure KL (s : Scope) (x : Str) : Prop where
  fn : s.kind = .function
  look : s.names.lookup x = some .local
  nd : (x == ("__debug__" : Str)) = false
/-- `x` is a captured name of the scope; its cell lies at `c` in a frame at `L` -/
structure KC (s : Scope) (x : Str) (L c : Addr) : Prop where
  fn : s.kind = .function
  look : s.names.lookup x = some .cell
  nd : (x == ("__debug__" : Str)) = false
  cel : (cellsFrom (L + 1) s.names []).lookup x = some c
/-- `x` is a name of the module, or a built-in one -/
structure KG (s : Scope) (x : Str) : Prop where
  fn : s.kind = .function
  look : s.names.lookup x = some .globalImplicit
  nd : (x == ("__debug__" : Str)) = false
  nn : x ≠ "__name__"
section
variable {M : Model} {A : Around} {E : Value → Shared → Prop} {s : Shared} {K : Frag} {h₀ : Heap} {L a : Addr} {m mg mb : Str → Option Value} {cn : Str} {cs : Scope} {ccd : Value} {p : Program} {loose : List Str} {mean : ExcName → Option Value}
  {x : Str} {pos : Pos} {v : Value} {Q : Value → Shared → Prop} {news : List (Addr × Obj)} {c : Addr} {o : Obj}
theorem evL (k : KL cs x) (F : Fr h₀ L s.heap m) (hv : m x = some v) (h : Q v s) : wpAny M A (eval (.Name x pos) (envOfC cn cs L a ccd)) Q E s := nameX_L F hv h k.fn k.look k.nd
theorem evC (k : KC cs x L c) (N : News h₀ L s.heap news) (hm : (c, o) ∈ news) (hd : o.data = .cell (some v)) (h : Q v s) : wpAny M A (eval (.Name x pos) (envOfC cn cs L a ccd)) Q E s := nameX_C N k.cel hm hd h k.fn k.look k.nd
theorem evK (k : KG cs x) (F : Fr h₀ L s.heap m) (X : K.In h₀) (T : TopRead p loose mg mb h₀) (e : nsIn K mainGlobals x = some (some v)) (h : Q v s) : wpAny M A (eval (.Name x pos) (envOfC cn cs L a ccd)) Q E s := nameX_K F X T e h k.fn k.look k.nd
theorem evB (k : KG cs x) (F : Fr h₀ L s.heap m) (X : K.In h₀) (T : TopRead p loose mg mb h₀) (e : nsIn K mainGlobals x = some none) (hv : bootBuiltins x = some v) (h : Q v s) : wpAny M A (eval (.Name x pos) (envOfC cn cs L a ccd)) Q E s := nameX_B F X T e hv k.nn h k.fn k.look k.nd
theorem stL {Q : Unit → Shared → Prop} (k : KL cs x) (F : Fr h₀ L s.heap m) (N : News h₀ L s.heap news)
    (h : ∀ h', Fr h₀ L h' (fun y => if y = x then some v else m y) → News h₀ L h' news → Q () { s with heap := h', toks := s.toks + 1 }) : wpAny M A (storeName (envOfC cn cs L a ccd) x v) Q E s := storeX_L F N h k.fn k.look
end
/-- the names of the law -/
structure LawKinds (s : Scope) (L : Addr) : Prop where
  script : KL s (Str.ofString "script")
  told : KL s (Str.ofString "told")
  rooms : KL s (Str.ofString "rooms")
  row : KL s (Str.ofString "row")
  tick : KL s (Str.ofString "tick")
  number : KL s (Str.ofString "number")
  draw : KL s (Str.ofString "draw")
  deed : KL s (Str.ofString "deed")
  having : KL s (Str.ofString "having")
  worths : KL s (Str.ofString "worths")
  fallen : KL s (Str.ofString "fallen")
  answer : KL s (Str.ofString "answer")
  before : KL s (Str.ofString "before")
  out : KL s (Str.ofString "out")
  last : KL s (Str.ofString "last")
  given : KL s (Str.ofString "given")
  refused : KL s (Str.ofString "refused")
  cache : KL s (Str.ofString "cache")
  kind : KC s (Str.ofString "kind") L (L + 1)
  chain : KC s (Str.ofString "chain") L (L + 1 + 1)
  whole : KC s (Str.ofString "whole") L (L + 1 + 1 + 1)
  key : KC s (Str.ofString "key") L (L + 1 + 1 + 1 + 1)
  one : KC s (Str.ofString "one") L (L + 1 + 1 + 1 + 1 + 1)
  fifo : KG s (Str.ofString "FIFOCache")
  lru : KG s (Str.ofString "LRUCache")
  sum : KG s (Str.ofString "sum")
  enumerate : KG s (Str.ofString "enumerate")
  str : KG s (Str.ofString "str")
  range : KG s (Str.ofString "range")
  len : KG s (Str.ofString "len")
  laid : KG s (Str.ofString "_law_laid")
  lost : KG s (Str.ofString "_law_lost")
  list : KG s (Str.ofString "list")
  max : KG s (Str.ofString "max")
  sorted : KG s (Str.ofString "sorted")
  keyError : KG s (Str.ofString "KeyError")
end Mine
end
section
open PySem PySem.W PySem.Spec PySem.Calls PyProof.Rows
namespace Mine
local macro_rules | `(tactic| walk_at "ENTER") => `(tactic| ((refine' enter (by assumption) (by assumption) (by assumption) ?h1 ?h2 ?h3 ?h4 ?h5 ?_ ?h6 ?h7 ?h8 ?h9); (case h1 => k_is); (case h2 => k_is); (case h3 => k_room); (case h4 => first | exact BindsTo.of_eq rfl | exact binds_K (Frag.In.keeps (by assumption) (And.left (by assumption))) rfl (by k_is) rfl rfl rfl); (case h5 => exact locs rfl); (case h6 => exact rfl); (case h7 => exact rfl); (case h8 => exact rfl); (case h9 => decide); intro L' h' F' N'; (try dsimp only)))
local macro_rules | `(tactic| walk_at "getAttr ref") => `(tactic| (k_here; k_dflt (refine' get_sm ?k1 ?k2 ?k3 ?k4 ?k5 ?k6 ?k7 ?k8 ?k9 ?k10 ?k11 ?k12 ?_; (case k1 => k_asm); (case k2 => k_asm); (case k3 => k_inst); (case k4 => k_is); (case k5 => k_is); (case k6 => k_is); (case k7 => k_is); (case k8 => k_is); (case k9 => decide +kernel); (case k10 => k_get); (case k11 => k_is); (case k12 => k_handed); k_whole)))
local macro_rules | `(tactic| walk_at "DKSZ") => `(tactic| first | omega | (refine Nat.le_trans (without_len _ _) ?_; walk_at "DKSZ") | (refine Nat.le_trans (stored_len _ _ _) (Nat.succ_le_succ ?_); walk_at "DKSZ") | (simp only [List.length_cons, List.length_nil, List.length_append, List.length_map]; omega))
local macro_rules | `(tactic| walk_at "DKVAL") => `(tactic| first | assumption | exact valueAt_head _ _ _ | (simp [valueAt]; done))
local macro_rules | `(tactic| walk_at "subscriptTail") => `(tactic| (k_here; kda_here; (with_reducible show wpAny _ _ (subscriptTail _ _ (Value.ref _) (Value.str _ _)) _ _ _); k_dflt (refine' kda_item (knd := PySem.strKind _ _) ?N ?p ?d (strKind_is _ _ _ _) ?v ?_; (case N => k_asm); (case p => k_mem); (case d => k_asm); (case v => walk_at "DKVAL"); k_whole)))
local macro_rules | `(tactic| walk_at "getItem ref str") => `(tactic| (k_here; kda_here; k_dflt (refine' dk_get (knd := PySem.strKind _ _) ?N ?p ?d (strKind_is _ _ _ _) ?v ?_; (case N => k_asm); (case p => k_mem); (case d => k_asm); (case v => walk_at "DKVAL"); k_whole)))
local macro_rules | `(tactic| walk_at "delItem ref str") => `(tactic| (k_here; kda_here; k_dflt (refine' dk_del (knd := PySem.strKind _ _) ?F ?N ?U ?d (strKind_is _ _ _ _) ?v ?z ?_; (case F => k_asm); (case N => k_asm); (case U => k_updF); (case d => k_asm); (case v => first | assumption | exact isSome_of (by walk_at "DKVAL")); (case z => walk_at "DKSZ"); k_whole); intro h' o' F' N' hd'; (try dsimp only at N')))
local macro_rules | `(tactic| walk_at "call builtin:dict.pop") => `(tactic| (k_here; kda_here; k_dflt (refine' dk_pop (knd := PySem.strKind _ _) (more := []) (.inl rfl) (by rfl) (PySem.F.args_dict_pop_2 _ _) ?F ?N ?U ?d (strKind_is _ _ _ _) ?v ?z ?_; (case F => k_asm); (case N => k_asm); (case U => k_updF); (case d => k_asm); (case v => walk_at "DKVAL"); (case z => walk_at "DKSZ"); k_whole); intro h' o' F' N' hd'; (try dsimp only at N')))
local macro_rules | `(tactic| walk_at "getMethod ref") => `(tactic| (k_here; kda_here; (with_reducible show wpAny _ _ (getMethod (Value.ref _) (Str.ofString "pop") _) _ _ _); k_dflt (refine' dk_popMeth (knd := PySem.strKind _ _) ?N ?p ?d ?_; (case N => k_asm); (case p => k_mem); (case d => k_asm); k_whole)))
local macro_rules | `(tactic| walk_at "setItem ref str") => `(tactic| (k_here; kda_here; k_dflt (refine' kda_set (knd := PySem.strKind _ _) ?F ?N ?U ?d (strKind_is _ _ _ _) ?z ?_; (case F => k_asm); (case N => k_asm); (case U => k_updF); (case d => k_asm); (case z => rw [sizeLine_eq]; walk_at "DKSZ"); k_whole); intro h' o' F' N' hd'; (try dsimp only at N')))
local macro_rules | `(tactic| walk_at "compareOp In str ref") => `(tactic| (k_here; kda_here; k_dflt (first | (refine' kda_in (knd := PySem.strKind _ _) ?N ?p ?d ?l (strKind_is _ _ _ _) true ?b ?_; (case N => k_asm); (case p => k_mem); (case d => k_asm); (case l => k_asm); (case b => exact isSome_of (by assumption)); k_whole) | (refine' kda_in (knd := PySem.strKind _ _) ?N ?p ?d ?l (strKind_is _ _ _ _) false ?b ?_; (case N => k_asm); (case p => k_mem); (case d => k_asm); (case l => k_asm); (case b => exact isNone_of (by assumption)); k_whole) | (refine' kda_in (knd := PySem.strKind _ _) ?N ?p ?d ?l (strKind_is _ _ _ _) _ ?b ?_; (case N => k_asm); (case p => k_mem); (case d => k_asm); (case l => k_asm); (case b => exact rfl); k_whole))))
local macro_rules | `(tactic| walk_at "call builtin:len") => `(tactic| (k_here; kda_here; (with_reducible show wpAny _ _ (call (Value.builtin "len") [Value.ref _]) _ _ _); k_dflt (refine' kda_len (knd := PySem.strKind _ _) ?N ?p ?d ?l ?z ?_; (case N => k_asm); (case p => k_mem); (case d => k_asm); (case l => k_asm); (case z => walk_at "DKSZ"); k_whole)))
local macro_rules | `(tactic| walk_at "delItem ref") => `(tactic| (k_here; k_dflt (refine' del_own ?k1 ?k2 ?k3 ?k4 ?k5 ?k6 ?_; (case k1 => k_asm); (case k2 => k_asm); (case k3 => k_inst); (case k4 => k_is); (case k5 => k_is); (case k6 => k_is); k_whole)))
local macro_rules | `(tactic| walk_at "WhlIf") => `(tactic| first | (refine WhlIf.yes (decide_eq_true (by omega)) ?_) | (refine WhlIf.no (decide_eq_false (by omega)) ?_))
local macro_rules | `(tactic| walk_at "START") => `(tactic| ((try k_fold); k_steps))
local macro_rules | `(tactic| walk_at "CASH") => `(tactic| (refine ⟨_, _, _, Fit.sub (by assumption) (by assumption) (by dsimp only [led, List.cons_append, List.nil_append]; k_subL), by assumption, by assumption⟩))
local macro_rules | `(tactic| walk_at "call builtin:dict.pop") => `(tactic| (k_here; kda_here; k_dflt (refine' dk_popMiss (knd := PySem.strKind _ _) ?H (by rfl) (PySem.F.args_dict_pop_2 _ _) ?N ?p ?d ?l (strKind_is _ _ _ _) ?v ?_; (case H => rfl); (case N => k_asm); (case p => k_mem); (case d => k_asm); (case l => k_asm); (case v => assumption); k_whole); intro h' e' x'))
local macro_rules | `(tactic| walk_at "LEDSUB") => `(tactic| (dsimp only [led, List.cons_append, List.nil_append]; k_subL))
local macro_rules | `(tactic| walk_at "PRE") => `(tactic| first | assumption | (refine ⟨?_, ?_, ?_⟩ <;> first | assumption | walk_at "DKSZ") | (refine ⟨?_, ?_, ?_, ?_⟩ <;> first | assumption | walk_at "DKSZ") | (refine ⟨?_, ?_, ?_, ?_, ?_, ?_, ?_⟩ <;> first | assumption | walk_at "DKSZ"))
local macro_rules | `(tactic| walk_at "DEED") => `(tactic| ((refine' Deed.code (K := Str) (v := ?kv) (dv := ?kd) ?k0 ?k1 ?k2 ?k3 ?k4 ?k5 ?k6 ?k7 ?k8 ?k9 ?k10 ?k11 ?k12 ?k14 ?k15 ?k16 ?k13 ?k17 ?k18 ?_; (case k0 => assumption); (case k5 => k_asm); (case k1 => k_asm); (case k2 => assumption); (case k3 => assumption); (case k4 => assumption); (case k6 => k_asm); (case k7 => exact rfl); (case k8 => exact rfl); (case k9 => exact rfl); (case k10 => exact rfl); (case k11 => exact Nat.le_of_ble_eq_true rfl); (case k12 => exact Nat.le_of_ble_eq_true rfl); (case k13 => assumption); (case k14 => walk_at "LEDSUB"); (case k15 => assumption); (case k16 => assumption); (case k17 => exact rfl); (case k18 => walk_at "PRE"); (try (case kv => exact Value.none)); (try (case kd => exact Value.none)); k_whole); (intro h' h'' tk' te' p1 p2 u' B' X' T' sz' F' N' D1' D2'); (try dsimp only [led] at N')))
local macro_rules | `(tactic| walk_at "call ref") => `(tactic| (k_here; k_dflt (first | (refine wpAny_call ?_; walk_at "DEED") | (refine' call_meth ?k1 ?k2 ?_; (case k1 => k_asm); (case k2 => k_mem); k_whole; walk_at "DEED"))))
local macro_rules | `(tactic| walk_at "DKVAL") => `(tactic| exact valueAt_stored _ _ _)
local macro_rules | `(tactic| walk_at "getItem ref str") => `(tactic| (k_here; kda_here; k_dflt (refine' dk_getMiss (knd := PySem.strKind _ _) ?H ?N ?p ?d ?l (strKind_is _ _ _ _) ?v ?_; (case H => rfl); (case N => k_asm); (case p => k_mem); (case d => k_asm); (case l => k_asm); (case v => assumption); k_whole); intro h' e' x'))
local macro_rules | `(tactic| walk_at "exec Raise some none") => `(tactic| ((with_reducible show wpAny _ _ (exec (Stmt.Raise (some (Expr.Call (Expr.Name ("KeyError" : Str) _) (_ :: _) [] _)) none _) _) _ _ _); k_dflt refine Raise_key_in (by rfl) ?_))
local macro_rules | `(tactic| walk_at "leaving ref") => `(tactic| ((with_reducible rename RaisedSN _ _ _ _ _ _ _ => rsX); (refine leave_onSN (by assumption) (by assumption) rsX (by assumption) ?_); intro h' R' _ U'))
local macro_rules | `(tactic| walk_at "leaving ref") => `(tactic| ((with_reducible rename Heap.MadeExc _ _ _ _ _ => mdX); (refine leave_ctx (by assumption) (NewCtx.of mdX) (by assumption) (by assumption) ?_); clear mdX; intro h' R' U'))
local macro_rules | `(tactic| walk_at "leaving ref") => `(tactic| ((with_reducible rename RaisedSN _ _ _ _ _ _ _ => rsX); (refine' leave_up ?f0 ?f1 ?f2 rsX ?f3 ?f4 ?f5 ?_); (case f0 => assumption); (case f2 => assumption); (case f1 => assumption); (case f4 => assumption); (case f5 => k_subL); (case f3 => assumption); clear rsX; intro h' g1 u' B' R' U'))
local macro_rules | `(tactic| walk_at "ite") => `(tactic| (k_closed; with_reducible first | refine PySem.W.ite_pos (by decide) ?_ | refine PySem.W.ite_neg (by decide) ?_))
local macro_rules | `(tactic| walk_at "exec While") => `(tactic| (k_here; k_dflt (refine whl_start 100 ?_)))
local macro_rules | `(tactic| walk_at "subscriptTail Attribute") => `(tactic| (k_here; kda_here; (with_reducible show wpAny _ _ (subscriptTail _ _ (Value.ref _) (Value.str _ _)) _ _ _); k_dflt (refine kdt_tail (knd := PySem.strKind _ _) (by k_asm) (by k_mem) (by k_asm) ?_)))
local macro_rules | `(tactic| walk_at "eval Call") => `(tactic| (k_here; (with_reducible show wpAny _ _ (eval (Expr.Call _ _ [] _) _) _ _ _); k_dflt (refine Call_ ?_)))
local macro_rules | `(tactic| walk_at "eval Call Attribute") => `(tactic| (k_here; (with_reducible show wpAny _ _ (eval (Expr.Call _ _ [] _) _) _ _ _); k_dflt (refine MethodCall_ ?_)))
local macro_rules | `(tactic| walk_at "exec Assign") => `(tactic| (k_here; (with_reducible show wpAny _ _ (exec (Stmt.Assign [Expr.Name _ _] _ _) _) _ _ _); k_dflt (refine wpAny_Assign_Name ?_)))
local macro_rules | `(tactic| walk_at "callWith builtin") => `(tactic| (k_here; k_dflt (first | with_reducible refine callWith_method0 ?_ | refine callWith_builtin1 ?_ | refine callWith_method1 ?_)))
local macro_rules | `(tactic| walk_at "getAttr ref") => `(tactic| (k_here; k_dflt (refine' get_own ?k1 ?k2 ?k3 ?k4 ?k5 ?k6 ?k7 ?k8 ?k9 ?_; (case k1 => k_asm); (case k2 => k_asm); (case k3 => k_inst); (case k4 => k_is); (case k5 => k_is); (case k6 => k_is); (case k7 => k_is); (case k8 => k_get); (case k9 => k_handed); k_whole)))
section
local macro_rules | `(tactic| walk_at "noteFrame ref") => `(tactic| ((with_reducible show wpAny _ _ (noteFrame _ _) (fun _ s₂ => wpAny _ _ (setFlight _ none) (fun _ s₃ => wpAny _ _ (handleBy _ _ (ExceptHandler.ExceptHandler (some (Expr.Name ("KeyError" : Str) _)) none _ _ :: _)) _ _ s₃) _ s₂) _ _); (refine caught_new (T' := "KeyError") (by assumption) (by assumption) (by assumption) (by assumption) (by assumption) (by assumption) (by k_is) PyProof.Rows.Boot.«KeyError» kr_isExc_KeyError kr_notTuple_KeyError (by rw [isSubtype_type]; kernel_rfl) ?_); (intro h' h'' u' B' F' N'); (have X' := Frag.In.keeps (by assumption) (Below.stays B')); (have T' := Top.keeps (by assumption) (Below.stays B'))))
local macro_rules | `(tactic| walk_at "noteFrame ref") => `(tactic| ((with_reducible rename RaisedSN _ _ _ _ _ _ _ => rsX); (k_dflt refine' caught_fly (T' := "KeyError") (by assumption) rsX ?f1 ?f2 ?f3 ?fs ?f4 ?f5 ?f6 ?f7 PyProof.Rows.Boot.«KeyError» kr_isExc_KeyError kr_notTuple_KeyError (by rw [isSubtype_type]; kernel_rfl) ?_); (case f2 => assumption); (case f1 => assumption); (case f3 => assumption); (case fs => k_subL); (case f4 => assumption); (case f5 => assumption); (case f6 => assumption); (case f7 => k_is); (intro h' h'' u' B' F' N'); (have X' := Frag.In.keeps (by assumption) (Below.stays B')); (have T' := Top.keeps (by assumption) (Below.stays B')); clear rsX))
local macro_rules | `(tactic| walk_at "call ref") => `(tactic| (k_here; k_dflt (first | (refine' call_meth ?k1 ?k2 ?_; (case k1 => k_asm); (case k2 => k_mem); k_whole; k_enter) | (refine wpAny_call ?_; k_enter))))
set_option maxRecDepth 100000 in
set_option maxHeartbeats 6000000 in
theorem touchL : Box (Touch (prog := PySem.Challenge.rw_bb0016_01.row.prog) (K := Str) Mine.pre.heap_1_1 Mine.pre.view_1_2 (fun w => PySem.strKind PySem.Challenge.rw_bb0016_01.row.prog w) Value.str 947 (Str.ofString "_LRUCache__order") 944) := by
  refine ⟨?_⟩
  k_fill
  unfold Touch
  intro w s c cur kvs ov k v dv tk base g fr gs mean mg mb lse R S O Q Pr hR
  obtain ⟨x, dx, d1, d2, ta, tb, tc, td, tf, mx⟩ := c
  have O' := O
  obtain ⟨l1, l2, l3, lo1, lo2⟩ := O
  obtain ⟨B, sz, Xb, Tb⟩ := S
  have X := Frag.In.keeps Xb B.stays
  have T := Tb.keeps B.stays
  obtain ⟨te, o1, o2, ft, D1, D2⟩ := Q
  obtain ⟨hvo, z1, z2⟩ := Pr
  dsimp only [led, first, List.nil_append] at l1 l2 l3 lo1 lo2 ft hR hvo z1 z2 ⊢
  walk_at "ENTER"
  walk_at "START"
  all_goals (first | ((try dsimp only); (try k_unfold); (try dsimp only); exact hR _ _ _ (by first | assumption | exact Up.refl (by assumption)) (by walk_at "CASH")) | (rename News _ _ _ _ => nwX; exact (nwX _ (by k_mem)).1) | trace_state)
end
section
local macro_rules | `(tactic| walk_at "noteFrame ref") => `(tactic| ((with_reducible show wpAny _ _ (noteFrame _ _) (fun _ s₂ => wpAny _ _ (setFlight _ none) (fun _ s₃ => wpAny _ _ (handleBy _ _ (ExceptHandler.ExceptHandler (some (Expr.Name ("KeyError" : Str) _)) none _ _ :: _)) _ _ s₃) _ s₂) _ _); (refine caught_new (T' := "KeyError") (by assumption) (by assumption) (by assumption) (by assumption) (by assumption) (by assumption) (by k_is) PyProof.Rows.Boot.«KeyError» kr_isExc_KeyError kr_notTuple_KeyError (by rw [isSubtype_type]; kernel_rfl) ?_); (intro h' h'' u' B' F' N'); (have X' := Frag.In.keeps (by assumption) (Below.stays B')); (have T' := Top.keeps (by assumption) (Below.stays B'))))
local macro_rules | `(tactic| walk_at "noteFrame ref") => `(tactic| ((with_reducible show wpAny _ _ (noteFrame _ _) (fun _ s₂ => wpAny _ _ (setFlight _ none) (fun _ s₃ => wpAny _ _ (handleBy _ _ (ExceptHandler.ExceptHandler (some (Expr.Name ("KeyError" : Str) _)) none _ _ :: _)) _ _ s₃) _ s₂) _ _); (k_dflt refine caught_newC (T' := "KeyError") (by assumption) (by assumption) (by assumption) (by assumption) (by assumption) (by assumption) (by k_is) PyProof.Rows.Boot.«KeyError» kr_isExc_KeyError kr_notTuple_KeyError (by rw [isSubtype_type]; kernel_rfl) ?_); (intro h' h'' oe' vs' u' B' F' N' od' oc'); (have X' := Frag.In.keeps (by assumption) (Below.stays B')); (have T' := Top.keeps (by assumption) (Below.stays B'))))
local macro_rules | `(tactic| walk_at "noteFrame ref") => `(tactic| ((with_reducible rename RaisedSN _ _ _ _ _ _ _ => rsX); (k_dflt refine' caught_fly (T' := "KeyError") (by assumption) rsX ?f1 ?f2 ?f3 ?fs ?f4 ?f5 ?f6 ?f7 PyProof.Rows.Boot.«KeyError» kr_isExc_KeyError kr_notTuple_KeyError (by rw [isSubtype_type]; kernel_rfl) ?_); (case f2 => assumption); (case f1 => assumption); (case f3 => assumption); (case fs => k_subL); (case f4 => assumption); (case f5 => assumption); (case f6 => assumption); (case f7 => k_is); (intro h' h'' u' B' F' N'); (have X' := Frag.In.keeps (by assumption) (Below.stays B')); (have T' := Top.keeps (by assumption) (Below.stays B')); clear rsX))
local macro_rules | `(tactic| walk_at "call ref") => `(tactic| (k_here; k_dflt (first | (refine' call_meth ?k1 ?k2 ?_; (case k1 => k_asm); (case k2 => k_mem); k_whole; k_enter) | (refine wpAny_call ?_; k_enter))))
set_option maxRecDepth 100000 in
set_option maxHeartbeats 6000000 in
theorem gtF : Box (GtHit (prog := PySem.Challenge.rw_bb0016_01.row.prog) (K := Str) Mine.pre.heap_1_1 Mine.pre.view_1_2 (fun w => PySem.strKind PySem.Challenge.rw_bb0016_01.row.prog w) Value.str 882 (Str.ofString "_FIFOCache__order") 728 false) := by
  refine ⟨?_⟩
  k_fill
  unfold GtHit
  intro w s c cur kvs ov k v dv tk base g fr gs mean mg mb lse R S O Q Pr hR
  obtain ⟨x, dx, d1, d2, ta, tb, tc, td, tf, mx⟩ := c
  have O' := O
  obtain ⟨l1, l2, l3, lo1, lo2⟩ := O
  obtain ⟨B, sz, Xb, Tb⟩ := S
  have X := Frag.In.keeps Xb B.stays
  have T := Tb.keeps B.stays
  obtain ⟨te, o1, o2, ft, D1, D2⟩ := Q
  obtain ⟨hv, hvo, z1, z2⟩ := Pr
  dsimp only [led, first, List.nil_append] at l1 l2 l3 lo1 lo2 ft hR hv hvo z1 z2 ⊢
  walk_at "ENTER"
  walk_at "START"
  all_goals (first | ((try dsimp only); (try k_unfold); (try dsimp only); exact hR _ _ _ (by first | assumption | exact Up.refl (by assumption)) (by walk_at "CASH")) | (rename News _ _ _ _ => nwX; exact (nwX _ (by k_mem)).1) | trace_state)
set_option maxRecDepth 100000 in
set_option maxHeartbeats 6000000 in
theorem gtL : Box (GtHit (prog := PySem.Challenge.rw_bb0016_01.row.prog) (K := Str) Mine.pre.heap_1_1 Mine.pre.view_1_2 (fun w => PySem.strKind PySem.Challenge.rw_bb0016_01.row.prog w) Value.str 947 (Str.ofString "_LRUCache__order") 907 true) := by
  refine ⟨?_⟩
  k_fill
  unfold GtHit
  intro w s c cur kvs ov k v dv tk base g fr gs mean mg mb lse R S O Q Pr hR
  obtain ⟨x, dx, d1, d2, ta, tb, tc, td, tf, mx⟩ := c
  have O' := O
  obtain ⟨l1, l2, l3, lo1, lo2⟩ := O
  obtain ⟨B, sz, Xb, Tb⟩ := S
  have X := Frag.In.keeps Xb B.stays
  have T := Tb.keeps B.stays
  obtain ⟨te, o1, o2, ft, D1, D2⟩ := Q
  obtain ⟨hv, hvo, z1, z2⟩ := Pr
  dsimp only [led, first, List.nil_append] at l1 l2 l3 lo1 lo2 ft hR hv hvo z1 z2 ⊢
  walk_at "ENTER"
  walk_at "START"
  all_goals (first | ((try dsimp only); (try k_unfold); (try dsimp only); exact hR _ _ _ (by first | assumption | exact Up.refl (by assumption)) (by walk_at "CASH")) | (rename News _ _ _ _ => nwX; exact (nwX _ (by k_mem)).1) | trace_state)
set_option maxRecDepth 100000 in
set_option maxHeartbeats 6000000 in
theorem ppF : Box (PpHit (prog := PySem.Challenge.rw_bb0016_01.row.prog) (K := Str) Mine.pre.heap_1_1 Mine.pre.view_1_2 (fun w => PySem.strKind PySem.Challenge.rw_bb0016_01.row.prog w) Value.str 882 (Str.ofString "_FIFOCache__order") 786 false) := by
  refine ⟨?_⟩
  k_fill
  unfold PpHit
  intro w s c cur kvs ov k v dv tk base g fr gs mean mg mb lse R S O Q Pr hR
  obtain ⟨x, dx, d1, d2, ta, tb, tc, td, tf, mx⟩ := c
  have O' := O
  obtain ⟨l1, l2, l3, lo1, lo2⟩ := O
  obtain ⟨B, sz, Xb, Tb⟩ := S
  have X := Frag.In.keeps Xb B.stays
  have T := Tb.keeps B.stays
  obtain ⟨te, o1, o2, ft, D1, D2⟩ := Q
  obtain ⟨hv, hvo, z1, z2⟩ := Pr
  dsimp only [led, first, List.nil_append] at l1 l2 l3 lo1 lo2 ft hR hv hvo z1 z2 ⊢
  walk_at "ENTER"
  walk_at "START"
  all_goals (first | ((try dsimp only); (try k_unfold); (try dsimp only); exact hR _ _ _ (by first | assumption | exact Up.refl (by assumption)) (by walk_at "CASH")) | (rename News _ _ _ _ => nwX; exact (nwX _ (by k_mem)).1) | trace_state)
set_option maxRecDepth 100000 in
set_option maxHeartbeats 6000000 in
theorem ppL : Box (PpHit (prog := PySem.Challenge.rw_bb0016_01.row.prog) (K := Str) Mine.pre.heap_1_1 Mine.pre.view_1_2 (fun w => PySem.strKind PySem.Challenge.rw_bb0016_01.row.prog w) Value.str 947 (Str.ofString "_LRUCache__order") 786 true) := by
  refine ⟨?_⟩
  k_fill
  unfold PpHit
  intro w s c cur kvs ov k v dv tk base g fr gs mean mg mb lse R S O Q Pr hR
  obtain ⟨x, dx, d1, d2, ta, tb, tc, td, tf, mx⟩ := c
  have O' := O
  obtain ⟨l1, l2, l3, lo1, lo2⟩ := O
  obtain ⟨B, sz, Xb, Tb⟩ := S
  have X := Frag.In.keeps Xb B.stays
  have T := Tb.keeps B.stays
  obtain ⟨te, o1, o2, ft, D1, D2⟩ := Q
  obtain ⟨hv, hvo, z1, z2⟩ := Pr
  dsimp only [led, first, List.nil_append] at l1 l2 l3 lo1 lo2 ft hR hv hvo z1 z2 ⊢
  walk_at "ENTER"
  walk_at "START"
  all_goals (first | ((try dsimp only); (try k_unfold); (try dsimp only); exact hR _ _ _ (by first | assumption | exact Up.refl (by assumption)) (by walk_at "CASH")) | (rename News _ _ _ _ => nwX; exact (nwX _ (by k_mem)).1) | trace_state)
set_option maxRecDepth 100000 in
set_option maxHeartbeats 6000000 in
theorem pdF : Box (PdHit (prog := PySem.Challenge.rw_bb0016_01.row.prog) (K := Str) Mine.pre.heap_1_1 Mine.pre.view_1_2 (fun w => PySem.strKind PySem.Challenge.rw_bb0016_01.row.prog w) Value.str 882 (Str.ofString "_FIFOCache__order") 786 false) := by
  refine ⟨?_⟩
  k_fill
  unfold PdHit
  intro w s c cur kvs ov k v dv tk base g fr gs mean mg mb lse R S O Q Pr hR
  obtain ⟨x, dx, d1, d2, ta, tb, tc, td, tf, mx⟩ := c
  have O' := O
  obtain ⟨l1, l2, l3, lo1, lo2⟩ := O
  obtain ⟨B, sz, Xb, Tb⟩ := S
  have X := Frag.In.keeps Xb B.stays
  have T := Tb.keeps B.stays
  obtain ⟨te, o1, o2, ft, D1, D2⟩ := Q
  obtain ⟨hv, hvo, z1, z2⟩ := Pr
  dsimp only [led, first, List.nil_append] at l1 l2 l3 lo1 lo2 ft hR hv hvo z1 z2 ⊢
  walk_at "ENTER"
  walk_at "START"
  all_goals (first | ((try dsimp only); (try k_unfold); (try dsimp only); exact hR _ _ _ (by first | assumption | exact Up.refl (by assumption)) (by walk_at "CASH")) | (rename News _ _ _ _ => nwX; exact (nwX _ (by k_mem)).1) | trace_state)
set_option maxRecDepth 100000 in
set_option maxHeartbeats 6000000 in
theorem pdL : Box (PdHit (prog := PySem.Challenge.rw_bb0016_01.row.prog) (K := Str) Mine.pre.heap_1_1 Mine.pre.view_1_2 (fun w => PySem.strKind PySem.Challenge.rw_bb0016_01.row.prog w) Value.str 947 (Str.ofString "_LRUCache__order") 786 true) := by
  refine ⟨?_⟩
  k_fill
  unfold PdHit
  intro w s c cur kvs ov k v dv tk base g fr gs mean mg mb lse R S O Q Pr hR
  obtain ⟨x, dx, d1, d2, ta, tb, tc, td, tf, mx⟩ := c
  have O' := O
  obtain ⟨l1, l2, l3, lo1, lo2⟩ := O
  obtain ⟨B, sz, Xb, Tb⟩ := S
  have X := Frag.In.keeps Xb B.stays
  have T := Tb.keeps B.stays
  obtain ⟨te, o1, o2, ft, D1, D2⟩ := Q
  obtain ⟨hv, hvo, z1, z2⟩ := Pr
  dsimp only [led, first, List.nil_append] at l1 l2 l3 lo1 lo2 ft hR hv hvo z1 z2 ⊢
  walk_at "ENTER"
  walk_at "START"
  all_goals (first | ((try dsimp only); (try k_unfold); (try dsimp only); exact hR _ _ _ (by first | assumption | exact Up.refl (by assumption)) (by walk_at "CASH")) | (rename News _ _ _ _ => nwX; exact (nwX _ (by k_mem)).1) | trace_state)
set_option maxRecDepth 100000 in
set_option maxHeartbeats 6000000 in
theorem pmF : Box (PdMiss (prog := PySem.Challenge.rw_bb0016_01.row.prog) (K := Str) Mine.pre.heap_1_1 Mine.pre.view_1_2 (fun w => PySem.strKind PySem.Challenge.rw_bb0016_01.row.prog w) Value.str 882 (Str.ofString "_FIFOCache__order") 786) := by
  refine ⟨?_⟩
  k_fill
  unfold PdMiss
  intro w s c cur kvs ov k v dv tk base g fr gs mean mg mb lse R S O Q Pr hR
  obtain ⟨x, dx, d1, d2, ta, tb, tc, td, tf, mx⟩ := c
  have O' := O
  obtain ⟨l1, l2, l3, lo1, lo2⟩ := O
  obtain ⟨B, sz, Xb, Tb⟩ := S
  have X := Frag.In.keeps Xb B.stays
  have T := Tb.keeps B.stays
  obtain ⟨te, o1, o2, ft, D1, D2⟩ := Q
  obtain ⟨hv, z1⟩ := Pr
  dsimp only [led, first, List.nil_append] at l1 l2 l3 lo1 lo2 ft hR hv z1 ⊢
  walk_at "ENTER"
  walk_at "START"
  all_goals (first | ((try dsimp only); (try k_unfold); (try dsimp only); exact hR _ _ _ (by first | assumption | exact Up.refl (by assumption)) (by walk_at "CASH")) | (rename News _ _ _ _ => nwX; exact (nwX _ (by k_mem)).1) | trace_state)
set_option maxRecDepth 100000 in
set_option maxHeartbeats 6000000 in
theorem pmL : Box (PdMiss (prog := PySem.Challenge.rw_bb0016_01.row.prog) (K := Str) Mine.pre.heap_1_1 Mine.pre.view_1_2 (fun w => PySem.strKind PySem.Challenge.rw_bb0016_01.row.prog w) Value.str 947 (Str.ofString "_LRUCache__order") 786) := by
  refine ⟨?_⟩
  k_fill
  unfold PdMiss
  intro w s c cur kvs ov k v dv tk base g fr gs mean mg mb lse R S O Q Pr hR
  obtain ⟨x, dx, d1, d2, ta, tb, tc, td, tf, mx⟩ := c
  have O' := O
  obtain ⟨l1, l2, l3, lo1, lo2⟩ := O
  obtain ⟨B, sz, Xb, Tb⟩ := S
  have X := Frag.In.keeps Xb B.stays
  have T := Tb.keeps B.stays
  obtain ⟨te, o1, o2, ft, D1, D2⟩ := Q
  obtain ⟨hv, z1⟩ := Pr
  dsimp only [led, first, List.nil_append] at l1 l2 l3 lo1 lo2 ft hR hv z1 ⊢
  walk_at "ENTER"
  walk_at "START"
  all_goals (first | ((try dsimp only); (try k_unfold); (try dsimp only); exact hR _ _ _ (by first | assumption | exact Up.refl (by assumption)) (by walk_at "CASH")) | (rename News _ _ _ _ => nwX; exact (nwX _ (by k_mem)).1) | trace_state)
set_option maxRecDepth 100000 in
set_option maxHeartbeats 6000000 in
theorem shF : Box (StHit (prog := PySem.Challenge.rw_bb0016_01.row.prog) (K := Str) Mine.pre.heap_1_1 Mine.pre.view_1_2 (fun w => PySem.strKind PySem.Challenge.rw_bb0016_01.row.prog w) Value.str 882 (Str.ofString "_FIFOCache__order") 857) := by
  refine ⟨?_⟩
  k_fill
  unfold StHit
  intro w s c cur kvs ov k v dv tk base g fr gs mean mg mb lse R S O Q Pr hR
  obtain ⟨x, dx, d1, d2, ta, tb, tc, td, tf, mx⟩ := c
  have O' := O
  obtain ⟨l1, l2, l3, lo1, lo2⟩ := O
  obtain ⟨B, sz, Xb, Tb⟩ := S
  have X := Frag.In.keeps Xb B.stays
  have T := Tb.keeps B.stays
  obtain ⟨te, o1, o2, ft, D1, D2⟩ := Q
  obtain ⟨hv, hvo, m1, m2, z1, z2⟩ := Pr
  dsimp only [led, first, List.nil_append] at l1 l2 l3 lo1 lo2 ft hR hv hvo m1 m2 z1 z2 ⊢
  walk_at "ENTER"
  walk_at "START"
  all_goals (first | ((try dsimp only); (try k_unfold); (try dsimp only); exact hR _ _ _ (by first | assumption | exact Up.refl (by assumption)) (by walk_at "CASH")) | (rename News _ _ _ _ => nwX; exact (nwX _ (by k_mem)).1) | trace_state)
set_option maxRecDepth 100000 in
set_option maxHeartbeats 6000000 in
theorem shL : Box (StHit (prog := PySem.Challenge.rw_bb0016_01.row.prog) (K := Str) Mine.pre.heap_1_1 Mine.pre.view_1_2 (fun w => PySem.strKind PySem.Challenge.rw_bb0016_01.row.prog w) Value.str 947 (Str.ofString "_LRUCache__order") 915) := by
  refine ⟨?_⟩
  k_fill
  unfold StHit
  intro w s c cur kvs ov k v dv tk base g fr gs mean mg mb lse R S O Q Pr hR
  obtain ⟨x, dx, d1, d2, ta, tb, tc, td, tf, mx⟩ := c
  have O' := O
  obtain ⟨l1, l2, l3, lo1, lo2⟩ := O
  obtain ⟨B, sz, Xb, Tb⟩ := S
  have X := Frag.In.keeps Xb B.stays
  have T := Tb.keeps B.stays
  obtain ⟨te, o1, o2, ft, D1, D2⟩ := Q
  obtain ⟨hv, hvo, m1, m2, z1, z2⟩ := Pr
  dsimp only [led, first, List.nil_append] at l1 l2 l3 lo1 lo2 ft hR hv hvo m1 m2 z1 z2 ⊢
  walk_at "ENTER"
  walk_at "START"
  all_goals (first | ((try dsimp only); (try k_unfold); (try dsimp only); exact hR _ _ _ (by first | assumption | exact Up.refl (by assumption)) (by walk_at "CASH")) | (rename News _ _ _ _ => nwX; exact (nwX _ (by k_mem)).1) | trace_state)
set_option maxRecDepth 100000 in
set_option maxHeartbeats 6000000 in
theorem snF : Box (StNew (prog := PySem.Challenge.rw_bb0016_01.row.prog) (K := Str) Mine.pre.heap_1_1 Mine.pre.view_1_2 (fun w => PySem.strKind PySem.Challenge.rw_bb0016_01.row.prog w) Value.str 882 (Str.ofString "_FIFOCache__order") 857) := by
  refine ⟨?_⟩
  k_fill
  unfold StNew
  intro w s c cur kvs ov k v dv tk base g fr gs mean mg mb lse R S O Q Pr hR
  obtain ⟨x, dx, d1, d2, ta, tb, tc, td, tf, mx⟩ := c
  have O' := O
  obtain ⟨l1, l2, l3, lo1, lo2⟩ := O
  obtain ⟨B, sz, Xb, Tb⟩ := S
  have X := Frag.In.keeps Xb B.stays
  have T := Tb.keeps B.stays
  obtain ⟨te, o1, o2, ft, D1, D2⟩ := Q
  obtain ⟨hv, hvo, hc, m1, m2, z1, z2⟩ := Pr
  dsimp only [led, first, List.nil_append] at l1 l2 l3 lo1 lo2 ft hR hv hvo hc m1 m2 z1 z2 ⊢
  walk_at "ENTER"
  walk_at "START"
  all_goals (first | ((try dsimp only); (try k_unfold); (try dsimp only); exact hR _ _ _ (by first | assumption | exact Up.refl (by assumption)) (by walk_at "CASH")) | (rename News _ _ _ _ => nwX; exact (nwX _ (by k_mem)).1) | trace_state)
set_option maxRecDepth 100000 in
set_option maxHeartbeats 6000000 in
theorem sfF : Box (StFull (prog := PySem.Challenge.rw_bb0016_01.row.prog) (K := Str) Mine.pre.heap_1_1 Mine.pre.view_1_2 (fun w => PySem.strKind PySem.Challenge.rw_bb0016_01.row.prog w) Value.str 882 (Str.ofString "_FIFOCache__order") 857) := by
  refine ⟨?_⟩
  k_fill
  unfold StFull
  intro w s c cur kvs ov k v dv tk base g fr gs mean mg mb lse R S O Q Pr hR
  obtain ⟨x, dx, d1, d2, ta, tb, tc, td, tf, mx⟩ := c
  have O' := O
  obtain ⟨l1, l2, l3, lo1, lo2⟩ := O
  obtain ⟨B, sz, Xb, Tb⟩ := S
  have X := Frag.In.keeps Xb B.stays
  have T := Tb.keeps B.stays
  obtain ⟨te, o1, o2, ft, D1, D2⟩ := Q
  have Pr2 := Pr
  obtain ⟨k0, v0, rest, rfl, rfl, hv0, hv, hvo1, hvo2, m1, m2, z1, z2⟩ := Pr
  dsimp only [led, first, List.nil_append] at l1 l2 l3 lo1 lo2 ft hR hv0 hv hvo1 hvo2 m1 m2 z1 z2 ⊢
  walk_at "ENTER"
  walk_at "START"
  all_goals (first | ((try dsimp only); (try k_unfold); (try dsimp only); exact hR _ _ _ (by first | assumption | exact Up.refl (by assumption)) (by walk_at "CASH")) | (rename News _ _ _ _ => nwX; exact (nwX _ (by k_mem)).1) | trace_state)
set_option maxRecDepth 100000 in
set_option maxHeartbeats 6000000 in
theorem loF : Box (Lost (prog := PySem.Challenge.rw_bb0016_01.row.prog) (K := Str) Mine.pre.heap_1_1 Mine.pre.view_1_2 (fun w => PySem.strKind PySem.Challenge.rw_bb0016_01.row.prog w) Value.str 882 (Str.ofString "_FIFOCache__order") 963) := by
  refine ⟨?_⟩
  k_fill
  unfold Lost
  intro w s c cur kvs ov k v dv tk base g fr gs mean mg mb lse R S O Q Pr hR
  obtain ⟨x, dx, d1, d2, ta, tb, tc, td, tf, mx⟩ := c
  have O' := O
  obtain ⟨l1, l2, l3, lo1, lo2⟩ := O
  obtain ⟨B, sz, Xb, Tb⟩ := S
  have X := Frag.In.keeps Xb B.stays
  have T := Tb.keeps B.stays
  obtain ⟨te, o1, o2, ft, D1, D2⟩ := Q
  obtain ⟨hv, z1⟩ := Pr
  dsimp only [led, first, List.nil_append] at l1 l2 l3 lo1 lo2 ft hR hv z1 ⊢
  walk_at "ENTER"
  walk_at "START"
  all_goals (first | ((try dsimp only); (try k_unfold); (try dsimp only); exact hR _ _ _ (by first | assumption | exact Up.refl (by assumption)) (by walk_at "CASH")) | (rename News _ _ _ _ => nwX; exact (nwX _ (by k_mem)).1) | trace_state)
set_option maxRecDepth 100000 in
set_option maxHeartbeats 6000000 in
theorem loL : Box (Lost (prog := PySem.Challenge.rw_bb0016_01.row.prog) (K := Str) Mine.pre.heap_1_1 Mine.pre.view_1_2 (fun w => PySem.strKind PySem.Challenge.rw_bb0016_01.row.prog w) Value.str 947 (Str.ofString "_LRUCache__order") 963) := by
  refine ⟨?_⟩
  k_fill
  unfold Lost
  intro w s c cur kvs ov k v dv tk base g fr gs mean mg mb lse R S O Q Pr hR
  obtain ⟨x, dx, d1, d2, ta, tb, tc, td, tf, mx⟩ := c
  have O' := O
  obtain ⟨l1, l2, l3, lo1, lo2⟩ := O
  obtain ⟨B, sz, Xb, Tb⟩ := S
  have X := Frag.In.keeps Xb B.stays
  have T := Tb.keeps B.stays
  obtain ⟨te, o1, o2, ft, D1, D2⟩ := Q
  obtain ⟨hv, z1⟩ := Pr
  dsimp only [led, first, List.nil_append] at l1 l2 l3 lo1 lo2 ft hR hv z1 ⊢
  walk_at "ENTER"
  walk_at "START"
  all_goals (first | ((try dsimp only); (try k_unfold); (try dsimp only); exact hR _ _ _ (by first | assumption | exact Up.refl (by assumption)) (by walk_at "CASH")) | (rename News _ _ _ _ => nwX; exact (nwX _ (by k_mem)).1) | trace_state)
set_option maxRecDepth 100000 in
set_option maxHeartbeats 6000000 in
theorem poF : Box (Popped (prog := PySem.Challenge.rw_bb0016_01.row.prog) (K := Str) Mine.pre.heap_1_1 Mine.pre.view_1_2 (fun w => PySem.strKind PySem.Challenge.rw_bb0016_01.row.prog w) Value.str 882 (Str.ofString "_FIFOCache__order") 872) := by
  refine ⟨?_⟩
  k_fill
  unfold Popped
  intro w s c cur kvs rest k0 v base g fr gs mean mg mb lse R S O Q hv z1 z2 hR
  obtain ⟨x, dx, d1, d2, ta, tb, tc, td, tf, mx⟩ := c
  have O' := O
  obtain ⟨l1, l2, l3, lo1, lo2⟩ := O
  obtain ⟨B, sz, Xb, Tb⟩ := S
  have X := Frag.In.keeps Xb B.stays
  have T := Tb.keeps B.stays
  obtain ⟨te, o1, o2, ft, D1, D2⟩ := Q
  dsimp only [led, List.nil_append] at l1 l2 l3 lo1 lo2 ft hR ⊢
  walk_at "ENTER"
  walk_at "START"
  all_goals (first | ((try dsimp only); (try k_unfold); (try dsimp only); exact hR _ _ _ _ _ (by first | assumption | exact Up.refl (by assumption)) (by walk_at "CASH")) | trace_state)
set_option maxRecDepth 100000 in
set_option maxHeartbeats 6000000 in
theorem poL : Box (Popped (prog := PySem.Challenge.rw_bb0016_01.row.prog) (K := Str) Mine.pre.heap_1_1 Mine.pre.view_1_2 (fun w => PySem.strKind PySem.Challenge.rw_bb0016_01.row.prog w) Value.str 947 (Str.ofString "_LRUCache__order") 930) := by
  refine ⟨?_⟩
  k_fill
  unfold Popped
  intro w s c cur kvs rest k0 v base g fr gs mean mg mb lse R S O Q hv z1 z2 hR
  obtain ⟨x, dx, d1, d2, ta, tb, tc, td, tf, mx⟩ := c
  have O' := O
  obtain ⟨l1, l2, l3, lo1, lo2⟩ := O
  obtain ⟨B, sz, Xb, Tb⟩ := S
  have X := Frag.In.keeps Xb B.stays
  have T := Tb.keeps B.stays
  obtain ⟨te, o1, o2, ft, D1, D2⟩ := Q
  dsimp only [led, List.nil_append] at l1 l2 l3 lo1 lo2 ft hR ⊢
  walk_at "ENTER"
  walk_at "START"
  all_goals (first | ((try dsimp only); (try k_unfold); (try dsimp only); exact hR _ _ _ _ _ (by first | assumption | exact Up.refl (by assumption)) (by walk_at "CASH")) | trace_state)
set_option maxRecDepth 100000 in
set_option maxHeartbeats 6000000 in
theorem haF : Box (Has (prog := PySem.Challenge.rw_bb0016_01.row.prog) Mine.pre.heap_1_1 Mine.pre.view_1_2 (fun w => PySem.strKind PySem.Challenge.rw_bb0016_01.row.prog w) 882 (Str.ofString "_FIFOCache__order") 749) := by
  refine ⟨?_⟩
  k_fill
  unfold Has
  intro w s c cur kvs ov k v dv tk base g fr gs mean mg mb lse R S O Q z1 hR
  obtain ⟨x, dx, d1, d2, ta, tb, tc, td, tf, mx⟩ := c
  have O' := O
  obtain ⟨l1, l2, l3, lo1, lo2⟩ := O
  obtain ⟨B, sz, Xb, Tb⟩ := S
  have X := Frag.In.keeps Xb B.stays
  have T := Tb.keeps B.stays
  obtain ⟨te, o1, o2, ft, D1, D2⟩ := Q
  dsimp only [led, List.nil_append] at l1 l2 l3 lo1 lo2 ft hR ⊢
  walk_at "ENTER"
  walk_at "START"
  all_goals (first | ((try dsimp only); (try k_unfold); (try dsimp only); exact hR _ _ _ (by first | assumption | exact Up.refl (by assumption)) (by walk_at "CASH")) | trace_state)
set_option maxRecDepth 100000 in
set_option maxHeartbeats 6000000 in
theorem haL : Box (Has (prog := PySem.Challenge.rw_bb0016_01.row.prog) Mine.pre.heap_1_1 Mine.pre.view_1_2 (fun w => PySem.strKind PySem.Challenge.rw_bb0016_01.row.prog w) 947 (Str.ofString "_LRUCache__order") 749) := by
  refine ⟨?_⟩
  k_fill
  unfold Has
  intro w s c cur kvs ov k v dv tk base g fr gs mean mg mb lse R S O Q z1 hR
  obtain ⟨x, dx, d1, d2, ta, tb, tc, td, tf, mx⟩ := c
  have O' := O
  obtain ⟨l1, l2, l3, lo1, lo2⟩ := O
  obtain ⟨B, sz, Xb, Tb⟩ := S
  have X := Frag.In.keeps Xb B.stays
  have T := Tb.keeps B.stays
  obtain ⟨te, o1, o2, ft, D1, D2⟩ := Q
  dsimp only [led, List.nil_append] at l1 l2 l3 lo1 lo2 ft hR ⊢
  walk_at "ENTER"
  walk_at "START"
  all_goals (first | ((try dsimp only); (try k_unfold); (try dsimp only); exact hR _ _ _ (by first | assumption | exact Up.refl (by assumption)) (by walk_at "CASH")) | trace_state)
set_option maxRecDepth 100000 in
set_option maxHeartbeats 6000000 in
theorem mxF : Box (Mxs (prog := PySem.Challenge.rw_bb0016_01.row.prog) Mine.pre.heap_1_1 Mine.pre.view_1_2 (fun w => PySem.strKind PySem.Challenge.rw_bb0016_01.row.prog w) 882 (Str.ofString "_FIFOCache__order") 808) := by
  refine ⟨?_⟩
  k_fill
  unfold Mxs
  intro w s c cur kvs ov k v dv tk base g fr gs mean mg mb lse R S O Q z1 hR
  obtain ⟨x, dx, d1, d2, ta, tb, tc, td, tf, mx⟩ := c
  have O' := O
  obtain ⟨l1, l2, l3, lo1, lo2⟩ := O
  obtain ⟨B, sz, Xb, Tb⟩ := S
  have X := Frag.In.keeps Xb B.stays
  have T := Tb.keeps B.stays
  obtain ⟨te, o1, o2, ft, D1, D2⟩ := Q
  dsimp only [led, List.nil_append] at l1 l2 l3 lo1 lo2 ft hR ⊢
  walk_at "ENTER"
  walk_at "START"
  all_goals (first | ((try dsimp only); (try k_unfold); (try dsimp only); exact hR _ _ _ (by first | assumption | exact Up.refl (by assumption)) (by walk_at "CASH")) | trace_state)
set_option maxRecDepth 100000 in
set_option maxHeartbeats 6000000 in
theorem mxL : Box (Mxs (prog := PySem.Challenge.rw_bb0016_01.row.prog) Mine.pre.heap_1_1 Mine.pre.view_1_2 (fun w => PySem.strKind PySem.Challenge.rw_bb0016_01.row.prog w) 947 (Str.ofString "_LRUCache__order") 808) := by
  refine ⟨?_⟩
  k_fill
  unfold Mxs
  intro w s c cur kvs ov k v dv tk base g fr gs mean mg mb lse R S O Q z1 hR
  obtain ⟨x, dx, d1, d2, ta, tb, tc, td, tf, mx⟩ := c
  have O' := O
  obtain ⟨l1, l2, l3, lo1, lo2⟩ := O
  obtain ⟨B, sz, Xb, Tb⟩ := S
  have X := Frag.In.keeps Xb B.stays
  have T := Tb.keeps B.stays
  obtain ⟨te, o1, o2, ft, D1, D2⟩ := Q
  dsimp only [led, List.nil_append] at l1 l2 l3 lo1 lo2 ft hR ⊢
  walk_at "ENTER"
  walk_at "START"
  all_goals (first | ((try dsimp only); (try k_unfold); (try dsimp only); exact hR _ _ _ (by first | assumption | exact Up.refl (by assumption)) (by walk_at "CASH")) | trace_state)
set_option maxRecDepth 100000 in
set_option maxHeartbeats 6000000 in
theorem lsF : Box (LensS (prog := PySem.Challenge.rw_bb0016_01.row.prog) Mine.pre.heap_1_1 Mine.pre.view_1_2 (fun w => PySem.strKind PySem.Challenge.rw_bb0016_01.row.prog w) 882 (Str.ofString "_FIFOCache__order") 770) := by
  refine ⟨?_⟩
  k_fill
  unfold LensS
  intro w s c cur te o1 o2 kvs ov base g fr gs mean mg mb lse R S O ft D1 D2 z1 hR
  obtain ⟨x, dx, d1, d2, ta, tb, tc, td, tf, mx⟩ := c
  have O' := O
  obtain ⟨l1, l2, l3, lo1, lo2⟩ := O
  obtain ⟨B, sz, Xb, Tb⟩ := S
  have X := Frag.In.keeps Xb B.stays
  have T := Tb.keeps B.stays
  dsimp only [led, List.nil_append] at l1 l2 l3 lo1 lo2 ft hR ⊢
  walk_at "ENTER"
  walk_at "START"
  all_goals (first | ((try dsimp only); (try k_unfold); (try dsimp only); exact hR _ _ _ _ (by first | assumption | exact Up.refl (by assumption)) (Fit.sub (by assumption) (by assumption) (by k_subL))) | trace_state)
set_option maxRecDepth 100000 in
set_option maxHeartbeats 6000000 in
theorem lsL : Box (LensS (prog := PySem.Challenge.rw_bb0016_01.row.prog) Mine.pre.heap_1_1 Mine.pre.view_1_2 (fun w => PySem.strKind PySem.Challenge.rw_bb0016_01.row.prog w) 947 (Str.ofString "_LRUCache__order") 770) := by
  refine ⟨?_⟩
  k_fill
  unfold LensS
  intro w s c cur te o1 o2 kvs ov base g fr gs mean mg mb lse R S O ft D1 D2 z1 hR
  obtain ⟨x, dx, d1, d2, ta, tb, tc, td, tf, mx⟩ := c
  have O' := O
  obtain ⟨l1, l2, l3, lo1, lo2⟩ := O
  obtain ⟨B, sz, Xb, Tb⟩ := S
  have X := Frag.In.keeps Xb B.stays
  have T := Tb.keeps B.stays
  dsimp only [led, List.nil_append] at l1 l2 l3 lo1 lo2 ft hR ⊢
  walk_at "ENTER"
  walk_at "START"
  all_goals (first | ((try dsimp only); (try k_unfold); (try dsimp only); exact hR _ _ _ _ (by first | assumption | exact Up.refl (by assumption)) (Fit.sub (by assumption) (by assumption) (by k_subL))) | trace_state)
set_option maxRecDepth 100000 in
set_option maxHeartbeats 6000000 in
theorem itF : Box (Iters (prog := PySem.Challenge.rw_bb0016_01.row.prog) Mine.pre.heap_1_1 Mine.pre.view_1_2 (fun w => PySem.strKind PySem.Challenge.rw_bb0016_01.row.prog w) 882 (Str.ofString "_FIFOCache__order") 763) := by
  refine ⟨?_⟩
  k_fill
  unfold Iters
  intro w s c cur kvs ov base g fr gs mean mg mb lse R S O Q z1 hR
  obtain ⟨x, dx, d1, d2, ta, tb, tc, td, tf, mx⟩ := c
  have O' := O
  obtain ⟨l1, l2, l3, lo1, lo2⟩ := O
  obtain ⟨B, sz, Xb, Tb⟩ := S
  have X := Frag.In.keeps Xb B.stays
  have T := Tb.keeps B.stays
  obtain ⟨te, o1, o2, ft, D1, D2⟩ := Q
  dsimp only [led, List.nil_append] at l1 l2 l3 lo1 lo2 ft hR ⊢
  walk_at "ENTER"
  walk_at "START"
  all_goals (first | ((try dsimp only); (try k_unfold); (try dsimp only); ((rename News _ _ _ _ => nwX); refine' hR _ _ _ _ ?o ?e (by first | assumption | exact Up.refl (by assumption)) ?a ?b ?c; (case b => exact KdkIter.at (by assumption) (News.get nwX (by k_mem))); (case c => exact KdkAt.dictAt (by assumption) (News.get nwX (by k_mem))); (case a => walk_at "CASH"))) | trace_state)
set_option maxRecDepth 100000 in
set_option maxHeartbeats 6000000 in
theorem itL : Box (Iters (prog := PySem.Challenge.rw_bb0016_01.row.prog) Mine.pre.heap_1_1 Mine.pre.view_1_2 (fun w => PySem.strKind PySem.Challenge.rw_bb0016_01.row.prog w) 947 (Str.ofString "_LRUCache__order") 763) := by
  refine ⟨?_⟩
  k_fill
  unfold Iters
  intro w s c cur kvs ov base g fr gs mean mg mb lse R S O Q z1 hR
  obtain ⟨x, dx, d1, d2, ta, tb, tc, td, tf, mx⟩ := c
  have O' := O
  obtain ⟨l1, l2, l3, lo1, lo2⟩ := O
  obtain ⟨B, sz, Xb, Tb⟩ := S
  have X := Frag.In.keeps Xb B.stays
  have T := Tb.keeps B.stays
  obtain ⟨te, o1, o2, ft, D1, D2⟩ := Q
  dsimp only [led, List.nil_append] at l1 l2 l3 lo1 lo2 ft hR ⊢
  walk_at "ENTER"
  walk_at "START"
  all_goals (first | ((try dsimp only); (try k_unfold); (try dsimp only); ((rename News _ _ _ _ => nwX); refine' hR _ _ _ _ ?o ?e (by first | assumption | exact Up.refl (by assumption)) ?a ?b ?c; (case b => exact KdkIter.at (by assumption) (News.get nwX (by k_mem))); (case c => exact KdkAt.dictAt (by assumption) (News.get nwX (by k_mem))); (case a => walk_at "CASH"))) | trace_state)
set_option maxRecDepth 100000 in
set_option maxHeartbeats 6000000 in
theorem inF : Box (InitOp (prog := PySem.Challenge.rw_bb0016_01.row.prog) Mine.pre.heap_1_1 Mine.pre.view_1_2 (fun w => PySem.strKind PySem.Challenge.rw_bb0016_01.row.prog w) 882 (Str.ofString "_FIFOCache__order") 849) := by
  refine ⟨?_⟩
  k_fill
  unfold InitOp
  intro w s x dx r tr base g fr gs mean mg mb lse R S lxd r1 r9 ft hR
  obtain ⟨B, sz, Xb, Tb⟩ := S
  have X := Frag.In.keeps Xb B.stays
  have T := Tb.keeps B.stays
  dsimp only [led, List.nil_append] at lxd ft hR ⊢
  walk_at "ENTER"
  walk_at "START"
  rename_i d1 h5 o1 lo1 hs1 fs1 hi1 fi1 l1 h4 h3 h2 F1 N1 Tc kX d2 h6 o2 lo2 hs2 fs2 hi2 fi2 l2 h7 F2 N2
  exact hR _ _ _ _ _ _ _ (Up.refl B) (fit_led (Fit.of F2 N2 fun _ h => h)) hs1 hs2 ⟨lxd, l1.1, l2.1, lo1, lo2⟩ rfl rfl rfl
set_option maxRecDepth 100000 in
set_option maxHeartbeats 6000000 in
theorem inL : Box (InitOp (prog := PySem.Challenge.rw_bb0016_01.row.prog) Mine.pre.heap_1_1 Mine.pre.view_1_2 (fun w => PySem.strKind PySem.Challenge.rw_bb0016_01.row.prog w) 947 (Str.ofString "_LRUCache__order") 899) := by
  refine ⟨?_⟩
  k_fill
  unfold InitOp
  intro w s x dx r tr base g fr gs mean mg mb lse R S lxd r1 r9 ft hR
  obtain ⟨B, sz, Xb, Tb⟩ := S
  have X := Frag.In.keeps Xb B.stays
  have T := Tb.keeps B.stays
  dsimp only [led, List.nil_append] at lxd ft hR ⊢
  walk_at "ENTER"
  walk_at "START"
  rename_i d1 h5 o1 lo1 hs1 fs1 hi1 fi1 l1 h4 h3 h2 F1 N1 Tc kX d2 h6 o2 lo2 hs2 fs2 hi2 fi2 l2 h7 F2 N2
  exact hR _ _ _ _ _ _ _ (Up.refl B) (fit_led (Fit.of F2 N2 fun _ h => h)) hs1 hs2 ⟨lxd, l1.1, l2.1, lo1, lo2⟩ rfl rfl rfl
end
section
local macro_rules | `(tactic| walk_at "noteFrame ref") => `(tactic| ((with_reducible show wpAny _ _ (noteFrame _ _) (fun _ s₂ => wpAny _ _ (setFlight _ none) (fun _ s₃ => wpAny _ _ (handleBy _ _ (ExceptHandler.ExceptHandler (some (Expr.Name ("KeyError" : Str) _)) none _ _ :: _)) _ _ s₃) _ s₂) _ _); (refine caught_new (T' := "KeyError") (by assumption) (by assumption) (by assumption) (by assumption) (by assumption) (by assumption) (by k_is) PyProof.Rows.Boot.«KeyError» kr_isExc_KeyError kr_notTuple_KeyError (by rw [isSubtype_type]; kernel_rfl) ?_); (intro h' h'' u' B' F' N'); (have X' := Frag.In.keeps (by assumption) (Below.stays B')); (have T' := Top.keeps (by assumption) (Below.stays B'))))
local macro_rules | `(tactic| walk_at "noteFrame ref") => `(tactic| ((with_reducible show wpAny _ _ (noteFrame _ _) (fun _ s₂ => wpAny _ _ (setFlight _ none) (fun _ s₃ => wpAny _ _ (handleBy _ _ (ExceptHandler.ExceptHandler (some (Expr.Name ("KeyError" : Str) _)) none _ _ :: _)) _ _ s₃) _ s₂) _ _); (k_dflt refine caught_newC (T' := "KeyError") (by assumption) (by assumption) (by assumption) (by assumption) (by assumption) (by assumption) (by k_is) PyProof.Rows.Boot.«KeyError» kr_isExc_KeyError kr_notTuple_KeyError (by rw [isSubtype_type]; kernel_rfl) ?_); (intro h' h'' oe' vs' u' B' F' N' od' oc'); (have X' := Frag.In.keeps (by assumption) (Below.stays B')); (have T' := Top.keeps (by assumption) (Below.stays B'))))
local macro_rules | `(tactic| walk_at "noteFrame ref") => `(tactic| ((with_reducible rename RaisedSN _ _ _ _ _ _ _ => rsX); (k_dflt refine' caught_fly (T' := "KeyError") (by assumption) rsX ?f1 ?f2 ?f3 ?fs ?f4 ?f5 ?f6 ?f7 PyProof.Rows.Boot.«KeyError» kr_isExc_KeyError kr_notTuple_KeyError (by rw [isSubtype_type]; kernel_rfl) ?_); (case f2 => assumption); (case f1 => assumption); (case f3 => assumption); (case fs => k_subL); (case f4 => assumption); (case f5 => assumption); (case f6 => assumption); (case f7 => k_is); (intro h' h'' u' B' F' N'); (have X' := Frag.In.keeps (by assumption) (Below.stays B')); (have T' := Top.keeps (by assumption) (Below.stays B')); clear rsX))
set_option maxRecDepth 100000 in
set_option maxHeartbeats 6000000 in
theorem snL : Box (StNew (prog := PySem.Challenge.rw_bb0016_01.row.prog) (K := Str) Mine.pre.heap_1_1 Mine.pre.view_1_2 (fun w => PySem.strKind PySem.Challenge.rw_bb0016_01.row.prog w) Value.str 947 (Str.ofString "_LRUCache__order") 915) := by
  refine ⟨?_⟩
  k_fill
  unfold StNew
  intro w s c cur kvs ov k v dv tk base g fr gs mean mg mb lse R S O Q Pr hR
  obtain ⟨x, dx, d1, d2, ta, tb, tc, td, tf, mx⟩ := c
  have O' := O
  obtain ⟨l1, l2, l3, lo1, lo2⟩ := O
  obtain ⟨B, sz, Xb, Tb⟩ := S
  have X := Frag.In.keeps Xb B.stays
  have T := Tb.keeps B.stays
  obtain ⟨te, o1, o2, ft, D1, D2⟩ := Q
  obtain ⟨hv, hvo, hc, m1, m2, z1, z2⟩ := Pr
  dsimp only [led, first, List.nil_append] at l1 l2 l3 lo1 lo2 ft hR hv hvo hc m1 m2 z1 z2 ⊢
  have touchL' := @Box.out _ touchL
  unfold Touch at touchL'
  walk_at "ENTER"
  walk_at "START"
  all_goals (first | ((try dsimp only); (try k_unfold); (try dsimp only); exact hR _ _ _ (by first | assumption | exact Up.refl (by assumption)) (by walk_at "CASH")) | (rename News _ _ _ _ => nwX; exact (nwX _ (by k_mem)).1) | trace_state)
set_option maxRecDepth 100000 in
set_option maxHeartbeats 6000000 in
theorem sfL : Box (StFull (prog := PySem.Challenge.rw_bb0016_01.row.prog) (K := Str) Mine.pre.heap_1_1 Mine.pre.view_1_2 (fun w => PySem.strKind PySem.Challenge.rw_bb0016_01.row.prog w) Value.str 947 (Str.ofString "_LRUCache__order") 915) := by
  refine ⟨?_⟩
  k_fill
  unfold StFull
  intro w s c cur kvs ov k v dv tk base g fr gs mean mg mb lse R S O Q Pr hR
  obtain ⟨x, dx, d1, d2, ta, tb, tc, td, tf, mx⟩ := c
  have O' := O
  obtain ⟨l1, l2, l3, lo1, lo2⟩ := O
  obtain ⟨B, sz, Xb, Tb⟩ := S
  have X := Frag.In.keeps Xb B.stays
  have T := Tb.keeps B.stays
  obtain ⟨te, o1, o2, ft, D1, D2⟩ := Q
  have Pr2 := Pr
  obtain ⟨k0, v0, rest, rfl, rfl, hv0, hv, hvo1, hvo2, m1, m2, z1, z2⟩ := Pr
  dsimp only [led, first, List.nil_append] at l1 l2 l3 lo1 lo2 ft hR hv0 hv hvo1 hvo2 m1 m2 z1 z2 ⊢
  have touchL' := @Box.out _ touchL
  unfold Touch at touchL'
  walk_at "ENTER"
  walk_at "START"
  all_goals (first | ((try dsimp only); (try k_unfold); (try dsimp only); exact hR _ _ _ (by first | assumption | exact Up.refl (by assumption)) (by walk_at "CASH")) | (rename News _ _ _ _ => nwX; exact (nwX _ (by k_mem)).1) | trace_state)
end
section
local macro_rules | `(tactic| walk_at "noteFrame ref") => `(tactic| ((with_reducible show wpAny _ _ (noteFrame _ _) (fun _ s₂ => wpAny _ _ (setFlight _ none) (fun _ s₃ => wpAny _ _ (handleBy _ _ (ExceptHandler.ExceptHandler (some (Expr.Name ("KeyError" : Str) _)) none _ _ :: _)) _ _ s₃) _ s₂) _ _); (refine caught_new (T' := "KeyError") (by assumption) (by assumption) (by assumption) (by assumption) (by assumption) (by assumption) (by k_is) PyProof.Rows.Boot.«KeyError» kr_isExc_KeyError kr_notTuple_KeyError (by rw [isSubtype_type]; kernel_rfl) ?_); (intro h' h'' u' B' F' N'); (have X' := Frag.In.keeps (by assumption) (Below.stays B')); (have T' := Top.keeps (by assumption) (Below.stays B'))))
local macro_rules | `(tactic| walk_at "noteFrame ref") => `(tactic| ((with_reducible show wpAny _ _ (noteFrame _ _) (fun _ s₂ => wpAny _ _ (setFlight _ none) (fun _ s₃ => wpAny _ _ (handleBy _ _ (ExceptHandler.ExceptHandler (some (Expr.Name ("KeyError" : Str) _)) none _ _ :: _)) _ _ s₃) _ s₂) _ _); (k_dflt refine caught_newC (T' := "KeyError") (by assumption) (by assumption) (by assumption) (by assumption) (by assumption) (by assumption) (by k_is) PyProof.Rows.Boot.«KeyError» kr_isExc_KeyError kr_notTuple_KeyError (by rw [isSubtype_type]; kernel_rfl) ?_); (intro h' h'' oe' vs' u' B' F' N' od' oc'); (have X' := Frag.In.keeps (by assumption) (Below.stays B')); (have T' := Top.keeps (by assumption) (Below.stays B'))))
local macro_rules | `(tactic| walk_at "noteFrame ref") => `(tactic| ((with_reducible rename RaisedSN _ _ _ _ _ _ _ => rsX); (k_dflt refine' caught_fly (T' := "KeyError") (by assumption) rsX ?f1 ?f2 ?f3 ?fs ?f4 ?f5 ?f6 ?f7 PyProof.Rows.Boot.«KeyError» kr_isExc_KeyError kr_notTuple_KeyError (by rw [isSubtype_type]; kernel_rfl) ?_); (case f2 => assumption); (case f1 => assumption); (case f3 => assumption); (case fs => k_subL); (case f4 => assumption); (case f5 => assumption); (case f6 => assumption); (case f7 => k_is); (intro h' h'' u' B' F' N'); (have X' := Frag.In.keeps (by assumption) (Below.stays B')); (have T' := Top.keeps (by assumption) (Below.stays B')); clear rsX))
local macro_rules | `(tactic| walk_at "call ref") => `(tactic| (k_here; k_dflt (first | (refine' call_meth ?k1 ?k2 ?_; (case k1 => k_asm); (case k2 => k_mem); k_whole; k_enter) | (refine wpAny_call ?_; k_enter))))
local macro_rules | `(tactic| walk_at "call builtin:next") => `(tactic| (k_here; k_dflt (refine' next_stop (knd := PySem.strKind _ _) (kvs := []) ?H ?F ?N ?U ?i ?a ?p rfl ?_; (case H => rfl); (case F => k_asm); (case N => k_asm); (case U => k_updF); (case i => k_asm); (case a => k_asm); (case p => k_mem); k_whole); intro hu' h' e' o' F' N' x'; (try dsimp only at N')))
local macro_rules | `(tactic| walk_at "noteFrame ref") => `(tactic| ((with_reducible show wpAny _ _ (noteFrame _ _) (fun _ s₂ => wpAny _ _ (setFlight _ none) (fun _ s₃ => wpAny _ _ (handleBy _ _ (ExceptHandler.ExceptHandler (some (Expr.Name ("StopIteration" : Str) _)) none _ _ :: _)) _ _ s₃) _ s₂) _ _); (k_dflt refine caught_newC (T' := "StopIteration") (by assumption) (by assumption) (by assumption) (by assumption) (by assumption) (by assumption) (by k_is) PyProof.Rows.Boot.«StopIteration» stop_isExc stop_notTuple (by rw [isSubtype_type]; kernel_rfl) ?_); (intro h' h'' oe' vs' u' B' F' N' od' oc'); (have X' := Frag.In.keeps (by assumption) (Below.stays B')); (have T' := Top.keeps (by assumption) (Below.stays B'))))
local macro_rules | `(tactic| walk_at "exec Raise some some") => `(tactic| ((with_reducible show wpAny _ _ (exec (Stmt.Raise (some (Expr.Call (Expr.Name ("KeyError" : Str) _) (_ :: _) [] _)) (some _) _) _) _ _ _); k_dflt refine Raise_key_from (by rfl) (fun _ _ hn => wpAny_Constant_none hn) ?_))
local macro_rules | `(tactic| walk_at "leaving ref") => `(tactic| ((with_reducible rename Heap.MadeExc _ _ _ _ _ => mdX); (refine leave_ctx (by assumption) (NewCtx.from mdX) (by assumption) (by assumption) ?_); clear mdX; intro h' R' U'))
local macro_rules | `(tactic| walk_at "getAttr ref") => `(tactic| (k_here; (with_reducible show wpAny _ _ (getAttr (Value.ref _) (PySem.Str.ofString "__name__") _) _ _ _); k_dflt (refine' own_name ?F ?X ?l ?s ?m ?r ?e ?_; (case F => k_asm); (case X => k_asm); (case l => k_is); (case s => rfl); (case m => k_is); (case r => k_is); (case e => k_is); k_whole); intro _))
local macro_rules | `(tactic| kpc_piece) => `(tactic| first | (refine KPc.after_add0 (by kpc_g) (by kpc_text) (by kpc_obj) ?_; intro _ _) | (refine KPc.after_add (by kpc_g) (by kpc_text) (by kpc_obj) ?_; intro _ _) | (refine KPc.after_str0 (by kpc_g) (by kpc_len) (by kpc_obj) ?_; intro _ _) | (refine KPc.after_str (by kpc_g) (by kpc_len) (by kpc_obj) ?_; intro _ _))
set_option maxRecDepth 100000 in
set_option maxHeartbeats 6000000 in
theorem peF : Box (PopNone (prog := PySem.Challenge.rw_bb0016_01.row.prog) Mine.pre.heap_1_1 Mine.pre.view_1_2 (fun w => PySem.strKind PySem.Challenge.rw_bb0016_01.row.prog w) 882 (Str.ofString "_FIFOCache__order") 872) := by
  refine ⟨?_⟩
  k_fill
  unfold PopNone
  intro w s c cur te o1 o2 base g fr gs mean mg mb lse R S O ft D1 D2 hR
  obtain ⟨x, dx, d1, d2, ta, tb, tc, td, tf, mx⟩ := c
  have O' := O
  obtain ⟨l1, l2, l3, lo1, lo2⟩ := O
  obtain ⟨B, sz, Xb, Tb⟩ := S
  have X := Frag.In.keeps Xb B.stays
  have T := Tb.keeps B.stays
  dsimp only [led, List.nil_append] at l1 l2 l3 lo1 lo2 ft hR ⊢
  walk_at "ENTER"
  walk_at "START"
  all_goals (try dsimp only)
  all_goals (try (rename News _ _ _ _ => nwX; exact (nwX _ (by k_mem)).1))
  exact hR _ _ _ _ (by assumption) (raised_less (by assumption) (by k_subL)) (by assumption)
set_option maxRecDepth 100000 in
set_option maxHeartbeats 6000000 in
theorem peL : Box (PopNone (prog := PySem.Challenge.rw_bb0016_01.row.prog) Mine.pre.heap_1_1 Mine.pre.view_1_2 (fun w => PySem.strKind PySem.Challenge.rw_bb0016_01.row.prog w) 947 (Str.ofString "_LRUCache__order") 930) := by
  refine ⟨?_⟩
  k_fill
  unfold PopNone
  intro w s c cur te o1 o2 base g fr gs mean mg mb lse R S O ft D1 D2 hR
  obtain ⟨x, dx, d1, d2, ta, tb, tc, td, tf, mx⟩ := c
  have O' := O
  obtain ⟨l1, l2, l3, lo1, lo2⟩ := O
  obtain ⟨B, sz, Xb, Tb⟩ := S
  have X := Frag.In.keeps Xb B.stays
  have T := Tb.keeps B.stays
  dsimp only [led, List.nil_append] at l1 l2 l3 lo1 lo2 ft hR ⊢
  walk_at "ENTER"
  walk_at "START"
  all_goals (try dsimp only)
  all_goals (try (rename News _ _ _ _ => nwX; exact (nwX _ (by k_mem)).1))
  exact hR _ _ _ _ (by assumption) (raised_less (by assumption) (by k_subL)) (by assumption)
set_option maxRecDepth 100000 in
set_option maxHeartbeats 6000000 in
theorem kinds : Box (∀ (w : World) (L : Addr), LawKinds (fnScope (Mine.pre.heap_1_1 w.params) 968) L ∧ PySem.Challenge.rw_bb0016_01.row.prog = PySem.Challenge.rw_bb0016_01.row.prog) := by
  refine ⟨?_⟩
  k_fill
  intro w L
  obtain ⟨e1, e2⟩ := fnBody_eq (K := Mine.pre.heap_1_1 w.params) (f := 968) (by k_is)
  rw [e2]
  clear e1 e2
  refine ⟨?_, rfl⟩
  constructor
  all_goals first | exact ⟨rfl, by decide +kernel, by decide +kernel⟩ | exact ⟨rfl, by decide +kernel, by decide +kernel, rfl⟩ | exact ⟨rfl, by decide +kernel, by decide +kernel, by decide +kernel⟩
end
end Mine
end
section
open PySem PySem.W PySem.Spec PySem.Calls PyProof.Rows
namespace Mine
local macro_rules | `(tactic| walk_at "subscriptTail") => `(tactic| (k_here; (with_reducible show wpAny _ _ (subscriptTail _ _ (Value.ref _) (Value.int _ _)) _ _ _); k_dflt ((with_reducible rename News _ _ _ _ => lN'); refine item_list (News.isList lN' (by k_mem)) (by decide) (by decide) rfl ?_)))
local macro_rules | `(tactic| walk_at "subscriptTail") => `(tactic| (k_here; (with_reducible show wpAny _ _ (subscriptTail _ _ (Value.ref _) (Value.ref _)) _ _ _); (with_reducible rename Fr _ _ _ _ => lF'); (with_reducible rename News _ _ _ _ => lN'); (first | (refine' krv_lit lF' lN' (News.isList lN' (by k_mem)) ?p rfl ?_ ?s ?t ?z; (case p => exact IsPart.int _ _); (case s => with_unfolding_all rfl); (case t => kmk_pure); (case z => (rw [sizeLine_eq, List.size_toArray]; (try rw [List.length_map]); omega))) | (refine' kms_slice_lit lF' lN' (News.isList lN' (by k_mem)) ?p ?q rfl ?_ ?s ?t ?z; (case p => kmk_part); (case q => kmk_part); (case s => with_unfolding_all rfl); (case t => kmk_pure); (case z => first | (rw [sizeLine_eq, List.size_toArray]; omega) | (rw [sizeLine_eq]; simp; omega))) | (refine' kms_slice_lit lF' lN' (lF'.list (by assumption)) ?p ?q rfl ?_ ?s ?t ?z; (case p => exact IsPart.int _ _); (case q => exact IsPart.int _ _); (case s => with_unfolding_all rfl); (case t => kmk_pure); (case z => (rw [sizeLine_eq, List.size_toArray]; omega)))); intro D' h' F' N' l1; (try clear lF' lN')))
local macro_rules | `(tactic| walk_at "subscriptTail Name Slice ref ref") => `(tactic| (k_here; (with_reducible show wpAny _ _ (subscriptTail _ _ (Value.ref _) (Value.ref _)) _ _ _); (with_reducible rename Fr _ _ _ _ => lF'); (with_reducible rename News _ _ _ _ => lN'); (first | (refine' krv_lit lF' lN' (News.isList lN' (by k_mem)) ?p rfl ?_ ?s ?t ?z; (case p => exact IsPart.int _ _); (case s => with_unfolding_all rfl); (case t => kmk_pure); (case z => (rw [sizeLine_eq, List.size_toArray]; (try rw [List.length_map]); omega))) | (refine' kms_slice_lit lF' lN' (News.isList lN' (by k_mem)) ?p ?q rfl ?_ ?s ?t ?z; (case p => kmk_part); (case q => kmk_part); (case s => with_unfolding_all rfl); (case t => kmk_pure); (case z => first | (rw [sizeLine_eq, List.size_toArray]; omega) | (rw [sizeLine_eq]; simp; omega))) | (refine' kms_slice_lit lF' lN' (lF'.list (by assumption)) ?p ?q rfl ?_ ?s ?t ?z; (case p => exact IsPart.int _ _); (case q => exact IsPart.int _ _); (case s => with_unfolding_all rfl); (case t => kmk_pure); (case z => (rw [sizeLine_eq, List.size_toArray]; omega)))); intro D' h' F' N' l1; (try clear lF' lN')))
local macro_rules | `(tactic| walk_at "eval Name") => `(tactic| (k_here; k_dflt (refine' nameX_L ?k1 ?k2 ?_; (case k1 => k_asm); (case k2 => first | exact rfl | with_reducible assumption | assumption); k_whole)))
local macro_rules | `(tactic| walk_at "ENTER") => `(tactic| ((refine' enter (by assumption) (by assumption) (by assumption) ?h1 ?h2 ?h3 ?h4 ?h5 ?_ ?h6 ?h7 ?h8 ?h9); (case h1 => k_is); (case h2 => k_is); (case h3 => k_room); (case h4 => first | exact BindsTo.of_eq rfl | exact binds_K (Frag.In.keeps (by assumption) (And.left (by assumption))) rfl (by k_is) rfl rfl rfl); (case h5 => exact locs rfl); (case h6 => exact rfl); (case h7 => exact rfl); (case h8 => exact rfl); (case h9 => decide); intro L' h' F' N'; (try dsimp only)))
local macro_rules | `(tactic| walk_at "START") => `(tactic| ((try k_fold); k_steps))
local macro_rules | `(tactic| walk_at "subscriptTail Name Constant ref int") => `(tactic| (k_here; (with_reducible show wpAny _ _ (subscriptTail _ _ (Value.ref _) (Value.int _ _)) _ _ _); k_dflt (refine' item_tupleT ?t ?a ?b ?c ?d ?_; (case t => exact News.isTup (by k_asm) (by k_mem)); (case a => decide); (case b => decide); (case c => rfl); (case d => rfl); k_whole)))
local macro_rules | `(tactic| walk_at "ite") => `(tactic| (k_closed; with_reducible first | refine PySem.W.ite_pos (by decide) ?_ | refine PySem.W.ite_neg (by decide) ?_))
local macro_rules | `(tactic| walk_at "storeName") => `(tactic| (k_here; (with_reducible show wpAny _ _ (storeName (envOfC _ _ _ _ _) _ _) _ _ _); (with_reducible rename LawKinds _ _ => kfX); k_dflt (refine' stL ?k ?F ?N ?_; (case k => with_reducible first | exact LawKinds.row kfX | exact LawKinds.having kfX | exact LawKinds.worths kfX | exact LawKinds.fallen kfX | exact LawKinds.deed kfX | exact LawKinds.answer kfX | exact LawKinds.draw kfX | exact LawKinds.number kfX | exact LawKinds.tick kfX | exact LawKinds.before kfX | exact LawKinds.out kfX | exact LawKinds.last kfX | exact LawKinds.given kfX | exact LawKinds.refused kfX | exact LawKinds.cache kfX | exact LawKinds.told kfX | exact LawKinds.rooms kfX | exact LawKinds.script kfX); (case F => k_asm); (case N => k_asm); k_whole; intro h' F' N'; (try k_sweep))))
local macro_rules | `(tactic| walk_at "eval Name") => `(tactic| (k_here; (with_reducible show wpAny _ _ (eval (Expr.Name _ _) (envOfC _ _ _ _ _)) _ _ _); (with_reducible rename LawKinds _ _ => kfX); k_dflt (first | (refine' evL ?k ?F ?v ?_; (case k => with_reducible first | exact LawKinds.row kfX | exact LawKinds.having kfX | exact LawKinds.worths kfX | exact LawKinds.fallen kfX | exact LawKinds.deed kfX | exact LawKinds.answer kfX | exact LawKinds.draw kfX | exact LawKinds.number kfX | exact LawKinds.tick kfX | exact LawKinds.before kfX | exact LawKinds.out kfX | exact LawKinds.last kfX | exact LawKinds.given kfX | exact LawKinds.refused kfX | exact LawKinds.cache kfX | exact LawKinds.told kfX | exact LawKinds.rooms kfX | exact LawKinds.script kfX); (case F => k_asm); (case v => first | with_reducible assumption | exact rfl | assumption); k_whole) | (refine' evC ?k ?N ?m ?d ?_; (case k => with_reducible first | exact LawKinds.key kfX | exact LawKinds.chain kfX | exact LawKinds.whole kfX | exact LawKinds.kind kfX | exact LawKinds.one kfX); (case N => k_asm); (case m => k_mem); (case d => k_asm); k_whole) | (refine' evK ?k ?F ?X ?T ?e ?_; (case k => with_reducible first | exact LawKinds.laid kfX | exact LawKinds.lost kfX | exact LawKinds.fifo kfX | exact LawKinds.lru kfX); (case F => k_asm); (case X => k_asm); (case T => k_asm); (case e => k_is); k_whole) | (refine' evB ?k ?F ?X ?T ?e ?v ?_; (case k => with_reducible first | exact LawKinds.len kfX | exact LawKinds.list kfX | exact LawKinds.range kfX | exact LawKinds.str kfX | exact LawKinds.sum kfX | exact LawKinds.enumerate kfX | exact LawKinds.max kfX | exact LawKinds.sorted kfX | exact LawKinds.keyError kfX); (case F => k_asm); (case X => k_asm); (case T => k_asm); (case e => k_is); (case v => boot_fast); k_whole))))
local macro_rules | `(tactic| k_all) => `(tactic| assumption)
local macro_rules | `(tactic| k_mem) => `(tactic| (refine memT ?_; assumption))
local macro_rules | `(tactic| walk_at "call builtin:len") => `(tactic| (k_here; (with_reducible show wpAny _ _ (call (Value.builtin "len") [Value.ref _]) _ _ _); k_dflt (refine' len_list (News.isList ?k1 ?k2) ?k3 ?_; (case k1 => k_asm); (case k2 => k_mem); (case k3 => (simp only [List.size_toArray, List.length_map]; omega)); k_whole); (try simp only [List.size_toArray, List.length_map])))
local macro_rules | `(tactic| walk_at "call type:range") => `(tactic| (k_here; (with_reducible show wpAny _ _ (call (Value.type _) [Value.int _ _]) _ _ _); (rename Fr _ _ _ _ => lF'); (rename News _ _ _ _ => lN'); (refine' range1_rows lF' lN' ?_); clear lF' lN'; intro h' tk' t1 u1 v1 R' F' N' st'; clear st'))
local macro_rules | `(tactic| k_is) => `(tactic| with_reducible assumption)
local macro_rules | `(tactic| walk_at "TAILP") => `(tactic| (intro q hq; (try dsimp only [cel5, List.cons_append, List.nil_append] at hq ⊢); first | ((repeat (first | with_reducible exact hq | with_reducible refine List.mem_cons_of_mem _ ?_)); done) | (repeat (first | exact hq | refine List.mem_cons_of_mem _ ?_))))
local macro_rules | `(tactic| walk_at "CUT") => `(tactic| (intro q hq; (with_reducible rename News _ _ _ _ => nwX); refine nwX q ?_; (try dsimp only [cel5, List.cons_append, List.nil_append] at hq ⊢); first | ((repeat (first | with_reducible exact hq | with_reducible refine List.mem_cons_of_mem _ ?_)); done) | (repeat (first | exact hq | refine List.mem_cons_of_mem _ ?_))))
local macro_rules | `(tactic| walk_at "LITS") => `(tactic| first | exact IntsAre.nil | (refine IntsAre.cons _ _ ?_; walk_at "LITS"))
local macro_rules | `(tactic| walk_at "compareOp NotEq ref ref") => `(tactic| (k_here; (with_reducible show wpAny _ _ (compareOp CmpOp.NotEq (Value.ref _) (Value.ref _)) _ _ _); k_dflt ((with_reducible rename News _ _ _ _ => lN'); refine ke_ne_ints (News.isList lN' (by k_mem)) (News.isList lN' (by k_mem)) (by walk_at "LITS") (by walk_at "LITS") (Nat.lt_of_le_of_lt (Nat.add_le_add_right (by assumption) 64) (by decide)) ?_)))
local macro_rules | `(tactic| walk_at "compareOp Eq ref ref") => `(tactic| (k_here; (with_reducible show wpAny _ _ (compareOp CmpOp.Eq (Value.ref _) (Value.ref _)) _ _ _); k_dflt ((with_reducible rename News _ _ _ _ => lN'); refine ke_eq_ints (News.isList lN' (by k_mem)) (News.isList lN' (by k_mem)) (by walk_at "LITS") (by walk_at "LITS") (Nat.lt_of_le_of_lt (Nat.add_le_add_right (by assumption) 64) (by decide)) ?_)))
local macro_rules | `(tactic| walk_at "subscriptTail") => `(tactic| (k_here; (with_reducible show wpAny _ _ (subscriptTail _ _ (Value.ref _) (Value.int 0 _)) _ _ _); k_dflt ((with_reducible rename News _ _ _ _ => lN'); refine item_one lN' (by k_mem) ?_)))
local macro_rules | `(tactic| walk_at "GOT") => `(tactic| repeat' (first | (k_unfold; (try dsimp only)) | ((fail_if_success with_reducible first | (show wpAny _ _ (eval (Expr.ListComp _ _ _ _) _) _ _ _) | (show wpAny _ _ (call (Value.ref _) _) _ _ _) | (show wpAny _ _ (call (Value.type "list") _) _ _ _) | (show wpAny _ _ (call (Value.builtin "sorted") _) _ _ _) | (show wpAny _ _ (call (Value.builtin "sum") _) _ _ _) | (show wpAny _ _ (call (Value.builtin "max") _) _ _ _) | (show wpAny _ _ (setItem (Value.ref _) _ _) _ _ _) | (show wpAny _ _ (getMethod (Value.ref _) _ _) _ _ _) | (k_end; first | (show GSrc1 _ _ _ _ _ _ _ _ _ _ _ _ _ _ _) | (show GSrc2 _ _ _ _ _ _ _ _ _ _ _ _ _ _ _ _) | (show NSrc _ _ _ _ _ _ _ _ _ _ _ _ _ _) | (show LCg.CompEnd _ _ _ _ _ _ _ _ _ _ _ _ _ _))); first | (k_end; wrow_close) | walk1 | (dsimp only; walk1) | (leave1; walk_say "STEP leave1"; try dsimp only))))
local macro_rules | `(tactic| walk_at "GOU") => `(tactic| repeat' (first | (k_unfold; (try dsimp only)) | (k_here; (with_reducible show wpAny _ _ (subscriptTail _ _ (Value.ref _) (Value.int 0 _)) _ _ _); k_dflt ((with_reducible rename News _ _ _ _ => lN'); refine item_one lN' (by k_mem) ?_)) | ((fail_if_success with_reducible first | (show wpAny _ _ (eval (Expr.ListComp _ _ _ _) _) _ _ _) | (show wpAny _ _ (call (Value.ref _) _) _ _ _) | (show wpAny _ _ (call (Value.type "list") _) _ _ _) | (show wpAny _ _ (call (Value.builtin "sorted") _) _ _ _) | (show wpAny _ _ (call (Value.builtin "sum") _) _ _ _) | (show wpAny _ _ (call (Value.builtin "max") _) _ _ _) | (show wpAny _ _ (setItem (Value.ref _) _ _) _ _ _) | (show wpAny _ _ (getMethod (Value.ref _) _ _) _ _ _) | (show wpAny _ _ (subscriptTail _ _ (Value.ref _) _) _ _ _) | (k_end; first | (show GSrc1 _ _ _ _ _ _ _ _ _ _ _ _ _ _ _) | (show GSrc2 _ _ _ _ _ _ _ _ _ _ _ _ _ _ _ _) | (show NSrc _ _ _ _ _ _ _ _ _ _ _ _ _ _) | (show LCg.CompEnd _ _ _ _ _ _ _ _ _ _ _ _ _ _))); first | (k_end; wrow_close) | walk1 | (dsimp only; walk1) | (leave1; walk_say "STEP leave1"; try dsimp only))))
local macro_rules | `(tactic| walk_at "GOS") => `(tactic| repeat' (first | (k_unfold; (try dsimp only)) | ((fail_if_success with_reducible first | (show wpAny _ _ (eval (Expr.ListComp _ _ _ _) _) _ _ _) | (show wpAny _ _ (call (Value.ref _) _) _ _ _) | (show wpAny _ _ (call (Value.type "list") _) _ _ _) | (show wpAny _ _ (call (Value.builtin "sorted") _) _ _ _) | (show wpAny _ _ (call (Value.builtin "sum") _) _ _ _) | (show wpAny _ _ (call (Value.builtin "max") _) _ _ _) | (show wpAny _ _ (setItem (Value.ref _) _ _) _ _ _) | (show wpAny _ _ (getMethod (Value.ref _) _ _) _ _ _) | (show wpAny _ _ (subscriptTail _ _ (Value.ref _) _) _ _ _) | (show wpAny _ _ (compareOp CmpOp.NotEq (Value.ref _) (Value.ref _)) _ _ _) | (k_end; first | (show GSrc1 _ _ _ _ _ _ _ _ _ _ _ _ _ _ _) | (show GSrc2 _ _ _ _ _ _ _ _ _ _ _ _ _ _ _ _) | (show NSrc _ _ _ _ _ _ _ _ _ _ _ _ _ _) | (show LCg.CompEnd _ _ _ _ _ _ _ _ _ _ _ _ _ _)) | (show wpAny _ _ (compareOp CmpOp.NotIn _ (Value.ref _)) _ _ _) | (show wpAny _ _ (compareOp CmpOp.In _ (Value.ref _)) _ _ _)); first | (k_end; wrow_close) | walk1 | (dsimp only; walk1) | (leave1; walk_say "STEP leave1"; try dsimp only))))
local macro_rules | `(tactic| walk_at "GOL") => `(tactic| repeat' (first | (k_unfold; (try dsimp only)) | ((fail_if_success with_reducible first | (show wpAny _ _ (eval (Expr.ListComp _ _ _ _) _) _ _ _) | (show wpAny _ _ (call (Value.ref _) _) _ _ _) | (show wpAny _ _ (call (Value.type "list") _) _ _ _) | (show wpAny _ _ (call (Value.builtin "sorted") _) _ _ _) | (show wpAny _ _ (call (Value.builtin "sum") _) _ _ _) | (show wpAny _ _ (call (Value.builtin "max") _) _ _ _) | (show wpAny _ _ (setItem (Value.ref _) _ _) _ _ _) | (show wpAny _ _ (getMethod (Value.ref _) _ _) _ _ _) | (show wpAny _ _ (subscriptTail _ _ (Value.ref _) _) _ _ _) | (show wpAny _ _ (compareOp CmpOp.NotEq (Value.ref _) (Value.ref _)) _ _ _) | (k_end; first | (show GSrc1 _ _ _ _ _ _ _ _ _ _ _ _ _ _ _) | (show GSrc2 _ _ _ _ _ _ _ _ _ _ _ _ _ _ _ _) | (show NSrc _ _ _ _ _ _ _ _ _ _ _ _ _ _) | (show LCg.CompEnd _ _ _ _ _ _ _ _ _ _ _ _ _ _)) | (show wpAny _ _ (compareOp CmpOp.NotIn _ (Value.ref _)) _ _ _) | (show wpAny _ _ (compareOp CmpOp.In _ (Value.ref _)) _ _ _) | (show wpAny _ _ (call (Value.builtin "len") _) _ _ _)); first | (k_end; wrow_close) | walk1 | (dsimp only; walk1) | (leave1; walk_say "STEP leave1"; try dsimp only))))
local macro_rules | `(tactic| walk_at "GOY") => `(tactic| repeat' (first | (k_unfold; (try dsimp only)) | ((fail_if_success with_reducible first | (show wpAny _ _ (eval (Expr.ListComp _ _ _ _) _) _ _ _) | (show wpAny _ _ (call (Value.ref _) _) _ _ _) | (show wpAny _ _ (call (Value.type "list") _) _ _ _) | (show wpAny _ _ (call (Value.builtin "sorted") _) _ _ _) | (show wpAny _ _ (call (Value.builtin "sum") _) _ _ _) | (show wpAny _ _ (call (Value.builtin "max") _) _ _ _) | (show wpAny _ _ (setItem (Value.ref _) _ _) _ _ _) | (show wpAny _ _ (getMethod (Value.ref _) _ _) _ _ _) | (k_end; first | (show GSrc1 _ _ _ _ _ _ _ _ _ _ _ _ _ _ _) | (show GSrc2 _ _ _ _ _ _ _ _ _ _ _ _ _ _ _ _) | (show NSrc _ _ _ _ _ _ _ _ _ _ _ _ _ _) | (show LCg.CompEnd _ _ _ _ _ _ _ _ _ _ _ _ _ _)) | (show Exists _)); first | (k_end; wrow_close) | walk1 | (dsimp only; walk1) | (leave1; walk_say "STEP leave1"; try dsimp only))))
local macro_rules | `(tactic| walk_at "GOW") => `(tactic| repeat' (first | (k_unfold; (try dsimp only)) | ((fail_if_success with_reducible first | (show wpAny _ _ (eval (Expr.ListComp _ _ _ _) _) _ _ _) | (show wpAny _ _ (call (Value.ref _) _) _ _ _) | (show wpAny _ _ (call (Value.type "list") _) _ _ _) | (show wpAny _ _ (call (Value.builtin "sorted") _) _ _ _) | (show wpAny _ _ (call (Value.builtin "sum") _) _ _ _) | (show wpAny _ _ (call (Value.builtin "max") _) _ _ _) | (show wpAny _ _ (setItem (Value.ref _) _ _) _ _ _) | (show wpAny _ _ (getMethod (Value.ref _) _ _) _ _ _) | (k_end; first | (show GSrc1 _ _ _ _ _ _ _ _ _ _ _ _ _ _ _) | (show GSrc2 _ _ _ _ _ _ _ _ _ _ _ _ _ _ _ _) | (show NSrc _ _ _ _ _ _ _ _ _ _ _ _ _ _) | (show LCg.CompEnd _ _ _ _ _ _ _ _ _ _ _ _ _ _)) | (show wpAny _ _ (call (Value.builtin "len") _) _ _ _) | (show wpAny _ _ (compareOp CmpOp.NotEq (Value.ref _) (Value.ref _)) _ _ _)); first | (k_end; wrow_close) | walk1 | (dsimp only; walk1) | (leave1; walk_say "STEP leave1"; try dsimp only))))
local macro_rules | `(tactic| walk_at "GOA") => `(tactic| repeat' (first | (k_unfold; (try dsimp only)) | (k_here; (with_reducible show wpAny _ _ (subscriptTail _ _ (Value.ref _) (Value.int 0 _)) _ _ _); k_dflt ((with_reducible rename News _ _ _ _ => lN'); refine item_one lN' (by k_mem) ?_)) | ((fail_if_success with_reducible first | (show wpAny _ _ (eval (Expr.ListComp _ _ _ _) _) _ _ _) | (show wpAny _ _ (call (Value.ref _) _) _ _ _) | (show wpAny _ _ (call (Value.type "list") _) _ _ _) | (show wpAny _ _ (call (Value.builtin "sorted") _) _ _ _) | (show wpAny _ _ (call (Value.builtin "sum") _) _ _ _) | (show wpAny _ _ (call (Value.builtin "max") _) _ _ _) | (show wpAny _ _ (setItem (Value.ref _) _ _) _ _ _) | (show wpAny _ _ (getMethod (Value.ref _) _ _) _ _ _) | (show wpAny _ _ (subscriptTail _ _ (Value.ref _) _) _ _ _) | (k_end; first | (show GSrc1 _ _ _ _ _ _ _ _ _ _ _ _ _ _ _) | (show GSrc2 _ _ _ _ _ _ _ _ _ _ _ _ _ _ _ _) | (show NSrc _ _ _ _ _ _ _ _ _ _ _ _ _ _) | (show LCg.CompEnd _ _ _ _ _ _ _ _ _ _ _ _ _ _)) | (show wpAny _ _ (exec (Stmt.Assign _ (Expr.ListComp _ _ _ _) _) _) _ _ _)); first | (k_end; wrow_close) | walk1 | (dsimp only; walk1) | (leave1; walk_say "STEP leave1"; try dsimp only))))
local macro_rules | `(tactic| walk_at "GOV") => `(tactic| repeat' (first | (k_unfold; (try dsimp only)) | ((fail_if_success with_reducible first | (show wpAny _ _ (eval (Expr.ListComp _ _ _ _) _) _ _ _) | (show wpAny _ _ (call (Value.ref _) _) _ _ _) | (show wpAny _ _ (call (Value.type "list") _) _ _ _) | (show wpAny _ _ (call (Value.builtin "sorted") _) _ _ _) | (show wpAny _ _ (call (Value.builtin "sum") _) _ _ _) | (show wpAny _ _ (call (Value.builtin "max") _) _ _ _) | (show wpAny _ _ (setItem (Value.ref _) _ _) _ _ _) | (show wpAny _ _ (getMethod (Value.ref _) _ _) _ _ _) | (k_end; first | (show GSrc1 _ _ _ _ _ _ _ _ _ _ _ _ _ _ _) | (show GSrc2 _ _ _ _ _ _ _ _ _ _ _ _ _ _ _ _) | (show NSrc _ _ _ _ _ _ _ _ _ _ _ _ _ _) | (show LCg.CompEnd _ _ _ _ _ _ _ _ _ _ _ _ _ _)) | (show wpAny _ _ (storeName _ (Str.ofString "chain") _) _ _ _) | (show wpAny _ _ (storeName _ (Str.ofString "whole") _) _ _ _)); first | (k_end; wrow_close) | walk1 | (dsimp only; walk1) | (leave1; walk_say "STEP leave1"; try dsimp only))))
local macro_rules | `(tactic| walk_at "GOZ") => `(tactic| repeat' (first | (k_unfold; (try dsimp only)) | ((fail_if_success with_reducible first | (show wpAny _ _ (eval (Expr.ListComp _ _ _ _) _) _ _ _) | (show wpAny _ _ (call (Value.ref _) _) _ _ _) | (show wpAny _ _ (call (Value.type "list") _) _ _ _) | (show wpAny _ _ (call (Value.builtin "sorted") _) _ _ _) | (show wpAny _ _ (call (Value.builtin "sum") _) _ _ _) | (show wpAny _ _ (call (Value.builtin "max") _) _ _ _) | (show wpAny _ _ (setItem (Value.ref _) _ _) _ _ _) | (show wpAny _ _ (getMethod (Value.ref _) _ _) _ _ _) | (show wpAny _ _ (subscriptTail _ _ (Value.ref _) _) _ _ _) | (k_end; first | (show GSrc1 _ _ _ _ _ _ _ _ _ _ _ _ _ _ _) | (show GSrc2 _ _ _ _ _ _ _ _ _ _ _ _ _ _ _ _) | (show NSrc _ _ _ _ _ _ _ _ _ _ _ _ _ _) | (show LCg.CompEnd _ _ _ _ _ _ _ _ _ _ _ _ _ _))); first | (k_end; wrow_close) | walk1 | (dsimp only; walk1) | (leave1; walk_say "STEP leave1"; try dsimp only))))
local macro_rules | `(tactic| walk_at "GOF") => `(tactic| repeat' (first | (k_unfold; (try dsimp only)) | ((fail_if_success with_reducible first | (show wpAny _ _ (eval (Expr.ListComp _ _ _ _) _) _ _ _) | (show wpAny _ _ (call (Value.ref _) _) _ _ _) | (show wpAny _ _ (call (Value.type "list") _) _ _ _) | (show wpAny _ _ (call (Value.builtin "sorted") _) _ _ _) | (show wpAny _ _ (call (Value.builtin "sum") _) _ _ _) | (show wpAny _ _ (call (Value.builtin "max") _) _ _ _) | (show wpAny _ _ (setItem (Value.ref _) _ _) _ _ _) | (show wpAny _ _ (getMethod (Value.ref _) _ _) _ _ _) | (k_end; first | (show GSrc1 _ _ _ _ _ _ _ _ _ _ _ _ _ _ _) | (show GSrc2 _ _ _ _ _ _ _ _ _ _ _ _ _ _ _ _) | (show NSrc _ _ _ _ _ _ _ _ _ _ _ _ _ _) | (show LCg.CompEnd _ _ _ _ _ _ _ _ _ _ _ _ _ _)) | (show wpAny _ _ (loadName _ _) _ _ _) | (show wpAny _ _ (binaryOp Operator.Add (Value.ref _) (Value.ref _)) _ _ _) | (show wpAny _ _ (assign (Expr.Tuple _ _ _) _ _) _ _ _) | (show wpAny _ _ (exec (Stmt.Try _ _ _ _ _) _) _ _ _)); first | (k_end; wrow_close) | walk1 | (dsimp only; walk1) | (leave1; walk_say "STEP leave1"; try dsimp only))))
local macro_rules | `(tactic| walk_at "GOB") => `(tactic| repeat' (first | (k_unfold; (try dsimp only)) | ((fail_if_success with_reducible first | (show wpAny _ _ (eval (Expr.ListComp _ _ _ _) _) _ _ _) | (show wpAny _ _ (call (Value.ref _) _) _ _ _) | (show wpAny _ _ (call (Value.type "list") _) _ _ _) | (show wpAny _ _ (call (Value.builtin "sorted") _) _ _ _) | (show wpAny _ _ (call (Value.builtin "sum") _) _ _ _) | (show wpAny _ _ (call (Value.builtin "max") _) _ _ _) | (show wpAny _ _ (setItem (Value.ref _) _ _) _ _ _) | (show wpAny _ _ (getMethod (Value.ref _) _ _) _ _ _) | (k_end; first | (show GSrc1 _ _ _ _ _ _ _ _ _ _ _ _ _ _ _) | (show GSrc2 _ _ _ _ _ _ _ _ _ _ _ _ _ _ _ _) | (show NSrc _ _ _ _ _ _ _ _ _ _ _ _ _ _) | (show LCg.CompEnd _ _ _ _ _ _ _ _ _ _ _ _ _ _)) | (show wpAny _ _ (eval (Expr.BoolOp _ _ _) _) _ _ _) | (show Exists _) | (show ListAt _ _ _ _ _ _ _)); first | (k_end; wrow_close) | walk1 | (dsimp only; walk1) | (leave1; walk_say "STEP leave1"; try dsimp only))))
local macro_rules | `(tactic| walk_at "GOC") => `(tactic| repeat' (first | (k_unfold; (try dsimp only)) | ((fail_if_success with_reducible first | (show wpAny _ _ (eval (Expr.ListComp _ _ _ _) _) _ _ _) | (show wpAny _ _ (call (Value.ref _) _) _ _ _) | (show wpAny _ _ (call (Value.type "list") _) _ _ _) | (show wpAny _ _ (call (Value.builtin "sorted") _) _ _ _) | (show wpAny _ _ (call (Value.builtin "sum") _) _ _ _) | (show wpAny _ _ (call (Value.builtin "max") _) _ _ _) | (show wpAny _ _ (setItem (Value.ref _) _ _) _ _ _) | (show wpAny _ _ (getMethod (Value.ref _) _ _) _ _ _) | (k_end; first | (show GSrc1 _ _ _ _ _ _ _ _ _ _ _ _ _ _ _) | (show GSrc2 _ _ _ _ _ _ _ _ _ _ _ _ _ _ _ _) | (show NSrc _ _ _ _ _ _ _ _ _ _ _ _ _ _) | (show LCg.CompEnd _ _ _ _ _ _ _ _ _ _ _ _ _ _)) | (show Exists _) | (show ListAt _ _ _ _ _ _ _)); first | (k_end; wrow_close) | walk1 | (dsimp only; walk1) | (leave1; walk_say "STEP leave1"; try dsimp only))))
local macro_rules | `(tactic| walk_at "GOK") => `(tactic| repeat' (first | (k_unfold; (try dsimp only)) | ((fail_if_success with_reducible first | (show wpAny _ _ (eval (Expr.ListComp _ _ _ _) _) _ _ _) | (show wpAny _ _ (call (Value.ref _) _) _ _ _) | (show wpAny _ _ (call (Value.type "list") _) _ _ _) | (show wpAny _ _ (call (Value.builtin "sorted") _) _ _ _) | (show wpAny _ _ (call (Value.builtin "sum") _) _ _ _) | (show wpAny _ _ (call (Value.builtin "max") _) _ _ _) | (show wpAny _ _ (setItem (Value.ref _) _ _) _ _ _) | (show wpAny _ _ (getMethod (Value.ref _) _ _) _ _ _) | (k_end; first | (show GSrc1 _ _ _ _ _ _ _ _ _ _ _ _ _ _ _) | (show GSrc2 _ _ _ _ _ _ _ _ _ _ _ _ _ _ _ _) | (show NSrc _ _ _ _ _ _ _ _ _ _ _ _ _ _) | (show LCg.CompEnd _ _ _ _ _ _ _ _ _ _ _ _ _ _)) | (show wpAny _ _ (exec (Stmt.For _ _ _ _ _) _) _ _ _) | (show wpAny _ _ (call (Value.builtin "len") _) _ _ _) | (show wpAny _ _ (getAttr (Value.ref _) _ _) _ _ _) | (show LJ _ _ _ _ _ _ _ _ _ _ _ _ _ _ _)); first | (k_end; wrow_close) | walk1 | (dsimp only; walk1) | (leave1; walk_say "STEP leave1"; try dsimp only))))
set_option maxRecDepth 100000 in
set_option maxHeartbeats 6000000 in
theorem laid : Box (∀ {C gfn sfn pfn : Addr} {on : Str}, (∀ P, ClsF (Mine.pre.heap_1_1 P) C on gfn sfn pfn) → OLen (prog := PySem.Challenge.rw_bb0016_01.row.prog) Mine.pre.heap_1_1 Mine.pre.view_1_2 (fun w => PySem.strKind PySem.Challenge.rw_bb0016_01.row.prog w) C on 770 → OMax (prog := PySem.Challenge.rw_bb0016_01.row.prog) Mine.pre.heap_1_1 Mine.pre.view_1_2 (fun w => PySem.strKind PySem.Challenge.rw_bb0016_01.row.prog w) C on 808 → OSet (prog := PySem.Challenge.rw_bb0016_01.row.prog) Mine.pre.heap_1_1 Mine.pre.view_1_2 (fun w => PySem.strKind PySem.Challenge.rw_bb0016_01.row.prog w) C on sfn → OPopitem (prog := PySem.Challenge.rw_bb0016_01.row.prog) Mine.pre.heap_1_1 Mine.pre.view_1_2 (fun w => PySem.strKind PySem.Challenge.rw_bb0016_01.row.prog w) C on pfn →
    Laid (prog := PySem.Challenge.rw_bb0016_01.row.prog) Mine.pre.heap_1_1 Mine.pre.view_1_2 (fun w => PySem.strKind PySem.Challenge.rw_bb0016_01.row.prog w) C on 956) := by
  refine ⟨?_⟩
  k_fill
  intro C gfn sfn pfn on cf oL oM oS oP
  unfold Laid
  intro w s Lc n cells all x t u H hc h3 hx hn base g fr gs mean mg mb lse R S ft hR
  obtain ⟨B, sz, Xb, Tb⟩ := S
  have X := Frag.In.keeps Xb B.stays
  have T := Tb.keeps B.stays
  walk_at "ENTER"
  (try k_fold)
  walk_at "GOK"
  rename_i L' _ _ D1 _ l1 h1 F1 N1
  have hrl : (refs cells).length = cells.length := List.length_map ..
  refine for_listJ (items := refs cells) rfl (LJ (fun w => PySem.strKind PySem.Challenge.rw_bb0016_01.row.prog w) C on w base g fr gs L' Lc n cells x s) ?src ?live ?turn ?fin
  case src =>
    walk1
    refine ⟨Lc, rfl, News.isList N1 (by k_mem), fun h2 hit k => ?_⟩
    obtain ⟨oI, hI, hIc, hId⟩ := id hit
    refine ⟨rfl, g, h2, _, _, all, [], x, D1, t, u, oI, rfl, Up.refl B, B, sz, F1.keeps k, fun p hp => ?_, hit, by simpa using H, hc, rfl, by simp, by simpa using hx, by simpa using hn, rfl, Nat.zero_le _⟩
    rcases List.mem_cons.mp hp with rfl | hp
    · exact ⟨hI, Nat.ne_of_gt F1.ns.lt, next_is_new F1⟩
    · exact N1.grown k p hp
  case live =>
    rintro i I ax s' ⟨rfl, g1, h, tk, m', all1, dn, y, T1, t1, u1, oI, rfl, U1, B1, sz1, F1, N1, hit, _⟩
    have hm : (ax, W.listOf (refs cells).toArray n) ∈ [(I, oI), (T1, tupO y t1 u1), (ax, W.listOf (refs cells).toArray n)] ++ all1 := by simp
    exact ⟨hit, News.isList N1 hm, iter_ne hit (N1 _ hm).1 rfl (by decide)⟩
  case fin =>
    clear F1 N1 T X H hc l1 ft
    rintro I ax s' h' ⟨rfl, g1, h, tk, m', all1, dn, y, T1, t1, u1, oI, rfl, U1, B1, sz1, F1, N1, hit, H1, hc1, hdn, hlay, hy, hnd, hcar, hi⟩ k
    have hm : (ax, W.listOf (refs cells).toArray n) ∈ [(I, oI), (T1, tupO y t1 u1), (ax, W.listOf (refs cells).toArray n)] ++ all1 := by simp
    have hmT : (T1, tupO y t1 u1) ∈ [(I, oI), (T1, tupO y t1 u1), (ax, W.listOf (refs cells).toArray n)] ++ all1 := by simp
    have hTI := iter_ne hit (N1 _ hmT).1 rfl (by decide)
    have hLI := iter_ne hit (N1 _ hm).1 rfl (by decide)
    have nI := iter_nonC hit (N1 (I, oI) (by simp)).1
    obtain ⟨oJ, nJ, F2, N2⟩ : ∃ oJ, NonC oJ ∧ Fr g1 L' h' m' ∧ News g1 L' h' ([(T1, tupO y t1 u1), (ax, W.listOf (refs cells).toArray n)] ++ all1) := by
      have zI := N1 (I, oI) (by simp)
      refine ⟨oI, nI, ⟨F1.ns.at' fun o e => k _ o (Ne.symm zI.2.1) e, fun b o e => k b o (fun q => by rw [q] at e; rw [zI.2.2] at e; cases e) (F1.keep b o e), F1.above⟩, fun p hp => ?_⟩
      have hp' : p ∈ [(I, oI), (T1, tupO y t1 u1), (ax, W.listOf (refs cells).toArray n)] ++ all1 := List.mem_cons_of_mem _ hp
      refine ⟨k _ _ (fun e => ?_) (N1 p hp').1, (N1 p hp').2⟩
      rcases List.mem_cons.mp hp with rfl | hp
      · exact hTI e
      · rcases List.mem_cons.mp hp with rfl | hp
        · exact hLI e
        · have z := (N1 p hp').1
          rw [e, zI.1] at z
          exact hc1 p hp (Option.some.inj z ▸ nI)
    rw [hrl] at hlay H1
    rw [List.drop_length] at hlay H1
    dsimp only [List.cons_append, List.nil_append] at N2
    clear N1 F1 hm hmT hTI hLI nI k hit
    walk_at "GOK"
    (try dsimp only); (try k_unfold); (try dsimp only)
    refine hR g1 h' _ (.ref T1) ((T1, tupO y t1 u1) :: (ax, W.listOf (refs cells).toArray n) :: all1) U1 (Fit.of F2 N2 fun p hp => hp) ⟨[(T1, tupO y t1 u1)], all1, rfl, ?_, hc1, .inr ⟨y, T1, t1, u1, ?_, rfl, rfl⟩⟩
    · rw [hlay]; exact H1
    · rw [hlay]; rfl
  case turn =>
    clear F1 N1 T X H hc l1 ft
    rintro i I ax v s' h' hv ⟨rfl, g1, h, tk, m', all1, dn, y, T1, t1, u1, oI, rfl, U1, B1, sz1, F1, N1, hit0, H1, hc1, hdn, hlay, hy, hnd, hcar, hi⟩ hit k
    have hm : (ax, W.listOf (refs cells).toArray n) ∈ [(I, oI), (T1, tupO y t1 u1), (ax, W.listOf (refs cells).toArray n)] ++ all1 := by simp
    have hmT : (T1, tupO y t1 u1) ∈ [(I, oI), (T1, tupO y t1 u1), (ax, W.listOf (refs cells).toArray n)] ++ all1 := by simp
    have hTI := iter_ne hit0 (N1 _ hmT).1 rfl (by decide)
    have hLI := iter_ne hit0 (N1 _ hm).1 rfl (by decide)
    have nI := iter_nonC hit0 (N1 (I, oI) (by simp)).1
    have hi' : i < cells.length := by rw [← hrl]; exact (List.getElem?_eq_some_iff.mp hv).1
    obtain ⟨b, hb⟩ : ∃ b, cells[i]? = some b := ⟨cells[i], by simp [hi']⟩
    have hvb : v = .ref b.c.x := by
      have : (refs cells)[i]? = some (.ref b.c.x) := by simp [refs, hb]
      rw [this] at hv; exact (Option.some.inj hv).symm
    subst hvb
    have hdrop : cells.drop i = b :: cells.drop (i + 1) := by
      rw [List.drop_eq_getElem_cons hi']
      congr 1
      exact Option.some.inj ((List.getElem?_eq_getElem hi').symm.trans hb)
    rw [hdrop] at H1 hlay hy hnd
    have hbi : (dn ++ b :: cells.drop (i + 1))[i]? = some ⟨b.c, b.seg⟩ := get_mid hdn
    obtain ⟨oJ, nJ, itJ, F2, N2⟩ := step_iter F1 N1 .tup .list hc1 hit hTI hLI nI k
    have hx1 : ∀ p ∈ [(I, oJ), (T1, tupO y t1 u1), (ax, W.listOf (refs cells).toArray n)], NonC p.2 := by
      intro p hp
      simp only [List.mem_cons, List.not_mem_nil, or_false] at hp
      rcases hp with rfl | rfl | rfl
      · exact nJ
      · exact .tup
      · exact .list
    have X1 := Frag.In.keeps Xb B1.stays
    have T1' := Top.keeps Tb B1.stays
    have bnd := H1.bnd hbi
    clear F1 N1 k hit0 hm hmT hTI hLI nI hv hit
    dsimp only [List.cons_append, List.nil_append] at N2
    walk_at "GOK"
    rename Fr _ _ _ _ => F3
    rename News _ _ _ _ => N3
    refine lenU [(I, oJ), (T1, tupO y t1 u1), (ax, W.listOf (refs cells).toArray n)] oL (cf _) B1 sz1 Xb Tb F3 N3 rfl rfl rfl rfl (Nat.le_of_ble_eq_true rfl) (Nat.le_of_ble_eq_true rfl) H1 hc1 hbi (by omega) hx1 fun g4 h4 tk4 t4 all4 U4 B4 X4 T4 sz4 F4 N4 H4 hc4 => ?_
    clear N3 F3 H1 hc1 B1 X1 T1' sz1
    (try clear N2); (try clear F2)
    have U5 := U1.trans U4
    clear U1 U4
    walk_at "GOK"
    rename Fr _ _ _ _ => F5
    rename News _ _ _ _ => N5
    refine maxU [(I, oJ), (T1, tupO y t1 u1), (ax, W.listOf (refs cells).toArray n)] oM (cf _) B4 sz4 Xb Tb F5 N5 rfl rfl rfl rfl (Nat.le_of_ble_eq_true rfl) (Nat.le_of_ble_eq_true rfl) H4 hc4 hbi hx1 fun g6 h6 tk6 t6 all6 U6 B6 X6 T6 sz6 F6 N6 H6 hc6 => ?_
    clear N5 F5 H4 hc4 B4 X4 T4 sz4
    (try clear N4); (try clear F4)
    have U7 := U5.trans U6
    clear U5 U6
    dsimp only [List.cons_append, List.nil_append] at N6
    walk_at "GOK"
    · rename Fr _ _ _ _ => F7
      rename News _ _ _ _ => N7
      obtain ⟨sg, yy, es⟩ : ∃ s0 y, b.seg = s0 ++ [y] := by
        rcases List.eq_nil_or_concat b.seg with e | ⟨s0, y, e⟩
        · rename _ = b.c.mx => e2
          rw [e] at e2; simp at e2; omega
        · exact ⟨s0, y, by rw [e, List.concat_eq_append]⟩
      have pk := (cf w.params).popiK
      refine popiMeth [(I, oJ), (T1, tupO y t1 u1), (ax, W.listOf (refs cells).toArray n)] (cf _) X6 F7 N7 H6 hbi ?_
      dsimp only
      walk_at "GOK"
      refine popiU [(I, oJ), (T1, tupO y t1 u1), (ax, W.listOf (refs cells).toArray n)] oP B6 sz6 Xb Tb F7 N7 rfl rfl rfl rfl (Nat.le_of_ble_eq_true rfl) (Nat.le_of_ble_eq_true rfl) H6 hc6 hbi (by rw [es]; simp) hx1 fun g8 h8 tk8 T8 y8 t8 u8 sg8 all8 es8 U8 B8 X8 T8' sz8 F8 N8 H8 hc8 => ?_
      obtain ⟨rfl, rfl⟩ : sg8 = sg ∧ y8 = yy := by
        rw [es] at es8
        have := List.append_inj_left' es8 rfl
        have h2 := List.append_inj_right' es8 rfl
        exact ⟨this.symm, (List.cons.inj h2).1.symm⟩
      clear N7 F7 H6 hc6 B6 X6 T6 sz6
      (try clear N6); (try clear F6)
      have U9 := U7.trans U8
      clear U7 U8
      dsimp only [List.cons_append, List.nil_append] at N8
      walk_at "GOK"
      rename Fr _ _ _ _ => F9
      rename News _ _ _ _ => N9
      have hx9 : ∀ p ∈ [(T8, tupO y8 t8 u8), (I, oJ), (T1, tupO y t1 u1), (ax, W.listOf (refs cells).toArray n)], NonC p.2 := by
        intro p hp
        rcases List.mem_cons.mp hp with rfl | hp
        · exact .tup
        · exact hx1 p hp
      rw [set_mid hdn] at H8
      have hyk : y.1 ∉ keys sg8 := fun z => hy (by rw [heldC_cons, es, keys_app, keys_app]; simp [z])
      refine setU [(T8, tupO y8 t8 u8), (I, oJ), (T1, tupO y t1 u1), (ax, W.listOf (refs cells).toArray n)] oS (cf _) B8 sz8 Xb Tb F9 N9 rfl rfl rfl rfl (Nat.le_of_ble_eq_true rfl) (Nat.le_of_ble_eq_true rfl) H8 hc8 (get_mid hdn) hx9 fun g10 h10 tk10 all10 U10 B10 X10 T10 sz10 F10 N10 H10 hc10 => ?_
      clear N9 F9 H8 hc8 B8 X8 T8' sz8
      (try clear N8); (try clear F8)
      have U11 := U9.trans U10
      clear U9 U10
      rw [set_mid hdn, put_take hyk (by rw [es] at bnd; simp at bnd; rename _ = b.c.mx => e2; rw [es] at e2; simp at e2; omega)] at H10
      dsimp only [List.cons_append, List.nil_append] at N10
      walk_at "GOK"
      rename Fr _ _ _ _ => F11
      rename News _ _ _ _ => N11
      rename _ = b.c.mx => e2
      obtain ⟨l1', l2', l3'⟩ := lay_step hlay e2 es hnd
      refine LJ.intro (t := t8) (u := u8) U11 B10 sz10 F11 N11 (fun p hp => ?_) itJ (by rw [List.append_assoc]; exact H10) hc10 (by rw [List.length_append, hdn]; rfl) l1' l2' l3' rfl hi'
      simp only [List.mem_append, List.mem_cons, List.not_mem_nil, or_false] at hp ⊢
      rcases hp with (h | h | h) | h <;> simp [h]
    · walk_at "GOK"
      rename Fr _ _ _ _ => F9
      rename News _ _ _ _ => N9
      have hyk : y.1 ∉ keys b.seg := fun z => hy (by rw [heldC_cons, keys_app]; simp [z])
      refine setU [(I, oJ), (T1, tupO y t1 u1), (ax, W.listOf (refs cells).toArray n)] oS (cf _) B6 sz6 Xb Tb F9 N9 rfl rfl rfl rfl (Nat.le_of_ble_eq_true rfl) (Nat.le_of_ble_eq_true rfl) H6 hc6 hbi hx1 fun g10 h10 tk10 all10 U10 B10 X10 T10 sz10 F10 N10 H10 hc10 => ?_
      clear N9 F9 H6 hc6 B6 X6 T6 sz6
      (try clear N6); (try clear F6)
      have U11 := U7.trans U10
      clear U7 U10
      rw [set_mid hdn, put_take hyk (by omega)] at H10
      dsimp only [List.cons_append, List.nil_append] at N10
      walk_at "GOK"
      rename ¬ _ = b.c.mx => e2
      (try dsimp only); (try k_unfold); (try dsimp only)
      refine hR g10 h10 _ .none ((ax, W.listOf (refs cells).toArray n) :: all10) U11 (Fit.of F10 N10 fun p hp => List.mem_cons_of_mem _ (List.mem_cons_of_mem _ hp)) ⟨[], all10, rfl, ?_, hc10, .inl ⟨?_, rfl, rfl⟩⟩
      · rw [hlay, layC_free e2]; exact H10
      · rw [hlay, layC_free e2]
set_option maxRecDepth 100000 in
set_option maxHeartbeats 6000000 in
theorem s1 : Box (∀ {w : World} {s : Shared} {A : Around} {E : Value → Shared → Prop} {h₀ : Heap} {L f C : Addr} {on : Str} {cdv : Value} {qual : Str} {Q : Flow → Shared → Prop} {m : Str → Option Value} {mean : ExcName → Option Value} {mg mb : Str → Option Value} {lse : List Str} {σ : LSt} {num : Int} {nt : Tok},
    A.handled = none → A.frames = some [envOfC qual (fnScope (Mine.pre.heap_1_1 w.params) 968) L f cdv] → A.depth ≤ 305 → A.units ≤ 305 → (Mine.pre.heap_1_1 w.params).In h₀ → Top Mine.pre.view_1_2 lse mean mg mb h₀ →
    Lw (prog := PySem.Challenge.rw_bb0016_01.row.prog) w (PySem.strKind _ w) C on h₀ L m s.heap σ → m (Str.ofString "number") = some (.int num nt) →
    (∀ h' tk m' o k t d td, Lw (prog := PySem.Challenge.rw_bb0016_01.row.prog) w (PySem.strKind _ w) C on h₀ L m' h' { σ with o4 := o } → o.data = .cell (some (.str k t)) → PyData.strOk k = true → m' (Str.ofString "draw") = some (.int d td) → 0 ≤ d → d < 8 → (∀ y, y ≠ Str.ofString "draw" → m' y = m y) → Q .next { s with heap := h', toks := tk }) →
    wpAny (model PySem.Challenge.rw_bb0016_01.row.prog w) A (exec (nthS (subS (nthS (fnBody (Mine.pre.heap_1_1 w.params) 968) 6)) 0) (envOfC qual (fnScope (Mine.pre.heap_1_1 w.params) 968) L f cdv)) Q E s) := by
  refine ⟨?_⟩
  k_fill
  intro w s A E h₀ L f C on cdv qual Q m mean mg mb lse σ
  intro num nt hh hA hd hu X T S hn hQ
  obtain ⟨e1, e2⟩ := fnBody_eq (K := Mine.pre.heap_1_1 w.params) (f := 968) (by k_is)
  have kf := (@Box.out _ kinds w L).1
  rw [e1, e2]
  rw [e2] at hA kf
  clear e1 e2
  dsimp only [nthS, subS, elsS, tstS]
  have S0 := S
  obtain ⟨F, N, qL⟩ := S
  have d1 := qL.d1
  have d2 := qL.d2
  have d3 := qL.d3
  dsimp only [cel5, List.cons_append, List.nil_append] at N
  walk_at "GOF"
  rename Fr _ _ _ _ => F1
  rename News _ _ _ _ => N1
  refine assign_Tuple_tuple hh ⟨_, News.get N1 (by k_mem), rfl, 0, rfl⟩ rfl rfl fun h5 he => ?_
  have he' : ∀ b o, Heap.get? _ b = some o → h5.get? b = some o := fun b o e => he b o (Nat.ne_of_lt (Heap.lt_size e)) e
  have S1 := S0.move (F1.keeps he') (N1.grown he') (fun p hp => List.mem_cons_of_mem _ hp) rfl rfl
  refine assignInOrder_cons (wpAny_assign_Name (Lw.key (s := { s with heap := h5, toks := _ }) S1 rfl rfl rfl fun h6 o S2 hd => ?_))
  refine assignInOrder_cons (wpAny_assign_Name (wpAny_storeName_local rfl S2.F.ns fun h7 hn7 hs7 => assignInOrder_nil ?_))
  have F7 := S2.F.set hn7 hs7
  refine hQ h7 _ _ o _ _ _ _ (S2.move F7 (S2.N.set hs7) (fun _ h => h) rfl rfl) hd (strOk_add (strOk_of _) (strOk_of _)) rfl (Int.fmod_nonneg_of_pos _ (by decide)) (Int.fmod_lt_of_pos _ (by decide)) fun y hy => by simp [hy]
set_option maxRecDepth 100000 in
set_option maxHeartbeats 6000000 in
theorem s2 : Box (∀ {w : World} {s : Shared} {A : Around} {E : Value → Shared → Prop} {h₀ : Heap} {L f C : Addr} {on : Str} {cdv : Value} {qual : Str} {Q : Flow → Shared → Prop} {m : Str → Option Value} {mean : ExcName → Option Value} {mg mb : Str → Option Value} {lse : List Str} {σ : LSt} {d : Int} {td : Tok},
    A.handled = none → A.frames = some [envOfC qual (fnScope (Mine.pre.heap_1_1 w.params) 968) L f cdv] → A.depth ≤ 305 → A.units ≤ 305 → (Mine.pre.heap_1_1 w.params).In h₀ → Top Mine.pre.view_1_2 lse mean mg mb h₀ →
    Lw (prog := PySem.Challenge.rw_bb0016_01.row.prog) w (PySem.strKind _ w) C on h₀ L m s.heap σ → m (Str.ofString "draw") = some (.int d td) → 0 ≤ d → d < 8 →
    (∀ h' tk m' e te, Lw (prog := PySem.Challenge.rw_bb0016_01.row.prog) w (PySem.strKind _ w) C on h₀ L m' h' σ → m' (Str.ofString "deed") = some (.int e te) → 0 ≤ e → e ≤ 3 → (∀ y, y ≠ Str.ofString "deed" → m' y = m y) → Q .next { s with heap := h', toks := tk }) →
    wpAny (model PySem.Challenge.rw_bb0016_01.row.prog w) A (exec (nthS (subS (nthS (fnBody (Mine.pre.heap_1_1 w.params) 968) 6)) 1) (envOfC qual (fnScope (Mine.pre.heap_1_1 w.params) 968) L f cdv)) Q E s) := by
  refine ⟨?_⟩
  k_fill
  intro w s A E h₀ L f C on cdv qual Q m mean mg mb lse σ
  intro d td hh hA hd hu X T S hn h0 h8 hQ
  obtain ⟨e1, e2⟩ := fnBody_eq (K := Mine.pre.heap_1_1 w.params) (f := 968) (by k_is)
  have kf := (@Box.out _ kinds w L).1
  rw [e1, e2]
  rw [e2] at hA kf
  clear e1 e2
  dsimp only [nthS, subS, elsS, tstS]
  have S0 := S
  obtain ⟨F, N, qL⟩ := S
  have d1 := qL.d1
  have d2 := qL.d2
  have d3 := qL.d3
  dsimp only [cel5, List.cons_append, List.nil_append] at N
  walk_at "GOT"
  all_goals (rename Fr _ _ _ _ => F1; rename News _ _ _ _ => N1; exact hQ _ _ _ _ _ (S0.move F1 N1 (fun p hp => hp) rfl rfl) rfl (by omega) (by omega) (fun y hy => by simp [hy]))
set_option maxRecDepth 100000 in
set_option maxHeartbeats 6000000 in
theorem s3 : Box (∀ {w : World} {s : Shared} {A : Around} {E : Value → Shared → Prop} {h₀ : Heap} {L f C : Addr} {on : Str} {cdv : Value} {qual : Str} {Q : Flow → Shared → Prop} {m : Str → Option Value} {mean : ExcName → Option Value} {mg mb : Str → Option Value} {lse : List Str} {σ : LSt} {k : Str} {t : Tok} {gfn sfn pfn : Addr},
    A.handled = none → A.frames = some [envOfC qual (fnScope (Mine.pre.heap_1_1 w.params) 968) L f cdv] → A.depth ≤ 305 → A.units ≤ 305 → (Mine.pre.heap_1_1 w.params).In h₀ → Top Mine.pre.view_1_2 lse mean mg mb h₀ →
    Lw (prog := PySem.Challenge.rw_bb0016_01.row.prog) w (PySem.strKind _ w) C on h₀ L m s.heap σ → σ.o4.data = .cell (some (.str k t)) → ClsF (Mine.pre.heap_1_1 w.params) C on gfn sfn pfn → OHas (prog := PySem.Challenge.rw_bb0016_01.row.prog) Mine.pre.heap_1_1 Mine.pre.view_1_2 (fun w => PySem.strKind PySem.Challenge.rw_bb0016_01.row.prog w) C on 749 →
    (∀ h' tk m' all' D ys n, Fr h₀ L h' m' → News h₀ L h' (cel5 L σ ++ all') → Kept w (PySem.strKind PySem.Challenge.rw_bb0016_01.row.prog w) C on L m' σ all' → (D, W.listOf ys.toArray n) ∈ all' → IntsAre ys ((havs σ.cs k σ.cs.length).map fun (j : Nat) => (j : Int)) → m' (Str.ofString "having") = some (.ref D) → (∀ y, y ≠ Str.ofString "having" → m' y = m y) → Q .next { s with heap := h', toks := tk }) →
    wpAny (model PySem.Challenge.rw_bb0016_01.row.prog w) A (exec (nthS (subS (nthS (fnBody (Mine.pre.heap_1_1 w.params) 968) 6)) 2) (envOfC qual (fnScope (Mine.pre.heap_1_1 w.params) 968) L f cdv)) Q E s) := by
  refine ⟨?_⟩
  k_fill
  intro w s A E h₀ L f C on cdv qual Q m mean mg mb lse σ
  intro k t gfn sfn pfn hh hA hd hu X T S d4 cf oh hQ
  obtain ⟨e1, e2⟩ := fnBody_eq (K := Mine.pre.heap_1_1 w.params) (f := 968) (by k_is)
  have kf := (@Box.out _ kinds w L).1
  rw [e1, e2]
  rw [e2] at hA kf
  clear e1 e2
  dsimp only [nthS, subS, elsS, tstS]
  have S0 := S
  obtain ⟨F, N, qL⟩ := S
  have d1 := qL.d1
  have d2 := qL.d2
  have d3 := qL.d3
  dsimp only [cel5, List.cons_append, List.nil_append] at N
  obtain ⟨nch, hch⟩ := qL.chain
  have hlen := qL.len
  refine comp1_assign F (by rfl) (by with_unfolding_all rfl) (by decide) (by rfl) (by decide) (by rfl) (by rfl) (by rfl) ?_
  walk_at "GOZ"
  rename IsRange _ _ _ _ _ _ _ _ => R1
  rename Fr _ _ _ _ => F1
  rename News _ _ _ _ => N1
  refine Or.inr ⟨_, _, _, _, _, _, σ.cs.length, _, LookInv w (PySem.strKind PySem.Challenge.rw_bb0016_01.row.prog w) C on L m σ fun i ys => IntsAre ys ((havs σ.cs k i).map fun (j : Nat) => (j : Int)), rfl, hh, F1, N1, R1, small_one (by omega) (by omega) (by omega) (by omega), rangeSize_nat _ _, by rw [sizeLine_eq]; omega, ⟨σ.all, rfl, Same.refl qL, .nil⟩, ?fin, ?step⟩
  case fin =>
    rintro ys news ⟨all', rfl, Sm, hI⟩ D h tk F' N' o1
    have oD := Off1.off o1
    exact hQ h tk (fun z => if z = Str.ofString "having" then some (.ref D) else m z) ((D, LCg.lst ys) :: all') D ys ys.length F' (fun p hp => N' p (by simp only [List.mem_append, List.mem_cons] at hp ⊢; grind)) ((Sm.kept.grow (notCell_of (L := L) (σ := σ) oD)).names rfl rfl) (by simp) hI (by simp) (fun y hy => by simp [hy])
  case step =>
    rintro i ys news v hi ⟨all', rfl, Sm, hI⟩ ⟨ti, rfl⟩ I oI C' oC D m₂ h tk E' hC hB F' N' off ne
    refine wpAny_tests_one ?_
    dsimp only [cel5, List.cons_append, List.nil_append] at N'
    clear N1 F1 R1; (try clear N); (try clear F)
    walk_at "GOZ"
    obtain ⟨b, hb⟩ : ∃ b, σ.cs[i]? = some b := ⟨σ.cs[i], by simp [hi]⟩
    refine Sm.q.item [(I, oI), (C', oC), (D, LCg.lst ys)] N' hb (Int.zero_add _) ?_
    dsimp only
    refine Lq.hasC (seg := b.seg) (c := b.c) [(I, oI), (C', oC), (D, LCg.lst ys)] oh cf Sm.q F' X N' T hh hA rfl rfl (Nat.le_trans hd (by decide)) (Nat.le_trans hu (by decide)) hb (Mine.Off3.offs (L := L) (σ := σ) off) fun h2 tk2 all2 F2 N2 S2 => ?_
    dsimp only [cel5, List.cons_append, List.nil_append] at N2
    clear N' F'
    have hs := havs_succ σ.cs k i
    have off2 := Mine.Off3.same (L := L) (σ := σ) off S2.off
    have S3 := Sm.trans S2
    walk_at "GOZ"
    · rename _ ∈ keys b.seg => e
      exact look_end' F2 N2 off2 trivial S3 (by rw [hs, if_pos (by simpa [hasAt, hb] using e), List.map_append, Int.zero_add]; exact ints_snoc hI)
    · rename ¬ _ ∈ keys b.seg => e
      exact look_end F2 N2 off2 trivial S3 (by rw [hs, if_neg (by simpa [hasAt, hb] using e), List.append_nil]; exact hI)
set_option maxRecDepth 100000 in
set_option maxHeartbeats 6000000 in
theorem s4 : Box (∀ {w : World} {s : Shared} {A : Around} {E : Value → Shared → Prop} {h₀ : Heap} {L f C : Addr} {on : Str} {cdv : Value} {qual : Str} {Q : Flow → Shared → Prop} {m : Str → Option Value} {mean : ExcName → Option Value} {mg mb : Str → Option Value} {lse : List Str} {σ : LSt} {k : Str} {t : Tok},
    A.handled = none → A.frames = some [envOfC qual (fnScope (Mine.pre.heap_1_1 w.params) 968) L f cdv] → A.depth ≤ 305 → A.units ≤ 305 → (Mine.pre.heap_1_1 w.params).In h₀ → Top Mine.pre.view_1_2 lse mean mg mb h₀ →
    Lw (prog := PySem.Challenge.rw_bb0016_01.row.prog) w (PySem.strKind _ w) C on h₀ L m s.heap σ → σ.o4.data = .cell (some (.str k t)) →
    (∀ h' tk m' all' D ys n, Fr h₀ L h' m' → News h₀ L h' (cel5 L σ ++ all') → Kept w (PySem.strKind PySem.Challenge.rw_bb0016_01.row.prog w) C on L m' σ all' → (D, W.listOf ys.toArray n) ∈ all' → IntsAre ys ((σ.row.filter fun p => decide (p.1 = k)).map (·.2)) → m' (Str.ofString "worths") = some (.ref D) → (∀ y, y ≠ Str.ofString "worths" → m' y = m y) → Q .next { s with heap := h', toks := tk }) →
    wpAny (model PySem.Challenge.rw_bb0016_01.row.prog w) A (exec (nthS (subS (nthS (fnBody (Mine.pre.heap_1_1 w.params) 968) 6)) 3) (envOfC qual (fnScope (Mine.pre.heap_1_1 w.params) 968) L f cdv)) Q E s) := by
  refine ⟨?_⟩
  k_fill
  intro w s A E h₀ L f C on cdv qual Q m mean mg mb lse σ
  intro k t hh hA hd hu X T S d4 hQ
  obtain ⟨e1, e2⟩ := fnBody_eq (K := Mine.pre.heap_1_1 w.params) (f := 968) (by k_is)
  have kf := (@Box.out _ kinds w L).1
  rw [e1, e2]
  rw [e2] at hA kf
  clear e1 e2
  dsimp only [nthS, subS, elsS, tstS]
  have S0 := S
  obtain ⟨F, N, qL⟩ := S
  have d1 := qL.d1
  have d2 := qL.d2
  have d3 := qL.d3
  dsimp only [cel5, List.cons_append, List.nil_append] at N
  obtain ⟨rvs, nr, hr, hR⟩ := qL.rows
  have r1 := qL.r1
  have hrl := qL.rl
  have hrv := hR.1
  refine comp2_assign F (by rfl) (by with_unfolding_all rfl) (by decide) (by rfl) (by decide) (by rfl) (by rfl) (by decide) (by rfl) (by rfl) ?_
  walk_at "GOT"
  have src : ∀ all', Kept w (PySem.strKind PySem.Challenge.rw_bb0016_01.row.prog w) C on L m σ all' → LCg.SrcAt h₀ σ.Lr rvs.toArray (cel5 L σ ++ all') := fun all' K => src_all (K.keep _ hr .list)
  refine ⟨_, rvs.toArray, _, LookInv w (PySem.strKind PySem.Challenge.rw_bb0016_01.row.prog w) C on L m σ fun i ys => IntsAre ys (((σ.row.take i).filter fun p => decide (p.1 = k)).map (·.2)), fun i a b => ∃ p t u, σ.row[i]? = some p ∧ a = .str p.1 t ∧ b = .int p.2 u, rfl, hh, F, N, src _ (Same.refl qL).kept, by rw [sizeLine_eq, List.size_toArray]; omega, ⟨σ.all, rfl, Same.refl qL, .nil⟩, ?fin, ?tup, ?step⟩
  case fin =>
    rintro ys news ⟨all', rfl, Sm, hI⟩ D h tk F' N' o1
    have oD := Off1.off o1
    have e : σ.row.take rvs.toArray.size = σ.row := List.take_of_length_le (by rw [List.size_toArray]; omega)
    rw [e] at hI
    exact hQ h tk (fun z => if z = Str.ofString "worths" then some (.ref D) else m z) ((D, LCg.lst ys) :: all') D ys ys.length F' (fun p hp => N' p (by simp only [List.mem_append, List.mem_cons] at hp ⊢; grind)) ((Sm.kept.grow (notCell_of (L := L) (σ := σ) oD)).names rfl rfl) (by simp) hI (by simp) (fun y hy => by simp [hy])
  case tup =>
    rintro i ys news v hi ⟨all', rfl, Sm, hI⟩ hv
    have hi' : i < σ.row.length := by rw [List.size_toArray] at hi; omega
    obtain ⟨T', t', u', rfl, hm⟩ := hR.2 i v σ.row[i] (by simpa using hv) (by simp [hi'])
    exact ⟨T', _, _, _, _, rfl, List.mem_append_right _ (Sm.keep _ hm .tup), rfl, rfl, _, t', u', by simp [hi'], rfl, rfl⟩
  case step =>
    rintro i ys news v hi ⟨all', rfl, Sm, hI⟩ hv I oI C' oC D m₂ h tk E' hC ⟨v1, v2, ⟨p, tp, up, hp, rfl, rfl⟩, hx1, hx2⟩ F' N' off ne
    refine wpAny_tests_one ?_
    dsimp only [cel5, List.cons_append, List.nil_append] at N'
    (try clear N); (try clear F)
    have hs := take_filter' (fun q : Str × Int => decide (q.1 = k)) hp
    walk_at "GOT"
    all_goals (rename (_ == _) = _ => e)
    · exact look_end' (all := all') (by assumption) (by assumption) off (src _ Sm.kept) Sm (by rw [hs, if_pos (by simpa using e), List.map_append]; exact ints_snoc hI)
    · exact look_end (all := all') (by assumption) (by assumption) off (src _ Sm.kept) Sm (by rw [hs, if_neg (by simpa using e), List.append_nil]; exact hI)
set_option maxRecDepth 100000 in
set_option maxHeartbeats 6000000 in
theorem s5 : Box (∀ {w : World} {s : Shared} {A : Around} {E : Value → Shared → Prop} {h₀ : Heap} {L f C : Addr} {on : Str} {cdv : Value} {qual : Str} {Q : Flow → Shared → Prop} {m : Str → Option Value} {mean : ExcName → Option Value} {mg mb : Str → Option Value} {lse : List Str} {σ : LSt} {k : Str} {t : Tok} {gfn sfn pfn Hv Wv : Addr} {hvs wvs : List Value} {n1 n2 : Nat} {hs ws : List Int},
    A.handled = none → A.frames = some [envOfC qual (fnScope (Mine.pre.heap_1_1 w.params) 968) L f cdv] → A.depth ≤ 305 → A.units ≤ 305 → (Mine.pre.heap_1_1 w.params).In h₀ → Top Mine.pre.view_1_2 lse mean mg mb h₀ →
    Lw (prog := PySem.Challenge.rw_bb0016_01.row.prog) w (PySem.strKind _ w) C on h₀ L m s.heap σ → σ.o4.data = .cell (some (.str k t)) → ClsF (Mine.pre.heap_1_1 w.params) C on gfn sfn pfn → OHas (prog := PySem.Challenge.rw_bb0016_01.row.prog) Mine.pre.heap_1_1 Mine.pre.view_1_2 (fun w => PySem.strKind PySem.Challenge.rw_bb0016_01.row.prog w) C on 749 → m (Str.ofString "having") = some (.ref Hv) → m (Str.ofString "worths") = some (.ref Wv) → (Hv, W.listOf hvs.toArray n1) ∈ σ.all → (Wv, W.listOf wvs.toArray n2) ∈ σ.all → IntsAre hvs hs → IntsAre wvs ws → hs.length = ws.length → ws.length ≤ 1 → (k ∈ keys σ.W.seg ↔ ws ≠ []) →
    (∀ h' tk all', Fr h₀ L h' m → News h₀ L h' (cel5 L σ ++ all') → Kept w (PySem.strKind PySem.Challenge.rw_bb0016_01.row.prog w) C on L m σ all' → Q .next { s with heap := h', toks := tk }) →
    wpAny (model PySem.Challenge.rw_bb0016_01.row.prog w) A (exec (nthS (subS (nthS (fnBody (Mine.pre.heap_1_1 w.params) 968) 6)) 4) (envOfC qual (fnScope (Mine.pre.heap_1_1 w.params) 968) L f cdv)) Q E s) := by
  refine ⟨?_⟩
  k_fill
  intro w s A E h₀ L f C on cdv qual Q m mean mg mb lse σ
  intro k t gfn sfn pfn Hv Wv hvs wvs n1 n2 hs ws hh hA hd hu X T S d4 cf oh mh mw hHv hWv hH hW he h1 hkw hQ
  obtain ⟨e1, e2⟩ := fnBody_eq (K := Mine.pre.heap_1_1 w.params) (f := 968) (by k_is)
  have kf := (@Box.out _ kinds w L).1
  rw [e1, e2]
  rw [e2] at hA kf
  clear e1 e2
  dsimp only [nthS, subS, elsS, tstS]
  have S0 := S
  obtain ⟨F, N, qL⟩ := S
  have d1 := qL.d1
  have d2 := qL.d2
  have d3 := qL.d3
  dsimp only [cel5, List.cons_append, List.nil_append] at N
  have hzl := hH.length
  have hwl := hW.length
  walk_at "GOS"
  · exfalso; simp_all; done
  rename News _ _ _ _ => N1
  rename Fr _ _ _ _ => F1
  refine Lq.hasW [] oh cf qL F1 X N1 T hh hA rfl rfl (Nat.le_trans hd (by decide)) (Nat.le_trans hu (by decide)) trivial fun h2 tk2 all2 F2 N2 S2 => ?_
  have hWv2 := S2.keep _ hWv .list
  dsimp only [cel5, List.cons_append, List.nil_append] at N2
  clear F1 N1
  walk_at "GOS"
  rename News _ _ _ _ => N3
  refine ke_ne_ints (News.isList N3 (by k_mem)) (News.isList N3 (by k_mem)) hW .nil (Nat.lt_of_le_of_lt (Nat.add_le_add_right hu 64) (by decide)) ?_
  walk_at "GOS"
  · exfalso
    rename (_ != _) = true => e
    by_cases hw0 : ws = [] <;> simp_all
  · rename Fr _ _ _ _ => F5
    rename News _ _ _ _ => N5
    exact hQ _ _ all2 F5 (fun p hp => N5 p (List.mem_cons_of_mem _ hp)) S2.kept
set_option maxRecDepth 100000 in
set_option maxHeartbeats 6000000 in
theorem s6 : Box (∀ {w : World} {s : Shared} {A : Around} {E : Value → Shared → Prop} {h₀ : Heap} {L f C : Addr} {on : Str} {cdv : Value} {qual : Str} {Q : Flow → Shared → Prop} {m : Str → Option Value} {mean : ExcName → Option Value} {mg mb : Str → Option Value} {lse : List Str} {σ : LSt} ,
    A.handled = none → A.frames = some [envOfC qual (fnScope (Mine.pre.heap_1_1 w.params) 968) L f cdv] → A.depth ≤ 305 → A.units ≤ 305 → (Mine.pre.heap_1_1 w.params).In h₀ → Top Mine.pre.view_1_2 lse mean mg mb h₀ →
    Lw (prog := PySem.Challenge.rw_bb0016_01.row.prog) w (PySem.strKind _ w) C on h₀ L m s.heap σ → 
    (∀ h2 tk m', Lw (prog := PySem.Challenge.rw_bb0016_01.row.prog) w (PySem.strKind _ w) C on h₀ L m' h2 σ → m' (Str.ofString "fallen") = some .none → (∀ y, y ≠ Str.ofString "fallen" → m' y = m y) → Q .next { s with heap := h2, toks := tk }) →
    wpAny (model PySem.Challenge.rw_bb0016_01.row.prog w) A (exec (nthS (subS (nthS (fnBody (Mine.pre.heap_1_1 w.params) 968) 6)) 5) (envOfC qual (fnScope (Mine.pre.heap_1_1 w.params) 968) L f cdv)) Q E s) := by
  refine ⟨?_⟩
  k_fill
  intro w s A E h₀ L f C on cdv qual Q m mean mg mb lse σ
  intro hh hA hd hu X T S hQ
  obtain ⟨e1, e2⟩ := fnBody_eq (K := Mine.pre.heap_1_1 w.params) (f := 968) (by k_is)
  have kf := (@Box.out _ kinds w L).1
  rw [e1, e2]
  rw [e2] at hA kf
  clear e1 e2
  dsimp only [nthS, subS, elsS, tstS]
  have S0 := S
  obtain ⟨F, N, qL⟩ := S
  have d1 := qL.d1
  have d2 := qL.d2
  have d3 := qL.d3
  dsimp only [cel5, List.cons_append, List.nil_append] at N
  walk_at "GOT"
  rename Fr _ _ _ _ => F1
  rename News _ _ _ _ => N1
  exact hQ _ _ _ (S0.move F1 N1 (fun p hp => hp) rfl rfl) (by simp) (fun y hy => by simp [hy])
set_option maxRecDepth 100000 in
set_option maxHeartbeats 6000000 in
theorem s8 : Box (∀ {w : World} {s : Shared} {A : Around} {E : Value → Shared → Prop} {h₀ : Heap} {L f C : Addr} {on : Str} {cdv : Value} {qual : Str} {Q : Flow → Shared → Prop} {m : Str → Option Value} {mean : ExcName → Option Value} {mg mb : Str → Option Value} {lse : List Str} {σ : LSt} {gfn sfn pfn : Addr} {touch : Bool},
    A.handled = none → A.frames = some [envOfC qual (fnScope (Mine.pre.heap_1_1 w.params) 968) L f cdv] → A.depth ≤ 305 → A.units ≤ 305 → (Mine.pre.heap_1_1 w.params).In h₀ → Top Mine.pre.view_1_2 lse mean mg mb h₀ →
    Lw (prog := PySem.Challenge.rw_bb0016_01.row.prog) w (PySem.strKind _ w) C on h₀ L m s.heap σ → Ops (prog := PySem.Challenge.rw_bb0016_01.row.prog) Mine.pre.heap_1_1 Mine.pre.view_1_2 (fun w => PySem.strKind PySem.Challenge.rw_bb0016_01.row.prog w) C on gfn sfn pfn touch → OLenS (prog := PySem.Challenge.rw_bb0016_01.row.prog) Mine.pre.heap_1_1 Mine.pre.view_1_2 (fun w => PySem.strKind PySem.Challenge.rw_bb0016_01.row.prog w) C on 770 → (keys (heldC σ.cs)).Perm (keys σ.row) → (keys σ.W.seg).Perm (keys σ.row) → NamesOk (keys σ.row) →
    (∀ h' tk all', Fr h₀ L h' m → News h₀ L h' (cel5 L σ ++ all') → Kept w (PySem.strKind PySem.Challenge.rw_bb0016_01.row.prog w) C on L m σ all' → Q .next { s with heap := h', toks := tk }) →
    wpAny (model PySem.Challenge.rw_bb0016_01.row.prog w) A (exec (nthS (subS (nthS (fnBody (Mine.pre.heap_1_1 w.params) 968) 6)) 7) (envOfC qual (fnScope (Mine.pre.heap_1_1 w.params) 968) L f cdv)) Q E s) := by
  refine ⟨?_⟩
  k_fill
  intro w s A E h₀ L f C on cdv qual Q m mean mg mb lse σ
  intro gfn sfn pfn touch hh hA hd hu X T S ops ol hp1 hp2 ok hQ
  obtain ⟨e1, e2⟩ := fnBody_eq (K := Mine.pre.heap_1_1 w.params) (f := 968) (by k_is)
  have kf := (@Box.out _ kinds w L).1
  rw [e1, e2]
  rw [e2] at hA kf
  clear e1 e2
  dsimp only [nthS, subS, elsS, tstS]
  have S0 := S
  obtain ⟨F, N, qL⟩ := S
  have d1 := qL.d1
  have d2 := qL.d2
  have d3 := qL.d3
  dsimp only [cel5, List.cons_append, List.nil_append] at N
  obtain ⟨nch, hch⟩ := qL.chain
  obtain ⟨rvs, nr, hrm, hR⟩ := qL.rows
  have r1 := qL.r1
  have hrl := qL.rl
  have hlen := qL.len
  have hcl : (heldC σ.cs).length ≤ 12 := by have := hp1.length_eq; rw [List.length_map, List.length_map] at this; omega
  have hkr : (keys σ.row).length ≤ 12 := by rw [List.length_map]; exact hrl
  walk_at "GOS"
  rename Fr _ _ _ _ => F1
  refine nest_eval (h₀ := h₀) (L := L) (m := m) (by with_unfolding_all rfl) (by decide) (by rfl) (by decide) (by rfl) (by rfl) (by decide) ?_
  walk_at "GOS"
  rename News _ _ _ _ => N1
  refine ⟨_, (refs σ.cs).toArray, _, LookInv w (PySem.strKind PySem.Challenge.rw_bb0016_01.row.prog w) C on L m σ fun i ys => ∃ ks, StrsAre ys ks ∧ ks.Perm (keys (heldC (σ.cs.take i))), rfl, hh, F1, N1, src_all hch, by rw [sizeLine_eq, List.size_toArray, List.length_map]; omega, ⟨σ.all, rfl, Same.refl qL, [], .nil, .refl _⟩, ?fin1, Lq.chainStep ops.iter (ops.cf _) qL X T hh hA rfl rfl (Nat.le_trans hd (by decide)) (Nat.le_trans hu (by decide)) hch (by rfl) (by rfl) (by decide) hcl⟩
  case fin1 =>
    rintro y1 news ⟨all1, rfl, Sm, ks, hS, hP⟩ D1 h tk F' N' o1
    have oD := Off1.off o1
    have eTk : List.take (refs σ.cs).toArray.size σ.cs = σ.cs := List.take_of_length_le (by rw [List.size_toArray, List.length_map]; omega)
    rw [eTk] at hP
    have hPl : ks.length ≤ 12 := by rw [hP.length_eq, List.length_map]; exact hcl
    have K5 := Sm.kept.grow (o := LCg.lst y1) (notCell_of (L := L) (σ := σ) oD)
    have N6 : News h₀ L h (cel5 L σ ++ (D1, LCg.lst y1) :: all1) := fun p hp => N' p (by simp only [List.mem_append, List.mem_cons] at hp ⊢; grind)
    clear N' N1 F1
    dsimp only [cel5, List.cons_append, List.nil_append] at N6
    walk_at "GOS"
    (try clear N5)
    rename Fr _ _ _ _ => FS1
    rename News _ _ _ _ => NSx
    have NS1 := Mine.News.cutTo (l' := cel5 L σ ++ ((D1, LCg.lst y1) :: all1)) NSx (by walk_at "TAILP")
    clear NSx
    refine sorted_L FS1 NS1 (List.mem_append_right _ List.mem_cons_self) hS (by omega) fun A1 e1 h1 vs1 ss1 FT1 NT1 oA1 hSt1 hPm1 hSo1 => ?_
    have K1 := K5.grow (o := W.listOf vs1.toArray e1) (notCell_of (L := L) (σ := σ) oA1)
    have NU1 : News h₀ L h1 (cel5 L σ ++ (A1, W.listOf vs1.toArray e1) :: ((D1, LCg.lst y1) :: all1)) := News.cutTo NT1 (by intro q hq; simp only [tupO, List.mem_append, List.mem_cons, List.not_mem_nil, or_false] at hq ⊢; grind)
    clear FS1 NS1 NT1
    dsimp only [cel5, List.cons_append, List.nil_append] at NU1
    walk_at "GOS"
    have hrm1 := K1.keep _ hrm .list
    have hR1 := hR.mono K1.keep
    (try clear N5)
    rename Fr _ _ _ _ => F5
    rename News _ _ _ _ => N5x
    have N5 := Mine.News.cutTo (l' := cel5 L { σ with all := ((A1, W.listOf vs1.toArray e1) :: (D1, LCg.lst y1) :: all1) } ++ ((A1, W.listOf vs1.toArray e1) :: (D1, LCg.lst y1) :: all1)) N5x (by walk_at "TAILP")
    clear N5x
    have hlX2 := (hR1).1
    refine comp2_eval F5 (by with_unfolding_all rfl) (by decide) (by rfl) (by decide) (by rfl) (by rfl) (by decide) ?_
    walk_at "GOT"
    refine ⟨_, rvs.toArray, _, LookInv w (PySem.strKind PySem.Challenge.rw_bb0016_01.row.prog w) C on L m { σ with all := ((A1, W.listOf vs1.toArray e1) :: (D1, LCg.lst y1) :: all1) } fun i ys => StrsAre ys (keys (List.take i σ.row)), fun i a b => ∃ p t u, (σ.row)[i]? = some p ∧ a = .str p.1 t ∧ b = .int p.2 u, rfl, hh, F5, N5, src_all ((Same.refl K1.q).kept.keep _ hrm1 .list), by rw [sizeLine_eq, List.size_toArray]; omega, ⟨((A1, W.listOf vs1.toArray e1) :: (D1, LCg.lst y1) :: all1), rfl, Same.refl K1.q, .nil⟩, ?fin2, ?tup2, ?step2⟩
    case tup2 =>
      rintro i ys news v hi ⟨all', rfl, Sm, hI⟩ hv
      have hi' : i < (σ.row).length := by rw [List.size_toArray] at hi; omega
      obtain ⟨T', t', u', rfl, hm⟩ := (hR1).2 i v (σ.row)[i] (by simpa using hv) (by simp [hi'])
      exact ⟨T', _, _, _, _, rfl, List.mem_append_right _ (Sm.keep _ hm .tup), rfl, rfl, _, t', u', by simp [hi'], rfl, rfl⟩
    case step2 =>
      rintro i ys news v hi ⟨all', rfl, Sm, hI⟩ hv I oI C' oC D m₂ h tk E' hC ⟨v1, v2, ⟨p, tp, up, hp, rfl, rfl⟩, hx1, hx2⟩ F' N' off ne
      refine wpAny_tests_nil ?_
      rw [if_pos rfl]
      dsimp only [cel5, List.cons_append, List.nil_append] at N'
      (try clear N5); (try clear F5)
      walk_at "GOT"
      have hn : StrsAre (ys ++ [.str p.1 tp]) (keys (List.take (i + 1) (σ.row))) := by
        rw [List.take_add_one, hp]; simp only [keys, List.map_append]; exact hI.append' (.cons _ _ .nil)
      exact look_end' (σ := { σ with all := ((A1, W.listOf vs1.toArray e1) :: (D1, LCg.lst y1) :: all1) }) (all := all') (by assumption) (by assumption) off (src_all (Sm.keep _ hrm1 .list)) Sm hn
    case fin2 =>
      rintro y2 news ⟨a2, rfl, Sm2, hI2⟩ D2 h2 tk2 F' N' o1
      have oD := Off1.off o1
      have eTk : List.take (rvs).toArray.size (σ.row) = σ.row := List.take_of_length_le (by rw [List.size_toArray]; omega)
      rw [eTk] at hI2
      have KN2 := Sm2.kept.grow (o := LCg.lst y2) (notCell_of (L := L) (σ := { σ with all := ((A1, W.listOf vs1.toArray e1) :: (D1, LCg.lst y1) :: all1) }) oD)
      have N6 : News h₀ L h2 (cel5 L { σ with all := ((A1, W.listOf vs1.toArray e1) :: (D1, LCg.lst y1) :: all1) } ++ (D2, LCg.lst y2) :: a2) := fun p hp => N' p (by simp only [List.mem_append, List.mem_cons] at hp ⊢; grind)
      clear N' N5 F5
      dsimp only [cel5, List.cons_append, List.nil_append] at N6
      walk_at "GOT"
      have KK2 := K1.trans KN2
      have hA1 := KN2.keep _ List.mem_cons_self .list
      (try clear N5)
      rename Fr _ _ _ _ => FS3
      rename News _ _ _ _ => NSx
      have NS3 := Mine.News.cutTo (l' := cel5 L σ ++ ((D2, LCg.lst y2) :: a2)) NSx (by walk_at "TAILP")
      clear NSx
      refine sorted_L FS3 NS3 (List.mem_append_right _ List.mem_cons_self) hI2 (by omega) fun A3 e3 h3 vs3 ss3 FT3 NT3 oA3 hSt3 hPm3 hSo3 => ?_
      have K3 := KK2.grow (o := W.listOf vs3.toArray e3) (notCell_of (L := L) (σ := σ) oA3)
      have NU3 : News h₀ L h3 (cel5 L σ ++ (A3, W.listOf vs3.toArray e3) :: ((D2, LCg.lst y2) :: a2)) := News.cutTo NT3 (by intro q hq; simp only [tupO, List.mem_append, List.mem_cons, List.not_mem_nil, or_false] at hq ⊢; grind)
      clear FS3 NS3 NT3
      dsimp only [cel5, List.cons_append, List.nil_append] at NU3
      walk_at "GOS"
      rename News _ _ _ _ => NC
      obtain rfl : ss1 = ss3 := sorted_eq hSo1 hSo3 (((hPm1.trans hP).trans hp1).trans hPm3.symm)
      refine ne_strs NC (mem5 (List.mem_cons_of_mem _ hA1)) (by k_mem) hSt1 hSt3 ((ok.perm hp1).perm (hPm1.trans hP)) ((ok.perm hp1).perm (hPm1.trans hP)) (Nat.lt_of_le_of_lt (Nat.add_le_add_right hu 64) (by decide)) ?_
      rw [show (!decide (ss1 = ss1)) = false from by simp]
      walk_at "GOS"
      rename Fr _ _ _ _ => F7
      refine Lq.listB (σ := { σ with all := ((A3, W.listOf vs3.toArray e3) :: ((D2, LCg.lst y2) :: a2)) }) (b := σ.W) [] ol ops.iter (ops.cf _) K3.q F7 X (by walk_at "CUT") T hh hA rfl rfl (Nat.le_trans hd (by decide)) (Nat.le_trans hu (by decide)) List.mem_cons_self trivial fun h4 tk4 DL n4 vs4 ks4 all4 F4 N4 S4 oDL hp4 hl4 hv4 => ?_
      have hS4 := strs_of hl4 hv4
      have hl4' : ks4.length ≤ 12 := by rw [hp4.length_eq, hp2.length_eq]; exact hkr
      have K4 := (K3.trans S4.kept).grow (o := W.listOf vs4.toArray n4) (notCell_of (L := L) (σ := σ) oDL)
      have N4' : News h₀ L h4 (cel5 L σ ++ ((DL, W.listOf vs4.toArray n4) :: all4)) := News.cutTo N4 (by intro q hq; simp only [tupO, List.mem_append, List.mem_cons, List.not_mem_nil, or_false] at hq ⊢; grind)
      (try clear N4); (try clear NC); (try clear F7)
      dsimp only [cel5, List.cons_append, List.nil_append] at N4'
      walk_at "GOS"
      (try clear N5)
      rename Fr _ _ _ _ => FS5
      rename News _ _ _ _ => NSx
      have NS5 := Mine.News.cutTo (l' := cel5 L σ ++ ((DL, W.listOf vs4.toArray n4) :: all4)) NSx (by walk_at "TAILP")
      clear NSx
      refine sorted_L FS5 NS5 (List.mem_append_right _ List.mem_cons_self) hS4 (by omega) fun A5 e5 h5 vs5 ss5 FT5 NT5 oA5 hSt5 hPm5 hSo5 => ?_
      have K5 := K4.grow (o := W.listOf vs5.toArray e5) (notCell_of (L := L) (σ := σ) oA5)
      have NU5 : News h₀ L h5 (cel5 L σ ++ (A5, W.listOf vs5.toArray e5) :: ((DL, W.listOf vs4.toArray n4) :: all4)) := News.cutTo NT5 (by intro q hq; simp only [tupO, List.mem_append, List.mem_cons, List.not_mem_nil, or_false] at hq ⊢; grind)
      clear FS5 NS5 NT5
      dsimp only [cel5, List.cons_append, List.nil_append] at NU5
      walk_at "GOS"
      have hrm5 := K5.keep _ hrm .list
      have hR5 := hR.mono K5.keep
      (try clear N5)
      rename Fr _ _ _ _ => F5
      rename News _ _ _ _ => N5x
      have N5 := Mine.News.cutTo (l' := cel5 L { σ with all := ((A5, W.listOf vs5.toArray e5) :: ((DL, W.listOf vs4.toArray n4) :: all4)) } ++ ((A5, W.listOf vs5.toArray e5) :: ((DL, W.listOf vs4.toArray n4) :: all4))) N5x (by walk_at "TAILP")
      clear N5x
      have hlX6 := (hR5).1
      refine comp2_eval F5 (by with_unfolding_all rfl) (by decide) (by rfl) (by decide) (by rfl) (by rfl) (by decide) ?_
      walk_at "GOT"
      refine ⟨_, rvs.toArray, _, LookInv w (PySem.strKind PySem.Challenge.rw_bb0016_01.row.prog w) C on L m { σ with all := ((A5, W.listOf vs5.toArray e5) :: ((DL, W.listOf vs4.toArray n4) :: all4)) } fun i ys => StrsAre ys (keys (List.take i σ.row)), fun i a b => ∃ p t u, (σ.row)[i]? = some p ∧ a = .str p.1 t ∧ b = .int p.2 u, rfl, hh, F5, N5, src_all ((Same.refl K5.q).kept.keep _ hrm5 .list), by rw [sizeLine_eq, List.size_toArray]; omega, ⟨((A5, W.listOf vs5.toArray e5) :: ((DL, W.listOf vs4.toArray n4) :: all4)), rfl, Same.refl K5.q, .nil⟩, ?fin6, ?tup6, ?step6⟩
      case tup6 =>
        rintro i ys news v hi ⟨all', rfl, Sm, hI⟩ hv
        have hi' : i < (σ.row).length := by rw [List.size_toArray] at hi; omega
        obtain ⟨T', t', u', rfl, hm⟩ := (hR5).2 i v (σ.row)[i] (by simpa using hv) (by simp [hi'])
        exact ⟨T', _, _, _, _, rfl, List.mem_append_right _ (Sm.keep _ hm .tup), rfl, rfl, _, t', u', by simp [hi'], rfl, rfl⟩
      case step6 =>
        rintro i ys news v hi ⟨all', rfl, Sm, hI⟩ hv I oI C' oC D m₂ h tk E' hC ⟨v1, v2, ⟨p, tp, up, hp, rfl, rfl⟩, hx1, hx2⟩ F' N' off ne
        refine wpAny_tests_nil ?_
        rw [if_pos rfl]
        dsimp only [cel5, List.cons_append, List.nil_append] at N'
        (try clear N5); (try clear F5)
        walk_at "GOT"
        have hn : StrsAre (ys ++ [.str p.1 tp]) (keys (List.take (i + 1) (σ.row))) := by
          rw [List.take_add_one, hp]; simp only [keys, List.map_append]; exact hI.append' (.cons _ _ .nil)
        exact look_end' (σ := { σ with all := ((A5, W.listOf vs5.toArray e5) :: ((DL, W.listOf vs4.toArray n4) :: all4)) }) (all := all') (by assumption) (by assumption) off (src_all (Sm.keep _ hrm5 .list)) Sm hn
      case fin6 =>
        rintro y6 news ⟨a6, rfl, Sm6, hI6⟩ D6 h6 tk6 F' N' o1
        have oD := Off1.off o1
        have eTk : List.take (rvs).toArray.size (σ.row) = σ.row := List.take_of_length_le (by rw [List.size_toArray]; omega)
        rw [eTk] at hI6
        have KN6 := Sm6.kept.grow (o := LCg.lst y6) (notCell_of (L := L) (σ := { σ with all := ((A5, W.listOf vs5.toArray e5) :: ((DL, W.listOf vs4.toArray n4) :: all4)) }) oD)
        have N6 : News h₀ L h6 (cel5 L { σ with all := ((A5, W.listOf vs5.toArray e5) :: ((DL, W.listOf vs4.toArray n4) :: all4)) } ++ (D6, LCg.lst y6) :: a6) := fun p hp => N' p (by simp only [List.mem_append, List.mem_cons] at hp ⊢; grind)
        clear N' N5 F5
        dsimp only [cel5, List.cons_append, List.nil_append] at N6
        walk_at "GOT"
        have KK6 := K5.trans KN6
        have hA5 := KN6.keep _ List.mem_cons_self .list
        (try clear N5)
        rename Fr _ _ _ _ => FS7
        rename News _ _ _ _ => NSx
        have NS7 := Mine.News.cutTo (l' := cel5 L σ ++ ((D6, LCg.lst y6) :: a6)) NSx (by walk_at "TAILP")
        clear NSx
        refine sorted_L FS7 NS7 (List.mem_append_right _ List.mem_cons_self) hI6 (by omega) fun A7 e7 h7 vs7 ss7 FT7 NT7 oA7 hSt7 hPm7 hSo7 => ?_
        have K7 := KK6.grow (o := W.listOf vs7.toArray e7) (notCell_of (L := L) (σ := σ) oA7)
        have NU7 : News h₀ L h7 (cel5 L σ ++ (A7, W.listOf vs7.toArray e7) :: ((D6, LCg.lst y6) :: a6)) := News.cutTo NT7 (by intro q hq; simp only [tupO, List.mem_append, List.mem_cons, List.not_mem_nil, or_false] at hq ⊢; grind)
        clear FS7 NS7 NT7
        dsimp only [cel5, List.cons_append, List.nil_append] at NU7
        walk_at "GOS"
        rename News _ _ _ _ => NC
        obtain rfl : ss5 = ss7 := sorted_eq hSo5 hSo7 ((hPm5.trans (hp4.trans hp2)).trans hPm7.symm)
        refine ne_strs NC (mem5 (List.mem_cons_of_mem _ hA5)) (by k_mem) hSt5 hSt7 ((ok.perm hp2).perm (hPm5.trans hp4)) ((ok.perm hp2).perm (hPm5.trans hp4)) (Nat.lt_of_le_of_lt (Nat.add_le_add_right hu 64) (by decide)) ?_
        rw [show (!decide (ss5 = ss5)) = false from by simp]
        walk_at "GOS"
        rename Fr _ _ _ _ => F9
        exact hQ _ _ _ F9 NC K7
set_option maxRecDepth 100000 in
set_option maxHeartbeats 6000000 in
theorem t0 : Box (∀ {w : World} {s : Shared} {A : Around} {E : Value → Shared → Prop} {h₀ : Heap} {L f C : Addr} {on : Str} {cdv : Value} {qual : Str} {Q : Bool → Shared → Prop} {m : Str → Option Value} {mean : ExcName → Option Value} {mg mb : Str → Option Value} {lse : List Str} {σ : LSt} {e : Int} {te : Tok} {Hv : Addr} {hvs : List Value} {hs : List Int} {n1 : Nat},
    A.handled = none → A.frames = some [envOfC qual (fnScope (Mine.pre.heap_1_1 w.params) 968) L f cdv] → A.depth ≤ 305 → A.units ≤ 305 → (Mine.pre.heap_1_1 w.params).In h₀ → Top Mine.pre.view_1_2 lse mean mg mb h₀ →
    Lw (prog := PySem.Challenge.rw_bb0016_01.row.prog) w (PySem.strKind _ w) C on h₀ L m s.heap σ → m (Str.ofString "deed") = some (.int e te) → m (Str.ofString "having") = some (.ref Hv) → (Hv, W.listOf hvs.toArray n1) ∈ σ.all → IntsAre hvs hs →
    (∀ h' tk, Fr h₀ L h' m → News h₀ L h' (cel5 L σ ++ σ.all) → Q (decide (e = 0 ∧ hs ≠ [])) { s with heap := h', toks := tk }) →
    wpAny (model PySem.Challenge.rw_bb0016_01.row.prog w) A (isTrue (tstS (nthS (subS (nthS (fnBody (Mine.pre.heap_1_1 w.params) 968) 6)) 6)) (envOfC qual (fnScope (Mine.pre.heap_1_1 w.params) 968) L f cdv) (eval (tstS (nthS (subS (nthS (fnBody (Mine.pre.heap_1_1 w.params) 968) 6)) 6)) (envOfC qual (fnScope (Mine.pre.heap_1_1 w.params) 968) L f cdv))) Q E s) := by
  refine ⟨?_⟩
  k_fill
  intro w s A E h₀ L f C on cdv qual Q m mean mg mb lse σ
  intro e te Hv hvs hs n1 hh hA hd hu X T S me mh hHv hH hQ
  obtain ⟨e1, e2⟩ := fnBody_eq (K := Mine.pre.heap_1_1 w.params) (f := 968) (by k_is)
  have kf := (@Box.out _ kinds w L).1
  rw [e1, e2]
  rw [e2] at hA kf
  clear e1 e2
  dsimp only [nthS, subS, elsS, tstS]
  have S0 := S
  obtain ⟨F, N, qL⟩ := S
  have d1 := qL.d1
  have d2 := qL.d2
  have d3 := qL.d3
  dsimp only [cel5, List.cons_append, List.nil_append] at N
  walk_at "GOS"
  · rename News _ _ _ _ => N3
    refine ke_ne_ints (News.isList N3 (by k_mem)) (News.isList N3 (by k_mem)) hH .nil (Nat.lt_of_le_of_lt (Nat.add_le_add_right hu 64) (by decide)) ?_
    walk_at "GOS"
    all_goals (rename Fr _ _ _ _ => F9; refine q_eq (hQ _ _ F9 (by walk_at "CUT")) ?_; simp_all)
  · rename Fr _ _ _ _ => F9
    refine q_eq (hQ _ _ F9 (by walk_at "CUT")) ?_
    simp_all
set_option maxRecDepth 100000 in
set_option maxHeartbeats 6000000 in
theorem t1 : Box (∀ {w : World} {s : Shared} {A : Around} {E : Value → Shared → Prop} {h₀ : Heap} {L f C : Addr} {on : Str} {cdv : Value} {qual : Str} {Q : Bool → Shared → Prop} {m : Str → Option Value} {mean : ExcName → Option Value} {mg mb : Str → Option Value} {lse : List Str} {σ : LSt} {e : Int} {te : Tok},
    A.handled = none → A.frames = some [envOfC qual (fnScope (Mine.pre.heap_1_1 w.params) 968) L f cdv] → A.depth ≤ 305 → A.units ≤ 305 → (Mine.pre.heap_1_1 w.params).In h₀ → Top Mine.pre.view_1_2 lse mean mg mb h₀ →
    Lw (prog := PySem.Challenge.rw_bb0016_01.row.prog) w (PySem.strKind _ w) C on h₀ L m s.heap σ → m (Str.ofString "deed") = some (.int e te) →
    (∀ h' tk, Fr h₀ L h' m → News h₀ L h' (cel5 L σ ++ σ.all) → Q (decide (e < 2)) { s with heap := h', toks := tk }) →
    wpAny (model PySem.Challenge.rw_bb0016_01.row.prog w) A (isTrue (tstS (nthS (elsS (nthS (subS (nthS (fnBody (Mine.pre.heap_1_1 w.params) 968) 6)) 6)) 0)) (envOfC qual (fnScope (Mine.pre.heap_1_1 w.params) 968) L f cdv) (eval (tstS (nthS (elsS (nthS (subS (nthS (fnBody (Mine.pre.heap_1_1 w.params) 968) 6)) 6)) 0)) (envOfC qual (fnScope (Mine.pre.heap_1_1 w.params) 968) L f cdv))) Q E s) := by
  refine ⟨?_⟩
  k_fill
  intro w s A E h₀ L f C on cdv qual Q m mean mg mb lse σ
  intro e te hh hA hd hu X T S me hQ
  obtain ⟨e1, e2⟩ := fnBody_eq (K := Mine.pre.heap_1_1 w.params) (f := 968) (by k_is)
  have kf := (@Box.out _ kinds w L).1
  rw [e1, e2]
  rw [e2] at hA kf
  clear e1 e2
  dsimp only [nthS, subS, elsS, tstS]
  have S0 := S
  obtain ⟨F, N, qL⟩ := S
  have d1 := qL.d1
  have d2 := qL.d2
  have d3 := qL.d3
  dsimp only [cel5, List.cons_append, List.nil_append] at N
  walk_at "GOT"
  all_goals (rename Fr _ _ _ _ => F9; rename News _ _ _ _ => N9; refine q_eq (hQ _ _ F9 (by walk_at "CUT")) ?_; (first | rfl | (simp_all; done) | (rw [Bool.eq_iff_iff]; simp; done)))
set_option maxRecDepth 100000 in
set_option maxHeartbeats 6000000 in
theorem t2 : Box (∀ {w : World} {s : Shared} {A : Around} {E : Value → Shared → Prop} {h₀ : Heap} {L f C : Addr} {on : Str} {cdv : Value} {qual : Str} {Q : Bool → Shared → Prop} {m : Str → Option Value} {mean : ExcName → Option Value} {mg mb : Str → Option Value} {lse : List Str} {σ : LSt} {e : Int} {te : Tok},
    A.handled = none → A.frames = some [envOfC qual (fnScope (Mine.pre.heap_1_1 w.params) 968) L f cdv] → A.depth ≤ 305 → A.units ≤ 305 → (Mine.pre.heap_1_1 w.params).In h₀ → Top Mine.pre.view_1_2 lse mean mg mb h₀ →
    Lw (prog := PySem.Challenge.rw_bb0016_01.row.prog) w (PySem.strKind _ w) C on h₀ L m s.heap σ → m (Str.ofString "deed") = some (.int e te) →
    (∀ h' tk, Fr h₀ L h' m → News h₀ L h' (cel5 L σ ++ σ.all) → Q (decide (e = 2)) { s with heap := h', toks := tk }) →
    wpAny (model PySem.Challenge.rw_bb0016_01.row.prog w) A (isTrue (tstS (nthS (elsS (nthS (elsS (nthS (subS (nthS (fnBody (Mine.pre.heap_1_1 w.params) 968) 6)) 6)) 0)) 0)) (envOfC qual (fnScope (Mine.pre.heap_1_1 w.params) 968) L f cdv) (eval (tstS (nthS (elsS (nthS (elsS (nthS (subS (nthS (fnBody (Mine.pre.heap_1_1 w.params) 968) 6)) 6)) 0)) 0)) (envOfC qual (fnScope (Mine.pre.heap_1_1 w.params) 968) L f cdv))) Q E s) := by
  refine ⟨?_⟩
  k_fill
  intro w s A E h₀ L f C on cdv qual Q m mean mg mb lse σ
  intro e te hh hA hd hu X T S me hQ
  obtain ⟨e1, e2⟩ := fnBody_eq (K := Mine.pre.heap_1_1 w.params) (f := 968) (by k_is)
  have kf := (@Box.out _ kinds w L).1
  rw [e1, e2]
  rw [e2] at hA kf
  clear e1 e2
  dsimp only [nthS, subS, elsS, tstS]
  have S0 := S
  obtain ⟨F, N, qL⟩ := S
  have d1 := qL.d1
  have d2 := qL.d2
  have d3 := qL.d3
  dsimp only [cel5, List.cons_append, List.nil_append] at N
  walk_at "GOT"
  all_goals (rename Fr _ _ _ _ => F9; rename News _ _ _ _ => N9; refine q_eq (hQ _ _ F9 (by walk_at "CUT")) ?_; (first | rfl | (simp_all; done) | (rw [Bool.eq_iff_iff]; simp; done)))
set_option maxRecDepth 100000 in
set_option maxHeartbeats 6000000 in
theorem t3 : Box (∀ {w : World} {s : Shared} {A : Around} {E : Value → Shared → Prop} {h₀ : Heap} {L f C : Addr} {on : Str} {cdv : Value} {qual : Str} {Q : Bool → Shared → Prop} {m : Str → Option Value} {mean : ExcName → Option Value} {mg mb : Str → Option Value} {lse : List Str} {σ : LSt} ,
    A.handled = none → A.frames = some [envOfC qual (fnScope (Mine.pre.heap_1_1 w.params) 968) L f cdv] → A.depth ≤ 305 → A.units ≤ 305 → (Mine.pre.heap_1_1 w.params).In h₀ → Top Mine.pre.view_1_2 lse mean mg mb h₀ →
    Lw (prog := PySem.Challenge.rw_bb0016_01.row.prog) w (PySem.strKind _ w) C on h₀ L m s.heap σ → NamesOk (keys σ.row) →
    (∀ h' tk, Fr h₀ L h' m → News h₀ L h' (cel5 L σ ++ σ.all) → Q (decide (σ.row ≠ [])) { s with heap := h', toks := tk }) →
    wpAny (model PySem.Challenge.rw_bb0016_01.row.prog w) A (isTrue (tstS (nthS (elsS (nthS (elsS (nthS (elsS (nthS (subS (nthS (fnBody (Mine.pre.heap_1_1 w.params) 968) 6)) 6)) 0)) 0)) 0)) (envOfC qual (fnScope (Mine.pre.heap_1_1 w.params) 968) L f cdv) (eval (tstS (nthS (elsS (nthS (elsS (nthS (elsS (nthS (subS (nthS (fnBody (Mine.pre.heap_1_1 w.params) 968) 6)) 6)) 0)) 0)) 0)) (envOfC qual (fnScope (Mine.pre.heap_1_1 w.params) 968) L f cdv))) Q E s) := by
  refine ⟨?_⟩
  k_fill
  intro w s A E h₀ L f C on cdv qual Q m mean mg mb lse σ
  intro hh hA hd hu X T S ok hQ
  obtain ⟨e1, e2⟩ := fnBody_eq (K := Mine.pre.heap_1_1 w.params) (f := 968) (by k_is)
  have kf := (@Box.out _ kinds w L).1
  rw [e1, e2]
  rw [e2] at hA kf
  clear e1 e2
  dsimp only [nthS, subS, elsS, tstS]
  have S0 := S
  obtain ⟨F, N, qL⟩ := S
  have d1 := qL.d1
  have d2 := qL.d2
  have d3 := qL.d3
  dsimp only [cel5, List.cons_append, List.nil_append] at N
  obtain ⟨rvs, nr, hrm, hR⟩ := qL.rows
  have r1 := qL.r1
  walk_at "GOS"
  rename News _ _ _ _ => N1
  refine ne_rows (all := σ.all) N1 (by walk_at "TAILP") (by k_mem) (by k_mem) hR RowIs.nil ok (fun x hx => nomatch hx) (Nat.lt_of_le_of_lt (Nat.add_le_add_right hu 64) (by decide)) ?_
  walk_at "GOS"
  all_goals (rename Fr _ _ _ _ => F9; rename News _ _ _ _ => N9; refine q_eq (hQ _ _ F9 (by walk_at "CUT")) ?_; (first | rfl | (simp_all; done) | (rw [Bool.eq_iff_iff]; simp; done)))
set_option maxRecDepth 100000 in
set_option maxHeartbeats 6000000 in
theorem d0f : Box (∀ {w : World} {s : Shared} {A : Around} {E : Value → Shared → Prop} {h₀ : Heap} {L f C : Addr} {on : Str} {cdv : Value} {qual : Str} {Q : Flow → Shared → Prop} {m : Str → Option Value} {mean : ExcName → Option Value} {mg mb : Str → Option Value} {lse : List Str} {σ : LSt} {k : Str} {t th tw : Tok} {p : Int} {gfn sfn pfn Hv Wv : Addr} {touch : Bool} {n1 n2 i : Nat} {c : Loc} {seg : Seg},
    A.handled = none → A.frames = some [envOfC qual (fnScope (Mine.pre.heap_1_1 w.params) 968) L f cdv] → A.depth ≤ 305 → A.units ≤ 305 → (Mine.pre.heap_1_1 w.params).In h₀ → Top Mine.pre.view_1_2 lse mean mg mb h₀ →
    Lw (prog := PySem.Challenge.rw_bb0016_01.row.prog) w (PySem.strKind _ w) C on h₀ L m s.heap σ → σ.o4.data = .cell (some (.str k t)) → Ops (prog := PySem.Challenge.rw_bb0016_01.row.prog) Mine.pre.heap_1_1 Mine.pre.view_1_2 (fun w => PySem.strKind PySem.Challenge.rw_bb0016_01.row.prog w) C on gfn sfn pfn false → m (Str.ofString "having") = some (.ref Hv) → m (Str.ofString "worths") = some (.ref Wv) → (Hv, W.listOf #[.int (i : Int) th] n1) ∈ σ.all → (Wv, W.listOf #[.int p tw] n2) ∈ σ.all → σ.cs[i]? = some ⟨c, seg⟩ → (k, p) ∈ seg → (k, p) ∈ σ.W.seg → σ.kd = 1 → m (Str.ofString "fallen") = some .none →
    (∀ h' tk m' all', Fr h₀ L h' m' → News h₀ L h' (cel5 L σ ++ all') → Lq w (PySem.strKind PySem.Challenge.rw_bb0016_01.row.prog w) C on L m' { σ with all := all' } → Q .next { s with heap := h', toks := tk }) →
    wpAny (model PySem.Challenge.rw_bb0016_01.row.prog w) A (execs (subS (nthS (subS (nthS (fnBody (Mine.pre.heap_1_1 w.params) 968) 6)) 6)) (envOfC qual (fnScope (Mine.pre.heap_1_1 w.params) 968) L f cdv)) Q E s) := by
  refine ⟨?_⟩
  k_fill
  intro w s A E h₀ L f C on cdv qual Q m mean mg mb lse σ
  intro k t th tw p gfn sfn pfn Hv Wv touch n1 n2 i c seg hh hA hd hu X T S d4 ops mh mw hHv hWv hi hks hkW hkd hfn hQ
  obtain ⟨e1, e2⟩ := fnBody_eq (K := Mine.pre.heap_1_1 w.params) (f := 968) (by k_is)
  have kf := (@Box.out _ kinds w L).1
  rw [e1, e2]
  rw [e2] at hA kf
  clear e1 e2
  dsimp only [nthS, subS, elsS, tstS]
  have S0 := S
  obtain ⟨F, N, qL⟩ := S
  have d1 := qL.d1
  have d2 := qL.d2
  have d3 := qL.d3
  dsimp only [cel5, List.cons_append, List.nil_append] at N
  rw [hkd] at d1
  walk_at "GOU"
  rename Fr _ _ _ _ => F1
  refine Lq.item qL [] (by walk_at "CUT") hi rfl ?_
  walk_at "GOU"
  rename Fr _ _ _ _ => F1
  refine Lq.subC [] ops.get (ops.cf _) qL F1 X (by walk_at "CUT") T hh hA rfl rfl (Nat.le_trans hd (by decide)) (Nat.le_trans hu (by decide)) hi hks trivial fun h2 tk2 t2 all2 F2 N2 q2 keep2 off2 => ?_
  (try clear F1)
  have hWv2 := keep2 _ hWv .list
  simp only [Bool.false_eq_true, if_false] at q2
  rw [set_self hi] at q2
  dsimp only [cel5, List.cons_append, List.nil_append] at N2
  walk_at "GOU"
  · rename _ ≠ _ => e
    exact absurd rfl e
  rename Fr _ _ _ _ => F3
  refine Lq.subW (σ := { σ with cs := σ.cs, all := all2 }) [] ops.get (ops.cf _) q2 F3 X (by walk_at "CUT") T hh hA rfl rfl (Nat.le_trans hd (by decide)) (Nat.le_trans hu (by decide)) hkW trivial fun h4 tk4 t4 all4 F4 N4 q4 keep4 off4 => ?_
  have hWv4 := keep4 _ hWv2 .list
  simp only [Bool.false_eq_true, if_false] at q4
  dsimp only [cel5, List.cons_append, List.nil_append] at N4
  walk_at "GOU"
  · rename _ ≠ _ => e
    exact absurd rfl e
  rename Fr _ _ _ _ => F5
  rename News _ _ _ _ => N5
  exact hQ _ _ _ _ F5 N5 (q4.names rfl rfl)
set_option maxRecDepth 100000 in
set_option maxHeartbeats 6000000 in
theorem d0l0 : Box (∀ {w : World} {s : Shared} {A : Around} {E : Value → Shared → Prop} {h₀ : Heap} {L f C : Addr} {on : Str} {cdv : Value} {qual : Str} {Q : Flow → Shared → Prop} {m : Str → Option Value} {mean : ExcName → Option Value} {mg mb : Str → Option Value} {lse : List Str} {σ : LSt} {k : Str} {t th tw : Tok} {p : Int} {gfn sfn pfn Hv Wv : Addr} {touch : Bool} {n1 n2 i : Nat} {c : Loc} {seg : Seg} {fh : Tok},
    A.handled = none → A.frames = some [envOfC qual (fnScope (Mine.pre.heap_1_1 w.params) 968) L f cdv] → A.depth ≤ 305 → A.units ≤ 305 → (Mine.pre.heap_1_1 w.params).In h₀ → Top Mine.pre.view_1_2 lse mean mg mb h₀ →
    Lw (prog := PySem.Challenge.rw_bb0016_01.row.prog) w (PySem.strKind _ w) C on h₀ L m s.heap σ → σ.o4.data = .cell (some (.str k t)) → Ops (prog := PySem.Challenge.rw_bb0016_01.row.prog) Mine.pre.heap_1_1 Mine.pre.view_1_2 (fun w => PySem.strKind PySem.Challenge.rw_bb0016_01.row.prog w) C on gfn sfn pfn true → m (Str.ofString "having") = some (.ref Hv) → m (Str.ofString "worths") = some (.ref Wv) → (Hv, W.listOf #[.int 0 th] n1) ∈ σ.all → (Wv, W.listOf #[.int p tw] n2) ∈ σ.all → σ.cs[0]? = some ⟨c, seg⟩ → (k, p) ∈ seg → (k, p) ∈ σ.W.seg → σ.kd = 0 → (out k σ.row).length < 12 → m (Str.ofString "fallen") = some .none →
    (∀ h' tk m' all' Lr', Fr h₀ L h' m' → News h₀ L h' (cel5 L σ ++ all') → Lq w (PySem.strKind PySem.Challenge.rw_bb0016_01.row.prog w) C on L m' { σ with cs := σ.cs.set 0 ⟨c, (k, p) :: out k seg⟩, W := ⟨σ.W.c, (k, p) :: out k σ.W.seg⟩, row := (k, p) :: out k σ.row, Lr := Lr', all := all' } → Q .next { s with heap := h', toks := tk }) →
    wpAny (model PySem.Challenge.rw_bb0016_01.row.prog w) A (execs (subS (nthS (subS (nthS (fnBody (Mine.pre.heap_1_1 w.params) 968) 6)) 6)) (envOfC qual (fnScope (Mine.pre.heap_1_1 w.params) 968) L f cdv)) Q E s) := by
  refine ⟨?_⟩
  k_fill
  intro w s A E h₀ L f C on cdv qual Q m mean mg mb lse σ
  intro k t th tw p gfn sfn pfn Hv Wv touch n1 n2 i c seg fh hh hA hd hu X T S d4 ops mh mw hHv hWv hi hks hkW hkd hkl hfn hQ
  obtain ⟨e1, e2⟩ := fnBody_eq (K := Mine.pre.heap_1_1 w.params) (f := 968) (by k_is)
  have kf := (@Box.out _ kinds w L).1
  rw [e1, e2]
  rw [e2] at hA kf
  clear e1 e2
  dsimp only [nthS, subS, elsS, tstS]
  have S0 := S
  obtain ⟨F, N, qL⟩ := S
  have d1 := qL.d1
  have d2 := qL.d2
  have d3 := qL.d3
  dsimp only [cel5, List.cons_append, List.nil_append] at N
  rw [hkd] at d1
  walk_at "GOU"
  rename Fr _ _ _ _ => F1
  refine Lq.item qL [] (by walk_at "CUT") hi rfl ?_
  walk_at "GOU"
  rename Fr _ _ _ _ => F1
  refine Lq.subC [] ops.get (ops.cf _) qL F1 X (by walk_at "CUT") T hh hA rfl rfl (Nat.le_trans hd (by decide)) (Nat.le_trans hu (by decide)) hi hks trivial fun h2 tk2 t2 all2 F2 N2 q2 keep2 off2 => ?_
  (try clear F1)
  have hWv2 := keep2 _ hWv .list
  simp only [if_true] at q2
  dsimp only [cel5, List.cons_append, List.nil_append] at N2
  walk_at "GOU"
  · rename _ ≠ _ => e
    exact absurd rfl e
  rename Fr _ _ _ _ => F3
  refine Lq.subW (σ := { σ with cs := σ.cs.set 0 ⟨c, (k, p) :: out k seg⟩, all := all2 }) [] ops.get (ops.cf _) q2 F3 X (by walk_at "CUT") T hh hA rfl rfl (Nat.le_trans hd (by decide)) (Nat.le_trans hu (by decide)) hkW trivial fun h4 tk4 t4 all4 F4 N4 q4 keep4 off4 => ?_
  have hWv4 := keep4 _ hWv2 .list
  simp only [if_true] at q4
  dsimp only [cel5, List.cons_append, List.nil_append] at N4
  walk_at "GOU"
  · rename _ ≠ _ => e
    exact absurd rfl e
  rename_i DT _ lT DL _ F5y N5y lL
  have nT : NotCell L DT := ⟨by k_ne, by k_ne, by k_ne, by k_ne, by k_ne⟩
  have nL : NotCell L DL := ⟨by k_ne, by k_ne, by k_ne, by k_ne, by k_ne⟩
  have q5 := (Lq.grow (o := tupO (k, p) t tw) q4 nT).grow (o := W.listOf #[.ref DT] 0) nL
  rename Fr _ _ _ _ => F5
  rename News _ _ _ _ => N5x
  have N5 := Mine.News.cutTo (l' := cel5 L { σ with cs := σ.cs.set 0 ⟨c, (k, p) :: out k seg⟩, W := ⟨σ.W.c, (k, p) :: out k σ.W.seg⟩, all := ((DL, W.listOf #[.ref DT] 0) :: (DT, tupO (k, p) t tw) :: all4) } ++ ((DL, W.listOf #[.ref DT] 0) :: (DT, tupO (k, p) t tw) :: all4)) N5x (by intro q hq; simp only [tupO, List.mem_append, List.mem_cons, List.not_mem_nil, or_false] at hq ⊢; grind)
  clear N5x
  obtain ⟨rvs, nr, hr, hR⟩ := q5.rows
  have r1 := q5.r1
  have hrl := q5.rl
  have hrv := hR.1
  dsimp only at hr hR r1 hrl hrv
  refine comp1_eval F5 (by with_unfolding_all rfl) (by decide) (by rfl) (by decide) (by rfl) ?_
  walk_at "GOT"
  have src : ∀ all', Kept w (PySem.strKind PySem.Challenge.rw_bb0016_01.row.prog w) C on L m { σ with cs := σ.cs.set 0 ⟨c, (k, p) :: out k seg⟩, W := ⟨σ.W.c, (k, p) :: out k σ.W.seg⟩, all := ((DL, W.listOf #[.ref DT] 0) :: (DT, tupO (k, p) t tw) :: all4) } all' → LCg.SrcAt h₀ σ.Lr rvs.toArray (cel5 L { σ with cs := σ.cs.set 0 ⟨c, (k, p) :: out k seg⟩, W := ⟨σ.W.c, (k, p) :: out k σ.W.seg⟩, all := ((DL, W.listOf #[.ref DT] 0) :: (DT, tupO (k, p) t tw) :: all4) } ++ all') := fun all' K => src_all (K.keep _ hr .list)
  refine Or.inl ⟨_, rvs.toArray, _, LookInv w (PySem.strKind PySem.Challenge.rw_bb0016_01.row.prog w) C on L m { σ with cs := σ.cs.set 0 ⟨c, (k, p) :: out k seg⟩, W := ⟨σ.W.c, (k, p) :: out k σ.W.seg⟩, all := ((DL, W.listOf #[.ref DT] 0) :: (DT, tupO (k, p) t tw) :: all4) } fun i ys => RowIs ys (out k (σ.row.take i)) ((DL, W.listOf #[.ref DT] 0) :: (DT, tupO (k, p) t tw) :: all4), rfl, hh, F5, N5, src _ (Same.refl q5).kept, by rw [sizeLine_eq, List.size_toArray]; omega, ⟨((DL, W.listOf #[.ref DT] 0) :: (DT, tupO (k, p) t tw) :: all4), rfl, Same.refl q5, RowIs.nil⟩, ?fin, ?step⟩
  case step =>
    rintro i' ys news v hi' ⟨all', rfl, Sm, hI⟩ hv I oI C' oC D m₂ h tk E' hC hB F' N' off ne
    have hB' : m₂ (Str.ofString "pair") = some v := hB
    clear hB
    have hj : i' < σ.row.length := by rw [List.size_toArray] at hi'; omega
    have hpr : σ.row[i']? = some σ.row[i'] := by simp [hj]
    obtain ⟨T', t', u', rfl, hm⟩ := hR.2 i' v σ.row[i'] (by simpa using hv) hpr
    have hm' := Sm.keep _ hm .tup
    have hs := take_out (k := k) hpr
    clear hpr
    generalize σ.row[i'] = pr at hm hm' hs
    refine wpAny_tests_one ?_
    dsimp only [cel5, List.cons_append, List.nil_append] at N'
    (try clear N5); (try clear F5)
    walk_at "GOT"
    · rename (_ != _) = true => e
      exact look_end' (σ := { σ with cs := σ.cs.set 0 ⟨c, (k, p) :: out k seg⟩, W := ⟨σ.W.c, (k, p) :: out k σ.W.seg⟩, all := ((DL, W.listOf #[.ref DT] 0) :: (DT, tupO (k, p) t tw) :: all4) }) (all := all') (by assumption) (by assumption) off (src _ Sm.kept) Sm (by rw [hs, if_pos (by simpa using e)]; exact hI.snoc hm)
    · rename (_ != _) = false => e
      exact look_end (σ := { σ with cs := σ.cs.set 0 ⟨c, (k, p) :: out k seg⟩, W := ⟨σ.W.c, (k, p) :: out k σ.W.seg⟩, all := ((DL, W.listOf #[.ref DT] 0) :: (DT, tupO (k, p) t tw) :: all4) }) (all := all') (by assumption) (by assumption) off (src _ Sm.kept) Sm (by rw [hs, if_neg (by simpa using e), List.append_nil]; exact hI)
  case fin =>
    rintro ys news ⟨all', rfl, Sm, hI⟩ D h tk F' N' o1
    have oD := Off1.off o1
    have e5 : σ.row.take rvs.toArray.size = σ.row := List.take_of_length_le (by rw [List.size_toArray]; omega)
    rw [e5] at hI
    have K5 := Sm.kept.grow (o := LCg.lst ys) (notCell_of (L := L) (σ := { σ with cs := σ.cs.set 0 ⟨c, (k, p) :: out k seg⟩, W := ⟨σ.W.c, (k, p) :: out k σ.W.seg⟩, all := ((DL, W.listOf #[.ref DT] 0) :: (DT, tupO (k, p) t tw) :: all4) }) oD)
    have hI5 : RowIs ys (out k σ.row) ((D, LCg.lst ys) :: all') := hI.mono fun p hp hn => List.mem_cons_of_mem _ (Sm.keep p hp hn)
    have hl5 := out_len k σ.row
    have N6 : News h₀ L h (cel5 L { σ with cs := σ.cs.set 0 ⟨c, (k, p) :: out k seg⟩, W := ⟨σ.W.c, (k, p) :: out k σ.W.seg⟩, all := ((DL, W.listOf #[.ref DT] 0) :: (DT, tupO (k, p) t tw) :: all4) } ++ (D, LCg.lst ys) :: all') := fun p hp => N' p (by simp only [List.mem_append, List.mem_cons] at hp ⊢; grind)
    have hDL := Sm.keep (DL, W.listOf #[.ref DT] 0) (by simp) .list
    have hDT := Sm.keep (DT, tupO (k, p) t tw) (by simp) .tup
    have hyl := hI.1
    refine kmk_add_lit (zs := .ref DT :: ys) F' N6 (News.isList N6 (List.mem_append_right _ (List.mem_cons_of_mem _ hDL))) (News.isList N6 (List.mem_append_right _ List.mem_cons_self)) (by simp) (fun D2 h2 F2 N2 l2 => ?_) (by rw [sizeLine_eq]; simp; omega)
    have q6 := K5.q.grow (o := W.listOf (Value.ref DT :: ys).toArray 0) (notCell_of (L := L) (σ := { σ with cs := σ.cs.set 0 ⟨c, (k, p) :: out k seg⟩, W := ⟨σ.W.c, (k, p) :: out k σ.W.seg⟩, all := ((DL, W.listOf #[.ref DT] 0) :: (DT, tupO (k, p) t tw) :: all4) }) (off_new l2))
    have N7 := Mine.News.cutTo (l' := cel5 L { σ with cs := σ.cs.set 0 ⟨c, (k, p) :: out k seg⟩, W := ⟨σ.W.c, (k, p) :: out k σ.W.seg⟩, all := ((DL, W.listOf #[.ref DT] 0) :: (DT, tupO (k, p) t tw) :: all4) } ++ (D2, W.listOf (Value.ref DT :: ys).toArray 0) :: (D, LCg.lst ys) :: all') N2 (by intro q hq; simp only [tupO, List.mem_append, List.mem_cons, List.not_mem_nil, or_false] at hq ⊢; grind)
    clear N2 N6
    have hI6 : RowIs (.ref DT :: ys) ((k, p) :: out k σ.row) ((D2, W.listOf (Value.ref DT :: ys).toArray 0) :: (D, LCg.lst ys) :: all') := (hI5.mono fun p hp _ => List.mem_cons_of_mem _ hp).cons (List.mem_cons_of_mem _ (List.mem_cons_of_mem _ hDT))
    dsimp only [cel5, List.cons_append, List.nil_append] at N7
    walk_at "GOT"
    rename Fr _ _ _ _ => F8
    rename News _ _ _ _ => N8
    exact hQ _ _ _ _ D2 F8 N8 (q6.setRow (D := D2) (ys := .ref DT :: ys) (n := 0) (by simp) hI6 rfl rfl (by rw [List.length_cons]; have := hkl; omega))
set_option maxRecDepth 100000 in
set_option maxHeartbeats 6000000 in
theorem d0ln : Box (∀ {w : World} {s : Shared} {A : Around} {E : Value → Shared → Prop} {h₀ : Heap} {L f C : Addr} {on : Str} {cdv : Value} {qual : Str} {Q : Flow → Shared → Prop} {m : Str → Option Value} {mean : ExcName → Option Value} {mg mb : Str → Option Value} {lse : List Str} {σ : LSt} {k : Str} {t th tw : Tok} {p : Int} {gfn sfn pfn Hv Wv : Addr} {touch : Bool} {n1 n2 i : Nat} {c : Loc} {seg : Seg},
    A.handled = none → A.frames = some [envOfC qual (fnScope (Mine.pre.heap_1_1 w.params) 968) L f cdv] → A.depth ≤ 305 → A.units ≤ 305 → (Mine.pre.heap_1_1 w.params).In h₀ → Top Mine.pre.view_1_2 lse mean mg mb h₀ →
    Lw (prog := PySem.Challenge.rw_bb0016_01.row.prog) w (PySem.strKind _ w) C on h₀ L m s.heap σ → σ.o4.data = .cell (some (.str k t)) → Ops (prog := PySem.Challenge.rw_bb0016_01.row.prog) Mine.pre.heap_1_1 Mine.pre.view_1_2 (fun w => PySem.strKind PySem.Challenge.rw_bb0016_01.row.prog w) C on gfn sfn pfn true → m (Str.ofString "having") = some (.ref Hv) → m (Str.ofString "worths") = some (.ref Wv) → (Hv, W.listOf #[.int (i : Int) th] n1) ∈ σ.all → (Wv, W.listOf #[.int p tw] n2) ∈ σ.all → σ.cs[i]? = some ⟨c, seg⟩ → (k, p) ∈ seg → (k, p) ∈ σ.W.seg → σ.kd = 0 → (out k σ.row).length < 12 → 0 < i → k ∉ keys (heldC (σ.cs.set i ⟨c, out k seg⟩)) → (keys (heldC (σ.cs.set i ⟨c, out k seg⟩))).Nodup → (layC (σ.cs.set i ⟨c, out k seg⟩) (k, p)).2 = none →
    (∀ h' tk m' all' Lr', Fr h₀ L h' m' → News h₀ L h' (cel5 L σ ++ all') → Lq w (PySem.strKind PySem.Challenge.rw_bb0016_01.row.prog w) C on L m' { σ with cs := (layC (σ.cs.set i ⟨c, out k seg⟩) (k, p)).1, W := ⟨σ.W.c, (k, p) :: out k σ.W.seg⟩, row := (k, p) :: out k σ.row, Lr := Lr', all := all' } → Q .next { s with heap := h', toks := tk }) →
    wpAny (model PySem.Challenge.rw_bb0016_01.row.prog w) A (execs (subS (nthS (subS (nthS (fnBody (Mine.pre.heap_1_1 w.params) 968) 6)) 6)) (envOfC qual (fnScope (Mine.pre.heap_1_1 w.params) 968) L f cdv)) Q E s) := by
  refine ⟨?_⟩
  k_fill
  intro w s A E h₀ L f C on cdv qual Q m mean mg mb lse σ
  intro k t th tw p gfn sfn pfn Hv Wv touch n1 n2 i c seg hh hA hd hu X T S d4 ops mh mw hHv hWv hi hks hkW hkd hkl hi0 hk1 hn1 hlay hQ
  obtain ⟨e1, e2⟩ := fnBody_eq (K := Mine.pre.heap_1_1 w.params) (f := 968) (by k_is)
  have kf := (@Box.out _ kinds w L).1
  rw [e1, e2]
  rw [e2] at hA kf
  clear e1 e2
  dsimp only [nthS, subS, elsS, tstS]
  have S0 := S
  obtain ⟨F, N, qL⟩ := S
  have d1 := qL.d1
  have d2 := qL.d2
  have d3 := qL.d3
  dsimp only [cel5, List.cons_append, List.nil_append] at N
  rw [hkd] at d1
  walk_at "GOU"
  · exfalso; omega
  rename Fr _ _ _ _ => F1
  refine Lq.item qL [] (by walk_at "CUT") hi rfl ?_
  refine Lq.popMC [] (ops.cf _) qL F1 X (by walk_at "CUT") hi ?_
  dsimp only
  walk_at "GOU"
  rename Fr _ _ _ _ => F1
  refine Lq.popC [] ops.pop qL F1 X (by walk_at "CUT") T hh hA rfl rfl (Nat.le_trans hd (by decide)) (Nat.le_trans hu (by decide)) hi hks trivial fun h2 tk2 t2 all2 F2 N2 q2 keep2 off2 => ?_
  (try clear F1)
  have hWv2 := keep2 _ hWv .list
  dsimp only [cel5, List.cons_append, List.nil_append] at N2
  walk_at "GOU"
  rename Fr _ _ _ _ => F3
  refine Lq.laid (σ := { σ with cs := (σ.cs.set i ⟨c, out k seg⟩), all := all2 }) [] ops.laid q2 F3 X (by walk_at "CUT") T hh hA rfl rfl (Nat.le_trans hd (by decide)) (Nat.le_trans hu (by decide)) hk1 hn1 trivial fun h3 tk3 v3 more3 all3 F3 N3 q3 keep3 off3 hv3 => ?_
  obtain ⟨rfl, rfl⟩ : v3 = .none ∧ more3 = [] := by
    rcases hv3 with ⟨_, a, b⟩ | ⟨y, T, t', u', a, _⟩
    · exact ⟨a, b⟩
    · dsimp only at a
      rw [hlay] at a; cases a
  clear hv3
  have hWv3 := keep3 _ hWv2 .list
  dsimp only [cel5, List.cons_append, List.nil_append] at N3
  walk_at "GOU"
  · rename _ ≠ _ => e
    exact absurd rfl e
  rename Fr _ _ _ _ => F3
  refine Lq.subW (σ := { σ with cs := (layC (σ.cs.set i ⟨c, out k seg⟩) (k, p)).1, all := all3 }) [] ops.get (ops.cf _) q3 F3 X (by walk_at "CUT") T hh hA rfl rfl (Nat.le_trans hd (by decide)) (Nat.le_trans hu (by decide)) hkW trivial fun h4 tk4 t4 all4 F4 N4 q4 keep4 off4 => ?_
  have hWv4 := keep4 _ hWv3 .list
  simp only [if_true] at q4
  dsimp only [cel5, List.cons_append, List.nil_append] at N4
  walk_at "GOU"
  · rename _ ≠ _ => e
    exact absurd rfl e
  rename_i DT _ lT DL _ F5y N5y lL
  have nT : NotCell L DT := ⟨by k_ne, by k_ne, by k_ne, by k_ne, by k_ne⟩
  have nL : NotCell L DL := ⟨by k_ne, by k_ne, by k_ne, by k_ne, by k_ne⟩
  have q5 := (Lq.grow (o := tupO (k, p) t tw) q4 nT).grow (o := W.listOf #[.ref DT] 0) nL
  rename Fr _ _ _ _ => F5
  rename News _ _ _ _ => N5x
  have N5 := Mine.News.cutTo (l' := cel5 L { σ with cs := (layC (σ.cs.set i ⟨c, out k seg⟩) (k, p)).1, W := ⟨σ.W.c, (k, p) :: out k σ.W.seg⟩, all := ((DL, W.listOf #[.ref DT] 0) :: (DT, tupO (k, p) t tw) :: all4) } ++ ((DL, W.listOf #[.ref DT] 0) :: (DT, tupO (k, p) t tw) :: all4)) N5x (by intro q hq; simp only [tupO, List.mem_append, List.mem_cons, List.not_mem_nil, or_false] at hq ⊢; grind)
  clear N5x
  obtain ⟨rvs, nr, hr, hR⟩ := q5.rows
  have r1 := q5.r1
  have hrl := q5.rl
  have hrv := hR.1
  dsimp only at hr hR r1 hrl hrv
  refine comp1_eval F5 (by with_unfolding_all rfl) (by decide) (by rfl) (by decide) (by rfl) ?_
  walk_at "GOT"
  have src : ∀ all', Kept w (PySem.strKind PySem.Challenge.rw_bb0016_01.row.prog w) C on L m { σ with cs := (layC (σ.cs.set i ⟨c, out k seg⟩) (k, p)).1, W := ⟨σ.W.c, (k, p) :: out k σ.W.seg⟩, all := ((DL, W.listOf #[.ref DT] 0) :: (DT, tupO (k, p) t tw) :: all4) } all' → LCg.SrcAt h₀ σ.Lr rvs.toArray (cel5 L { σ with cs := (layC (σ.cs.set i ⟨c, out k seg⟩) (k, p)).1, W := ⟨σ.W.c, (k, p) :: out k σ.W.seg⟩, all := ((DL, W.listOf #[.ref DT] 0) :: (DT, tupO (k, p) t tw) :: all4) } ++ all') := fun all' K => src_all (K.keep _ hr .list)
  refine Or.inl ⟨_, rvs.toArray, _, LookInv w (PySem.strKind PySem.Challenge.rw_bb0016_01.row.prog w) C on L m { σ with cs := (layC (σ.cs.set i ⟨c, out k seg⟩) (k, p)).1, W := ⟨σ.W.c, (k, p) :: out k σ.W.seg⟩, all := ((DL, W.listOf #[.ref DT] 0) :: (DT, tupO (k, p) t tw) :: all4) } fun i ys => RowIs ys (out k (σ.row.take i)) ((DL, W.listOf #[.ref DT] 0) :: (DT, tupO (k, p) t tw) :: all4), rfl, hh, F5, N5, src _ (Same.refl q5).kept, by rw [sizeLine_eq, List.size_toArray]; omega, ⟨((DL, W.listOf #[.ref DT] 0) :: (DT, tupO (k, p) t tw) :: all4), rfl, Same.refl q5, RowIs.nil⟩, ?fin, ?step⟩
  case step =>
    rintro i' ys news v hi' ⟨all', rfl, Sm, hI⟩ hv I oI C' oC D m₂ h tk E' hC hB F' N' off ne
    have hB' : m₂ (Str.ofString "pair") = some v := hB
    clear hB
    have hj : i' < σ.row.length := by rw [List.size_toArray] at hi'; omega
    have hpr : σ.row[i']? = some σ.row[i'] := by simp [hj]
    obtain ⟨T', t', u', rfl, hm⟩ := hR.2 i' v σ.row[i'] (by simpa using hv) hpr
    have hm' := Sm.keep _ hm .tup
    have hs := take_out (k := k) hpr
    clear hpr
    generalize σ.row[i'] = pr at hm hm' hs
    refine wpAny_tests_one ?_
    dsimp only [cel5, List.cons_append, List.nil_append] at N'
    (try clear N5); (try clear F5)
    walk_at "GOT"
    · rename (_ != _) = true => e
      exact look_end' (σ := { σ with cs := (layC (σ.cs.set i ⟨c, out k seg⟩) (k, p)).1, W := ⟨σ.W.c, (k, p) :: out k σ.W.seg⟩, all := ((DL, W.listOf #[.ref DT] 0) :: (DT, tupO (k, p) t tw) :: all4) }) (all := all') (by assumption) (by assumption) off (src _ Sm.kept) Sm (by rw [hs, if_pos (by simpa using e)]; exact hI.snoc hm)
    · rename (_ != _) = false => e
      exact look_end (σ := { σ with cs := (layC (σ.cs.set i ⟨c, out k seg⟩) (k, p)).1, W := ⟨σ.W.c, (k, p) :: out k σ.W.seg⟩, all := ((DL, W.listOf #[.ref DT] 0) :: (DT, tupO (k, p) t tw) :: all4) }) (all := all') (by assumption) (by assumption) off (src _ Sm.kept) Sm (by rw [hs, if_neg (by simpa using e), List.append_nil]; exact hI)
  case fin =>
    rintro ys news ⟨all', rfl, Sm, hI⟩ D h tk F' N' o1
    have oD := Off1.off o1
    have e5 : σ.row.take rvs.toArray.size = σ.row := List.take_of_length_le (by rw [List.size_toArray]; omega)
    rw [e5] at hI
    have K5 := Sm.kept.grow (o := LCg.lst ys) (notCell_of (L := L) (σ := { σ with cs := (layC (σ.cs.set i ⟨c, out k seg⟩) (k, p)).1, W := ⟨σ.W.c, (k, p) :: out k σ.W.seg⟩, all := ((DL, W.listOf #[.ref DT] 0) :: (DT, tupO (k, p) t tw) :: all4) }) oD)
    have hI5 : RowIs ys (out k σ.row) ((D, LCg.lst ys) :: all') := hI.mono fun p hp hn => List.mem_cons_of_mem _ (Sm.keep p hp hn)
    have hl5 := out_len k σ.row
    have N6 : News h₀ L h (cel5 L { σ with cs := (layC (σ.cs.set i ⟨c, out k seg⟩) (k, p)).1, W := ⟨σ.W.c, (k, p) :: out k σ.W.seg⟩, all := ((DL, W.listOf #[.ref DT] 0) :: (DT, tupO (k, p) t tw) :: all4) } ++ (D, LCg.lst ys) :: all') := fun p hp => N' p (by simp only [List.mem_append, List.mem_cons] at hp ⊢; grind)
    have hDL := Sm.keep (DL, W.listOf #[.ref DT] 0) (by simp) .list
    have hDT := Sm.keep (DT, tupO (k, p) t tw) (by simp) .tup
    have hyl := hI.1
    refine kmk_add_lit (zs := .ref DT :: ys) F' N6 (News.isList N6 (List.mem_append_right _ (List.mem_cons_of_mem _ hDL))) (News.isList N6 (List.mem_append_right _ List.mem_cons_self)) (by simp) (fun D2 h2 F2 N2 l2 => ?_) (by rw [sizeLine_eq]; simp; omega)
    have q6 := K5.q.grow (o := W.listOf (Value.ref DT :: ys).toArray 0) (notCell_of (L := L) (σ := { σ with cs := (layC (σ.cs.set i ⟨c, out k seg⟩) (k, p)).1, W := ⟨σ.W.c, (k, p) :: out k σ.W.seg⟩, all := ((DL, W.listOf #[.ref DT] 0) :: (DT, tupO (k, p) t tw) :: all4) }) (off_new l2))
    have N7 := Mine.News.cutTo (l' := cel5 L { σ with cs := (layC (σ.cs.set i ⟨c, out k seg⟩) (k, p)).1, W := ⟨σ.W.c, (k, p) :: out k σ.W.seg⟩, all := ((DL, W.listOf #[.ref DT] 0) :: (DT, tupO (k, p) t tw) :: all4) } ++ (D2, W.listOf (Value.ref DT :: ys).toArray 0) :: (D, LCg.lst ys) :: all') N2 (by intro q hq; simp only [tupO, List.mem_append, List.mem_cons, List.not_mem_nil, or_false] at hq ⊢; grind)
    clear N2 N6
    have hI6 : RowIs (.ref DT :: ys) ((k, p) :: out k σ.row) ((D2, W.listOf (Value.ref DT :: ys).toArray 0) :: (D, LCg.lst ys) :: all') := (hI5.mono fun p hp _ => List.mem_cons_of_mem _ hp).cons (List.mem_cons_of_mem _ (List.mem_cons_of_mem _ hDT))
    dsimp only [cel5, List.cons_append, List.nil_append] at N7
    walk_at "GOT"
    rename Fr _ _ _ _ => F8
    rename News _ _ _ _ => N8
    exact hQ _ _ _ _ D2 F8 N8 (q6.setRow (D := D2) (ys := .ref DT :: ys) (n := 0) (by simp) hI6 rfl rfl (by rw [List.length_cons]; have := hkl; omega))
set_option maxRecDepth 100000 in
set_option maxHeartbeats 6000000 in
theorem d1p : Box (∀ {w : World} {s : Shared} {A : Around} {E : Value → Shared → Prop} {h₀ : Heap} {L f C : Addr} {on : Str} {cdv : Value} {qual : Str} {Q : Flow → Shared → Prop} {m : Str → Option Value} {mean : ExcName → Option Value} {mg mb : Str → Option Value} {lse : List Str} {σ : LSt} {k : Str} {t th tw : Tok} {p : Int} {gfn sfn pfn Hv Wv : Addr} {touch : Bool} {n1 n2 i : Nat} {c : Loc} {seg : Seg},
    A.handled = none → A.frames = some [envOfC qual (fnScope (Mine.pre.heap_1_1 w.params) 968) L f cdv] → A.depth ≤ 305 → A.units ≤ 305 → (Mine.pre.heap_1_1 w.params).In h₀ → Top Mine.pre.view_1_2 lse mean mg mb h₀ →
    Lw (prog := PySem.Challenge.rw_bb0016_01.row.prog) w (PySem.strKind _ w) C on h₀ L m s.heap σ → σ.o4.data = .cell (some (.str k t)) → Ops (prog := PySem.Challenge.rw_bb0016_01.row.prog) Mine.pre.heap_1_1 Mine.pre.view_1_2 (fun w => PySem.strKind PySem.Challenge.rw_bb0016_01.row.prog w) C on gfn sfn pfn touch → m (Str.ofString "having") = some (.ref Hv) → m (Str.ofString "worths") = some (.ref Wv) → (Hv, W.listOf #[.int (i : Int) th] n1) ∈ σ.all → (Wv, W.listOf #[.int p tw] n2) ∈ σ.all → σ.cs[i]? = some ⟨c, seg⟩ → (k, p) ∈ seg → (k, p) ∈ σ.W.seg →
    (∀ h' tk all', Fr h₀ L h' m → News h₀ L h' (cel5 L σ ++ all') → Lq w (PySem.strKind PySem.Challenge.rw_bb0016_01.row.prog w) C on L m { σ with cs := σ.cs.set i ⟨c, out k seg⟩, all := all' } → Q .next { s with heap := h', toks := tk }) →
    wpAny (model PySem.Challenge.rw_bb0016_01.row.prog w) A (exec (nthS (subS (nthS (elsS (nthS (subS (nthS (fnBody (Mine.pre.heap_1_1 w.params) 968) 6)) 6)) 0)) 0) (envOfC qual (fnScope (Mine.pre.heap_1_1 w.params) 968) L f cdv)) Q E s) := by
  refine ⟨?_⟩
  k_fill
  intro w s A E h₀ L f C on cdv qual Q m mean mg mb lse σ
  intro k t th tw p gfn sfn pfn Hv Wv touch n1 n2 i c seg hh hA hd hu X T S d4 ops mh mw hHv hWv hi hks hkW hQ
  obtain ⟨e1, e2⟩ := fnBody_eq (K := Mine.pre.heap_1_1 w.params) (f := 968) (by k_is)
  have kf := (@Box.out _ kinds w L).1
  rw [e1, e2]
  rw [e2] at hA kf
  clear e1 e2
  dsimp only [nthS, subS, elsS, tstS]
  have S0 := S
  obtain ⟨F, N, qL⟩ := S
  have d1 := qL.d1
  have d2 := qL.d2
  have d3 := qL.d3
  dsimp only [cel5, List.cons_append, List.nil_append] at N
  walk_at "GOU"
  rename Fr _ _ _ _ => F1
  refine Lq.item qL [] (by walk_at "CUT") hi rfl ?_
  refine Lq.popMC [] (ops.cf _) qL F1 X (by walk_at "CUT") hi ?_
  dsimp only
  walk_at "GOU"
  rename Fr _ _ _ _ => F1
  refine Lq.popC [] ops.pop qL F1 X (by walk_at "CUT") T hh hA rfl rfl (Nat.le_trans hd (by decide)) (Nat.le_trans hu (by decide)) hi hks trivial fun h2 tk2 t2 all2 F2 N2 q2 keep2 off2 => ?_
  (try clear F1)
  have hWv2 := keep2 _ hWv .list
  dsimp only [cel5, List.cons_append, List.nil_append] at N2
  walk_at "GOU"
  · rename _ ≠ _ => e
    exact absurd rfl e
  rename Fr _ _ _ _ => F3
  exact hQ _ _ all2 F3 (by walk_at "CUT") q2
set_option maxRecDepth 100000 in
set_option maxHeartbeats 6000000 in
theorem d1a : Box (∀ {w : World} {s : Shared} {A : Around} {E : Value → Shared → Prop} {h₀ : Heap} {L f C : Addr} {on : Str} {cdv : Value} {qual : Str} {Q : Flow → Shared → Prop} {m : Str → Option Value} {mean : ExcName → Option Value} {mg mb : Str → Option Value} {lse : List Str} {σ : LSt} {k : Str} {t : Tok} {gfn sfn pfn Hv Wv : Addr} {touch : Bool} {n1 n2 : Nat},
    A.handled = none → A.frames = some [envOfC qual (fnScope (Mine.pre.heap_1_1 w.params) 968) L f cdv] → A.depth ≤ 305 → A.units ≤ 305 → (Mine.pre.heap_1_1 w.params).In h₀ → Top Mine.pre.view_1_2 lse mean mg mb h₀ →
    Lw (prog := PySem.Challenge.rw_bb0016_01.row.prog) w (PySem.strKind _ w) C on h₀ L m s.heap σ → σ.o4.data = .cell (some (.str k t)) → Ops (prog := PySem.Challenge.rw_bb0016_01.row.prog) Mine.pre.heap_1_1 Mine.pre.view_1_2 (fun w => PySem.strKind PySem.Challenge.rw_bb0016_01.row.prog w) C on gfn sfn pfn touch → m (Str.ofString "having") = some (.ref Hv) → m (Str.ofString "worths") = some (.ref Wv) → (Hv, W.listOf #[] n1) ∈ σ.all → (Wv, W.listOf #[] n2) ∈ σ.all → k ∉ keys (heldC σ.cs) → k ∉ keys σ.W.seg →
    (∀ h' tk all', Fr h₀ L h' m → News h₀ L h' (cel5 L σ ++ all') → Lq w (PySem.strKind PySem.Challenge.rw_bb0016_01.row.prog w) C on L m { σ with all := all' } → Q .next { s with heap := h', toks := tk }) →
    wpAny (model PySem.Challenge.rw_bb0016_01.row.prog w) A (exec (nthS (subS (nthS (elsS (nthS (subS (nthS (fnBody (Mine.pre.heap_1_1 w.params) 968) 6)) 6)) 0)) 0) (envOfC qual (fnScope (Mine.pre.heap_1_1 w.params) 968) L f cdv)) Q E s) := by
  refine ⟨?_⟩
  k_fill
  intro w s A E h₀ L f C on cdv qual Q m mean mg mb lse σ
  intro k t gfn sfn pfn Hv Wv touch n1 n2 hh hA hd hu X T S d4 ops mh mw hHv hWv hkc hkW hQ
  obtain ⟨e1, e2⟩ := fnBody_eq (K := Mine.pre.heap_1_1 w.params) (f := 968) (by k_is)
  have kf := (@Box.out _ kinds w L).1
  rw [e1, e2]
  rw [e2] at hA kf
  clear e1 e2
  dsimp only [nthS, subS, elsS, tstS]
  have S0 := S
  obtain ⟨F, N, qL⟩ := S
  have d1 := qL.d1
  have d2 := qL.d2
  have d3 := qL.d3
  dsimp only [cel5, List.cons_append, List.nil_append] at N
  walk_at "GOU"
  rename Fr _ _ _ _ => F1
  refine Lq.lostW [] ops.lost qL F1 X (by walk_at "CUT") T hh hA rfl rfl (Nat.le_trans hd (by decide)) (Nat.le_trans hu (by decide)) hkW trivial fun h2 tk2 all2 F2 N2 S2 => ?_
  (try clear F1)
  have hHv2 := S2.keep _ hHv .list
  have hWv2 := S2.keep _ hWv .list
  have q2 := S2.q
  dsimp only [cel5, List.cons_append, List.nil_append] at N2
  walk_at "GOU"
  rename Fr _ _ _ _ => F3
  exact hQ _ _ all2 F3 (by walk_at "CUT") q2
set_option maxRecDepth 100000 in
set_option maxHeartbeats 6000000 in
theorem d1l : Box (∀ {w : World} {s : Shared} {A : Around} {E : Value → Shared → Prop} {h₀ : Heap} {L f C : Addr} {on : Str} {cdv : Value} {qual : Str} {Q : Flow → Shared → Prop} {m : Str → Option Value} {mean : ExcName → Option Value} {mg mb : Str → Option Value} {lse : List Str} {σ : LSt} {k : Str} {t kt2 : Tok} {p : Int} {gfn sfn pfn : Addr} {touch : Bool},
    A.handled = none → A.frames = some [envOfC qual (fnScope (Mine.pre.heap_1_1 w.params) 968) L f cdv] → A.depth ≤ 305 → A.units ≤ 305 → (Mine.pre.heap_1_1 w.params).In h₀ → Top Mine.pre.view_1_2 lse mean mg mb h₀ →
    Lw (prog := PySem.Challenge.rw_bb0016_01.row.prog) w (PySem.strKind _ w) C on h₀ L m s.heap σ → σ.o4.data = .cell (some (.str k t)) → Ops (prog := PySem.Challenge.rw_bb0016_01.row.prog) Mine.pre.heap_1_1 Mine.pre.view_1_2 (fun w => PySem.strKind PySem.Challenge.rw_bb0016_01.row.prog w) C on gfn sfn pfn touch → m (Str.ofString "tick") = some (.int p kt2) → k ∉ keys (heldC σ.cs) → (keys (heldC σ.cs)).Nodup →
    (∀ h' tk m' all' v, Fr h₀ L h' m' → News h₀ L h' (cel5 L σ ++ all') → Lq w (PySem.strKind PySem.Challenge.rw_bb0016_01.row.prog w) C on L m' { σ with cs := (layC σ.cs (k, p)).1, all := all' } → (((layC σ.cs (k, p)).2 = none ∧ v = .none) ∨ ∃ y T t' u', (layC σ.cs (k, p)).2 = some y ∧ v = .ref T ∧ (T, tupO y t' u') ∈ all') → m' (Str.ofString "fallen") = some v → (∀ y, y ≠ Str.ofString "fallen" → m' y = m y) → Q .next { s with heap := h', toks := tk }) →
    wpAny (model PySem.Challenge.rw_bb0016_01.row.prog w) A (exec (nthS (subS (nthS (elsS (nthS (subS (nthS (fnBody (Mine.pre.heap_1_1 w.params) 968) 6)) 6)) 0)) 1) (envOfC qual (fnScope (Mine.pre.heap_1_1 w.params) 968) L f cdv)) Q E s) := by
  refine ⟨?_⟩
  k_fill
  intro w s A E h₀ L f C on cdv qual Q m mean mg mb lse σ
  intro k t kt2 p gfn sfn pfn touch hh hA hd hu X T S d4 ops mt hk1 hn1 hQ
  obtain ⟨e1, e2⟩ := fnBody_eq (K := Mine.pre.heap_1_1 w.params) (f := 968) (by k_is)
  have kf := (@Box.out _ kinds w L).1
  rw [e1, e2]
  rw [e2] at hA kf
  clear e1 e2
  dsimp only [nthS, subS, elsS, tstS]
  have S0 := S
  obtain ⟨F, N, qL⟩ := S
  have d1 := qL.d1
  have d2 := qL.d2
  have d3 := qL.d3
  dsimp only [cel5, List.cons_append, List.nil_append] at N
  walk_at "GOT"
  rename Fr _ _ _ _ => F1
  refine Lq.laid [] ops.laid qL F1 X (by walk_at "CUT") T hh hA rfl rfl (Nat.le_trans hd (by decide)) (Nat.le_trans hu (by decide)) hk1 hn1 trivial fun h3 tk3 v3 more3 all3 F3 N3 q3 keep3 off3 hv3 => ?_
  dsimp only [List.nil_append] at N3
  walk_at "GOT"
  rename Fr _ _ _ _ => F4
  rename News _ _ _ _ => N4
  rcases hv3 with ⟨a, b, c⟩ | ⟨y, T, t', u', a, b, c⟩
  · subst c
    exact hQ _ _ _ all3 v3 F4 (by walk_at "CUT") (q3.names rfl rfl) (.inl ⟨a, b⟩) (by simp) (fun y hy => by simp [hy])
  · subst c
    refine hQ _ _ _ ((T, tupO y t' u') :: all3) v3 F4 (News.cutTo N4 (by intro q hq; simp only [tupO, List.mem_append, List.mem_cons, List.not_mem_nil, or_false] at hq ⊢; grind)) ((q3.grow (o := tupO y t' u') (Lq.notCell (o := tupO y t' u') q3 N4 (fun p hp => by simp only [List.mem_append]; exact .inr (.inl hp)) (List.mem_append_left _ List.mem_cons_self) (fun v => by simp))).names rfl rfl) (.inr ⟨y, T, t', u', a, b, List.mem_cons_self⟩) (by simp) (fun y hy => by simp [hy])
set_option maxRecDepth 100000 in
set_option maxHeartbeats 6000000 in
theorem d1b : Box (∀ {w : World} {s : Shared} {A : Around} {E : Value → Shared → Prop} {h₀ : Heap} {L f C : Addr} {on : Str} {cdv : Value} {qual : Str} {Q : Flow → Shared → Prop} {m : Str → Option Value} {mean : ExcName → Option Value} {mg mb : Str → Option Value} {lse : List Str} {σ : LSt} {gfn sfn pfn : Addr} {touch : Bool},
    A.handled = none → A.frames = some [envOfC qual (fnScope (Mine.pre.heap_1_1 w.params) 968) L f cdv] → A.depth ≤ 305 → A.units ≤ 305 → (Mine.pre.heap_1_1 w.params).In h₀ → Top Mine.pre.view_1_2 lse mean mg mb h₀ →
    Lw (prog := PySem.Challenge.rw_bb0016_01.row.prog) w (PySem.strKind _ w) C on h₀ L m s.heap σ → Ops (prog := PySem.Challenge.rw_bb0016_01.row.prog) Mine.pre.heap_1_1 Mine.pre.view_1_2 (fun w => PySem.strKind PySem.Challenge.rw_bb0016_01.row.prog w) C on gfn sfn pfn touch → OLenS (prog := PySem.Challenge.rw_bb0016_01.row.prog) Mine.pre.heap_1_1 Mine.pre.view_1_2 (fun w => PySem.strKind PySem.Challenge.rw_bb0016_01.row.prog w) C on 770 →
    (∀ h' tk m' all' D vs ks n, Fr h₀ L h' m' → News h₀ L h' (cel5 L σ ++ all') → Kept w (PySem.strKind PySem.Challenge.rw_bb0016_01.row.prog w) C on L m' σ all' → (D, W.listOf vs.toArray n) ∈ all' → StrsAre vs ks → ks.Perm (keys σ.W.seg) → m' (Str.ofString "before") = some (.ref D) → (∀ y, y ≠ Str.ofString "before" → m' y = m y) → Q .next { s with heap := h', toks := tk }) →
    wpAny (model PySem.Challenge.rw_bb0016_01.row.prog w) A (exec (nthS (subS (nthS (elsS (nthS (subS (nthS (fnBody (Mine.pre.heap_1_1 w.params) 968) 6)) 6)) 0)) 2) (envOfC qual (fnScope (Mine.pre.heap_1_1 w.params) 968) L f cdv)) Q E s) := by
  refine ⟨?_⟩
  k_fill
  intro w s A E h₀ L f C on cdv qual Q m mean mg mb lse σ
  intro gfn sfn pfn touch hh hA hd hu X T S ops ol hQ
  obtain ⟨e1, e2⟩ := fnBody_eq (K := Mine.pre.heap_1_1 w.params) (f := 968) (by k_is)
  have kf := (@Box.out _ kinds w L).1
  rw [e1, e2]
  rw [e2] at hA kf
  clear e1 e2
  dsimp only [nthS, subS, elsS, tstS]
  have S0 := S
  obtain ⟨F, N, qL⟩ := S
  have d1 := qL.d1
  have d2 := qL.d2
  have d3 := qL.d3
  dsimp only [cel5, List.cons_append, List.nil_append] at N
  walk_at "GOT"
  rename Fr _ _ _ _ => F1
  refine Lq.listB (b := σ.W) [] ol ops.iter (ops.cf _) qL F1 X (by walk_at "CUT") T hh hA rfl rfl (Nat.le_trans hd (by decide)) (Nat.le_trans hu (by decide)) List.mem_cons_self trivial fun h3 tk3 D n vs ks all3 F3 N3 S3 oD hp hl hv => ?_
  (try clear F1)
  have hS := strs_of hl hv
  dsimp only [List.nil_append] at N3
  walk_at "GOT"
  rename Fr _ _ _ _ => F4
  rename News _ _ _ _ => N4
  exact hQ _ _ _ ((D, W.listOf vs.toArray n) :: all3) D vs ks n F4 (News.cutTo N4 (by intro q hq; simp only [tupO, List.mem_append, List.mem_cons, List.not_mem_nil, or_false] at hq ⊢; grind)) ((S3.kept.grow (notCell_of (L := L) (σ := σ) oD)).names rfl rfl) List.mem_cons_self hS hp (by simp) (fun y hy => by simp [hy])
set_option maxRecDepth 100000 in
set_option maxHeartbeats 6000000 in
theorem d1w : Box (∀ {w : World} {s : Shared} {A : Around} {E : Value → Shared → Prop} {h₀ : Heap} {L f C : Addr} {on : Str} {cdv : Value} {qual : Str} {Q : Flow → Shared → Prop} {m : Str → Option Value} {mean : ExcName → Option Value} {mg mb : Str → Option Value} {lse : List Str} {σ : LSt} {k : Str} {t kt2 : Tok} {p : Int} {gfn sfn pfn : Addr} {touch : Bool},
    A.handled = none → A.frames = some [envOfC qual (fnScope (Mine.pre.heap_1_1 w.params) 968) L f cdv] → A.depth ≤ 305 → A.units ≤ 305 → (Mine.pre.heap_1_1 w.params).In h₀ → Top Mine.pre.view_1_2 lse mean mg mb h₀ →
    Lw (prog := PySem.Challenge.rw_bb0016_01.row.prog) w (PySem.strKind _ w) C on h₀ L m s.heap σ → σ.o4.data = .cell (some (.str k t)) → Ops (prog := PySem.Challenge.rw_bb0016_01.row.prog) Mine.pre.heap_1_1 Mine.pre.view_1_2 (fun w => PySem.strKind PySem.Challenge.rw_bb0016_01.row.prog w) C on gfn sfn pfn touch → m (Str.ofString "tick") = some (.int p kt2) →
    (∀ h' tk all', Fr h₀ L h' m → News h₀ L h' (cel5 L σ ++ all') → Lq w (PySem.strKind PySem.Challenge.rw_bb0016_01.row.prog w) C on L m { σ with W := ⟨σ.W.c, ((k, p) :: out k σ.W.seg).take σ.W.c.mx.toNat⟩, all := all' } → (∀ p ∈ σ.all, NonC p.2 → p ∈ all') → Q .next { s with heap := h', toks := tk }) →
    wpAny (model PySem.Challenge.rw_bb0016_01.row.prog w) A (exec (nthS (subS (nthS (elsS (nthS (subS (nthS (fnBody (Mine.pre.heap_1_1 w.params) 968) 6)) 6)) 0)) 3) (envOfC qual (fnScope (Mine.pre.heap_1_1 w.params) 968) L f cdv)) Q E s) := by
  refine ⟨?_⟩
  k_fill
  intro w s A E h₀ L f C on cdv qual Q m mean mg mb lse σ
  intro k t kt2 p gfn sfn pfn touch hh hA hd hu X T S d4 ops mt hQ
  obtain ⟨e1, e2⟩ := fnBody_eq (K := Mine.pre.heap_1_1 w.params) (f := 968) (by k_is)
  have kf := (@Box.out _ kinds w L).1
  rw [e1, e2]
  rw [e2] at hA kf
  clear e1 e2
  dsimp only [nthS, subS, elsS, tstS]
  have S0 := S
  obtain ⟨F, N, qL⟩ := S
  have d1 := qL.d1
  have d2 := qL.d2
  have d3 := qL.d3
  dsimp only [cel5, List.cons_append, List.nil_append] at N
  walk_at "GOT"
  rename Fr _ _ _ _ => F1
  exact Lq.setW [] ops.set (ops.cf _) qL F1 X (by walk_at "CUT") T hh hA rfl rfl (Nat.le_trans hd (by decide)) (Nat.le_trans hu (by decide)) trivial fun h2 tk2 all2 F2 N2 q2 keep2 off2 => hQ _ _ all2 F2 N2 q2 keep2
set_option maxRecDepth 100000 in
set_option maxHeartbeats 6000000 in
theorem d1r : Box (∀ {w : World} {s : Shared} {A : Around} {E : Value → Shared → Prop} {h₀ : Heap} {L f C : Addr} {on : Str} {cdv : Value} {qual : Str} {Q : Flow → Shared → Prop} {m : Str → Option Value} {mean : ExcName → Option Value} {mg mb : Str → Option Value} {lse : List Str} {σ : LSt} {k : Str} {t kt2 : Tok} {p : Int},
    A.handled = none → A.frames = some [envOfC qual (fnScope (Mine.pre.heap_1_1 w.params) 968) L f cdv] → A.depth ≤ 305 → A.units ≤ 305 → (Mine.pre.heap_1_1 w.params).In h₀ → Top Mine.pre.view_1_2 lse mean mg mb h₀ →
    Lw (prog := PySem.Challenge.rw_bb0016_01.row.prog) w (PySem.strKind _ w) C on h₀ L m s.heap σ → σ.o4.data = .cell (some (.str k t)) → m (Str.ofString "tick") = some (.int p kt2) → (out k σ.row).length < 12 →
    (∀ h' tk m' all' Lr', Fr h₀ L h' m' → News h₀ L h' (cel5 L σ ++ all') → Lq w (PySem.strKind PySem.Challenge.rw_bb0016_01.row.prog w) C on L m' { σ with row := (k, p) :: out k σ.row, Lr := Lr', all := all' } → (∀ p ∈ σ.all, NonC p.2 → p ∈ all') → (∀ y, y ≠ Str.ofString "row" → m' y = m y) → Q .next { s with heap := h', toks := tk }) →
    wpAny (model PySem.Challenge.rw_bb0016_01.row.prog w) A (exec (nthS (subS (nthS (elsS (nthS (subS (nthS (fnBody (Mine.pre.heap_1_1 w.params) 968) 6)) 6)) 0)) 4) (envOfC qual (fnScope (Mine.pre.heap_1_1 w.params) 968) L f cdv)) Q E s) := by
  refine ⟨?_⟩
  k_fill
  intro w s A E h₀ L f C on cdv qual Q m mean mg mb lse σ
  intro k t kt2 p hh hA hd hu X T S d4 mt hkl hQ
  obtain ⟨e1, e2⟩ := fnBody_eq (K := Mine.pre.heap_1_1 w.params) (f := 968) (by k_is)
  have kf := (@Box.out _ kinds w L).1
  rw [e1, e2]
  rw [e2] at hA kf
  clear e1 e2
  dsimp only [nthS, subS, elsS, tstS]
  have S0 := S
  obtain ⟨F, N, qL⟩ := S
  have d1 := qL.d1
  have d2 := qL.d2
  have d3 := qL.d3
  dsimp only [cel5, List.cons_append, List.nil_append] at N
  have q4 : Lq w (PySem.strKind PySem.Challenge.rw_bb0016_01.row.prog w) C on L m { σ with all := σ.all } := qL
  walk_at "GOT"
  rename_i DT _ lT DL _ F5y N5y lL
  have nT : NotCell L DT := ⟨by k_ne, by k_ne, by k_ne, by k_ne, by k_ne⟩
  have nL : NotCell L DL := ⟨by k_ne, by k_ne, by k_ne, by k_ne, by k_ne⟩
  have q5 := (Lq.grow (o := tupO (k, p) t kt2) q4 nT).grow (o := W.listOf #[.ref DT] 0) nL
  rename Fr _ _ _ _ => F5
  rename News _ _ _ _ => N5x
  have N5 := Mine.News.cutTo (l' := cel5 L { σ with all := ((DL, W.listOf #[.ref DT] 0) :: (DT, tupO (k, p) t kt2) :: σ.all) } ++ ((DL, W.listOf #[.ref DT] 0) :: (DT, tupO (k, p) t kt2) :: σ.all)) N5x (by intro q hq; simp only [tupO, List.mem_append, List.mem_cons, List.not_mem_nil, or_false] at hq ⊢; grind)
  clear N5x
  obtain ⟨rvs, nr, hr, hR⟩ := q5.rows
  have r1 := q5.r1
  have hrl := q5.rl
  have hrv := hR.1
  dsimp only at hr hR r1 hrl hrv
  refine comp1_eval F5 (by with_unfolding_all rfl) (by decide) (by rfl) (by decide) (by rfl) ?_
  walk_at "GOT"
  have src : ∀ all', Kept w (PySem.strKind PySem.Challenge.rw_bb0016_01.row.prog w) C on L m { σ with all := ((DL, W.listOf #[.ref DT] 0) :: (DT, tupO (k, p) t kt2) :: σ.all) } all' → LCg.SrcAt h₀ σ.Lr rvs.toArray (cel5 L { σ with all := ((DL, W.listOf #[.ref DT] 0) :: (DT, tupO (k, p) t kt2) :: σ.all) } ++ all') := fun all' K => src_all (K.keep _ hr .list)
  refine Or.inl ⟨_, rvs.toArray, _, LookInv w (PySem.strKind PySem.Challenge.rw_bb0016_01.row.prog w) C on L m { σ with all := ((DL, W.listOf #[.ref DT] 0) :: (DT, tupO (k, p) t kt2) :: σ.all) } fun i ys => RowIs ys (out k (σ.row.take i)) ((DL, W.listOf #[.ref DT] 0) :: (DT, tupO (k, p) t kt2) :: σ.all), rfl, hh, F5, N5, src _ (Same.refl q5).kept, by rw [sizeLine_eq, List.size_toArray]; omega, ⟨((DL, W.listOf #[.ref DT] 0) :: (DT, tupO (k, p) t kt2) :: σ.all), rfl, Same.refl q5, RowIs.nil⟩, ?fin, ?step⟩
  case step =>
    rintro i' ys news v hi' ⟨all', rfl, Sm, hI⟩ hv I oI C' oC D m₂ h tk E' hC hB F' N' off ne
    have hB' : m₂ (Str.ofString "pair") = some v := hB
    clear hB
    have hj : i' < σ.row.length := by rw [List.size_toArray] at hi'; omega
    have hpr : σ.row[i']? = some σ.row[i'] := by simp [hj]
    obtain ⟨T', t', u', rfl, hm⟩ := hR.2 i' v σ.row[i'] (by simpa using hv) hpr
    have hm' := Sm.keep _ hm .tup
    have hs := take_out (k := k) hpr
    clear hpr
    generalize σ.row[i'] = pr at hm hm' hs
    refine wpAny_tests_one ?_
    dsimp only [cel5, List.cons_append, List.nil_append] at N'
    (try clear N5); (try clear F5)
    walk_at "GOT"
    · rename (_ != _) = true => e
      exact look_end' (σ := { σ with all := ((DL, W.listOf #[.ref DT] 0) :: (DT, tupO (k, p) t kt2) :: σ.all) }) (all := all') (by assumption) (by assumption) off (src _ Sm.kept) Sm (by rw [hs, if_pos (by simpa using e)]; exact hI.snoc hm)
    · rename (_ != _) = false => e
      exact look_end (σ := { σ with all := ((DL, W.listOf #[.ref DT] 0) :: (DT, tupO (k, p) t kt2) :: σ.all) }) (all := all') (by assumption) (by assumption) off (src _ Sm.kept) Sm (by rw [hs, if_neg (by simpa using e), List.append_nil]; exact hI)
  case fin =>
    rintro ys news ⟨all', rfl, Sm, hI⟩ D h tk F' N' o1
    have oD := Off1.off o1
    have e5 : σ.row.take rvs.toArray.size = σ.row := List.take_of_length_le (by rw [List.size_toArray]; omega)
    rw [e5] at hI
    have K5 := Sm.kept.grow (o := LCg.lst ys) (notCell_of (L := L) (σ := { σ with all := ((DL, W.listOf #[.ref DT] 0) :: (DT, tupO (k, p) t kt2) :: σ.all) }) oD)
    have hI5 : RowIs ys (out k σ.row) ((D, LCg.lst ys) :: all') := hI.mono fun p hp hn => List.mem_cons_of_mem _ (Sm.keep p hp hn)
    have hl5 := out_len k σ.row
    have N6 : News h₀ L h (cel5 L { σ with all := ((DL, W.listOf #[.ref DT] 0) :: (DT, tupO (k, p) t kt2) :: σ.all) } ++ (D, LCg.lst ys) :: all') := fun p hp => N' p (by simp only [List.mem_append, List.mem_cons] at hp ⊢; grind)
    have hDL := Sm.keep (DL, W.listOf #[.ref DT] 0) (by simp) .list
    have hDT := Sm.keep (DT, tupO (k, p) t kt2) (by simp) .tup
    have hyl := hI.1
    refine kmk_add_lit (zs := .ref DT :: ys) F' N6 (News.isList N6 (List.mem_append_right _ (List.mem_cons_of_mem _ hDL))) (News.isList N6 (List.mem_append_right _ List.mem_cons_self)) (by simp) (fun D2 h2 F2 N2 l2 => ?_) (by rw [sizeLine_eq]; simp; omega)
    have q6 := K5.q.grow (o := W.listOf (Value.ref DT :: ys).toArray 0) (notCell_of (L := L) (σ := { σ with all := ((DL, W.listOf #[.ref DT] 0) :: (DT, tupO (k, p) t kt2) :: σ.all) }) (off_new l2))
    have N7 := Mine.News.cutTo (l' := cel5 L { σ with all := ((DL, W.listOf #[.ref DT] 0) :: (DT, tupO (k, p) t kt2) :: σ.all) } ++ (D2, W.listOf (Value.ref DT :: ys).toArray 0) :: (D, LCg.lst ys) :: all') N2 (by intro q hq; simp only [tupO, List.mem_append, List.mem_cons, List.not_mem_nil, or_false] at hq ⊢; grind)
    clear N2 N6
    have hI6 : RowIs (.ref DT :: ys) ((k, p) :: out k σ.row) ((D2, W.listOf (Value.ref DT :: ys).toArray 0) :: (D, LCg.lst ys) :: all') := (hI5.mono fun p hp _ => List.mem_cons_of_mem _ hp).cons (List.mem_cons_of_mem _ (List.mem_cons_of_mem _ hDT))
    dsimp only [cel5, List.cons_append, List.nil_append] at N7
    walk_at "GOT"
    rename Fr _ _ _ _ => F8
    rename News _ _ _ _ => N8
    exact hQ _ _ _ _ D2 F8 N8 (q6.setRow (D := D2) (ys := .ref DT :: ys) (n := 0) (by simp) hI6 rfl rfl (by rw [List.length_cons]; have := hkl; omega)) (fun p hp hn => List.mem_cons_of_mem _ (List.mem_cons_of_mem _ (Sm.keep p (List.mem_cons_of_mem _ (List.mem_cons_of_mem _ hp)) hn))) (fun y hy => by simp [hy])
set_option maxRecDepth 100000 in
set_option maxHeartbeats 6000000 in
theorem d1q : Box (∀ {w : World} {s : Shared} {A : Around} {E : Value → Shared → Prop} {h₀ : Heap} {L f C : Addr} {on : Str} {cdv : Value} {qual : Str} {Q : Flow → Shared → Prop} {m : Str → Option Value} {mean : ExcName → Option Value} {mg mb : Str → Option Value} {lse : List Str} {σ : LSt} {gfn sfn pfn Dv Db Do : Addr} {touch : Bool} {fv : Value} {fall : Option (Str × Int)} {bvs ovs : List Value} {ks : List Str} {oseg : Seg} {n1 n2 : Nat},
    A.handled = none → A.frames = some [envOfC qual (fnScope (Mine.pre.heap_1_1 w.params) 968) L f cdv] → A.depth ≤ 305 → A.units ≤ 305 → (Mine.pre.heap_1_1 w.params).In h₀ → Top Mine.pre.view_1_2 lse mean mg mb h₀ →
    Lw (prog := PySem.Challenge.rw_bb0016_01.row.prog) w (PySem.strKind _ w) C on h₀ L m s.heap σ → Ops (prog := PySem.Challenge.rw_bb0016_01.row.prog) Mine.pre.heap_1_1 Mine.pre.view_1_2 (fun w => PySem.strKind PySem.Challenge.rw_bb0016_01.row.prog w) C on gfn sfn pfn touch → m (Str.ofString "fallen") = some fv → m (Str.ofString "before") = some (.ref Db) → m (Str.ofString "out") = some (.ref Do) → ((fall = none ∧ fv = .none) ∨ ∃ y T t' u', fall = some y ∧ fv = .ref T ∧ (T, tupO y t' u') ∈ σ.all) → (Db, W.listOf bvs.toArray n1) ∈ σ.all → StrsAre bvs ks → (Do, W.listOf ovs.toArray n2) ∈ σ.all → RowIs ovs oseg σ.all → ks.length ≤ 12 → oseg.length ≤ 12 → NamesOk ks → NamesOk (keys oseg) → fall.toList = oseg → (ks.filter fun x => decide (x ∉ keys σ.W.seg)) = keys oseg →
    (∀ h' tk all', Fr h₀ L h' m → News h₀ L h' (cel5 L σ ++ all') → Lq w (PySem.strKind PySem.Challenge.rw_bb0016_01.row.prog w) C on L m { σ with all := all' } → Q .next { s with heap := h', toks := tk }) →
    wpAny (model PySem.Challenge.rw_bb0016_01.row.prog w) A (exec (nthS (subS (nthS (elsS (nthS (subS (nthS (fnBody (Mine.pre.heap_1_1 w.params) 968) 6)) 6)) 0)) 7) (envOfC qual (fnScope (Mine.pre.heap_1_1 w.params) 968) L f cdv)) Q E s) := by
  refine ⟨?_⟩
  k_fill
  intro w s A E h₀ L f C on cdv qual Q m mean mg mb lse σ
  intro gfn sfn pfn Dv Db Do touch fv fall bvs ovs ks oseg n1 n2 hh hA hd hu X T S ops mf mb' mo hf hDb hB hDo hO hkl hol okB okO hfo hfb hQ
  obtain ⟨e1, e2⟩ := fnBody_eq (K := Mine.pre.heap_1_1 w.params) (f := 968) (by k_is)
  have kf := (@Box.out _ kinds w L).1
  rw [e1, e2]
  rw [e2] at hA kf
  clear e1 e2
  dsimp only [nthS, subS, elsS, tstS]
  have S0 := S
  obtain ⟨F, N, qL⟩ := S
  have d1 := qL.d1
  have d2 := qL.d2
  have d3 := qL.d3
  dsimp only [cel5, List.cons_append, List.nil_append] at N
  rcases hf with ⟨rfl, rfl⟩ | ⟨y, T', t', u', rfl, rfl, hT⟩
  · walk_at "GOS"
    rename News _ _ _ _ => N1
    refine ne_rows (all := σ.all) N1 (by walk_at "TAILP") (by k_mem) (by k_mem) RowIs.nil hO (fun x hx => nomatch hx) okO (Nat.lt_of_le_of_lt (Nat.add_le_add_right hu 64) (by decide)) ?_
    rw [show (!decide (([] : Seg) = oseg)) = false from by simpa using hfo]
    walk_at "GOS"
    rename Fr _ _ _ _ => F5
    rename News _ _ _ _ => N5x
    have N5 := Mine.News.cutTo (l' := cel5 L { σ with all := σ.all } ++ σ.all) N5x (by walk_at "TAILP")
    clear N5x
    have hbl := hB.length
    refine comp1_eval F5 (by with_unfolding_all rfl) (by decide) (by rfl) (by decide) (by rfl) ?_
    walk_at "GOS"
    refine Or.inl ⟨_, bvs.toArray, _, LookInv w (PySem.strKind PySem.Challenge.rw_bb0016_01.row.prog w) C on L m σ fun i ys => StrsAre ys ((ks.take i).filter fun x => decide (x ∉ keys σ.W.seg)), rfl, hh, F5, N5, src_all hDb, by rw [sizeLine_eq, List.size_toArray]; omega, ⟨σ.all, rfl, Same.refl qL, .nil⟩, ?fin1, ?step1⟩
    case step1 =>
      rintro i ys news v hi ⟨all', rfl, Sm, hI⟩ hv I oI C' oC D m₂ h tk E' hC hB1 F' N' off ne
      obtain ⟨x, tx, rfl, hx⟩ := hB.item i v (by simpa using hv)
      have hB' : m₂ (Str.ofString "name") = some (.str x tx) := hB1
      clear hB1
      have hs := take_filter' (fun x => decide (x ∉ keys σ.W.seg)) hx
      refine wpAny_tests_one ?_
      dsimp only [cel5, List.cons_append, List.nil_append] at N'
      (try clear N5); (try clear F5)
      walk_at "GOS"
      refine Lq.hasNotW (σ := { σ with all := all' }) [(I, oI), (C', oC), (D, LCg.lst ys)] ops.has (ops.cf _) Sm.q (by assumption) X (by assumption) T hh hA rfl rfl (Nat.le_trans hd (by decide)) (Nat.le_trans hu (by decide)) (Mine.Off3.offs (L := L) (σ := σ) off) fun h2 tk2 all2 F2 N2 S2 => ?_
      dsimp only [cel5, List.cons_append, List.nil_append] at N2
      (try clear N'); (try clear F')
      have off2 := Mine.Off3.same (L := L) (σ := σ) off S2.off
      have S3 := Sm.trans S2
      walk_at "GOS"
      · rename _ ∈ keys _ => e
        exact look_end (all := all2) (by assumption) (by assumption) off2 (src_all (S3.keep _ hDb .list)) S3 (by rw [hs, if_neg (by simpa using e), List.append_nil]; exact hI)
      · rename ¬ _ ∈ keys _ => e
        exact look_end' (all := all2) (by assumption) (by assumption) off2 (src_all (S3.keep _ hDb .list)) S3 (by rw [hs, if_pos (by simpa using e)]; exact hI.append' (.cons _ _ .nil))
    case fin1 =>
      rintro y1 news ⟨all1, rfl, Sm, hI1⟩ D1 h tk F' N' o1
      have oD := Off1.off o1
      have e5 : List.take bvs.toArray.size ks = ks := List.take_of_length_le (by rw [List.size_toArray]; omega)
      rw [e5] at hI1
      have K5 := Sm.kept.grow (o := LCg.lst y1) (notCell_of (L := L) (σ := σ) oD)
      have N6 : News h₀ L h (cel5 L σ ++ (D1, LCg.lst y1) :: all1) := fun p hp => N' p (by simp only [List.mem_append, List.mem_cons] at hp ⊢; grind)
      have hDo5 := K5.keep _ hDo .list
      have hO5 : RowIs ovs oseg ((D1, LCg.lst y1) :: all1) := hO.mono K5.keep
      clear N'
      dsimp only [cel5, List.cons_append, List.nil_append] at N6
      walk_at "GOS"
      rename Fr _ _ _ _ => F5
      rename News _ _ _ _ => N5x
      have N5 := Mine.News.cutTo (l' := cel5 L { σ with all := (D1, LCg.lst y1) :: all1 } ++ ((D1, LCg.lst y1) :: all1)) N5x (by walk_at "TAILP")
      clear N5x
      have hlX := hO5.1
      refine comp2_eval F5 (by with_unfolding_all rfl) (by decide) (by rfl) (by decide) (by rfl) (by rfl) (by decide) ?_
      walk_at "GOT"
      refine ⟨_, ovs.toArray, _, LookInv w (PySem.strKind PySem.Challenge.rw_bb0016_01.row.prog w) C on L m { σ with all := (D1, LCg.lst y1) :: all1 } fun i ys => StrsAre ys (keys (List.take i oseg)), fun i a b => ∃ p t u, (oseg)[i]? = some p ∧ a = .str p.1 t ∧ b = .int p.2 u, rfl, hh, F5, N5, src_all ((Same.refl K5.q).kept.keep _ hDo5 .list), by rw [sizeLine_eq, List.size_toArray]; omega, ⟨((D1, LCg.lst y1) :: all1), rfl, Same.refl K5.q, .nil⟩, ?fin2, ?tup2, ?step2⟩
      case tup2 =>
        rintro i ys news v hi ⟨all', rfl, Sm, hI⟩ hv
        have hi' : i < (oseg).length := by rw [List.size_toArray] at hi; omega
        obtain ⟨T', t', u', rfl, hm⟩ := (hO5).2 i v (oseg)[i] (by simpa using hv) (by simp [hi'])
        exact ⟨T', _, _, _, _, rfl, List.mem_append_right _ (Sm.keep _ hm .tup), rfl, rfl, _, t', u', by simp [hi'], rfl, rfl⟩
      case step2 =>
        rintro i ys news v hi ⟨all', rfl, Sm, hI⟩ hv I oI C' oC D m₂ h tk E' hC ⟨v1, v2, ⟨p, tp, up, hp, rfl, rfl⟩, hx1, hx2⟩ F' N' off ne
        refine wpAny_tests_nil ?_
        rw [if_pos rfl]
        dsimp only [cel5, List.cons_append, List.nil_append] at N'
        (try clear N5); (try clear F5)
        walk_at "GOT"
        have hn : StrsAre (ys ++ [.str p.1 tp]) (keys (List.take (i + 1) (oseg))) := by
          rw [List.take_add_one, hp]; simp only [keys, List.map_append]; exact hI.append' (.cons _ _ .nil)
        exact look_end' (σ := { σ with all := (D1, LCg.lst y1) :: all1 }) (all := all') (by assumption) (by assumption) off (src_all (Sm.keep _ hDo5 .list)) Sm hn
      case fin2 =>
        rintro ys news ⟨all', rfl, Sm, hI⟩ D h tk F' N' o1
        have oD := Off1.off o1
        have eTk : List.take (ovs).toArray.size (oseg) = oseg := List.take_of_length_le (by rw [List.size_toArray]; omega)
        rw [eTk] at hI
        have K5 := Sm.kept.grow (o := LCg.lst ys) (notCell_of (L := L) (σ := { σ with all := (D1, LCg.lst y1) :: all1 }) oD)
        have N6 : News h₀ L h (cel5 L { σ with all := (D1, LCg.lst y1) :: all1 } ++ (D, LCg.lst ys) :: all') := fun p hp => N' p (by simp only [List.mem_append, List.mem_cons] at hp ⊢; grind)
        dsimp only [cel5, List.cons_append, List.nil_append] at N6
        (try clear N'); (try clear N5)
        walk_at "GOS"
        rename News _ _ _ _ => N7
        refine ne_strs N7 (mem5 (List.mem_cons_of_mem _ (Sm.keep (D1, LCg.lst y1) List.mem_cons_self .list))) (by k_mem) hI1 hI (fun x hx => okB x (List.mem_filter.mp hx).1) okO (Nat.lt_of_le_of_lt (Nat.add_le_add_right hu 64) (by decide)) ?_
        rw [hfb, show (!decide (keys oseg = keys oseg)) = false from by simp]
        walk_at "GOS"
        rename Fr _ _ _ _ => F9
        exact hQ _ _ _ F9 (by walk_at "CUT") K5.q
  · walk_at "GOS"
    rename News _ _ _ _ => N1
    refine ne_rows (all := σ.all) N1 (by walk_at "TAILP") (by k_mem) (by k_mem) (RowIs.nil.cons hT) hO (by rw [show [y] = oseg from hfo]; exact okO) okO (Nat.lt_of_le_of_lt (Nat.add_le_add_right hu 64) (by decide)) ?_
    rw [show (!decide (([y] : Seg) = oseg)) = false from by simpa using hfo]
    walk_at "GOS"
    rename Fr _ _ _ _ => F5
    rename News _ _ _ _ => N5x
    have N5 := Mine.News.cutTo (l' := cel5 L { σ with all := σ.all } ++ σ.all) N5x (by walk_at "TAILP")
    clear N5x
    have hbl := hB.length
    refine comp1_eval F5 (by with_unfolding_all rfl) (by decide) (by rfl) (by decide) (by rfl) ?_
    walk_at "GOS"
    refine Or.inl ⟨_, bvs.toArray, _, LookInv w (PySem.strKind PySem.Challenge.rw_bb0016_01.row.prog w) C on L m σ fun i ys => StrsAre ys ((ks.take i).filter fun x => decide (x ∉ keys σ.W.seg)), rfl, hh, F5, N5, src_all hDb, by rw [sizeLine_eq, List.size_toArray]; omega, ⟨σ.all, rfl, Same.refl qL, .nil⟩, ?fin1, ?step1⟩
    case step1 =>
      rintro i ys news v hi ⟨all', rfl, Sm, hI⟩ hv I oI C' oC D m₂ h tk E' hC hB1 F' N' off ne
      obtain ⟨x, tx, rfl, hx⟩ := hB.item i v (by simpa using hv)
      have hB' : m₂ (Str.ofString "name") = some (.str x tx) := hB1
      clear hB1
      have hs := take_filter' (fun x => decide (x ∉ keys σ.W.seg)) hx
      refine wpAny_tests_one ?_
      dsimp only [cel5, List.cons_append, List.nil_append] at N'
      (try clear N5); (try clear F5)
      walk_at "GOS"
      refine Lq.hasNotW (σ := { σ with all := all' }) [(I, oI), (C', oC), (D, LCg.lst ys)] ops.has (ops.cf _) Sm.q (by assumption) X (by assumption) T hh hA rfl rfl (Nat.le_trans hd (by decide)) (Nat.le_trans hu (by decide)) (Mine.Off3.offs (L := L) (σ := σ) off) fun h2 tk2 all2 F2 N2 S2 => ?_
      dsimp only [cel5, List.cons_append, List.nil_append] at N2
      (try clear N'); (try clear F')
      have off2 := Mine.Off3.same (L := L) (σ := σ) off S2.off
      have S3 := Sm.trans S2
      walk_at "GOS"
      · rename _ ∈ keys _ => e
        exact look_end (all := all2) (by assumption) (by assumption) off2 (src_all (S3.keep _ hDb .list)) S3 (by rw [hs, if_neg (by simpa using e), List.append_nil]; exact hI)
      · rename ¬ _ ∈ keys _ => e
        exact look_end' (all := all2) (by assumption) (by assumption) off2 (src_all (S3.keep _ hDb .list)) S3 (by rw [hs, if_pos (by simpa using e)]; exact hI.append' (.cons _ _ .nil))
    case fin1 =>
      rintro y1 news ⟨all1, rfl, Sm, hI1⟩ D1 h tk F' N' o1
      have oD := Off1.off o1
      have e5 : List.take bvs.toArray.size ks = ks := List.take_of_length_le (by rw [List.size_toArray]; omega)
      rw [e5] at hI1
      have K5 := Sm.kept.grow (o := LCg.lst y1) (notCell_of (L := L) (σ := σ) oD)
      have N6 : News h₀ L h (cel5 L σ ++ (D1, LCg.lst y1) :: all1) := fun p hp => N' p (by simp only [List.mem_append, List.mem_cons] at hp ⊢; grind)
      have hDo5 := K5.keep _ hDo .list
      have hO5 : RowIs ovs oseg ((D1, LCg.lst y1) :: all1) := hO.mono K5.keep
      clear N'
      dsimp only [cel5, List.cons_append, List.nil_append] at N6
      walk_at "GOS"
      rename Fr _ _ _ _ => F5
      rename News _ _ _ _ => N5x
      have N5 := Mine.News.cutTo (l' := cel5 L { σ with all := (D1, LCg.lst y1) :: all1 } ++ ((D1, LCg.lst y1) :: all1)) N5x (by walk_at "TAILP")
      clear N5x
      have hlX := hO5.1
      refine comp2_eval F5 (by with_unfolding_all rfl) (by decide) (by rfl) (by decide) (by rfl) (by rfl) (by decide) ?_
      walk_at "GOT"
      refine ⟨_, ovs.toArray, _, LookInv w (PySem.strKind PySem.Challenge.rw_bb0016_01.row.prog w) C on L m { σ with all := (D1, LCg.lst y1) :: all1 } fun i ys => StrsAre ys (keys (List.take i oseg)), fun i a b => ∃ p t u, (oseg)[i]? = some p ∧ a = .str p.1 t ∧ b = .int p.2 u, rfl, hh, F5, N5, src_all ((Same.refl K5.q).kept.keep _ hDo5 .list), by rw [sizeLine_eq, List.size_toArray]; omega, ⟨((D1, LCg.lst y1) :: all1), rfl, Same.refl K5.q, .nil⟩, ?fin2, ?tup2, ?step2⟩
      case tup2 =>
        rintro i ys news v hi ⟨all', rfl, Sm, hI⟩ hv
        have hi' : i < (oseg).length := by rw [List.size_toArray] at hi; omega
        obtain ⟨T', t', u', rfl, hm⟩ := (hO5).2 i v (oseg)[i] (by simpa using hv) (by simp [hi'])
        exact ⟨T', _, _, _, _, rfl, List.mem_append_right _ (Sm.keep _ hm .tup), rfl, rfl, _, t', u', by simp [hi'], rfl, rfl⟩
      case step2 =>
        rintro i ys news v hi ⟨all', rfl, Sm, hI⟩ hv I oI C' oC D m₂ h tk E' hC ⟨v1, v2, ⟨p, tp, up, hp, rfl, rfl⟩, hx1, hx2⟩ F' N' off ne
        refine wpAny_tests_nil ?_
        rw [if_pos rfl]
        dsimp only [cel5, List.cons_append, List.nil_append] at N'
        (try clear N5); (try clear F5)
        walk_at "GOT"
        have hn : StrsAre (ys ++ [.str p.1 tp]) (keys (List.take (i + 1) (oseg))) := by
          rw [List.take_add_one, hp]; simp only [keys, List.map_append]; exact hI.append' (.cons _ _ .nil)
        exact look_end' (σ := { σ with all := (D1, LCg.lst y1) :: all1 }) (all := all') (by assumption) (by assumption) off (src_all (Sm.keep _ hDo5 .list)) Sm hn
      case fin2 =>
        rintro ys news ⟨all', rfl, Sm, hI⟩ D h tk F' N' o1
        have oD := Off1.off o1
        have eTk : List.take (ovs).toArray.size (oseg) = oseg := List.take_of_length_le (by rw [List.size_toArray]; omega)
        rw [eTk] at hI
        have K5 := Sm.kept.grow (o := LCg.lst ys) (notCell_of (L := L) (σ := { σ with all := (D1, LCg.lst y1) :: all1 }) oD)
        have N6 : News h₀ L h (cel5 L { σ with all := (D1, LCg.lst y1) :: all1 } ++ (D, LCg.lst ys) :: all') := fun p hp => N' p (by simp only [List.mem_append, List.mem_cons] at hp ⊢; grind)
        dsimp only [cel5, List.cons_append, List.nil_append] at N6
        (try clear N'); (try clear N5)
        walk_at "GOS"
        rename News _ _ _ _ => N7
        refine ne_strs N7 (mem5 (List.mem_cons_of_mem _ (Sm.keep (D1, LCg.lst y1) List.mem_cons_self .list))) (by k_mem) hI1 hI (fun x hx => okB x (List.mem_filter.mp hx).1) okO (Nat.lt_of_le_of_lt (Nat.add_le_add_right hu 64) (by decide)) ?_
        rw [hfb, show (!decide (keys oseg = keys oseg)) = false from by simp]
        walk_at "GOS"
        rename Fr _ _ _ _ => F9
        exact hQ _ _ _ F9 (by walk_at "CUT") K5.q
set_option maxRecDepth 100000 in
set_option maxHeartbeats 6000000 in
theorem d2p : Box (∀ {w : World} {s : Shared} {A : Around} {E : Value → Shared → Prop} {h₀ : Heap} {L f C : Addr} {on : Str} {cdv : Value} {qual : Str} {Q : Flow → Shared → Prop} {m : Str → Option Value} {mean : ExcName → Option Value} {mg mb : Str → Option Value} {lse : List Str} {σ : LSt} {k : Str} {t th tw : Tok} {p : Int} {gfn sfn pfn Hv Wv : Addr} {touch : Bool} {n1 n2 i : Nat} {c : Loc} {seg : Seg},
    A.handled = none → A.frames = some [envOfC qual (fnScope (Mine.pre.heap_1_1 w.params) 968) L f cdv] → A.depth ≤ 305 → A.units ≤ 305 → (Mine.pre.heap_1_1 w.params).In h₀ → Top Mine.pre.view_1_2 lse mean mg mb h₀ →
    Lw (prog := PySem.Challenge.rw_bb0016_01.row.prog) w (PySem.strKind _ w) C on h₀ L m s.heap σ → σ.o4.data = .cell (some (.str k t)) → Ops (prog := PySem.Challenge.rw_bb0016_01.row.prog) Mine.pre.heap_1_1 Mine.pre.view_1_2 (fun w => PySem.strKind PySem.Challenge.rw_bb0016_01.row.prog w) C on gfn sfn pfn touch → m (Str.ofString "having") = some (.ref Hv) → m (Str.ofString "worths") = some (.ref Wv) → (Hv, W.listOf #[.int (i : Int) th] n1) ∈ σ.all → (Wv, W.listOf #[.int p tw] n2) ∈ σ.all → σ.cs[i]? = some ⟨c, seg⟩ → (k, p) ∈ seg → (k, p) ∈ σ.W.seg →
    (∀ h' tk m' all' Lr', Fr h₀ L h' m' → News h₀ L h' (cel5 L σ ++ all') → Lq w (PySem.strKind PySem.Challenge.rw_bb0016_01.row.prog w) C on L m' { σ with cs := σ.cs.set i ⟨c, out k seg⟩, W := ⟨σ.W.c, out k σ.W.seg⟩, row := out k σ.row, Lr := Lr', all := all' } → Q .next { s with heap := h', toks := tk }) →
    wpAny (model PySem.Challenge.rw_bb0016_01.row.prog w) A (execs (subS (nthS (elsS (nthS (elsS (nthS (subS (nthS (fnBody (Mine.pre.heap_1_1 w.params) 968) 6)) 6)) 0)) 0)) (envOfC qual (fnScope (Mine.pre.heap_1_1 w.params) 968) L f cdv)) Q E s) := by
  refine ⟨?_⟩
  k_fill
  intro w s A E h₀ L f C on cdv qual Q m mean mg mb lse σ
  intro k t th tw p gfn sfn pfn Hv Wv touch n1 n2 i c seg hh hA hd hu X T S d4 ops mh mw hHv hWv hi hks hkW hQ
  obtain ⟨e1, e2⟩ := fnBody_eq (K := Mine.pre.heap_1_1 w.params) (f := 968) (by k_is)
  have kf := (@Box.out _ kinds w L).1
  rw [e1, e2]
  rw [e2] at hA kf
  clear e1 e2
  dsimp only [nthS, subS, elsS, tstS]
  have S0 := S
  obtain ⟨F, N, qL⟩ := S
  have d1 := qL.d1
  have d2 := qL.d2
  have d3 := qL.d3
  dsimp only [cel5, List.cons_append, List.nil_append] at N
  walk_at "GOU"
  rename Fr _ _ _ _ => F1
  refine Lq.item qL [] (by walk_at "CUT") hi rfl ?_
  refine Lq.popMC [] (ops.cf _) qL F1 X (by walk_at "CUT") hi ?_
  dsimp only
  walk_at "GOU"
  rename Fr _ _ _ _ => F1
  refine Lq.popC [] ops.pop qL F1 X (by walk_at "CUT") T hh hA rfl rfl (Nat.le_trans hd (by decide)) (Nat.le_trans hu (by decide)) hi hks trivial fun h2 tk2 t2 all2 F2 N2 q2 keep2 off2 => ?_
  (try clear F1)
  have hWv2 := keep2 _ hWv .list
  dsimp only [cel5, List.cons_append, List.nil_append] at N2
  walk_at "GOU"
  rename Fr _ _ _ _ => F3
  refine Lq.popMW (σ := { σ with cs := σ.cs.set i ⟨c, out k seg⟩, all := all2 }) [] (ops.cf _) q2 F3 X (by walk_at "CUT") ?_
  dsimp only
  walk_at "GOU"
  rename Fr _ _ _ _ => F3
  refine Lq.popDW (σ := { σ with cs := σ.cs.set i ⟨c, out k seg⟩, all := all2 }) [] ops.popd q2 F3 X (by walk_at "CUT") T hh hA rfl rfl (Nat.le_trans hd (by decide)) (Nat.le_trans hu (by decide)) trivial fun h4 tk4 v4 all4 F4 N4 q4 keep4 off4 hv4 => ?_
  have hv4' : ∃ t4, v4 = .int p t4 := by
    rcases hv4 with ⟨z, _⟩ | ⟨p4, t4, z, rfl⟩
    · exact absurd (keys_mem hkW) z
    · obtain ⟨objs, ⟨te, o1, o2, kvs, _, _, _, _, hnW, _⟩, _⟩ := qL.H.has σ.W List.mem_cons_self
      exact ⟨t4, by rw [key_one hnW z hkW]⟩
  obtain ⟨t4, rfl⟩ := hv4'
  clear hv4
  have hWv4 := keep4 _ hWv2 .list
  dsimp only [cel5, List.cons_append, List.nil_append] at N4
  walk_at "GOA"
  · rename _ ≠ _ => e
    exact absurd rfl e
  · rename _ ≠ _ => e
    exact absurd rfl e
  rename Fr _ _ _ _ => F5
  rename News _ _ _ _ => N5x
  have N5 := Mine.News.cutTo (l' := cel5 L { σ with cs := σ.cs.set i ⟨c, out k seg⟩, W := ⟨σ.W.c, out k σ.W.seg⟩, all := all4 } ++ all4) N5x (by walk_at "TAILP")
  clear N5x
  obtain ⟨rvs, nr, hr, hR⟩ := q4.rows
  have r1 := q4.r1
  have hrl := q4.rl
  have hrv := hR.1
  dsimp only at hr hR r1 hrl hrv
  refine comp1_assign F5 (by rfl) (by with_unfolding_all rfl) (by decide) (by rfl) (by decide) (by rfl) (by rfl) (by rfl) ?_
  walk_at "GOT"
  have src : ∀ all', Kept w (PySem.strKind PySem.Challenge.rw_bb0016_01.row.prog w) C on L m { σ with cs := σ.cs.set i ⟨c, out k seg⟩, W := ⟨σ.W.c, out k σ.W.seg⟩, all := all4 } all' → LCg.SrcAt h₀ σ.Lr rvs.toArray (cel5 L { σ with cs := σ.cs.set i ⟨c, out k seg⟩, W := ⟨σ.W.c, out k σ.W.seg⟩, all := all4 } ++ all') := fun all' K => src_all (K.keep _ hr .list)
  refine Or.inl ⟨_, rvs.toArray, _, LookInv w (PySem.strKind PySem.Challenge.rw_bb0016_01.row.prog w) C on L m { σ with cs := σ.cs.set i ⟨c, out k seg⟩, W := ⟨σ.W.c, out k σ.W.seg⟩, all := all4 } fun i ys => RowIs ys (out k (σ.row.take i)) all4, rfl, hh, F5, N5, src _ (Same.refl q4).kept, by rw [sizeLine_eq, List.size_toArray]; omega, ⟨all4, rfl, Same.refl q4, RowIs.nil⟩, ?fin, ?step⟩
  case step =>
    rintro i' ys news v hi' ⟨all', rfl, Sm, hI⟩ hv I oI C' oC D m₂ h tk E' hC hB F' N' off ne
    have hB' : m₂ (Str.ofString "pair") = some v := hB
    clear hB
    have hj : i' < σ.row.length := by rw [List.size_toArray] at hi'; omega
    have hpr : σ.row[i']? = some σ.row[i'] := by simp [hj]
    obtain ⟨T', t', u', rfl, hm⟩ := hR.2 i' v σ.row[i'] (by simpa using hv) hpr
    have hm' := Sm.keep _ hm .tup
    have hs := take_out (k := k) hpr
    clear hpr
    generalize σ.row[i'] = pr at hm hm' hs
    refine wpAny_tests_one ?_
    dsimp only [cel5, List.cons_append, List.nil_append] at N'
    (try clear N5); (try clear F5)
    walk_at "GOT"
    · rename (_ != _) = true => e
      exact look_end' (σ := { σ with cs := σ.cs.set i ⟨c, out k seg⟩, W := ⟨σ.W.c, out k σ.W.seg⟩, all := all4 }) (all := all') (by assumption) (by assumption) off (src _ Sm.kept) Sm (by rw [hs, if_pos (by simpa using e)]; exact hI.snoc hm)
    · rename (_ != _) = false => e
      exact look_end (σ := { σ with cs := σ.cs.set i ⟨c, out k seg⟩, W := ⟨σ.W.c, out k σ.W.seg⟩, all := all4 }) (all := all') (by assumption) (by assumption) off (src _ Sm.kept) Sm (by rw [hs, if_neg (by simpa using e), List.append_nil]; exact hI)
  case fin =>
    rintro ys news ⟨all', rfl, Sm, hI⟩ D h tk F' N' o1
    have oD := Off1.off o1
    have e5 : σ.row.take rvs.toArray.size = σ.row := List.take_of_length_le (by rw [List.size_toArray]; omega)
    rw [e5] at hI
    have K5 := Sm.kept.grow (o := LCg.lst ys) (notCell_of (L := L) (σ := { σ with cs := σ.cs.set i ⟨c, out k seg⟩, W := ⟨σ.W.c, out k σ.W.seg⟩, all := all4 }) oD)
    have hI5 : RowIs ys (out k σ.row) ((D, LCg.lst ys) :: all') := hI.mono fun p hp hn => List.mem_cons_of_mem _ (Sm.keep p hp hn)
    have hl5 := out_len k σ.row
    have N6 : News h₀ L h (cel5 L { σ with cs := σ.cs.set i ⟨c, out k seg⟩, W := ⟨σ.W.c, out k σ.W.seg⟩, all := all4 } ++ (D, LCg.lst ys) :: all') := fun p hp => N' p (by simp only [List.mem_append, List.mem_cons] at hp ⊢; grind)
    exact wpAny_execs_nil (hQ h tk _ _ D F' N6 (K5.q.setRow (D := D) (ys := ys) (n := ys.length) (by simp) hI5 rfl rfl (Nat.le_trans hl5 hrl)))
set_option maxRecDepth 100000 in
set_option maxHeartbeats 6000000 in
theorem d2a : Box (∀ {w : World} {s : Shared} {A : Around} {E : Value → Shared → Prop} {h₀ : Heap} {L f C : Addr} {on : Str} {cdv : Value} {qual : Str} {Q : Flow → Shared → Prop} {m : Str → Option Value} {mean : ExcName → Option Value} {mg mb : Str → Option Value} {lse : List Str} {σ : LSt} {k : Str} {t : Tok} {gfn sfn pfn Hv Wv : Addr} {touch : Bool} {n1 n2 : Nat},
    A.handled = none → A.frames = some [envOfC qual (fnScope (Mine.pre.heap_1_1 w.params) 968) L f cdv] → A.depth ≤ 305 → A.units ≤ 305 → (Mine.pre.heap_1_1 w.params).In h₀ → Top Mine.pre.view_1_2 lse mean mg mb h₀ →
    Lw (prog := PySem.Challenge.rw_bb0016_01.row.prog) w (PySem.strKind _ w) C on h₀ L m s.heap σ → σ.o4.data = .cell (some (.str k t)) → Ops (prog := PySem.Challenge.rw_bb0016_01.row.prog) Mine.pre.heap_1_1 Mine.pre.view_1_2 (fun w => PySem.strKind PySem.Challenge.rw_bb0016_01.row.prog w) C on gfn sfn pfn touch → m (Str.ofString "having") = some (.ref Hv) → m (Str.ofString "worths") = some (.ref Wv) → (Hv, W.listOf #[] n1) ∈ σ.all → (Wv, W.listOf #[] n2) ∈ σ.all → k ∉ keys (heldC σ.cs) → k ∉ keys σ.W.seg →
    (∀ h' tk m' all' Lr', Fr h₀ L h' m' → News h₀ L h' (cel5 L σ ++ all') → Lq w (PySem.strKind PySem.Challenge.rw_bb0016_01.row.prog w) C on L m' { σ with W := ⟨σ.W.c, out k σ.W.seg⟩, row := out k σ.row, Lr := Lr', all := all' } → Q .next { s with heap := h', toks := tk }) →
    wpAny (model PySem.Challenge.rw_bb0016_01.row.prog w) A (execs (subS (nthS (elsS (nthS (elsS (nthS (subS (nthS (fnBody (Mine.pre.heap_1_1 w.params) 968) 6)) 6)) 0)) 0)) (envOfC qual (fnScope (Mine.pre.heap_1_1 w.params) 968) L f cdv)) Q E s) := by
  refine ⟨?_⟩
  k_fill
  intro w s A E h₀ L f C on cdv qual Q m mean mg mb lse σ
  intro k t gfn sfn pfn Hv Wv touch n1 n2 hh hA hd hu X T S d4 ops mh mw hHv hWv hkc hkW hQ
  obtain ⟨e1, e2⟩ := fnBody_eq (K := Mine.pre.heap_1_1 w.params) (f := 968) (by k_is)
  have kf := (@Box.out _ kinds w L).1
  rw [e1, e2]
  rw [e2] at hA kf
  clear e1 e2
  dsimp only [nthS, subS, elsS, tstS]
  have S0 := S
  obtain ⟨F, N, qL⟩ := S
  have d1 := qL.d1
  have d2 := qL.d2
  have d3 := qL.d3
  dsimp only [cel5, List.cons_append, List.nil_append] at N
  walk_at "GOU"
  rename Fr _ _ _ _ => F1
  refine Lq.lostW [] ops.lost qL F1 X (by walk_at "CUT") T hh hA rfl rfl (Nat.le_trans hd (by decide)) (Nat.le_trans hu (by decide)) hkW trivial fun h2 tk2 all2 F2 N2 S2 => ?_
  (try clear F1)
  have hHv2 := S2.keep _ hHv .list
  have hWv2 := S2.keep _ hWv .list
  have q2 := S2.q
  dsimp only [cel5, List.cons_append, List.nil_append] at N2
  walk_at "GOU"
  rename Fr _ _ _ _ => F3
  refine Lq.popMW (σ := { σ with all := all2 }) [] (ops.cf _) q2 F3 X (by walk_at "CUT") ?_
  dsimp only
  walk_at "GOU"
  rename Fr _ _ _ _ => F3
  refine Lq.popDW (σ := { σ with all := all2 }) [] ops.popd q2 F3 X (by walk_at "CUT") T hh hA rfl rfl (Nat.le_trans hd (by decide)) (Nat.le_trans hu (by decide)) trivial fun h4 tk4 v4 all4 F4 N4 q4 keep4 off4 hv4 => ?_
  have hv4' : v4 = .none := by
    rcases hv4 with ⟨_, z⟩ | ⟨p4, t4, z, rfl⟩
    · exact z
    · exact absurd (keys_mem z) hkW
  subst hv4'
  clear hv4
  have hWv4 := keep4 _ hWv2 .list
  dsimp only [cel5, List.cons_append, List.nil_append] at N4
  walk_at "GOA"
  rename Fr _ _ _ _ => F5
  rename News _ _ _ _ => N5x
  have N5 := Mine.News.cutTo (l' := cel5 L { σ with W := ⟨σ.W.c, out k σ.W.seg⟩, all := all4 } ++ all4) N5x (by walk_at "TAILP")
  clear N5x
  obtain ⟨rvs, nr, hr, hR⟩ := q4.rows
  have r1 := q4.r1
  have hrl := q4.rl
  have hrv := hR.1
  dsimp only at hr hR r1 hrl hrv
  refine comp1_assign F5 (by rfl) (by with_unfolding_all rfl) (by decide) (by rfl) (by decide) (by rfl) (by rfl) (by rfl) ?_
  walk_at "GOT"
  have src : ∀ all', Kept w (PySem.strKind PySem.Challenge.rw_bb0016_01.row.prog w) C on L m { σ with W := ⟨σ.W.c, out k σ.W.seg⟩, all := all4 } all' → LCg.SrcAt h₀ σ.Lr rvs.toArray (cel5 L { σ with W := ⟨σ.W.c, out k σ.W.seg⟩, all := all4 } ++ all') := fun all' K => src_all (K.keep _ hr .list)
  refine Or.inl ⟨_, rvs.toArray, _, LookInv w (PySem.strKind PySem.Challenge.rw_bb0016_01.row.prog w) C on L m { σ with W := ⟨σ.W.c, out k σ.W.seg⟩, all := all4 } fun i ys => RowIs ys (out k (σ.row.take i)) all4, rfl, hh, F5, N5, src _ (Same.refl q4).kept, by rw [sizeLine_eq, List.size_toArray]; omega, ⟨all4, rfl, Same.refl q4, RowIs.nil⟩, ?fin, ?step⟩
  case step =>
    rintro i' ys news v hi' ⟨all', rfl, Sm, hI⟩ hv I oI C' oC D m₂ h tk E' hC hB F' N' off ne
    have hB' : m₂ (Str.ofString "pair") = some v := hB
    clear hB
    have hj : i' < σ.row.length := by rw [List.size_toArray] at hi'; omega
    have hpr : σ.row[i']? = some σ.row[i'] := by simp [hj]
    obtain ⟨T', t', u', rfl, hm⟩ := hR.2 i' v σ.row[i'] (by simpa using hv) hpr
    have hm' := Sm.keep _ hm .tup
    have hs := take_out (k := k) hpr
    clear hpr
    generalize σ.row[i'] = pr at hm hm' hs
    refine wpAny_tests_one ?_
    dsimp only [cel5, List.cons_append, List.nil_append] at N'
    (try clear N5); (try clear F5)
    walk_at "GOT"
    · rename (_ != _) = true => e
      exact look_end' (σ := { σ with W := ⟨σ.W.c, out k σ.W.seg⟩, all := all4 }) (all := all') (by assumption) (by assumption) off (src _ Sm.kept) Sm (by rw [hs, if_pos (by simpa using e)]; exact hI.snoc hm)
    · rename (_ != _) = false => e
      exact look_end (σ := { σ with W := ⟨σ.W.c, out k σ.W.seg⟩, all := all4 }) (all := all') (by assumption) (by assumption) off (src _ Sm.kept) Sm (by rw [hs, if_neg (by simpa using e), List.append_nil]; exact hI)
  case fin =>
    rintro ys news ⟨all', rfl, Sm, hI⟩ D h tk F' N' o1
    have oD := Off1.off o1
    have e5 : σ.row.take rvs.toArray.size = σ.row := List.take_of_length_le (by rw [List.size_toArray]; omega)
    rw [e5] at hI
    have K5 := Sm.kept.grow (o := LCg.lst ys) (notCell_of (L := L) (σ := { σ with W := ⟨σ.W.c, out k σ.W.seg⟩, all := all4 }) oD)
    have hI5 : RowIs ys (out k σ.row) ((D, LCg.lst ys) :: all') := hI.mono fun p hp hn => List.mem_cons_of_mem _ (Sm.keep p hp hn)
    have hl5 := out_len k σ.row
    have N6 : News h₀ L h (cel5 L { σ with W := ⟨σ.W.c, out k σ.W.seg⟩, all := all4 } ++ (D, LCg.lst ys) :: all') := fun p hp => N' p (by simp only [List.mem_append, List.mem_cons] at hp ⊢; grind)
    exact wpAny_execs_nil (hQ h tk _ _ D F' N6 (K5.q.setRow (D := D) (ys := ys) (n := ys.length) (by simp) hI5 rfl rfl (Nat.le_trans hl5 hrl)))
set_option maxRecDepth 100000 in
set_option maxHeartbeats 6000000 in
theorem d3a : Box (∀ {w : World} {s : Shared} {A : Around} {E : Value → Shared → Prop} {h₀ : Heap} {L f C : Addr} {on : Str} {cdv : Value} {qual : Str} {Q : Flow → Shared → Prop} {m : Str → Option Value} {mean : ExcName → Option Value} {mg mb : Str → Option Value} {lse : List Str} {σ : LSt} {gfn sfn pfn : Addr} {touch : Bool},
    A.handled = none → A.frames = some [envOfC qual (fnScope (Mine.pre.heap_1_1 w.params) 968) L f cdv] → A.depth ≤ 305 → A.units ≤ 305 → (Mine.pre.heap_1_1 w.params).In h₀ → Top Mine.pre.view_1_2 lse mean mg mb h₀ →
    Lw (prog := PySem.Challenge.rw_bb0016_01.row.prog) w (PySem.strKind _ w) C on h₀ L m s.heap σ → Ops (prog := PySem.Challenge.rw_bb0016_01.row.prog) Mine.pre.heap_1_1 Mine.pre.view_1_2 (fun w => PySem.strKind PySem.Challenge.rw_bb0016_01.row.prog w) C on gfn sfn pfn touch → livs σ.cs σ.cs.length ≠ [] →
    (∀ h' tk m' all' (j : Nat) tj, Fr h₀ L h' m' → News h₀ L h' (cel5 L σ ++ all') → Kept w (PySem.strKind PySem.Challenge.rw_bb0016_01.row.prog w) C on L m' σ all' → j ∈ livs σ.cs σ.cs.length → (∀ a ∈ livs σ.cs σ.cs.length, a ≤ j) → m' (Str.ofString "last") = some (.int (j : Int) tj) → (∀ y, y ≠ Str.ofString "last" → m' y = m y) → Q .next { s with heap := h', toks := tk }) →
    wpAny (model PySem.Challenge.rw_bb0016_01.row.prog w) A (exec (nthS (subS (nthS (elsS (nthS (elsS (nthS (elsS (nthS (subS (nthS (fnBody (Mine.pre.heap_1_1 w.params) 968) 6)) 6)) 0)) 0)) 0)) 0) (envOfC qual (fnScope (Mine.pre.heap_1_1 w.params) 968) L f cdv)) Q E s) := by
  refine ⟨?_⟩
  k_fill
  intro w s A E h₀ L f C on cdv qual Q m mean mg mb lse σ
  intro gfn sfn pfn touch hh hA hd hu X T S ops hne hQ
  obtain ⟨e1, e2⟩ := fnBody_eq (K := Mine.pre.heap_1_1 w.params) (f := 968) (by k_is)
  have kf := (@Box.out _ kinds w L).1
  rw [e1, e2]
  rw [e2] at hA kf
  clear e1 e2
  dsimp only [nthS, subS, elsS, tstS]
  have S0 := S
  obtain ⟨F, N, qL⟩ := S
  have d1 := qL.d1
  have d2 := qL.d2
  have d3 := qL.d3
  dsimp only [cel5, List.cons_append, List.nil_append] at N
  obtain ⟨nch, hch⟩ := qL.chain
  have hlen := qL.len
  walk_at "GOS"
  rename Fr _ _ _ _ => F1
  refine comp1_eval F1 (by with_unfolding_all rfl) (by decide) (by rfl) (by decide) (by rfl) ?_
  walk_at "GOS"
  rename IsRange _ _ _ _ _ _ _ _ => R1
  rename Fr _ _ _ _ => F1
  rename News _ _ _ _ => N1
  refine Or.inr ⟨_, _, _, _, _, _, σ.cs.length, _, LookInv w (PySem.strKind PySem.Challenge.rw_bb0016_01.row.prog w) C on L m σ fun i ys => IntsAre ys ((livs σ.cs i).map fun (j : Nat) => (j : Int)), rfl, hh, F1, N1, R1, small_one (by omega) (by omega) (by omega) (by omega), rangeSize_nat _ _, by rw [sizeLine_eq]; omega, ⟨σ.all, rfl, Same.refl qL, .nil⟩, ?fin, ?step⟩
  case fin =>
    rintro ys news ⟨all', rfl, Sm, hI⟩ D h tk F' N' o1
    have oD := Off1.off o1
    have K5 := Sm.kept.grow (o := LCg.lst ys) (notCell_of (L := L) (σ := σ) oD)
    walk_at "GOS"
    refine kso_max F' N' (News.isList N' List.mem_cons_self) hI (by rw [List.length_map]; exact List.length_pos_iff.mpr hne) hh fun h2 M t2 tk2 F2 N2 hM1 hM2 => ?_
    obtain ⟨j, hj, rfl⟩ := List.mem_map.mp hM1
    walk_at "GOS"
    rename Fr _ _ _ _ => F3
    rename News _ _ _ _ => N3
    exact hQ _ _ _ ((D, LCg.lst ys) :: all') j t2 F3 (News.cutTo N3 (by intro q hq; simp only [tupO, List.mem_append, List.mem_cons, List.not_mem_nil, or_false] at hq ⊢; grind)) (K5.names rfl rfl) hj (fun a ha => by have := hM2 _ (List.mem_map.mpr ⟨a, ha, rfl⟩); omega) (by simp) (fun y hy => by simp [hy])
  case step =>
    rintro i ys news v hi ⟨all', rfl, Sm, hI⟩ ⟨ti, rfl⟩ I oI C' oC D m₂ h tk E' hC hB F' N' off ne
    refine wpAny_tests_one ?_
    dsimp only [cel5, List.cons_append, List.nil_append] at N'
    clear N1 F1 R1; (try clear N); (try clear F)
    walk_at "GOS"
    obtain ⟨b, hb⟩ : ∃ b, σ.cs[i]? = some b := ⟨σ.cs[i], by simp [hi]⟩
    refine Sm.q.item [(I, oI), (C', oC), (D, LCg.lst ys)] N' hb (Int.zero_add _) ?_
    walk_at "GOL"
    refine Lq.lenC (seg := b.seg) (c := b.c) [(I, oI), (C', oC), (D, LCg.lst ys)] ops.len (ops.cf _) Sm.q F' X N' T hh hA rfl rfl (Nat.le_trans hd (by decide)) (Nat.le_trans hu (by decide)) hb (Mine.Off3.offs (L := L) (σ := σ) off) fun h2 tk2 t2 all2 F2 N2 S2 bnd => ?_
    dsimp only [cel5, List.cons_append, List.nil_append] at N2
    clear N' F'
    have hs := livs_succ σ.cs i
    have off2 := Mine.Off3.same (L := L) (σ := σ) off S2.off
    have S3 := Sm.trans S2
    have hl : livAt σ.cs i = decide (b.seg ≠ []) := by unfold livAt; rw [hb]; rfl
    walk_at "GOS"
    · rename _ < _ => e
      exact look_end' (by assumption) (by assumption) off2 trivial S3 (by rw [hs, hl, if_pos (by simp only [decide_eq_true_eq]; intro z; rw [z] at e; simp at e), List.map_append, Int.zero_add]; exact ints_snoc hI)
    · rename ¬ _ < _ => e
      exact look_end (by assumption) (by assumption) off2 trivial S3 (by rw [hs, hl, if_neg (by simp only [decide_eq_true_eq]; intro z; exact e (by have := List.length_pos_iff.mpr z; omega)), List.append_nil]; exact hI)
set_option maxRecDepth 100000 in
set_option maxHeartbeats 6000000 in
theorem d3b : Box (∀ {w : World} {s : Shared} {A : Around} {E : Value → Shared → Prop} {h₀ : Heap} {L f C : Addr} {on : Str} {cdv : Value} {qual : Str} {Q : Flow → Shared → Prop} {m : Str → Option Value} {mean : ExcName → Option Value} {mg mb : Str → Option Value} {lse : List Str} {σ : LSt} {gfn sfn pfn : Addr} {touch : Bool} {j : Nat} {tj : Tok} {c : Loc} {seg wseg row' : Seg} {y : Str × Int},
    A.handled = none → A.frames = some [envOfC qual (fnScope (Mine.pre.heap_1_1 w.params) 968) L f cdv] → A.depth ≤ 305 → A.units ≤ 305 → (Mine.pre.heap_1_1 w.params).In h₀ → Top Mine.pre.view_1_2 lse mean mg mb h₀ →
    Lw (prog := PySem.Challenge.rw_bb0016_01.row.prog) w (PySem.strKind _ w) C on h₀ L m s.heap σ → Ops (prog := PySem.Challenge.rw_bb0016_01.row.prog) Mine.pre.heap_1_1 Mine.pre.view_1_2 (fun w => PySem.strKind PySem.Challenge.rw_bb0016_01.row.prog w) C on gfn sfn pfn touch → m (Str.ofString "last") = some (.int (j : Int) tj) → σ.cs[j]? = some ⟨c, seg ++ [y]⟩ → σ.W.seg = wseg ++ [y] → σ.row = row' ++ [y] → PyData.strOk y.1 = true →
    (∀ h' tk all', Fr h₀ L h' m → News h₀ L h' (cel5 L σ ++ all') → Lq w (PySem.strKind PySem.Challenge.rw_bb0016_01.row.prog w) C on L m { σ with cs := σ.cs.set j ⟨c, seg⟩, W := ⟨σ.W.c, wseg⟩, all := all' } → Q .next { s with heap := h', toks := tk }) →
    wpAny (model PySem.Challenge.rw_bb0016_01.row.prog w) A (exec (nthS (subS (nthS (elsS (nthS (elsS (nthS (elsS (nthS (subS (nthS (fnBody (Mine.pre.heap_1_1 w.params) 968) 6)) 6)) 0)) 0)) 0)) 1) (envOfC qual (fnScope (Mine.pre.heap_1_1 w.params) 968) L f cdv)) Q E s) := by
  refine ⟨?_⟩
  k_fill
  intro w s A E h₀ L f C on cdv qual Q m mean mg mb lse σ
  intro gfn sfn pfn touch j tj c seg wseg row' y hh hA hd hu X T S ops ml hj hW hr okY hQ
  obtain ⟨e1, e2⟩ := fnBody_eq (K := Mine.pre.heap_1_1 w.params) (f := 968) (by k_is)
  have kf := (@Box.out _ kinds w L).1
  rw [e1, e2]
  rw [e2] at hA kf
  clear e1 e2
  dsimp only [nthS, subS, elsS, tstS]
  have S0 := S
  obtain ⟨F, N, qL⟩ := S
  have d1 := qL.d1
  have d2 := qL.d2
  have d3 := qL.d3
  dsimp only [cel5, List.cons_append, List.nil_append] at N
  have pk := (ops.cf w.params).popiK
  obtain ⟨rvs, nr, hrm, hR⟩ := qL.rows
  rw [hr] at hR
  have hrl := qL.rl
  rw [hr] at hrl
  have r1 := qL.r1
  walk_at "GOS"
  rename Fr _ _ _ _ => F1
  refine Lq.item qL [] (by walk_at "CUT") hj rfl ?_
  refine Lq.popiMC [] (ops.cf _) qL F1 X (by walk_at "CUT") hj ?_
  dsimp only
  walk_at "GOS"
  rename Fr _ _ _ _ => F1
  refine Lq.popiC [] ops.popi qL F1 X (by walk_at "CUT") T hh hA rfl rfl (Nat.le_trans hd (by decide)) (Nat.le_trans hu (by decide)) hj (by simp) trivial fun h2 tk2 all2 seg' y' T1 t1 u1 he F2 N2 q2 keep2 off2 => ?_
  obtain ⟨rfl, hy⟩ := List.append_inj' he rfl
  obtain rfl : y = y' := by simpa using hy
  clear hy he
  have hrm2 := keep2 _ hrm .list
  have hR2 := hR.mono keep2
  (try clear F1)
  dsimp only [cel5, List.cons_append, List.nil_append] at N2
  walk_at "GOS"
  rename News _ _ _ _ => N3
  refine item_last N3 (by k_mem) hR2 hrl fun T3 t3 u3 hT3 => ?_
  walk_at "GOS"
  refine ne_pairs (p := y) (p' := y) N3 (by k_mem) (by k_mem) okY okY (Nat.lt_of_le_of_lt (Nat.add_le_add_right hu 64) (by decide)) ?_
  rw [show (!decide (y = y)) = false from by simp]
  walk_at "GOS"
  rename Fr _ _ _ _ => F3
  refine Lq.popiMW (σ := { σ with cs := σ.cs.set j ⟨c, seg⟩, all := all2 }) [] (ops.cf _) q2 F3 X (by walk_at "CUT") ?_
  dsimp only
  walk_at "GOS"
  rename Fr _ _ _ _ => F3
  refine Lq.popiW (σ := { σ with cs := σ.cs.set j ⟨c, seg⟩, all := all2 }) [] ops.popi q2 F3 X (by walk_at "CUT") T hh hA rfl rfl (Nat.le_trans hd (by decide)) (Nat.le_trans hu (by decide)) (by simp [hW]) trivial fun h4 tk4 all4 seg4 y4 T4 t4 u4 he F4 N4 q4 keep4 off4 => ?_
  obtain ⟨rfl, hy⟩ := List.append_inj' (hW.symm.trans he) rfl
  obtain rfl : y = y4 := by simpa using hy
  clear hy he
  have hrm4 := keep4 _ hrm2 .list
  have hR4 := hR2.mono keep4
  (try clear F3)
  (try clear N3)
  dsimp only [cel5, List.cons_append, List.nil_append] at N4
  walk_at "GOS"
  rename News _ _ _ _ => N5
  refine item_last N5 (by k_mem) hR4 hrl fun T5 t5 u5 hT5 => ?_
  walk_at "GOS"
  refine ne_pairs (p := y) (p' := y) N5 (by k_mem) (by k_mem) okY okY (Nat.lt_of_le_of_lt (Nat.add_le_add_right hu 64) (by decide)) ?_
  rw [show (!decide (y = y)) = false from by simp]
  walk_at "GOS"
  rename Fr _ _ _ _ => F6
  exact hQ _ _ all4 F6 (by walk_at "CUT") q4
set_option maxRecDepth 100000 in
set_option maxHeartbeats 6000000 in
theorem f7 : Box (∀ {w : World} {s : Shared} {A : Around} {E : Value → Shared → Prop} {h₀ : Heap} {L f C : Addr} {on : Str} {cdv : Value} {qual : Str} {Q : Flow → Shared → Prop} {m : Str → Option Value} {mean : ExcName → Option Value} {mg mb : Str → Option Value} {lse : List Str} {σ : LSt} ,
    A.handled = none → A.frames = some [envOfC qual (fnScope (Mine.pre.heap_1_1 w.params) 968) L f cdv] → A.depth ≤ 305 → A.units ≤ 305 → (Mine.pre.heap_1_1 w.params).In h₀ → Top Mine.pre.view_1_2 lse mean mg mb h₀ →
    Lw (prog := PySem.Challenge.rw_bb0016_01.row.prog) w (PySem.strKind _ w) C on h₀ L m s.heap σ → 
    (∀ h' tk m' all' G, Fr h₀ L h' m' → News h₀ L h' (cel5 L σ ++ all') → Kept w (PySem.strKind PySem.Challenge.rw_bb0016_01.row.prog w) C on L m' σ all' → (G, W.listOf #[] 0) ∈ all' → m' (Str.ofString "given") = some (.ref G) → Q .next { s with heap := h', toks := tk }) →
    wpAny (model PySem.Challenge.rw_bb0016_01.row.prog w) A (exec (nthS (fnBody (Mine.pre.heap_1_1 w.params) 968) 7) (envOfC qual (fnScope (Mine.pre.heap_1_1 w.params) 968) L f cdv)) Q E s) := by
  refine ⟨?_⟩
  k_fill
  intro w s A E h₀ L f C on cdv qual Q m mean mg mb lse σ
  intro hh hA hd hu X T S hQ
  obtain ⟨e1, e2⟩ := fnBody_eq (K := Mine.pre.heap_1_1 w.params) (f := 968) (by k_is)
  have kf := (@Box.out _ kinds w L).1
  rw [e1, e2]
  rw [e2] at hA kf
  clear e1 e2
  dsimp only [nthS, subS, elsS, tstS]
  have S0 := S
  obtain ⟨F, N, qL⟩ := S
  have d1 := qL.d1
  have d2 := qL.d2
  have d3 := qL.d3
  dsimp only [cel5, List.cons_append, List.nil_append] at N
  walk_at "GOT"
  rename Fr _ _ _ _ => F1
  rename News _ _ _ _ => N1
  rename_i G hp1 l1 hp2
  have nG : NotCell L G := Lq.notCell (o := W.listOf #[] 0) qL N1 (fun p hp => by simp only [cel5, List.mem_cons, List.not_mem_nil, or_false] at hp ⊢; grind) (by simp) (fun v => by simp)
  exact hQ _ _ _ ((G, W.listOf #[] 0) :: σ.all) G F1 (News.cutTo N1 (by intro q hq; simp only [tupO, List.mem_append, List.mem_cons, List.not_mem_nil, or_false] at hq ⊢; grind)) (((Same.refl qL).kept.grow (o := W.listOf #[] 0) nG).names rfl rfl) List.mem_cons_self (by simp) 
set_option maxRecDepth 100000 in
set_option maxHeartbeats 6000000 in
theorem f10 : Box (∀ {w : World} {s : Shared} {A : Around} {E : Value → Shared → Prop} {h₀ : Heap} {L f C : Addr} {on : Str} {cdv : Value} {qual : Str} {Q : Flow → Shared → Prop} {m : Str → Option Value} {mean : ExcName → Option Value} {mg mb : Str → Option Value} {lse : List Str} {σ : LSt} ,
    A.handled = none → A.frames = some [envOfC qual (fnScope (Mine.pre.heap_1_1 w.params) 968) L f cdv] → A.depth ≤ 305 → A.units ≤ 305 → (Mine.pre.heap_1_1 w.params).In h₀ → Top Mine.pre.view_1_2 lse mean mg mb h₀ →
    Lw (prog := PySem.Challenge.rw_bb0016_01.row.prog) w (PySem.strKind _ w) C on h₀ L m s.heap σ → 
    (∀ h2 tk m' t, Lw (prog := PySem.Challenge.rw_bb0016_01.row.prog) w (PySem.strKind _ w) C on h₀ L m' h2 σ → m' (Str.ofString "refused") = some (.int 0 t) → (∀ y, y ≠ Str.ofString "refused" → m' y = m y) → Q .next { s with heap := h2, toks := tk }) →
    wpAny (model PySem.Challenge.rw_bb0016_01.row.prog w) A (exec (nthS (fnBody (Mine.pre.heap_1_1 w.params) 968) 10) (envOfC qual (fnScope (Mine.pre.heap_1_1 w.params) 968) L f cdv)) Q E s) := by
  refine ⟨?_⟩
  k_fill
  intro w s A E h₀ L f C on cdv qual Q m mean mg mb lse σ
  intro hh hA hd hu X T S hQ
  obtain ⟨e1, e2⟩ := fnBody_eq (K := Mine.pre.heap_1_1 w.params) (f := 968) (by k_is)
  have kf := (@Box.out _ kinds w L).1
  rw [e1, e2]
  rw [e2] at hA kf
  clear e1 e2
  dsimp only [nthS, subS, elsS, tstS]
  have S0 := S
  obtain ⟨F, N, qL⟩ := S
  have d1 := qL.d1
  have d2 := qL.d2
  have d3 := qL.d3
  dsimp only [cel5, List.cons_append, List.nil_append] at N
  walk_at "GOT"
  rename Fr _ _ _ _ => F1
  rename News _ _ _ _ => N1
  exact hQ _ _ _ _ (S0.move F1 N1 (fun p hp => hp) rfl rfl) (if_pos rfl) (fun y hy => by simp [hy])
set_option maxRecDepth 100000 in
set_option maxHeartbeats 6000000 in
theorem f11 : Box (∀ {w : World} {s : Shared} {A : Around} {E : Value → Shared → Prop} {h₀ : Heap} {L f C : Addr} {on : Str} {cdv : Value} {qual : Str} {Q : Flow → Shared → Prop} {m : Str → Option Value} {mean : ExcName → Option Value} {mg mb : Str → Option Value} {lse : List Str} {σ : LSt} {gfn sfn pfn : Addr} {touch : Bool} {t0 : Tok},
    A.handled = none → A.frames = some [envOfC qual (fnScope (Mine.pre.heap_1_1 w.params) 968) L f cdv] → A.depth ≤ 305 → A.units ≤ 305 → (Mine.pre.heap_1_1 w.params).In h₀ → Top Mine.pre.view_1_2 lse mean mg mb h₀ →
    Lw (prog := PySem.Challenge.rw_bb0016_01.row.prog) w (PySem.strKind _ w) C on h₀ L m s.heap σ → Ops (prog := PySem.Challenge.rw_bb0016_01.row.prog) Mine.pre.heap_1_1 Mine.pre.view_1_2 (fun w => PySem.strKind PySem.Challenge.rw_bb0016_01.row.prog w) C on gfn sfn pfn touch → PopNone (prog := PySem.Challenge.rw_bb0016_01.row.prog) Mine.pre.heap_1_1 Mine.pre.view_1_2 (fun w => PySem.strKind PySem.Challenge.rw_bb0016_01.row.prog w) C on pfn → m (Str.ofString "refused") = some (.int 0 t0) → σ.W.seg = [] → (∀ b ∈ σ.cs, b.seg = []) → PassesOwn (model PySem.Challenge.rw_bb0016_01.row.prog w) A (envOfC qual (fnScope (Mine.pre.heap_1_1 w.params) 968) L f cdv) E → (∀ e, PassesOwnAt (model PySem.Challenge.rw_bb0016_01.row.prog w) (A.mark (some (.ref e))) A (envOfC qual (fnScope (Mine.pre.heap_1_1 w.params) 968) L f cdv) E) →
    (∀ h' tk m' all' t, Fr h₀ L h' m' → News h₀ L h' (cel5 L σ ++ all') → Lq w (PySem.strKind PySem.Challenge.rw_bb0016_01.row.prog w) C on L m' { σ with all := all' } → m' (Str.ofString "refused") = some (.int (1 + (σ.cs.length : Int)) t) → Q .next { s with heap := h', toks := tk }) →
    wpAny (model PySem.Challenge.rw_bb0016_01.row.prog w) A (exec (nthS (fnBody (Mine.pre.heap_1_1 w.params) 968) 11) (envOfC qual (fnScope (Mine.pre.heap_1_1 w.params) 968) L f cdv)) Q E s) := by
  refine ⟨?_⟩
  k_fill
  intro w s A E h₀ L f C on cdv qual Q m mean mg mb lse σ
  intro gfn sfn pfn touch t0 hh hA hd hu X T S ops pn mr0 hW0 hC0
  obtain ⟨e1, e2⟩ := fnBody_eq (K := Mine.pre.heap_1_1 w.params) (f := 968) (by k_is)
  have kf := (@Box.out _ kinds w L).1
  rw [e1, e2]
  rw [e2] at hA kf
  clear e1 e2
  dsimp only [nthS, subS, elsS, tstS]
  have S0 := S
  obtain ⟨F, N, qL⟩ := S
  have d1 := qL.d1
  have d2 := qL.d2
  have d3 := qL.d3
  dsimp only [cel5, List.cons_append, List.nil_append] at N
  intro hE hE2 hQ
  have pk := (ops.cf w.params).popiK
  obtain ⟨nch, hch⟩ := qL.chain
  have hlen := qL.len
  refine for_listJ (items := refs (σ.W :: σ.cs)) hh (FJ (fun w => PySem.strKind PySem.Challenge.rw_bb0016_01.row.prog w) C on w h₀ L σ s) ?src ?live ?turn ?fin (hE := hE)
  case src =>
    walk_at "GOF"
    rename Fr _ _ _ _ => F1
    rename News _ _ _ _ => N1
    rename_i D0 hp1 l1
    have q1 := qL.grow (o := W.listOf #[.ref σ.W.c.x] 0) (Lq.notCell (T := D0) (o := W.listOf #[.ref σ.W.c.x] 0) qL N1 (by intro q hq; simp only [cel5, List.mem_cons, List.not_mem_nil, or_false] at hq ⊢; grind) (by k_mem) (fun v => by simp))
    have N1' : News h₀ L hp1 (cel5 L σ ++ (D0, W.listOf #[.ref σ.W.c.x] 0) :: σ.all) := News.cutTo N1 (by intro q hq; simp only [tupO, List.mem_append, List.mem_cons, List.not_mem_nil, or_false] at hq ⊢; grind)
    refine kmk_add_lit (zs := refs (σ.W :: σ.cs)) F1 N1' (News.isList N1' (List.mem_append_right _ List.mem_cons_self)) (News.isList N1' (List.mem_append_right _ (List.mem_cons_of_mem _ hch))) (by simp) (fun D2 h2 F2 N2 l2 => ?_) (by rw [sizeLine_eq]; simp; omega)
    have q2 := q1.grow (o := W.listOf (refs (σ.W :: σ.cs)).toArray 0) (notCell_of (L := L) (σ := { σ with all := (D0, W.listOf #[.ref σ.W.c.x] 0) :: σ.all }) (off_new l2))
    have N2' : News h₀ L h2 (cel5 L σ ++ (D2, W.listOf (refs (σ.W :: σ.cs)).toArray 0) :: (D0, W.listOf #[.ref σ.W.c.x] 0) :: σ.all) := News.cutTo N2 (by intro q hq; simp only [tupO, List.mem_append, List.mem_cons, List.not_mem_nil, or_false] at hq ⊢; grind)
    refine ⟨D2, rfl, News.isList N2' (by k_mem), fun h3 hit k => ?_⟩
    dsimp only at hit k
    obtain ⟨oI, hI, hIc, hId⟩ := id hit
    refine ⟨h3, _, m, (D2, W.listOf (refs (σ.W :: σ.cs)).toArray 0) :: (D0, W.listOf #[.ref σ.W.c.x] 0) :: σ.all, oI, 0, t0, rfl, F2.keeps k, ?_, fun p hp => Nat.ne_of_lt (Heap.lt_size (N2' p hp).1), hit, List.mem_cons_self, q2, mr0⟩
    intro p hp
    rcases List.mem_cons.mp hp with rfl | hp
    · exact ⟨hI, Nat.ne_of_gt F2.ns.lt, next_is_new F2⟩
    · exact N2'.grown k p hp
  case live =>
    rintro i I ax s' ⟨h, tk, m', all, oI, nx, t, rfl, F1, N1, oI1, hit, hax, _⟩
    exact ⟨hit, News.isList N1 (List.mem_cons_of_mem _ (List.mem_append_right _ hax)), oI1 _ (List.mem_append_right _ hax)⟩
  case fin =>
    rintro I ax s' h' ⟨h, tk, m', all, oI, nx, t, rfl, F1, N1, oI1, hit, hax, q1, mR⟩ k
    obtain ⟨F2, N2⟩ : Fr h₀ L h' m' ∧ News h₀ L h' (cel5 L σ ++ all) := by
      have zI := N1 (I, oI) (by simp)
      exact ⟨⟨F1.ns.at' fun o e => k _ o (Ne.symm zI.2.1) e, fun b o e => k b o (fun q => by rw [q, zI.2.2] at e; cases e) (F1.keep b o e), F1.above⟩, fun p hp => by
        have z := N1 p (List.mem_cons_of_mem _ hp)
        exact ⟨k _ _ (oI1 p hp) z.1, z.2⟩⟩
    have el : (((refs (σ.W :: σ.cs)).length : Nat) : Int) = 1 + (σ.cs.length : Int) := by rw [List.length_map, List.length_cons]; omega
    rw [el] at mR
    exact hQ h' tk m' all t F2 N2 q1 mR
  case turn =>
    rintro i I ax v s' h' hv ⟨h, tk, m', all, oI, nx, t, rfl, F1, N1, oI1, hit0, hax, q1, mR⟩ hit k
    obtain ⟨oJ, nJ, nJc, hitJ, F2, N2⟩ := iter_step F1 N1 oI1 hit k
    clear F1 N1 k hit hit0
    obtain ⟨b, hbi, rfl⟩ : ∃ b, (σ.W :: σ.cs)[i]? = some b ∧ v = .ref b.c.x := by
      rw [List.getElem?_map] at hv
      obtain ⟨b, hb, e⟩ := Option.map_eq_some_iff.mp hv
      exact ⟨b, hb, e.symm⟩
    have hb : b ∈ σ.W :: σ.cs := List.mem_of_getElem? hbi
    have hbe : b.seg = [] := by
      rcases List.mem_cons.mp hb with rfl | h1
      · exact hW0
      · exact hC0 b h1
    have hi4 : i < 4 := by have := (List.getElem?_eq_some_iff.mp hbi).1; rw [List.length_cons] at this; omega
    have d2' := q1.d2
    dsimp only [cel5, List.cons_append, List.nil_append] at N2
    walk_at "GOF"
    refine wpAny_Try_except ?_
    walk_at "GOF"
    rename Fr _ _ _ _ => F3
    refine Lq.popiMB (σ := { σ with all := all }) [(I, oJ)] (ops.cf _) q1 F3 X (by walk_at "CUT") hb ?_
    walk_at "GOF"
    rename Fr _ _ _ _ => F3
    refine Lq.popiNone (σ := { σ with all := all }) [(I, oJ)] pn q1 F3 X (by walk_at "CUT") T hh hA rfl rfl (Nat.le_trans hd (by decide)) (Nat.le_trans hu (by decide)) hb hbe fun h4 tk4 e4 R4 => ?_
    dsimp only
    refine caught_law (T' := "KeyError") hA R4 X T (by k_is) PyProof.Rows.Boot.«KeyError» kr_isExc_KeyError kr_notTuple_KeyError (by rw [isSubtype_type]; kernel_rfl) (hE2 _) fun h5 F5 N5 => ?_
    (try clear F3); (try clear N2); (try clear F2); (try clear R4)
    dsimp only [cel5, List.cons_append, List.nil_append] at N5
    walk_at "GOF"
    rename Fr _ _ _ _ => F6
    refine wpAny_loadName_local rfl rfl F6.ns mR ?_
    walk_at "GOF"
    rename Fr _ _ _ _ => F7
    rename News _ _ _ _ => N7
    have N8 : News h₀ L _ ((I, oJ) :: (cel5 L σ ++ all)) := News.cutTo N7 (by walk_at "TAILP")
    exact ⟨_, _, _, all, oJ, nx, _, rfl, F7, N8, oI1, hitJ _ (N8 (I, oJ) List.mem_cons_self).1, hax, q1.names rfl rfl, by simp; rfl⟩
set_option maxRecDepth 100000 in
set_option maxHeartbeats 6000000 in
theorem f12 : Box (∀ {w : World} {s : Shared} {A : Around} {E : Value → Shared → Prop} {h₀ : Heap} {L f C : Addr} {on : Str} {cdv : Value} {qual : Str} {Q : Flow → Shared → Prop} {m : Str → Option Value} {mean : ExcName → Option Value} {mg mb : Str → Option Value} {lse : List Str} {σ : LSt} {r : Int} {tr : Tok},
    A.handled = none → A.frames = some [envOfC qual (fnScope (Mine.pre.heap_1_1 w.params) 968) L f cdv] → A.depth ≤ 305 → A.units ≤ 305 → (Mine.pre.heap_1_1 w.params).In h₀ → Top Mine.pre.view_1_2 lse mean mg mb h₀ →
    Lw (prog := PySem.Challenge.rw_bb0016_01.row.prog) w (PySem.strKind _ w) C on h₀ L m s.heap σ → m (Str.ofString "refused") = some (.int r tr) → r = 1 + (σ.cs.length : Int) →
    (∀ h2 tk m', Fr h₀ L h2 m' → Q (.ret (.bool true)) { s with heap := h2, toks := tk }) →
    wpAny (model PySem.Challenge.rw_bb0016_01.row.prog w) A (exec (nthS (fnBody (Mine.pre.heap_1_1 w.params) 968) 12) (envOfC qual (fnScope (Mine.pre.heap_1_1 w.params) 968) L f cdv)) Q E s) := by
  refine ⟨?_⟩
  k_fill
  intro w s A E h₀ L f C on cdv qual Q m mean mg mb lse σ
  intro r tr hh hA hd hu X T S mr hr hQ
  obtain ⟨e1, e2⟩ := fnBody_eq (K := Mine.pre.heap_1_1 w.params) (f := 968) (by k_is)
  have kf := (@Box.out _ kinds w L).1
  rw [e1, e2]
  rw [e2] at hA kf
  clear e1 e2
  dsimp only [nthS, subS, elsS, tstS]
  have S0 := S
  obtain ⟨F, N, qL⟩ := S
  have d1 := qL.d1
  have d2 := qL.d2
  have d3 := qL.d3
  dsimp only [cel5, List.cons_append, List.nil_append] at N
  obtain ⟨nch, hch⟩ := qL.chain
  have hlen := qL.len
  walk_at "GOT"
  subst hr
  rw [show (1 + (σ.cs.length : Int) == 1 + (σ.cs.length : Int)) = true from by simp]
  rename Fr _ _ _ _ => F9
  exact hQ _ _ _ F9
set_option maxRecDepth 100000 in
set_option maxHeartbeats 6000000 in
theorem p3F : Box (∀ {w : World} {s : Shared} {A : Around} {E : Value → Shared → Prop} {h₀ : Heap} {L f : Addr} {cdv : Value} {qual : Str} {Q : Flow → Shared → Prop} {m : Str → Option Value} {mean : ExcName → Option Value} {mg mb : Str → Option Value} {lse : List Str} {σ : LSt} {kt : Tok} {mvs : List Value} {rs : List Int} {n : Nat} {rest : List Stmt} {v2 : Option Value},
    A.handled = none → A.frames = some [(envOfC qual (fnScope (Mine.pre.heap_1_1 w.params) 968) L f cdv)] → A.depth ≤ 305 → A.units ≤ 305 → (Mine.pre.heap_1_1 w.params).In h₀ → Top Mine.pre.view_1_2 lse mean mg mb h₀ → InitOp (prog := PySem.Challenge.rw_bb0016_01.row.prog) Mine.pre.heap_1_1 Mine.pre.view_1_2 (fun w => PySem.strKind PySem.Challenge.rw_bb0016_01.row.prog w) 882 (Str.ofString "_FIFOCache__order") 849 →
    Fr h₀ L s.heap m → News h₀ L s.heap (cel5 L σ ++ σ.all) → NoCell L σ.all → σ.o1.data = .cell (some (.int 1 kt)) → m (Str.ofString "rooms") = some (.ref σ.Lm) → (σ.Lm, W.listOf mvs.toArray n) ∈ σ.all → IntsAre mvs rs → 2 ≤ rs.length → rs.length ≤ 3 → (∀ r ∈ rs, 1 ≤ r ∧ r ≤ 3) → σ.o2.data = .cell v2 →
    (∀ h' tk o2' cs all' Lc nc, Fr h₀ L h' m → News h₀ L h' (cel5 L { σ with o2 := o2' } ++ all') → Hold w.params (PySem.strKind PySem.Challenge.rw_bb0016_01.row.prog w) 882 (Str.ofString "_FIFOCache__order") cs all' → (∀ b ∈ cs, b.seg = []) → cs.map (·.c.mx) = rs → o2'.data = .cell (some (.ref Lc)) → (Lc, W.listOf (refs cs).toArray nc) ∈ all' → (∀ p ∈ σ.all, p ∈ all') → NoCell L all' →
      wpAny (model PySem.Challenge.rw_bb0016_01.row.prog w) A (execs rest (envOfC qual (fnScope (Mine.pre.heap_1_1 w.params) 968) L f cdv)) Q E { s with heap := h', toks := tk }) →
    wpAny (model PySem.Challenge.rw_bb0016_01.row.prog w) A (execs (nthS (fnBody (Mine.pre.heap_1_1 w.params) 968) 3 :: rest) (envOfC qual (fnScope (Mine.pre.heap_1_1 w.params) 968) L f cdv)) Q E s) := by
  refine ⟨?_⟩
  k_fill
  intro w s A E h₀ L f cdv qual Q m mean mg mb lse σ kt mvs rs n rest v2 hh hA hd hu X T io F N nc d1 mr hm hM l2 l3 hr d2
  obtain ⟨e1, e2⟩ := fnBody_eq (K := Mine.pre.heap_1_1 w.params) (f := 968) (by k_is)
  have kf := (@Box.out _ kinds w L).1
  rw [e1, e2]
  rw [e2] at hA kf
  clear e1 e2
  dsimp only [nthS, subS, elsS, tstS]
  intro hQ
  have hml := hM.length
  dsimp only [cel5, List.cons_append, List.nil_append] at N
  walk_at "GOV"
  rename Fr _ _ _ _ => F5
  rename News _ _ _ _ => N5
  refine comp1_eval F5 (by with_unfolding_all rfl) (by decide) (by rfl) (by decide) (by rfl) ?_
  walk_at "GOV"
  rename Fr _ _ _ _ => F6
  rename News _ _ _ _ => N6x
  have N6 := Mine.News.cutTo (l' := cel5 L σ ++ σ.all) N6x (by walk_at "TAILP")
  clear N6x
  refine Or.inl ⟨_, mvs.toArray, _, MkInv w (PySem.strKind PySem.Challenge.rw_bb0016_01.row.prog w) 882 (Str.ofString "_FIFOCache__order") L σ rs, rfl, hh, F6, N6, src_all hm, by rw [sizeLine_eq, List.size_toArray]; omega, ⟨[], σ.all, rfl, rfl, Hold.nil, fun _ h => (nomatch h), rfl, fun _ h => h, nc⟩, ?fin, ?step⟩
  case step =>
    rintro i ys news v hi ⟨cs, all', rfl, rfl, H, hseg, hmx, hsub, hnc⟩ hv I oI C' oC D m₂ h tk E' hC hB F' N' off ne
    have hi' : i < rs.length := by rw [List.size_toArray] at hi; omega
    obtain ⟨r, tr, rfl, hri⟩ := hM.at i v (by simpa using hv)
    have hr1 := hr r (List.mem_of_getElem? hri)
    refine wpAny_tests_nil ?_
    rw [if_pos rfl]
    dsimp only [cel5, List.cons_append, List.nil_append] at N'
    (try clear N6); (try clear F6); (try clear N5); (try clear F5); (try clear N); (try clear F)
    walk_at "GOV"
    rename Fr _ _ _ _ => F7
    refine InitOp.make io F7 X N' T hh hA rfl rfl (Nat.le_trans hd (by decide)) (Nat.le_trans hu (by decide)) (by k_is) (by k_is) (by k_is) hr1.1 (by omega) fun h2 tk2 c objs F2 N2 hc hcm dj => ?_
    (try clear F7); (try clear F')
    have djo : ∀ p ∈ objs, ∀ q ∈ all', @Ne Nat p.1 q.1 := fun p hp q hq => dj p hp q (by simp [hq])
    have hmx' : (cs ++ [(⟨c, []⟩ : Cell)]).map (·.c.mx) = rs.take (i + 1) := by rw [List.map_append, hmx, List.take_add_one, hri]; simp [hcm]
    refine ⟨h2, tk2, cel5 L σ ++ (objs ++ all'), rfl, F2, News.cutTo N2 ?_, off3_more off fun p hp => ⟨dj p hp _ List.mem_cons_self, dj p hp _ (List.mem_cons_of_mem _ List.mem_cons_self), dj p hp _ (List.mem_cons_of_mem _ (List.mem_cons_of_mem _ List.mem_cons_self))⟩, src_all (List.mem_append_right _ (hsub _ hm)), cs ++ [⟨c, []⟩], objs ++ all', rfl, by simp, H.snoc hc djo, fun b hb => ?_, hmx', fun p hp => List.mem_append_right _ (hsub p hp), hnc.apart (σ := σ) fun p hp q hq => dj p hp q ?_⟩
    · intro q hq
      simp only [cel5, List.mem_append, List.mem_cons, List.not_mem_nil, or_false] at hq ⊢
      grind
    · rcases List.mem_append.mp hb with hb | hb
      · exact hseg b hb
      · rw [List.mem_singleton.mp hb]
    · simp only [cel5, List.mem_append, List.mem_cons, List.not_mem_nil, or_false] at hq ⊢
      grind
  case fin =>
    rintro ys news ⟨cs, all', rfl, rfl, H, hseg, hmx, hsub, hnc⟩ D h tk F' N' o1
    have oD := Off1.off o1
    have hnc' : NoCell L ((D, LCg.lst (refs cs)) :: all') := hnc.new (σ := σ) oD
    rw [List.take_of_length_le (by rw [List.size_toArray]; omega)] at hmx
    (try clear N6); (try clear F6); (try clear N5); (try clear F5); (try clear N); (try clear F)
    have N6 : News h₀ L h (cel5 L σ ++ (D, LCg.lst (refs cs)) :: all') := fun p hp => N' p (by simp only [List.mem_append, List.mem_cons] at hp ⊢; grind)
    clear N'
    have N7 : News h₀ L h ([(L + 1 + 1 + 1 + 1 + 1, σ.o5), (L + 1 + 1 + 1 + 1, σ.o4), (L + 1 + 1 + 1, σ.o3)] ++ (L + 1 + 1, σ.o2) :: ((L + 1, σ.o1) :: ((D, LCg.lst (refs cs)) :: all'))) := News.cutTo N6 (by
      intro q hq
      simp only [cel5, List.mem_append, List.mem_cons, List.not_mem_nil, or_false] at hq ⊢
      grind)
    dsimp only [cel5, List.cons_append, List.nil_append] at N6
    walk_at "GOV"
    refine store_cell F' N7 d2 ?_ ?_ rfl rfl rfl fun h8 o2' F8 N8 d2' => ?_
    · intro p hp
      simp only [List.mem_cons, List.not_mem_nil, or_false] at hp
      rcases hp with rfl | rfl | rfl
      · exact Nat.ne_of_gt (Nat.lt_succ_of_lt (Nat.lt_succ_of_lt (Nat.lt_succ_self _)))
      · exact Nat.ne_of_gt (Nat.lt_succ_of_lt (Nat.lt_succ_self _))
      · exact Nat.ne_of_gt (Nat.lt_succ_self _)
    · exact Off.cons hnc'.2.1 (Nat.ne_of_lt (Nat.lt_succ_self _))
    · exact hQ _ _ o2' cs ((D, LCg.lst (refs cs)) :: all') D _ F8 (News.cutTo N8 (by
        intro q hq
        simp only [cel5, List.mem_append, List.mem_cons, List.not_mem_nil, or_false] at hq ⊢
        grind)) (H.mono fun p hp => List.mem_cons_of_mem _ hp) hseg hmx d2' List.mem_cons_self (fun p hp => List.mem_cons_of_mem _ (hsub p hp)) hnc'
set_option maxRecDepth 100000 in
set_option maxHeartbeats 6000000 in
theorem p3L : Box (∀ {w : World} {s : Shared} {A : Around} {E : Value → Shared → Prop} {h₀ : Heap} {L f : Addr} {cdv : Value} {qual : Str} {Q : Flow → Shared → Prop} {m : Str → Option Value} {mean : ExcName → Option Value} {mg mb : Str → Option Value} {lse : List Str} {σ : LSt} {kt : Tok} {mvs : List Value} {rs : List Int} {n : Nat} {rest : List Stmt} {v2 : Option Value},
    A.handled = none → A.frames = some [(envOfC qual (fnScope (Mine.pre.heap_1_1 w.params) 968) L f cdv)] → A.depth ≤ 305 → A.units ≤ 305 → (Mine.pre.heap_1_1 w.params).In h₀ → Top Mine.pre.view_1_2 lse mean mg mb h₀ → InitOp (prog := PySem.Challenge.rw_bb0016_01.row.prog) Mine.pre.heap_1_1 Mine.pre.view_1_2 (fun w => PySem.strKind PySem.Challenge.rw_bb0016_01.row.prog w) 947 (Str.ofString "_LRUCache__order") 899 →
    Fr h₀ L s.heap m → News h₀ L s.heap (cel5 L σ ++ σ.all) → NoCell L σ.all → σ.o1.data = .cell (some (.int 0 kt)) → m (Str.ofString "rooms") = some (.ref σ.Lm) → (σ.Lm, W.listOf mvs.toArray n) ∈ σ.all → IntsAre mvs rs → 2 ≤ rs.length → rs.length ≤ 3 → (∀ r ∈ rs, 1 ≤ r ∧ r ≤ 3) → σ.o2.data = .cell v2 →
    (∀ h' tk o2' cs all' Lc nc, Fr h₀ L h' m → News h₀ L h' (cel5 L { σ with o2 := o2' } ++ all') → Hold w.params (PySem.strKind PySem.Challenge.rw_bb0016_01.row.prog w) 947 (Str.ofString "_LRUCache__order") cs all' → (∀ b ∈ cs, b.seg = []) → cs.map (·.c.mx) = rs → o2'.data = .cell (some (.ref Lc)) → (Lc, W.listOf (refs cs).toArray nc) ∈ all' → (∀ p ∈ σ.all, p ∈ all') → NoCell L all' →
      wpAny (model PySem.Challenge.rw_bb0016_01.row.prog w) A (execs rest (envOfC qual (fnScope (Mine.pre.heap_1_1 w.params) 968) L f cdv)) Q E { s with heap := h', toks := tk }) →
    wpAny (model PySem.Challenge.rw_bb0016_01.row.prog w) A (execs (nthS (fnBody (Mine.pre.heap_1_1 w.params) 968) 3 :: rest) (envOfC qual (fnScope (Mine.pre.heap_1_1 w.params) 968) L f cdv)) Q E s) := by
  refine ⟨?_⟩
  k_fill
  intro w s A E h₀ L f cdv qual Q m mean mg mb lse σ kt mvs rs n rest v2 hh hA hd hu X T io F N nc d1 mr hm hM l2 l3 hr d2
  obtain ⟨e1, e2⟩ := fnBody_eq (K := Mine.pre.heap_1_1 w.params) (f := 968) (by k_is)
  have kf := (@Box.out _ kinds w L).1
  rw [e1, e2]
  rw [e2] at hA kf
  clear e1 e2
  dsimp only [nthS, subS, elsS, tstS]
  intro hQ
  have hml := hM.length
  dsimp only [cel5, List.cons_append, List.nil_append] at N
  walk_at "GOV"
  rename Fr _ _ _ _ => F5
  rename News _ _ _ _ => N5
  refine comp1_eval F5 (by with_unfolding_all rfl) (by decide) (by rfl) (by decide) (by rfl) ?_
  walk_at "GOV"
  rename Fr _ _ _ _ => F6
  rename News _ _ _ _ => N6x
  have N6 := Mine.News.cutTo (l' := cel5 L σ ++ σ.all) N6x (by walk_at "TAILP")
  clear N6x
  refine Or.inl ⟨_, mvs.toArray, _, MkInv w (PySem.strKind PySem.Challenge.rw_bb0016_01.row.prog w) 947 (Str.ofString "_LRUCache__order") L σ rs, rfl, hh, F6, N6, src_all hm, by rw [sizeLine_eq, List.size_toArray]; omega, ⟨[], σ.all, rfl, rfl, Hold.nil, fun _ h => (nomatch h), rfl, fun _ h => h, nc⟩, ?fin, ?step⟩
  case step =>
    rintro i ys news v hi ⟨cs, all', rfl, rfl, H, hseg, hmx, hsub, hnc⟩ hv I oI C' oC D m₂ h tk E' hC hB F' N' off ne
    have hi' : i < rs.length := by rw [List.size_toArray] at hi; omega
    obtain ⟨r, tr, rfl, hri⟩ := hM.at i v (by simpa using hv)
    have hr1 := hr r (List.mem_of_getElem? hri)
    refine wpAny_tests_nil ?_
    rw [if_pos rfl]
    dsimp only [cel5, List.cons_append, List.nil_append] at N'
    (try clear N6); (try clear F6); (try clear N5); (try clear F5); (try clear N); (try clear F)
    walk_at "GOV"
    rename Fr _ _ _ _ => F7
    refine InitOp.make io F7 X N' T hh hA rfl rfl (Nat.le_trans hd (by decide)) (Nat.le_trans hu (by decide)) (by k_is) (by k_is) (by k_is) hr1.1 (by omega) fun h2 tk2 c objs F2 N2 hc hcm dj => ?_
    (try clear F7); (try clear F')
    have djo : ∀ p ∈ objs, ∀ q ∈ all', @Ne Nat p.1 q.1 := fun p hp q hq => dj p hp q (by simp [hq])
    have hmx' : (cs ++ [(⟨c, []⟩ : Cell)]).map (·.c.mx) = rs.take (i + 1) := by rw [List.map_append, hmx, List.take_add_one, hri]; simp [hcm]
    refine ⟨h2, tk2, cel5 L σ ++ (objs ++ all'), rfl, F2, News.cutTo N2 ?_, off3_more off fun p hp => ⟨dj p hp _ List.mem_cons_self, dj p hp _ (List.mem_cons_of_mem _ List.mem_cons_self), dj p hp _ (List.mem_cons_of_mem _ (List.mem_cons_of_mem _ List.mem_cons_self))⟩, src_all (List.mem_append_right _ (hsub _ hm)), cs ++ [⟨c, []⟩], objs ++ all', rfl, by simp, H.snoc hc djo, fun b hb => ?_, hmx', fun p hp => List.mem_append_right _ (hsub p hp), hnc.apart (σ := σ) fun p hp q hq => dj p hp q ?_⟩
    · intro q hq
      simp only [cel5, List.mem_append, List.mem_cons, List.not_mem_nil, or_false] at hq ⊢
      grind
    · rcases List.mem_append.mp hb with hb | hb
      · exact hseg b hb
      · rw [List.mem_singleton.mp hb]
    · simp only [cel5, List.mem_append, List.mem_cons, List.not_mem_nil, or_false] at hq ⊢
      grind
  case fin =>
    rintro ys news ⟨cs, all', rfl, rfl, H, hseg, hmx, hsub, hnc⟩ D h tk F' N' o1
    have oD := Off1.off o1
    have hnc' : NoCell L ((D, LCg.lst (refs cs)) :: all') := hnc.new (σ := σ) oD
    rw [List.take_of_length_le (by rw [List.size_toArray]; omega)] at hmx
    (try clear N6); (try clear F6); (try clear N5); (try clear F5); (try clear N); (try clear F)
    have N6 : News h₀ L h (cel5 L σ ++ (D, LCg.lst (refs cs)) :: all') := fun p hp => N' p (by simp only [List.mem_append, List.mem_cons] at hp ⊢; grind)
    clear N'
    have N7 : News h₀ L h ([(L + 1 + 1 + 1 + 1 + 1, σ.o5), (L + 1 + 1 + 1 + 1, σ.o4), (L + 1 + 1 + 1, σ.o3)] ++ (L + 1 + 1, σ.o2) :: ((L + 1, σ.o1) :: ((D, LCg.lst (refs cs)) :: all'))) := News.cutTo N6 (by
      intro q hq
      simp only [cel5, List.mem_append, List.mem_cons, List.not_mem_nil, or_false] at hq ⊢
      grind)
    dsimp only [cel5, List.cons_append, List.nil_append] at N6
    walk_at "GOV"
    refine store_cell F' N7 d2 ?_ ?_ rfl rfl rfl fun h8 o2' F8 N8 d2' => ?_
    · intro p hp
      simp only [List.mem_cons, List.not_mem_nil, or_false] at hp
      rcases hp with rfl | rfl | rfl
      · exact Nat.ne_of_gt (Nat.lt_succ_of_lt (Nat.lt_succ_of_lt (Nat.lt_succ_self _)))
      · exact Nat.ne_of_gt (Nat.lt_succ_of_lt (Nat.lt_succ_self _))
      · exact Nat.ne_of_gt (Nat.lt_succ_self _)
    · exact Off.cons hnc'.2.1 (Nat.ne_of_lt (Nat.lt_succ_self _))
    · exact hQ _ _ o2' cs ((D, LCg.lst (refs cs)) :: all') D _ F8 (News.cutTo N8 (by
        intro q hq
        simp only [cel5, List.mem_append, List.mem_cons, List.not_mem_nil, or_false] at hq ⊢
        grind)) (H.mono fun p hp => List.mem_cons_of_mem _ hp) hseg hmx d2' List.mem_cons_self (fun p hp => List.mem_cons_of_mem _ (hsub p hp)) hnc'
set_option maxRecDepth 100000 in
set_option maxHeartbeats 6000000 in
theorem p4F : Box (∀ {w : World} {s : Shared} {A : Around} {E : Value → Shared → Prop} {h₀ : Heap} {L f : Addr} {cdv : Value} {qual : Str} {Q : Flow → Shared → Prop} {m : Str → Option Value} {mean : ExcName → Option Value} {mg mb : Str → Option Value} {lse : List Str} {σ : LSt} {kt : Tok} {mvs : List Value} {rs : List Int} {n : Nat} {rest : List Stmt} {v3 : Option Value},
    A.handled = none → A.frames = some [(envOfC qual (fnScope (Mine.pre.heap_1_1 w.params) 968) L f cdv)] → A.depth ≤ 305 → A.units ≤ 305 → (Mine.pre.heap_1_1 w.params).In h₀ → Top Mine.pre.view_1_2 lse mean mg mb h₀ → InitOp (prog := PySem.Challenge.rw_bb0016_01.row.prog) Mine.pre.heap_1_1 Mine.pre.view_1_2 (fun w => PySem.strKind PySem.Challenge.rw_bb0016_01.row.prog w) 882 (Str.ofString "_FIFOCache__order") 849 →
    Fr h₀ L s.heap m → News h₀ L s.heap (cel5 L σ ++ σ.all) → NoCell L σ.all → σ.o1.data = .cell (some (.int 1 kt)) → m (Str.ofString "rooms") = some (.ref σ.Lm) → (σ.Lm, W.listOf mvs.toArray n) ∈ σ.all → IntsAre mvs rs → 2 ≤ rs.length → rs.length ≤ 3 → (∀ r ∈ rs, 1 ≤ r ∧ r ≤ 3) → σ.o3.data = .cell v3 → Hold w.params (PySem.strKind PySem.Challenge.rw_bb0016_01.row.prog w) 882 (Str.ofString "_FIFOCache__order") σ.cs σ.all → 1 ≤ rs.sum → rs.sum ≤ 9 →
    (∀ h' tk m' o3' c Lr all', Fr h₀ L h' m' → News h₀ L h' (cel5 L { σ with o3 := o3' } ++ all') → Hold w.params (PySem.strKind PySem.Challenge.rw_bb0016_01.row.prog w) 882 (Str.ofString "_FIFOCache__order") (⟨c, []⟩ :: σ.cs) all' → c.mx = rs.sum → o3'.data = .cell (some (.ref c.x)) → (Lr, W.listOf #[] 0) ∈ all' → m' (Str.ofString "row") = some (.ref Lr) → (∀ y, y ≠ Str.ofString "row" → m' y = m y) → (∀ p ∈ σ.all, p ∈ all') → NoCell L all' →
      wpAny (model PySem.Challenge.rw_bb0016_01.row.prog w) A (execs rest (envOfC qual (fnScope (Mine.pre.heap_1_1 w.params) 968) L f cdv)) Q E { s with heap := h', toks := tk }) →
    wpAny (model PySem.Challenge.rw_bb0016_01.row.prog w) A (execs (nthS (fnBody (Mine.pre.heap_1_1 w.params) 968) 4 :: nthS (fnBody (Mine.pre.heap_1_1 w.params) 968) 5 :: rest) (envOfC qual (fnScope (Mine.pre.heap_1_1 w.params) 968) L f cdv)) Q E s) := by
  refine ⟨?_⟩
  k_fill
  intro w s A E h₀ L f cdv qual Q m mean mg mb lse σ kt mvs rs n rest v3 hh hA hd hu X T io F N nc d1 mr hm hM l2 l3 hr d3 H s1 s9
  obtain ⟨e1, e2⟩ := fnBody_eq (K := Mine.pre.heap_1_1 w.params) (f := 968) (by k_is)
  have kf := (@Box.out _ kinds w L).1
  rw [e1, e2]
  rw [e2] at hA kf
  clear e1 e2
  dsimp only [nthS, subS, elsS, tstS]
  intro hQ
  have hml := hM.length
  dsimp only [cel5, List.cons_append, List.nil_append] at N
  walk_at "GOV"
  rename Fr _ _ _ _ => F1
  rename News _ _ _ _ => N1
  refine LSm.sum_ints F1 N1 hh (News.isList N1 (by k_mem)) hM fun h2 tk2 t2 F2 N2 => ?_
  (try clear F1 N1)
  walk_at "GOV"
  rename Fr _ _ _ _ => F3
  rename News _ _ _ _ => N3x
  have N3 := Mine.News.cutTo (l' := cel5 L σ ++ σ.all) N3x (by walk_at "TAILP")
  clear N3x
  refine InitOp.make io F3 X N3 T hh hA rfl rfl (Nat.le_trans hd (by decide)) (Nat.le_trans hu (by decide)) (by k_is) (by k_is) (by k_is) s1 s9 fun h4 tk4 c objs F4 N4 hc hcm dj => ?_
  (try clear F3); (try clear N3); (try clear F2); (try clear N2)
  have hnc' : NoCell L (objs ++ σ.all) := nc.apart (σ := σ) fun p hp q hq => dj p hp q (List.mem_append_left _ hq)
  have H' := H.front hc fun p hp q hq => dj p hp q (List.mem_append_right _ hq)
  have N5 : News h₀ L h4 ([(L + 1 + 1 + 1 + 1 + 1, σ.o5), (L + 1 + 1 + 1 + 1, σ.o4)] ++ (L + 1 + 1 + 1, σ.o3) :: ((L + 1 + 1, σ.o2) :: (L + 1, σ.o1) :: (objs ++ σ.all))) := News.cutTo N4 (by
    intro q hq
    simp only [cel5, List.mem_append, List.mem_cons, List.not_mem_nil, or_false] at hq ⊢
    grind)
  walk_at "GOV"
  refine store_cell F4 N5 d3 ?_ ?_ rfl rfl rfl fun h6 o3' F6 N6 d3' => ?_
  · intro p hp
    simp only [List.mem_cons, List.not_mem_nil, or_false] at hp
    rcases hp with rfl | rfl
    · exact Nat.ne_of_gt (Nat.lt_succ_of_lt (Nat.lt_succ_self _))
    · exact Nat.ne_of_gt (Nat.lt_succ_self _)
  · exact Off.cons (Off.cons hnc'.2.2.1 (Nat.ne_of_lt (Nat.lt_succ_of_lt (Nat.lt_succ_self _)))) (Nat.ne_of_lt (Nat.lt_succ_self _))
  (try clear F4); (try clear N4); (try clear N5)
  have N7 : News h₀ L h6 (cel5 L { σ with o3 := o3' } ++ (objs ++ σ.all)) := News.cutTo N6 (by
    intro q hq
    simp only [cel5, List.mem_append, List.mem_cons, List.not_mem_nil, or_false] at hq ⊢
    grind)
  clear N6
  dsimp only [cel5, List.cons_append, List.nil_append] at N7
  walk_at "GOV"
  rename Fr _ _ _ _ => F8
  rename News _ _ _ _ => N8
  rename_i lr h7 l1 h8
  exact hQ _ _ _ o3' c lr ((lr, W.listOf #[] 0) :: (objs ++ σ.all)) F8 (News.cutTo N8 (by
    intro q hq
    simp only [cel5, List.mem_append, List.mem_cons, List.not_mem_nil, or_false] at hq ⊢
    grind)) (H'.mono fun p hp => List.mem_cons_of_mem _ hp) hcm d3' List.mem_cons_self rfl (fun y hy => by simp [hy]) (fun p hp => List.mem_cons_of_mem _ (List.mem_append_right _ hp))
    (hnc'.cons ⟨Nat.ne_of_gt l1.2.2.2.2.1, Nat.ne_of_gt l1.2.2.2.1, Nat.ne_of_gt l1.2.2.1, Nat.ne_of_gt l1.2.1, Nat.ne_of_gt l1.1⟩)
set_option maxRecDepth 100000 in
set_option maxHeartbeats 6000000 in
theorem p4L : Box (∀ {w : World} {s : Shared} {A : Around} {E : Value → Shared → Prop} {h₀ : Heap} {L f : Addr} {cdv : Value} {qual : Str} {Q : Flow → Shared → Prop} {m : Str → Option Value} {mean : ExcName → Option Value} {mg mb : Str → Option Value} {lse : List Str} {σ : LSt} {kt : Tok} {mvs : List Value} {rs : List Int} {n : Nat} {rest : List Stmt} {v3 : Option Value},
    A.handled = none → A.frames = some [(envOfC qual (fnScope (Mine.pre.heap_1_1 w.params) 968) L f cdv)] → A.depth ≤ 305 → A.units ≤ 305 → (Mine.pre.heap_1_1 w.params).In h₀ → Top Mine.pre.view_1_2 lse mean mg mb h₀ → InitOp (prog := PySem.Challenge.rw_bb0016_01.row.prog) Mine.pre.heap_1_1 Mine.pre.view_1_2 (fun w => PySem.strKind PySem.Challenge.rw_bb0016_01.row.prog w) 947 (Str.ofString "_LRUCache__order") 899 →
    Fr h₀ L s.heap m → News h₀ L s.heap (cel5 L σ ++ σ.all) → NoCell L σ.all → σ.o1.data = .cell (some (.int 0 kt)) → m (Str.ofString "rooms") = some (.ref σ.Lm) → (σ.Lm, W.listOf mvs.toArray n) ∈ σ.all → IntsAre mvs rs → 2 ≤ rs.length → rs.length ≤ 3 → (∀ r ∈ rs, 1 ≤ r ∧ r ≤ 3) → σ.o3.data = .cell v3 → Hold w.params (PySem.strKind PySem.Challenge.rw_bb0016_01.row.prog w) 947 (Str.ofString "_LRUCache__order") σ.cs σ.all → 1 ≤ rs.sum → rs.sum ≤ 9 →
    (∀ h' tk m' o3' c Lr all', Fr h₀ L h' m' → News h₀ L h' (cel5 L { σ with o3 := o3' } ++ all') → Hold w.params (PySem.strKind PySem.Challenge.rw_bb0016_01.row.prog w) 947 (Str.ofString "_LRUCache__order") (⟨c, []⟩ :: σ.cs) all' → c.mx = rs.sum → o3'.data = .cell (some (.ref c.x)) → (Lr, W.listOf #[] 0) ∈ all' → m' (Str.ofString "row") = some (.ref Lr) → (∀ y, y ≠ Str.ofString "row" → m' y = m y) → (∀ p ∈ σ.all, p ∈ all') → NoCell L all' →
      wpAny (model PySem.Challenge.rw_bb0016_01.row.prog w) A (execs rest (envOfC qual (fnScope (Mine.pre.heap_1_1 w.params) 968) L f cdv)) Q E { s with heap := h', toks := tk }) →
    wpAny (model PySem.Challenge.rw_bb0016_01.row.prog w) A (execs (nthS (fnBody (Mine.pre.heap_1_1 w.params) 968) 4 :: nthS (fnBody (Mine.pre.heap_1_1 w.params) 968) 5 :: rest) (envOfC qual (fnScope (Mine.pre.heap_1_1 w.params) 968) L f cdv)) Q E s) := by
  refine ⟨?_⟩
  k_fill
  intro w s A E h₀ L f cdv qual Q m mean mg mb lse σ kt mvs rs n rest v3 hh hA hd hu X T io F N nc d1 mr hm hM l2 l3 hr d3 H s1 s9
  obtain ⟨e1, e2⟩ := fnBody_eq (K := Mine.pre.heap_1_1 w.params) (f := 968) (by k_is)
  have kf := (@Box.out _ kinds w L).1
  rw [e1, e2]
  rw [e2] at hA kf
  clear e1 e2
  dsimp only [nthS, subS, elsS, tstS]
  intro hQ
  have hml := hM.length
  dsimp only [cel5, List.cons_append, List.nil_append] at N
  walk_at "GOV"
  rename Fr _ _ _ _ => F1
  rename News _ _ _ _ => N1
  refine LSm.sum_ints F1 N1 hh (News.isList N1 (by k_mem)) hM fun h2 tk2 t2 F2 N2 => ?_
  (try clear F1 N1)
  walk_at "GOV"
  rename Fr _ _ _ _ => F3
  rename News _ _ _ _ => N3x
  have N3 := Mine.News.cutTo (l' := cel5 L σ ++ σ.all) N3x (by walk_at "TAILP")
  clear N3x
  refine InitOp.make io F3 X N3 T hh hA rfl rfl (Nat.le_trans hd (by decide)) (Nat.le_trans hu (by decide)) (by k_is) (by k_is) (by k_is) s1 s9 fun h4 tk4 c objs F4 N4 hc hcm dj => ?_
  (try clear F3); (try clear N3); (try clear F2); (try clear N2)
  have hnc' : NoCell L (objs ++ σ.all) := nc.apart (σ := σ) fun p hp q hq => dj p hp q (List.mem_append_left _ hq)
  have H' := H.front hc fun p hp q hq => dj p hp q (List.mem_append_right _ hq)
  have N5 : News h₀ L h4 ([(L + 1 + 1 + 1 + 1 + 1, σ.o5), (L + 1 + 1 + 1 + 1, σ.o4)] ++ (L + 1 + 1 + 1, σ.o3) :: ((L + 1 + 1, σ.o2) :: (L + 1, σ.o1) :: (objs ++ σ.all))) := News.cutTo N4 (by
    intro q hq
    simp only [cel5, List.mem_append, List.mem_cons, List.not_mem_nil, or_false] at hq ⊢
    grind)
  walk_at "GOV"
  refine store_cell F4 N5 d3 ?_ ?_ rfl rfl rfl fun h6 o3' F6 N6 d3' => ?_
  · intro p hp
    simp only [List.mem_cons, List.not_mem_nil, or_false] at hp
    rcases hp with rfl | rfl
    · exact Nat.ne_of_gt (Nat.lt_succ_of_lt (Nat.lt_succ_self _))
    · exact Nat.ne_of_gt (Nat.lt_succ_self _)
  · exact Off.cons (Off.cons hnc'.2.2.1 (Nat.ne_of_lt (Nat.lt_succ_of_lt (Nat.lt_succ_self _)))) (Nat.ne_of_lt (Nat.lt_succ_self _))
  (try clear F4); (try clear N4); (try clear N5)
  have N7 : News h₀ L h6 (cel5 L { σ with o3 := o3' } ++ (objs ++ σ.all)) := News.cutTo N6 (by
    intro q hq
    simp only [cel5, List.mem_append, List.mem_cons, List.not_mem_nil, or_false] at hq ⊢
    grind)
  clear N6
  dsimp only [cel5, List.cons_append, List.nil_append] at N7
  walk_at "GOV"
  rename Fr _ _ _ _ => F8
  rename News _ _ _ _ => N8
  rename_i lr h7 l1 h8
  exact hQ _ _ _ o3' c lr ((lr, W.listOf #[] 0) :: (objs ++ σ.all)) F8 (News.cutTo N8 (by
    intro q hq
    simp only [cel5, List.mem_append, List.mem_cons, List.not_mem_nil, or_false] at hq ⊢
    grind)) (H'.mono fun p hp => List.mem_cons_of_mem _ hp) hcm d3' List.mem_cons_self rfl (fun y hy => by simp [hy]) (fun p hp => List.mem_cons_of_mem _ (List.mem_append_right _ hp))
    (hnc'.cons ⟨Nat.ne_of_gt l1.2.2.2.2.1, Nat.ne_of_gt l1.2.2.2.1, Nat.ne_of_gt l1.2.2.1, Nat.ne_of_gt l1.2.1, Nat.ne_of_gt l1.1⟩)
set_option maxRecDepth 100000 in
set_option maxHeartbeats 6000000 in
theorem d1o : Box (∀ {w : World} {s : Shared} {A : Around} {E : Value → Shared → Prop} {h₀ : Heap} {L f C : Addr} {on : Str} {cdv : Value} {qual : Str} {Q : Flow → Shared → Prop} {m : Str → Option Value} {mean : ExcName → Option Value} {mg mb : Str → Option Value} {lse : List Str} {σ : LSt} {M : Nat},
    A.handled = none → A.frames = some [envOfC qual (fnScope (Mine.pre.heap_1_1 w.params) 968) L f cdv] → A.depth ≤ 305 → A.units ≤ 305 → (Mine.pre.heap_1_1 w.params).In h₀ → Top Mine.pre.view_1_2 lse mean mg mb h₀ →
    Lw (prog := PySem.Challenge.rw_bb0016_01.row.prog) w (PySem.strKind _ w) C on h₀ L m s.heap σ → mxs σ.cs = (M : Int) →
    (∀ h' tk m' all' D vs n, Fr h₀ L h' m' → News h₀ L h' (cel5 L σ ++ all') → Kept w (PySem.strKind PySem.Challenge.rw_bb0016_01.row.prog w) C on L m' σ all' → (D, W.listOf vs.toArray n) ∈ all' → RowIs vs (σ.row.drop M) all' → m' (Str.ofString "out") = some (.ref D) → (∀ y, y ≠ Str.ofString "out" → m' y = m y) → Q .next { s with heap := h', toks := tk }) →
    wpAny (model PySem.Challenge.rw_bb0016_01.row.prog w) A (exec (nthS (subS (nthS (elsS (nthS (subS (nthS (fnBody (Mine.pre.heap_1_1 w.params) 968) 6)) 6)) 0)) 5) (envOfC qual (fnScope (Mine.pre.heap_1_1 w.params) 968) L f cdv)) Q E s) := by
  refine ⟨?_⟩
  k_fill
  intro w s A E h₀ L f C on cdv qual Q m mean mg mb lse σ
  intro M hh hA hd hu X T S hmx hQ
  obtain ⟨e1, e2⟩ := fnBody_eq (K := Mine.pre.heap_1_1 w.params) (f := 968) (by k_is)
  have kf := (@Box.out _ kinds w L).1
  rw [e1, e2]
  rw [e2] at hA kf
  clear e1 e2
  dsimp only [nthS, subS, elsS, tstS]
  have S0 := S
  obtain ⟨F, N, qL⟩ := S
  have d1 := qL.d1
  have d2 := qL.d2
  have d3 := qL.d3
  dsimp only [cel5, List.cons_append, List.nil_append] at N
  have r1 := qL.r1
  have r2 := qL.r2
  obtain ⟨rvs, nr, hr, hR⟩ := qL.rows
  obtain ⟨mvs, nm, hm, hM⟩ := qL.rooms
  have hrl := qL.rl
  have hrv := hR.1
  walk_at "GOT"
  rename Fr _ _ _ _ => F1
  rename News _ _ _ _ => N1
  refine LSm.sum_ints F1 N1 hh (News.isList N1 (by k_mem)) hM fun h2 tk2 t2 F2 N2 => ?_
  rw [show (σ.cs.map fun b => b.c.mx).sum = (M : Int) from hmx]
  (try clear F1 N1)
  walk_at "GOT"
  rename Fr _ _ _ _ => F4
  rename News _ _ _ _ => N4
  rename_i D _ lD _
  have e1 : kms_pick rvs (some (M : Int)) none = rvs.drop M := pick_from rvs (Int.natCast_nonneg _)
  rw [e1] at N4
  exact hQ _ _ _ ((D, W.listOf (rvs.drop M).toArray 0) :: σ.all) D (rvs.drop M) 0 F4 (News.cutTo N4 (by intro q hq; simp only [tupO, List.mem_append, List.mem_cons, List.not_mem_nil, or_false] at hq ⊢; grind)) (((Same.refl qL).kept.grow (notCell_of (L := L) (σ := σ) (off_new lD))).names rfl rfl) List.mem_cons_self ((hR.drop M).mono fun p hp _ => List.mem_cons_of_mem _ hp) (by simp) (fun y hy => by simp [hy])
set_option maxRecDepth 100000 in
set_option maxHeartbeats 6000000 in
theorem d1s : Box (∀ {w : World} {s : Shared} {A : Around} {E : Value → Shared → Prop} {h₀ : Heap} {L f C : Addr} {on : Str} {cdv : Value} {qual : Str} {Q : Flow → Shared → Prop} {m : Str → Option Value} {mean : ExcName → Option Value} {mg mb : Str → Option Value} {lse : List Str} {σ : LSt} {M : Nat},
    A.handled = none → A.frames = some [envOfC qual (fnScope (Mine.pre.heap_1_1 w.params) 968) L f cdv] → A.depth ≤ 305 → A.units ≤ 305 → (Mine.pre.heap_1_1 w.params).In h₀ → Top Mine.pre.view_1_2 lse mean mg mb h₀ →
    Lw (prog := PySem.Challenge.rw_bb0016_01.row.prog) w (PySem.strKind _ w) C on h₀ L m s.heap σ → mxs σ.cs = (M : Int) →
    (∀ h' tk m' all' Lr', Fr h₀ L h' m' → News h₀ L h' (cel5 L σ ++ all') → Lq w (PySem.strKind PySem.Challenge.rw_bb0016_01.row.prog w) C on L m' { σ with row := σ.row.take M, Lr := Lr', all := all' } → (∀ p ∈ σ.all, NonC p.2 → p ∈ all') → (∀ y, y ≠ Str.ofString "row" → m' y = m y) → Q .next { s with heap := h', toks := tk }) →
    wpAny (model PySem.Challenge.rw_bb0016_01.row.prog w) A (exec (nthS (subS (nthS (elsS (nthS (subS (nthS (fnBody (Mine.pre.heap_1_1 w.params) 968) 6)) 6)) 0)) 6) (envOfC qual (fnScope (Mine.pre.heap_1_1 w.params) 968) L f cdv)) Q E s) := by
  refine ⟨?_⟩
  k_fill
  intro w s A E h₀ L f C on cdv qual Q m mean mg mb lse σ
  intro M hh hA hd hu X T S hmx hQ
  obtain ⟨e1, e2⟩ := fnBody_eq (K := Mine.pre.heap_1_1 w.params) (f := 968) (by k_is)
  have kf := (@Box.out _ kinds w L).1
  rw [e1, e2]
  rw [e2] at hA kf
  clear e1 e2
  dsimp only [nthS, subS, elsS, tstS]
  have S0 := S
  obtain ⟨F, N, qL⟩ := S
  have d1 := qL.d1
  have d2 := qL.d2
  have d3 := qL.d3
  dsimp only [cel5, List.cons_append, List.nil_append] at N
  have r1 := qL.r1
  have r2 := qL.r2
  obtain ⟨rvs, nr, hr, hR⟩ := qL.rows
  obtain ⟨mvs, nm, hm, hM⟩ := qL.rooms
  have hrl := qL.rl
  have hrv := hR.1
  walk_at "GOT"
  rename Fr _ _ _ _ => F1
  rename News _ _ _ _ => N1
  refine LSm.sum_ints F1 N1 hh (News.isList N1 (by k_mem)) hM fun h2 tk2 t2 F2 N2 => ?_
  rw [show (σ.cs.map fun b => b.c.mx).sum = (M : Int) from hmx]
  (try clear F1 N1)
  walk_at "GOT"
  rename Fr _ _ _ _ => F4
  rename News _ _ _ _ => N4
  rename_i D _ lD _
  have e1 : kms_pick rvs none (some (M : Int)) = rvs.take M := pick_upto rvs (Int.natCast_nonneg _)
  rw [e1] at N4
  have q5 := qL.grow (o := W.listOf (rvs.take M).toArray 0) (notCell_of (L := L) (σ := σ) (off_new lD))
  exact hQ _ _ _ ((D, W.listOf (rvs.take M).toArray 0) :: σ.all) D F4 (News.cutTo N4 (by intro q hq; simp only [tupO, List.mem_append, List.mem_cons, List.not_mem_nil, or_false] at hq ⊢; grind)) (q5.setRow (D := D) (ys := rvs.take M) (n := 0) List.mem_cons_self ((hR.take M).mono fun p hp _ => List.mem_cons_of_mem _ hp) rfl rfl (by rw [List.length_take]; omega)) (fun p hp _ => List.mem_cons_of_mem _ hp) (fun y hy => by simp [hy])
set_option maxRecDepth 100000 in
set_option maxHeartbeats 6000000 in
theorem d3c : Box (∀ {w : World} {s : Shared} {A : Around} {E : Value → Shared → Prop} {h₀ : Heap} {L f C : Addr} {on : Str} {cdv : Value} {qual : Str} {Q : Flow → Shared → Prop} {m : Str → Option Value} {mean : ExcName → Option Value} {mg mb : Str → Option Value} {lse : List Str} {σ : LSt} ,
    A.handled = none → A.frames = some [envOfC qual (fnScope (Mine.pre.heap_1_1 w.params) 968) L f cdv] → A.depth ≤ 305 → A.units ≤ 305 → (Mine.pre.heap_1_1 w.params).In h₀ → Top Mine.pre.view_1_2 lse mean mg mb h₀ →
    Lw (prog := PySem.Challenge.rw_bb0016_01.row.prog) w (PySem.strKind _ w) C on h₀ L m s.heap σ → 
    (∀ h' tk m' all' Lr', Fr h₀ L h' m' → News h₀ L h' (cel5 L σ ++ all') → Lq w (PySem.strKind PySem.Challenge.rw_bb0016_01.row.prog w) C on L m' { σ with row := σ.row.take (σ.row.length - 1), Lr := Lr', all := all' } → (∀ p ∈ σ.all, NonC p.2 → p ∈ all') → (∀ y, y ≠ Str.ofString "row" → m' y = m y) → Q .next { s with heap := h', toks := tk }) →
    wpAny (model PySem.Challenge.rw_bb0016_01.row.prog w) A (exec (nthS (subS (nthS (elsS (nthS (elsS (nthS (elsS (nthS (subS (nthS (fnBody (Mine.pre.heap_1_1 w.params) 968) 6)) 6)) 0)) 0)) 0)) 2) (envOfC qual (fnScope (Mine.pre.heap_1_1 w.params) 968) L f cdv)) Q E s) := by
  refine ⟨?_⟩
  k_fill
  intro w s A E h₀ L f C on cdv qual Q m mean mg mb lse σ
  intro hh hA hd hu X T S hQ
  obtain ⟨e1, e2⟩ := fnBody_eq (K := Mine.pre.heap_1_1 w.params) (f := 968) (by k_is)
  have kf := (@Box.out _ kinds w L).1
  rw [e1, e2]
  rw [e2] at hA kf
  clear e1 e2
  dsimp only [nthS, subS, elsS, tstS]
  have S0 := S
  obtain ⟨F, N, qL⟩ := S
  have d1 := qL.d1
  have d2 := qL.d2
  have d3 := qL.d3
  dsimp only [cel5, List.cons_append, List.nil_append] at N
  have r1 := qL.r1
  obtain ⟨rvs, nr, hr, hR⟩ := qL.rows
  have hrl := qL.rl
  have hrv := hR.1
  walk_at "GOT"
  rename Fr _ _ _ _ => F4
  rename News _ _ _ _ => N4
  rename_i D _ lD _
  have e1 : kms_pick rvs none (some (-1 : Int)) = rvs.take (σ.row.length - 1) := by rw [pick_init, hrv]
  rw [e1] at N4
  have q5 := qL.grow (o := W.listOf (rvs.take (σ.row.length - 1)).toArray 0) (notCell_of (L := L) (σ := σ) (off_new lD))
  exact hQ _ _ _ ((D, W.listOf (rvs.take (σ.row.length - 1)).toArray 0) :: σ.all) D F4 (News.cutTo N4 (by intro q hq; simp only [tupO, List.mem_append, List.mem_cons, List.not_mem_nil, or_false] at hq ⊢; grind)) (q5.setRow (D := D) (ys := rvs.take (σ.row.length - 1)) (n := 0) List.mem_cons_self ((hR.take _).mono fun p hp _ => List.mem_cons_of_mem _ hp) rfl rfl (by rw [List.length_take]; omega)) (fun p hp _ => List.mem_cons_of_mem _ hp) (fun y hy => by simp [hy])
set_option maxRecDepth 100000 in
set_option maxHeartbeats 6000000 in
theorem f8 : Box (∀ {w : World} {s : Shared} {A : Around} {E : Value → Shared → Prop} {h₀ : Heap} {L f C : Addr} {on : Str} {cdv : Value} {qual : Str} {Q : Flow → Shared → Prop} {m : Str → Option Value} {mean : ExcName → Option Value} {mg mb : Str → Option Value} {lse : List Str} {σ : LSt} {gfn sfn pfn : Addr} {touch : Bool} {G0 : Addr} {n0 : Nat},
    A.handled = none → A.frames = some [envOfC qual (fnScope (Mine.pre.heap_1_1 w.params) 968) L f cdv] → A.depth ≤ 305 → A.units ≤ 305 → (Mine.pre.heap_1_1 w.params).In h₀ → Top Mine.pre.view_1_2 lse mean mg mb h₀ →
    Lw (prog := PySem.Challenge.rw_bb0016_01.row.prog) w (PySem.strKind _ w) C on h₀ L m s.heap σ → Ops (prog := PySem.Challenge.rw_bb0016_01.row.prog) Mine.pre.heap_1_1 Mine.pre.view_1_2 (fun w => PySem.strKind PySem.Challenge.rw_bb0016_01.row.prog w) C on gfn sfn pfn touch → m (Str.ofString "given") = some (.ref G0) → (G0, W.listOf #[] n0) ∈ σ.all → (heldC σ.cs).length ≤ 12 → PassesOwn (model PySem.Challenge.rw_bb0016_01.row.prog w) A (envOfC qual (fnScope (Mine.pre.heap_1_1 w.params) 968) L f cdv) E →
    (∀ h' tk m' all' o5 G gvs ng, Fr h₀ L h' m' → News h₀ L h' (cel5 L { σ with o5 := o5 } ++ all') → Lq w (PySem.strKind PySem.Challenge.rw_bb0016_01.row.prog w) C on L m' { σ with cs := σ.cs.map emp, o5 := o5, all := all' } → (G, W.listOf gvs.toArray ng) ∈ all' → RowIs gvs (heldC σ.cs).reverse all' → m' (Str.ofString "given") = some (.ref G) → Q .next { s with heap := h', toks := tk }) →
    wpAny (model PySem.Challenge.rw_bb0016_01.row.prog w) A (exec (nthS (fnBody (Mine.pre.heap_1_1 w.params) 968) 8) (envOfC qual (fnScope (Mine.pre.heap_1_1 w.params) 968) L f cdv)) Q E s) := by
  refine ⟨?_⟩
  k_fill
  intro w s A E h₀ L f C on cdv qual Q m mean mg mb lse σ
  intro gfn sfn pfn touch G0 n0 hh hA hd hu X T S ops mg0 hG0 hcl
  obtain ⟨e1, e2⟩ := fnBody_eq (K := Mine.pre.heap_1_1 w.params) (f := 968) (by k_is)
  have kf := (@Box.out _ kinds w L).1
  rw [e1, e2]
  rw [e2] at hA kf
  clear e1 e2
  dsimp only [nthS, subS, elsS, tstS]
  have S0 := S
  obtain ⟨F, N, qL⟩ := S
  have d1 := qL.d1
  have d2 := qL.d2
  have d3 := qL.d3
  dsimp only [cel5, List.cons_append, List.nil_append] at N
  intro hE hQ
  have pk := (ops.cf w.params).popiK
  obtain ⟨nch, hch⟩ := qL.chain
  have hlen := qL.len
  refine for_listJ (items := (refs σ.cs).reverse) hh (GJ w (PySem.strKind PySem.Challenge.rw_bb0016_01.row.prog w) C on h₀ L σ s) ?src ?live ?turn ?fin (hE := hE)
  case src =>
    walk_at "GOY"
    rename Fr _ _ _ _ => F1
    rename News _ _ _ _ => N1
    rename_i D1 hp1 l1
    have q1 := qL.grow (o := W.listOf (refs σ.cs).reverse.toArray 0) (notCell_of (L := L) (σ := σ) (off_new l1))
    refine ⟨D1, rfl, News.isList N1 (by k_mem), fun h2 hit k => ?_⟩
    dsimp only at hit k
    obtain ⟨oI, hI, hIc, hId⟩ := id hit
    have N1' : News h₀ L hp1 (cel5 L σ ++ (D1, W.listOf (refs σ.cs).reverse.toArray 0) :: σ.all) := News.cutTo N1 (by intro q hq; simp only [tupO, List.mem_append, List.mem_cons, List.not_mem_nil, or_false] at hq ⊢; grind)
    have e0 := empd_zero σ.cs
    refine ⟨h2, _, m, (D1, W.listOf (refs σ.cs).reverse.toArray 0) :: σ.all, σ.o5, oI, G0, [], n0, 0, rfl, F1.keeps k, ?_, fun p hp => Nat.ne_of_lt (Heap.lt_size (N1' p hp).1), hit, List.mem_cons_self, by rw [e0]; exact q1, List.mem_cons_of_mem _ hG0, by simpa using RowIs.nil, mg0⟩
    intro p hp
    rcases List.mem_cons.mp hp with rfl | hp
    · exact ⟨hI, Nat.ne_of_gt F1.ns.lt, next_is_new F1⟩
    · exact N1'.grown k p hp
  case live =>
    rintro i I ax s' ⟨h, tk, m', all, o5, oI, G, gvs, ng, nx, rfl, F1, N1, oI1, hit, hax, _⟩
    exact ⟨hit, News.isList N1 (List.mem_cons_of_mem _ (List.mem_append_right _ hax)), oI1 _ (List.mem_append_right _ hax)⟩
  case fin =>
    rintro I ax s' h' ⟨h, tk, m', all, o5, oI, G, gvs, ng, nx, rfl, F1, N1, oI1, hit, hax, q1, hG, hRg, mG⟩ k
    obtain ⟨F2, N2⟩ : Fr h₀ L h' m' ∧ News h₀ L h' (cel5 L { σ with o5 := o5 } ++ all) := by
      have zI := N1 (I, oI) (by simp)
      exact ⟨⟨F1.ns.at' fun o e => k _ o (Ne.symm zI.2.1) e, fun b o e => k b o (fun q => by rw [q, zI.2.2] at e; cases e) (F1.keep b o e), F1.above⟩, fun p hp => by
        have z := N1 p (List.mem_cons_of_mem _ hp)
        exact ⟨k _ _ (oI1 p hp) z.1, z.2⟩⟩
    rw [List.length_reverse, List.length_map] at q1 hRg
    rw [empd_all] at q1
    rw [Nat.sub_self, List.drop_zero] at hRg
    exact hQ h' tk m' all o5 G gvs ng F2 N2 q1 hG hRg mG
  case turn =>
    rintro i I ax v s' h' hv ⟨h, tk, m', all, o5, oI, G, gvs, ng, nx, rfl, F1, N1, oI1, hit0, hax, q1, hG, hRg, mG⟩ hit k
    obtain ⟨oJ, nJ, nJc, hitJ, F2, N2⟩ := iter_step F1 N1 oI1 hit k
    clear F1 N1 k hit hit0
    have hi : i < σ.cs.length := by have := (List.getElem?_eq_some_iff.mp hv).1; rw [List.length_reverse, List.length_map] at this; exact this
    obtain ⟨b, hb⟩ : ∃ b, σ.cs[σ.cs.length - 1 - i]? = some b := ⟨σ.cs[σ.cs.length - 1 - i], by rw [List.getElem?_eq_getElem]⟩
    obtain rfl : v = .ref b.c.x := by
      rw [List.getElem?_reverse (by rw [List.length_map]; exact hi), List.length_map, List.getElem?_map, hb] at hv
      exact (Option.some.inj hv).symm
    have hbE := (empd_get hi).trans hb
    refine wpAny_assign_Name (Lq.storeOne (σ := { σ with cs := empd σ.cs i, o5 := o5, all := all }) [(I, oJ)] q1 F2 N2 (fun p hp => ?_) rfl rfl rfl fun h3 o5' F3 N3 q3 d5 => ?_)
    · rw [List.mem_singleton.mp hp]
      exact (oI1 (L + 1 + 1 + 1 + 1 + 1, o5) (by simp)).symm
    have d2' := q3.d2
    dsimp only [cel5, List.cons_append, List.nil_append] at N3
    clear F2 N2
    walk_at "GOL"
    have hlb : b.seg.length ≤ 9 := Lq.bnd q1 (List.mem_cons_of_mem _ (List.mem_of_getElem? hbE))
    rename Fr _ _ _ _ => F4
    rename News _ _ _ _ => N4x
    have N4 := Mine.News.cutTo (l' := (I, oJ) :: (cel5 L { σ with o5 := o5' } ++ all)) N4x (by walk_at "TAILP")
    clear N4x
    refine comp1_eval F4 (by with_unfolding_all rfl) (by decide) (by rfl) (by decide) (by rfl) ?_
    walk_at "GOL"
    rename Fr _ _ _ _ => F5
    refine Lq.lenC (σ := { σ with cs := empd σ.cs i, o5 := o5', all := all }) (seg := b.seg) (c := b.c) [(I, oJ)] ops.len (ops.cf _) q3 F5 X (by walk_at "CUT") T hh hA rfl rfl (Nat.le_trans hd (by decide)) (Nat.le_trans hu (by decide)) hbE ⟨fun p hp => oI1 p (List.mem_append_right _ hp), trivial⟩ fun h6 tk6 t6 all6 F6 N6 S6 _ => ?_
    (try clear F5); (try clear F4); (try clear N4); (try clear N3)
    dsimp only [cel5, List.cons_append, List.nil_append] at N6
    walk_at "GOL"
    rename IsRange _ _ _ _ _ _ _ _ => R1
    rename Fr _ _ _ _ => F7
    rename News _ _ _ _ => N7x
    have N7 := Mine.News.cutTo (l' := (I, oJ) :: (cel5 L { σ with o5 := o5' } ++ all6)) N7x (by walk_at "TAILP")
    clear N7x
    have oIc : ∀ p ∈ cel5 L { σ with o5 := o5' }, @Ne Nat p.1 I := fun p hp => by
      simp only [cel5, List.mem_cons, List.not_mem_nil, or_false] at hp
      rcases hp with rfl | rfl | rfl | rfl | rfl
      · exact oI1 (L + 1 + 1 + 1 + 1 + 1, o5) (by simp)
      · exact oI1 (L + 1 + 1 + 1 + 1, σ.o4) (by simp)
      · exact oI1 (L + 1 + 1 + 1, σ.o3) (by simp)
      · exact oI1 (L + 1 + 1, σ.o2) (by simp)
      · exact oI1 (L + 1, σ.o1) (by simp)
    have oI6 : Off I all6 := S6.off I fun p hp => oI1 p (List.mem_append_right _ hp)
    have hjl : σ.cs.length - 1 - i < (empd σ.cs i).length := by rw [empd_len]; omega
    have hget : ∀ sg, ((empd σ.cs i).set (σ.cs.length - 1 - i) ⟨b.c, sg⟩)[σ.cs.length - 1 - i]? = some ⟨b.c, sg⟩ := fun sg => List.getElem?_set_self hjl
    refine Or.inr ⟨_, _, _, _, _, _, b.seg.length, _, fun kk ys news => ∃ all', news = (I, oJ) :: (cel5 L { σ with o5 := o5' } ++ all') ∧ Lq w (PySem.strKind PySem.Challenge.rw_bb0016_01.row.prog w) C on L m' { σ with cs := (empd σ.cs i).set (σ.cs.length - 1 - i) ⟨b.c, b.seg.take (b.seg.length - kk)⟩, o5 := o5', all := all' } ∧ (∀ p ∈ all6, NonC p.2 → p ∈ all') ∧ Off I all' ∧ RowIs ys (b.seg.drop (b.seg.length - kk)).reverse all', rfl, hh, F7, N7, R1, small_one (by omega) (by omega) (by omega) (by omega), rangeSize_nat _ _, by rw [sizeLine_eq]; omega, ⟨all6, rfl, ?_, fun p hp _ => hp, oI6, ?_⟩, ?fin1, ?step1⟩
    · rw [Nat.sub_zero, List.take_length, set_self (b := ⟨b.c, b.seg⟩) hbE]
      exact S6.q
    · rw [Nat.sub_zero, List.drop_length]
      exact RowIs.nil
    case fin1 =>
      rintro ys news ⟨all', rfl, q8, keep8, oI8, hR8⟩ D h8 tk8 F8 N8 o1
      rw [Nat.sub_self, List.take_zero, empd_set hi hb] at q8
      rw [Nat.sub_self, List.drop_zero] at hR8
      have oD := Off1.off o1
      have q9 := q8.grow (o := LCg.lst ys) (notCell_of (L := L) (σ := { σ with o5 := o5' }) fun p hp => oD p (List.mem_cons_of_mem _ hp))
      have hG8 := keep8 _ (S6.keep _ hG .list) .list
      have hax8 := keep8 _ (S6.keep _ hax .list) .list
      have hRg8 := (hRg.mono S6.keep).mono keep8
      have hgl : gvs.length ≤ 12 := by
        have e1 := hRg.1
        have e : heldC σ.cs = heldC (σ.cs.take (σ.cs.length - i)) ++ heldC (σ.cs.drop (σ.cs.length - i)) := by
          show List.flatMap _ _ = List.flatMap _ _ ++ List.flatMap _ _
          rw [← List.flatMap_append, List.take_append_drop]
        rw [e, List.length_append] at hcl
        rw [List.length_reverse] at e1
        omega
      have hyl : ys.length ≤ 9 := by have := hR8.1; rw [List.length_reverse] at this; omega
      have N9 : News h₀ L h8 ((I, oJ) :: (cel5 L { σ with o5 := o5' } ++ (D, LCg.lst ys) :: all')) := fun p hp => N8 p (by simp only [List.mem_append, List.mem_cons] at hp ⊢; grind)
      clear N8 N7 F7
      refine kmk_add_lit (zs := gvs ++ ys) F8 N9 (News.isList N9 (List.mem_cons_of_mem _ (List.mem_append_right _ (List.mem_cons_of_mem _ hG8)))) (News.isList N9 (List.mem_cons_of_mem _ (List.mem_append_right _ List.mem_cons_self))) (by simp) (fun D2 h2 F2 N2 l2 => ?_) (by rw [sizeLine_eq]; simp; omega)
      have oD2 := off_new l2
      have q10 := q9.grow (o := W.listOf (gvs ++ ys).toArray 0) (notCell_of (L := L) (σ := { σ with o5 := o5' }) fun p hp => oD2 p (List.mem_cons_of_mem _ hp))
      have N11 : News h₀ L h2 ((I, oJ) :: (cel5 L { σ with o5 := o5' } ++ (D2, W.listOf (gvs ++ ys).toArray 0) :: (D, LCg.lst ys) :: all')) := fun p hp => N2 p (by simp only [List.mem_append, List.mem_cons] at hp ⊢; grind)
      clear N2 N9 F8
      dsimp only [cel5, List.cons_append, List.nil_append] at N11
      walk_at "GOL"
      rename Fr _ _ _ _ => F12
      rename News _ _ _ _ => N12
      refine ⟨_, _, _, (D2, W.listOf (gvs ++ ys).toArray 0) :: (D, LCg.lst ys) :: all', o5', oJ, D2, gvs ++ ys, 0, nx, rfl, F12, N12, ?_, hitJ _ (N12 (I, oJ) List.mem_cons_self).1, List.mem_cons_of_mem _ (List.mem_cons_of_mem _ hax8), q10.names rfl rfl, List.mem_cons_self, ?_, by simp⟩
      · intro p hp
        simp only [List.mem_append, List.mem_cons] at hp
        rcases hp with hp | rfl | rfl | hp
        · exact oIc p (by simp only [cel5, List.mem_cons] at hp ⊢; exact hp)
        · exact (oD2 (I, oJ) List.mem_cons_self).symm
        · exact (oD (I, oJ) List.mem_cons_self).symm
        · exact oI8 p hp
      · rw [empd_held hi hb]
        exact (hRg8.mono fun p hp _ => List.mem_cons_of_mem _ (List.mem_cons_of_mem _ hp)).append (hR8.mono fun p hp _ => List.mem_cons_of_mem _ (List.mem_cons_of_mem _ hp))
    case step1 =>
      rintro kk ys news v hkk ⟨all', rfl, q8, keep8, oI8, hR8⟩ ⟨tv, rfl⟩ Ic oIcc C' oC D m₂ h8 tk8 E' hC hB F' N' off ne
      refine wpAny_tests_nil ?_
      rw [if_pos rfl]
      clear N7 F7
      dsimp only [cel5, List.cons_append, List.nil_append] at N'
      walk_at "GOL"
      rename Fr _ _ _ _ => F9
      have om := off.mem
      have offs : Offs [(Ic, oIcc), (C', oC), (D, LCg.lst ys), (I, oJ)] all' := ⟨fun p hp => (om p (List.mem_cons_of_mem _ (List.mem_append_right _ hp))).1, fun p hp => (om p (List.mem_cons_of_mem _ (List.mem_append_right _ hp))).2.1, fun p hp => (om p (List.mem_cons_of_mem _ (List.mem_append_right _ hp))).2.2, oI8, trivial⟩
      refine Lq.popiMC (σ := { σ with cs := (empd σ.cs i).set (σ.cs.length - 1 - i) ⟨b.c, b.seg.take (b.seg.length - kk)⟩, o5 := o5', all := all' }) [(Ic, oIcc), (C', oC), (D, LCg.lst ys), (I, oJ)] (ops.cf _) q8 F9 X (by walk_at "CUT") (hget _) ?_
      dsimp only
      walk_at "GOL"
      rename Fr _ _ _ _ => F9
      refine Lq.popiCD (σ := { σ with cs := (empd σ.cs i).set (σ.cs.length - 1 - i) ⟨b.c, b.seg.take (b.seg.length - kk)⟩, o5 := o5', all := all' }) [(Ic, oIcc), (C', oC), (D, LCg.lst ys), (I, oJ)] ops.popi q8 F9 X (by walk_at "CUT") T hh hA rfl rfl (Nat.le_trans hd (by decide)) (Nat.le_trans hu (by decide)) (hget _) (fun z => by have := congrArg List.length z; rw [List.length_take, List.length_nil] at this; omega) offs fun h9 tk9 all9 seg9 y9 T9 t9 u9 he F10 N10 oT q10 keep10 off10 => ?_
      obtain ⟨e1, e2⟩ := take_rev hkk he
      subst e1
      rw [List.set_set] at q10
      (try clear F9); (try clear N')
      have nT : NotCell L T9 := Lq.notCell (o := tupO y9 t9 u9) q10 N10 (fun p hp => List.mem_cons_of_mem _ (List.mem_append_right _ (List.mem_append_left _ hp))) List.mem_cons_self (fun v => by simp)
      have q11 := q10.grow (o := tupO y9 t9 u9) nT
      have N11 : News h₀ L h9 ((Ic, oIcc) :: (C', oC) :: (D, LCg.lst ys) :: (I, oJ) :: (cel5 L { σ with o5 := o5' } ++ (T9, tupO y9 t9 u9) :: all9)) := fun p hp => N10 p (by simp only [List.mem_append, List.mem_cons, List.not_mem_nil, or_false] at hp ⊢; grind)
      dsimp only [cel5, List.cons_append, List.nil_append] at N10
      walk_at "GOL"
      refine ⟨h9, _, (I, oJ) :: (cel5 L { σ with o5 := o5' } ++ (T9, tupO y9 t9 u9) :: all9), rfl, F10, N11, LCg.Off3.of fun p hp => ?_, trivial, (T9, tupO y9 t9 u9) :: all9, rfl, q11, fun p hp hn => List.mem_cons_of_mem _ (keep10 p (keep8 p hp hn) hn), ?_, ?_⟩
      · rcases List.mem_cons.mp hp with rfl | hp
        · exact om _ List.mem_cons_self
        · rcases List.mem_append.mp hp with hp | hp
          · exact om p (List.mem_cons_of_mem _ (List.mem_append_left _ hp))
          · rcases List.mem_cons.mp hp with rfl | hp
            · exact ⟨oT (Ic, oIcc) (by simp), oT (C', oC) (by simp), oT (D, LCg.lst ys) (by simp)⟩
            · exact ⟨off10 _ offs.1 p hp, off10 _ offs.2.1 p hp, off10 _ offs.2.2.1 p hp⟩
      · exact (off10 _ oI8).cons (oT (I, oJ) (by simp))
      · rw [e2]
        exact (hR8.mono fun p hp hn => List.mem_cons_of_mem _ (keep10 p hp hn)).snoc List.mem_cons_self
set_option maxRecDepth 100000 in
set_option maxHeartbeats 6000000 in
theorem f9 : Box (∀ {w : World} {s : Shared} {A : Around} {E : Value → Shared → Prop} {h₀ : Heap} {L f C : Addr} {on : Str} {cdv : Value} {qual : Str} {Q : Flow → Shared → Prop} {m : Str → Option Value} {mean : ExcName → Option Value} {mg mb : Str → Option Value} {lse : List Str} {σ : LSt} {gfn sfn pfn : Addr} {touch : Bool} {G : Addr} {gvs : List Value} {ng : Nat},
    A.handled = none → A.frames = some [envOfC qual (fnScope (Mine.pre.heap_1_1 w.params) 968) L f cdv] → A.depth ≤ 305 → A.units ≤ 305 → (Mine.pre.heap_1_1 w.params).In h₀ → Top Mine.pre.view_1_2 lse mean mg mb h₀ →
    Lw (prog := PySem.Challenge.rw_bb0016_01.row.prog) w (PySem.strKind _ w) C on h₀ L m s.heap σ → Ops (prog := PySem.Challenge.rw_bb0016_01.row.prog) Mine.pre.heap_1_1 Mine.pre.view_1_2 (fun w => PySem.strKind PySem.Challenge.rw_bb0016_01.row.prog w) C on gfn sfn pfn touch → OLenS (prog := PySem.Challenge.rw_bb0016_01.row.prog) Mine.pre.heap_1_1 Mine.pre.view_1_2 (fun w => PySem.strKind PySem.Challenge.rw_bb0016_01.row.prog w) C on 770 → m (Str.ofString "given") = some (.ref G) → (G, W.listOf gvs.toArray ng) ∈ σ.all → RowIs gvs σ.row.reverse σ.all → σ.W.seg = σ.row → NamesOk (keys σ.row) →
    (∀ h' tk all', Fr h₀ L h' m → News h₀ L h' (cel5 L σ ++ all') → Lq w (PySem.strKind PySem.Challenge.rw_bb0016_01.row.prog w) C on L m { σ with W := ⟨σ.W.c, []⟩, all := all' } → Q .next { s with heap := h', toks := tk }) →
    wpAny (model PySem.Challenge.rw_bb0016_01.row.prog w) A (exec (nthS (fnBody (Mine.pre.heap_1_1 w.params) 968) 9) (envOfC qual (fnScope (Mine.pre.heap_1_1 w.params) 968) L f cdv)) Q E s) := by
  refine ⟨?_⟩
  k_fill
  intro w s A E h₀ L f C on cdv qual Q m mean mg mb lse σ
  intro gfn sfn pfn touch G gvs ng hh hA hd hu X T S ops ol mg hG hRg hW ok hQ
  obtain ⟨e1, e2⟩ := fnBody_eq (K := Mine.pre.heap_1_1 w.params) (f := 968) (by k_is)
  have kf := (@Box.out _ kinds w L).1
  rw [e1, e2]
  rw [e2] at hA kf
  clear e1 e2
  dsimp only [nthS, subS, elsS, tstS]
  have S0 := S
  obtain ⟨F, N, qL⟩ := S
  have d1 := qL.d1
  have d2 := qL.d2
  have d3 := qL.d3
  dsimp only [cel5, List.cons_append, List.nil_append] at N
  have pk := (ops.cf w.params).popiK
  obtain ⟨rvs, nr, hr, hR⟩ := qL.rows
  have r1 := qL.r1
  have hrl := qL.rl
  have hrv := hR.1
  have okr : NamesOk (keys σ.row.reverse) := ok.perm (by simpa [keys] using (List.reverse_perm (keys σ.row)))
  walk_at "GOW"
  rename News _ _ _ _ => N1
  refine ne_rows (rvs' := rvs.reverse) (all := σ.all) N1 (by walk_at "TAILP") (by k_mem) (by k_mem) hRg hR.rev okr okr (Nat.lt_of_le_of_lt (Nat.add_le_add_right hu 64) (by decide)) ?_
  rw [show (!decide (σ.row.reverse = σ.row.reverse)) = false from by simp]
  walk_at "GOW"
  rename Fr _ _ _ _ => F5
  rename News _ _ _ _ => N5x
  have N5 := Mine.News.cutTo (l' := cel5 L σ ++ σ.all) N5x (by walk_at "TAILP")
  clear N5x
  refine comp1_eval F5 (by with_unfolding_all rfl) (by decide) (by rfl) (by decide) (by rfl) ?_
  walk_at "GOW"
  refine Or.inl ⟨_, rvs.toArray, _, fun kk ys news => ∃ all', news = cel5 L σ ++ all' ∧ Lq w (PySem.strKind PySem.Challenge.rw_bb0016_01.row.prog w) C on L m { σ with W := ⟨σ.W.c, σ.row.take (σ.row.length - kk)⟩, all := all' } ∧ (∀ p ∈ σ.all, NonC p.2 → p ∈ all') ∧ RowIs ys (σ.row.drop (σ.row.length - kk)).reverse all', rfl, hh, F5, N5, src_all hr, by rw [sizeLine_eq, List.size_toArray]; omega, ⟨σ.all, rfl, ?_, fun p hp _ => hp, ?_⟩, ?fin1, ?step1⟩
  · have eW : (⟨σ.W.c, σ.row⟩ : Cell) = σ.W := by rw [← hW]
    rw [Nat.sub_zero, List.take_length, eW]
    exact qL
  · rw [Nat.sub_zero, List.drop_length]
    exact RowIs.nil
  case fin1 =>
    rintro ys news ⟨all', rfl, q8, keep8, hR8⟩ D h8 tk8 F8 N8 o1
    rw [List.size_toArray, hrv, Nat.sub_self, List.take_zero] at q8
    rw [List.size_toArray, hrv, Nat.sub_self, List.drop_zero] at hR8
    have oD := Off1.off o1
    have q9 := q8.grow (o := LCg.lst ys) (notCell_of (L := L) (σ := σ) oD)
    have hr8 : (σ.Lr, W.listOf rvs.toArray nr) ∈ (D, LCg.lst ys) :: all' := List.mem_cons_of_mem _ (keep8 _ hr .list)
    have hR9 : RowIs rvs σ.row ((D, LCg.lst ys) :: all') := hR.mono fun p hp hn => List.mem_cons_of_mem _ (keep8 p hp hn)
    have hR8' : RowIs ys σ.row.reverse ((D, LCg.lst ys) :: all') := hR8.mono fun p hp hn => List.mem_cons_of_mem _ hp
    have N9 : News h₀ L h8 (cel5 L σ ++ (D, LCg.lst ys) :: all') := fun p hp => N8 p (by simp only [List.mem_append, List.mem_cons] at hp ⊢; grind)
    clear N8 N5 F5
    generalize hA8 : (D, LCg.lst ys) :: all' = all8 at *
    have hD8 : (D, LCg.lst ys) ∈ all8 := by rw [← hA8]; exact List.mem_cons_self
    dsimp only [cel5, List.cons_append, List.nil_append] at N9
    walk_at "GOW"
    rename News _ _ _ _ => N10
    refine ne_rows (rvs := ys) (rvs' := rvs.reverse) (all := all8) N10 (by walk_at "TAILP") (by k_mem) (by k_mem) hR8' hR9.rev okr okr (Nat.lt_of_le_of_lt (Nat.add_le_add_right hu 64) (by decide)) ?_
    rw [show (!decide (σ.row.reverse = σ.row.reverse)) = false from by simp]
    walk_at "GOW"
    rename Fr _ _ _ _ => F11
    refine Lq.lenB (σ := { σ with W := ⟨σ.W.c, []⟩, all := all8 }) (b := ⟨σ.W.c, []⟩) [] ol (ops.cf _) q9 F11 X (by walk_at "CUT") T hh hA rfl rfl (Nat.le_trans hd (by decide)) (Nat.le_trans hu (by decide)) List.mem_cons_self fun h12 tk12 t12 F12 N12 => ?_
    (try clear N10); (try clear F11)
    dsimp only [cel5, List.cons_append, List.nil_append, List.length_nil] at N12 ⊢
    walk_at "GOW"
    rename Fr _ _ _ _ => F13
    exact hQ _ _ all8 F13 (by walk_at "CUT") q9
  case step1 =>
    rintro kk ys news v hkk ⟨all', rfl, q8, keep8, hR8⟩ hv Ic oIcc C' oC D m₂ h8 tk8 E' hC hB F' N' off ne
    have hkl : kk < σ.row.length := by rw [List.size_toArray] at hkk; omega
    refine wpAny_tests_nil ?_
    rw [if_pos rfl]
    clear N5 F5
    dsimp only [cel5, List.cons_append, List.nil_append] at N'
    walk_at "GOW"
    rename Fr _ _ _ _ => F9
    have offs : Offs [(Ic, oIcc), (C', oC), (D, LCg.lst ys)] all' := Mine.Off3.offs (L := L) (σ := σ) off
    refine Lq.popiMW (σ := { σ with W := ⟨σ.W.c, σ.row.take (σ.row.length - kk)⟩, all := all' }) [(Ic, oIcc), (C', oC), (D, LCg.lst ys)] (ops.cf _) q8 F9 X (by walk_at "CUT") ?_
    dsimp only
    walk_at "GOW"
    rename Fr _ _ _ _ => F9
    refine Lq.popiWD (σ := { σ with W := ⟨σ.W.c, σ.row.take (σ.row.length - kk)⟩, all := all' }) [(Ic, oIcc), (C', oC), (D, LCg.lst ys)] ops.popi q8 F9 X (by walk_at "CUT") T hh hA rfl rfl (Nat.le_trans hd (by decide)) (Nat.le_trans hu (by decide)) (fun z => by have := congrArg List.length z; dsimp only at this; rw [List.length_take, List.length_nil] at this; omega) offs fun h9 tk9 all9 seg9 y9 T9 t9 u9 he F10 N10 oT q10 keep10 off10 => ?_
    obtain ⟨e1, e2⟩ := take_rev hkl he
    subst e1
    (try clear F9); (try clear N')
    have nT : NotCell L T9 := Lq.notCell (o := tupO y9 t9 u9) q10 N10 (fun p hp => List.mem_cons_of_mem _ (List.mem_append_right _ (List.mem_append_left _ hp))) List.mem_cons_self (fun v => by simp)
    have q11 := q10.grow (o := tupO y9 t9 u9) nT
    have N11 : News h₀ L h9 ((Ic, oIcc) :: (C', oC) :: (D, LCg.lst ys) :: (cel5 L σ ++ (T9, tupO y9 t9 u9) :: all9)) := fun p hp => N10 p (by simp only [List.mem_append, List.mem_cons, List.not_mem_nil, or_false] at hp ⊢; grind)
    have om := off.mem
    dsimp only [cel5, List.cons_append, List.nil_append] at N10
    walk_at "GOW"
    refine ⟨h9, _, cel5 L σ ++ (T9, tupO y9 t9 u9) :: all9, rfl, F10, N11, LCg.Off3.of fun p hp => ?_, src_all (List.mem_cons_of_mem _ (keep10 _ (keep8 _ hr .list) .list)), (T9, tupO y9 t9 u9) :: all9, rfl, q11, fun p hp hn => List.mem_cons_of_mem _ (keep10 p (keep8 p hp hn) hn), ?_⟩
    · rcases List.mem_append.mp hp with hp | hp
      · exact om p (List.mem_append_left _ hp)
      · rcases List.mem_cons.mp hp with rfl | hp
        · exact ⟨oT (Ic, oIcc) (by simp), oT (C', oC) (by simp), oT (D, LCg.lst ys) (by simp)⟩
        · exact ⟨off10 _ offs.1 p hp, off10 _ offs.2.1 p hp, off10 _ offs.2.2.1 p hp⟩
    · rw [e2]
      exact (hR8.mono fun p hp hn => List.mem_cons_of_mem _ (keep10 p hp hn)).snoc List.mem_cons_self
set_option maxRecDepth 100000 in
set_option maxHeartbeats 6000000 in
theorem p02 : Box (∀ {w : World} {s : Shared} {A : Around} {E : Value → Shared → Prop} {h₀ : Heap} {L f sc : Addr} {cdv : Value} {qual : Str} {Q : Flow → Shared → Prop} {m : Str → Option Value} {mean : ExcName → Option Value} {mg mb : Str → Option Value} {lse : List Str} {vs : List Value} {ns : List Int} {o1 o2 o3 o4 o5 : Obj} {v1 : Option Value} {rest : List Stmt},
    A.handled = none → A.frames = some [(envOfC qual (fnScope (Mine.pre.heap_1_1 w.params) 968) L f cdv)] → A.depth ≤ 305 → A.units ≤ 305 → (Mine.pre.heap_1_1 w.params).In h₀ → Top Mine.pre.view_1_2 lse mean mg mb h₀ →
    Fr h₀ L s.heap m → News h₀ L s.heap [(L + 1 + 1 + 1 + 1 + 1, o5), (L + 1 + 1 + 1 + 1, o4), (L + 1 + 1 + 1, o3), (L + 1 + 1, o2), (L + 1, o1)] → o1.data = .cell v1 → m (Str.ofString "script") = some (.ref sc) → h₀.IsList sc vs.toArray → IntsAre vs ns → ns.length ≤ 63 →
    (∀ h' tk m' o1' kd kt Lm mvs rs n all, Fr h₀ L h' m' → News h₀ L h' ([(L + 1 + 1 + 1 + 1 + 1, o5), (L + 1 + 1 + 1 + 1, o4), (L + 1 + 1 + 1, o3), (L + 1 + 1, o2), (L + 1, o1')] ++ all) → (∀ p ∈ all, ∃ vs n, p.2 = W.listOf vs n) → o1'.data = .cell (some (.int kd kt)) → (kd = 0 ∨ kd = 1) → (Lm, W.listOf mvs.toArray n) ∈ all → IntsAre mvs rs → 2 ≤ rs.length → rs.length ≤ 3 → (∀ r ∈ rs, 1 ≤ r ∧ r ≤ 3) → m' (Str.ofString "rooms") = some (.ref Lm) → m' (Str.ofString "script") = some (.ref sc) →
      wpAny (model PySem.Challenge.rw_bb0016_01.row.prog w) A (execs rest (envOfC qual (fnScope (Mine.pre.heap_1_1 w.params) 968) L f cdv)) Q E { s with heap := h', toks := tk }) →
    wpAny (model PySem.Challenge.rw_bb0016_01.row.prog w) A (execs (nthS (fnBody (Mine.pre.heap_1_1 w.params) 968) 0 :: nthS (fnBody (Mine.pre.heap_1_1 w.params) 968) 1 :: nthS (fnBody (Mine.pre.heap_1_1 w.params) 968) 2 :: rest) (envOfC qual (fnScope (Mine.pre.heap_1_1 w.params) 968) L f cdv)) Q E s) := by
  refine ⟨?_⟩
  k_fill
  intro w s A E h₀ L f sc cdv qual Q m mean mg mb lse vs ns o1 o2 o3 o4 o5 v1 rest hh hA hd hu X T F N d1 ms hL hI hn
  obtain ⟨e1, e2⟩ := fnBody_eq (K := Mine.pre.heap_1_1 w.params) (f := 968) (by k_is)
  have kf := (@Box.out _ kinds w L).1
  rw [e1, e2]
  rw [e2] at hA kf
  clear e1 e2
  dsimp only [nthS, subS, elsS, tstS]
  intro hQ
  have hvl := hI.length
  walk_at "GOT"
  rename_i D4 ws4 h4 hI4 hC4 hL4 l4 h5 F5 N5
  rename Obj => ox
  rename Obj.data _ = Data.cell (some (Value.int _ _)) => dx
  have fm : ∀ (x k : Int), 0 < k → 0 ≤ x.fmod k ∧ x.fmod k < k := fun x k hk => by rw [Int.fmod_eq_emod_of_nonneg _ (Int.le_of_lt hk)]; exact ⟨Int.emod_nonneg _ (by omega), Int.emod_lt_of_pos _ hk⟩
  have f1 := fm ((List.take 2 (ns ++ [0, 0])).getD 1 0) 2 (by decide)
  have f0 := fm ((List.take 2 (ns ++ [0, 0])).getD (Int.toNat 0) 0) 2 (by decide)
  simp only [List.length_cons, List.length_nil] at hC4 hL4
  refine hQ _ _ _ _ _ _ D4 ws4 _ 0 [(D4, W.listOf ws4.toArray 0)] F5 (News.cutTo N5 ?_) ?_ dx (by omega) List.mem_cons_self hI4 (by omega) (by omega) ?_ rfl ms
  · intro q hq
    simp only [List.cons_append, List.nil_append, List.mem_cons, List.not_mem_nil, or_false] at hq ⊢
    rcases hq with h | h | h | h | h | h <;> simp [h]
  · intro p hp
    rw [List.mem_singleton.mp hp]
    exact ⟨_, _, rfl⟩
  · intro r hr
    have hr := List.mem_of_mem_take hr
    simp only [List.mem_cons, List.not_mem_nil, or_false] at hr
    rcases hr with rfl | rfl | rfl
    · have := fm (((List.take 2 (ns ++ [0, 0])).getD 0 0).fdiv 2) 3 (by decide); omega
    · have := fm (((List.take 2 (ns ++ [0, 0])).getD 0 0).fdiv 6) 3 (by decide); omega
    · have := fm (((List.take 2 (ns ++ [0, 0])).getD 0 0).fdiv 18) 3 (by decide); omega
set_option maxRecDepth 100000 in
set_option maxHeartbeats 6000000 in
theorem turn : Box (∀ {w : World} {s : Shared} {A : Around} {E : Value → Shared → Prop} {h₀ : Heap} {L f C : Addr} {on : Str} {cdv : Value} {qual : Str} {Q : Flow → Shared → Prop} {m : Str → Option Value} {mean : ExcName → Option Value} {mg mb : Str → Option Value} {lse : List Str} {σ : LSt} {num tick : Int} {nt kt2 : Tok} {gfn sfn pfn : Addr} {touch : Bool} {M : Nat},
    A.handled = none → A.frames = some [(envOfC qual (fnScope (Mine.pre.heap_1_1 w.params) 968) L f cdv)] → A.depth ≤ 305 → A.units ≤ 305 → (Mine.pre.heap_1_1 w.params).In h₀ → Top Mine.pre.view_1_2 lse mean mg mb h₀ →
    Lw (prog := PySem.Challenge.rw_bb0016_01.row.prog) w (PySem.strKind _ w) C on h₀ L m s.heap σ → m (Str.ofString "number") = some (.int num nt) → m (Str.ofString "tick") = some (.int tick kt2) → Ops (prog := PySem.Challenge.rw_bb0016_01.row.prog) Mine.pre.heap_1_1 Mine.pre.view_1_2 (fun w => PySem.strKind PySem.Challenge.rw_bb0016_01.row.prog w) C on gfn sfn pfn touch → OLenS (prog := PySem.Challenge.rw_bb0016_01.row.prog) Mine.pre.heap_1_1 Mine.pre.view_1_2 (fun w => PySem.strKind PySem.Challenge.rw_bb0016_01.row.prog w) C on 770 → PL M σ.cs σ.W σ.row → ((σ.kd = 1 ∧ touch = false) ∨ (σ.kd = 0 ∧ touch = true)) →
    (∀ h' tk m' σ', Lw (prog := PySem.Challenge.rw_bb0016_01.row.prog) w (PySem.strKind _ w) C on h₀ L m' h' σ' → PL M σ'.cs σ'.W σ'.row → σ'.kd = σ.kd → σ'.ex = σ.ex → Q .next { s with heap := h', toks := tk }) →
    wpAny (model PySem.Challenge.rw_bb0016_01.row.prog w) A (execs (subS (nthS (fnBody (Mine.pre.heap_1_1 w.params) 968) 6)) (envOfC qual (fnScope (Mine.pre.heap_1_1 w.params) 968) L f cdv)) Q E s) := by
  refine ⟨?_⟩
  k_fill
  intro w s A E h₀ L f C on cdv qual Q m mean mg mb lse σ num tick nt kt2 gfn sfn pfn touch M hh hA hd hu X T S hnum htick ops ols pl hkd hQ
  have sh : (subS (nthS (fnBody (Mine.pre.heap_1_1 w.params) 968) 6)) = [nthS (subS (nthS (fnBody (Mine.pre.heap_1_1 w.params) 968) 6)) 0, nthS (subS (nthS (fnBody (Mine.pre.heap_1_1 w.params) 968) 6)) 1, nthS (subS (nthS (fnBody (Mine.pre.heap_1_1 w.params) 968) 6)) 2, nthS (subS (nthS (fnBody (Mine.pre.heap_1_1 w.params) 968) 6)) 3, nthS (subS (nthS (fnBody (Mine.pre.heap_1_1 w.params) 968) 6)) 4, nthS (subS (nthS (fnBody (Mine.pre.heap_1_1 w.params) 968) 6)) 5, nthS (subS (nthS (fnBody (Mine.pre.heap_1_1 w.params) 968) 6)) 6, nthS (subS (nthS (fnBody (Mine.pre.heap_1_1 w.params) 968) 6)) 7] ∧ (∃ t b o p, (nthS (subS (nthS (fnBody (Mine.pre.heap_1_1 w.params) 968) 6)) 6) = .If t b o p) ∧ (elsS (nthS (subS (nthS (fnBody (Mine.pre.heap_1_1 w.params) 968) 6)) 6)) = [(nthS (elsS (nthS (subS (nthS (fnBody (Mine.pre.heap_1_1 w.params) 968) 6)) 6)) 0)] ∧ (∃ t b o p, (nthS (elsS (nthS (subS (nthS (fnBody (Mine.pre.heap_1_1 w.params) 968) 6)) 6)) 0) = .If t b o p) ∧ (subS (nthS (elsS (nthS (subS (nthS (fnBody (Mine.pre.heap_1_1 w.params) 968) 6)) 6)) 0)) = [nthS (subS (nthS (elsS (nthS (subS (nthS (fnBody (Mine.pre.heap_1_1 w.params) 968) 6)) 6)) 0)) 0, nthS (subS (nthS (elsS (nthS (subS (nthS (fnBody (Mine.pre.heap_1_1 w.params) 968) 6)) 6)) 0)) 1, nthS (subS (nthS (elsS (nthS (subS (nthS (fnBody (Mine.pre.heap_1_1 w.params) 968) 6)) 6)) 0)) 2, nthS (subS (nthS (elsS (nthS (subS (nthS (fnBody (Mine.pre.heap_1_1 w.params) 968) 6)) 6)) 0)) 3, nthS (subS (nthS (elsS (nthS (subS (nthS (fnBody (Mine.pre.heap_1_1 w.params) 968) 6)) 6)) 0)) 4, nthS (subS (nthS (elsS (nthS (subS (nthS (fnBody (Mine.pre.heap_1_1 w.params) 968) 6)) 6)) 0)) 5, nthS (subS (nthS (elsS (nthS (subS (nthS (fnBody (Mine.pre.heap_1_1 w.params) 968) 6)) 6)) 0)) 6, nthS (subS (nthS (elsS (nthS (subS (nthS (fnBody (Mine.pre.heap_1_1 w.params) 968) 6)) 6)) 0)) 7] ∧ (elsS (nthS (elsS (nthS (subS (nthS (fnBody (Mine.pre.heap_1_1 w.params) 968) 6)) 6)) 0)) = [(nthS (elsS (nthS (elsS (nthS (subS (nthS (fnBody (Mine.pre.heap_1_1 w.params) 968) 6)) 6)) 0)) 0)] ∧ (∃ t b o p, (nthS (elsS (nthS (elsS (nthS (subS (nthS (fnBody (Mine.pre.heap_1_1 w.params) 968) 6)) 6)) 0)) 0) = .If t b o p) ∧ (elsS (nthS (elsS (nthS (elsS (nthS (subS (nthS (fnBody (Mine.pre.heap_1_1 w.params) 968) 6)) 6)) 0)) 0)) = [(nthS (elsS (nthS (elsS (nthS (elsS (nthS (subS (nthS (fnBody (Mine.pre.heap_1_1 w.params) 968) 6)) 6)) 0)) 0)) 0)] ∧ (∃ t b o p, (nthS (elsS (nthS (elsS (nthS (elsS (nthS (subS (nthS (fnBody (Mine.pre.heap_1_1 w.params) 968) 6)) 6)) 0)) 0)) 0) = .If t b o p) ∧ (subS (nthS (elsS (nthS (elsS (nthS (elsS (nthS (subS (nthS (fnBody (Mine.pre.heap_1_1 w.params) 968) 6)) 6)) 0)) 0)) 0)) = [nthS (subS (nthS (elsS (nthS (elsS (nthS (elsS (nthS (subS (nthS (fnBody (Mine.pre.heap_1_1 w.params) 968) 6)) 6)) 0)) 0)) 0)) 0, nthS (subS (nthS (elsS (nthS (elsS (nthS (elsS (nthS (subS (nthS (fnBody (Mine.pre.heap_1_1 w.params) 968) 6)) 6)) 0)) 0)) 0)) 1, nthS (subS (nthS (elsS (nthS (elsS (nthS (elsS (nthS (subS (nthS (fnBody (Mine.pre.heap_1_1 w.params) 968) 6)) 6)) 0)) 0)) 0)) 2] ∧ elsS (nthS (elsS (nthS (elsS (nthS (elsS (nthS (subS (nthS (fnBody (Mine.pre.heap_1_1 w.params) 968) 6)) 6)) 0)) 0)) 0) = [] := by
    obtain ⟨z1, _⟩ := fnBody_eq (K := Mine.pre.heap_1_1 w.params) (f := 968) (by k_is)
    rw [z1]
    exact ⟨rfl, ⟨_, _, _, _, rfl⟩, rfl, ⟨_, _, _, _, rfl⟩, rfl, rfl, ⟨_, _, _, _, rfl⟩, rfl, ⟨_, _, _, _, rfl⟩, rfl, rfl⟩
  obtain ⟨hT, hI0, hE0, hI1, hP1, hE1, hI2, hE2, hI3, hP3, hE3⟩ := sh
  rw [hT]
  -- the key, the deed
  refine wpAny_execs_cons (s1.out hh hA hd hu X T S hnum fun h1 tk1 m1 o4 k t d td S1 d4 kok hdr dr0 dr8 nm1 => ?_)
  refine wpAny_execs_cons (s2.out hh hA hd hu X T S1 hdr dr0 dr8 fun h2 tk2 m2 e te S2 hde e0 e3 nm2 => ?_)
  -- having, worths
  refine wpAny_execs_cons (s3.out hh hA hd hu X T S2 d4 (ops.cf _) ops.has fun h3 tk3 m3 all3 Hv hvs n3 F3 N3 K3 hHv hHI mh3 nm3 => ?_)
  refine wpAny_execs_cons (s4.out hh hA hd hu X T (σ := { σ with o4 := o4, all := all3 }) ⟨F3, N3, K3.q⟩ d4 fun h4 tk4 m4 all4 Wv wvs n4 F4 N4 K4 hWv hWI mw4 nm4 => ?_)
  have hHv4 := K4.keep _ hHv .list
  have mh4 : m4 (Str.ofString "having") = some (.ref Hv) := (nm4 _ (by decide)).trans mh3
  have tick4 : m4 (Str.ofString "tick") = some (.int tick kt2) := (nm4 _ (by decide)).trans ((nm3 _ (by decide)).trans ((nm2 _ (by decide)).trans ((nm1 _ (by decide)).trans htick)))
  have de4 : m4 (Str.ofString "deed") = some (.int e te) := (nm4 _ (by decide)).trans ((nm3 _ (by decide)).trans hde)
  clear nm1 nm2 nm3 nm4 mh3 hdr hde S1 S2 N3 F3 hHv S
  have fc : FitC σ.cs := K4.q.fitC
  have rle := pl.len fc
  have M9 := pl.m9
  have hnC : (keys (heldC σ.cs)).Nodup := by rw [pl.hc]; exact pl.nd
  -- the two ways: nobody has the key, or one cache has it
  have ways : (k ∉ keys σ.row ∧ hvs = [] ∧ wvs = []) ∨ ∃ (p : Int) (i : Nat) (c : Loc) (seg : Seg) (th tw : Tok), (k, p) ∈ σ.row ∧ σ.cs[i]? = some ⟨c, seg⟩ ∧ (k, p) ∈ seg ∧ hvs = [.int (i : Int) th] ∧ wvs = [.int p tw] := by
    by_cases hk : k ∈ keys σ.row
    · obtain ⟨p, hp⟩ := mem_of_key hk
      obtain ⟨i, c, seg, e1, e2, e3⟩ := pl.cell hp
      rw [e1] at hHI
      rw [worths_one hp pl.nd] at hWI
      obtain ⟨th, r1, e4, r2⟩ := IntsAre.cons_inv hHI
      obtain ⟨tw, r3, e5, r4⟩ := IntsAre.cons_inv hWI
      rw [IntsAre.nil_inv r2] at e4
      rw [IntsAre.nil_inv r4] at e5
      exact .inr ⟨p, i, c, seg, th, tw, hp, e2, e3, e4, e5⟩
    · rw [havs_nil (by rw [pl.hc]; exact hk)] at hHI
      rw [worths_nil hk] at hWI
      exact .inl ⟨hk, IntsAre.nil_inv hHI, IntsAre.nil_inv hWI⟩
  clear hHI hWI
  -- what follows the deeds: the turn's last check
  have last : ∀ (h' : Heap) (tk : Nat) (m' : Str → Option Value) (σ' : LSt), Lw (prog := PySem.Challenge.rw_bb0016_01.row.prog) w (PySem.strKind _ w) C on h₀ L m' h' σ' → PL M σ'.cs σ'.W σ'.row → σ'.kd = σ.kd → σ'.ex = σ.ex →
      wpAny (model PySem.Challenge.rw_bb0016_01.row.prog w) A (execs [nthS (subS (nthS (fnBody (Mine.pre.heap_1_1 w.params) 968) 6)) 7] (envOfC qual (fnScope (Mine.pre.heap_1_1 w.params) 968) L f cdv)) Q E { s with heap := h', toks := tk } := fun h' tk m' σ' S' pl' k1 k2 =>
    wpAny_execs_cons (s8.out (s := { s with heap := h', toks := tk }) hh hA hd hu X T S' ops ols (by rw [pl'.hc]) (by rw [pl'.hw]) pl'.ok fun h2 tk2 all2 F2 N2 K2 => wpAny_execs_nil (hQ h2 tk2 m' { σ' with all := all2 } ⟨F2, N2, K2.q⟩ pl' k1 k2))
  clear hT
  -- row and its cut, after a key is laid
  rcases ways with ⟨hk, rfl, rfl⟩ | ⟨p, i, c, seg, th, tw, hpr, hci, hps, rfl, rfl⟩
  · have hkc : k ∉ keys (heldC σ.cs) := by rw [pl.hc]; exact hk
    have hkW : k ∉ keys σ.W.seg := by rw [pl.hw]; exact hk
    refine wpAny_execs_cons (s5.out hh hA hd hu X T (σ := { σ with o4 := o4, all := all4 }) ⟨F4, N4, K4.q⟩ d4 (ops.cf _) ops.has mh4 mw4 hHv4 hWv .nil .nil rfl (by decide) (by simpa using hkW) fun h5 tk5 all5 F5 N5 K5 => ?_)
    refine wpAny_execs_cons (s6.out hh hA hd hu X T (σ := { σ with o4 := o4, all := all5 }) ⟨F5, N5, K5.q⟩ fun h6 tk6 m6 S6 hfa nm6 => ?_)
    have mh6 := (nm6 _ (by decide)).trans mh4
    have mw6 := (nm6 _ (by decide)).trans mw4
    have de6 := (nm6 _ (by decide)).trans de4
    have tick6 := (nm6 _ (by decide)).trans tick4
    have hHv6 := K5.keep _ hHv4 .list
    have hWv6 := K5.keep _ hWv .list
    clear F5 N5 K5 F4 N4 K4 hHv4 hWv mh4 mw4 de4 tick4 nm6 K3
    refine wpAny_execs_cons (exec_if hI0 (t0.out hh hA hd hu X T S6 de6 mh6 hHv6 .nil fun h7 tk7 F7 N7 => ?_))
    rw [if_neg (by simp), hE0]
    refine wpAny_execs_cons (exec_if hI1 (t1.out hh hA hd hu X T (σ := { σ with o4 := o4, all := all5 }) ⟨F7, N7, S6.q⟩ de6 fun h8 tk8 F8 N8 => ?_))
    by_cases he2 : e < 2
    · rw [if_pos (by simpa using he2), hP1]
      refine wpAny_execs_cons (d1a.out hh hA hd hu X T (σ := { σ with o4 := o4, all := all5 }) ⟨F8, N8, S6.q⟩ d4 ops mh6 mw6 hHv6 hWv6 hkc hkW fun h9 tk9 all9 F9 N9 q9 => ?_)
      obtain ⟨b1, b2, b3, b4⟩ := pl.put (k := k) (tick := tick) (cs1 := σ.cs) fc rfl (by rw [pl.hc]; exact (out_of_not hk).symm) kok
      refine wpAny_execs_cons (d1l.out hh hA hd hu X T (σ := { σ with o4 := o4, cs := σ.cs, all := all9 }) ⟨F9, N9, q9⟩ d4 ops tick6 b1 b2 fun h10 tk10 m10 all10 fv F10 N10 q10 hfv mf10 nm10 => ?_)
      have tick10 := (nm10 _ (by decide)).trans tick6
      refine wpAny_execs_cons (d1b.out hh hA hd hu X T (σ := { σ with o4 := o4, cs := (layC σ.cs (k, tick)).1, all := all10 }) ⟨F10, N10, q10⟩ ops ols fun h11 tk11 m11 all11 Db bvs ks nb F11 N11 K11 hDb hBv hks mb11 nm11 => ?_)
      have mf11 := (nm11 _ (by decide)).trans mf10
      have tick11 := (nm11 _ (by decide)).trans tick10
      refine wpAny_execs_cons (d1w.out hh hA hd hu X T (σ := { σ with o4 := o4, cs := (layC σ.cs (k, tick)).1, all := all11 }) ⟨F11, N11, K11.q⟩ d4 ops tick11 fun h12 tk12 all12 F12 N12 q12 keep12 => ?_)
      refine wpAny_execs_cons (d1r.out hh hA hd hu X T (σ := { σ with o4 := o4, cs := (layC σ.cs (k, tick)).1, W := ⟨σ.W.c, ((k, tick) :: out k σ.W.seg).take σ.W.c.mx.toNat⟩, all := all12 }) ⟨F12, N12, q12⟩ d4 tick11 (by have := out_len k σ.row; dsimp only; omega) fun h13 tk13 m13 all13 Lr13 F13 N13 q13 keep13 nm13 => ?_)
      refine wpAny_execs_cons (d1o.out (M := M) hh hA hd hu X T (σ := { σ with o4 := o4, cs := (layC σ.cs (k, tick)).1, W := ⟨σ.W.c, ((k, tick) :: out k σ.W.seg).take σ.W.c.mx.toNat⟩, row := (k, tick) :: out k σ.row, Lr := Lr13, all := all13 }) ⟨F13, N13, q13⟩ b4.sum fun h14 tk14 m14 all14 Do ovs no F14 N14 K14 hDo hOv mo14 nm14 => ?_)
      refine wpAny_execs_cons (d1s.out (M := M) hh hA hd hu X T (σ := { σ with o4 := o4, cs := (layC σ.cs (k, tick)).1, W := ⟨σ.W.c, ((k, tick) :: out k σ.W.seg).take σ.W.c.mx.toNat⟩, row := (k, tick) :: out k σ.row, Lr := Lr13, all := all14 }) ⟨F14, N14, K14.q⟩ b4.sum fun h15 tk15 m15 all15 Lr15 F15 N15 q15 keep15 nm15 => ?_)
      have olen := out_len k σ.row
      have kc : ∀ p ∈ all10, NonC p.2 → p ∈ all15 := fun p hp hn => keep15 p (K14.keep p (keep13 p (keep12 p (K11.keep p hp hn) hn) hn) hn) hn
      have hDb15 := keep15 _ (K14.keep _ (keep13 _ (keep12 _ hDb .list) .list) .list) .list
      have hDo15 := keep15 _ hDo .list
      have ob : NamesOk ks := NamesOk.perm (by rw [pl.hw]; exact pl.ok) hks
      refine wpAny_execs_cons (d1q.out (Dv := 0) (fall := (layC σ.cs (k, tick)).2) hh hA hd hu X T (σ := { σ with o4 := o4, cs := (layC σ.cs (k, tick)).1, W := ⟨σ.W.c, ((k, tick) :: out k σ.W.seg).take σ.W.c.mx.toNat⟩, row := ((k, tick) :: out k σ.row).take M, Lr := Lr15, all := all15 }) ⟨F15, N15, q15⟩ ops ((nm15 _ (by decide)).trans ((nm14 _ (by decide)).trans ((nm13 _ (by decide)).trans mf11))) ((nm15 _ (by decide)).trans ((nm14 _ (by decide)).trans ((nm13 _ (by decide)).trans mb11))) ((nm15 _ (by decide)).trans mo14) ?_ hDb15 hBv hDo15 (hOv.mono keep15) ?_ ?_ ob ?_ b3 ?_ fun h16 tk16 all16 F16 N16 q16 => wpAny_execs_nil ?_)
      · rcases hfv with ⟨z1, z2⟩ | ⟨y, T1, t1, u1, z1, z2, z3⟩
        · exact .inl ⟨z1, z2⟩
        · exact .inr ⟨y, T1, t1, u1, z1, z2, kc _ z3 .tup⟩
      · have := hks.length_eq
        rw [pl.hw] at this
        simp only [keys, List.length_map] at this
        omega
      · rw [List.length_drop, List.length_cons]; omega
      · intro x hx
        obtain ⟨q, hq, rfl⟩ := List.mem_map.mp hx
        exact ok_cons (p := tick) pl.ok kok _ (List.mem_map.mpr ⟨q, List.mem_of_mem_drop hq, rfl⟩)
      · dsimp only
        rw [show σ.W.c.mx.toNat = M by rw [pl.wmx]; rfl, pl.hw]
        exact lost_names pl.m1 pl.nd (by rw [← pl.hw]; exact hks) (by omega)
      · exact wpAny_execs_nil (last _ _ _ { σ with o4 := o4, cs := (layC σ.cs (k, tick)).1, W := ⟨σ.W.c, ((k, tick) :: out k σ.W.seg).take σ.W.c.mx.toNat⟩, row := ((k, tick) :: out k σ.row).take M, Lr := Lr15, all := all16 } ⟨F16, N16, q16⟩ b4 rfl rfl)
    · rw [if_neg (by simpa using he2), hE1]
      refine wpAny_execs_cons (exec_if hI2 (t2.out hh hA hd hu X T (σ := { σ with o4 := o4, all := all5 }) ⟨F8, N8, S6.q⟩ de6 fun h9 tk9 F9 N9 => ?_))
      by_cases he : e = 2
      · rw [if_pos (by simpa using he)]
        refine d2a.out hh hA hd hu X T (σ := { σ with o4 := o4, all := all5 }) ⟨F9, N9, S6.q⟩ d4 ops mh6 mw6 hHv6 hWv6 hkc hkW fun h10 tk10 m10 all10 Lr10 F10 N10 q10 => ?_
        refine wpAny_execs_nil (wpAny_execs_nil (last _ _ _ { σ with o4 := o4, W := ⟨σ.W.c, out k σ.W.seg⟩, row := out k σ.row, Lr := Lr10, all := all10 } ⟨F10, N10, q10⟩ (pl.away rfl ?_) rfl rfl))
        rw [pl.hc]; exact (out_of_not hk).symm
      · rw [if_neg (by simpa using he), hE2]
        refine wpAny_execs_cons (exec_if hI3 (t3.out hh hA hd hu X T (σ := { σ with o4 := o4, all := all5 }) ⟨F9, N9, S6.q⟩ pl.ok fun h10 tk10 F10 N10 => ?_))
        by_cases hr : σ.row = []
        · rw [if_neg (by simpa using hr), hE3]
          exact wpAny_execs_nil (wpAny_execs_nil (wpAny_execs_nil (wpAny_execs_nil (last _ _ _ { σ with o4 := o4, all := all5 } ⟨F10, N10, S6.q⟩ pl rfl rfl))))
        · rw [if_pos (by simpa using hr), hP3]
          refine wpAny_execs_cons (d3a.out hh hA hd hu X T (σ := { σ with o4 := o4, all := all5 }) ⟨F10, N10, S6.q⟩ ops (livs_ne hr pl.hc) fun h11 tk11 m11 all11 j tj F11 N11 K11 hj hjm ml11 nm11 => ?_)
          obtain ⟨c', seg', y, row', z1, z2, z3, z4, z5⟩ := pl.last hj hjm
          refine wpAny_execs_cons (d3b.out hh hA hd hu X T (σ := { σ with o4 := o4, all := all11 }) ⟨F11, N11, K11.q⟩ ops ml11 z1 z2 z3 z4 fun h12 tk12 all12 F12 N12 q12 => ?_)
          refine wpAny_execs_cons (d3c.out hh hA hd hu X T (σ := { σ with o4 := o4, cs := σ.cs.set j ⟨c', seg'⟩, W := ⟨σ.W.c, row'⟩, all := all12 }) ⟨F12, N12, q12⟩ fun h13 tk13 m13 all13 Lr13 F13 N13 q13 keep13 nm13 => wpAny_execs_nil ?_)
          have er : σ.row.take (σ.row.length - 1) = row' := by rw [z3]; simp
          dsimp only at q13
          rw [er] at q13
          exact wpAny_execs_nil (wpAny_execs_nil (wpAny_execs_nil (last _ _ _ { σ with o4 := o4, cs := σ.cs.set j ⟨c', seg'⟩, W := ⟨σ.W.c, row'⟩, row := row', Lr := Lr13, all := all13 } ⟨F13, N13, q13⟩ z5 rfl rfl)))
  · have hkW : k ∈ keys σ.W.seg := by rw [pl.hw]; exact keys_of hpr
    have hpW : (k, p) ∈ σ.W.seg := by rw [pl.hw]; exact hpr
    refine wpAny_execs_cons (s5.out hh hA hd hu X T (σ := { σ with o4 := o4, all := all4 }) ⟨F4, N4, K4.q⟩ d4 (ops.cf _) ops.has mh4 mw4 hHv4 hWv (.cons _ _ .nil) (.cons _ _ .nil) rfl (Nat.le_refl 1) (by simpa using hkW) fun h5 tk5 all5 F5 N5 K5 => ?_)
    refine wpAny_execs_cons (s6.out hh hA hd hu X T (σ := { σ with o4 := o4, all := all5 }) ⟨F5, N5, K5.q⟩ fun h6 tk6 m6 S6 hfa nm6 => ?_)
    have mh6 := (nm6 _ (by decide)).trans mh4
    have mw6 := (nm6 _ (by decide)).trans mw4
    have de6 := (nm6 _ (by decide)).trans de4
    have tick6 := (nm6 _ (by decide)).trans tick4
    have hHv6 := K5.keep _ hHv4 .list
    have hWv6 := K5.keep _ hWv .list
    have olt := out_lt pl.nd (keys_of hpr)
    clear F5 N5 K5 F4 N4 K4 hHv4 hWv mh4 mw4 de4 tick4 nm6 K3
    refine wpAny_execs_cons (exec_if hI0 (t0.out hh hA hd hu X T S6 de6 mh6 hHv6 (.cons _ _ .nil) fun h7 tk7 F7 N7 => ?_))
    by_cases he0 : e = 0
    · rw [if_pos (by simpa using he0)]
      rcases hkd with ⟨kd1, rfl⟩ | ⟨kd0, rfl⟩
      · refine d0f.out (touch := false) hh hA hd hu X T (σ := { σ with o4 := o4, all := all5 }) ⟨F7, N7, S6.q⟩ d4 ops mh6 mw6 hHv6 hWv6 hci hps hpW kd1 hfa fun h8 tk8 m8 all8 F8 N8 q8 => ?_
        exact last _ _ _ { σ with o4 := o4, all := all8 } ⟨F8, N8, q8⟩ pl rfl rfl
      · by_cases hi0 : i = 0
        · subst hi0
          refine d0l0.out (touch := true) (i := 0) (fh := 0) hh hA hd hu X T (σ := { σ with o4 := o4, all := all5 }) ⟨F7, N7, S6.q⟩ d4 ops mh6 mw6 hHv6 hWv6 hci hps hpW kd0 (by dsimp only; omega) hfa fun h8 tk8 m8 all8 Lr8 F8 N8 q8 => ?_
          exact last _ _ _ { σ with o4 := o4, cs := σ.cs.set 0 ⟨c, (k, p) :: out k seg⟩, W := ⟨σ.W.c, (k, p) :: out k σ.W.seg⟩, row := (k, p) :: out k σ.row, Lr := Lr8, all := all8 } ⟨F8, N8, q8⟩ (pl.front hci hps kok) rfl rfl
        · obtain ⟨b1, b2, b3, b4⟩ := pl.lift fc hci hps kok
          refine d0ln.out (touch := true) hh hA hd hu X T (σ := { σ with o4 := o4, all := all5 }) ⟨F7, N7, S6.q⟩ d4 ops mh6 mw6 hHv6 hWv6 hci hps hpW kd0 (by dsimp only; omega) (by omega) b1 b2 b3 fun h8 tk8 m8 all8 Lr8 F8 N8 q8 => ?_
          exact last _ _ _ { σ with o4 := o4, cs := (layC (σ.cs.set i ⟨c, out k seg⟩) (k, p)).1, W := ⟨σ.W.c, (k, p) :: out k σ.W.seg⟩, row := (k, p) :: out k σ.row, Lr := Lr8, all := all8 } ⟨F8, N8, q8⟩ b4 rfl rfl
    · rw [if_neg (by simpa using he0), hE0]
      refine wpAny_execs_cons (exec_if hI1 (t1.out hh hA hd hu X T (σ := { σ with o4 := o4, all := all5 }) ⟨F7, N7, S6.q⟩ de6 fun h8 tk8 F8 N8 => ?_))
      by_cases he2 : e < 2
      · rw [if_pos (by simpa using he2), hP1]
        refine wpAny_execs_cons (d1p.out hh hA hd hu X T (σ := { σ with o4 := o4, all := all5 }) ⟨F8, N8, S6.q⟩ d4 ops mh6 mw6 hHv6 hWv6 hci hps hpW fun h9 tk9 all9 F9 N9 q9 => ?_)
        obtain ⟨b1, b2, b3, b4⟩ := pl.put (k := k) (tick := tick) (cs1 := σ.cs.set i ⟨c, out k seg⟩) (fc.set hci) (set_locs hci) (pl.set hci (keys_of hps)) kok
        refine wpAny_execs_cons (d1l.out hh hA hd hu X T (σ := { σ with o4 := o4, cs := (σ.cs.set i ⟨c, out k seg⟩), all := all9 }) ⟨F9, N9, q9⟩ d4 ops tick6 b1 b2 fun h10 tk10 m10 all10 fv F10 N10 q10 hfv mf10 nm10 => ?_)
        have tick10 := (nm10 _ (by decide)).trans tick6
        refine wpAny_execs_cons (d1b.out hh hA hd hu X T (σ := { σ with o4 := o4, cs := (layC (σ.cs.set i ⟨c, out k seg⟩) (k, tick)).1, all := all10 }) ⟨F10, N10, q10⟩ ops ols fun h11 tk11 m11 all11 Db bvs ks nb F11 N11 K11 hDb hBv hks mb11 nm11 => ?_)
        have mf11 := (nm11 _ (by decide)).trans mf10
        have tick11 := (nm11 _ (by decide)).trans tick10
        refine wpAny_execs_cons (d1w.out hh hA hd hu X T (σ := { σ with o4 := o4, cs := (layC (σ.cs.set i ⟨c, out k seg⟩) (k, tick)).1, all := all11 }) ⟨F11, N11, K11.q⟩ d4 ops tick11 fun h12 tk12 all12 F12 N12 q12 keep12 => ?_)
        refine wpAny_execs_cons (d1r.out hh hA hd hu X T (σ := { σ with o4 := o4, cs := (layC (σ.cs.set i ⟨c, out k seg⟩) (k, tick)).1, W := ⟨σ.W.c, ((k, tick) :: out k σ.W.seg).take σ.W.c.mx.toNat⟩, all := all12 }) ⟨F12, N12, q12⟩ d4 tick11 (by have := out_len k σ.row; dsimp only; omega) fun h13 tk13 m13 all13 Lr13 F13 N13 q13 keep13 nm13 => ?_)
        refine wpAny_execs_cons (d1o.out (M := M) hh hA hd hu X T (σ := { σ with o4 := o4, cs := (layC (σ.cs.set i ⟨c, out k seg⟩) (k, tick)).1, W := ⟨σ.W.c, ((k, tick) :: out k σ.W.seg).take σ.W.c.mx.toNat⟩, row := (k, tick) :: out k σ.row, Lr := Lr13, all := all13 }) ⟨F13, N13, q13⟩ b4.sum fun h14 tk14 m14 all14 Do ovs no F14 N14 K14 hDo hOv mo14 nm14 => ?_)
        refine wpAny_execs_cons (d1s.out (M := M) hh hA hd hu X T (σ := { σ with o4 := o4, cs := (layC (σ.cs.set i ⟨c, out k seg⟩) (k, tick)).1, W := ⟨σ.W.c, ((k, tick) :: out k σ.W.seg).take σ.W.c.mx.toNat⟩, row := (k, tick) :: out k σ.row, Lr := Lr13, all := all14 }) ⟨F14, N14, K14.q⟩ b4.sum fun h15 tk15 m15 all15 Lr15 F15 N15 q15 keep15 nm15 => ?_)
        have olen := out_len k σ.row
        have kc : ∀ p ∈ all10, NonC p.2 → p ∈ all15 := fun p hp hn => keep15 p (K14.keep p (keep13 p (keep12 p (K11.keep p hp hn) hn) hn) hn) hn
        have hDb15 := keep15 _ (K14.keep _ (keep13 _ (keep12 _ hDb .list) .list) .list) .list
        have hDo15 := keep15 _ hDo .list
        have ob : NamesOk ks := NamesOk.perm (by rw [pl.hw]; exact pl.ok) hks
        refine wpAny_execs_cons (d1q.out (Dv := 0) (fall := (layC (σ.cs.set i ⟨c, out k seg⟩) (k, tick)).2) hh hA hd hu X T (σ := { σ with o4 := o4, cs := (layC (σ.cs.set i ⟨c, out k seg⟩) (k, tick)).1, W := ⟨σ.W.c, ((k, tick) :: out k σ.W.seg).take σ.W.c.mx.toNat⟩, row := ((k, tick) :: out k σ.row).take M, Lr := Lr15, all := all15 }) ⟨F15, N15, q15⟩ ops ((nm15 _ (by decide)).trans ((nm14 _ (by decide)).trans ((nm13 _ (by decide)).trans mf11))) ((nm15 _ (by decide)).trans ((nm14 _ (by decide)).trans ((nm13 _ (by decide)).trans mb11))) ((nm15 _ (by decide)).trans mo14) ?_ hDb15 hBv hDo15 (hOv.mono keep15) ?_ ?_ ob ?_ b3 ?_ fun h16 tk16 all16 F16 N16 q16 => wpAny_execs_nil ?_)
        · rcases hfv with ⟨z1, z2⟩ | ⟨y, T1, t1, u1, z1, z2, z3⟩
          · exact .inl ⟨z1, z2⟩
          · exact .inr ⟨y, T1, t1, u1, z1, z2, kc _ z3 .tup⟩
        · have := hks.length_eq
          rw [pl.hw] at this
          simp only [keys, List.length_map] at this
          omega
        · rw [List.length_drop, List.length_cons]; omega
        · intro x hx
          obtain ⟨q, hq, rfl⟩ := List.mem_map.mp hx
          exact ok_cons (p := tick) pl.ok kok _ (List.mem_map.mpr ⟨q, List.mem_of_mem_drop hq, rfl⟩)
        · dsimp only
          rw [show σ.W.c.mx.toNat = M by rw [pl.wmx]; rfl, pl.hw]
          exact lost_names pl.m1 pl.nd (by rw [← pl.hw]; exact hks) (by omega)
        · exact wpAny_execs_nil (last _ _ _ { σ with o4 := o4, cs := (layC (σ.cs.set i ⟨c, out k seg⟩) (k, tick)).1, W := ⟨σ.W.c, ((k, tick) :: out k σ.W.seg).take σ.W.c.mx.toNat⟩, row := ((k, tick) :: out k σ.row).take M, Lr := Lr15, all := all16 } ⟨F16, N16, q16⟩ b4 rfl rfl)
      · rw [if_neg (by simpa using he2), hE1]
        refine wpAny_execs_cons (exec_if hI2 (t2.out hh hA hd hu X T (σ := { σ with o4 := o4, all := all5 }) ⟨F8, N8, S6.q⟩ de6 fun h9 tk9 F9 N9 => ?_))
        by_cases he : e = 2
        · rw [if_pos (by simpa using he)]
          refine d2p.out hh hA hd hu X T (σ := { σ with o4 := o4, all := all5 }) ⟨F9, N9, S6.q⟩ d4 ops mh6 mw6 hHv6 hWv6 hci hps hpW fun h10 tk10 m10 all10 Lr10 F10 N10 q10 => ?_
          exact wpAny_execs_nil (wpAny_execs_nil (last _ _ _ { σ with o4 := o4, cs := σ.cs.set i ⟨c, out k seg⟩, W := ⟨σ.W.c, out k σ.W.seg⟩, row := out k σ.row, Lr := Lr10, all := all10 } ⟨F10, N10, q10⟩ (pl.away (set_locs hci) (pl.set hci (keys_of hps))) rfl rfl))
        · rw [if_neg (by simpa using he), hE2]
          refine wpAny_execs_cons (exec_if hI3 (t3.out hh hA hd hu X T (σ := { σ with o4 := o4, all := all5 }) ⟨F9, N9, S6.q⟩ pl.ok fun h10 tk10 F10 N10 => ?_))
          by_cases hr : σ.row = []
          · rw [if_neg (by simpa using hr), hE3]
            exact wpAny_execs_nil (wpAny_execs_nil (wpAny_execs_nil (wpAny_execs_nil (last _ _ _ { σ with o4 := o4, all := all5 } ⟨F10, N10, S6.q⟩ pl rfl rfl))))
          · rw [if_pos (by simpa using hr), hP3]
            refine wpAny_execs_cons (d3a.out hh hA hd hu X T (σ := { σ with o4 := o4, all := all5 }) ⟨F10, N10, S6.q⟩ ops (livs_ne hr pl.hc) fun h11 tk11 m11 all11 j tj F11 N11 K11 hj hjm ml11 nm11 => ?_)
            obtain ⟨c', seg', y, row', z1, z2, z3, z4, z5⟩ := pl.last hj hjm
            refine wpAny_execs_cons (d3b.out hh hA hd hu X T (σ := { σ with o4 := o4, all := all11 }) ⟨F11, N11, K11.q⟩ ops ml11 z1 z2 z3 z4 fun h12 tk12 all12 F12 N12 q12 => ?_)
            refine wpAny_execs_cons (d3c.out hh hA hd hu X T (σ := { σ with o4 := o4, cs := σ.cs.set j ⟨c', seg'⟩, W := ⟨σ.W.c, row'⟩, all := all12 }) ⟨F12, N12, q12⟩ fun h13 tk13 m13 all13 Lr13 F13 N13 q13 keep13 nm13 => wpAny_execs_nil ?_)
            have er : σ.row.take (σ.row.length - 1) = row' := by rw [z3]; simp
            dsimp only at q13
            rw [er] at q13
            exact wpAny_execs_nil (wpAny_execs_nil (wpAny_execs_nil (last _ _ _ { σ with o4 := o4, cs := σ.cs.set j ⟨c', seg'⟩, W := ⟨σ.W.c, row'⟩, row := row', Lr := Lr13, all := all13 } ⟨F13, N13, q13⟩ z5 rfl rfl)))
set_option maxRecDepth 100000 in
set_option maxHeartbeats 6000000 in
theorem loop : Box (∀ {w : World} {s : Shared} {A : Around} {E : Value → Shared → Prop} {h₀ : Heap} {L f C sc : Addr} {on : Str} {cdv : Value} {qual : Str} {Q : Flow → Shared → Prop} {m : Str → Option Value} {mean : ExcName → Option Value} {mg mb : Str → Option Value} {lse : List Str} {σ : LSt} {vs : List Value} {ns : List Int} {gfn sfn pfn : Addr} {touch : Bool} {M : Nat},
    A.handled = none → A.frames = some [(envOfC qual (fnScope (Mine.pre.heap_1_1 w.params) 968) L f cdv)] → A.depth ≤ 305 → A.units ≤ 305 → (Mine.pre.heap_1_1 w.params).In h₀ → Top Mine.pre.view_1_2 lse mean mg mb h₀ →
    Lw (prog := PySem.Challenge.rw_bb0016_01.row.prog) w (PySem.strKind _ w) C on h₀ L m s.heap σ → m (Str.ofString "script") = some (.ref sc) → h₀.IsList sc vs.toArray → IntsAre vs ns → ns.length ≤ 63 → Ops (prog := PySem.Challenge.rw_bb0016_01.row.prog) Mine.pre.heap_1_1 Mine.pre.view_1_2 (fun w => PySem.strKind PySem.Challenge.rw_bb0016_01.row.prog w) C on gfn sfn pfn touch → OLenS (prog := PySem.Challenge.rw_bb0016_01.row.prog) Mine.pre.heap_1_1 Mine.pre.view_1_2 (fun w => PySem.strKind PySem.Challenge.rw_bb0016_01.row.prog w) C on 770 → PL M σ.cs σ.W σ.row → ((σ.kd = 1 ∧ touch = false) ∨ (σ.kd = 0 ∧ touch = true)) → PassesOwn (model PySem.Challenge.rw_bb0016_01.row.prog w) A (envOfC qual (fnScope (Mine.pre.heap_1_1 w.params) 968) L f cdv) E →
    (∀ h' tk m' σ', Lw (prog := PySem.Challenge.rw_bb0016_01.row.prog) w (PySem.strKind _ w) C on h₀ L m' h' σ' → PL M σ'.cs σ'.W σ'.row → Q .next { s with heap := h', toks := tk }) →
    wpAny (model PySem.Challenge.rw_bb0016_01.row.prog w) A (exec (nthS (fnBody (Mine.pre.heap_1_1 w.params) 968) 6) (envOfC qual (fnScope (Mine.pre.heap_1_1 w.params) 968) L f cdv)) Q E s) := by
  refine ⟨?_⟩
  k_fill
  intro w s A E h₀ L f C sc on cdv qual Q m mean mg mb lse σ vs ns gfn sfn pfn touch M hh hA hd hu X T S ms hL hI hn ops ols pl hkd
  have tn := @Box.out _ turn w
  obtain ⟨e1, e2⟩ := fnBody_eq (K := Mine.pre.heap_1_1 w.params) (f := 968) (by k_is)
  have kf := (@Box.out _ kinds w L).1
  rw [e1, e2]
  rw [e2] at hA kf
  rw [e1, e2] at tn
  clear e1 e2
  dsimp only [nthS, subS, elsS, tstS] at tn ⊢
  obtain ⟨F, N, qL⟩ := S
  have d1 := qL.d1
  have d2 := qL.d2
  have d3 := qL.d3
  dsimp only [cel5, List.cons_append, List.nil_append] at N
  intro hE hQ
  have hvl := hI.length
  refine For_turns F ?_ (hE := hE)
  walk_at "GOB"
  refine list_join (h₀ := h₀) (L := L) (m := m) (base := cel5 L σ ++ σ.all) ?_ fun D vs1 n1 ns1 h1 tk1 F1 N1 hI1 => ?_
  · walk_at "GOC"
    · rename_i D ws h1 F1 N1 hI1 hC1 hL1 l1 hp
      exact ⟨D, ws, 0, _, _, _, rfl, rfl, F1, N1, hI1⟩
    · rename Fr _ _ _ _ => F1
      rename News _ _ _ _ => N1
      refine ListAt.introA (ns := [0, 1, 1, 0, 27, 2, 28, 0, 3, 4, 4, 54, 5, 0, 63, 6, 7, 6]) F1 N1 List.mem_cons_self (fun p hp => ?_) (by walk_at "LITS")
      simp only [List.mem_cons] at hp ⊢
      grind
  · (try clear N)
    walk_at "GOB"
    rename Fr _ _ _ _ => F2
    rename News _ _ _ _ => N2
    refine ktu_enum (lo := W.listOf vs1.toArray n1) (vs := vs1) hh F2 N2 List.mem_cons_self rfl rfl rfl fun I hlt => ?_
    have q2 := qL.grow (a := D) (o := W.listOf vs1.toArray n1) (Lq.notCell (T := D) (o := W.listOf vs1.toArray n1) qL N2 (by intro q hq; exact List.mem_cons_of_mem _ (List.mem_append_left _ hq)) List.mem_cons_self (fun v => by simp))
    have q3 : Lq w (PySem.strKind PySem.Challenge.rw_bb0016_01.row.prog w) C on L m { σ with all := (D, W.listOf vs1.toArray n1) :: σ.all, ex := [(D, W.listOf vs1.toArray n1)] } := ⟨q2.d1, q2.d2, q2.d3, q2.d4, q2.d5, q2.H, q2.chain, q2.rows, q2.rooms, q2.r1, q2.r2, q2.nc, q2.len, q2.rl, fun p hp => by rw [List.mem_singleton.mp hp]; exact ⟨List.mem_cons_self, .list⟩⟩
    have lt2 : ∀ p ∈ cel5 L σ ++ (D, W.listOf vs1.toArray n1) :: σ.all, @LT.lt Nat _ p.1 I := fun p hp => hlt p (by
      simp only [List.mem_append, List.mem_cons] at hp ⊢
      grind)
    refine enum_inv (TurnI w (PySem.strKind PySem.Challenge.rw_bb0016_01.row.prog w) C on L M σ.kd I D (W.listOf vs1.toArray n1)) ?step ?fin (cel5 L σ ++ (D, W.listOf vs1.toArray n1) :: σ.all) ?sub ⟨_, rfl, q3, pl, rfl, rfl, fun p hp => Nat.ne_of_lt (Nat.lt_succ_of_lt (lt2 p hp)), fun p hp => Nat.ne_of_lt (lt2 p hp)⟩
    case sub =>
      exact subL_mem fun p hp => by
        simp only [List.mem_append, List.mem_cons] at hp ⊢
        grind
    case fin =>
      rintro m9 news ⟨σ9, rfl, q9, pl9, k9, x9, _, _⟩ h9 tk9 F9 N9
      exact hQ h9 tk9 m9 σ9 ⟨F9, N9, q9⟩ pl9
    case step =>
      rintro i x m9 news K hx ⟨σ9, rfl, q9, pl9, k9, x9, oI, oJ⟩ hK T9 t9 h9 tk9 hT F9
      refine AllObj.cons fun oe ce => AllObj.cons fun oi ci => AllObj.nil fun N9 => ?_
      obtain ⟨num, tn9, rfl, _⟩ := hI1.at i x hx
      refine assign_Tuple_tuple hh hT rfl rfl fun h10 he10 => ?_
      have he' : ∀ b o, h9.get? b = some o → h10.get? b = some o := fun b o e => he10 b o (Nat.ne_of_lt (Heap.lt_size e)) e
      have F10 := F9.keeps he'
      have N10 := N9.grown he'
      clear F9 N9
      refine assignInOrder_cons (wpAny_assign_Name (wpAny_storeName_local rfl F10.ns fun h11 hn11 hs11 => ?_))
      have F11 := F10.set hn11 hs11
      have N11 := N10.set hs11
      refine assignInOrder_cons (wpAny_assign_Name (wpAny_storeName_local rfl F11.ns fun h12 hn12 hs12 => assignInOrder_nil ?_))
      have F12 := F11.set hn12 hs12
      have N12 := N11.set hs12
      clear F10 F11 N10 N11
      have q12 := (q9.its ce ci oI oJ).names (m' := fun z => if z = Str.ofString "number" then some (.int num tn9) else if z = Str.ofString "tick" then some (.int (i : Int) t9) else m9 z) rfl rfl
      refine tn (σ := { σ9 with all := (I + 1, oe) :: (I, oi) :: σ9.all, ex := (I + 1, oe) :: (I, oi) :: σ9.ex }) hh hA hd hu X T ⟨F12, News.cutTo N12 (fun p hp => ?_), q12⟩ rfl rfl ops ols pl9 (by dsimp only; rw [k9]; exact hkd) fun h13 tk13 m13 σ13 S13 pl13 k13 x13 => ?_
      · simp only [List.mem_append, List.mem_cons, List.not_mem_nil, or_false] at hp ⊢
        grind
      · have hm : ∀ p ∈ (I + 1, oe) :: (I, oi) :: [(D, W.listOf vs1.toArray n1)], p ∈ σ13.all := fun p hp => (S13.q.ext p (by rw [x13, x9]; exact hp)).1
        have hI13 := hm (I + 1, oe) List.mem_cons_self
        have hJ13 := hm (I, oi) (List.mem_cons_of_mem _ List.mem_cons_self)
        have hD13 := hm (D, W.listOf vs1.toArray n1) (List.mem_cons_of_mem _ (List.mem_cons_of_mem _ List.mem_cons_self))
        obtain ⟨z1, z2, z3, z4⟩ := S13.q.noIts S13.N ce ci hI13 hJ13 hD13 rfl
        refine ⟨h13, tk13, m13, cel5 L σ13 ++ σ13.all.filter (noAt (I + 1) I), rfl, S13.F, fun p hp => S13.N p ?_, fun p hp q hq => ?_, ⟨List.mem_append_right _ z2, trivial⟩, hK m13 _ _ (subL_mem fun p h => h) ⟨{ σ13 with all := σ13.all.filter (noAt (I + 1) I), ex := [(D, W.listOf vs1.toArray n1)] }, rfl, z1, pl13, k13.trans k9, rfl, z3, z4⟩⟩
        · rcases List.mem_append.mp hp with hp | hp
          · refine List.mem_append_right _ (hm p ?_)
            rcases List.mem_cons.mp hp with rfl | hp
            · exact List.mem_cons_self
            · rw [List.mem_singleton.mp hp]; exact List.mem_cons_of_mem _ List.mem_cons_self
          · rcases List.mem_append.mp hp with hp | hp
            · exact List.mem_append_left _ hp
            · exact List.mem_append_right _ (List.mem_filter.mp hp).1
        · rcases List.mem_cons.mp hq with rfl | hq
          · exact z3 p hp
          · rw [List.mem_singleton.mp hq]; exact z4 p hp
set_option maxRecDepth 100000 in
set_option maxHeartbeats 6000000 in
theorem after : Box (∀ {w : World} {s : Shared} {A : Around} {E : Value → Shared → Prop} {h₀ : Heap} {L f C : Addr} {on : Str} {cdv : Value} {qual : Str} {Q : Flow → Shared → Prop} {m : Str → Option Value} {mean : ExcName → Option Value} {mg mb : Str → Option Value} {lse : List Str} {σ : LSt} {gfn sfn pfn : Addr} {touch : Bool} {M : Nat},
    A.handled = none → A.frames = some [(envOfC qual (fnScope (Mine.pre.heap_1_1 w.params) 968) L f cdv)] → A.depth ≤ 305 → A.units ≤ 305 → (Mine.pre.heap_1_1 w.params).In h₀ → Top Mine.pre.view_1_2 lse mean mg mb h₀ →
    Lw (prog := PySem.Challenge.rw_bb0016_01.row.prog) w (PySem.strKind _ w) C on h₀ L m s.heap σ → Ops (prog := PySem.Challenge.rw_bb0016_01.row.prog) Mine.pre.heap_1_1 Mine.pre.view_1_2 (fun w => PySem.strKind PySem.Challenge.rw_bb0016_01.row.prog w) C on gfn sfn pfn touch → OLenS (prog := PySem.Challenge.rw_bb0016_01.row.prog) Mine.pre.heap_1_1 Mine.pre.view_1_2 (fun w => PySem.strKind PySem.Challenge.rw_bb0016_01.row.prog w) C on 770 → PopNone (prog := PySem.Challenge.rw_bb0016_01.row.prog) Mine.pre.heap_1_1 Mine.pre.view_1_2 (fun w => PySem.strKind PySem.Challenge.rw_bb0016_01.row.prog w) C on pfn → PL M σ.cs σ.W σ.row → PassesOwn (model PySem.Challenge.rw_bb0016_01.row.prog w) A (envOfC qual (fnScope (Mine.pre.heap_1_1 w.params) 968) L f cdv) E → (∀ e, PassesOwnAt (model PySem.Challenge.rw_bb0016_01.row.prog w) (A.mark (some (.ref e))) A (envOfC qual (fnScope (Mine.pre.heap_1_1 w.params) 968) L f cdv) E) →
    (∀ h' tk m', Fr h₀ L h' m' → Q (.ret (.bool true)) { s with heap := h', toks := tk }) →
    wpAny (model PySem.Challenge.rw_bb0016_01.row.prog w) A (execs [nthS (fnBody (Mine.pre.heap_1_1 w.params) 968) 7, nthS (fnBody (Mine.pre.heap_1_1 w.params) 968) 8, nthS (fnBody (Mine.pre.heap_1_1 w.params) 968) 9, nthS (fnBody (Mine.pre.heap_1_1 w.params) 968) 10, nthS (fnBody (Mine.pre.heap_1_1 w.params) 968) 11, nthS (fnBody (Mine.pre.heap_1_1 w.params) 968) 12] (envOfC qual (fnScope (Mine.pre.heap_1_1 w.params) 968) L f cdv)) Q E s) := by
  refine ⟨?_⟩
  intro w s A E h₀ L f C on cdv qual Q m mean mg mb lse σ gfn sfn pfn touch M hh hA hd hu X T S ops ols pn pl hE hE2 hQ
  have fc := S.q.fitC
  have rle := pl.len fc
  have m9 := pl.m9
  have hcr := pl.hc
  refine wpAny_execs_cons (f7.out hh hA hd hu X T S fun h1 tk1 m1 all1 G1 F1 N1 K1 hG1 mG1 => ?_)
  refine wpAny_execs_cons (f8.out hh hA hd hu X T (σ := { σ with all := all1 }) ⟨F1, N1, K1.q⟩ ops mG1 hG1 (by dsimp only; rw [hcr]; omega) hE fun h2 tk2 m2 all2 o5 G2 gvs ng F2 N2 q2 hG2 hR2 mG2 => ?_)
  have hcs : ∀ b ∈ σ.cs.map emp, b.seg = [] := fun b hb => by
    obtain ⟨d, _, rfl⟩ := List.mem_map.mp hb
    rfl
  refine wpAny_execs_cons (f9.out hh hA hd hu X T (σ := { σ with cs := σ.cs.map emp, o5 := o5, all := all2 }) ⟨F2, N2, q2⟩ ops ols mG2 hG2 (by dsimp only at hR2 ⊢; rw [← hcr]; exact hR2) pl.hw pl.ok fun h3 tk3 all3 F3 N3 q3 => ?_)
  refine wpAny_execs_cons (f10.out hh hA hd hu X T (σ := { σ with cs := σ.cs.map emp, W := ⟨σ.W.c, []⟩, o5 := o5, all := all3 }) ⟨F3, N3, q3⟩ fun h4 tk4 m4 t4 S4 mr4 _ => ?_)
  refine wpAny_execs_cons (f11.out hh hA hd hu X T S4 ops pn mr4 rfl hcs hE hE2 fun h5 tk5 m5 all5 t5 F5 N5 q5 mr5 => ?_)
  exact wpAny_execs_cons (f12.out hh hA hd hu X T (σ := { σ with cs := σ.cs.map emp, W := ⟨σ.W.c, []⟩, o5 := o5, all := all5 }) ⟨F5, N5, q5⟩ mr5 rfl fun h6 tk6 m6 F6 => hQ h6 tk6 m6 F6)
set_option maxRecDepth 100000 in
set_option maxHeartbeats 6000000 in
theorem opsF : Box (Ops (prog := PySem.Challenge.rw_bb0016_01.row.prog) Mine.pre.heap_1_1 Mine.pre.view_1_2 (fun w => PySem.strKind PySem.Challenge.rw_bb0016_01.row.prog w) 882 (Str.ofString "_FIFOCache__order") 728 857 872 false) := by
  refine ⟨?_⟩
  k_fill
  have cf : ∀ P, ClsF (Mine.pre.heap_1_1 P) 882 (Str.ofString "_FIFOCache__order") 728 857 872 := fun P => ⟨.inl rfl, by k_is, by k_is, by k_is, by k_is, by k_is, by k_is, by k_is, by k_is, by k_is, by k_is, by k_is, by k_is, by k_is, by k_is, by k_is, by k_is, by k_is, by k_is, by k_is, ⟨_, _, by k_is, by k_is, by k_is, by k_is⟩, by k_is, by k_is⟩
  have ln : OLen (prog := PySem.Challenge.rw_bb0016_01.row.prog) Mine.pre.heap_1_1 Mine.pre.view_1_2 (fun w => PySem.strKind PySem.Challenge.rw_bb0016_01.row.prog w) 882 (Str.ofString "_FIFOCache__order") 770 := OLen.of (LensS.len (@Box.out _ lsF))
  have mx : OMax (prog := PySem.Challenge.rw_bb0016_01.row.prog) Mine.pre.heap_1_1 Mine.pre.view_1_2 (fun w => PySem.strKind PySem.Challenge.rw_bb0016_01.row.prog w) 882 (Str.ofString "_FIFOCache__order") 808 := OMax.of (@Box.out _ mxF)
  have st : OSet (prog := PySem.Challenge.rw_bb0016_01.row.prog) Mine.pre.heap_1_1 Mine.pre.view_1_2 (fun w => PySem.strKind PySem.Challenge.rw_bb0016_01.row.prog w) 882 (Str.ofString "_FIFOCache__order") 857 := OSet.of (@Box.out _ shF) (@Box.out _ snF) (@Box.out _ sfF)
  have po : OPopitem (prog := PySem.Challenge.rw_bb0016_01.row.prog) Mine.pre.heap_1_1 Mine.pre.view_1_2 (fun w => PySem.strKind PySem.Challenge.rw_bb0016_01.row.prog w) 882 (Str.ofString "_FIFOCache__order") 872 := OPopitem.of (@Box.out _ poF)
  exact ⟨cf, OGet.of (@Box.out _ gtF), OPop.of (@Box.out _ ppF), OPopD.of (@Box.out _ pdF) (@Box.out _ pmF), OLost.of (@Box.out _ loF), st, po, OHas.of (@Box.out _ haF), ln, mx, OIter.of (@Box.out _ itF), laid.out cf ln mx st po⟩
set_option maxRecDepth 100000 in
set_option maxHeartbeats 6000000 in
theorem opsL : Box (Ops (prog := PySem.Challenge.rw_bb0016_01.row.prog) Mine.pre.heap_1_1 Mine.pre.view_1_2 (fun w => PySem.strKind PySem.Challenge.rw_bb0016_01.row.prog w) 947 (Str.ofString "_LRUCache__order") 907 915 930 true) := by
  refine ⟨?_⟩
  k_fill
  have cf : ∀ P, ClsF (Mine.pre.heap_1_1 P) 947 (Str.ofString "_LRUCache__order") 907 915 930 := fun P => ⟨.inr rfl, by k_is, by k_is, by k_is, by k_is, by k_is, by k_is, by k_is, by k_is, by k_is, by k_is, by k_is, by k_is, by k_is, by k_is, by k_is, by k_is, by k_is, by k_is, by k_is, ⟨_, _, by k_is, by k_is, by k_is, by k_is⟩, by k_is, by k_is⟩
  have ln : OLen (prog := PySem.Challenge.rw_bb0016_01.row.prog) Mine.pre.heap_1_1 Mine.pre.view_1_2 (fun w => PySem.strKind PySem.Challenge.rw_bb0016_01.row.prog w) 947 (Str.ofString "_LRUCache__order") 770 := OLen.of (LensS.len (@Box.out _ lsL))
  have mx : OMax (prog := PySem.Challenge.rw_bb0016_01.row.prog) Mine.pre.heap_1_1 Mine.pre.view_1_2 (fun w => PySem.strKind PySem.Challenge.rw_bb0016_01.row.prog w) 947 (Str.ofString "_LRUCache__order") 808 := OMax.of (@Box.out _ mxL)
  have st : OSet (prog := PySem.Challenge.rw_bb0016_01.row.prog) Mine.pre.heap_1_1 Mine.pre.view_1_2 (fun w => PySem.strKind PySem.Challenge.rw_bb0016_01.row.prog w) 947 (Str.ofString "_LRUCache__order") 915 := OSet.of (@Box.out _ shL) (@Box.out _ snL) (@Box.out _ sfL)
  have po : OPopitem (prog := PySem.Challenge.rw_bb0016_01.row.prog) Mine.pre.heap_1_1 Mine.pre.view_1_2 (fun w => PySem.strKind PySem.Challenge.rw_bb0016_01.row.prog w) 947 (Str.ofString "_LRUCache__order") 930 := OPopitem.of (@Box.out _ poL)
  exact ⟨cf, OGet.of (@Box.out _ gtL), OPop.of (@Box.out _ ppL), OPopD.of (@Box.out _ pdL) (@Box.out _ pmL), OLost.of (@Box.out _ loL), st, po, OHas.of (@Box.out _ haL), ln, mx, OIter.of (@Box.out _ itL), laid.out cf ln mx st po⟩
set_option maxRecDepth 100000 in
set_option maxHeartbeats 6000000 in
theorem lawb : Box (∀ {w : World} {s : Shared} {A : Around} {E : Value → Shared → Prop} {h₀ : Heap} {L f sc : Addr} {cdv : Value} {qual : Str} {Q : Flow → Shared → Prop} {m : Str → Option Value} {mean : ExcName → Option Value} {mg mb : Str → Option Value} {lse : List Str} {vs : List Value} {ns : List Int} {o1 o2 o3 o4 o5 : Obj} {v1 v2 v3 v4 v5 : Option Value},
    A.handled = none → A.frames = some [(envOfC qual (fnScope (Mine.pre.heap_1_1 w.params) 968) L f cdv)] → A.depth ≤ 305 → A.units ≤ 305 → (Mine.pre.heap_1_1 w.params).In h₀ → Top Mine.pre.view_1_2 lse mean mg mb h₀ →
    Fr h₀ L s.heap m → News h₀ L s.heap [(L + 1 + 1 + 1 + 1 + 1, o5), (L + 1 + 1 + 1 + 1, o4), (L + 1 + 1 + 1, o3), (L + 1 + 1, o2), (L + 1, o1)] → o1.data = .cell v1 → o2.data = .cell v2 → o3.data = .cell v3 → o4.data = .cell v4 → o5.data = .cell v5 → m (Str.ofString "script") = some (.ref sc) → h₀.IsList sc vs.toArray → IntsAre vs ns → ns.length ≤ 63 →
    PassesOwn (model PySem.Challenge.rw_bb0016_01.row.prog w) A (envOfC qual (fnScope (Mine.pre.heap_1_1 w.params) 968) L f cdv) E → (∀ e, PassesOwnAt (model PySem.Challenge.rw_bb0016_01.row.prog w) (A.mark (some (.ref e))) A (envOfC qual (fnScope (Mine.pre.heap_1_1 w.params) 968) L f cdv) E) →
    (∀ h' tk m', Fr h₀ L h' m' → Q (.ret (.bool true)) { s with heap := h', toks := tk }) →
    wpAny (model PySem.Challenge.rw_bb0016_01.row.prog w) A (execs (fnBody (Mine.pre.heap_1_1 w.params) 968) (envOfC qual (fnScope (Mine.pre.heap_1_1 w.params) 968) L f cdv)) Q E s) := by
  refine ⟨?_⟩
  k_fill
  intro w s A E h₀ L f sc cdv qual Q m mean mg mb lse vs ns o1 o2 o3 o4 o5 v1 v2 v3 v4 v5 hh hA hd hu X T F N d1 d2 d3 d4 d5 ms hL hI hn hE hE2 hQ
  have sh : (fnBody (Mine.pre.heap_1_1 w.params) 968) = [nthS (fnBody (Mine.pre.heap_1_1 w.params) 968) 0, nthS (fnBody (Mine.pre.heap_1_1 w.params) 968) 1, nthS (fnBody (Mine.pre.heap_1_1 w.params) 968) 2, nthS (fnBody (Mine.pre.heap_1_1 w.params) 968) 3, nthS (fnBody (Mine.pre.heap_1_1 w.params) 968) 4, nthS (fnBody (Mine.pre.heap_1_1 w.params) 968) 5, nthS (fnBody (Mine.pre.heap_1_1 w.params) 968) 6, nthS (fnBody (Mine.pre.heap_1_1 w.params) 968) 7, nthS (fnBody (Mine.pre.heap_1_1 w.params) 968) 8, nthS (fnBody (Mine.pre.heap_1_1 w.params) 968) 9, nthS (fnBody (Mine.pre.heap_1_1 w.params) 968) 10, nthS (fnBody (Mine.pre.heap_1_1 w.params) 968) 11, nthS (fnBody (Mine.pre.heap_1_1 w.params) 968) 12] := by
    obtain ⟨z1, _⟩ := fnBody_eq (K := Mine.pre.heap_1_1 w.params) (f := 968) (by k_is)
    rw [z1]
    rfl
  rw [sh]
  clear sh
  refine p02.out hh hA hd hu X T F N d1 ms hL hI hn fun h1 tk1 m1 o1a kd kt Lm mvs rs n all1 F1 N1 al d1a hkd hLm hM l2 l3 hr mr ms1 => ?_
  have s1 : 1 ≤ rs.sum := sum_ge hr l2
  have s9 : rs.sum ≤ 9 := sum_le hr l3
  rcases hkd with rfl | rfl
  · refine p3L.out hh hA hd hu X T (σ := (⟨0, kt, 0, 0, Lm, ⟨⟨0, 0, 0, 0, 0, 0, 0, 0, 0, 0⟩, []⟩, [], [], o1a, o2, o3, o4, o5, all1, []⟩ : LSt)) (@Box.out _ inL) F1 N1 (nocell_lists (σ := (⟨0, kt, 0, 0, Lm, ⟨⟨0, 0, 0, 0, 0, 0, 0, 0, 0, 0⟩, []⟩, [], [], o1a, o2, o3, o4, o5, all1, []⟩ : LSt)) N1 d1a d2 d3 d4 d5 al) d1a mr hLm hM l2 l3 hr d2 fun h2 tk2 o2a cs all2 Lc nc2 F2 N2 H2 hseg hmx d2a hLc hsub nc' => ?_
    refine p4L.out hh hA hd hu X T (σ := (⟨0, kt, Lc, 0, Lm, ⟨⟨0, 0, 0, 0, 0, 0, 0, 0, 0, 0⟩, []⟩, cs, [], o1a, o2a, o3, o4, o5, all2, []⟩ : LSt)) (@Box.out _ inL) F2 N2 nc' d1a mr (hsub _ hLm) hM l2 l3 hr d3 H2 s1 s9 fun h3 tk3 m3 o3a c Lr all3 F3 N3 H3 hcm d3a hLr mrow nm3 hsub3 nc3 => ?_
    have hlen : cs.length = rs.length := by rw [← hmx, List.length_map]
    have hnil : heldC cs = [] := List.flatMap_eq_nil_iff.mpr hseg
    have q1 : Lq w (PySem.strKind PySem.Challenge.rw_bb0016_01.row.prog w) 947 (Str.ofString "_LRUCache__order") L m3 (⟨0, kt, Lc, Lr, Lm, ⟨c, []⟩, cs, [], o1a, o2a, o3a, o4, o5, all3, []⟩ : LSt) := ⟨d1a, d2a, d3a, ⟨_, d4⟩, ⟨_, d5⟩, H3, ⟨nc2, hsub3 _ hLc⟩, ⟨[], 0, hLr, RowIs.nil⟩, ⟨mvs, n, hsub3 _ (hsub _ hLm), by dsimp only; rw [hmx]; exact hM⟩, mrow, (nm3 _ (by decide)).trans mr, nc3, by dsimp only; omega, Nat.zero_le 12, fun _ h => (nomatch h)⟩
    have hM' : ((rs.sum.toNat : Nat) : Int) = rs.sum := Int.toNat_of_nonneg (by omega)
    have pl : PL rs.sum.toNat cs ⟨c, []⟩ [] := ⟨hnil, rfl, List.nodup_nil, fun _ h => (nomatch h), by rw [hM']; show (cs.map fun b => b.c.mx).sum = _; rw [hmx], by rw [hM']; exact hcm, by omega, by omega, by omega⟩
    refine wpAny_execs_cons (loop.out hh hA hd hu X T (σ := (⟨0, kt, Lc, Lr, Lm, ⟨c, []⟩, cs, [], o1a, o2a, o3a, o4, o5, all3, []⟩ : LSt)) ⟨F3, N3, q1⟩ ((nm3 _ (by decide)).trans ms1) hL hI hn opsL.out (OLenS.of (@Box.out _ lsL)) pl (.inr ⟨rfl, rfl⟩) hE fun h4 tk4 m4 σ4 S4 pl4 => ?_)
    exact after.out hh hA hd hu X T S4 opsL.out (OLenS.of (@Box.out _ lsL)) (@Box.out _ peL) pl4 hE hE2 fun h5 tk5 m5 F5 => hQ h5 tk5 m5 F5
  · refine p3F.out hh hA hd hu X T (σ := (⟨1, kt, 0, 0, Lm, ⟨⟨0, 0, 0, 0, 0, 0, 0, 0, 0, 0⟩, []⟩, [], [], o1a, o2, o3, o4, o5, all1, []⟩ : LSt)) (@Box.out _ inF) F1 N1 (nocell_lists (σ := (⟨1, kt, 0, 0, Lm, ⟨⟨0, 0, 0, 0, 0, 0, 0, 0, 0, 0⟩, []⟩, [], [], o1a, o2, o3, o4, o5, all1, []⟩ : LSt)) N1 d1a d2 d3 d4 d5 al) d1a mr hLm hM l2 l3 hr d2 fun h2 tk2 o2a cs all2 Lc nc2 F2 N2 H2 hseg hmx d2a hLc hsub nc' => ?_
    refine p4F.out hh hA hd hu X T (σ := (⟨1, kt, Lc, 0, Lm, ⟨⟨0, 0, 0, 0, 0, 0, 0, 0, 0, 0⟩, []⟩, cs, [], o1a, o2a, o3, o4, o5, all2, []⟩ : LSt)) (@Box.out _ inF) F2 N2 nc' d1a mr (hsub _ hLm) hM l2 l3 hr d3 H2 s1 s9 fun h3 tk3 m3 o3a c Lr all3 F3 N3 H3 hcm d3a hLr mrow nm3 hsub3 nc3 => ?_
    have hlen : cs.length = rs.length := by rw [← hmx, List.length_map]
    have hnil : heldC cs = [] := List.flatMap_eq_nil_iff.mpr hseg
    have q1 : Lq w (PySem.strKind PySem.Challenge.rw_bb0016_01.row.prog w) 882 (Str.ofString "_FIFOCache__order") L m3 (⟨1, kt, Lc, Lr, Lm, ⟨c, []⟩, cs, [], o1a, o2a, o3a, o4, o5, all3, []⟩ : LSt) := ⟨d1a, d2a, d3a, ⟨_, d4⟩, ⟨_, d5⟩, H3, ⟨nc2, hsub3 _ hLc⟩, ⟨[], 0, hLr, RowIs.nil⟩, ⟨mvs, n, hsub3 _ (hsub _ hLm), by dsimp only; rw [hmx]; exact hM⟩, mrow, (nm3 _ (by decide)).trans mr, nc3, by dsimp only; omega, Nat.zero_le 12, fun _ h => (nomatch h)⟩
    have hM' : ((rs.sum.toNat : Nat) : Int) = rs.sum := Int.toNat_of_nonneg (by omega)
    have pl : PL rs.sum.toNat cs ⟨c, []⟩ [] := ⟨hnil, rfl, List.nodup_nil, fun _ h => (nomatch h), by rw [hM']; show (cs.map fun b => b.c.mx).sum = _; rw [hmx], by rw [hM']; exact hcm, by omega, by omega, by omega⟩
    refine wpAny_execs_cons (loop.out hh hA hd hu X T (σ := (⟨1, kt, Lc, Lr, Lm, ⟨c, []⟩, cs, [], o1a, o2a, o3a, o4, o5, all3, []⟩ : LSt)) ⟨F3, N3, q1⟩ ((nm3 _ (by decide)).trans ms1) hL hI hn opsF.out (OLenS.of (@Box.out _ lsF)) pl (.inl ⟨rfl, rfl⟩) hE fun h4 tk4 m4 σ4 S4 pl4 => ?_)
    exact after.out hh hA hd hu X T S4 opsF.out (OLenS.of (@Box.out _ lsF)) (@Box.out _ peF) pl4 hE hE2 fun h5 tk5 m5 F5 => hQ h5 tk5 m5 F5
end Mine
end
section
open PySem PySem.W PySem.Spec PySem.Calls PyProof.Rows
namespace Mine
set_option maxRecDepth 100000 in
set_option maxHeartbeats 0 in
theorem law : Box PySem.Challenge.rw_bb0016_01.Holds := by
  refine ⟨?_⟩
  w_on
  o_law
  apply asideL
  exact whole
  o_head (kHook Mine.pre.heap_1_1 [2, 3, 33, 35, 36, 38, 39, 40, 47, 49, 50, 52, 53, 54, 55, 56, 59, 66, 68, 69, 71, 72, 73, 75, 76, 78, 79, 80, 82, 83, 85, 86, 87, 88, 89, 92, 94, 95, 97, 98, 99, 101, 102, 104, 105, 106, 108, 109, 111, 112, 113, 115, 116, 118, 119, 120, 122, 123, 125, 126, 127, 129, 130, 132, 133, 141, 142, 144, 145, 147, 148, 149, 151, 152, 154, 155, 156, 158, 159, 161, 162, 163, 165, 166, 167, 170, 178, 179, 181, 182, 184, 185, 186, 188, 189, 191, 192, 193, 195, 196, 199, 207, 208, 210, 211, 213, 214, 215, 217, 218, 220, 221, 222, 224, 225, 227, 228, 229, 231, 232, 233, 236, 237, 244, 245, 247, 248, 250, 251, 252, 254, 255, 258, 259, 266, 267, 269, 270, 272, 273, 274, 276, 277, 279, 280, 281, 283, 284, 286, 287, 288, 290, 291, 293, 294, 295, 297, 298, 300, 301, 302, 304, 305, 307, 308, 309, 310, 311, 312, 314, 315, 317, 318, 319, 321, 322, 324, 325, 326, 328, 329, 331, 332, 333, 335, 336, 338, 339, 340, 342, 343, 345, 346, 347, 349, 350, 352, 353, 354, 356, 357, 359, 360, 361, 363, 364, 366, 367, 368, 370, 371, 374, 375, 382, 383, 385, 386, 388, 389, 390, 391, 393, 394, 396, 397, 398, 400, 401, 403, 404, 405, 407, 408, 410, 411, 412, 414, 415, 417, 418, 419, 421, 422, 424, 425, 426, 428, 429, 431, 432, 433, 435, 436, 438, 439, 440, 442, 443, 446, 447, 454, 455, 457, 458, 460, 461, 462, 464, 465, 467, 468, 469, 471, 472, 474, 475, 476, 478, 479, 481, 482, 483, 485, 486, 488, 489, 490, 492, 493, 494, 495, 498, 505, 506, 508, 509, 511, 512, 513, 514, 515, 516, 518, 519, 521, 522, 523, 525, 526, 528, 529, 530, 532, 533, 535, 536, 537, 539, 540, 543, 550, 551, 553, 554, 556, 557, 558, 559, 560, 561, 563, 564, 566, 567, 568, 570, 571, 573, 574, 575, 577, 578, 580, 581, 582, 584, 585, 588, 595, 596, 598, 599, 601, 602, 603, 605, 606, 608, 609, 610, 612, 613, 615, 616, 617, 619, 620, 623, 630, 631, 633, 634, 636, 637, 638, 640, 641, 643, 644, 645, 646, 647, 649, 650, 652, 653, 654, 656, 657, 659, 660, 661, 663, 664, 666, 667, 668, 669, 670, 672, 673, 675, 676, 677, 678, 680, 681, 683, 684, 685, 687, 688, 690, 691, 692, 694, 695, 698, 699, 706, 707, 708, 710, 711, 713, 714, 715, 717, 718, 720, 721, 722, 724, 725, 727, 728, 729, 731, 732, 734, 735, 736, 738, 739, 741, 742, 743, 745, 746, 748, 749, 750, 752, 753, 755, 756, 757, 759, 760, 762, 763, 764, 766, 767, 769, 770, 771, 772, 774, 775, 777, 778, 779, 780, 782, 783, 785, 786, 787, 788, 790, 791, 793, 794, 795, 797, 798, 800, 801, 802, 804, 805, 807, 808, 809, 810, 812, 813, 815, 816, 817, 818, 820, 821, 823, 824, 825, 826, 827, 828, 829, 830, 831, 832, 835, 842, 843, 845, 846, 848, 849, 850, 851, 853, 854, 856, 857, 858, 859, 861, 862, 864, 865, 866, 868, 869, 871, 872, 873, 875, 876, 878, 879, 880, 881, 882, 885, 892, 893, 895, 896, 898, 899, 900, 901, 903, 904, 906, 907, 908, 909, 911, 912, 914, 915, 916, 917, 919, 920, 922, 923, 924, 926, 927, 929, 930, 931, 933, 934, 936, 937, 938, 940, 941, 943, 944, 945, 946, 947, 950, 952, 953, 955, 956, 957, 959, 960, 962, 963, 964, 967, 968] (fun _ => by kernel_rfl))
  (case hw => w_witness2)
  k_go0
  rename World => w
  have lw := @Box.out _ lawb w
  obtain ⟨e1, e2⟩ := fnBody_eq (K := Mine.pre.heap_1_1 w.params) (f := 968) (by k_is)
  rw [e1, e2] at lw
  clear e1 e2
  rename Fr _ _ _ _ => F
  rename News _ _ _ _ => N
  rename Top _ _ _ _ _ _ => T
  rename IntsAre _ _ => hI
  rename Heap.IsList _ _ _ => hL
  refine lw (A := callerA.deeper _) rfl rfl ?_ ?_ ?_ T F N (by assumption) (by assumption) (by assumption) (by assumption) (by assumption) ?_ hL hI ?_ ?_ ?_ ?_
  · exact Nat.le_of_ble_eq_true rfl
  · exact Nat.le_of_ble_eq_true rfl
  · assumption
  · rfl
  · omega
  · with_unfolding_all passes_own
  · intro e
    with_unfolding_all passes_own
  · intro h9 tk9 m9 F9
    dsimp only
    k_steps
    all_goals trace_state
end Mine
end
theorem PySem.Challenge.cw_bb0016_01_holds : PySem.Challenge.rw_bb0016_01.Holds :=
  Mine.law.out
