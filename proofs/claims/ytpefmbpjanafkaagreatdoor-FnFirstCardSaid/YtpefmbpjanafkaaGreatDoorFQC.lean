/- Functions of the program, told as Lean functions of abstract values and stores, each with its proof. -/
import Derived.Test.YtpefmbpjanafkaaGreatDoorSnX
import Derived.Test.YtpefmbpjanafkaaGreatDoorSnRe
import Derived.Test.YtpefmbpjanafkaaGreatDoorSnAb
set_option linter.unusedVariables false
set_option linter.unusedSimpArgs false
namespace Go.Proofs.YtpefmbpjanafkaaGreatDoor
open Go.AM
-- pub-paratext/pub/rscmarkdown.htmlLinkEscaper

noncomputable def b309 : Code := match Tryz.f309.body with | some c => c | none => .skip

noncomputable def k309 : Kont R := retK Tryz.prog [.tmp 0]

noncomputable def c309 (run : RunT) (fu : Nat) (σ : Store) : Tr R :=
  opt (fillK [(.str []), (.str []), (.str []), (.str []), (.str []), (.str []), (.str []), (.str []), (.str []), (.str []), (.str []), (.str []), (.str []), (.str []), (.str []), (.str []), (.str []), (.str []), (.str []), (.str []), (.str []), (.str []), (.str []), (.str []), (.str []), (.str []), (.str []), (.str []), (.str []), (.str []), (.str []), (.str []), (.str []), (.str []), (.str []), (.str []), (.str []), (.str []), (.str []), (.str []), (.str []), (.str []), (.str []), (.str []), (.str []), (.str []), (.str []), (.str []), (.str []), (.str []), (.str []), (.str []), (.str []), (.str []), (.str []), (.str []), (.str []), (.str []), (.str []), (.str []), (.str []), (.str []), (.str []), (.str []), (.str []), (.str []), (.str []), (.str []), (.str []), (.str []), (.str []), (.str []), (.str []), (.str []), (.str []), (.str []), (.str []), (.str []), (.str []), (.str []), (.str []), (.str []), (.str []), (.str []), (.str []), (.str []), (.str []), (.str []), (.str []), (.str []), (.str []), (.str []), (.str []), (.str []), (.str []), (.str []), (.str []), (.str []), (.str []), (.str []), (.str []), (.str []), (.str []), (.str []), (.str []), (.str []), (.str []), (.str []), (.str []), (.str []), (.str []), (.str []), (.str []), (.str []), (.str []), (.str []), (.str []), (.str []), (.str []), (.str []), (.str []), (.str []), (.str []), (.str []), (.str []), (.str []), (.str []), (.str []), (.str []), (.str []), (.str []), (.str []), (.str []), (.str []), (.str []), (.str []), (.str []), (.str []), (.str []), (.str []), (.str []), (.str []), (.str []), (.str []), (.str []), (.str []), (.str []), (.str []), (.str []), (.str []), (.str []), (.str []), (.str []), (.str []), (.str []), (.str []), (.str []), (.str []), (.str []), (.str []), (.str []), (.str []), (.str []), (.str []), (.str []), (.str []), (.str []), (.str []), (.str []), (.str []), (.str []), (.str []), (.str []), (.str []), (.str []), (.str []), (.str []), (.str []), (.str []), (.str []), (.str []), (.str []), (.str []), (.str []), (.str []), (.str []), (.str []), (.str []), (.str []), (.str []), (.str []), (.str []), (.str []), (.str []), (.str []), (.str []), (.str []), (.str []), (.str []), (.str []), (.str []), (.str []), (.str []), (.str []), (.str []), (.str []), (.str []), (.str []), (.str []), (.str []), (.str []), (.str []), (.str []), (.str []), (.str []), (.str []), (.str []), (.str []), (.str []), (.str []), (.str []), (.str []), (.str []), (.str []), (.str []), (.str []), (.str []), (.str []), (.str []), (.str []), (.str []), (.str []), (.str []), (.str []), (.str []), (.str []), (.str []), (.str []), (.str []), (.str []), (.str []), (.str []), (.str []), (.str []), (.str []), (.str []), (.str []), (.str []), (.str []), (.str []), (.str []), (.str []), (.str []), (.str []), (.str []), (.str []), (.str []), (.str []), (.str []), (.str []), (.str []), (.str []), (.str []), (.str []), (.str []), (.str []), (.str []), (.str []), (.str []), (.str []), (.str []), (.str []), (.str []), (.str []), (.str []), (.str []), (.str []), (.str []), (.str []), (.str []), (.str []), (.str []), (.str []), (.str []), (.str []), (.str []), (.str []), (.str []), (.str []), (.str []), (.str []), (.str []), (.str []), (.str []), (.str []), (.str []), (.str []), (.str []), (.str []), (.str []), (.str []), (.str []), (.str []), (.str []), (.str []), (.str []), (.str []), (.str []), (.str []), (.str []), (.str []), (.str []), (.str []), (.str []), (.str []), (.str []), (.str []), (.str []), (.str []), (.str []), (.str []), (.str []), (.str []), (.str []), (.str []), (.str []), (.str []), (.str []), (.str []), (.str []), (.str []), (.str []), (.str []), (.str []), (.str []), (.str []), (.str []), (.str []), (.str []), (.str [])] [(0, 1, (.str [34])), (1, 1, (.str [37, 50, 50])), (2, 1, (.str [38])), (3, 1, (.str [38, 97, 109, 112, 59])), (4, 1, (.str [60])), (5, 1, (.str [37, 51, 67])), (6, 1, (.str [62])), (7, 1, (.str [37, 51, 69])), (8, 1, (.str [92])), (9, 1, (.str [37, 53, 67])), (10, 1, (.str [32])), (11, 1, (.str [37, 50, 48])), (12, 1, (.str [96])), (13, 1, (.str [37, 54, 48])), (14, 1, (.str [91])), (15, 1, (.str [37, 53, 66])), (16, 1, (.str [93])), (17, 1, (.str [37, 53, 68])), (18, 1, (.str [94])), (19, 1, (.str [37, 53, 69])), (20, 1, (.str [123])), (21, 1, (.str [37, 55, 66])), (22, 1, (.str [125])), (23, 1, (.str [37, 55, 68])), (24, 1, (.str [0])), (25, 1, (.str [37, 48, 48])), (26, 1, (.str [1])), (27, 1, (.str [37, 48, 49])), (28, 1, (.str [2])), (29, 1, (.str [37, 48, 50])), (30, 1, (.str [3])), (31, 1, (.str [37, 48, 51])), (32, 1, (.str [4])), (33, 1, (.str [37, 48, 52])), (34, 1, (.str [5])), (35, 1, (.str [37, 48, 53])), (36, 1, (.str [6])), (37, 1, (.str [37, 48, 54])), (38, 1, (.str [7])), (39, 1, (.str [37, 48, 55])), (40, 1, (.str [8])), (41, 1, (.str [37, 48, 56])), (42, 1, (.str [11])), (43, 1, (.str [37, 48, 66])), (44, 1, (.str [12])), (45, 1, (.str [37, 48, 67])), (46, 1, (.str [14])), (47, 1, (.str [37, 48, 69])), (48, 1, (.str [15])), (49, 1, (.str [37, 48, 70])), (50, 1, (.str [16])), (51, 1, (.str [37, 49, 48])), (52, 1, (.str [17])), (53, 1, (.str [37, 49, 49])), (54, 1, (.str [18])), (55, 1, (.str [37, 49, 50])), (56, 1, (.str [19])), (57, 1, (.str [37, 49, 51])), (58, 1, (.str [20])), (59, 1, (.str [37, 49, 52])), (60, 1, (.str [21])), (61, 1, (.str [37, 49, 53])), (62, 1, (.str [22])), (63, 1, (.str [37, 49, 54])), (64, 1, (.str [23])), (65, 1, (.str [37, 49, 55])), (66, 1, (.str [24])), (67, 1, (.str [37, 49, 56])), (68, 1, (.str [25])), (69, 1, (.str [37, 49, 57])), (70, 1, (.str [26])), (71, 1, (.str [37, 49, 65])), (72, 1, (.str [27])), (73, 1, (.str [37, 49, 66])), (74, 1, (.str [28])), (75, 1, (.str [37, 49, 67])), (76, 1, (.str [29])), (77, 1, (.str [37, 49, 68])), (78, 1, (.str [30])), (79, 1, (.str [37, 49, 69])), (80, 1, (.str [31])), (81, 1, (.str [37, 49, 70])), (82, 1, (.str [127])), (83, 1, (.str [37, 55, 70])), (84, 1, (.str [128])), (85, 1, (.str [37, 56, 48])), (86, 1, (.str [129])), (87, 1, (.str [37, 56, 49])), (88, 1, (.str [130])), (89, 1, (.str [37, 56, 50])), (90, 1, (.str [131])), (91, 1, (.str [37, 56, 51])), (92, 1, (.str [132])), (93, 1, (.str [37, 56, 52])), (94, 1, (.str [133])), (95, 1, (.str [37, 56, 53])), (96, 1, (.str [134])), (97, 1, (.str [37, 56, 54])), (98, 1, (.str [135])), (99, 1, (.str [37, 56, 55])), (100, 1, (.str [136])), (101, 1, (.str [37, 56, 56])), (102, 1, (.str [137])), (103, 1, (.str [37, 56, 57])), (104, 1, (.str [138])), (105, 1, (.str [37, 56, 65])), (106, 1, (.str [139])), (107, 1, (.str [37, 56, 66])), (108, 1, (.str [140])), (109, 1, (.str [37, 56, 67])), (110, 1, (.str [141])), (111, 1, (.str [37, 56, 68])), (112, 1, (.str [142])), (113, 1, (.str [37, 56, 69])), (114, 1, (.str [143])), (115, 1, (.str [37, 56, 70])), (116, 1, (.str [144])), (117, 1, (.str [37, 57, 48])), (118, 1, (.str [145])), (119, 1, (.str [37, 57, 49])), (120, 1, (.str [146])), (121, 1, (.str [37, 57, 50])), (122, 1, (.str [147])), (123, 1, (.str [37, 57, 51])), (124, 1, (.str [148])), (125, 1, (.str [37, 57, 52])), (126, 1, (.str [149])), (127, 1, (.str [37, 57, 53])), (128, 1, (.str [150])), (129, 1, (.str [37, 57, 54])), (130, 1, (.str [151])), (131, 1, (.str [37, 57, 55])), (132, 1, (.str [152])), (133, 1, (.str [37, 57, 56])), (134, 1, (.str [153])), (135, 1, (.str [37, 57, 57])), (136, 1, (.str [154])), (137, 1, (.str [37, 57, 65])), (138, 1, (.str [155])), (139, 1, (.str [37, 57, 66])), (140, 1, (.str [156])), (141, 1, (.str [37, 57, 67])), (142, 1, (.str [157])), (143, 1, (.str [37, 57, 68])), (144, 1, (.str [158])), (145, 1, (.str [37, 57, 69])), (146, 1, (.str [159])), (147, 1, (.str [37, 57, 70])), (148, 1, (.str [160])), (149, 1, (.str [37, 65, 48])), (150, 1, (.str [161])), (151, 1, (.str [37, 65, 49])), (152, 1, (.str [162])), (153, 1, (.str [37, 65, 50])), (154, 1, (.str [163])), (155, 1, (.str [37, 65, 51])), (156, 1, (.str [164])), (157, 1, (.str [37, 65, 52])), (158, 1, (.str [165])), (159, 1, (.str [37, 65, 53])), (160, 1, (.str [166])), (161, 1, (.str [37, 65, 54])), (162, 1, (.str [167])), (163, 1, (.str [37, 65, 55])), (164, 1, (.str [168])), (165, 1, (.str [37, 65, 56])), (166, 1, (.str [169])), (167, 1, (.str [37, 65, 57])), (168, 1, (.str [170])), (169, 1, (.str [37, 65, 65])), (170, 1, (.str [171])), (171, 1, (.str [37, 65, 66])), (172, 1, (.str [172])), (173, 1, (.str [37, 65, 67])), (174, 1, (.str [173])), (175, 1, (.str [37, 65, 68])), (176, 1, (.str [174])), (177, 1, (.str [37, 65, 69])), (178, 1, (.str [175])), (179, 1, (.str [37, 65, 70])), (180, 1, (.str [176])), (181, 1, (.str [37, 66, 48])), (182, 1, (.str [177])), (183, 1, (.str [37, 66, 49])), (184, 1, (.str [178])), (185, 1, (.str [37, 66, 50])), (186, 1, (.str [179])), (187, 1, (.str [37, 66, 51])), (188, 1, (.str [180])), (189, 1, (.str [37, 66, 52])), (190, 1, (.str [181])), (191, 1, (.str [37, 66, 53])), (192, 1, (.str [182])), (193, 1, (.str [37, 66, 54])), (194, 1, (.str [183])), (195, 1, (.str [37, 66, 55])), (196, 1, (.str [184])), (197, 1, (.str [37, 66, 56])), (198, 1, (.str [185])), (199, 1, (.str [37, 66, 57])), (200, 1, (.str [186])), (201, 1, (.str [37, 66, 65])), (202, 1, (.str [187])), (203, 1, (.str [37, 66, 66])), (204, 1, (.str [188])), (205, 1, (.str [37, 66, 67])), (206, 1, (.str [189])), (207, 1, (.str [37, 66, 68])), (208, 1, (.str [190])), (209, 1, (.str [37, 66, 69])), (210, 1, (.str [191])), (211, 1, (.str [37, 66, 70])), (212, 1, (.str [192])), (213, 1, (.str [37, 67, 48])), (214, 1, (.str [193])), (215, 1, (.str [37, 67, 49])), (216, 1, (.str [194])), (217, 1, (.str [37, 67, 50])), (218, 1, (.str [195])), (219, 1, (.str [37, 67, 51])), (220, 1, (.str [196])), (221, 1, (.str [37, 67, 52])), (222, 1, (.str [197])), (223, 1, (.str [37, 67, 53])), (224, 1, (.str [198])), (225, 1, (.str [37, 67, 54])), (226, 1, (.str [199])), (227, 1, (.str [37, 67, 55])), (228, 1, (.str [200])), (229, 1, (.str [37, 67, 56])), (230, 1, (.str [201])), (231, 1, (.str [37, 67, 57])), (232, 1, (.str [202])), (233, 1, (.str [37, 67, 65])), (234, 1, (.str [203])), (235, 1, (.str [37, 67, 66])), (236, 1, (.str [204])), (237, 1, (.str [37, 67, 67])), (238, 1, (.str [205])), (239, 1, (.str [37, 67, 68])), (240, 1, (.str [206])), (241, 1, (.str [37, 67, 69])), (242, 1, (.str [207])), (243, 1, (.str [37, 67, 70])), (244, 1, (.str [208])), (245, 1, (.str [37, 68, 48])), (246, 1, (.str [209])), (247, 1, (.str [37, 68, 49])), (248, 1, (.str [210])), (249, 1, (.str [37, 68, 50])), (250, 1, (.str [211])), (251, 1, (.str [37, 68, 51])), (252, 1, (.str [212])), (253, 1, (.str [37, 68, 52])), (254, 1, (.str [213])), (255, 1, (.str [37, 68, 53])), (256, 1, (.str [214])), (257, 1, (.str [37, 68, 54])), (258, 1, (.str [215])), (259, 1, (.str [37, 68, 55])), (260, 1, (.str [216])), (261, 1, (.str [37, 68, 56])), (262, 1, (.str [217])), (263, 1, (.str [37, 68, 57])), (264, 1, (.str [218])), (265, 1, (.str [37, 68, 65])), (266, 1, (.str [219])), (267, 1, (.str [37, 68, 66])), (268, 1, (.str [220])), (269, 1, (.str [37, 68, 67])), (270, 1, (.str [221])), (271, 1, (.str [37, 68, 68])), (272, 1, (.str [222])), (273, 1, (.str [37, 68, 69])), (274, 1, (.str [223])), (275, 1, (.str [37, 68, 70])), (276, 1, (.str [224])), (277, 1, (.str [37, 69, 48])), (278, 1, (.str [225])), (279, 1, (.str [37, 69, 49])), (280, 1, (.str [226])), (281, 1, (.str [37, 69, 50])), (282, 1, (.str [227])), (283, 1, (.str [37, 69, 51])), (284, 1, (.str [228])), (285, 1, (.str [37, 69, 52])), (286, 1, (.str [229])), (287, 1, (.str [37, 69, 53])), (288, 1, (.str [230])), (289, 1, (.str [37, 69, 54])), (290, 1, (.str [231])), (291, 1, (.str [37, 69, 55])), (292, 1, (.str [232])), (293, 1, (.str [37, 69, 56])), (294, 1, (.str [233])), (295, 1, (.str [37, 69, 57])), (296, 1, (.str [234])), (297, 1, (.str [37, 69, 65])), (298, 1, (.str [235])), (299, 1, (.str [37, 69, 66])), (300, 1, (.str [236])), (301, 1, (.str [37, 69, 67])), (302, 1, (.str [237])), (303, 1, (.str [37, 69, 68])), (304, 1, (.str [238])), (305, 1, (.str [37, 69, 69])), (306, 1, (.str [239])), (307, 1, (.str [37, 69, 70])), (308, 1, (.str [240])), (309, 1, (.str [37, 70, 48])), (310, 1, (.str [241])), (311, 1, (.str [37, 70, 49])), (312, 1, (.str [242])), (313, 1, (.str [37, 70, 50])), (314, 1, (.str [243])), (315, 1, (.str [37, 70, 51])), (316, 1, (.str [244])), (317, 1, (.str [37, 70, 52])), (318, 1, (.str [245])), (319, 1, (.str [37, 70, 53])), (320, 1, (.str [246])), (321, 1, (.str [37, 70, 54])), (322, 1, (.str [247])), (323, 1, (.str [37, 70, 55])), (324, 1, (.str [248])), (325, 1, (.str [37, 70, 56])), (326, 1, (.str [249])), (327, 1, (.str [37, 70, 57])), (328, 1, (.str [250])), (329, 1, (.str [37, 70, 65])), (330, 1, (.str [251])), (331, 1, (.str [37, 70, 66])), (332, 1, (.str [252])), (333, 1, (.str [37, 70, 67])), (334, 1, (.str [253])), (335, 1, (.str [37, 70, 68])), (336, 1, (.str [254])), (337, 1, (.str [37, 70, 69])), (338, 1, (.str [255])), (339, 1, (.str [37, 70, 70]))]) fun cs => newSK σ 19 cs 340 1 fun x1 σ1 =>
  .ret (x1, σ1)

theorem eq309 (run : RunT) (fu : Nat) (σ : Store) : codeK X0 run (.seq .leaf (.seq .leaf .leaf)) (subC [] b309) ([] ++ padA (2 - 0)) σ k309 = c309 run fu σ := by kernel_rfl

theorem ok309 {run : RunT} (hrun : RunOK X0 run) (fu : Nat) (σ : Store) : CallOK X0 309 [] σ (c309 run fu σ) :=
  KOK.body (fn := Tryz.f309) (c := subC [] b309) (by kernel_rfl) (by kernel_rfl) (by show 0 ≤ 2; decide) (KOK.whole env0 hrun (eq309 run fu σ) ⟨trivial, ⟨trivial, trivial⟩⟩)

-- (pub-paratext/pub/rscmarkdown.zzPairs).Replace

noncomputable def b310 : Code := match Tryz.f310.body with | some c => c | none => .skip

noncomputable def k310 : Kont R := retK Tryz.prog [.tmp 4]

noncomputable def c310 (run : RunT) (fu : Nat) (x0 x1 : AV) (σ : Store) : Tr R :=
  newK σ 313 [.nils, (.int .i64 0), (.int .i8 0)] fun x5 σ1 =>
  calK run 314 [x0, x5, x1] σ1 fun x8 σ2 =>
  calK run 74 [x5] σ2 fun x9 σ3 =>
  .ret (x9, σ3)

theorem eq310 (run : RunT) (fu : Nat) (x0 x1 : AV) (σ : Store) : codeK X0 run (.seq .leaf (.seq .leaf (.seq .leaf (.seq .leaf .leaf)))) (subC [] b310) ([x0, x1] ++ padA (10 - 2)) σ k310 = c310 run fu x0 x1 σ := by kernel_rfl

theorem ok310 {run : RunT} (hrun : RunOK X0 run) (fu : Nat) (x0 x1 : AV) (σ : Store) : CallOK X0 310 [x0, x1] σ (c310 run fu x0 x1 σ) :=
  KOK.body (fn := Tryz.f310) (c := subC [] b310) (by kernel_rfl) (by kernel_rfl) (by show 2 ≤ 10; decide) (KOK.whole env0 hrun (eq310 run fu x0 x1 σ) ⟨trivial, ⟨trivial, ⟨trivial, ⟨trivial, trivial⟩⟩⟩⟩)

-- (*pub-paratext/pub/rscmarkdown.Text).PrintHTML

noncomputable def b328 : Code := match Tryz.f328.body with | some c => c | none => .skip

noncomputable def k328 : Kont R := retK Tryz.prog []

noncomputable def c328_1b (run : RunT) (fu : Nat) (s1 : W4) (x1 x9 x10 x11 : AV) (σ : Store) : Tr R :=
  cmpK .lss x11 x10 fun x12 =>
  ifK x12 (
  idxK 1 x9 x11 fun x13 =>
  ld1K σ x13 fun x14 =>
  invK X0 run x14 "PrintHTML" [x1] σ fun x17 σ1 =>
  addK x11 (.int .i64 1) fun x18 =>
  s1 x1 x9 x10 x18 σ1) (
  .ret (.tup [], σ))

noncomputable def c328_1 (run : RunT) (fu : Nat) : Nat → W4
  | 0 => fun _ _ _ _ _ => .fail
  | m + 1 => c328_1b run fu (c328_1 run fu m)

theorem eq328_1 (run : RunT) (fu : Nat) (s1 : W4) (x1 x9 x10 x11 : AV) (σ : Store) : codeK X0 run (.seq .leaf (.seq (.cond .leaf .leaf) (.seq (.block (.seq .leaf .leaf)) .leaf))) (subC [true, false, false] b328) (frS 0 19 [(1, x1), (9, x9), (10, x10), (11, x11)]) σ (thenK (fun fr σ => s1 (G fr 1) (G fr 9) (G fr 10) (G fr 11) σ) (blockK 0 k328)) = c328_1b run fu s1 x1 x9 x10 x11 σ := by kernel_rfl

theorem owed328_1 {run : RunT} (hrun : RunOK X0 run) (fu : Nat) (s1 : W4) : Owes X0 run 19 (.seq .leaf (.seq (.cond .leaf .leaf) (.seq (.block (.seq .leaf .leaf)) .leaf))) (subC [true, false, false] b328) (thenK (fun fr σ => s1 (G fr 1) (G fr 9) (G fr 10) (G fr 11) σ) (blockK 0 k328)) :=
  ⟨trivial, ⟨⟨trivial, trivial⟩, ⟨⟨trivial, trivial⟩, trivial⟩⟩⟩

theorem ok328_1 {run : RunT} (hrun : RunOK X0 run) (fu : Nat) : ∀ fr σ, KOK X0 19 (subC [true, false] b328) fr σ ((fun fr σ => c328_1 run fu fu (G fr 1) (G fr 9) (G fr 10) (G fr 11) σ) fr σ) (blockK 0 k328) := by
  have h := KOK.loop (X := X0) (N := 19) (b := (subC [true, false, false] b328)) (k := (blockK 0 k328)) (u := fun m fr σ => c328_1 run fu m (G fr 1) (G fr 9) (G fr 10) (G fr 11) σ) (fun _ _ => rfl) (fun m fr σ => KOK.piece env0 hrun [1, 9, 10, 11] (eq328_1 run fu (c328_1 run fu m) (G fr 1) (G fr 9) (G fr 10) (G fr 11) σ) (owed328_1 hrun fu (c328_1 run fu m)))
  exact fun fr σ => h fu fr σ

noncomputable def c328 (run : RunT) (fu : Nat) (x0 x1 : AV) (σ : Store) : Tr R :=
  nchkK x0 fun x7 =>
  addrK x7 2 fun x8 =>
  ld1K σ x8 fun x9 =>
  lenLK x9 fun x10 =>
  c328_1 run fu fu x1 x9 x10 (.int .i64 0) σ

theorem eq328 (run : RunT) (fu : Nat) (x0 x1 : AV) (σ : Store) : codeK X0 run (.seq .leaf (.block (.sub (fun fr σ => c328_1 run fu fu (G fr 1) (G fr 9) (G fr 10) (G fr 11) σ)))) (subC [] b328) ([x0, x1] ++ padA (19 - 2)) σ k328 = c328 run fu x0 x1 σ := by kernel_rfl

theorem ok328 {run : RunT} (hrun : RunOK X0 run) (fu : Nat) (x0 x1 : AV) (σ : Store) : CallOK X0 328 [x0, x1] σ (c328 run fu x0 x1 σ) :=
  KOK.body (fn := Tryz.f328) (c := subC [] b328) (by kernel_rfl) (by kernel_rfl) (by show 2 ≤ 19; decide) (KOK.whole env0 hrun (eq328 run fu x0 x1 σ) ⟨trivial, (ok328_1 hrun fu)⟩)

-- (*pub-paratext/pub/rscmarkdown.Paragraph).PrintHTML

noncomputable def b330 : Code := match Tryz.f330.body with | some c => c | none => .skip

noncomputable def k330 : Kont R := retK Tryz.prog []

noncomputable def c330 (run : RunT) (fu : Nat) (x0 x1 : AV) (σ : Store) : Tr R :=
  calK run 308 [x1, (.str [60, 112, 62])] σ fun x5 σ1 =>
  nchkK x0 fun x7 =>
  addrK x7 2 fun x8 =>
  ld1K σ1 x8 fun x9 =>
  calK run 328 [x9, x1] σ1 fun x11 σ2 =>
  calK run 308 [x1, (.str [60, 47, 112, 62, 10])] σ2 fun x13 σ3 =>
  .ret (.tup [], σ3)

theorem eq330 (run : RunT) (fu : Nat) (x0 x1 : AV) (σ : Store) : codeK X0 run (.seq .leaf (.seq .leaf .leaf)) (subC [] b330) ([x0, x1] ++ padA (14 - 2)) σ k330 = c330 run fu x0 x1 σ := by kernel_rfl

theorem ok330 {run : RunT} (hrun : RunOK X0 run) (fu : Nat) (x0 x1 : AV) (σ : Store) : CallOK X0 330 [x0, x1] σ (c330 run fu x0 x1 σ) :=
  KOK.body (fn := Tryz.f330) (c := subC [] b330) (by kernel_rfl) (by kernel_rfl) (by show 2 ≤ 14; decide) (KOK.whole env0 hrun (eq330 run fu x0 x1 σ) ⟨trivial, ⟨trivial, trivial⟩⟩)

-- pub-paratext/pub/rscmarkdown.htmlEscaper

noncomputable def b335 : Code := match Tryz.f335.body with | some c => c | none => .skip

noncomputable def k335 : Kont R := retK Tryz.prog [.tmp 0]

noncomputable def c335 (run : RunT) (fu : Nat) (σ : Store) : Tr R :=
  opt (fillK [(.str []), (.str []), (.str []), (.str []), (.str []), (.str []), (.str []), (.str [])] [(0, 1, (.str [34])), (1, 1, (.str [38, 113, 117, 111, 116, 59])), (2, 1, (.str [38])), (3, 1, (.str [38, 97, 109, 112, 59])), (4, 1, (.str [60])), (5, 1, (.str [38, 108, 116, 59])), (6, 1, (.str [62])), (7, 1, (.str [38, 103, 116, 59]))]) fun cs => newSK σ 19 cs 8 1 fun x1 σ1 =>
  .ret (x1, σ1)

theorem eq335 (run : RunT) (fu : Nat) (σ : Store) : codeK X0 run (.seq .leaf (.seq .leaf .leaf)) (subC [] b335) ([] ++ padA (2 - 0)) σ k335 = c335 run fu σ := by kernel_rfl

theorem ok335 {run : RunT} (hrun : RunOK X0 run) (fu : Nat) (σ : Store) : CallOK X0 335 [] σ (c335 run fu σ) :=
  KOK.body (fn := Tryz.f335) (c := subC [] b335) (by kernel_rfl) (by kernel_rfl) (by show 0 ≤ 2; decide) (KOK.whole env0 hrun (eq335 run fu σ) ⟨trivial, ⟨trivial, trivial⟩⟩)

-- (*pub-paratext/pub/rscmarkdown.Empty).PrintHTML

noncomputable def b342 : Code := match Tryz.f342.body with | some c => c | none => .skip

noncomputable def k342 : Kont R := retK Tryz.prog []

noncomputable def c342 (run : RunT) (fu : Nat) (x0 x1 : AV) (σ : Store) : Tr R :=
  .ret (.tup [], σ)

theorem eq342 (run : RunT) (fu : Nat) (x0 x1 : AV) (σ : Store) : codeK X0 run .leaf (subC [] b342) ([x0, x1] ++ padA (4 - 2)) σ k342 = c342 run fu x0 x1 σ := by kernel_rfl

theorem ok342 {run : RunT} (hrun : RunOK X0 run) (fu : Nat) (x0 x1 : AV) (σ : Store) : CallOK X0 342 [x0, x1] σ (c342 run fu x0 x1 σ) :=
  KOK.body (fn := Tryz.f342) (c := subC [] b342) (by kernel_rfl) (by kernel_rfl) (by show 2 ≤ 4; decide) (KOK.whole env0 hrun (eq342 run fu x0 x1 σ) trivial)

-- (*pub-paratext/pub/rscmarkdown.rootBuilder).build

noncomputable def b344 : Code := match Tryz.f344.body with | some c => c | none => .skip

noncomputable def k344 : Kont R := retK Tryz.prog [.tmp 4]

noncomputable def c344 (run : RunT) (fu : Nat) (x0 x1 : AV) (σ : Store) : Tr R :=
  invK X0 run x1 "pub-paratext/pub/rscmarkdown.pos" [] σ fun x6 σ1 =>
  invK X0 run x1 "pub-paratext/pub/rscmarkdown.blocks" [] σ1 fun x8 σ2 =>
  tasK (some .nilp) 235 false x1 fun x10 =>
  nchkK x10 fun x11 =>
  addrK x11 2 fun x12 =>
  ld1K σ2 x12 fun x13 =>
  bldK [(.int .i64 0), (.int .i64 0), .nils, .nilm] [(0, 2, x6), (2, 1, x8), (3, 1, x13)] fun x14 =>
  boxK σ2 203 x14 fun x15 σ3 =>
  ld1K σ x12 fun v4 =>
  must (AV.beq v4 x13) (
  ld1K σ1 x12 fun v5 =>
  must (AV.beq v5 x13) (
  .ret ((.iface 83 x15), σ3)))

theorem eq344 (run : RunT) (fu : Nat) (x0 x1 : AV) (σ : Store) : codeK X0 run (.seq .leaf (.seq .leaf .leaf)) (subC [] b344) ([x0, x1] ++ padA (17 - 2)) σ k344 = c344 run fu x0 x1 σ := by kernel_rfl

theorem ok344 {run : RunT} (hrun : RunOK X0 run) (fu : Nat) (x0 x1 : AV) (σ : Store) : CallOK X0 344 [x0, x1] σ (c344 run fu x0 x1 σ) :=
  KOK.body (fn := Tryz.f344) (c := subC [] b344) (by kernel_rfl) (by kernel_rfl) (by show 2 ≤ 17; decide) (KOK.whole env0 hrun (eq344 run fu x0 x1 σ) ⟨trivial, ⟨trivial, trivial⟩⟩)

-- (*pub-paratext/pub/rscmarkdown.Plain).PrintHTML

noncomputable def b347 : Code := match Tryz.f347.body with | some c => c | none => .skip

noncomputable def k347 : Kont R := retK Tryz.prog []

noncomputable def c347 (run : RunT) (fu : Nat) (x0 x1 : AV) (σ : Store) : Tr R :=
  calK run 335 [] σ fun x4 σ1 =>
  nchkK x0 fun x7 =>
  addrK x7 0 fun x8 =>
  ld1K σ1 x8 fun x9 =>
  calK run 314 [x4, x1, x9] σ1 fun x10 σ2 =>
  ld1K σ x8 fun v3 =>
  must (AV.beq v3 x9) (
  .ret (.tup [], σ2))

theorem eq347 (run : RunT) (fu : Nat) (x0 x1 : AV) (σ : Store) : codeK X0 run .leaf (subC [] b347) ([x0, x1] ++ padA (11 - 2)) σ k347 = c347 run fu x0 x1 σ := by kernel_rfl

theorem ok347 {run : RunT} (hrun : RunOK X0 run) (fu : Nat) (x0 x1 : AV) (σ : Store) : CallOK X0 347 [x0, x1] σ (c347 run fu x0 x1 σ) :=
  KOK.body (fn := Tryz.f347) (c := subC [] b347) (by kernel_rfl) (by kernel_rfl) (by show 2 ≤ 11; decide) (KOK.whole env0 hrun (eq347 run fu x0 x1 σ) trivial)

-- (*pub-paratext/pub/rscmarkdown.parseState).blocks

noncomputable def b395 : Code := match Tryz.f395.body with | some c => c | none => .skip

noncomputable def k395 : Kont R := retK Tryz.prog [.tmp 2]

noncomputable def c395 (run : RunT) (fu : Nat) (x0 : AV) (σ : Store) : Tr R :=
  nchkK x0 fun x5 =>
  addrK x5 4 fun x6 =>
  ld1K σ x6 fun x7 =>
  nchkK x0 fun x9 =>
  addrK x9 4 fun x10 =>
  ld1K σ x10 fun x11 =>
  lenLK x11 fun x12 =>
  subK x12 (.int .i64 1) fun x13 =>
  idxK 4 x7 x13 fun x14 =>
  nchkK x14 fun x16 =>
  addrK x16 1 fun x17 =>
  ld1K σ x17 fun x18 =>
  .ret (x18, σ)

theorem eq395 (run : RunT) (fu : Nat) (x0 : AV) (σ : Store) : codeK X0 run (.seq .leaf (.seq .leaf (.seq .leaf .leaf))) (subC [] b395) ([x0] ++ padA (19 - 1)) σ k395 = c395 run fu x0 σ := by kernel_rfl

theorem ok395 {run : RunT} (hrun : RunOK X0 run) (fu : Nat) (x0 : AV) (σ : Store) : CallOK X0 395 [x0] σ (c395 run fu x0 σ) :=
  KOK.body (fn := Tryz.f395) (c := subC [] b395) (by kernel_rfl) (by kernel_rfl) (by show 1 ≤ 19; decide) (KOK.whole env0 hrun (eq395 run fu x0 σ) ⟨trivial, ⟨trivial, ⟨trivial, trivial⟩⟩⟩)

-- (*pub-paratext/pub/rscmarkdown.parseState).pos

noncomputable def b396 : Code := match Tryz.f396.body with | some c => c | none => .skip

noncomputable def k396 : Kont R := retK Tryz.prog [.cell 2 95]

noncomputable def c396 (run : RunT) (fu : Nat) (x0 : AV) (σ : Store) : Tr R :=
  newK σ 191 [(.int .i64 0), (.int .i64 0)] fun x2 σ1 =>
  nchkK x0 fun x5 =>
  addrK x5 4 fun x6 =>
  ld1K σ1 x6 fun x7 =>
  nchkK x0 fun x9 =>
  addrK x9 4 fun x10 =>
  ld1K σ1 x10 fun x11 =>
  lenLK x11 fun x12 =>
  subK x12 (.int .i64 1) fun x13 =>
  idxK 4 x7 x13 fun x14 =>
  nchkK x14 fun x16 =>
  addrK x16 2 fun x17 =>
  ldNK σ1 x17 2 fun x18 =>
  stNK σ1 x2 2 x18 fun _ σ2 =>
  ldNK σ2 x2 2 fun v3 =>
  .ret (v3, σ2)

theorem eq396 (run : RunT) (fu : Nat) (x0 : AV) (σ : Store) : codeK X0 run (.seq .leaf (.seq .leaf (.seq .leaf .leaf))) (subC [] b396) ([x0] ++ padA (19 - 1)) σ k396 = c396 run fu x0 σ := by kernel_rfl

theorem ok396 {run : RunT} (hrun : RunOK X0 run) (fu : Nat) (x0 : AV) (σ : Store) : CallOK X0 396 [x0] σ (c396 run fu x0 σ) :=
  KOK.body (fn := Tryz.f396) (c := subC [] b396) (by kernel_rfl) (by kernel_rfl) (by show 1 ≤ 19; decide) (KOK.whole env0 hrun (eq396 run fu x0 σ) ⟨trivial, ⟨trivial, ⟨trivial, trivial⟩⟩⟩)

-- (*pub-paratext/pub/rscmarkdown.paraBuilder).build

noncomputable def b397 : Code := match Tryz.f397.body with | some c => c | none => .skip

noncomputable def k397 : Kont R := retK Tryz.prog [.tmp 4]

noncomputable def c397_1 (run : RunT) (fu : Nat) (x0 x1 x5 : AV) (σ : Store) : Tr R :=
  eqSK x5 (.str []) fun x41 =>
  ifK x41 (
  invK X0 run x1 "pub-paratext/pub/rscmarkdown.pos" [] σ fun x43 σ1 =>
  bldK [(.int .i64 0), (.int .i64 0)] [(0, 2, x43)] fun x44 =>
  boxK σ1 849 x44 fun x45 σ2 =>
  .ret ((.iface 148 x45), σ2)) (
  invK X0 run x1 "pub-paratext/pub/rscmarkdown.pos" [] σ fun x48 σ3 =>
  newK σ3 191 [(.int .i64 0), (.int .i64 0)] fun x8 σ4 =>
  stNK σ4 x8 2 x48 fun _ σ5 =>
  addrK x8 0 fun x49 =>
  ld1K σ5 x49 fun x50 =>
  nchkK x0 fun x52 =>
  addrK x52 0 fun x53 =>
  ld1K σ5 x53 fun x54 =>
  lenLK x54 fun x55 =>
  addK x50 x55 fun x56 =>
  subK x56 (.int .i64 1) fun x57 =>
  addrK x8 1 fun x58 =>
  st1K σ5 x58 x57 fun _ σ6 =>
  ldNK σ6 x8 2 fun x59 =>
  ldNK σ6 x8 2 fun x61 =>
  invK X0 run x1 "pub-paratext/pub/rscmarkdown.newText" [x61, x5] σ6 fun x63 σ7 =>
  bldK [(.int .i64 0), (.int .i64 0), .nilp] [(0, 2, x59), (2, 1, x63)] fun x64 =>
  boxK σ7 263 x64 fun x65 σ8 =>
  ldNK σ7 x8 2 fun v9 =>
  must (AV.beq v9 x59) (
  .ret ((.iface 129 x65), σ8)))

theorem eq397_1 (run : RunT) (fu : Nat) (x0 x1 x5 : AV) (σ : Store) : codeK X0 run (.seq (.seq .leaf (.cond (.seq .leaf .leaf) .leaf)) (.seq .leaf (.seq .leaf (.seq .leaf .leaf)))) (subC [true, true, true, true] b397) (frS 0 67 [(0, x0), (1, x1), (5, x5)]) σ k397 = c397_1 run fu x0 x1 x5 σ := by kernel_rfl

theorem ok397_1 {run : RunT} (hrun : RunOK X0 run) (fu : Nat) : ∀ fr σ, KOK X0 67 (subC [true, true, true, true] b397) fr σ ((fun fr σ => c397_1 run fu (G fr 0) (G fr 1) (G fr 5) σ) fr σ) k397 := fun fr σ =>
  KOK.piece env0 hrun [0, 1, 5] (eq397_1 run fu (G fr 0) (G fr 1) (G fr 5) σ) ⟨⟨trivial, ⟨⟨trivial, trivial⟩, trivial⟩⟩, ⟨trivial, ⟨trivial, ⟨trivial, trivial⟩⟩⟩⟩

noncomputable def c397_2b (run : RunT) (fu : Nat) (s2 : W3) (x0 x1 x5 : AV) (σ : Store) : Tr R :=
  neSK x5 (.str []) fun x26 =>
  ifK x26 (
  calK run 400 [x1, x5] σ fun x30 σ1 =>
  extK x30 0 fun x31 =>
  extK x30 1 fun x32 =>
  notK x32 fun x34 =>
  ifK x34 (
  c397_1 run fu x0 x1 x5 σ1) (
  calK run 174 [x5, x31] σ1 fun x38 σ2 =>
  sliceSK x5 (some x38) none fun x39 =>
  s2 x0 x1 x39 σ2)) (
  c397_1 run fu x0 x1 x5 σ)

noncomputable def c397_2 (run : RunT) (fu : Nat) : Nat → W3
  | 0 => fun _ _ _ _ => .fail
  | m + 1 => c397_2b run fu (c397_2 run fu m)

theorem eq397_2 (run : RunT) (fu : Nat) (s2 : W3) (x0 x1 x5 : AV) (σ : Store) : codeK X0 run (.seq (.seq .leaf (.cond .leaf .leaf)) (.block (.seq .leaf (.seq (.seq .leaf (.cond .leaf .leaf)) .leaf)))) (subC [true, true, true, false, false, false] b397) (frS 0 67 [(0, x0), (1, x1), (5, x5)]) σ (thenK (fun fr σ => s2 (G fr 0) (G fr 1) (G fr 5) σ) (blockK 0 (thenK (fun fr σ => c397_1 run fu (G fr 0) (G fr 1) (G fr 5) σ) k397))) = c397_2b run fu s2 x0 x1 x5 σ := by kernel_rfl

theorem owed397_2 {run : RunT} (hrun : RunOK X0 run) (fu : Nat) (s2 : W3) : Owes X0 run 67 (.seq (.seq .leaf (.cond .leaf .leaf)) (.block (.seq .leaf (.seq (.seq .leaf (.cond .leaf .leaf)) .leaf)))) (subC [true, true, true, false, false, false] b397) (thenK (fun fr σ => s2 (G fr 0) (G fr 1) (G fr 5) σ) (blockK 0 (thenK (fun fr σ => c397_1 run fu (G fr 0) (G fr 1) (G fr 5) σ) k397))) :=
  ⟨⟨trivial, ⟨trivial, trivial⟩⟩, ⟨trivial, ⟨⟨trivial, ⟨trivial, trivial⟩⟩, trivial⟩⟩⟩

theorem ok397_2 {run : RunT} (hrun : RunOK X0 run) (fu : Nat) : ∀ fr σ, KOK X0 67 (subC [true, true, true, false, false] b397) fr σ ((fun fr σ => c397_2 run fu fu (G fr 0) (G fr 1) (G fr 5) σ) fr σ) (blockK 0 (thenK (fun fr σ => c397_1 run fu (G fr 0) (G fr 1) (G fr 5) σ) k397)) := by
  have h := KOK.loop (X := X0) (N := 67) (b := (subC [true, true, true, false, false, false] b397)) (k := (blockK 0 (thenK (fun fr σ => c397_1 run fu (G fr 0) (G fr 1) (G fr 5) σ) k397))) (u := fun m fr σ => c397_2 run fu m (G fr 0) (G fr 1) (G fr 5) σ) (fun _ _ => rfl) (fun m fr σ => KOK.piece env0 hrun [0, 1, 5] (eq397_2 run fu (c397_2 run fu m) (G fr 0) (G fr 1) (G fr 5) σ) (owed397_2 hrun fu (c397_2 run fu m)))
  exact fun fr σ => h fu fr σ

noncomputable def c397 (run : RunT) (fu : Nat) (x0 x1 : AV) (σ : Store) : Tr R :=
  nchkK x0 fun x10 =>
  addrK x10 1 fun x11 =>
  ld1K σ x11 fun x12 =>
  neOK (nilEq nilP) x12 .nilp fun x13 =>
  ifK x13 (
  .fail) (
  nchkK x0 fun x21 =>
  addrK x21 0 fun x22 =>
  ld1K σ x22 fun x23 =>
  calK run 234 [x23, (.str [10])] σ fun x24 σ1 =>
  c397_2 run fu fu x0 x1 x24 σ1)

theorem eq397 (run : RunT) (fu : Nat) (x0 x1 : AV) (σ : Store) : codeK X0 run (.seq .leaf (.seq (.seq .leaf (.cond (.sub deadK) .leaf)) (.seq .leaf (.seq (.block (.sub (fun fr σ => c397_2 run fu fu (G fr 0) (G fr 1) (G fr 5) σ))) (.sub (fun fr σ => c397_1 run fu (G fr 0) (G fr 1) (G fr 5) σ)))))) (subC [] b397) ([x0, x1] ++ padA (67 - 2)) σ k397 = c397 run fu x0 x1 σ := by kernel_rfl

theorem ok397 {run : RunT} (hrun : RunOK X0 run) (fu : Nat) (x0 x1 : AV) (σ : Store) : CallOK X0 397 [x0, x1] σ (c397 run fu x0 x1 σ) :=
  KOK.body (fn := Tryz.f397) (c := subC [] b397) (by kernel_rfl) (by kernel_rfl) (by show 2 ≤ 67; decide) (KOK.whole env0 hrun (eq397 run fu x0 x1 σ) ⟨trivial, ⟨⟨trivial, ⟨KOK.dead, trivial⟩⟩, ⟨trivial, ⟨(ok397_2 hrun fu), (ok397_1 hrun fu)⟩⟩⟩⟩)

-- (*pub-paratext/pub/rscmarkdown.paraBuilder).extend

noncomputable def b398 : Code := match Tryz.f398.body with | some c => c | none => .skip

noncomputable def k398 : Kont R := retK Tryz.prog [.cell 6 187, .tmp 7]

noncomputable def c398 (run : RunT) (fu : Nat) (x0 x1 x2 : AV) (σ : Store) : Tr R :=
  boxK σ 375 x2 fun x5 σ1 =>
  newK σ1 375 [(.int .i64 0), (.int .i64 0), (.int .i64 0), (.str []), (.int .u8 0)] fun x6 σ2 =>
  ldNK σ2 x5 5 fun x8 =>
  stNK σ2 x6 5 x8 fun _ σ3 =>
  ldNK σ3 x6 5 fun v4 =>
  .ret (.tup [v4, (.bool false)], σ3)

theorem eq398 (run : RunT) (fu : Nat) (x0 x1 x2 : AV) (σ : Store) : codeK X0 run (.seq .leaf (.seq .leaf .leaf)) (subC [] b398) ([x0, x1, x2] ++ padA (9 - 3)) σ k398 = c398 run fu x0 x1 x2 σ := by kernel_rfl

theorem ok398 {run : RunT} (hrun : RunOK X0 run) (fu : Nat) (x0 x1 x2 : AV) (σ : Store) : CallOK X0 398 [x0, x1, x2] σ (c398 run fu x0 x1 x2 σ) :=
  KOK.body (fn := Tryz.f398) (c := subC [] b398) (by kernel_rfl) (by kernel_rfl) (by show 3 ≤ 9; decide) (KOK.whole env0 hrun (eq398 run fu x0 x1 x2 σ) ⟨trivial, ⟨trivial, trivial⟩⟩)

-- pub-paratext/pub/rscmarkdown.parseLinkRefDef

noncomputable def b400 : Code := match Tryz.f400.body with | some c => c | none => .skip

noncomputable def k400 : Kont R := retK Tryz.prog [.tmp 4, .tmp 5]

noncomputable def c400_6 (run : RunT) (fu : Nat) (x6 : AV) (σ : Store) : Tr R :=
  .ret (.tup [x6, (.bool true)], σ)

theorem eq400_6 (run : RunT) (fu : Nat) (x6 : AV) (σ : Store) : codeK X0 run (.seq .leaf .leaf) (subC [true, true, true, true, true, true, true, true, true, true, true, true, true, true, true, true, true, true, true, true] b400) (frS 0 200 [(6, x6)]) σ k400 = c400_6 run fu x6 σ := by kernel_rfl

theorem ok400_6 {run : RunT} (hrun : RunOK X0 run) (fu : Nat) : ∀ fr σ, KOK X0 200 (subC [true, true, true, true, true, true, true, true, true, true, true, true, true, true, true, true, true, true, true, true] b400) fr σ ((fun fr σ => c400_6 run fu (G fr 6) σ) fr σ) k400 := fun fr σ =>
  KOK.piece env0 hrun [6] (eq400_6 run fu (G fr 6) σ) ⟨trivial, trivial⟩

noncomputable def c400_5 (run : RunT) (fu : Nat) (x0 x6 x7 x10 x13 x14 x15 : AV) (σ : Store) : Tr R :=
  calK run 178 [x7] σ fun x185 σ1 =>
  invK X0 run x0 "pub-paratext/pub/rscmarkdown.link" [x185] σ1 fun x188 σ2 =>
  eqOK (nilEq nilP) x188 .nilp fun x189 =>
  ifK x189 (
  bldK [.nils, (.str []), (.str []), (.int .u8 0), (.bool false)] [(1, 1, x10), (2, 1, x13), (3, 1, x14), (4, 1, x15)] fun x196 =>
  boxK σ2 211 x196 fun x197 σ3 =>
  invK X0 run x0 "pub-paratext/pub/rscmarkdown.defineLink" [x185, x197] σ3 fun x198 σ4 =>
  c400_6 run fu x6 σ4) (
  c400_6 run fu x6 σ2)

theorem eq400_5 (run : RunT) (fu : Nat) (x0 x6 x7 x10 x13 x14 x15 : AV) (σ : Store) : codeK X0 run (.seq .leaf (.seq (.seq .leaf (.cond .leaf .leaf)) (.sub (fun fr σ => c400_6 run fu (G fr 6) σ)))) (subC [true, true, true, true, true, true, true, true, true, true, true, true, true, true, true, true, true, true] b400) (frS 0 200 [(0, x0), (6, x6), (7, x7), (10, x10), (13, x13), (14, x14), (15, x15)]) σ k400 = c400_5 run fu x0 x6 x7 x10 x13 x14 x15 σ := by kernel_rfl

theorem ok400_5 {run : RunT} (hrun : RunOK X0 run) (fu : Nat) : ∀ fr σ, KOK X0 200 (subC [true, true, true, true, true, true, true, true, true, true, true, true, true, true, true, true, true, true] b400) fr σ ((fun fr σ => c400_5 run fu (G fr 0) (G fr 6) (G fr 7) (G fr 10) (G fr 13) (G fr 14) (G fr 15) σ) fr σ) k400 := fun fr σ =>
  KOK.piece env0 hrun [0, 6, 7, 10, 13, 14, 15] (eq400_5 run fu (G fr 0) (G fr 6) (G fr 7) (G fr 10) (G fr 13) (G fr 14) (G fr 15) σ) ⟨trivial, ⟨⟨trivial, ⟨trivial, trivial⟩⟩, (ok400_6 hrun fu)⟩⟩

noncomputable def c400_4 (run : RunT) (fu : Nat) (x0 x1 x6 x7 x10 x13 x14 x15 : AV) (σ : Store) : Tr R :=
  lenSK x1 fun x170 =>
  cmpK .lss x6 x170 fun x171 =>
  grdK x171 true σ (fun f => f x1 σ) fun x173 σ1 =>
  grdK x171 true σ1 (fun f => f x6 σ1) fun x174 σ2 =>
  grdK x171 true σ2 (fun f => idxSK x173 x174 fun v => f v σ2) fun x175 σ3 =>
  grdK x171 true σ3 (fun f => cmpK .neq x175 (.int .u8 10) fun v => f v σ3) fun x176 σ4 =>
  pickK x171 x176 (.bool false) fun x177 =>
  ifK x177 (
  .fail) (
  lenSK x1 fun x180 =>
  cmpK .lss x6 x180 fun x181 =>
  ifK x181 (
  addK x6 (.int .i64 1) fun x183 =>
  c400_5 run fu x0 x183 x7 x10 x13 x14 x15 σ4) (
  c400_5 run fu x0 x6 x7 x10 x13 x14 x15 σ4))

theorem eq400_4 (run : RunT) (fu : Nat) (x0 x1 x6 x7 x10 x13 x14 x15 : AV) (σ : Store) : codeK X0 run (.seq (.seq .leaf (.cond (.sub deadK) .leaf)) (.seq (.seq .leaf (.cond .leaf .leaf)) (.sub (fun fr σ => c400_5 run fu (G fr 0) (G fr 6) (G fr 7) (G fr 10) (G fr 13) (G fr 14) (G fr 15) σ)))) (subC [true, true, true, true, true, true, true, true, true, true, true, true, true, true, true, true] b400) (frS 0 200 [(0, x0), (1, x1), (6, x6), (7, x7), (10, x10), (13, x13), (14, x14), (15, x15)]) σ k400 = c400_4 run fu x0 x1 x6 x7 x10 x13 x14 x15 σ := by kernel_rfl

theorem ok400_4 {run : RunT} (hrun : RunOK X0 run) (fu : Nat) : ∀ fr σ, KOK X0 200 (subC [true, true, true, true, true, true, true, true, true, true, true, true, true, true, true, true] b400) fr σ ((fun fr σ => c400_4 run fu (G fr 0) (G fr 1) (G fr 6) (G fr 7) (G fr 10) (G fr 13) (G fr 14) (G fr 15) σ) fr σ) k400 := fun fr σ =>
  KOK.piece env0 hrun [0, 1, 6, 7, 10, 13, 14, 15] (eq400_4 run fu (G fr 0) (G fr 1) (G fr 6) (G fr 7) (G fr 10) (G fr 13) (G fr 14) (G fr 15) σ) ⟨⟨trivial, ⟨KOK.dead, trivial⟩⟩, ⟨⟨trivial, ⟨trivial, trivial⟩⟩, (ok400_5 hrun fu)⟩⟩

noncomputable def c400_7 (run : RunT) (fu : Nat) (x0 x1 x6 x7 x10 x12 x13 x14 x15 : AV) (σ : Store) : Tr R :=
  calK run 176 [x1, x12] σ fun x129 σ1 =>
  extK x129 0 fun x130 =>
  extK x129 1 fun x131 =>
  extK x129 2 fun x132 =>
  extK x129 3 fun x133 =>
  ifK x133 (
  .fail) (
  c400_4 run fu x0 x1 x6 x7 x10 x13 x14 x15 σ1)

theorem eq400_7 (run : RunT) (fu : Nat) (x0 x1 x6 x7 x10 x12 x13 x14 x15 : AV) (σ : Store) : codeK X0 run (.seq .leaf (.seq .leaf (.cond (.sub deadK) .leaf))) (subC [true, true, true, true, true, true, true, true, true, true, true, true, true, true, true, false, true, false, true] b400) (frS 0 200 [(0, x0), (1, x1), (6, x6), (7, x7), (10, x10), (12, x12), (13, x13), (14, x14), (15, x15)]) σ (thenK (fun fr σ => c400_4 run fu (G fr 0) (G fr 1) (G fr 6) (G fr 7) (G fr 10) (G fr 13) (G fr 14) (G fr 15) σ) k400) = c400_7 run fu x0 x1 x6 x7 x10 x12 x13 x14 x15 σ := by kernel_rfl

theorem ok400_7 {run : RunT} (hrun : RunOK X0 run) (fu : Nat) : ∀ fr σ, KOK X0 200 (subC [true, true, true, true, true, true, true, true, true, true, true, true, true, true, true, false, true, false, true] b400) fr σ ((fun fr σ => c400_7 run fu (G fr 0) (G fr 1) (G fr 6) (G fr 7) (G fr 10) (G fr 12) (G fr 13) (G fr 14) (G fr 15) σ) fr σ) (thenK (fun fr σ => c400_4 run fu (G fr 0) (G fr 1) (G fr 6) (G fr 7) (G fr 10) (G fr 13) (G fr 14) (G fr 15) σ) k400) := fun fr σ =>
  KOK.piece env0 hrun [0, 1, 6, 7, 10, 12, 13, 14, 15] (eq400_7 run fu (G fr 0) (G fr 1) (G fr 6) (G fr 7) (G fr 10) (G fr 12) (G fr 13) (G fr 14) (G fr 15) σ) ⟨trivial, ⟨trivial, ⟨KOK.dead, trivial⟩⟩⟩

noncomputable def c400_8b (run : RunT) (fu : Nat) (s8 : W9) (x0 x1 x6 x7 x10 x12 x13 x14 x15 : AV) (σ : Store) : Tr R :=
  lenSK x1 fun x110 =>
  cmpK .lss x12 x110 fun x111 =>
  grdK x111 true σ (fun f => f x1 σ) fun x113 σ1 =>
  grdK x111 true σ1 (fun f => f x12 σ1) fun x114 σ2 =>
  grdK x111 true σ2 (fun f => idxSK x113 x114 fun v => f v σ2) fun x115 σ3 =>
  grdK x111 true σ3 (fun f => cmpK .eql x115 (.int .u8 32) fun v => f v σ3) fun x116 σ4 =>
  grdK x111 true σ4 (fun f => f x116 σ4) fun x117 σ5 =>
  grdK x117 false σ5 (fun f => f x1 σ5) fun x118 σ6 =>
  grdK x117 false σ6 (fun f => f x12 σ6) fun x119 σ7 =>
  grdK x117 false σ7 (fun f => idxSK x118 x119 fun v => f v σ7) fun x120 σ8 =>
  grdK x117 false σ8 (fun f => cmpK .eql x120 (.int .u8 9) fun v => f v σ8) fun x121 σ9 =>
  grdK x111 true σ9 (fun f => pickK x117 (.bool true) x121 fun v => f v σ9) fun x122 σ10 =>
  pickK x111 x122 (.bool false) fun x123 =>
  ifK x123 (
  .fail) (
  c400_7 run fu x0 x1 x6 x7 x10 x12 x13 x14 x15 σ10)

noncomputable def c400_8 (run : RunT) (fu : Nat) : Nat → W9
  | 0 => fun _ _ _ _ _ _ _ _ _ _ => .fail
  | m + 1 => c400_8b run fu (c400_8 run fu m)

theorem eq400_8 (run : RunT) (fu : Nat) (s8 : W9) (x0 x1 x6 x7 x10 x12 x13 x14 x15 : AV) (σ : Store) : codeK X0 run (.seq (.seq .leaf (.cond (.sub deadK) .leaf)) .leaf) (subC [true, true, true, true, true, true, true, true, true, true, true, true, true, true, true, false, true, false, false, false, false] b400) (frS 0 200 [(0, x0), (1, x1), (6, x6), (7, x7), (10, x10), (12, x12), (13, x13), (14, x14), (15, x15)]) σ (thenK (fun fr σ => s8 (G fr 0) (G fr 1) (G fr 6) (G fr 7) (G fr 10) (G fr 12) (G fr 13) (G fr 14) (G fr 15) σ) (blockK 2 (thenK (fun fr σ => c400_7 run fu (G fr 0) (G fr 1) (G fr 6) (G fr 7) (G fr 10) (G fr 12) (G fr 13) (G fr 14) (G fr 15) σ) (thenK (fun fr σ => c400_4 run fu (G fr 0) (G fr 1) (G fr 6) (G fr 7) (G fr 10) (G fr 13) (G fr 14) (G fr 15) σ) k400)))) = c400_8b run fu s8 x0 x1 x6 x7 x10 x12 x13 x14 x15 σ := by kernel_rfl

theorem owed400_8 {run : RunT} (hrun : RunOK X0 run) (fu : Nat) (s8 : W9) : Owes X0 run 200 (.seq (.seq .leaf (.cond (.sub deadK) .leaf)) .leaf) (subC [true, true, true, true, true, true, true, true, true, true, true, true, true, true, true, false, true, false, false, false, false] b400) (thenK (fun fr σ => s8 (G fr 0) (G fr 1) (G fr 6) (G fr 7) (G fr 10) (G fr 12) (G fr 13) (G fr 14) (G fr 15) σ) (blockK 2 (thenK (fun fr σ => c400_7 run fu (G fr 0) (G fr 1) (G fr 6) (G fr 7) (G fr 10) (G fr 12) (G fr 13) (G fr 14) (G fr 15) σ) (thenK (fun fr σ => c400_4 run fu (G fr 0) (G fr 1) (G fr 6) (G fr 7) (G fr 10) (G fr 13) (G fr 14) (G fr 15) σ) k400)))) :=
  ⟨⟨trivial, ⟨KOK.dead, trivial⟩⟩, trivial⟩

theorem ok400_8 {run : RunT} (hrun : RunOK X0 run) (fu : Nat) : ∀ fr σ, KOK X0 200 (subC [true, true, true, true, true, true, true, true, true, true, true, true, true, true, true, false, true, false, false, false] b400) fr σ ((fun fr σ => c400_8 run fu fu (G fr 0) (G fr 1) (G fr 6) (G fr 7) (G fr 10) (G fr 12) (G fr 13) (G fr 14) (G fr 15) σ) fr σ) (blockK 2 (thenK (fun fr σ => c400_7 run fu (G fr 0) (G fr 1) (G fr 6) (G fr 7) (G fr 10) (G fr 12) (G fr 13) (G fr 14) (G fr 15) σ) (thenK (fun fr σ => c400_4 run fu (G fr 0) (G fr 1) (G fr 6) (G fr 7) (G fr 10) (G fr 13) (G fr 14) (G fr 15) σ) k400))) := by
  have h := KOK.loop (X := X0) (N := 200) (b := (subC [true, true, true, true, true, true, true, true, true, true, true, true, true, true, true, false, true, false, false, false, false] b400)) (k := (blockK 2 (thenK (fun fr σ => c400_7 run fu (G fr 0) (G fr 1) (G fr 6) (G fr 7) (G fr 10) (G fr 12) (G fr 13) (G fr 14) (G fr 15) σ) (thenK (fun fr σ => c400_4 run fu (G fr 0) (G fr 1) (G fr 6) (G fr 7) (G fr 10) (G fr 13) (G fr 14) (G fr 15) σ) k400)))) (u := fun m fr σ => c400_8 run fu m (G fr 0) (G fr 1) (G fr 6) (G fr 7) (G fr 10) (G fr 12) (G fr 13) (G fr 14) (G fr 15) σ) (fun _ _ => rfl) (fun m fr σ => KOK.piece env0 hrun [0, 1, 6, 7, 10, 12, 13, 14, 15] (eq400_8 run fu (c400_8 run fu m) (G fr 0) (G fr 1) (G fr 6) (G fr 7) (G fr 10) (G fr 12) (G fr 13) (G fr 14) (G fr 15) σ) (owed400_8 hrun fu (c400_8 run fu m)))
  exact fun fr σ => h fu fr σ

noncomputable def c400_3 (run : RunT) (fu : Nat) (x0 x1 x6 x7 x10 x11 x12 : AV) (σ : Store) : Tr R :=
  ifK x11 (
  c400_8 run fu fu x0 x1 x6 x7 x10 x12 (.str []) (.int .u8 0) (.bool false) σ) (
  .fail)

theorem eq400_3 (run : RunT) (fu : Nat) (x0 x1 x6 x7 x10 x11 x12 : AV) (σ : Store) : codeK X0 run (.seq .leaf (.seq .leaf (.seq .leaf (.seq (.seq .leaf (.cond (.seq (.block (.sub (fun fr σ => c400_8 run fu fu (G fr 0) (G fr 1) (G fr 6) (G fr 7) (G fr 10) (G fr 12) (G fr 13) (G fr 14) (G fr 15) σ))) (.sub (fun fr σ => c400_7 run fu (G fr 0) (G fr 1) (G fr 6) (G fr 7) (G fr 10) (G fr 12) (G fr 13) (G fr 14) (G fr 15) σ))) (.sub deadK))) (.sub (fun fr σ => c400_4 run fu (G fr 0) (G fr 1) (G fr 6) (G fr 7) (G fr 10) (G fr 13) (G fr 14) (G fr 15) σ)))))) (subC [true, true, true, true, true, true, true, true, true, true, true, true] b400) (frS 0 200 [(0, x0), (1, x1), (6, x6), (7, x7), (10, x10), (11, x11), (12, x12)]) σ k400 = c400_3 run fu x0 x1 x6 x7 x10 x11 x12 σ := by kernel_rfl

theorem ok400_3 {run : RunT} (hrun : RunOK X0 run) (fu : Nat) : ∀ fr σ, KOK X0 200 (subC [true, true, true, true, true, true, true, true, true, true, true, true] b400) fr σ ((fun fr σ => c400_3 run fu (G fr 0) (G fr 1) (G fr 6) (G fr 7) (G fr 10) (G fr 11) (G fr 12) σ) fr σ) k400 := fun fr σ =>
  KOK.piece env0 hrun [0, 1, 6, 7, 10, 11, 12] (eq400_3 run fu (G fr 0) (G fr 1) (G fr 6) (G fr 7) (G fr 10) (G fr 11) (G fr 12) σ) ⟨trivial, ⟨trivial, ⟨trivial, ⟨⟨trivial, ⟨⟨(ok400_8 hrun fu), (ok400_7 hrun fu)⟩, KOK.dead⟩⟩, (ok400_4 hrun fu)⟩⟩⟩⟩

noncomputable def c400_2 (run : RunT) (fu : Nat) (x0 x1 x6 x7 x10 x11 : AV) (σ : Store) : Tr R :=
  lenSK x1 fun x93 =>
  cmpK .geq x6 x93 fun x94 =>
  grdK x94 false σ (fun f => f x1 σ) fun x96 σ1 =>
  grdK x94 false σ1 (fun f => f x6 σ1) fun x97 σ2 =>
  grdK x94 false σ2 (fun f => idxSK x96 x97 fun v => f v σ2) fun x98 σ3 =>
  grdK x94 false σ3 (fun f => cmpK .eql x98 (.int .u8 10) fun v => f v σ3) fun x99 σ4 =>
  pickK x94 (.bool true) x99 fun x100 =>
  ifK x100 (
  lenSK x1 fun x103 =>
  cmpK .lss x6 x103 fun x104 =>
  ifK x104 (
  addK x6 (.int .i64 1) fun x106 =>
  c400_3 run fu x0 x1 x6 x7 x10 (.bool true) x106 σ4) (
  c400_3 run fu x0 x1 x6 x7 x10 (.bool true) x6 σ4)) (
  .fail)

theorem eq400_2 (run : RunT) (fu : Nat) (x0 x1 x6 x7 x10 x11 : AV) (σ : Store) : codeK X0 run (.seq .leaf (.seq (.seq .leaf (.cond (.seq .leaf (.seq .leaf (.cond .leaf .leaf))) (.sub deadK))) (.sub (fun fr σ => c400_3 run fu (G fr 0) (G fr 1) (G fr 6) (G fr 7) (G fr 10) (G fr 11) (G fr 12) σ)))) (subC [true, true, true, true, true, true, true, true, true, true] b400) (frS 0 200 [(0, x0), (1, x1), (6, x6), (7, x7), (10, x10), (11, x11)]) σ k400 = c400_2 run fu x0 x1 x6 x7 x10 x11 σ := by kernel_rfl

theorem ok400_2 {run : RunT} (hrun : RunOK X0 run) (fu : Nat) : ∀ fr σ, KOK X0 200 (subC [true, true, true, true, true, true, true, true, true, true] b400) fr σ ((fun fr σ => c400_2 run fu (G fr 0) (G fr 1) (G fr 6) (G fr 7) (G fr 10) (G fr 11) σ) fr σ) k400 := fun fr σ =>
  KOK.piece env0 hrun [0, 1, 6, 7, 10, 11] (eq400_2 run fu (G fr 0) (G fr 1) (G fr 6) (G fr 7) (G fr 10) (G fr 11) σ) ⟨trivial, ⟨⟨trivial, ⟨⟨trivial, ⟨trivial, ⟨trivial, trivial⟩⟩⟩, KOK.dead⟩⟩, (ok400_3 hrun fu)⟩⟩

noncomputable def c400_9b (run : RunT) (fu : Nat) (s9 : W6) (x0 x1 x6 x7 x10 x11 : AV) (σ : Store) : Tr R :=
  lenSK x1 fun x74 =>
  cmpK .lss x6 x74 fun x75 =>
  grdK x75 true σ (fun f => f x1 σ) fun x77 σ1 =>
  grdK x75 true σ1 (fun f => f x6 σ1) fun x78 σ2 =>
  grdK x75 true σ2 (fun f => idxSK x77 x78 fun v => f v σ2) fun x79 σ3 =>
  grdK x75 true σ3 (fun f => cmpK .eql x79 (.int .u8 32) fun v => f v σ3) fun x80 σ4 =>
  grdK x75 true σ4 (fun f => f x80 σ4) fun x81 σ5 =>
  grdK x81 false σ5 (fun f => f x1 σ5) fun x82 σ6 =>
  grdK x81 false σ6 (fun f => f x6 σ6) fun x83 σ7 =>
  grdK x81 false σ7 (fun f => idxSK x82 x83 fun v => f v σ7) fun x84 σ8 =>
  grdK x81 false σ8 (fun f => cmpK .eql x84 (.int .u8 9) fun v => f v σ8) fun x85 σ9 =>
  grdK x75 true σ9 (fun f => pickK x81 (.bool true) x85 fun v => f v σ9) fun x86 σ10 =>
  pickK x75 x86 (.bool false) fun x87 =>
  ifK x87 (
  .fail) (
  c400_2 run fu x0 x1 x6 x7 x10 x11 σ10)

noncomputable def c400_9 (run : RunT) (fu : Nat) : Nat → W6
  | 0 => fun _ _ _ _ _ _ _ => .fail
  | m + 1 => c400_9b run fu (c400_9 run fu m)

theorem eq400_9 (run : RunT) (fu : Nat) (s9 : W6) (x0 x1 x6 x7 x10 x11 : AV) (σ : Store) : codeK X0 run (.seq (.seq .leaf (.cond (.sub deadK) .leaf)) .leaf) (subC [true, true, true, true, true, true, true, true, true, false, false, false] b400) (frS 0 200 [(0, x0), (1, x1), (6, x6), (7, x7), (10, x10), (11, x11)]) σ (thenK (fun fr σ => s9 (G fr 0) (G fr 1) (G fr 6) (G fr 7) (G fr 10) (G fr 11) σ) (blockK 0 (thenK (fun fr σ => c400_2 run fu (G fr 0) (G fr 1) (G fr 6) (G fr 7) (G fr 10) (G fr 11) σ) k400))) = c400_9b run fu s9 x0 x1 x6 x7 x10 x11 σ := by kernel_rfl

theorem owed400_9 {run : RunT} (hrun : RunOK X0 run) (fu : Nat) (s9 : W6) : Owes X0 run 200 (.seq (.seq .leaf (.cond (.sub deadK) .leaf)) .leaf) (subC [true, true, true, true, true, true, true, true, true, false, false, false] b400) (thenK (fun fr σ => s9 (G fr 0) (G fr 1) (G fr 6) (G fr 7) (G fr 10) (G fr 11) σ) (blockK 0 (thenK (fun fr σ => c400_2 run fu (G fr 0) (G fr 1) (G fr 6) (G fr 7) (G fr 10) (G fr 11) σ) k400))) :=
  ⟨⟨trivial, ⟨KOK.dead, trivial⟩⟩, trivial⟩

theorem ok400_9 {run : RunT} (hrun : RunOK X0 run) (fu : Nat) : ∀ fr σ, KOK X0 200 (subC [true, true, true, true, true, true, true, true, true, false, false] b400) fr σ ((fun fr σ => c400_9 run fu fu (G fr 0) (G fr 1) (G fr 6) (G fr 7) (G fr 10) (G fr 11) σ) fr σ) (blockK 0 (thenK (fun fr σ => c400_2 run fu (G fr 0) (G fr 1) (G fr 6) (G fr 7) (G fr 10) (G fr 11) σ) k400)) := by
  have h := KOK.loop (X := X0) (N := 200) (b := (subC [true, true, true, true, true, true, true, true, true, false, false, false] b400)) (k := (blockK 0 (thenK (fun fr σ => c400_2 run fu (G fr 0) (G fr 1) (G fr 6) (G fr 7) (G fr 10) (G fr 11) σ) k400))) (u := fun m fr σ => c400_9 run fu m (G fr 0) (G fr 1) (G fr 6) (G fr 7) (G fr 10) (G fr 11) σ) (fun _ _ => rfl) (fun m fr σ => KOK.piece env0 hrun [0, 1, 6, 7, 10, 11] (eq400_9 run fu (c400_9 run fu m) (G fr 0) (G fr 1) (G fr 6) (G fr 7) (G fr 10) (G fr 11) σ) (owed400_9 hrun fu (c400_9 run fu m)))
  exact fun fr σ => h fu fr σ

noncomputable def c400_1 (run : RunT) (fu : Nat) (x0 x1 x6 x7 x10 : AV) (σ : Store) : Tr R :=
  c400_9 run fu fu x0 x1 x6 x7 x10 (.bool false) σ

theorem eq400_1 (run : RunT) (fu : Nat) (x0 x1 x6 x7 x10 : AV) (σ : Store) : codeK X0 run (.seq .leaf (.seq (.block (.sub (fun fr σ => c400_9 run fu fu (G fr 0) (G fr 1) (G fr 6) (G fr 7) (G fr 10) (G fr 11) σ))) (.sub (fun fr σ => c400_2 run fu (G fr 0) (G fr 1) (G fr 6) (G fr 7) (G fr 10) (G fr 11) σ)))) (subC [true, true, true, true, true, true, true, true] b400) (frS 0 200 [(0, x0), (1, x1), (6, x6), (7, x7), (10, x10)]) σ k400 = c400_1 run fu x0 x1 x6 x7 x10 σ := by kernel_rfl

theorem ok400_1 {run : RunT} (hrun : RunOK X0 run) (fu : Nat) : ∀ fr σ, KOK X0 200 (subC [true, true, true, true, true, true, true, true] b400) fr σ ((fun fr σ => c400_1 run fu (G fr 0) (G fr 1) (G fr 6) (G fr 7) (G fr 10) σ) fr σ) k400 := fun fr σ =>
  KOK.piece env0 hrun [0, 1, 6, 7, 10] (eq400_1 run fu (G fr 0) (G fr 1) (G fr 6) (G fr 7) (G fr 10) σ) ⟨trivial, ⟨(ok400_9 hrun fu), (ok400_2 hrun fu)⟩⟩

noncomputable def c400 (run : RunT) (fu : Nat) (x0 x1 : AV) (σ : Store) : Tr R :=
  calK run 174 [x1, (.int .i64 0)] σ fun x21 σ1 =>
  tasK (some .nilp) 235 false x0 fun x24 =>
  calK run 177 [x24, x1, x21] σ1 fun x27 σ2 =>
  extK x27 0 fun x28 =>
  extK x27 1 fun x29 =>
  extK x27 2 fun x30 =>
  notK x30 fun x32 =>
  grdK x32 false σ2 (fun f => f x29 σ2) fun x34 σ3 =>
  grdK x32 false σ3 (fun f => f x1 σ3) fun x35 σ4 =>
  grdK x32 false σ4 (fun f => lenSK x35 fun v => f v σ4) fun x36 σ5 =>
  grdK x32 false σ5 (fun f => cmpK .geq x34 x36 fun v => f v σ5) fun x37 σ6 =>
  pickK x32 (.bool true) x37 fun x38 =>
  grdK x38 false σ6 (fun f => f x1 σ6) fun x40 σ7 =>
  grdK x38 false σ7 (fun f => f x29 σ7) fun x41 σ8 =>
  grdK x38 false σ8 (fun f => idxSK x40 x41 fun v => f v σ8) fun x42 σ9 =>
  grdK x38 false σ9 (fun f => cmpK .neq x42 (.int .u8 58) fun v => f v σ9) fun x43 σ10 =>
  pickK x38 (.bool true) x43 fun x44 =>
  ifK x44 (
  .ret (.tup [(.int .i64 0), (.bool false)], σ10)) (
  addK x29 (.int .i64 1) fun x47 =>
  calK run 174 [x1, x47] σ10 fun x48 σ11 =>
  sliceSK x1 (some x48) none fun x51 =>
  calK run 175 [x1, x48] σ11 fun x55 σ12 =>
  extK x55 0 fun x56 =>
  extK x55 1 fun x57 =>
  extK x55 2 fun x58 =>
  notK x58 fun x60 =>
  ifK x60 (
  .fail) (
  c400_1 run fu x0 x1 x57 x28 x56 σ12))

theorem eq400 (run : RunT) (fu : Nat) (x0 x1 : AV) (σ : Store) : codeK X0 run (.seq .leaf (.seq .leaf (.seq .leaf (.seq (.seq .leaf (.cond (.seq .leaf .leaf) .leaf)) (.seq .leaf (.seq .leaf (.seq .leaf (.seq (.seq .leaf (.cond (.sub deadK) .leaf)) (.sub (fun fr σ => c400_1 run fu (G fr 0) (G fr 1) (G fr 6) (G fr 7) (G fr 10) σ)))))))))) (subC [] b400) ([x0, x1] ++ padA (200 - 2)) σ k400 = c400 run fu x0 x1 σ := by kernel_rfl

theorem ok400 {run : RunT} (hrun : RunOK X0 run) (fu : Nat) (x0 x1 : AV) (σ : Store) : CallOK X0 400 [x0, x1] σ (c400 run fu x0 x1 σ) :=
  KOK.body (fn := Tryz.f400) (c := subC [] b400) (by kernel_rfl) (by kernel_rfl) (by show 2 ≤ 200; decide) (KOK.whole env0 hrun (eq400 run fu x0 x1 σ) ⟨trivial, ⟨trivial, ⟨trivial, ⟨⟨trivial, ⟨⟨trivial, trivial⟩, trivial⟩⟩, ⟨trivial, ⟨trivial, ⟨trivial, ⟨⟨trivial, ⟨KOK.dead, trivial⟩⟩, (ok400_1 hrun fu)⟩⟩⟩⟩⟩⟩⟩⟩)

-- (*pub-paratext/pub/rscmarkdown.parseState).defineLink

noncomputable def b428 : Code := match Tryz.f428.body with | some c => c | none => .skip

noncomputable def k428 : Kont R := retK Tryz.prog []

noncomputable def c428_1 (run : RunT) (fu : Nat) (x0 x1 x2 : AV) (σ : Store) : Tr R :=
  nchkK x0 fun x16 =>
  addrK x16 2 fun x17 =>
  ld1K σ x17 fun x18 =>
  genK (updM Tryz.prog σ 99 x18 x1 x2) fun _ σ1 =>
  .ret (.tup [], σ1)

theorem eq428_1 (run : RunT) (fu : Nat) (x0 x1 x2 : AV) (σ : Store) : codeK X0 run .leaf (subC [true] b428) (frS 0 21 [(0, x0), (1, x1), (2, x2)]) σ k428 = c428_1 run fu x0 x1 x2 σ := by kernel_rfl

theorem ok428_1 {run : RunT} (hrun : RunOK X0 run) (fu : Nat) : ∀ fr σ, KOK X0 21 (subC [true] b428) fr σ ((fun fr σ => c428_1 run fu (G fr 0) (G fr 1) (G fr 2) σ) fr σ) k428 := fun fr σ =>
  KOK.piece env0 hrun [0, 1, 2] (eq428_1 run fu (G fr 0) (G fr 1) (G fr 2) σ) trivial

noncomputable def c428 (run : RunT) (fu : Nat) (x0 x1 x2 : AV) (σ : Store) : Tr R :=
  nchkK x0 fun x7 =>
  addrK x7 2 fun x8 =>
  ld1K σ x8 fun x9 =>
  eqOK (nilEq nilM) x9 .nilm fun x10 =>
  ifK x10 (
  genK (newM σ) fun x12 σ1 =>
  nchkK x0 fun x13 =>
  addrK x13 2 fun x14 =>
  st1K σ1 x14 x12 fun _ σ2 =>
  c428_1 run fu x0 x1 x2 σ2) (
  .fail)

theorem eq428 (run : RunT) (fu : Nat) (x0 x1 x2 : AV) (σ : Store) : codeK X0 run (.seq (.seq .leaf (.cond .leaf (.sub deadK))) (.sub (fun fr σ => c428_1 run fu (G fr 0) (G fr 1) (G fr 2) σ))) (subC [] b428) ([x0, x1, x2] ++ padA (21 - 3)) σ k428 = c428 run fu x0 x1 x2 σ := by kernel_rfl

theorem ok428 {run : RunT} (hrun : RunOK X0 run) (fu : Nat) (x0 x1 x2 : AV) (σ : Store) : CallOK X0 428 [x0, x1, x2] σ (c428 run fu x0 x1 x2 σ) :=
  KOK.body (fn := Tryz.f428) (c := subC [] b428) (by kernel_rfl) (by kernel_rfl) (by show 3 ≤ 21; decide) (KOK.whole env0 hrun (eq428 run fu x0 x1 x2 σ) ⟨⟨trivial, ⟨trivial, KOK.dead⟩⟩, (ok428_1 hrun fu)⟩)

-- (*pub-paratext/pub/rscmarkdown.parseState).link

noncomputable def b429 : Code := match Tryz.f429.body with | some c => c | none => .skip

noncomputable def k429 : Kont R := retK Tryz.prog [.tmp 4]

noncomputable def c429 (run : RunT) (fu : Nat) (x0 x1 : AV) (σ : Store) : Tr R :=
  nchkK x0 fun x6 =>
  addrK x6 2 fun x7 =>
  ld1K σ x7 fun x8 =>
  genK (lookK Tryz.prog σ 99 x8 x1 false) fun x10 σ1 =>
  .ret (x10, σ1)

theorem eq429 (run : RunT) (fu : Nat) (x0 x1 : AV) (σ : Store) : codeK X0 run (.seq .leaf (.seq .leaf .leaf)) (subC [] b429) ([x0, x1] ++ padA (11 - 2)) σ k429 = c429 run fu x0 x1 σ := by kernel_rfl

theorem ok429 {run : RunT} (hrun : RunOK X0 run) (fu : Nat) (x0 x1 : AV) (σ : Store) : CallOK X0 429 [x0, x1] σ (c429 run fu x0 x1 σ) :=
  KOK.body (fn := Tryz.f429) (c := subC [] b429) (by kernel_rfl) (by kernel_rfl) (by show 2 ≤ 11; decide) (KOK.whole env0 hrun (eq429 run fu x0 x1 σ) ⟨trivial, ⟨trivial, trivial⟩⟩)

end Go.Proofs.YtpefmbpjanafkaaGreatDoor
