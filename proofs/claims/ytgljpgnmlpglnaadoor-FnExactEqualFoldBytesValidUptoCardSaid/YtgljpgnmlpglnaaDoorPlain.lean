import Derived.Lib.CaseU
namespace Go.Ftx
open Go.Lib
set_option maxRecDepth 100000
def orbitT : List (Nat × Nat) := [(75, 107), (83, 115), (107, 8490), (115, 383), (181, 924), (197, 229), (223, 7838), (229, 8491), (304, 304), (305, 305), (383, 83), (452, 453),
  (453, 454), (454, 452), (455, 456), (456, 457), (457, 455), (458, 459), (459, 460), (460, 458), (497, 498), (498, 499), (499, 497), (837, 921), (912, 8147), (914, 946), (917,
  949), (920, 952), (921, 953), (922, 954), (924, 956), (928, 960), (929, 961), (931, 962), (934, 966), (937, 969), (944, 8163), (946, 976), (949, 1013), (952, 977), (953, 8126),
  (954, 1008), (956, 181), (960, 982), (961, 1009), (962, 963), (963, 931), (966, 981), (969, 8486), (976, 914), (977, 1012), (981, 934), (982, 928), (1008, 922), (1009, 929),
  (1012, 920), (1013, 917), (1042, 1074), (1044, 1076), (1054, 1086), (1057, 1089), (1058, 1090), (1066, 1098), (1074, 7296), (1076, 7297), (1086, 7298), (1089, 7299), (1090,
  7300), (1098, 7302), (1122, 1123), (1123, 7303), (7296, 1042), (7297, 1044), (7298, 1054), (7299, 1057), (7300, 7301), (7301, 1058), (7302, 1066), (7303, 1122), (7304, 42570),
  (7776, 7777), (7777, 7835), (7835, 7776), (7838, 223), (8126, 837), (8147, 912), (8163, 944), (8486, 937), (8490, 75), (8491, 197), (42570, 42571), (42571, 7304), (64261, 64262),
  (64262, 64261)]
def asciiT : List Nat := [0, 1, 2, 3, 4, 5, 6, 7, 8, 9, 10, 11, 12, 13, 14, 15, 16, 17, 18, 19, 20, 21, 22, 23, 24, 25, 26, 27, 28, 29, 30, 31, 32, 33, 34, 35, 36, 37, 38, 39, 40,
  41, 42, 43, 44, 45, 46, 47, 48, 49, 50, 51, 52, 53, 54, 55, 56, 57, 58, 59, 60, 61, 62, 63, 64, 97, 98, 99, 100, 101, 102, 103, 104, 105, 106, 107, 108, 109, 110, 111, 112, 113,
  114, 115, 116, 117, 118, 119, 120, 121, 122, 91, 92, 93, 94, 95, 96, 65, 66, 67, 68, 69, 70, 71, 72, 73, 74, 8490, 76, 77, 78, 79, 80, 81, 82, 383, 84, 85, 86, 87, 88, 89, 90,
  123, 124, 125, 126, 127]
def orbAt (i : Nat) : Nat × Nat := (cond (Nat.ble 47 i) (cond (Nat.ble 70 i) (cond (Nat.ble 82 i) (cond (Nat.ble 88 i) (cond (Nat.ble 91 i) (cond (Nat.ble 92 i) (cond (Nat.ble 93
  i) (64262, 64261) (64261, 64262)) (42571, 7304)) (cond (Nat.ble 89 i) (cond (Nat.ble 90 i) (42570, 42571) (8491, 197)) (8490, 75))) (cond (Nat.ble 85 i) (cond (Nat.ble 86 i)
  (cond (Nat.ble 87 i) (8486, 937) (8163, 944)) (8147, 912)) (cond (Nat.ble 83 i) (cond (Nat.ble 84 i) (8126, 837) (7838, 223)) (7835, 7776)))) (cond (Nat.ble 76 i) (cond (Nat.ble
  79 i) (cond (Nat.ble 80 i) (cond (Nat.ble 81 i) (7777, 7835) (7776, 7777)) (7304, 42570)) (cond (Nat.ble 77 i) (cond (Nat.ble 78 i) (7303, 1122) (7302, 1066)) (7301, 1058)))
  (cond (Nat.ble 73 i) (cond (Nat.ble 74 i) (cond (Nat.ble 75 i) (7300, 7301) (7299, 1057)) (7298, 1054)) (cond (Nat.ble 71 i) (cond (Nat.ble 72 i) (7297, 1044) (7296, 1042))
  (1123, 7303))))) (cond (Nat.ble 58 i) (cond (Nat.ble 64 i) (cond (Nat.ble 67 i) (cond (Nat.ble 68 i) (cond (Nat.ble 69 i) (1122, 1123) (1098, 7302)) (1090, 7300)) (cond (Nat.ble
  65 i) (cond (Nat.ble 66 i) (1089, 7299) (1086, 7298)) (1076, 7297))) (cond (Nat.ble 61 i) (cond (Nat.ble 62 i) (cond (Nat.ble 63 i) (1074, 7296) (1066, 1098)) (1058, 1090)) (cond
  (Nat.ble 59 i) (cond (Nat.ble 60 i) (1057, 1089) (1054, 1086)) (1044, 1076)))) (cond (Nat.ble 52 i) (cond (Nat.ble 55 i) (cond (Nat.ble 56 i) (cond (Nat.ble 57 i) (1042, 1074)
  (1013, 917)) (1012, 920)) (cond (Nat.ble 53 i) (cond (Nat.ble 54 i) (1009, 929) (1008, 922)) (982, 928))) (cond (Nat.ble 49 i) (cond (Nat.ble 50 i) (cond (Nat.ble 51 i) (981,
  934) (977, 1012)) (976, 914)) (cond (Nat.ble 48 i) (969, 8486) (966, 981)))))) (cond (Nat.ble 23 i) (cond (Nat.ble 35 i) (cond (Nat.ble 41 i) (cond (Nat.ble 44 i) (cond (Nat.ble
  45 i) (cond (Nat.ble 46 i) (963, 931) (962, 963)) (961, 1009)) (cond (Nat.ble 42 i) (cond (Nat.ble 43 i) (960, 982) (956, 181)) (954, 1008))) (cond (Nat.ble 38 i) (cond (Nat.ble
  39 i) (cond (Nat.ble 40 i) (953, 8126) (952, 977)) (949, 1013)) (cond (Nat.ble 36 i) (cond (Nat.ble 37 i) (946, 976) (944, 8163)) (937, 969)))) (cond (Nat.ble 29 i) (cond
  (Nat.ble 32 i) (cond (Nat.ble 33 i) (cond (Nat.ble 34 i) (934, 966) (931, 962)) (929, 961)) (cond (Nat.ble 30 i) (cond (Nat.ble 31 i) (928, 960) (924, 956)) (922, 954))) (cond
  (Nat.ble 26 i) (cond (Nat.ble 27 i) (cond (Nat.ble 28 i) (921, 953) (920, 952)) (917, 949)) (cond (Nat.ble 24 i) (cond (Nat.ble 25 i) (914, 946) (912, 8147)) (837, 921))))) (cond
  (Nat.ble 11 i) (cond (Nat.ble 17 i) (cond (Nat.ble 20 i) (cond (Nat.ble 21 i) (cond (Nat.ble 22 i) (499, 497) (498, 499)) (497, 498)) (cond (Nat.ble 18 i) (cond (Nat.ble 19 i)
  (460, 458) (459, 460)) (458, 459))) (cond (Nat.ble 14 i) (cond (Nat.ble 15 i) (cond (Nat.ble 16 i) (457, 455) (456, 457)) (455, 456)) (cond (Nat.ble 12 i) (cond (Nat.ble 13 i)
  (454, 452) (453, 454)) (452, 453)))) (cond (Nat.ble 5 i) (cond (Nat.ble 8 i) (cond (Nat.ble 9 i) (cond (Nat.ble 10 i) (383, 83) (305, 305)) (304, 304)) (cond (Nat.ble 6 i) (cond
  (Nat.ble 7 i) (229, 8491) (223, 7838)) (197, 229))) (cond (Nat.ble 2 i) (cond (Nat.ble 3 i) (cond (Nat.ble 4 i) (181, 924) (115, 383)) (107, 8490)) (cond (Nat.ble 1 i) (83, 115)
  (75, 107)))))))
def caseAt (i : Nat) : CaseRow := (cond (Nat.ble 168 i) (cond (Nat.ble 252 i) (cond (Nat.ble 294 i) (cond (Nat.ble 315 i) (cond (Nat.ble 325 i) (cond (Nat.ble 330 i) (cond (Nat.ble
  333 i) (cond (Nat.ble 334 i) (cond (Nat.ble 335 i) (125218, 125251, -34, 0, -34) (125184, 125217, 0, 34, 0)) (93883, 93907, -27, 0, -27)) (cond (Nat.ble 331 i) (cond (Nat.ble 332
  i) (93856, 93880, 0, 27, 0) (93792, 93823, -32, 0, -32)) (93760, 93791, 0, 32, 0))) (cond (Nat.ble 327 i) (cond (Nat.ble 328 i) (cond (Nat.ble 329 i) (71872, 71903, -32, 0, -32)
  (71840, 71871, 0, 32, 0)) (68976, 68997, -32, 0, -32)) (cond (Nat.ble 326 i) (68944, 68965, 0, 32, 0) (68800, 68850, -64, 0, -64)))) (cond (Nat.ble 320 i) (cond (Nat.ble 322 i)
  (cond (Nat.ble 323 i) (cond (Nat.ble 324 i) (68736, 68786, 0, 64, 0) (67003, 67004, -39, 0, -39)) (66995, 67001, -39, 0, -39)) (cond (Nat.ble 321 i) (66979, 66993, -39, 0, -39)
  (66967, 66977, -39, 0, -39))) (cond (Nat.ble 317 i) (cond (Nat.ble 318 i) (cond (Nat.ble 319 i) (66964, 66965, 0, 39, 0) (66956, 66962, 0, 39, 0)) (66940, 66954, 0, 39, 0)) (cond
  (Nat.ble 316 i) (66928, 66938, 0, 39, 0) (66776, 66811, -40, 0, -40))))) (cond (Nat.ble 304 i) (cond (Nat.ble 309 i) (cond (Nat.ble 312 i) (cond (Nat.ble 313 i) (cond (Nat.ble
  314 i) (66736, 66771, 0, 40, 0) (66600, 66639, -40, 0, -40)) (66560, 66599, 0, 40, 0)) (cond (Nat.ble 310 i) (cond (Nat.ble 311 i) (65345, 65370, -32, 0, -32) (65313, 65338, 0,
  32, 0)) (43888, 43967, -38864, 0, -38864))) (cond (Nat.ble 306 i) (cond (Nat.ble 307 i) (cond (Nat.ble 308 i) (43859, 43859, -928, 0, -928) (42997, 42998, 1114112, 1114112,
  1114112)) (42972, 42972, 0, -42561, 0)) (cond (Nat.ble 305 i) (42956, 42971, 1114112, 1114112, 1114112) (42955, 42955, 0, -42343, 0)))) (cond (Nat.ble 299 i) (cond (Nat.ble 301
  i) (cond (Nat.ble 302 i) (cond (Nat.ble 303 i) (42951, 42954, 1114112, 1114112, 1114112) (42950, 42950, 0, -35384, 0)) (42949, 42949, 0, -42307, 0)) (cond (Nat.ble 300 i) (42948,
  42948, 0, -48, 0) (42932, 42947, 1114112, 1114112, 1114112))) (cond (Nat.ble 296 i) (cond (Nat.ble 297 i) (cond (Nat.ble 298 i) (42931, 42931, 0, 928, 0) (42930, 42930, 0,
  -42261, 0)) (42929, 42929, 0, -42282, 0)) (cond (Nat.ble 295 i) (42928, 42928, 0, -42258, 0) (42926, 42926, 0, -42308, 0)))))) (cond (Nat.ble 273 i) (cond (Nat.ble 283 i) (cond
  (Nat.ble 288 i) (cond (Nat.ble 291 i) (cond (Nat.ble 292 i) (cond (Nat.ble 293 i) (42925, 42925, 0, -42305, 0) (42924, 42924, 0, -42315, 0)) (42923, 42923, 0, -42319, 0)) (cond
  (Nat.ble 289 i) (cond (Nat.ble 290 i) (42922, 42922, 0, -42308, 0) (42902, 42921, 1114112, 1114112, 1114112)) (42900, 42900, 48, 0, 48))) (cond (Nat.ble 285 i) (cond (Nat.ble 286
  i) (cond (Nat.ble 287 i) (42896, 42899, 1114112, 1114112, 1114112) (42893, 42893, 0, -42280, 0)) (42891, 42892, 1114112, 1114112, 1114112)) (cond (Nat.ble 284 i) (42878, 42887,
  1114112, 1114112, 1114112) (42877, 42877, 0, -35332, 0)))) (cond (Nat.ble 278 i) (cond (Nat.ble 280 i) (cond (Nat.ble 281 i) (cond (Nat.ble 282 i) (42873, 42876, 1114112,
  1114112, 1114112) (42802, 42863, 1114112, 1114112, 1114112)) (42786, 42799, 1114112, 1114112, 1114112)) (cond (Nat.ble 279 i) (42624, 42651, 1114112, 1114112, 1114112) (42560,
  42605, 1114112, 1114112, 1114112))) (cond (Nat.ble 275 i) (cond (Nat.ble 276 i) (cond (Nat.ble 277 i) (11565, 11565, -7264, 0, -7264) (11559, 11559, -7264, 0, -7264)) (11520,
  11557, -7264, 0, -7264)) (cond (Nat.ble 274 i) (11506, 11507, 1114112, 1114112, 1114112) (11499, 11502, 1114112, 1114112, 1114112))))) (cond (Nat.ble 262 i) (cond (Nat.ble 267 i)
  (cond (Nat.ble 270 i) (cond (Nat.ble 271 i) (cond (Nat.ble 272 i) (11392, 11491, 1114112, 1114112, 1114112) (11390, 11391, 0, -10815, 0)) (11381, 11382, 1114112, 1114112,
  1114112)) (cond (Nat.ble 268 i) (cond (Nat.ble 269 i) (11378, 11379, 1114112, 1114112, 1114112) (11376, 11376, 0, -10782, 0)) (11375, 11375, 0, -10783, 0))) (cond (Nat.ble 264 i)
  (cond (Nat.ble 265 i) (cond (Nat.ble 266 i) (11374, 11374, 0, -10749, 0) (11373, 11373, 0, -10780, 0)) (11367, 11372, 1114112, 1114112, 1114112)) (cond (Nat.ble 263 i) (11366,
  11366, -10792, 0, -10792) (11365, 11365, -10795, 0, -10795)))) (cond (Nat.ble 257 i) (cond (Nat.ble 259 i) (cond (Nat.ble 260 i) (cond (Nat.ble 261 i) (11364, 11364, 0, -10727,
  0) (11363, 11363, 0, -3814, 0)) (11362, 11362, 0, -10743, 0)) (cond (Nat.ble 258 i) (11360, 11361, 1114112, 1114112, 1114112) (11312, 11359, -48, 0, -48))) (cond (Nat.ble 254 i)
  (cond (Nat.ble 255 i) (cond (Nat.ble 256 i) (11264, 11311, 0, 48, 0) (9424, 9449, -26, 0, -26)) (9398, 9423, 0, 26, 0)) (cond (Nat.ble 253 i) (8579, 8580, 1114112, 1114112,
  1114112) (8560, 8575, -16, 0, -16))))))) (cond (Nat.ble 210 i) (cond (Nat.ble 231 i) (cond (Nat.ble 241 i) (cond (Nat.ble 246 i) (cond (Nat.ble 249 i) (cond (Nat.ble 250 i) (cond
  (Nat.ble 251 i) (8544, 8559, 0, 16, 0) (8526, 8526, -28, 0, -28)) (8498, 8498, 0, 28, 0)) (cond (Nat.ble 247 i) (cond (Nat.ble 248 i) (8491, 8491, 0, -8262, 0) (8490, 8490, 0,
  -8383, 0)) (8486, 8486, 0, -7517, 0))) (cond (Nat.ble 243 i) (cond (Nat.ble 244 i) (cond (Nat.ble 245 i) (8188, 8188, 0, -9, 0) (8186, 8187, 0, -126, 0)) (8184, 8185, 0, -128,
  0)) (cond (Nat.ble 242 i) (8179, 8179, 9, 0, 9) (8172, 8172, 0, -7, 0)))) (cond (Nat.ble 236 i) (cond (Nat.ble 238 i) (cond (Nat.ble 239 i) (cond (Nat.ble 240 i) (8170, 8171, 0,
  -112, 0) (8168, 8169, 0, -8, 0)) (8165, 8165, 7, 0, 7)) (cond (Nat.ble 237 i) (8160, 8161, 8, 0, 8) (8154, 8155, 0, -100, 0))) (cond (Nat.ble 233 i) (cond (Nat.ble 234 i) (cond
  (Nat.ble 235 i) (8152, 8153, 0, -8, 0) (8144, 8145, 8, 0, 8)) (8140, 8140, 0, -9, 0)) (cond (Nat.ble 232 i) (8136, 8139, 0, -86, 0) (8131, 8131, 9, 0, 9))))) (cond (Nat.ble 220
  i) (cond (Nat.ble 225 i) (cond (Nat.ble 228 i) (cond (Nat.ble 229 i) (cond (Nat.ble 230 i) (8126, 8126, -7205, 0, -7205) (8124, 8124, 0, -9, 0)) (8122, 8123, 0, -74, 0)) (cond
  (Nat.ble 226 i) (cond (Nat.ble 227 i) (8120, 8121, 0, -8, 0) (8115, 8115, 9, 0, 9)) (8112, 8113, 8, 0, 8))) (cond (Nat.ble 222 i) (cond (Nat.ble 223 i) (cond (Nat.ble 224 i)
  (8104, 8111, 0, -8, 0) (8096, 8103, 8, 0, 8)) (8088, 8095, 0, -8, 0)) (cond (Nat.ble 221 i) (8080, 8087, 8, 0, 8) (8072, 8079, 0, -8, 0)))) (cond (Nat.ble 215 i) (cond (Nat.ble
  217 i) (cond (Nat.ble 218 i) (cond (Nat.ble 219 i) (8064, 8071, 8, 0, 8) (8060, 8061, 126, 0, 126)) (8058, 8059, 112, 0, 112)) (cond (Nat.ble 216 i) (8056, 8057, 128, 0, 128)
  (8054, 8055, 100, 0, 100))) (cond (Nat.ble 212 i) (cond (Nat.ble 213 i) (cond (Nat.ble 214 i) (8050, 8053, 86, 0, 86) (8048, 8049, 74, 0, 74)) (8040, 8047, 0, -8, 0)) (cond
  (Nat.ble 211 i) (8032, 8039, 8, 0, 8) (8031, 8031, 0, -8, 0)))))) (cond (Nat.ble 189 i) (cond (Nat.ble 199 i) (cond (Nat.ble 204 i) (cond (Nat.ble 207 i) (cond (Nat.ble 208 i)
  (cond (Nat.ble 209 i) (8029, 8029, 0, -8, 0) (8027, 8027, 0, -8, 0)) (8025, 8025, 0, -8, 0)) (cond (Nat.ble 205 i) (cond (Nat.ble 206 i) (8023, 8023, 8, 0, 8) (8021, 8021, 8, 0,
  8)) (8019, 8019, 8, 0, 8))) (cond (Nat.ble 201 i) (cond (Nat.ble 202 i) (cond (Nat.ble 203 i) (8017, 8017, 8, 0, 8) (8008, 8013, 0, -8, 0)) (8000, 8005, 8, 0, 8)) (cond (Nat.ble
  200 i) (7992, 7999, 0, -8, 0) (7984, 7991, 8, 0, 8)))) (cond (Nat.ble 194 i) (cond (Nat.ble 196 i) (cond (Nat.ble 197 i) (cond (Nat.ble 198 i) (7976, 7983, 0, -8, 0) (7968, 7975,
  8, 0, 8)) (7960, 7965, 0, -8, 0)) (cond (Nat.ble 195 i) (7952, 7957, 8, 0, 8) (7944, 7951, 0, -8, 0))) (cond (Nat.ble 191 i) (cond (Nat.ble 192 i) (cond (Nat.ble 193 i) (7936,
  7943, 8, 0, 8) (7840, 7935, 1114112, 1114112, 1114112)) (7838, 7838, 0, -7615, 0)) (cond (Nat.ble 190 i) (7835, 7835, -59, 0, -59) (7680, 7829, 1114112, 1114112, 1114112)))))
  (cond (Nat.ble 178 i) (cond (Nat.ble 183 i) (cond (Nat.ble 186 i) (cond (Nat.ble 187 i) (cond (Nat.ble 188 i) (7566, 7566, 35384, 0, 35384) (7549, 7549, 3814, 0, 3814)) (7545,
  7545, 35332, 0, 35332)) (cond (Nat.ble 184 i) (cond (Nat.ble 185 i) (7357, 7359, 0, -3008, 0) (7312, 7354, 0, -3008, 0)) (7305, 7306, 1114112, 1114112, 1114112))) (cond (Nat.ble
  180 i) (cond (Nat.ble 181 i) (cond (Nat.ble 182 i) (7304, 7304, 35266, 0, 35266) (7303, 7303, -6181, 0, -6181)) (7302, 7302, -6236, 0, -6236)) (cond (Nat.ble 179 i) (7301, 7301,
  -6243, 0, -6243) (7299, 7300, -6242, 0, -6242)))) (cond (Nat.ble 173 i) (cond (Nat.ble 175 i) (cond (Nat.ble 176 i) (cond (Nat.ble 177 i) (7298, 7298, -6244, 0, -6244) (7297,
  7297, -6253, 0, -6253)) (7296, 7296, -6254, 0, -6254)) (cond (Nat.ble 174 i) (5112, 5117, -8, 0, -8) (5104, 5109, 0, 8, 0))) (cond (Nat.ble 170 i) (cond (Nat.ble 171 i) (cond
  (Nat.ble 172 i) (5024, 5103, 0, 38864, 0) (4349, 4351, 3008, 0, 0)) (4304, 4346, 3008, 0, 0)) (cond (Nat.ble 169 i) (4301, 4301, 0, 7264, 0) (4295, 4295, 0, 7264, 0)))))))) (cond
  (Nat.ble 84 i) (cond (Nat.ble 126 i) (cond (Nat.ble 147 i) (cond (Nat.ble 157 i) (cond (Nat.ble 162 i) (cond (Nat.ble 165 i) (cond (Nat.ble 166 i) (cond (Nat.ble 167 i) (4256,
  4293, 0, 7264, 0) (1377, 1414, -48, 0, -48)) (1329, 1366, 0, 48, 0)) (cond (Nat.ble 163 i) (cond (Nat.ble 164 i) (1232, 1327, 1114112, 1114112, 1114112) (1231, 1231, -15, 0,
  -15)) (1217, 1230, 1114112, 1114112, 1114112))) (cond (Nat.ble 159 i) (cond (Nat.ble 160 i) (cond (Nat.ble 161 i) (1216, 1216, 0, 15, 0) (1162, 1215, 1114112, 1114112, 1114112))
  (1120, 1153, 1114112, 1114112, 1114112)) (cond (Nat.ble 158 i) (1104, 1119, -80, 0, -80) (1072, 1103, -32, 0, -32)))) (cond (Nat.ble 152 i) (cond (Nat.ble 154 i) (cond (Nat.ble
  155 i) (cond (Nat.ble 156 i) (1040, 1071, 0, 32, 0) (1024, 1039, 0, 80, 0)) (1021, 1023, 0, -130, 0)) (cond (Nat.ble 153 i) (1018, 1019, 1114112, 1114112, 1114112) (1017, 1017,
  0, -7, 0))) (cond (Nat.ble 149 i) (cond (Nat.ble 150 i) (cond (Nat.ble 151 i) (1015, 1016, 1114112, 1114112, 1114112) (1013, 1013, -96, 0, -96)) (1012, 1012, 0, -60, 0)) (cond
  (Nat.ble 148 i) (1011, 1011, -116, 0, -116) (1010, 1010, 7, 0, 7))))) (cond (Nat.ble 136 i) (cond (Nat.ble 141 i) (cond (Nat.ble 144 i) (cond (Nat.ble 145 i) (cond (Nat.ble 146
  i) (1009, 1009, -80, 0, -80) (1008, 1008, -86, 0, -86)) (984, 1007, 1114112, 1114112, 1114112)) (cond (Nat.ble 142 i) (cond (Nat.ble 143 i) (983, 983, -8, 0, -8) (982, 982, -54,
  0, -54)) (981, 981, -47, 0, -47))) (cond (Nat.ble 138 i) (cond (Nat.ble 139 i) (cond (Nat.ble 140 i) (977, 977, -57, 0, -57) (976, 976, -62, 0, -62)) (975, 975, 0, 8, 0)) (cond
  (Nat.ble 137 i) (973, 974, -63, 0, -63) (972, 972, -64, 0, -64)))) (cond (Nat.ble 131 i) (cond (Nat.ble 133 i) (cond (Nat.ble 134 i) (cond (Nat.ble 135 i) (963, 971, -32, 0, -32)
  (962, 962, -31, 0, -31)) (945, 961, -32, 0, -32)) (cond (Nat.ble 132 i) (941, 943, -37, 0, -37) (940, 940, -38, 0, -38))) (cond (Nat.ble 128 i) (cond (Nat.ble 129 i) (cond
  (Nat.ble 130 i) (931, 939, 0, 32, 0) (913, 929, 0, 32, 0)) (910, 911, 0, 63, 0)) (cond (Nat.ble 127 i) (908, 908, 0, 64, 0) (904, 906, 0, 37, 0)))))) (cond (Nat.ble 105 i) (cond
  (Nat.ble 115 i) (cond (Nat.ble 120 i) (cond (Nat.ble 123 i) (cond (Nat.ble 124 i) (cond (Nat.ble 125 i) (902, 902, 0, 38, 0) (895, 895, 0, 116, 0)) (891, 893, 130, 0, 130)) (cond
  (Nat.ble 121 i) (cond (Nat.ble 122 i) (886, 887, 1114112, 1114112, 1114112) (880, 883, 1114112, 1114112, 1114112)) (837, 837, 84, 0, 84))) (cond (Nat.ble 117 i) (cond (Nat.ble
  118 i) (cond (Nat.ble 119 i) (670, 670, 42258, 0, 42258) (669, 669, 42261, 0, 42261)) (658, 658, -219, 0, -219)) (cond (Nat.ble 116 i) (652, 652, -71, 0, -71) (650, 651, -217, 0,
  -217)))) (cond (Nat.ble 110 i) (cond (Nat.ble 112 i) (cond (Nat.ble 113 i) (cond (Nat.ble 114 i) (649, 649, -69, 0, -69) (648, 648, -218, 0, -218)) (647, 647, 42282, 0, 42282))
  (cond (Nat.ble 111 i) (643, 643, -218, 0, -218) (642, 642, 42307, 0, 42307))) (cond (Nat.ble 107 i) (cond (Nat.ble 108 i) (cond (Nat.ble 109 i) (640, 640, -218, 0, -218) (637,
  637, 10727, 0, 10727)) (629, 629, -214, 0, -214)) (cond (Nat.ble 106 i) (626, 626, -213, 0, -213) (625, 625, 10749, 0, 10749))))) (cond (Nat.ble 94 i) (cond (Nat.ble 99 i) (cond
  (Nat.ble 102 i) (cond (Nat.ble 103 i) (cond (Nat.ble 104 i) (623, 623, -211, 0, -211) (620, 620, 42305, 0, 42305)) (619, 619, 10743, 0, 10743)) (cond (Nat.ble 100 i) (cond
  (Nat.ble 101 i) (618, 618, 42308, 0, 42308) (617, 617, -211, 0, -211)) (616, 616, -209, 0, -209))) (cond (Nat.ble 96 i) (cond (Nat.ble 97 i) (cond (Nat.ble 98 i) (614, 614,
  42308, 0, 42308) (613, 613, 42280, 0, 42280)) (612, 612, 42343, 0, 42343)) (cond (Nat.ble 95 i) (611, 611, -207, 0, -207) (609, 609, 42315, 0, 42315)))) (cond (Nat.ble 89 i)
  (cond (Nat.ble 91 i) (cond (Nat.ble 92 i) (cond (Nat.ble 93 i) (608, 608, -205, 0, -205) (604, 604, 42319, 0, 42319)) (603, 603, -203, 0, -203)) (cond (Nat.ble 90 i) (601, 601,
  -202, 0, -202) (598, 599, -205, 0, -205))) (cond (Nat.ble 86 i) (cond (Nat.ble 87 i) (cond (Nat.ble 88 i) (596, 596, -206, 0, -206) (595, 595, -210, 0, -210)) (594, 594, 10782,
  0, 10782)) (cond (Nat.ble 85 i) (593, 593, 10780, 0, 10780) (592, 592, 10783, 0, 10783))))))) (cond (Nat.ble 42 i) (cond (Nat.ble 63 i) (cond (Nat.ble 73 i) (cond (Nat.ble 78 i)
  (cond (Nat.ble 81 i) (cond (Nat.ble 82 i) (cond (Nat.ble 83 i) (582, 591, 1114112, 1114112, 1114112) (581, 581, 0, 71, 0)) (580, 580, 0, 69, 0)) (cond (Nat.ble 79 i) (cond
  (Nat.ble 80 i) (579, 579, 0, -195, 0) (577, 578, 1114112, 1114112, 1114112)) (575, 576, 10815, 0, 10815))) (cond (Nat.ble 75 i) (cond (Nat.ble 76 i) (cond (Nat.ble 77 i) (574,
  574, 0, 10792, 0) (573, 573, 0, -163, 0)) (571, 572, 1114112, 1114112, 1114112)) (cond (Nat.ble 74 i) (570, 570, 0, 10795, 0) (546, 563, 1114112, 1114112, 1114112)))) (cond
  (Nat.ble 68 i) (cond (Nat.ble 70 i) (cond (Nat.ble 71 i) (cond (Nat.ble 72 i) (544, 544, 0, -130, 0) (504, 543, 1114112, 1114112, 1114112)) (503, 503, 0, -56, 0)) (cond (Nat.ble
  69 i) (502, 502, 0, -97, 0) (500, 501, 1114112, 1114112, 1114112))) (cond (Nat.ble 65 i) (cond (Nat.ble 66 i) (cond (Nat.ble 67 i) (499, 499, -2, 0, -1) (498, 498, -1, 1, 0))
  (497, 497, 0, 2, 1)) (cond (Nat.ble 64 i) (478, 495, 1114112, 1114112, 1114112) (477, 477, -79, 0, -79))))) (cond (Nat.ble 52 i) (cond (Nat.ble 57 i) (cond (Nat.ble 60 i) (cond
  (Nat.ble 61 i) (cond (Nat.ble 62 i) (461, 476, 1114112, 1114112, 1114112) (460, 460, -2, 0, -1)) (459, 459, -1, 1, 0)) (cond (Nat.ble 58 i) (cond (Nat.ble 59 i) (458, 458, 0, 2,
  1) (457, 457, -2, 0, -1)) (456, 456, -1, 1, 0))) (cond (Nat.ble 54 i) (cond (Nat.ble 55 i) (cond (Nat.ble 56 i) (455, 455, 0, 2, 1) (454, 454, -2, 0, -1)) (453, 453, -1, 1, 0))
  (cond (Nat.ble 53 i) (452, 452, 0, 2, 1) (447, 447, 56, 0, 56)))) (cond (Nat.ble 47 i) (cond (Nat.ble 49 i) (cond (Nat.ble 50 i) (cond (Nat.ble 51 i) (444, 445, 1114112, 1114112,
  1114112) (440, 441, 1114112, 1114112, 1114112)) (439, 439, 0, 219, 0)) (cond (Nat.ble 48 i) (435, 438, 1114112, 1114112, 1114112) (433, 434, 0, 217, 0))) (cond (Nat.ble 44 i)
  (cond (Nat.ble 45 i) (cond (Nat.ble 46 i) (431, 432, 1114112, 1114112, 1114112) (430, 430, 0, 218, 0)) (428, 429, 1114112, 1114112, 1114112)) (cond (Nat.ble 43 i) (425, 425, 0,
  218, 0) (423, 424, 1114112, 1114112, 1114112)))))) (cond (Nat.ble 21 i) (cond (Nat.ble 31 i) (cond (Nat.ble 36 i) (cond (Nat.ble 39 i) (cond (Nat.ble 40 i) (cond (Nat.ble 41 i)
  (422, 422, 0, 218, 0) (416, 421, 1114112, 1114112, 1114112)) (415, 415, 0, 214, 0)) (cond (Nat.ble 37 i) (cond (Nat.ble 38 i) (414, 414, 130, 0, 130) (413, 413, 0, 213, 0)) (412,
  412, 0, 211, 0))) (cond (Nat.ble 33 i) (cond (Nat.ble 34 i) (cond (Nat.ble 35 i) (411, 411, 42561, 0, 42561) (410, 410, 163, 0, 163)) (408, 409, 1114112, 1114112, 1114112)) (cond
  (Nat.ble 32 i) (407, 407, 0, 209, 0) (406, 406, 0, 211, 0)))) (cond (Nat.ble 26 i) (cond (Nat.ble 28 i) (cond (Nat.ble 29 i) (cond (Nat.ble 30 i) (405, 405, 97, 0, 97) (404, 404,
  0, 207, 0)) (403, 403, 0, 205, 0)) (cond (Nat.ble 27 i) (401, 402, 1114112, 1114112, 1114112) (400, 400, 0, 203, 0))) (cond (Nat.ble 23 i) (cond (Nat.ble 24 i) (cond (Nat.ble 25
  i) (399, 399, 0, 202, 0) (398, 398, 0, 79, 0)) (395, 396, 1114112, 1114112, 1114112)) (cond (Nat.ble 22 i) (393, 394, 0, 205, 0) (391, 392, 1114112, 1114112, 1114112))))) (cond
  (Nat.ble 10 i) (cond (Nat.ble 15 i) (cond (Nat.ble 18 i) (cond (Nat.ble 19 i) (cond (Nat.ble 20 i) (390, 390, 0, 206, 0) (386, 389, 1114112, 1114112, 1114112)) (385, 385, 0, 210,
  0)) (cond (Nat.ble 16 i) (cond (Nat.ble 17 i) (384, 384, 195, 0, 195) (383, 383, -300, 0, -300)) (377, 382, 1114112, 1114112, 1114112))) (cond (Nat.ble 12 i) (cond (Nat.ble 13 i)
  (cond (Nat.ble 14 i) (376, 376, 0, -121, 0) (330, 375, 1114112, 1114112, 1114112)) (313, 328, 1114112, 1114112, 1114112)) (cond (Nat.ble 11 i) (306, 311, 1114112, 1114112,
  1114112) (305, 305, -232, 0, -232)))) (cond (Nat.ble 5 i) (cond (Nat.ble 7 i) (cond (Nat.ble 8 i) (cond (Nat.ble 9 i) (304, 304, 0, -199, 0) (256, 303, 1114112, 1114112,
  1114112)) (255, 255, 121, 0, 121)) (cond (Nat.ble 6 i) (248, 254, -32, 0, -32) (224, 246, -32, 0, -32))) (cond (Nat.ble 2 i) (cond (Nat.ble 3 i) (cond (Nat.ble 4 i) (216, 222, 0,
  32, 0) (192, 214, 0, 32, 0)) (181, 181, 743, 0, 743)) (cond (Nat.ble 1 i) (97, 122, -32, 0, -32) (65, 90, 0, 32, 0)))))))))

def orbitA : Array (Nat × Nat) := orbitT.toArray
/-- the search of SimpleFold over its table of orbits: the first place whose code point is not below r -/
def orbIdx (T : Array (Nat × Nat)) (r : Int) : Nat → Nat → Nat → Nat
  | 0, lo, _ => lo
  | f + 1, lo, hi =>
    if lo < hi then
      (if ((T.getD ((lo + hi) / 2) (0, 0)).1 : Int) < r then orbIdx T r f ((lo + hi) / 2 + 1) hi
       else orbIdx T r f lo ((lo + hi) / 2))
    else lo
def foldCase (r : Int) : Int :=
  match lookupGo caseA r (caseA.size + 1) 0 caseA.size with
  | some x => if convertR 1 r x = r then convertR 0 r x else convertR 1 r x
  | none => r
/-- unicode.SimpleFold, as the library's text goes -/
def foldU (r : Int) : Int :=
  if r < 0 ∨ 1114111 < r then r
  else if r < 128 then ((asciiT.getD r.toNat 0 : Nat) : Int)
  else if orbIdx orbitA r 95 0 94 < 94 ∧ ((orbitA.getD (orbIdx orbitA r 95 0 94) (0, 0)).1 : Int) = r then ((orbitA.getD (orbIdx orbitA r 95 0 94) (0, 0)).2 : Int)
  else foldCase r

/-! the same, quick in the kernel -/
set_option maxRecDepth 100000 in
theorem caseAt_eq : ∀ i, i < 336 → caseA.getD i (0, 0, 0, 0, 0) = caseAt i := by decide +kernel
set_option maxRecDepth 100000 in
theorem orbAt_eq : ∀ i, i < 94 → orbitA.getD i (0, 0) = orbAt i := by decide +kernel
theorem caseA_size0 : caseA.size = 336 := by decide +kernel

def lookF (r : Nat) : Nat → Nat → Nat → Option Nat
  | 0, _, _ => none
  | f + 1, lo, hi => cond (Nat.ble hi lo) none
      (cond (Nat.ble (caseAt ((lo + hi) / 2)).1 r && Nat.ble r (caseAt ((lo + hi) / 2)).2.1) (some ((lo + hi) / 2))
       (cond (Nat.ble (caseAt ((lo + hi) / 2)).1 r) (lookF r f ((lo + hi) / 2 + 1) hi) (lookF r f lo ((lo + hi) / 2))))
def orbF (r : Nat) : Nat → Nat → Nat → Nat
  | 0, lo, _ => lo
  | f + 1, lo, hi => cond (Nat.ble hi lo) lo (cond (Nat.ble r (orbAt ((lo + hi) / 2)).1) (orbF r f lo ((lo + hi) / 2)) (orbF r f ((lo + hi) / 2 + 1) hi))
def caseF (r : Nat) : Int :=
  match lookF r 337 0 336 with
  | some i => if convertR 1 (r : Int) (caseAt i) = r then convertR 0 (r : Int) (caseAt i) else convertR 1 (r : Int) (caseAt i)
  | none => r
def foldF (r : Nat) : Int :=
  cond (Nat.ble r 127) ((asciiT.getD r 0 : Nat) : Int)
    (cond (Nat.ble 94 (orbF r 95 0 94)) (caseF r) (cond (Nat.beq (orbAt (orbF r 95 0 94)).1 r) (((orbAt (orbF r 95 0 94)).2 : Nat) : Int) (caseF r)))

theorem lookF_eq (r : Nat) : ∀ f lo hi, hi ≤ 336 → lookupIdx caseA (r : Int) f lo hi = lookF r f lo hi
  | 0, _, _, _ => rfl
  | f + 1, lo, hi, h => by
    unfold lookupIdx lookF
    by_cases hl : lo < hi
    · have hb : Nat.ble hi lo = false := by rw [← Bool.not_eq_true, Nat.ble_eq]; omega
      rw [if_pos hl, hb, cond_false]
      have hm : (lo + hi) / 2 < 336 := by omega
      rw [caseAt_eq _ hm]
      generalize (lo + hi) / 2 = m at *
      generalize hx : caseAt m = x
      by_cases h1 : x.1 ≤ r
      · by_cases h2 : r ≤ x.2.1
        · rw [if_pos (by omega), Nat.ble_eq_true_of_le h1, Nat.ble_eq_true_of_le h2]; rfl
        · have hb2 : Nat.ble r x.2.1 = false := by rw [← Bool.not_eq_true, Nat.ble_eq]; omega
          rw [if_neg (by omega), if_neg (by omega), Nat.ble_eq_true_of_le h1, hb2]
          exact lookF_eq r f (m + 1) hi h
      · have hb1 : Nat.ble x.1 r = false := by rw [← Bool.not_eq_true, Nat.ble_eq]; omega
        rw [if_neg (by omega), if_pos (by omega), hb1]
        exact lookF_eq r f lo m (by omega)
    · rw [if_neg hl, Nat.ble_eq_true_of_le (by omega)]; rfl

theorem orbF_eq (r : Nat) : ∀ f lo hi, hi ≤ 94 → orbIdx orbitA (r : Int) f lo hi = orbF r f lo hi
  | 0, _, _, _ => rfl
  | f + 1, lo, hi, h => by
    unfold orbIdx orbF
    by_cases hl : lo < hi
    · have hb : Nat.ble hi lo = false := by rw [← Bool.not_eq_true, Nat.ble_eq]; omega
      rw [if_pos hl, hb, cond_false]
      have hm : (lo + hi) / 2 < 94 := by omega
      rw [orbAt_eq _ hm]
      generalize (lo + hi) / 2 = m at *
      generalize hx : orbAt m = x
      by_cases h1 : r ≤ x.1
      · rw [if_neg (by omega), Nat.ble_eq_true_of_le h1]
        exact orbF_eq r f lo m (by omega)
      · have hb1 : Nat.ble r x.1 = false := by rw [← Bool.not_eq_true, Nat.ble_eq]; omega
        rw [if_pos (by omega), hb1]
        exact orbF_eq r f (m + 1) hi h
    · rw [if_neg hl, Nat.ble_eq_true_of_le (by omega)]; rfl

theorem lookF_lt (r : Nat) : ∀ f lo hi i, lookF r f lo hi = some i → lo ≤ i ∧ i < hi ∧ (caseAt i).1 ≤ r ∧ r ≤ (caseAt i).2.1
  | 0, _, _, _, h => by cases h
  | f + 1, lo, hi, i, h => by
    unfold lookF at h
    by_cases hl : lo < hi
    · have hb : Nat.ble hi lo = false := by rw [← Bool.not_eq_true, Nat.ble_eq]; omega
      rw [hb, cond_false] at h
      have hm : lo ≤ (lo + hi) / 2 ∧ (lo + hi) / 2 < hi := by omega
      generalize (lo + hi) / 2 = m at *
      by_cases h1 : (caseAt m).1 ≤ r
      · rw [Nat.ble_eq_true_of_le h1] at h
        by_cases h2 : r ≤ (caseAt m).2.1
        · rw [Nat.ble_eq_true_of_le h2] at h
          cases h
          exact ⟨hm.1, hm.2, h1, h2⟩
        · have hb2 : Nat.ble r (caseAt m).2.1 = false := by rw [← Bool.not_eq_true, Nat.ble_eq]; omega
          rw [hb2] at h
          have := lookF_lt r f (m + 1) hi i h
          omega
      · have hb1 : Nat.ble (caseAt m).1 r = false := by rw [← Bool.not_eq_true, Nat.ble_eq]; omega
        rw [hb1] at h
        have := lookF_lt r f lo m i h
        omega
    · rw [Nat.ble_eq_true_of_le (by omega)] at h
      cases h

theorem caseF_eq (r : Nat) : foldCase (r : Int) = caseF r := by
  unfold foldCase caseF lookupGo
  rw [caseA_size0, lookF_eq r _ _ _ (Nat.le_refl _)]
  cases h : lookF r 337 0 336 with
  | none => rfl
  | some i =>
    have hi := (lookF_lt r _ _ _ _ h).2.1
    simp only [Option.map_some]
    rw [caseAt_eq i hi]

theorem foldF_eq (r : Nat) (h : r ≤ 1114111) : foldU (r : Int) = foldF r := by
  unfold foldU foldF
  rw [if_neg (by omega)]
  by_cases h1 : r ≤ 127
  · rw [if_pos (by omega), Nat.ble_eq_true_of_le h1]
    simp
  · have hb : Nat.ble r 127 = false := by rw [← Bool.not_eq_true, Nat.ble_eq]; omega
    rw [if_neg (by omega), hb, cond_false, orbF_eq r _ _ _ (Nat.le_refl _), caseF_eq]
    generalize orbF r 95 0 94 = i
    by_cases h2 : i < 94
    · have hb2 : Nat.ble 94 i = false := by rw [← Bool.not_eq_true, Nat.ble_eq]; omega
      rw [hb2, cond_false, orbAt_eq i h2]
      by_cases h3 : (orbAt i).1 = r
      · rw [if_pos ⟨h2, by omega⟩, h3, Nat.beq_refl]; rfl
      · have hb3 : Nat.beq (orbAt i).1 r = false := by rw [← Bool.not_eq_true, Nat.beq_eq]; omega
        rw [if_neg (by omega), hb3]; rfl
    · rw [if_neg (by omega), Nat.ble_eq_true_of_le (by omega)]; rfl


/-! every orbit: at most four code points, one way down, all of them characters -/
def okV (a : Int) : Bool := decide (1 ≤ a) && (decide (a < 55296) || (decide (57344 ≤ a) && decide (a ≤ 1114111)))
def dn (a b : Int) : Nat := if b ≤ a then 1 else 0
def chk (r : Nat) : Bool :=
  let a := foldF r
  okV a && (decide (a = r) || (let b := foldF a.toNat
    okV b && (decide (b = r) || (let c := foldF b.toNat
      okV c && ((decide (c = r) && dn r a + dn a b + dn b r == 1) || (let d := foldF c.toNat
        decide (d = r) && dn r a + dn a b + dn b c + dn c r == 1))))))
def chkRow (x : CaseRow) : Bool := (List.range (x.2.1 + 1 - x.1)).all fun k => chk (x.1 + k)
theorem chkCase : caseT.all chkRow = true := by decide +kernel
theorem chkOrb : orbitT.all (fun p => chk p.1) = true := by decide +kernel
theorem chkAscii : (List.range 127).all (fun k => chk (k + 1)) = true := by decide +kernel

theorem orbF_lt (r : Nat) : ∀ f lo hi, lo ≤ hi → orbF r f lo hi ≤ hi
  | 0, _, _, h => h
  | f + 1, lo, hi, h => by
    unfold orbF
    by_cases hl : lo < hi
    · have hb : Nat.ble hi lo = false := by rw [← Bool.not_eq_true, Nat.ble_eq]; omega
      rw [hb, cond_false]
      have hm : lo ≤ (lo + hi) / 2 ∧ (lo + hi) / 2 < hi := by omega
      generalize (lo + hi) / 2 = m at *
      cases Nat.ble r (orbAt m).1
      · rw [cond_false]
        exact orbF_lt r f (m + 1) hi (by omega)
      · rw [cond_true]
        exact Nat.le_trans (orbF_lt r f lo m (by omega)) (by omega)
    · rw [Nat.ble_eq_true_of_le (by omega), cond_true]
      exact h

theorem caseAt_mem (i : Nat) (h : i < 336) : caseAt i ∈ caseT := by
  rw [← caseAt_eq i h]
  have hs : i < caseT.length := by have := caseA_size0; simpa [caseA] using (by omega : i < caseA.size)
  have : caseA.getD i (0, 0, 0, 0, 0) = caseT[i] := by simp [caseA, Array.getD, hs]
  rw [this]
  exact List.getElem_mem hs
theorem orbAt_mem (i : Nat) (h : i < 94) : orbAt i ∈ orbitT := by
  rw [← orbAt_eq i h]
  have hs : i < orbitT.length := by have : orbitT.length = 94 := by decide +kernel
                                    omega
  have : orbitA.getD i (0, 0) = orbitT[i] := by simp [orbitA, Array.getD, hs]
  rw [this]
  exact List.getElem_mem hs

theorem chk_or (r : Nat) (h0 : 1 ≤ r) : foldF r = (r : Int) ∨ chk r = true := by
  by_cases h1 : r ≤ 127
  · right
    have := List.all_eq_true.1 chkAscii (r - 1) (by simp; omega)
    rwa [show r - 1 + 1 = r by omega] at this
  · have hb : Nat.ble r 127 = false := by rw [← Bool.not_eq_true, Nat.ble_eq]; omega
    have hcase : caseF r = (r : Int) ∨ chk r = true := by
      unfold caseF
      cases h : lookF r 337 0 336 with
      | none => exact .inl rfl
      | some i =>
        right
        obtain ⟨_, hi, ha, hz⟩ := lookF_lt r _ _ _ _ h
        have := List.all_eq_true.1 chkCase _ (caseAt_mem i hi)
        have := List.all_eq_true.1 this (r - (caseAt i).1) (by simp; omega)
        rwa [show (caseAt i).1 + (r - (caseAt i).1) = r by omega] at this
    by_cases h2 : orbF r 95 0 94 < 94
    · have hb2 : Nat.ble 94 (orbF r 95 0 94) = false := by rw [← Bool.not_eq_true, Nat.ble_eq]; omega
      by_cases h3 : (orbAt (orbF r 95 0 94)).1 = r
      · right
        have := List.all_eq_true.1 chkOrb _ (orbAt_mem _ h2)
        rwa [h3] at this
      · have hb3 : Nat.beq (orbAt (orbF r 95 0 94)).1 r = false := by rw [← Bool.not_eq_true, Nat.beq_eq]; omega
        rcases hcase with hc | hc
        · left
          unfold foldF
          rw [hb, cond_false, hb2, cond_false, hb3, cond_false]
          exact hc
        · exact .inr hc
    · rcases hcase with hc | hc
      · left
        unfold foldF
        rw [hb, cond_false, Nat.ble_eq_true_of_le (by omega), cond_true]
        exact hc
      · exact .inr hc

/-- what is known of an orbit -/
def Shape (r : Int) : Prop :=
  foldU r = r ∨ (okV (foldU r) = true ∧ (foldU (foldU r) = r ∨ (okV (foldU (foldU r)) = true ∧
    ((foldU (foldU (foldU r)) = r ∧ dn r (foldU r) + dn (foldU r) (foldU (foldU r)) + dn (foldU (foldU r)) r = 1) ∨
     (okV (foldU (foldU (foldU r))) = true ∧ foldU (foldU (foldU (foldU r))) = r ∧
       dn r (foldU r) + dn (foldU r) (foldU (foldU r)) + dn (foldU (foldU r)) (foldU (foldU (foldU r))) + dn (foldU (foldU (foldU r))) r = 1)))))

theorem okV_iff (a : Int) : okV a = true ↔ 1 ≤ a ∧ (a < 55296 ∨ (57344 ≤ a ∧ a ≤ 1114111)) := by
  simp [okV]

theorem foldU_outside (r : Int) (h : r < 0 ∨ 1114111 < r) : foldU r = r := by unfold foldU; rw [if_pos h]
theorem foldU_zero : foldU 0 = 0 := by decide +kernel

theorem shape (r : Int) : Shape r := by
  by_cases h : r < 0 ∨ 1114111 < r
  · exact .inl (foldU_outside r h)
  · by_cases hz : r = 0
    · subst hz; exact .inl foldU_zero
    · obtain ⟨n, rfl⟩ : ∃ n : Nat, r = n := ⟨r.toNat, by omega⟩
      have e1 := foldF_eq n (by omega)
      rcases chk_or n (by omega) with hc | hc
      · exact .inl (e1.trans hc)
      · unfold chk at hc
        simp only [Bool.and_eq_true, Bool.or_eq_true, decide_eq_true_eq, beq_iff_eq] at hc
        rw [← e1] at hc
        obtain ⟨va, hc⟩ := hc
        rcases hc with hc | ⟨vb, hc⟩
        · exact .inl hc
        have va' := (okV_iff _).1 va
        have e2 := foldF_eq (foldU (n : Int)).toNat (by omega)
        rw [Int.toNat_of_nonneg (by omega)] at e2
        rw [← e2] at vb hc
        refine .inr ⟨va, ?_⟩
        rcases hc with hc | ⟨vc, hc⟩
        · exact .inl hc
        have vb' := (okV_iff _).1 vb
        have e3 := foldF_eq (foldU (foldU (n : Int))).toNat (by omega)
        rw [Int.toNat_of_nonneg (by omega)] at e3
        rw [← e3] at vc hc
        refine .inr ⟨vb, ?_⟩
        rcases hc with hc | hc
        · exact .inl hc
        have vc' := (okV_iff _).1 vc
        have e4 := foldF_eq (foldU (foldU (foldU (n : Int)))).toNat (by omega)
        rw [Int.toNat_of_nonneg (by omega)] at e4
        rw [← e4] at hc
        exact .inr ⟨vc, hc⟩

end Go.Ftx
