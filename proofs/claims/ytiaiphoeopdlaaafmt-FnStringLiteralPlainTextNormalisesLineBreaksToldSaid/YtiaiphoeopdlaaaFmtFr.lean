/-
  js_lexer's tryToDecodeEscapeSequences: its great frame. No statement of the seat is proved here.
-/
import Derived.Test.YtiaiphoeopdlaaaFmtGl
import Derived.KernelRfl
namespace Go.Proofs.YtiaiphoeopdlaaaFmt
set_option maxRecDepth 1000000 in
theorem fr8 (p s t r v a : Value) (us : Nat → Value) : frA [(0, p), (1, s), (2, t), (3, r), (11, v), (12, a)] us 567 = #[p, s, t, r, us 4, us 5, us 6, us 7, us 8, us 9, us 10, v, a, us 13, us 14, us 15, us 16, us 17, us 18, us 19, us 20, us 21, us 22, us 23, us 24, us 25, us 26,
  us 27, us 28, us 29, us 30, us 31, us 32, us 33, us 34, us 35, us 36, us 37, us 38, us 39, us 40, us 41, us 42, us 43, us 44, us 45, us 46, us 47, us 48,
  us 49, us 50, us 51, us 52, us 53, us 54, us 55, us 56, us 57, us 58, us 59, us 60, us 61, us 62, us 63, us 64, us 65, us 66, us 67, us 68, us 69, us 70,
  us 71, us 72, us 73, us 74, us 75, us 76, us 77, us 78, us 79, us 80, us 81, us 82, us 83, us 84, us 85, us 86, us 87, us 88, us 89, us 90, us 91, us 92,
  us 93, us 94, us 95, us 96, us 97, us 98, us 99, us 100, us 101, us 102, us 103, us 104, us 105, us 106, us 107, us 108, us 109, us 110, us 111, us 112,
  us 113, us 114, us 115, us 116, us 117, us 118, us 119, us 120, us 121, us 122, us 123, us 124, us 125, us 126, us 127, us 128, us 129, us 130, us 131, us 132,
  us 133, us 134, us 135, us 136, us 137, us 138, us 139, us 140, us 141, us 142, us 143, us 144, us 145, us 146, us 147, us 148, us 149, us 150, us 151, us 152,
  us 153, us 154, us 155, us 156, us 157, us 158, us 159, us 160, us 161, us 162, us 163, us 164, us 165, us 166, us 167, us 168, us 169, us 170, us 171, us 172,
  us 173, us 174, us 175, us 176, us 177, us 178, us 179, us 180, us 181, us 182, us 183, us 184, us 185, us 186, us 187, us 188, us 189, us 190, us 191, us 192,
  us 193, us 194, us 195, us 196, us 197, us 198, us 199, us 200, us 201, us 202, us 203, us 204, us 205, us 206, us 207, us 208, us 209, us 210, us 211, us 212,
  us 213, us 214, us 215, us 216, us 217, us 218, us 219, us 220, us 221, us 222, us 223, us 224, us 225, us 226, us 227, us 228, us 229, us 230, us 231, us 232,
  us 233, us 234, us 235, us 236, us 237, us 238, us 239, us 240, us 241, us 242, us 243, us 244, us 245, us 246, us 247, us 248, us 249, us 250, us 251, us 252,
  us 253, us 254, us 255, us 256, us 257, us 258, us 259, us 260, us 261, us 262, us 263, us 264, us 265, us 266, us 267, us 268, us 269, us 270, us 271, us 272,
  us 273, us 274, us 275, us 276, us 277, us 278, us 279, us 280, us 281, us 282, us 283, us 284, us 285, us 286, us 287, us 288, us 289, us 290, us 291, us 292,
  us 293, us 294, us 295, us 296, us 297, us 298, us 299, us 300, us 301, us 302, us 303, us 304, us 305, us 306, us 307, us 308, us 309, us 310, us 311, us 312,
  us 313, us 314, us 315, us 316, us 317, us 318, us 319, us 320, us 321, us 322, us 323, us 324, us 325, us 326, us 327, us 328, us 329, us 330, us 331, us 332,
  us 333, us 334, us 335, us 336, us 337, us 338, us 339, us 340, us 341, us 342, us 343, us 344, us 345, us 346, us 347, us 348, us 349, us 350, us 351, us 352,
  us 353, us 354, us 355, us 356, us 357, us 358, us 359, us 360, us 361, us 362, us 363, us 364, us 365, us 366, us 367, us 368, us 369, us 370, us 371, us 372,
  us 373, us 374, us 375, us 376, us 377, us 378, us 379, us 380, us 381, us 382, us 383, us 384, us 385, us 386, us 387, us 388, us 389, us 390, us 391, us 392,
  us 393, us 394, us 395, us 396, us 397, us 398, us 399, us 400, us 401, us 402, us 403, us 404, us 405, us 406, us 407, us 408, us 409, us 410, us 411, us 412,
  us 413, us 414, us 415, us 416, us 417, us 418, us 419, us 420, us 421, us 422, us 423, us 424, us 425, us 426, us 427, us 428, us 429, us 430, us 431, us 432,
  us 433, us 434, us 435, us 436, us 437, us 438, us 439, us 440, us 441, us 442, us 443, us 444, us 445, us 446, us 447, us 448, us 449, us 450, us 451, us 452,
  us 453, us 454, us 455, us 456, us 457, us 458, us 459, us 460, us 461, us 462, us 463, us 464, us 465, us 466, us 467, us 468, us 469, us 470, us 471, us 472,
  us 473, us 474, us 475, us 476, us 477, us 478, us 479, us 480, us 481, us 482, us 483, us 484, us 485, us 486, us 487, us 488, us 489, us 490, us 491, us 492,
  us 493, us 494, us 495, us 496, us 497, us 498, us 499, us 500, us 501, us 502, us 503, us 504, us 505, us 506, us 507, us 508, us 509, us 510, us 511, us 512,
  us 513, us 514, us 515, us 516, us 517, us 518, us 519, us 520, us 521, us 522, us 523, us 524, us 525, us 526, us 527, us 528, us 529, us 530, us 531, us 532,
  us 533, us 534, us 535, us 536, us 537, us 538, us 539, us 540, us 541, us 542, us 543, us 544, us 545, us 546, us 547, us 548, us 549, us 550, us 551, us 552,
  us 553, us 554, us 555, us 556, us 557, us 558, us 559, us 560, us 561, us 562, us 563, us 564, us 565, us 566] := by kernel_rfl
end Go.Proofs.YtiaiphoeopdlaaaFmt
