/- Walk of doPrintf, in pieces: the code of its loop, the frame's slots that are read again. -/
import Derived.Test.YtlmcglaajmjanaaGreatDoorZm
import Derived.WalkMore
import Derived.LoopN
namespace Go.Proofs.YtlmcglaajmjanaaGreatDoor
open Go.RowKit
/-- A piece of a code, by the way to it. -/
def codeAt : List Bool → Code → Code
  | [], c => c
  | d :: p, .seq a b => if d then codeAt p b else codeAt p a
  | _ :: p, .block _ c => codeAt p c
  | _ :: p, .scope c => codeAt p c
  | _ :: p, .loop c => codeAt p c
  | d :: p, .cond _ a b => if d then codeAt p b else codeAt p a
  | _ :: _, c => c
noncomputable def cPrintf : Code := Tryz.f85.body.getD .skip
/-- The body of its outer loop; that one's scope. -/
noncomputable def cRound : Code := codeAt [true, true, true, true, true, true, true, false, true, true, true] cPrintf
noncomputable def cScope : Code := codeAt [true, true, true] cRound
/-- The pieces, with what comes behind them left open. -/
noncomputable def cHead (T : Code) : Code := .seq (codeAt [false] cRound) T
noncomputable def cScan (T : Code) : Code := .seq (codeAt [false] cScope) (.seq (codeAt [true, false] cScope) (.seq (codeAt [true, true, false] cScope) (.seq (codeAt [true, true, true, false] cScope) T)))
noncomputable def cTail (T : Code) : Code := .seq (codeAt [true, true, true, true, false] cScope) T
noncomputable def cVerb (T : Code) : Code :=
  .seq (codeAt [true, true, true, true, true, false] cScope) (.seq (codeAt [true, true, true, true, true, true, false] cScope) (.seq (codeAt [true, true, true, true, true, true, true, false] cScope) (.seq (codeAt [true, true, true, true, true, true, true, true, false] cScope) T)))
noncomputable def cRest : Code := codeAt [true, true, true, true, true, true, true, true, true] cScope
theorem cRound_is : cRound = cHead (.block 1 (.scope (cScan (cTail (cVerb cRest))))) := by kernel_rfl
/-- What of the frame is read again. -/
structure Frm (p : Nat) (fs : ByteArray) (v : Value) (k i : Int) (a : Act) : Prop where
  sz : a.tmps.size = 557
  df : a.defers = []
  t0 : a.tmps.getD 0 undef = .pointer (some ⟨p, 0, none⟩)
  t1 : a.tmps.getD 1 undef = .string fs
  t2 : a.tmps.getD 2 undef = v
  t6 : a.tmps.getD 6 undef = .int .i64 fs.size
  t7 : a.tmps.getD 7 undef = .int .i64 k
  t9 : a.tmps.getD 9 undef = .int .i64 i
set_option maxRecDepth 1000000 in
theorem lit_list (f : Nat → Value) : (List.range 557).map f = [f 0, f 1, f 2, f 3, f 4, f 5, f 6, f 7, f 8, f 9, f 10, f 11, f 12, f 13, f 14, f 15, f 16, f 17, f 18, f 19, f 20, f 21, f 22, f 23, f 24, f 25, f 26, f 27, f 28, f 29, f 30, f 31, f 32, f 33, f 34, f 35, f 36, f 37, f 38, f 39, f 40, f 41, f 42, f 43, f 44, f 45, f 46, f 47, f 48, f 49, f 50, f 51, f 52, f 53, f 54, f 55, f 56, f 57, f 58, f 59, f 60, f 61, f 62, f 63, f 64, f 65, f 66, f 67, f 68, f 69, f 70, f 71, f 72, f 73, f 74, f 75, f 76, f 77, f 78, f 79, f 80, f 81, f 82, f 83, f 84, f 85, f 86, f 87, f 88, f 89, f 90, f 91, f 92, f 93, f 94, f 95, f 96, f 97, f 98, f 99, f 100, f 101, f 102, f 103, f 104, f 105, f 106, f 107, f 108, f 109, f 110, f 111, f 112, f 113, f 114, f 115, f 116, f 117, f 118, f 119, f 120, f 121, f 122, f 123, f 124, f 125, f 126, f 127, f 128, f 129, f 130, f 131, f 132, f 133, f 134, f 135, f 136, f 137, f 138, f 139, f 140, f 141, f 142, f 143, f 144, f 145, f 146, f 147, f 148, f 149, f 150, f 151, f 152, f 153, f 154, f 155, f 156, f 157, f 158, f 159, f 160, f 161, f 162, f 163, f 164, f 165, f 166, f 167, f 168, f 169, f 170, f 171, f 172, f 173, f 174, f 175, f 176, f 177, f 178, f 179, f 180, f 181, f 182, f 183, f 184, f 185, f 186, f 187, f 188, f 189, f 190, f 191, f 192, f 193, f 194, f 195, f 196, f 197, f 198, f 199, f 200, f 201, f 202, f 203, f 204, f 205, f 206, f 207, f 208, f 209, f 210, f 211, f 212, f 213, f 214, f 215, f 216, f 217, f 218, f 219, f 220, f 221, f 222, f 223, f 224, f 225, f 226, f 227, f 228, f 229, f 230, f 231, f 232, f 233, f 234, f 235, f 236, f 237, f 238, f 239, f 240, f 241, f 242, f 243, f 244, f 245, f 246, f 247, f 248, f 249, f 250, f 251, f 252, f 253, f 254, f 255, f 256, f 257, f 258, f 259, f 260, f 261, f 262, f 263, f 264, f 265, f 266, f 267, f 268, f 269, f 270, f 271, f 272, f 273, f 274, f 275, f 276, f 277, f 278, f 279, f 280, f 281, f 282, f 283, f 284, f 285, f 286, f 287, f 288, f 289, f 290, f 291, f 292, f 293, f 294, f 295, f 296, f 297, f 298, f 299, f 300, f 301, f 302, f 303, f 304, f 305, f 306, f 307, f 308, f 309, f 310, f 311, f 312, f 313, f 314, f 315, f 316, f 317, f 318, f 319, f 320, f 321, f 322, f 323, f 324, f 325, f 326, f 327, f 328, f 329, f 330, f 331, f 332, f 333, f 334, f 335, f 336, f 337, f 338, f 339, f 340, f 341, f 342, f 343, f 344, f 345, f 346, f 347, f 348, f 349, f 350, f 351, f 352, f 353, f 354, f 355, f 356, f 357, f 358, f 359, f 360, f 361, f 362, f 363, f 364, f 365, f 366, f 367, f 368, f 369, f 370, f 371, f 372, f 373, f 374, f 375, f 376, f 377, f 378, f 379, f 380, f 381, f 382, f 383, f 384, f 385, f 386, f 387, f 388, f 389, f 390, f 391, f 392, f 393, f 394, f 395, f 396, f 397, f 398, f 399, f 400, f 401, f 402, f 403, f 404, f 405, f 406, f 407, f 408, f 409, f 410, f 411, f 412, f 413, f 414, f 415, f 416, f 417, f 418, f 419, f 420, f 421, f 422, f 423, f 424, f 425, f 426, f 427, f 428, f 429, f 430, f 431, f 432, f 433, f 434, f 435, f 436, f 437, f 438, f 439, f 440, f 441, f 442, f 443, f 444, f 445, f 446, f 447, f 448, f 449, f 450, f 451, f 452, f 453, f 454, f 455, f 456, f 457, f 458, f 459, f 460, f 461, f 462, f 463, f 464, f 465, f 466, f 467, f 468, f 469, f 470, f 471, f 472, f 473, f 474, f 475, f 476, f 477, f 478, f 479, f 480, f 481, f 482, f 483, f 484, f 485, f 486, f 487, f 488, f 489, f 490, f 491, f 492, f 493, f 494, f 495, f 496, f 497, f 498, f 499, f 500, f 501, f 502, f 503, f 504, f 505, f 506, f 507, f 508, f 509, f 510, f 511, f 512, f 513, f 514, f 515, f 516, f 517, f 518, f 519, f 520, f 521, f 522, f 523, f 524, f 525, f 526, f 527, f 528, f 529, f 530, f 531, f 532, f 533, f 534, f 535, f 536, f 537, f 538, f 539, f 540, f 541, f 542, f 543, f 544, f 545, f 546, f 547, f 548, f 549, f 550, f 551, f 552, f 553, f 554, f 555, f 556] := by kernel_rfl
section
variable {p : Nat} {fs : ByteArray} {v : Value} {k i : Int} {a : Act}
set_option maxRecDepth 1000000 in
theorem Frm.lit (h : Frm p fs v k i a) : ∃ f : Nat → Value, a = ⟨#[f 0, f 1, f 2, f 3, f 4, f 5, f 6, f 7, f 8, f 9, f 10, f 11, f 12, f 13, f 14, f 15, f 16, f 17, f 18, f 19, f 20, f 21, f 22, f 23, f 24, f 25, f 26, f 27, f 28, f 29, f 30, f 31, f 32, f 33, f 34, f 35, f 36, f 37, f 38, f 39, f 40, f 41, f 42, f 43, f 44, f 45, f 46, f 47, f 48, f 49, f 50, f 51, f 52, f 53, f 54, f 55, f 56, f 57, f 58, f 59, f 60, f 61, f 62, f 63, f 64, f 65, f 66, f 67, f 68, f 69, f 70, f 71, f 72, f 73, f 74, f 75, f 76, f 77, f 78, f 79, f 80, f 81, f 82, f 83, f 84, f 85, f 86, f 87, f 88, f 89, f 90, f 91, f 92, f 93, f 94, f 95, f 96, f 97, f 98, f 99, f 100, f 101, f 102, f 103, f 104, f 105, f 106, f 107, f 108, f 109, f 110, f 111, f 112, f 113, f 114, f 115, f 116, f 117, f 118, f 119, f 120, f 121, f 122, f 123, f 124, f 125, f 126, f 127, f 128, f 129, f 130, f 131, f 132, f 133, f 134, f 135, f 136, f 137, f 138, f 139, f 140, f 141, f 142, f 143, f 144, f 145, f 146, f 147, f 148, f 149, f 150, f 151, f 152, f 153, f 154, f 155, f 156, f 157, f 158, f 159, f 160, f 161, f 162, f 163, f 164, f 165, f 166, f 167, f 168, f 169, f 170, f 171, f 172, f 173, f 174, f 175, f 176, f 177, f 178, f 179, f 180, f 181, f 182, f 183, f 184, f 185, f 186, f 187, f 188, f 189, f 190, f 191, f 192, f 193, f 194, f 195, f 196, f 197, f 198, f 199, f 200, f 201, f 202, f 203, f 204, f 205, f 206, f 207, f 208, f 209, f 210, f 211, f 212, f 213, f 214, f 215, f 216, f 217, f 218, f 219, f 220, f 221, f 222, f 223, f 224, f 225, f 226, f 227, f 228, f 229, f 230, f 231, f 232, f 233, f 234, f 235, f 236, f 237, f 238, f 239, f 240, f 241, f 242, f 243, f 244, f 245, f 246, f 247, f 248, f 249, f 250, f 251, f 252, f 253, f 254, f 255, f 256, f 257, f 258, f 259, f 260, f 261, f 262, f 263, f 264, f 265, f 266, f 267, f 268, f 269, f 270, f 271, f 272, f 273, f 274, f 275, f 276, f 277, f 278, f 279, f 280, f 281, f 282, f 283, f 284, f 285, f 286, f 287, f 288, f 289, f 290, f 291, f 292, f 293, f 294, f 295, f 296, f 297, f 298, f 299, f 300, f 301, f 302, f 303, f 304, f 305, f 306, f 307, f 308, f 309, f 310, f 311, f 312, f 313, f 314, f 315, f 316, f 317, f 318, f 319, f 320, f 321, f 322, f 323, f 324, f 325, f 326, f 327, f 328, f 329, f 330, f 331, f 332, f 333, f 334, f 335, f 336, f 337, f 338, f 339, f 340, f 341, f 342, f 343, f 344, f 345, f 346, f 347, f 348, f 349, f 350, f 351, f 352, f 353, f 354, f 355, f 356, f 357, f 358, f 359, f 360, f 361, f 362, f 363, f 364, f 365, f 366, f 367, f 368, f 369, f 370, f 371, f 372, f 373, f 374, f 375, f 376, f 377, f 378, f 379, f 380, f 381, f 382, f 383, f 384, f 385, f 386, f 387, f 388, f 389, f 390, f 391, f 392, f 393, f 394, f 395, f 396, f 397, f 398, f 399, f 400, f 401, f 402, f 403, f 404, f 405, f 406, f 407, f 408, f 409, f 410, f 411, f 412, f 413, f 414, f 415, f 416, f 417, f 418, f 419, f 420, f 421, f 422, f 423, f 424, f 425, f 426, f 427, f 428, f 429, f 430, f 431, f 432, f 433, f 434, f 435, f 436, f 437, f 438, f 439, f 440, f 441, f 442, f 443, f 444, f 445, f 446, f 447, f 448, f 449, f 450, f 451, f 452, f 453, f 454, f 455, f 456, f 457, f 458, f 459, f 460, f 461, f 462, f 463, f 464, f 465, f 466, f 467, f 468, f 469, f 470, f 471, f 472, f 473, f 474, f 475, f 476, f 477, f 478, f 479, f 480, f 481, f 482, f 483, f 484, f 485, f 486, f 487, f 488, f 489, f 490, f 491, f 492, f 493, f 494, f 495, f 496, f 497, f 498, f 499, f 500, f 501, f 502, f 503, f 504, f 505, f 506, f 507, f 508, f 509, f 510, f 511, f 512, f 513, f 514, f 515, f 516, f 517, f 518, f 519, f 520, f 521, f 522, f 523, f 524, f 525, f 526, f 527, f 528, f 529, f 530, f 531, f 532, f 533, f 534, f 535, f 536, f 537, f 538, f 539, f 540, f 541, f 542, f 543, f 544, f 545, f 546, f 547, f 548, f 549, f 550, f 551, f 552, f 553, f 554, f 555, f 556], []⟩ ∧ f 0 = .pointer (some ⟨p, 0, none⟩) ∧ f 1 = .string fs ∧ f 2 = v ∧ f 6 = .int .i64 fs.size ∧ f 7 = .int .i64 k ∧ f 9 = .int .i64 i := by
  refine ⟨fun i => a.tmps.getD i undef, ?_, h.t0, h.t1, h.t2, h.t6, h.t7, h.t9⟩
  have e : a.tmps = ((List.range 557).map fun i => a.tmps.getD i undef).toArray := by
    apply Array.ext
    · simp [h.sz]
    · intro i h1 h2
      simp [Array.getD, h1]
  rw [lit_list] at e
  have hd := h.df
  cases a with
  | mk t d =>
    subst hd
    exact congrArg (fun t => Act.mk t []) e
end
section
variable {K : Nat → Prop} {w : World} {p : Nat} {fs : ByteArray} {v : Value} {k i : Nat} {a : Act} {Q : Exit → Act → World → Prop}
set_option maxHeartbeats 4000000 in
set_option maxRecDepth 1000000 in
theorem head_more (T : Code) (hI : Frm p fs v k i a) (hi : i < fs.size) (hQ : ∀ a', Frm p fs v k i a' → T.wp Tryz.prog Q a' w) : (cHead T).wp Tryz.prog Q a w := by
  have HQ := Lib.hid hQ; clear hQ
  have hd : decide ((i : Int) < (fs.size : Int)) = true := by simp; omega
  obtain ⟨f, rfl, h0, h1, h2, h6, h7, h9⟩ := hI.lit
  rw [h0, h1, h2, h6, h7, h9]
  clear hI h0 h1 h2 h6 h7 h9
  show Code.wp Tryz.prog (.seq (.seq (.region 6 _ _) (.cond _ .skip (.exit 0))) T) _ _ _
  go_wp2_with fail
  exact HQ.out _ ⟨rfl, rfl, rfl, rfl, rfl, rfl, rfl, rfl⟩
set_option maxHeartbeats 4000000 in
set_option maxRecDepth 1000000 in
theorem head_end (T : Code) (hI : Frm p fs v k i a) (hi : i = fs.size) (hQ : ∀ a', Frm p fs v k i a' → Q (.exit 0) a' w) : (cHead T).wp Tryz.prog Q a w := by
  have HQ := Lib.hid hQ; clear hQ
  have hd : decide ((i : Int) < (fs.size : Int)) = false := by simp; omega
  have hn : ¬ i < fs.size := by omega
  clear hi
  obtain ⟨f, rfl, h0, h1, h2, h6, h7, h9⟩ := hI.lit
  rw [h0, h1, h2, h6, h7, h9]
  clear hI h0 h1 h2 h6 h7 h9
  show Code.wp Tryz.prog (.seq (.seq (.region 6 _ _) (.cond _ .skip (.exit 0))) T) _ _ _
  go_wp2_with fail
  exact HQ.out _ ⟨rfl, rfl, rfl, rfl, rfl, rfl, rfl, rfl⟩
set_option maxHeartbeats 4000000 in
set_option maxRecDepth 1000000 in
theorem tail_more (T : Code) (hI : Frm p fs v k i a) (hi : i < fs.size) (hQ : ∀ a', Frm p fs v k i a' → T.wp Tryz.prog Q a' w) : (cTail T).wp Tryz.prog Q a w := by
  have HQ := Lib.hid hQ; clear hQ
  have hd : decide ((fs.size : Int) ≤ (i : Int)) = false := by simp; omega
  obtain ⟨f, rfl, h0, h1, h2, h6, h7, h9⟩ := hI.lit
  rw [h0, h1, h2, h6, h7, h9]
  clear hI h0 h1 h2 h6 h7 h9
  show Code.wp Tryz.prog (.seq (.seq (.region 13 _ _) (.cond _ (.exit 0) .skip)) T) _ _ _
  go_wp2_with fail
  exact HQ.out _ ⟨rfl, rfl, rfl, rfl, rfl, rfl, rfl, rfl⟩
set_option maxHeartbeats 4000000 in
set_option maxRecDepth 1000000 in
theorem tail_end (T : Code) (hI : Frm p fs v k i a) (hi : i = fs.size) (hQ : ∀ a', Frm p fs v k i a' → Q (.exit 0) a' w) : (cTail T).wp Tryz.prog Q a w := by
  have HQ := Lib.hid hQ; clear hQ
  have hd : decide ((fs.size : Int) ≤ (i : Int)) = true := by simp; omega
  have hn : fs.size ≤ i := by omega
  clear hi
  obtain ⟨f, rfl, h0, h1, h2, h6, h7, h9⟩ := hI.lit
  rw [h0, h1, h2, h6, h7, h9]
  clear hI h0 h1 h2 h6 h7 h9
  show Code.wp Tryz.prog (.seq (.seq (.region 13 _ _) (.cond _ (.exit 0) .skip)) T) _ _ _
  go_wp2_with fail
  exact HQ.out _ ⟨rfl, rfl, rfl, rfl, rfl, rfl, rfl, rfl⟩
set_option maxHeartbeats 4000000 in
set_option maxRecDepth 1000000 in
theorem scan_end (T : Code) (o x : List Nat) (L : Nat) (hI : Frm p fs v k i a) (hfs : fs.size ≤ 10000) (hL : (encs x).length = L) (hL0 : 0 < L) (hi : i + L = fs.size) (hdrop : fs.data.toList.drop i = encs x ++ []) (hx : Pce x) (hps : Ps K w p o 0) (hg : GoodT o 40000)
    (hQ : ∀ a' w', Frm p fs v k ((i + L : Nat) : Int) a' → Ps K w' p (o ++ x) 0 → Kp K w w' → T.wp Tryz.prog Q a' w') : (cScan T).wp Tryz.prog Q a w := by
  have HX := Lib.hid hx; clear hx
  have HG := Lib.hid hg; clear hg
  obtain ⟨sub, hsl, hsub⟩ := sub_run fs i (i + L) (encs x) _ hdrop (by omega) (by omega)
  have HSL := Lib.hid hsl; clear hsl
  have HSZ := Lib.hid hi
  have hle : i + L ≤ fs.size := by omega
  have HSUB := Lib.hid hsub
  have hssz : sub.size ≤ 1000 := by rw [Lib.size_eq, hsub]; have := HX.out.le; omega
  clear hsub
  have HNP : Hid (∀ n, i ≤ n → n < i + L → (((fs.data.toList.getD n 0).toNat : Int) == 37) = false) := fun n h1 h2 => pct_no hdrop HX.out.np h1 (by omega)
  have HL := Lib.hid hL
  have HDR := Lib.hid hdrop
  clear hdrop hL hi
  have HQ := Lib.hid hQ; clear hQ
  have HPS := Lib.hid hps; clear hps
  obtain ⟨b87, c87⟩ := HPS.out.er 87 (by decide) (by decide)
  have f87 := HPS.out.fz 87
  obtain ⟨f, rfl, h0, h1, h2, h6, h7, h9⟩ := hI.lit
  rw [h0, h1, h2, h6, h7, h9]
  clear hI h0 h1 h2 h6 h7 h9
  show Code.wp Tryz.prog (.seq (.region 7 _ _) (.seq (.region 8 _ _) (.seq (.block 2 _) (.seq (.seq (.region 11 _ _) (.cond _ (.region 12 _ _) .skip)) T)))) _ _ _
  go_wp2_with fail
  clear c87 f87
  go_loopw [9] (fun iv wx => ∃ n : Nat, iv = .int .i64 n ∧ i ≤ n ∧ n ≤ i + L ∧ Hid (Ps K wx p o 0) ∧ Hid (Kp K w wx))
    (fun iv _ => i + L - (intOf iv).toNat)
  case atStart => exact ⟨i, rfl, Nat.le_refl _, Nat.le_add_right _ _, HPS.out.setB 87 true (.inr ⟨by decide, by decide⟩), (Kp.refl K w).setCell HPS.out.hp _ _⟩
  case round =>
    obtain ⟨n, rfl, hn1, hn2, hps, hkp⟩ := hrel
    by_cases hlt : n < i + L
    · have hix := idx_run fs n (by omega)
      have hb37 := HNP.out n hn1 hlt
      obtain ⟨bb, hbb⟩ : ∃ bb : Int, ((fs.data.toList.getD n 0).toNat : Int) = bb := ⟨_, rfl⟩
      simp only [hbb] at hix hb37
      clear hbb
      have hd : decide ((n : Int) < (fs.size : Int)) = true := by simp; omega
      go_wp2_with fail
      go_roundw
      case rel => exact ⟨n + 1, by go_num, by omega, by omega, hps, hkp⟩
      case measure => simp [intOf]; omega
    · have HNN : Hid (n = i + L) := (by omega : n = i + L)
      have hd : decide ((n : Int) < (fs.size : Int)) = false := by have := HSZ.out; simp; omega
      have hnl : ¬ n < fs.size := by have := HSZ.out; omega
      have hgt : decide ((i : Int) < (n : Int)) = true := by simp; omega
      have hgt2 : i < n := by omega
      have hsl : ∀ w, (Instr.slice 9 (.string fs) (some (.int .i64 i)) (some (.int .i64 n)) none).run Tryz.prog w = .ok (.string sub) w := by rw [HNN.out]; exact HSL.out
      have HPD : Hid (Ps K wr.drew p o 0) := hps.out.below (Below.refl _ _).drew
      have HKD : Hid (Kp K w wr.drew) := hkp.out.drewN 1
      clear hlt hn1 hn2
      go_upto_region 12 with fail
      refine wp_mono (Q := Exit.then (fun a' w' => Frm p fs v k n a' ∧ Hid (Ps K w' p (o ++ x) 0) ∧ Hid (Kp K w w')) fun _ _ _ => False) ?_ ?_
      · go_region_with (go_at_call 113; refine (writeS_ps sub x HSUB.out HX.out.nm hssz HPD.out HG.out).mono ?_; rintro e w3 ⟨rfl, h3, hb3⟩)
        all_goals
          (try go_wp2_with fail)
          exact ⟨⟨rfl, rfl, rfl, rfl, rfl, rfl, rfl, rfl⟩, h3, HKD.out.trans hb3⟩
      · intro e a' w' h
        cases e with
        | normal =>
          have h := Lib.hid h
          go_wp2_with fail
          have := HNN.out
          subst this
          exact HQ.out _ _ h.out.1 h.out.2.1.out h.out.2.2.out
        | exit _ => exact h.elim
        | goto _ => exact h.elim
        | ret => exact h.elim
        | panic _ => exact h.elim
        | outgrown => exact h.elim
set_option maxHeartbeats 4000000 in
set_option maxRecDepth 1000000 in
theorem scan_pct (T : Code) (o x : List Nat) (rest : List UInt8) (L : Nat) (hI : Frm p fs v k i a) (hfs : fs.size ≤ 10000) (hL : (encs x).length = L) (hL0 : 0 < L) (hi : i + L < fs.size) (hdrop : fs.data.toList.drop i = encs x ++ 37 :: rest) (hx : Pce x) (hps : Ps K w p o 0) (hg : GoodT o 40000)
    (hQ : ∀ a' w', Frm p fs v k ((i + L : Nat) : Int) a' → Ps K w' p (o ++ x) 0 → Kp K w w' → T.wp Tryz.prog Q a' w') : (cScan T).wp Tryz.prog Q a w := by
  have HPC : Hid (fs.data.toList.drop (i + L) = 37 :: rest) := by
    show _ = _
    rw [← List.drop_drop, hdrop]; exact List.drop_left' hL
  have HX := Lib.hid hx; clear hx
  have HG := Lib.hid hg; clear hg
  obtain ⟨sub, hsl, hsub⟩ := sub_run fs i (i + L) (encs x) _ hdrop (by omega) (by omega)
  have HSL := Lib.hid hsl; clear hsl
  have HSZ := Lib.hid hi
  have hle : i + L ≤ fs.size := by omega
  have HSUB := Lib.hid hsub
  have hssz : sub.size ≤ 1000 := by rw [Lib.size_eq, hsub]; have := HX.out.le; omega
  clear hsub
  have HNP : Hid (∀ n, i ≤ n → n < i + L → (((fs.data.toList.getD n 0).toNat : Int) == 37) = false) := fun n h1 h2 => pct_no hdrop HX.out.np h1 (by omega)
  have HL := Lib.hid hL
  have HDR := Lib.hid hdrop
  clear hdrop hL hi
  have HQ := Lib.hid hQ; clear hQ
  have HPS := Lib.hid hps; clear hps
  obtain ⟨b87, c87⟩ := HPS.out.er 87 (by decide) (by decide)
  have f87 := HPS.out.fz 87
  obtain ⟨f, rfl, h0, h1, h2, h6, h7, h9⟩ := hI.lit
  rw [h0, h1, h2, h6, h7, h9]
  clear hI h0 h1 h2 h6 h7 h9
  show Code.wp Tryz.prog (.seq (.region 7 _ _) (.seq (.region 8 _ _) (.seq (.block 2 _) (.seq (.seq (.region 11 _ _) (.cond _ (.region 12 _ _) .skip)) T)))) _ _ _
  go_wp2_with fail
  clear c87 f87
  go_loopw [9] (fun iv wx => ∃ n : Nat, iv = .int .i64 n ∧ i ≤ n ∧ n ≤ i + L ∧ Hid (Ps K wx p o 0) ∧ Hid (Kp K w wx))
    (fun iv _ => i + L - (intOf iv).toNat)
  case atStart => exact ⟨i, rfl, Nat.le_refl _, Nat.le_add_right _ _, HPS.out.setB 87 true (.inr ⟨by decide, by decide⟩), (Kp.refl K w).setCell HPS.out.hp _ _⟩
  case round =>
    obtain ⟨n, rfl, hn1, hn2, hps, hkp⟩ := hrel
    by_cases hlt : n < i + L
    · have hix := idx_run fs n (by omega)
      have hb37 := HNP.out n hn1 hlt
      obtain ⟨bb, hbb⟩ : ∃ bb : Int, ((fs.data.toList.getD n 0).toNat : Int) = bb := ⟨_, rfl⟩
      simp only [hbb] at hix hb37
      clear hbb
      have hd : decide ((n : Int) < (fs.size : Int)) = true := by simp; omega
      go_wp2_with fail
      go_roundw
      case rel => exact ⟨n + 1, by go_num, by omega, by omega, hps, hkp⟩
      case measure => simp [intOf]; omega
    · have HNN : Hid (n = i + L) := (by omega : n = i + L)
      have hd : decide ((n : Int) < (fs.size : Int)) = true := by have := HSZ.out; simp; omega
      have hnl : n < fs.size := by have := HSZ.out; omega
      have hix : ∀ w, (Instr.index 9 (.string fs) (.int .i64 n)).run Tryz.prog w = .ok (.int .u8 37) w := by
        have h := idx_run fs n hnl
        have h2 := (at_drop HPC.out).1
        rw [← HNN.out] at h2
        rw [h2] at h
        exact h
      have hgt : decide ((i : Int) < (n : Int)) = true := by simp; omega
      have hgt2 : i < n := by omega
      have hsl : ∀ w, (Instr.slice 9 (.string fs) (some (.int .i64 i)) (some (.int .i64 n)) none).run Tryz.prog w = .ok (.string sub) w := by rw [HNN.out]; exact HSL.out
      have HPD : Hid (Ps K wr.drew p o 0) := hps.out.below (Below.refl _ _).drew
      have HKD : Hid (Kp K w wr.drew) := hkp.out.drewN 1
      clear hlt hn1 hn2
      go_upto_region 12 with fail
      refine wp_mono (Q := Exit.then (fun a' w' => Frm p fs v k n a' ∧ Hid (Ps K w' p (o ++ x) 0) ∧ Hid (Kp K w w')) fun _ _ _ => False) ?_ ?_
      · go_region_with (go_at_call 113; refine (writeS_ps sub x HSUB.out HX.out.nm hssz HPD.out HG.out).mono ?_; rintro e w3 ⟨rfl, h3, hb3⟩)
        all_goals
          (try go_wp2_with fail)
          exact ⟨⟨rfl, rfl, rfl, rfl, rfl, rfl, rfl, rfl⟩, h3, HKD.out.trans hb3⟩
      · intro e a' w' h
        cases e with
        | normal =>
          have h := Lib.hid h
          go_wp2_with fail
          have := HNN.out
          subst this
          exact HQ.out _ _ h.out.1 h.out.2.1.out h.out.2.2.out
        | exit _ => exact h.elim
        | goto _ => exact h.elim
        | ret => exact h.elim
        | panic _ => exact h.elim
        | outgrown => exact h.elim
set_option maxHeartbeats 4000000 in
set_option maxRecDepth 1000000 in
theorem scan_none (T : Code) (o : List Nat) (rest : List UInt8) (hI : Frm p fs v k i a) (hi : i < fs.size) (hdrop : fs.data.toList.drop i = 37 :: rest) (hps : Ps K w p o 0)
    (hQ : ∀ a' w', Frm p fs v k i a' → Ps K w' p o 0 → Kp K w w' → T.wp Tryz.prog Q a' w') : (cScan T).wp Tryz.prog Q a w := by
  have hix : ∀ w, (Instr.index 9 (.string fs) (.int .i64 i)).run Tryz.prog w = .ok (.int .u8 37) w := by
    have h := idx_run fs i hi
    rw [(at_drop hdrop).1] at h
    exact h
  have hd : decide ((i : Int) < (fs.size : Int)) = true := by simp; omega
  clear hdrop
  have HQ := Lib.hid hQ; clear hQ
  have HPS := Lib.hid hps; clear hps
  obtain ⟨b87, c87⟩ := HPS.out.er 87 (by decide) (by decide)
  have f87 := HPS.out.fz 87
  obtain ⟨f, rfl, h0, h1, h2, h6, h7, h9⟩ := hI.lit
  rw [h0, h1, h2, h6, h7, h9]
  clear hI h0 h1 h2 h6 h7 h9
  show Code.wp Tryz.prog (.seq (.region 7 _ _) (.seq (.region 8 _ _) (.seq (.block 2 _) (.seq (.seq (.region 11 _ _) (.cond _ (.region 12 _ _) .skip)) T)))) _ _ _
  go_wp2_with fail
  refine wp_loop_rounds 1 ?_
  rw [rounds_succ]
  go_wp2_with fail
  exact HQ.out _ _ ⟨rfl, rfl, rfl, rfl, rfl, rfl, rfl, rfl⟩ (HPS.out.setB 87 true (.inr ⟨by decide, by decide⟩)) ((Kp.refl K w).setCell HPS.out.hp _ _)
set_option maxHeartbeats 4000000 in
set_option maxRecDepth 1000000 in
theorem verb_115 (T : Code) (o : List Nat) (g : List Nat → List Nat) (xs : List Value) (rest : List UInt8) (n : Nat) (hI : Frm p fs v k n a) (hfs : fs.size ≤ 10000) (hxl : xs.length ≤ 100) (hk : k < xs.length) (hv : IfAt K w v xs) (hn : n + 1 < fs.size) (hdrop : fs.data.toList.drop (n + 1) = 115 :: rest) (hps : Ps K w p o 0) (hg : GoodT o 40000)
    (hok : ∀ o w, Ps K w p o 0 → GoodT o 40000 → Calls Tryz.prog 104 #[.pointer (some ⟨p, 0, none⟩), xs[k]'hk, .int .i32 115] w (PsQ K p w (g o) 0))
    (hQ : ∀ a' w', Frm p fs v ((k : Int) + 1) ((n : Int) + 1 + 1) a' → Ps K w' p (g o) 0 → Kp K w w' → Q (.exit 1) a' w') : (cVerb T).wp Tryz.prog Q a w := by
  have HQ := Lib.hid hQ; clear hQ
  have HPS := Lib.hid hps; clear hps
  have HG := Lib.hid hg; clear hg
  have hal := hv.len 3
  obtain ⟨qa, hqi, hqc⟩ := hv.at_ k hk
  have HV := Lib.hid hv; clear hv
  have HQC := Lib.hid hqc; clear hqc
  obtain ⟨xv, hxv⟩ : ∃ xv, xs[k]'hk = xv := ⟨_, rfl⟩
  rw [hxv] at HQC hok
  have HOK := Lib.hid hok; clear hok hxv
  have hka : decide ((k : Int) < (xs.length : Int)) = true := by simp; omega
  have hix := idx_run fs (n + 1) hn
  rw [(at_drop hdrop).1] at hix
  rw [show ((n + 1 : Nat) : Int) = (n : Int) + 1 by omega] at hix
  have hd : decide ((n : Int) + 1 < (fs.size : Int)) = true := by simp; omega
  have hd2 : (n : Int) + 1 < (fs.size : Int) := by omega
  have hix : ∀ w, (Instr.index 9 (.string fs) (.int .i64 ((n : Int) + 1))).run Tryz.prog w = .ok (.int .u8 115) w := hix
  clear hdrop
  obtain ⟨f, rfl, h0, h1, h2, h6, h7, h9⟩ := hI.lit
  rw [h0, h1, h2, h6, h7, h9]
  clear hI h0 h1 h2 h6 h7 h9
  show Code.wp Tryz.prog (.seq (.region 14 _ _) (.seq (.region 15 _ _) (.seq (.label 1) (.seq (.block 4 _) T)))) _ _ _
  go_wp2_with fail
  refine (clearflags_ps HPS.out).mono ?_
  rintro e w2 ⟨rfl, h2, hk2⟩
  go_wp2_with fail
  go_step3
  go_wp2_with fail
  refine wp_loop_rounds 1 ?_
  rw [rounds_succ]
  have hc := HQC.out w2 (HV.out.kp hk2)
  go_wp2_with fail
  refine (HOK.out o _ h2.out HG.out).mono ?_
  rintro e w3 ⟨rfl, h3, hk3⟩
  go_wp2_with fail
  exact HQ.out _ _ ⟨rfl, rfl, rfl, rfl, rfl, rfl, rfl, rfl⟩ h3.out (hk2.trans hk3)
set_option maxHeartbeats 4000000 in
set_option maxRecDepth 1000000 in
theorem verb_100 (T : Code) (o : List Nat) (g : List Nat → List Nat) (xs : List Value) (rest : List UInt8) (n : Nat) (hI : Frm p fs v k n a) (hfs : fs.size ≤ 10000) (hxl : xs.length ≤ 100) (hk : k < xs.length) (hv : IfAt K w v xs) (hn : n + 1 < fs.size) (hdrop : fs.data.toList.drop (n + 1) = 100 :: rest) (hps : Ps K w p o 0) (hg : GoodT o 40000)
    (hok : ∀ o w, Ps K w p o 0 → GoodT o 40000 → Calls Tryz.prog 104 #[.pointer (some ⟨p, 0, none⟩), xs[k]'hk, .int .i32 100] w (PsQ K p w (g o) 0))
    (hQ : ∀ a' w', Frm p fs v ((k : Int) + 1) ((n : Int) + 1 + 1) a' → Ps K w' p (g o) 0 → Kp K w w' → Q (.exit 1) a' w') : (cVerb T).wp Tryz.prog Q a w := by
  have HQ := Lib.hid hQ; clear hQ
  have HPS := Lib.hid hps; clear hps
  have HG := Lib.hid hg; clear hg
  have hal := hv.len 3
  obtain ⟨qa, hqi, hqc⟩ := hv.at_ k hk
  have HV := Lib.hid hv; clear hv
  have HQC := Lib.hid hqc; clear hqc
  obtain ⟨xv, hxv⟩ : ∃ xv, xs[k]'hk = xv := ⟨_, rfl⟩
  rw [hxv] at HQC hok
  have HOK := Lib.hid hok; clear hok hxv
  have hka : decide ((k : Int) < (xs.length : Int)) = true := by simp; omega
  have hix := idx_run fs (n + 1) hn
  rw [(at_drop hdrop).1] at hix
  rw [show ((n + 1 : Nat) : Int) = (n : Int) + 1 by omega] at hix
  have hd : decide ((n : Int) + 1 < (fs.size : Int)) = true := by simp; omega
  have hd2 : (n : Int) + 1 < (fs.size : Int) := by omega
  have hix : ∀ w, (Instr.index 9 (.string fs) (.int .i64 ((n : Int) + 1))).run Tryz.prog w = .ok (.int .u8 100) w := hix
  clear hdrop
  obtain ⟨f, rfl, h0, h1, h2, h6, h7, h9⟩ := hI.lit
  rw [h0, h1, h2, h6, h7, h9]
  clear hI h0 h1 h2 h6 h7 h9
  show Code.wp Tryz.prog (.seq (.region 14 _ _) (.seq (.region 15 _ _) (.seq (.label 1) (.seq (.block 4 _) T)))) _ _ _
  go_wp2_with fail
  refine (clearflags_ps HPS.out).mono ?_
  rintro e w2 ⟨rfl, h2, hk2⟩
  go_wp2_with fail
  go_step3
  go_wp2_with fail
  refine wp_loop_rounds 1 ?_
  rw [rounds_succ]
  have hc := HQC.out w2 (HV.out.kp hk2)
  go_wp2_with fail
  refine (HOK.out o _ h2.out HG.out).mono ?_
  rintro e w3 ⟨rfl, h3, hk3⟩
  go_wp2_with fail
  exact HQ.out _ _ ⟨rfl, rfl, rfl, rfl, rfl, rfl, rfl, rfl⟩ h3.out (hk2.trans hk3)
set_option maxHeartbeats 4000000 in
set_option maxRecDepth 1000000 in
theorem verb_118 (T : Code) (o : List Nat) (g : List Nat → List Nat) (xs : List Value) (rest : List UInt8) (n : Nat) (hI : Frm p fs v k n a) (hfs : fs.size ≤ 10000) (hxl : xs.length ≤ 100) (hk : k < xs.length) (hv : IfAt K w v xs) (hn : n + 1 < fs.size) (hdrop : fs.data.toList.drop (n + 1) = 118 :: rest) (hps : Ps K w p o 0) (hg : GoodT o 40000)
    (hok : ∀ o w, Ps K w p o 0 → GoodT o 40000 → Calls Tryz.prog 104 #[.pointer (some ⟨p, 0, none⟩), xs[k]'hk, .int .i32 118] w (PsQ K p w (g o) 0))
    (hQ : ∀ a' w', Frm p fs v ((k : Int) + 1) ((n : Int) + 1 + 1) a' → Ps K w' p (g o) 0 → Kp K w w' → Q (.exit 1) a' w') : (cVerb T).wp Tryz.prog Q a w := by
  have HQ := Lib.hid hQ; clear hQ
  have HPS := Lib.hid hps; clear hps
  have HG := Lib.hid hg; clear hg
  have hal := hv.len 3
  obtain ⟨qa, hqi, hqc⟩ := hv.at_ k hk
  have HV := Lib.hid hv; clear hv
  have HQC := Lib.hid hqc; clear hqc
  obtain ⟨xv, hxv⟩ : ∃ xv, xs[k]'hk = xv := ⟨_, rfl⟩
  rw [hxv] at HQC hok
  have HOK := Lib.hid hok; clear hok hxv
  have hka : decide ((k : Int) < (xs.length : Int)) = true := by simp; omega
  have hix := idx_run fs (n + 1) hn
  rw [(at_drop hdrop).1] at hix
  rw [show ((n + 1 : Nat) : Int) = (n : Int) + 1 by omega] at hix
  have hd : decide ((n : Int) + 1 < (fs.size : Int)) = true := by simp; omega
  have hd2 : (n : Int) + 1 < (fs.size : Int) := by omega
  have hix : ∀ w, (Instr.index 9 (.string fs) (.int .i64 ((n : Int) + 1))).run Tryz.prog w = .ok (.int .u8 118) w := hix
  clear hdrop
  obtain ⟨f, rfl, h0, h1, h2, h6, h7, h9⟩ := hI.lit
  rw [h0, h1, h2, h6, h7, h9]
  clear hI h0 h1 h2 h6 h7 h9
  show Code.wp Tryz.prog (.seq (.region 14 _ _) (.seq (.region 15 _ _) (.seq (.label 1) (.seq (.block 4 _) T)))) _ _ _
  go_wp2_with fail
  refine (clearflags_ps HPS.out).mono ?_
  rintro e w2 ⟨rfl, h2, hk2⟩
  go_wp2_with fail
  go_step3
  go_wp2_with fail
  refine wp_loop_rounds 1 ?_
  rw [rounds_succ]
  have hpK := h2.out.hp
  have c10 := h2.out.fl 10 (by decide) (by decide)
  have c11 := h2.out.fl 11 (by decide) (by decide)
  have c14 := h2.out.fl 14 (by decide) (by decide)
  have c15 := h2.out.fl 15 (by decide) (by decide)
  have f10 := h2.out.fz 10
  have f11 := h2.out.fz 11
  have f14 := h2.out.fz 14
  have f15 := h2.out.fz 15
  have hkw : Kp K w ((((w2.setCell ⟨p, 15, none⟩ (.bool false)).setCell ⟨p, 11, none⟩ (.bool false)).setCell ⟨p, 14, none⟩ (.bool false)).setCell ⟨p, 10, none⟩ (.bool false)) := (((hk2.setCell hpK 15 (.bool false)).setCell hpK 11 (.bool false)).setCell hpK 14 (.bool false)).setCell hpK 10 (.bool false)
  have hc := HQC.out _ (HV.out.kp hkw)
  have HKW := Lib.hid hkw; clear hkw
  have s : ∀ {w : World} (i : Nat), 7 ≤ i → i < 16 → Ps K w p o 0 → Ps K (w.setCell ⟨p, i, none⟩ (.bool false)) p o 0 := fun i h1 h2 h => h.setB i false (.inl ⟨h1, h2, rfl⟩)
  have HPW : Hid (Ps K ((((w2.setCell ⟨p, 15, none⟩ (.bool false)).setCell ⟨p, 11, none⟩ (.bool false)).setCell ⟨p, 14, none⟩ (.bool false)).setCell ⟨p, 10, none⟩ (.bool false)) p o 0) := s 10 (by decide) (by decide) (s 14 (by decide) (by decide) (s 11 (by decide) (by decide) (s 15 (by decide) (by decide) h2.out)))
  clear s hpK
  go_wp2_with fail
  refine (HOK.out o _ HPW.out HG.out).mono ?_
  rintro e w3 ⟨rfl, h3, hk3⟩
  go_wp2_with fail
  exact HQ.out _ _ ⟨rfl, rfl, rfl, rfl, rfl, rfl, rfl, rfl⟩ h3.out (HKW.out.trans hk3)
end
end Go.Proofs.YtlmcglaajmjanaaGreatDoor
