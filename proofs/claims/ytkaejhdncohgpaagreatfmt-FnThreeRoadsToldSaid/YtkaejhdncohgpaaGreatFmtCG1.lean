/- Walk: printTokens, what it does by a token's kind. -/
import Derived.Test.YtkaejhdncohgpaaGreatFmtCY
namespace Go.Proofs.YtkaejhdncohgpaaGreatFmt
set_option linter.all false
open Go.RowKit Go.Lib
set_option maxRecDepth 100000
set_option maxHeartbeats 8000000

noncomputable def cl : Code → Code | .seq x _ => x | c => c
noncomputable def cr : Code → Code | .seq _ x => x | c => c
noncomputable def cb : Code → Code | .block _ x => x | c => c
noncomputable def co : Code → Code | .loop x => x | c => c
/-- What printQuoted does. -/
def QuotC (F : Go.Stop.Interp) : Prop := ∀ (G g : Nat) (m a : Bool) (v : Value) (css : List UInt8) (w : World) (s : ByteArray) (cs : List Int), Pn F G w g m a v css → (∀ c ∈ cs, Scal c) → s.data.toList = encs cs → css.length + 8 * s.size + 200 ≤ 140737488355328 →
    Calls Tryz.prog 76 #[.pointer (some ⟨g, 0, none⟩), .string s, .int .u8 0] w fun e w' => e = .returned (.tuple #[]) ∧ Wr F G g m a v w (css ++ quotP a cs) w'
theorem extr_tl (s : ByteArray) (A B : List Int) (h : s.data.toList = encs (A ++ B)) : (s.extract 0 (encs A).length).data.toList = encs A ∧ (s.extract (encs A).length s.size).data.toList = encs B ∧ (encs A).length + (encs B).length = s.size := by
  rw [encs_app] at h
  have hz : (encs A).length + (encs B).length = s.size := by
    have : s.data.toList.length = _ := congrArg List.length h
    simp at this; omega
  refine ⟨?_, ?_, hz⟩
  · simp [ByteArray.data_extract, List.extract_eq_take_drop, h]
  · rw [ByteArray.data_extract, Array.toList_extract, List.extract_eq_take_drop, h, List.drop_left, List.take_of_length_le (by omega)]
/-- The round of printTokens from the kind's block on. -/
noncomputable def t78 : Code := cr (cr (cr (cr (cr (cr (cr (cr (cb (cl (cr (cr (co (cb (cr (cl (cr (cr (cr (cr (cr (Tryz.f78.body.getD .skip)))))))))))))))))))))

theorem kinds_x (F : Go.Stop.Interp) (uq : Bool) (G g : Nat) (m a : Bool) (B : Nat) (pq : Option Addr) (s : ByteArray) (lc pl un k ws : Int) (vx : Value) (cs0 : List UInt8) (tx : List Int) (nw : Bool) (wi : Int) (wc : World)
    (HA : Hid (Pn F G wc g m a vx cs0)) (HBL : Hid (wc.heap[B]? = some (.cells #[.pointer pq, .string s, .int .i32 lc, .int .u32 pl, .int .u16 un, .int .u8 k, .int .u8 ws] 100))) (hgB : g ≠ B) (HVB : Hid (vx.ownBlock ≠ some B)) (HWI : Hid ((if nw = true then (0 : Int) else 1) = wi))
    (hk : KOk uq k) (hQC : uq = true → QuotC F) (HUN : Hid (k = 26 → 0 ≤ un ∧ un < 65536 ∧ un.toNat = (encs (spl un.toNat tx).1).length)) (HSC : Hid (∀ c ∈ tx, Scal c)) (HSE : Hid (s.data.toList = encs tx)) (hbb : Hid (cs0.length + 8 * s.size + 200 ≤ 140737488355328))
    {a1 a2 a3 a4 a5 a9 a10 a11 a12 a13 a16 a17 a18 a19 a20 a21 a22 a23 a24 a25 a26 a27 a28 a29 a30 a31 a32 a33 a34 a35 a36 a37 a38 a39 a40 a41 a42 a43 a44 a45 a46 a47 a48 a49 a50 a51 a52 a53 a54 a55 a56 a57 a58 a59 a60 a61 a62 a63 a64 a65 a66 a67 a68 a69 a70 a71 a72 a73 a74 a75 a76 a77 a78 a79 a80 a81 a82 a83 a84 a85 a86 a87 a88 a89 a90 a91 a92 a93 a94 a95 a96 a97 a98 a99 a100 a101 a102 a103 a104 a105 a106 a107 a108 a109 a110 a111 a112 a113 a114 a115 a116 a117 a118 a119 a120 a121 a122 a123 a124 a125 a126 a127 a128 a129 a130 a131 a132 a133 a134 a135 a136 a137 a138 a139 a140 a141 a142 a143 a144 a145 a146 a147 a148 a149 a150 a151 a152 a153 a154 a155 a156 a157 a158 a159 a160 a161 a162 a163 a164 a165 a166 a167 a168 a170 a171 a172 a173 a174 a175 a176 a177 a178 a179 a180 a181 a182 a183 a184 a185 a186 a187 a188 a189 a190 a191 a192 a193 a194 a195 a196 a197 a198 a199 a200 a201 a202 a203 a204 a205 a206 a207 a208 a209 a210 a211 a212 a213 a214 a215 a216 a217 a218 a219 a220 a221 a222 a223 a224 a225 a226 a227 a228 a229 a230 a231 a232 a233 a234 a235 a236 a237 a238 a239 a240 a241 a242 a243 a244 a245 a246 a247 a248 a249 a250 a251 a252 a253 a254 a255 a256 a257 a258 a259 a260 a261 a262 a263 a264 a265 a266 a267 a268 a269 a270 a271 a272 a273 a274 a275 a276 a277 a278 a279 a280 a281 a282 a283 a284 a285 a286 a287 a288 a289 a290 a291 a292 a293 a294 a295 a296 a297 a298 a299 a300 a301 a302 a303 a304 a305 a306 a307 a308 a309 a310 a311 a312 a313 a314 a315 a316 a317 a318 a319 a320 a321 a322 a323 a324 a325 a326 a327 a328 a329 a330 a331 a332 a333 a334 a335 a336 a337 a338 a339 a340 a341 a342 a343 a344 a345 a346 a347 a348 a349 a350 a351 a352 a353 a354 a355 a356 a357 a358 a359 a360 a361 a362 a363 a364 a365 a366 a367 a368 a369 a370 a371 a372 a373 a374 a375 a376 a377 a378 a379 a380 a381 a382 a383 : Value} (K' : Act → World → Prop) (X : Exit → Act → World → Prop)
    (hK : ∀ (b16 b17 b18 b19 b20 b21 b22 b73 b74 b75 b76 b77 b78 b79 b80 b81 b82 b83 b84 b85 b86 b87 b88 b89 b90 b91 b92 b93 b94 b95 b96 b97 b98 b99 b100 b101 b102 b103 b104 b105 b106 b107 b108 b109 b110 b111 b112 b113 b114 b115 b116 b117 b118 b119 b120 b121 b122 b123 b124 b125 b126 b127 b128 b129 b130 b131 b132 b133 b134 b135 b136 b137 b138 b139 b140 b141 b142 b143 b144 b145 b146 b147 b148 b149 b150 b151 b152 b153 b154 b155 b156 b157 b158 b159 b160 b161 b162 b163 b164 b165 b166 b167 b168 b170 b171 b172 b173 b174 b175 b176 b177 b178 b179 b180 b181 b182 b183 b184 b185 b186 b187 b188 b189 b190 b191 b192 b193 b194 b195 b196 b197 b198 b199 b200 b201 b202 b203 b204 b205 b206 b207 b208 b209 b210 b211 b212 b213 b214 b215 b216 b217 b218 b219 b220 b221 b222 b223 b224 b225 b226 b227 b228 b229 b230 b231 b232 b233 b234 b235 b236 b237 b238 b239 b240 b241 b242 b243 b244 b245 b246 b247 b248 b249 b250 b251 b252 b253 b254 b255 b256 b257 b258 b259 b260 b261 b262 b263 b264 b265 b266 b267 b268 b269 b270 b271 b272 b273 b274 b275 b276 b277 b278 b279 b280 b281 b282 b283 b284 b285 b286 b287 b288 b289 b290 b291 b292 b293 b294 b295 b296 b297 b298 b299 b300 b301 b302 b303 b304 b305 b306 b307 b308 b309 b310 b311 b312 b313 b314 b315 b316 b317 b318 b319 b320 b321 b322 b323 b324 b325 b326 b327 b328 b329 b330 b331 b332 b333 b334 b335 b336 b337 b338 b339 b340 b341 b342 b343 b344 b345 b346 b347 b348 b349 b350 b351 b352 b353 b354 b355 b356 b357 b358 b359 b360 b361 b364 b365 b366 b368 b369 b370 b372 b373 b374 b376 b377 b378 b379 : Value) (w' : World), (∃ vy, StA F G g m a vx wc (cs0 ++ coreT a nw k tx un) w' vy) → K' ⟨#[.pointer (some ⟨g, 0, none⟩), a1, a2, a3, a4, a5, .bool false, .bool nw, .int .i64 0, a9, a10, a11, a12, a13, .pointer (some ⟨B, 0, none⟩), .int .u8 wi, b16, b17, b18, b19, b20, b21, b22, a23, a24, a25, a26, a27, a28, a29, a30, a31, a32, a33, a34, a35, a36, a37, a38, a39, a40, a41, a42, a43, a44, a45, a46, a47, a48, a49, a50, a51, a52, a53, a54, a55, a56, a57, a58, a59, a60, a61, a62, a63, a64, a65, a66, a67, a68, a69, a70, a71, a72, b73, b74, b75, b76, b77, b78, b79, b80, b81, b82, b83, b84, b85, b86, b87, b88, b89, b90, b91, b92, b93, b94, b95, b96, b97, b98, b99, b100, b101, b102, b103, b104, b105, b106, b107, b108, b109, b110, b111, b112, b113, b114, b115, b116, b117, b118, b119, b120, b121, b122, b123, b124, b125, b126, b127, b128, b129, b130, b131, b132, b133, b134, b135, b136, b137, b138, b139, b140, b141, b142, b143, b144, b145, b146, b147, b148, b149, b150, b151, b152, b153, b154, b155, b156, b157, b158, b159, b160, b161, b162, b163, b164, b165, b166, b167, b168, .int .u8 k, b170, b171, b172, b173, b174, b175, b176, b177, b178, b179, b180, b181, b182, b183, b184, b185, b186, b187, b188, b189, b190, b191, b192, b193, b194, b195, b196, b197, b198, b199, b200, b201, b202, b203, b204, b205, b206, b207, b208, b209, b210, b211, b212, b213, b214, b215, b216, b217, b218, b219, b220, b221, b222, b223, b224, b225, b226, b227, b228, b229, b230, b231, b232, b233, b234, b235, b236, b237, b238, b239, b240, b241, b242, b243, b244, b245, b246, b247, b248, b249, b250, b251, b252, b253, b254, b255, b256, b257, b258, b259, b260, b261, b262, b263, b264, b265, b266, b267, b268, b269, b270, b271, b272, b273, b274, b275, b276, b277, b278, b279, b280, b281, b282, b283, b284, b285, b286, b287, b288, b289, b290, b291, b292, b293, b294, b295, b296, b297, b298, b299, b300, b301, b302, b303, b304, b305, b306, b307, b308, b309, b310, b311, b312, b313, b314, b315, b316, b317, b318, b319, b320, b321, b322, b323, b324, b325, b326, b327, b328, b329, b330, b331, b332, b333, b334, b335, b336, b337, b338, b339, b340, b341, b342, b343, b344, b345, b346, b347, b348, b349, b350, b351, b352, b353, b354, b355, b356, b357, b358, b359, b360, b361, a362, a363, b364, b365, b366, a367, b368, b369, b370, a371, b372, b373, b374, a375, b376, b377, b378, b379, a380, a381, a382, a383], []⟩ w') :
    Code.wp Tryz.prog (cr (cl t78)) (Exit.then K' X) ⟨#[.pointer (some ⟨g, 0, none⟩), a1, a2, a3, a4, a5, .bool false, .bool nw, .int .i64 0, a9, a10, a11, a12, a13, .pointer (some ⟨B, 0, none⟩), .int .u8 wi, a16, a17, a18, a19, a20, a21, a22, a23, a24, a25, a26, a27, a28, a29, a30, a31, a32, a33, a34, a35, a36, a37, a38, a39, a40, a41, a42, a43, a44, a45, a46, a47, a48, a49, a50, a51, a52, a53, a54, a55, a56, a57, a58, a59, a60, a61, a62, a63, a64, a65, a66, a67, a68, a69, a70, a71, a72, a73, a74, a75, a76, a77, a78, a79, a80, a81, a82, a83, a84, a85, a86, a87, a88, a89, a90, a91, a92, a93, a94, a95, a96, a97, a98, a99, a100, a101, a102, a103, a104, a105, a106, a107, a108, a109, a110, a111, a112, a113, a114, a115, a116, a117, a118, a119, a120, a121, a122, a123, a124, a125, a126, a127, a128, a129, a130, a131, a132, a133, a134, a135, a136, a137, a138, a139, a140, a141, a142, a143, a144, a145, a146, a147, a148, a149, a150, a151, a152, a153, a154, a155, a156, a157, a158, a159, a160, a161, a162, a163, a164, a165, a166, a167, a168, .int .u8 k, a170, a171, a172, a173, a174, a175, a176, a177, a178, a179, a180, a181, a182, a183, a184, a185, a186, a187, a188, a189, a190, a191, a192, a193, a194, a195, a196, a197, a198, a199, a200, a201, a202, a203, a204, a205, a206, a207, a208, a209, a210, a211, a212, a213, a214, a215, a216, a217, a218, a219, a220, a221, a222, a223, a224, a225, a226, a227, a228, a229, a230, a231, a232, a233, a234, a235, a236, a237, a238, a239, a240, a241, a242, a243, a244, a245, a246, a247, a248, a249, a250, a251, a252, a253, a254, a255, a256, a257, a258, a259, a260, a261, a262, a263, a264, a265, a266, a267, a268, a269, a270, a271, a272, a273, a274, a275, a276, a277, a278, a279, a280, a281, a282, a283, a284, a285, a286, a287, a288, a289, a290, a291, a292, a293, a294, a295, a296, a297, a298, a299, a300, a301, a302, a303, a304, a305, a306, a307, a308, a309, a310, a311, a312, a313, a314, a315, a316, a317, a318, a319, a320, a321, a322, a323, a324, a325, a326, a327, a328, a329, a330, a331, a332, a333, a334, a335, a336, a337, a338, a339, a340, a341, a342, a343, a344, a345, a346, a347, a348, a349, a350, a351, a352, a353, a354, a355, a356, a357, a358, a359, a360, a361, a362, a363, a364, a365, a366, a367, a368, a369, a370, a371, a372, a373, a374, a375, a376, a377, a378, a379, a380, a381, a382, a383], []⟩ wc := by
  have hE : Hid (StA F G g m a vx wc cs0 wc vx) := Lib.hid ⟨HA.out, Stp.refl _ _ _⟩
  obtain ⟨y3, y5, y6, y7, y9, y15, yf⟩ := HA.out.pr.f
  have hlt := HA.out.pr.lt
  obtain ⟨d0, d1, d2, d3, d4, d5, d6⟩ := cells7 HBL.out
  have HK := Lib.hid hK
  clear hK
  conv => arg 2; whnf
  have hC0 : ∀ (wx : World) (vy : Value) (cs : List UInt8), Pn F G wx g m a vy cs → cs.length + 8 * s.size + 100 ≤ 140737488355328 → Calls Tryz.prog 80 #[.pointer (some ⟨g, 0, none⟩), .string s, .int .u8 0, .int .u8 wi] wx fun e w' => e = .returned (.tuple #[]) ∧ Wr F G g m a vy wx (cs ++ identP a nw (iniE 0 tx) tx) w' := fun wx vy cs hp hl => by
    have := Ident0_n nw s tx hp HSC.out HSE.out hl
    rw [HWI.out] at this; exact this
  have hC1 : ∀ (wx : World) (vy : Value) (cs : List UInt8), Pn F G wx g m a vy cs → cs.length + 8 * s.size + 100 ≤ 140737488355328 → Calls Tryz.prog 80 #[.pointer (some ⟨g, 0, none⟩), .string s, .int .u8 1, .int .u8 wi] wx fun e w' => e = .returned (.tuple #[]) ∧ Wr F G g m a vy wx (cs ++ identP a nw 0 tx) w' := fun wx vy cs hp hl => by
    have := Ident1_n nw s tx hp HSC.out HSE.out hl
    rw [HWI.out] at this; exact this
  have HC0 := Lib.hid hC0
  have HC1 := Lib.hid hC1
  clear hC0 hC1
  rcases hk with rfl | rfl | rfl | rfl | ⟨hq, rfl⟩ | rfl | hraw
  · as_aux_lemma =>
    go_wp2_with fail
    refine (HC0.out _ _ _ HA.out (by have := hbb.out; omega)).mono ?_
    rintro e w9 ⟨rfl, hw9⟩
    go_wp2_with fail
    exact HK.out _ _ _ _ _ _ _ _ _ _ _ _ _ _ _ _ _ _ _ _ _ _ _ _ _ _ _ _ _ _ _ _ _ _ _ _ _ _ _ _ _ _ _ _ _ _ _ _ _ _ _ _ _ _ _ _ _ _ _ _ _ _ _ _ _ _ _ _ _ _ _ _ _ _ _ _ _ _ _ _ _ _ _ _ _ _ _ _ _ _ _ _ _ _ _ _ _ _ _ _ _ _ _ _ _ _ _ _ _ _ _ _ _ _ _ _ _ _ _ _ _ _ _ _ _ _ _ _ _ _ _ _ _ _ _ _ _ _ _ _ _ _ _ _ _ _ _ _ _ _ _ _ _ _ _ _ _ _ _ _ _ _ _ _ _ _ _ _ _ _ _ _ _ _ _ _ _ _ _ _ _ _ _ _ _ _ _ _ _ _ _ _ _ _ _ _ _ _ _ _ _ _ _ _ _ _ _ _ _ _ _ _ _ _ _ _ _ _ _ _ _ _ _ _ _ _ _ _ _ _ _ _ _ _ _ _ _ _ _ _ _ _ _ _ _ _ _ _ _ _ _ _ _ _ _ _ _ _ _ _ _ _ _ _ _ _ _ _ _ _ _ _ _ _ _ _ _ _ _ _ _ _ _ _ _ _ _ _ _ _ _ _ _ _ _ _ _ _ _ _ _ _ _ _ _ _ _ _ _ (hE.out.go hw9)
  · as_aux_lemma =>
    go_wp2_with fail
    refine (HC0.out _ _ _ HA.out (by have := hbb.out; omega)).mono ?_
    rintro e w9 ⟨rfl, hw9⟩
    obtain ⟨vz, hZ⟩ := hE.out.go hw9
    have HZ := Lib.hid hZ
    clear hw9 hZ
    go_wp2_with fail
    refine (Print_1 HZ.out.pn 40 (by have := hbb.out; have := identP_len a nw (iniE 0 tx) tx HSC.out; have : s.size = (encs tx).length := by rw [← HSE.out]; simp
                                     rw [List.length_append]; omega)).mono ?_
    rintro e w9 ⟨rfl, hw9⟩
    go_wp2_with fail
    exact HK.out _ _ _ _ _ _ _ _ _ _ _ _ _ _ _ _ _ _ _ _ _ _ _ _ _ _ _ _ _ _ _ _ _ _ _ _ _ _ _ _ _ _ _ _ _ _ _ _ _ _ _ _ _ _ _ _ _ _ _ _ _ _ _ _ _ _ _ _ _ _ _ _ _ _ _ _ _ _ _ _ _ _ _ _ _ _ _ _ _ _ _ _ _ _ _ _ _ _ _ _ _ _ _ _ _ _ _ _ _ _ _ _ _ _ _ _ _ _ _ _ _ _ _ _ _ _ _ _ _ _ _ _ _ _ _ _ _ _ _ _ _ _ _ _ _ _ _ _ _ _ _ _ _ _ _ _ _ _ _ _ _ _ _ _ _ _ _ _ _ _ _ _ _ _ _ _ _ _ _ _ _ _ _ _ _ _ _ _ _ _ _ _ _ _ _ _ _ _ _ _ _ _ _ _ _ _ _ _ _ _ _ _ _ _ _ _ _ _ _ _ _ _ _ _ _ _ _ _ _ _ _ _ _ _ _ _ _ _ _ _ _ _ _ _ _ _ _ _ _ _ _ _ _ _ _ _ _ _ _ _ _ _ _ _ _ _ _ _ _ _ _ _ _ _ _ _ _ _ _ _ _ _ _ _ _ _ _ _ _ _ _ _ _ _ _ _ _ _ _ _ _ _ _ _ _ _ _ _ _ (by have := HZ.out.go hw9; rw [List.append_assoc] at this; exact this)
  · as_aux_lemma =>
    go_wp2_with fail
    refine (Print_1 HA.out 64 (by have := hbb.out; omega)).mono ?_
    rintro e w9 ⟨rfl, hw9⟩
    obtain ⟨vz, hZ⟩ := hE.out.go hw9
    have HZ := Lib.hid hZ
    have HBL2 := Lib.hid (keepBlk hZ.st HBL.out hgB HVB.out)
    clear hw9 hZ d0 d1 d2 d3 d4 d5 d6
    obtain ⟨d0, d1, d2, d3, d4, d5, d6⟩ := cells7 HBL2.out
    go_wp2_with fail
    refine (HC0.out _ _ _ HZ.out.pn (by have := hbb.out; rw [List.length_append, List.length_singleton]; omega)).mono ?_
    rintro e w9 ⟨rfl, hw9⟩
    go_wp2_with fail
    exact HK.out _ _ _ _ _ _ _ _ _ _ _ _ _ _ _ _ _ _ _ _ _ _ _ _ _ _ _ _ _ _ _ _ _ _ _ _ _ _ _ _ _ _ _ _ _ _ _ _ _ _ _ _ _ _ _ _ _ _ _ _ _ _ _ _ _ _ _ _ _ _ _ _ _ _ _ _ _ _ _ _ _ _ _ _ _ _ _ _ _ _ _ _ _ _ _ _ _ _ _ _ _ _ _ _ _ _ _ _ _ _ _ _ _ _ _ _ _ _ _ _ _ _ _ _ _ _ _ _ _ _ _ _ _ _ _ _ _ _ _ _ _ _ _ _ _ _ _ _ _ _ _ _ _ _ _ _ _ _ _ _ _ _ _ _ _ _ _ _ _ _ _ _ _ _ _ _ _ _ _ _ _ _ _ _ _ _ _ _ _ _ _ _ _ _ _ _ _ _ _ _ _ _ _ _ _ _ _ _ _ _ _ _ _ _ _ _ _ _ _ _ _ _ _ _ _ _ _ _ _ _ _ _ _ _ _ _ _ _ _ _ _ _ _ _ _ _ _ _ _ _ _ _ _ _ _ _ _ _ _ _ _ _ _ _ _ _ _ _ _ _ _ _ _ _ _ _ _ _ _ _ _ _ _ _ _ _ _ _ _ _ _ _ _ _ _ _ _ _ _ _ _ _ _ _ _ _ _ _ _ (by have := HZ.out.go hw9; rw [List.append_assoc] at this; exact this)
  · as_aux_lemma =>
    go_wp2_with fail
    refine (Print_1 HA.out 35 (by have := hbb.out; omega)).mono ?_
    rintro e w9 ⟨rfl, hw9⟩
    obtain ⟨vz, hZ⟩ := hE.out.go hw9
    have HZ := Lib.hid hZ
    have HBL2 := Lib.hid (keepBlk hZ.st HBL.out hgB HVB.out)
    clear hw9 hZ d0 d1 d2 d3 d4 d5 d6
    obtain ⟨d0, d1, d2, d3, d4, d5, d6⟩ := cells7 HBL2.out
    go_wp2_with fail
    refine (HC1.out _ _ _ HZ.out.pn (by have := hbb.out; rw [List.length_append, List.length_singleton]; omega)).mono ?_
    rintro e w9 ⟨rfl, hw9⟩
    go_wp2_with fail
    exact HK.out _ _ _ _ _ _ _ _ _ _ _ _ _ _ _ _ _ _ _ _ _ _ _ _ _ _ _ _ _ _ _ _ _ _ _ _ _ _ _ _ _ _ _ _ _ _ _ _ _ _ _ _ _ _ _ _ _ _ _ _ _ _ _ _ _ _ _ _ _ _ _ _ _ _ _ _ _ _ _ _ _ _ _ _ _ _ _ _ _ _ _ _ _ _ _ _ _ _ _ _ _ _ _ _ _ _ _ _ _ _ _ _ _ _ _ _ _ _ _ _ _ _ _ _ _ _ _ _ _ _ _ _ _ _ _ _ _ _ _ _ _ _ _ _ _ _ _ _ _ _ _ _ _ _ _ _ _ _ _ _ _ _ _ _ _ _ _ _ _ _ _ _ _ _ _ _ _ _ _ _ _ _ _ _ _ _ _ _ _ _ _ _ _ _ _ _ _ _ _ _ _ _ _ _ _ _ _ _ _ _ _ _ _ _ _ _ _ _ _ _ _ _ _ _ _ _ _ _ _ _ _ _ _ _ _ _ _ _ _ _ _ _ _ _ _ _ _ _ _ _ _ _ _ _ _ _ _ _ _ _ _ _ _ _ _ _ _ _ _ _ _ _ _ _ _ _ _ _ _ _ _ _ _ _ _ _ _ _ _ _ _ _ _ _ _ _ _ _ _ _ _ _ _ _ _ _ _ _ _ (by have := HZ.out.go hw9; rw [List.append_assoc] at this; exact this)
  · as_aux_lemma =>
    have HQ := Lib.hid (hQC hq)
    clear hQC
    go_wp2_with fail
    refine (HQ.out _ _ _ _ _ _ _ _ _ HA.out HSC.out HSE.out (by have := hbb.out; omega)).mono ?_
    rintro e w9 ⟨rfl, hw9⟩
    go_wp2_with fail
    exact HK.out _ _ _ _ _ _ _ _ _ _ _ _ _ _ _ _ _ _ _ _ _ _ _ _ _ _ _ _ _ _ _ _ _ _ _ _ _ _ _ _ _ _ _ _ _ _ _ _ _ _ _ _ _ _ _ _ _ _ _ _ _ _ _ _ _ _ _ _ _ _ _ _ _ _ _ _ _ _ _ _ _ _ _ _ _ _ _ _ _ _ _ _ _ _ _ _ _ _ _ _ _ _ _ _ _ _ _ _ _ _ _ _ _ _ _ _ _ _ _ _ _ _ _ _ _ _ _ _ _ _ _ _ _ _ _ _ _ _ _ _ _ _ _ _ _ _ _ _ _ _ _ _ _ _ _ _ _ _ _ _ _ _ _ _ _ _ _ _ _ _ _ _ _ _ _ _ _ _ _ _ _ _ _ _ _ _ _ _ _ _ _ _ _ _ _ _ _ _ _ _ _ _ _ _ _ _ _ _ _ _ _ _ _ _ _ _ _ _ _ _ _ _ _ _ _ _ _ _ _ _ _ _ _ _ _ _ _ _ _ _ _ _ _ _ _ _ _ _ _ _ _ _ _ _ _ _ _ _ _ _ _ _ _ _ _ _ _ _ _ _ _ _ _ _ _ _ _ _ _ _ _ _ _ _ _ _ _ _ _ _ _ _ _ _ _ _ _ _ _ _ _ _ _ _ _ _ _ _ _ (hE.out.go hw9)
  · as_aux_lemma =>
    obtain ⟨u0, u1, u2⟩ := HUN.out rfl
    obtain ⟨n, rfl⟩ : ∃ n : Nat, un = n := ⟨un.toNat, by omega⟩
    rw [Int.toNat_natCast] at u2
    have hsp := spl_app n tx
    obtain ⟨e1, e2, e3⟩ := extr_tl s (spl n tx).1 (spl n tx).2 (by rw [hsp]; exact HSE.out)
    rw [← u2] at e1 e2 e3
    have hcA : ∀ c ∈ (spl n tx).1, Scal c := fun c hc => HSC.out c (by rw [← hsp]; simp [hc])
    have hcB : ∀ c ∈ (spl n tx).2, Scal c := fun c hc => HSC.out c (by rw [← hsp]; simp [hc])
    have hns : n ≤ s.size := by omega
    have hz1 : (s.extract 0 n).size = n := by simp; omega
    have hz2 : (s.extract n s.size).size = s.size - n := by simp
    have hDV := fun w0 => DimensionValue_any (.pointer pq) s lc pl 26 ws n w0 hns
    have hDU := fun w0 => DimensionUnit_any (.pointer pq) s lc pl 26 ws n w0 hns
    obtain ⟨sA, hsA⟩ : ∃ x, s.extract 0 n = x := ⟨_, rfl⟩
    obtain ⟨sB, hsB⟩ : ∃ x, s.extract n s.size = x := ⟨_, rfl⟩
    rw [hsA] at e1 hz1 hDV
    rw [hsB] at e2 hz2 hDU
    have HDV := Lib.hid hDV
    have HDU := Lib.hid hDU
    clear hDV hDU hsA hsB
    have E1 := Lib.hid e1
    have E2 := Lib.hid e2
    have Z1 := Lib.hid hz1
    have Z2 := Lib.hid hz2
    have HCA := Lib.hid hcA
    have HCB := Lib.hid hcB
    have HNS := Lib.hid hns
    clear e1 e2 e3 hz1 hz2 hcA hcB hsp u2 HUN hns u0 u1 hQC
    go_wp2_with fail
    refine (HDV.out wc).mono ?_
    rintro e w9 ⟨rfl, hk9⟩
    dsimp only
    have HZ := Lib.hid (hE.out.kp hk9)
    have HBL2 : Hid (w9.heap[B]? = some (.cells #[.pointer pq, .string s, .int .i32 lc, .int .u32 pl, .int .u16 n, .int .u8 26, .int .u8 ws] 100)) := Lib.hid (by rw [hk9.block B (Array.getElem?_eq_some_iff.1 HBL.out).1 (fun f => f)]; exact HBL.out)
    clear hk9 d0 d1 d2 d3 d4 d5 d6
    go_wp2_with fail
    refine (Print_n HZ.out.pn sA (by rw [Z1.out]; have := hbb.out; have := HNS.out; omega)).mono ?_
    rintro e w9 ⟨rfl, hw9⟩
    dsimp only
    obtain ⟨vz, hZ⟩ := HZ.out.go hw9
    rw [E1.out] at hZ
    have HZ2 := Lib.hid hZ
    have HBL3 := Lib.hid (keepBlk hZ.st HBL.out hgB HVB.out)
    clear hw9 hZ HZ HBL2
    go_wp2_with fail
    refine (ContainsAny_eE sA (spl n tx).1 _ HCA.out E1.out (by have := Z1.out; have := hbb.out; have := HNS.out; omega)).mono ?_
    rintro e w9 ⟨rfl, hk9⟩
    dsimp only
    have HZ := Lib.hid (HZ2.out.kp hk9)
    have HBL2 : Hid (w9.heap[B]? = some (.cells #[.pointer pq, .string s, .int .i32 lc, .int .u32 pl, .int .u16 n, .int .u8 26, .int .u8 ws] 100)) := Lib.hid (by rw [hk9.block B (Array.getElem?_eq_some_iff.1 HBL3.out).1 (fun f => f)]; exact HBL3.out)
    clear hk9 HZ2 HBL3
    obtain ⟨d0, d1, d2, d3, d4, d5, d6⟩ := cells7 HBL2.out
    have hcl : (encs (spl n tx).1).length = n := by
      have h1 : sA.data.toList.length = (encs (spl n tx).1).length := congrArg List.length E1.out
      have h2 : sA.data.toList.length = sA.size := by simp
      have := Z1.out
      omega
    have HCL := Lib.hid hcl
    clear hcl
    have hct : coreT a nw 26 tx n = encs (spl n tx).1 ++ identP a nw (iniE (if hasE (spl n tx).1 then 3 else 2) (spl n tx).2) (spl n tx).2 := by
      unfold coreT
      rw [if_neg (by decide), if_neg (by decide), if_pos rfl, Int.toNat_natCast]
    have HCT := Lib.hid hct
    clear hct
    cases hhe : hasE (spl n tx).1
    all_goals
      rw [hhe] at HCT
      go_wp2_with fail
      refine (HDU.out _).mono ?_
      rintro e w9 ⟨rfl, hk9⟩
      dsimp only
      have HZ2 := Lib.hid (HZ.out.kp hk9)
      clear hk9
      go_wp2_with fail
      have hI := Ident_dim nw (if hasE (spl n tx).1 then 3 else 2) (by rw [hhe]; simp) sB (spl n tx).2 HZ2.out.pn HCB.out E2.out (by rw [List.length_append, Z2.out]; have := hbb.out; have := HCL.out; have := HNS.out; omega)
      rw [HWI.out, hhe] at hI
      refine hI.mono ?_
      rintro e w9 ⟨rfl, hw9⟩
      dsimp only
      go_wp2_with fail
      exact HK.out _ _ _ _ _ _ _ _ _ _ _ _ _ _ _ _ _ _ _ _ _ _ _ _ _ _ _ _ _ _ _ _ _ _ _ _ _ _ _ _ _ _ _ _ _ _ _ _ _ _ _ _ _ _ _ _ _ _ _ _ _ _ _ _ _ _ _ _ _ _ _ _ _ _ _ _ _ _ _ _ _ _ _ _ _ _ _ _ _ _ _ _ _ _ _ _ _ _ _ _ _ _ _ _ _ _ _ _ _ _ _ _ _ _ _ _ _ _ _ _ _ _ _ _ _ _ _ _ _ _ _ _ _ _ _ _ _ _ _ _ _ _ _ _ _ _ _ _ _ _ _ _ _ _ _ _ _ _ _ _ _ _ _ _ _ _ _ _ _ _ _ _ _ _ _ _ _ _ _ _ _ _ _ _ _ _ _ _ _ _ _ _ _ _ _ _ _ _ _ _ _ _ _ _ _ _ _ _ _ _ _ _ _ _ _ _ _ _ _ _ _ _ _ _ _ _ _ _ _ _ _ _ _ _ _ _ _ _ _ _ _ _ _ _ _ _ _ _ _ _ _ _ _ _ _ _ _ _ _ _ _ _ _ _ _ _ _ _ _ _ _ _ _ _ _ _ _ _ _ _ _ _ _ _ _ _ _ _ _ _ _ _ _ _ _ _ _ _ _ _ _ _ _ _ _ _ _ _ _ (by have := HZ2.out.go hw9; rw [List.append_assoc] at this; rw [HCT.out]; exact this)
  · as_aux_lemma =>
    unfold Raw at hraw
    have f1 : (k == 29) = false := by simp; omega
    have f2 : (k == 39) = false := by simp; omega
    have f3 : (k == 27) = false := by simp; omega
    have f4 : (k == 26) = false := by simp; omega
    have f5 : (k == 1) = false := by simp; omega
    have f6 : (k == 28) = false := by simp; omega
    have f7 : (k == 36) = false := by simp; omega
    have f8 : (k == 37) = false := by simp; omega
    have f9 : (k == 2) = false := by simp; omega
    have HRW := Lib.hid hraw
    clear hraw
    go_wp2_with fail
    refine (Print_n HA.out s (by have := hbb.out; omega)).mono ?_
    rintro e w9 ⟨rfl, hw9⟩
    go_wp2_with fail
    refine HK.out _ _ _ _ _ _ _ _ _ _ _ _ _ _ _ _ _ _ _ _ _ _ _ _ _ _ _ _ _ _ _ _ _ _ _ _ _ _ _ _ _ _ _ _ _ _ _ _ _ _ _ _ _ _ _ _ _ _ _ _ _ _ _ _ _ _ _ _ _ _ _ _ _ _ _ _ _ _ _ _ _ _ _ _ _ _ _ _ _ _ _ _ _ _ _ _ _ _ _ _ _ _ _ _ _ _ _ _ _ _ _ _ _ _ _ _ _ _ _ _ _ _ _ _ _ _ _ _ _ _ _ _ _ _ _ _ _ _ _ _ _ _ _ _ _ _ _ _ _ _ _ _ _ _ _ _ _ _ _ _ _ _ _ _ _ _ _ _ _ _ _ _ _ _ _ _ _ _ _ _ _ _ _ _ _ _ _ _ _ _ _ _ _ _ _ _ _ _ _ _ _ _ _ _ _ _ _ _ _ _ _ _ _ _ _ _ _ _ _ _ _ _ _ _ _ _ _ _ _ _ _ _ _ _ _ _ _ _ _ _ _ _ _ _ _ _ _ _ _ _ _ _ _ _ _ _ _ _ _ _ _ _ _ _ _ _ _ _ _ _ _ _ _ _ _ _ _ _ _ _ _ _ _ _ _ _ _ _ _ _ _ _ _ _ _ _ _ _ _ _ _ _ _ _ _ _ _ _ _ ?_
    have := hE.out.go hw9
    rw [HSE.out] at this
    have e1 : coreT a nw k tx un = encs tx := by
      have := HRW.out
      unfold coreT
      rw [if_neg (by omega), if_neg (by omega), if_neg (by omega), if_neg (by omega), if_neg (by omega), if_neg (by omega)]
    rw [e1]; exact this
end Go.Proofs.YtkaejhdncohgpaaGreatFmt
