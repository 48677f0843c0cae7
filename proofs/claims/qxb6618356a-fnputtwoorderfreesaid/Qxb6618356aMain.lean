/-
  SEAT b6618356a: THE WALK OF FnPutTwoOrderFree (4): THE WAY THAT COMES TO THE PUTS AND THE LAST LOOP. (Long rows of underscores: written by program.)
-/
import Derived.Test.Qxb6618356aEarly
import Derived.Test.Qxb6618356aRound2
namespace Go.Proofs.Qxb6618356a.Pw
open Go.RowKit

/-- A slot of the finished tables: it was full; it stays empty; it was filled. -/
theorem slot_cases {T P A A' C C' : Nat → Int} {m : Nat} {t1 p1 t2 p2 : Int} {x1 x2 y1 y2 k : Nat} {f1 f2 f3 f4 : Bool} (ha : Pl.Placed T P A A' m t1 p1 t2 p2 x1 x2) (hb : Pl.Placed T P C C' m t1 p1 t2 p2 y1 y2)
    (hxy : (y1 = x1 ∧ y2 = x2) ∨ (y1 = x2 ∧ y2 = x1)) (n1 : t1 ≠ 0) (n2 : t2 ≠ 0) (hf : f1 = decide (x1 < k) ∧ f2 = decide (x2 < k) ∧ f3 = decide (y1 < k) ∧ f4 = decide (y2 < k)) :
    ((T k != 0) = true ∧ A k = T k ∧ A' k = P k ∧ C k = T k ∧ C' k = P k ∧ Hid (f1 = decide (x1 < k + 1) ∧ f2 = decide (x2 < k + 1) ∧ f3 = decide (y1 < k + 1) ∧ f4 = decide (y2 < k + 1))) ∨
    (T k = 0 ∧ A k = 0 ∧ C k = 0 ∧ Hid (f1 = decide (x1 < k + 1) ∧ f2 = decide (x2 < k + 1) ∧ f3 = decide (y1 < k + 1) ∧ f4 = decide (y2 < k + 1))) ∨
    (T k = 0 ∧ ∃ g1 g2 g3 g4, Hid (Pl.Meets f1 f2 (A k) (A' k) t1 p1 t2 p2 g1 g2) ∧ Hid (Pl.Meets f3 f4 (C k) (C' k) t1 p1 t2 p2 g3 g4) ∧ A k ≠ 0 ∧ C k ≠ 0 ∧
      Hid (g1 = decide (x1 < k + 1) ∧ g2 = decide (x2 < k + 1) ∧ g3 = decide (y1 < k + 1) ∧ g4 = decide (y2 < k + 1))) := by
  obtain ⟨rfl, rfl, rfl, rfl⟩ := hf
  by_cases hx : k = x1 ∨ k = x2
  · have hy : k = y1 ∨ k = y2 := by omega
    have hz : T k = 0 := by
      rcases hx with rfl | rfl
      · exact ha.z1
      · exact ha.z2
    exact .inr (.inr ⟨hz, _, _, _, _, ha.meets hx, hb.meets hy, ha.full n1 n2 hx, hb.full n1 n2 hy, rfl, rfl, rfl, rfl⟩)
  · have k1 : k ≠ x1 := fun e => hx (.inl e)
    have k2 : k ≠ x2 := fun e => hx (.inr e)
    have k3 : k ≠ y1 := by omega
    have k4 : k ≠ y2 := by omega
    obtain ⟨o1, o2⟩ := ha.old k k1 k2
    obtain ⟨o3, o4⟩ := hb.old k k3 k4
    by_cases hz : T k = 0
    · exact .inr (.inl ⟨hz, o1.trans hz, o3.trans hz, Pl.later k1, Pl.later k2, Pl.later k3, Pl.later k4⟩)
    · exact .inl ⟨by rw [bne_iff_ne]; exact hz, o1, o2, o3, o4, Pl.later k1, Pl.later k2, Pl.later k3, Pl.later k4⟩

set_option maxRecDepth 100000 in
set_option maxHeartbeats 4000000 in
theorem late (b0 off0 cap0 b1 off1 cap1 m : Nat) (T P : Nat → Int) (n h1 p1 h2 p2 : Int) (w : World) (hm : m ≠ 0) (hm' : m ≤ 65536) (hp2 : m &&& (m - 1) = 0)
    (u1 : 0 ≤ h1) (v1 : h1 ≤ 18446744073709551615) (u2 : 0 ≤ h2) (v2 : h2 ≤ 18446744073709551615) (r1 : 0 ≤ p1) (s1 : p1 ≤ 4294967295) (r2 : 0 ≤ p2) (s2 : p2 ≤ 4294967295)
    (hT : ∀ j, j < m → w.cell? ⟨b0, off0 + j, none⟩ = some (.int .u8 (T j))) (hP : ∀ j, j < m → w.cell? ⟨b1, off1 + j, none⟩ = some (.int .u32 (P j))) :
    Calls Try.prog 4 #[.slice (some ⟨b0, off0, none⟩) m cap0, .slice (some ⟨b1, off1, none⟩) m cap1, .int .i64 n, .int .u64 h1, .int .i64 p1, .int .u64 h2, .int .i64 p2] w fun e w' => e = .returned (.bool true) ∧ Below w.heap.size w w' := by
  have e3 : ((m : Int) == 0) = false := by rw [beq_eq_false_iff_ne]; omega
  have hb := i64_and_nat m (m - 1) (by omega) (by omega)
  rw [show ((m - 1 : Nat) : Int) = (m : Int) - 1 by omega, hp2] at hb
  have H2 : Hid (m &&& (m - 1) = 0) := hp2
  have HT : Hid (∀ j, j < m → w.cell? ⟨b0, off0 + j, none⟩ = some (.int .u8 (T j))) := hT
  have HP : Hid (∀ j, j < m → w.cell? ⟨b1, off1 + j, none⟩ = some (.int .u32 (P j))) := hP
  clear hp2 hT hP
  go_enter Try.func4, Try.ntmps4
  go_wp2_with fail
  refine (bytes_any _ _ _ _ _ _ _ _ _ _ _ _ (by unfold maxLen; omega) (by unfold maxLen; omega)).mono ?_
  rintro e w ⟨r, rfl, rfl⟩
  cases r
  · go_wp2
    go_ret
    exact ⟨rfl, Below.refl _ _⟩
  go_wp2_with fail
  refine (empty_any _ _ _ _ T _ hm' HT.out).mono ?_
  rintro e w ⟨rfl, rfl⟩
  obtain ⟨q, hq0⟩ : ∃ q, Pl.empties T m = q := ⟨_, rfl⟩
  rw [hq0]
  have HQ : Hid (Pl.empties T m = q) := hq0
  clear hq0
  by_cases hq : q < 2
  · go_wp2
    go_ret
    exact ⟨rfl, Below.refl _ _⟩
  have HE : Hid (2 ≤ Pl.empties T m) := by rw [show (Hid (2 ≤ Pl.empties T m)) = (2 ≤ Pl.empties T m) from rfl, HQ.out]; omega
  clear HQ
  clear hb e3
  have hsz := Nat.le_refl w.heap.size
  -- the four copies
  go_wp2_with fail
  refine (copyTags_any _ _ _ _ T _ hm' HT.out).mono ?_
  rintro e w1 hc
  obtain ⟨t0, g1, rfl, B1, R0⟩ := copied_ex hc
  clear hc
  have l0 := R0.lt
  go_wp2_with fail
  refine (copyPlaces_any _ _ _ _ P _ hm' (fun j hj => (B1.cell (World.block_lt_of_cell? _ _ (HP.out j hj))).trans (HP.out j hj))).mono ?_
  rintro e w2 hc
  obtain ⟨p0, g2, rfl, B2, R1⟩ := copied_ex hc
  clear hc
  replace R0 := keep R0 B2
  have l1 := R1.lt
  replace B1 := B1.trans (B2.mono B1.size)
  clear B2 HT HP
  go_wp2_with fail
  refine (copyTags_any _ _ _ _ T _ hm' (rowCell R0)).mono ?_
  rintro e w3 hc
  obtain ⟨ot, g3, rfl, B2, R2⟩ := copied_ex hc
  clear hc
  replace R0 := keep R0 B2
  replace R1 := keep R1 B2
  have l2 := R2.lt
  replace B1 := B1.trans (B2.mono B1.size)
  clear B2
  go_wp2_with fail
  refine (copyPlaces_any _ _ _ _ P _ hm' (rowCell R1)).mono ?_
  rintro e w4 hc
  obtain ⟨op, g4, rfl, B2, R3⟩ := copied_ex hc
  clear hc
  replace R0 := keep R0 B2
  replace R1 := keep R1 B2
  replace R2 := keep R2 B2
  have l3 := R3.lt
  replace B1 := B1.trans (B2.mono B1.size)
  clear B2
  -- the first order
  go_wp2_with fail
  refine (copyTags_any _ _ _ _ T _ hm' (rowCell R0)).mono ?_
  rintro e w5 hc
  obtain ⟨at_, g5, rfl, B2, R4⟩ := copied_ex hc
  clear hc
  replace R0 := keep R0 B2
  replace R1 := keep R1 B2
  replace R2 := keep R2 B2
  replace R3 := keep R3 B2
  have l4 := R4.lt
  replace B1 := B1.trans (B2.mono B1.size)
  clear B2
  go_wp2_with fail
  refine (copyPlaces_any _ _ _ _ P _ hm' (rowCell R1)).mono ?_
  rintro e w6 hc
  obtain ⟨ap, g6, rfl, B2, R5⟩ := copied_ex hc
  clear hc
  replace R0 := keep R0 B2
  replace R1 := keep R1 B2
  replace R2 := keep R2 B2
  replace R3 := keep R3 B2
  replace R4 := keep R4 B2
  have l5 := R5.lt
  replace B1 := B1.trans (B2.mono B1.size)
  clear B2
  go_wp2_with fail
  refine (zzPut_any at_ ap m T P n h1 p1 w6 hm hm' H2.out u1 v1 r1 s1 R4 R5 (by omega) (Pl.one_of (Nat.le_of_succ_le HE.out))).mono ?_
  rintro e w7 hs
  obtain ⟨i1, F1, Q4, Q5⟩ := hs.fill
  have he := hs.ret
  subst he
  have l6 := hs.size
  replace B1 := below_step B1 hs (by omega) (by omega) B1.size
  replace R0 := pass hs R0 (by omega) (by omega)
  replace R1 := pass hs R1 (by omega) (by omega)
  replace R2 := pass hs R2 (by omega) (by omega)
  replace R3 := pass hs R3 (by omega) (by omega)
  clear hs R4 R5
  go_wp2_with fail
  refine (zzPut_any at_ ap m (Pl.upd T i1 (tag h1)) (Pl.upd P i1 p1) n h2 p2 w7 hm hm' H2.out u2 v2 r2 s2 Q4 Q5 (by omega) (Pl.left_of HE.out)).mono ?_
  rintro e w8 hs
  obtain ⟨i2, F2, R4, R5⟩ := hs.fill
  have he := hs.ret
  subst he
  have l7 := hs.size
  replace B1 := below_step B1 hs (by omega) (by omega) B1.size
  replace R0 := pass hs R0 (by omega) (by omega)
  replace R1 := pass hs R1 (by omega) (by omega)
  replace R2 := pass hs R2 (by omega) (by omega)
  replace R3 := pass hs R3 (by omega) (by omega)
  clear hs Q4 Q5
  -- the second order
  go_wp2_with fail
  refine (copyTags_any _ _ _ _ T _ hm' (rowCell R0)).mono ?_
  rintro e w9 hc
  obtain ⟨bt, g7, rfl, B2, R6⟩ := copied_ex hc
  clear hc
  replace R1 := keep R1 B2
  replace R2 := keep R2 B2
  replace R3 := keep R3 B2
  replace R4 := keep R4 B2
  replace R5 := keep R5 B2
  have l8 := R6.lt
  replace B1 := B1.trans (B2.mono B1.size)
  clear B2 R0
  go_wp2_with fail
  refine (copyPlaces_any _ _ _ _ P _ hm' (rowCell R1)).mono ?_
  rintro e w10 hc
  obtain ⟨bp, g8, rfl, B2, R7⟩ := copied_ex hc
  clear hc
  replace R2 := keep R2 B2
  replace R3 := keep R3 B2
  replace R4 := keep R4 B2
  replace R5 := keep R5 B2
  replace R6 := keep R6 B2
  have l9 := R7.lt
  replace B1 := B1.trans (B2.mono B1.size)
  clear B2 R1
  go_wp2_with fail
  refine (zzPut_any bt bp m T P n h2 p2 w10 hm hm' H2.out u2 v2 r2 s2 R6 R7 (by omega) (Pl.one_of (Nat.le_of_succ_le HE.out))).mono ?_
  rintro e w11 hs
  obtain ⟨j1, F3, Q6, Q7⟩ := hs.fill
  have he := hs.ret
  subst he
  replace B1 := below_step B1 hs (by omega) (by omega) B1.size
  replace R2 := pass hs R2 (by omega) (by omega)
  replace R3 := pass hs R3 (by omega) (by omega)
  replace R4 := pass hs R4 (by omega) (by omega)
  replace R5 := pass hs R5 (by omega) (by omega)
  clear hs R6 R7
  go_wp2_with fail
  refine (zzPut_any bt bp m (Pl.upd T j1 (tag h2)) (Pl.upd P j1 p2) n h1 p1 w11 hm hm' H2.out u1 v1 r1 s1 Q6 Q7 (by omega) (Pl.left_of HE.out)).mono ?_
  rintro e w12 hs
  obtain ⟨j2, F4, R6, R7⟩ := hs.fill
  have he := hs.ret
  subst he
  replace B1 := below_step B1 hs (by omega) (by omega) B1.size
  replace R2 := pass hs R2 (by omega) (by omega)
  replace R3 := pass hs R3 (by omega) (by omega)
  replace R4 := pass hs R4 (by omega) (by omega)
  replace R5 := pass hs R5 (by omega) (by omega)
  clear hs Q6 Q7
  have tb1 := tag_bd h1 u1 v1
  have tb2 := tag_bd h2 u2 v2
  obtain ⟨x1, x2, y1, y2, PA, PB, hxy⟩ := Pl.both (P := P) (q1 := p1) (q2 := p2) (by omega) (by omega) F1 F2 F3 F4
  clear F1 F2 F3 F4
  generalize Pl.upd (Pl.upd T i1 (tag h1)) i2 (tag h2) = A at R4 PA
  generalize Pl.upd (Pl.upd P i1 p1) i2 p2 = A' at R5 PA
  generalize Pl.upd (Pl.upd T j1 (tag h2)) j2 (tag h1) = C at R6 PB
  generalize Pl.upd (Pl.upd P j1 p2) j2 p1 = C' at R7 PB
  have HB : Hid (Below w.heap.size w w12) := B1
  clear B1 l0 l1 l2 l3 l4 l5 l6 l7 l8 l9 g1 g2 g3 g4 g5 g6 g7 g8 hsz HE H2
  go_wp2_with fail
  refine (zzTag_any h1 _ u1 v1).mono ?_
  rintro e w12 ⟨rfl, rfl⟩
  go_wp2_with fail
  refine (zzTag_any h2 _ u2 v2).mono ?_
  rintro e w12 ⟨rfl, rfl⟩
  have n1 : tag h1 ≠ 0 := by omega
  have n2 : tag h2 ≠ 0 := by omega
  generalize tag h1 = t1 at *
  generalize tag h2 = t2 at *
  clear u1 v1 u2 v2 tb1 tb2 hq
  go_wp2_with fail
  have HXY : Hid ((y1 = x1 ∧ y2 = x2) ∨ (y1 = x2 ∧ y2 = x1)) := hxy
  have HPA : Hid (Pl.Placed T P A A' m t1 p1 t2 p2 x1 x2) := PA
  have HPB : Hid (Pl.Placed T P C C' m t1 p1 t2 p2 y1 y2) := PB
  have HN1 : Hid (t1 ≠ 0) := n1
  have HN2 : Hid (t2 ≠ 0) := n2
  clear hxy PA PB n1 n2
  go_loopg [28, 29, 30, 31, 32] m (fun g a1 a2 b1 b2 kk wr => ∃ (k q : Nat) (f1 f2 f3 f4 : Bool), g = m - k ∧ k ≤ m ∧ kk = .int .i64 k ∧ a1 = .bool f1 ∧ a2 = .bool f2 ∧ b1 = .bool f3 ∧ b2 = .bool f4 ∧
    Hid (f1 = decide (x1 < k) ∧ f2 = decide (x2 < k) ∧ f3 = decide (y1 < k) ∧ f4 = decide (y2 < k)) ∧ wr = w12.drewN q)
  case atStart => exact ⟨0, 0, false, false, false, false, rfl, Nat.zero_le _, rfl, rfl, rfl, rfl, rfl, ⟨rfl, rfl, rfl, rfl⟩, rfl⟩
  case round =>
    obtain ⟨k, q, f1, f2, f3, f4, rfl, hk, rfl, rfl, rfl, rfl, rfl, HF, rfl⟩ := hrel
    by_cases hlt : k < m
    · have cO : w12.cell? ⟨ot, k, none⟩ = some (.int .u8 (T k)) := R2.cell hlt
      have cP : w12.cell? ⟨op, k, none⟩ = some (.int .u32 (P k)) := R3.cell hlt
      have cA : w12.cell? ⟨at_, k, none⟩ = some (.int .u8 (A k)) := R4.cell hlt
      have cA' : w12.cell? ⟨ap, k, none⟩ = some (.int .u32 (A' k)) := R5.cell hlt
      have cC : w12.cell? ⟨bt, k, none⟩ = some (.int .u8 (C k)) := R6.cell hlt
      have cC' : w12.cell? ⟨bp, k, none⟩ = some (.int .u32 (C' k)) := R7.cell hlt
      clear R2 R3 R4 R5 R6 R7
      rcases slot_cases HPA.out HPB.out HXY.out HN1.out HN2.out HF.out with ⟨hne, o1, o2, o3, o4, HF'⟩ | ⟨hz, o1, o3, HF'⟩ | ⟨hz, g1, g2, g3, g4, MA, MB, na, nc, HF'⟩
      · rw [o1] at cA
        rw [o2] at cA'
        rw [o3] at cC
        rw [o4] at cC'
        refine round_full _ _ _ _ _ _ _ _ _ _ _ _ _ _ _ _ _ _ _ _ _ _ _ _ _ _ _ _ _ _ _ _ _ _ _ _ _ _ _ _ _ _ _ _ _ _ _ _ _ _ _ _ _ _ _ _ _ _ _ _ _ _ _ _ _ _ _ _ _ _ _ _ _ _ _ _ _ _ _ _ _ _ _ _ _ _ _ _ _ _ _ _ _ _ _ _ _ _ _ _ _ _ _ _ _ _ _ _ _ _ _ _ _ _ _ _ _ _ _ _ _ _ _ _ _ _ _ _ _ _ _ _ _ _ _ _ _ _ _ _ _ _ _ _ _ _ _ _ _ _ _ _ _ _ _ _ _ _ _ _ _ _ _ _ _ _ _ _ _ _ _ _ _ _ _ _ _ _ _ _ _ _ _ _ _ _ _ _ _ _ _ _ _ _ _ _ _ _ _ _ _ _ _ _ _ _ _ _ _ _ _ _ _ _ _ _ _ _ _ _ _ _ _ _ _ _ _ _ _ _ _ _ _ _ _ _ _ _ _ _ _ _ _ _ _ _ _ _ _ _ _ _ _ _ _ _ _ _ _ _ _ _ _ _ _ _ _ _ _ _ _ _ _ _ _ _ _ _ _ _ _ _ _ _ _ _ _ _ _ _ _ _ _ _ _ _ _ _ _ _ _ _ _ _ _ _ _ _ _ _ _ _ _ _ _ _ _ _ f1 f2 f3 f4 _ _ _ hm' hlt (T k) (P k) hne cO cP cA cA' cC cC' ?_
        intro q' v14 v168 v169 v170 v171 v172 v173 v174 v175 v176 v177 v178 v179 v180 v181 v182 v183 v184 v185 v186 v187 v188 v189 v190 v191 v192 v193 v194 v195 v196 v197 v198 v199 v200 v201 v202 v203 v204 v205 v206 v207 v208 v209 v210 v211 v212 v213 v214 v215 v216 v217 v218 v219 v220 v221 v222 v223 v224 v225 v226 v227 v228 v229 v230 v231 v232 v233 v234 v235 v236 v237 v238 v239 v240 v241 v242 v243 v244 v245 v246 v247 v248 v249 v250 v251 v252 v253 v254 v255 v256 v257 v258 v259 v260 v261 v262 v263 v264 v265 v266 v267 v268 v269 v270 v271 v272 v273 v274 v275 v276 v277 v278 v279 v280 v281 v282 v283 v284 v285 v286 v287 v288 v289 v290 v291 v292 v293 v294 v295 v296 v297 v298 v299 v300 v301 v302 v303 v304 v305 v306 v307 v308 v309 v310
        go_wp2
        go_roundg (m - (k + 1))
        case measure => go_light; omega
        case rel =>
          go_light
          exact ⟨k + 1, _, f1, f2, f3, f4, rfl, by omega, by go_num, rfl, rfl, rfl, rfl, HF', rfl⟩
      · rw [hz] at cO
        rw [o1] at cA
        rw [o3] at cC
        refine round_bare _ _ _ _ _ _ _ _ _ _ _ _ _ _ _ _ _ _ _ _ _ _ _ _ _ _ _ _ _ _ _ _ _ _ _ _ _ _ _ _ _ _ _ _ _ _ _ _ _ _ _ _ _ _ _ _ _ _ _ _ _ _ _ _ _ _ _ _ _ _ _ _ _ _ _ _ _ _ _ _ _ _ _ _ _ _ _ _ _ _ _ _ _ _ _ _ _ _ _ _ _ _ _ _ _ _ _ _ _ _ _ _ _ _ _ _ _ _ _ _ _ _ _ _ _ _ _ _ _ _ _ _ _ _ _ _ _ _ _ _ _ _ _ _ _ _ _ _ _ _ _ _ _ _ _ _ _ _ _ _ _ _ _ _ _ _ _ _ _ _ _ _ _ _ _ _ _ _ _ _ _ _ _ _ _ _ _ _ _ _ _ _ _ _ _ _ _ _ _ _ _ _ _ _ _ _ _ _ _ _ _ _ _ _ _ _ _ _ _ _ _ _ _ _ _ _ _ _ _ _ _ _ _ _ _ _ _ _ _ _ _ _ _ _ _ _ _ _ _ _ _ _ _ _ _ _ _ _ _ _ _ _ _ _ _ _ _ _ _ _ _ _ _ _ _ _ _ _ _ _ _ _ _ _ _ _ _ _ _ _ _ _ _ _ _ _ _ _ _ _ _ _ _ _ _ _ _ _ _ _ _ _ _ _ _ _ _ _ f1 f2 f3 f4 _ _ _ hm' hlt cO cA cC ?_
        intro q' v14 v168 v169 v170 v171 v172 v173 v174 v175 v176 v177 v178 v179 v180 v181 v182 v183 v184 v185 v186 v187 v188 v189 v190 v191 v192 v193 v194 v195 v196 v197 v198 v199 v200 v201 v202 v203 v204 v205 v206 v207 v208 v209 v210 v211 v212 v213 v214 v215 v216 v217 v218 v219 v220 v221 v222 v223 v224 v225 v226 v227 v228 v229 v230 v231 v232 v233 v234 v235 v236 v237 v238 v239 v240 v241 v242 v243 v244 v245 v246 v247 v248 v249 v250 v251 v252 v253 v254 v255 v256 v257 v258 v259 v260 v261 v262 v263 v264 v265 v266 v267 v268 v269 v270 v271 v272 v273 v274 v275 v276 v277 v278 v279 v280 v281 v282 v283 v284 v285 v286 v287 v288 v289 v290 v291 v292 v293 v294 v295 v296 v297 v298 v299 v300 v301 v302 v303 v304 v305 v306 v307 v308 v309 v310
        go_wp2
        go_roundg (m - (k + 1))
        case measure => go_light; omega
        case rel =>
          go_light
          exact ⟨k + 1, _, f1, f2, f3, f4, rfl, by omega, by go_num, rfl, rfl, rfl, rfl, HF', rfl⟩
      · rw [hz] at cO
        refine round_fill _ _ _ _ _ _ _ _ _ _ _ _ _ _ _ _ _ _ _ _ _ _ _ _ _ _ _ _ _ _ _ _ _ _ _ _ _ _ _ _ _ _ _ _ _ _ _ _ _ _ _ _ _ _ _ _ _ _ _ _ _ _ _ _ _ _ _ _ _ _ _ _ _ _ _ _ _ _ _ _ _ _ _ _ _ _ _ _ _ _ _ _ _ _ _ _ _ _ _ _ _ _ _ _ _ _ _ _ _ _ _ _ _ _ _ _ _ _ _ _ _ _ _ _ _ _ _ _ _ _ _ _ _ _ _ _ _ _ _ _ _ _ _ _ _ _ _ _ _ _ _ _ _ _ _ _ _ _ _ _ _ _ _ _ _ _ _ _ _ _ _ _ _ _ _ _ _ _ _ _ _ _ _ _ _ _ _ _ _ _ _ _ _ _ _ _ _ _ _ _ _ _ _ _ _ _ _ _ _ _ _ _ _ _ _ _ _ _ _ _ _ _ _ _ _ _ _ _ _ _ _ _ _ _ _ _ _ _ _ _ _ _ _ _ _ _ _ _ _ _ _ _ _ _ _ _ _ _ _ _ _ _ _ _ _ _ _ _ _ _ _ _ _ _ _ _ _ _ _ _ _ _ _ _ _ _ _ _ _ _ _ _ _ _ _ _ _ _ _ _ _ _ _ _ _ _ _ _ _ _ _ _ _ _ _ _ _ _ f1 f2 f3 f4 _ _ _ hm' hlt (A k) (A' k) (C k) (C' k) g1 g2 g3 g4 (beq_eq_false_iff_ne.2 na) (beq_eq_false_iff_ne.2 nc) (bne_iff_ne.2 na) (bne_iff_ne.2 nc) cO cA cA' cC cC' MA MB ?_
        intro q' v14 v168 v169 v170 v171 v172 v173 v174 v175 v176 v177 v178 v179 v180 v181 v182 v183 v184 v185 v186 v187 v188 v189 v190 v191 v192 v193 v194 v195 v196 v197 v198 v199 v200 v201 v202 v203 v204 v205 v206 v207 v208 v209 v210 v211 v212 v213 v214 v215 v216 v217 v218 v219 v220 v221 v222 v223 v224 v225 v226 v227 v228 v229 v230 v231 v232 v233 v234 v235 v236 v237 v238 v239 v240 v241 v242 v243 v244 v245 v246 v247 v248 v249 v250 v251 v252 v253 v254 v255 v256 v257 v258 v259 v260 v261 v262 v263 v264 v265 v266 v267 v268 v269 v270 v271 v272 v273 v274 v275 v276 v277 v278 v279 v280 v281 v282 v283 v284 v285 v286 v287 v288 v289 v290 v291 v292 v293 v294 v295 v296 v297 v298 v299 v300 v301 v302 v303 v304 v305 v306 v307 v308 v309 v310
        go_wp2
        go_roundg (m - (k + 1))
        case measure => go_light; omega
        case rel =>
          go_light
          exact ⟨k + 1, _, g1, g2, g3, g4, rfl, by omega, by go_num, rfl, rfl, rfl, rfl, HF', rfl⟩
    · obtain rfl : k = m := by omega
      obtain ⟨e1, e2, e3, e4⟩ := HF.out
      rw [decide_eq_true HPA.out.l1] at e1
      rw [decide_eq_true HPA.out.l2] at e2
      rw [decide_eq_true HPB.out.l1] at e3
      rw [decide_eq_true HPB.out.l2] at e4
      subst e1 e2 e3 e4
      clear HF
      go_wp2
      go_ret
      exact ⟨rfl, HB.out.trans ⟨rfl, rfl, rfl, Nat.le_refl _, fun _ _ => rfl⟩⟩

end Go.Proofs.Qxb6618356a.Pw
