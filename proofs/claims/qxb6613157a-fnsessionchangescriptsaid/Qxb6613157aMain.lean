import Derived.Test.Qxb6613157aTot
import Derived.Test.Qxb6613157aOps
import Derived.Test.Qxb6613157aQry
import Derived.Test.Qxb6613157aFin
import Derived.ArgAppend
namespace Go.Proofs.Qxb6613157a
open Go.RowKit Go.WideMaps

set_option maxRecDepth 100000 in
set_option maxHeartbeats 1000000 in
theorem main_big (a a' : Option Addr) (n n' c c' : Nat) (ks qs : Nat → Key3) (sh : Bool) (w : World) (hn : n ≤ maxLen) (hn' : n' ≤ maxLen) (h : RawK w a n ks) (h' : RawK w a' n' qs) (hbig : 4096 < n ∨ 4096 < n') :
    Calls Try.prog 3 #[.slice a n c, .slice a' n' c', .bool sh] w fun e w' => e = .returned (.bool true) ∧ Below w.heap.size w w' := by
  have HB := hide (bytes_any a a' n n' c c' ks qs sh w hn hn' h h')
  unfold maxLen at hn hn'
  clear h h'
  by_cases hb : 4096 < n
  · clear hbig
    go_enter Try.func3, Try.ntmps3
    go_wp2_with fail
    refine HB.out.mono ?_
    rintro e w0 ⟨⟨b, rfl⟩, hw0⟩
    obtain rfl : w = w0 := hw0.symm
    clear hw0 HB
    cases b
    · go_wp2
      go_ret
      exact ⟨rfl, Below.refl _ _⟩
    · go_wp2
      go_ret
      exact ⟨rfl, Below.refl _ _⟩
  · have hb' : 4096 < n' := by omega
    clear hbig
    go_enter Try.func3, Try.ntmps3
    go_wp2_with fail
    refine HB.out.mono ?_
    rintro e w0 ⟨⟨b, rfl⟩, hw0⟩
    obtain rfl : w = w0 := hw0.symm
    clear hw0 HB
    cases b
    · go_wp2
      go_ret
      exact ⟨rfl, Below.refl _ _⟩
    · go_wp2
      go_ret
      exact ⟨rfl, Below.refl _ _⟩

set_option maxRecDepth 100000 in
set_option maxHeartbeats 40000000 in
theorem main_go (a a' : Option Addr) (n n' c c' : Nat) (ks qs : Nat → Key3) (sh : Bool) (w : World) (hn : n ≤ 4096) (hn' : n' ≤ 4096) (h : RawK w a n ks) (h' : RawK w a' n' qs) (hok : ∀ i, i < n → (ks i).ok) (hok' : ∀ i, i < n' → (qs i).ok) :
    Calls Try.prog 3 #[.slice a n c, .slice a' n' c', .bool sh] w fun e w' => e = .returned (.bool true) ∧ Below w.heap.size w w' := by
  have HB := hide (bytes_any a a' n n' c c' ks qs sh w (by unfold maxLen; omega) (by unfold maxLen; omega) h h')
  have H := hide h
  have H' := hide h'
  have HOK := hide hok
  have HOK' := hide hok'
  clear h h' hok hok'
  go_enter Try.func3, Try.ntmps3
  go_wp2_with fail
  refine HB.out.mono ?_
  rintro e w0 ⟨⟨b, rfl⟩, hw0⟩
  obtain rfl : w = w0 := hw0.symm
  clear hw0 HB
  cases b
  · go_wp2
    go_ret
    exact ⟨rfl, Below.refl _ _⟩
  · go_upto_block 0 with fail
    refine totalK _ _ _ _ _ _ _ _ _ _ _ _ _ _ _ _ _ _ _ _ _ _ _ _ _ _ _ _ _ _ _ _ _ _ _ _ _ _ _ _ _ _ _ _ _ _ _ _ _ _ _ _ _ _ _ _ _ _ _ _ _ _ _ _ _ _ _ _ _ _ _ _ _ _ _ _ _ _ _ _ _ _ _ _ _ _ _ _ _ _ _ _ _ _ _ _ _ _ _ _ _ _ _ _ _ _ _ _ _ _ _ _ _ _ _ _ _ _ _ _ _ _ _ _ _ _ _ _ _ _ _ _ _ _ _ _ _ _ _ _ _ _ _ _ _ _ _ _ _ _ _ _ _ _ _ _ _ _ _ _ _ _ _ _ _ _ _ _ _ _ _ _ _ _ _ _ _ _ _ _ _ _ _ _ _ _ _ _ _ _ _ _ _ _ _ _ _ _ _ _ _ _ _ _ _ _ _ _ _ _ _ _ _ _ _ _ _ _ _ _ _ _ _ _ _ _ _ _ _ _ _ _ _ _ _ _ _ _ _ _ _ _ _ _ _ _ _ _ _ _ _ _ _ _ _ _ _ _ _ _ _ _ _ _ _ _ _ _ _ _ _ _ _ _ _ _ _ _ _ _ _ _ _ _ _ _ _ _ _ _ _ _ _ _ _ _ _ _ _ _ _ _ _ _ _ _ _ _ _ _ _ _ _ _ _ _ _ _ _ _ _ _ _ _ _ _ _ _ _ _ a n c ks 0 0 w hn H.out _ _ ?_ ?_ _ rfl
    · intro r7 r8 r56 r57 r58 r59 r60 r61 r62 r63 r64 r65 r66 r67 r68 r69 r70 r71 r72 r73 r74 r75 r76 r77 r78 r79 r80 r81 r82 r83 r84 r85 r86 m
      go_ret
      exact ⟨rfl, ((Fr.refl _ w).drewN _).below (Nat.le_refl _) (fun _ _ => id)⟩
    intro p6 p8 p56 p57 p58 p59 p60 p61 p62 p63 p64 p65 p66 p67 p68 p69 p70 p71 p72 p73 p74 p75 p76 p77 p78 p79 p80 p81 p82 p83 p84 p85 p86 z m
    go_upto_block 2 with fail
    refine totalQ _ _ _ _ _ _ _ _ _ _ _ _ _ _ _ _ _ _ _ _ _ _ _ _ _ _ _ _ _ _ _ _ _ _ _ _ _ _ _ _ _ _ _ _ _ _ _ _ _ _ _ _ _ _ _ _ _ _ _ _ _ _ _ _ _ _ _ _ _ _ _ _ _ _ _ _ _ _ _ _ _ _ _ _ _ _ _ _ _ _ _ _ _ _ _ _ _ _ _ _ _ _ _ _ _ _ _ _ _ _ _ _ _ _ _ _ _ _ _ _ _ _ _ _ _ _ _ _ _ _ _ _ _ _ _ _ _ _ _ _ _ _ _ _ _ _ _ _ _ _ _ _ _ _ _ _ _ _ _ _ _ _ _ _ _ _ _ _ _ _ _ _ _ _ _ _ _ _ _ _ _ _ _ _ _ _ _ _ _ _ _ _ _ _ _ _ _ _ _ _ _ _ _ _ _ _ _ _ _ _ _ _ _ _ _ _ _ _ _ _ _ _ _ _ _ _ _ _ _ _ _ _ _ _ _ _ _ _ _ _ _ _ _ _ _ _ _ _ _ _ _ _ _ _ _ _ _ _ _ _ _ _ _ _ _ _ _ _ _ _ _ _ _ _ _ _ _ _ _ _ _ _ _ _ _ _ _ _ _ _ _ _ _ _ _ _ _ _ _ _ _ _ _ _ _ _ _ _ _ _ _ _ _ _ _ _ _ _ _ _ _ _ _ _ _ _ _ _ _ _ a' n' c' qs z m w hn' H'.out _ _ ?_ ?_ _ rfl
    · intro r7 r9 r87 r88 r89 r90 r91 r92 r93 r94 r95 r96 r97 r98 r99 r100 r101 r102 r103 r104 r105 r106 r107 r108 r109 r110 r111 r112 r113 r114 r115 r116 r117 m
      go_ret
      exact ⟨rfl, ((Fr.refl _ w).drewN _).below (Nat.le_refl _) (fun _ _ => id)⟩
    intro q6 q9 q87 q88 q89 q90 q91 q92 q93 q94 q95 q96 q97 q98 q99 q100 q101 q102 q103 q104 q105 q106 q107 q108 q109 q110 q111 q112 q113 q114 q115 q116 q117 z2 m1
    have hmk := run_make_row' (P := Try.prog) 28 3 (.int .i64 0) 8 Try.underlying28 Try.info3 rfl .i64 .i64 n (by omega) (by omega)
    go_wp2_with fail
    refine (newTable_any sh (w.drewN m1)).mono ?_
    rintro e w2 ⟨T, M, L, rfl, hTab, hK⟩
    have I3 := hide (inv3_start (ks := ks) (n := n) hTab hK)
    clear hTab hK
    generalize hP : w2.heap.size = P at I3
    go_upto_block 4 with fail
    clear hmk
    generalize w2.alloc (.cells (madeCells #[.int .i64 0] n) 3) = w3 at I3 ⊢
    clear hP
    refine opens _ _ _ _ _ _ _ _ _ _ _ _ _ _ _ _ _ _ _ _ _ _ _ _ _ _ _ _ _ _ _ _ _ _ _ _ _ _ _ _ _ _ _ _ _ _ _ _ _ _ _ _ _ _ _ _ _ _ _ _ _ _ _ _ _ _ _ _ _ _ _ _ _ _ _ _ _ _ _ _ _ _ _ _ _ _ _ _ _ _ _ _ _ _ _ _ _ _ _ _ _ _ _ _ _ _ _ _ _ _ _ _ _ _ _ _ _ _ _ _ _ _ _ _ _ _ _ _ _ _ _ _ _ _ _ _ _ _ _ _ _ _ _ _ _ _ _ _ _ _ _ _ _ _ _ _ _ _ _ _ _ _ _ _ _ _ _ _ _ _ _ _ _ _ _ _ _ _ _ _ _ _ _ _ _ _ _ _ _ _ _ _ _ _ _ _ _ _ _ _ _ _ _ _ _ _ _ _ _ _ _ _ _ _ _ _ _ _ _ _ _ _ _ _ _ _ _ _ _ _ _ _ _ _ _ _ _ _ _ _ _ _ _ _ _ _ _ _ _ _ _ _ _ _ _ _ _ _ _ _ _ _ _ _ _ _ _ _ _ _ _ _ _ _ _ _ _ _ _ _ _ _ _ _ _ _ _ _ _ _ _ _ _ _ _ _ _ _ _ _ _ _ _ _ _ _ _ _ _ _ _ _ _ _ _ _ _ _ _ _ _ _ _ _ _ _ _ _ n c T M L P a ks sh w _ hn H.out HOK.out I3.out _ _ ?_ _ rfl
    intro s13 s14 s123 s124 s125 s126 s127 s128 s129 s130 s131 s132 s133 s134 s135 s136 s137 s138 s139 s140 s141 s142 s143 s144 s145 s146 s147 s148 s149 s150 s151 s152 s153 s154 s155 s156 s157 s158 s159 s160 wc E0 R0 ov hI
    have I := hide hI
    clear hI I3
    go_wp2_with fail
    refine (order_any T M L ov sh wc I.out.tab.tab (by obtain ⟨a, c, e⟩ := ownsRow_slice I.out.tab.ord; exact ⟨a, _, c, e⟩)).mono ?_
    rintro e w5 ⟨rfl, hw5⟩
    subst hw5
    go_upto_region 31 with fail
    go_cut [16] (fun v wc => ∃ ba bc, v = .slice ba (dist ks n).length bc ∧ Inv3 w wc T M L P sh ks n n E0 R0 ov ∧ Bef w wc ov (.slice ba (dist ks n).length bc) (dist ks n).length E0)
    case first =>
      by_cases hN : (dist ks n).length = 0
      · have := I.out.tab.nil (List.eq_nil_of_length_eq_zero hN)
        subst this
        have HN := hide hN
        clear hN
        go_wp2_with fail
        go_meet
        case rel => exact ⟨none, 0, by rw [HN.out], I.out, by rw [HN.out]; exact bef_nil _ _ _ _⟩
      · rcases I.out.tab.ord.2 with ⟨_, h0⟩ | ⟨g, cap, cur, rfl, hg0, hg1, hg2, hg3, hg4, hg5⟩
        · exact absurd h0 hN
        have hle := dist_length ks n
        obtain ⟨i0, hi, hz0, hz1, hz2'⟩ := info_parts Try.info29
        have HG := hide I.out.tab.ord
        have hN0 : 0 < (dist ks n).length := by omega
        have hcap0 : 0 < cap := by omega
        clear hg0 hg1 hg3 hg4 hg5 hN
        go_wp2_with (at_builtin; go_must (refine wpList_append_grows _ rfl (.tmp 164) (.tmp 165) 32 rfl 29 i0 (.pointer none) 1 8 Try.underlying32 hi hz0 hz1 hz2' rfl (by decide) _ _ _ [] rfl ?k1 rfl ?k2 ⟨g, 0, none⟩ (dist ks n).length cap (ordRow (dist ks n).length E0) rfl ?k3 ?k4 ?k5 ?k6 ?k7 ?k8 ?_))
        case k2 => intro b hb j u hj; simp at hj
        case k3 => rw [ordRow_length]; omega
        case k4 => exact HG.out.cells rfl
        case k5 => intro u hu; obtain ⟨p, _, rfl⟩ := List.mem_map.1 hu; rfl
        case k6 => omega
        case k7 => unfold maxLen; omega
        case k8 => omega
        intro v' w6 hown hgrow
        obtain ⟨a1, c1, rfl⟩ := ownsRow_slice hown
        have HX := hide (bef_made I.out hown hgrow)
        clear hown hgrow
        go_wp2_with fail
        go_meet
        case rel => exact ⟨_, _, rfl, HX.out.1, HX.out.2⟩
    case rest =>
      obtain ⟨ba, bc, rfl, hI, hBef⟩ := hcut
      clear I
      have hle := dist_length ks n
      have I := hide hI
      have HBef := hide hBef
      clear hI hBef
      have hmk := run_make_row' (P := Try.prog) 28 3 (.int .i64 0) 8 Try.underlying28 Try.info3 rfl .i64 .i64 (dist ks n).length (by omega) (by omega)
      have I5 := hide (inv5_start I.out HBef.out)
      generalize hLb : wc.heap.size = Lb at I5
      go_upto_block 6 with fail
      clear hmk
      generalize wc.alloc (.cells (madeCells #[.int .i64 0] (dist ks n).length) 3) = w7 at I5 ⊢
      clear hLb I HBef
      refine fills _ _ _ _ _ _ _ _ _ _ _ _ _ _ _ _ _ _ _ _ _ _ _ _ _ _ _ _ _ _ _ _ _ _ _ _ _ _ _ _ _ _ _ _ _ _ _ _ _ _ _ _ _ _ _ _ _ _ _ _ _ _ _ _ _ _ _ _ _ _ _ _ _ _ _ _ _ _ _ _ _ _ _ _ _ _ _ _ _ _ _ _ _ _ _ _ _ _ _ _ _ _ _ _ _ _ _ _ _ _ _ _ _ _ _ _ _ _ _ _ _ _ _ _ _ _ _ _ _ _ _ _ _ _ _ _ _ _ _ _ _ _ _ _ _ _ _ _ _ _ _ _ _ _ _ _ _ _ _ _ _ _ _ _ _ _ _ _ _ _ _ _ _ _ _ _ _ _ _ _ _ _ _ _ _ _ _ _ _ _ _ _ _ _ _ _ _ _ _ _ _ _ _ _ _ _ _ _ _ _ _ _ _ _ _ _ _ _ _ _ _ _ _ _ _ _ _ _ _ _ _ _ _ _ _ _ _ _ _ _ _ _ _ _ _ _ _ _ _ _ _ _ _ _ _ _ _ _ _ _ _ _ _ _ _ _ _ _ _ _ _ _ _ _ _ _ _ _ _ _ _ _ _ _ _ _ _ _ _ _ _ _ _ _ _ _ _ _ _ _ _ _ _ _ _ _ _ _ _ _ _ _ _ _ _ _ _ _ _ _ _ _ _ _ _ _ _ _ _ _ n T M L P Lb ks sh ov (.slice ba (dist ks n).length bc) E0 R0 w _ hn I5.out _ _ ?_ _ rfl
      intro f18 f173 f174 f175 f176 f177 f178 f179 f180 wc hI6
      clear I5
      have I := hide hI6
      clear hI6
      go_upto_block 8 with fail
      refine queries _ _ _ _ _ _ _ _ _ _ _ _ _ _ _ _ _ _ _ _ _ _ _ _ _ _ _ _ _ _ _ _ _ _ _ _ _ _ _ _ _ _ _ _ _ _ _ _ _ _ _ _ _ _ _ _ _ _ _ _ _ _ _ _ _ _ _ _ _ _ _ _ _ _ _ _ _ _ _ _ _ _ _ _ _ _ _ _ _ _ _ _ _ _ _ _ _ _ _ _ _ _ _ _ _ _ _ _ _ _ _ _ _ _ _ _ _ _ _ _ _ _ _ _ _ _ _ _ _ _ _ _ _ _ _ _ _ _ _ _ _ _ _ _ _ _ _ _ _ _ _ _ _ _ _ _ _ _ _ _ _ _ _ _ _ _ _ _ _ _ _ _ _ _ _ _ _ _ _ _ _ _ _ _ _ _ _ _ _ _ _ _ _ _ _ _ _ _ _ _ _ _ _ _ _ _ _ _ _ _ _ _ _ _ _ _ _ _ _ _ _ _ _ _ _ _ _ _ _ _ _ _ _ _ _ _ _ _ _ _ _ _ _ _ _ _ _ _ _ _ _ _ _ _ _ _ _ _ _ _ _ _ _ _ _ _ _ _ _ _ _ _ _ _ _ _ _ _ _ _ _ _ _ _ _ _ _ _ _ _ _ _ _ _ _ _ _ _ _ _ _ _ _ _ _ _ _ _ _ _ _ _ _ _ _ _ _ _ _ _ _ _ _ _ _ n n' c c' T M L P Lb a a' ks qs sh ov (.slice ba (dist ks n).length bc) E0 R0 w _ hn hn' H.out H'.out HOK'.out I.out _ _ ?_ _ rfl
      intro v6 v19 v20 v21 v22 v23 v24 v25 v26 v27 v28 v181 v182 v183 v184 v185 v186 v187 v188 v189 v190 v191 v192 v193 v194 v195 v196 v197 v198 v199 v200 v201 v202 v203 v204 v205 v206 v207 v208 v209 v210 v211 v212 v213 v214 v215 v216 v217 v218 v219 v220 v221 v222 v223 v224 v225 v226 v227 v228 v229 v230 v231 v232 v233 v234 v235 v236 v237 v238 v239 wd hex
      obtain ⟨E, R, lf, hI⟩ := hex
      clear I
      have I := hide hI
      obtain ⟨oa, oc, hov⟩ := ownsRow_slice hI.tab.ord
      subst hov
      clear hI H H' HOK HOK'
      go_wp2_with fail
      refine (order_any T M L _ sh wd I.out.tab.tab ⟨_, _, _, rfl⟩).mono ?_
      rintro e w11 ⟨rfl, hw11⟩
      obtain rfl : wd = w11 := hw11.symm
      clear hw11
      go_upto_block 12 with fail
      refine finale _ _ _ _ _ _ _ _ _ _ _ _ _ _ _ _ _ _ _ _ _ _ _ _ _ _ _ _ _ _ _ _ _ _ _ _ _ _ _ _ _ _ _ _ _ _ _ _ _ _ _ _ _ _ _ _ _ _ _ _ _ _ _ _ _ _ _ _ _ _ _ _ _ _ _ _ _ _ _ _ _ _ _ _ _ _ _ _ _ _ _ _ _ _ _ _ _ _ _ _ _ _ _ _ _ _ _ _ _ _ _ _ _ _ _ _ _ _ _ _ _ _ _ _ _ _ _ _ _ _ _ _ _ _ _ _ _ _ _ _ _ _ _ _ _ _ _ _ _ _ _ _ _ _ _ _ _ _ _ _ _ _ _ _ _ _ _ _ _ _ _ _ _ _ _ _ _ _ _ _ _ _ _ _ _ _ _ _ _ _ _ _ _ _ _ _ _ _ _ _ _ _ _ _ _ _ _ _ _ _ _ _ _ _ _ _ _ _ _ _ _ _ _ _ _ _ _ _ _ _ _ _ _ _ _ _ _ _ _ _ _ _ _ _ _ _ _ _ _ _ _ _ _ _ _ _ _ _ _ _ _ _ _ _ _ _ _ _ _ _ _ _ _ _ _ _ _ _ _ _ _ _ _ _ _ _ _ _ _ _ _ _ _ _ _ _ _ _ _ _ _ _ _ _ _ _ _ _ _ _ _ _ _ _ _ _ _ _ _ _ _ _ _ _ _ _ n n' ks sh T M L P Lb E0 ba bc oc oa w _ hn hn' E R lf I.out _ _ ?_ _ rfl
      intro t6 t30 t31 t32 t33 t34 t35 t36 t37 t38 t39 t40 t41 t42 t246 t247 t248 t249 t250 t251 t252 t253 t254 t255 t256 t257 t258 t259 t260 t261 t262 t263 t264 t265 t266 t267 t268 t269 t270 t271 t272 t273 t274 t275 t276 t277 t278 t279 t280 t281 t282 t283 t284 t285 t286 t287 t288 t289 t290 t291 t292 t293 t294 t295 t296 t297 t298 t299 t300 t301 t302 t303 t304 t305 t306 t307 t308 t309 t310 t311 t312 t313 t314 t315 t316 t317 t318 t319 t320 t321 t322 t323 t324 t325 t326 t327 t328 t329 t330 t331 t332 wz hk
      have HZ := hide (below_fr I.out.bel hk I.out.bel.size (fun _ _ => id))
      clear I hk
      go_wp2
      go_ret
      exact ⟨rfl, HZ.out⟩

end Go.Proofs.Qxb6613157a
