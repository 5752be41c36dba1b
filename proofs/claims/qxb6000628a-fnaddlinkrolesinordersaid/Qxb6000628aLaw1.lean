/-
  FnAddLinkRolesInOrder: the walk.
-/
import Derived.Test.Qxb6000628aLaw1L
import Derived.Deep.DeepCutAuto
import Derived.Deep.CutBlock
set_option linter.unusedVariables false
namespace Go.Proofs.Qxb6000628a
open Go.RowKit

set_option maxHeartbeats 4000000 in
set_option maxRecDepth 100000 in
theorem law1 (a0 : Option Addr) (len0 cap0 : Nat) (z0 : List ByteArray) (a1 : Option Addr) (len1 cap1 : Nat) (z1 : List ByteArray) (placed : Bool) (other : ByteArray) (w : World) (w0 : IsStrs w a0 len0 cap0 z0) (w1 : IsStrs w a1 len1 cap1 z1) (ho : other.size ≤ 9223372036854775807) :
    Calls Try.prog 3 #[.slice a0 len0 cap0, .slice a1 len1 cap1, .bool placed, .string other] w fun e w' => e = .returned (.bool true) ∧ Below w.heap.size w w' := by
  obtain ⟨ad0, s0⟩ := w0.strIn
  obtain ⟨ad1, s1⟩ := w1.strIn
  have nil0 := StrIn.nilOk w0
  have nil1 := StrIn.nilOk w1
  generalize (fun i => z0.getD i ByteArray.empty) = nm at *
  generalize (fun i => z1.getD i ByteArray.empty) = rl at *
  have l0 := s0.len
  have l1 := s1.len
  have N0 := hide nil0
  have N1 := hide nil1
  clear w0 w1 nil0 nil1
  go_enter Try.func3, Try.ntmps3
  go_wp2_with fail
  refine (bytes9_any _ _ _ _ _ _ _ _ _ _ _ _ _ s0 s1 ho).mono ?_
  rintro e wx ⟨⟨b, rfl⟩, rfl⟩
  cases b with
  | false =>
    go_wp2_with fail
    go_ret
    exact ⟨rfl, Below.refl _ _⟩
  | true =>
  by_cases h0 : 4096 < len0
  · go_wp2_with fail
    go_ret
    exact ⟨rfl, Below.refl _ _⟩
  by_cases h1 : 4096 < len1
  · go_wp2_with fail
    go_ret
    exact ⟨rfl, Below.refl _ _⟩
  by_cases h2 : 1048576 < other.size
  · go_wp2_with fail
    go_ret
    exact ⟨rfl, Below.refl _ _⟩
  have d0 : decide ((4096 : Int) < (len0 : Int)) = false := by simp; omega
  have d1 : decide ((4096 : Int) < (len1 : Int)) = false := by simp; omega
  have d2 : decide ((1048576 : Int) < (other.size : Int)) = false := by simp; omega
  go_wp2_with fail
  refine (strBytes_any _ _ _ _ _ _ s0).mono ?_
  rintro e wx ⟨⟨t0, rfl⟩, rfl⟩
  go_wp2_with fail
  refine (strBytes_any _ _ _ _ _ _ s1).mono ?_
  rintro e wx ⟨⟨t1, rfl⟩, rfl⟩
  go_wp2_with fail
  · go_ret
    exact ⟨rfl, Below.refl _ _⟩
  refine (premise_any _ _ _ _ _ _ _ _ _ _ _ s0 s1).mono ?_
  rintro e wx ⟨⟨b, rfl, hprem⟩, hdr⟩
  cases b with
  | false =>
    go_wp2_with fail
    go_ret
    exact ⟨rfl, hdr.below _⟩
  | true =>
  obtain ⟨hlen, hD⟩ := hprem rfl
  subst hlen
  have HD := hide hD
  clear hprem hD
  have bel0 : Below w.heap.size w wx := hdr.below _
  have s0 := s0.below bel0
  have s1 := s1.below bel0
  clear hdr
  go_upto_region 9 with fail
  go_cut [0] (fun sl wy => ∃ X c ad, sl = .slice X len0 c ∧ StrIn wy X len0 c ad nm ∧ StrIn wy a1 len0 cap1 ad1 rl ∧ Below w.heap.size w wy)
  case first =>
    go_wp2_with fail
    refine (cloneS_any _ _ _ _ _ _ s0 (by omega) N0.out).mono ?_
    rintro e wy ⟨X, c, ad, rfl, sX, belX⟩
    go_wp2_with fail
    go_meet
    exact ⟨X, c, ad, rfl, sX, s1.below belX, bel0.trans (belX.mono bel0.size)⟩
  case rest =>
  obtain ⟨X, cX, adX, rfl, sX, s1, bel1⟩ := hcut
  clear s0 bel0
  go_upto_region 10 with fail
  go_cut [1] (fun sl wy => ∃ Y c ad, sl = .slice Y len0 c ∧ StrIn wy X len0 cX adX nm ∧ StrIn wy Y len0 c ad rl ∧ Below w.heap.size w wy)
  case first =>
    go_wp2_with fail
    refine (cloneS_any _ _ _ _ _ _ s1 (by omega) N1.out).mono ?_
    rintro e wy ⟨Y, c, ad, rfl, sY, belY⟩
    go_wp2_with fail
    go_meet
    exact ⟨Y, c, ad, rfl, sX.below belY, sY, bel1.trans (belY.mono bel1.size)⟩
  case rest =>
  clear sX s1 bel1
  obtain ⟨Y, cY, adY, rfl, sX, sY, bel2⟩ := hcut
  have HX := hide sX
  have HY := hide sY
  clear sX sY
  have hszw : w.heap.size ≤ wc.heap.size := bel2.size
  go_wp2_with fail
  refine (ZZNew_any _).mono ?_
  rintro e wz ⟨rfl, hwz⟩
  have hG0 : Graph wz wc.heap.size wc.heap.size placed (fun _ => 0) (bld nm rl placed 0) := by rw [hwz]; exact Graph.start wc placed
  have belz : Below wc.heap.size wc wz := by rw [hwz]; exact (Below.refl _ _).alloc (Nat.le_refl _) _
  clear hwz
  go_wp2_with fail
  go_loopw [11] (fun i wr => ∃ k : Nat, k ≤ len0 ∧ i = .int .i64 k ∧ Below wc.heap.size wc wr ∧ ∃ own, Graph wr wc.heap.size wc.heap.size placed own (bld nm rl placed k)) (fun i _ => len0 - (intOf i).toNat)
  case atStart => exact ⟨0, by omega, rfl, belz, _, hG0⟩
  case round =>
    obtain ⟨k, hk, rfl, belr, own, hG⟩ := hrel
    by_cases hlt : k < len0
    · have sXr := HX.out.below belr
      have sYr := HY.out.below belr
      have x1 := sXr.idx k hlt
      have x2 := sYr.idx k hlt
      have y1 := sXr.cell k hlt
      have y2 := sYr.cell k hlt
      have y1' : (adX k).block < wc.heap.size := World.block_lt_of_cell? wc _ (HX.out.cell k hlt)
      have y2' : (adY k).block < wc.heap.size := World.block_lt_of_cell? wc _ (HY.out.cell k hlt)
      have hgl : wc.heap.size < wr.heap.size := by obtain ⟨l, hl, _⟩ := hG.ex; exact hl.lt
      have hnd := nodup_step (placed := placed) HD.out hlt
      have hrlen : (rolesIn (bld nm rl placed k) (nm k)).length ≤ 1000000 := by rw [roles_bld]; have := idxs_length nm (nm k) k; simp; omega
      have hlink : ∀ at_ : Int, (placed = true → at_ ≠ -1) → (placed = false → at_ = -1) → at_ = plc placed k → ∀ W, W = (wr.alloc (.cells #[.string (nm k), .string (rl k)] 9)).drew →
          Calls Try.prog 14 #[.map (some wc.heap.size), .slice (some ⟨wr.heap.size, 0, none⟩) 2 2, .int .i64 at_] W
            fun en w' => en = .returned (.tuple #[]) ∧ Below wc.heap.size W w' ∧ ∃ own', Graph w' wc.heap.size wc.heap.size placed own' (bld nm rl placed (k + 1)) := by
        intro at_ h1 h2 h3 W hW
        have hGW : Graph W wc.heap.size wc.heap.size placed own (bld nm rl placed k) := hG.below (by rw [hW]; exact ((Below.refl _ _).alloc (Nat.le_refl _) _).drew)
        have hbW : W.heap[wr.heap.size]? = some (.cells #[.string (nm k), .string (rl k)] 9 (0, 0)) := by rw [hW]; exact Go.Deep.blk_alloc_new _ _
        have := ZZAddLink_any wc.heap.size wr.heap.size wc.heap.size placed own (bld nm rl placed k) (nm k) (rl k) at_ W hGW hbW (hG.hi _ (Nat.le_refl _)) (by omega) h1 h2 hnd hrlen
        rw [h3] at this ⊢
        exact this
      have Hlink := hide hlink
      clear hlink hnd hrlen sXr sYr
      cases placed with
      | true =>
        go_wp2_with fail
        go_region_held3 (fun w' => w'.cell? (adX k) = some (.string (nm k)) ∧ w'.cell? (adY k) = some (.string (rl k)))
          (first | exact ⟨y1, y2⟩ | exact ⟨(World.cell?_alloc_lt _ _ _ (by omega)).trans y1, (World.cell?_alloc_lt _ _ _ (by omega)).trans y2⟩ | exact ⟨(hbl.cell y1').trans ((World.cell?_alloc_lt _ _ _ (by omega)).trans y1), (hbl.cell y2').trans ((World.cell?_alloc_lt _ _ _ (by omega)).trans y2)⟩)
          ((go_at_call 14; refine (Hlink.out (k : Int) (fun _ => by omega) (fun h => by cases h) rfl _ rfl).mono ?_; rintro en w' ⟨rfl, hbl, hGn⟩))
        go_wp2_with fail
        go_roundw
        case rel => exact ⟨k + 1, by omega, by go_num, (belr.trans (((Below.refl _ _).alloc (by omega) _).drew)).trans hbl, hGn⟩
        case measure => simp [intOf]; omega
      | false =>
        go_wp2_with fail
        go_region_held3 (fun w' => w'.cell? (adX k) = some (.string (nm k)) ∧ w'.cell? (adY k) = some (.string (rl k)))
          (first | exact ⟨y1, y2⟩ | exact ⟨(World.cell?_alloc_lt _ _ _ (by omega)).trans y1, (World.cell?_alloc_lt _ _ _ (by omega)).trans y2⟩ | exact ⟨(hbl.cell y1').trans ((World.cell?_alloc_lt _ _ _ (by omega)).trans y1), (hbl.cell y2').trans ((World.cell?_alloc_lt _ _ _ (by omega)).trans y2)⟩)
          ((go_at_call 14; refine (Hlink.out (-1) (fun h => by cases h) (fun _ => rfl) rfl _ rfl).mono ?_; rintro en w' ⟨rfl, hbl, hGn⟩))
        go_wp2_with fail
        go_roundw
        case rel => exact ⟨k + 1, by omega, by go_num, (belr.trans (((Below.refl _ _).alloc (by omega) _).drew)).trans hbl, hGn⟩
        case measure => simp [intOf]; omega
    · have hkn : k = len0 := by omega
      subst hkn
      have sXr := hide (HX.out.below belr)
      have sYr := hide (HY.out.below belr)
      have belW : Below w.heap.size w wr := bel2.trans (belr.mono hszw)
      clear belz hG0 HX HY bel2
      go_upto_block 2 with fail
      go_cut [13] (fun bv wy => wr = wy ∧ ∃ bb : Bool, bv = .bool bb ∧ Hid (bb = false → ∀ i, i < k → ¬ nm i = other))
      case first =>
        have sX := sXr.out
        go_wp2_with fail
        go_loop [13, 14] (fun b i => b = .bool false ∧ ∃ j : Nat, j ≤ k ∧ i = .int .i64 j ∧ ∀ a, a < j → ¬ nm a = other) (fun _ i => k - (intOf i).toNat)
        case atStart => exact ⟨rfl, 0, by omega, rfl, fun a ha => by omega⟩
        case round =>
          obtain ⟨rfl, j, hj, rfl, hA⟩ := hrel
          have HA := hide hA
          clear hA
          by_cases hlt1 : j < k
          · have x1 := sX.idx j hlt1
            have y1 := sX.cell j hlt1
            by_cases e1 : nm j = other
            · have b1 := str_yes e1
              clear e1
              go_wp2_with fail
              go_meet
              exact ⟨rfl, true, rfl, fun h => by cases h⟩
            · have b1 := str_no e1
              have He := hide e1
              clear e1
              go_wp2_with fail
              go_round
              case rel =>
                refine ⟨rfl, j + 1, by omega, by go_num, fun a ha => ?_⟩
                by_cases e : a = j
                · subst e; exact He.out
                · exact HA.out a (by omega)
              case measure => simp [intOf]; omega
          · go_wp2_with fail
            go_meet
            refine ⟨rfl, false, rfl, fun _ => ?_⟩
            have hjk : j = k := by omega
            subst hjk
            exact HA.out
      case rest =>
      obtain ⟨rfl, bb, rfl, hoth⟩ := hcut
      go_upto_region 26 with fail
      go_cut [103] (fun s wy => wr = wy ∧ s = .bool false)
      case first =>
        cases bb with
        | true =>
          go_wp2_with fail
          go_meet
          exact ⟨rfl, rfl⟩
        | false =>
          have hro : rolesIn (bld nm rl placed k) other = [] := by rw [roles_bld, idxs_other (hoth.out rfl) k (Nat.le_refl _)]; rfl
          go_wp2_with fail
          refine (ZZRolesOf_any _ _ _ _ _ other _ hG).mono ?_
          rw [hro]
          rintro e wy ⟨a, c, rfl, hs, rfl⟩
          go_wp2_with fail
          go_meet
          exact ⟨rfl, rfl⟩
      case rest =>
      obtain ⟨rfl, rfl⟩ := hcut
      clear hoth
      obtain ⟨W1, rfl⟩ : ∃ W1, W1 = wr := ⟨_, rfl⟩
      have hmk0 := run_make0 k (by omega)
      go_wp2_with fail
      refine loop3 X k cX adX nm Y cY adY rl _ _ _ _ _ placed own [] W1 _ _ _ _ _ _ _ _ _ _ _ _ _ _ _ _ _ _ _ _ _ _ _ _ _ _ _ _ _ _ _ _ _ _ _ _ _ _ _ _ _ _ _ _ _ _ _ _ _ _ _ _ _ _ _ _ _ _ _ _ _ _ _ _ _ _ _ _ _ _ _ _ _ _ _ _ _ _ _ _ _ _ _ _ _ _ _ _ _ _ _ _ _ _ _ _ _ _ _ _ _ _ _ _ _ _ _ _ _ _ _ _ _ _ _ _ _ _ _ _ _ _ _ _ _ _ _ _ _ _ _ _ _ _ _ _ _ _ _ _ _ _ _ _ _ _ _ _ _ _ _ _ _ _ _ _ _ _ _ _ _ _ _ _ _ _ _ _ _ _ _ _ _ _ _ _ _ _ _ _ _ _ _ _ _ _ _ _ _ _ _ _ _ _ _ _ _ _ _ _ sXr sYr (by omega) (hide hG) HD (World.ownsRow_made W1 _ k (Nat.le_refl _) (by unfold maxLen; omega) (by rw [size_madeCells]; omega)) ((Below.refl _ _).alloc (Nat.le_refl _) _) (hide ?ex)
      intro v8 v15 v16 v17 v18 v19 v20 v21 v22 v23 v24 v25 v106 v107 v108 v109 v110 v111 v112 v113 v114 v115 v116 v117 v118 v119 v120 v121 v122 v123 v124 v125 v126 v127 v128 v129 v130 v131 v132 v133 v134 v135 v136 v137 v138 v139 v140 v141 v142 v143 v144 v145 v146 v147 v148 v149 v150 v151 v152 v153 v154 v155 v156 v157 v158 v159 v160 v161 v162 v163 v164 v165 v166 v167 v168 v169 v170 v171 v172 v173 v174 v175 v176 v177 v178 v179 v180 v181 v182 v183 v184 v185 v186 v187 v188 v189 v190 v191 v192 v193 v194 v195 v196 v197 v198 v199 v200 v201 v202 v203 v204 wz belz
      go_wp2_with fail
      go_ret
      exact ⟨rfl, belW.trans (belz.mono belW.size)⟩

end Go.Proofs.Qxb6000628a
