/-
  FnAddLinkRolesInOrder: its inner loops, each a declaration.
-/
import Derived.Test.Qxb6000628aBld
import Derived.Deep.DeepCutAuto
import Derived.Deep.CutBlock
set_option linter.unusedVariables false
namespace Go.Proofs.Qxb6000628a
open Go.RowKit

def loopsOf : Code → List Code
  | .loop c => [c]
  | .seq a b => loopsOf a ++ loopsOf b
  | .block _ c => loopsOf c
  | .scope c => loopsOf c
  | .cond _ a b => loopsOf a ++ loopsOf b
  | _ => []

def loopAt (c : Code) (i : Nat) : Code := (loopsOf c)[i]?.getD .skip

theorem StrIn.nilOk {w : World} {a : Option Addr} {len cap : Nat} {ss : List ByteArray} (h : IsStrs w a len cap ss) : a = none → len = 0 ∧ cap = 0 := by
  rcases h with ⟨_, h1, h2, _⟩ | ⟨x, h, _⟩
  · exact fun _ => ⟨h1, h2⟩
  · intro e; rw [h] at e; cases e

/-- append onto a slice of one's own, from block 'base' on. -/
theorem wpList_appB {P : Program} {w : World} {ops : Array Oper} {rest : List Oper} {o : Oper} {a : Act} {Q : Exit → Act → World → Prop} (hgd : o.guard = none) (s y : Operand) (t : TypeId)
    (ho : o.op = .call { callee := .builtin .append, args := #[s, y], argTypes := #[t, t] }) (base : Nat)
    {e : TypeId} {i : TypeInfo} {z : Value} {bytes : Nat} (ht : P.underlying t = some (.slice e)) (hi : P.info? e = some i) (hz : i.zero = some z) (hs : i.size = 1) (hby : i.bytes = bytes) (hzs : z.cells.size = 1)
    {v : Value} (n : Nat) {xs : List Value} (hv : a.eval s = v) (h : w.ownsRow base e 1 v n xs) {ad : Addr} {x : Value} {c : Nat} (hy : a.eval y = .slice (some ad) 1 c) (hx : w.cell? ad = some x) (h1 : x.oneCell' = true)
    (hlen : (n + 1) * bytes ≤ 140737488355328) (hmax : n + 1 ≤ maxLen) (hbase : base ≤ w.heap.size)
    (hK : ∀ g cap w', w'.ownsRow base e 1 (.slice (some ⟨g, 0, none⟩) (n + 1) cap) (n + 1) (xs ++ [x]) → w.grownBy w' v.ownBlock → wpList P ops Q rest (a.put o.dst (.slice (some ⟨g, 0, none⟩) (n + 1) cap)) w') :
    wpList P ops Q (o :: rest) a w := by
  have hnews : ∀ j u, [x][j]? = some u → w.cell? (ad.add j) = some u := by
    intro j u hj
    match j, hj with
    | 0, hj =>
      simp at hj
      subst hj
      simpa [Addr.add] using hx
  refine wpList_append_own_at w hgd s y t ho base e i z 1 bytes ht hi hz hs hby hzs (by decide) v n xs hv h ad 1 c [x] hy rfl hnews (by simpa using h1) hmax hlen hbase ?_
  intro v' w' g1 g2 _ _
  rcases g1.2 with ⟨_, h0⟩ | ⟨g, cap, cur, rfl, rest'⟩
  · omega
  · exact hK g cap w' g1 g2

theorem own_reset {w : World} {base lg ln lcap : Nat} {xs : List Value} (h : w.ownsRow base 3 1 (.slice (some ⟨lg, 0, none⟩) ln lcap) ln xs) : w.ownsRow base 3 1 (.slice (some ⟨lg, 0, none⟩) 0 lcap) 0 [] := by
  rcases h.2 with ⟨h1, _⟩ | ⟨g, cap, cur, hv, h1, h2, h3, h4, h5, h6⟩
  · cases h1
  · injection hv with hv1 hv2 hv3
    injection hv1 with hv1
    injection hv1 with hv1
    subst hv1 hv3
    exact ⟨rfl, .inr ⟨_, _, cur, rfl, h1, h2, Nat.zero_le _, h4, h5, by simp⟩⟩

theorem own_below {w w' : World} {base n : Nat} {v : Value} {xs : List Value} (h : w.ownsRow base 3 1 v n xs) (hb : Below w.heap.size w w') : w'.ownsRow base 3 1 v n xs := by
  refine ⟨h.1, ?_⟩
  rcases h.2 with h | ⟨g, cap, cur, hv, h1, h2, h3⟩
  · exact .inl h
  · have hg : g < w.heap.size := by
      rcases Nat.lt_or_ge g w.heap.size with h | h
      · exact h
      · rw [Array.getElem?_eq_none h] at h2; cases h2
    exact .inr ⟨g, cap, cur, hv, h1, by rw [hb.block g hg]; exact h2, h3⟩

/-- The places found so far, as values. -/
def nats (l : List Nat) : List Value := l.map (fun (j : Nat) => Value.int .i64 (j : Int))

theorem rolesOf_n (gm B0 : Nat) (placed : Bool) (own : Nat → Nat) (E : List Ent) (s : ByteArray) (n : Nat) (w : World) (h : Graph w gm B0 placed own E) (hn : (rolesIn E s).length = n) (h0 : 0 < n) :
    Calls Try.prog 15 #[.map (some gm), .string s] w fun e w' => ∃ b o c, e = .returned (.slice (some ⟨b, o, none⟩) n c) ∧ (∀ (i : Nat) (r : ByteArray), (rolesIn E s)[i]? = some r → w.cell? ⟨b, o + i, none⟩ = some (.string r)) ∧ w = w' := by
  refine (ZZRolesOf_any gm B0 placed own E s w h).mono ?_
  rintro e w' ⟨a, c, rfl, hs, rfl⟩
  have hl : (strs (rolesIn E s)).length = n := by rw [← hn]; simp [strs]
  obtain ⟨b, o, cap, hv, hc⟩ := hs.at (by omega)
  rw [hl] at hv
  rw [hn] at hv ⊢
  refine ⟨b, o, cap, by rw [hv], fun i r hr => hc i (.string r) (by simp only [strs, List.getElem?_map, hr]; rfl), rfl⟩

theorem run_make0 (n : Nat) (hn : n ≤ 4096) (w : World) : (Instr.makeSlice 32 (.int .i64 0) (.int .i64 (n : Int))).run Try.prog w = .ok (.slice (some ⟨w.heap.size, 0, none⟩) 0 n) (w.alloc (.cells (madeCells #[.int .i64 0] n) 3)) := by
  obtain ⟨i, hi, hz, hs, hb⟩ := info_parts Try.info3
  have := run_make (P := Try.prog) w 32 3 i (.int .i64 0) Try.underlying32 hi hz .i64 .i64 0 (n : Int) (by omega) (by omega) (by rw [hb]; omega) (by omega)
  simpa [hs, Value.cells] using this

theorem Dr.mk' (w : World) (n : Nat) : Below w.heap.size w (w.drewN n) := (show Dr w (w.drewN n) from ⟨n, rfl⟩).below _

theorem idxs_mem {nm : Nat → ByteArray} {n i : Nat} (h : i < n) : i ∈ idxs nm n (nm i) := by
  unfold idxs
  simp [h]

theorem nats_succ (l : List Nat) (j : Nat) : nats (l ++ [j]) = nats l ++ [.int .i64 (j : Int)] := by simp [nats]

set_option maxHeartbeats 4000000 in
set_option maxRecDepth 1000000 in
theorem loop4 (X : Option Addr) (k cX i lg lcap : Nat) (s : ByteArray) (adX : Nat → Addr) (nm : Nat → ByteArray) (W1 wr : World) (u1 u2 u3 u4 u5 u6 u7 u8 u10 u11 u12 u13 u14 u16 u19 u20 u21 u22 u23 u24 u25 u26 u27 u28 u29 u30 u31 u32 u33 u34 u35 u36 u37 u38 u39 u40 u41 u42 u43 u44 u45 u46 u47 u48 u49 u50 u51 u52 u53 u54 u55 u56 u57 u58 u59 u60 u61 u62 u63 u64 u65 u66 u67 u68 u69 u70 u71 u72 u73 u74 u75 u76 u77 u78 u79 u80 u81 u82 u83 u84 u85 u86 u87 u88 u89 u90 u91 u92 u93 u94 u95 u96 u97 u98 u99 u100 u101 u102 u103 u104 u105 u106 u107 u108 u109 u110 u111 u112 u113 u114 u115 u116 u117 u118 u119 u120 u121 u122 u123 u124 u125 u126 u127 u128 u129 u130 u131 u132 u133 u134 u135 u136 u137 u138 u139 u140 u141 u142 u143 u144 u145 u146 u147 u148 u149 u150 u151 u152 u153 u154 u155 u156 u157 u158 u159 u160 u161 u162 u163 u164 u165 u166 u167 u168 u169 u170 u171 u172 u173 u174 u175 u176 u177 u178 u179 u180 u181 u182 u183 u184 u185 u186 u187 u188 u189 u190 u191 u192 u193 u194 u195 u196 u197 u198 u199 u200 u201 u202 u203 u204 : Value) (Q0 : Exit → Act → World → Prop)
    (sXr : Hid (StrIn W1 X k cX adX nm)) (hk : k ≤ 4096) (hik : i < k) (HF : Hid (idxs nm i s = [])) (hown0 : wr.ownsRow W1.heap.size 3 1 (.slice (some ⟨lg, 0, none⟩) 0 lcap) 0 []) (belF : Below W1.heap.size W1 wr)
    (hexit : Hid (∀ (u122 u123 u124 u125 u126 u127 u128 u129 u130 u131 u132 u133 u134 u135 u136 : Value) (lg ln lcap : Nat) (w' : World), ln = (idxs nm k s).length → w'.ownsRow W1.heap.size 3 1 (.slice (some ⟨lg, 0, none⟩) ln lcap) ln (nats (idxs nm k s)) → Below W1.heap.size W1 w' → Q0 (.exit 6) ⟨List.toArray ((.slice X k cX) :: u1 :: u2 :: u3 :: u4 :: u5 :: u6 :: u7 :: u8 :: (.int .i64 (k : Int)) :: u10 :: u11 :: u12 :: u13 :: u14 :: (.slice (some ⟨lg, 0, none⟩) ln lcap) :: u16 :: (.string s) :: (.int .i64 (k : Int)) :: u19 :: u20 :: u21 :: u22 :: u23 :: u24 :: u25 :: u26 :: u27 :: u28 :: u29 :: u30 :: u31 :: u32 :: u33 :: u34 :: u35 :: u36 :: u37 :: u38 :: u39 :: u40 :: u41 :: u42 :: u43 :: u44 :: u45 :: u46 :: u47 :: u48 :: u49 :: u50 :: u51 :: u52 :: u53 :: u54 :: u55 :: u56 :: u57 :: u58 :: u59 :: u60 :: u61 :: u62 :: u63 :: u64 :: u65 :: u66 :: u67 :: u68 :: u69 :: u70 :: u71 :: u72 :: u73 :: u74 :: u75 :: u76 :: u77 :: u78 :: u79 :: u80 :: u81 :: u82 :: u83 :: u84 :: u85 :: u86 :: u87 :: u88 :: u89 :: u90 :: u91 :: u92 :: u93 :: u94 :: u95 :: u96 :: u97 :: u98 :: u99 :: u100 :: u101 :: u102 :: u103 :: u104 :: u105 :: u106 :: u107 :: u108 :: u109 :: u110 :: u111 :: u112 :: u113 :: u114 :: u115 :: u116 :: u117 :: u118 :: u119 :: u120 :: u121 :: u122 :: u123 :: u124 :: u125 :: u126 :: u127 :: u128 :: u129 :: u130 :: u131 :: u132 :: u133 :: u134 :: u135 :: u136 :: u137 :: u138 :: u139 :: u140 :: u141 :: u142 :: u143 :: u144 :: u145 :: u146 :: u147 :: u148 :: u149 :: u150 :: u151 :: u152 :: u153 :: u154 :: u155 :: u156 :: u157 :: u158 :: u159 :: u160 :: u161 :: u162 :: u163 :: u164 :: u165 :: u166 :: u167 :: u168 :: u169 :: u170 :: u171 :: u172 :: u173 :: u174 :: u175 :: u176 :: u177 :: u178 :: u179 :: u180 :: u181 :: u182 :: u183 :: u184 :: u185 :: u186 :: u187 :: u188 :: u189 :: u190 :: u191 :: u192 :: u193 :: u194 :: u195 :: u196 :: u197 :: u198 :: u199 :: u200 :: u201 :: u202 :: u203 :: u204 :: []), []⟩ w')) :
    Code.wp Try.prog (Code.loop (loopAt (loopAt (Try.f3.body.getD .skip) 2) 0)) Q0 ⟨List.toArray ((.slice X k cX) :: u1 :: u2 :: u3 :: u4 :: u5 :: u6 :: u7 :: u8 :: (.int .i64 (k : Int)) :: u10 :: u11 :: u12 :: u13 :: u14 :: (.slice (some ⟨lg, 0, none⟩) 0 lcap) :: u16 :: (.string s) :: (.int .i64 (i : Int)) :: u19 :: u20 :: u21 :: u22 :: u23 :: u24 :: u25 :: u26 :: u27 :: u28 :: u29 :: u30 :: u31 :: u32 :: u33 :: u34 :: u35 :: u36 :: u37 :: u38 :: u39 :: u40 :: u41 :: u42 :: u43 :: u44 :: u45 :: u46 :: u47 :: u48 :: u49 :: u50 :: u51 :: u52 :: u53 :: u54 :: u55 :: u56 :: u57 :: u58 :: u59 :: u60 :: u61 :: u62 :: u63 :: u64 :: u65 :: u66 :: u67 :: u68 :: u69 :: u70 :: u71 :: u72 :: u73 :: u74 :: u75 :: u76 :: u77 :: u78 :: u79 :: u80 :: u81 :: u82 :: u83 :: u84 :: u85 :: u86 :: u87 :: u88 :: u89 :: u90 :: u91 :: u92 :: u93 :: u94 :: u95 :: u96 :: u97 :: u98 :: u99 :: u100 :: u101 :: u102 :: u103 :: u104 :: u105 :: u106 :: u107 :: u108 :: u109 :: u110 :: u111 :: u112 :: u113 :: u114 :: u115 :: u116 :: u117 :: u118 :: u119 :: u120 :: u121 :: u122 :: u123 :: u124 :: u125 :: u126 :: u127 :: u128 :: u129 :: u130 :: u131 :: u132 :: u133 :: u134 :: u135 :: u136 :: u137 :: u138 :: u139 :: u140 :: u141 :: u142 :: u143 :: u144 :: u145 :: u146 :: u147 :: u148 :: u149 :: u150 :: u151 :: u152 :: u153 :: u154 :: u155 :: u156 :: u157 :: u158 :: u159 :: u160 :: u161 :: u162 :: u163 :: u164 :: u165 :: u166 :: u167 :: u168 :: u169 :: u170 :: u171 :: u172 :: u173 :: u174 :: u175 :: u176 :: u177 :: u178 :: u179 :: u180 :: u181 :: u182 :: u183 :: u184 :: u185 :: u186 :: u187 :: u188 :: u189 :: u190 :: u191 :: u192 :: u193 :: u194 :: u195 :: u196 :: u197 :: u198 :: u199 :: u200 :: u201 :: u202 :: u203 :: u204 :: []), []⟩ wr := by
  conv => arg 2; arg 1; whnf
  have l0 := sXr.out.len
  obtain ⟨i3, gi, gz0, gz1, gz2⟩ := info_parts Try.info3
  go_loopw [15, 18] (fun sl jj wr => ∃ j : Nat, i ≤ j ∧ j ≤ k ∧ jj = .int .i64 j ∧ ∃ lg ln lcap, sl = .slice (some ⟨lg, 0, none⟩) ln lcap ∧ Hid (ln = (idxs nm j s).length) ∧ wr.ownsRow W1.heap.size 3 1 (.slice (some ⟨lg, 0, none⟩) ln lcap) ln (nats (idxs nm j s)) ∧ Below W1.heap.size W1 wr) (fun _ jj _ => k - (intOf jj).toNat)
  case atStart => exact ⟨i, by omega, by omega, rfl, lg, 0, lcap, rfl, by show 0 = _; rw [HF.out]; rfl, by rw [HF.out]; exact hown0, belF⟩
  case round =>
    clear hown0
    obtain ⟨j, hij, hjk, rfl, lg, ln, lcap, rfl, hln, hown, belL⟩ := hrel
    have hlnb : ln ≤ 4096 := by rw [hln.out]; have := idxs_length nm s j; omega
    by_cases hltj : j < k
    · have sX := sXr.out.below belL
      have x1 := sX.idx j hltj
      have y1 := sX.cell j hltj
      clear sX
      by_cases e1 : nm j = s
      · have b1 := str_yes e1
        have He := hide e1
        clear e1
        go_wp2_with (at_builtin; go_must (refine wpList_appB (xs := nats (idxs nm j s)) (x := .int .i64 (j : Int)) rfl _ _ 32 rfl W1.heap.size Try.underlying32 gi gz0 gz1 gz2 rfl ln rfl ?hown rfl ?hx rfl ?hl ?hm ?hb ?hK))
        case hown => exact hown.alloc _
        case hx => simp
        case hl => omega
        case hm => unfold maxLen; omega
        case hb => have := belL.size; simp; omega
        case hK =>
          intro g' cap' wn hown' hgr
          have belN : Below W1.heap.size W1 wn := (belL.alloc belL.size _).grown hgr (by have := belL.size; simp; omega) (fun b hb => ((hown.lt b hb).1))
          clear hgr hown
          go_wp2_with fail
          go_roundw
          case rel => exact ⟨j + 1, by omega, by omega, by go_num, _, _, _, rfl, by show _ = _; rw [idxs_succ, if_pos He.out, hln.out]; simp, by rw [idxs_succ, if_pos He.out, nats_succ]; exact hown', belN⟩
          case measure => simp [intOf]; omega
      · have b1 := str_no e1
        have He := hide e1
        clear e1
        go_wp2_with fail
        go_roundw
        case rel => exact ⟨j + 1, by omega, by omega, by go_num, _, _, _, rfl, by show _ = _; rw [idxs_succ, if_neg He.out, hln.out], by rw [idxs_succ, if_neg He.out]; exact hown, belL⟩
        case measure => simp [intOf]; omega
    · obtain rfl : j = k := by omega
      go_wp2_with fail
      exact hexit.out _ _ _ _ _ _ _ _ _ _ _ _ _ _ _ _ _ _ _ hln.out hown belL

set_option maxHeartbeats 4000000 in
set_option maxRecDepth 1000000 in
theorem loop5 (Y : Option Addr) (k cY gm B0 lg ln lcap b o gc : Nat) (placed : Bool) (s : ByteArray) (adY : Nat → Addr) (rl : Nat → ByteArray) (own : Nat → Nat) (E : List Ent) (W : World) (u0 u3 u4 u5 u6 u7 u8 u11 u12 u13 u14 u16 u18 u22 u23 u24 u25 u26 u27 u28 u29 u30 u31 u32 u33 u34 u35 u36 u37 u38 u39 u40 u41 u42 u43 u44 u45 u46 u47 u48 u49 u50 u51 u52 u53 u54 u55 u56 u57 u58 u59 u60 u61 u62 u63 u64 u65 u66 u67 u68 u69 u70 u71 u72 u73 u74 u75 u76 u77 u78 u79 u80 u81 u82 u83 u84 u85 u86 u87 u88 u89 u90 u91 u92 u93 u94 u95 u96 u97 u98 u99 u100 u101 u102 u103 u104 u105 u106 u107 u108 u109 u110 u111 u112 u113 u114 u115 u116 u117 u118 u119 u120 u121 u122 u123 u124 u125 u126 u127 u128 u129 u130 u131 u132 u133 u134 u135 u136 u137 u138 u139 u140 u141 u142 u143 u144 u145 u146 u147 u148 u149 u150 u151 u152 u153 u154 u155 u156 u157 u158 u159 u160 u161 u162 u163 u164 u165 u166 u167 u168 u169 u170 u171 u172 u173 u174 u175 u176 u177 u178 u179 u180 u181 u182 u183 u184 u185 u186 u187 u188 u189 u190 u191 u192 u193 u194 u195 u196 u197 u198 u199 u200 u201 u202 u203 u204 : Value) (Q0 : Exit → Act → World → Prop)
    (sY : Hid (StrIn W Y k cY adY rl)) (hk : k ≤ 4096) (hG : Graph W gm B0 placed own E) (hln : Hid ((rolesIn E s).length = ln)) (hlnb : ln ≤ 4096) (hnd : (rolesIn E s).Nodup) (m8 : Bool) (hm8 : Hid (m8 = true → 8 < ln))
    (hfact : Hid (∀ q : Nat, q < ln → ∃ j : Nat, j < k ∧ W.cell? ⟨lg, q, none⟩ = some (.int .i64 (j : Int)) ∧ W.cell? ⟨b, o + q, none⟩ = some (.string (rl j)) ∧ (rolesIn E s)[q]? = some (rl j) ∧ (plsIn E s)[q]? = some (plc placed j)))
    (hexit : Hid (∀ (u8 u21 u22 u23 u24 u25 u160 u161 u162 u163 u164 u165 u166 u167 u168 u169 u170 u171 u172 u173 u174 u175 u176 u177 u178 u179 u180 u181 u182 u183 u184 u185 u186 u187 u188 u189 u190 u191 u192 u193 u194 u195 u196 u197 u198 u199 u200 u201 u202 u203 u204 : Value) (w' : World), Below W.heap.size W w' → Q0 (.exit 8) ⟨List.toArray (u0 :: (.slice Y k cY) :: (.bool placed) :: u3 :: u4 :: u5 :: u6 :: u7 :: u8 :: (.int .i64 (k : Int)) :: (.map (some gm)) :: u11 :: u12 :: u13 :: u14 :: (.slice (some ⟨lg, 0, none⟩) ln lcap) :: u16 :: (.string s) :: u18 :: (.slice (some ⟨b, o, none⟩) ln gc) :: (.bool m8) :: u21 :: u22 :: u23 :: u24 :: u25 :: u26 :: u27 :: u28 :: u29 :: u30 :: u31 :: u32 :: u33 :: u34 :: u35 :: u36 :: u37 :: u38 :: u39 :: u40 :: u41 :: u42 :: u43 :: u44 :: u45 :: u46 :: u47 :: u48 :: u49 :: u50 :: u51 :: u52 :: u53 :: u54 :: u55 :: u56 :: u57 :: u58 :: u59 :: u60 :: u61 :: u62 :: u63 :: u64 :: u65 :: u66 :: u67 :: u68 :: u69 :: u70 :: u71 :: u72 :: u73 :: u74 :: u75 :: u76 :: u77 :: u78 :: u79 :: u80 :: u81 :: u82 :: u83 :: u84 :: u85 :: u86 :: u87 :: u88 :: u89 :: u90 :: u91 :: u92 :: u93 :: u94 :: u95 :: u96 :: u97 :: u98 :: u99 :: u100 :: u101 :: u102 :: u103 :: u104 :: u105 :: u106 :: u107 :: u108 :: u109 :: u110 :: u111 :: u112 :: u113 :: u114 :: u115 :: u116 :: u117 :: u118 :: u119 :: u120 :: u121 :: u122 :: u123 :: u124 :: u125 :: u126 :: u127 :: u128 :: u129 :: u130 :: u131 :: u132 :: u133 :: u134 :: u135 :: u136 :: u137 :: u138 :: u139 :: u140 :: u141 :: u142 :: u143 :: u144 :: u145 :: u146 :: u147 :: u148 :: u149 :: u150 :: u151 :: u152 :: u153 :: u154 :: u155 :: u156 :: u157 :: u158 :: u159 :: u160 :: u161 :: u162 :: u163 :: u164 :: u165 :: u166 :: u167 :: u168 :: u169 :: u170 :: u171 :: u172 :: u173 :: u174 :: u175 :: u176 :: u177 :: u178 :: u179 :: u180 :: u181 :: u182 :: u183 :: u184 :: u185 :: u186 :: u187 :: u188 :: u189 :: u190 :: u191 :: u192 :: u193 :: u194 :: u195 :: u196 :: u197 :: u198 :: u199 :: u200 :: u201 :: u202 :: u203 :: u204 :: []), []⟩ w')) :
    Code.wp Try.prog (Code.loop (loopAt (loopAt (Try.f3.body.getD .skip) 2) 1)) Q0 ⟨List.toArray (u0 :: (.slice Y k cY) :: (.bool placed) :: u3 :: u4 :: u5 :: u6 :: u7 :: u8 :: (.int .i64 (k : Int)) :: (.map (some gm)) :: u11 :: u12 :: u13 :: u14 :: (.slice (some ⟨lg, 0, none⟩) ln lcap) :: u16 :: (.string s) :: u18 :: (.slice (some ⟨b, o, none⟩) ln gc) :: (.bool m8) :: (.int .i64 0) :: u22 :: u23 :: u24 :: u25 :: u26 :: u27 :: u28 :: u29 :: u30 :: u31 :: u32 :: u33 :: u34 :: u35 :: u36 :: u37 :: u38 :: u39 :: u40 :: u41 :: u42 :: u43 :: u44 :: u45 :: u46 :: u47 :: u48 :: u49 :: u50 :: u51 :: u52 :: u53 :: u54 :: u55 :: u56 :: u57 :: u58 :: u59 :: u60 :: u61 :: u62 :: u63 :: u64 :: u65 :: u66 :: u67 :: u68 :: u69 :: u70 :: u71 :: u72 :: u73 :: u74 :: u75 :: u76 :: u77 :: u78 :: u79 :: u80 :: u81 :: u82 :: u83 :: u84 :: u85 :: u86 :: u87 :: u88 :: u89 :: u90 :: u91 :: u92 :: u93 :: u94 :: u95 :: u96 :: u97 :: u98 :: u99 :: u100 :: u101 :: u102 :: u103 :: u104 :: u105 :: u106 :: u107 :: u108 :: u109 :: u110 :: u111 :: u112 :: u113 :: u114 :: u115 :: u116 :: u117 :: u118 :: u119 :: u120 :: u121 :: u122 :: u123 :: u124 :: u125 :: u126 :: u127 :: u128 :: u129 :: u130 :: u131 :: u132 :: u133 :: u134 :: u135 :: u136 :: u137 :: u138 :: u139 :: u140 :: u141 :: u142 :: u143 :: u144 :: u145 :: u146 :: u147 :: u148 :: u149 :: u150 :: u151 :: u152 :: u153 :: u154 :: u155 :: u156 :: u157 :: u158 :: u159 :: u160 :: u161 :: u162 :: u163 :: u164 :: u165 :: u166 :: u167 :: u168 :: u169 :: u170 :: u171 :: u172 :: u173 :: u174 :: u175 :: u176 :: u177 :: u178 :: u179 :: u180 :: u181 :: u182 :: u183 :: u184 :: u185 :: u186 :: u187 :: u188 :: u189 :: u190 :: u191 :: u192 :: u193 :: u194 :: u195 :: u196 :: u197 :: u198 :: u199 :: u200 :: u201 :: u202 :: u203 :: u204 :: []), []⟩ W := by
  conv => arg 2; arg 1; whnf
  have l0 := sY.out.len
  go_loopw [21] (fun qq wr => ∃ q : Nat, q ≤ ln ∧ qq = .int .i64 q ∧ Below W.heap.size W wr) (fun qq _ => ln - (intOf qq).toNat)
  case atStart => exact ⟨0, by omega, rfl, Below.refl _ _⟩
  case round =>
    obtain ⟨q, hq, rfl, bel⟩ := hrel
    by_cases hltq : q < ln
    · obtain ⟨j, hjk, c1, c2, hr1, hp1⟩ := hfact.out q hltq
      have hr := hide hr1
      have hp := hide hp1
      clear hr1 hp1
      have sYr := sY.out.below bel
      have x1 := sYr.idx j hjk
      have y1 := sYr.cell j hjk
      clear sYr
      have c1 := (bel.cell (World.block_lt_of_cell? W _ c1)).trans c1
      have c2 := (bel.cell (World.block_lt_of_cell? W _ c2)).trans c2
      have b1 := str_yes (rfl : rl j = rl j)
      have hszY : (rl j).size ≤ 9223372036854775807 := sY.out.size j
      have hGr := hG.below bel
      have y0 := hide (sY.out.cell j hjk)
      clear hG sY hfact
      cases placed with
      | true =>
        have hp : Hid ((plsIn E s)[q]? = some ((j : Int))) := hp
        go_wp2_with fail
        go_quiet (fail)
        go_wp2_with fail
        refine (ZZPlaceAt_any _ _ _ _ E s q ((j : Int)) _ (hGr.below (Dr.mk' wr _)) hp.out (by rw [hln.out]; omega)).mono ?_
        rintro e w1 ⟨rfl, bl1⟩
        have bel1 := (bel.trans ((Dr.mk' wr _).mono bel.size)).trans (bl1.mono (bel.trans ((Dr.mk' wr _).mono bel.size)).size)
        have hG1 := (hGr.below (Dr.mk' wr _)).below bl1
        have y2 : w1.cell? (adY j) = some (.string (rl j)) := (bel1.cell (World.block_lt_of_cell? W _ y0.out)).trans y0.out
        clear bl1 hGr c1 c2 y1 bel
        cases m8 with
        | false =>
          go_wp2_with fail
          go_roundw
          case rel => exact ⟨q + 1, by omega, by go_num, bel1⟩
          case measure => simp [intOf]; omega
        | true =>
          go_wp2_with fail
          refine (ZZByRole_any _ _ _ _ E s (rl j) q ((j : Int)) _ hG1 (by rw [hln.out]; exact hm8.out (by simp)) hnd hr.out hp.out).mono ?_
          rintro e w2 ⟨rfl, bl2⟩
          have bel2 := bel1.trans (bl2.mono bel1.size)
          clear bl2 hG1 y2 bel1
          go_wp2_with fail
          go_roundw
          case rel => exact ⟨q + 1, by omega, by go_num, bel2⟩
          case measure => simp [intOf]; omega
      | false =>
        have hp : Hid ((plsIn E s)[q]? = some (-1)) := hp
        go_wp2_with fail
        go_quiet (fail)
        go_wp2_with fail
        refine (ZZPlaceAt_any _ _ _ _ E s q (-1) _ (hGr.below (Dr.mk' wr _)) hp.out (by rw [hln.out]; omega)).mono ?_
        rintro e w1 ⟨rfl, bl1⟩
        have bel1 := (bel.trans ((Dr.mk' wr _).mono bel.size)).trans (bl1.mono (bel.trans ((Dr.mk' wr _).mono bel.size)).size)
        have hG1 := (hGr.below (Dr.mk' wr _)).below bl1
        have y2 : w1.cell? (adY j) = some (.string (rl j)) := (bel1.cell (World.block_lt_of_cell? W _ y0.out)).trans y0.out
        clear bl1 hGr c1 c2 y1 bel
        cases m8 with
        | false =>
          go_wp2_with fail
          go_roundw
          case rel => exact ⟨q + 1, by omega, by go_num, bel1⟩
          case measure => simp [intOf]; omega
        | true =>
          go_wp2_with fail
          refine (ZZByRole_any _ _ _ _ E s (rl j) q (-1) _ hG1 (by rw [hln.out]; exact hm8.out (by simp)) hnd hr.out hp.out).mono ?_
          rintro e w2 ⟨rfl, bl2⟩
          have bel2 := bel1.trans (bl2.mono bel1.size)
          clear bl2 hG1 y2 bel1
          go_wp2_with fail
          go_roundw
          case rel => exact ⟨q + 1, by omega, by go_num, bel2⟩
          case measure => simp [intOf]; omega
    · obtain rfl : q = ln := by omega
      go_wp2_with fail
      exact hexit.out _ _ _ _ _ _ _ _ _ _ _ _ _ _ _ _ _ _ _ _ _ _ _ _ _ _ _ _ _ _ _ _ _ _ _ _ _ _ _ _ _ _ _ _ _ _ _ _ _ _ _ _ bel

set_option maxHeartbeats 8000000 in
set_option maxRecDepth 1000000 in
theorem loop3 (X : Option Addr) (k cX : Nat) (adX : Nat → Addr) (nm : Nat → ByteArray) (Y : Option Addr) (cY : Nat) (adY : Nat → Addr) (rl : Nat → ByteArray) (gm B0 lg ln lcap : Nat) (placed : Bool) (own0 : Nat → Nat) (xs : List Value) (W1 wr : World) (u3 u4 u5 u6 u7 u8 u11 u12 u13 u14 u17 u18 u19 u20 u21 u22 u23 u24 u25 u26 u27 u28 u29 u30 u31 u32 u33 u34 u35 u36 u37 u38 u39 u40 u41 u42 u43 u44 u45 u46 u47 u48 u49 u50 u51 u52 u53 u54 u55 u56 u57 u58 u59 u60 u61 u62 u63 u64 u65 u66 u67 u68 u69 u70 u71 u72 u73 u74 u75 u76 u77 u78 u79 u80 u81 u82 u83 u84 u85 u86 u87 u88 u89 u90 u91 u92 u93 u94 u95 u96 u97 u98 u99 u100 u101 u102 u103 u104 u105 u106 u107 u108 u109 u110 u111 u112 u113 u114 u115 u116 u117 u118 u119 u120 u121 u122 u123 u124 u125 u126 u127 u128 u129 u130 u131 u132 u133 u134 u135 u136 u137 u138 u139 u140 u141 u142 u143 u144 u145 u146 u147 u148 u149 u150 u151 u152 u153 u154 u155 u156 u157 u158 u159 u160 u161 u162 u163 u164 u165 u166 u167 u168 u169 u170 u171 u172 u173 u174 u175 u176 u177 u178 u179 u180 u181 u182 u183 u184 u185 u186 u187 u188 u189 u190 u191 u192 u193 u194 u195 u196 u197 u198 u199 u200 u201 u202 u203 u204 : Value) (Q0 : Exit → Act → World → Prop)
    (sXr : Hid (StrIn W1 X k cX adX nm)) (sYr : Hid (StrIn W1 Y k cY adY rl)) (hk : k ≤ 4096) (hG : Hid (Graph W1 gm B0 placed own0 (bld nm rl placed k))) (HD : Hid (Dist nm rl k))
    (hown : wr.ownsRow W1.heap.size 3 1 (.slice (some ⟨lg, 0, none⟩) ln lcap) ln xs) (bel : Below W1.heap.size W1 wr)
    (hexit : Hid (∀ (u8 u15 u16 u17 u18 u19 u20 u21 u22 u23 u24 u25 u106 u107 u108 u109 u110 u111 u112 u113 u114 u115 u116 u117 u118 u119 u120 u121 u122 u123 u124 u125 u126 u127 u128 u129 u130 u131 u132 u133 u134 u135 u136 u137 u138 u139 u140 u141 u142 u143 u144 u145 u146 u147 u148 u149 u150 u151 u152 u153 u154 u155 u156 u157 u158 u159 u160 u161 u162 u163 u164 u165 u166 u167 u168 u169 u170 u171 u172 u173 u174 u175 u176 u177 u178 u179 u180 u181 u182 u183 u184 u185 u186 u187 u188 u189 u190 u191 u192 u193 u194 u195 u196 u197 u198 u199 u200 u201 u202 u203 u204 : Value) (w' : World), Below W1.heap.size W1 w' → Q0 (.exit 4) ⟨List.toArray ((.slice X k cX) :: (.slice Y k cY) :: (.bool placed) :: u3 :: u4 :: u5 :: u6 :: u7 :: u8 :: (.int .i64 (k : Int)) :: (.map (some gm)) :: u11 :: u12 :: u13 :: u14 :: u15 :: u16 :: u17 :: u18 :: u19 :: u20 :: u21 :: u22 :: u23 :: u24 :: u25 :: u26 :: u27 :: u28 :: u29 :: u30 :: u31 :: u32 :: u33 :: u34 :: u35 :: u36 :: u37 :: u38 :: u39 :: u40 :: u41 :: u42 :: u43 :: u44 :: u45 :: u46 :: u47 :: u48 :: u49 :: u50 :: u51 :: u52 :: u53 :: u54 :: u55 :: u56 :: u57 :: u58 :: u59 :: u60 :: u61 :: u62 :: u63 :: u64 :: u65 :: u66 :: u67 :: u68 :: u69 :: u70 :: u71 :: u72 :: u73 :: u74 :: u75 :: u76 :: u77 :: u78 :: u79 :: u80 :: u81 :: u82 :: u83 :: u84 :: u85 :: u86 :: u87 :: u88 :: u89 :: u90 :: u91 :: u92 :: u93 :: u94 :: u95 :: u96 :: u97 :: u98 :: u99 :: u100 :: u101 :: u102 :: u103 :: u104 :: u105 :: u106 :: u107 :: u108 :: u109 :: u110 :: u111 :: u112 :: u113 :: u114 :: u115 :: u116 :: u117 :: u118 :: u119 :: u120 :: u121 :: u122 :: u123 :: u124 :: u125 :: u126 :: u127 :: u128 :: u129 :: u130 :: u131 :: u132 :: u133 :: u134 :: u135 :: u136 :: u137 :: u138 :: u139 :: u140 :: u141 :: u142 :: u143 :: u144 :: u145 :: u146 :: u147 :: u148 :: u149 :: u150 :: u151 :: u152 :: u153 :: u154 :: u155 :: u156 :: u157 :: u158 :: u159 :: u160 :: u161 :: u162 :: u163 :: u164 :: u165 :: u166 :: u167 :: u168 :: u169 :: u170 :: u171 :: u172 :: u173 :: u174 :: u175 :: u176 :: u177 :: u178 :: u179 :: u180 :: u181 :: u182 :: u183 :: u184 :: u185 :: u186 :: u187 :: u188 :: u189 :: u190 :: u191 :: u192 :: u193 :: u194 :: u195 :: u196 :: u197 :: u198 :: u199 :: u200 :: u201 :: u202 :: u203 :: u204 :: []), []⟩ w')) :
    Code.wp Try.prog (Code.loop (loopAt (Try.f3.body.getD .skip) 2)) Q0 ⟨List.toArray ((.slice X k cX) :: (.slice Y k cY) :: (.bool placed) :: u3 :: u4 :: u5 :: u6 :: u7 :: u8 :: (.int .i64 (k : Int)) :: (.map (some gm)) :: u11 :: u12 :: u13 :: u14 :: (.slice (some ⟨lg, 0, none⟩) ln lcap) :: (.int .i64 0) :: u17 :: u18 :: u19 :: u20 :: u21 :: u22 :: u23 :: u24 :: u25 :: u26 :: u27 :: u28 :: u29 :: u30 :: u31 :: u32 :: u33 :: u34 :: u35 :: u36 :: u37 :: u38 :: u39 :: u40 :: u41 :: u42 :: u43 :: u44 :: u45 :: u46 :: u47 :: u48 :: u49 :: u50 :: u51 :: u52 :: u53 :: u54 :: u55 :: u56 :: u57 :: u58 :: u59 :: u60 :: u61 :: u62 :: u63 :: u64 :: u65 :: u66 :: u67 :: u68 :: u69 :: u70 :: u71 :: u72 :: u73 :: u74 :: u75 :: u76 :: u77 :: u78 :: u79 :: u80 :: u81 :: u82 :: u83 :: u84 :: u85 :: u86 :: u87 :: u88 :: u89 :: u90 :: u91 :: u92 :: u93 :: u94 :: u95 :: u96 :: u97 :: u98 :: u99 :: u100 :: u101 :: u102 :: u103 :: u104 :: u105 :: u106 :: u107 :: u108 :: u109 :: u110 :: u111 :: u112 :: u113 :: u114 :: u115 :: u116 :: u117 :: u118 :: u119 :: u120 :: u121 :: u122 :: u123 :: u124 :: u125 :: u126 :: u127 :: u128 :: u129 :: u130 :: u131 :: u132 :: u133 :: u134 :: u135 :: u136 :: u137 :: u138 :: u139 :: u140 :: u141 :: u142 :: u143 :: u144 :: u145 :: u146 :: u147 :: u148 :: u149 :: u150 :: u151 :: u152 :: u153 :: u154 :: u155 :: u156 :: u157 :: u158 :: u159 :: u160 :: u161 :: u162 :: u163 :: u164 :: u165 :: u166 :: u167 :: u168 :: u169 :: u170 :: u171 :: u172 :: u173 :: u174 :: u175 :: u176 :: u177 :: u178 :: u179 :: u180 :: u181 :: u182 :: u183 :: u184 :: u185 :: u186 :: u187 :: u188 :: u189 :: u190 :: u191 :: u192 :: u193 :: u194 :: u195 :: u196 :: u197 :: u198 :: u199 :: u200 :: u201 :: u202 :: u203 :: u204 :: []), []⟩ wr := by
  conv => arg 2; arg 1; whnf
  have l0 := sXr.out.len
  go_loopw [15, 16] (fun sl i wr => ∃ j : Nat, j ≤ k ∧ i = .int .i64 j ∧ ∃ lg ln lcap xs, sl = .slice (some ⟨lg, 0, none⟩) ln lcap ∧ wr.ownsRow W1.heap.size 3 1 (.slice (some ⟨lg, 0, none⟩) ln lcap) ln xs ∧ Below W1.heap.size W1 wr) (fun _ i _ => k - (intOf i).toNat)
  case atStart => exact ⟨0, by omega, rfl, _, _, _, xs, rfl, hown, bel⟩
  case round =>
    clear hown bel
    obtain ⟨i, hi, rfl, lg, ln, lcap, xs, rfl, hown, belL⟩ := hrel
    by_cases hlti : i < k
    · have sX := sXr.out.below belL
      go_wp2_with fail
      refine (first_any _ _ _ _ _ i hlti _ sX).mono ?_
      rintro e wf ⟨hF, hdr⟩
      have belF : Below W1.heap.size W1 wf := belL.trans (hdr.below _)
      have hownF : wf.ownsRow W1.heap.size 3 1 (.slice (some ⟨lg, 0, none⟩) ln lcap) ln xs := by obtain ⟨m, rfl⟩ := hdr; exact hown
      clear hdr hown belL sX
      rcases hF with ⟨rfl, hF⟩ | ⟨rfl, hF⟩
      case inr =>
        clear hF
        go_wp2_with fail
        go_roundw
        case rel => exact ⟨i + 1, by omega, by go_num, _, _, _, _, rfl, hownF, belF⟩
        case measure => simp [intOf]; omega
      case inl =>
        have HF := hide hF
        clear hF
        have sXf := sXr.out.below belF
        have x0 := sXf.idx i hlti
        have y0 := sXf.cell i hlti
        clear sXf
        have hown0 := own_reset hownF
        clear hownF
        go_wp2_with fail
        refine loop4 X k cX i lg lcap (nm i) adX nm W1 wf _ _ _ _ _ _ _ _ _ _ _ _ _ _ _ _ _ _ _ _ _ _ _ _ _ _ _ _ _ _ _ _ _ _ _ _ _ _ _ _ _ _ _ _ _ _ _ _ _ _ _ _ _ _ _ _ _ _ _ _ _ _ _ _ _ _ _ _ _ _ _ _ _ _ _ _ _ _ _ _ _ _ _ _ _ _ _ _ _ _ _ _ _ _ _ _ _ _ _ _ _ _ _ _ _ _ _ _ _ _ _ _ _ _ _ _ _ _ _ _ _ _ _ _ _ _ _ _ _ _ _ _ _ _ _ _ _ _ _ _ _ _ _ _ _ _ _ _ _ _ _ _ _ _ _ _ _ _ _ _ _ _ _ _ _ _ _ _ _ _ _ _ _ _ _ _ _ _ _ _ _ _ _ _ _ _ _ _ _ _ _ _ _ _ _ _ _ _ _ _ _ sXr hk hlti (hide (idxs_first HF.out i (Nat.le_refl _))) hown0 belF (hide ?ex4)
        clear hown0 belF y0 x0
        intro v122 v123 v124 v125 v126 v127 v128 v129 v130 v131 v132 v133 v134 v135 v136 lg ln lcap w4 hln0 hownL belL
        have hln := hide hln0
        clear hln0
        have hlnb : ln ≤ 4096 := by rw [hln.out]; have := idxs_length nm (nm i) k; omega
        have hpos : 0 < ln := by rw [hln.out]; exact List.length_pos_of_mem (idxs_mem hlti)
        have hrl : Hid ((rolesIn (bld nm rl placed k) (nm i)).length = ln) := by show _ = _; rw [roles_bld, hln.out]; simp
        have hnd : Hid ((rolesIn (bld nm rl placed k) (nm i)).Nodup) := by show List.Nodup _; rw [roles_bld]; exact nodup_bld (nm i) HD.out
        have hGm := hG.out.below belL
        go_wp2_with fail
        refine (rolesOf_n gm B0 placed own0 _ (nm i) ln _ hGm hrl.out hpos).mono ?_
        rintro e wx ⟨b, o, gc, rfl, hcc, rfl⟩
        have hcells := hide hcc
        clear hcc
        by_cases h8 : 8 < ln
        · skip
          have hd8 : decide ((8 : Int) < (ln : Int)) = true := by simp; omega
          have hd9 : decide (8 < (rolesIn (bld nm rl placed k) (nm i)).length) = true := by rw [hrl.out]; simp; omega
          go_wp2_with fail
          refine (ZZMany_any _ _ _ _ _ _ _ hGm).mono ?_
          rw [hd9]
          rintro e wm ⟨rfl, blm⟩
          have belM := belL.trans (blm.mono belL.size)
          have hGm2 := hGm.below blm
          have hownM := own_below hownL blm
          have hc2 : ∀ (q : Nat) (r : ByteArray), (rolesIn (bld nm rl placed k) (nm i))[q]? = some r → wm.cell? ⟨b, o + q, none⟩ = some (.string r) := fun q r h => (blm.cell (World.block_lt_of_cell? w4 _ (hcells.out q r h))).trans (hcells.out q r h)
          have hcells := hide hc2
          clear hc2 blm hGm hownL belL hd9
          go_wp2_with fail
          refine (ZZByRoleLen_any _ _ _ _ _ _ _ hGm2 (by rw [hrl.out]; exact h8)).mono ?_
          rw [hrl.out]
          rintro e wn ⟨rfl, bln⟩
          have belN := belM.trans (bln.mono belM.size)
          have hGn := hGm2.below bln
          have hownN := own_below hownM bln
          have hc2 : ∀ (q : Nat) (r : ByteArray), (rolesIn (bld nm rl placed k) (nm i))[q]? = some r → wn.cell? ⟨b, o + q, none⟩ = some (.string r) := fun q r h => (bln.cell (World.block_lt_of_cell? wm _ (hcells.out q r h))).trans (hcells.out q r h)
          have hcells := hide hc2
          clear hc2 bln hGm2 hownM belM
          go_wp2_with fail
          refine loop5 Y k cY gm B0 lg ln lcap b o gc placed (nm i) adY rl own0 (bld nm rl placed k) wn _ _ _ _ _ _ _ _ _ _ _ _ _ _ _ _ _ _ _ _ _ _ _ _ _ _ _ _ _ _ _ _ _ _ _ _ _ _ _ _ _ _ _ _ _ _ _ _ _ _ _ _ _ _ _ _ _ _ _ _ _ _ _ _ _ _ _ _ _ _ _ _ _ _ _ _ _ _ _ _ _ _ _ _ _ _ _ _ _ _ _ _ _ _ _ _ _ _ _ _ _ _ _ _ _ _ _ _ _ _ _ _ _ _ _ _ _ _ _ _ _ _ _ _ _ _ _ _ _ _ _ _ _ _ _ _ _ _ _ _ _ _ _ _ _ _ _ _ _ _ _ _ _ _ _ _ _ _ _ _ _ _ _ _ _ _ _ _ _ _ _ _ _ _ _ _ _ _ _ _ _ _ _ _ _ _ _ _ _ _ _ _ _ _ _ _ _ (hide (sYr.out.below belN)) hk hGn hrl hlnb hnd.out true (hide (fun h => by omega)) (hide (fun q hq => ?fact)) (hide ?ex)
          case fact =>
            obtain ⟨j, hj⟩ : ∃ j, (idxs nm k (nm i))[q]? = some j := ⟨_, List.getElem?_eq_getElem (by rw [← hln.out]; exact hq)⟩
            have hjI := idxs_lt (List.mem_of_getElem? hj)
            refine ⟨j, hjI.1, ?_, hcells.out q (rl j) ?_, ?_, ?_⟩
            · rw [hownN.cellAt q (by omega)]; simp [nats, hj]
            · rw [roles_bld]; simp [hj]
            · rw [roles_bld]; simp [hj]
            · rw [pls_bld]; simp [hj]
          case ex =>
            intro v8 v21 v22 v23 v24 v25 v160 v161 v162 v163 v164 v165 v166 v167 v168 v169 v170 v171 v172 v173 v174 v175 v176 v177 v178 v179 v180 v181 v182 v183 v184 v185 v186 v187 v188 v189 v190 v191 v192 v193 v194 v195 v196 v197 v198 v199 v200 v201 v202 v203 v204 wz belz
            have belZ := belN.trans (belz.mono belN.size)
            have hownZ := own_below hownN belz
            clear belz hownN belN hGn hcells
            go_wp2_with fail
            go_roundw
            case rel => exact ⟨i + 1, by omega, by go_num, _, _, _, _, rfl, hownZ, belZ⟩
            case measure => simp [intOf]; omega
        · skip
          have hd8 : decide ((8 : Int) < (ln : Int)) = false := by simp; omega
          have hd9 : decide (8 < (rolesIn (bld nm rl placed k) (nm i)).length) = false := by rw [hrl.out]; simp; omega
          go_wp2_with fail
          refine (ZZMany_any _ _ _ _ _ _ _ hGm).mono ?_
          rw [hd9]
          rintro e wm ⟨rfl, blm⟩
          have belM := belL.trans (blm.mono belL.size)
          have hGm2 := hGm.below blm
          have hownM := own_below hownL blm
          have hc2 : ∀ (q : Nat) (r : ByteArray), (rolesIn (bld nm rl placed k) (nm i))[q]? = some r → wm.cell? ⟨b, o + q, none⟩ = some (.string r) := fun q r h => (blm.cell (World.block_lt_of_cell? w4 _ (hcells.out q r h))).trans (hcells.out q r h)
          have hcells := hide hc2
          clear hc2 blm hGm hownL belL hd9
          go_wp2_with fail
          refine loop5 Y k cY gm B0 lg ln lcap b o gc placed (nm i) adY rl own0 (bld nm rl placed k) wm _ _ _ _ _ _ _ _ _ _ _ _ _ _ _ _ _ _ _ _ _ _ _ _ _ _ _ _ _ _ _ _ _ _ _ _ _ _ _ _ _ _ _ _ _ _ _ _ _ _ _ _ _ _ _ _ _ _ _ _ _ _ _ _ _ _ _ _ _ _ _ _ _ _ _ _ _ _ _ _ _ _ _ _ _ _ _ _ _ _ _ _ _ _ _ _ _ _ _ _ _ _ _ _ _ _ _ _ _ _ _ _ _ _ _ _ _ _ _ _ _ _ _ _ _ _ _ _ _ _ _ _ _ _ _ _ _ _ _ _ _ _ _ _ _ _ _ _ _ _ _ _ _ _ _ _ _ _ _ _ _ _ _ _ _ _ _ _ _ _ _ _ _ _ _ _ _ _ _ _ _ _ _ _ _ _ _ _ _ _ _ _ _ _ _ _ _ (hide (sYr.out.below belM)) hk hGm2 hrl hlnb hnd.out false (hide (fun h => by cases h)) (hide (fun q hq => ?fact)) (hide ?ex)
          case fact =>
            obtain ⟨j, hj⟩ : ∃ j, (idxs nm k (nm i))[q]? = some j := ⟨_, List.getElem?_eq_getElem (by rw [← hln.out]; exact hq)⟩
            have hjI := idxs_lt (List.mem_of_getElem? hj)
            refine ⟨j, hjI.1, ?_, hcells.out q (rl j) ?_, ?_, ?_⟩
            · rw [hownM.cellAt q (by omega)]; simp [nats, hj]
            · rw [roles_bld]; simp [hj]
            · rw [roles_bld]; simp [hj]
            · rw [pls_bld]; simp [hj]
          case ex =>
            intro v8 v21 v22 v23 v24 v25 v160 v161 v162 v163 v164 v165 v166 v167 v168 v169 v170 v171 v172 v173 v174 v175 v176 v177 v178 v179 v180 v181 v182 v183 v184 v185 v186 v187 v188 v189 v190 v191 v192 v193 v194 v195 v196 v197 v198 v199 v200 v201 v202 v203 v204 wz belz
            have belZ := belM.trans (belz.mono belM.size)
            have hownZ := own_below hownM belz
            clear belz hownM belM hGm2 hcells
            go_wp2_with fail
            go_roundw
            case rel => exact ⟨i + 1, by omega, by go_num, _, _, _, _, rfl, hownZ, belZ⟩
            case measure => simp [intOf]; omega
    · obtain rfl : i = k := by omega
      go_wp2_with fail
      exact hexit.out _ _ _ _ _ _ _ _ _ _ _ _ _ _ _ _ _ _ _ _ _ _ _ _ _ _ _ _ _ _ _ _ _ _ _ _ _ _ _ _ _ _ _ _ _ _ _ _ _ _ _ _ _ _ _ _ _ _ _ _ _ _ _ _ _ _ _ _ _ _ _ _ _ _ _ _ _ _ _ _ _ _ _ _ _ _ _ _ _ _ _ _ _ _ _ _ _ _ _ _ _ _ _ _ _ _ _ _ _ _ _ _ belL

end Go.Proofs.Qxb6000628a
