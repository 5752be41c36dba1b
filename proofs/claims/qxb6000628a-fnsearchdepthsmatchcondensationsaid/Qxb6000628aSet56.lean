/-
  A cycle is settled (func 56).
-/
import Derived.Test.Qxb6000628aDm
set_option linter.unusedVariables false
namespace Go.Proofs.Qxb6000628a
open Go.RowKit

/-- A name's roles as they are handed out. -/
structure Rl (w : World) (X : Option Addr) (n c : Nat) (ad : Nat → Addr) (f : Nat → ByteArray) : Prop where
  idx : ∀ k, k < n → ∀ w', (Instr.indexAt 22 (.slice X n c) (.int .i64 (k : Int))).run Try.prog w' = .ok (.pointer (some (ad k))) w'
  cell : ∀ k, k < n → w.cell? (ad k) = some (.string (f k))

theorem roles44 (gm B0 : Nat) (placed : Bool) (own : Nat → Nat) (E : List Ent) (s : ByteArray) (n : Nat) (w : World) (h : Graph w gm B0 placed own E) (hn : (rolesIn E s).length = n) :
    Calls Try.prog 44 #[.map (some gm), .string s] w fun e w' => ∃ X c ad f, e = .returned (.slice X n c) ∧ Rl w X n c ad f ∧ (∀ i, i < n → (rolesIn E s)[i]? = some (f i)) ∧ w = w' := by
  refine (rolesOfG gm B0 placed own E s w h).mono ?_
  rintro e w' ⟨a, c, rfl, hs, rfl⟩
  rw [hn] at hs ⊢
  have hl : (strs (rolesIn E s)).length = n := by rw [← hn]; simp [strs]
  have hf : ∀ i, i < n → (rolesIn E s)[i]? = some ((rolesIn E s).getD i ByteArray.empty) := fun i hi => by
    rw [List.getD_eq_getElem?_getD, List.getElem?_eq_getElem (by omega)]; rfl
  by_cases h0 : 0 < n
  · obtain ⟨b, o, cap, hv, hc⟩ := hs.at (by omega)
    rw [hl] at hv
    injection hv with hv1 hv2 hv3
    subst hv1 hv3
    refine ⟨_, _, fun i => ⟨b, o + i, none⟩, fun i => (rolesIn E s).getD i ByteArray.empty, rfl, ⟨fun k hk w' => ?_, fun k hk => ?_⟩, hf, rfl⟩
    · have hc : (0 : Int) ≤ (k : Int) ∧ (k : Int) < (n : Int) := by omega
      simp [go_sem, hc, Try.underlying22]
    · refine hc k _ ?_
      simp only [strs, List.getElem?_map]
      rw [hf k hk]
      rfl
  · exact ⟨a, c, fun _ => ⟨0, 0, none⟩, fun i => (rolesIn E s).getD i ByteArray.empty, rfl, ⟨fun k hk => by omega, fun k hk => by omega⟩, hf, rfl⟩

/-- Look-ups in a map of ints. -/
theorem look_int {w : World} {r : Nat} {l : List (ByteArray × Value)} (h : MapIs w r l) {s : ByteArray} {o : Option Nat} (hv : mget l s = intV o) :
    (Instr.lookup 69 (.map (some r)) (.string s) true).run Try.prog w = .ok (.tuple #[.int .i64 ((o.getD 0 : Nat) : Int), .bool o.isSome]) w := by
  cases o with
  | none => exact run_look_none Try.underlying69 Try.underlying9 h hv (zero3 w) true
  | some n => exact run_look Try.underlying69 Try.underlying9 h hv true

theorem look_int1 {w : World} {r : Nat} {l : List (ByteArray × Value)} (h : MapIs w r l) {s : ByteArray} {n : Nat} (hv : mget l s = some (.int .i64 (n : Int))) :
    (Instr.lookup 69 (.map (some r)) (.string s) false).run Try.prog w = .ok (.int .i64 (n : Int)) w := run_look Try.underlying69 Try.underlying9 h hv false

theorem bumps_bound {V : Type} (dep : V → Option Nat) (M : Nat) (hM : ∀ v e, dep v = some e → e + 1 ≤ M) : ∀ (l : List V) (d : Nat), d ≤ M → bumps dep d l ≤ M := by
  intro l d hd
  rcases (bumps_spec dep l d).2.2 with h | ⟨y, _, e, he, h⟩
  · omega
  · have := hM y e he; omega

theorem best_bound {V : Type} (adj : V → List V) (dep : V → Option Nat) (M : Nat) (hM : ∀ v e, dep v = some e → e + 1 ≤ M) (l : List V) (d : Nat) (hd : d ≤ M) : best adj dep d l ≤ M := by
  rcases (best_spec adj dep l d).2.2 with h | ⟨x, _, y, _, e, he, h⟩
  · omega
  · have := hM y e he; omega

theorem bumps_snoc {V : Type} (dep : V → Option Nat) (d : Nat) (l : List V) (a : V) : bumps dep d (l ++ [a]) = bump dep (bumps dep d l) a := by simp [bumps]
theorem best_snoc {V : Type} (adj : V → List V) (dep : V → Option Nat) (d : Nat) (l : List V) (a : V) : best adj dep d (l ++ [a]) = bumps dep (best adj dep d l) (adj a) := by simp [best]

theorem take_snoc {l : List ByteArray} {q : Nat} {a : ByteArray} (h : l[q]? = some a) : l.take (q + 1) = l.take q ++ [a] := by
  rw [List.take_add_one, h]
  rfl

theorem own_take {w : World} {base g n j cap : Nat} {e : TypeId} {xs : List Value} (h : w.ownsRow base e 1 (.slice (some ⟨g, 0, none⟩) n cap) n xs) (hj : j ≤ n) : w.ownsRow base e 1 (.slice (some ⟨g, 0, none⟩) j cap) j (xs.take j) := by
  refine ⟨by rw [List.length_take, h.1]; omega, ?_⟩
  rcases h.2 with ⟨h1, _⟩ | ⟨g', cap', cur, hv, h1, h2, h3, h4, h5, h6⟩
  · cases h1
  · injection hv with hv1 hv2 hv3
    injection hv1 with hv1
    injection hv1 with hv1
    subst hv1 hv3
    refine .inr ⟨_, _, cur, rfl, h1, h2, by omega, h4, h5, ?_⟩
    rw [← h6, List.take_take]
    congr 1
    omega

set_option maxHeartbeats 8000000 in
set_option maxRecDepth 100000 in
theorem settle56 (W w : World) (gm B0 : Nat) (own : Nat → Nat) (E : List Ent) (sv : Value) (ld li ll : List (ByteArray × Value)) (st : List ByteArray) (name : ByteArray) (k : Nat) (dep : ByteArray → Option Nat)
    (D : Dq W w gm sv ld li ll st) (hG : Graph W gm B0 false own E) (hd : ∀ v, mget ld v = intV (dep v)) (hk : st[k]? = some name) (hu : ∀ j, st[j]? = some name → j = k) (hs : st.length ≤ 65536)
    (hM : ∀ v e, dep v = some e → e + 1 ≤ 65536) (hrl : ∀ v, (rolesIn E v).length ≤ 65536) :
    Calls Try.prog 56 #[.pointer (some ⟨W.heap.size + 3, 0, none⟩), .string name] w fun e w' => e = .returned (.tuple #[]) ∧ ∃ sv' ld', Dq W w' gm sv' ld' li ll (st.take k) ∧ Keeps (W.heap.size + 4) sv sv' w w' ∧
      ∀ v, mget ld' v = intV (setDep dep (st.drop k) (best (rolesIn E) dep 0 (st.drop k)) v) := by
  have hkn : k < st.length := (List.getElem?_eq_some_iff.1 hk).1
  obtain ⟨n, hn⟩ : ∃ n, st.length = n := ⟨_, rfl⟩
  have hrow := D.row
  rw [hn] at hrow hs hkn
  obtain ⟨g, cap, rfl, hcap⟩ : ∃ g cap, sv = .slice (some ⟨g, 0, none⟩) n cap ∧ n ≤ cap := by
    rcases hrow.2 with ⟨_, h⟩ | ⟨g, cap, cur, h, _, _, h2, _⟩
    · omega
    · exact ⟨g, cap, h, h2⟩
  obtain ⟨f, hf⟩ : ∃ f : Nat → ByteArray, ∀ i, i < n → st[i]? = some (f i) := ⟨fun i => st.getD i ByteArray.empty, fun i hi => by
    show st[i]? = some (st.getD i ByteArray.empty)
    rw [List.getD_eq_getElem?_getD, List.getElem?_eq_getElem (by omega)]; rfl⟩
  have hcell : ∀ j, j < n → w.cell? ⟨g, j, none⟩ = some (.string (f j)) := by
    intro j hj
    rw [hrow.cellAt j (by omega)]
    simp only [strs, List.getElem?_map]
    rw [hf j hj]
    rfl
  have Hf := hide hf
  clear hf
  have hlow : W.heap.size + 4 ≤ g := (hrow.lt g rfl).1
  have HD := hide D
  have Hu := hide hu
  have Hk := hide hk
  have Hcell := hide hcell
  have Hn := hide hn
  have Hd := hide hd
  have Hrow := hide hrow
  have c4 := D.c4
  have f4 := D.fz
  clear D hu hk hcell hn hd hrow
  go_enter Try.func56, Try.ntmps56
  go_wp2_with fail
  go_loop [4] (fun a => ∃ j : Nat, k ≤ j ∧ j < n ∧ a = .int .i64 (j : Int)) (fun a => (intOf a).toNat)
  case atStart => exact ⟨n - 1, by omega, by omega, by go_num⟩
  case round =>
    obtain ⟨j, hkj, hjn, rfl⟩ := hrel
    have cj := Hcell.out j hjn
    by_cases e1 : f j = name
    · have hjk : j = k := Hu.out j (by rw [← e1]; exact Hf.out j hjn)
      have b1 := str_yes e1
      clear e1
      subst hjk
      have hrow1 := own_take Hrow.out (Nat.le_of_lt hjn)
      have D1 : Dq W (w.setCell ⟨W.heap.size + 3, 4, none⟩ (.slice (some ⟨g, 0, none⟩) j cap)) gm (.slice (some ⟨g, 0, none⟩) j cap) ld li ll (st.take j) :=
        HD.out.setStack (by have : (st.take j).length = j := by rw [List.length_take, Hn.out]; omega
                            rw [this]; simpa [strs, List.map_take] using hrow1)
      have hcell1 : ∀ i, i < n → (w.setCell ⟨W.heap.size + 3, 4, none⟩ (.slice (some ⟨g, 0, none⟩) j cap)).cell? ⟨g, i, none⟩ = some (.string (f i)) := fun i hi =>
        (World.cell?_of_block (Below.heap_setCell _ _ _ _ (by show g ≠ W.heap.size + 3; omega))).trans (Hcell.out i hi)
      have hbk1 : ∀ b, W.heap.size + 4 ≤ b → (w.setCell ⟨W.heap.size + 3, 4, none⟩ (.slice (some ⟨g, 0, none⟩) j cap)).heap[b]? = w.heap[b]? := fun b hb => Below.heap_setCell _ _ _ _ (by show b ≠ W.heap.size + 3; omega)
      have hsz1 : w.heap.size ≤ (w.setCell ⟨W.heap.size + 3, 4, none⟩ (.slice (some ⟨g, 0, none⟩) j cap)).heap.size := by simp [World.setCell]
      have HD1 := hide D1
      have Hcell1 := hide hcell1
      have Hbk1 := hide hbk1
      clear hrow1 D1 hcell1 hbk1
      go_wp2_with fail
      generalize w.setCell ⟨W.heap.size + 3, 4, none⟩ (.slice (some ⟨g, 0, none⟩) j cap) = w1 at *
      clear c4 f4 cj b1
      generalize hm : n - j = m at *
      have Hm : Hid (j + m = n) := by show _ = _; omega
      have hmb : m ≤ 65536 := by omega
      clear hm
      go_loop [6, 49] (fun dv qv => ∃ q x : Nat, q ≤ m ∧ qv = .int .i64 (q : Int) ∧ dv = .int .i64 (x : Int) ∧ Hid (x = best (rolesIn E) dep 0 ((st.drop j).take q))) (fun _ qv => m - (intOf qv).toNat)
      case atStart => exact ⟨0, 0, by omega, rfl, rfl, by show 0 = _; simp [best]⟩
      case round =>
        obtain ⟨q, x, hq, rfl, rfl, hx⟩ := hrel
        have hxb : x ≤ 65536 := by rw [hx.out]; exact best_bound _ _ _ hM _ _ (by omega)
        have c1 := HD1.out.c1
        by_cases hqm : q < m
        · have cq := Hcell1.out (j + q) (by have := Hm.out; omega)
          have hfq := hide (Hf.out (j + q) (by have := Hm.out; omega))
          have c0 := HD1.out.c0
          have hGw := hG.below HD1.out.bel
          generalize f (j + q) = nq at *
          go_wp2_with fail
          obtain ⟨r, hr⟩ : ∃ r, (rolesIn E nq).length = r := ⟨_, rfl⟩
          refine (roles44 _ _ _ _ E nq r _ hGw hr).mono ?_
          rintro e wx ⟨X, c, ad, fr, rfl, hR, hfr, rfl⟩
          have hrb : r ≤ 65536 := by rw [← hr]; exact hrl _
          have Hr := hide hr
          have HR := hide hR
          have Hfr := hide hfr
          clear hr hR hfr hGw c0 cq
          go_wp2_with fail
          go_loop [6, 60] (fun dv tv => ∃ t y : Nat, t ≤ r ∧ tv = .int .i64 (t : Int) ∧ dv = .int .i64 (y : Int) ∧ Hid (y = bumps dep x ((rolesIn E nq).take t))) (fun _ tv => r - (intOf tv).toNat)
          case atStart => exact ⟨0, x, by omega, rfl, rfl, by show x = _; simp [bumps]⟩
          case round =>
            obtain ⟨t, y, ht, rfl, rfl, hy⟩ := hrel
            have hyb : y ≤ 65536 := by rw [hy.out]; exact bumps_bound _ _ hM _ _ hxb
            by_cases htr : t < r
            · have it := HR.out.idx t htr
              have ct := HR.out.cell t htr
              have hlook := look_int HD1.out.md (Hd.out (fr t))
              have hft := hide (Hfr.out t htr)
              cases hdep : dep (fr t) with
              | none =>
                have Hdep := hide hdep
                rw [hdep] at hlook
                simp only [Option.getD_none, Option.isSome_none] at hlook
                clear hdep
                go_wp2_with fail
                go_round
                case rel => exact ⟨t + 1, y, by omega, by go_num, rfl, by show y = _; rw [take_snoc hft.out, bumps_snoc, ← hy.out]; simp [bump, Hdep.out]⟩
                case measure => simp [intOf]; omega
              | some e =>
                have Hdep := hide hdep
                have heb : e + 1 ≤ 65536 := hM _ _ hdep
                rw [hdep] at hlook
                simp only [Option.getD_some, Option.isSome_some] at hlook
                clear hdep
                go_wp2_with fail
                go_round
                case rel =>
                  have hmx : (if (y : Int) < (e : Int) + 1 then (e : Int) + 1 else (y : Int)) = ((max y (e + 1) : Nat) : Int) := by split <;> omega
                  exact ⟨t + 1, max y (e + 1), by omega, by go_num, by rw [hmx], by show max y (e + 1) = _; rw [take_snoc hft.out, bumps_snoc, ← hy.out]; simp [bump, Hdep.out]⟩
                case measure => simp [intOf]; omega
            · obtain rfl : t = r := by omega
              go_wp2_with fail
              go_round
              case rel =>
                refine ⟨q + 1, y, by omega, by go_num, rfl, ?_⟩
                show y = _
                rw [take_snoc (a := nq) (by rw [List.getElem?_drop]; exact hfq.out), best_snoc, ← hx.out, hy.out, List.take_of_length_le (Nat.le_of_eq Hr.out)]
              case measure => simp [intOf]; omega
        · obtain rfl : q = m := by omega
          go_wp2_with fail
          have Hx : Hid (x = best (rolesIn E) dep 0 (st.drop j)) := by
            show _ = _
            rw [hx.out, List.take_of_length_le (by have h1 := Hm.out; have h2 := Hn.out; simp; omega)]
          clear hx c1
          go_loopw [82] (fun tv wr => ∃ (t : Nat) (ldt : List (ByteArray × Value)), t ≤ q ∧ tv = .int .i64 (t : Int) ∧ Dq W wr gm (.slice (some ⟨g, 0, none⟩) j cap) ldt li ll (st.take j) ∧ (∀ v, mget ldt v = intV (setDep dep ((st.drop j).take t) x v)) ∧ (∀ a, wr.cell? a = w1.cell? a) ∧ (∀ b, W.heap.size + 4 ≤ b → wr.heap[b]? = w1.heap[b]?) ∧ w1.heap.size ≤ wr.heap.size) (fun tv _ => q - (intOf tv).toNat)
          case atStart => exact ⟨0, ld, by omega, rfl, HD1.out, fun v => by rw [List.take_zero, setDep_out _ _ (by simp)]; exact Hd.out v, fun _ => rfl, fun _ _ => rfl, Nat.le_refl _⟩
          case round =>
            obtain ⟨t, ldt, ht, rfl, hDt0, hgt0, hct0, hbt0, hst0⟩ := hrel
            have hDt := hide hDt0
            have hgt := hide hgt0
            have hct := hide hct0
            have hbt := hide hbt0
            have c1 := hDt0.c1
            clear hDt0 hgt0 hct0 hbt0
            by_cases htq : t < q
            · have cq : wr.cell? ⟨g, j + t, none⟩ = some (.string (f (j + t))) := (hct.out _).trans (Hcell1.out (j + t) (by have := Hm.out; omega))
              have hfq := hide (Hf.out (j + t) (by have := Hm.out; omega))
              generalize f (j + t) = nq at *
              obtain ⟨o, hput0, hmN, only⟩ := run_put2 Try.underlying69 Try.underlying9 hDt.out.md nq (.int .i64 (x : Int))
              have hput := hput0 wr rfl
              have hDn := hide (hDt.out.putD hmN only)
              have hcn : Hid (∀ a, (setObj wr W.heap.size o).cell? a = w1.cell? a) := fun a => (only.cell a).trans (hct.out a)
              have hbn : Hid (∀ b, W.heap.size + 4 ≤ b → (setObj wr W.heap.size o).heap[b]? = w1.heap[b]?) := fun b hb => (only.block b (by omega)).trans (hbt.out b hb)
              have hsn : w1.heap.size ≤ (setObj wr W.heap.size o).heap.size := by rw [only.size]; exact hst0
              clear hput0 hmN only
              go_wp2_with fail
              go_roundw
              case rel => exact ⟨t + 1, _, by omega, by go_num, hDn.out, fun v => by
                rw [mget_mput, hgt.out v, take_snoc (a := nq) (by rw [List.getElem?_drop]; exact hfq.out), setDep_snoc]
                by_cases e : nq = v
                · rw [if_pos e, if_pos e]; rfl
                · rw [if_neg e, if_neg e], hcn.out, hbn.out, hsn⟩
              case measure => simp [intOf]; omega
            · obtain rfl : t = q := by omega
              go_wp2_with fail
              go_end0
              refine ⟨rfl, _, ldt, hDt.out, ⟨Nat.le_trans hsz1 hst0, fun b hb hlt hne => ⟨(hbt.out b hb).trans (Hbk1.out b hb), hne⟩⟩, fun v => ?_⟩
              rw [hgt.out v, Hx.out, List.take_of_length_le (by have h1 := Hm.out; have h2 := Hn.out; simp; omega)]
    · have b1 := str_no e1
      have hjk : j ≠ k := by
        rintro rfl
        exact e1 (by have := Hf.out j hjn; rw [Hk.out] at this; simpa using this.symm)
      clear e1
      go_wp2_with fail
      go_round
      case rel => exact ⟨j - 1, by omega, by omega, by go_num⟩
      case measure => simp [intOf]; omega

end Go.Proofs.Qxb6000628a
