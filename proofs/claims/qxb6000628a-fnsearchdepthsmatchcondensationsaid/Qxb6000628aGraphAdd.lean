/-
  The whole graph in memory, and addLink on it.
-/
import Derived.Test.Qxb6000628aAddE
set_option linter.unusedVariables false
namespace Go.Proofs.Qxb6000628a
open Go.RowKit

/-- The entry of a name. -/
def findE : List Ent → ByteArray → Option Ent
  | [], _ => none
  | e :: E, s => if e.key = s then some e else findE E s

/-- A link more. -/
def addE : List Ent → ByteArray → ByteArray → Int → List Ent
  | [], name, role, p => [⟨name, [role], [p]⟩]
  | e :: E, name, role, p => if e.key = name then { e with roles := e.roles ++ [role], pls := e.pls ++ [p] } :: E else e :: addE E name role p

def rolesIn (E : List Ent) (s : ByteArray) : List ByteArray := match findE E s with
  | some e => e.roles
  | none => []
def plsIn (E : List Ent) (s : ByteArray) : List Int := match findE E s with
  | some e => e.pls
  | none => []

theorem findE_addE (E : List Ent) (name role s : ByteArray) (p : Int) :
    findE (addE E name role p) s = if name = s then some { key := name, roles := rolesIn E name ++ [role], pls := plsIn E name ++ [p] } else findE E s := by
  induction E with
  | nil => rfl
  | cons e E ih =>
    unfold addE
    by_cases h : e.key = name
    · rw [if_pos h]
      by_cases h2 : name = s
      · simp only [findE, rolesIn, plsIn, h, h2, if_true]
      · have h3 : ¬ e.key = s := fun x => h2 (h.symm.trans x)
        simp only [findE, h2, if_false, h3]
    · rw [if_neg h]
      by_cases h2 : name = s
      · subst h2
        simp only [findE, h, if_false, ih, if_true, rolesIn, plsIn]
      · simp only [findE, ih, h2, if_false]

theorem rolesIn_addE (E : List Ent) (name role s : ByteArray) (p : Int) : rolesIn (addE E name role p) s = if name = s then rolesIn E s ++ [role] else rolesIn E s := by
  unfold rolesIn
  rw [findE_addE]
  by_cases h : name = s
  · subst h; simp [rolesIn]
  · simp [h]
theorem plsIn_addE (E : List Ent) (name role s : ByteArray) (p : Int) : plsIn (addE E name role p) s = if name = s then plsIn E s ++ [p] else plsIn E s := by
  unfold plsIn
  rw [findE_addE]
  by_cases h : name = s
  · subst h; simp [plsIn]
  · simp [h]

theorem addE_none : ∀ {E : List Ent} {name role : ByteArray} {p : Int}, findE E name = none → addE E name role p = E ++ [⟨name, [role], [p]⟩]
  | [], _, _, _, _ => rfl
  | e :: E, name, role, p, h => by
    unfold addE
    by_cases hk : e.key = name
    · simp [findE, hk] at h
    · simp only [findE, hk, if_false] at h
      rw [if_neg hk, addE_none h]; rfl

/-- The entries in the map, one after the other; entry number i owns the blocks that bear i + 1. -/
def GraphAt (w : World) (placed : Bool) (own : Nat → Nat) : Nat → List Ent → List (ByteArray × Value) → Prop
  | _, [], [] => True
  | j, e :: E, (k, v) :: l => k = e.key ∧ (∃ rv at0 mo, v = entV rv at0 mo ∧ EntAt w (fun b => own b = j + 1) placed e rv at0 mo) ∧ GraphAt w placed own (j + 1) E l
  | _, _, _ => False

theorem GraphAt.mono {w w' : World} {placed : Bool} {own own' : Nat → Nat} : ∀ {j : Nat} {E : List Ent} {l : List (ByteArray × Value)}, GraphAt w placed own j E l →
    (∀ k, j + 1 ≤ own k → own k ≤ j + E.length → w'.heap[k]? = w.heap[k]? ∧ own' k = own k) → GraphAt w' placed own' j E l
  | _, [], [], _, _ => trivial
  | _, [], _ :: _, h, _ => h.elim
  | _, _ :: _, [], h, _ => h.elim
  | j, e :: E, (k, v) :: l, ⟨h1, ⟨rv, at0, mo, h2, h3⟩, h4⟩, hb => by
    refine ⟨h1, ⟨rv, at0, mo, h2, h3.mono (fun b hb' => (hb b (by omega) (by simp; omega)).1) (fun b hb' => (hb b (by omega) (by simp; omega)).2.trans hb')⟩, h4.mono (fun b h5 h6 => hb b (by omega) (by simp; omega))⟩

theorem GraphAt.none {w : World} {placed : Bool} {own : Nat → Nat} {s : ByteArray} : ∀ {j : Nat} {E : List Ent} {l : List (ByteArray × Value)}, GraphAt w placed own j E l → findE E s = none → mget l s = none
  | _, [], [], _, _ => rfl
  | _, [], _ :: _, h, _ => h.elim
  | _, _ :: _, [], h, _ => h.elim
  | j, e :: E, (k, v) :: l, ⟨h1, _, h4⟩, hf => by
    subst h1
    by_cases hk : e.key = s
    · simp [findE, hk] at hf
    · simp only [findE, hk, if_false] at hf
      simp only [mget, hk, if_false]
      exact h4.none hf

theorem GraphAt.found {w : World} {placed : Bool} {own : Nat → Nat} {s : ByteArray} {e : Ent} : ∀ {j : Nat} {E : List Ent} {l : List (ByteArray × Value)}, GraphAt w placed own j E l → findE E s = some e →
    ∃ i rv at0 mo, j ≤ i ∧ i < j + E.length ∧ mget l s = some (entV rv at0 mo) ∧ EntAt w (fun b => own b = i + 1) placed e rv at0 mo ∧
      ∀ (w' : World) (own' : Nat → Nat) (rv' : Value) (at' : Int) (mo' : Option Addr) (role : ByteArray) (p : Int), EntAt w' (fun b => own' b = i + 1) placed { e with roles := e.roles ++ [role], pls := e.pls ++ [p] } rv' at' mo' →
        (∀ k, own k ≠ 0 → own k ≠ i + 1 → w'.heap[k]? = w.heap[k]? ∧ own' k = own k) → GraphAt w' placed own' j (addE E s role p) (mput l s (entV rv' at' mo'))
  | _, [], [], _, hf => by simp [findE] at hf
  | _, [], _ :: _, h, _ => h.elim
  | _, _ :: _, [], h, _ => h.elim
  | j, e0 :: E, (k, v) :: l, ⟨h1, ⟨rv, at0, mo, h2, h3⟩, h4⟩, hf => by
    subst h1
    by_cases hk : e0.key = s
    · simp only [findE, hk, if_true, Option.some.injEq] at hf
      subst hf
      subst hk
      refine ⟨j, rv, at0, mo, Nat.le_refl _, by simp, by simp [mget, h2], h3, ?_⟩
      intro w' own' rv' at' mo' role p hE hb
      simp only [addE, mput, if_true]
      exact ⟨rfl, ⟨rv', at', mo', rfl, hE⟩, h4.mono (fun b h5 h6 => hb b (by omega) (by omega))⟩
    · simp only [findE, hk, if_false] at hf
      obtain ⟨i, rv1, at1, mo1, g1, g2, g3, g4, g5⟩ := h4.found hf
      refine ⟨i, rv1, at1, mo1, by omega, by simp; omega, by simp only [mget, hk, if_false]; exact g3, g4, ?_⟩
      intro w' own' rv' at' mo' role p hE hb
      simp only [addE, mput, hk, if_false]
      refine ⟨rfl, ⟨rv, at0, mo, h2, h3.mono (fun b hb' => (hb b (by omega) (by omega)).1) (fun b hb' => (hb b (by omega) (by omega)).2.trans hb')⟩, g5 w' own' rv' at' mo' role p hE hb⟩

theorem GraphAt.push {w : World} {placed : Bool} {own : Nat → Nat} {e : Ent} {rv : Value} {at0 : Int} {mo : Option Addr} : ∀ {j : Nat} {E : List Ent} {l : List (ByteArray × Value)}, GraphAt w placed own j E l →
    EntAt w (fun b => own b = j + E.length + 1) placed e rv at0 mo → GraphAt w placed own j (E ++ [e]) (l ++ [(e.key, entV rv at0 mo)])
  | j, [], [], _, he => ⟨rfl, ⟨rv, at0, mo, rfl, by simpa using he⟩, trivial⟩
  | _, [], _ :: _, h, _ => h.elim
  | _, _ :: _, [], h, _ => h.elim
  | j, e0 :: E, (k, v) :: l, ⟨h1, h2, h4⟩, he => ⟨h1, h2, h4.push (by simpa [Nat.add_assoc, Nat.add_comm, Nat.add_left_comm] using he)⟩

/-- Every block that an entry owns is there. -/
theorem EntAt.within {w : World} {own : Nat → Prop} {placed : Bool} {e : Ent} {rv : Value} {at0 : Int} {mo : Option Addr} (h : EntAt w own placed e rv at0 mo) : EntAt w (fun k => own k ∧ k < w.heap.size) placed e rv at0 mo := by
  have lt : ∀ {t : TypeId} {v : Value} {xs : List Value}, Sl w t v xs → ∀ k, v.ownBlock = some k → k < w.heap.size := fun hs k hk => by
    obtain ⟨cur, hc⟩ := hs.block hk; exact (Array.getElem?_eq_some_iff.1 hc).1
  refine ⟨h.roles, fun k hk => ⟨h.rown k hk, lt h.roles k hk⟩, h.pos, h.len, h.first, h.yes, h.no, ?_⟩
  have hm := h.more
  cases mo with
  | none => exact hm
  | some a =>
    obtain ⟨m, pv, rm, h1, h2, h3, h4, h5, h6, h7, h8⟩ := hm
    refine ⟨m, pv, rm, h1, ⟨h2, (Array.getElem?_eq_some_iff.1 h3).1⟩, h3, h4, fun k hk => ⟨h5 k hk, lt h4 k hk⟩, h6, fun h => ?_, h8⟩
    obtain ⟨r, r1, r2, r3⟩ := h7 h
    exact ⟨r, r1, ⟨r2, r3.lt⟩, r3⟩

structure Graph (w : World) (gm B0 : Nat) (placed : Bool) (own : Nat → Nat) (E : List Ent) : Prop where
  ex : ∃ l, MapIs w gm l ∧ GraphAt w placed own 0 E l
  gm0 : own gm = 0
  gmB : B0 ≤ gm
  lo : ∀ k, k < B0 → own k = 0
  hi : ∀ k, w.heap.size ≤ k → own k = 0
  bd : ∀ k, own k ≤ E.length

theorem Graph.start (w : World) (placed : Bool) : Graph (w.alloc (.map #[] 0)) w.heap.size w.heap.size placed (fun _ => 0) [] :=
  ⟨⟨[], MapIs.made w, trivial⟩, rfl, Nat.le_refl _, fun _ _ => rfl, fun _ _ => rfl, fun _ => Nat.le_refl _⟩

/-- The graph while other memory turns. -/
theorem Graph.kept {w w' : World} {gm B0 : Nat} {placed : Bool} {own : Nat → Nat} {E : List Ent} (h : Graph w gm B0 placed own E) (hs : w.heap.size ≤ w'.heap.size) (hb : ∀ k, k < w.heap.size → (own k ≠ 0 ∨ k = gm) → w'.heap[k]? = w.heap[k]?) : Graph w' gm B0 placed own E := by
  obtain ⟨⟨l, h1, h2⟩, h3, h4, h5, h6, h7⟩ := h
  have hlt : ∀ k, own k ≠ 0 → k < w.heap.size := fun k hk => Nat.lt_of_not_le (fun e => hk (h6 k e))
  refine ⟨⟨l, h1.of_block (hb gm h1.lt (.inr rfl)), h2.mono (fun k hk _ => ⟨hb k (hlt k (by omega)) (.inl (by omega)), rfl⟩)⟩, h3, h4, h5, fun k hk => h6 k (by omega), h7⟩

theorem Graph.below {w w' : World} {gm B0 : Nat} {placed : Bool} {own : Nat → Nat} {E : List Ent} (h : Graph w gm B0 placed own E) (hb : Below w.heap.size w w') : Graph w' gm B0 placed own E :=
  h.kept hb.size (fun k hk _ => hb.block k hk)

theorem slice_of_Sl {w : World} {t : TypeId} {v : Value} {xs : List Value} (h : Sl w t v xs) : ∃ a c, v = .slice a xs.length c := by
  obtain ⟨a, c, h1, _⟩ := h.shape
  exact ⟨a, c, h1⟩

/-- addLink. -/
theorem addLink_any (gm b B0 : Nat) (placed : Bool) (own : Nat → Nat) (E : List Ent) (name role : ByteArray) (at_ : Int) (w : World) (hG : Graph w gm B0 placed own E) (hb : w.heap[b]? = some (.cells #[.string name, .string role] 9 (0, 0)))
    (hob : own b = 0) (hbB : B0 ≤ b) (hat : placed = true → at_ ≠ -1) (hat' : placed = false → at_ = -1) (hnd : (rolesIn E name ++ [role]).Nodup) (hlen : (rolesIn E name).length ≤ 1000000) :
    Calls Try.prog 43 #[.map (some gm), .slice (some ⟨b, 0, none⟩) 2 2, .int .i64 at_] w fun en w' => en = .returned (.tuple #[]) ∧ Below B0 w w' ∧ ∃ own', Graph w' gm B0 placed own' (addE E name role at_) := by
  obtain ⟨⟨l, hm, hA⟩, hg0, hgB, hlo, hhi, hbd⟩ := hG
  have hblt : b < w.heap.size := (Array.getElem?_eq_some_iff.1 hb).1
  have hbg : b ≠ gm := fun e => by subst e; obtain ⟨es, c, h1, _⟩ := hm; rw [hb] at h1; cases h1
  cases hf : findE E name with
  | none =>
    have hn := hA.none hf
    refine (add_new gm b name role at_ l w hm hb hn).mono ?_
    rintro en w' ⟨rfl, hm', fr⟩
    have hB0w : B0 ≤ w.heap.size := Nat.le_trans hgB (Nat.le_of_lt hm.lt)
    refine ⟨rfl, fr.below hB0w (fun k hk e => by omega), fun k => if k = b then E.length + 1 else own k, ⟨_, hm', ?_⟩, by simp [hbg.symm, hg0], hgB, fun k hk => ?_, fun k hk => ?_, fun k => ?_⟩
    · rw [addE_none hf, mput_of_none hn]
      have hA' : GraphAt w' placed (fun k => if k = b then E.length + 1 else own k) 0 E l := hA.mono (fun k h1 h2 => by
        have hkb : k ≠ b := fun e => by subst e; omega
        have hkg : k ≠ gm := fun e => by subst e; omega
        have hkl : k < w.heap.size := Nat.lt_of_not_le (fun e => by have := hhi k e; omega)
        exact ⟨fr.block k hkl hkg, by simp [hkb]⟩)
      refine hA'.push (e := ⟨name, [role], [at_]⟩) (rv := .slice (some ⟨b, 1, none⟩) 1 1) (at0 := at_) (mo := none) ?_
      have hb' : w'.heap[b]? = some (.cells #[.string name, .string role] 9 (0, 0)) := by rw [fr.block b hblt hbg]; exact hb
      refine ⟨.inr ⟨b, 1, _, rfl, by simp [strs], by simp [strs, maxLen], hb', ?_⟩, fun k hk => ?_, by simp, rfl, rfl, hat, fun h p hp => ?_, ⟨by simp, fun _ => rfl⟩⟩
      · intro i u hu
        match i, hu with
        | 0, hu => simp [strs] at hu ⊢; exact hu
      · simp [Value.ownBlock] at hk
        simp [hk]
      · simp at hp
        rw [hp]; exact hat' h
    · have : k ≠ b := by omega
      simp [this, hlo k hk]
    · have hkb : k ≠ b := by have := fr.size; omega
      have := fr.size
      simp [hkb, hhi k (by omega)]
    · rw [addE_none hf]
      have := hbd k
      by_cases e : k = b
      · simp [e]
      · simp [e]; omega
  | some e =>
    obtain ⟨i, rv, at0, mo, h0, h1, h2, h3, h4⟩ := hA.found hf
    obtain ⟨ra, rc, rfl⟩ := slice_of_Sl h3.roles
    have hsl : (strs e.roles).length = e.roles.length := by simp [strs]
    rw [hsl] at h2 h3
    have hro : rolesIn E name = e.roles := by simp [rolesIn, hf]
    rw [hro] at hnd hlen
    have hown : ∀ k, own k = i + 1 → k < w.heap.size := fun k hk => Nat.lt_of_not_le (fun e => by have := hhi k e; omega)
    have hgo : ¬ own gm = i + 1 := by omega
    suffices hcall : Calls Try.prog 43 #[.map (some gm), .slice (some ⟨b, 0, none⟩) 2 2, .int .i64 at_] w fun en w' => en = .returned (.tuple #[]) ∧ ∃ rv' mo', MapIs w' gm (mput l name (entV rv' at0 mo')) ∧
        EntAt w' (fun k => own k = i + 1 ∨ w.heap.size ≤ k) placed { e with roles := e.roles ++ [role], pls := e.pls ++ [at_] } rv' at0 mo' ∧ Fr (fun k => k = gm ∨ own k = i + 1) w w' by
      refine hcall.mono ?_
      rintro en w' ⟨rfl, rv', mo', hm', hE, fr⟩
      have hB0w : B0 ≤ w.heap.size := Nat.le_trans hgB (Nat.le_of_lt hm.lt)
      have hsz := fr.size
      refine ⟨rfl, fr.below hB0w (fun k hk e => by rcases e with e | e; omega; have := hlo k hk; omega), fun k => if k < w.heap.size then own k else if k < w'.heap.size then i + 1 else 0, ⟨_, hm', ?_⟩, by simp [hm.lt, hg0], hgB, fun k hk => ?_, fun k hk => ?_, fun k => ?_⟩
      · refine h4 w' _ rv' at0 mo' role at_ (hE.within.mono (fun _ _ => rfl) (fun k hk => ?_)) (fun k hk1 hk2 => ?_)
        · rcases hk.1 with h | h
          · simp [hown k h, h]
          · have : ¬ k < w.heap.size := by omega
            simp [this, hk.2]
        · have hkl : k < w.heap.size := Nat.lt_of_not_le (fun e => hk1 (hhi k e))
          exact ⟨fr.block k hkl (fun e => by rcases e with e | e; subst e; omega; omega), by simp [hkl]⟩
      · have : k < w.heap.size := by omega
        simp [this, hlo k hk]
      · have h5 : ¬ k < w.heap.size := by omega
        have h6 : ¬ k < w'.heap.size := by omega
        simp [h5, h6]
      · have h5 : (addE E name role at_).length = E.length := by
          clear h4 hA h0 h1 hbd
          induction E with
          | nil => simp [findE] at hf
          | cons e0 E ih =>
            unfold addE
            by_cases hk : e0.key = name
            · simp [hk]
            · simp only [findE, hk, if_false] at hf
              simp only [hk, if_false, List.length_cons]
              rw [ih hf (by simp [rolesIn, hf])]
        rw [h5]
        have := hbd k
        split
        · exact this
        · split <;> omega
    cases hpl : placed with
    | false =>
      subst hpl
      obtain rfl := hat' rfl
      cases mo with
      | none =>
        by_cases h8 : e.roles.length < 8
        · exact add_few gm b name role l (fun k => own k = i + 1) false e ra _ rc at0 0 w hm hb hown hgo h2 h3 rfl rfl h8
        · have h9 := h3.more.1
          exact add_ninth gm b name role l (fun k => own k = i + 1) false e ra _ rc at0 0 w hm hb hown hgo h2 h3 rfl rfl (by omega) h9 hnd
      | some a =>
        obtain ⟨m, pv, rm, k1, k2, k3, k4, k5, k6, k7, k8, k9⟩ := h3.more
        subst k1
        exact add_many gm b name role l (fun k => own k = i + 1) false e ra _ rc at0 0 m w hm hb hown hgo h2 h3 rfl rfl (k8 rfl) hlen (by rw [List.nodup_append] at hnd; exact fun h => hnd.2.2 role h role (by simp) rfl)
    | true =>
      subst hpl
      have hat := hat rfl
      cases mo with
      | none => exact add_second gm b name role l (fun k => own k = i + 1) true e ra _ rc at0 at_ w hm hb hown hgo h2 h3 rfl rfl h3.pos (by have := h3.more.2 rfl; omega) hat
      | some a =>
        obtain ⟨m, pv, rm, k1, k2, k3, k4, k5, k6, k7, k8, k9⟩ := h3.more
        subst k1
        exact add_placed gm b name role l (fun k => own k = i + 1) true e ra _ rc at0 at_ m w hm hb hown hgo h2 h3 rfl rfl (k9 rfl) hlen hat hnd

end Go.Proofs.Qxb6000628a
