/-
  SEAT b6626480a: WALK: (*Message).FindAll (8).
-/
import Derived.Test.Qxb6626480aMsg
namespace Go.Proofs.Qxb6626480a
open Go.RowKit

def cellsOf : List Av → List Value
  | [] => []
  | A :: F => A.cells ++ cellsOf F

theorem cellsOf_length : ∀ F : List Av, (cellsOf F).length = F.length * 4
  | [] => rfl
  | A :: F => by
    have := cellsOf_length F
    simp only [cellsOf, List.length_append, List.length_cons, this]
    show 4 + F.length * 4 = _
    omega

theorem cellsOf_append : ∀ F G : List Av, cellsOf (F ++ G) = cellsOf F ++ cellsOf G
  | [], G => rfl
  | A :: F, G => by simp [cellsOf, cellsOf_append F G]

theorem cellsOf_at : ∀ (F : List Av) (i r : Nat) (h : i < F.length) (_ : r < 4), (cellsOf F)[i * 4 + r]? = (F[i].cells)[r]?
  | [], i, r, h, _ => by simp at h
  | A :: F, 0, r, h, hr => by
    simp only [cellsOf, Nat.zero_mul, Nat.zero_add, List.getElem_cons_zero]
    rw [List.getElem?_append_left (by show r < 4; exact hr)]
  | A :: F, i + 1, r, h, hr => by
    have e : (i + 1) * 4 + r = 4 + (i * 4 + r) := by omega
    simp only [cellsOf, List.getElem_cons_succ]
    rw [e, List.getElem?_append_right (by show 4 ≤ 4 + (i * 4 + r); omega)]
    have e2 : 4 + (i * 4 + r) - A.cells.length = i * 4 + r := by show 4 + (i * 4 + r) - 4 = _; omega
    rw [e2]
    exact cellsOf_at F i r (by simpa using h) hr

/-- A slice value that reads F, in memory of the call's own. -/
def Res (w : World) (v : Value) (F : List Av) : Prop :=
  ∃ ra cap, v = .slice ra F.length cap ∧ (F = [] ∨ ∃ g, ra = some ⟨g, 0, none⟩ ∧ Own w g F)

theorem res_of {w : World} {base n : Nat} {v : Value} {F : List Av} (h : w.ownsRow base 36 4 v n (cellsOf F)) : Res w v F := by
  have hl := h.1
  rw [cellsOf_length] at hl
  have hn : F.length = n := by omega
  have hc := fun g hg => h.cells (g := g) hg
  rcases h.2 with ⟨hv, h0⟩ | ⟨g, cap, cur, hv, _⟩
  · have : F = [] := List.length_eq_zero_iff.1 (by omega)
    refine ⟨none, 0, ?_, .inl this⟩
    rw [hv, this]
    rfl
  · refine ⟨some ⟨g, 0, none⟩, cap, by rw [hv, hn], .inr ⟨g, rfl, ?_⟩⟩
    have hc := hc g (by rw [hv]; rfl)
    intro i hi
    have at' : ∀ r u, r < 4 → (F[i].cells)[r]? = some u → w.cell? ⟨g, i * 4 + r, none⟩ = some u := fun r u hr hu => by
      have := hc (i * 4 + r) u (by rw [cellsOf_at F i r hi hr]; exact hu)
      rw [Addr.add_lit] at this
      simpa using this
    exact ⟨at' 0 _ (by omega) rfl, at' 1 _ (by omega) rfl, at' 2 _ (by omega) rfl, at' 3 _ (by omega) rfl⟩

theorem cell_four_new (w : World) (x y z u : Value) (t : TypeId) : ∀ j v, [x, y, z, u][j]? = some v → (w.alloc (.cells #[x, y, z, u] t)).cell? ((⟨w.heap.size, 0, none⟩ : Addr).add j) = some v := by
  intro j v hj
  rw [Addr.add_lit]
  match j, hj with
  | 0, hj => simp at hj; subst hj; simp
  | 1, hj => simp at hj; subst hj; simp
  | 2, hj => simp at hj; subst hj; simp
  | 3, hj => simp at hj; subst hj; simp
  | j + 4, hj => simp at hj

/-- An AVP's block. -/
abbrev Av.blk (A : Av) : Obj := .cells #[.int .u32 A.code, .int .u8 A.flags, .int .u32 A.vendor, .slice A.at' A.len A.cap] 36

theorem news_at (A : Av) (w : World) : ∀ j v, A.cells[j]? = some v → (((w.alloc A.blk).alloc A.blk).alloc A.blk).cell? ((⟨w.heap.size + 1 + 1, 0, none⟩ : Addr).add j) = some v := by
  have e : ((w.alloc A.blk).alloc A.blk).heap.size = w.heap.size + 1 + 1 := by simp
  have := cell_four_new ((w.alloc A.blk).alloc A.blk) (.int .u32 A.code) (.int .u8 A.flags) (.int .u32 A.vendor) (.slice A.at' A.len A.cap) 36
  rw [e] at this
  exact this

theorem cells_one (A : Av) : ∀ u ∈ A.cells, u.oneCell' = true := by
  intro u hu
  simp [Av.cells] at hu
  rcases hu with rfl | rfl | rfl | rfl <;> rfl

/-- What a round keeps. -/
def FInv (c : Int) (L : List Av) (w : World) (f : Value) (wr : World) (k : Nat) : Prop :=
  wr.ownsRow w.heap.size 36 4 f ((L.take k).filter (hit c)).length (cellsOf ((L.take k).filter (hit c))) ∧ Below w.heap.size w wr

theorem take_step (c : Int) (L : List Av) (k : Nat) (h : k < L.length) : (L.take (k + 1)).filter (hit c) = (L.take k).filter (hit c) ++ (if hit c L[k] then [L[k]] else []) := by
  rw [List.take_succ_eq_append_getElem h, List.filter_append]
  congr 1
  cases hh : hit c L[k] <;> simp [hh]

set_option maxHeartbeats 1000000 in
theorem find_some (m g n cap : Nat) (L : List Av) (c : Int) (w : World) (hL : L.length = n) (hn : n ≤ 65537) (h5 : w.cell? ⟨m, 5, none⟩ = some (.slice (some ⟨g, 0, none⟩) n cap)) (ho : Own w g L) :
    Calls Try.prog 8 #[.pointer (some ⟨m, 0, none⟩), .int .u32 c] w fun e w' => ∃ v, e = .returned v ∧ Res w' v (L.filter (hit c)) ∧ Below w.heap.size w w' := by
  obtain ⟨i0, hi, hz0, hz1, hz2⟩ := info_parts info36
  have HI : Hid (FInv c L w (.slice none 0 0) w 0) := ⟨World.ownsRow_nil w _ 36 4, Below.refl _ _⟩
  have hmz : m < w.heap.size := World.block_lt_of_cell? _ _ h5
  go_enter Try.func8, Try.ntmps8
  go_wp2
  go_loopw [5, 13] (fun f i wr => ∃ k : Nat, k ≤ n ∧ i = .int .i64 k ∧ Hid (FInv c L w f wr k)) (fun _ i _ => n - (intOf i).toNat)
  case atStart => exact ⟨0, Nat.zero_le _, rfl, HI⟩
  case round =>
    clear HI h5
    obtain ⟨k, hk, rfl, hI⟩ := hrel
    by_cases hlt : k < n
    · obtain ⟨hown, hbw⟩ := hI.out
      obtain ⟨g0, g1, g2, g3⟩ := ho.later hbw k (by omega)
      have hgz : g < wr.heap.size := World.block_lt_of_cell? _ _ g0
      have hle : ((L.take k).filter (hit c)).length ≤ k := by
        have := List.length_filter_le (hit c) (L.take k)
        have := List.length_take_le k L
        omega
      have HO : Hid (wr.ownsRow w.heap.size 36 4 u5 ((L.take k).filter (hit c)).length (cellsOf ((L.take k).filter (hit c)))) := hown
      have HB : Hid (Below w.heap.size w wr) := hbw
      clear hown hbw hI
      cases hh : hit c L[k]
      · go_wp2_with (go_at_call 13; refine (is_any _ _ _).mono ?_; rintro e w' ⟨rfl, rfl⟩)
        go_roundw
        case rel =>
          refine ⟨k + 1, by omega, by go_num, ?_⟩
          have e := take_step c L k (by omega)
          rw [hh] at e
          simp only [Bool.false_eq_true, if_false, List.append_nil] at e
          unfold Hid FInv
          rw [e]
          exact ⟨(HO.out.alloc _).alloc _, (HB.out.alloc HB.out.size _).alloc (by have := HB.out.size; simp; omega) _⟩
        case measure => simp [intOf]; omega
      · have HN : Hid (∀ j v, L[k].cells[j]? = some v → (((wr.alloc L[k].blk).alloc L[k].blk).alloc L[k].blk).cell? ((⟨wr.heap.size + 1 + 1, 0, none⟩ : Addr).add j) = some v) := news_at L[k] wr
        have HS : Hid (w.heap.size ≤ (((wr.alloc L[k].blk).alloc L[k].blk).alloc L[k].blk).heap.size) := by have := HB.out.size; unfold Hid; simp; omega
        go_wp2_with (first
          | (go_at_call 13; refine (is_any _ _ _).mono ?_; rintro e w' ⟨rfl, rfl⟩)
          | (at_builtin; refine wpList_append_own _ rfl _ _ 33 rfl w.heap.size 36 i0 (.agg #[.int .u32 0, .int .u8 0, .int .u32 0, .slice none 0 0]) 4 40 Try.underlying33 hi hz0 hz1 hz2 rfl (by decide) _ _ _ rfl (((HO.out.alloc _).alloc _).alloc _) ⟨wr.heap.size + 1 + 1, 0, none⟩ 1 1 L[k].cells rfl rfl HN.out (cells_one _) (by unfold maxLen; omega) (by omega) HS.out ?_; intro v' w3 hown' hgrow3 hnil3))
        have hg3 : (((wr.alloc L[k].blk).alloc L[k].blk).alloc L[k].blk).grownBy w3 u5.ownBlock := hgrow3
        clear hgrow3 hnil3
        go_roundw
        case rel =>
          refine ⟨k + 1, by omega, by go_num, ?_⟩
          have e := take_step c L k (by omega)
          rw [hh] at e
          simp only [if_true] at e
          unfold Hid FInv
          rw [e, List.length_append, cellsOf_append]
          have e2 : cellsOf [L[k]] = L[k].cells := by simp [cellsOf]
          rw [e2]
          refine ⟨hown', ?_⟩
          have h3 : Below w.heap.size w (((wr.alloc L[k].blk).alloc L[k].blk).alloc L[k].blk) := ((HB.out.alloc HB.out.size _).alloc (by have := HB.out.size; simp; omega) _).alloc (by have := HB.out.size; simp; omega) _
          exact h3.grown hg3 HS.out (fun q hq => (HO.out.lt q hq).1)
        case measure => simp [intOf]; omega
    · have e : k = n := by omega
      have hr := hI.out
      go_wp2
      go_ret
      refine ⟨_, rfl, ?_, hr.2⟩
      have h1 := res_of hr.1
      rw [List.take_of_length_le (by omega)] at h1
      exact h1

set_option maxHeartbeats 1000000 in
/-- No list at all: nothing is found. -/
theorem find_nil (m cap : Nat) (a : Option Addr) (c : Int) (w : World) (h5 : w.cell? ⟨m, 5, none⟩ = some (.slice a 0 cap)) :
    Calls Try.prog 8 #[.pointer (some ⟨m, 0, none⟩), .int .u32 c] w fun e w' => e = .returned (.slice none 0 0) ∧ w' = w := by
  go_enter Try.func8, Try.ntmps8
  go_wp2
  go_loop [5, 13] (fun f i => i = .int .i64 0 ∧ f = .slice none 0 0) (fun _ _ => 0)
  case atStart => exact ⟨rfl, rfl⟩
  case round =>
    obtain ⟨rfl, rfl⟩ := hrel
    go_wp2
    go_ret
    exact ⟨rfl, rfl⟩

/-- A list in memory, or none: what a message's field holds. -/
def Has (w : World) (m : Nat) (L : List Av) : Prop :=
  (L = [] ∧ w.cell? ⟨m, 5, none⟩ = some (.slice none 0 0)) ∨ ∃ g, w.cell? ⟨m, 5, none⟩ = some (.slice (some ⟨g, 0, none⟩) L.length L.length) ∧ Own w g L

theorem Has.later {w w1 : World} {m : Nat} {L : List Av} (h : Has w m L) (hb : Below w.heap.size w w1) : Has w1 m L := by
  rcases h with ⟨e, h⟩ | ⟨g, h, ho⟩
  · exact .inl ⟨e, cell_later hb h⟩
  · exact .inr ⟨g, cell_later hb h, ho.later hb⟩

/-- FindAll, by its contract. -/
theorem find_any (m : Nat) (L : List Av) (c : Int) (w : World) (hn : L.length ≤ 65537) (h : Has w m L) :
    Calls Try.prog 8 #[.pointer (some ⟨m, 0, none⟩), .int .u32 c] w fun e w' => ∃ v, e = .returned v ∧ Res w' v (L.filter (hit c)) ∧ Below w.heap.size w w' := by
  rcases h with ⟨rfl, h⟩ | ⟨g, h, ho⟩
  · refine (find_nil m 0 none c w h).mono ?_
    rintro e w' ⟨he, rfl⟩
    exact ⟨_, he, ⟨none, 0, rfl, .inl rfl⟩, Below.refl _ _⟩
  · exact find_some m g L.length L.length L c w rfl hn h ho

/-- A slice argument: nil, or a row of AVPs. -/
def Sl (w : World) (v : Value) (L : List Av) : Prop :=
  (L = [] ∧ v = .slice none 0 0) ∨ (L = [] ∧ ∃ ad cap, v = .slice (some ad) 0 cap) ∨ ∃ b off cap, v = .slice (some ⟨b, off, none⟩) L.length cap ∧ Lies w b off L

theorem Sl.later {w w1 : World} {v : Value} {L : List Av} (h : Sl w v L) (hb : Below w.heap.size w w1) : Sl w1 v L := by
  rcases h with h | h | ⟨b, off, cap, e, hl⟩
  · exact .inl h
  · exact .inr (.inl h)
  · exact .inr (.inr ⟨b, off, cap, e, hl.later hb⟩)

/-- diamB1Msg, by its contract. -/
theorem msg_any (h0 h1 h2 h3 h4 : Int) (v : Value) (L : List Av) (w : World) (hn : L.length ≤ 65537) (h : Sl w v L) :
    Calls Try.prog 7 #[hv h0 h1 h2 h3 h4, v] w fun e w' => ∃ m, e = .returned (.pointer (some ⟨m, 0, none⟩)) ∧ Below w.heap.size w w' ∧ Has w' m L := by
  rcases h with ⟨rfl, rfl⟩ | ⟨rfl, ad, cap, rfl⟩ | ⟨b, off, cap, rfl, hl⟩
  · refine (msg_nil h0 h1 h2 h3 h4 w).mono ?_
    rintro e w' ⟨m, he, hb, hc⟩
    exact ⟨m, he, hb, .inl ⟨rfl, hc⟩⟩
  · refine (msg_zero h0 h1 h2 h3 h4 ad cap w).mono ?_
    rintro e w' ⟨m, g, he, hb, hc⟩
    exact ⟨m, he, hb, .inr ⟨g, hc, fun i hi => by simp at hi⟩⟩
  · refine (msg_some h0 h1 h2 h3 h4 b off cap L.length L w rfl hn hl).mono ?_
    rintro e w' ⟨m, g, he, hb, hc, ho⟩
    exact ⟨m, he, hb, .inr ⟨g, hc, ho⟩⟩

theorem sizeOK_any (v : Value) (L : List Av) (ex : Int) (w : World) (hn : L.length ≤ maxLen) (h : Sl w v L) :
    Calls Try.prog 6 #[v, .int .i64 ex] w fun e w' => Bl e ∧ Below w.heap.size w w' := by
  rcases h with ⟨rfl, rfl⟩ | ⟨rfl, ad, cap, rfl⟩ | ⟨b, off, cap, rfl, hl⟩
  · exact sizeOK_none none 0 ex w
  · exact sizeOK_none (some ad) cap ex w
  · exact sizeOK_some b off cap L.length L ex w rfl hn hl
theorem zzB_any (v : Value) (L : List Av) (h0 h1 h2 h3 h4 c : Int) (w : World) (hn : L.length ≤ maxLen) (h : Sl w v L) :
    Calls Try.prog 11 #[v, hv h0 h1 h2 h3 h4, .int .u32 c] w fun e w' => Bl e ∧ Below w.heap.size w w' := by
  rcases h with ⟨rfl, rfl⟩ | ⟨rfl, ad, cap, rfl⟩ | ⟨b, off, cap, rfl, hl⟩
  · exact zzB_none none 0 h0 h1 h2 h3 h4 c w
  · exact zzB_none (some ad) cap h0 h1 h2 h3 h4 c w
  · exact zzB_some b off cap L.length L h0 h1 h2 h3 h4 c w rfl hn hl
theorem zzA_any (v : Value) (L : List Av) (h0 h1 h2 h3 h4 c p : Int) (X : Av) (w : World) (hn : L.length ≤ maxLen) (h : Sl w v L) :
    Calls Try.prog 5 #[v, hv h0 h1 h2 h3 h4, .int .u32 c, .int .i64 p, X.val] w fun e w' => Bl e ∧ Below w.heap.size w w' := by
  rcases h with ⟨rfl, rfl⟩ | ⟨rfl, ad, cap, rfl⟩ | ⟨b, off, cap, rfl, hl⟩
  · exact zzA_none none 0 h0 h1 h2 h3 h4 c p X w
  · exact zzA_none (some ad) cap h0 h1 h2 h3 h4 c p X w
  · exact zzA_some b off cap L.length L h0 h1 h2 h3 h4 c p X w rfl hn hl
end Go.Proofs.Qxb6626480a
