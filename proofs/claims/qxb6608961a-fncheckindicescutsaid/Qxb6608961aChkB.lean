import Derived.Test.Qxb6608961aChkA
namespace Go.Proofs.Qxb6608961a.chk
open Go.RowKit
set_option linter.unusedVariables false
attribute [local go_sem ↓] Go.wp_at_zero Go.wp_at_succ

theorem info50 : (Try.prog.info? 50).map (fun i => (i.zero, i.size, i.bytes)) = some (some (.agg #[.int .i64 0, .string ⟨#[]⟩, .int .i64 0]), 3, 32) := by kernel_rfl

theorem item22 (w : World) : Calls Try.prog 22 #[.int .i64 3] w fun e w' => e = .returned (.agg #[.int .i64 3, .string ⟨#[]⟩, .int .i64 (-1)]) ∧ Below w.heap.size w w' := by
  go_enter Try.func22, Try.ntmps22
  go_wp2
  exact bodyPost_ret (v := .agg #[.int .i64 3, .string ⟨#[]⟩, .int .i64 (-1)]) (by simp [results, Try.results22, go_sem]) rfl ⟨rfl, (Below.refl _ _).alloc (Nat.le_refl _) _⟩

/-- The cells of a row of breaches. -/
def flat (L : List (Int × ByteArray × Int)) : List Value := L.flatMap fun t => [.int .i64 t.1, .string t.2.1, .int .i64 t.2.2]

theorem flat_length (L : List (Int × ByteArray × Int)) : (flat L).length = L.length * 3 := by
  induction L with
  | nil => rfl
  | cons t r ih =>
    have e : flat (t :: r) = [.int .i64 t.1, .string t.2.1, .int .i64 t.2.2] ++ flat r := rfl
    rw [e, List.length_append, ih]; simp; omega
theorem flat_snoc (L : List (Int × ByteArray × Int)) (t : Int × ByteArray × Int) : flat (L ++ [t]) = flat L ++ [.int .i64 t.1, .string t.2.1, .int .i64 t.2.2] := by simp [flat]

/-- A list of breaches with what checkIndices adds. -/
def fin (L : List (Int × ByteArray × Int)) (zs : List Int) : List (Int × ByteArray × Int) := L ++ (if asc zs then [] else [(3, ⟨#[]⟩, -1)])

theorem fin_true {L : List (Int × ByteArray × Int)} {zs : List Int} (h : asc zs = true) : fin L zs = L := by simp [fin, h]
theorem fin_false {L : List (Int × ByteArray × Int)} {zs : List Int} (h : asc zs = false) : fin L zs = L ++ [(3, ⟨#[]⟩, -1)] := by simp [fin, h]
theorem fin_len (L : List (Int × ByteArray × Int)) (zs : List Int) : (fin L zs).length ≤ L.length + 1 := by unfold fin; split <;> simp

theorem own_same {w w' : World} {B : Nat} {e : TypeId} {size n : Nat} {v : Value} {xs : List Value} (h : w.ownsRow B e size v n xs) (hs : Same w w') : w'.ownsRow B e size v n xs := by
  obtain ⟨h1, h2⟩ := h
  exact ⟨h1, by rw [hs.1]; exact h2⟩

theorem own_below {w w' : World} {B : Nat} {e : TypeId} {size n : Nat} {v : Value} {xs : List Value} (h : w.ownsRow B e size v n xs) (hs : Below w.heap.size w w') : w'.ownsRow B e size v n xs := by
  obtain ⟨h1, h2⟩ := h
  refine ⟨h1, ?_⟩
  rcases h2 with h2 | ⟨g, cap, cur, hv, hg, hh, r⟩
  · exact .inl h2
  · exact .inr ⟨g, cap, cur, hv, hg, by rw [hs.block g (lt_of_block hh)]; exact hh, r⟩

set_option maxHeartbeats 800000 in
set_option maxRecDepth 100000 in
/-- 19 -/
theorem check19 (B : Nat) (v : Value) (L : List (Int × ByteArray × Int)) (a : Option Addr) (n c : Nat) (zs : List Int) (w : World) (hown : w.ownsRow B 50 3 v L.length (flat L)) (hB : B ≤ w.heap.size)
    (hr : Rd w a (zs.map (Value.int .u32))) (hn : Hid (zs.length = n)) (hb : n ≤ 1073741824) (hL : L.length ≤ 1073741824) :
    Calls Try.prog 19 #[v, .slice a n c] w fun e w' => ∃ v', e = .returned v' ∧ w'.ownsRow B 50 3 v' (fin L zs).length (flat (fin L zs)) ∧ Below B w w' := by
  obtain ⟨i0, hi0, hz0, hz1, hz2⟩ := info_parts info50
  cases ha : asc zs with
  | true =>
    have HA : Hid (asc zs = true) := ha
    clear ha
    go_enter Try.func19, Try.ntmps19
    go_wp2_with (go_at_call 20; refine (order20 a n c zs _ hr hn hb).mono ?_; rintro e w1 ⟨⟨i, rfl⟩, hs⟩; rw [HA.out])
    go_ret
    refine ⟨v, rfl, ?_, hs.2.mono hB⟩
    rw [fin_true HA.out]
    exact own_same hown hs
  | false =>
    have HA : Hid (asc zs = false) := ha
    clear ha
    go_enter Try.func19, Try.ntmps19
    go_wp2_with (first | (go_at_call 20; refine (order20 a n c zs _ hr hn hb).mono ?_; rintro e w1 ⟨⟨i, rfl⟩, hs⟩; rw [HA.out]) | (go_at_call 22; refine (item22 _).mono ?_; rintro e w2 ⟨rfl, hb2⟩) | (at_builtin; refine wpList_append_lies _ rfl _ _ 45 rfl B 50 i0 _ 3 32 Try.underlying45 hi0 hz0 hz1 hz2 rfl (by decide) v _ _ rfl ((own_below (own_same hown hs) hb2).alloc _) ⟨w2.heap.size, 0, none⟩ 1 1 [.int .i64 3, .string ⟨#[]⟩, .int .i64 (-1)] rfl rfl (World.news_of_block (cs := #[.int .i64 3, .string ⟨#[]⟩, .int .i64 (-1)]) (t := 50) (fr := (0, 0)) (heap_alloc_new w2 _)) (by simp [Value.oneCell']) (by omega) (by unfold maxLen; omega) (by omega) (by have := hs.2.size; have := hb2.size; simp; omega) _ rfl ?_; intro g cap w3 own3 grow3 hat hlt))
    go_ret
    refine ⟨_, rfl, ?_, ?_⟩
    · rw [fin_false HA.out, flat_snoc, List.length_append]
      exact own3
    · have h1 : Below B w w1 := hs.2.mono hB
      have h2 : Below B w w2 := h1.trans (hb2.mono (Nat.le_trans hB hs.2.size))
      have h3 : B ≤ w2.heap.size := Nat.le_trans hB (Nat.le_trans hs.2.size hb2.size)
      exact (h2.alloc h3 _).grown grow3 (by simp; omega) (fun k hk => (hown.lt k hk).1)

end Go.Proofs.Qxb6608961a.chk
