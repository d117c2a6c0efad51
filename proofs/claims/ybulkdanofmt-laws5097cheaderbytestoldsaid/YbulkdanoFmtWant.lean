import Derived.Test.YbulkdanoFmtBuf
namespace Go.Proofs.YbulkdanoFmt.Hdr
open Go.RowKit

theorem new_cells (w : World) (news : List Value) (t : TypeId) (j : Nat) (u : Value) (h : news[j]? = some u) : (w.alloc (.cells news.toArray t)).cell? ((⟨w.heap.size, 0, none⟩ : Addr).add j) = some u := by
  rw [add0, World.cell?_alloc_new]
  simpa using h

/-- 'zzs5097cput32' within the capacity. -/
theorem want32 (big : Bool) (q k base : Nat) (v : Int) (xs : List Value) (w : World) (h0 : 0 ≤ v) (h1 : v < 4294967296) (hk : k + 4 ≤ 24)
    (hown : w.ownsRow base 5 1 (.slice (some ⟨q, 0, none⟩) k 24) k xs) :
    Calls Ybaf.prog 8 #[.slice (some ⟨q, 0, none⟩) k 24, .int .u32 v, .bool big] w fun e w' => e = .returned (.slice (some ⟨q, 0, none⟩) (k + 4) 24) ∧
      w'.ownsRow base 5 1 (.slice (some ⟨q, 0, none⟩) (k + 4) 24) (k + 4) (xs ++ u8s (B4 big v)) ∧ w.grownBy w' (some q) := by
  obtain ⟨i0, hi, hz0, hz1, hz2⟩ := info_parts info5
  have HO : Hid (w.ownsRow base 5 1 (.slice (some ⟨q, 0, none⟩) k 24) k xs) := hown
  clear hown
  cases big
  · go_enter Ybaf.func8, Ybaf.ntmps8
    go_wp2_with (at_builtin; refine wpList_append_fits _ rfl _ _ 30 rfl base 5 i0 1 Ybaf.underlying30 hi hz1 q k 24 xs rfl (HO.out.alloc _) ⟨w.heap.size, 0, none⟩ 4 4 (u8s (B4 false v)) rfl rfl (fun j u hu => new_cells w (u8s (B4 false v)) 5 j u hu) (ints_oneCell .u8 _) (by omega) ?_)
    intro w1 hown1 hgrow1
    have R1 : Hid (w1.ownsRow base 5 1 (.slice (some ⟨q, 0, none⟩) (k + 4) 24) (k + 4) (xs ++ u8s (B4 false v))) := hown1
    have R2 : Hid (w.grownBy w1 (some q)) := grownBy_trans (World.grownBy_alloc _ _ _) hgrow1
    clear hown1 hgrow1
    go_wp2_with fail
    go_ret
    exact ⟨rfl, R1.out, R2.out⟩
  · go_enter Ybaf.func8, Ybaf.ntmps8
    go_wp2_with (at_builtin; refine wpList_append_fits _ rfl _ _ 30 rfl base 5 i0 1 Ybaf.underlying30 hi hz1 q k 24 xs rfl (HO.out.alloc _) ⟨w.heap.size, 0, none⟩ 4 4 (u8s (B4 true v)) rfl rfl (fun j u hu => new_cells w (u8s (B4 true v)) 5 j u hu) (ints_oneCell .u8 _) (by omega) ?_)
    intro w1 hown1 hgrow1
    have R1 : Hid (w1.ownsRow base 5 1 (.slice (some ⟨q, 0, none⟩) (k + 4) 24) (k + 4) (xs ++ u8s (B4 true v))) := hown1
    have R2 : Hid (w.grownBy w1 (some q)) := grownBy_trans (World.grownBy_alloc _ _ _) hgrow1
    clear hown1 hgrow1
    go_wp2_with fail
    go_ret
    exact ⟨rfl, R1.out, R2.out⟩

/-- 'zzs5097cput16' within the capacity. -/
theorem want16 (big : Bool) (q k base : Nat) (v : Int) (xs : List Value) (w : World) (h0 : 0 ≤ v) (h1 : v < 65536) (hk : k + 2 ≤ 24)
    (hown : w.ownsRow base 5 1 (.slice (some ⟨q, 0, none⟩) k 24) k xs) :
    Calls Ybaf.prog 9 #[.slice (some ⟨q, 0, none⟩) k 24, .int .u16 v, .bool big] w fun e w' => e = .returned (.slice (some ⟨q, 0, none⟩) (k + 2) 24) ∧
      w'.ownsRow base 5 1 (.slice (some ⟨q, 0, none⟩) (k + 2) 24) (k + 2) (xs ++ u8s (B2 big v)) ∧ w.grownBy w' (some q) := by
  obtain ⟨i0, hi, hz0, hz1, hz2⟩ := info_parts info5
  have HO : Hid (w.ownsRow base 5 1 (.slice (some ⟨q, 0, none⟩) k 24) k xs) := hown
  clear hown
  cases big
  · go_enter Ybaf.func9, Ybaf.ntmps9
    go_wp2_with (at_builtin; refine wpList_append_fits _ rfl _ _ 30 rfl base 5 i0 1 Ybaf.underlying30 hi hz1 q k 24 xs rfl (HO.out.alloc _) ⟨w.heap.size, 0, none⟩ 2 2 (u8s (B2 false v)) rfl rfl (fun j u hu => new_cells w (u8s (B2 false v)) 5 j u hu) (ints_oneCell .u8 _) (by omega) ?_)
    intro w1 hown1 hgrow1
    have R1 : Hid (w1.ownsRow base 5 1 (.slice (some ⟨q, 0, none⟩) (k + 2) 24) (k + 2) (xs ++ u8s (B2 false v))) := hown1
    have R2 : Hid (w.grownBy w1 (some q)) := grownBy_trans (World.grownBy_alloc _ _ _) hgrow1
    clear hown1 hgrow1
    go_wp2_with fail
    go_ret
    exact ⟨rfl, R1.out, R2.out⟩
  · go_enter Ybaf.func9, Ybaf.ntmps9
    go_wp2_with (at_builtin; refine wpList_append_fits _ rfl _ _ 30 rfl base 5 i0 1 Ybaf.underlying30 hi hz1 q k 24 xs rfl (HO.out.alloc _) ⟨w.heap.size, 0, none⟩ 2 2 (u8s (B2 true v)) rfl rfl (fun j u hu => new_cells w (u8s (B2 true v)) 5 j u hu) (ints_oneCell .u8 _) (by omega) ?_)
    intro w1 hown1 hgrow1
    have R1 : Hid (w1.ownsRow base 5 1 (.slice (some ⟨q, 0, none⟩) (k + 2) 24) (k + 2) (xs ++ u8s (B2 true v))) := hown1
    have R2 : Hid (w.grownBy w1 (some q)) := grownBy_trans (World.grownBy_alloc _ _ _) hgrow1
    clear hown1 hgrow1
    go_wp2_with fail
    go_ret
    exact ⟨rfl, R1.out, R2.out⟩

/-- A slice that owns bytes, as a string. -/
theorem conv_own {base n : Nat} {v : Value} {zs : List Int} {w : World} (hn : zs.length = n) (h : w.ownsRow base 5 1 v n (u8s zs)) : (convert 30 9 v).run Ybaf.prog w = .ok (.string (strOfNums zs)) w := by
  rcases h.2 with ⟨rfl, hn0⟩ | ⟨g, cap, cur, rfl, _⟩
  · obtain rfl : zs = [] := List.eq_nil_of_length_eq_zero (by omega)
    exact run_convert_bytes_nil (P := Ybaf.prog) w 30 5 Ybaf.underlying30 Ybaf.underlying5 0 0 9 Ybaf.underlying9
  · refine run_convert_bytes_arg (P := Ybaf.prog) w 30 5 Ybaf.underlying30 Ybaf.underlying5 g 0 n cap zs hn (fun i hi => ?_) 9 Ybaf.underlying9
    have hi' : i < zs.length := by omega
    have := h.cells (g := g) rfl i (.int .u8 zs[i]) (by simp [u8s, List.getElem?_eq_getElem hi'])
    rw [add0] at this
    rw [Nat.zero_add, this]
    simp [List.getD, List.getElem?_eq_getElem hi']

/-- 'bytes.Equal' of two slices that own the same bytes. -/
theorem equal_same (v1 v2 : Value) (S : ByteArray) (w : World) (h1 : (convert 30 9 v1).run Ybaf.prog w = .ok (.string S) w) (h2 : (convert 30 9 v2).run Ybaf.prog w = .ok (.string S) w) :
    Calls Ybaf.prog 10 #[v1, v2] w fun e w' => e = .returned (.bool true) ∧ w' = w := by
  go_enter Ybaf.func10, Ybaf.ntmps10
  go_wp2
  go_ret
  exact ⟨rfl, rfl⟩
end Go.Proofs.YbulkdanoFmt.Hdr
