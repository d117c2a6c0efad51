/-
  THE LAW 'LawS5097AShare': THE ROW's STEP, after the kit's template for laws over slices (howto/shells). The walk: YbulkdanoShareD.lean.
-/
import Derived.Test.YbulkdanoShareD
import Derived.ProofKit
import Derived.OpenShut
import Derived.ShutString
import Derived.ChangeOld
import Derived.Below
import Derived.SliceStrings
namespace Go.Proofs.Ybulkdano.lawS5097AShare
open Go.ChangeShapes Go.WideShapes Go.ChangeAt Go.RowKit
open Go.ChangeMaps (open_string shut_string)
set_option linter.unusedVariables false

theorem own : ownKnob Yba.prog.godebug = none := by kernel_rfl
theorem laidOut : laidOutB Yba.prog = true := by kernel_rfl
theorem cells9 : Yba.prog.cellsOf 9 = 1 := by kernel_rfl
theorem cells5 : Yba.prog.cellsOf 5 = 1 := by kernel_rfl

/-- The numbers of a []byte as bytes. -/
def bytesOf (zs : List Int) (n : Nat) : List UInt8 := (zs.take n).map fun z => UInt8.ofNat z.toNat

theorem byte_back {z : Int} (h : (Lit.int .u8 z).wf = true) : ((UInt8.ofNat z.toNat).toNat : Int) = z := by
  have := bounds_u8 h
  rw [UInt8.toNat_ofNat']
  omega

set_option maxRecDepth 100000 in
theorem lifted (os : Os) (started : os.Started) (H : Type) (enc : TypeId × Value → H) :
    ReturnsInHanded {} Yba.checked os 3 .any (Rows.lawS5097AShareSpec.pre6 enc Yba.prog Yba.f3 Rows.lawS5097AShareRow.domain false) (Rows.lawS5097AShareSpec.post enc Yba.prog Yba.f3 false true false false) := by
  refine returnsInHanded_of_change (C := Yba.checked) own started (by kernel_rfl) Yba.func3
    (ChangeSpec.witness6 (enc := enc) (C := Yba.checked) false ⟨#[], #[.slice none 0 0, .slice none 0 0, .bool false, .int .u8 0, .bool false], []⟩ 8 (by kernel_rfl) (by kernel_rfl) (by kernel_rfl) (by kernel_rfl)) ?_
  intro W base args ds gs before hval0 hW hcnd _
  have hval : ∀ (j : Nat) t v, Yba.f3.params[j]? = some t → args[j]? = some v → Value.okWide Yba.prog W .any base t v := hval0
  have hW' := hW
  obtain ⟨p, q, hA0, hV, rfl, hfz, hnd⟩ := hW
  have hA : DataW.TrodAll enc Yba.prog W 0 (fun _ => true) true Yba.f3.params.toList args.toList ds p := hA0
  rw [Yba.params3] at hA hval
  obtain ⟨v0, vs0, d0, ds0, p0, q0, hargs, rfl, rfl, h0, r0⟩ := trodAll_cons hA
  obtain ⟨v1, vs1, d1, ds1, p1, q1, rfl, rfl, rfl, h1, r1⟩ := trodAll_cons r0
  obtain ⟨v2, vs2, d2, ds2, p2, q2, rfl, rfl, rfl, h2, r2⟩ := trodAll_cons r1
  obtain ⟨v3, vs3, d3, ds3, p3, q3, rfl, rfl, rfl, h3, r3⟩ := trodAll_cons r2
  obtain ⟨v4, vs4, d4, ds4, p4, q4, rfl, rfl, rfl, h4, r4⟩ := trodAll_cons r3
  obtain ⟨rfl, rfl, rfl⟩ := trodAll_nil r4
  obtain rfl : args = #[v0, v1, v2, v3, v4] := by cases args; simp_all
  obtain ⟨rfl, rfl⟩ := trodVars_none hV
  obtain ⟨a0, len0, cap0, rfl⟩ := okWide_slice Yba.underlying22 (hval 0 22 v0 rfl rfl)
  obtain ⟨a1, len1, cap1, rfl⟩ := okWide_slice Yba.underlying23 (hval 1 23 v1 rfl rfl)
  have k0 := h0
  have k1 := h1
  have lt0 : ∀ x ∈ p0, x.block < W.heap.size := by obtain ⟨m, hm⟩ := k0; exact DataW.trod_lt m _ _ _ hm
  have lt1 : ∀ x ∈ p1, x.block < W.heap.size := by obtain ⟨m, hm⟩ := k1; exact DataW.trod_lt m _ _ _ hm
  obtain ⟨a2, rfl, rfl, rfl⟩ := open_bool Yba.underlying4 (hval 2 4 v2 rfl rfl) h2
  obtain ⟨a3, rfl, rfl, rfl, w3⟩ := open_int Yba.underlying5 (hval 3 5 v3 rfl rfl) h3
  obtain ⟨a4, rfl, rfl, rfl⟩ := open_bool Yba.underlying4 (hval 4 4 v4 rfl rfl) h4
  clear hA0 hval0
  have fin : ∀ (e : Ending) (W' : World), (e = .returned (.bool true) ∧ Below W.heap.size W W') → ∃ v, e = .returned v ∧ Rows.lawS5097AShareSpec.post enc Yba.checked.prog Yba.f3 false true false false W #[.slice a0 len0 cap0, .slice a1 len1 cap1, .bool a2, .int .u8 a3, .bool a4] v W' := by
    rintro e W' ⟨he, bel⟩
    subst he
    exact ⟨_, rfl, _, _, _, [], _, [], hW', trodAll_mk1 (shut_bool Yba.underlying4 _), (trodAll_cons_mk (Below.trod laidOut (by kernel_rfl) (of_decide_eq_true (by kernel_rfl)) k0 bel lt0) (trodAll_cons_mk (Below.trod laidOut (by kernel_rfl) (of_decide_eq_true (by kernel_rfl)) k1 bel lt1) (trodAll_cons_mk (shut_bool Yba.underlying4 _) (trodAll_cons_mk (shut_int Yba.underlying5 w3) (trodAll_cons_mk (shut_bool Yba.underlying4 _) trodAll_mk0))))), rfl, bel.frame _, fun h => by cases h⟩
  by_cases hlong : 1024 < len0 ∨ 1024 < len1
  · exact (Share.walk_long a0 len0 cap0 a1 len1 cap1 a2 a3 a4 W hlong).mono fin
  have b3 := bounds_u8 w3
  -- the bytes
  obtain ⟨xs, hraw⟩ : ∃ xs, Share.RawIs a1 len1 cap1 xs W := by
    obtain ⟨fuel, hf⟩ := h1
    rcases open_ints Yba.underlying23 Yba.underlying5 cells5 hf with ⟨hcs, _⟩ | ⟨x, l, c, zs, hcs, _, hl, hm, hz, _, hcell, hwz⟩
    · simp [Value.cells] at hcs
      obtain ⟨rfl, rfl, rfl⟩ := hcs
      exact ⟨[], .inl ⟨rfl, rfl, rfl, rfl⟩⟩
    · simp [Value.cells] at hcs
      obtain ⟨rfl, rfl, rfl⟩ := hcs
      simp only [if_true] at hz
      have hb1 : ∀ j, j < zs.length → ((UInt8.ofNat (zs.getD j 0).toNat).toNat : Int) = zs.getD j 0 := fun j hj => by
        have hm : zs.getD j 0 ∈ zs := by rw [List.getD, List.getElem?_eq_getElem hj]; exact List.getElem_mem _
        exact byte_back (hwz _ hm)
      have hlen : (bytesOf zs len1).length = len1 := by simp [bytesOf]; omega
      refine ⟨bytesOf zs len1, .inr ⟨x, rfl, fun h => ?_, hlen, fun j hj => ?_⟩⟩
      · have := World.block_lt_of_cell? W _ (hcell 0 (by omega))
        unfold Addr.add at this
        split at this <;> exact this
      · have hj' : j < len1 := by omega
        rw [hcell j (by omega)]
        have e : (bytesOf zs len1)[j] = UInt8.ofNat (zs.getD j 0).toNat := by
          simp [bytesOf, List.getD, List.getElem?_eq_getElem (show j < zs.length by omega)]
        rw [e, hb1 j (by omega)]
  -- the keys
  obtain ⟨fuel, hf⟩ := h0
  rcases open_strings Yba.underlying22 Yba.underlying9 cells9 hf with ⟨hcs, _⟩ | ⟨x, l, c, ss, hcs, _, hl, hm, hz, _, hcell, hws⟩
  · simp [Value.cells] at hcs
    obtain ⟨rfl, rfl, rfl⟩ := hcs
    exact (Share.walk none 0 0 0 0 [] a1 len1 cap1 xs a2 a3 a4 W (by omega) (by simp) (fun h => absurd h (by omega)) (fun h => absurd h (by omega)) (fun j hj => absurd hj (by omega)) (by simp) (by omega) hraw b3.1 b3.2).mono fin
  · simp [Value.cells] at hcs
    obtain ⟨rfl, rfl, rfl⟩ := hcs
    simp only [if_true] at hz
    obtain ⟨b, off, spot⟩ := x
    have hspot : 0 < len0 → spot = none := fun h => by simpa [Addr.add] using World.cell?_spot (hcell 0 (by omega))
    have hcell' : ∀ j, j < len0 → W.cell? ⟨b, off + j, none⟩ = some (.string (ss.getD j ByteArray.empty)) := fun j hj => by
      have := hcell j (by omega)
      rw [hspot (by omega)] at this
      rw [← add_plain]
      exact this
    exact (Share.walk (some ⟨b, off, spot⟩) b off len0 cap0 ss a1 len1 cap1 xs a2 a3 a4 W (by omega) (by omega) (fun h => by rw [hspot h]) (fun h => World.block_lt_of_cell? W _ (hcell' 0 h)) hcell' hws (by omega) hraw b3.1 b3.2).mono fin

theorem over : Rows.lawS5097AShareRow.holds Yba.pinned (OpenSpec.ofChange Rows.lawS5097AShareSpec) :=
  OpenClaim.holds_of_wide 3 Yba.f3 rfl rfl rfl rfl rfl rfl rfl ⟨rfl, rfl, rfl, rfl, rfl⟩ rfl rfl rfl rfl rfl (by kernel_rfl) Yba.func3 (by kernel_rfl)
    (of_decide_eq_true (by kernel_rfl)) (by unfold Func.isWrapper; first | (rw [if_pos (by decide +kernel)]; kernel_rfl) | (rw [if_neg (by decide +kernel)]; exact ⟨rfl, rfl⟩))
    (fun os started H enc _ => lifted os started H enc)

/-- THE STATEMENT -/
theorem proved : Rows.LawS5097AShareSaid := over
#print axioms proved
end Go.Proofs.Ybulkdano.lawS5097AShare
