import Derived.Test.YbulkaahuFmtBDec
namespace Go.Proofs.YbulkaahuFmt
open Go.RowKit

/-- A Reader lies at block R: it reads L bytes d from block g on, and stands at 'off'. -/
structure ReaderAt (w : World) (R g o L cap off : Nat) (d : Nat → Int) : Prop where
  cData : w.cell? ⟨R, 0, none⟩ = some (.slice (some ⟨g, o, none⟩) L cap)
  cOff : w.cell? ⟨R, 1, none⟩ = some (.int .i64 off)
  cErr : w.cell? ⟨R, 2, none⟩ = some .nilIface
  free : w.frozen? ⟨R, 1, none⟩ = false
  cell : ∀ i, i < L → w.cell? ⟨g, o + i, none⟩ = some (.int .u8 (d i))
  lo : ∀ i, 0 ≤ d i
  hi : ∀ i, d i ≤ 255

theorem ReaderAt.bytes {w : World} {R g o L cap off : Nat} {d : Nat → Int} (h : ReaderAt w R g o L cap off d) (m : Nat) : BytesAt (w.drewN m) (some ⟨g, o + off, none⟩) g (o + off) (L - off) (fun i => d (off + i)) :=
  ⟨fun _ => rfl, fun i hi => by rw [Nat.add_assoc]; exact h.cell (off + i) (by omega), fun i => h.lo _, fun i => h.hi _⟩

set_option maxHeartbeats 1000000 in
theorem rd_ok (d : Nat → Int) (R g o L cap off k : Nat) (w : World) (hL : L ≤ cap) (hcap : cap ≤ 9223372036854775807) (hR : ReaderAt w R g o L cap off d) (hk : off + k < L) (hk9 : k ≤ 9) (hall : ∀ i, i < k → 128 ≤ d (off + i)) (hlast : d (off + k) < 128) (hten : k = 9 → d (off + k) ≤ 1) :
    Calls Ybaf.prog 9 #[.pointer (some ⟨R, 0, none⟩)] w fun e w' => e = .returned (.int .u64 (vF (fun i => d (off + i)) k)) ∧ ∃ m, w' = (w.drewN m).setCell ⟨R, 1, none⟩ (.int .i64 ((off : Int) + ((k : Int) + 1))) := by
  have c0 := hR.cData
  have c1 := hR.cOff
  have c2 := hR.cErr
  have f1 := hR.free
  have i0 : (0 : Int) ≤ (off : Int) := by omega
  have i1 : (off : Int) ≤ (L : Int) := by omega
  have i2 : off ≤ L := by omega
  have hne : ¬ cap = off := by omega
  have HR : Hid _ := hR
  have HALL : Hid _ := hall
  clear hR hall
  go_enter Ybaf.func9, Ybaf.ntmps9
  go_wp2
  go_quiet ((go_at_call 15; exact Calls.quiet_of_same (uv_ok (fun i => d (off + i)) _ g (o + off) (L - off) (cap - off) k _ (by omega) (HR.out.bytes _) (by omega) hk9 HALL.out hlast hten)))
  go_wp2
  go_ret
  exact ⟨rfl, nq, rfl⟩
end Go.Proofs.YbulkaahuFmt
