import Derived.Test.YbulkaageRows
import Derived.WalkKit
import Derived.WalkSpells
import Derived.WalkLawsBesides
import Derived.Below
import Derived.WalkSmall
import Derived.Deep.OwnRows
import Derived.Deep.QuietTactic
import Derived.BigQuiet
import Derived.Outline
import Derived.Deep.DeepCutAuto
namespace Go.Proofs.Ybulkaage
open Go.RowKit

theorem Yba.info2 : (Yba.prog.info? 2).map (fun i => (i.zero, i.size, i.bytes)) = some (some (.int .i64 0), 1, 8) := by kernel_rfl
theorem Yba.info3 : (Yba.prog.info? 3).map (fun i => (i.zero, i.size, i.bytes)) = some (some (.int .i64 0), 1, 8) := by kernel_rfl
theorem Yba.info21b : (Yba.prog.info? 21).map (fun i => (i.zero, i.size, i.bytes)) = some (some (.int .i32 0), 1, 4) := by kernel_rfl
theorem Yba.info58 : (Yba.prog.info? 58).map (fun i => (i.zero, i.size, i.bytes)) = some (some (.agg #[.int .i32 0, .int .i32 0, .int .i32 0, .int .i32 0]), 4, 16) := by kernel_rfl

/-- 'make([]slot, 2*k)'. -/
theorem make_slots (k : Nat) (hk : k ≤ 1024) (w : World) :
    (Instr.makeSlice 45 (.int .i64 (2 * (k : Int))) (.int .i64 (2 * (k : Int)))).run Yba.prog w =
      .ok (.slice (some ⟨w.heap.size, 0, none⟩) (2 * k) (2 * k)) (w.alloc (.cells (madeCells #[.int .i32 0, .int .i32 0, .int .i32 0, .int .i32 0] (2 * k * 4)) 58)) := by
  obtain ⟨i, hi, hzz⟩ := Option.map_eq_some_iff.1 Yba.info58
  simp only [Prod.mk.injEq] at hzz
  obtain ⟨hz, hs, hb⟩ := hzz
  have hr := run_make (P := Yba.prog) w 45 58 i _ Yba.underlying45 hi hz .i64 .i64 (2 * (k : Int)) (2 * (k : Int)) (by omega) (Int.le_refl _) (by rw [hb]; omega) (by omega)
  have e : (2 * (k : Int)).toNat = 2 * k := by omega
  rw [e, hs] at hr
  simpa [Value.cells] using hr

/-- 'make([]T, m+1)', T of one cell. -/
theorem make_more {t e : TypeId} {z : Value} {bytes : Nat} (ht : Yba.prog.underlying t = some (.slice e)) (hinfo : (Yba.prog.info? e).map (fun i => (i.zero, i.size, i.bytes)) = some (some z, 1, bytes)) (hz1 : z.cells = #[z])
    (m : Nat) (hm : m ≤ 1024) (hb : bytes ≤ 8) (w : World) :
    (Instr.makeSlice t (.int .i64 ((m : Int) + 1)) (.int .i64 ((m : Int) + 1))).run Yba.prog w = .ok (.slice (some ⟨w.heap.size, 0, none⟩) (m + 1) (m + 1)) (w.alloc (.cells (madeCells #[z] (m + 1)) e)) := by
  have hr := run_make_row' (P := Yba.prog) t e z bytes ht hinfo hz1 .i64 .i64 (m + 1) (by have : bytes * (m + 1) ≤ 8 * (m + 1) := Nat.mul_le_mul_right _ hb; omega) (by omega) w
  simpa using hr

/-- The arcs that came in, by their index. -/
structure Arcs where
  h : Nat → Int
  r : Nat → Int
  s : Nat → Int
  c : Nat → Int

/-- The price of node i once the first n prices are laid. -/
def priceAt (own : Int) (n : Nat) (P : Nat → Int) : Nat → Int
  | 0 => own
  | i + 1 => if i < n then P i else 0

theorem priceAt_step (own : Int) (n : Nat) (P : Nat → Int) (i : Nat) : (if i = n + 1 then P n else priceAt own n P i) = priceAt own (n + 1) P i := by
  cases i with
  | zero => simp [priceAt]
  | succ i =>
    by_cases e : i = n
    · subst e; simp [priceAt]
    · by_cases e' : i < n
      · simp [priceAt, e, e', show i < n + 1 by omega]
      · simp [priceAt, e, e', show ¬ i < n + 1 by omega]

theorem price_start (w : World) (own : Int) (m : Nat) (P : Nat → Int) :
    (w.alloc (.cells ((madeCells #[.int .i64 0] (m + 1)).setIfInBounds 0 (.int .i64 own)) 2)).rowIs w.heap.size 2 (m + 1) (fun i => .int .i64 (priceAt own 0 P i)) := by
  have h := World.rowIs_alloc w ((madeCells #[.int .i64 0] (m + 1)).setIfInBounds 0 (.int .i64 own)) 2 (fun i => .int .i64 (priceAt own 0 P i)) (fun i hi => by
    rw [Array.getElem?_setIfInBounds]
    cases i with
    | zero => simp [priceAt, size_madeCells]
    | succ i => simp [size_madeCells] at hi; simp [priceAt, madeCells, hi, Nat.mod_one])
  simpa [size_madeCells] using h

theorem price_step {w : World} {B m k : Nat} {own : Int} {P : Nat → Int} (h : w.rowIs B 2 (m + 1) (fun i => .int .i64 (priceAt own k P i))) :
    (w.setCell ⟨B, k + 1, none⟩ (.int .i64 (P k))).rowIs B 2 (m + 1) (fun i => .int .i64 (priceAt own (k + 1) P i)) := by
  refine (h.set (k + 1) _).congr fun i _ => ?_
  rw [← priceAt_step]
  split <;> rfl

def I32 (x : Int) : Prop := -2147483648 ≤ x ∧ x ≤ 2147483647

/-- Each field fits its kind. -/
structure Arcs.Ok (A : Arcs) : Prop where
  h : ∀ i, 0 ≤ A.h i ∧ A.h i ≤ 65535
  r : ∀ i, I32 (A.r i)
  s : ∀ i, I32 (A.s i)
  c : ∀ i, I32 (A.c i)

/-- The arcs lie there. -/
structure ArcCells (w : World) (b o k : Nat) (A : Arcs) : Prop where
  h : ∀ i, i < k → w.cell? ⟨b, o + i * 4, none⟩ = some (.int .u16 (A.h i))
  r : ∀ i, i < k → w.cell? ⟨b, o + i * 4 + 1, none⟩ = some (.int .i32 (A.r i))
  s : ∀ i, i < k → w.cell? ⟨b, o + i * 4 + 2, none⟩ = some (.int .i32 (A.s i))
  c : ∀ i, i < k → w.cell? ⟨b, o + i * 4 + 3, none⟩ = some (.int .i32 (A.c i))

/-- The node to which arc q leads. -/
def headOf (m : Nat) (A : Arcs) (q : Nat) : Int := 1 + A.h q % (m : Int)

/-- The slots and the heads of the first j arcs are laid. -/
structure SlotRows (w : World) (B k m : Nat) (A : Arcs) (j : Nat) : Prop where
  slots : ∃ f : Nat → Value, w.rowIs (B + 1) 58 (2 * k * 4) f ∧ ∀ q, q < j → f (q * 4) = .int .i32 (headOf m A q) ∧ f (q * 4 + 1) = .int .i32 ((k : Int) + q) ∧ f (q * 4 + 2) = .int .i32 (A.r q) ∧ f (q * 4 + 3) = .int .i32 (A.c q) ∧ f ((k + q) * 4 + 2) = .int .i32 (A.s q)
  heads : ∃ f : Nat → Value, w.rowIs (B + 1 + 1) 3 k f ∧ ∀ q, q < j → f q = .int .i64 (headOf m A q)

theorem start2 (w : World) (B k m : Nat) (A : Arcs) (hs : w.heap.size = B + 1) :
    SlotRows ((w.alloc (.cells (madeCells #[.int .i32 0, .int .i32 0, .int .i32 0, .int .i32 0] (2 * k * 4)) 58)).alloc (.cells (madeCells #[.int .i64 0] k) 3)) B k m A 0 := by
  refine ⟨⟨fun _ => .int .i32 0, ?_, fun q hq => by omega⟩, ⟨fun _ => .int .i64 0, ?_, fun q hq => by omega⟩⟩
  · have h := World.rowIs_alloc w (madeCells #[.int .i32 0, .int .i32 0, .int .i32 0, .int .i32 0] (2 * k * 4)) 58 (fun _ => .int .i32 0) (fun i hi => by
      simp only [size_madeCells] at hi
      have h4 : i % 4 = 0 ∨ i % 4 = 1 ∨ i % 4 = 2 ∨ i % 4 = 3 := by omega
      rcases h4 with h4 | h4 | h4 | h4 <;> simp [madeCells, hi, h4])
    rw [hs, size_madeCells] at h
    exact h.alloc _
  · have h := World.rowIs_made (w.alloc (.cells (madeCells #[.int .i32 0, .int .i32 0, .int .i32 0, .int .i32 0] (2 * k * 4)) 58)) (.int .i64 0) k 3
    rw [Deep.nblk_alloc, hs] at h
    exact h

def upd (f : Nat → Value) (i : Nat) (v : Value) : Nat → Value := fun j => if j = i then v else f j
theorem upd_ne {f : Nat → Value} {i j : Nat} {v : Value} (h : j ≠ i) : upd f i v j = f j := if_neg h
theorem upd_eq {f : Nat → Value} {i : Nat} {v : Value} : upd f i v i = v := if_pos rfl
theorem row_upd {w : World} {b : Nat} {t : TypeId} {n : Nat} {f : Nat → Value} (h : w.rowIs b t n f) (i : Nat) (v : Value) : (w.setCell ⟨b, i, none⟩ v).rowIs b t n (upd f i v) := h.set i v

/-- What a round lays: the head, the slot, its sister; and the copy of the arc in a new block. -/
theorem round_step {w wr : World} {B k m i : Nat} {A : Arcs} {pr : Nat → Value} {x4 x5 x7 : Value} {o : Obj} (hsl : SlotRows wr B k m A i) (hrow : wr.rowIs B 2 (m + 1) pr) (hbel : Below B w wr) (hsz : wr.heap.size = B + 3 + i) (hi : i < k) :
    let w' := ((((((((((wr.setCell ⟨B + 1 + 1, i, none⟩ (.int .i64 (headOf m A i))).setCell ⟨B + 1, i * 4, none⟩ (.int .i32 (headOf m A i))).setCell ⟨B + 1, i * 4 + 1, none⟩ (.int .i32 ((k : Int) + i))).setCell ⟨B + 1, i * 4 + 2, none⟩ (.int .i32 (A.r i))).setCell ⟨B + 1, i * 4 + 3, none⟩ (.int .i32 (A.c i))).setCell
      ⟨B + 1, (k + i) * 4, none⟩ x4).setCell ⟨B + 1, (k + i) * 4 + 1, none⟩ x5).setCell ⟨B + 1, (k + i) * 4 + 2, none⟩ (.int .i32 (A.s i))).setCell ⟨B + 1, (k + i) * 4 + 3, none⟩ x7).alloc o)
    SlotRows w' B k m A (i + 1) ∧ w'.rowIs B 2 (m + 1) pr ∧ Below B w w' ∧ w'.heap.size = B + 3 + (i + 1) := by
  intro w'
  obtain ⟨⟨f, hf, hfq⟩, ⟨g, hg, hgq⟩⟩ := hsl
  refine ⟨⟨⟨_, (row_upd (row_upd (row_upd (row_upd (row_upd (row_upd (row_upd (row_upd (hf.setOther (a := ⟨B + 1 + 1, i, none⟩) (by simp) _) (i * 4) _) (i * 4 + 1) _) (i * 4 + 2) _) (i * 4 + 3) _) ((k + i) * 4) _) ((k + i) * 4 + 1) _) ((k + i) * 4 + 2) _) ((k + i) * 4 + 3) _).alloc o, fun q hq => ?_⟩, ⟨_, ((((((((((row_upd hg i _).setOther (by simp) _).setOther (by simp) _).setOther (by simp) _).setOther (by simp) _).setOther (by simp) _).setOther (by simp) _).setOther (by simp) _).setOther (by simp) _).alloc o), fun q hq => ?_⟩⟩, ?_, ?_, ?_⟩
  · by_cases e : q = i
    · subst e
      refine ⟨?_, ?_, ?_, ?_, ?_⟩ <;> (repeat rw [upd_ne (by omega)]) <;> exact upd_eq
    · obtain ⟨a0, a1, a2, a3, a4⟩ := hfq q (by omega)
      refine ⟨?_, ?_, ?_, ?_, ?_⟩ <;> (repeat rw [upd_ne (by omega)]) <;> assumption
  · by_cases e : q = i
    · subst e; exact upd_eq
    · rw [upd_ne e]; exact hgq q (by omega)
  · exact ((((((((((hrow.setOther (by simp; omega) _).setOther (by simp) _).setOther (by simp) _).setOther (by simp) _).setOther (by simp) _).setOther (by simp) _).setOther (by simp) _).setOther (by simp) _).setOther (by simp) _).alloc o)
  · exact ((((((((((hbel.setCell (by simp; omega) _).setCell (by simp) _).setCell (by simp) _).setCell (by simp) _).setCell (by simp) _).setCell (by simp) _).setCell (by simp) _).setCell (by simp) _).setCell (by simp) _).alloc (by simp; omega) o)
  · simp only [w', Deep.nblk_alloc, Deep.nblk_setCell]; omega

/-- The network that 'zzs1317bbuild' lays: its rows from block B on, 'first', 'end' and the struct itself from block N on. -/
structure BNet (w : World) (B N np m k : Nat) (own : Int) (P : Nat → Int) (A : Arcs) : Prop where
  cFirst : w.cell? ⟨N + 1 + 1, 1, none⟩ = some (.slice (some ⟨N, 0, none⟩) (m + 1) (m + 1))
  cEnd : w.cell? ⟨N + 1 + 1, 2, none⟩ = some (.slice (some ⟨N + 1, 0, none⟩) (m + 1) (m + 1))
  cSlots : w.cell? ⟨N + 1 + 1, 4, none⟩ = some (.slice (some ⟨B + 1, 0, none⟩) (2 * k) (2 * k))
  cPrice : w.cell? ⟨N + 1 + 1, 10, none⟩ = some (.slice (some ⟨B, 0, none⟩) (m + 1) (m + 1))
  first : w.cell? ⟨N, 0, none⟩ = some (.int .i32 0)
  fin : w.cell? ⟨N + 1, 0, none⟩ = some (.int .i32 k)
  price : ∀ i, i ≤ m → w.cell? ⟨B, i, none⟩ = some (.int .i64 (priceAt own np P i))
  heads : ∀ q, q < k → w.cell? ⟨B + 1 + 1, q, none⟩ = some (.int .i64 (headOf m A q))
  sHead : ∀ q, q < k → w.cell? ⟨B + 1, q * 4, none⟩ = some (.int .i32 (headOf m A q))
  sSister : ∀ q, q < k → w.cell? ⟨B + 1, q * 4 + 1, none⟩ = some (.int .i32 ((k : Int) + q))
  sRoom : ∀ q, q < k → w.cell? ⟨B + 1, q * 4 + 2, none⟩ = some (.int .i32 (A.r q))
  sCost : ∀ q, q < k → w.cell? ⟨B + 1, q * 4 + 3, none⟩ = some (.int .i32 (A.c q))
  tRoom : ∀ q, q < k → w.cell? ⟨B + 1, (k + q) * 4 + 2, none⟩ = some (.int .i32 (A.s q))

theorem bnet_of {w : World} {B np m k : Nat} {own : Int} {P : Nat → Int} {A : Arcs} (hsl : SlotRows w B k m A k) (hrow : w.rowIs B 2 (m + 1) (fun i => .int .i64 (priceAt own np P i))) (c : Array Value)
    (c1 : c[1]? = some (.slice (some ⟨w.heap.size, 0, none⟩) (m + 1) (m + 1))) (c2 : c[2]? = some (.slice (some ⟨w.heap.size + 1, 0, none⟩) (m + 1) (m + 1)))
    (c4 : c[4]? = some (.slice (some ⟨B + 1, 0, none⟩) (2 * k) (2 * k))) (c10 : c[10]? = some (.slice (some ⟨B, 0, none⟩) (m + 1) (m + 1))) :
    BNet (((w.alloc (.cells (madeCells #[.int .i32 0] (m + 1)) 21)).alloc (.cells ((madeCells #[.int .i32 0] (m + 1)).setIfInBounds 0 (.int .i32 k)) 21)).alloc (.cells c 49)) B w.heap.size np m k own P A := by
  obtain ⟨⟨f, hf, hfq⟩, ⟨g, hg, hgq⟩⟩ := hsl
  have hf' := ((hf.alloc (.cells (madeCells #[.int .i32 0] (m + 1)) 21)).alloc (.cells ((madeCells #[.int .i32 0] (m + 1)).setIfInBounds 0 (.int .i32 k)) 21)).alloc (.cells c 49)
  have hg' := ((hg.alloc (.cells (madeCells #[.int .i32 0] (m + 1)) 21)).alloc (.cells ((madeCells #[.int .i32 0] (m + 1)).setIfInBounds 0 (.int .i32 k)) 21)).alloc (.cells c 49)
  have hr' := ((hrow.alloc (.cells (madeCells #[.int .i32 0] (m + 1)) 21)).alloc (.cells ((madeCells #[.int .i32 0] (m + 1)).setIfInBounds 0 (.int .i32 k)) 21)).alloc (.cells c 49)
  have at3 : ∀ j, (((w.alloc (.cells (madeCells #[.int .i32 0] (m + 1)) 21)).alloc (.cells ((madeCells #[.int .i32 0] (m + 1)).setIfInBounds 0 (.int .i32 k)) 21)).alloc (.cells c 49)).cell? ⟨w.heap.size + 1 + 1, j, none⟩ = c[j]? :=
    fun j => World.cell?_alloc_at c 49 _ j (by simp only [Deep.nblk_alloc])
  refine ⟨?_, ?_, ?_, ?_, ?_, ?_, fun i hi => ?_, fun q hq => ?_, fun q hq => ?_, fun q hq => ?_, fun q hq => ?_, fun q hq => ?_, fun q hq => ?_⟩
  · rw [at3, c1]
  · rw [at3, c2]
  · rw [at3, c4]
  · rw [at3, c10]
  · rw [World.cell?_alloc_past _ _ _ (by simp only [Deep.nblk_alloc]; omega), World.cell?_alloc_past _ _ _ (by simp only [Deep.nblk_alloc]; omega), World.cell?_alloc_at _ _ _ _ rfl]
    simp [madeCells]
  · rw [World.cell?_alloc_past _ _ _ (by simp only [Deep.nblk_alloc]; omega), World.cell?_alloc_at _ _ _ _ (by simp only [Deep.nblk_alloc])]
    simp [size_madeCells]
  · exact hr'.cell (by omega)
  · rw [hg'.cell hq, hgq q hq]
  · rw [hf'.cell (by omega), (hfq q hq).1]
  · rw [hf'.cell (by omega), (hfq q hq).2.1]
  · rw [hf'.cell (by omega), (hfq q hq).2.2.1]
  · rw [hf'.cell (by omega), (hfq q hq).2.2.2.1]
  · rw [hf'.cell (by omega), (hfq q hq).2.2.2.2]

set_option maxRecDepth 100000 in
set_option maxHeartbeats 1000000 in
theorem bbuild_any (own : Int) (pa : Option Addr) (pb po np pcap : Nat) (P : Nat → Int) (aa : Option Addr) (ab ao k acap : Nat) (A : Arcs) (w : World) (m : Nat)
    (h1 : np ≤ 1024) (h2 : k ≤ 1024) (hm : m = np ∧ 1 ≤ np ∨ m = 1 ∧ np = 0) (hown : I32 own)
    (hm3 : np ≤ m) (hpa : 0 < np → pa = some ⟨pb, po, none⟩) (hpb : 0 < np → pb < w.heap.size) (hpc : ∀ i, i < np → w.cell? ⟨pb, po + i, none⟩ = some (.int .i32 (P i))) (hP : ∀ i, I32 (P i))
    (haa : 0 < k → aa = some ⟨ab, ao, none⟩) (hab : 0 < k → ab < w.heap.size) (hac : ArcCells w ab ao k A) (hA : A.Ok) :
    Calls Yba.prog 13 #[.int .i32 own, .slice pa np pcap, .slice aa k acap] w fun e w' =>
      ∃ N, w.heap.size + 3 ≤ N ∧ e = .returned (.tuple #[.pointer (some ⟨N + 1 + 1, 0, none⟩), .slice (some ⟨w.heap.size + 1 + 1, 0, none⟩) k k]) ∧ BNet w' w.heap.size N np m k own P A ∧ Below w.heap.size w w' := by
  obtain ⟨o1, o2⟩ := hown
  have HAA : Hid (0 < k → aa = some ⟨ab, ao, none⟩) := haa
  clear haa
  have hm1 : 1 ≤ m := by omega
  have hm2 : m ≤ 1024 := by omega
  have mk1 := make_more Yba.underlying46 Yba.info2 rfl m hm2 (by decide)
  have mk2 := make_slots k h2
  have mk3 := run_make_row' (P := Yba.prog) 28 3 (.int .i64 0) 8 Yba.underlying28 Yba.info3 rfl .i64 .i64 k (by omega) (by omega)
  have mk4 := make_more Yba.underlying23 Yba.info21b rfl m hm2 (by decide)
  have md1 : (madeCells #[Value.int .i64 0] (m + 1))[0]? = some (.int .i64 0) := by simp [madeCells]
  have md4 : (madeCells #[Value.int .i32 0] (m + 1))[0]? = some (.int .i32 0) := by simp [madeCells]
  go_enter Yba.func13, Yba.ntmps13
  go_upto_if 24 with fail
  go_cut [8] (fun s8 wc => s8 = .int .i64 (m : Int) ∧ w = wc)
  case first =>
    clear mk1 mk2 mk3 mk4 md1 md4 hpc hP hpa
    rcases hm with ⟨rfl, hp⟩ | ⟨rfl, rfl⟩
    · go_wp2
      go_meet
      case rel => exact ⟨rfl, rfl⟩
    · go_wp2
      go_meet
      case rel => exact ⟨rfl, rfl⟩
  case rest =>
    obtain ⟨rfl, rfl⟩ := hcut
    clear hm
    have HP0 : Hid (∀ o, o = Obj.cells ((madeCells #[.int .i64 0] (m + 1)).setIfInBounds 0 (.int .i64 own)) 2 → (w.alloc o).rowIs w.heap.size 2 (m + 1) (fun i => .int .i64 (priceAt own 0 P i))) := fun o e => by rw [e]; exact price_start w own m P
    have HPA : Hid (0 < np → pa = some ⟨pb, po, none⟩) := hpa
    clear hpa
    go_wp2
    go_loopw [34] (fun i wr => ∃ j : Nat, j ≤ np ∧ i = .int .i64 j ∧ wr.rowIs w.heap.size 2 (m + 1) (fun i => .int .i64 (priceAt own j P i)) ∧ Below w.heap.size w wr ∧ wr.heap.size = w.heap.size + 1)
      (fun i _ => np - (intOf i).toNat)
    case atStart => exact ⟨0, Nat.zero_le _, rfl, HP0.out _ rfl, (Below.refl _ _).alloc (Nat.le_refl _) _, by simp⟩
    case round =>
      obtain ⟨j, hj, rfl, hrow, hbel, hsz⟩ := hrel
      by_cases hlt : j < np
      · obtain rfl : pa = some ⟨pb, po, none⟩ := HPA.out (by omega)
        have hcx : wr.cell? ⟨pb, po + j, none⟩ = some (.int .i32 (P j)) := (hbel.cell (by exact hpb (by omega))).trans (hpc j hlt)
        have hPj := hP j
        obtain ⟨p1, p2⟩ := hPj
        have e1 := hrow.cell (i := j + 1) (by omega)
        have f1 := hrow.frozen (j + 1)
        have HR : Hid (∀ v, v = P j → (wr.setCell ⟨w.heap.size, j + 1, none⟩ (.int .i64 v)).rowIs w.heap.size 2 (m + 1) (fun i => .int .i64 (priceAt own (j + 1) P i))) := fun v e => by rw [e]; exact price_step hrow
        have HS : Hid (wr.heap.size = w.heap.size + 1) := hsz
        clear hrow hsz mk1 mk2 mk3 mk4 md1 md4 HPA HP0
        go_wp2
        go_roundw
        case rel => exact ⟨j + 1, by omega, by go_num, HR.out _ rfl, hbel.setCell (by simp) _, by simp [HS.out]⟩
        case measure => simp [intOf]; omega
      · have ej : np = j := by omega
        subst ej
        clear HP0 HPA
        go_wp2
        go_loopw [55] (fun i wq => ∃ j : Nat, j ≤ k ∧ i = .int .i64 j ∧ SlotRows wq w.heap.size k m A j ∧ wq.rowIs w.heap.size 2 (m + 1) (fun i => .int .i64 (priceAt own np P i)) ∧ Below w.heap.size w wq ∧ wq.heap.size = w.heap.size + 3 + j)
          (fun i _ => k - (intOf i).toNat)
        case atStart => exact ⟨0, Nat.zero_le _, rfl, start2 wr w.heap.size k m A hsz, (hrow.alloc _).alloc _, (hbel.alloc (by omega) _).alloc (by simp [hsz]; omega) _, by simp [hsz]⟩
        case round =>
          obtain ⟨i, hi, rfl, hsl, hrow2, hbel2, hsz2⟩ := hrel
          by_cases hlt2 : i < k
          · obtain rfl : aa = some ⟨ab, ao, none⟩ := HAA.out (by omega)
            have x0 : wr.cell? ⟨ab, ao + i * 4, none⟩ = _ := (hbel2.cell (by exact hab (by omega))).trans (hac.h i hlt2)
            have x1 : wr.cell? ⟨ab, ao + i * 4 + 1, none⟩ = _ := (hbel2.cell (by exact hab (by omega))).trans (hac.r i hlt2)
            have x2 : wr.cell? ⟨ab, ao + i * 4 + 2, none⟩ = _ := (hbel2.cell (by exact hab (by omega))).trans (hac.s i hlt2)
            have x3 : wr.cell? ⟨ab, ao + i * 4 + 3, none⟩ = _ := (hbel2.cell (by exact hab (by omega))).trans (hac.c i hlt2)
            obtain ⟨y0, y0'⟩ := hA.h i
            obtain ⟨y1, y1'⟩ := hA.r i
            obtain ⟨y2, y2'⟩ := hA.s i
            obtain ⟨y3, y3'⟩ := hA.c i
            have z0 := Int.emod_nonneg (A.h i) (show (m : Int) ≠ 0 by omega)
            have z1 := Int.emod_lt_of_pos (A.h i) (show (0 : Int) < (m : Int) by omega)
            obtain ⟨⟨f, hf, hfq⟩, ⟨g, hg, hgq⟩⟩ := hsl
            have s0 := hf.cell (i := i * 4) (by omega)
            have s1 := hf.cell (i := i * 4 + 1) (by omega)
            have s2 := hf.cell (i := i * 4 + 2) (by omega)
            have s3 := hf.cell (i := i * 4 + 3) (by omega)
            have s4 := hf.cell (i := (k + i) * 4) (by omega)
            have s5 := hf.cell (i := (k + i) * 4 + 1) (by omega)
            have s6 := hf.cell (i := (k + i) * 4 + 2) (by omega)
            have s7 := hf.cell (i := (k + i) * 4 + 3) (by omega)
            have g0 := hg.cell (i := i) (by omega)
            have r0 := fun c => hf.frozen c
            have r1 := fun c => hg.frozen c
            have HF : Hid (wr.rowIs (w.heap.size + 1) 58 (2 * k * 4) f) := hf
            have HG : Hid (wr.rowIs (w.heap.size + 1 + 1) 3 k g) := hg
            have HFQ : Hid _ := hfq
            have HGQ : Hid _ := hgq
            have HRW : Hid _ := hrow2
            have l1 : w.heap.size + 1 < wr.heap.size := by omega
            have l2 : w.heap.size + 1 + 1 < wr.heap.size := by omega
            have HS2 : Hid _ := hsz2
            clear mk1 mk2 mk3 mk4 md1 md4 HAA hrow hsz hf hg hfq hgq hrow2 hsz2
            go_wp2
            go_roundw
            case rel =>
              obtain ⟨R1, R2, R3, R4⟩ := round_step (x4 := .int .i32 0) (x5 := .int .i32 i) (x7 := .int .i32 (wrap32 (-A.c i))) (o := .cells #[.int .u16 (A.h i), .int .i32 (A.r i), .int .i32 (A.s i), .int .i32 (A.c i)] 44) ⟨⟨f, HF.out, HFQ.out⟩, ⟨g, HG.out, HGQ.out⟩⟩ HRW.out hbel2 HS2.out hlt2
              exact ⟨i + 1, by omega, by go_num, R1, R2, R3, R4⟩
            case measure => simp [intOf]; omega
          · have ei : k = i := by omega
            subst ei
            clear mk1 mk2 mk3 hrow hsz
            have HS2 : Hid _ := hsz2
            clear hsz2
            have HN : Hid (∀ c : Array Value, c[1]? = some (.slice (some ⟨wr.heap.size, 0, none⟩) (m + 1) (m + 1)) → c[2]? = some (.slice (some ⟨wr.heap.size + 1, 0, none⟩) (m + 1) (m + 1)) → c[4]? = some (.slice (some ⟨w.heap.size + 1, 0, none⟩) (2 * k) (2 * k)) → c[10]? = some (.slice (some ⟨w.heap.size, 0, none⟩) (m + 1) (m + 1)) →
                BNet (((wr.alloc (.cells (madeCells #[.int .i32 0] (m + 1)) 21)).alloc (.cells ((madeCells #[.int .i32 0] (m + 1)).setIfInBounds 0 (.int .i32 k)) 21)).alloc (.cells c 49)) w.heap.size wr.heap.size np m k own P A) := fun c c1 c2 c4 c10 => bnet_of hsl hrow2 c c1 c2 c4 c10
            clear hsl hrow2
            go_wp2
            go_ret2
            exact ⟨wr.heap.size, by have := HS2.out; omega, rfl, HN.out _ rfl rfl rfl rfl, ((hbel2.alloc (by have := HS2.out; omega) _).alloc (by have := HS2.out; simp only [Deep.nblk_alloc]; omega) _).alloc (by have := HS2.out; simp only [Deep.nblk_alloc]; omega) _⟩
end Go.Proofs.Ybulkaage
