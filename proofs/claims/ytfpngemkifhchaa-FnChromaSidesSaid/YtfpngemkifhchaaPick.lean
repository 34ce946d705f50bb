/-
  The walk over spec.pick: it returns a number from 0 to n-1, for every code, moves the reader on by one, and writes nothing else.
-/
import Derived.Test.YtfpngemkifhchaaRows
import Derived.WalkKit
import Derived.WalkSpells
import Derived.WalkLawsBesides
import Derived.Deep.QuietTactic
import Derived.BigQuiet
import Derived.Deep.RegionHeld
import Derived.Lib.Hide
namespace Go.Proofs.Ytfpngemkifhchaa
open Go.RowKit

theorem results_tmp4 {fn : Func} {t u v x : Tmp} (h : fn.results = #[.tmp t, .tmp u, .tmp v, .tmp x]) (tmps : Array Value) (P : Program) (w : World) :
    (results fn tmps).run P w = .ok (.tuple #[tmps.getD t undef, tmps.getD u undef, tmps.getD v undef, tmps.getD x undef]) w := by
  simp [results, h]

theorem results_tmp5 {fn : Func} {t u v x y : Tmp} (h : fn.results = #[.tmp t, .tmp u, .tmp v, .tmp x, .tmp y]) (tmps : Array Value) (P : Program) (w : World) :
    (results fn tmps).run P w = .ok (.tuple #[tmps.getD t undef, tmps.getD u undef, tmps.getD v undef, tmps.getD x undef, tmps.getD y undef]) w := by
  simp [results, h]

theorem wf8 {a : Int} (h : (Lit.int .u8 a).wf = true) : 0 ≤ a ∧ a ≤ 255 := by
  simp [Lit.wf, IntKind.min, IntKind.max, IntKind.signed, IntKind.bits] at h
  omega
theorem wf16 {a : Int} (h : (Lit.int .u16 a).wf = true) : 0 ≤ a ∧ a ≤ 65535 := by
  simp [Lit.wf, IntKind.min, IntKind.max, IntKind.signed, IntKind.bits] at h
  omega

/-- What a walk is told of a slice of integers that came in: it is nil, or it leads to a row of cells with the numbers zs, each fitting its kind. -/
def IsRow (k : IntKind) (w : World) (a : Option Addr) (len cap : Nat) (zs : List Int) : Prop :=
  (a = none ∧ len = 0 ∧ cap = 0 ∧ zs = []) ∨
  ∃ x, a = some x ∧ len ≤ cap ∧ cap ≤ maxLen ∧ zs.length = cap ∧ (∀ i, i < zs.length → w.cell? (x.add i) = some (.int k (zs.getD i 0))) ∧ ∀ n ∈ zs, (Lit.int k n).wf = true

/-- The same, opened: each element's cell and its bounds. -/
theorem IsRow.open8 {w : World} {a : Option Addr} {len cap : Nat} {zs : List Int} (h : IsRow .u8 w a len cap zs) :
    (len = 0 ∧ len ≤ cap) ∨ ∃ b off, a = some ⟨b, off, none⟩ ∧ 0 < len ∧ len ≤ cap ∧ len ≤ 9223372036854775807 ∧ b < w.heap.size ∧ ∀ i, i < len → ∃ v : Int, w.cell? ⟨b, off + i, none⟩ = some (.int .u8 v) ∧ 0 ≤ v ∧ v ≤ 255 := by
  rcases h with ⟨rfl, rfl, rfl, rfl⟩ | ⟨x, rfl, hl, hm, hz, hcell, hwz⟩
  · exact .inl ⟨rfl, Nat.le_refl _⟩
  · by_cases h0 : len = 0
    · exact .inl ⟨h0, by omega⟩
    · obtain ⟨b, off, spot⟩ := x
      have hc := hcell 0 (by omega)
      have hspot : spot = none := by simpa [Addr.add] using World.cell?_spot hc
      subst hspot
      unfold maxLen at hm
      refine .inr ⟨b, off, rfl, by omega, hl, by omega, block_lt_of_cell (a := ⟨b, off + 0, none⟩) (by simpa [Addr.add] using hc), fun i hi => ?_⟩
      have hmem : zs.getD i 0 ∈ zs := by
        rw [List.getD_eq_getElem?_getD, List.getElem?_eq_getElem (by omega)]; exact List.getElem_mem _
      have hwf := hwz _ hmem
      have hci := hcell i (by omega)
      generalize zs.getD i 0 = v at hwf hci
      refine ⟨v, ?_, ?_⟩
      · by_cases hi0 : i = 0
        · subst hi0; simpa [Addr.add] using hci
        · simpa [Addr.add, hi0] using hci
      · simp [Lit.wf, IntKind.min, IntKind.max, IntKind.signed, IntKind.bits] at hwf
        omega

/-- While values are drawn: nothing below the reader's block has turned, and the reader holds the code and its place. -/
structure Drawing (w0 : World) (a : Option Addr) (len cap : Nat) (p : Int) (w : World) : Prop where
  below : Below w0.heap.size w0 w
  code : w.cell? ⟨w0.heap.size, 0, none⟩ = some (.slice a len cap)
  place : w.cell? ⟨w0.heap.size, 1, none⟩ = some (.int .i64 p)
  free : w.frozen? ⟨w0.heap.size, 1, none⟩ = false

def Picked (w0 w : World) (a : Option Addr) (len cap : Nat) (p : Int) (n : Int) (e : Ending) (w' : World) : Prop :=
  ∃ x : Int, 0 ≤ x ∧ x < n ∧ e = .returned (.int .i64 x) ∧ Drawing w0 a len cap (p + 1) w' ∧ ∀ b o, b ≠ w0.heap.size → w'.cell? ⟨b, o, none⟩ = w.cell? ⟨b, o, none⟩

theorem xor_nat (a b : Nat) (ha : a < 9223372036854775808) (hb : b < 9223372036854775808) : 0 ≤ bits .xor .i64 (a : Int) (b : Int) := by
  have hx : a ^^^ b < 2 ^ 63 := Nat.xor_lt_two_pow (by omega) (by omega)
  have e1 : a % 2 ^ IntKind.i64.bits = a := Nat.mod_eq_of_lt (by simp only [IntKind.bits]; omega)
  have e2 : b % 2 ^ IntKind.i64.bits = b := Nat.mod_eq_of_lt (by simp only [IntKind.bits]; omega)
  simp only [bits, BitVec.ofInt_natCast, BitVec.toNat_xor, BitVec.toNat_ofNat, e1, e2]
  rw [IntKind.wrap_i64]
  omega

theorem xor_pos (x y : Int) (h0 : 0 ≤ x) (h1 : x < 9223372036854775808) (k0 : 0 ≤ y) (k1 : y < 9223372036854775808) : 0 ≤ bits .xor .i64 x y := by
  have := xor_nat x.toNat y.toNat (by omega) (by omega)
  rwa [Int.toNat_of_nonneg h0, Int.toNat_of_nonneg k0] at this

theorem Drawing.set {w0 w : World} {a : Option Addr} {len cap : Nat} {p : Int} (h : Drawing w0 a len cap p w) (q : Int) : Drawing w0 a len cap q (w.setCell ⟨w0.heap.size, 1, none⟩ (.int .i64 q)) := by
  refine ⟨h.below.setCell (Nat.le_refl _) _, ?_, World.cell?_setCell_same _ _ _ h.place, ?_⟩
  · rw [World.cell?_setCell_other _ _ _ _ (by simp)]; exact h.code
  · simpa using h.free

theorem Drawing.drewN {w0 w : World} {a : Option Addr} {len cap : Nat} {p : Int} (h : Drawing w0 a len cap p w) (n : Nat) : Drawing w0 a len cap p (w.drewN n) :=
  ⟨below_drewN h.below n, by simpa using h.code, by simpa using h.place, by simpa using h.free⟩

set_option maxHeartbeats 400000 in
theorem pick_none (w0 w : World) (a : Option Addr) (cap : Nat) (p n : Int) (hd : Drawing w0 a 0 cap p w) (p0 : 0 ≤ p) (p1 : p ≤ 1000) (n0 : 1 ≤ n) (_n1 : n ≤ 1000) :
    Calls Try.prog 39 #[.pointer (some ⟨w0.heap.size, 0, none⟩), .int .i64 n] w (Picked w0 w a 0 cap p n) := by
  have hd' := Lib.hid (hd.set (p + 1))
  obtain ⟨hb, h0, h1, hf⟩ := hd
  go_enter Try.func39, Try.ntmps39
  go_wp2
  go_ret
  exact ⟨0, by omega, by omega, rfl, hd'.out, fun b o hbo => World.cell?_setCell_far w ⟨w0.heap.size, 1, none⟩ ⟨b, o, none⟩ _ (Ne.symm hbo)⟩

set_option maxHeartbeats 400000 in
theorem pick_early (w0 w : World) (b off len cap : Nat) (p : Nat) (v n : Int) (hd : Drawing w0 (some ⟨b, off, none⟩) len cap p w) (hb : b < w0.heap.size) (hl : p < len) (_hm : len ≤ 9223372036854775807)
    (hc : w0.cell? ⟨b, off + p, none⟩ = some (.int .u8 v)) (v0 : 0 ≤ v) (v1 : v ≤ 255) (p1 : p ≤ 1000) (n0 : 1 ≤ n) (_n1 : n ≤ 1000) :
    Calls Try.prog 39 #[.pointer (some ⟨w0.heap.size, 0, none⟩), .int .i64 n] w (Picked w0 w (some ⟨b, off, none⟩) len cap p n) := by
  have hd' := Lib.hid (hd.set (p + 1))
  obtain ⟨hbel, h0, h1, hf⟩ := hd
  have hc1 : w.cell? ⟨b, off + p, none⟩ = some (.int .u8 v) := by rw [hbel.cell (p := ⟨b, off + p, none⟩) hb]; exact hc
  have hne : w0.heap.size ≠ b := by omega
  have hl0 : ((len : Int) == 0) = false := by simp; omega
  have hlt : (p : Int) < (len : Int) := by omega
  clear hbel hc
  go_enter Try.func39, Try.ntmps39
  go_wp2
  go_ret
  exact ⟨v % n, Int.emod_nonneg _ (by omega), Int.emod_lt_of_pos _ (by omega), rfl, hd'.out, fun b o hbo => World.cell?_setCell_far w ⟨w0.heap.size, 1, none⟩ ⟨b, o, none⟩ _ (Ne.symm hbo)⟩

set_option maxHeartbeats 400000 in
theorem pick_late (w0 w : World) (b off len cap : Nat) (p k1 k2 : Nat) (v u n : Int) (hd : Drawing w0 (some ⟨b, off, none⟩) len cap p w) (hb : b < w0.heap.size) (h1l : 0 < len) (hl : len ≤ p)
    (e1 : p % len = k1) (e2 : (p * 7 + 3) % len = k2)
    (hc : w0.cell? ⟨b, off + k1, none⟩ = some (.int .u8 v)) (v0 : 0 ≤ v) (v1 : v ≤ 255) (hc' : w0.cell? ⟨b, off + k2, none⟩ = some (.int .u8 u)) (u0 : 0 ≤ u) (u1 : u ≤ 255)
    (p1 : p ≤ 1000) (n0 : 1 ≤ n) (_n1 : n ≤ 1000) :
    Calls Try.prog 39 #[.pointer (some ⟨w0.heap.size, 0, none⟩), .int .i64 n] w (Picked w0 w (some ⟨b, off, none⟩) len cap p n) := by
  have hd' := Lib.hid (hd.set (p + 1))
  obtain ⟨hbel, h0, h1, hf⟩ := hd
  have hc1 : w.cell? ⟨b, off + k1, none⟩ = some (.int .u8 v) := by rw [hbel.cell (p := ⟨b, off + k1, none⟩) hb]; exact hc
  have hc2 : w.cell? ⟨b, off + k2, none⟩ = some (.int .u8 u) := by rw [hbel.cell (p := ⟨b, off + k2, none⟩) hb]; exact hc'
  have hne : w0.heap.size ≠ b := by omega
  have hl0 : ((len : Int) == 0) = false := by simp; omega
  have hlt : (len : Int) ≤ (p : Int) := by omega
  have hl1 : (1 : Int) ≤ (len : Int) := by omega
  have b1 : (k1 : Int) < (len : Int) := by have := Nat.mod_lt p h1l; omega
  have b2 : (k2 : Int) < (len : Int) := by have := Nat.mod_lt (p * 7 + 3) h1l; omega
  have q0 : 0 ≤ (p : Int).tdiv (len : Int) := Int.tdiv_nonneg (by omega) (by omega)
  have q1 : (p : Int).tdiv (len : Int) ≤ 1000 := by
    have h := Nat.div_le_self p len
    have e : (p : Int).tdiv (len : Int) = ((p / len : Nat) : Int) := rfl
    omega
  have t1 : (p : Int).tmod (len : Int) = (k1 : Int) := by rw [← e1]; rfl
  have t2 : ((p : Int) * 7 + 3).tmod (len : Int) = (k2 : Int) := by rw [← e2]; rfl
  generalize hq : (p : Int).tdiv (len : Int) = q at q0 q1
  have z1 : ¬ (len = 0) := by omega
  have z2 : ¬ ((len : Int) = 0) := by omega
  have c1 : IntKind.i64.wrap ((p : Int) * 7) = (p : Int) * 7 := IntWalk.i64_in _ (by omega)
  have c2 : IntKind.i64.wrap ((p : Int) * 7 + 3) = (p : Int) * 7 + 3 := IntWalk.i64_in _ (by omega)
  have c3 : IntKind.i64.wrap (v * 131) = v * 131 := IntWalk.i64_in _ (by omega)
  have c4 : IntKind.i64.wrap (u * 1117) = u * 1117 := IntWalk.i64_in _ (by omega)
  have c5 : IntKind.i64.wrap (v * 131 + u * 1117) = v * 131 + u * 1117 := IntWalk.i64_in _ (by omega)
  have c6 : IntKind.i64.wrap ((p : Int) * 29) = (p : Int) * 29 := IntWalk.i64_in _ (by omega)
  have c7 : IntKind.i64.wrap (v * 131 + u * 1117 + (p : Int) * 29) = v * 131 + u * 1117 + (p : Int) * 29 := IntWalk.i64_in _ (by omega)
  have c8 : IntKind.i64.wrap q = q := IntWalk.i64_in _ (by omega)
  have c9 : IntKind.i64.wrap (q * 53) = q * 53 := IntWalk.i64_in _ (by omega)
  have c10 : IntKind.i64.wrap (v * 131 + u * 1117 + (p : Int) * 29 + q * 53) = v * 131 + u * 1117 + (p : Int) * 29 + q * 53 := IntWalk.i64_in _ (by omega)
  have n1' : 0 ≤ (k1 : Int) := by omega
  have n2' : 0 ≤ (k2 : Int) := by omega
  have E := Lib.hid e1
  have E' := Lib.hid e2
  clear hbel hc hc' e1 e2
  go_enter Try.func39, Try.ntmps39
  go_wp2
  go_quiet (fail)
  clear c1 c2 c3 c4 c5 c6 c7 c8 c9 c10 t1 t2 hq
  go_wp2
  go_ret
  have hx := xor_pos (v * 131 + u * 1117 + (p : Int) * 29 + q * 53) ((v * 131 + u * 1117 + (p : Int) * 29 + q * 53) / 64) (by omega) (by omega) (by omega) (by omega)
  exact ⟨_, Int.tmod_nonneg _ hx, Int.tmod_lt_of_pos _ (by omega), rfl, hd'.out.drewN _, fun b o hbo => by simpa using World.cell?_setCell_far w ⟨w0.heap.size, 1, none⟩ ⟨b, o, none⟩ _ (Ne.symm hbo)⟩

/-- pick returns a number from 0 to n-1, and the reader has gone on by one. -/
theorem pick_any (w0 w : World) (a : Option Addr) (len cap : Nat) (zs : List Int) (p : Nat) (n : Int) (hr : IsRow .u8 w0 a len cap zs) (hd : Drawing w0 a len cap p w) (p1 : p ≤ 1000) (n0 : 1 ≤ n) (n1 : n ≤ 1000) :
    Calls Try.prog 39 #[.pointer (some ⟨w0.heap.size, 0, none⟩), .int .i64 n] w (Picked w0 w a len cap p n) := by
  rcases hr.open8 with ⟨h0, _⟩ | ⟨b, off, rfl, h0, _, hm, hb, hc⟩
  · subst h0
    exact pick_none w0 w a cap p n hd (by omega) (by omega) n0 n1
  · by_cases hl : p < len
    · obtain ⟨v, hv, v0, v1⟩ := hc p hl
      exact pick_early w0 w b off len cap p v n hd hb hl hm hv v0 v1 p1 n0 n1
    · obtain ⟨v, hv, v0, v1⟩ := hc (p % len) (Nat.mod_lt _ h0)
      obtain ⟨u, hu, u0, u1⟩ := hc ((p * 7 + 3) % len) (Nat.mod_lt _ h0)
      exact pick_late w0 w b off len cap p _ _ v u n hd hb h0 (by omega) rfl rfl hv v0 v1 hu u0 u1 p1 n0 n1

theorem Drawing.alloc {w0 w : World} {a : Option Addr} {len cap : Nat} {p : Int} (h : Drawing w0 a len cap p w) (o : Obj) : Drawing w0 a len cap p (w.alloc o) := by
  have hlt : w0.heap.size < w.heap.size := block_lt_of_cell (a := ⟨w0.heap.size, 1, none⟩) h.place
  refine ⟨h.below.alloc (by omega) o, ?_, ?_, ?_⟩
  · rw [World.cell?_alloc_lt _ _ _ hlt]; exact h.code
  · rw [World.cell?_alloc_lt _ _ _ hlt]; exact h.place
  · have := h.free
    rw [World.frozen?_of_block (w := w) (Below.heap_alloc _ _ _ hlt)]; exact this

end Go.Proofs.Ytfpngemkifhchaa
