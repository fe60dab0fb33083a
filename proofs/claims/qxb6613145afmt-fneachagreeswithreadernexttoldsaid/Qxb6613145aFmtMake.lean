import Derived.Test.Qxb6613145aFmtAt
namespace Go.Proofs.Qxb6613145aFmt
open Go.RowKit

theorem Blk.alloc_at (w : World) (b : Nat) (cs : Array Value) (ty : TypeId) (hn : w.heap.size = b) : Blk (w.alloc (.cells cs ty)) b cs ty := hn ▸ Blk.alloc_new w cs ty

set_option maxHeartbeats 400000 in
theorem newStr_calls (s : ByteArray) (w : World) : Calls Tryf.prog 24 #[.string s] w fun e w' => e = .returned (.pointer (some ⟨w.heap.size, 0, none⟩)) ∧ w' = w.alloc (.cells #[.string s, .int .i64 0, .int .i64 (-1)] 60) := by
  go_enter Tryf.func24, Tryf.ntmps24
  go_wp2
  go_ret
  exact ⟨rfl, rfl⟩
set_option maxHeartbeats 400000 in
theorem newErr_calls (s : ByteArray) (w : World) : Calls Tryf.prog 22 #[.string s] w fun e w' => e = .returned (.iface 54 (.pointer (some ⟨w.heap.size, 0, none⟩))) ∧ w' = w.alloc (.cells #[.string s] 56) := by
  go_enter Tryf.func22, Tryf.ntmps22
  go_wp2
  go_ret
  exact ⟨rfl, rfl⟩
set_option maxHeartbeats 400000 in
theorem stopErr_calls (w : World) : Calls Tryf.prog 13 #[] w fun e w' => e = .returned (.iface 54 (.pointer (some ⟨w.heap.size, 0, none⟩))) ∧ w' = w.alloc (.cells #[.string ⟨#[115, 116, 111, 112]⟩] 56) := by
  go_enter Tryf.func13, Tryf.ntmps13
  go_wp2
  go_ret
  exact ⟨rfl, rfl⟩
set_option maxHeartbeats 400000 in
theorem newScanner_calls (v : Value) (sr : Nat) (hv : v = rdV sr) (w : World) : Calls Tryf.prog 32 #[v] w fun e w' => e = .returned (.pointer (some ⟨w.heap.size, 0, none⟩)) ∧
    w' = w.alloc (.cells #[v, .func (.func 39) #[] #[], .int .i64 65536, .slice none 0 0, .slice none 0 0, .int .i64 0, .int .i64 0, .nilIface, .int .i64 0, .bool false, .bool false] 67) := by
  subst hv
  unfold rdV
  go_enter Tryf.func32, Tryf.ntmps32
  go_wp2
  go_ret
  exact ⟨rfl, rfl⟩
set_option maxHeartbeats 400000 in
theorem bytesOK_calls (s : ByteArray) (k : Int) (w : World) (hs : s.size ≤ 1048576) : Calls Tryf.prog 12 #[.string s, .int .i64 k] w fun e w' => e = .returned (.bool true) ∧ w' = w := by
  go_enter Tryf.func12, Tryf.ntmps12
  go_wp2
  go_ret
  exact ⟨rfl, rfl⟩
set_option maxHeartbeats 400000 in
theorem bytesNo_calls (s : ByteArray) (k : Int) (w : World) (hs : 1048576 < s.size) : Calls Tryf.prog 12 #[.string s, .int .i64 k] w fun e w' => e = .returned (.bool false) ∧ w' = w := by
  go_enter Tryf.func12, Tryf.ntmps12
  go_wp2
  go_ret
  exact ⟨rfl, rfl⟩
set_option maxHeartbeats 400000 in
theorem buffer_calls {w : World} {sc : Nat} {rd : Value} (hB : Blk w sc #[rd, .func (.func 39) #[] #[], .int .i64 65536, .slice none 0 0, .slice none 0 0, .int .i64 0, .int .i64 0, .nilIface, .int .i64 0, .bool false, .bool false] 67) :
   Calls Tryf.prog 33 #[.pointer (some ⟨sc, 0, none⟩), .slice none 0 0, .int .i64 1048576] w fun e w' => e = .returned (.tuple #[]) ∧ w' = (w.setCell ⟨sc, 4, none⟩ (.slice none 0 0)).setCell ⟨sc, 2, none⟩ (.int .i64 1048576) := by
  have h9 := hB.cell 9
  have h4 := hB.cell 4
  have h2 := hB.cell 2
  have f4 := hB.frozen 4
  have f2 := hB.frozen 2
  simp at h9 h4 h2
  go_enter Tryf.func33, Tryf.ntmps33
  go_wp2
  go_end0
  exact ⟨rfl, rfl⟩

set_option maxHeartbeats 400000 in
theorem at_calls (n : Int) (a : Addr) (s : ByteArray) (w : World) (hs : w.cell? a = some (.string s)) (hlt : a.block < w.heap.size) :
    Calls Tryf.prog 29 #[.int .i64 n, .iface 54 (.pointer (some a))] w fun e w' => (∃ b, e = .returned (.iface 78 (.pointer (some b)))) ∧ Keep (fun _ => False) w w' := by
  have hs' : ∀ o, (w.alloc o).cell? a = some (.string s) := fun o => (World.cell?_alloc_lt (w := w) (o := o) (h := hlt)).trans hs
  go_enter Tryf.func29, Tryf.ntmps29
  go_wp2_with (go_at_call 30; refine (errorf_calls n a s _ _ (by rw [World.cell?_alloc_at (hn := by simp)]; rfl) (by rw [World.cell?_alloc_at (hn := by simp)]; rfl) (hs' _)).mono ?_; rintro e w' ⟨rfl, o, rfl⟩)
  go_ret
  exact ⟨⟨_, rfl⟩, (((Keep.refl _ w).alloc _).alloc _).drew⟩

set_option maxHeartbeats 400000 in
theorem newReader_calls (sr : Nat) (w : World) : Calls Tryf.prog 25 #[rdV sr] w fun e w' => e = .returned (.pointer (some ⟨w.heap.size + 1, 0, none⟩)) ∧
    Blk w' w.heap.size (scC (rdV sr) (.slice none 0 0) (bufV none 0) 0 0 .nilIface false) 67 ∧ Blk w' (w.heap.size + 1) (lrC w.heap.size 0) 48 ∧ Keep (fun _ => False) w w' := by
  unfold rdV
  have hK := fun w' => newScanner_calls (.iface 43 (.pointer (some ⟨sr, 0, none⟩))) sr rfl w'
  go_enter Tryf.func25, Tryf.ntmps25
  go_wp2_with (first
    | (go_at_call 32; refine (hK _).mono ?_; rintro e w' ⟨rfl, rfl⟩)
    | (go_at_call 33; refine (buffer_calls (Blk.alloc_new _ _ _)).mono ?_; rintro e w' ⟨rfl, rfl⟩))
  go_ret
  exact ⟨rfl, (Blk.alloc_new _ _ _).alloc _, Blk.alloc_at _ _ _ _ (by simp), ((Keep.refl _ w).alloc _).alloc _⟩

/-- A new reader of s. -/
theorem Rd.init {w : World} {lr sc sr : Nat} {ea ta : Addr} {s : ByteArray} (hS : Blk w sr (srC s 0 (-1)) 60) (hB : Blk w sc (scC (rdV sr) (.slice none 0 0) (bufV none 0) 0 0 .nilIface false) 67) (hR : Blk w lr (lrC sc 0) 48)
    (hG : w.cell? ⟨4, 0, none⟩ = some (.iface 54 (.pointer (some ea)))) (hT : w.cell? ⟨0, 0, none⟩ = some (.iface 54 (.pointer (some ta)))) (hsz : s.size ≤ 65536) (h1 : 7 ≤ sc) (h2 : 7 ≤ sr) (h3 : 7 ≤ lr) : Rd w lr sc sr ea ta s s.data.toList none 0 :=
  { hR := hR, hT := hT, lo := h3,
    st := ⟨0, [], 0, 0, 0, -1, .nilIface, .slice none 0 0, false,
      { hB := hB, hR := hS, hF := fun _ h => (by cases h), hN := fun _ => rfl, hlen := rfl, hse := Nat.le_refl _, hen := Nat.le_refl _, hL := by omega, hpos := fun h => absurd rfl h, hi := Nat.zero_le _, hbuf := Nat.le_refl _,
        hrest := by simp, herr := .inl rfl, hG := hG, hsz := hsz, lo := ⟨h1, h2, fun _ h => (by cases h)⟩ }⟩ }
end Go.Proofs.Qxb6613145aFmt
