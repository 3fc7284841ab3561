import Derived.Test.Qxb6616246aA
import Derived.Lib.SlBytesRowKit2
import Derived.Lib.SlBytesConst
import Derived.RegionTactic
import Derived.ChangeAlike
namespace Go.Proofs.Qxb6616246a
open Go.RowKit

def nums (l : List UInt8) : List Int := l.map fun c => (c.toNat : Int)
theorem bytesOf_nums (l : List UInt8) : Lib.bytesOf (nums l) = l := by
  unfold Lib.bytesOf nums; induction l with
  | nil => rfl
  | cons c r ih => simp only [List.map_cons] at ih ⊢; rw [ih]; congr 1; simp
theorem nums_len (l : List UInt8) : (nums l).length = l.length := by simp [nums]

def blk : List UInt8 := [32, 66, 76, 79, 67, 75]
def pky : List UInt8 := [80, 82, 73, 86, 65, 84, 69, 32, 75, 69, 89]
def spk : List UInt8 := [32, 80, 82, 73, 86, 65, 84, 69, 32, 75, 69, 89]
def named (t : List UInt8) : Bool := (t == pky) || Lib.hasSuffix t spk
def pk (l : List UInt8) : Bool := named (Lib.trimSuffix l blk)

def blkA : Array Value := #[.int .u8 32, .int .u8 66, .int .u8 76, .int .u8 79, .int .u8 67, .int .u8 75]
def spkA : Array Value := #[.int .u8 32, .int .u8 80, .int .u8 82, .int .u8 73, .int .u8 86, .int .u8 65, .int .u8 84, .int .u8 69, .int .u8 32, .int .u8 75, .int .u8 69, .int .u8 89]

theorem in_marked {w : World} {p : Option Addr} {n : Nat} {xs : List Int} (h : Lib.BytesIn w p n xs) (cs : Array Value) (t : TypeId) (m : Nat × Nat) :
    Lib.BytesIn (w.alloc (.cells cs t m)) p n xs := by
  intro hn
  obtain ⟨b, o, rfl, hc⟩ := h hn
  exact ⟨b, o, rfl, fun i hi => Lib.cell?_alloc_marked _ (hc i hi)⟩

theorem in_take {w : World} {p : Option Addr} {n m : Nat} {l : List UInt8} (h : Lib.BytesIn w p n (nums l)) (hm : m ≤ n) : Lib.BytesIn w p m (nums (l.take m)) := by
  intro h0
  obtain ⟨b, o, rfl, hc⟩ := h (by omega)
  refine ⟨b, o, rfl, fun i hi => ?_⟩
  rw [hc i (by omega)]
  simp only [nums, List.map_take, List.getD, List.getElem?_take]
  rw [if_pos hi]

theorem strOf_nums (l : List UInt8) : strOfNums (nums l) = ⟨l.toArray⟩ := by
  have := bytesOf_nums l
  unfold Lib.bytesOf at this
  unfold strOfNums; rw [this]

theorem lit_in (w : World) (l : List UInt8) (cs : Array Value) (hcs : cs = ((nums l).map (Value.int .u8)).toArray) (m : Nat × Nat) :
    Lib.BytesIn (w.alloc (.cells cs 5 m)) (some ⟨w.heap.size, 0, none⟩) l.length (nums l) := by
  intro h0
  refine ⟨w.heap.size, 0, rfl, fun i hi => ?_⟩
  rw [World.cell?_alloc_mark, hcs]
  have : i < (nums l).length := by rw [nums_len]; exact hi
  simp [List.getD, this]

set_option maxRecDepth 20000 in
set_option maxHeartbeats 1000000 in
theorem pk_core (p : Option Addr) (n m c : Nat) (l : List UInt8) (w : World) (hl : l.length = n) (hnc : n ≤ c) (hn : n ≤ 2000000) (hb : Lib.BytesIn w p n (nums l))
    (hm : m ≤ n) (htv : Lib.trimSuffixV p n c (nums l) (nums blk) = .slice p m c) :
    Calls Try.prog 25 #[.slice p n c] w fun e w' => e = .returned (.bool (named (l.take m))) ∧ Below w.heap.size w w' := by
  have kc := fun (w : World) (C : Array Value) (n c : Nat) => Lib.run_convert_bytes_const (P := Try.prog) w 35 5 C n c Try.underlying35 Try.underlying5
  have h1 := Try.bytes_TrimSuffix_all p (some ⟨w.heap.size, 0, none⟩) n c 6 6 (nums l) (nums blk) (w.alloc (.cells blkA 5 (6, 7))) (by rw [nums_len, hl]) rfl hnc (by omega)
    (in_marked hb _ _ _) (lit_in w blk _ rfl _)
  rw [htv] at h1
  have hb2 : ∀ cs t k, Lib.BytesIn (w.alloc (.cells cs t k)) p m (nums (l.take m)) := fun cs t k => in_take (in_marked hb cs t k) hm
  have hlm : (l.take m).length = m := by simp; omega
  have hcv : ∀ cs t k, (convert 35 9 (.slice p m c)).run Try.prog (w.alloc (.cells cs t k)) = .ok (.string ⟨(l.take m).toArray⟩) (w.alloc (.cells cs t k)) := fun cs t k => by
    rw [(hb2 cs t k).convert (by rw [nums_len, hlm]) c 35 5 9 Try.underlying35 Try.underlying5 Try.underlying9, strOf_nums]
  have hlit : Lib.BytesIn ((w.alloc (.cells blkA 5 (6, 7))).alloc (.cells spkA 5 (12, 13))) (some ⟨w.heap.size + 1, 0, none⟩) 12 (nums spk) := by
    have hsz : (w.alloc (.cells blkA 5 (6, 7))).heap.size = w.heap.size + 1 := by simp
    have this := lit_in (w.alloc (.cells blkA 5 (6, 7))) spk spkA rfl (12, 13)
    rw [hsz] at this
    exact this
  have h2 := Try.bytes_HasSuffix_all p (some ⟨w.heap.size + 1, 0, none⟩) m c 12 12 (nums (l.take m)) (nums spk) ((w.alloc (.cells blkA 5 (6, 7))).alloc (.cells spkA 5 (12, 13))) (by rw [nums_len, hlm]) rfl (by omega) (by omega)
    (in_marked (hb2 _ _ _) _ _ _) hlit
  rw [bytesOf_nums, bytesOf_nums] at h2
  clear hb hb2 hlit htv
  generalize l.take m = t at *
  clear kc
  have kc1 := Lib.run_convert_bytes_const (P := Try.prog) w 35 5 blkA 6 6 Try.underlying35 Try.underlying5
  have kc2 := Lib.run_convert_bytes_const (P := Try.prog) (w.alloc (.cells blkA 5 (6, 7))) 35 5 spkA 12 12 Try.underlying35 Try.underlying5
  rw [show (w.alloc (.cells blkA 5 (6, 7))).heap.size = w.heap.size + 1 by simp] at kc2
  simp only [blkA, spkA, List.size_toArray, List.length_cons, List.length_nil] at h1 h2 kc1 kc2
  by_cases ht : (t == [80, 82, 73, 86, 65, 84, 69, 32, 75, 69, 89]) = true
  · have hr : named t = true := by unfold named pky; rw [ht]; rfl
    rw [hr]
    go_enter Try.func25, Try.ntmps25
    go_wp2_with (first
      | (go_at_call 35; refine h1.mono ?_; rintro e w' ⟨rfl, rfl⟩)
      | (go_at_call 36; refine h2.mono ?_; rintro e w' ⟨rfl, rfl⟩))
    go_ret
    exact ⟨rfl, ((Below.refl _ w).alloc (Nat.le_refl _) _)⟩
  · have ht' : (t == [80, 82, 73, 86, 65, 84, 69, 32, 75, 69, 89]) = false := by simpa using ht
    have hr : named t = Lib.hasSuffix t spk := by unfold named pky; rw [ht']; rfl
    rw [hr]
    clear ht hr
    generalize Lib.hasSuffix t spk = r at h2 ⊢
    go_enter Try.func25, Try.ntmps25
    go_wp2_with (first
      | (go_at_call 35; refine h1.mono ?_; rintro e w' ⟨rfl, rfl⟩)
      | (go_at_call 36; refine h2.mono ?_; rintro e w' ⟨rfl, rfl⟩))
    go_ret
    exact ⟨rfl, ((Below.refl _ w).alloc (Nat.le_refl _) _).alloc (by simp) _⟩

theorem pk_any (p : Option Addr) (n c : Nat) (l : List UInt8) (w : World) (hl : l.length = n) (hnc : n ≤ c) (hn : n ≤ 2000000) (hb : Lib.BytesIn w p n (nums l)) :
    Calls Try.prog 25 #[.slice p n c] w fun e w' => e = .returned (.bool (pk l)) ∧ Below w.heap.size w w' := by
  have e := trimSuffixV_eq (c := c) (ys := nums blk) (by rw [nums_len, hl]) hb
  rw [bytesOf_nums, bytesOf_nums] at e
  by_cases h : Lib.hasSuffix l blk = true
  · rw [if_pos h] at e
    have := pk_core p n (n - (nums blk).length) c l w hl hnc hn hb (by omega) e
    have e2 : pk l = named (l.take (n - (nums blk).length)) := by
      unfold pk Lib.trimSuffix; rw [if_pos h, hl]; rfl
    rw [e2]; exact this
  · rw [if_neg h] at e
    have := pk_core p n n c l w hl hnc hn hb (by omega) e
    have e2 : pk l = named (l.take n) := by
      unfold pk Lib.trimSuffix; rw [if_neg h, List.take_of_length_le (by omega)]
    rw [e2]; exact this

set_option maxRecDepth 20000 in
set_option maxHeartbeats 1000000 in
theorem zpk_any (p : Option Addr) (n c : Nat) (l : List UInt8) (w : World) (hl : l.length = n) (hnc : n ≤ c) (hn : n ≤ 2000000) (hb : Lib.BytesIn w p n (nums l)) :
    Calls Try.prog 19 #[.slice p n c] w fun e w' => e = .returned (.bool (pk l)) ∧ Below w.heap.size w w' := by
  have h := pk_any p n c l w hl hnc hn hb
  generalize pk l = r at h ⊢
  go_enter Try.func19, Try.ntmps19
  go_wp2_with (go_at_call 25; refine h.mono ?_; rintro e w' ⟨rfl, hw⟩)
  go_ret
  exact ⟨rfl, hw⟩
end Go.Proofs.Qxb6616246a
