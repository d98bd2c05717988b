/-
  THE WALK of quoteTextB1 (function 23): a slice that the call makes with room for all, appended to, made into a string.
-/
import Derived.Test.Qxb6000606aWalkQuote
import Derived.Laws.IdiomStrings
namespace Go.Proofs.Qxb6000606a
open Go.RowKit

theorem info5 : (Try.prog.info? 5).map (fun i => (i.zero, i.size, i.bytes)) = some (some (.int .u8 0), 1, 1) := by kernel_rfl

namespace Pl
def cellsOf (l : List UInt8) : List Value := l.map fun c => .int .u8 (c.toNat : Int)

theorem cells_app (l m : List UInt8) : cellsOf (l ++ m) = cellsOf l ++ cellsOf m := by simp [cellsOf]

theorem one1 (a : Int) : ∀ u ∈ [Value.int .u8 a], u.oneCell' = true := by
  intro u hu
  simp only [List.mem_cons, List.not_mem_nil, or_false] at hu
  subst hu
  rfl
theorem one2 (a b : Int) : ∀ u ∈ [Value.int .u8 a, Value.int .u8 b], u.oneCell' = true := by
  intro u hu
  simp only [List.mem_cons, List.not_mem_nil, or_false] at hu
  rcases hu with rfl | rfl <;> rfl

theorem new_one (w : World) (x : Value) (t : TypeId) : ∀ j u, [x][j]? = some u → (w.alloc (.cells #[x] t)).cell? ((⟨w.heap.size, 0, none⟩ : Addr).add j) = some u := by
  intro j u hj
  match j, hj with
  | 0, hj => simp at hj; subst hj; simp [Addr.add]
  | j + 1, hj => simp at hj
theorem new_two (w : World) (x y : Value) (t : TypeId) : ∀ j u, [x, y][j]? = some u → (w.alloc (.cells #[x, y] t)).cell? ((⟨w.heap.size, 0, none⟩ : Addr).add j) = some u := by
  intro j u hj
  match j, hj with
  | 0, hj => simp at hj; subst hj; simp [Addr.add]
  | 1, hj => simp at hj; subst hj; simp [Addr.add]
  | j + 2, hj => simp at hj

/-- One append more: what is owned; nothing old has turned. -/
theorem rel_more {w wr w1 : World} {n m cap : Nat} {o : Obj} {xs news ys : List Value} (hbel : Below w.heap.size w wr)
    (hown : w1.ownsRow w.heap.size 5 1 (.slice (some ⟨w.heap.size, 0, none⟩) (n + m) cap) (n + m) (xs ++ news)) (hg : (wr.alloc o).grownBy w1 (some w.heap.size)) (hys : xs ++ news = ys) :
    w1.ownsRow w.heap.size 5 1 (.slice (some ⟨w.heap.size, 0, none⟩) (n + m) cap) (n + m) ys ∧ Below w.heap.size w w1 := by
  subst hys
  have hs := hbel.size
  exact ⟨hown, (hbel.alloc hs o).grown hg (by simp; omega) (fun k e => by simp only [Option.some.injEq] at e; omega)⟩

theorem conv_own {w1 : World} {B n cap : Nat} {l : List UInt8} (hown : w1.ownsRow B 5 1 (.slice (some ⟨B, 0, none⟩) n cap) n (cellsOf l)) :
    (convert 30 9 (.slice (some ⟨B, 0, none⟩) n cap)).run Try.prog w1 = .ok (.string ⟨l.toArray⟩) w1 := by
  have hn : n = l.length := by have := hown.1; simp [cellsOf] at this; omega
  subst hn
  refine run_convert_bytes_back w1 30 9 5 ⟨B, 0, none⟩ cap l Try.underlying30 Try.underlying5 Try.underlying9 ?_
  intro j hj
  have h := hown.cellAt j (by omega)
  have hadd : (⟨B, 0, none⟩ : Addr).add j = ⟨B, j, none⟩ := by unfold Addr.add; split <;> simp_all
  rw [hadd, h]
  simp [cellsOf, hj]

theorem take_snoc (s : ByteArray) (k : Nat) (h : k < s.size) : s.data.toList.take (k + 1) = s.data.toList.take k ++ [s[k]] := by
  rw [List.take_succ_eq_append_getElem (by simpa using h)]
  rfl

theorem cells_dbl (s : ByteArray) (q : UInt8) (bs : Bool) (k : Nat) (hk : k < s.size) (h : ((s[k].toNat : Int) == (q.toNat : Int)) = true) :
    cellsOf (q :: enc q bs (s.data.toList.take k)) ++ [Value.int .u8 (q.toNat : Int), Value.int .u8 (q.toNat : Int)] = cellsOf (q :: enc q bs (s.data.toList.take (k + 1))) := by
  rw [take_snoc s k hk, enc_snoc, ← List.cons_append, cells_app]
  unfold esc
  rw [if_pos (byte_eq h)]
  rfl
theorem cells_bs (s : ByteArray) (q : UInt8) (k : Nat) (hk : k < s.size) (h : ((s[k].toNat : Int) == (q.toNat : Int)) = false) (hb : ((s[k].toNat : Int) == 92) = true) :
    cellsOf (q :: enc q true (s.data.toList.take k)) ++ [Value.int .u8 92, Value.int .u8 92] = cellsOf (q :: enc q true (s.data.toList.take (k + 1))) := by
  rw [take_snoc s k hk, enc_snoc, ← List.cons_append, cells_app]
  unfold esc
  rw [if_neg (byte_ne h), if_pos (bs_yes hb)]
  rfl
theorem cells_one (s : ByteArray) (q : UInt8) (bs : Bool) (k : Nat) (hk : k < s.size) (h : ((s[k].toNat : Int) == (q.toNat : Int)) = false) (hb : (bs && isBs s[k]) = false) :
    cellsOf (q :: enc q bs (s.data.toList.take k)) ++ [Value.int .u8 (s[k].toNat : Int)] = cellsOf (q :: enc q bs (s.data.toList.take (k + 1))) := by
  rw [take_snoc s k hk, enc_snoc, ← List.cons_append, cells_app]
  unfold esc
  rw [if_neg (byte_ne h), if_neg (by rw [hb]; simp)]
  rfl
theorem cells_last (s : ByteArray) (q : UInt8) (bs : Bool) (k : Nat) (hk : s.size ≤ k) :
    cellsOf (q :: enc q bs (s.data.toList.take k)) ++ [Value.int .u8 (q.toNat : Int)] = cellsOf (q :: enc q bs s.data.toList ++ [q]) := by
  rw [List.take_of_length_le (by rw [Array.length_toList]; exact hk), cells_app]
  rfl
end Pl

set_option maxHeartbeats 1600000 in
theorem quote_any (s : ByteArray) (q : UInt8) (bs : Bool) (w : World) (hs : s.size ≤ 262144) :
    Calls Try.prog 23 #[.string s, .int .u8 (q.toNat : Int), .bool bs] w fun e w' => e = .returned (.string ⟨(q :: Pl.enc q bs s.data.toList ++ [q]).toArray⟩) ∧ Below w.heap.size w w' := by
  obtain ⟨i0, hi, hz0, hz1, hz2⟩ := info_parts info5
  go_enter Try.func23, Try.ntmps23
  go_wp2_with (first
    | (at_make; refine wpList_make_own _ rfl _ _ 30 rfl w.heap.size 5 i0 (.int .u8 0) 1 Try.underlying30 hi hz0 hz1 .i64 .i64 (2 * (s.size : Int) + 2) (2 * s.size + 2) rfl rfl (by omega) (by rw [hz2]; omega) (by unfold maxLen; omega) (Nat.le_refl _) ?_; intro w1 hown1 hgrow1)
    | (at_builtin; refine wpList_append_fits _ rfl (.tmp 15) (.tmp 17) 30 rfl w.heap.size 5 i0 1 Try.underlying30 hi hz1 w.heap.size 0 (2 * s.size + 2) [] rfl (hown1.alloc _) ⟨w1.heap.size, 0, none⟩ 1 1 [.int .u8 (q.toNat : Int)] rfl rfl (Pl.new_one _ _ _) (Pl.one1 _) (by omega) ?_; intro w2 hown2 hgrow2))
  have hb1 : Below w.heap.size w w1 := (Below.refl _ _).grown hgrow1 (Nat.le_refl _) (fun k e => by cases e)
  have R := Pl.rel_more (ys := Pl.cellsOf (q :: Pl.enc q bs (s.data.toList.take 0))) hb1 hown2 hgrow2 (by rw [List.take_zero, Pl.enc_nil]; rfl)
  rw [Nat.zero_add] at R
  obtain ⟨ho2, hb2⟩ := R
  clear hown1 hgrow1 hown2 hgrow2 hb1
  go_loopw [7, 8] (fun v kv wr => ∃ k n : Nat, k ≤ s.size ∧ kv = .int .i64 k ∧ n ≤ 2 * k + 1 ∧ v = .slice (some ⟨w.heap.size, 0, none⟩) n (2 * s.size + 2) ∧
      wr.ownsRow w.heap.size 5 1 (.slice (some ⟨w.heap.size, 0, none⟩) n (2 * s.size + 2)) n (Pl.cellsOf (q :: Pl.enc q bs (s.data.toList.take k))) ∧ Below w.heap.size w wr)
    (fun _ kv _ => s.size - (intOf kv).toNat)
  case atStart => exact ⟨0, 1, Nat.zero_le _, rfl, by omega, rfl, ho2, hb2⟩
  case round =>
    obtain ⟨k, n, hk, rfl, hn, rfl, hown, hbel⟩ := hrel
    clear ho2 hb2
    by_cases hlt : k < s.size
    · cases hq : ((s[k].toNat : Int) == (q.toNat : Int))
      · cases bs
        · have hb : Hid ((false && Pl.isBs s[k]) = false) := Pl.bs_no _
          go_wp2_with (at_builtin; refine wpList_append_fits _ rfl (.tmp 44) (.tmp 46) 30 rfl w.heap.size 5 i0 1 Try.underlying30 hi hz1 w.heap.size n (2 * s.size + 2) _ rfl (hown.alloc _) ⟨wr.heap.size, 0, none⟩ 1 1 [.int .u8 (s[k].toNat : Int)] rfl rfl (Pl.new_one _ _ _) (Pl.one1 _) (by omega) ?_; intro w2 hown2 hgrow2; have R := Pl.rel_more hbel hown2 hgrow2 (Pl.cells_one s q _ k hlt hq hb.out); clear hown2 hgrow2 hown)
          go_roundw
          case rel => exact ⟨k + 1, n + 1, by omega, by go_num, by omega, rfl, R.1, R.2⟩
          case measure => simp [intOf]; omega
        · cases h92 : ((s[k].toNat : Int) == 92)
          · have hb : Hid ((true && Pl.isBs s[k]) = false) := Pl.bs_other h92
            go_wp2_with (at_builtin; refine wpList_append_fits _ rfl (.tmp 44) (.tmp 46) 30 rfl w.heap.size 5 i0 1 Try.underlying30 hi hz1 w.heap.size n (2 * s.size + 2) _ rfl (hown.alloc _) ⟨wr.heap.size, 0, none⟩ 1 1 [.int .u8 (s[k].toNat : Int)] rfl rfl (Pl.new_one _ _ _) (Pl.one1 _) (by omega) ?_; intro w2 hown2 hgrow2; have R := Pl.rel_more hbel hown2 hgrow2 (Pl.cells_one s q _ k hlt hq hb.out); clear hown2 hgrow2 hown)
            go_roundw
            case rel => exact ⟨k + 1, n + 1, by omega, by go_num, by omega, rfl, R.1, R.2⟩
            case measure => simp [intOf]; omega
          · skip
            go_wp2_with (at_builtin; refine wpList_append_fits _ rfl (.tmp 41) (.tmp 42) 30 rfl w.heap.size 5 i0 1 Try.underlying30 hi hz1 w.heap.size n (2 * s.size + 2) _ rfl (hown.alloc _) ⟨wr.heap.size, 0, none⟩ 2 2 [.int .u8 92, .int .u8 92] rfl rfl (Pl.new_two _ _ _ _) (Pl.one2 _ _) (by omega) ?_; intro w2 hown2 hgrow2; have R := Pl.rel_more hbel hown2 hgrow2 (Pl.cells_bs s q k hlt hq h92); clear hown2 hgrow2 hown)
            go_roundw
            case rel => exact ⟨k + 1, n + 2, by omega, by go_num, by omega, rfl, R.1, R.2⟩
            case measure => simp [intOf]; omega
      · skip
        go_wp2_with (at_builtin; refine wpList_append_fits _ rfl (.tmp 31) (.tmp 34) 30 rfl w.heap.size 5 i0 1 Try.underlying30 hi hz1 w.heap.size n (2 * s.size + 2) _ rfl (hown.alloc _) ⟨wr.heap.size, 0, none⟩ 2 2 [.int .u8 (q.toNat : Int), .int .u8 (q.toNat : Int)] rfl rfl (Pl.new_two _ _ _ _) (Pl.one2 _ _) (by omega) ?_; intro w2 hown2 hgrow2; have R := Pl.rel_more hbel hown2 hgrow2 (Pl.cells_dbl s q _ k hlt hq); clear hown2 hgrow2 hown)
        go_roundw
        case rel => exact ⟨k + 1, n + 2, by omega, by go_num, by omega, rfl, R.1, R.2⟩
        case measure => simp [intOf]; omega
    · skip
      go_wp2_with (at_builtin; refine wpList_append_fits _ rfl (.tmp 48) (.tmp 50) 30 rfl w.heap.size 5 i0 1 Try.underlying30 hi hz1 w.heap.size n (2 * s.size + 2) _ rfl (hown.alloc _) ⟨wr.heap.size, 0, none⟩ 1 1 [.int .u8 (q.toNat : Int)] rfl rfl (Pl.new_one _ _ _) (Pl.one1 _) (by omega) ?_; intro w2 hown2 hgrow2; have R := Pl.rel_more hbel hown2 hgrow2 (Pl.cells_last s q _ k (by omega)); have hconv := Pl.conv_own R.1; have hb2 := R.2; clear R hown2 hgrow2 hown)
      go_ret
      exact ⟨rfl, hb2⟩

end Go.Proofs.Qxb6000606a
