/- The contracts of 'appendBytes' and of its door onto a buffer that the call owns. -/
import Derived.Test.Qxb6605731aDoorMem
import Derived.Test.Qxb6605731aDoorShelf
import Derived.Test.Qxb6605731aDoorEnc
import Derived.Laws.AppendOwnNone
namespace Go.Proofs.Qxb6605731aDoor
open Go.ChangeShapes Go.WideShapes Go.ChangeAt Go.RowKit
open Plain

theorem byte_cells (l : List UInt8) : Lib.byteCells l = bcells l := rfl

set_option maxHeartbeats 1000000 in
/-- 'appendBytes(buf, p)': buf is the call's own, made behind the world w1; p lies in w1. -/
theorem ab_own (w1 : World) (po : Option Addr) (sv : Value) (n : Nat) (ls lp : List UInt8) (w : World) (hb : Below w1.heap.size w1 w) (hp : At w1 po lp) (hown : w.ownsRow w1.heap.size 5 1 sv n (bcells ls)) (hn : n ≤ 10000000) (h2 : lp.length ≤ 1048576) :
    Calls Tryd.prog 18 #[sv, .slice po lp.length lp.length] w fun e w' => ∃ v', e = .returned v' ∧ w'.ownsRow w1.heap.size 5 1 v' (framed ls lp).length (bcells (framed ls lp)) ∧ Below w1.heap.size w1 w' := by
  obtain ⟨i0, hi, hz0, hz1, hz2⟩ := info_parts Tryd.info5
  obtain ⟨m, hm⟩ : ∃ m, m = lp.length := ⟨_, rfl⟩
  have hlen := Lib.uvarint_length64 (x := m) (by omega)
  have hnl : n = ls.length := by have := hown.1; rw [bcells_len] at this; omega
  have HA' : Hid (Calls Tryd.prog 21 #[sv, .int .u64 m] w fun e w' => ∃ v', e = .returned v' ∧ w'.ownsRow w1.heap.size 5 1 v' (ls ++ Lib.uvarint m).length (bcells (ls ++ Lib.uvarint m)) ∧ Below w1.heap.size w1 w') := by
    refine (Tryd.binary_AppendUvarint w1.heap.size n m (by omega) sv (bcells ls) w hown hb.size (by omega)).mono ?_
    rintro e w' ⟨v', rfl, ho, hb'⟩
    refine ⟨v', rfl, ?_, hb.trans hb'⟩
    rw [List.length_append, bcells_append, ← hnl]; exact ho
  have HF : Hid (framed ls lp = ls ++ Lib.uvarint m ++ lp) := by show _ = _; rw [hm]; rfl
  have HP : Hid (At w1 po lp) := hp
  have HN : Hid (m = lp.length) := hm
  rw [← hm]
  have hm2 : m ≤ 1048576 := by omega
  have hL : (ls ++ Lib.uvarint m).length ≤ 10000010 := by rw [List.length_append]; omega
  clear hown hp hm h2 hlen hnl hb
  go_enter Tryd.func18, Tryd.ntmps18
  go_wp2_with fail
  refine HA'.out.mono ?_
  rintro e w2 ⟨v2, rfl, hown2, hb2⟩
  have hsz := hb2.size
  rcases HP.out.below hb2 with ⟨hpo, hl0⟩ | ⟨g, hpo, hg, hc⟩
  · have HL0 : Hid (lp = []) := hl0
    have hm0 : m = 0 := by have := HN.out; rw [hl0] at this; simpa using this
    subst hpo
    subst hm0
    clear hl0
    go_wp2_with (at_builtin; refine wpList_append_own_none rfl _ _ 24 rfl w1.heap.size 5 i0 1 Tryd.underlying24 hi _ _ _ rfl hown2 rfl ?_)
    go_wp2
    go_ret
    refine ⟨_, rfl, ?_, hb2⟩
    rw [HF.out, HL0.out, List.append_nil]; exact hown2
  · subst hpo
    have hat : At w2 (some ⟨g, 0, none⟩) lp := .inr ⟨g, rfl, hg, hc⟩
    clear hc
    go_wp2_with (at_builtin; refine wpList_append_own _ rfl _ _ 24 rfl w1.heap.size 5 i0 (.int .u8 0) 1 1 Tryd.underlying24 hi hz0 hz1 hz2 rfl (by decide) _ _ _ rfl hown2 ⟨g, 0, none⟩ m m (bcells lp) rfl ?c0 (hat.cells _ rfl) bcells_one ?c3 ?c4 ?c5 ?_)
    case c0 => rw [bcells_len, HN.out]; omega
    case c3 => unfold maxLen; omega
    case c4 => omega
    case c5 => omega
    intro v' w3 hown3 hgrow _
    have hb3 : Below w1.heap.size w1 w3 := hb2.grown hgrow hsz (fun k hk => (hown2.lt k hk).1)
    have HO : Hid (w3.ownsRow w1.heap.size 5 1 v' (framed ls lp).length (bcells (framed ls lp))) := by
      show w3.ownsRow _ _ _ _ _ _
      rw [HF.out, bcells_append, List.length_append (bs := lp), List.length_append, ← HN.out]; exact hown3
    clear hown3 hgrow hown2 hb2 hat
    go_wp2
    go_ret
    exact ⟨_, rfl, HO.out, hb3⟩

theorem zab_own (w1 : World) (po : Option Addr) (sv : Value) (n : Nat) (ls lp : List UInt8) (w : World) (hb : Below w1.heap.size w1 w) (hp : At w1 po lp) (hown : w.ownsRow w1.heap.size 5 1 sv n (bcells ls)) (hn : n ≤ 10000000) (h2 : lp.length ≤ 1048576) :
    Calls Tryd.prog 7 #[sv, .slice po lp.length lp.length] w fun e w' => ∃ v', e = .returned v' ∧ w'.ownsRow w1.heap.size 5 1 v' (framed ls lp).length (bcells (framed ls lp)) ∧ Below w1.heap.size w1 w' := by
  have H : Hid (Calls Tryd.prog 18 #[sv, .slice po lp.length lp.length] w fun e w' => ∃ v', e = .returned v' ∧ w'.ownsRow w1.heap.size 5 1 v' (framed ls lp).length (bcells (framed ls lp)) ∧ Below w1.heap.size w1 w') := ab_own w1 po sv n ls lp w hb hp hown hn h2
  clear hb hp hown
  go_enter Tryd.func7, Tryd.ntmps7
  go_wp2_with fail
  refine H.out.mono ?_
  rintro e w2 ⟨v2, rfl, hown2, hb2⟩
  go_wp2
  go_ret
  exact ⟨_, rfl, hown2, hb2⟩
end Go.Proofs.Qxb6605731aDoor
