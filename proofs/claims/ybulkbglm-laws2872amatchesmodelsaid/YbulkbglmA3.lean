/-
  zzs2872asortuniq (7): the walk.
-/
import Derived.Test.YbulkbglmA2
import Derived.Test.YbulkbglmLaws
import Derived.Deep.LoopGhost
import Derived.Deep.DeepCutAuto
import Derived.Deep.CutBlock
import Derived.Sort.Walk0
namespace Go.Proofs.Ybulkbglm
open Go Go.RowKit Go.Maps
set_option linter.unusedSimpArgs false
set_option linter.unusedVariables false

theorem Yba.info9u : (Yba.prog.info? 9).map (fun i => (i.zero, i.size, i.bytes)) = some (some (.string ⟨#[]⟩), 1, 16) := by kernel_rfl

theorem add0' (g j : Nat) : (⟨g, 0, none⟩ : Addr).add j = ⟨g, j, none⟩ := by unfold Addr.add; split <;> simp_all

/-- What is told of the slice of texts that came in. -/
def Texts (w : World) (a : Option Addr) (n : Nat) (ss : List (List UInt8)) : Prop :=
  ss.length = n ∧ (∀ ad, a = some ad → ad.block < w.heap.size) ∧ ((a = none ∧ n = 0) ∨ ∃ ad, a = some ad ∧ ∀ i s, ss[i]? = some s → w.cell? (ad.add i) = some (encStr s))

set_option maxHeartbeats 4000000 in
set_option maxRecDepth 100000 in
theorem sortuniq7 (a : Option Addr) (n c : Nat) (ss : List (List UInt8)) (w : World) (h : Texts w a n ss) (hn : n ≤ 5000) :
    Calls Yba.prog 7 #[.slice a n c] w fun e w' => ∃ (g cap : Nat), e = .returned (.slice (some ⟨g, 0, none⟩) (su ss).length cap) ∧
      w'.ownsRow 0 9 1 (.slice (some ⟨g, 0, none⟩) (su ss).length cap) (su ss).length ((su ss).map encStr) ∧ w.heap.size ≤ g ∧ Below w.heap.size w w' := by
  obtain ⟨i9, hi9, hz9, hs9, hb9⟩ := info_parts Yba.info9u
  obtain ⟨hl, hlt, htx⟩ := h
  have h0 := hid (row_made (w.alloc (.cells #[] 9)) w.heap.size 9 1 (heap_alloc_last w _))
  have hB := hid ((Below.refl w.heap.size w).alloc (Nat.le_refl _) (.cells #[] 9))
  go_enter Yba.func7, Yba.ntmps7
  go_wp2_with fail
  go_loopg [3, 13] n (fun k s3 s13 wr => ∃ (i g cap : Nat), i + k = n ∧ s13 = .int .i64 i ∧ s3 = .slice (some ⟨g, 0, none⟩) (su (ss.take i)).length cap ∧
    wr.ownsRow 0 9 1 (.slice (some ⟨g, 0, none⟩) (su (ss.take i)).length cap) (su (ss.take i)).length ((su (ss.take i)).map encStr) ∧ w.heap.size ≤ g ∧ Below w.heap.size w wr)
  case atStart => exact ⟨0, w.heap.size, 0, by omega, rfl, rfl, h0.out, Nat.le_refl _, hB.out⟩
  case round =>
    obtain ⟨i, g, cap, hik, rfl, rfl, hrow, hg, hbel⟩ := hrel
    clear h0 hB
    by_cases hin : i < n
    · obtain ⟨ad, rfl, hcell⟩ : ∃ ad, a = some ad ∧ ∀ i s, ss[i]? = some s → w.cell? (ad.add i) = some (encStr s) := by
        rcases htx with ⟨_, h⟩ | h
        · omega
        · exact h
      obtain ⟨x, hx⟩ : ∃ x, ss[i]? = some x := ⟨ss[i], by simp⟩
      have hadb := hlt ad rfl
      have c1 : wr.cell? (ad.add i) = some (.string ⟨x.toArray⟩) := (hbel.cell (p := ad.add i) (by show (ad.add i).block < _; unfold Addr.add; split <;> exact hadb)).trans (hcell i x hx)
      have htk : su (ss.take (i + 1)) = insU x (su (ss.take i)) := by
        rw [List.take_add_one, hx]
        exact su_snoc _ _
      obtain ⟨o, ho⟩ : ∃ o, o = su (ss.take i) := ⟨_, rfl⟩
      have hol : o.length ≤ 5000 := by
        have := su_length (ss.take i)
        rw [← ho] at this
        rw [List.length_take] at this
        omega
      rw [← ho] at hrow htk
      rw [← ho]
      clear ho
      have HR := hid hrow
      have HB := hid hbel
      clear hrow hbel htx hcell
      go_upto_block 2 with fail
      go_cut [6, 7] from 19 to 37 (fun s6 s7 wx => wx = wr ∧ ((s7 = .bool true ∧ insU x o = o) ∨ (s7 = .bool false ∧ ∃ p : Nat, s6 = .int .i64 p ∧ p ≤ o.length ∧ insU x o = o.take p ++ x :: o.drop p)))
      case first =>
        go_wp2_with fail
        go_loopg [6, 7, 8] o.length (fun k s6 s7 s8 wx => wx = wr ∧ s6 = .int .i64 o.length ∧ s7 = .bool false ∧ ∃ q : Nat, q + k = o.length ∧ s8 = .int .i64 q ∧ ∀ i y, i < q → o[i]? = some y → y ≠ x ∧ ¬ x < y)
        case atStart => exact ⟨rfl, rfl, rfl, 0, by omega, rfl, fun i y hi => by omega⟩
        case round =>
          obtain ⟨rfl, rfl, rfl, q, hq, rfl, hbf⟩ := hrel
          by_cases hqo : q < o.length
          · obtain ⟨y, hy⟩ : ∃ y, o[q]? = some y := ⟨o[q], by simp⟩
            have c2 : wr.cell? ⟨g, q, none⟩ = some (.string ⟨y.toArray⟩) := by
              have := HR.out.cells (g := g) rfl q (encStr y) (by simp [hy])
              rw [add0'] at this
              exact this
            by_cases e1 : y = x
            · subst e1
              have e1' : (y == y) = true := by simp
              have hd := insU_dup hbf hy
              go_wp2_with fail
              go_meet
              exact ⟨rfl, .inl ⟨rfl, hd⟩⟩
            · have e1' : (y == x) = false := by simpa using e1
              by_cases e2 : x < y
              · have e2' : Op.bytesLess x y = true := (bytesLess_eq x y).trans (decide_eq_true e2)
                have hd := insU_at (p := q) (by omega) hbf (fun z hz => by rw [hy] at hz; cases hz; exact ⟨e1, e2⟩)
                go_wp2_with fail
                go_meet
                exact ⟨rfl, .inr ⟨rfl, q, rfl, by omega, hd⟩⟩
              · have e2' : Op.bytesLess x y = false := (bytesLess_eq x y).trans (decide_eq_false e2)
                go_wp2_with fail
                go_roundg (gk - 1)
                case measure => omega
                case rel =>
                  refine ⟨rfl, rfl, rfl, q + 1, by omega, by go_num, fun t z ht hz => ?_⟩
                  by_cases et : t = q
                  · subst et
                    rw [hy] at hz
                    cases hz
                    exact ⟨e1, e2⟩
                  · exact hbf t z (by omega) hz
          · obtain rfl : q = o.length := by omega
            go_wp2_with fail
            go_meet
            exact ⟨rfl, .inr ⟨rfl, o.length, rfl, Nat.le_refl _, insU_at (Nat.le_refl _) hbf (fun y hy => by simp at hy)⟩⟩
      case rest =>
        obtain ⟨rfl, hcut⟩ := hcut
        rcases hcut with ⟨rfl, hd⟩ | ⟨rfl, p, rfl, hp, hd⟩
        · rw [hd] at htk
          go_wp2_with fail
          go_roundg (gk - 1)
          case measure => omega
          case rel => exact ⟨i + 1, g, cap, by omega, by go_num, by rw [htk], by rw [htk]; exact HR.out, hg, HB.out⟩
        · have hw : ([.string ⟨#[]⟩] : List Value).length = 1 * 1 := rfl
          have HW1 : Hid (∀ j u, ([.string ⟨#[]⟩] : List Value)[j]? = some u → (wc.alloc (.cells #[.string ⟨#[]⟩] 9)).cell? ((⟨wc.heap.size, 0, none⟩ : Addr).add j) = some u) := news_at wc #[.string ⟨#[]⟩] 9 [.string ⟨#[]⟩] wc.heap.size rfl rfl
          have HI : Hid ((wc.alloc (.cells #[.string ⟨#[]⟩] 9)).ownsRow 0 9 1 (.slice (some ⟨g, 0, none⟩) o.length cap) o.length (o.map encStr)) := HR.out.alloc _
          go_wp2_with (at_builtin; refine wpList_app _ rfl (.tmp 39) (.tmp 40) 22 rfl 9 i9 _ 1 16 Yba.underlying22 hi9 hz9 hs9 hb9 rfl (by decide) g o.length cap _ rfl HI.out ⟨wc.heap.size, 0, none⟩ 1 1 _ (by decide) rfl rfl HW1.out ?o1 ?o2 ?o3 ?_)
          case o1 => intro u hu; simp at hu; subst hu; rfl
          case o2 => unfold maxLen; omega
          case o3 => omega
          intro g' cap' w2 hown2 hgrow2 hloc
          have hg' : w.heap.size ≤ g' := by
            rcases hloc with h | h
            · omega
            · have := HB.out.size
              omega
          have hb2 : Below w.heap.size w w2 := (HB.out.alloc HB.out.size _).grown hgrow2 (by have := HB.out.size; simp; omega) (fun k hk => by cases hk; exact hg)
          have h3 := hid hown2
          have h3b := hid hb2
          clear hown2 hb2 hgrow2 hloc HW1 HI HR HB hw
          go_wp2_with fail
          go_loopg [9] (o.length - p) (fun k s9 wx => ∃ q : Nat, p + k = q ∧ q ≤ o.length ∧ s9 = .int .i64 q ∧ (∃ u, wx.ownsRow 0 9 1 (.slice (some ⟨g', 0, none⟩) (o.length + 1) cap') (o.length + 1) ((o.take q).map encStr ++ u :: (o.drop q).map encStr)) ∧ Below w.heap.size w wx)
          case atStart => exact ⟨o.length, by omega, Nat.le_refl _, by go_num, ⟨.string ⟨#[]⟩, by simpa using h3.out⟩, h3b.out⟩
          case round =>
            obtain ⟨q, hpq, hqo, rfl, ⟨u, hrow⟩, hbel⟩ := hrel
            clear h3 h3b
            by_cases hqp : p < q
            · obtain ⟨q, rfl⟩ : ∃ q', q = q' + 1 := ⟨q - 1, by omega⟩
              obtain ⟨y, hy⟩ : ∃ y, o[q]? = some y := ⟨o[q], by simp⟩
              have c2 : wr.cell? ⟨g', q, none⟩ = some (.string ⟨y.toArray⟩) := by
                have := hrow.cells (g := g') rfl q (encStr y) (by rw [List.getElem?_append_left (by simp; omega)]; simp [hy, List.getElem?_take])
                rw [add0'] at this
                exact this
              obtain ⟨cur, hcur⟩ := row_block hrow
              have f2 := frozen_block (i := q + 1) hcur
              have cw : wr.cell? ⟨g', q + 1, none⟩ = some u := by
                have := hrow.cells (g := g') rfl (q + 1) u (by rw [List.getElem?_append_right (by simp; omega)]; simp; rw [Nat.min_eq_left (by omega)]; simp)
                rw [add0'] at this
                exact this
              have FL := hid (row_set hrow (q + 1) (encStr y) (by omega))
              rw [shift_step encStr o q y u (by omega) hy] at FL
              have FB := hid (hbel.setCell (p := ⟨g', q + 1, none⟩) hg' (encStr y))
              clear hrow hbel hcur
              go_wp2
              go_roundg (gk - 1)
              case measure => omega
              case rel => exact ⟨q, by omega, by omega, by go_num, ⟨_, FL.out⟩, FB.out⟩
            · obtain rfl : p = q := by omega
              obtain ⟨cur, hcur⟩ := row_block hrow
              have f2 := frozen_block (i := p) hcur
              have cw : wr.cell? ⟨g', p, none⟩ = some u := by
                have := hrow.cells (g := g') rfl p u (by rw [List.getElem?_append_right (by simp; omega)]; simp; rw [Nat.min_eq_left (by omega)]; simp)
                rw [add0'] at this
                exact this
              have FL := hid (row_set hrow p (encStr x) (by omega))
              rw [gap_set encStr o p x u hp, ← hd, ← htk] at FL
              have FB := hid (hbel.setCell (p := ⟨g', p, none⟩) hg' (encStr x))
              clear hrow hbel hcur
              have hlen : (su (ss.take (i + 1))).length = o.length + 1 := by
                rw [htk, hd]
                simp
                omega
              go_wp2
              go_roundg (n - (i + 1))
              case measure => omega
              case rel => exact ⟨i + 1, g', cap', by omega, by go_num, by rw [hlen], by rw [hlen]; exact FL.out, hg', FB.out⟩
    · obtain rfl : i = n := by omega
      have he : ss.take i = ss := List.take_of_length_le (by omega)
      rw [he] at hrow
      rw [he]
      go_wp2_with fail
      go_ret
      exact ⟨g, cap, rfl, hrow, hg, hbel⟩

end Go.Proofs.Ybulkbglm
