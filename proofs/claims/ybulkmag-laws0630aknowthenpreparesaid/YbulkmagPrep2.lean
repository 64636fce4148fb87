import Derived.Test.YbulkmagPrep1
import Derived.Deep.AppendLies
namespace Go.Proofs.Ybulkmag.Commit
open Go.RowKit Go.MuLone

theorem Yba.info58 : (Yba.prog.info? 58).map (fun i => (i.zero, i.size, i.bytes)) = some (some (.agg #[.int .i64 0, .int .u64 0]), 2, 16) := by kernel_rfl

set_option maxHeartbeats 800000 in
set_option maxRecDepth 10000 in
theorem prep_any (nb rb pb cap base : Nat) (ctx : Value) (ap : Option Addr) (capp : Nat) (ps rs : List Int) (w : World) (hne : nb ≠ rb) (hnp : nb ≠ pb) (hrp : rb ≠ pb) (hpl : ps.length ≤ 1024)
    (h3 : w.cell? ⟨nb, 3, none⟩ = some (.iface 62 (.pointer (some ⟨pb, 0, none⟩)))) (h10 : w.cell? ⟨nb, 10, none⟩ = some (.int .u64 7))
    (h11 : w.cell? ⟨nb, 11, none⟩ = some (.int .i32 0)) (f11 : w.frozen? ⟨nb, 11, none⟩ = false)
    (h16 : w.cell? ⟨nb, 16, none⟩ = some (.slice (some ⟨rb, 0, none⟩) rs.length cap))
    (own : w.ownsRow base 23 1 (.slice (some ⟨rb, 0, none⟩) rs.length cap) rs.length (rs.map (Value.int .u64)))
    (hp : w.cell? ⟨pb, 0, none⟩ = some (.int .i64 0)) (fp : w.frozen? ⟨pb, 0, none⟩ = false) (hps : Ints pb nb w ap ps) :
    Calls Yba.prog 10 #[.pointer (some ⟨nb, 0, none⟩), ctx, .agg #[.int .i64 0, .int .u64 0, .int .u64 0, .int .i64 0, .int .u64 0, .slice none 0 0, .slice none 0 0, .slice ap ps.length capp, .int .u64 0]] w fun e w' => ∃ av cv, e = .returned (.agg #[.bool true, .slice none 0 0, .int .i64 0, .int .u64 0, .string ⟨#[]⟩, .int .u64 7, .slice av (sel rs ps).length cv]) ∧ PE nb pb (.slice av (sel rs ps).length cv) (sel rs ps) w w' := by
  have hnb : nb < w.heap.size := World.block_lt_of_cell? _ _ h11
  have hpb : pb < w.heap.size := World.block_lt_of_cell? _ _ hp
  have hrb : rb < w.heap.size := (own.lt rb rfl).2
  have hm := fun w => method_prep ⟨pb, 0, none⟩ w
  go_enter_defers Yba.func10, Yba.ntmps10
  go_wp2
  go_cut [7] from 10 to 16 (fun t7 wx => ∃ vb, t7 = .pointer (some ⟨vb, 0, none⟩) ∧ P1 pb vb (.slice ap ps.length capp) w wx)
  case rest =>
    obtain ⟨vb, rfl, p1⟩ := hcut
    have hge := p1.ge
    have a10 : wc.cell? ⟨nb, 10, none⟩ = some (.int .u64 7) := p1.but.cell h10 hnp
    have v0 : wc.cell? ⟨vb, 0, none⟩ = some (.bool true) := cell_of_row _ _ _ _ _ _ p1.vote
    have v5 : wc.cell? ⟨vb, 5, none⟩ = some (.int .u64 0) := cell_of_row _ _ _ _ _ _ p1.vote
    have vf : wc.frozen? ⟨vb, 5, none⟩ = false := frozen_of_row _ _ _ _ _ p1.vote
    have hnv : ¬ nb = vb := by omega
    have L11 : Hid (((wc.setCell ⟨vb, 5, none⟩ (.int .u64 7)).cell? ⟨nb, 11, none⟩ = some (.int .i32 0)) ∧ ((wc.setCell ⟨vb, 5, none⟩ (.int .u64 7)).frozen? ⟨nb, 11, none⟩ = false)) :=
      ⟨(World.cell?_setCell_other _ _ _ _ (ane (by omega))).trans (p1.but.cell h11 hnp), by rw [World.frozen?_setCell]; exact (p1.but.frozen hnb hnp).trans f11⟩
    have P : Hid (P1 pb vb (.slice ap ps.length capp) w wc) := p1
    have b7 : ((wc.setCell ⟨vb, 5, none⟩ (.int .u64 7)).setCell ⟨nb, 11, none⟩ (.int .i32 1)).cell? ⟨w.heap.size, 7, none⟩ = some (.slice ap ps.length capp) := by
      rw [World.cell?_setCell_other _ _ _ _ (ane (by omega)), World.cell?_setCell_other _ _ _ _ (ane (by omega))]; exact p1.box
    clear p1
    go_wp2_with (go_at_call 17; refine (lock_free Yba.muLib ⟨nb, 11, none⟩ _ L11.out.1 L11.out.2).mono ?_; rintro e w' ⟨rfl, rfl⟩)
    have zw := zw_of P.out hne hnp hrp hnb hpb h11 f11 h16 own hps
    generalize hwz : (wc.setCell ⟨vb, 5, none⟩ (.int .u64 7)).setCell ⟨nb, 11, none⟩ (.int .i32 1) = wz at zw ⊢
    clear hwz b7 L11 P a10 v0 v5 vf h3 h10 h11 f11 h16 own hp fp hps hm
    have hlv := zw.lt
    have hne' : nb ≠ vb := by omega
    have hrv : rb ≠ vb := by omega
    obtain ⟨i0, hi, hz0, hz1, hz2⟩ := info_parts Yba.info58
    go_loopw [36] (fun i wr => ∃ (k : Nat) (av : Option Addr) (cv : Nat), k ≤ ps.length ∧ i = .int .i64 k ∧ LP vb (.slice av (sel rs (ps.take k)).length cv) (sel rs (ps.take k)).length (runCells (sel rs (ps.take k))) wz wr) (fun i _ => ps.length - (intOf i).toNat)
    case atStart => exact ⟨0, none, 0, Nat.zero_le _, rfl, by simpa [sel, runCells] using zw.lp⟩
    case round =>
      obtain ⟨k, av, cv, hkl, rfl, lp⟩ := hrel
      by_cases hlt : k < ps.length
      · obtain ⟨b, off, rfl, hc⟩ : ∃ b off, ap = some ⟨b, off, none⟩ ∧ ∀ i, i < ps.length → b ≠ vb ∧ wz.cell? ⟨b, off + i, none⟩ = some (.int .i64 (ps.getD i 0)) := by
          rcases zw.ints with h | h
          · subst h; simp at hlt
          · exact h
        obtain ⟨hbv, hck⟩ := hc k hlt
        obtain ⟨p, hpk⟩ : ∃ p, p = ps[k] := ⟨_, rfl⟩
        have g0 : wr.cell? ⟨b, off + k, none⟩ = some (.int .i64 p) := lp.but.cell (by rw [hck, hpk]; simp [List.getD, hlt]) hbv
        have SN : Hid (sel rs (ps.take (k + 1)) = sel rs (ps.take k) ++ one rs p) := by rw [hpk]; exact sel_snoc hlt
        have hsl := sel_take_length rs ps k
        have r16 := lp.but.cell zw.c16 hne'
        clear hck hc hpk
        by_cases pneg : p < 0
        · have e : sel rs (ps.take (k + 1)) = sel rs (ps.take k) := by rw [SN.out, one_neg pneg, List.append_nil]
          have E : Hid (sel rs (ps.take (k + 1)) = sel rs (ps.take k)) := e
          clear e zw
          go_wp2
          go_roundw
          case rel => exact ⟨k + 1, av, cv, by omega, by go_num, by rw [E.out]; exact lp⟩
          case measure => simp [intOf]; omega
        · by_cases pbig : (rs.length : Int) ≤ p
          · have e : sel rs (ps.take (k + 1)) = sel rs (ps.take k) := by rw [SN.out, one_big pbig, List.append_nil]
            have E : Hid (sel rs (ps.take (k + 1)) = sel rs (ps.take k)) := e
            clear e zw
            go_wp2
            go_roundw
            case rel => exact ⟨k + 1, av, cv, by omega, by go_num, by rw [E.out]; exact lp⟩
            case measure => simp [intOf]; omega
          · obtain ⟨j, rfl⟩ : ∃ j : Nat, p = (j : Int) := ⟨p.toNat, by omega⟩
            have hj : j < rs.length := by omega
            have rj : wr.cell? ⟨rb, j, none⟩ = some (.int .u64 rs[j]) := lp.but.cell (by rw [zw.own.cellAt j (by omega)]; simp [hj]) hrv
            by_cases hz : rs[j] = 0
            · have e : sel rs (ps.take (k + 1)) = sel rs (ps.take k) := by rw [SN.out, one_zero hj hz, List.append_nil]
              have E : Hid (sel rs (ps.take (k + 1)) = sel rs (ps.take k)) := e
              rw [hz] at rj
              clear e zw hz
              go_wp2
              go_roundw
              case rel => exact ⟨k + 1, av, cv, by omega, by go_num, by rw [E.out]; exact lp⟩
              case measure => simp [intOf]; omega
            · have hzb : (rs[j] != 0) = true := by simpa using hz
              have e : sel rs (ps.take (k + 1)) = sel rs (ps.take k) ++ [((j : Int), rs[j])] := by rw [SN.out, one_yes hj hz]
              have E : Hid (sel rs (ps.take (k + 1)) = sel rs (ps.take k) ++ [((j : Int), rs[j])]) := e
              have r6 := lp.vc.c6
              have f6 := lp.vc.f 6
              have hk0 : (0 : Int) ≤ (j : Int) := Int.natCast_nonneg _
              have hk1 : (j : Int) < (rs.length : Int) := by omega
              have hvr : vb < wr.heap.size := Nat.lt_of_lt_of_le hlv lp.but.size
              have nv : (Value.slice av (sel rs (ps.take k)).length cv).ownBlock ≠ some vb := fun h => by have := (lp.own.lt _ h).1; omega
              have cz : ∀ o, (wr.alloc o).cell? ⟨vb, 6, none⟩ = some (.slice av (sel rs (ps.take k)).length cv) := fun o => al o r6
              have fz : ∀ o, (wr.alloc o).frozen? ⟨vb, 6, none⟩ = false := fun o => fal o f6 hvr
              have H63 : Hid ((sel rs (ps.take k)).length + 1 ≤ maxLen) := show _ ≤ _ by unfold maxLen; omega
              have H47 : Hid (((sel rs (ps.take k)).length + 1) * 16 ≤ 140737488355328) := show _ ≤ _ by omega
              have HSO : Hid (∀ o : Obj, (⟨vb, 6, none⟩ : Addr).block < (wr.alloc o).drew.heap.size) := fun o => Nat.lt_of_lt_of_le hvr (show wr.heap.size ≤ (wr.alloc o).heap.size by simp)
              have HSB : Hid (∀ o : Obj, wz.heap.size ≤ (wr.alloc o).drew.heap.size) := fun o => Nat.le_trans lp.but.size (show wr.heap.size ≤ (wr.alloc o).heap.size by simp)
              clear e zw hz
              go_wp2

              refine wp_region_noPanic ?_
              go_region_law ((refine step_append_lies _ (by rfl) _ _ _ (by rfl) wz.heap.size 58 i0 _ 2 16 Yba.underlying69 hi hz0 hz1 hz2 rfl (by omega) (.slice av (sel rs (ps.take k)).length cv) (sel rs (ps.take k)).length (runCells (sel rs (ps.take k))) (by rfl) ((lp.own.alloc _).drew) ⟨wr.heap.size, 0, none⟩ 1 1 [.int .i64 j, .int .u64 rs[j]] (by rfl) (by rfl) (World.news_of_block (cs := #[.int .i64 j, .int .u64 rs[j]]) (t := 58) (fr := (0, 0)) (heap_alloc_new wr _)) (by simp [Value.oneCell']) (Nat.lt_succ_self 0) H63.out H47.out (HSB.out _) (wr.heap.size + 1) (by simp) ?_; intro gg cap2 w2 hown2 hgrow hat hlt2; have k3 : w2.cell? ⟨vb, 6, none⟩ = some (.slice av (sel rs (ps.take k)).length cv) := ((hgrow.cell_far ⟨vb, 6, none⟩ (HSO.out _) (Ne.symm nv)).trans (cz _)); have kf : w2.frozen? ⟨vb, 6, none⟩ = false := ((hgrow.frozen_far ⟨vb, 6, none⟩ (HSO.out _) (Ne.symm nv)).trans (fz _))))
              all_goals (refine NoPanic.normal ?_)
              all_goals
                have LS := lp.step hlv hown2 hgrow
                clear hown2 hgrow k3 kf cz fz r6 f6 nv HSO HSB H63 H47 rj r16 g0 lp
                go_wp2
                go_roundw
                case rel =>
                  refine ⟨k + 1, some ⟨gg, 0, none⟩, cap2, by omega, by go_num, ?_⟩
                  rw [E.out, runCells_snoc, List.length_append]
                  exact LS
                case measure => simp [intOf]; omega
      · have hkk : k = ps.length := by omega
        subst hkk
        rw [List.take_length] at lp
        have c0 := lp.vc.c0
        have c1 := lp.vc.c1
        have c2 := lp.vc.c2
        have c3 := lp.vc.c3
        have c4 := lp.vc.c4
        have c5 := lp.vc.c5
        have c6 := lp.vc.c6
        have hres : wr.heap[w.heap.size + 1]? = some (.cells (voteCells false) 71 (0, 0)) := (lp.but.block _ (by omega) (by omega)).trans zw.res
        have e0 : wr.cell? ⟨w.heap.size + 1, 0, none⟩ = some (.bool false) := cell_of_row _ _ _ _ _ _ hres
        have e1 : wr.cell? ⟨w.heap.size + 1, 1, none⟩ = some (.slice none 0 0) := cell_of_row _ _ _ _ _ _ hres
        have e2 : wr.cell? ⟨w.heap.size + 1, 2, none⟩ = some (.int .i64 0) := cell_of_row _ _ _ _ _ _ hres
        have e3 : wr.cell? ⟨w.heap.size + 1, 3, none⟩ = some (.int .u64 0) := cell_of_row _ _ _ _ _ _ hres
        have e4 : wr.cell? ⟨w.heap.size + 1, 4, none⟩ = some (.string ⟨#[]⟩) := cell_of_row _ _ _ _ _ _ hres
        have e5 : wr.cell? ⟨w.heap.size + 1, 5, none⟩ = some (.int .u64 0) := cell_of_row _ _ _ _ _ _ hres
        have e6 : wr.cell? ⟨w.heap.size + 1, 6, none⟩ = some (.slice none 0 0) := cell_of_row _ _ _ _ _ _ hres
        have ef : ∀ o, wr.frozen? ⟨w.heap.size + 1, o, none⟩ = false := fun o => frozen_of_row _ _ _ _ _ hres
        go_wp2
        obtain ⟨x1, x2, x3, x4⟩ := prep_end zw hnp hnb hpb lp (putVote_but (w.heap.size + 1) (.slice av (sel rs ps).length cv) wr) (putVote_row hres)
        refine leaves_cons (f := 18) (args := #[.pointer (some ⟨nb, 11, none⟩)]) (by simp) (by simp [go_sem]) ?_
        refine (unlock_deferred Yba.muLib ⟨nb, 11, none⟩ .returning (putVote (w.heap.size + 1) (.slice av (sel rs ps).length cv) wr) x1 x2).mono ?_
        rintro e u' w'' ⟨rfl, rfl, rfl⟩
        generalize (putVote (w.heap.size + 1) (.slice av (sel rs ps).length cv) wr).setCell ⟨nb, 11, none⟩ (.int .i32 0) = wf at x3 x4 ⊢
        have y0 : wf.cell? ⟨w.heap.size + 1, 0, none⟩ = some (.bool true) := cell_of_row _ _ _ _ _ _ x3
        have y1 : wf.cell? ⟨w.heap.size + 1, 1, none⟩ = some (.slice none 0 0) := cell_of_row _ _ _ _ _ _ x3
        have y2 : wf.cell? ⟨w.heap.size + 1, 2, none⟩ = some (.int .i64 0) := cell_of_row _ _ _ _ _ _ x3
        have y3 : wf.cell? ⟨w.heap.size + 1, 3, none⟩ = some (.int .u64 0) := cell_of_row _ _ _ _ _ _ x3
        have y4 : wf.cell? ⟨w.heap.size + 1, 4, none⟩ = some (.string ⟨#[]⟩) := cell_of_row _ _ _ _ _ _ x3
        have y5 : wf.cell? ⟨w.heap.size + 1, 5, none⟩ = some (.int .u64 7) := cell_of_row _ _ _ _ _ _ x3
        have y6 : wf.cell? ⟨w.heap.size + 1, 6, none⟩ = some (.slice av (sel rs ps).length cv) := cell_of_row _ _ _ _ _ _ x3
        refine ⟨.agg #[.bool true, .slice none 0 0, .int .i64 0, .int .u64 0, .string ⟨#[]⟩, .int .u64 7, .slice av (sel rs ps).length cv], ?_, av, cv, rfl, x4⟩
        simp [results, Yba.results10, go_sem, y0, y1, y2, y3, y4, y5, y6]
  case first =>
    have hq : SB nb pb w.heap.size (.slice ap ps.length capp) ((w.alloc (.cells #[.int .i64 0, .int .u64 0, .int .u64 0, .int .i64 0, .int .u64 0, .slice none 0 0, .slice none 0 0, .slice ap ps.length capp, .int .u64 0] 79)).alloc (.cells #[.bool false, .slice none 0 0, .int .i64 0, .int .u64 0, .string ⟨#[]⟩, .int .u64 0, .slice none 0 0] 71)) := SBa _ (SB0 rfl h3)
    have hbq : Below w.heap.size w ((w.alloc (.cells #[.int .i64 0, .int .u64 0, .int .u64 0, .int .i64 0, .int .u64 0, .slice none 0 0, .slice none 0 0, .slice ap ps.length capp, .int .u64 0] 79)).alloc (.cells #[.bool false, .slice none 0 0, .int .i64 0, .int .u64 0, .string ⟨#[]⟩, .int .u64 0, .slice none 0 0] 71)) := bl2 _ _ _
    generalize hwq : ((w.alloc (.cells #[.int .i64 0, .int .u64 0, .int .u64 0, .int .i64 0, .int .u64 0, .slice none 0 0, .slice none 0 0, .slice ap ps.length capp, .int .u64 0] 79)).alloc (.cells #[.bool false, .slice none 0 0, .int .i64 0, .int .u64 0, .string ⟨#[]⟩, .int .u64 0, .slice none 0 0] 71)) = wq at hq hbq ⊢
    have HQ : Hid ((w.alloc (.cells #[.int .i64 0, .int .u64 0, .int .u64 0, .int .i64 0, .int .u64 0, .slice none 0 0, .slice none 0 0, .slice ap ps.length capp, .int .u64 0] 79)).alloc (.cells #[.bool false, .slice none 0 0, .int .i64 0, .int .u64 0, .string ⟨#[]⟩, .int .u64 0, .slice none 0 0] 71) = wq) := hwq
    have hpq : wq.cell? ⟨pb, 0, none⟩ = some (.int .i64 0) := cell_later hbq hp
    have fpq : wq.frozen? ⟨pb, 0, none⟩ = false := (hbq.frozen (p := ⟨pb, 0, none⟩) hpb).trans fp
    have hpbq : pb < wq.heap.size := World.block_lt_of_cell? _ _ hpq
    have hqs := SBs (by omega) (by omega) (.int .i64 1) hq
    clear hwq
    go_region_held3 (fun w' => w'.cell? ⟨nb, 3, none⟩ = some (.iface 62 (.pointer (some ⟨pb, 0, none⟩))) ∧ w'.cell? ⟨w.heap.size, 0, none⟩ = some (.int .i64 0) ∧ w'.cell? ⟨w.heap.size, 1, none⟩ = some (.int .u64 0) ∧ w'.cell? ⟨w.heap.size, 2, none⟩ = some (.int .u64 0) ∧ w'.cell? ⟨w.heap.size, 3, none⟩ = some (.int .i64 0) ∧ w'.cell? ⟨w.heap.size, 4, none⟩ = some (.int .u64 0) ∧ w'.cell? ⟨w.heap.size, 5, none⟩ = some (.slice none 0 0) ∧ w'.cell? ⟨w.heap.size, 6, none⟩ = some (.slice none 0 0) ∧ w'.cell? ⟨w.heap.size, 7, none⟩ = some (.slice ap ps.length capp) ∧ w'.cell? ⟨w.heap.size, 8, none⟩ = some (.int .u64 0))
      (first | exact SBd hq | exact SBd (SBa _ hq) | exact SBd (SBa _ (SBa _ hqs)) | exact SBd (SBa _ (SBa _ (SBa _ hqs))))
      ((go_at_call 64; refine (part_any pb ctx _ _ _ _ _ _ _ _ _ _ ?_ ?_).mono ?_; (first | exact hpq | exact al _ hpq); (first | exact fpq | exact fal _ fpq hpbq); rintro e w' ⟨rfl, rfl⟩))
    all_goals
      go_wp2_with fail
      go_meet
    all_goals
      obtain ⟨b1, b2, b3, b4, b5⟩ := p1_base (sl := .slice ap ps.length capp) hpb hp _ rfl wq HQ.out
      have hsq : wq.heap.size = w.heap.size + 2 := by simpa using b2
    · exact ⟨w.heap.size + 4, by rw [hsq], p1_last _ _ b1 b2 b3 b4 b5⟩
    · exact ⟨w.heap.size + 2, by rw [hsq], p1_first _ _ b1 b2 b3 b4 b5⟩
end Go.Proofs.Ybulkmag.Commit
