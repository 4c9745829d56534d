import Derived.Test.Qxb6601400aCyc4
import Derived.Test.Qxb6601400aGraph2
namespace Go.Proofs.Qxb6601400a
open Go.RowKit

theorem arrN {w : World} {b n : Nat} {f : Nat → Value} (h : Arr w b n f) (m : Nat) : Arr (w.drewN m) b n f := ⟨h.cell, h.free, h.lt⟩

def LenQ (rs : List (List Int)) (gs : List Int) (w : World) (e : Ending) (w' : World) : Prop :=
  ∃ best : Int, e = .returned (.int .i64 best) ∧ BestLen rs gs (gs.getD 0 0) best ∧ -1 ≤ best ∧ best ≤ 65536 ∧ Below w.heap.size w w'

set_option maxRecDepth 100000 in
set_option maxHeartbeats 8000000 in
theorem cycleLen (a a2 : Option Addr) (cap cap2 : Nat) (gs : List Int) (rs : List (List Int)) (w : World) (hE : Elems .i64 w a gs) (hR : Rows w a2 rs) (hgl : gs.length ≤ 4096) (hrl : rs.length ≤ 65536) (hg0 : 0 < gs.length)
    (hgr : ∀ i, i < gs.length → 0 ≤ gs.getD i 0 ∧ gs.getD i 0 < (rs.length : Int)) (hrow : ∀ k, k < rs.length → (rs.getD k []).length ≤ 131072) :
    Calls Try.prog 17 #[.slice a gs.length cap, .slice a2 rs.length cap2] w (LenQ rs gs w) := by
  have HGR : Hid (∀ i, i < gs.length → 0 ≤ gs.getD i 0 ∧ gs.getD i 0 < (rs.length : Int)) := hgr
  have HROW : Hid (∀ k, k < rs.length → (rs.getD k []).length ≤ 131072) := hrow
  obtain ⟨b, off, rfl, hc⟩ := hE.at hg0
  have hc0 : w.cell? ⟨b, off, none⟩ = some (.int .i64 (gs.getD 0 0)) := by simpa using hc 0 hg0
  have hr0 := hgr 0 hg0
  obtain ⟨fN, hfN⟩ : ∃ fN : Nat, gs.getD 0 0 = (fN : Int) := ⟨(gs.getD 0 0).toNat, by omega⟩
  rw [hfN] at hc0 hr0
  have HFN : Hid (gs.getD 0 0 = (fN : Int)) := hfN
  have hfn : fN < rs.length := by omega
  have HMEM : Hid ((fN : Int) ∈ gs) := by show _ ∈ _; rw [← hfN, getD_get _ _ hg0]; exact List.getElem_mem hg0
  clear hgr hrow hfN hr0 hc
  go_enter Try.func17, Try.ntmps17
  go_wp2_with fail
  refine (zzMarks _ _ gs rs.length _ hE (by omega) (by omega) HGR.out).mono ?_
  rintro e w1 ⟨g1, rfl, hM, hB1⟩
  have hE1 := hE.below hB1 (Nat.le_refl _)
  have hR1 := hR.below hB1 (Nat.le_refl _)
  have hmk := make22 rs.length (by omega)
  have HB1 : Hid (Below w.heap.size w w1) := hB1
  clear hE hR hc0 hB1
  go_wp2
  clear hmk
  go_loopw [9] (fun i wr => ∃ m : Nat, m ≤ rs.length ∧ i = .int .i64 m ∧ Arr wr w1.heap.size rs.length (fun k => .int .i64 (if k < m then -1 else 0)) ∧ Below w1.heap.size w1 wr) (fun i _ => rs.length - (intOf i).toNat)
  case atStart => exact ⟨0, Nat.zero_le _, rfl, (made_arr w1 _ _ _).congr (fun k _ => by simp), (Below.refl _ _).alloc (Nat.le_refl _) _⟩
  case round =>
    obtain ⟨m, hm, rfl, hA, hB⟩ := hrel
    by_cases hlt : m < rs.length
    · have hcd := hA.cell m hlt
      have hfd := hA.free m
      go_wp2
      go_roundw
      case rel => exact ⟨m + 1, by omega, by go_num, (hA.set m hlt _).congr (fun k _ => by
        by_cases e : k = m
        · simp only [if_pos e, if_pos (show k < m + 1 by omega)]
        · by_cases e2 : k < m
          · simp only [if_neg e, if_pos e2, if_pos (show k < m + 1 by omega)]
          · simp only [if_neg e, if_neg e2, if_neg (show ¬ k < m + 1 by omega)]), hB.setCell (Nat.le_refl _) _⟩
      case measure => simp [intOf]; omega
    · obtain rfl : m = rs.length := by omega
      have hA1 : Arr wr w1.heap.size rs.length (fun k => .int .i64 (-1)) := hA.congr (fun k hk => by simp [hk])
      have hcd := hA1.cell fN hfn
      have hfd := hA1.free fN
      have HA2 : Hid (Arr (wr.setCell ⟨w1.heap.size, fN, none⟩ (.int .i64 0)) w1.heap.size rs.length (fun k => .int .i64 (setF (fun _ => -1) fN 0 k))) := (hA1.set fN hfn (.int .i64 0)).congr (fun k _ => by
        by_cases e : k = fN
        · subst e; simp only [if_true, setF_at]
        · simp only [if_neg e, setF_ne _ _ _ e])
      have HB2 : Hid (Below w1.heap.size w1 (wr.setCell ⟨w1.heap.size, fN, none⟩ (.int .i64 0))) := hB.setCell (Nat.le_refl _) _
      clear hA hA1 hB
      go_wp2
      clear hcd hfd
      go_loopw [10] (fun r wr => ∃ (q : Nat) (f : Nat → Int), q ≤ gs.length ∧ r = .int .i64 q ∧ Arr wr w1.heap.size rs.length (fun k => .int .i64 (f k)) ∧ Hid (Dist rs gs (fN : Int) rs.length f ∧ Opt rs gs (fN : Int) f q) ∧ Below w1.heap.size w1 wr) (fun r _ => gs.length - (intOf r).toNat)
      case atStart => exact ⟨0, _, Nat.zero_le _, rfl, HA2.out, dist_start hfn, HB2.out⟩
      case round =>
        clear HA2 HB2
        obtain ⟨q, f0, hq, rfl, hA, hD, hB⟩ := hrel
        by_cases hql : q < gs.length
        · go_wp2
          go_loopw [11, 12] (fun ch i wr => ∃ (p : Nat) (c : Bool) (f : Nat → Int), p ≤ gs.length ∧ i = .int .i64 p ∧ ch = .bool c ∧ Arr wr w1.heap.size rs.length (fun k => .int .i64 (f k)) ∧ Hid (Mid rs gs (fN : Int) rs.length f0 f c p) ∧ Below w1.heap.size w1 wr) (fun _ i _ => gs.length - (intOf i).toNat)
          case atStart => exact ⟨0, false, f0, Nat.zero_le _, rfl, rfl, hA, Mid.start hD.out.1, hB⟩
          case round =>
            clear hA hB
            obtain ⟨p, c, f, hp, rfl, rfl, hA, hMid, hB⟩ := hrel
            by_cases hpl : p < gs.length
            · obtain ⟨b', off', hbb, hcg⟩ := hE1.at hg0
              have hb' : b' = b ∧ off' = off := by simpa [eq_comm] using hbb
              obtain ⟨rfl, rfl⟩ := hb'
              have hcp : wr.cell? ⟨b', off' + p, none⟩ = some (.int .i64 (gs.getD p 0)) := (hB.cell (p := ⟨b', off' + p, none⟩) (block_lt_of_cell (hcg p hpl))).trans (hcg p hpl)
              have hrp := HGR.out p hpl
              obtain ⟨iN, hiN⟩ : ∃ iN : Nat, gs.getD p 0 = (iN : Int) := ⟨(gs.getD p 0).toNat, by omega⟩
              rw [hiN] at hcp hrp
              have hin : iN < rs.length := by omega
              have HI : Hid (gs.getD p 0 = (iN : Int)) := hiN
              clear hbb hcg hiN hrp
              have hci := hA.cell iN hin
              have hfb : f iN < 65536 := by have h1 := hMid.out.dist.high iN hin; have h2 := seenN_le f rs.length; omega
              have hfl : -1 ≤ f iN := hMid.out.dist.low iN hin
              by_cases hneg : f iN < 0
              · go_wp2
                go_roundw
                case rel => exact ⟨p + 1, c, f, by omega, by go_num, rfl, hA, hMid.out.skip (by rw [HI.out]; simpa using hin) (by rw [HI.out]; simpa using hneg), hB⟩
                case measure => simp [intOf]; omega
              · obtain ⟨b2, off2, rfl, hcr⟩ := hR1.at (by omega)
                obtain ⟨ak, ck, hck, hEk, -⟩ := hcr iN hin
                have hckw : wr.cell? ⟨b2, off2 + iN, none⟩ = some (.slice ak (rs.getD iN []).length ck) := (hB.cell (p := ⟨b2, off2 + iN, none⟩) (block_lt_of_cell hck)).trans hck
                have hrl2 := HROW.out iN hin
                obtain ⟨row, hrow⟩ : ∃ row, row = rs.getD iN [] := ⟨_, rfl⟩
                rw [← hrow] at hckw hrl2 hEk
                have HRW : Hid (rowOf rs (iN : Int) = row) := by show _ = _; rw [hrow]; simp [rowOf]
                clear hrow hcr hck
                go_wp2
                go_loopw [11, 15] (fun ch bb wr => ∃ (t : Nat) (c : Bool) (f : Nat → Int), t ≤ row.length ∧ bb = .int .i64 t ∧ ch = .bool c ∧ Arr wr w1.heap.size rs.length (fun k => .int .i64 (f k)) ∧ Hid (Mid rs gs (fN : Int) rs.length f0 f c p ∧ Slack rs gs (fN : Int) rs.length f0 f (iN : Int) t ∧ 0 ≤ f iN) ∧ Below w1.heap.size w1 wr) (fun _ bb _ => row.length - (intOf bb).toNat)
                case atStart => exact ⟨0, c, f, Nat.zero_le _, rfl, rfl, hA, ⟨hMid.out, slack_zero _, by omega⟩, hB⟩
                case round =>
                  clear hA hB hMid hci hfb hfl hneg hcp hckw
                  obtain ⟨t, c, f, ht, rfl, rfl, hA, hMid, hB⟩ := hrel
                  by_cases htl : t < row.length
                  · obtain ⟨b3, off3, rfl, hce⟩ := hEk.at (by omega)
                    have hct : wr.cell? ⟨b3, off3 + t, none⟩ = some (.int .i64 (row.getD t 0)) := (hB.cell (p := ⟨b3, off3 + t, none⟩) (block_lt_of_cell (hce t htl))).trans (hce t htl)
                    obtain ⟨jz, hjz⟩ : ∃ jz, jz = row.getD t 0 := ⟨_, rfl⟩
                    rw [← hjz] at hct
                    have HJ : Hid ((rowOf rs (iN : Int)).getD t 0 = jz) := by show _ = _; rw [HRW.out, hjz]
                    have HTL : Hid (t < (rowOf rs (iN : Int)).length) := by show _ < _; rw [HRW.out]; exact htl
                    clear hjz hce
                    by_cases j1 : jz < 0
                    · have HSK : Hid (Slack rs gs (fN : Int) rs.length f0 f (iN : Int) (t + 1)) := slack_skip hMid.out.2.1 (fun j hj => by rw [HJ.out] at hj; omega)
                      go_wp2
                      go_roundw
                      case rel => exact ⟨t + 1, c, f, by omega, by go_num, rfl, hA, ⟨hMid.out.1, HSK.out, hMid.out.2.2⟩, hB⟩
                      case measure => simp [intOf]; omega
                    · by_cases j2 : jz < (rs.length : Int)
                      · obtain ⟨j, rfl⟩ := Int.eq_ofNat_of_zero_le (show 0 ≤ jz by omega)
                        have hjn : j < rs.length := by omega
                        have hmj : wr.cell? ⟨g1, j, none⟩ = some (.bool (gs.contains (j : Int))) := (hB.cell (p := ⟨g1, j, none⟩) hM.lt).trans (hM.cell j hjn)
                        have hcj := hA.cell j hjn
                        have hci := hA.cell iN hin
                        have hfj := hA.free j
                        have hfb : f iN < 65536 := by have h1 := hMid.out.1.dist.high iN hin; have h2 := seenN_le f rs.length; omega
                        have hfi : 0 ≤ f iN := hMid.out.2.2
                        have hfjb : f j < 65536 := by have h1 := hMid.out.1.dist.high j hjn; have h2 := seenN_le f rs.length; omega
                        have hfjl : -1 ≤ f j := hMid.out.1.dist.low j hjn
                        cases hcont : gs.contains (j : Int)
                        · rw [hcont] at hmj
                          have HSK : Hid (Slack rs gs (fN : Int) rs.length f0 f (iN : Int) (t + 1)) := slack_skip hMid.out.2.1 (fun j' hj' _ hg' => by
                            rw [HJ.out] at hj'
                            obtain rfl : j' = j := by omega
                            have : gs.contains (j' : Int) = true := by simpa using hg'
                            rw [hcont] at this; cases this)
                          clear hcont
                          go_wp2
                          go_roundw
                          case rel => exact ⟨t + 1, c, f, by omega, by go_num, rfl, hA, ⟨hMid.out.1, HSK.out, hMid.out.2.2⟩, hB⟩
                          case measure => simp [intOf]; omega
                        · rw [hcont] at hmj
                          have HG : Hid ((j : Int) ∈ gs) := by show _ ∈ _; simpa using hcont
                          clear hcont
                          cases hjf : ((j : Int) == (fN : Int))
                          · have HNE : Hid ((j : Int) ≠ (fN : Int)) := by show _ ≠ _; simpa using hjf
                            have HREL : Hid ((f j < 0 ∨ f iN + 1 < f j) → Mid rs gs (fN : Int) rs.length f0 (setF f j (f iN + 1)) true p ∧ Slack rs gs (fN : Int) rs.length f0 (setF f j (f iN + 1)) (iN : Int) (t + 1) ∧ 0 ≤ setF f j (f iN + 1) iN) :=
                              fun h => hMid.out.1.relax hMid.out.2.1 hin hjn hfi HTL.out HJ.out HG.out HNE.out h
                            have HKEEP : Hid (0 ≤ f j → f j ≤ f iN + 1 → Slack rs gs (fN : Int) rs.length f0 f (iN : Int) (t + 1)) := fun h1 h2 => slack_skip hMid.out.2.1 (fun j' hj' _ _ _ h0 => by
                              rw [HJ.out] at hj'
                              obtain rfl : j' = j := by omega
                              have := hMid.out.1.better iN hin (by simpa using h0)
                              rw [Int.toNat_natCast]
                              omega)
                            have HSET : Hid (∀ W : World, Arr W w1.heap.size rs.length (fun k => .int .i64 (f k)) → Arr (W.setCell ⟨w1.heap.size, j, none⟩ (.int .i64 (f iN + 1))) w1.heap.size rs.length (fun k => .int .i64 (setF f j (f iN + 1) k))) := fun W hW => (hW.set j hjn _).congr (fun k _ => by
                              by_cases e : k = j
                              · subst e; simp only [if_true, setF_at]
                              · simp only [if_neg e, setF_ne _ _ _ e])
                            by_cases i1 : f j < 0
                            · go_wp2
                              go_quiet (fail)
                              go_wp2
                              go_roundw
                              case rel =>
                                have h := HREL.out (.inl i1)
                                exact ⟨t + 1, true, setF f j (f iN + 1), by omega, by go_num, rfl, HSET.out _ (arrN hA nq), ⟨h.1, h.2.1, h.2.2⟩, (belowN hB _).setCell (Nat.le_refl _) _⟩
                              case measure => simp [intOf]; omega
                            · have i1d : decide (f j < 0) = false := decide_eq_false i1
                              by_cases i2 : f iN + 1 < f j
                              · go_wp2
                                go_quiet (fail)
                                go_wp2
                                go_roundw
                                case rel =>
                                  have h := HREL.out (.inr i2)
                                  exact ⟨t + 1, true, setF f j (f iN + 1), by omega, by go_num, rfl, HSET.out _ (arrN hA nq), ⟨h.1, h.2.1, h.2.2⟩, (belowN hB _).setCell (Nat.le_refl _) _⟩
                                case measure => simp [intOf]; omega
                              · have HK2 : Hid (Slack rs gs (fN : Int) rs.length f0 f (iN : Int) (t + 1)) := HKEEP.out (by omega) (by omega)
                                go_wp2
                                go_quiet (fail)
                                go_wp2
                                go_roundw
                                case rel => exact ⟨t + 1, c, f, by omega, by go_num, rfl, arrN hA nq, ⟨hMid.out.1, HK2.out, hMid.out.2.2⟩, belowN hB _⟩
                                case measure => simp [intOf]; omega
                          · have HSK : Hid (Slack rs gs (fN : Int) rs.length f0 f (iN : Int) (t + 1)) := slack_skip hMid.out.2.1 (fun j' hj' _ _ hne' => by
                              rw [HJ.out] at hj'
                              have : (j : Int) = (fN : Int) := by simpa using hjf
                              omega)
                            go_wp2
                            go_roundw
                            case rel => exact ⟨t + 1, c, f, by omega, by go_num, rfl, hA, ⟨hMid.out.1, HSK.out, hMid.out.2.2⟩, hB⟩
                            case measure => simp [intOf]; omega
                      · have HSK : Hid (Slack rs gs (fN : Int) rs.length f0 f (iN : Int) (t + 1)) := slack_skip hMid.out.2.1 (fun j hj hjn => by rw [HJ.out] at hj; omega)
                        go_wp2
                        go_roundw
                        case rel => exact ⟨t + 1, c, f, by omega, by go_num, rfl, hA, ⟨hMid.out.1, HSK.out, hMid.out.2.2⟩, hB⟩
                        case measure => simp [intOf]; omega
                  · obtain rfl : t = row.length := by omega
                    go_wp2
                    go_roundw
                    case rel => exact ⟨p + 1, c, f, by omega, by go_num, rfl, hA, hMid.out.1.done (by rw [HI.out, HRW.out]; exact hMid.out.2.1), hB⟩
                    case measure => simp [intOf]; omega
            · obtain rfl : p = gs.length := by omega
              cases c
              · have HDO : Hid (Dist rs gs (fN : Int) rs.length f ∧ Opt rs gs (fN : Int) f gs.length) := ⟨hMid.out.dist, opt_fix HGR.out HMEM.out hD.out.2 (hMid.out.same rfl) hMid.out.slack _⟩
                clear hMid hD hql hq hpl hp
                go_wp2
                go_loop [17, 18] (fun bv i => ∃ (p : Nat) (best : Int), p ≤ gs.length ∧ i = .int .i64 p ∧ bv = .int .i64 best ∧ -1 ≤ best ∧ best ≤ 65536 ∧ Hid (Best rs gs (fN : Int) f p best)) (fun _ i => gs.length - (intOf i).toNat)
                case atStart => exact ⟨0, -1, Nat.zero_le _, rfl, rfl, by omega, by omega, best_start⟩
                case round =>
                  obtain ⟨p, best, hp, rfl, rfl, hbl, hbh, hBest⟩ := hrel
                  by_cases hpl : p < gs.length
                  · obtain ⟨b', off', hbb, hcg⟩ := hE1.at hg0
                    have hb' : b' = b ∧ off' = off := by simpa [eq_comm] using hbb
                    obtain ⟨rfl, rfl⟩ := hb'
                    have hcp : wr.cell? ⟨b', off' + p, none⟩ = some (.int .i64 (gs.getD p 0)) := (hB.cell (p := ⟨b', off' + p, none⟩) (block_lt_of_cell (hcg p hpl))).trans (hcg p hpl)
                    have hrp := HGR.out p hpl
                    obtain ⟨iN, hiN⟩ : ∃ iN : Nat, gs.getD p 0 = (iN : Int) := ⟨(gs.getD p 0).toNat, by omega⟩
                    rw [hiN] at hcp hrp
                    have hin : iN < rs.length := by omega
                    have HI : Hid (gs.getD p 0 = (iN : Int)) := hiN
                    clear hbb hcg hiN hrp
                    have hci := hA.cell iN hin
                    have hfb : f iN < 65536 := by have h1 := HDO.out.1.high iN hin; have h2 := seenN_le f rs.length; omega
                    have hfl : -1 ≤ f iN := HDO.out.1.low iN hin
                    by_cases hneg : f iN < 0
                    · have HSK : Hid (Best rs gs (fN : Int) f (p + 1) best) := hBest.out.skip (fun x => by have := x.1; rw [HI.out] at this; simp at this; omega)
                      go_wp2
                      go_round
                      case rel => exact ⟨p + 1, best, by omega, by go_num, rfl, hbl, hbh, HSK.out⟩
                      case measure => simp [intOf]; omega
                    · obtain ⟨b2, off2, rfl, hcr⟩ := hR1.at (by omega)
                      obtain ⟨ak, ck, hck, hEk, -⟩ := hcr iN hin
                      have hckw : wr.cell? ⟨b2, off2 + iN, none⟩ = some (.slice ak (rs.getD iN []).length ck) := (hB.cell (p := ⟨b2, off2 + iN, none⟩) (block_lt_of_cell hck)).trans hck
                      have hrl2 := HROW.out iN hin
                      obtain ⟨row, hrow⟩ : ∃ row, row = rs.getD iN [] := ⟨_, rfl⟩
                      rw [← hrow] at hckw hrl2 hEk
                      have HRW : Hid (rowOf rs (iN : Int) = row) := by show _ = _; rw [hrow]; simp [rowOf]
                      have hEw := hEk.below hB (Nat.le_refl _)
                      clear hrow hcr hck hEk
                      go_wp2_with fail
                      refine (zzHas _ _ row _ _ hEw (by omega)).mono ?_
                      rintro e w5 ⟨rfl, rfl⟩
                      cases hcont : row.contains (fN : Int)
                      · have HSK : Hid (Best rs gs (fN : Int) f (p + 1) best) := hBest.out.skip (fun x => by
                          have h2 := x.2
                          rw [HI.out, HRW.out] at h2
                          have : row.contains (fN : Int) = true := by simpa using h2
                          rw [hcont] at this; cases this)
                        clear hcont
                        go_wp2
                        go_round
                        case rel => exact ⟨p + 1, best, by omega, by go_num, rfl, hbl, hbh, HSK.out⟩
                        case measure => simp [intOf]; omega
                      · have HF : Hid ((fN : Int) ∈ rowOf rs (gs.getD p 0)) := by show _ ∈ _; rw [HI.out, HRW.out]; simpa using hcont
                        have HTK : Hid ((best < 0 ∨ f iN + 1 < best) → Best rs gs (fN : Int) f (p + 1) (f iN + 1)) := fun h => by
                          have x := hBest.out.take (by rw [HI.out]; simp; omega) HF.out (by rw [HI.out]; simpa using h)
                          rw [HI.out] at x; simpa using x
                        have HKP : Hid (0 ≤ best → best ≤ f iN + 1 → Best rs gs (fN : Int) f (p + 1) best) := fun h1 h2 => hBest.out.keep h1 (by rw [HI.out]; simpa using h2)
                        clear hcont
                        by_cases k1 : best < 0
                        · go_wp2
                          go_round
                          case rel => exact ⟨p + 1, f iN + 1, by omega, by go_num, rfl, by omega, by omega, HTK.out (.inl k1)⟩
                          case measure => simp [intOf]; omega
                        · by_cases k2 : f iN + 1 < best
                          · go_wp2
                            go_round
                            case rel => exact ⟨p + 1, f iN + 1, by omega, by go_num, rfl, by omega, by omega, HTK.out (.inr k2)⟩
                            case measure => simp [intOf]; omega
                          · have HKK : Hid (Best rs gs (fN : Int) f (p + 1) best) := HKP.out (by omega) (by omega)
                            go_wp2
                            go_round
                            case rel => exact ⟨p + 1, best, by omega, by go_num, rfl, hbl, hbh, HKK.out⟩
                            case measure => simp [intOf]; omega
                  · obtain rfl : p = gs.length := by omega
                    go_wp2
                    go_ret
                    exact ⟨best, rfl, by rw [HFN.out]; exact bestLen HGR.out HMEM.out HDO.out.1 HDO.out.2 hBest.out, hbl, hbh, HB1.out.trans (hB.mono HB1.out.size)⟩
              · have HDO : Hid (Dist rs gs (fN : Int) rs.length f ∧ Opt rs gs (fN : Int) f (q + 1)) := ⟨hMid.out.dist, opt_step HGR.out HMEM.out hD.out.2 hMid.out.better hMid.out.slack⟩
                go_wp2
                go_roundw
                case rel => exact ⟨q + 1, f, by omega, by go_num, hA, HDO.out, hB⟩
                case measure => simp [intOf]; omega
        · obtain rfl : q = gs.length := by omega
          obtain ⟨f, hff⟩ : ∃ f, f = f0 := ⟨_, rfl⟩
          rw [← hff] at hA hD
          have HDO : Hid (Dist rs gs (fN : Int) rs.length f ∧ Opt rs gs (fN : Int) f gs.length) := hD.out
          clear hD hff hql hq
          go_wp2
          go_loop [17, 18] (fun bv i => ∃ (p : Nat) (best : Int), p ≤ gs.length ∧ i = .int .i64 p ∧ bv = .int .i64 best ∧ -1 ≤ best ∧ best ≤ 65536 ∧ Hid (Best rs gs (fN : Int) f p best)) (fun _ i => gs.length - (intOf i).toNat)
          case atStart => exact ⟨0, -1, Nat.zero_le _, rfl, rfl, by omega, by omega, best_start⟩
          case round =>
            obtain ⟨p, best, hp, rfl, rfl, hbl, hbh, hBest⟩ := hrel
            by_cases hpl : p < gs.length
            · obtain ⟨b', off', hbb, hcg⟩ := hE1.at hg0
              have hb' : b' = b ∧ off' = off := by simpa [eq_comm] using hbb
              obtain ⟨rfl, rfl⟩ := hb'
              have hcp : wr.cell? ⟨b', off' + p, none⟩ = some (.int .i64 (gs.getD p 0)) := (hB.cell (p := ⟨b', off' + p, none⟩) (block_lt_of_cell (hcg p hpl))).trans (hcg p hpl)
              have hrp := HGR.out p hpl
              obtain ⟨iN, hiN⟩ : ∃ iN : Nat, gs.getD p 0 = (iN : Int) := ⟨(gs.getD p 0).toNat, by omega⟩
              rw [hiN] at hcp hrp
              have hin : iN < rs.length := by omega
              have HI : Hid (gs.getD p 0 = (iN : Int)) := hiN
              clear hbb hcg hiN hrp
              have hci := hA.cell iN hin
              have hfb : f iN < 65536 := by have h1 := HDO.out.1.high iN hin; have h2 := seenN_le f rs.length; omega
              have hfl : -1 ≤ f iN := HDO.out.1.low iN hin
              by_cases hneg : f iN < 0
              · have HSK : Hid (Best rs gs (fN : Int) f (p + 1) best) := hBest.out.skip (fun x => by have := x.1; rw [HI.out] at this; simp at this; omega)
                go_wp2
                go_round
                case rel => exact ⟨p + 1, best, by omega, by go_num, rfl, hbl, hbh, HSK.out⟩
                case measure => simp [intOf]; omega
              · obtain ⟨b2, off2, rfl, hcr⟩ := hR1.at (by omega)
                obtain ⟨ak, ck, hck, hEk, -⟩ := hcr iN hin
                have hckw : wr.cell? ⟨b2, off2 + iN, none⟩ = some (.slice ak (rs.getD iN []).length ck) := (hB.cell (p := ⟨b2, off2 + iN, none⟩) (block_lt_of_cell hck)).trans hck
                have hrl2 := HROW.out iN hin
                obtain ⟨row, hrow⟩ : ∃ row, row = rs.getD iN [] := ⟨_, rfl⟩
                rw [← hrow] at hckw hrl2 hEk
                have HRW : Hid (rowOf rs (iN : Int) = row) := by show _ = _; rw [hrow]; simp [rowOf]
                have hEw := hEk.below hB (Nat.le_refl _)
                clear hrow hcr hck hEk
                go_wp2_with fail
                refine (zzHas _ _ row _ _ hEw (by omega)).mono ?_
                rintro e w5 ⟨rfl, rfl⟩
                cases hcont : row.contains (fN : Int)
                · have HSK : Hid (Best rs gs (fN : Int) f (p + 1) best) := hBest.out.skip (fun x => by
                    have h2 := x.2
                    rw [HI.out, HRW.out] at h2
                    have : row.contains (fN : Int) = true := by simpa using h2
                    rw [hcont] at this; cases this)
                  clear hcont
                  go_wp2
                  go_round
                  case rel => exact ⟨p + 1, best, by omega, by go_num, rfl, hbl, hbh, HSK.out⟩
                  case measure => simp [intOf]; omega
                · have HF : Hid ((fN : Int) ∈ rowOf rs (gs.getD p 0)) := by show _ ∈ _; rw [HI.out, HRW.out]; simpa using hcont
                  have HTK : Hid ((best < 0 ∨ f iN + 1 < best) → Best rs gs (fN : Int) f (p + 1) (f iN + 1)) := fun h => by
                    have x := hBest.out.take (by rw [HI.out]; simp; omega) HF.out (by rw [HI.out]; simpa using h)
                    rw [HI.out] at x; simpa using x
                  have HKP : Hid (0 ≤ best → best ≤ f iN + 1 → Best rs gs (fN : Int) f (p + 1) best) := fun h1 h2 => hBest.out.keep h1 (by rw [HI.out]; simpa using h2)
                  clear hcont
                  by_cases k1 : best < 0
                  · go_wp2
                    go_round
                    case rel => exact ⟨p + 1, f iN + 1, by omega, by go_num, rfl, by omega, by omega, HTK.out (.inl k1)⟩
                    case measure => simp [intOf]; omega
                  · by_cases k2 : f iN + 1 < best
                    · go_wp2
                      go_round
                      case rel => exact ⟨p + 1, f iN + 1, by omega, by go_num, rfl, by omega, by omega, HTK.out (.inr k2)⟩
                      case measure => simp [intOf]; omega
                    · have HKK : Hid (Best rs gs (fN : Int) f (p + 1) best) := HKP.out (by omega) (by omega)
                      go_wp2
                      go_round
                      case rel => exact ⟨p + 1, best, by omega, by go_num, rfl, hbl, hbh, HKK.out⟩
                      case measure => simp [intOf]; omega
            · obtain rfl : p = gs.length := by omega
              go_wp2
              go_ret
              exact ⟨best, rfl, by rw [HFN.out]; exact bestLen HGR.out HMEM.out HDO.out.1 HDO.out.2 hBest.out, hbl, hbh, HB1.out.trans (hB.mono HB1.out.size)⟩
end Go.Proofs.Qxb6601400a
