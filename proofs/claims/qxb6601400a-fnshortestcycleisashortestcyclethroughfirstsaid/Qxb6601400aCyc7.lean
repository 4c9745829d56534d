import Derived.Test.Qxb6601400aCyc6
import Derived.Deep.LoopGhost
namespace Go.Proofs.Qxb6601400a
open Go.RowKit

/-- The search's state in memory and in mind. -/
structure Sea (rs : List (List Int)) (gs : List Int) (first : Int) (B : Nat) (w wr : World) (k : Nat) (ao : Option Addr) (c : Nat) (L : List Int) (Q : List Int) (dep par : Nat → Nat) (m : Int → Option Int) (h cc : Nat) : Prop where
  rest : L = Q.drop h
  bfs : Bfs rs gs first Q dep par m h cc
  num : k + h = gs.length + 1
  map : MapIs wr B Q.length m
  own : Own wr (B + 1) ao c L
  bel : Below B w wr
  size : B + 1 ≤ wr.heap.size

def CycQ (rs : List (List Int)) (gs : List Int) (w : World) (e : Ending) (w' : World) : Prop :=
  ∃ ao c ps D, e = .returned (.slice ao ps.length c) ∧ Elems .i64 w' ao ps ∧ Cycle rs gs (gs.getD 0 0) ps D ∧ Below w.heap.size w w'

theorem below_grown {B : Nat} {w w1 w2 : World} (h : Below B w w1) (hg : w1.grownBy w2 (some B)) (hs : B ≤ w1.heap.size) : Below B w w2 :=
  h.grown hg hs (fun k e => by injection e with e; omega)

theorem wpList_app1 {W : World} {ops : Array Oper} {rest : List Oper} {o : Oper} {a : Act} {Q : Exit → Act → World → Prop} (hg : o.guard = none) (s x : Operand)
    (hop : o.op = Op.call { callee := Callee.builtin Builtin.append, args := #[s, x], argTypes := #[22, 22] }) (ht : o.type = 22) (vs vx : Value) (hs : a.eval s = vs) (hx : a.eval x = vx) (v' : Value) (W' : World)
    (hrun : (Builtin.append_ #[22, 22] 22 #[vs, vx]).run Try.prog W = .ok v' W') (h : wpList Try.prog ops Q rest (a.put o.dst v') W') : wpList Try.prog ops Q (o :: rest) a W := by
  refine wpList_plain hg fun K hK => ?_
  unfold Oper.wp
  simp [execOp, hop, resolve, invoke, builtin, hs, hx, ht, hrun, Result.andThen]
  exact hK _ _ h

/-- The path behind s steps up. -/
def pathTo (fst : Int) (u : Nat → Int) (s : Nat) : List Int := fst :: (List.range s).map u
theorem pathTo_len (fst : Int) (u : Nat → Int) (s : Nat) : (pathTo fst u s).length = s + 1 := by simp [pathTo]
theorem pathTo_succ (fst : Int) (u : Nat → Int) (s : Nat) : pathTo fst u (s + 1) = pathTo fst u s ++ [u s] := by simp [pathTo, List.range_succ]
theorem pathTo_get (fst : Int) (u : Nat → Int) (s i : Nat) (h : i < s) : (pathTo fst u s).getD (i + 1) 0 = u i := by simp [pathTo, h]
/-- The path turned round. -/
def turned (u : Nat → Int) (D : Nat) : List Int := (List.range (D + 1)).map (fun k => u (D - k))
theorem turned_len (u : Nat → Int) (D : Nat) : (turned u D).length = D + 1 := by simp [turned]
theorem turned_get (u : Nat → Int) (D k : Nat) (h : k ≤ D) : (turned u D).getD k 0 = u (D - k) := by
  have : k < D + 1 := by omega
  simp [turned, this]
theorem turned_cell (fst : Int) (u : Nat → Int) (D : Nat) (he : u D = fst) (j : Nat) (hj : j < D + 1) :
    (if 1 ≤ j ∧ j < 1 + D then (pathTo fst u D).getD (1 + (D - 1 - (j - 1))) 0 else (pathTo fst u D).getD j 0) = (turned u D).getD j 0 := by
  rw [turned_get u D j (by omega)]
  by_cases c : 1 ≤ j ∧ j < 1 + D
  · rw [if_pos c, show 1 + (D - 1 - (j - 1)) = (D - j) + 1 from by omega, pathTo_get _ _ _ _ (by omega)]
  · obtain rfl : j = 0 := by omega
    rw [if_neg c, Nat.sub_zero, he]; rfl
theorem turned_zero (fst : Int) (u : Nat → Int) (he : u 0 = fst) : pathTo fst u 0 = turned u 0 := by simp [pathTo, turned, he]

theorem drop_cons {Q L : List Int} {h : Nat} {z : Int} (e : z :: L = Q.drop h) : h < Q.length ∧ Q.getD h 0 = z ∧ L = Q.drop (h + 1) := by
  have hl : h < Q.length := by
    rcases Nat.lt_or_ge h Q.length with x | x
    · exact x
    · rw [List.drop_of_length_le x] at e; cases e
  rw [List.drop_eq_getElem_cons hl] at e
  injection e with e1 e2
  exact ⟨hl, by rw [getD_get _ _ hl, e1], e2⟩

set_option maxRecDepth 100000 in
set_option maxHeartbeats 8000000 in
theorem shortest (a a2 : Option Addr) (cap cap2 : Nat) (gs : List Int) (rs : List (List Int)) (w : World) (hE : Elems .i64 w a gs) (hR : Rows w a2 rs) (hgl : gs.length ≤ 4096) (hrl : rs.length ≤ 65536) (hg0 : 0 < gs.length)
    (hgr : ∀ i, i < gs.length → 0 ≤ gs.getD i 0 ∧ gs.getD i 0 < (rs.length : Int)) (hasc : ∀ i j, i ≤ j → j < gs.length → gs.getD i 0 ≤ gs.getD j 0) (hrow : ∀ k, k < rs.length → (rs.getD k []).length ≤ 131072)
    (hrng : ∀ k i, -9223372036854775808 ≤ (rs.getD k []).getD i 0 ∧ (rs.getD k []).getD i 0 ≤ 9223372036854775807)
    (hex : ∃ d v, Walk rs gs (gs.getD 0 0) d v ∧ gs.getD 0 0 ∈ rowOf rs v) :
    Calls Try.prog 25 #[.slice a gs.length cap, .slice a2 rs.length cap2] w (CycQ rs gs w) := by
  have HGR : Hid (∀ v, v ∈ gs → 0 ≤ v ∧ v < (rs.length : Int)) := fun v hv => by
    obtain ⟨i, hi, rfl⟩ := List.mem_iff_getElem.1 hv
    have := hgr i hi
    rwa [getD_get _ _ hi] at this
  have HASC : Hid (∀ i j, i ≤ j → j < gs.length → gs.getD i 0 ≤ gs.getD j 0) := hasc
  have HROW : Hid (∀ k, k < rs.length → (rs.getD k []).length ≤ 131072) := hrow
  have HRNG : Hid (∀ k i, -9223372036854775808 ≤ (rs.getD k []).getD i 0 ∧ (rs.getD k []).getD i 0 ≤ 9223372036854775807) := hrng
  obtain ⟨b, off, rfl, hc⟩ := hE.at hg0
  have hc0 : w.cell? ⟨b, off, none⟩ = some (.int .i64 (gs.getD 0 0)) := by simpa using hc 0 hg0
  have hr0 := hgr 0 hg0
  have HMEM0 : gs.getD 0 0 ∈ gs := by rw [getD_get _ _ hg0]; exact List.getElem_mem hg0
  obtain ⟨fst, hfst⟩ : ∃ fst, fst = gs.getD 0 0 := ⟨_, rfl⟩
  rw [← hfst] at hc0 hr0 HMEM0 hex
  have HFST : Hid (fst = gs.getD 0 0) := hfst
  have HEX : Hid (∃ d v, Walk rs gs fst d v ∧ fst ∈ rowOf rs v) := hex
  have HMEM : Hid (fst ∈ gs) := HMEM0
  clear hgr hasc hrow hrng hfst hex HMEM0 hc
  have hmm := makeMap43 gs.length
  obtain ⟨w1, hput, hM1, hG1⟩ := (MapIs.start w).put (by omega) (k := fst) (v := fst) (by omega) (by omega)
  have hBw1 : Below w.heap.size w w1 := below_grown ((Below.refl _ _).alloc (Nat.le_refl _) _) hG1 (by simp)
  have hsz1 : w.heap.size + 1 ≤ w1.heap.size := by have := hG1.size; simp at this; omega
  go_enter Try.func25, Try.ntmps25
  go_wp2
  clear hmm hput
  go_loopg [7] gs.length (fun k qv wr => ∃ L ao c Q dep par m h, qv = .slice ao (List.length L) c ∧ Hid (Sea rs gs fst w.heap.size w wr (k + 1) ao c L Q dep par m h 0))
  case atStart =>
    refine ⟨[fst], _, _, [fst], _, _, _, 0, rfl, ⟨rfl, Bfs.start HMEM.out, by omega, ?_, ?_, hBw1.alloc (by omega) _, by simp; omega⟩⟩
    · exact hM1.block (Below.heap_alloc w1 _ _ (by omega))
    · exact Own.one w1 _ fst hsz1
  case round =>
    clear hM1 hG1 hBw1 hsz1
    obtain ⟨L, ao, c, Q, dep, par, m, h, rfl, hS⟩ := hrel
    cases L with
    | nil =>
      exfalso
      obtain ⟨d, v, hw, hf⟩ := HEX.out
      have := (hS.out.bfs.least hw hf).1
      have e := hS.out.rest
      have : (Q.drop h).length = 0 := by rw [← e]; rfl
      simp at this
      omega
    | cons z L' =>
      obtain ⟨hhQ, hzQ, hL'⟩ := drop_cons hS.out.rest
      have hzg : z ∈ gs := by rw [← hzQ]; exact hS.out.bfs.grp h hhQ
      have hzr := HGR.out z hzg
      obtain ⟨iN, rfl⟩ := Int.eq_ofNat_of_zero_le hzr.1
      have hin : iN < rs.length := by omega
      obtain ⟨g, goff, hao, -, hcells, -, -⟩ := hS.out.own.cells (by have := hS.out.own.le; simp at this; omega)
      subst hao
      have hq0 : wr.cell? ⟨g, goff, none⟩ = some (.int .i64 (iN : Int)) := by simpa using hcells 0 (by simp)
      obtain ⟨b2, off2, rfl, hcr⟩ := hR.at (by omega)
      obtain ⟨ak, ck, hck, hEk, -⟩ := hcr iN hin
      have hckw : wr.cell? ⟨b2, off2 + iN, none⟩ = some (.slice ak (rs.getD iN []).length ck) := (hS.out.bel.cell (p := ⟨b2, off2 + iN, none⟩) (block_lt_of_cell hck)).trans hck
      have hrl2 := HROW.out iN hin
      have HRG : Hid (∀ i, -9223372036854775808 ≤ (rs.getD iN []).getD i 0 ∧ (rs.getD iN []).getD i 0 ≤ 9223372036854775807) := fun i => HRNG.out iN i
      obtain ⟨row, hrow⟩ : ∃ row, row = rs.getD iN [] := ⟨_, rfl⟩
      rw [← hrow] at hckw hrl2 hEk HRG
      have HRW : Hid (rowOf rs (iN : Int) = row) := by show _ = _; rw [hrow]; simp [rowOf]
      obtain ⟨K, hK⟩ : ∃ K, K = gk := ⟨_, rfl⟩
      rw [← hK] at hS
      have HK : Hid (K = gk) := hK
      clear hK
      have HST : Hid (Sea rs gs fst w.heap.size w wr (K + 1) (some ⟨g, goff, none⟩) c ((iN : Int) :: L') Q dep par m h 0 ∧ h < Q.length ∧ Q.getD h 0 = (iN : Int)) := ⟨hS.out, hhQ, hzQ⟩
      clear hrow hcr hck hcells hS hL' hhQ hzQ hzg hzr
      go_wp2
      clear hq0 hckw
      go_loopg [7, 41] row.length (fun kk qv cv wr => ∃ (t : Nat) (L : List Int) (ao : Option Addr) (c : Nat) (Q : List Int) (dep par : Nat → Nat) (m : Int → Option Int) (h : Nat), t + kk = row.length ∧ cv = .int .i64 t ∧ qv = .slice ao (List.length L) c ∧ Hid (Sea rs gs fst w.heap.size w wr (K + 1) ao c L Q dep par m h t ∧ h < Q.length ∧ Q.getD h 0 = (iN : Int)))
      case atStart => exact ⟨0, _, _, _, _, _, _, _, _, Nat.zero_add _, rfl, rfl, HST.out⟩
      case round =>
        clear HST
        obtain ⟨t, L, ao, c, Q, dep, par, m, h, ht, rfl, rfl, hS⟩ := hrel
        have HT : Hid (t + gk = row.length) := ht
        have hgkl : t ≤ row.length := by omega
        clear ht
        by_cases htl : t < row.length
        · obtain ⟨b3, off3, rfl, hce⟩ := hEk.at (by omega)
          have hct : wr.cell? ⟨b3, off3 + t, none⟩ = some (.int .i64 (row.getD t 0)) := (hS.out.1.bel.cell (p := ⟨b3, off3 + t, none⟩) (block_lt_of_cell (hce t htl))).trans (hce t htl)
          have hjr := HRG.out t
          obtain ⟨j, hj⟩ : ∃ j, j = row.getD t 0 := ⟨_, rfl⟩
          rw [← hj] at hct hjr
          have HJ : Hid ((rowOf rs (Q.getD h 0)).getD t 0 = j) := by show _ = _; rw [hS.out.2.2, HRW.out, hj]
          have HTL : Hid (t < (rowOf rs (Q.getD h 0)).length) := by show _ < _; rw [hS.out.2.2, HRW.out]; exact htl
          clear hj hce
          cases hjf : (j == fst)
          · have HNE : Hid (j ≠ fst) := by show _ ≠ _; simpa using hjf
            obtain ⟨cv, hok⟩ := hS.out.1.map.ok (k := j) hjr
            cases hmj : (m j).isSome
            · have HNEW : Hid (m j = none) := by show _ = _; simpa using hmj
              rw [hmj] at hok
              clear hmj
              go_wp2_with fail
              refine (binSearch _ _ gs j _ (hE.below hS.out.1.bel (Nat.le_refl _)) (by omega) HASC.out).mono ?_
              rintro e w2 ⟨ix, rfl, rfl⟩
              clear hok
              cases hcg : gs.contains j
              · have hcn : j ∉ gs := fun hx => by
                  have hc1 : gs.contains j = true := by simpa using hx
                  rw [hcg] at hc1
                  cases hc1
                have HSK : Hid (Sea rs gs fst w.heap.size w wr (K + 1) ao c L Q dep par m h (t + 1)) := ⟨hS.out.1.rest, hS.out.1.bfs.skip (by rw [HJ.out]; exact HNE.out) (.inr (by rw [HJ.out]; exact hcn)), hS.out.1.num, hS.out.1.map, hS.out.1.own, hS.out.1.bel, hS.out.1.size⟩
                clear hcg hcn
                go_wp2
                go_roundg (gk - 1)
                case measure => have := HT.out; omega
                case rel => exact ⟨t + 1, L, ao, c, Q, dep, par, m, h, by have := HT.out; omega, by go_num, rfl, HSK.out, hS.out.2.1, hS.out.2.2⟩
              · have HG : Hid (j ∈ gs) := by show _ ∈ _; simpa using hcg
                clear hcg
                have hQl : Q.length ≤ gs.length := hS.out.1.bfs.le
                have hLl : L.length ≤ 4096 := by rw [hS.out.1.rest]; simp; omega
                obtain ⟨w2, hput, hM2, hG2⟩ := hS.out.1.map.put (by omega) (k := j) (v := (iN : Int)) hjr (by omega)
                have hs2 : w.heap.size + 1 ≤ w2.heap.size := Nat.le_trans hS.out.1.size hG2.size
                obtain ⟨ao', c', w3, happ, hO4, -, -, hB3⟩ := app1 (w2.alloc (.cells #[.int .i64 j] 3)) (w.heap.size + 1) ao c L j w2.heap.size ((hS.out.1.own.grown hG2 (by omega)).alloc _) (by simp) (by omega) (by simp; omega)
                have HNS : Hid (Sea rs gs fst w.heap.size w w3 (K + 1) ao' c' (L ++ [j]) (Q ++ [j]) (setN dep Q.length (dep h + 1)) (setN par Q.length h) (putM m j (Q.getD h 0)) h (t + 1) ∧ h < (Q ++ [j]).length ∧ (Q ++ [j]).getD h 0 = (iN : Int)) := by
                  refine ⟨⟨?_, hS.out.1.bfs.push hS.out.2.1 HTL.out HJ.out HNE.out HNEW.out HG.out, hS.out.1.num, ?_, hO4, ?_, ?_⟩, by simp; have := hS.out.2.1; omega, by rw [getD_app _ _ _ hS.out.2.1]; exact hS.out.2.2⟩
                  · rw [hS.out.1.rest, List.drop_append_of_le_length (by have := hS.out.2.1; omega)]
                  · have e : w3.heap[w.heap.size]? = w2.heap[w.heap.size]? := (hB3.block w.heap.size (by omega)).trans (Below.heap_alloc w2 _ _ (by omega))
                    rw [hS.out.2.2, show (Q ++ [j]).length = Q.length + 1 from by simp]
                    exact hM2.block e
                  · exact ((below_grown hS.out.1.bel hG2 (by have := hS.out.1.size; omega)).alloc (by omega) _).trans (hB3.mono (by omega))
                  · have := hB3.size; simp at this; omega
                have HLL : Hid ((L ++ [j]).length = L.length + 1) := by show _ = _; simp
                have HAPP : Hid ((Builtin.append_ #[22, 22] 22 #[.slice ao L.length c, .slice (some ⟨w2.heap.size, 0, none⟩) 1 1]).run Try.prog (w2.alloc (.cells #[.int .i64 j] 3)) = .ok (.slice ao' (L.length + 1) c') w3) := happ
                clear hM2 hG2 hO4 hB3 happ
                go_wp2_with (at_builtin; refine wpList_app1 rfl _ _ rfl rfl _ _ rfl rfl _ _ HAPP.out ?_)
                go_roundg (gk - 1)
                case measure => have := HT.out; omega
                case rel => exact ⟨t + 1, L ++ [j], ao', c', _, _, _, _, h, by have := HT.out; omega, by go_num, by rw [HLL.out], HNS.out⟩
            · have HSK : Hid (Sea rs gs fst w.heap.size w wr (K + 1) ao c L Q dep par m h (t + 1)) := ⟨hS.out.1.rest, hS.out.1.bfs.skip (by rw [HJ.out]; exact HNE.out) (.inl (by rw [HJ.out]; intro hx; rw [hx] at hmj; cases hmj)), hS.out.1.num, hS.out.1.map, hS.out.1.own, hS.out.1.bel, hS.out.1.size⟩
              rw [hmj] at hok
              clear hmj
              go_wp2
              go_roundg (gk - 1)
              case measure => have := HT.out; omega
              case rel => exact ⟨t + 1, L, ao, c, Q, dep, par, m, h, by have := HT.out; omega, by go_num, rfl, HSK.out, hS.out.2.1, hS.out.2.2⟩
          · have HF : Hid (fst ∈ rowOf rs (Q.getD h 0)) := by
              show _ ∈ _
              have e : j = fst := by simpa using hjf
              rw [← e, ← HJ.out, getD_get _ _ HTL.out]; exact List.getElem_mem _
            have HUD : Hid (dep h < gs.length) := hS.out.1.bfs.dep_lt hS.out.2.1
            have HU0 : Hid (upQ Q par h 0 = (iN : Int)) := hS.out.2.2
            have HUN : Hid (∀ s, s < dep h → upQ Q par h s ≠ fst) := fun s hs => hS.out.1.bfs.upQ_ne hS.out.2.1 hs
            have HUE : Hid (upQ Q par h (dep h) = fst) := hS.out.1.bfs.upQ_end hS.out.2.1
            have HUM : Hid (∀ s, s ≤ dep h → m (upQ Q par h s) = some (upQ Q par h (s + 1))) := fun s hs => hS.out.1.bfs.upQ_map hS.out.2.1 hs
            have HUR : Hid (∀ s, s ≤ dep h → 0 ≤ upQ Q par h s ∧ upQ Q par h s < (rs.length : Int)) := fun s hs => HGR.out _ (hS.out.1.bfs.upQ_grp hS.out.2.1 hs)
            have HCYC : Hid (Cycle rs gs fst (turned (upQ Q par h) (dep h) ++ [fst]) (dep h)) := hS.out.1.bfs.cycle hS.out.2.1 HF.out (by simp [turned_len]) (fun k hk => by rw [getD_app _ _ _ (by rw [turned_len]; omega), turned_get _ _ _ hk]) (by
              have := getD_app_last (turned (upQ Q par h) (dep h)) fst
              rwa [turned_len] at this)
            generalize upQ Q par h = u at *
            generalize hdh : dep h = D at *
            clear hdh
            have hDl : D < 4096 := by have := HUD.out; omega
            have hs0 : w.heap.size + 1 ≤ wr.heap.size := hS.out.1.size
            have HO0 : Hid (Own (wr.alloc (.cells #[.int .i64 fst] 3)) (w.heap.size + 1) (some ⟨wr.heap.size, 0, none⟩) 1 [fst]) := Own.one wr _ fst hs0
            have HM0 : Hid (MapIs (wr.alloc (.cells #[.int .i64 fst] 3)) w.heap.size Q.length m) := hS.out.1.map.block (Below.heap_alloc wr _ _ (by omega))
            have HB0 : Hid (Below w.heap.size w (wr.alloc (.cells #[.int .i64 fst] 3))) := hS.out.1.bel.alloc (by omega) _
            clear HF hS HJ HTL
            go_wp2
            go_loopg [11, 12] D (fun kk pv kv wt => ∃ (s gp cp : Nat), s + kk = D ∧ pv = .slice (some ⟨gp, 0, none⟩) (s + 1) cp ∧ kv = .int .i64 (u s) ∧ Hid (Own wt (w.heap.size + 1) (some ⟨gp, 0, none⟩) cp (pathTo fst u s) ∧ MapIs wt w.heap.size Q.length m ∧ Below w.heap.size w wt ∧ w.heap.size + 1 ≤ wt.heap.size))
            case atStart => exact ⟨0, _, _, Nat.zero_add _, rfl, by rw [HU0.out], HO0.out, HM0.out, HB0.out, by simp; omega⟩
            case round =>
              clear HO0 HM0 HB0 hs0
              obtain ⟨s, gp, cp, hsk, rfl, rfl, hI⟩ := hrel
              have HSK : Hid (s + gk = D) := hsk
              have hsD : s ≤ D := by omega
              clear hsk
              have hsz : w.heap.size + 1 ≤ wr.heap.size := hI.out.2.2.2
              have hur := HUR.out s hsD
              by_cases hlt : s < D
              · have hne : (u s != fst) = true := by rw [bne_iff_ne]; exact HUN.out s hlt
                obtain ⟨ao', c', w3, happ, hO3, -, hloc, hB3⟩ := app1 (wr.alloc (.cells #[.int .i64 (u s)] 3)) (w.heap.size + 1) (some ⟨gp, 0, none⟩) cp (pathTo fst u s) (u s) wr.heap.size (hI.out.1.alloc _) (by simp) (by rw [pathTo_len]; omega) (by simp; omega)
                rw [pathTo_len] at happ
                obtain ⟨gp', rfl⟩ : ∃ gp', ao' = some ⟨gp', 0, none⟩ := by
                  rcases hloc with e | e
                  · exact ⟨gp, e⟩
                  · exact e
                have hM3 : MapIs w3 w.heap.size Q.length m := hI.out.2.1.block ((hB3.block w.heap.size (by omega)).trans (Below.heap_alloc wr _ _ (by omega)))
                have hget := hM3.get (k := u s) (by omega) (HUM.out s hsD)
                have HNI : Hid (Own w3 (w.heap.size + 1) (some ⟨gp', 0, none⟩) c' (pathTo fst u (s + 1)) ∧ MapIs w3 w.heap.size Q.length m ∧ Below w.heap.size w w3 ∧ w.heap.size + 1 ≤ w3.heap.size) := by
                  refine ⟨by rw [pathTo_succ]; exact hO3, hM3, (hI.out.2.2.1.alloc (by omega) _).trans (hB3.mono (by omega)), ?_⟩
                  have := hB3.size; simp at this; omega
                have HAPP : Hid ((Builtin.append_ #[22, 22] 22 #[.slice (some ⟨gp, 0, none⟩) (s + 1) cp, .slice (some ⟨wr.heap.size, 0, none⟩) 1 1]).run Try.prog (wr.alloc (.cells #[.int .i64 (u s)] 3)) = .ok (.slice (some ⟨gp', 0, none⟩) (s + 1 + 1) c') w3) := happ
                clear happ hO3 hB3 hM3 hloc
                go_wp2_with (at_builtin; refine wpList_app1 rfl _ _ rfl rfl _ _ rfl rfl _ _ HAPP.out ?_)
                go_roundg (gk - 1)
                case measure => have := HSK.out; omega
                case rel => exact ⟨s + 1, gp', c', by have := HSK.out; omega, rfl, rfl, HNI.out⟩
              · obtain rfl : s = D := by omega
                have hne : (u s != fst) = false := by rw [HUE.out]; simp
                have hcp : s + 1 ≤ cp := by have := hI.out.1.le; rw [pathTo_len] at this; exact this
                by_cases hD0 : s = 0
                · have HOT : Hid (Own wr (w.heap.size + 1) (some ⟨gp, 0, none⟩) cp (turned u s)) := by
                    show Own _ _ _ _ _
                    subst hD0
                    rw [← turned_zero fst u HUE.out]; exact hI.out.1
                  have HBT : Hid (Below w.heap.size w wr) := hI.out.2.2.1
                  clear hI
                  subst hD0
                  by_cases hcp1 : cp = 1
                  · subst hcp1
                    go_wp2_with fail
                    refine (reverse26z _ _ _).mono ?_
                    rintro e w4 ⟨rfl, rfl⟩
                    obtain ⟨ao', c', w6, happ, hO6, -, -, hB6⟩ := app1 (wr.alloc (.cells #[.int .i64 fst] 3)) (w.heap.size + 1) (some ⟨gp, 0, none⟩) 1 (turned u 0) fst wr.heap.size (HOT.out.alloc _) (by simp) (by rw [turned_len]; omega) (by simp; omega)
                    rw [turned_len] at happ
                    have HAPP : Hid ((Builtin.append_ #[22, 22] 22 #[.slice (some ⟨gp, 0, none⟩) (0 + 1) 1, .slice (some ⟨wr.heap.size, 0, none⟩) 1 1]).run Try.prog (wr.alloc (.cells #[.int .i64 fst] 3)) = .ok (.slice ao' (0 + 1 + 1) c') w6) := happ
                    have HO6 : Hid (Own w6 (w.heap.size + 1) ao' c' (turned u 0 ++ [fst])) := hO6
                    have HB6 : Hid (Below w.heap.size w w6) := (HBT.out.alloc (by omega) _).trans (hB6.mono (by omega))
                    clear happ hO6 hB6
                    go_wp2_with (at_builtin; refine wpList_app1 rfl _ _ rfl rfl _ _ rfl rfl _ _ HAPP.out ?_)
                    go_ret
                    exact ⟨ao', c', turned u 0 ++ [fst], 0, by rw [show (turned u 0 ++ [fst]).length = 0 + 1 + 1 from by simp [turned_len]]; rfl, HO6.out.elems, by rw [← HFST.out]; exact HCYC.out, HB6.out⟩
                  · have hcp2 : 1 < cp := by omega
                    go_wp2_with fail
                    refine (reverse26z _ _ _).mono ?_
                    rintro e w4 ⟨rfl, rfl⟩
                    obtain ⟨ao', c', w6, happ, hO6, -, -, hB6⟩ := app1 (wr.alloc (.cells #[.int .i64 fst] 3)) (w.heap.size + 1) (some ⟨gp, 0, none⟩) cp (turned u 0) fst wr.heap.size (HOT.out.alloc _) (by simp) (by rw [turned_len]; omega) (by simp; omega)
                    rw [turned_len] at happ
                    have HAPP : Hid ((Builtin.append_ #[22, 22] 22 #[.slice (some ⟨gp, 0, none⟩) (0 + 1) cp, .slice (some ⟨wr.heap.size, 0, none⟩) 1 1]).run Try.prog (wr.alloc (.cells #[.int .i64 fst] 3)) = .ok (.slice ao' (0 + 1 + 1) c') w6) := happ
                    have HO6 : Hid (Own w6 (w.heap.size + 1) ao' c' (turned u 0 ++ [fst])) := hO6
                    have HB6 : Hid (Below w.heap.size w w6) := (HBT.out.alloc (by omega) _).trans (hB6.mono (by omega))
                    clear happ hO6 hB6
                    go_wp2_with (at_builtin; refine wpList_app1 rfl _ _ rfl rfl _ _ rfl rfl _ _ HAPP.out ?_)
                    go_ret
                    exact ⟨ao', c', turned u 0 ++ [fst], 0, by rw [show (turned u 0 ++ [fst]).length = 0 + 1 + 1 from by simp [turned_len]]; rfl, HO6.out.elems, by rw [← HFST.out]; exact HCYC.out, HB6.out⟩
                · have hcp2 : 1 < cp := by omega
                  have hPA : Arr wr gp (s + 1) (fun j => .int .i64 ((pathTo fst u s).getD j 0)) := by
                    obtain ⟨g', off', ha, -, h1, h2, h3⟩ := hI.out.1.cells (by omega)
                    injection ha with ha
                    injection ha with e1 e2
                    subst e1 e2
                    refine ⟨fun i hi => ?_, h3, ?_⟩
                    · have := h1 i (by rw [pathTo_len]; exact hi)
                      rwa [Nat.zero_add] at this
                    · have := h1 0 (by rw [pathTo_len]; omega)
                      exact block_lt_of_cell this
                  have HOW : Hid (∀ w4 : World, Arr w4 gp (s + 1) (fun j => .int .i64 (if 1 ≤ j ∧ j < 1 + s then (pathTo fst u s).getD (1 + (s - 1 - (j - 1))) 0 else (pathTo fst u s).getD j 0)) → wr.grownBy w4 (some gp) → (∀ i, (wr.cell? ⟨gp, i, none⟩).isSome = true → (w4.cell? ⟨gp, i, none⟩).isSome = true) → Own w4 (w.heap.size + 1) (some ⟨gp, 0, none⟩) cp (turned u s) ∧ Below w.heap.size w w4) := by
                    intro w4 hA4 hG4 hS4
                    obtain ⟨g', off', ha, hbg, h1, h2, h3⟩ := hI.out.1.cells (by omega)
                    injection ha with ha
                    injection ha with e1 e2
                    subst e1 e2
                    refine ⟨⟨by rw [turned_len]; omega, fun _ => ⟨gp, 0, rfl, hbg, fun i hi => ?_, fun i hi => ?_, hA4.free⟩⟩, hI.out.2.2.1.grown hG4 (by omega) (fun k hk => by injection hk with hk; omega)⟩
                    · rw [turned_len] at hi
                      rw [Nat.zero_add, hA4.cell i hi, turned_cell fst u s HUE.out i hi]
                    · rw [Nat.zero_add]
                      exact hS4 i (by have := h2 i hi; rwa [Nat.zero_add] at this)
                  clear hI
                  go_wp2_with fail
                  refine (reverse26b gp (s + 1) 1 s _ (fun j => (pathTo fst u s).getD j 0) _ hPA (by omega) (by omega) (by omega)).mono ?_
                  rintro e w4 ⟨rfl, hA4, hG4, hS4⟩
                  obtain ⟨hO4, hB4⟩ := HOW.out w4 hA4 hG4 hS4
                  have HOT : Hid (Own w4 (w.heap.size + 1) (some ⟨gp, 0, none⟩) cp (turned u s)) := hO4
                  have HBT : Hid (Below w.heap.size w w4) := hB4
                  have hsz4 : w.heap.size + 1 ≤ w4.heap.size := Nat.le_trans hsz hG4.size
                  clear hA4 hG4 hS4 hO4 hB4 hPA
                  obtain ⟨ao', c', w6, happ, hO6, -, -, hB6⟩ := app1 (w4.alloc (.cells #[.int .i64 fst] 3)) (w.heap.size + 1) (some ⟨gp, 0, none⟩) cp (turned u s) fst w4.heap.size (HOT.out.alloc _) (by simp) (by rw [turned_len]; omega) (by simp; omega)
                  rw [turned_len] at happ
                  have HAPP : Hid ((Builtin.append_ #[22, 22] 22 #[.slice (some ⟨gp, 0, none⟩) (s + 1) cp, .slice (some ⟨w4.heap.size, 0, none⟩) 1 1]).run Try.prog (w4.alloc (.cells #[.int .i64 fst] 3)) = .ok (.slice ao' (s + 1 + 1) c') w6) := happ
                  have HO6 : Hid (Own w6 (w.heap.size + 1) ao' c' (turned u s ++ [fst])) := hO6
                  have HB6 : Hid (Below w.heap.size w w6) := (HBT.out.alloc (by omega) _).trans (hB6.mono (by omega))
                  clear happ hO6 hB6
                  go_wp2_with (at_builtin; refine wpList_app1 rfl _ _ rfl rfl _ _ rfl rfl _ _ HAPP.out ?_)
                  go_ret
                  exact ⟨ao', c', turned u s ++ [fst], s, by rw [show (turned u s ++ [fst]).length = s + 1 + 1 from by simp [turned_len]]; rfl, HO6.out.elems, by rw [← HFST.out]; exact HCYC.out, HB6.out⟩
        · obtain rfl : t = row.length := by omega
          have HNX : Hid (Bfs rs gs fst Q dep par m (h + 1) 0) := hS.out.1.bfs.next hS.out.2.1 (by rw [hS.out.2.2, HRW.out]; exact Nat.le_refl _)
          cases L with
          | nil =>
            exfalso
            have e : (Q.drop h).length = 0 := by rw [← hS.out.1.rest]; rfl
            have := hS.out.2.1
            simp at e
            omega
          | cons z2 L2 =>
            obtain ⟨-, -, hL2⟩ := drop_cons hS.out.1.rest
            have hcl : L2.length + 1 ≤ c := by have := hS.out.1.own.le; simpa using this
            obtain ⟨g2, goff2, hao2, -⟩ := hS.out.1.own.cells (by omega)
            subst hao2
            have hKp : 1 ≤ K := by have h1 := hS.out.1.num; have h2 := hS.out.1.bfs.le; have h3 := hS.out.2.1; omega
            have HNS : Hid (∀ ao' c', Own wr (w.heap.size + 1) ao' c' L2 → Sea rs gs fst w.heap.size w wr (K - 1 + 1) ao' c' L2 Q dep par m (h + 1) 0) := fun ao' c' hO => ⟨hL2, HNX.out, by have := hS.out.1.num; omega, hS.out.1.map, hO, hS.out.1.bel, hS.out.1.size⟩
            have HTA : Hid (Own wr (w.heap.size + 1) (some ⟨g2, goff2 + 1, none⟩) (c - 1) L2) := hS.out.1.own.tail
            clear hL2
            by_cases hc1 : c = 1
            · subst hc1
              obtain rfl : L2 = [] := List.length_eq_zero_iff.1 (by omega)
              go_wp2
              go_roundg (K - 1)
              case measure => have := HK.out; omega
              case rel => exact ⟨[], _, 0, Q, dep, par, m, h + 1, rfl, HNS.out _ _ (Own.bare _ _ _)⟩
            · have hc2 : 1 < c := by omega
              go_wp2
              go_roundg (K - 1)
              case measure => have := HK.out; omega
              case rel => exact ⟨L2, _, _, Q, dep, par, m, h + 1, rfl, HNS.out _ _ HTA.out⟩
end Go.Proofs.Qxb6601400a
