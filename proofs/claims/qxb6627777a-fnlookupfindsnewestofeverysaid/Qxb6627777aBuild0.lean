import Derived.Test.Qxb6627777aBuild
namespace Go.Proofs.Qxb6627777a
open Go.RowKit Go.Maps Go.WideMaps

set_option maxRecDepth 100000 in
set_option maxHeartbeats 3200000 in
theorem build_zero (a : Option Addr) (c : Nat) (nid : ByteArray) (nks : List Value) (nrv : Bool) (w : World) (hnk : Key nks) (hnid : nid.size ≤ 9223372036854775807) (ex : Bool) :
    Calls Try.prog 7 #[.slice a 0 c, .bool ex, .string nid, .agg nks.toArray, .bool nrv] w fun e w' => ∃ p, e = .returned (.pointer (some ⟨p, 0, none⟩)) ∧ Reg w' p (made [] ex ⟨nid, nks, nrv⟩) ∧ Below w.heap.size w w' := by
  obtain ⟨i0, hi0, hz0, hz1, hz2⟩ := info_parts Try.info31
  have hmm := @run_makeMap Try.prog
  obtain ⟨B, hB0⟩ : ∃ B : List Bd, B = [] := ⟨_, rfl⟩
  rw [← hB0]
  have HB : Hid (B.length = 0) := by rw [hB0]; rfl
  have HK : Hid (Keys32 B) := by rw [hB0]; intro i; exact zkey_ok
  have hnl := hnk.1
  have HNK : Hid (Key nks) := hnk
  clear hnk hB0
  go_enter Try.func7, Try.ntmps7
  go_wp2_with (first | (refine wpList_box23 rfl _ rfl nks rfl hnl ?_) | (at_make; refine wpList_make_own _ rfl _ _ 37 rfl (w.heap.size + 1) 31 i0 (.agg zc) 35 Try.underlying37 hi0 hz0 hz1 .i64 .i64 _ 1 rfl rfl (by omega) (by rw [hz2]; omega) (by unfold maxLen; omega) (by simp) ?_; intro w1 hown hgrow))
  have hb1 : Below (w.heap.size + 1) (w.alloc (.cells nks.toArray 23)) w1 := (Below.refl _ _).grown hgrow (by simp) (by simp)
  have hsz1 : w.heap.size + 1 ≤ w1.heap.size := by have := hb1.size; simpa using this
  have hmap : (w1.alloc (.map #[] 0)).ownsMap Try.prog 9 (plainElem (H := Unit) Try.prog 28) w1.heap.size 0 (Dm B 0) := World.ownsMap_made _ _ _ _
  have hrow : (w1.alloc (.map #[] 0)).ownsRow (w.heap.size + 1) 31 35 (.slice (some ⟨w.heap.size + 1, 0, none⟩) 0 1) 0 (rowL B 0) := by
    have := hown.alloc (.map #[] 0)
    simpa [rowL] using this
  have hb := hb1.alloc hsz1 (.map #[] 0)
  obtain ⟨M, hM⟩ : ∃ M, M = w1.heap.size := ⟨_, rfl⟩
  obtain ⟨wr, hwr0⟩ : ∃ wr, wr = w1.alloc (.map #[] 0) := ⟨_, rfl⟩
  rw [← hM] at hmap hsz1 ⊢
  rw [← hwr0] at hmap hrow hb ⊢
  clear hown hgrow hb1 hM hwr0
  refine wp_loop_rounds 1 ?_
  rw [rounds_succ]
  have hwr : IntKind.u64.wrap (0 : Int) = (0 : Int) := by rw [IntKind.wrap_u64]; rfl
  cases ex with
  | false =>
    have HR : Reg _ _ (made B false ⟨nid, nks, nrv⟩) := reg_mk 0 HB.out HK.out hrow hmap
    have HBL : Below w.heap.size w (wr.alloc (.cells #[.slice none 0 0, .slice (some ⟨(w.heap.size + 1), 0, none⟩) 0 1, .map (some M), .map none, .slice none 0 0] 47)) := below_box hb
    clear HK hmm hrow hmap hb
    go_wp2_with (go_at_call 10; refine (newreg _ _ _ _ _).mono ?_; rintro e w3 ⟨rfl, hw3⟩; subst hw3)
    go_ret
    exact ⟨_, rfl, HR, HBL⟩
  | true =>
    have hMG := row_ne_map hrow hmap
    have hGb : w.heap.size + 1 ≤ (w.heap.size + 1) := by
      rcases hrow.2 with ⟨e, _⟩ | ⟨g', cap', cur, e, hg, _⟩
      · simp at e
      · simp at e
        obtain ⟨rfl, rfl⟩ := e
        exact hg
    have hws : w.heap.size + 1 ≤ wr.heap.size := by have := hb.size; simpa using this
    have HRA : Hid (wr.rangeAt w.heap.size 0 nks) := range_box hb
    have HLN : Hid ((bcells nid nks 0 nrv).length = 1 * 35) := by rw [bcells_len _ _ _ _ hnl]; rfl
    have HON' : Hid (∀ v ∈ bcells nid nks 0 nrv, v.oneCell' = true) := bcells_one nid nks 0 nrv HNK.out
    have hi23 : (Try.prog.info? 23).map (·.size) = some nks.length := by rw [hnl, Try.size23]
    have HROWN : Hid (wr.ownsRow (w.heap.size + 1) 31 35 (.slice (some ⟨(w.heap.size + 1), 0, none⟩) 0 1) 0 (rowL B 0)) := hrow
    have HMAP : Hid (wr.ownsMap Try.prog 9 (plainElem (H := Unit) Try.prog 28) M 0 (Dm B 0)) := hmap
    have HBEL : Hid (Below (w.heap.size + 1) (w.alloc (.cells nks.toArray 23)) wr) := hb
    have hkey := key_ok nid (by unfold maxLen; exact hnid)
    have hwf := u64_wf 0 (by omega)
    clear hrow hmap hb hmm
    go_upto_region 10 with (first | (refine wpList_load_mid rfl 23 _ rfl w.heap.size 0 rfl nks _ HRA.out Try.underlying23 rfl hi23 ?_) | (refine wpList_build31 rfl _ _ _ _ rfl nid nks 0 nrv rfl rfl rfl rfl hnl ?_) | (refine wpList_buildSlice37 rfl _ rfl nid nks 0 nrv rfl hnl ?_) | (at_builtin; refine wpList_append_lies _ rfl _ _ _ rfl (w.heap.size + 1) 31 i0 _ 35 64 Try.underlying37 hi0 hz0 hz1 hz2 rfl (by omega) (.slice (some ⟨(w.heap.size + 1), 0, none⟩) 0 1) 0 (rowL B 0) rfl (HROWN.out.alloc _) ⟨wr.heap.size, 0, none⟩ 1 1 (bcells nid nks 0 nrv) rfl HLN.out (World.news_of_block (cs := (bcells nid nks 0 nrv).toArray) (t := 31) (fr := (0, 0)) (heap_alloc_new wr _)) HON'.out (by omega) (by unfold maxLen; omega) (by omega) (by simp; omega) (wr.heap.size + 1) (by simp) ?_; intro gg cap2 w2 hown2 hgrow2 hat hlt2))
    have HM2 : Hid (w2.ownsMap Try.prog 9 (plainElem (H := Unit) Try.prog 28) M 0 (Dm B 0)) := (HMAP.out.alloc _).kept hgrow2 (by simp only [Value.ownBlock]; exact fun e => hMG (Option.some.inj e))
    have HB2 : Hid (Below (w.heap.size + 1) (w.alloc (.cells nks.toArray 23)) w2) := ((HBEL.out.alloc hws _).grown hgrow2 (by simp; omega) (by intro j hj; simp [Value.ownBlock] at hj; omega))
    have HR2 : Hid (w2.ownsRow (w.heap.size + 1) 31 35 (.slice (some ⟨gg, 0, none⟩) (0 + 1) cap2) (0 + 1) (rowL (made B true ⟨nid, nks, nrv⟩) (0 + 1))) := by
      rw [show made B true ⟨nid, nks, nrv⟩ = B ++ [⟨nid, nks, nrv⟩] from rfl, rowL_snoc B _ 0 HB.out]
      exact hown2
    have hne2 := row_ne_map HR2.out HM2.out
    clear hown2 hgrow2 hat hlt2 HROWN HMAP HBEL HRA
    go_wp2_with (first | (at_mapUpdate; refine wpList_mapUpdate_own _ rfl _ _ _ 38 rfl 9 28 law9 Try.underlying38 _ M 0 _ rfl HM2.out (by unfold maxLen; omega) _ _ _ rfl rfl hkey _ [] (plainElem_int Try.underlying28 hwf) ?_; intro w3 hmap3 hgrow3) | (go_at_call 10; refine (newreg _ _ _ _ _).mono ?_; rintro e w4 ⟨rfl, hw4⟩; subst hw4))
    go_ret
    have R1 := HR2.out.kept hgrow3 (.inr (by simp only [Value.ownBlock]; exact fun e => hne2 (Option.some.inj e).symm))
    have R2 : w3.ownsMap Try.prog 9 (plainElem (H := Unit) Try.prog 28) M (0 + 1) (Dm (made B true ⟨nid, nks, nrv⟩) (0 + 1)) := by
      rw [show made B true ⟨nid, nks, nrv⟩ = B ++ [⟨nid, nks, nrv⟩] from rfl, Dm_snoc B _ 0 HB.out]
      exact hmap3
    have R3 := HB2.out.grown hgrow3 (by have := HB2.out.size; simp at this; omega) (by intro j hj; simp at hj; omega)
    exact ⟨_, rfl, reg_mk (0 + 1) (by simp [made, HB.out]) (keys_snoc HK.out HNK.out) R1 R2, below_box R3⟩
end Go.Proofs.Qxb6627777a
