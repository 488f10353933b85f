import Derived.Test.Qxb6627777aLook
import Derived.Deep.RegionHeld3
import Derived.Deep.AppendLies
import Derived.StillTactics
import Derived.Laws.Pointers
namespace Go.Proofs.Qxb6627777a
open Go.RowKit Go.Maps Go.WideMaps

theorem Try.info31 : (Try.prog.info? 31).map (fun i => (i.zero, i.size, i.bytes)) = some (some (.agg zc), 35, 64) := by kernel_rfl
theorem bslice37 (id : ByteArray) (ks : List Value) (i : Int) (r : Bool) (w : World) (h : ks.length = 32) :
    (Instr.buildSlice 37 1 #[(0, .agg (bcells id ks i r).toArray)]).run Try.prog w = .ok (.slice (some ⟨w.heap.size, 0, none⟩) 1 1) (w.alloc (.cells (bcells id ks i r).toArray 31)) :=
  buildSlice37 (bcells id ks i r) id ks i r w h rfl
/-- 'build' and 'buildSlice' of a binding, as the walk meets them: under names of their own, so that they are not laid open cell by cell -/
def build31op (p0 p1 p2 p3 : Nat × Value) : Sem Value := Instr.build 31 #[p0, p1, p2, p3]
def bslice37op (p : Nat × Value) : Sem Value := Instr.buildSlice 37 1 #[p]
theorem build31_name (f : Nat × Operand → Nat × Value) (x0 x1 x2 x3 : Nat × Operand) : Instr.build 31 (Array.map f #[x0, x1, x2, x3]) = build31op (f x0) (f x1) (f x2) (f x3) := by simp [build31op]
theorem bslice37_name (f : Nat × Operand → Nat × Value) (x : Nat × Operand) : Instr.buildSlice 37 1 (Array.map f #[x]) = bslice37op (f x) := by simp [bslice37op]
theorem build31_run (id : ByteArray) (ks : List Value) (i : Int) (r : Bool) (w : World) (h : ks.length = 32) :
    (build31op (0, .string id) (1, .agg ks.toArray) (2, .int .u64 i) (3, .bool r)).run Try.prog w = .ok (.agg (bcells id ks i r).toArray) w := build31 id ks i r w h
theorem bslice37_run (id : ByteArray) (ks : List Value) (i : Int) (r : Bool) (w : World) (h : ks.length = 32) :
    (bslice37op (0, .agg (bcells id ks i r).toArray)).run Try.prog w = .ok (.slice (some ⟨w.heap.size, 0, none⟩) 1 1) (w.alloc (.cells (bcells id ks i r).toArray 31)) := bslice37 id ks i r w h
attribute [local go_sem ↓] build31_name bslice37_name
attribute [local go_sem] build31_run bslice37_run

/-- what the round reads of 'bs[k]' -/
def SB (b off : Nat) (id : ByteArray) (ks : List Value) (rv : Bool) (w : World) : Prop :=
  w.cell? ⟨b, off, none⟩ = some (.string id) ∧ w.rangeAt b (off + 1) ks ∧ w.cell? ⟨b, off + 33, none⟩ = some (.bool rv)
theorem SB.alloc {b off : Nat} {id : ByteArray} {ks : List Value} {rv : Bool} {w : World} (h : SB b off id ks rv w) (o : Obj) : SB b off id ks rv (w.alloc o) := by
  obtain ⟨h1, h2, h3⟩ := h
  refine ⟨?_, World.rangeAt_alloc h2 o, ?_⟩
  · rw [World.cell?_alloc_lt _ _ _ (lt_cell h1)]; exact h1
  · rw [World.cell?_alloc_lt _ _ _ (lt_cell h3)]; exact h3
theorem SB.far {b off : Nat} {id : ByteArray} {ks : List Value} {rv : Bool} {w w' : World} {row : Option Nat} (h : SB b off id ks rv w) (hg : w.grownBy w' row) (hne : some b ≠ row) : SB b off id ks rv w' := by
  obtain ⟨h1, h2, h3⟩ := h
  refine ⟨?_, fun j v hv => ?_, ?_⟩
  · rw [hg.cell_far _ (lt_cell h1) hne]; exact h1
  · have := h2 j v hv
    rw [hg.cell_far _ (lt_cell this) hne]; exact this
  · rw [hg.cell_far _ (lt_cell h3) hne]; exact h3
theorem SB.below {b off : Nat} {id : ByteArray} {ks : List Value} {rv : Bool} {w w' : World} {B : Nat} (h : SB b off id ks rv w) (hb : Below B w w') (hB : b < B) : SB b off id ks rv w' := by
  obtain ⟨h1, h2, h3⟩ := h
  refine ⟨?_, fun j v hv => ?_, ?_⟩
  · rw [hb.cell (by exact hB)]; exact h1
  · rw [hb.cell (by exact hB)]; exact h2 j v hv
  · rw [hb.cell (by exact hB)]; exact h3

theorem u64_small (k : Nat) (h : k ≤ 1048576) : IntKind.u64.wrap (k : Int) = (k : Int) := by rw [IntKind.wrap_u64]; omega
theorem u64_wf (k : Nat) (h : k ≤ 1048576) : (Lit.int .u64 (k : Int)).wf = true := by
  simp [Lit.wf, IntKind.min, IntKind.max, IntKind.bits, IntKind.signed]
  omega
theorem row_ne_map {H : Type} {w : World} {base e size g n cap : Nat} {xs : List Value} {P : Program} {k : TypeId} {R : Value → Option (DataW H × List MemPlace)} {m n' : Nat} {D : DataW H}
    (h : w.ownsRow base e size (.slice (some ⟨g, 0, none⟩) n cap) n xs) (h' : w.ownsMap P k R m n' D) : m ≠ g := by
  rintro rfl
  obtain ⟨es, clock, hb, _⟩ := h'
  rcases h.2 with ⟨e, _⟩ | ⟨g', cap', cur, e, _, hg, _⟩
  · simp at e
  · simp at e
    obtain ⟨rfl, rfl⟩ := e
    rw [hg] at hb
    cases hb

theorem reg_mk {w : World} {B : List Bd} {base G cap M : Nat} (n : Nat) (hn : B.length = n) (hK : Keys32 B) (hrow : w.ownsRow base 31 35 (.slice (some ⟨G, 0, none⟩) n cap) n (rowL B n))
    (hmap : w.ownsMap Try.prog 9 (plainElem (H := Unit) Try.prog 28) M n (Dm B n)) : Reg (w.alloc (.cells #[.slice none 0 0, .slice (some ⟨G, 0, none⟩) n cap, .map (some M), .map none, .slice none 0 0] 47)) w.heap.size B := by
  subst hn
  refine ⟨G, cap, M, base, ?_, ?_, hrow.alloc _, hmap.alloc _, hK⟩
  · rw [cell_of_row _ _ _ _ _ _ (heap_alloc_last w _)]; rfl
  · rw [cell_of_row _ _ _ _ _ _ (heap_alloc_last w _)]; rfl
theorem below_box {w wr : World} {o o' : Obj} (h : Below (w.heap.size + 1) (w.alloc o) wr) : Below w.heap.size w (wr.alloc o') := by
  have hs := h.size
  simp at hs
  exact (((Below.refl _ w).alloc (Nat.le_refl _) o).trans (h.mono (by omega))).alloc (by omega) o'

theorem keys_snoc {B : List Bd} {x : Bd} (h : Keys32 B) (hx : Key x.key) : Keys32 (B ++ [x]) := fun i => by
  rcases Nat.lt_trichotomy i B.length with hl | he | hg
  · rw [bd_append_lt B [x] i hl]; exact h i
  · subst he; rw [bd_append_at]; exact hx
  · have : bd (B ++ [x]) i = Bd.zero := by
      unfold bd List.getD
      rw [List.getElem?_eq_none (by simp; omega)]
      rfl
    rw [this]; exact zkey_ok
theorem rowL_snoc (B : List Bd) (x : Bd) (n : Nat) (hn : B.length = n) : rowL (B ++ [x]) (n + 1) = rowL B n ++ bcells x.id x.key n x.rev := by
  subst hn
  rw [rowL, rowL_append B [x] _ (Nat.le_refl _), bc, bd_append_at]
theorem Dm_snoc (B : List Bd) (x : Bd) (n : Nat) (hn : B.length = n) : Dm (B ++ [x]) (n + 1) = (Dm B n).put (keyL x.id) (.lit (.int .u64 n)) := by
  subst hn
  rw [Dm, Dm_append B [x] _ (Nat.le_refl _), bd_append_at]
theorem range_box {w wr : World} {ks : List Value} (h : Below (w.heap.size + 1) (w.alloc (.cells ks.toArray 23)) wr) : wr.rangeAt w.heap.size 0 ks := fun j v hv => by
  rw [h.cell (by show w.heap.size < _; omega), Nat.zero_add, cell_of_row _ _ _ _ _ _ (heap_alloc_last w _)]
  simpa using hv
/-- the bindings that a call of zzBuild lays out -/
def made (B : List Bd) (ex : Bool) (x : Bd) : List Bd := if ex then B ++ [x] else B

theorem newreg (a : Option Addr) (n c : Nat) (m : Option Nat) (w : World) :
    Calls Try.prog 10 #[.slice a n c, .map m] w fun e w' => e = .returned (.pointer (some ⟨w.heap.size, 0, none⟩)) ∧ w.alloc (.cells #[.slice none 0 0, .slice a n c, .map m, .map none, .slice none 0 0] 47) = w' := by
  go_enter Try.func10, Try.ntmps10
  go_wp2
  go_ret
  exact ⟨rfl, rfl⟩

set_option maxRecDepth 100000 in
set_option maxHeartbeats 3200000 in
theorem build_pos (b off n c : Nat) (B : List Bd) (nid : ByteArray) (nks : List Value) (nrv : Bool) (w : World) (h0 : 0 < n) (hn : n ≤ 65536) (hB : B.length = n) (hK : Keys32 B) (hI : ∀ i, (bd B i).id.size ≤ 9223372036854775807)
    (hc : ∀ i, i < n → SB b (off + i * 34) (bd B i).id (bd B i).key (bd B i).rev w) (hnk : Key nks) (hnid : nid.size ≤ 9223372036854775807) (ex : Bool) :
    Calls Try.prog 7 #[.slice (some ⟨b, off, none⟩) n c, .bool ex, .string nid, .agg nks.toArray, .bool nrv] w fun e w' => ∃ p, e = .returned (.pointer (some ⟨p, 0, none⟩)) ∧ Reg w' p (made B ex ⟨nid, nks, nrv⟩) ∧ Below w.heap.size w w' := by
  obtain ⟨i0, hi0, hz0, hz1, hz2⟩ := info_parts Try.info31
  have hbl : b < w.heap.size := lt_cell (hc 0 h0).1
  have hmm := @run_makeMap Try.prog
  have HC : Hid (∀ i, i < n → SB b (off + i * 34) (bd B i).id (bd B i).key (bd B i).rev w) := hc
  have HK : Hid (Keys32 B) := hK
  have HI : Hid (∀ i, (bd B i).id.size ≤ 9223372036854775807) := hI
  have HB : Hid (B.length = n) := hB
  have hnl := hnk.1
  have HNK : Hid (Key nks) := hnk
  clear hc hK hI hB hnk
  go_enter Try.func7, Try.ntmps7
  go_wp2_with (first | (refine wpList_box23 rfl _ rfl nks rfl hnl ?_) | (at_make; refine wpList_make_own _ rfl _ _ 37 rfl (w.heap.size + 1) 31 i0 (.agg zc) 35 Try.underlying37 hi0 hz0 hz1 .i64 .i64 _ (n + 1) rfl rfl (by omega) (by rw [hz2]; omega) (by unfold maxLen; omega) (by simp) ?_; intro w1 hown hgrow))
  have hb1 : Below (w.heap.size + 1) (w.alloc (.cells nks.toArray 23)) w1 := (Below.refl _ _).grown hgrow (by simp) (by simp)
  have hsz1 : w.heap.size + 1 ≤ w1.heap.size := by have := hb1.size; simpa using this
  have hmp1 : (w1.alloc (.map #[] 0)).ownsMap Try.prog 9 (plainElem (H := Unit) Try.prog 28) w1.heap.size 0 (Dm B 0) := World.ownsMap_made _ _ _ _
  have hrow1 : (w1.alloc (.map #[] 0)).ownsRow (w.heap.size + 1) 31 35 (.slice (some ⟨w.heap.size + 1, 0, none⟩) 0 (n + 1)) 0 (rowL B 0) := by
    have := hown.alloc (.map #[] 0)
    simpa [rowL] using this
  have hb2 := hb1.alloc hsz1 (.map #[] 0)
  obtain ⟨M, hM⟩ : ∃ M, M = w1.heap.size := ⟨_, rfl⟩
  rw [← hM] at hmp1 hsz1 ⊢
  clear hown hgrow hb1 hM
  go_loopw [11, 13] (fun v i wr => ∃ k G cap : Nat, k ≤ n ∧ i = .int .i64 k ∧ v = .slice (some ⟨G, 0, none⟩) k cap ∧ wr.ownsRow (w.heap.size + 1) 31 35 (.slice (some ⟨G, 0, none⟩) k cap) k (rowL B k) ∧
      wr.ownsMap Try.prog 9 (plainElem (H := Unit) Try.prog 28) M k (Dm B k) ∧ Below (w.heap.size + 1) (w.alloc (.cells nks.toArray 23)) wr) (fun _ i _ => n - (intOf i).toNat)
  case atStart => exact ⟨0, w.heap.size + 1, n + 1, Nat.zero_le _, rfl, rfl, hrow1, hmp1, hb2⟩
  case round =>
    obtain ⟨k, G, cap, hk, rfl, rfl, hrow, hmap, hb⟩ := hrel
    clear hrow1 hmp1 hb2
    by_cases hlt : k < n
    · have hMG := row_ne_map hrow hmap
      have hGb : w.heap.size + 1 ≤ G := by
        rcases hrow.2 with ⟨e, _⟩ | ⟨g', cap', cur, e, hg, _⟩
        · simp at e
        · simp at e
          obtain ⟨rfl, rfl⟩ := e
          exact hg
      have hSB := ((HC.out k hlt).alloc (.cells nks.toArray 23)).below hb (by omega)
      obtain ⟨id, hid⟩ : ∃ id, id = (bd B k).id := ⟨_, rfl⟩
      obtain ⟨kk, hkk⟩ : ∃ kk, kk = (bd B k).key := ⟨_, rfl⟩
      obtain ⟨rv, hrv⟩ : ∃ rv, rv = (bd B k).rev := ⟨_, rfl⟩
      have hkey := key_ok id (by rw [hid]; unfold maxLen; exact HI.out k)
      have hK32 : Key kk := by rw [hkk]; exact HK.out k
      have HROW : Hid (rowL B (k + 1) = rowL B k ++ bcells id kk k rv) := by rw [rowL, hid, hkk, hrv]; rfl
      have HDM : Hid (Dm B (k + 1) = (Dm B k).put (keyL id) (.lit (.int .u64 k))) := by rw [hid]; rfl
      rw [← hid, ← hkk, ← hrv] at hSB
      clear hid hkk hrv
      have hl32 : kk.length = 32 := hK32.1
      have hone : ∀ v ∈ kk, v.oneCell' = true := hK32.one
      have hu23 := Try.underlying23
      have hi23 : (Try.prog.info? 23).map (·.size) = some kk.length := by rw [hl32, Try.size23]
      have HLN : Hid ((bcells id kk k rv).length = 1 * 35) := by rw [bcells_len _ _ _ _ hl32]; rfl
      have HON := bcells_one id kk k rv hK32
      have HON' : Hid (∀ v ∈ bcells id kk k rv, v.oneCell' = true) := HON
      obtain ⟨c1, c2, c3⟩ := hSB
      have k0 : (0 : Int) ≤ (k : Int) := Int.natCast_nonneg _
      have k1 : (k : Int) < (n : Int) := by omega
      have hws : w.heap.size + 1 ≤ wr.heap.size := by have := hb.size; simpa using this
      have HROWN : Hid (wr.ownsRow (w.heap.size + 1) 31 35 (.slice (some ⟨G, 0, none⟩) k cap) k (rowL B k)) := hrow
      have HMAP : Hid (wr.ownsMap Try.prog 9 (plainElem (H := Unit) Try.prog 28) M k (Dm B k)) := hmap
      have HBEL : Hid (Below (w.heap.size + 1) (w.alloc (.cells nks.toArray 23)) wr) := hb
      have hwr : IntKind.u64.wrap (k : Int) = (k : Int) := u64_small k (by omega)
      clear hrow hmap hb HC HI HK HON hK32 hmm hnl hnid HNK
      go_wp2_with fail
      go_region_held3 (fun w' => w'.cell? ⟨b, off + k * 34, none⟩ = some (.string id) ∧ w'.rangeAt b (off + k * 34 + 1) kk ∧ w'.cell? ⟨b, off + k * 34 + 33, none⟩ = some (.bool rv))
        (first | (exact ⟨c1, c2, c3⟩) | (exact SB.alloc ⟨c1, c2, c3⟩ _) | (exact SB.far (by assumption) hgrow2 (by simp [Value.ownBlock]; omega)) | (go_split_ands; exact SB.far (SB.alloc ⟨c1, c2, c3⟩ _) hgrow2 (by simp [Value.ownBlock]; omega)))
        ((refine step_append_lies _ (by rfl) _ _ _ (by rfl) (w.heap.size + 1) 31 i0 _ 35 64 Try.underlying37 hi0 hz0 hz1 hz2 rfl (by omega) (.slice (some ⟨G, 0, none⟩) k cap) k (rowL B k) (by rfl) ((HROWN.out.alloc _).drew) ⟨wr.heap.size, 0, none⟩ 1 1 (bcells id kk k rv) (by rfl) HLN.out (World.news_of_block (cs := (bcells id kk k rv).toArray) (t := 31) (fr := (0, 0)) (heap_alloc_new wr _)) HON'.out (by omega) (by unfold maxLen; omega) (by omega) (by simp; omega) (wr.heap.size + 1) (by simp) ?_; intro gg cap2 w2 hown2 hgrow2 hat hlt2))
      have HM2 : Hid (w2.ownsMap Try.prog 9 (plainElem (H := Unit) Try.prog 28) M k (Dm B k)) := ((HMAP.out.alloc _).drew).kept hgrow2 (by simp [Value.ownBlock]; exact hMG)
      have HB2 : Hid (Below (w.heap.size + 1) (w.alloc (.cells nks.toArray 23)) w2) := (((HBEL.out.alloc hws _).drew).grown hgrow2 (by simp; omega) (by intro j hj; simp [Value.ownBlock] at hj; omega))
      have HR2 : Hid (w2.ownsRow (w.heap.size + 1) 31 35 (.slice (some ⟨gg, 0, none⟩) (k + 1) cap2) (k + 1) (rowL B (k + 1))) := by rw [HROW.out]; exact hown2
      have hne2 := row_ne_map HR2.out HM2.out
      have d1 : w2.cell? ⟨b, off + k * 34, none⟩ = some (.string id) := by
        rw [hgrow2.cell_far _ (by show b < _; simp; omega) (by simp [Value.ownBlock]; omega)]
        show (wr.alloc _).cell? _ = _
        rw [World.cell?_alloc_lt _ _ _ (lt_cell c1)]
        exact c1
      have hwf := u64_wf k (by omega)
      clear hown2 hgrow2 hat hlt2 HROWN HMAP HBEL c1 c2 c3
      go_wp2_with (at_mapUpdate; refine wpList_mapUpdate_own _ rfl _ _ _ 38 rfl 9 28 law9 Try.underlying38 _ M k _ rfl HM2.out (by unfold maxLen; omega) _ _ _ rfl rfl hkey _ [] (plainElem_int Try.underlying28 hwf) ?_; intro w3 hmap3 hgrow3)
      have R1 := HR2.out.kept hgrow3 (.inr (by simp only [Value.ownBlock]; exact fun e => hne2 (Option.some.inj e).symm))
      have R2 : w3.ownsMap Try.prog 9 (plainElem (H := Unit) Try.prog 28) M (k + 1) (Dm B (k + 1)) := by rw [HDM.out]; exact hmap3
      have R3 := HB2.out.grown hgrow3 (by have := HB2.out.size; simp at this; omega) (by intro j hj; simp at hj; omega)
      go_roundw
      case rel => exact ⟨k + 1, gg, cap2, by omega, by go_num, rfl, R1, R2, R3⟩
      case measure => simp [intOf]; omega
    · obtain rfl : k = n := by omega
      clear HC HI
      have hwr : IntKind.u64.wrap (k : Int) = (k : Int) := u64_small k (by omega)
      cases ex with
      | false =>
        have HR : Reg _ _ (made B false ⟨nid, nks, nrv⟩) := reg_mk k HB.out HK.out hrow hmap
        have HBL : Below w.heap.size w (wr.alloc (.cells #[.slice none 0 0, .slice (some ⟨G, 0, none⟩) k cap, .map (some M), .map none, .slice none 0 0] 47)) := below_box hb
        clear HK hmm hrow hmap hb
        go_wp2_with (go_at_call 10; refine (newreg _ _ _ _ _).mono ?_; rintro e w3 ⟨rfl, hw3⟩; subst hw3)
        go_ret
        exact ⟨_, rfl, HR, HBL⟩
      | true =>
        have hMG := row_ne_map hrow hmap
        have hGb : w.heap.size + 1 ≤ G := by
          rcases hrow.2 with ⟨e, _⟩ | ⟨g', cap', cur, e, hg, _⟩
          · simp at e
          · simp at e
            obtain ⟨rfl, rfl⟩ := e
            exact hg
        have hws : w.heap.size + 1 ≤ wr.heap.size := by have := hb.size; simpa using this
        have HRA : Hid (wr.rangeAt w.heap.size 0 nks) := range_box hb
        have HLN : Hid ((bcells nid nks k nrv).length = 1 * 35) := by rw [bcells_len _ _ _ _ hnl]; rfl
        have HON' : Hid (∀ v ∈ bcells nid nks k nrv, v.oneCell' = true) := bcells_one nid nks k nrv HNK.out
        have hi23 : (Try.prog.info? 23).map (·.size) = some nks.length := by rw [hnl, Try.size23]
        have HROWN : Hid (wr.ownsRow (w.heap.size + 1) 31 35 (.slice (some ⟨G, 0, none⟩) k cap) k (rowL B k)) := hrow
        have HMAP : Hid (wr.ownsMap Try.prog 9 (plainElem (H := Unit) Try.prog 28) M k (Dm B k)) := hmap
        have HBEL : Hid (Below (w.heap.size + 1) (w.alloc (.cells nks.toArray 23)) wr) := hb
        have hkey := key_ok nid (by unfold maxLen; exact hnid)
        have hwf := u64_wf k (by omega)
        clear hrow hmap hb hmm
        go_upto_region 10 with (first | (refine wpList_load_mid rfl 23 _ rfl w.heap.size 0 rfl nks _ HRA.out Try.underlying23 rfl hi23 ?_) | (refine wpList_build31 rfl _ _ _ _ rfl nid nks k nrv rfl rfl rfl rfl hnl ?_) | (refine wpList_buildSlice37 rfl _ rfl nid nks k nrv rfl hnl ?_) | (at_builtin; refine wpList_append_lies _ rfl _ _ _ rfl (w.heap.size + 1) 31 i0 _ 35 64 Try.underlying37 hi0 hz0 hz1 hz2 rfl (by omega) (.slice (some ⟨G, 0, none⟩) k cap) k (rowL B k) rfl (HROWN.out.alloc _) ⟨wr.heap.size, 0, none⟩ 1 1 (bcells nid nks k nrv) rfl HLN.out (World.news_of_block (cs := (bcells nid nks k nrv).toArray) (t := 31) (fr := (0, 0)) (heap_alloc_new wr _)) HON'.out (by omega) (by unfold maxLen; omega) (by omega) (by simp; omega) (wr.heap.size + 1) (by simp) ?_; intro gg cap2 w2 hown2 hgrow2 hat hlt2))
        have HM2 : Hid (w2.ownsMap Try.prog 9 (plainElem (H := Unit) Try.prog 28) M k (Dm B k)) := (HMAP.out.alloc _).kept hgrow2 (by simp only [Value.ownBlock]; exact fun e => hMG (Option.some.inj e))
        have HB2 : Hid (Below (w.heap.size + 1) (w.alloc (.cells nks.toArray 23)) w2) := ((HBEL.out.alloc hws _).grown hgrow2 (by simp; omega) (by intro j hj; simp [Value.ownBlock] at hj; omega))
        have HR2 : Hid (w2.ownsRow (w.heap.size + 1) 31 35 (.slice (some ⟨gg, 0, none⟩) (k + 1) cap2) (k + 1) (rowL (made B true ⟨nid, nks, nrv⟩) (k + 1))) := by
          rw [show made B true ⟨nid, nks, nrv⟩ = B ++ [⟨nid, nks, nrv⟩] from rfl, rowL_snoc B _ k HB.out]
          exact hown2
        have hne2 := row_ne_map HR2.out HM2.out
        clear hown2 hgrow2 hat hlt2 HROWN HMAP HBEL HRA
        go_wp2_with (first | (at_mapUpdate; refine wpList_mapUpdate_own _ rfl _ _ _ 38 rfl 9 28 law9 Try.underlying38 _ M k _ rfl HM2.out (by unfold maxLen; omega) _ _ _ rfl rfl hkey _ [] (plainElem_int Try.underlying28 hwf) ?_; intro w3 hmap3 hgrow3) | (go_at_call 10; refine (newreg _ _ _ _ _).mono ?_; rintro e w4 ⟨rfl, hw4⟩; subst hw4))
        go_ret
        have R1 := HR2.out.kept hgrow3 (.inr (by simp only [Value.ownBlock]; exact fun e => hne2 (Option.some.inj e).symm))
        have R2 : w3.ownsMap Try.prog 9 (plainElem (H := Unit) Try.prog 28) M (k + 1) (Dm (made B true ⟨nid, nks, nrv⟩) (k + 1)) := by
          rw [show made B true ⟨nid, nks, nrv⟩ = B ++ [⟨nid, nks, nrv⟩] from rfl, Dm_snoc B _ k HB.out]
          exact hmap3
        have R3 := HB2.out.grown hgrow3 (by have := HB2.out.size; simp at this; omega) (by intro j hj; simp at hj; omega)
        exact ⟨_, rfl, reg_mk (k + 1) (by simp [made, HB.out]) (keys_snoc HK.out HNK.out) R1 R2, below_box R3⟩
end Go.Proofs.Qxb6627777a
