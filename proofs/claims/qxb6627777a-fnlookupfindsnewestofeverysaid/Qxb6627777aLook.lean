import Derived.Test.Qxb6627777aLaws
namespace Go.Proofs.Qxb6627777a
open Go.RowKit Go.Maps Go.WideMaps

theorem law9 : Keyed Try.prog 9 := string_keyed Try.underlying9
theorem zero28 (w : World) : (zeroValue 28).run Try.prog w = .ok (.int .u64 0) w := by kernel_rfl
theorem key_ok (s : ByteArray) (h : s.size ≤ maxLen) : keyOf Try.prog 9 (.string s) = some (keyL s) := keyOf_string_mk Try.underlying9 h
/-- a registry at 'p' that holds the bindings 'B' -/
def Reg (w : World) (p : Nat) (B : List Bd) : Prop :=
  ∃ g cap m base, w.cell? ⟨p, 1, none⟩ = some (.slice (some ⟨g, 0, none⟩) B.length cap) ∧ w.cell? ⟨p, 2, none⟩ = some (.map (some m)) ∧
    w.ownsRow base 31 35 (.slice (some ⟨g, 0, none⟩) B.length cap) B.length (rowL B B.length) ∧ w.ownsMap Try.prog 9 (plainElem (H := Unit) Try.prog 28) m B.length (Dm B B.length) ∧ Keys32 B

theorem bcells_one (id : ByteArray) (ks : List Value) (i : Int) (r : Bool) (h : Key ks) : ∀ v ∈ bcells id ks i r, v.oneCell' = true := by
  intro v hv
  simp only [bcells, List.mem_cons, List.mem_append, List.not_mem_nil, or_false] at hv
  rcases hv with rfl | hv | rfl | rfl
  · rfl
  · exact h.one v hv
  · rfl
  · rfl
theorem results8 (tmps : Array Value) (w : World) (cs : Array Value) (r : Bool) (hl : cs.size = 35) (hp : tmps.getD 4 undef = .pointer (some ⟨w.heap.size, 0, none⟩)) (hr : tmps.getD 5 undef = .bool r) :
    (results Try.f8 tmps).run Try.prog (w.alloc (.cells cs 31)) = .ok (.tuple #[.agg cs, .bool r]) (w.alloc (.cells cs 31)) := by
  have hp' : tmps[4]?.getD undef = .pointer (some ⟨w.heap.size, 0, none⟩) := by simpa using hp
  have hr' : tmps[5]?.getD undef = .bool r := by simpa using hr
  have hv := run_loadVar_row (P := Try.prog) (w.alloc (.cells cs 31)) w.heap.size 31 31 cs (0, 0) _ (heap_alloc_last w _) Try.underlying31 rfl (by rw [Try.size31, hl])
  simp [results, Try.results8, hp', hr', asAddr, hv]

set_option maxRecDepth 100000 in
set_option maxHeartbeats 800000 in
theorem look_no (p : Nat) (B : List Bd) (s : ByteArray) (w : World) (hs : s.size ≤ maxLen) (hR : Reg w p B) (hi : lastI B s B.length = none) :
    Calls Try.prog 8 #[.pointer (some ⟨p, 0, none⟩), .string s] w fun e w' => e = .returned (.tuple #[.agg (bcells ByteArray.empty zkey 0 false).toArray, .bool false]) ∧ Below w.heap.size w w' := by
  obtain ⟨g, cap, m, base, c1, c2, hrow, hmap, hk⟩ := hR
  have hpl : p < w.heap.size := lt_cell c1
  have hhas : Maps.has (Dm B B.length) (keyL s) = false := by rw [Dm_has, hi]; rfl
  have hkey := key_ok s hs
  have HM : Hid (w.ownsMap Try.prog 9 (plainElem (H := Unit) Try.prog 28) m B.length (Dm B B.length)) := hmap
  clear hrow hmap
  go_enter Try.func8, Try.ntmps8
  go_upto_region 3 with (at_lookup; refine wpList_lookup_own_ok_int _ rfl _ _ 38 rfl 9 28 .u64 law9 Try.underlying38 Try.underlying28 (zero28 _) m B.length _ rfl (HM.out.alloc _) _ _ rfl hkey ?_; intro c hat hwc; rw [hhas]; clear hat hwc HM hkey hhas)
  show Code.wp _ _ _ _ (w.alloc (.cells zc 31))
  go_wp2_with (first | (refine wpList_build31z rfl rfl ?_) | (refine wpList_store31 rfl _ _ rfl zc rfl (bcells ByteArray.empty zkey 0 false) rfl ?_ rfl rfl ?_; rotate_left))
  · exact bodyPost_ret (v := .tuple #[.agg zc, .bool false]) (results8 _ w zc false rfl rfl rfl) rfl ⟨rfl, (Below.refl _ _).alloc (Nat.le_refl _) _⟩
  · exact bcells_one _ _ _ _ zkey_ok

set_option maxRecDepth 100000 in
set_option maxHeartbeats 800000 in
theorem look_yes (p : Nat) (B : List Bd) (s : ByteArray) (i : Nat) (w : World) (hs : s.size ≤ maxLen) (hR : Reg w p B) (hi : lastI B s B.length = some i) :
    Calls Try.prog 8 #[.pointer (some ⟨p, 0, none⟩), .string s] w fun e w' => e = .returned (.tuple #[.agg (bc B i).toArray, .bool true]) ∧ Below w.heap.size w w' := by
  obtain ⟨g, cap, m, base, c1, c2, hrow, hmap, hk⟩ := hR
  have hpl : p < w.heap.size := lt_cell c1
  have hhas : Maps.has (Dm B B.length) (keyL s) = true := by rw [Dm_has, hi]; rfl
  have hat0 : ∀ z, (Dm B B.length).atKey (keyL s) z = .lit (.int .u64 i) := fun z => Dm_at B s z _ _ hi
  have hil := (lastI_some B s _ _ hi).1
  have hkey := key_ok s hs
  have HM : Hid (w.ownsMap Try.prog 9 (plainElem (H := Unit) Try.prog 28) m B.length (Dm B B.length)) := hmap
  have HR : Hid (w.rangeAt g (i * 35) (bc B i)) := fun j v hv => by
    have hj : j < 35 := by have := (List.getElem?_eq_some_iff.1 hv).1; rw [bc_len hk] at this; exact this
    rw [hrow.cellAt (i * 35 + j) (by omega), rowL_get hk _ i j hil hj]
    exact hv
  have HK : Hid (Keys32 B) := hk
  clear hrow hmap hk hi
  have i0 : (0 : Int) ≤ (i : Int) := Int.natCast_nonneg _
  have i1 : (i : Int) < (B.length : Int) := by omega
  obtain ⟨N, hN⟩ : ∃ N, N = B.length := ⟨_, rfl⟩
  rw [← hN] at c1 HM i1 hhas hat0
  clear hil hs hN
  go_enter Try.func8, Try.ntmps8
  go_upto_region 4 with (at_lookup; refine wpList_lookup_own_ok_int _ rfl _ _ 38 rfl 9 28 .u64 law9 Try.underlying38 Try.underlying28 (zero28 _) m N _ rfl (HM.out.alloc _) _ _ rfl hkey ?_; intro c hat hwc; rw [hhas]; rw [hat0] at hat; clear hwc HM hkey hhas hat0)
  obtain rfl : (i : Int) = c := by simpa using hat
  clear hat
  show Code.wp _ _ _ _ (w.alloc (.cells zc 31))
  have hR2 : (w.alloc (.cells zc 31)).rangeAt g (i * 35) (bc B i) := World.rangeAt_alloc HR.out _
  have HL : Hid ((bc B i).length = 35) := bc_len HK.out i
  have HZ : Hid ((Try.prog.info? 31).map (·.size) = some (bc B i).length) := by rw [HL.out, Try.size31]; rfl
  have HRA : Hid ((w.alloc (.cells zc 31)).rangeAt g (i * 35) (bc B i)) := hR2
  clear hR2 HR
  go_wp2_with (first | (refine wpList_load_mid rfl 31 _ rfl g (i * 35) rfl (bc B i) _ HRA.out Try.underlying31 rfl HZ.out ?_) | (refine wpList_store31 rfl _ _ rfl zc rfl (bc B i) HL.out (bc_one HK.out i) rfl rfl ?_))
  exact bodyPost_ret (v := .tuple #[.agg (bc B i).toArray, .bool true]) (results8 _ w _ true (by simpa using HL.out) rfl rfl) rfl ⟨rfl, (Below.refl _ _).alloc (Nat.le_refl _) _⟩
end Go.Proofs.Qxb6627777a
