import Derived.Test.Qxb6627777aBuild0
namespace Go.Proofs.Qxb6627777a
open Go.RowKit Go.Maps Go.WideMaps

theorem build_any (a : Option Addr) (n c : Nat) (B : List Bd) (nid : ByteArray) (nks : List Value) (nrv : Bool) (w : World) (hn : n ≤ 65536) (h : BsAt w a n B) (hnk : Key nks) (hnid : nid.size ≤ 9223372036854775807) (ex : Bool) :
    Calls Try.prog 7 #[.slice a n c, .bool ex, .string nid, .agg nks.toArray, .bool nrv] w fun e w' => ∃ p, e = .returned (.pointer (some ⟨p, 0, none⟩)) ∧ Reg w' p (made B ex ⟨nid, nks, nrv⟩) ∧ Below w.heap.size w w' := by
  rcases Nat.eq_zero_or_pos n with h0 | h0
  · subst h0
    obtain rfl : B = [] := List.length_eq_zero_iff.1 h.1
    exact build_zero a c nid nks nrv w hnk hnid ex
  · obtain ⟨b, off, rfl, hc⟩ := h.spot h0
    exact build_pos b off n c B nid nks nrv w h0 hn h.1 h.2.1 h.2.2.1 hc hnk hnid ex

theorem grown_of_below {w w' : World} (h : Below w.heap.size w w') : w.grownBy w' none := ⟨h.os, h.tape, h.output, h.size, fun k hk _ => h.block k hk⟩
theorem Reg.below {w w' : World} {p : Nat} {B : List Bd} (h : Reg w p B) (hb : Below w.heap.size w w') : Reg w' p B := by
  obtain ⟨g, cap, m, base, c1, c2, hrow, hmap, hk⟩ := h
  refine ⟨g, cap, m, base, ?_, ?_, hrow.kept (grown_of_below hb) (.inr (by simp [Value.ownBlock])), hmap.kept (grown_of_below hb) (by simp), hk⟩
  · rw [hb.cell (lt_cell c1)]; exact c1
  · rw [hb.cell (lt_cell c2)]; exact c2
theorem Reg.alloc {w : World} {p : Nat} {B : List Bd} (h : Reg w p B) (o : Obj) : Reg (w.alloc o) p B := h.below ((Below.refl _ w).alloc (Nat.le_refl _) o)
theorem range_below {w w' : World} {b o : Nat} {cs : List Value} (h : w.rangeAt b o cs) (hb : Below w.heap.size w w') : w'.rangeAt b o cs := fun j v hv => by
  have := h j v hv
  rw [hb.cell (lt_cell this)]
  exact this
theorem range_new (w : World) (cs : List Value) (t : TypeId) : (w.alloc (.cells cs.toArray t)).rangeAt w.heap.size 0 cs := fun j v hv => by
  rw [Nat.zero_add, cell_of_row _ _ _ _ _ _ (heap_alloc_last w _)]
  simpa using hv
theorem BsAt.below {w w' : World} {a : Option Addr} {n : Nat} {B : List Bd} (h : BsAt w a n B) (hb : Below w.heap.size w w') : BsAt w' a n B := by
  refine ⟨h.1, h.2.1, h.2.2.1, fun i hi => ?_⟩
  obtain ⟨b, off, ha, c1, c2, c3⟩ := h.2.2.2 i hi
  refine ⟨b, off, ha, ?_, range_below c2 hb, ?_⟩
  · rw [hb.cell (lt_cell c1)]; exact c1
  · rw [hb.cell (lt_cell c3)]; exact c3

/-- the operations on whole bindings that stand under a guard: under names of their own -/
def load31op (v : Value) : Sem Value := Instr.loadAt 31 v
def neq31op (x y : Value) : Sem Value := binOp .neq 31 x y
def eql31op (x y : Value) : Sem Value := binOp .eql 31 x y
theorem load31_name (v : Value) : Instr.loadAt 31 v = load31op v := rfl
theorem neq31_name (x y : Value) : binOp .neq 31 x y = neq31op x y := rfl
theorem eql31_name (x y : Value) : binOp .eql 31 x y = eql31op x y := rfl
theorem load31_run (w : World) (b : Nat) (cs : List Value) (hl : cs.length = 35) (h : w.rangeAt b 0 cs) : (load31op (.pointer (some ⟨b, 0, none⟩))).run Try.prog w = .ok (.agg cs.toArray) w :=
  run_loadAt_mid w b 0 31 cs _ h Try.underlying31 rfl (by rw [hl, Try.size31])
theorem neq31_run (id : ByteArray) (ks : List Value) (i : Int) (r : Bool) (w : World) (h : Key ks) : (neq31op (.agg (bcells id ks i r).toArray) (.agg (bcells id ks i r).toArray)).run Try.prog w = .ok (.bool false) w := neq31 id ks i r h w
theorem eql31_run (id : ByteArray) (ks : List Value) (i : Int) (r : Bool) (w : World) (h : Key ks) : (eql31op (.agg (bcells id ks i r).toArray) (.agg (bcells id ks i r).toArray)).run Try.prog w = .ok (.bool true) w := eql31 id ks i r h w
attribute [local go_sem ↓] load31_name neq31_name eql31_name

theorem last_snoc (B : List Bd) (x : Bd) (n : Nat) (hn : B.length = n) (q : ByteArray) : lastI (B ++ [x]) q (n + 1) = if x.id = q then some n else lastI B q n := by
  subst hn
  rw [lastI, bd_append_at, lastI_append B [x] q _ (Nat.le_refl _)]

/-- what Lookup hands back -/
def found (B : List Bd) (s : ByteArray) : List Value := match lastI B s B.length with | some i => bc B i | none => bcells ByteArray.empty zkey 0 false
def foundOk (B : List Bd) (s : ByteArray) : Bool := (lastI B s B.length).isSome
theorem look_any (p : Nat) (B : List Bd) (s : ByteArray) (cs : List Value) (ok : Bool) (hcs : Hid (found B s = cs)) (hok : Hid (foundOk B s = ok)) (w : World) (hs : s.size ≤ 1048576) (hR : Reg w p B) :
    Calls Try.prog 8 #[.pointer (some ⟨p, 0, none⟩), .string s] w fun e w' => e = .returned (.tuple #[.agg cs.toArray, .bool ok]) ∧ Below w.heap.size w w' := by
  rw [← hcs.out, ← hok.out]
  unfold found foundOk
  cases hi : lastI B s B.length with
  | none => exact look_no p B s w (by unfold maxLen; omega) hR hi
  | some i => exact look_yes p B s i w (by unfold maxLen; omega) hR hi
theorem found_form {B : List Bd} (hK : Keys32 B) (s : ByteArray) : ∃ id ks i r, found B s = bcells id ks i r ∧ Key ks := by
  unfold found
  cases lastI B s B.length with
  | none => exact ⟨_, _, _, _, rfl, zkey_ok⟩
  | some i => exact ⟨_, _, _, _, rfl, hK i⟩
theorem found_new (B : List Bd) (x : Bd) : found (B ++ [x]) x.id = bcells x.id x.key B.length x.rev ∧ foundOk (B ++ [x]) x.id = true := by
  have hl : lastI (B ++ [x]) x.id (B ++ [x]).length = some B.length := by
    rw [List.length_append, List.length_singleton, last_snoc B x _ rfl, if_pos rfl]
  unfold found foundOk
  rw [hl]
  simp [bc, bd_append_at]
theorem found_old (B : List Bd) (x : Bd) (q : ByteArray) (h : x.id ≠ q) : found (B ++ [x]) q = found B q ∧ foundOk (B ++ [x]) q = foundOk B q := by
  have hl : lastI (B ++ [x]) q (B ++ [x]).length = lastI B q B.length := by
    rw [List.length_append, List.length_singleton, last_snoc B x _ rfl, if_neg h]
  unfold found foundOk
  rw [hl]
  cases hi : lastI B q B.length with
  | none => exact ⟨rfl, rfl⟩
  | some i => exact ⟨bc_append B [x] i (lastI_some B q _ _ hi).1, rfl⟩

set_option maxRecDepth 100000 in
set_option maxHeartbeats 1600000 in
theorem enrol_main (a : Option Addr) (n c : Nat) (B : List Bd) (nid q : ByteArray) (ks : List Value) (rv : Bool) (w : World) (hn : n ≤ 9223372036854775807) (hp : nid.size ≤ 9223372036854775807) (hq : q.size ≤ 9223372036854775807) (hk : Key ks) (h : BsAt w a n B) :
    Calls Try.prog 3 #[.slice a n c, .string nid, .agg ks.toArray, .bool rv, .string q] w fun e w' => e = .returned (.bool true) ∧ Below w.heap.size w w' := by
  have hkl := hk.1
  have HK : Hid (Key ks) := hk
  have hi23 : (Try.prog.info? 23).map (·.size) = some ks.length := by rw [hkl, Try.size23]
  have HBS : Hid (BsAt w a n B) := h
  have HBL : Hid (B.length = n) := h.1
  have HKS : Hid (Keys32 B) := h.2.1
  clear h hk
  have HX : Hid ((w.alloc (.cells ks.toArray 23)).rangeAt w.heap.size 0 ks) := range_new w ks 23
  go_enter Try.func3, Try.ntmps3
  go_wp2_with (first | (refine wpList_box23 rfl _ rfl ks rfl hkl ?_) | (refine wpList_load_mid rfl 23 _ rfl w.heap.size 0 rfl ks _ HX.out Try.underlying23 rfl hi23 ?_))
  refine (bytes5_any a n c B nid q ks rv _ hn hp hq HK.out (HBS.out.below ((Below.refl _ w).alloc (Nat.le_refl _) _))).mono ?_
  rintro e w1 ⟨⟨r, rfl, hr⟩, hw1⟩
  subst hw1
  cases r with
  | false =>
    go_wp2
    go_ret
    exact ⟨rfl, ((Below.refl _ w).alloc (Nat.le_refl _) _).alloc (by simp) _⟩
  | true =>
    obtain ⟨hn2, hp2, hq2⟩ := hr rfl
    clear hr hn hp hq
    have S2 : Hid (BsAt ((w.alloc (.cells ks.toArray 23)).alloc (.cells ks.toArray 23)) a n B) := HBS.out.below (((Below.refl _ w).alloc (Nat.le_refl _) _).alloc (by simp) _)
    have X2 : Hid (((w.alloc (.cells ks.toArray 23)).alloc (.cells ks.toArray 23)).rangeAt w.heap.size 0 ks) := range_below HX.out ((Below.refl _ _).alloc (Nat.le_refl _) _)
    have L2 : Hid (Below w.heap.size w ((w.alloc (.cells ks.toArray 23)).alloc (.cells ks.toArray 23))) := ((Below.refl _ w).alloc (Nat.le_refl _) _).alloc (by simp) _
    clear HX HBS
    go_wp2_with fail
    obtain ⟨w2, hw2⟩ : ∃ w2, w2 = (w.alloc (.cells ks.toArray 23)).alloc (.cells ks.toArray 23) := ⟨_, rfl⟩
    rw [← hw2] at S2 X2 L2 ⊢
    clear hw2
    refine (too_any a n c B nid q _ hn2 hp2 hq2 S2.out).mono ?_
    rintro e w3 ⟨⟨r, rfl, hr⟩, hw3⟩
    subst hw3
    cases r with
    | true =>
      go_wp2
      go_ret
      exact ⟨rfl, L2.out⟩
    | false =>
      have hn3 : n ≤ 65536 := hr rfl
      have hwr : IntKind.u64.wrap (n : Int) = (n : Int) := u64_small n hn2
      clear hr hn2
      go_wp2_with (refine wpList_load_mid rfl 23 _ rfl w.heap.size 0 rfl ks _ X2.out Try.underlying23 rfl hi23 ?_)
      refine (build_any a n c B nid ks rv _ hn3 S2.out HK.out (by omega) false).mono ?_
      rintro e w4 ⟨p0, rfl, R0, b4⟩
      have S4 : Hid (BsAt w4 a n B) := S2.out.below b4
      have X4 : Hid (w4.rangeAt w.heap.size 0 ks) := range_below X2.out b4
      have L4 : Hid (Below w.heap.size w w4) := L2.out.trans (b4.mono L2.out.size)
      have Q4 : Hid (Reg w4 p0 B) := R0
      clear S2 X2 L2 R0 b4
      go_wp2_with (refine wpList_load_mid rfl 23 _ rfl w.heap.size 0 rfl ks _ X4.out Try.underlying23 rfl hi23 ?_)
      refine (build_any a n c B nid ks rv _ hn3 S4.out HK.out (by omega) true).mono ?_
      rintro e w5 ⟨p1, rfl, R1, b5⟩
      have X5 : Hid (w5.rangeAt w.heap.size 0 ks) := range_below X4.out b5
      have L5 : Hid (Below w.heap.size w w5) := L4.out.trans (b5.mono L4.out.size)
      have Q5 : Hid (Reg w5 p0 B) := Q4.out.below b5
      have P5 : Hid (Reg w5 p1 (B ++ [⟨nid, ks, rv⟩])) := R1
      clear S4 X4 L4 Q4 R1 b5
      obtain ⟨want, hwant⟩ : ∃ x, x = bcells nid ks n rv := ⟨_, rfl⟩
      have wl : want.length = 35 := by rw [hwant]; exact bcells_len _ _ _ _ hkl
      have WO : Hid (∀ v ∈ want, v.oneCell' = true) := by rw [hwant]; exact bcells_one _ _ _ _ HK.out
      have WE : Hid (want = bcells nid ks n rv) := hwant
      clear hwant
      go_wp2_with (first | (refine wpList_load_mid rfl 23 _ rfl w.heap.size 0 rfl ks _ X5.out Try.underlying23 rfl hi23 ?_) | (refine wpList_build31 rfl _ _ _ _ rfl nid ks n rv rfl rfl rfl rfl hkl ?_; rw [← WE.out]) | (refine wpList_alloc31 rfl rfl ?_) | (refine wpList_store31 rfl _ _ rfl zc rfl want wl WO.out rfl rfl ?_))
      obtain ⟨hf1, hf2⟩ := found_new B ⟨nid, ks, rv⟩
      have F1 : Hid (found (B ++ [⟨nid, ks, rv⟩]) nid = want) := by rw [WE.out, ← HBL.out]; exact hf1
      have F2 : Hid (foundOk (B ++ [⟨nid, ks, rv⟩]) nid = true) := hf2
      have hneq : ∀ w, (neq31op (.agg want.toArray) (.agg want.toArray)).run Try.prog w = .ok (.bool false) w := fun w => by rw [WE.out]; exact neq31_run _ _ _ _ w HK.out
      have heql : ∀ w, (eql31op (.agg want.toArray) (.agg want.toArray)).run Try.prog w = .ok (.bool true) w := fun w => by rw [WE.out]; exact eql31_run _ _ _ _ w HK.out
      clear hf1 hf2 hwr X5
      refine (look_any p1 _ nid want true F1 F2 _ hp2 (P5.out.alloc _)).mono ?_
      rintro e w6 ⟨rfl, b6⟩
      have L6 : Hid (Below w.heap.size w w6) := (L5.out.alloc L5.out.size _).trans (b6.mono (by simp; have := L5.out.size; omega))
      have Q6 : Hid (Reg w6 p0 B) := (Q5.out.alloc _).below b6
      have P6 : Hid (Reg w6 p1 (B ++ [⟨nid, ks, rv⟩])) := (P5.out.alloc _).below b6
      have W6 : Hid (w6.rangeAt w5.heap.size 0 want) := range_below (range_new w5 want 31) b6
      obtain ⟨x13, hx13⟩ : ∃ x, x = w5.heap.size := ⟨_, rfl⟩
      rw [← hx13] at W6 ⊢
      clear hx13 L5 Q5 P5 b6 F1 F2
      go_upto_region 9 with (first | (refine wpList_alloc31 rfl rfl ?_) | (refine wpList_store31 rfl _ _ rfl zc rfl want wl WO.out rfl rfl ?_))
      have L7 : Hid (Below w.heap.size w (w6.alloc (.cells want.toArray 31))) := L6.out.alloc L6.out.size _
      have Q7 : Hid (Reg (w6.alloc (.cells want.toArray 31)) p0 B) := Q6.out.alloc _
      have P7 : Hid (Reg (w6.alloc (.cells want.toArray 31)) p1 (B ++ [⟨nid, ks, rv⟩])) := P6.out.alloc _
      have W7 : Hid ((w6.alloc (.cells want.toArray 31)).rangeAt x13 0 want) := World.rangeAt_alloc W6.out _
      have hl13 := load31_run _ x13 want wl W7.out
      have hl14 := load31_run _ w6.heap.size want wl (range_new w6 want 31)
      obtain ⟨x14, hx14⟩ : ∃ x, x = w6.heap.size := ⟨_, rfl⟩
      obtain ⟨w7, hw7⟩ : ∃ x, x = w6.alloc (.cells want.toArray 31) := ⟨_, rfl⟩
      rw [← hx14] at hl14
      rw [← hx14, ← hw7]
      rw [← hw7] at L7 Q7 P7 W7 hl13 hl14
      clear hx14 hw7 L6 Q6 P6 W6
      go_wp2_with fail
      clear hl13 hl14 hneq
      by_cases hqn : nid = q
      · subst hqn
        have F3 : Hid (found (B ++ [⟨nid, ks, rv⟩]) nid = want) := by
          rw [WE.out, ← HBL.out]; exact (found_new B ⟨nid, ks, rv⟩).1
        have F4 : Hid (foundOk (B ++ [⟨nid, ks, rv⟩]) nid = true) := (found_new B ⟨nid, ks, rv⟩).2
        refine (look_any p1 _ nid want true F3 F4 _ hp2 P7.out).mono ?_
        rintro e w8 ⟨rfl, b8⟩
        have L8 : Hid (Below w.heap.size w w8) := L7.out.trans (b8.mono L7.out.size)
        have W8 : Hid (w8.rangeAt x13 0 want) := range_below W7.out b8
        clear L7 Q7 P7 W7 b8 F3 F4
        go_upto_region 12 with (first | (refine wpList_alloc31 rfl rfl ?_) | (refine wpList_store31 rfl _ _ rfl zc rfl want wl WO.out rfl rfl ?_))
        have L9 : Hid (Below w.heap.size w (w8.alloc (.cells want.toArray 31))) := L8.out.alloc L8.out.size _
        have hl13 := load31_run _ x13 want wl (World.rangeAt_alloc W8.out (.cells want.toArray 31))
        have hl16 := load31_run _ w8.heap.size want wl (range_new w8 want 31)
        obtain ⟨x16, hx16⟩ : ∃ x, x = w8.heap.size := ⟨_, rfl⟩
        obtain ⟨w9, hw9⟩ : ∃ x, x = w8.alloc (.cells want.toArray 31) := ⟨_, rfl⟩
        rw [← hx16] at hl16
        rw [← hx16, ← hw9]
        rw [← hw9] at L9 hl13 hl16
        clear hx16 hw9 L8 W8
        go_wp2
        go_ret
        exact ⟨rfl, L9.out⟩
      · have hs : (q.toList == nid.toList) = false := by
          simp only [beq_eq_false_iff_ne, ne_eq, ByteArray.toList_eq]
          intro e
          exact hqn (keyL_inj (by simp only [keyL]; rw [e]))
        obtain ⟨id', ks', i', r', hff, hkk⟩ := found_form HKS.out q
        obtain ⟨cs, hcs⟩ : ∃ cs, cs = found B q := ⟨_, rfl⟩
        obtain ⟨ok, hok⟩ : ∃ ok, ok = foundOk B q := ⟨_, rfl⟩
        have F3 : Hid (found (B ++ [⟨nid, ks, rv⟩]) q = cs) := by rw [hcs]; exact (found_old B ⟨nid, ks, rv⟩ q hqn).1
        have F4 : Hid (foundOk (B ++ [⟨nid, ks, rv⟩]) q = ok) := by rw [hok]; exact (found_old B ⟨nid, ks, rv⟩ q hqn).2
        have F5 : Hid (found B q = cs) := hcs.symm
        have F6 : Hid (foundOk B q = ok) := hok.symm
        have hce : cs = bcells id' ks' i' r' := hcs.trans hff
        have cl : cs.length = 35 := by rw [hce]; exact bcells_len _ _ _ _ hkk.1
        have CO : Hid (∀ v ∈ cs, v.oneCell' = true) := by rw [hce]; exact bcells_one _ _ _ _ hkk
        have heq2 : ∀ w, (eql31op (.agg cs.toArray) (.agg cs.toArray)).run Try.prog w = .ok (.bool true) w := fun w => by rw [hce]; exact eql31_run _ _ _ _ w hkk
        clear hcs hok hff hkk hce heql
        refine (look_any p1 _ q cs ok F3 F4 _ hq2 P7.out).mono ?_
        rintro e w8 ⟨rfl, b8⟩
        have L8 : Hid (Below w.heap.size w w8) := L7.out.trans (b8.mono L7.out.size)
        have Q8 : Hid (Reg w8 p0 B) := Q7.out.below b8
        clear L7 Q7 P7 W7 b8 F3 F4
        go_upto_region 12 with (first | (refine wpList_alloc31 rfl rfl ?_) | (refine wpList_store31 rfl _ _ rfl zc rfl cs cl CO.out rfl rfl ?_))
        go_wp2_with fail
        refine (look_any p0 _ q cs ok F5 F6 _ hq2 (Q8.out.alloc _)).mono ?_
        rintro e w10 ⟨rfl, b10⟩
        have L10 : Hid (Below w.heap.size w w10) := (L8.out.alloc L8.out.size _).trans (b10.mono (by simp; have := L8.out.size; omega))
        have W10 : Hid (w10.rangeAt w8.heap.size 0 cs) := range_below (range_new w8 cs 31) b10
        obtain ⟨x16, hx16⟩ : ∃ x, x = w8.heap.size := ⟨_, rfl⟩
        rw [← hx16] at W10 ⊢
        clear L8 Q8 b10 F5 F6 hx16
        go_upto_region 15 with (first | (refine wpList_alloc31 rfl rfl ?_) | (refine wpList_store31 rfl _ _ rfl zc rfl cs cl CO.out rfl rfl ?_))
        have L11 : Hid (Below w.heap.size w (w10.alloc (.cells cs.toArray 31))) := L10.out.alloc L10.out.size _
        have hl16 := load31_run _ x16 cs cl (World.rangeAt_alloc W10.out (.cells cs.toArray 31))
        have hl18 := load31_run _ w10.heap.size cs cl (range_new w10 cs 31)
        obtain ⟨x18, hx18⟩ : ∃ x, x = w10.heap.size := ⟨_, rfl⟩
        obtain ⟨w11, hw11⟩ : ∃ x, x = w10.alloc (.cells cs.toArray 31) := ⟨_, rfl⟩
        rw [← hx18] at hl18
        rw [← hx18, ← hw11]
        rw [← hw11] at L11 hl16 hl18
        clear hx18 hw11 L10 W10
        go_wp2
        go_ret
        exact ⟨rfl, L11.out⟩
end Go.Proofs.Qxb6627777a
