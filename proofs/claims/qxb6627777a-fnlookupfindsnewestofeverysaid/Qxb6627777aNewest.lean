import Derived.Test.Qxb6627777aEnrol
import Derived.Deep.QuietTactic
import Derived.BigQuiet
namespace Go.Proofs.Qxb6627777a
open Go.RowKit Go.Maps Go.WideMaps

def load23op (v : Value) : Sem Value := Instr.loadAt 23 v
def load29op (v : Value) : Sem Value := Instr.loadAt 29 v
def neq23op (x y : Value) : Sem Value := binOp .neq 23 x y
theorem load23_name (v : Value) : Instr.loadAt 23 v = load23op v := rfl
theorem load29_name (v : Value) : Instr.loadAt 29 v = load29op v := rfl
theorem neq23_name (x y : Value) : binOp .neq 23 x y = neq23op x y := rfl
theorem load23_run (w : World) (b o : Nat) (ks : List Value) (hl : ks.length = 32) (h : w.rangeAt b o ks) : (load23op (.pointer (some ⟨b, o, none⟩))).run Try.prog w = .ok (.agg ks.toArray) w :=
  run_loadAt_mid w b o 23 ks _ h Try.underlying23 rfl (by rw [hl, Try.size23])
theorem load29_run (w : World) (b o : Nat) (ks : List Value) (hl : ks.length = 32) (h : w.rangeAt b o ks) : (load29op (.pointer (some ⟨b, o, none⟩))).run Try.prog w = .ok (.agg ks.toArray) w :=
  run_loadAt_mid w b o 29 ks _ h Try.underlying29 rfl (by rw [hl, Try.size29])
theorem neq23_run (ks : List Value) (w : World) (h : Key ks) : (neq23op (.agg ks.toArray) (.agg ks.toArray)).run Try.prog w = .ok (.bool false) w := neq23 ks h w
attribute [local go_sem ↓] load31_name eql31_name load23_name load29_name neq23_name

theorem build23z (w : World) : (Instr.build 23 #[]).run Try.prog w = .ok (.agg zkey.toArray) w := by kernel_rfl
theorem wpList_build23z {ops : Array Oper} {rest : List Oper} {o : Oper} {a : Act} {Q : Exit → Act → World → Prop} {w : World} (hgd : o.guard = none) (ho : o.op = .build 23 #[]) (h : wpList Try.prog ops Q rest (a.put o.dst (.agg zkey.toArray)) w) : wpList Try.prog ops Q (o :: rest) a w := by
  refine wpList_value hgd (v := .agg zkey.toArray) (w' := w) ?_ h
  have e : (#[] : Array (Nat × Operand)).map (fun (i, x) => (i, a.eval x)) = #[] := by simp
  unfold execOp
  simp only [ho, e, build23z, Sem.run_bind, Result.andThen_ok, Sem.run_pure]

theorem look_big (p : Nat) (B : List Bd) (s : ByteArray) (cs : List Value) (ok : Bool) (hcs : Hid (found B s = cs)) (hok : Hid (foundOk B s = ok)) (w : World) (hs : s.size ≤ 9223372036854775807) (hR : Reg w p B) :
    Calls Try.prog 8 #[.pointer (some ⟨p, 0, none⟩), .string s] w fun e w' => e = .returned (.tuple #[.agg cs.toArray, .bool ok]) ∧ Below w.heap.size w w' := by
  rw [← hcs.out, ← hok.out]
  unfold found foundOk
  cases hi : lastI B s B.length with
  | none => exact look_no p B s w (by unfold maxLen; omega) hR hi
  | some i => exact look_yes p B s i w (by unfold maxLen; omega) hR hi
theorem found_of (B : List Bd) (s : ByteArray) (i : Nat) (h : lastI B s B.length = some i) : found B s = bc B i ∧ foundOk B s = true := by
  unfold found foundOk
  rw [h]
  exact ⟨rfl, rfl⟩
theorem bc_cells {w : World} {B : List Bd} {X j : Nat} (hk : Key (bd B j).key) (h : w.rangeAt X 0 (bc B j)) :
    w.cell? ⟨X, 0, none⟩ = some (.string (bd B j).id) ∧ w.rangeAt X 1 (bd B j).key ∧ w.cell? ⟨X, 33, none⟩ = some (.int .u64 j) ∧ w.cell? ⟨X, 34, none⟩ = some (.bool (bd B j).rev) := by
  have hl := hk.1
  refine ⟨?_, fun i v hv => ?_, ?_, ?_⟩
  · have := h 0 _ rfl
    simpa using this
  · have hi : i < 32 := by have := (List.getElem?_eq_some_iff.1 hv).1; rw [hl] at this; exact this
    have := h (1 + i) v (by rw [bc, bcells, Nat.add_comm 1 i, List.getElem?_cons_succ, List.getElem?_append_left (by omega)]; exact hv)
    simpa using this
  · have := h 33 (.int .u64 j) (by rw [bc, bcells, List.getElem?_cons_succ, List.getElem?_append_right (by omega), hl]; rfl)
    simpa using this
  · have := h 34 (.bool (bd B j).rev) (by rw [bc, bcells, List.getElem?_cons_succ, List.getElem?_append_right (by omega), hl]; rfl)
    simpa using this

set_option maxRecDepth 100000 in
set_option maxHeartbeats 1600000 in
theorem newest_pos (b off n c : Nat) (B : List Bd) (q : ByteArray) (w : World) (h0 : 0 < n) (hn : n ≤ 9223372036854775807) (hq : q.size ≤ 9223372036854775807) (h : BsAt w (some ⟨b, off, none⟩) n B) :
    Calls Try.prog 4 #[.slice (some ⟨b, off, none⟩) n c, .string q] w fun e w' => e = .returned (.bool true) ∧ Below w.heap.size w w' := by
  have HBS : Hid (BsAt w (some ⟨b, off, none⟩) n B) := h
  have HBL : Hid (B.length = n) := h.1
  have HKS : Hid (Keys32 B) := h.2.1
  clear h
  go_enter Try.func4, Try.ntmps4
  go_wp2_with fail
  refine (bytes9_any (some ⟨b, off, none⟩) n c B q w hn hq HBS.out).mono ?_
  rintro e w1 ⟨⟨r, rfl, hr⟩, hw1⟩
  subst hw1
  cases r with
  | false =>
    go_wp2
    go_ret
    exact ⟨rfl, Below.refl _ _⟩
  | true =>
    obtain ⟨hn2, hq2⟩ := hr rfl
    clear hr hn hq
    go_wp2_with fail
    refine (too_any (some ⟨b, off, none⟩) n c B q ⟨#[]⟩ w hn2 hq2 (Nat.zero_le _) HBS.out).mono ?_
    rintro e w3 ⟨⟨r, rfl, hr⟩, hw3⟩
    subst hw3
    cases r with
    | true =>
      go_wp2
      go_ret
      exact ⟨rfl, Below.refl _ _⟩
    | false =>
      have hn3 : n ≤ 65536 := hr rfl
      clear hr hn2
      go_wp2_with (refine wpList_build23z rfl rfl ?_)
      refine (build_any (some ⟨b, off, none⟩) n c B ⟨#[]⟩ zkey false _ hn3 HBS.out zkey_ok (Nat.zero_le _) false).mono ?_
      rintro e w4 ⟨p, rfl, R0, b4⟩
      have R4 : Hid (Reg w4 p B) := R0
      have S4 : Hid (BsAt w4 (some ⟨b, off, none⟩) n B) := HBS.out.below b4
      have L4 : Hid (Below w.heap.size w w4) := b4
      clear HBS R0 b4
      go_wp2_with fail
      go_loopw [7, 8] (fun f i wr => ∃ k : Nat, k ≤ n ∧ i = .int .i64 k ∧ f = .bool (lastI B q k).isSome ∧ Reg wr p B ∧ BsAt wr (some ⟨b, off, none⟩) n B ∧ Below w.heap.size w wr) (fun _ i _ => n - (intOf i).toNat)
      case atStart => exact ⟨0, Nat.zero_le _, rfl, rfl, R4.out, S4.out, L4.out⟩
      case round =>
        obtain ⟨k, hk, rfl, rfl, hR, hS, hL⟩ := hrel
        clear R4 S4 L4
        by_cases hlt : k < n
        · obtain ⟨j, hj1, hj2⟩ := lastI_ge B (bd B k).id n k hlt rfl
          have hj3 := lastI_some B _ _ _ hj1
          rw [← HBL.out] at hj1
          have hfo := found_of B (bd B k).id j hj1
          obtain ⟨b', off', he, hc⟩ := hS.spot h0
          simp only [Option.some.injEq, Addr.mk.injEq, and_true] at he
          obtain ⟨rfl, rfl⟩ := he
          obtain ⟨c1, _, _⟩ := hc k hlt
          obtain ⟨id, hid⟩ : ∃ id, id = (bd B k).id := ⟨_, rfl⟩
          obtain ⟨cs, hcs⟩ : ∃ cs, cs = bc B j := ⟨_, rfl⟩
          have F1 : Hid (found B id = cs) := by rw [hid, hcs]; exact hfo.1
          have F2 : Hid (foundOk B id = true) := by rw [hid]; exact hfo.2
          have cl : cs.length = 35 := by rw [hcs]; exact bc_len HKS.out j
          have CO : Hid (∀ v ∈ cs, v.oneCell' = true) := by rw [hcs]; exact bc_one HKS.out j
          have CE : Hid (cs = bc B j) := hcs
          have IE : Hid ((bd B j).id = id) := by rw [hid]; exact hj3.2
          have IK : Hid ((bd B k).id = id) := hid.symm
          have IZ : Hid (id.size ≤ 9223372036854775807) := by rw [hid]; exact hS.2.2.1 k
          rw [← hid] at c1
          have hjn : j < n := hj3.1
          have k0 : (0 : Int) ≤ (k : Int) := Int.natCast_nonneg _
          have k1 : (k : Int) < (n : Int) := by omega
          have RR : Hid (Reg wr p B) := hR
          have SS : Hid (BsAt wr (some ⟨b, off, none⟩) n B) := hS
          have LL : Hid (Below w.heap.size w wr) := hL
          clear hj1 hj3 hfo hc hid hcs hR hS hL
          go_wp2_with fail
          refine (look_big p B id cs true F1 F2 _ IZ.out RR.out).mono ?_
          rintro e w5 ⟨rfl, b5⟩
          have R5 : Hid (Reg w5 p B) := RR.out.below b5
          have S5 : Hid (BsAt w5 (some ⟨b, off, none⟩) n B) := SS.out.below b5
          have L5 : Hid (Below w.heap.size w w5) := LL.out.trans (b5.mono LL.out.size)
          clear RR SS LL b5 F1 F2 c1
          go_upto_region 12 with (first | (refine wpList_alloc31 rfl rfl ?_) | (refine wpList_store31 rfl _ _ rfl zc rfl cs cl CO.out rfl rfl ?_))
          have R6 : Hid (Reg (w5.alloc (.cells cs.toArray 31)) p B) := R5.out.alloc _
          have S6 : Hid (BsAt (w5.alloc (.cells cs.toArray 31)) (some ⟨b, off, none⟩) n B) := S5.out.below ((Below.refl _ _).alloc (Nat.le_refl _) _)
          have L6 : Hid (Below w.heap.size w (w5.alloc (.cells cs.toArray 31))) := L5.out.alloc L5.out.size _
          have X6 := range_new w5 cs 31
          obtain ⟨X, hX⟩ : ∃ x, x = w5.heap.size := ⟨_, rfl⟩
          obtain ⟨W, hW⟩ : ∃ x, x = w5.alloc (.cells cs.toArray 31) := ⟨_, rfl⟩
          rw [← hX, ← hW] at X6
          rw [← hX, ← hW]
          rw [← hW] at R6 S6 L6
          rw [CE.out] at X6
          obtain ⟨x0, xk, xi, xr⟩ := bc_cells (HKS.out j) X6
          obtain ⟨b', off', he, hc⟩ := S6.out.spot h0
          simp only [Option.some.injEq, Addr.mk.injEq, and_true] at he
          obtain ⟨rfl, rfl⟩ := he
          obtain ⟨ck, _, _⟩ := hc k hlt
          obtain ⟨cj, rj, vj⟩ := hc j hjn
          obtain ⟨kk, hkk⟩ : ∃ kk, kk = (bd B j).key := ⟨_, rfl⟩
          obtain ⟨rv, hrv⟩ : ∃ rv, rv = (bd B j).rev := ⟨_, rfl⟩
          have HKK : Key kk := by rw [hkk]; exact HKS.out j
          rw [IE.out] at x0 cj
          rw [IK.out] at ck
          rw [← hkk] at xk rj
          rw [← hrv] at xr vj
          have l23 : ∀ q, (load23op (.pointer (some ⟨b, off + j * 34 + 1, none⟩))).run Try.prog (W.drewN q) = .ok (.agg kk.toArray) (W.drewN q) := fun q => load23_run _ _ _ kk HKK.1 rj
          have l29 : ∀ q, (load29op (.pointer (some ⟨X, 1, none⟩))).run Try.prog (W.drewN q) = .ok (.agg kk.toArray) (W.drewN q) := fun q => load29_run _ _ _ kk HKK.1 xk
          have hnq : ∀ w, (neq23op (.agg kk.toArray) (.agg kk.toArray)).run Try.prog w = .ok (.bool false) w := fun w => neq23_run kk w HKK
          have g1 : decide ((j : Int) < (k : Int)) = false := decide_eq_false (by omega)
          have g2 : decide ((n : Int) ≤ (j : Int)) = false := decide_eq_false (by omega)
          have j0 : (0 : Int) ≤ (j : Int) := Int.natCast_nonneg _
          have j1 : (j : Int) < (n : Int) := by omega
          have hwk : IntKind.u64.wrap (k : Int) = (k : Int) := u64_small k (by omega)
          have hwn : IntKind.u64.wrap (n : Int) = (n : Int) := u64_small n (by omega)
          clear X6 hc hkk hrv HKK rj xk hX hW R5 S5 L5 CE CO cl
          go_wp2_with fail
          go_quiet (fail)
          go_wp2_with fail
          clear g1 g2 hwk hwn
          go_quiet (fail)
          clear l23 l29 hnq
          by_cases hiq : id = q
          · have hs : (id.toList == q.toList) = true := by rw [hiq]; simp
            have HF : Hid ((lastI B q (k + 1)).isSome = true) := by
              have : (lastI B q (k + 1)) = some k := by rw [lastI, if_pos (IK.out.trans hiq)]
              rw [this]; rfl
            clear hiq
            go_wp2
            go_roundw
            case rel => exact ⟨k + 1, by omega, by go_num, by rw [HF.out], R6.out.below (below_drewN (Below.refl _ _) _), S6.out.below (below_drewN (Below.refl _ _) _), below_drewN L6.out _⟩
            case measure => simp [intOf]; omega
          · have hs : (id.toList == q.toList) = false := by
              simp only [beq_eq_false_iff_ne, ne_eq, ByteArray.toList_eq]
              intro e
              exact hiq (keyL_inj (by simp only [keyL]; rw [e]))
            have HF : Hid (lastI B q (k + 1) = lastI B q k) := by
              rw [lastI, if_neg (by rw [IK.out]; exact hiq)]; rfl
            clear hiq
            go_wp2
            go_roundw
            case rel => exact ⟨k + 1, by omega, by go_num, by rw [HF.out], R6.out.below (below_drewN (Below.refl _ _) _), S6.out.below (below_drewN (Below.refl _ _) _), below_drewN L6.out _⟩
            case measure => simp [intOf]; omega
        · obtain rfl : k = n := by omega
          obtain ⟨fo, hfo⟩ : ∃ fo, fo = (lastI B q k).isSome := ⟨_, rfl⟩
          rw [← hfo]
          have F2 : Hid (foundOk B q = fo) := by rw [hfo]; unfold foundOk; rw [HBL.out]; rfl
          have RR : Hid (Reg wr p B) := hR
          have LL : Hid (Below w.heap.size w wr) := hL
          obtain ⟨id', ks', i', r', hff, hkk⟩ := found_form HKS.out q
          obtain ⟨cs, hcs⟩ : ∃ cs, cs = found B q := ⟨_, rfl⟩
          have F1 : Hid (found B q = cs) := hcs.symm
          have hce : cs = bcells id' ks' i' r' := hcs.trans hff
          have cl : cs.length = 35 := by rw [hce]; exact bcells_len _ _ _ _ hkk.1
          have CO : Hid (∀ v ∈ cs, v.oneCell' = true) := by rw [hce]; exact bcells_one _ _ _ _ hkk
          have HZ : Hid (fo = false → cs = bcells ByteArray.empty zkey 0 false) := fun e => by
            rw [hcs]
            unfold found
            have : lastI B q B.length = none := by
              rw [HBL.out]
              rw [hfo] at e
              simpa using e
            rw [this]
          clear hff hkk hcs hce hfo hR hS hL
          cases fo with
          | true =>
            go_wp2_with fail
            refine (look_big p B q cs true F1 F2 _ (by omega) RR.out).mono ?_
            rintro e w5 ⟨rfl, b5⟩
            have L5 : Hid (Below w.heap.size w w5) := LL.out.trans (b5.mono LL.out.size)
            clear b5 RR LL
            go_upto_region 22 with (first | (refine wpList_alloc31 rfl rfl ?_) | (refine wpList_store31 rfl _ _ rfl zc rfl cs cl CO.out rfl rfl ?_))
            have L6 : Hid (Below w.heap.size w (w5.alloc (.cells cs.toArray 31))) := L5.out.alloc L5.out.size _
            go_wp2
            go_ret
            exact ⟨rfl, L6.out⟩
          | false =>
            have hce := HZ.out rfl
            go_wp2_with fail
            refine (look_big p B q cs false F1 F2 _ (by omega) RR.out).mono ?_
            rintro e w5 ⟨rfl, b5⟩
            have L5 : Hid (Below w.heap.size w w5) := LL.out.trans (b5.mono LL.out.size)
            clear b5 RR LL
            have HE : Hid (cs = bcells ByteArray.empty zkey 0 false) := hce
            clear hce HZ
            go_upto_region 22 with (first | (refine wpList_alloc31 rfl rfl ?_) | (refine wpList_store31 rfl _ _ rfl zc rfl cs cl CO.out rfl rfl ?_))
            have L6 : Hid (Below w.heap.size w (w5.alloc (.cells cs.toArray 31))) := L5.out.alloc L5.out.size _
            have X6 := range_new w5 cs 31
            obtain ⟨X, hX⟩ : ∃ x, x = w5.heap.size := ⟨_, rfl⟩
            obtain ⟨W, hW⟩ : ∃ x, x = w5.alloc (.cells cs.toArray 31) := ⟨_, rfl⟩
            rw [← hX, ← hW] at X6
            rw [← hX, ← hW]
            rw [← hW] at L6
            have hzc : (Try.prog.info? 31).map (·.size) = some cs.length := by rw [cl, Try.size31]
            have HZC : Hid (zc = cs.toArray) := by rw [HE.out]; rfl
            clear hX hW L5
            go_wp2_with (first | (refine wpList_load_mid rfl 31 _ rfl X 0 rfl cs _ X6 Try.underlying31 rfl hzc ?_) | (refine wpList_build31z rfl rfl ?_; rw [HZC.out, HE.out]) | (refine wpList_eql31 rfl _ _ rfl ByteArray.empty zkey 0 false zkey_ok rfl rfl ?_))
            go_ret
            exact ⟨rfl, L6.out⟩

set_option maxRecDepth 100000 in
set_option maxHeartbeats 1600000 in
theorem newest_zero (a : Option Addr) (c : Nat) (q : ByteArray) (w : World) (hq : q.size ≤ 9223372036854775807) (h : BsAt w a 0 []) :
    Calls Try.prog 4 #[.slice a 0 c, .string q] w fun e w' => e = .returned (.bool true) ∧ Below w.heap.size w w' := by
  have HBS : Hid (BsAt w a 0 []) := h
  clear h
  go_enter Try.func4, Try.ntmps4
  go_wp2_with fail
  refine (bytes9_any a 0 c [] q w (Nat.zero_le _) hq HBS.out).mono ?_
  rintro e w1 ⟨⟨r, rfl, hr⟩, hw1⟩
  subst hw1
  cases r with
  | false =>
    go_wp2
    go_ret
    exact ⟨rfl, Below.refl _ _⟩
  | true =>
    obtain ⟨hn2, hq2⟩ := hr rfl
    clear hr hq
    go_wp2_with fail
    refine (too_any a 0 c [] q ⟨#[]⟩ w hn2 hq2 (Nat.zero_le _) HBS.out).mono ?_
    rintro e w3 ⟨⟨r, rfl, hr⟩, hw3⟩
    subst hw3
    cases r with
    | true =>
      go_wp2
      go_ret
      exact ⟨rfl, Below.refl _ _⟩
    | false =>
      have hn3 : 0 ≤ 65536 := hr rfl
      clear hr hn2
      go_wp2_with (refine wpList_build23z rfl rfl ?_)
      refine (build_any a 0 c [] ⟨#[]⟩ zkey false _ hn3 HBS.out zkey_ok (Nat.zero_le _) false).mono ?_
      rintro e w4 ⟨p, rfl, R0, b4⟩
      have RR : Hid (Reg w4 p []) := R0
      have LL : Hid (Below w.heap.size w w4) := b4
      obtain ⟨cs, hcs⟩ : ∃ cs, cs = bcells ByteArray.empty zkey 0 false := ⟨_, rfl⟩
      have F1 : Hid (found [] q = cs) := by rw [hcs]; rfl
      have F2 : Hid (foundOk [] q = false) := rfl
      have HE : Hid (cs = bcells ByteArray.empty zkey 0 false) := hcs
      have cl : cs.length = 35 := by rw [hcs]; exact bcells_len _ _ _ _ zkey_ok.1
      have CO : Hid (∀ v ∈ cs, v.oneCell' = true) := by rw [hcs]; exact bcells_one _ _ _ _ zkey_ok
      clear HBS R0 b4 hcs hn3
      go_wp2_with fail
      refine wp_loop_rounds 1 ?_
      rw [rounds_succ]
      go_wp2_with fail
      refine (look_big p [] q cs false F1 F2 _ (by omega) RR.out).mono ?_
      rintro e w5 ⟨rfl, b5⟩
      have L5 : Hid (Below w.heap.size w w5) := LL.out.trans (b5.mono LL.out.size)
      clear b5 RR LL
      go_upto_region 22 with (first | (refine wpList_alloc31 rfl rfl ?_) | (refine wpList_store31 rfl _ _ rfl zc rfl cs cl CO.out rfl rfl ?_))
      have L6 : Hid (Below w.heap.size w (w5.alloc (.cells cs.toArray 31))) := L5.out.alloc L5.out.size _
      have X6 := range_new w5 cs 31
      obtain ⟨X, hX⟩ : ∃ x, x = w5.heap.size := ⟨_, rfl⟩
      obtain ⟨W, hW⟩ : ∃ x, x = w5.alloc (.cells cs.toArray 31) := ⟨_, rfl⟩
      rw [← hX, ← hW] at X6
      rw [← hX, ← hW]
      rw [← hW] at L6
      have hzc : (Try.prog.info? 31).map (·.size) = some cs.length := by rw [cl, Try.size31]
      have HZC : Hid (zc = cs.toArray) := by rw [HE.out]; rfl
      clear hX hW L5
      go_wp2_with (first | (refine wpList_load_mid rfl 31 _ rfl X 0 rfl cs _ X6 Try.underlying31 rfl hzc ?_) | (refine wpList_build31z rfl rfl ?_; rw [HZC.out, HE.out]) | (refine wpList_eql31 rfl _ _ rfl ByteArray.empty zkey 0 false zkey_ok rfl rfl ?_))
      go_ret
      exact ⟨rfl, L6.out⟩

theorem newest_any (a : Option Addr) (n c : Nat) (B : List Bd) (q : ByteArray) (w : World) (hn : n ≤ 9223372036854775807) (hq : q.size ≤ 9223372036854775807) (h : BsAt w a n B) :
    Calls Try.prog 4 #[.slice a n c, .string q] w fun e w' => e = .returned (.bool true) ∧ Below w.heap.size w w' := by
  rcases Nat.eq_zero_or_pos n with h0 | h0
  · subst h0
    obtain rfl : B = [] := List.length_eq_zero_iff.1 h.1
    exact newest_zero a c q w hq h
  · obtain ⟨b, off, rfl, _⟩ := h.spot h0
    exact newest_pos b off n c B q w h0 hn hq h
end Go.Proofs.Qxb6627777a
