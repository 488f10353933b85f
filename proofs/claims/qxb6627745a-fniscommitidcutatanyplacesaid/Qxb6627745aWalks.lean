import Derived.Test.Qxb6627745aRows
import Derived.Test.Qxb6627745aPlain
import Derived.WalkKit
import Derived.WalkSpells
import Derived.WalkLawsBesides
import Derived.Below
import Derived.Laws.RangeAny
import Derived.Laws.IdiomStrings
import Derived.OwnWalk
namespace Go.Proofs.Qxb6627745a
open Go.RowKit

theorem ret_bool {a b : Bool} (h : a = b) : Ending.returned (.bool a) = .returned (.bool b) := by rw [h]
theorem ret_str {a b : ByteArray} (h : a = b) : Ending.returned (.string a) = .returned (.string b) := by rw [h]

def isId (s : ByteArray) : Bool := idL s.data.toList
def restOk (s : ByteArray) (pos : Nat) : Bool := (s.data.toList.drop pos).all (fun b => hexB b.toNat)
theorem restOk_step (s : ByteArray) (pos : Nat) (h : pos < s.size) : restOk s pos = (hexB (s[pos]'h).toNat && restOk s (pos + 1)) := by
  unfold restOk
  rw [List.drop_eq_getElem_cons (by simpa using h)]
  rfl
theorem restOk_end (s : ByteArray) (pos : Nat) (h : s.size ≤ pos) : restOk s pos = true := by
  unfold restOk
  rw [List.drop_of_length_le (by simpa using h)]
  rfl
theorem isId_40 (s : ByteArray) (h : s.size = 40) : isId s = restOk s 0 := by
  have : s.data.toList.length = 40 := by simpa using h
  simp [isId, idL, restOk, h]
theorem isId_no (s : ByteArray) (h : s.size ≠ 40) : isId s = false := idL_len _ (by simpa using h)

set_option maxHeartbeats 400000 in
theorem id_any (s : ByteArray) (w : World) :
    Calls Try.prog 6 #[.string s] w fun e w' => e = .returned (.bool (isId s)) ∧ Below w.heap.size w w' := by
  by_cases h40 : s.size = 40
  · rw [isId_40 s h40]
    obtain ⟨r, hr⟩ : ∃ r, r = restOk s 0 := ⟨_, rfl⟩
    rw [← hr]
    have HR : Hid (r = restOk s 0) := hr
    clear hr
    have e40 : ((s.size : Int) != 40) = false := by simp; omega
    have HS : Hid (s.size = 40) := h40
    clear h40
    go_enter Try.func6, Try.ntmps6
    go_wp2
    go_loopw [4] (fun _ w' => ∃ pos : Nat, w' = w.iter s pos ∧ r = restOk s pos) (fun _ w' => s.size - w'.iterPos w.heap.size)
    case atStart => exact ⟨0, rfl, HR.out⟩
    case round =>
      obtain ⟨pos, rfl, hr⟩ := hrel
      have H : Hid (r = restOk s pos) := hr
      clear hr HR
      by_cases hp : pos < s.size
      · have hst := restOk_step s pos hp
        by_cases ha : (s[pos]'hp).toNat < 128
        · obtain ⟨b, hb⟩ : ∃ b, b = (s[pos]'hp).toNat := ⟨_, rfl⟩
          have hnx : ∀ ty, (Instr.next (.pointer (some ⟨w.heap.size, 0, none⟩)) true ty).run Try.prog (w.iter s pos) = .ok (.tuple #[.bool true, .int .i64 pos, .int .i32 b]) (w.iter s (pos + 1)) := fun ty => by
            have := run_next_any (P := Try.prog) w s pos ty hp
            rw [decode_ascii s pos hp ha, ← hb] at this
            exact this
          rw [← hb] at hst ha
          have HT : Hid (restOk s pos = (hexB b && restOk s (pos + 1))) := hst
          clear hst hb
          rcases hexB_cases b with ⟨hx, h1, h2⟩ | ⟨hx, h1, h2⟩ | ⟨hx, h1⟩ | ⟨hx, h1, h2⟩ | ⟨hx, h1⟩
          · have HF : Hid (r = restOk s (pos + 1)) := by rw [H.out, HT.out, hx]; simp [Hid]
            clear hx HT
            go_wp2
            go_roundw
            case rel => exact ⟨pos + 1, rfl, HF.out⟩
            case measure => simp; omega
          · have HF : Hid (r = restOk s (pos + 1)) := by rw [H.out, HT.out, hx]; simp [Hid]
            have g1 : decide ((48 : Int) ≤ (b : Int)) = true := decide_eq_true (by omega)
            have g2 : decide ((b : Int) ≤ 57) = false := decide_eq_false (by omega)
            have g3 : decide ((97 : Int) ≤ (b : Int)) = true := decide_eq_true (by omega)
            have g4 : decide ((b : Int) ≤ 102) = true := decide_eq_true (by omega)
            clear hx HT
            go_wp2
            go_roundw
            case rel => exact ⟨pos + 1, rfl, HF.out⟩
            case measure => simp; omega
          · have HF : Hid (false = r) := by rw [H.out, HT.out, hx]; simp [Hid]
            have g1 : decide ((48 : Int) ≤ (b : Int)) = false := decide_eq_false (by omega)
            have g3 : decide ((97 : Int) ≤ (b : Int)) = false := decide_eq_false (by omega)
            clear hx HT
            go_wp2
            go_ret
            exact ⟨ret_bool HF.out, (Below.refl _ _).alloc (Nat.le_refl _) _⟩
          · have HF : Hid (false = r) := by rw [H.out, HT.out, hx]; simp [Hid]
            have g1 : decide ((48 : Int) ≤ (b : Int)) = true := decide_eq_true (by omega)
            have g2 : decide ((b : Int) ≤ 57) = false := decide_eq_false (by omega)
            have g3 : decide ((97 : Int) ≤ (b : Int)) = false := decide_eq_false (by omega)
            clear hx HT
            go_wp2
            go_ret
            exact ⟨ret_bool HF.out, (Below.refl _ _).alloc (Nat.le_refl _) _⟩
          · have HF : Hid (false = r) := by rw [H.out, HT.out, hx]; simp [Hid]
            have g1 : decide ((48 : Int) ≤ (b : Int)) = true := decide_eq_true (by omega)
            have g2 : decide ((b : Int) ≤ 57) = false := decide_eq_false (by omega)
            have g3 : decide ((97 : Int) ≤ (b : Int)) = true := decide_eq_true (by omega)
            have g4 : decide ((b : Int) ≤ 102) = false := decide_eq_false (by omega)
            clear hx HT
            go_wp2
            go_ret
            exact ⟨ret_bool HF.out, (Below.refl _ _).alloc (Nat.le_refl _) _⟩
        · have hd := decode_high s pos hp (by omega)
          have hx : hexB (s[pos]'hp).toNat = false := hexB_no _ (by omega)
          have HF : Hid (false = r) := by rw [H.out, hst, hx]; simp [Hid]
          obtain ⟨c, hc⟩ : ∃ c, c = (Utf8.decode s pos).1 := ⟨_, rfl⟩
          obtain ⟨dd, hdd⟩ : ∃ c, c = (Utf8.decode s pos).2 := ⟨_, rfl⟩
          have hnx : ∀ ty, (Instr.next (.pointer (some ⟨w.heap.size, 0, none⟩)) true ty).run Try.prog (w.iter s pos) = .ok (.tuple #[.bool true, .int .i64 pos, .int .i32 c]) (w.iter s (pos + dd)) := fun ty => by
            have := run_next_any (P := Try.prog) w s pos ty hp
            rw [← hc, ← hdd] at this
            exact this
          have h1 : 128 ≤ c := by rw [hc]; exact hd.1
          have g1 : decide ((48 : Int) ≤ (c : Int)) = true := decide_eq_true (by omega)
          have g2 : decide ((c : Int) ≤ 57) = false := decide_eq_false (by omega)
          have g3 : decide ((97 : Int) ≤ (c : Int)) = true := decide_eq_true (by omega)
          have g4 : decide ((c : Int) ≤ 102) = false := decide_eq_false (by omega)
          clear hst hx hd hc hdd ha
          go_wp2
          go_ret
          exact ⟨ret_bool HF.out, (Below.refl _ _).alloc (Nat.le_refl _) _⟩
      · have hnx : ∀ ty, (Instr.next (.pointer (some ⟨w.heap.size, 0, none⟩)) true ty).run Try.prog (w.iter s pos) = _ := fun ty => run_next_end w s pos ty hp
        have HF : Hid (true = r) := by rw [H.out, restOk_end s pos (by omega)]; simp [Hid]
        go_wp2
        go_ret
        exact ⟨ret_bool HF.out, (Below.refl _ _).alloc (Nat.le_refl _) _⟩
  · rw [isId_no s h40]
    have e40 : ((s.size : Int) != 40) = true := by simp; omega
    clear h40
    go_enter Try.func6, Try.ntmps6
    go_wp2
    go_ret
    exact ⟨rfl, Below.refl _ _⟩
end Go.Proofs.Qxb6627745a
