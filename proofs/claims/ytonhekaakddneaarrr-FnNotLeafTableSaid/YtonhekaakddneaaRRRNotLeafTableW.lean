/- Proved here: the walk of the law FnNotLeafTable, for every input. -/
import Derived.Test.YtonhekaakddneaaRRRNO
import Derived.WalkKit
import Derived.WalkSpells
import Derived.WalkLawsBesides
import Derived.Lib.Hide
import Derived.Lib.SliceRun
import Derived.Deep.RegionWith
import Derived.Test.YtonhekaakddneaaRRRNN
namespace Go.Proofs.YtonhekaakddneaaRRR.fnNotLeafTable
open Go.RowKit
set_option linter.unusedSimpArgs false
set_option linter.unusedVariables false

set_option maxRecDepth 100000 in
theorem mo0 (k : Int) (b : Bool) (x : Nat) (a : Option Addr) (len cap : Nat) (big : ByteArray) (w : World) (h0 : 0 ≤ k) (h1 : k ≤ 255) (hk : k % 11 = 0) :
    Calls Try.prog 17 #[.int .u8 k, .bool b, .float .f64 x, .slice a len cap, .string big] w fun e w' => e = .returned (.tuple #[.bool true, .bool true]) ∧ w = w' := by
  go_enter Try.func17, Try.ntmps17
  go_wp2_with fail
  go_ret2
  exact ⟨rfl, rfl⟩

set_option maxRecDepth 100000 in
theorem mo1 (k : Int) (b : Bool) (x : Nat) (a : Option Addr) (len cap : Nat) (big : ByteArray) (w : World) (h0 : 0 ≤ k) (h1 : k ≤ 255) (hk : k % 11 = 1) :
    Calls Try.prog 17 #[.int .u8 k, .bool b, .float .f64 x, .slice a len cap, .string big] w fun e w' => e = .returned (.tuple #[.bool true, .bool true]) ∧ w = w' := by
  go_enter Try.func17, Try.ntmps17
  go_wp2_with fail
  go_ret2
  exact ⟨rfl, rfl⟩

set_option maxRecDepth 100000 in
theorem mo2 (k : Int) (b : Bool) (x : Nat) (a : Option Addr) (len cap : Nat) (big : ByteArray) (w : World) (h0 : 0 ≤ k) (h1 : k ≤ 255) (hk : k % 11 = 2) :
    Calls Try.prog 17 #[.int .u8 k, .bool b, .float .f64 x, .slice a len cap, .string big] w fun e w' => e = .returned (.tuple #[.bool !b, .bool true]) ∧ w = w' := by
  go_enter Try.func17, Try.ntmps17
  go_wp2_with fail
  go_ret2
  exact ⟨rfl, rfl⟩

set_option maxRecDepth 100000 in
theorem mo3z (k : Int) (b : Bool) (x : Nat) (a : Option Addr) (len cap : Nat) (big : ByteArray) (w : World) (h0 : 0 ≤ k) (h1 : k ≤ 255) (hk : k % 11 = 3) (hz : FloatKind.f64.format.order x 0 = some .eq) :
    Calls Try.prog 17 #[.int .u8 k, .bool b, .float .f64 x, .slice a len cap, .string big] w fun e w' => e = .returned (.tuple #[.bool true, .bool true]) ∧ w = w' := by
  go_enter Try.func17, Try.ntmps17
  go_wp2_with fail
  go_ret2
  exact ⟨rfl, rfl⟩

set_option maxRecDepth 100000 in
theorem mo3l (k : Int) (b : Bool) (x : Nat) (a : Option Addr) (len cap : Nat) (big : ByteArray) (w : World) (h0 : 0 ≤ k) (h1 : k ≤ 255) (hk : k % 11 = 3) (hz : FloatKind.f64.format.order x 0 = some .lt) :
    Calls Try.prog 17 #[.int .u8 k, .bool b, .float .f64 x, .slice a len cap, .string big] w fun e w' => e = .returned (.tuple #[.bool false, .bool true]) ∧ w = w' := by
  go_enter Try.func17, Try.ntmps17
  go_wp2_with fail
  go_ret2
  exact ⟨rfl, rfl⟩

set_option maxRecDepth 100000 in
theorem mo3g (k : Int) (b : Bool) (x : Nat) (a : Option Addr) (len cap : Nat) (big : ByteArray) (w : World) (h0 : 0 ≤ k) (h1 : k ≤ 255) (hk : k % 11 = 3) (hz : FloatKind.f64.format.order x 0 = some .gt) :
    Calls Try.prog 17 #[.int .u8 k, .bool b, .float .f64 x, .slice a len cap, .string big] w fun e w' => e = .returned (.tuple #[.bool false, .bool true]) ∧ w = w' := by
  go_enter Try.func17, Try.ntmps17
  go_wp2_with fail
  go_ret2
  exact ⟨rfl, rfl⟩

set_option maxRecDepth 100000 in
theorem mo3n (k : Int) (b : Bool) (x : Nat) (a : Option Addr) (len cap : Nat) (big : ByteArray) (w : World) (h0 : 0 ≤ k) (h1 : k ≤ 255) (hk : k % 11 = 3) (hz : FloatKind.f64.format.order x 0 = none) :
    Calls Try.prog 17 #[.int .u8 k, .bool b, .float .f64 x, .slice a len cap, .string big] w fun e w' => e = .returned (.tuple #[.bool true, .bool true]) ∧ w = w' := by
  go_enter Try.func17, Try.ntmps17
  go_wp2_with fail
  go_ret2
  exact ⟨rfl, rfl⟩

set_option maxRecDepth 100000 in
theorem mo4e (k : Int) (b : Bool) (x : Nat) (a : Option Addr) (len cap : Nat) (big : ByteArray) (w : World) (h0 : 0 ≤ k) (h1 : k ≤ 255) (hk : k % 11 = 4) (hn : ((len : Int) == 0) = true) :
    Calls Try.prog 17 #[.int .u8 k, .bool b, .float .f64 x, .slice a len cap, .string big] w fun e w' => e = .returned (.tuple #[.bool true, .bool true]) ∧ w = w' := by
  go_enter Try.func17, Try.ntmps17
  go_wp2_with fail
  go_ret2
  exact ⟨rfl, rfl⟩

set_option maxRecDepth 100000 in
theorem mo4n (k : Int) (b : Bool) (x : Nat) (a : Option Addr) (len cap : Nat) (big : ByteArray) (w : World) (h0 : 0 ≤ k) (h1 : k ≤ 255) (hk : k % 11 = 4) (hn : ((len : Int) == 0) = false) :
    Calls Try.prog 17 #[.int .u8 k, .bool b, .float .f64 x, .slice a len cap, .string big] w fun e w' => e = .returned (.tuple #[.bool false, .bool true]) ∧ w = w' := by
  go_enter Try.func17, Try.ntmps17
  go_wp2_with fail
  go_ret2
  exact ⟨rfl, rfl⟩

set_option maxRecDepth 100000 in
theorem mo5z (k : Int) (b : Bool) (x : Nat) (a : Option Addr) (len cap : Nat) (big : ByteArray) (w : World) (h0 : 0 ≤ k) (h1 : k ≤ 255) (hk : k % 11 = 5) (hne : (big.toList == [48]) = true) :
    Calls Try.prog 17 #[.int .u8 k, .bool b, .float .f64 x, .slice a len cap, .string big] w fun e w' => e = .returned (.tuple #[.bool true, .bool true]) ∧ w = w' := by
  go_enter Try.func17, Try.ntmps17
  go_wp2_with fail
  go_ret2
  exact ⟨rfl, rfl⟩

set_option maxRecDepth 100000 in
theorem mo5s (k : Int) (b : Bool) (x : Nat) (a : Option Addr) (len cap : Nat) (big : ByteArray) (w : World) (h0 : 0 ≤ k) (h1 : k ≤ 255) (hk : k % 11 = 5) (hne : (big.toList == [48]) = false) (hs : big.size < 2) :
    Calls Try.prog 17 #[.int .u8 k, .bool b, .float .f64 x, .slice a len cap, .string big] w fun e w' => e = .returned (.tuple #[.bool false, .bool true]) ∧ w = w' := by
  have h2 : decide (2 ≤ (big.size : Int)) = false := by simp; omega
  go_enter Try.func17, Try.ntmps17
  go_wp2_with fail
  go_ret2
  exact ⟨rfl, rfl⟩

set_option maxRecDepth 100000 in
theorem mo5d (k : Int) (b : Bool) (x : Nat) (a : Option Addr) (len cap : Nat) (big : ByteArray) (w : World) (h0 : 0 ≤ k) (h1 : k ≤ 255) (hk : k % 11 = 5) (hne : (big.toList == [48]) = false) (hs : 2 ≤ big.size) (hm : big.size ≤ 1048576) (hd : ((big[0].toNat : Int) == 48) = false) :
    Calls Try.prog 17 #[.int .u8 k, .bool b, .float .f64 x, .slice a len cap, .string big] w fun e w' => e = .returned (.tuple #[.bool false, .bool true]) ∧ w = w' := by
  have h2 : decide (2 ≤ (big.size : Int)) = true := by simp; omega
  go_enter Try.func17, Try.ntmps17
  go_wp2_with fail
  go_ret2
  exact ⟨rfl, rfl⟩

set_option maxRecDepth 100000 in
theorem mo5u (k : Int) (b : Bool) (x : Nat) (a : Option Addr) (len cap : Nat) (big : ByteArray) (w : World) (h0 : 0 ≤ k) (h1 : k ≤ 255) (hk : k % 11 = 5) (hne : (big.toList == [48]) = false) (hs : 2 ≤ big.size) (hm : big.size ≤ 1048576) (hd : ((big[0].toNat : Int) == 48) = true) :
    Calls Try.prog 17 #[.int .u8 k, .bool b, .float .f64 x, .slice a len cap, .string big] w fun e w' => e = .returned (.tuple #[.bool false, .bool false]) ∧ w = w' := by
  have h2 : decide (2 ≤ (big.size : Int)) = true := by simp; omega
  go_enter Try.func17, Try.ntmps17
  go_wp2_with fail
  go_ret2
  exact ⟨rfl, rfl⟩

set_option maxRecDepth 100000 in
theorem mo6 (k : Int) (b : Bool) (x : Nat) (a : Option Addr) (len cap : Nat) (big : ByteArray) (w : World) (h0 : 0 ≤ k) (h1 : k ≤ 255) (hk : k % 11 = 6) :
    Calls Try.prog 17 #[.int .u8 k, .bool b, .float .f64 x, .slice a len cap, .string big] w fun e w' => e = .returned (.tuple #[.bool false, .bool true]) ∧ w = w' := by
  go_enter Try.func17, Try.ntmps17
  go_wp2_with fail
  go_ret2
  exact ⟨rfl, rfl⟩

set_option maxRecDepth 100000 in
theorem mo7 (k : Int) (b : Bool) (x : Nat) (a : Option Addr) (len cap : Nat) (big : ByteArray) (w : World) (h0 : 0 ≤ k) (h1 : k ≤ 255) (hk : k % 11 = 7) :
    Calls Try.prog 17 #[.int .u8 k, .bool b, .float .f64 x, .slice a len cap, .string big] w fun e w' => e = .returned (.tuple #[.bool false, .bool true]) ∧ w = w' := by
  go_enter Try.func17, Try.ntmps17
  go_wp2_with fail
  go_ret2
  exact ⟨rfl, rfl⟩

set_option maxRecDepth 100000 in
theorem mo8 (k : Int) (b : Bool) (x : Nat) (a : Option Addr) (len cap : Nat) (big : ByteArray) (w : World) (h0 : 0 ≤ k) (h1 : k ≤ 255) (hk : k % 11 = 8) :
    Calls Try.prog 17 #[.int .u8 k, .bool b, .float .f64 x, .slice a len cap, .string big] w fun e w' => e = .returned (.tuple #[.bool false, .bool true]) ∧ w = w' := by
  go_enter Try.func17, Try.ntmps17
  go_wp2_with fail
  go_ret2
  exact ⟨rfl, rfl⟩

set_option maxRecDepth 100000 in
theorem mo9 (k : Int) (b : Bool) (x : Nat) (a : Option Addr) (len cap : Nat) (big : ByteArray) (w : World) (h0 : 0 ≤ k) (h1 : k ≤ 255) (hk : k % 11 = 9) :
    Calls Try.prog 17 #[.int .u8 k, .bool b, .float .f64 x, .slice a len cap, .string big] w fun e w' => e = .returned (.tuple #[.bool false, .bool false]) ∧ w = w' := by
  go_enter Try.func17, Try.ntmps17
  go_wp2_with fail
  go_ret2
  exact ⟨rfl, rfl⟩

set_option maxRecDepth 100000 in
theorem mo10 (k : Int) (b : Bool) (x : Nat) (a : Option Addr) (len cap : Nat) (big : ByteArray) (w : World) (h0 : 0 ≤ k) (h1 : k ≤ 255) (hk : k % 11 = 10) :
    Calls Try.prog 17 #[.int .u8 k, .bool b, .float .f64 x, .slice a len cap, .string big] w fun e w' => e = .returned (.tuple #[.bool false, .bool false]) ∧ w = w' := by
  go_enter Try.func17, Try.ntmps17
  go_wp2_with fail
  go_ret2
  exact ⟨rfl, rfl⟩

theorem ord_self (d : Ieee.Datum) : d.order d = some .eq ∨ ∀ d', d.order d' = none := by
  cases d with
  | number s m i => left; simp [Ieee.Datum.order]
  | infinity s => left; simp [Ieee.Datum.order]
  | nan s t => right; intro d'; simp [Ieee.Datum.order]
theorem ord_zero (d z : Ieee.Datum) (hz : z.order z = some .eq) (h : d.order d = some .eq) : d.order z ≠ none := by
  cases d <;> cases z <;> simp_all [Ieee.Datum.order]
theorem ord64 (x : Nat) : (FloatKind.f64.format.order x 0 = none ∧ FloatKind.f64.format.order x x = none) ∨ (FloatKind.f64.format.order x x = some .eq ∧ FloatKind.f64.format.order x 0 ≠ none) := by
  have h0 : FloatKind.f64.format.order 0 0 = some .eq := by kernel_rfl
  rcases ord_self (FloatKind.f64.format.read x) with h | h
  · right; exact ⟨h, ord_zero _ _ h0 h⟩
  · left; exact ⟨h _, h _⟩
set_option maxRecDepth 100000 in
set_option maxHeartbeats 1000000 in
theorem no44 (p : Nat) (n : Int) (big : ByteArray) (w : World) (hc : w.cell? ⟨p, 0, none⟩ = some (.string big)) (hne : (big.toList == [48]) = false) (hs : 2 ≤ big.size) (hm : big.size ≤ 1048576) (h0 : ((big[0].toNat : Int) != 48) = false) :
    Calls Try.prog 23 #[.agg #[.iface 44 (.pointer (some ⟨p, 0, none⟩)), .int .i32 n]] w (No2 w) := by
  have hlt : p < w.heap.size := World.block_lt_of_cell? _ _ hc
  have hlt1 : p < w.heap.size + 1 := by omega
  have hlt2 : p < w.heap.size + 1 + 1 := by omega
  go_enter Try.func23, Try.ntmps23
  go_wp2_with fail
  refine (ceq_unk _ _ hne hs hm h0).mono ?_
  rintro e w' ⟨rfl, rfl⟩
  go_wp2_with fail
  exact bodyPost_ret (v := .tuple #[.agg #[.nilIface, .int .i32 0], .bool false]) (by simp [results, Try.results23, go_sem]) rfl ⟨rfl, ((Below.refl _ _).alloc (Nat.le_refl _) _).alloc (by simp) _⟩
theorem bytes48 (big : ByteArray) (h : (big.toList == [48]) = true) : big = ⟨#[48]⟩ := by
  have h1 : big.toList = [48] := by simpa using h
  have h2 : big.data.toList = [48] := by rw [← ByteArray.toList_eq]; exact h1
  obtain ⟨d⟩ := big
  have : d = #[48] := by apply Array.toList_inj.1; simpa using h2
  rw [this]
set_option maxRecDepth 100000 in
theorem long (k : Int) (b : Bool) (x : Nat) (a : Option Addr) (len cap : Nat) (big : ByteArray) (loc : Int) (w : World) (h : 1048576 < 2 * len + big.size) (hl : len ≤ maxLen) (hb : big.size ≤ maxLen) :
    Calls Try.prog 4 #[.int .u8 k, .bool b, .float .f64 x, .slice a len cap, .string big, .int .i32 loc] w fun e w' => e = .returned (.bool true) ∧ Below w.heap.size w w' := by
  unfold maxLen at hl hb
  by_cases c1 : len ≤ 1048576
  · by_cases c2 : big.size ≤ 1048576
    · by_cases c3 : len + big.size ≤ 1048576
      · go_enter Try.func4, Try.ntmps4
        go_wp2_with (first | (go_at_call 12; refine (bytes_yes _ _ _ _ _ _ _ _ _ (by omega) (by omega) (by omega)).mono ?_; rintro e w' ⟨rfl, rfl⟩))
        go_ret
        exact ⟨rfl, Below.refl _ _⟩
      · go_enter Try.func4, Try.ntmps4
        go_wp2
        go_ret
        exact ⟨rfl, Below.refl _ _⟩
    · go_enter Try.func4, Try.ntmps4
      go_wp2
      go_ret
      exact ⟨rfl, Below.refl _ _⟩
  · go_enter Try.func4, Try.ntmps4
    go_wp2
    go_ret
    exact ⟨rfl, Below.refl _ _⟩

theorem walk (k : Int) (b : Bool) (x : Nat) (a : Option Addr) (len cap : Nat) (zs : List Int) (big : ByteArray) (loc : Int) (w : World) (w0 : (Lit.int .u8 k).wf = true) (w2 : (Lit.float .f64 x).wf = true) (w3 : IsRow .u16 w a len cap zs) (w4 : big.size ≤ maxLen) (w5 : (Lit.int .i32 loc).wf = true) :
    Calls Try.prog 4 #[.int .u8 k, .bool b, .float .f64 x, .slice a len cap, .string big, .int .i32 loc] w fun e w' => e = .returned (.bool true) ∧ Below w.heap.size w w' := by
  obtain ⟨h0, h1⟩ := wf_u8 w0
  by_cases hl : 2 * len + big.size ≤ 1048576
  case neg =>
    refine long k b x a len cap big loc w (by omega) ?_ w4
    rcases w3 with ⟨_, rfl, _⟩ | ⟨_, _, h, h', _⟩
    · unfold maxLen; omega
    · omega
  have hk : k % 11 = 0 ∨ k % 11 = 1 ∨ k % 11 = 2 ∨ k % 11 = 3 ∨ k % 11 = 4 ∨ k % 11 = 5 ∨ k % 11 = 6 ∨ k % 11 = 7 ∨ k % 11 = 8 ∨ k % 11 = 9 ∨ k % 11 = 10 := by omega
  have L := law_b k b x a len cap big loc w zs w3 hl
  rcases hk with hk | hk | hk | hk | hk | hk | hk | hk | hk | hk | hk
  · exact L 82 (fun a' cap' => none) (true) (fun a' cap' W => mk0 k b x a' len cap' big loc W h0 h1 hk) (fun a' cap' p W hp => not_b 82 p loc _ W (fun W' hW => msn0 p loc W')) (fun a' cap' W => mo0 k b x a' len cap' big W h0 h1 hk)
  · exact L 84 (fun a' cap' => none) (true) (fun a' cap' W => mk1 k b x a' len cap' big loc W h0 h1 hk) (fun a' cap' p W hp => not_b 84 p loc _ W (fun W' hW => msn1 p loc W')) (fun a' cap' W => mo1 k b x a' len cap' big W h0 h1 hk)
  · exact L 53 (fun a' cap' => some (.bool b)) (!b) (fun a' cap' W => mk2 k b x a' len cap' big loc W h0 h1 hk) (fun a' cap' p W hp => not_b 53 p loc _ W (fun W' hW => msn2 p loc W' b (kept hW (hp _ rfl)))) (fun a' cap' W => mo2 k b x a' len cap' big W h0 h1 hk)
  · rcases ord64 x with ⟨hz, hn⟩ | ⟨hn, hz⟩
    · exact L 94 (fun a' cap' => some (.float .f64 x)) (true) (fun a' cap' W => mk3 k b x a' len cap' big loc W h0 h1 hk) (fun a' cap' p W hp => not_b 94 p loc _ W (fun W' hW => msn3n p loc W' x (kept hW (hp _ rfl)) hz hn)) (fun a' cap' W => mo3n k b x a' len cap' big W h0 h1 hk hz)
    · obtain ⟨o, ho⟩ := Option.ne_none_iff_exists'.1 hz
      rcases o with _ | _ | _
      · exact L 94 (fun a' cap' => some (.float .f64 x)) (false) (fun a' cap' W => mk3 k b x a' len cap' big loc W h0 h1 hk) (fun a' cap' p W hp => not_b 94 p loc _ W (fun W' hW => msn3l p loc W' x (kept hW (hp _ rfl)) ho hn)) (fun a' cap' W => mo3l k b x a' len cap' big W h0 h1 hk ho)
      · exact L 94 (fun a' cap' => some (.float .f64 x)) (true) (fun a' cap' W => mk3 k b x a' len cap' big loc W h0 h1 hk) (fun a' cap' p W hp => not_b 94 p loc _ W (fun W' hW => msn3z p loc W' x (kept hW (hp _ rfl)) ho)) (fun a' cap' W => mo3z k b x a' len cap' big W h0 h1 hk ho)
      · exact L 94 (fun a' cap' => some (.float .f64 x)) (false) (fun a' cap' W => mk3 k b x a' len cap' big loc W h0 h1 hk) (fun a' cap' p W hp => not_b 94 p loc _ W (fun W' hW => msn3g p loc W' x (kept hW (hp _ rfl)) ho hn)) (fun a' cap' W => mo3g k b x a' len cap' big W h0 h1 hk ho)
  · by_cases hn : len = 0
    · subst hn
      exact L 97 (fun a' cap' => some (.slice a' 0 cap')) (true) (fun a' cap' W => mk4 k b x a' 0 cap' big loc W h0 h1 hk) (fun a' cap' p W hp => not_b 97 p loc _ W (fun W' hW => msn4e p loc W' _ _ (kept hW (hp _ rfl)))) (fun a' cap' W => mo4e k b x a' 0 cap' big W h0 h1 hk (by simp))
    · have hn' : ((len : Int) == 0) = false := by simp; exact hn
      exact L 97 (fun a' cap' => some (.slice a' len cap')) (false) (fun a' cap' W => mk4 k b x a' len cap' big loc W h0 h1 hk) (fun a' cap' p W hp => not_b 97 p loc _ W (fun W' hW => msn4n p loc W' _ len _ (kept hW (hp _ rfl)) hn')) (fun a' cap' W => mo4n k b x a' len cap' big W h0 h1 hk hn')
  · cases hne : (big.toList == [48])
    case true =>
      have e := bytes48 big hne
      exact law_b44 k b x a len cap big loc w zs w3 hl (fun a' cap' => some (.string big)) (true) (fun a' cap' W => mk5 k b x a' len cap' big loc W h0 h1 hk) (fun a' cap' p W hp => not_b 44 p loc _ W (fun W' hW => msn5z p loc W' (by have := (kept hW (hp _ rfl)); rw [e] at this; exact this))) (fun a' cap' W => mo5z k b x a' len cap' big W h0 h1 hk hne)
    case false =>
      by_cases hs : big.size < 2
      · exact law_b44 k b x a len cap big loc w zs w3 hl (fun a' cap' => some (.string big)) (false) (fun a' cap' W => mk5 k b x a' len cap' big loc W h0 h1 hk) (fun a' cap' p W hp => not_b 44 p loc _ W (fun W' hW => msn5s p loc W' big (kept hW (hp _ rfl)) hne hs)) (fun a' cap' W => mo5s k b x a' len cap' big W h0 h1 hk hne hs)
      · cases hd : ((big[0].toNat : Int) == 48)
        · exact law_b44 k b x a len cap big loc w zs w3 hl (fun a' cap' => some (.string big)) (false) (fun a' cap' W => mk5 k b x a' len cap' big loc W h0 h1 hk) (fun a' cap' p W hp => not_b 44 p loc _ W (fun W' hW => msn5d p loc W' big (kept hW (hp _ rfl)) hne (by omega) (by omega) (by simp [bne, hd]))) (fun a' cap' W => mo5d k b x a' len cap' big W h0 h1 hk hne (by omega) (by omega) hd)
        · exact law_u44 k b x a len cap big loc w zs w3 hl (fun _ _ => some (.string big)) (fun a' cap' W => mk5 k b x a' len cap' big loc W h0 h1 hk) (fun a' cap' p W hp => not_u 44 p loc W (fun W' hW => no44 p loc big W' (kept hW (hp _ rfl)) hne (by omega) (by omega) (by simp [bne, hd]))) (fun a' cap' W => mo5u k b x a' len cap' big W h0 h1 hk hne (by omega) (by omega) hd)
  · exact L 102 (fun a' cap' => none) (false) (fun a' cap' W => mk6 k b x a' len cap' big loc W h0 h1 hk) (fun a' cap' p W hp => not_b 102 p loc _ W (fun W' hW => msn6 p loc W')) (fun a' cap' W => mo6 k b x a' len cap' big W h0 h1 hk)
  · exact L 114 (fun a' cap' => none) (false) (fun a' cap' W => mk7 k b x a' len cap' big loc W h0 h1 hk) (fun a' cap' p W hp => not_b 114 p loc _ W (fun W' hW => msn7 p loc W')) (fun a' cap' W => mo7 k b x a' len cap' big W h0 h1 hk)
  · exact L 117 (fun a' cap' => none) (false) (fun a' cap' W => mk8 k b x a' len cap' big loc W h0 h1 hk) (fun a' cap' p W hp => not_b 117 p loc _ W (fun W' hW => msn8 p loc W')) (fun a' cap' W => mo8 k b x a' len cap' big W h0 h1 hk)
  · exact law_u43 k b x a len cap big loc w zs w3 hl (fun _ _ => none) (fun a' cap' W => mk9 k b x a' len cap' big loc W h0 h1 hk) (fun a' cap' p W hp => not_u 43 p loc W (fun W' hW => no43 p loc W')) (fun a' cap' W => mo9 k b x a' len cap' big W h0 h1 hk)
  · exact law_u45 k b x a len cap big loc w zs w3 hl (fun _ _ => none) (fun a' cap' W => mk10 k b x a' len cap' big loc W h0 h1 hk) (fun a' cap' p W hp => not_u 45 p loc W (fun W' hW => no45 p loc W')) (fun a' cap' W => mo10 k b x a' len cap' big W h0 h1 hk)
end Go.Proofs.YtonhekaakddneaaRRR.fnNotLeafTable
