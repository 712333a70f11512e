/- The walk of the law FnPadded. -/
import Derived.Test.YtfbnnbbjfjhkjaaPad
namespace Go.Proofs.Ytfbnnbbjfjhkjaa
open Go.RowKit
set_option maxRecDepth 100000 in
set_option maxHeartbeats 400000 in
theorem law4 (a0 : Nat) (m : Int) (A : Option Addr) (n c : Nat) (rest : List UInt8) (w : World) (h0 : a0 < 4294967296) (hb : Bs w w.heap.size A n c rest) :
    Calls Try.prog 4 #[.int .u32 (a0 : Int), .int .i64 m, .slice A n c] w (IsPost w (.bool true)) := by
  by_cases h24 : n ≤ 16777216
  · by_cases hm0 : m < 0
    · go_enter Try.func4, Try.ntmps4
      go_wp2_with fail
      go_ret
      exact ⟨rfl, Below.refl _ _⟩
    · by_cases hm1 : 100 < m
      · go_enter Try.func4, Try.ntmps4
        go_wp2_with fail
        go_ret
        exact ⟨rfl, Below.refl _ _⟩
      · obtain ⟨m, rfl⟩ := Int.eq_ofNat_of_zero_le (show 0 ≤ m by omega)
        have hp := grp_pads (grp_uvarint a0) m
        have hv := val_pads (grp_uvarint a0) m
        have hpl := pads_length (grp_uvarint a0) m
        have H16 := Lib.hid (padded_any a0 m w h0 (by omega))
        have hs := uvarint_short h0
        have hv2 : a0 = val (pads (Lib.uvarint a0) m) % 4294967296 := by rw [hv]; exact val_short h0
        have hl3 : (pads (Lib.uvarint a0) m).length ≤ 105 := by omega
        have HV := Lib.hid hv2
        have HP := Lib.hid hp
        clear hp hv hpl hs hv2 h0
        generalize pads (Lib.uvarint a0) m = e at *
        go_enter Try.func4, Try.ntmps4
        go_wp2_with fail
        refine H16.out.mono ?_
        rintro en w1 ⟨A1, c1, rfl, hown1, hbel1⟩
        have hb1 := hb.below hbel1
        have HB1 := Lib.hid hbel1
        have HO1 := Lib.hid hown1
        clear hbel1 hown1
        go_wp2_with (at_builtin; refine append_bytes (w0 := w) rfl _ _ rfl rfl HO1.out HB1.out rfl hb1 ?c1 ?_)
        case c1 => omega
        intro A2 n2 c2 w2 hown2 hbel2 _
        have hn2 := own_bytes hown2
        have hl := hb1.len
        have H14 := Lib.hid (readVarint_any A2 n2 c2 e rest a0 w2 (Bs.of_own hown2) HP.out (by omega) HV.out (by simp at hn2; omega))
        have HB2 := Lib.hid hbel2
        clear hbel2 hown2 hn2 hl hb1
        go_wp2_with fail
        refine H14.out.mono ?_
        rintro en w3 ⟨A3, n3, c3, rfl, hb3, hbel3⟩
        have hbel : Below w.heap.size w w3 := HB2.out.trans (hbel3.mono HB2.out.size)
        have k3 := fun W hW => conv_bytes hb3 W hW
        have k0 := fun W hW => conv_bytes (hb.below hbel) W hW
        have e3 := k3 w3 (fun _ _ => rfl)
        have e0 := k0 w3 (fun _ _ => rfl)
        have HR := Lib.hid hbel
        clear hb3 hbel3 k3 k0 hb hbel
        go_wp2_with fail
        go_ret
        exact ⟨rfl, HR.out⟩
  · by_cases h31 : n ≤ 2147483647
    · go_enter Try.func4, Try.ntmps4
      go_wp2_with fail
      go_ret
      exact ⟨rfl, Below.refl _ _⟩
    · go_enter Try.func4, Try.ntmps4
      go_wp2_with fail
      go_ret
      exact ⟨rfl, Below.refl _ _⟩
end Go.Proofs.Ytfbnnbbjfjhkjaa
