/-
  The contract of config.LoaderFromFileExtension over a map that a list of endings filled.
-/
import Derived.Test.YtnpghnipjienoaaDoorLoadsPlain
import Derived.Test.YtnpghnipjienoaaDoorShelf2
import Derived.Test.YtnpghnipjienoaaDoorPairs
import Derived.Maps.OwnSet
import Derived.Maps.OwnOps
import Derived.Lib.IndexBytes
namespace Go.Proofs.YtnpghnipjienoaaDoor
open Go Go.RowKit Go.Maps Go.WideMaps

theorem lawStr : Keyed Tryd.prog 9 := string_keyed Tryd.underlying9
theorem zero82 (w : World) : (zeroValue 82).run Tryd.prog w = .ok (.int .u8 0) w := by kernel_rfl

theorem indexDot (s : ByteArray) (w : World) : Calls Tryd.prog 50 #[.string s, .int .u8 46] w fun e w' => e = .returned (.int .i64 (Lib.indexByte s.data.toList 46)) ∧ w = w' :=
  (Tryd.strings_IndexByte s 46 w).mono fun _ _ ⟨he, hw⟩ => ⟨he, hw.symm⟩

theorem at_eq {ps : List (ByteArray × Int)} {e : List UInt8} {c : Int} (h : (mapOf ps).atKey (.string e) (.lit (.int .u8 0)) = .lit (.int .u8 c)) : c = (lastOf ps e).getD 0 := by
  rw [(mapOf_both e ps).2] at h
  injection h with h
  injection h with _ h
  exact h.symm
theorem has_no {ps : List (ByteArray × Int)} {e : List UInt8} (h : Maps.has (mapOf ps) (.string e) = false) : lastOf ps e = none := by
  rw [(mapOf_both e ps).1] at h
  simpa using h
theorem has_yes {ps : List (ByteArray × Int)} {e : List UInt8} (h : Maps.has (mapOf ps) (.string e) = true) : lastOf ps e = some ((lastOf ps e).getD 0) := by
  rw [(mapOf_both e ps).1] at h
  obtain ⟨z, hz⟩ := Option.isSome_iff_exists.1 h
  rw [hz]
  rfl
def strLen : Value → Nat | .string x => x.size | _ => 0
theorem ret_u8 {a b : Int} (h : a = b) : Ending.returned (.int .u8 a) = .returned (.int .u8 b) := by rw [h]

set_option maxHeartbeats 2000000 in
set_option maxRecDepth 100000 in
theorem loader_any (b n : Nat) (ps : List (ByteArray × Int)) (base : ByteArray) (w : World) (hown : w.ownsMap Tryd.prog 9 (plainElem (H := Unit) Tryd.prog 82) b n (mapOf ps)) (hs : base.size ≤ 1000) :
    Calls Tryd.prog 41 #[.map (some b), .string base] w fun e w' => e = .returned (.int .u8 (loads (lastOf ps) base.data.toList)) ∧ w = w' := by
  by_cases hdot : Lib.indexByte base.data.toList 46 = -1
  · have HN : Hid (loads (lastOf ps) base.data.toList = (lastOf ps []).getD 0) := by
      show _ = _
      rw [loads, if_neg (indexByte_not _ hdot)]
    have HD := Lib.hid hdot
    clear hdot
    go_enter Tryd.func41, Tryd.ntmps41
    go_wp2_with fail
    refine (indexDot base _).mono ?_
    rw [HD.out]
    rintro e w' ⟨rfl, rfl⟩
    go_wp2_with (at_lookup; refine wpList_lookup_own_ok_int _ rfl _ _ 81 rfl 9 82 .u8 lawStr Tryd.underlying81 Tryd.underlying82 (zero82 _) b n _ rfl hown _ _ rfl (keyOf_string_mk (s := ⟨#[]⟩) Tryd.underlying9 (by decide)) ?_; intro c hat hwc)
    · go_ret
      exact ⟨ret_u8 (by rw [HN.out]; exact at_eq hat), rfl⟩
    · go_ret
      have h : Maps.has (mapOf ps) (.string []) = false := by assumption
      exact ⟨ret_u8 (by rw [HN.out, has_no h]; rfl), rfl⟩
  · obtain ⟨o0, ho0⟩ : ∃ o : Nat, Lib.indexByte base.data.toList 46 = (o : Int) := ⟨(Lib.indexByte base.data.toList 46).toNat, by have := Lib.indexByte_ge base.data.toList 46; omega⟩
    have HN : Hid (loads (lastOf ps) base.data.toList = (scan (lastOf ps) base.data.toList).getD 0) := by
      show _ = _
      rw [loads, if_pos (indexByte_mem _ _ ho0).2.2.1]
    have HD := Lib.hid ho0
    clear ho0 hdot
    go_enter Tryd.func41, Tryd.ntmps41
    go_wp2_with fail
    refine (indexDot base _).mono ?_
    rw [HD.out]
    rintro e w' ⟨rfl, rfl⟩
    have hne : ((o0 : Int) != -1) = true := by rw [bne_iff_ne]; omega
    go_wp2_with fail
    go_loop [1, 5] (fun v i => ∃ (x : ByteArray) (o : Nat), v = .string x ∧ i = .int .i64 o ∧ Lib.indexByte x.data.toList 46 = (o : Int) ∧ x.size ≤ 1000 ∧ scan (lastOf ps) base.data.toList = scan (lastOf ps) x.data.toList)
      (fun v _ => strLen v)
    case atStart => exact ⟨base, o0, rfl, rfl, HD.out, hs, rfl⟩
    case round =>
      obtain ⟨x, o, rfl, rfl, hix, hxs, hsc⟩ := hrel
      obtain ⟨h1, h2, _, h3⟩ := indexByte_mem _ _ hix
      rw [size_list] at h2
      have HSC : Hid (scan (lastOf ps) base.data.toList = (lastOf ps (x.extract o x.size).data.toList).or (scan (lastOf ps) (x.extract (o + 1) x.size).data.toList)) := by
        show _ = _
        rw [hsc, scan_drop _ o _ h3, scan_at _ _ o h1, Lib.extract_to_end, Lib.extract_to_end]
      clear h1 h3 hsc hix
      go_wp2_with (at_lookup; refine wpList_lookup_own_ok_int _ rfl _ _ 81 rfl 9 82 .u8 lawStr Tryd.underlying81 Tryd.underlying82 (zero82 _) b n _ rfl hown _ _ rfl (keyOf_string_mk (s := x.extract o x.size) Tryd.underlying9 (by unfold maxLen; simp; omega)) ?_; intro c hat hwc)
      · have h : Maps.has (mapOf ps) (.string (x.extract o x.size).data.toList) = true := by rw [Lib.extract_data]; assumption
        go_ret
        refine ⟨ret_u8 ?_, rfl⟩
        rw [HN.out, HSC.out, has_yes h, Option.some_or, Option.getD_some]
        exact at_eq hat
      · have h : Maps.has (mapOf ps) (.string (x.extract o x.size).data.toList) = false := by rw [Lib.extract_data]; assumption
        have hxl : (x.extract (o + 1) x.size).size = x.size - (o + 1) := by simp
        have HX := Lib.hid hxl
        clear hxl
        have HF := Lib.hid (has_no h)
        clear h hat
        obtain ⟨y, hy⟩ : ∃ y, y = x.extract (o + 1) x.size := ⟨_, rfl⟩
        rw [← hy] at HX HSC ⊢
        clear hy
        by_cases hend : Lib.indexByte y.data.toList 46 = -1
        · refine (indexDot y _).mono ?_
          have HE := Lib.hid hend
          rw [hend]
          clear hend
          rintro e w' ⟨rfl, rfl⟩
          go_wp2_with fail
          go_ret
          refine ⟨ret_u8 ?_, rfl⟩
          rw [HN.out, HSC.out, HF.out, Option.none_or, scan_none _ _ (indexByte_not _ HE.out)]
          rfl
        · obtain ⟨o1, ho1⟩ : ∃ o : Nat, Lib.indexByte y.data.toList 46 = (o : Int) := ⟨(Lib.indexByte y.data.toList 46).toNat, by have := Lib.indexByte_ge y.data.toList 46; omega⟩
          refine (indexDot y _).mono ?_
          have HE := Lib.hid ho1
          rw [ho1]
          clear ho1 hend
          rintro e w' ⟨rfl, rfl⟩
          have hne1 : ((o1 : Int) == -1) = false := by rw [beq_eq_false_iff_ne]; omega
          go_wp2_with fail
          go_round
          case rel => exact ⟨y, o1, rfl, rfl, HE.out, by have := HX.out; omega, by rw [HSC.out, HF.out, Option.none_or]⟩
          case measure => have := HX.out; simp only [strLen]; omega
end Go.Proofs.YtnpghnipjienoaaDoor
