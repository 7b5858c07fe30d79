/-
  The walks under 'FnArticleHangsOnFirstByteAlone': strings.IndexByte, article, ZZArticle, the bound on lengths.
-/
import Derived.Test.Qxb6600718aModsProg
import Derived.WalkKit
import Derived.WalkSpells
import Derived.WalkLawsBesides
import Derived.Lib.Bytealg
namespace Go.Proofs.Qxb6600718aMods.Art
open Go.RowKit

set_option maxHeartbeats 400000 in
theorem slite_any (s : ByteArray) (c : Int) (w : World) :
    Calls Trym.prog 31 #[.string s, .int .u8 c] w fun e w' => e = .returned (.int .i64 (Lib.indexByte s.data.toList c.toNat.toUInt8)) ∧ w' = w := by
  go_enter Trym.func31, Trym.ntmps31
  go_wp2
  rw [run_callFunc_extern Trym.func34 (by kernel_rfl) (by kernel_rfl) (by kernel_rfl) (e := Extern.BytealgIndexByte.indexByte) (by kernel_rfl), Lib.run_indexByteString]
  simp only [Result.andThen]
  rw [Oper.upon_value]
  go_wp2
  go_ret
  exact ⟨rfl, rfl⟩

set_option maxHeartbeats 400000 in
theorem index_any (s : ByteArray) (c : Int) (w : World) :
    Calls Trym.prog 25 #[.string s, .int .u8 c] w fun e w' => e = .returned (.int .i64 (Lib.indexByte s.data.toList c.toNat.toUInt8)) ∧ w' = w := by
  go_enter Trym.func25, Trym.ntmps25
  go_wp2_with (go_at_call 31; refine (slite_any _ _ _).mono ?_; rintro e w' ⟨rfl, rfl⟩)
  go_ret
  exact ⟨rfl, rfl⟩

end Go.Proofs.Qxb6600718aMods.Art
