/- Where a tree's list is cut. (Printed by gen_split.py.) The tree's root. (Printed by gen_tree.py.) The tree's root, over a digest of its own. (Printed by gen_tree.py.) The reference's Sum: its tables and its turn. (Printed by gen_ssum.py.) The reference's turn. (Printed by gen_ssum.py.) The reference's Sum: the message padded. (Printed by gen_ssumb.py.) The reference's Sum: the first words of a block. (Printed by gen_ssumc.py.) The reference's Sum: the sixteen words out of the message. (Printed by gen_ssumc.py.) The reference's Sum: the words 16 to 63. (Printed by gen_ssume.py.) The reference's Sum: the rounds. (Printed by gen_ssumf.py.) -/
import Derived.Test.YtjhnnjhaklohhaaGreatDoorM4
import Derived.Handy
import Derived.Test.YtjhnnjhaklohhaaGreatDoorM1
set_option linter.unusedVariables false
set_option linter.unusedSimpArgs false
set_option maxHeartbeats 4000000
set_option maxRecDepth 100000
namespace Go.Proofs.YtjhnnjhaklohhaaGreatDoor
open Go.RowKit
def splitN(n:Nat):Nat:=if n≤2 then 1 else if n≤4 then 2 else if n≤8 then 4 else if n≤16 then 8 else 16
theorem splitN_lt{n:Nat}(h:2≤n)(h16:n≤32):1≤splitN n∧splitN n<n:=by
 unfold splitN;repeat' split
 all_goals omega
theorem c_len2(w:World):Calls Tryz.prog 149 #[.int .u64 2] w fun e w'=>e=.returned (.int .i64 2)∧w'=w:=by
 go_enter Tryz.func149,Tryz.ntmps149
 go_wp2
 exact end_tmp rfl ⟨rfl⟩ rfl ⟨by kernel_rfl,rfl⟩
theorem c_gsp2(w:World):Calls Tryz.prog 135 #[.int .i64 2] w fun e w'=>e=.returned (.int .i64 1)∧w'=w:=by
 go_enter Tryz.func135,Tryz.ntmps135
 go_wp2_with (go_at_call 149;refine(c_len2 _).mono ?_;rintro e w' ⟨rfl,rfl⟩)
 exact end_tmp rfl ⟨rfl⟩ rfl ⟨by kernel_rfl,rfl⟩
theorem c_spl2(w:World):Calls Tryz.prog 63 #[.int .i64 2] w fun e w'=>e=.returned (.int .i64 1)∧w'=w:=by
 go_enter Tryz.func63,Tryz.ntmps63
 go_wp2
 go_rounds 6
 exact end_tmp rfl ⟨rfl⟩ rfl ⟨by kernel_rfl,rfl⟩
theorem c_len3(w:World):Calls Tryz.prog 149 #[.int .u64 3] w fun e w'=>e=.returned (.int .i64 2)∧w'=w:=by
 go_enter Tryz.func149,Tryz.ntmps149
 go_wp2
 exact end_tmp rfl ⟨rfl⟩ rfl ⟨by kernel_rfl,rfl⟩
theorem c_gsp3(w:World):Calls Tryz.prog 135 #[.int .i64 3] w fun e w'=>e=.returned (.int .i64 2)∧w'=w:=by
 go_enter Tryz.func135,Tryz.ntmps135
 go_wp2_with (go_at_call 149;refine(c_len3 _).mono ?_;rintro e w' ⟨rfl,rfl⟩)
 exact end_tmp rfl ⟨rfl⟩ rfl ⟨by kernel_rfl,rfl⟩
theorem c_spl3(w:World):Calls Tryz.prog 63 #[.int .i64 3] w fun e w'=>e=.returned (.int .i64 2)∧w'=w:=by
 go_enter Tryz.func63,Tryz.ntmps63
 go_wp2
 go_rounds 6
 exact end_tmp rfl ⟨rfl⟩ rfl ⟨by kernel_rfl,rfl⟩
theorem c_len4(w:World):Calls Tryz.prog 149 #[.int .u64 4] w fun e w'=>e=.returned (.int .i64 3)∧w'=w:=by
 go_enter Tryz.func149,Tryz.ntmps149
 go_wp2
 exact end_tmp rfl ⟨rfl⟩ rfl ⟨by kernel_rfl,rfl⟩
theorem c_gsp4(w:World):Calls Tryz.prog 135 #[.int .i64 4] w fun e w'=>e=.returned (.int .i64 2)∧w'=w:=by
 go_enter Tryz.func135,Tryz.ntmps135
 go_wp2_with (go_at_call 149;refine(c_len4 _).mono ?_;rintro e w' ⟨rfl,rfl⟩)
 exact end_tmp rfl ⟨rfl⟩ rfl ⟨by kernel_rfl,rfl⟩
theorem c_spl4(w:World):Calls Tryz.prog 63 #[.int .i64 4] w fun e w'=>e=.returned (.int .i64 2)∧w'=w:=by
 go_enter Tryz.func63,Tryz.ntmps63
 go_wp2
 go_rounds 6
 exact end_tmp rfl ⟨rfl⟩ rfl ⟨by kernel_rfl,rfl⟩
theorem c_len5(w:World):Calls Tryz.prog 149 #[.int .u64 5] w fun e w'=>e=.returned (.int .i64 3)∧w'=w:=by
 go_enter Tryz.func149,Tryz.ntmps149
 go_wp2
 exact end_tmp rfl ⟨rfl⟩ rfl ⟨by kernel_rfl,rfl⟩
theorem c_gsp5(w:World):Calls Tryz.prog 135 #[.int .i64 5] w fun e w'=>e=.returned (.int .i64 4)∧w'=w:=by
 go_enter Tryz.func135,Tryz.ntmps135
 go_wp2_with (go_at_call 149;refine(c_len5 _).mono ?_;rintro e w' ⟨rfl,rfl⟩)
 exact end_tmp rfl ⟨rfl⟩ rfl ⟨by kernel_rfl,rfl⟩
theorem c_spl5(w:World):Calls Tryz.prog 63 #[.int .i64 5] w fun e w'=>e=.returned (.int .i64 4)∧w'=w:=by
 go_enter Tryz.func63,Tryz.ntmps63
 go_wp2
 go_rounds 6
 exact end_tmp rfl ⟨rfl⟩ rfl ⟨by kernel_rfl,rfl⟩
theorem c_len6(w:World):Calls Tryz.prog 149 #[.int .u64 6] w fun e w'=>e=.returned (.int .i64 3)∧w'=w:=by
 go_enter Tryz.func149,Tryz.ntmps149
 go_wp2
 exact end_tmp rfl ⟨rfl⟩ rfl ⟨by kernel_rfl,rfl⟩
theorem c_gsp6(w:World):Calls Tryz.prog 135 #[.int .i64 6] w fun e w'=>e=.returned (.int .i64 4)∧w'=w:=by
 go_enter Tryz.func135,Tryz.ntmps135
 go_wp2_with (go_at_call 149;refine(c_len6 _).mono ?_;rintro e w' ⟨rfl,rfl⟩)
 exact end_tmp rfl ⟨rfl⟩ rfl ⟨by kernel_rfl,rfl⟩
theorem c_spl6(w:World):Calls Tryz.prog 63 #[.int .i64 6] w fun e w'=>e=.returned (.int .i64 4)∧w'=w:=by
 go_enter Tryz.func63,Tryz.ntmps63
 go_wp2
 go_rounds 6
 exact end_tmp rfl ⟨rfl⟩ rfl ⟨by kernel_rfl,rfl⟩
theorem c_len7(w:World):Calls Tryz.prog 149 #[.int .u64 7] w fun e w'=>e=.returned (.int .i64 3)∧w'=w:=by
 go_enter Tryz.func149,Tryz.ntmps149
 go_wp2
 exact end_tmp rfl ⟨rfl⟩ rfl ⟨by kernel_rfl,rfl⟩
theorem c_gsp7(w:World):Calls Tryz.prog 135 #[.int .i64 7] w fun e w'=>e=.returned (.int .i64 4)∧w'=w:=by
 go_enter Tryz.func135,Tryz.ntmps135
 go_wp2_with (go_at_call 149;refine(c_len7 _).mono ?_;rintro e w' ⟨rfl,rfl⟩)
 exact end_tmp rfl ⟨rfl⟩ rfl ⟨by kernel_rfl,rfl⟩
theorem c_spl7(w:World):Calls Tryz.prog 63 #[.int .i64 7] w fun e w'=>e=.returned (.int .i64 4)∧w'=w:=by
 go_enter Tryz.func63,Tryz.ntmps63
 go_wp2
 go_rounds 6
 exact end_tmp rfl ⟨rfl⟩ rfl ⟨by kernel_rfl,rfl⟩
theorem c_len8(w:World):Calls Tryz.prog 149 #[.int .u64 8] w fun e w'=>e=.returned (.int .i64 4)∧w'=w:=by
 go_enter Tryz.func149,Tryz.ntmps149
 go_wp2
 exact end_tmp rfl ⟨rfl⟩ rfl ⟨by kernel_rfl,rfl⟩
theorem c_gsp8(w:World):Calls Tryz.prog 135 #[.int .i64 8] w fun e w'=>e=.returned (.int .i64 4)∧w'=w:=by
 go_enter Tryz.func135,Tryz.ntmps135
 go_wp2_with (go_at_call 149;refine(c_len8 _).mono ?_;rintro e w' ⟨rfl,rfl⟩)
 exact end_tmp rfl ⟨rfl⟩ rfl ⟨by kernel_rfl,rfl⟩
theorem c_spl8(w:World):Calls Tryz.prog 63 #[.int .i64 8] w fun e w'=>e=.returned (.int .i64 4)∧w'=w:=by
 go_enter Tryz.func63,Tryz.ntmps63
 go_wp2
 go_rounds 6
 exact end_tmp rfl ⟨rfl⟩ rfl ⟨by kernel_rfl,rfl⟩
theorem c_len9(w:World):Calls Tryz.prog 149 #[.int .u64 9] w fun e w'=>e=.returned (.int .i64 4)∧w'=w:=by
 go_enter Tryz.func149,Tryz.ntmps149
 go_wp2
 exact end_tmp rfl ⟨rfl⟩ rfl ⟨by kernel_rfl,rfl⟩
theorem c_gsp9(w:World):Calls Tryz.prog 135 #[.int .i64 9] w fun e w'=>e=.returned (.int .i64 8)∧w'=w:=by
 go_enter Tryz.func135,Tryz.ntmps135
 go_wp2_with (go_at_call 149;refine(c_len9 _).mono ?_;rintro e w' ⟨rfl,rfl⟩)
 exact end_tmp rfl ⟨rfl⟩ rfl ⟨by kernel_rfl,rfl⟩
theorem c_spl9(w:World):Calls Tryz.prog 63 #[.int .i64 9] w fun e w'=>e=.returned (.int .i64 8)∧w'=w:=by
 go_enter Tryz.func63,Tryz.ntmps63
 go_wp2
 go_rounds 6
 exact end_tmp rfl ⟨rfl⟩ rfl ⟨by kernel_rfl,rfl⟩
theorem c_len10(w:World):Calls Tryz.prog 149 #[.int .u64 10] w fun e w'=>e=.returned (.int .i64 4)∧w'=w:=by
 go_enter Tryz.func149,Tryz.ntmps149
 go_wp2
 exact end_tmp rfl ⟨rfl⟩ rfl ⟨by kernel_rfl,rfl⟩
theorem c_gsp10(w:World):Calls Tryz.prog 135 #[.int .i64 10] w fun e w'=>e=.returned (.int .i64 8)∧w'=w:=by
 go_enter Tryz.func135,Tryz.ntmps135
 go_wp2_with (go_at_call 149;refine(c_len10 _).mono ?_;rintro e w' ⟨rfl,rfl⟩)
 exact end_tmp rfl ⟨rfl⟩ rfl ⟨by kernel_rfl,rfl⟩
theorem c_spl10(w:World):Calls Tryz.prog 63 #[.int .i64 10] w fun e w'=>e=.returned (.int .i64 8)∧w'=w:=by
 go_enter Tryz.func63,Tryz.ntmps63
 go_wp2
 go_rounds 6
 exact end_tmp rfl ⟨rfl⟩ rfl ⟨by kernel_rfl,rfl⟩
theorem c_len11(w:World):Calls Tryz.prog 149 #[.int .u64 11] w fun e w'=>e=.returned (.int .i64 4)∧w'=w:=by
 go_enter Tryz.func149,Tryz.ntmps149
 go_wp2
 exact end_tmp rfl ⟨rfl⟩ rfl ⟨by kernel_rfl,rfl⟩
theorem c_gsp11(w:World):Calls Tryz.prog 135 #[.int .i64 11] w fun e w'=>e=.returned (.int .i64 8)∧w'=w:=by
 go_enter Tryz.func135,Tryz.ntmps135
 go_wp2_with (go_at_call 149;refine(c_len11 _).mono ?_;rintro e w' ⟨rfl,rfl⟩)
 exact end_tmp rfl ⟨rfl⟩ rfl ⟨by kernel_rfl,rfl⟩
theorem c_spl11(w:World):Calls Tryz.prog 63 #[.int .i64 11] w fun e w'=>e=.returned (.int .i64 8)∧w'=w:=by
 go_enter Tryz.func63,Tryz.ntmps63
 go_wp2
 go_rounds 6
 exact end_tmp rfl ⟨rfl⟩ rfl ⟨by kernel_rfl,rfl⟩
theorem c_len12(w:World):Calls Tryz.prog 149 #[.int .u64 12] w fun e w'=>e=.returned (.int .i64 4)∧w'=w:=by
 go_enter Tryz.func149,Tryz.ntmps149
 go_wp2
 exact end_tmp rfl ⟨rfl⟩ rfl ⟨by kernel_rfl,rfl⟩
theorem c_gsp12(w:World):Calls Tryz.prog 135 #[.int .i64 12] w fun e w'=>e=.returned (.int .i64 8)∧w'=w:=by
 go_enter Tryz.func135,Tryz.ntmps135
 go_wp2_with (go_at_call 149;refine(c_len12 _).mono ?_;rintro e w' ⟨rfl,rfl⟩)
 exact end_tmp rfl ⟨rfl⟩ rfl ⟨by kernel_rfl,rfl⟩
theorem c_spl12(w:World):Calls Tryz.prog 63 #[.int .i64 12] w fun e w'=>e=.returned (.int .i64 8)∧w'=w:=by
 go_enter Tryz.func63,Tryz.ntmps63
 go_wp2
 go_rounds 6
 exact end_tmp rfl ⟨rfl⟩ rfl ⟨by kernel_rfl,rfl⟩
theorem c_len13(w:World):Calls Tryz.prog 149 #[.int .u64 13] w fun e w'=>e=.returned (.int .i64 4)∧w'=w:=by
 go_enter Tryz.func149,Tryz.ntmps149
 go_wp2
 exact end_tmp rfl ⟨rfl⟩ rfl ⟨by kernel_rfl,rfl⟩
theorem c_gsp13(w:World):Calls Tryz.prog 135 #[.int .i64 13] w fun e w'=>e=.returned (.int .i64 8)∧w'=w:=by
 go_enter Tryz.func135,Tryz.ntmps135
 go_wp2_with (go_at_call 149;refine(c_len13 _).mono ?_;rintro e w' ⟨rfl,rfl⟩)
 exact end_tmp rfl ⟨rfl⟩ rfl ⟨by kernel_rfl,rfl⟩
theorem c_spl13(w:World):Calls Tryz.prog 63 #[.int .i64 13] w fun e w'=>e=.returned (.int .i64 8)∧w'=w:=by
 go_enter Tryz.func63,Tryz.ntmps63
 go_wp2
 go_rounds 6
 exact end_tmp rfl ⟨rfl⟩ rfl ⟨by kernel_rfl,rfl⟩
theorem c_len14(w:World):Calls Tryz.prog 149 #[.int .u64 14] w fun e w'=>e=.returned (.int .i64 4)∧w'=w:=by
 go_enter Tryz.func149,Tryz.ntmps149
 go_wp2
 exact end_tmp rfl ⟨rfl⟩ rfl ⟨by kernel_rfl,rfl⟩
theorem c_gsp14(w:World):Calls Tryz.prog 135 #[.int .i64 14] w fun e w'=>e=.returned (.int .i64 8)∧w'=w:=by
 go_enter Tryz.func135,Tryz.ntmps135
 go_wp2_with (go_at_call 149;refine(c_len14 _).mono ?_;rintro e w' ⟨rfl,rfl⟩)
 exact end_tmp rfl ⟨rfl⟩ rfl ⟨by kernel_rfl,rfl⟩
theorem c_spl14(w:World):Calls Tryz.prog 63 #[.int .i64 14] w fun e w'=>e=.returned (.int .i64 8)∧w'=w:=by
 go_enter Tryz.func63,Tryz.ntmps63
 go_wp2
 go_rounds 6
 exact end_tmp rfl ⟨rfl⟩ rfl ⟨by kernel_rfl,rfl⟩
theorem c_len15(w:World):Calls Tryz.prog 149 #[.int .u64 15] w fun e w'=>e=.returned (.int .i64 4)∧w'=w:=by
 go_enter Tryz.func149,Tryz.ntmps149
 go_wp2
 exact end_tmp rfl ⟨rfl⟩ rfl ⟨by kernel_rfl,rfl⟩
theorem c_gsp15(w:World):Calls Tryz.prog 135 #[.int .i64 15] w fun e w'=>e=.returned (.int .i64 8)∧w'=w:=by
 go_enter Tryz.func135,Tryz.ntmps135
 go_wp2_with (go_at_call 149;refine(c_len15 _).mono ?_;rintro e w' ⟨rfl,rfl⟩)
 exact end_tmp rfl ⟨rfl⟩ rfl ⟨by kernel_rfl,rfl⟩
theorem c_spl15(w:World):Calls Tryz.prog 63 #[.int .i64 15] w fun e w'=>e=.returned (.int .i64 8)∧w'=w:=by
 go_enter Tryz.func63,Tryz.ntmps63
 go_wp2
 go_rounds 6
 exact end_tmp rfl ⟨rfl⟩ rfl ⟨by kernel_rfl,rfl⟩
theorem c_len16(w:World):Calls Tryz.prog 149 #[.int .u64 16] w fun e w'=>e=.returned (.int .i64 5)∧w'=w:=by
 go_enter Tryz.func149,Tryz.ntmps149
 go_wp2
 exact end_tmp rfl ⟨rfl⟩ rfl ⟨by kernel_rfl,rfl⟩
theorem c_gsp16(w:World):Calls Tryz.prog 135 #[.int .i64 16] w fun e w'=>e=.returned (.int .i64 8)∧w'=w:=by
 go_enter Tryz.func135,Tryz.ntmps135
 go_wp2_with (go_at_call 149;refine(c_len16 _).mono ?_;rintro e w' ⟨rfl,rfl⟩)
 exact end_tmp rfl ⟨rfl⟩ rfl ⟨by kernel_rfl,rfl⟩
theorem c_spl16(w:World):Calls Tryz.prog 63 #[.int .i64 16] w fun e w'=>e=.returned (.int .i64 8)∧w'=w:=by
 go_enter Tryz.func63,Tryz.ntmps63
 go_wp2
 go_rounds 6
 exact end_tmp rfl ⟨rfl⟩ rfl ⟨by kernel_rfl,rfl⟩
theorem c_len17(w:World):Calls Tryz.prog 149 #[.int .u64 17] w fun e w'=>e=.returned (.int .i64 5)∧w'=w:=by
 go_enter Tryz.func149,Tryz.ntmps149
 go_wp2
 exact end_tmp rfl ⟨rfl⟩ rfl ⟨by kernel_rfl,rfl⟩
theorem c_gsp17(w:World):Calls Tryz.prog 135 #[.int .i64 17] w fun e w'=>e=.returned (.int .i64 16)∧w'=w:=by
 go_enter Tryz.func135,Tryz.ntmps135
 go_wp2_with (go_at_call 149;refine(c_len17 _).mono ?_;rintro e w' ⟨rfl,rfl⟩)
 exact end_tmp rfl ⟨rfl⟩ rfl ⟨by kernel_rfl,rfl⟩
theorem c_spl17(w:World):Calls Tryz.prog 63 #[.int .i64 17] w fun e w'=>e=.returned (.int .i64 16)∧w'=w:=by
 go_enter Tryz.func63,Tryz.ntmps63
 go_wp2
 go_rounds 6
 exact end_tmp rfl ⟨rfl⟩ rfl ⟨by kernel_rfl,rfl⟩
theorem c_len18(w:World):Calls Tryz.prog 149 #[.int .u64 18] w fun e w'=>e=.returned (.int .i64 5)∧w'=w:=by
 go_enter Tryz.func149,Tryz.ntmps149
 go_wp2
 exact end_tmp rfl ⟨rfl⟩ rfl ⟨by kernel_rfl,rfl⟩
theorem c_gsp18(w:World):Calls Tryz.prog 135 #[.int .i64 18] w fun e w'=>e=.returned (.int .i64 16)∧w'=w:=by
 go_enter Tryz.func135,Tryz.ntmps135
 go_wp2_with (go_at_call 149;refine(c_len18 _).mono ?_;rintro e w' ⟨rfl,rfl⟩)
 exact end_tmp rfl ⟨rfl⟩ rfl ⟨by kernel_rfl,rfl⟩
theorem c_spl18(w:World):Calls Tryz.prog 63 #[.int .i64 18] w fun e w'=>e=.returned (.int .i64 16)∧w'=w:=by
 go_enter Tryz.func63,Tryz.ntmps63
 go_wp2
 go_rounds 6
 exact end_tmp rfl ⟨rfl⟩ rfl ⟨by kernel_rfl,rfl⟩
theorem c_len19(w:World):Calls Tryz.prog 149 #[.int .u64 19] w fun e w'=>e=.returned (.int .i64 5)∧w'=w:=by
 go_enter Tryz.func149,Tryz.ntmps149
 go_wp2
 exact end_tmp rfl ⟨rfl⟩ rfl ⟨by kernel_rfl,rfl⟩
theorem c_gsp19(w:World):Calls Tryz.prog 135 #[.int .i64 19] w fun e w'=>e=.returned (.int .i64 16)∧w'=w:=by
 go_enter Tryz.func135,Tryz.ntmps135
 go_wp2_with (go_at_call 149;refine(c_len19 _).mono ?_;rintro e w' ⟨rfl,rfl⟩)
 exact end_tmp rfl ⟨rfl⟩ rfl ⟨by kernel_rfl,rfl⟩
theorem c_spl19(w:World):Calls Tryz.prog 63 #[.int .i64 19] w fun e w'=>e=.returned (.int .i64 16)∧w'=w:=by
 go_enter Tryz.func63,Tryz.ntmps63
 go_wp2
 go_rounds 6
 exact end_tmp rfl ⟨rfl⟩ rfl ⟨by kernel_rfl,rfl⟩
theorem c_len20(w:World):Calls Tryz.prog 149 #[.int .u64 20] w fun e w'=>e=.returned (.int .i64 5)∧w'=w:=by
 go_enter Tryz.func149,Tryz.ntmps149
 go_wp2
 exact end_tmp rfl ⟨rfl⟩ rfl ⟨by kernel_rfl,rfl⟩
theorem c_gsp20(w:World):Calls Tryz.prog 135 #[.int .i64 20] w fun e w'=>e=.returned (.int .i64 16)∧w'=w:=by
 go_enter Tryz.func135,Tryz.ntmps135
 go_wp2_with (go_at_call 149;refine(c_len20 _).mono ?_;rintro e w' ⟨rfl,rfl⟩)
 exact end_tmp rfl ⟨rfl⟩ rfl ⟨by kernel_rfl,rfl⟩
theorem c_spl20(w:World):Calls Tryz.prog 63 #[.int .i64 20] w fun e w'=>e=.returned (.int .i64 16)∧w'=w:=by
 go_enter Tryz.func63,Tryz.ntmps63
 go_wp2
 go_rounds 6
 exact end_tmp rfl ⟨rfl⟩ rfl ⟨by kernel_rfl,rfl⟩
theorem c_gsp(n:Nat)(w:World)(h2:2≤n)(h20:n≤20):Calls Tryz.prog 135 #[.int .i64 (n:Int)] w fun e w'=>e=.returned (.int .i64 (splitN n:Int))∧w'=w:=by
 rcases(by omega:n=2∨n=3∨n=4∨n=5∨n=6∨n=7∨n=8∨n=9∨n=10∨n=11∨n=12∨n=13∨n=14∨n=15∨n=16∨n=17∨n=18∨n=19∨n=20)with rfl|rfl|rfl|rfl|rfl|rfl|rfl|rfl|rfl|rfl|rfl|rfl|rfl|rfl|rfl|rfl|rfl|rfl|rfl
 ·exact c_gsp2 w
 ·exact c_gsp3 w
 ·exact c_gsp4 w
 ·exact c_gsp5 w
 ·exact c_gsp6 w
 ·exact c_gsp7 w
 ·exact c_gsp8 w
 ·exact c_gsp9 w
 ·exact c_gsp10 w
 ·exact c_gsp11 w
 ·exact c_gsp12 w
 ·exact c_gsp13 w
 ·exact c_gsp14 w
 ·exact c_gsp15 w
 ·exact c_gsp16 w
 ·exact c_gsp17 w
 ·exact c_gsp18 w
 ·exact c_gsp19 w
 ·exact c_gsp20 w
theorem c_spl(n:Nat)(w:World)(h2:2≤n)(h20:n≤20):Calls Tryz.prog 63 #[.int .i64 (n:Int)] w fun e w'=>e=.returned (.int .i64 (splitN n:Int))∧w'=w:=by
 rcases(by omega:n=2∨n=3∨n=4∨n=5∨n=6∨n=7∨n=8∨n=9∨n=10∨n=11∨n=12∨n=13∨n=14∨n=15∨n=16∨n=17∨n=18∨n=19∨n=20)with rfl|rfl|rfl|rfl|rfl|rfl|rfl|rfl|rfl|rfl|rfl|rfl|rfl|rfl|rfl|rfl|rfl|rfl|rfl
 ·exact c_spl2 w
 ·exact c_spl3 w
 ·exact c_spl4 w
 ·exact c_spl5 w
 ·exact c_spl6 w
 ·exact c_spl7 w
 ·exact c_spl8 w
 ·exact c_spl9 w
 ·exact c_spl10 w
 ·exact c_spl11 w
 ·exact c_spl12 w
 ·exact c_spl13 w
 ·exact c_spl14 w
 ·exact c_spl15 w
 ·exact c_spl16 w
 ·exact c_spl17 w
 ·exact c_spl18 w
 ·exact c_spl19 w
 ·exact c_spl20 w
def rootN:Nat→List (List Int)→List Int
 |0,_=>sha []
 |f+1,ls=>if ls.length=0 then sha []else if ls.length=1 then sha (0::ls.getD 0 [])else sha (1::(rootN f (ls.take (splitN ls.length))++rootN f (ls.drop (splitN ls.length))))
theorem sha_bytes(m:List Int):Bytes (sha m):=by
 have h:=shaBlks_U32 (padded m) ((padded m).length / 64) 0 sha0 sha0_U32;unfold sha;generalize shaBlks (padded m) 0 ((padded m).length / 64) sha0=S at h;obtain⟨h1,h2,h3,h4,h5,h6,h7,h8⟩:=h;exact(((((((be32_bytes h1).append (be32_bytes h2)).append (be32_bytes h3)).append (be32_bytes h4)).append (be32_bytes h5)).append (be32_bytes h6)).append (be32_bytes h7)).append (be32_bytes h8)
theorem rootN_sha(f:Nat)(ls:List (List Int)):∃m,rootN f ls=sha m:=by
 cases f with
 |zero=>exact⟨_,rfl⟩
 |succ f=>rw[rootN];split;exact⟨_,rfl⟩;split <;> exact⟨_,rfl⟩
theorem rootN_bytes(f:Nat)(ls:List (List Int)):Bytes (rootN f ls):=by obtain⟨m,h⟩:=rootN_sha f ls;rw[h];exact sha_bytes m
theorem rootN_len(f:Nat)(ls:List (List Int)):(rootN f ls).length=32:=by obtain⟨m,h⟩:=rootN_sha f ls;rw[h];rfl
theorem BsAt.less{B B':Nat}{l:List Int}{v:Value}{w:World}(h:BsAt B l v w)(hB:B'≤B):BsAt B' l v w:=by
 obtain⟨l',A,c,h1,h2,h3,h4,h5,h6⟩:=h;exact⟨l',A,c,h1,h2,h3,h4,h5,fun k hk=>⟨Nat.le_trans hB (h6 k hk).1,(h6 k hk).2⟩⟩
def Lss(w:World)(A:Option Addr)(ls:List (List Int))(g:Nat):Prop:=
 ∀i,i<ls.length→∃b o Ai ci,A=some ⟨b,o,none⟩∧b≠g∧b<w.heap.size∧w.cell? ⟨b,o+i,none⟩=some (.slice Ai (ls.getD i []).length ci)∧Bs w Ai (ls.getD i [])∧(ls.getD i []).length≤ci∧Fm Ai (ls.getD i []).length ci∧Far Ai (ls.getD i []) (some g)
theorem Lss.after{w w':World}{A:Option Addr}{ls:List (List Int)}{g:Nat}(h:Lss w A ls g)(hb:Below w.heap.size w w'):Lss w' A ls g:=fun i hi=>by
 obtain⟨b,o,Ai,ci,h1,h2,h3,h4,h5,h6,h7,h8⟩:=h i hi;exact⟨b,o,Ai,ci,h1,h2,Nat.lt_of_lt_of_le h3 hb.size,(hb.cell (p:=⟨b,o+i,none⟩) h3).trans h4,h5.after hb,h6,h7,h8⟩
theorem Lss.gb{w w':World}{A:Option Addr}{ls:List (List Int)}{g:Nat}(h:Lss w A ls g)(hb:w.grownBy w' (some g)):Lss w' A ls g:=fun i hi=>by
 obtain⟨b,o,Ai,ci,h1,h2,h3,h4,h5,h6,h7,h8⟩:=h i hi;exact⟨b,o,Ai,ci,h1,h2,Nat.lt_of_lt_of_le h3 hb.size,(gb_cell hb h3 (by simpa using h2)).trans h4,h5.grown hb h8,h6,h7,h8⟩
theorem Lss.at_{w:World}{A:Option Addr}{ls:List (List Int)}{g:Nat}(h:Lss w A ls g)(hn:0<ls.length):∃b o,A=some ⟨b,o,none⟩:=by
 obtain⟨b,o,_,_,h1,_⟩:=h 0 hn;exact⟨b,o,h1⟩
theorem Lss.take{w:World}{A:Option Addr}{ls:List (List Int)}{g:Nat}(h:Lss w A ls g)(k:Nat):Lss w A (ls.take k) g:=fun i hi=>by
 rw[List.length_take]at hi;have e:(ls.take k).getD i []=ls.getD i []:=by rw[List.getD_eq_getElem?_getD,List.getElem?_take,if_pos (by omega),← List.getD_eq_getElem?_getD]
 rw[e];exact h i (by omega)
theorem Lss.drop{w:World}{b o:Nat}{ls:List (List Int)}{g:Nat}(h:Lss w (some ⟨b,o,none⟩) ls g)(k:Nat):Lss w (some ⟨b,o+k,none⟩) (ls.drop k) g:=fun i hi=>by
 rw[List.length_drop]at hi;have e:(ls.drop k).getD i []=ls.getD (k+i) []:=by rw[List.getD_eq_getElem?_getD,List.getElem?_drop,← List.getD_eq_getElem?_getD]
 rw[e];obtain⟨b',o',Ai,ci,h1,h2,h3,h4,h5⟩:=h (k+i) (by omega);injection h1 with h1;injection h1 with e1 e2;subst e1 e2;exact⟨_,_,Ai,ci,rfl,h2,h3,by rw[Nat.add_assoc];exact h4,h5⟩
def Small(ls:List (List Int)):Prop:=∀x∈ls,Bytes x∧x.length≤100000000000
theorem Small.take{ls:List (List Int)}(h:Small ls)(k:Nat):Small (ls.take k):=fun x hx=>h x (List.mem_of_mem_take hx)
theorem Small.drop{ls:List (List Int)}(h:Small ls)(k:Nat):Small (ls.drop k):=fun x hx=>h x (List.mem_of_mem_drop hx)
theorem Small.get{ls:List (List Int)}(h:Small ls){i:Nat}(hi:i<ls.length):Bytes (ls.getD i [])∧(ls.getD i []).length≤100000000000:=by
 rw[List.getD_eq_getElem?_getD,List.getElem?_eq_getElem hi];exact h _ (List.getElem_mem hi)
theorem AnyD.after{w w':World}{g:Nat}(h:AnyD w g)(hb:Below w.heap.size w w'):AnyD w' g:=by
 obtain⟨s,x,nx,ln,h1,h2⟩:=h;exact⟨s,x,nx,ln,h1,h2.after hb⟩
theorem c_tree(g:Nat)(hg0:g≠1):∀(f:Nat) (ls:List (List Int)) (N:Nat) (A:Option Addr) (c:Nat) (w:World),Is ls.length N→N≤f→N≤20→N≤c→AnyD w g→Lss w A ls g→Small ls→KTab w 1→0<f→
  Calls Tryz.prog 113 #[.iface 178 (.pointer (some ⟨g,0,none⟩)),.slice A N c] w fun e w'=>∃v,e=.returned v∧BsAt w.heap.size (rootN f ls) v w'∧w.grownBy w' (some g)∧AnyD w' g:=by
 intro f;induction f with
 |zero=>exact fun _ _ _ _ _ _ _ _ _ _ _ _ _ h=>absurd h (by omega)
 |succ f ih=>
  intro ls N A c w hN hNf hN20 hNc hD hL hS hKt _;rw[rootN,hN.out];refine enter_abs Tryz.func113 rfl 37 rfl (by simp) ?_;intro a hs hd hargs;have s0:=hargs 0 _ rfl;have s1:=hargs 1 _ rfl;clear hargs;have hG:=GB.refl w g;have hgw:g<w.heap.size:=by obtain⟨s,x,nx,ln,_,h⟩:=hD;exact h.lt
  rcases(by omega:N=0∨N=1∨2≤N)with h0|h1|h2
  ·subst h0;rw[if_pos rfl];refine wp_seq ?_;refine wp_region_list ?_;show wpList _ _ _ [_] _ _
   refine tail_op rfl (fun K hK=>?_);go_simp;refine hK _ _ ?_;clear hK K;refine act_put (d:=4) _ hs hd (by decide) [(0,_),(1,_)] ⟨s0,s1,trivial⟩ rfl ?_;clear hs hd s0 s1;intro a hs hd e;obtain⟨s4,s0,s1,-⟩:=e;clear s4;refine wp_seq ?_;refine wp_flow2_use [(0,_),(1,_)]
    [FItem.eq 8 (_)]
    1 37 (by kernel_rfl) (by kernel_rfl) (by kernel_rfl) (by kernel_rfl) hs hd ⟨s0,s1,trivial⟩
    ⟨(fun a u hb hs hl hd K hK=>by
      obtain⟨-,l1,-⟩:=hl;have s1:=gd l1;clear hd;refine step_plain rfl ?_;go_simp;exact hK _ _ (Below.refl _ _) (eq_put hs (by decide))),
     trivial⟩ ?_
   clear hs hd s0 s1;intro a w hb hs hd hl hh;obtain⟨s0,s1,-⟩:=hl;have s8:=hold_eq hh 0 rfl;clear hh;replace hG:=hG.after hb;replace hD:=hD.after hb;replace hL:=hL.after hb;replace hKt:=hKt.after hb;clear hb;show wpList _ _ _ [_] _ _
   refine tail_op rfl (fun K hK=>?_);have q8:=gd s8;go_simp;clear q8;refine hK _ _ ?_;clear hK K;refine act_put (d:=9) _ hs hd (by decide) [(0,_),(1,_),(8,_)] ⟨s0,s1,s8,trivial⟩ rfl ?_;clear hs hd s0 s1 s8;intro a hs hd e;obtain⟨s9,s0,s1,s8,-⟩:=e;clear s8;refine wp_block ?_;refine wp_seq ?_;refine wp_flow2_use [(0,_),(1,_),(9,_)]
    [FItem.eq 28 (_)]
    1 37 (by kernel_rfl) (by kernel_rfl) (by kernel_rfl) (by kernel_rfl) hs hd ⟨s0,s1,s9,trivial⟩
    ⟨(fun a u hb hs hl hd K hK=>by
      obtain⟨-,-,l9,-⟩:=hl;have s9:=gd l9;clear hd;refine step_plain rfl ?_;go_simp;exact hK _ _ (Below.refl _ _) (eq_put hs (by decide))),
     trivial⟩ ?_
   clear hs hd s0 s1 s9;intro a w hb hs hd hl hh;obtain⟨s0,s1,s9,-⟩:=hl;have s28:=hold_eq hh 0 rfl;clear hh;replace hG:=hG.after hb;replace hD:=hD.after hb;replace hL:=hL.after hb;replace hKt:=hKt.after hb;clear hb;show wpList _ _ _ [_] _ _
   refine tail_op rfl (fun K hK=>?_);have q28:=gd s28;go_simp;clear q28;refine hK _ _ ?_;clear hK K;refine act_put (d:=27) _ hs hd (by decide) [(0,_),(1,_),(9,_),(28,_)] ⟨s0,s1,s9,s28,trivial⟩ rfl ?_;clear hs hd s0 s1 s9 s28;intro a hs hd e;obtain⟨s27,s0,s1,s9,s28,-⟩:=e;clear s28;refine wp_cond_true s27 ?_;refine wp_seq ?_;refine wp_region_list ?_;show wpList _ _ _ [_,_] _ _
   refine tail_op rfl (fun K hK=>?_);go_simp;refine(c_emptyHash _ hKt hKt.lt).mono ?_;intro e w3 h;obtain⟨v,rfl,hv,hb2⟩:=h.at_ hG.size;refine hK _ _ ?_;clear hK K;refine act_put (d:=29) _ hs hd (by decide) [(0,_),(1,_),(9,_),(27,_)] ⟨s0,s1,s9,s27,trivial⟩ rfl ?_;clear hs hd s0 s1 s9 s27;intro a hs hd e;obtain⟨s29,s0,s1,s9,s27,-⟩:=e;replace hG:=hG.after hb2;replace hD:=hD.after hb2;clear hb2 hL hKt;refine tail_op rfl (fun K hK=>?_);have q29:=gd s29;go_simp;clear q29;refine hK _ _ ?_;clear hK K;refine act_put (d:=4) _ hs hd (by decide) [(0,_),(1,_),(9,_),(27,_),(29,_)] ⟨s0,s1,s9,s27,s29,trivial⟩ rfl ?_;clear hs hd s0 s1 s9 s27 s29;intro a hs hd e;obtain⟨s4,s0,s1,s9,s27,s29,-⟩:=e;clear s0 s1 s9 s27 s29;refine wp_ret ?_;repeat first|refine then_ret ?_|refine inBlock_ret ?_
   exact end_tmp rfl hd s4 ⟨v,rfl,hv,hG,hD⟩
  ·subst h1;rw[if_neg (by decide),if_pos rfl];refine wp_seq ?_;refine wp_region_list ?_;show wpList _ _ _ [_] _ _
   refine tail_op rfl (fun K hK=>?_);go_simp;refine hK _ _ ?_;clear hK K;refine act_put (d:=4) _ hs hd (by decide) [(0,_),(1,_)] ⟨s0,s1,trivial⟩ rfl ?_;clear hs hd s0 s1;intro a hs hd e;obtain⟨s4,s0,s1,-⟩:=e;clear s4;refine wp_seq ?_;refine wp_flow2_use [(0,_),(1,_)]
    [FItem.eq 8 (_)]
    1 37 (by kernel_rfl) (by kernel_rfl) (by kernel_rfl) (by kernel_rfl) hs hd ⟨s0,s1,trivial⟩
    ⟨(fun a u hb hs hl hd K hK=>by
      obtain⟨-,l1,-⟩:=hl;have s1:=gd l1;clear hd;refine step_plain rfl ?_;go_simp;exact hK _ _ (Below.refl _ _) (eq_put hs (by decide))),
     trivial⟩ ?_
   clear hs hd s0 s1;intro a w hb hs hd hl hh;obtain⟨s0,s1,-⟩:=hl;have s8:=hold_eq hh 0 rfl;clear hh;replace hG:=hG.after hb;replace hD:=hD.after hb;replace hL:=hL.after hb;replace hKt:=hKt.after hb;clear hb;show wpList _ _ _ [_] _ _
   refine tail_op rfl (fun K hK=>?_);have q8:=gd s8;go_simp;clear q8;refine hK _ _ ?_;clear hK K;refine act_put (d:=9) _ hs hd (by decide) [(0,_),(1,_),(8,_)] ⟨s0,s1,s8,trivial⟩ rfl ?_;clear hs hd s0 s1 s8;intro a hs hd e;obtain⟨s9,s0,s1,s8,-⟩:=e;clear s8;refine wp_block ?_;refine wp_seq ?_;refine wp_flow2_use [(0,_),(1,_),(9,_)]
    [FItem.eq 28 (_)]
    1 37 (by kernel_rfl) (by kernel_rfl) (by kernel_rfl) (by kernel_rfl) hs hd ⟨s0,s1,s9,trivial⟩
    ⟨(fun a u hb hs hl hd K hK=>by
      obtain⟨-,-,l9,-⟩:=hl;have s9:=gd l9;clear hd;refine step_plain rfl ?_;go_simp;exact hK _ _ (Below.refl _ _) (eq_put hs (by decide))),
     trivial⟩ ?_
   clear hs hd s0 s1 s9;intro a w hb hs hd hl hh;obtain⟨s0,s1,s9,-⟩:=hl;have s28:=hold_eq hh 0 rfl;clear hh;replace hG:=hG.after hb;replace hD:=hD.after hb;replace hL:=hL.after hb;replace hKt:=hKt.after hb;clear hb;show wpList _ _ _ [_] _ _
   refine tail_op rfl (fun K hK=>?_);have q28:=gd s28;go_simp;clear q28;refine hK _ _ ?_;clear hK K;refine act_put (d:=27) _ hs hd (by decide) [(0,_),(1,_),(9,_),(28,_)] ⟨s0,s1,s9,s28,trivial⟩ rfl ?_;clear hs hd s0 s1 s9 s28;intro a hs hd e;obtain⟨s27,s0,s1,s9,s28,-⟩:=e;clear s28;refine wp_cond_false s27 ?_;refine wp_seq ?_;refine wp_flow2_use [(0,_),(1,_),(9,_),(27,_)]
    [FItem.eq 31 (_)]
    1 37 (by kernel_rfl) (by kernel_rfl) (by kernel_rfl) (by kernel_rfl) hs hd ⟨s0,s1,s9,s27,trivial⟩
    ⟨(fun a u hb hs hl hd K hK=>by
      obtain⟨-,-,l9,-,-⟩:=hl;have s9:=gd l9;clear hd;refine step_plain rfl ?_;go_simp;exact hK _ _ (Below.refl _ _) (eq_put hs (by decide))),
     trivial⟩ ?_
   clear hs hd s0 s1 s9 s27;intro a w hb hs hd hl hh;obtain⟨s0,s1,-,-,-⟩:=hl;have s31:=hold_eq hh 0 rfl;clear hh;replace hG:=hG.after hb;replace hD:=hD.after hb;replace hL:=hL.after hb;replace hKt:=hKt.after hb;clear hb;show wpList _ _ _ [_] _ _
   refine tail_op rfl (fun K hK=>?_);have q31:=gd s31;go_simp;clear q31;refine hK _ _ ?_;clear hK K;refine act_put (d:=30) _ hs hd (by decide) [(0,_),(1,_),(31,_)] ⟨s0,s1,s31,trivial⟩ rfl ?_;clear hs hd s0 s1 s31;intro a hs hd e;obtain⟨s30,s0,s1,s31,-⟩:=e;clear s31;refine wp_cond_true s30 ?_;refine wp_seq ?_;obtain⟨b,o,Ai,ci,rfl,hbg,hbw,c0,hbi,hci,hfi,hfr⟩:=hL 0 (by rw[hN.out];decide);rw[Nat.add_zero]at c0;obtain⟨x0,hx0⟩:∃x0,Is (ls.getD 0 []) x0:=is_self _;have hsm:=hS.get (i:=0) (by rw[hN.out];decide);rw[hx0.out]at c0 hbi hci hfi hfr hsm⊢;refine wp_flow2_use [(0,_),(1,_),(30,_)]
    [FItem.eq 32 (_),FItem.eq 33 (_),FItem.eq 34 (_),FItem.eq 35 (_)]
    4 37 (by kernel_rfl) (by kernel_rfl) (by kernel_rfl) (by kernel_rfl) hs hd ⟨s0,s1,s30,trivial⟩
    ⟨(fun a u hb hs hl hd K hK=>by
      obtain⟨l0,-,-,-⟩:=hl;have s0:=gd l0;clear hd;refine step_plain rfl ?_;go_simp;exact hK _ _ (Below.refl _ _) (eq_put hs (by decide))),
     (fun a u hb hs hl hd K hK=>by
      obtain⟨-,l1,-,-⟩:=hl;have s1:=gd l1;clear hd;refine step_plain rfl ?_;go_simp;exact hK _ _ (Below.refl _ _) (eq_put hs (by decide))),
     (fun a u hb hs hl hd K hK=>by
      have s33:=gd (dep_get hd 1 (by kernel_rfl) rfl);clear hd;refine step_plain rfl ?_;go_simp;exact hK _ _ (Below.refl _ _) (eq_put hs (by decide))),
     (fun a u hb hs hl hd K hK=>by
      have s34:=gd (dep_get hd 2 (by kernel_rfl) rfl);have c0:=cell_up hb c0;clear hd;refine step_plain rfl ?_;go_simp;exact hK _ _ (Below.refl _ _) (eq_put hs (by decide))),
     trivial⟩ ?_
   clear hs hd s0 s1 s30;intro a w hb hs hd hl hh;obtain⟨-,-,-,-⟩:=hl;have s32:=hold_eq hh 0 rfl;have s35:=hold_eq hh 3 rfl;clear hh;replace hG:=hG.after hb;replace hD:=hD.after hb;replace hL:=hL.after hb;replace hKt:=hKt.after hb;replace hbi:=hbi.after hb;replace c0:=cell_up hb c0;clear hb;show wpList _ _ _ [_,_] _ _
   refine tail_op rfl (fun K hK=>?_);have q32:=gd s32;have q35:=gd s35;go_simp;refine(c_leafHash g Ai ci x0 _ hD hfi hbi hfr hci hsm.1 (by have:=hsm.2;omega) hKt hg0).mono ?_;rintro e w3 ⟨v,rfl,hv,hg2,hD2⟩;clear q32 q35;refine hK _ _ ?_;clear hK K;refine act_put (d:=36) _ hs hd (by decide) [(32,_),(35,_)] ⟨s32,s35,trivial⟩ rfl ?_;clear hs hd s32 s35;intro a hs hd e;obtain⟨s36,s32,s35,-⟩:=e;replace hv:=hv.less hG.size;replace hG:=hG.trans hg2;refine tail_op rfl (fun K hK=>?_);have q36:=gd s36;go_simp;clear q36;refine hK _ _ ?_;clear hK K;refine act_put (d:=4) _ hs hd (by decide) [(32,_),(35,_),(36,_)] ⟨s32,s35,s36,trivial⟩ rfl ?_;clear hs hd s32 s35 s36;intro a hs hd e;obtain⟨s4,s32,s35,s36,-⟩:=e;clear s32 s35 s36;refine wp_ret ?_;repeat first|refine then_ret ?_|refine inBlock_ret ?_
   exact end_tmp rfl hd s4 ⟨v,rfl,hv,hG,hD2⟩
  ·rw[if_neg (by omega),if_neg (by omega)];have e0:(N == 0)=false:=by rw[beq_eq_false_iff_ne];omega
   have e1:(N == 1)=false:=by rw[beq_eq_false_iff_ne];omega
   have e0':((N:Int) == 0)=false:=by rw[beq_eq_false_iff_ne];omega
   have e1':((N:Int) == 1)=false:=by rw[beq_eq_false_iff_ne];omega
   obtain⟨b,o,rfl⟩:=hL.at_ (by rw[hN.out];omega);obtain⟨k,hk⟩:∃k,Is (splitN N) k:=is_self _;have hk2:=splitN_lt h2 (by omega);rw[hk.out]at hk2⊢;obtain⟨hk0,hk1⟩:=hk2;have hkc:¬ (c=k):=by omega
   have hk3:(k:Int)≤(N:Int):=by omega
   have hk4:(k:Int)≤(c:Int):=by omega
   have hk5:(0:Int)≤(k:Int):=by omega
   have hk6:k≤N:=by omega
   have hk7:k≤c:=by omega
   refine wp_seq ?_;refine wp_region_list ?_;show wpList _ _ _ [_] _ _
   refine tail_op rfl (fun K hK=>?_);go_simp;refine hK _ _ ?_;clear hK K;refine act_put (d:=4) _ hs hd (by decide) [(0,_),(1,_)] ⟨s0,s1,trivial⟩ rfl ?_;clear hs hd s0 s1;intro a hs hd e;obtain⟨s4,s0,s1,-⟩:=e;clear s4;refine wp_seq ?_;refine wp_flow2_use [(0,_),(1,_)]
    [FItem.eq 8 (_)]
    1 37 (by kernel_rfl) (by kernel_rfl) (by kernel_rfl) (by kernel_rfl) hs hd ⟨s0,s1,trivial⟩
    ⟨(fun a u hb hs hl hd K hK=>by
      obtain⟨-,l1,-⟩:=hl;have s1:=gd l1;clear hd;refine step_plain rfl ?_;go_simp;exact hK _ _ (Below.refl _ _) (eq_put hs (by decide))),
     trivial⟩ ?_
   clear hs hd s0 s1;intro a w hb hs hd hl hh;obtain⟨s0,s1,-⟩:=hl;have s8:=hold_eq hh 0 rfl;clear hh;replace hG:=hG.after hb;replace hD:=hD.after hb;replace hL:=hL.after hb;replace hKt:=hKt.after hb;clear hb;show wpList _ _ _ [_] _ _
   refine tail_op rfl (fun K hK=>?_);have q8:=gd s8;go_simp;clear q8;refine hK _ _ ?_;clear hK K;refine act_put (d:=9) _ hs hd (by decide) [(0,_),(1,_),(8,_)] ⟨s0,s1,s8,trivial⟩ rfl ?_;clear hs hd s0 s1 s8;intro a hs hd e;obtain⟨s9,s0,s1,s8,-⟩:=e;clear s8;refine wp_block ?_;refine wp_seq ?_;refine wp_flow2_use [(0,_),(1,_),(9,_)]
    [FItem.eq 28 (_)]
    1 37 (by kernel_rfl) (by kernel_rfl) (by kernel_rfl) (by kernel_rfl) hs hd ⟨s0,s1,s9,trivial⟩
    ⟨(fun a u hb hs hl hd K hK=>by
      obtain⟨-,-,l9,-⟩:=hl;have s9:=gd l9;clear hd;refine step_plain rfl ?_;go_simp;exact hK _ _ (Below.refl _ _) (eq_put hs (by decide))),
     trivial⟩ ?_
   clear hs hd s0 s1 s9;intro a w hb hs hd hl hh;obtain⟨s0,s1,s9,-⟩:=hl;have s28:=hold_eq hh 0 rfl;clear hh;replace hG:=hG.after hb;replace hD:=hD.after hb;replace hL:=hL.after hb;replace hKt:=hKt.after hb;clear hb;show wpList _ _ _ [_] _ _
   refine tail_op rfl (fun K hK=>?_);have q28:=gd s28;go_simp;clear q28;refine hK _ _ ?_;clear hK K;refine act_put (d:=27) _ hs hd (by decide) [(0,_),(1,_),(9,_),(28,_)] ⟨s0,s1,s9,s28,trivial⟩ rfl ?_;clear hs hd s0 s1 s9 s28;intro a hs hd e;obtain⟨s27,s0,s1,s9,s28,-⟩:=e;clear s28;refine wp_cond_false s27 ?_;refine wp_seq ?_;refine wp_flow2_use [(0,_),(1,_),(9,_),(27,_)]
    [FItem.eq 31 (_)]
    1 37 (by kernel_rfl) (by kernel_rfl) (by kernel_rfl) (by kernel_rfl) hs hd ⟨s0,s1,s9,s27,trivial⟩
    ⟨(fun a u hb hs hl hd K hK=>by
      obtain⟨-,-,l9,-,-⟩:=hl;have s9:=gd l9;clear hd;refine step_plain rfl ?_;go_simp;exact hK _ _ (Below.refl _ _) (eq_put hs (by decide))),
     trivial⟩ ?_
   clear hs hd s0 s1 s9 s27;intro a w hb hs hd hl hh;obtain⟨s0,s1,-,-,-⟩:=hl;have s31:=hold_eq hh 0 rfl;clear hh;replace hG:=hG.after hb;replace hD:=hD.after hb;replace hL:=hL.after hb;replace hKt:=hKt.after hb;clear hb;show wpList _ _ _ [_] _ _
   refine tail_op rfl (fun K hK=>?_);have q31:=gd s31;go_simp;clear q31;refine hK _ _ ?_;clear hK K;refine act_put (d:=30) _ hs hd (by decide) [(0,_),(1,_),(31,_)] ⟨s0,s1,s31,trivial⟩ rfl ?_;clear hs hd s0 s1 s31;intro a hs hd e;obtain⟨s30,s0,s1,s31,-⟩:=e;clear s31;refine wp_cond_false s30 ?_;refine wp_seq ?_;refine wp_flow2_use [(0,_),(1,_),(30,_)]
    [FItem.eq 10 (_),FItem.eq 11 (_)]
    2 37 (by kernel_rfl) (by kernel_rfl) (by kernel_rfl) (by kernel_rfl) hs hd ⟨s0,s1,s30,trivial⟩
    ⟨(fun a u hb hs hl hd K hK=>by
      obtain⟨-,l1,-,-⟩:=hl;have s1:=gd l1;clear hd;refine step_plain rfl ?_;go_simp;exact hK _ _ (Below.refl _ _) (eq_put hs (by decide))),
     (fun a u hb hs hl hd K hK=>by
      have s10:=gd (dep_get hd 0 (by kernel_rfl) rfl);clear hd;refine step_plain rfl ?_;go_simp;exact hK _ _ (Below.refl _ _) (eq_put hs (by decide))),
     trivial⟩ ?_
   clear hs hd s0 s1 s30;intro a w hb hs hd hl hh;obtain⟨s0,s1,-,-⟩:=hl;have s11:=hold_eq hh 1 rfl;clear hh;replace hG:=hG.after hb;replace hD:=hD.after hb;replace hL:=hL.after hb;replace hKt:=hKt.after hb;clear hb;show wpList _ _ _ [_,_] _ _
   refine tail_op rfl (fun K hK=>?_);have q11:=gd s11;go_simp;refine(c_gsp N _ h2 hN20).mono ?_;rintro e w3 ⟨rfl,hw3⟩;subst hw3;rw[hk.out];clear q11;refine hK _ _ ?_;clear hK K;refine act_put (d:=12) _ hs hd (by decide) [(0,_),(1,_),(11,_)] ⟨s0,s1,s11,trivial⟩ rfl ?_;clear hs hd s0 s1 s11;intro a hs hd e;obtain⟨s12,s0,s1,s11,-⟩:=e;refine tail_op rfl (fun K hK=>?_);have q12:=gd s12;go_simp;clear q12;refine hK _ _ ?_;clear hK K;refine act_put (d:=5) _ hs hd (by decide) [(0,_),(1,_),(11,_),(12,_)] ⟨s0,s1,s11,s12,trivial⟩ rfl ?_;clear hs hd s0 s1 s11 s12;intro a hs hd e;obtain⟨s5,s0,s1,s11,s12,-⟩:=e;clear s11 s12;refine wp_seq ?_;refine wp_flow2_use [(0,_),(1,_),(5,_)]
    [FItem.eq 13 (_),FItem.eq 14 (_),FItem.eq 15 (_),FItem.eq 16 (_)]
    4 37 (by kernel_rfl) (by kernel_rfl) (by kernel_rfl) (by kernel_rfl) hs hd ⟨s0,s1,s5,trivial⟩
    ⟨(fun a u hb hs hl hd K hK=>by
      obtain⟨l0,-,-,-⟩:=hl;have s0:=gd l0;clear hd;refine step_plain rfl ?_;go_simp;exact hK _ _ (Below.refl _ _) (eq_put hs (by decide))),
     (fun a u hb hs hl hd K hK=>by
      obtain⟨-,l1,-,-⟩:=hl;have s1:=gd l1;clear hd;refine step_plain rfl ?_;go_simp;exact hK _ _ (Below.refl _ _) (eq_put hs (by decide))),
     (fun a u hb hs hl hd K hK=>by
      obtain⟨-,-,l5,-⟩:=hl;have s5:=gd l5;clear hd;refine step_plain rfl ?_;go_simp;exact hK _ _ (Below.refl _ _) (eq_put hs (by decide))),
     (fun a u hb hs hl hd K hK=>by
      have s14:=gd (dep_get hd 1 (by kernel_rfl) rfl);have s15:=gd (dep_get hd 2 (by kernel_rfl) rfl);clear hd;refine step_plain rfl ?_;go_simp;exact hK _ _ (Below.refl _ _) (eq_put hs (by decide))),
     trivial⟩ ?_
   clear hs hd s0 s1 s5;intro a w hb hs hd hl hh;obtain⟨s0,s1,s5,-⟩:=hl;have s13:=hold_eq hh 0 rfl;have s16:=hold_eq hh 3 rfl;clear hh;replace hG:=hG.after hb;replace hD:=hD.after hb;replace hL:=hL.after hb;replace hKt:=hKt.after hb;clear hb;show wpList _ _ _ [_,_] _ _
   refine tail_op rfl (fun K hK=>?_);have q13:=gd s13;have q16:=gd s16;go_simp;refine(ih (ls.take k) (k) (some ⟨b,o,none⟩) _ _ ?_ (by omega) (by omega) (by omega) hD (hL.take k) (hS.take k) hKt (by omega)).mono ?_
   ·rw[Is,List.length_take,hN.out];omega
   rintro e w3 ⟨v,rfl,hv,hg2,hD2⟩;clear q13 q16;refine hK _ _ ?_;clear hK K;refine act_put (d:=17) _ hs hd (by decide) [(0,_),(1,_),(5,_),(13,_),(16,_)] ⟨s0,s1,s5,s13,s16,trivial⟩ rfl ?_;clear hs hd s0 s1 s5 s13 s16;intro a hs hd e;obtain⟨s17,s0,s1,s5,s13,s16,-⟩:=e;replace hv:=hv.less hG.size;replace hG:=hG.trans hg2;replace hL:=hL.gb hg2;replace hKt:=hKt.gb hg2 hg0.symm;replace hD:=hD2;obtain⟨l6,A6,c6,hl6,rfl,f6,k6,b6,n6⟩:=hv;have r6:Far A6 l6 (some g):=fun _ e=>by have:=(n6 g e).1;omega
   clear hg2 hD2;refine tail_op rfl (fun K hK=>?_);have q17:=gd s17;go_simp;clear q17;refine hK _ _ ?_;clear hK K;refine act_put (d:=6) _ hs hd (by decide) [(0,_),(1,_),(5,_),(13,_),(16,_),(17,_)] ⟨s0,s1,s5,s13,s16,s17,trivial⟩ rfl ?_;clear hs hd s0 s1 s5 s13 s16 s17;intro a hs hd e;obtain⟨s6,s0,s1,s5,s13,s16,s17,-⟩:=e;clear s13 s16 s17;refine wp_seq ?_;refine wp_flow2_use [(0,_),(1,_),(5,_),(6,_)]
    [FItem.eq 18 (_),FItem.eq 19 (_),FItem.eq 20 (_),FItem.eq 21 (_)]
    4 37 (by kernel_rfl) (by kernel_rfl) (by kernel_rfl) (by kernel_rfl) hs hd ⟨s0,s1,s5,s6,trivial⟩
    ⟨(fun a u hb hs hl hd K hK=>by
      obtain⟨l0,-,-,-,-⟩:=hl;have s0:=gd l0;clear hd;refine step_plain rfl ?_;go_simp;exact hK _ _ (Below.refl _ _) (eq_put hs (by decide))),
     (fun a u hb hs hl hd K hK=>by
      obtain⟨-,l1,-,-,-⟩:=hl;have s1:=gd l1;clear hd;refine step_plain rfl ?_;go_simp;exact hK _ _ (Below.refl _ _) (eq_put hs (by decide))),
     (fun a u hb hs hl hd K hK=>by
      obtain⟨-,-,l5,-,-⟩:=hl;have s5:=gd l5;clear hd;refine step_plain rfl ?_;go_simp;exact hK _ _ (Below.refl _ _) (eq_put hs (by decide))),
     (fun a u hb hs hl hd K hK=>by
      have s19:=gd (dep_get hd 1 (by kernel_rfl) rfl);have s20:=gd (dep_get hd 2 (by kernel_rfl) rfl);clear hd;refine step_plain rfl ?_;go_simp;exact hK _ _ (Below.refl _ _) (eq_put hs (by decide))),
     trivial⟩ ?_
   clear hs hd s0 s1 s5 s6;intro a w hb hs hd hl hh;obtain⟨s0,-,-,s6,-⟩:=hl;have s18:=hold_eq hh 0 rfl;have s21:=hold_eq hh 3 rfl;clear hh;replace hG:=hG.after hb;replace hD:=hD.after hb;replace hL:=hL.after hb;replace hKt:=hKt.after hb;replace b6:=b6.after hb;clear hb;show wpList _ _ _ [_,_] _ _
   refine tail_op rfl (fun K hK=>?_);have q18:=gd s18;have q21:=gd s21;go_simp;refine(ih (ls.drop k) (N-k) (some ⟨b,o+k,none⟩) _ _ ?_ (by omega) (by omega) (by omega) hD (hL.drop k) (hS.drop k) hKt (by omega)).mono ?_
   ·rw[Is,List.length_drop,hN.out]
   rintro e w3 ⟨v,rfl,hv,hg2,hD2⟩;clear q18 q21;refine hK _ _ ?_;clear hK K;refine act_put (d:=22) _ hs hd (by decide) [(0,_),(6,_),(18,_),(21,_)] ⟨s0,s6,s18,s21,trivial⟩ rfl ?_;clear hs hd s0 s6 s18 s21;intro a hs hd e;obtain⟨s22,s0,s6,s18,s21,-⟩:=e;replace hv:=hv.less hG.size;replace hG:=hG.trans hg2;replace b6:=b6.grown hg2 r6;replace hL:=hL.gb hg2;replace hKt:=hKt.gb hg2 hg0.symm;replace hD:=hD2;obtain⟨l7,A7,c7,hl7,rfl,f7,k7,b7,n7⟩:=hv;have r7:Far A7 l7 (some g):=fun _ e=>by have:=(n7 g e).1;omega
   clear hg2 hD2;refine tail_op rfl (fun K hK=>?_);have q22:=gd s22;go_simp;clear q22;refine hK _ _ ?_;clear hK K;refine act_put (d:=7) _ hs hd (by decide) [(0,_),(6,_),(18,_),(21,_),(22,_)] ⟨s0,s6,s18,s21,s22,trivial⟩ rfl ?_;clear hs hd s0 s6 s18 s21 s22;intro a hs hd e;obtain⟨s7,s0,s6,s18,s21,s22,-⟩:=e;clear s18 s21 s22;refine wp_seq ?_;refine wp_flow2_use [(0,_),(6,_),(7,_)]
    [FItem.eq 23 (_),FItem.eq 24 (_),FItem.eq 25 (_)]
    3 37 (by kernel_rfl) (by kernel_rfl) (by kernel_rfl) (by kernel_rfl) hs hd ⟨s0,s6,s7,trivial⟩
    ⟨(fun a u hb hs hl hd K hK=>by
      obtain⟨l0,-,-,-⟩:=hl;have s0:=gd l0;clear hd;refine step_plain rfl ?_;go_simp;exact hK _ _ (Below.refl _ _) (eq_put hs (by decide))),
     (fun a u hb hs hl hd K hK=>by
      obtain⟨-,l6,-,-⟩:=hl;have s6:=gd l6;clear hd;refine step_plain rfl ?_;go_simp;exact hK _ _ (Below.refl _ _) (eq_put hs (by decide))),
     (fun a u hb hs hl hd K hK=>by
      obtain⟨-,-,l7,-⟩:=hl;have s7:=gd l7;clear hd;refine step_plain rfl ?_;go_simp;exact hK _ _ (Below.refl _ _) (eq_put hs (by decide))),
     trivial⟩ ?_
   clear hs hd s0 s6 s7;intro a w hb hs hd hl hh;obtain⟨-,-,-,-⟩:=hl;have s23:=hold_eq hh 0 rfl;have s24:=hold_eq hh 1 rfl;have s25:=hold_eq hh 2 rfl;clear hh;replace hG:=hG.after hb;replace hD:=hD.after hb;replace hL:=hL.after hb;replace hKt:=hKt.after hb;replace b6:=b6.after hb;replace b7:=b7.after hb;clear hb;show wpList _ _ _ [_,_] _ _
   refine tail_op rfl (fun K hK=>?_);have q23:=gd s23;have q24:=gd s24;have q25:=gd s25;go_simp;refine(c_innerHash g A6 c6 l6 A7 c7 l7 _ hD f6 b6 r6 k6 (by rw[hl6.out];exact rootN_bytes _ _) f7 b7 r7 k7 (by rw[hl7.out];exact rootN_bytes _ _) (by rw[hl6.out,hl7.out,rootN_len,rootN_len];decide) hKt hg0).mono ?_;rintro e w3 ⟨v,rfl,hv,hg2,hD2⟩;clear q23 q24 q25;refine hK _ _ ?_;clear hK K;refine act_put (d:=26) _ hs hd (by decide) [(23,_),(24,_),(25,_)] ⟨s23,s24,s25,trivial⟩ rfl ?_;clear hs hd s23 s24 s25;intro a hs hd e;obtain⟨s26,s23,s24,s25,-⟩:=e;replace hv:=hv.less hG.size;replace hG:=hG.trans hg2;rw[hl6.out,hl7.out]at hv;refine tail_op rfl (fun K hK=>?_);have q26:=gd s26;go_simp;clear q26;refine hK _ _ ?_;clear hK K;refine act_put (d:=4) _ hs hd (by decide) [(23,_),(24,_),(25,_),(26,_)] ⟨s23,s24,s25,s26,trivial⟩ rfl ?_;clear hs hd s23 s24 s25 s26;intro a hs hd e;obtain⟨s4,s23,s24,s25,s26,-⟩:=e;clear s23 s24 s25 s26;refine wp_ret ?_;repeat first|refine then_ret ?_|refine inBlock_ret ?_
   exact end_tmp rfl hd s4 ⟨v,rfl,hv,hG,hD2⟩
def Ls0(w:World)(A:Option Addr)(ls:List (List Int)):Prop:=
 ∀i,i<ls.length→∃b o Ai ci,A=some ⟨b,o,none⟩∧b<w.heap.size∧w.cell? ⟨b,o+i,none⟩=some (.slice Ai (ls.getD i []).length ci)∧Bs w Ai (ls.getD i [])∧(ls.getD i []).length≤ci∧Fm Ai (ls.getD i []).length ci
theorem Ls0.lss{w:World}{A:Option Addr}{ls:List (List Int)}{g:Nat}(h:Ls0 w A ls)(hg:w.heap.size≤g):Lss w A ls g:=fun i hi=>by
 obtain⟨b,o,Ai,ci,h1,h2,h3,h4,h5,h6⟩:=h i hi;exact⟨b,o,Ai,ci,h1,by omega,h2,h3,h4,h5,h6,h4.far hg⟩
theorem Ls0.after{w w':World}{A:Option Addr}{ls:List (List Int)}(h:Ls0 w A ls)(hb:Below w.heap.size w w'):Ls0 w' A ls:=fun i hi=>by
 obtain⟨b,o,Ai,ci,h1,h2,h3,h4,h5,h6⟩:=h i hi;exact⟨b,o,Ai,ci,h1,Nat.lt_of_lt_of_le h2 hb.size,(hb.cell (p:=⟨b,o+i,none⟩) h2).trans h3,h4.after hb,h5,h6⟩
theorem c_root(ls:List (List Int))(N:Nat)(A:Option Addr)(c:Nat)(w:World)(hN:Is ls.length N)(hN20:N≤20)(hNc:N≤c)(hL:Ls0 w A ls)(hS:Small ls)(hKt:KTab w 1)(h0:1<w.heap.size):
  Calls Tryz.prog 95 #[.slice A N c] w fun e w'=>∃v,e=.returned v∧BsAt w.heap.size (rootN 20 ls) v w'∧Below w.heap.size w w':=by
 refine enter_abs Tryz.func95 rfl 7 rfl (by simp) ?_;intro a hs hd hargs;have s0:=hargs 0 _ rfl;clear hargs;have hB:=bz_refl w;refine wp_seq ?_;refine wp_region_list ?_;show wpList _ _ _ [_] _ _
 refine tail_op rfl (fun K hK=>?_);go_simp;refine hK _ _ ?_;clear hK K;refine act_put (d:=2) _ hs hd (by decide) [(0,_)] ⟨s0,trivial⟩ rfl ?_;clear hs hd s0;intro a hs hd zl;refine wp_seq ?_;refine wp_region_list ?_;show wpList _ _ _ [_,_,_,_,_] _ _
 refine tail_op rfl (fun K hK=>?_);go_simp;refine(c_New _).mono ?_;rintro e w2 ⟨B,rfl,hwB,hb2,hD⟩;refine hK _ _ (tP hs hd zl ?_);clear hK K hs hd zl;intro a hs hd zl;have BB:=Nat.le_trans hB.size hwB;have hLB:=hL.lss hwB;replace hLB:=hLB.after hb2;replace hB:=bz_then hB hb2;replace hKt:=hKt.after hb2;clear hb2 hL hwB;refine wn 2 ?_;clear hs hd zl;intro a hs hd zl;refine tail_op rfl (fun K hK=>?_);have q4:=gL zl 1;have q5:=gL zl 0;go_simp;refine(c_tree B (by omega) 20 ls N A c _ hN hN20 hN20 hNc hD.any hLB hS hKt (by decide)).mono ?_;rintro e w3 ⟨v,rfl,hv,hg2,hD2⟩;clear q4 q5;refine hK _ _ (tP hs hd zl ?_);clear hK K hs hd zl;intro a hs hd zl;replace hv:=hv.less hB.size;replace hB:=GB.below2 hB hg2 BB;refine tail_op rfl (fun K hK=>?_);have q6:=gL zl 0;go_simp;clear q6;refine hK _ _ ?_;clear hK K;obtain⟨s6,s5,s4,s3,-,s0,-⟩:=zl;refine act_put (d:=2) _ hs hd (by decide) [(0,_),(3,_),(4,_),(5,_),(6,_)] ⟨s0,s3,s4,s5,s6,trivial⟩ rfl ?_;clear hs hd s0 s3 s4 s5 s6;intro a hs hd zl;refine wp_ret ?_;exact end_tmp rfl hd (vL zl 0) ⟨v,rfl,hv,hB⟩
def st8(S:ShaSt):Array Value:=#[.int .u32 S.a,.int .u32 S.b,.int .u32 S.c,.int .u32 S.d,.int .u32 S.e,.int .u32 S.f,.int .u32 S.g,.int .u32 S.h]
def k64:Array Value:=(kTab.map (Value.int .u32)).toArray
def zs32(n:Nat):Array Value:=(List.replicate n (Value.int .u32 0)).toArray
theorem one_u32(l:List Int):∀v∈((l.map (Value.int .u32)).toArray).toList,v.oneCell'=true:=by
 intro v hv;obtain⟨a,-,rfl⟩:=List.mem_map.1 (by simpa using hv);rfl
theorem c_begin(w:World):Calls Tryz.prog 41 #[] w fun e w'=>e=.returned (.agg (st8 sha0))∧Below w.heap.size w w':=by
 refine enter_abs Tryz.func41 rfl 2 rfl (by simp) ?_;intro a hs hd hargs;clear hargs;have hB:=bz_refl w;refine wp_seq ?_;refine wp_region_list ?_;show wpList _ _ _ [_] _ _
 refine tail_op rfl (fun K hK=>?_);go_simp;refine hK _ _ ?_;clear hK K;refine act_put (d:=0) _ hs hd (by decide) [] trivial rfl ?_;clear hs hd;intro a hs hd zl;obtain⟨H,hE⟩:∃B,Is w.heap.size B:=is_self _;have HB:=Nat.le_trans hB.size (Nat.le_of_eq hE.out);generalize hw1:World.alloc w _=w1;have hH:Blk w1 H 97 (zs32 8):=by rw[← hw1,← hE.out];exact Blk.new w _ _
 have hB1:Below w.heap.size w w1:=by rw[← hw1];exact bz_alloc (bz_refl w) _
 replace hB:=bz_then hB hB1;obtain⟨s0,-⟩:=zl;rw[hE.out]at s0;clear hw1 hB1 hE;refine wp_seq ?_;refine wp_region_list ?_;show wpList _ _ _ [_,_] _ _
 refine tail_op rfl (fun K hK=>?_);go_simp;refine hK _ _ ?_;clear hK K;refine act_put (d:=1) _ hs hd (by decide) [(0,_)] ⟨s0,trivial⟩ rfl ?_;clear hs hd s0;intro a hs hd zl;obtain⟨s1,s0,-⟩:=zl;replace s1:=s1.trans (show _=Value.agg (st8 sha0)by kernel_rfl);refine tail_op rfl (fun K hK=>?_);have q0:=gd s0;have q1:=gd s1;refine op_store_row 97 (.tmp 0) (.tmp 1) rfl H s0 (st8 sha0) s1 _ _ hH (by kernel_rfl) (by kernel_rfl) (by exact one_u32 [sha0.a,sha0.b,sha0.c,sha0.d,sha0.e,sha0.f,sha0.g,sha0.h]) ?_;clear q0 q1;refine hK _ _ ?_;clear hK K;change wpList _ _ _ _ a _;clear s1;refine wp_ret ?_;exact end_row rfl H s0 hd.out 97 _ _ (hH.setRow _) rfl rfl (by kernel_rfl) ⟨rfl,GB.below2 hB (gb_setRow _ H _) HB⟩
theorem c_rounds(w:World):Calls Tryz.prog 42 #[] w fun e w'=>e=.returned (.agg (k64))∧Below w.heap.size w w':=by
 refine enter_abs Tryz.func42 rfl 2 rfl (by simp) ?_;intro a hs hd hargs;clear hargs;have hB:=bz_refl w;refine wp_seq ?_;refine wp_region_list ?_;show wpList _ _ _ [_] _ _
 refine tail_op rfl (fun K hK=>?_);go_simp;refine hK _ _ ?_;clear hK K;refine act_put (d:=0) _ hs hd (by decide) [] trivial rfl ?_;clear hs hd;intro a hs hd zl;obtain⟨H,hE⟩:∃B,Is w.heap.size B:=is_self _;have HB:=Nat.le_trans hB.size (Nat.le_of_eq hE.out);generalize hw1:World.alloc w _=w1;have hH:Blk w1 H 99 (zs32 64):=by rw[← hw1,← hE.out];exact Blk.new w _ _
 have hB1:Below w.heap.size w w1:=by rw[← hw1];exact bz_alloc (bz_refl w) _
 replace hB:=bz_then hB hB1;obtain⟨s0,-⟩:=zl;rw[hE.out]at s0;clear hw1 hB1 hE;refine wp_seq ?_;refine wp_region_list ?_;show wpList _ _ _ [_,_] _ _
 refine tail_op rfl (fun K hK=>?_);go_simp;refine hK _ _ ?_;clear hK K;refine act_put (d:=1) _ hs hd (by decide) [(0,_)] ⟨s0,trivial⟩ rfl ?_;clear hs hd s0;intro a hs hd zl;obtain⟨s1,s0,-⟩:=zl;replace s1:=s1.trans (show _=Value.agg (k64)by kernel_rfl);refine tail_op rfl (fun K hK=>?_);have q0:=gd s0;have q1:=gd s1;refine op_store_row 99 (.tmp 0) (.tmp 1) rfl H s0 (k64) s1 _ _ hH (by kernel_rfl) (by kernel_rfl) (by exact one_u32 kTab) ?_;clear q0 q1;refine hK _ _ ?_;clear hK K;change wpList _ _ _ _ a _;clear s1;refine wp_ret ?_;exact end_row rfl H s0 hd.out 99 _ _ (hH.setRow _) rfl rfl (by kernel_rfl) ⟨rfl,GB.below2 hB (gb_setRow _ H _) HB⟩
theorem c_rr2(x:Int)(w:World):Calls Tryz.prog 43 #[.int .u32 x,.int .i64 2] w fun e w'=>e=.returned (.int .u32 (rr 2 x))∧Below w.heap.size w w':=by
 go_enter Tryz.func43,Tryz.ntmps43
 go_wp2
 go_region
 all_goals go_wp2
 all_goals go_ret
 all_goals exact⟨by unfold rr;rw[IntKind.wrap_u32];rfl,bz_drew (bz_refl w)⟩
theorem c_rr6(x:Int)(w:World):Calls Tryz.prog 43 #[.int .u32 x,.int .i64 6] w fun e w'=>e=.returned (.int .u32 (rr 6 x))∧Below w.heap.size w w':=by
 go_enter Tryz.func43,Tryz.ntmps43
 go_wp2
 go_region
 all_goals go_wp2
 all_goals go_ret
 all_goals exact⟨by unfold rr;rw[IntKind.wrap_u32];rfl,bz_drew (bz_refl w)⟩
theorem c_rr7(x:Int)(w:World):Calls Tryz.prog 43 #[.int .u32 x,.int .i64 7] w fun e w'=>e=.returned (.int .u32 (rr 7 x))∧Below w.heap.size w w':=by
 go_enter Tryz.func43,Tryz.ntmps43
 go_wp2
 go_region
 all_goals go_wp2
 all_goals go_ret
 all_goals exact⟨by unfold rr;rw[IntKind.wrap_u32];rfl,bz_drew (bz_refl w)⟩
theorem c_rr11(x:Int)(w:World):Calls Tryz.prog 43 #[.int .u32 x,.int .i64 11] w fun e w'=>e=.returned (.int .u32 (rr 11 x))∧Below w.heap.size w w':=by
 go_enter Tryz.func43,Tryz.ntmps43
 go_wp2
 go_region
 all_goals go_wp2
 all_goals go_ret
 all_goals exact⟨by unfold rr;rw[IntKind.wrap_u32];rfl,bz_drew (bz_refl w)⟩
theorem c_rr13(x:Int)(w:World):Calls Tryz.prog 43 #[.int .u32 x,.int .i64 13] w fun e w'=>e=.returned (.int .u32 (rr 13 x))∧Below w.heap.size w w':=by
 go_enter Tryz.func43,Tryz.ntmps43
 go_wp2
 go_region
 all_goals go_wp2
 all_goals go_ret
 all_goals exact⟨by unfold rr;rw[IntKind.wrap_u32];rfl,bz_drew (bz_refl w)⟩
theorem c_rr17(x:Int)(w:World):Calls Tryz.prog 43 #[.int .u32 x,.int .i64 17] w fun e w'=>e=.returned (.int .u32 (rr 17 x))∧Below w.heap.size w w':=by
 go_enter Tryz.func43,Tryz.ntmps43
 go_wp2
 go_region
 all_goals go_wp2
 all_goals go_ret
 all_goals exact⟨by unfold rr;rw[IntKind.wrap_u32];rfl,bz_drew (bz_refl w)⟩
theorem c_rr18(x:Int)(w:World):Calls Tryz.prog 43 #[.int .u32 x,.int .i64 18] w fun e w'=>e=.returned (.int .u32 (rr 18 x))∧Below w.heap.size w w':=by
 go_enter Tryz.func43,Tryz.ntmps43
 go_wp2
 go_region
 all_goals go_wp2
 all_goals go_ret
 all_goals exact⟨by unfold rr;rw[IntKind.wrap_u32];rfl,bz_drew (bz_refl w)⟩
theorem c_rr19(x:Int)(w:World):Calls Tryz.prog 43 #[.int .u32 x,.int .i64 19] w fun e w'=>e=.returned (.int .u32 (rr 19 x))∧Below w.heap.size w w':=by
 go_enter Tryz.func43,Tryz.ntmps43
 go_wp2
 go_region
 all_goals go_wp2
 all_goals go_ret
 all_goals exact⟨by unfold rr;rw[IntKind.wrap_u32];rfl,bz_drew (bz_refl w)⟩
theorem c_rr22(x:Int)(w:World):Calls Tryz.prog 43 #[.int .u32 x,.int .i64 22] w fun e w'=>e=.returned (.int .u32 (rr 22 x))∧Below w.heap.size w w':=by
 go_enter Tryz.func43,Tryz.ntmps43
 go_wp2
 go_region
 all_goals go_wp2
 all_goals go_ret
 all_goals exact⟨by unfold rr;rw[IntKind.wrap_u32];rfl,bz_drew (bz_refl w)⟩
theorem c_rr25(x:Int)(w:World):Calls Tryz.prog 43 #[.int .u32 x,.int .i64 25] w fun e w'=>e=.returned (.int .u32 (rr 25 x))∧Below w.heap.size w w':=by
 go_enter Tryz.func43,Tryz.ntmps43
 go_wp2
 go_region
 all_goals go_wp2
 all_goals go_ret
 all_goals exact⟨by unfold rr;rw[IntKind.wrap_u32];rfl,bz_drew (bz_refl w)⟩
def SS(w0 w:World)(B1 H KR:Nat)(S:ShaSt):Prop:=
 Below w0.heap.size w0 w∧Blk w H 97 (st8 S)∧Blk w KR 99 k64∧w0.heap.size≤H∧w0.heap.size≤KR∧H≠KR∧H<B1∧KR<B1∧B1≤w.heap.size
theorem SS.step{w0 w w':World}{B1 H KR:Nat}{S:ShaSt}(h:SS w0 w B1 H KR S)(hb:Below B1 w w'):SS w0 w' B1 H KR S:=by
 obtain⟨h1,h2,h3,h4,h5,h6,h7,h8,h9⟩:=h;exact⟨h1.trans (hb.mono (by omega)),(hb.block H h7).trans h2,(hb.block KR h8).trans h3,h4,h5,h6,h7,h8,Nat.le_trans h9 hb.size⟩
theorem SS.after{w0 w w':World}{B1 H KR:Nat}{S:ShaSt}(h:SS w0 w B1 H KR S)(hb:Below w.heap.size w w'):SS w0 w' B1 H KR S:=h.step (hb.mono h.2.2.2.2.2.2.2.2)
def sLen:Value→Nat
 | .slice _ n _=>n
 |_=>0
noncomputable def ssB (b:Nat):Code:=((Tryz.f23.body.bind (loopIn b)).getD .skip)
theorem ss_pad{Q:Exit→Act→World→Prop}{B1 H KR n:Nat}{v0:Value}{l:List Int}{S:ShaSt}{w0:World}{A:Option Addr}{c:Nat}{P:List Int}(a:Act)(w:World)(hs:SzIs a 300)(hd:DfNil a)
  (s0:a.tmps.getD 0 undef=v0)(s3:a.tmps.getD 3 undef=.pointer (some ⟨H,0,none⟩))(s4:a.tmps.getD 4 undef=.pointer (some ⟨KR,0,none⟩))(s5:a.tmps.getD 5 undef=.int .i64 ((n:Nat):Int))(s6:a.tmps.getD 6 undef=.slice A P.length c)
  (hP:Is P (l++128::List.replicate (0) 0))(hn:Is l.length n)(hlen:n≤900000000000)(hSS:SS w0 w B1 H KR S)(hown:OwnB B1 w A c P)
  (hQ:∀(a:Act) (w:World) (A:Option Addr) (c:Nat) (P:List Int),Is P (l++128::List.replicate (shaZeros n) 0)→SzIs a 300→DfNil a→LiveAll [(0,v0),(3,.pointer (some ⟨H,0,none⟩)),(4,.pointer (some ⟨KR,0,none⟩)),(5,.int .i64 ((n:Nat):Int)),(6,.slice A P.length c)] a→SS w0 w B1 H KR S→OwnB B1 w A c P→Q (.exit 0) a w):
  (Code.loop (ssB 0)).wp Tryz.prog Q a w:=by
 have hz:shaZeros n≤63:=by unfold shaZeros;omega
 refine wp_loop (fun a w=>∃(j:Nat) (P:List Int) (A:Option Addr) (c:Nat),j≤shaZeros n∧Is P (l++128::List.replicate (j) 0)∧SzIs a 300∧DfNil a∧LiveAll [(0,v0),(3,.pointer (some ⟨H,0,none⟩)),(4,.pointer (some ⟨KR,0,none⟩)),(5,.int .i64 ((n:Nat):Int)),(6,.slice A P.length c)] a∧SS w0 w B1 H KR S∧OwnB B1 w A c P)
  (fun a _=>n+1+shaZeros n-sLen (a.tmps.getD 6 undef)) ⟨0,P,A,c,Nat.zero_le _,hP,hs,hd,⟨s0,s3,s4,s5,s6,trivial⟩,hSS,hown⟩ ?_
 clear hs hd s0 s3 s4 s5 s6 hSS hown hP a w;rintro a w ⟨j,P,A,c,hj,hP,hs,hd,⟨s0,s3,s4,s5,s6,-⟩,hSS,hown⟩;have hPl:P.length=n+1+j:=by rw[hP.out,← hn.out];simp;omega
 have hm:sLen (a.tmps.getD 6 undef)=n+1+j:=by rw[s6];exact hPl
 rw[hm];obtain⟨r,hr⟩:∃r,Is (P.length % 64) r:=is_self _;have hmt:((P.length:Nat):Int).tmod 64=(r:Int):=by rw[Int.tmod_eq_emod_of_nonneg (by omega),← hr.out];omega
 have hrv:r=(n+1+j) % 64:=by rw[← hr.out,hPl]
 have hPH:=Is.hid hPl;clear hPl hm;have hzv:shaZeros n=(119-n % 64) % 64:=rfl;by_cases hjz:j<shaZeros n
 ·have e2:((r:Int) != 56)=true:=by rw[bne_iff_ne];omega
  clear hrv hzv;conv=>arg 2;whnf
  refine wp_seq ?_;refine wp_seq ?_;refine fl2 (F:=[(0,_),(3,_),(4,_),(5,_),(6,_)]) [.eq 35 _,.eq 36 _,.eq 37 _] 3 hs hd ⟨s0,s3,s4,s5,s6,trivial⟩
   ⟨sP bq,
    sP bq,
    sP bq,
    trivial⟩ ?_
  clear hs hd s0 s3 s4 s5 s6;intro a w hb hs hd zl hh;replace zl:=lH hh 2 zl;clear hh;replace hSS:=hSS.after hb;replace hown:=hown.after hb;clear hb;refine wn 1 ?_;clear hs hd zl;intro a hs hd zl;refine wp_cond_true (vL zl 0) ?_;refine wp_skip ?_;refine wp_block ?_;refine fl2 [.eq 39 _] 1 hs hd zl
   ⟨sP bq,
    trivial⟩ ?_
  clear hs hd zl;intro a w hb hs hd zl hh;replace zl:=lH hh 0 zl;clear hh;replace hSS:=hSS.after hb;replace hown:=hown.after hb;clear hb;show wpList _ _ _ [_,_,_] _ _
  refine tail_op rfl (fun K hK=>?_);go_simp;refine hK _ _ (tP hs hd zl ?_);clear hK K hs hd zl;intro a hs hd zl;have hb1:=bs_one w 5 0;have hal:=bz_alloc (bz_refl w) (.cells #[.int .u8 0] 5);replace hSS:=hSS.after hal;replace hown:=hown.after hal;clear hal;refine tail_op rfl (fun K hK=>?_);have q39:=gL zl 1;have q40:=gL zl 0;have s39:=vL zl 1;have s40:=vL zl 0;refine op_app_u8 (.tmp 39) (.tmp 40) rfl (l2:=[0]) (c2:=1) s39 s40 hown hb1 (by have:=hPH.out;simp only[List.length_cons,List.length_nil];omega) hSS.2.2.2.2.2.2.2.2 ?_;intro l1 A1 c1 w2 hl1 _ hown1 hbel _ _;clear q39 q40;refine hK _ _ (tP hs hd zl ?_);clear hK K hs hd zl s39 s40;intro a hs hd zl;replace hSS:=hSS.step hbel;clear hbel hb1 hown;refine tail_op rfl (fun K hK=>?_);have q41:=gL zl 0;go_simp;clear q41;refine hK _ _ ?_;clear hK K;obtain⟨s41,s40,s39,-,-,s0,s3,s4,s5,s6,-⟩:=zl;refine act_put (d:=6) _ hs hd (by decide) [(0,_),(3,_),(4,_),(5,_),(39,_),(40,_),(41,_)] ⟨s0,s3,s4,s5,s39,s40,s41,trivial⟩ rfl ?_;clear hs hd s0 s3 s4 s5 s6 s39 s40 s41;intro a hs hd zl;have hl1l:l1.length=n+1+j+1:=by rw[hl1.out,List.length_append,hPH.out];rfl
  obtain⟨s6,s0,s3,s4,s5,-,-,-,-⟩:=zl;refine⟨⟨j+1,l1,A1,c1,by omega,?_,hs,hd,⟨s0,s3,s4,s5,s6,trivial⟩,hSS,hown1⟩,?_⟩
  ·unfold Is;rw[hl1.out,hP.out,List.replicate_succ',List.append_assoc,List.cons_append]
  ·rw[s6];show n+1+shaZeros n-l1.length<_
   omega
 ·obtain rfl:j=shaZeros n:=by omega
  have e2:((r:Int) != 56)=false:=by rw[bne_eq_false_iff_eq];omega
  clear hrv hzv;conv=>arg 2;whnf
  refine wp_seq ?_;refine wp_seq ?_;refine fl2 (F:=[(0,_),(3,_),(4,_),(5,_),(6,_)]) [.eq 35 _,.eq 36 _,.eq 37 _] 3 hs hd ⟨s0,s3,s4,s5,s6,trivial⟩
   ⟨sP bq,
    sP bq,
    sP bq,
    trivial⟩ ?_
  clear hs hd s0 s3 s4 s5 s6;intro a w hb hs hd zl hh;replace zl:=lH hh 2 zl;clear hh;replace hSS:=hSS.after hb;replace hown:=hown.after hb;clear hb;refine wn 1 ?_;clear hs hd zl;intro a hs hd zl;refine wp_cond_false (vL zl 0) ?_;refine wp_exit ?_;obtain⟨s38,-,s0,s3,s4,s5,s6,-⟩:=zl;exact hQ a w A c P hP hs hd ⟨s0,s3,s4,s5,s6,trivial⟩ hSS hown
theorem sh64d(v k:Nat):IntKind.u8.wrap ((v:Int) / 2 ^ k)=((v / 2 ^ k % 256:Nat):Int):=by
 have e:(2:Int) ^ k=((2 ^ k:Nat):Int):=by rw[Int.natCast_pow];rfl
 rw[IntKind.wrap_u8',e,Int.natCast_emod,Int.natCast_ediv];rfl
theorem be64_step(x i:Nat)(h:i<8):(be64 x).take (i+1)=(be64 x).take i++[((x / 2 ^ (56-8*i) % 256:Nat):Int)]:=by
 rcases(by omega:i=0∨i=1∨i=2∨i=3∨i=4∨i=5∨i=6∨i=7)with rfl|rfl|rfl|rfl|rfl|rfl|rfl|rfl;all_goals first|rfl|simp[be64]
theorem ss_len{Q:Exit→Act→World→Prop}{B1 H KR n L8:Nat}{v0:Value}{M:List Int}{S:ShaSt}{w0:World}{A:Option Addr}{c:Nat}{P:List Int}(a:Act)(w:World)(hs:SzIs a 300)(hd:DfNil a)
  (s0:a.tmps.getD 0 undef=v0)(s3:a.tmps.getD 3 undef=.pointer (some ⟨H,0,none⟩))(s4:a.tmps.getD 4 undef=.pointer (some ⟨KR,0,none⟩))(s5:a.tmps.getD 5 undef=.int .i64 ((n:Nat):Int))(s6:a.tmps.getD 6 undef=.slice A P.length c)(s42:a.tmps.getD 42 undef=.int .i64 0)
  (hP:Is P M)(hL:Is (8*n) L8)(hMl:M.length≤900000000100)(hlen:n≤900000000000)(hSS:SS w0 w B1 H KR S)(hown:OwnB B1 w A c P)
  (hQ:∀(a:Act) (w:World) (A:Option Addr) (c:Nat) (P:List Int),Is P (M++be64 L8)→SzIs a 300→DfNil a→LiveAll [(0,v0),(3,.pointer (some ⟨H,0,none⟩)),(4,.pointer (some ⟨KR,0,none⟩)),(5,.int .i64 ((n:Nat):Int)),(6,.slice A P.length c)] a→SS w0 w B1 H KR S→OwnB B1 w A c P→Q (.exit 2) a w):
  (Code.loop (ssB 2)).wp Tryz.prog Q a w:=by
 refine wp_loop (fun a w=>∃(i:Nat) (P:List Int) (A:Option Addr) (c:Nat),i≤8∧Is P (M++(be64 L8).take i)∧SzIs a 300∧DfNil a∧LiveAll [(0,v0),(3,.pointer (some ⟨H,0,none⟩)),(4,.pointer (some ⟨KR,0,none⟩)),(5,.int .i64 ((n:Nat):Int)),(6,.slice A P.length c),(42,.int .i64 ((i:Nat):Int))] a∧SS w0 w B1 H KR S∧OwnB B1 w A c P)
  (fun a _=>8-(intOf (a.tmps.getD 42 undef)).toNat) ⟨0,P,A,c,Nat.zero_le _,by rw[List.take_zero,List.append_nil];exact hP,hs,hd,⟨s0,s3,s4,s5,s6,s42,trivial⟩,hSS,hown⟩ ?_
 clear hs hd s0 s3 s4 s5 s6 s42 hSS hown hP a w;rintro a w ⟨i,P,A,c,hi,hP,hs,hd,⟨s0,s3,s4,s5,s6,s42,-⟩,hSS,hown⟩;have hm:(intOf (a.tmps.getD 42 undef)).toNat=i:=by rw[s42];simp[intOf]
 rw[hm];clear hm;have hPl:P.length≤900000000200:=by rw[hP.out,List.length_append,List.length_take];omega
 by_cases hi8:i<8
 ·have e1:decide (i<8)=true:=decide_eq_true hi8;have e2:decide ((i:Int)<8)=true:=decide_eq_true (by omega);obtain⟨KK,hK⟩:∃K,Is (56-8*i) K:=is_self _;have hKv:=hK.out;have hKl:KK≤56:=by omega
  have f1:IntKind.i64.wrap ((n:Int)*8)=(L8:Int):=by rw[IntWalk.i64_in _ (by omega),← hL.out];omega
  have f2:IntKind.i64.wrap (8*(i:Int))=((8*i:Nat):Int):=by rw[IntWalk.i64_in _ (by omega)];omega
  have f2':IntKind.i64.wrap (8*(i:Int))=8*(i:Int):=IntWalk.i64_in _ (by omega);have f3:IntKind.i64.wrap (56-8*(i:Int))=(KK:Int):=by rw[IntWalk.i64_in _ (by omega)];omega
  have f4:IntKind.i64.wrap ((i:Int)+1)=((i+1:Nat):Int):=by rw[IntWalk.i64_in _ (by omega)];omega
  have f5:(0:Int)≤(KK:Int):=by omega
  clear hKv f2;conv=>arg 2;whnf
  refine wp_seq ?_;refine wp_region_list ?_;show wpList _ _ _ [_] _ _
  refine tail_op rfl (fun K hK=>?_);have q42:=gd s42;go_simp;clear q42;refine hK _ _ ?_;clear hK K;refine act_put (d:=43) _ hs hd (by decide) [(0,_),(3,_),(4,_),(5,_),(6,_),(42,_)] ⟨s0,s3,s4,s5,s6,s42,trivial⟩ rfl ?_;clear hs hd s0 s3 s4 s5 s6 s42;intro a hs hd zl;refine wp_seq ?_;refine wp_cond_true (vL zl 0) ?_;refine wp_skip ?_;refine wp_seq ?_;refine wp_block ?_;refine wp_seq ?_;refine fl2 [.eq 44 _] 1 hs hd zl
   ⟨sP bq,
    trivial⟩ ?_
  clear hs hd zl;intro a w hb hs hd zl hh;replace zl:=lH hh 0 zl;clear hh;replace hSS:=hSS.after hb;replace hown:=hown.after hb;clear hb;refine wn 1 ?_;clear hs hd zl;intro a hs hd zl;refine fl2 [.eq 45 _,.eq 46 _,.eq 47 _,.eq 48 _,.eq 49 _,.eq 50 _,.eq 51 _,.eq 52 _] 8 hs hd zl
   ⟨sP bq,
    sP bq,
    sP bq,
    sP bq,
    sP bq,
    sP bq,
    sP bq,
    sP bq,
    trivial⟩ ?_
  clear hs hd zl;intro a w hb hs hd zl hh;replace zl:=lH hh 0 zl;replace zl:=lH hh 7 zl;clear hh;replace hSS:=hSS.after hb;replace hown:=hown.after hb;clear hb;show wpList _ _ _ [_,_,_] _ _
  refine tail_op rfl (fun K hK=>?_);have q52:=gL zl 0;obtain⟨s52,s45,-,-,-,s0,s3,s4,s5,s6,s42,-⟩:=zl;replace s52:=s52.trans (congrArg (Value.int IntKind.u8) (sh64d L8 KK));obtain⟨y,hy⟩:∃y:Int,((L8 / 2 ^ KK % 256:Nat):Int)=y:=⟨_,rfl⟩;rw[hy]at s52;replace q52:=gd s52;go_simp;clear q52;refine hK _ _ ?_;clear hK K;refine act_put (d:=53) _ hs hd (by decide) [(0,_),(3,_),(4,_),(5,_),(6,_),(42,_),(45,_),(52,_)] ⟨s0,s3,s4,s5,s6,s42,s45,s52,trivial⟩ rfl ?_;clear hs hd s0 s3 s4 s5 s6 s42 s45 s52;intro a hs hd zl;have hb1:=bs_one w 5 y;have hal:=bz_alloc (bz_refl w) (.cells #[.int .u8 y] 5);replace hSS:=hSS.after hal;replace hown:=hown.after hal;clear hal;refine tail_op rfl (fun K hK=>?_);have q45:=gL zl 7;have q53:=gL zl 0;have s45:=vL zl 7;have s53:=vL zl 0;refine op_app_u8 (.tmp 45) (.tmp 53) rfl (l2:=[y]) (c2:=1) s45 s53 hown hb1 (by simp only[List.length_cons,List.length_nil];omega) hSS.2.2.2.2.2.2.2.2 ?_;intro l1 A1 c1 w2 hl1 _ hown1 hbel _ _;clear q45 q53;refine hK _ _ (tP hs hd zl ?_);clear hK K hs hd zl s45 s53;intro a hs hd zl;replace hSS:=hSS.step hbel;clear hbel hb1 hown;refine tail_op rfl (fun K hK=>?_);have q54:=gL zl 0;go_simp;clear q54;refine hK _ _ ?_;clear hK K;obtain⟨s54,s53,s0,s3,s4,s5,s6,s42,s45,s52,-⟩:=zl;refine act_put (d:=6) _ hs hd (by decide) [(0,_),(3,_),(4,_),(5,_),(42,_),(45,_),(52,_),(53,_),(54,_)] ⟨s0,s3,s4,s5,s42,s45,s52,s53,s54,trivial⟩ rfl ?_;clear hs hd s0 s3 s4 s5 s6 s42 s45 s52 s53 s54;intro a hs hd zl;refine fl2 [.eq 55 _] 1 hs hd zl
   ⟨sP bq,
    trivial⟩ ?_
  clear hs hd zl;intro a w hb hs hd zl hh;replace zl:=lH hh 0 zl;clear hh;replace hSS:=hSS.after hb;replace hown1:=hown1.after hb;clear hb;show wpList _ _ _ [_] _ _
  refine tail_op rfl (fun K hK=>?_);have q55:=gL zl 0;go_simp;clear q55;refine hK _ _ ?_;clear hK K;obtain⟨s55,s6,s0,s3,s4,s5,s42,-,-,-,-,-⟩:=zl;refine act_put (d:=42) _ hs hd (by decide) [(0,_),(3,_),(4,_),(5,_),(6,_),(55,_)] ⟨s0,s3,s4,s5,s6,s55,trivial⟩ rfl ?_;clear hs hd s0 s3 s4 s5 s6 s42 s55;intro a hs hd zl;obtain⟨s42,s0,s3,s4,s5,s6,-,-⟩:=zl;refine⟨⟨i+1,l1,A1,c1,by omega,?_,hs,hd,⟨s0,s3,s4,s5,s6,s42,trivial⟩,hSS,hown1⟩,?_⟩
  ·unfold Is;rw[hl1.out,hP.out,be64_step _ _ hi8,hK.out,hy,List.append_assoc]
  ·rw[s42];simp[intOf];omega
 ·obtain rfl:i=8:=by omega
  have e1:decide ((8:Nat)<8)=false:=by decide
  conv=>arg 2;whnf
  refine wp_seq ?_;refine wp_region_list ?_;show wpList _ _ _ [_] _ _
  refine tail_op rfl (fun K hK=>?_);have q42:=gd s42;go_simp;clear q42;refine hK _ _ ?_;clear hK K;refine act_put (d:=43) _ hs hd (by decide) [(0,_),(3,_),(4,_),(5,_),(6,_),(42,_)] ⟨s0,s3,s4,s5,s6,s42,trivial⟩ rfl ?_;clear hs hd s0 s3 s4 s5 s6 s42;intro a hs hd zl;refine wp_seq ?_;refine wp_cond_false (vL zl 0) ?_;refine wp_exit ?_;obtain⟨s43,s0,s3,s4,s5,s6,s42,-⟩:=zl;exact hQ a w A c P hP hs hd ⟨s0,s3,s4,s5,s6,trivial⟩ hSS hown
theorem gb_lo{w w1:World}{B1 T:Nat}(h:GB w w1 T)(hT:B1≤T)(hB:B1≤w.heap.size):Below B1 w w1:=
 ⟨h.os,h.tape,h.output,h.size,fun k hk=>h.block k (Nat.lt_of_lt_of_le hk hB) (fun e=>by injection e;omega)⟩
theorem SS.gb{w0 w w':World}{B1 H KR T:Nat}{S:ShaSt}(h:SS w0 w B1 H KR S)(hb:GB w w' T)(hT:B1≤T):SS w0 w' B1 H KR S:=h.step (gb_lo hb hT h.2.2.2.2.2.2.2.2)
def SchZ(w:World)(B:Nat)(P:List Int)(p i:Nat)(x:Int):Prop:=
 ∃ws:Array Value,Blk w B 99 ws∧ws.size=64∧(∀j,j<i→ws[j]?=some (.int .u32 (wd P p j)))∧(i<64→ws[i]?=some (.int .u32 x))∧∀j,i<j→j<64→ws[j]?=some (.int .u32 0)
theorem SchZ.after{w w':World}{B:Nat}{P:List Int}{p i:Nat}{x:Int}(h:SchZ w B P p i x)(hb:Below w.heap.size w w'):SchZ w' B P p i x:=by
 obtain⟨ws,h1,h2⟩:=h;exact⟨ws,h1.after hb,h2⟩
theorem SchZ.get{w:World}{B:Nat}{P:List Int}{p i:Nat}{x:Int}(h:SchZ w B P p i x)(hi:i<64):w.cell? ⟨B,i,none⟩=some (.int .u32 x)∧w.frozen? ⟨B,i,none⟩=false:=by
 obtain⟨ws,h1,h2,h3,h4,h5⟩:=h;exact⟨(h1.cell i).trans (h4 hi),h1.free i⟩
theorem SchZ.word{w:World}{B:Nat}{P:List Int}{p i j:Nat}{x:Int}(h:SchZ w B P p i x)(hj:j<i):w.cell? ⟨B,j,none⟩=some (.int .u32 (wd P p j)):=by
 obtain⟨ws,h1,h2,h3,h4,h5⟩:=h;exact(h1.cell j).trans (h3 j hj)
theorem SchZ.set_{w:World}{B:Nat}{P:List Int}{p i:Nat}{x:Int}(h:SchZ w B P p i x)(hi:i<64)(y:Int):SchZ (w.setCell ⟨B,i,none⟩ (.int .u32 y)) B P p i y:=by
 obtain⟨ws,h1,h2,h3,h4,h5⟩:=h;refine⟨_,h1.set_ i _,by rw[Array.size_setIfInBounds,h2],fun j hj=>?_,fun _=>?_,fun j hj hj2=>?_⟩
 ·rw[Array.getElem?_setIfInBounds_ne (by omega)];exact h3 j hj
 ·rw[Array.getElem?_setIfInBounds_self_of_lt (by omega)]
 ·rw[Array.getElem?_setIfInBounds_ne (by omega)];exact h5 j hj hj2
theorem SchZ.next{w:World}{B:Nat}{P:List Int}{p i:Nat}{x:Int}(h:SchZ w B P p i x)(hx:x=wd P p i)(hi:i<64):SchZ w B P p (i+1) 0:=by
 obtain⟨ws,h1,h2,h3,h4,h5⟩:=h;refine⟨ws,h1,h2,fun j hj=>?_,fun h=>h5 _ (by omega) h,fun j hj=>h5 j (by omega)⟩;rcases Nat.lt_or_ge j i with h|h
 ·exact h3 j h
 ·obtain rfl:j=i:=by omega
  rw[← hx];exact h4 hi
def acc(P:List Int)(q:Nat):Nat→Int
 |0=>0
 |j+1=>acc P q j*256+P.getD (q+j) 0
theorem acc_lt{P:List Int}(h:Bytes P)(q j:Nat):0≤acc P q j∧acc P q j<256 ^ j:=by
 induction j with
 |zero=>exact⟨Int.le_refl 0,show(0:Int)<1 by decide⟩
 |succ j ih=>
  have:=h.get (q+j);unfold U8 at this;rw[acc,Int.pow_succ];omega
theorem acc_be4(P:List Int)(q:Nat):acc P q 4=be4 P q:=by simp[acc,be4]
theorem or_acc(x y:Int)(h0:0≤x)(h1:x<16777216)(hy:U8 y):bits .or .u32 (x*256) y=x*256+y:=by
 unfold U8 at hy;obtain⟨m,rfl⟩:=Int.eq_ofNat_of_zero_le h0;obtain⟨k,rfl⟩:=Int.eq_ofNat_of_zero_le hy.1;rw[show((m:Int)*256)=((m*256:Nat):Int)by omega,u32_or_nat _ _ (by omega) (by omega),or_mul' k m 8 256 (by decide) (by omega)];omega
theorem or_accw(x y:Int)(h0:0≤x)(h1:x<16777216)(hy:U8 y):bits .or .u32 (IntKind.u32.wrap (x*256)) y=x*256+y:=by
 rw[IntKind.wrap_u32,Int.emod_eq_of_lt (by omega) (by omega)];exact or_acc x y h0 h1 hy
theorem ss_word{Q:Exit→Act→World→Prop}{B1 H KR n N b o c p WB i:Nat}{v0 v8:Value}{S:ShaSt}{w0:World}{P:List Int}(a:Act)(w:World)(hs:SzIs a 300)(hd:DfNil a)
  (s0:a.tmps.getD 0 undef=v0)(s3:a.tmps.getD 3 undef=.pointer (some ⟨H,0,none⟩))(s4:a.tmps.getD 4 undef=.pointer (some ⟨KR,0,none⟩))(s5:a.tmps.getD 5 undef=.int .i64 ((n:Nat):Int))(s6:a.tmps.getD 6 undef=.slice (some ⟨b,o,none⟩) N c)(s8:a.tmps.getD 8 undef=v8)(s9:a.tmps.getD 9 undef=.int .i64 ((p:Nat):Int))(s10:a.tmps.getD 10 undef=.pointer (some ⟨WB,0,none⟩))(s62:a.tmps.getD 62 undef=.int .i64 ((i:Nat):Int))(s11:a.tmps.getD 11 undef=.int .i64 ((i:Nat):Int))(s65:a.tmps.getD 65 undef=.int .i64 0)
  (hi:i<16)(hN:p+64≤N)(hN2:N≤1000000000000)(hP8:Bytes P)(hWB:B1≤WB)(hbW:b≠WB)(hSS:SS w0 w B1 H KR S)(hW:SchZ w WB P p i 0)(hM:BytesAt w b o P 0 N)
  (hQ:∀(a:Act) (w:World),SzIs a 300→DfNil a→LiveAll [(0,v0),(3,.pointer (some ⟨H,0,none⟩)),(4,.pointer (some ⟨KR,0,none⟩)),(5,.int .i64 ((n:Nat):Int)),(6,.slice (some ⟨b,o,none⟩) N c),(8,v8),(9,.int .i64 ((p:Nat):Int)),(10,.pointer (some ⟨WB,0,none⟩)),(62,.int .i64 ((i:Nat):Int)),(11,.int .i64 ((i:Nat):Int))] a→SS w0 w B1 H KR S→SchZ w WB P p i (be4 P (p+4*i))→BytesAt w b o P 0 N→Q (.exit 8) a w):
  (Code.loop (ssB 8)).wp Tryz.prog Q a w:=by
 refine wp_loop (fun a w=>∃j:Nat,j≤4∧SzIs a 300∧DfNil a∧LiveAll [(0,v0),(3,.pointer (some ⟨H,0,none⟩)),(4,.pointer (some ⟨KR,0,none⟩)),(5,.int .i64 ((n:Nat):Int)),(6,.slice (some ⟨b,o,none⟩) N c),(8,v8),(9,.int .i64 ((p:Nat):Int)),(10,.pointer (some ⟨WB,0,none⟩)),(62,.int .i64 ((i:Nat):Int)),(11,.int .i64 ((i:Nat):Int)),(65,.int .i64 ((j:Nat):Int))] a∧SS w0 w B1 H KR S∧SchZ w WB P p i (acc P (p+4*i) j)∧BytesAt w b o P 0 N)
  (fun a _=>4-(intOf (a.tmps.getD 65 undef)).toNat) ⟨0,Nat.zero_le _,hs,hd,⟨s0,s3,s4,s5,s6,s8,s9,s10,s62,s11,s65,trivial⟩,hSS,hW,hM⟩ ?_
 clear hs hd s0 s3 s4 s5 s6 s8 s9 s10 s62 s11 s65 hSS hW hM a w;rintro a w ⟨j,hj,hs,hd,⟨s0,s3,s4,s5,s6,s8,s9,s10,s62,s11,s65,-⟩,hSS,hW,hM⟩;have hm:(intOf (a.tmps.getD 65 undef)).toNat=j:=by rw[s65];simp[intOf]
 rw[hm];clear hm;by_cases hj4:j<4
 ·have e1:decide (j<4)=true:=decide_eq_true hj4;have e2:decide ((j:Int)<4)=true:=decide_eq_true (by omega);obtain⟨x,hx⟩:∃x,Is (acc P (p+4*i) j) x:=is_self _;have hxl:=acc_lt hP8 (p+4*i) j;have hx24:x<16777216:=by
   rw[← hx.out];rcases(by omega:j=0∨j=1∨j=2∨j=3)with rfl|rfl|rfl|rfl <;> omega
  have hx0:=hxl.1;rw[hx.out]at hW hx0;clear hxl;obtain⟨i4,h4⟩:∃q,Is (4*i) q:=is_self _;have h4v:=h4.out;obtain⟨pi,hpi⟩:∃q,Is (p+i4) q:=is_self _;have hpv:=hpi.out;obtain⟨q,hq⟩:∃q,Is (pi+j) q:=is_self _;have hqv:=hq.out;have f1:IntKind.i64.wrap (4*(i:Int))=(i4:Int):=by rw[IntWalk.i64_in _ (by omega)];omega
  have f2:IntKind.i64.wrap ((p:Int)+(i4:Int))=(pi:Int):=by rw[IntWalk.i64_in _ (by omega)];omega
  have f3:IntKind.i64.wrap ((pi:Int)+(j:Int))=(q:Int):=by rw[IntWalk.i64_in _ (by omega)];omega
  have f4:IntKind.i64.wrap ((j:Int)+1)=((j+1:Nat):Int):=by rw[IntWalk.i64_in _ (by omega)];omega
  have f5:(i:Int)<64:=by omega
  have f6:(q:Int)<(N:Int):=by omega
  have f7:i<64:=by omega
  have f8:q<N:=by omega
  obtain⟨y,hy⟩:∃y,Is (P.getD q 0) y:=is_self _;have hy8:U8 y:=by rw[← hy.out];exact hP8.get q
  have hqe:p+4*i+j=q:=by omega
  have HQ:=Is.hid hqe;have ho1:=or_acc x y hx0 hx24 hy8;have ho2:=or_accw x y hx0 hx24 hy8;have ho3:bits .or .u32 (IntKind.u32.wrap (x*256)) (IntKind.u32.wrap y)=x*256+y:=by rw[show IntKind.u32.wrap y=y by rw[IntKind.wrap_u32];unfold U8 at hy8;omega];exact ho2
  clear h4v hpv hqv hqe;conv=>arg 2;whnf
  refine wp_seq ?_;refine wp_region_list ?_;show wpList _ _ _ [_] _ _
  refine tail_op rfl (fun K hK=>?_);have q65:=gd s65;go_simp;clear q65;refine hK _ _ ?_;clear hK K;refine act_put (d:=66) _ hs hd (by decide) [(0,_),(3,_),(4,_),(5,_),(6,_),(8,_),(9,_),(10,_),(11,_),(62,_),(65,_)] ⟨s0,s3,s4,s5,s6,s8,s9,s10,s11,s62,s65,trivial⟩ rfl ?_;clear hs hd s0 s3 s4 s5 s6 s8 s9 s10 s11 s62 s65;intro a hs hd zl;refine wp_seq ?_;refine wp_cond_true (vL zl 0) ?_;refine wp_skip ?_;refine wp_seq ?_;refine wp_block ?_;refine wp_seq ?_;refine fl2 [.eq 67 _] 1 hs hd zl
   ⟨sP bq,
    trivial⟩ ?_
  clear hs hd zl;intro a w hb hs hd zl hh;replace zl:=lH hh 0 zl;clear hh;replace hSS:=hSS.after hb;replace hW:=hW.after hb;replace hM:=hM.after hb;clear hb;refine wn 1 ?_;clear hs hd zl;intro a hs hd zl;have c1:=(hW.get f7).1;have cb:w.cell? ⟨b,o+q,none⟩=some (.int .u8 y):=by rw[hM q f8,Nat.zero_add,hy.out]
  refine fl2 [.eq 68 _,.eq 69 _,.eq 70 _,.eq 71 _,.eq 72 _,.eq 73 _,.eq 74 _,.eq 75 _,.eq 76 _,.eq 77 _,.eq 78 _,.eq 79 _,.eq 80 _,.eq 81 _,.eq 82 _,.eq 83 _,.eq 84 _] 17 hs hd zl
   ⟨sP bq,
    sP bq,
    sP bq,
    sP bq,
    sP bq,
    sP bq,
    sP bq,
    sP bq,
    sP bq,
    sP bq,
    sP bq,
    sP bq,
    sP bq,
    (stp rfl fun a u hb hs hl hd K hK=>by have s80:=gD hd 12;have c1:=cell_up hb c1;have cb:=cell_up hb cb;clear hd;go_simp;exact kE hK hs),
    (stp rfl fun a u hb hs hl hd K hK=>by have s81:=gD hd 13;clear hd;go_simp;exact kE hK hs),
    (stp rfl fun a u hb hs hl hd K hK=>by have s72:=gD hd 4;have s82:=gD hd 14;clear hd;go_simp;exact kE hK hs),
    (stp rfl fun a u hb hs hl hd K hK=>by have s10:=gL hl 10;have s68:=gD hd 0;clear hd;go_simp;exact kE hK hs),
    trivial⟩ ?_
  clear hs hd zl;intro a w hb hs hd zl hh;replace zl:=lH hh 15 zl;replace zl:=lH hh 16 zl;clear hh;replace hSS:=hSS.after hb;replace hW:=hW.after hb;replace hM:=hM.after hb;replace c1:=cell_up hb c1;replace cb:=cell_up hb cb;clear hb;show wpList _ _ _ [_] _ _
  refine tail_op rfl (fun K hK=>?_);have q83:=gL zl 1;have q84:=gL zl 0;obtain⟨s84,s83,-,-,-,s0,s3,s4,s5,s6,s8,s9,s10,s11,s62,s65,-⟩:=zl;have s83':=s83.trans (congrArg (Value.int IntKind.u32) (by first|exact ho1|exact ho2|rfl|exact ho3:_=x*256+y));obtain⟨z,hz⟩:∃z,Is (x*256+y) z:=is_self _;rw[hz.out]at s83';clear q83;have q83:=gd s83';have hfr:=(hW.get f7).2;clear ho1 ho2 ho3 s83;go_simp;clear hfr s83';clear q83 q84;refine hK _ _ ?_;clear hK K;change wpList _ _ _ _ a _;replace hSS:=hSS.gb (gb1 w WB i (.int .u32 z)) hWB;replace hM:=hM.gb (gb1 w WB i (.int .u32 z)) hbW;replace hW:=hW.set_ f7 z;revert hSS hM hW;generalize World.setCell _ _ _=w;intro hSS hM hW;clear s84;clear c1 cb;refine fl2 (F:=[(0,_),(3,_),(4,_),(5,_),(6,_),(8,_),(9,_),(10,_),(11,_),(62,_),(65,_)]) [.eq 85 _] 1 hs hd ⟨s0,s3,s4,s5,s6,s8,s9,s10,s11,s62,s65,trivial⟩
   ⟨sP bq,
    trivial⟩ ?_
  clear hs hd s0 s3 s4 s5 s6 s8 s9 s10 s11 s62 s65;intro a w hb hs hd zl hh;replace zl:=lH hh 0 zl;clear hh;replace hSS:=hSS.after hb;replace hW:=hW.after hb;replace hM:=hM.after hb;clear hb;show wpList _ _ _ [_] _ _
  refine tail_op rfl (fun K hK=>?_);have q85:=gL zl 0;go_simp;clear q85;refine hK _ _ ?_;clear hK K;obtain⟨s85,s0,s3,s4,s5,s6,s8,s9,s10,s11,s62,s65,-⟩:=zl;refine act_put (d:=65) _ hs hd (by decide) [(0,_),(3,_),(4,_),(5,_),(6,_),(8,_),(9,_),(10,_),(11,_),(62,_),(85,_)] ⟨s0,s3,s4,s5,s6,s8,s9,s10,s11,s62,s85,trivial⟩ rfl ?_;clear hs hd s0 s3 s4 s5 s6 s8 s9 s10 s11 s62 s65 s85;intro a hs hd zl;obtain⟨s65,s0,s3,s4,s5,s6,s8,s9,s10,s11,s62,-,-⟩:=zl;refine⟨⟨j+1,by omega,hs,hd,⟨s0,s3,s4,s5,s6,s8,s9,s10,s62,s11,s65,trivial⟩,hSS,?_,hM⟩,?_⟩
  ·rw[acc,hx.out,HQ.out,hy.out,hz.out];exact hW
  ·rw[s65];simp[intOf];omega
 ·obtain rfl:j=4:=by omega
  have e1:decide ((4:Nat)<4)=false:=by decide
  rw[acc_be4]at hW;conv=>arg 2;whnf
  refine wp_seq ?_;refine wp_region_list ?_;show wpList _ _ _ [_] _ _
  refine tail_op rfl (fun K hK=>?_);have q65:=gd s65;go_simp;clear q65;refine hK _ _ ?_;clear hK K;refine act_put (d:=66) _ hs hd (by decide) [(0,_),(3,_),(4,_),(5,_),(6,_),(8,_),(9,_),(10,_),(11,_),(62,_),(65,_)] ⟨s0,s3,s4,s5,s6,s8,s9,s10,s11,s62,s65,trivial⟩ rfl ?_;clear hs hd s0 s3 s4 s5 s6 s8 s9 s10 s11 s62 s65;intro a hs hd zl;refine wp_seq ?_;refine wp_cond_false (vL zl 0) ?_;refine wp_exit ?_;obtain⟨s66,s0,s3,s4,s5,s6,s8,s9,s10,s11,s62,s65,-⟩:=zl;exact hQ a w hs hd ⟨s0,s3,s4,s5,s6,s8,s9,s10,s62,s11,trivial⟩ hSS hW hM
theorem ss_first{Q:Exit→Act→World→Prop}{B1 H KR n N b o c p WB:Nat}{v0 v8:Value}{S:ShaSt}{w0:World}{P:List Int}(a:Act)(w:World)(hs:SzIs a 300)(hd:DfNil a)
  (s0:a.tmps.getD 0 undef=v0)(s3:a.tmps.getD 3 undef=.pointer (some ⟨H,0,none⟩))(s4:a.tmps.getD 4 undef=.pointer (some ⟨KR,0,none⟩))(s5:a.tmps.getD 5 undef=.int .i64 ((n:Nat):Int))(s6:a.tmps.getD 6 undef=.slice (some ⟨b,o,none⟩) N c)(s8:a.tmps.getD 8 undef=v8)(s9:a.tmps.getD 9 undef=.int .i64 ((p:Nat):Int))(s10:a.tmps.getD 10 undef=.pointer (some ⟨WB,0,none⟩))(s62:a.tmps.getD 62 undef=.int .i64 0)
  (hN:p+64≤N)(hN2:N≤1000000000000)(hP8:Bytes P)(hWB:B1≤WB)(hbW:b≠WB)(hSS:SS w0 w B1 H KR S)(hW:SchZ w WB P p 0 0)(hM:BytesAt w b o P 0 N)
  (hQ:∀(a:Act) (w:World),SzIs a 300→DfNil a→LiveAll [(0,v0),(3,.pointer (some ⟨H,0,none⟩)),(4,.pointer (some ⟨KR,0,none⟩)),(5,.int .i64 ((n:Nat):Int)),(6,.slice (some ⟨b,o,none⟩) N c),(8,v8),(9,.int .i64 ((p:Nat):Int)),(10,.pointer (some ⟨WB,0,none⟩))] a→SS w0 w B1 H KR S→SchZ w WB P p 16 0→BytesAt w b o P 0 N→Q (.exit 6) a w):
  (Code.loop (ssB 6)).wp Tryz.prog Q a w:=by
 refine wp_loop (fun a w=>∃i:Nat,i≤16∧SzIs a 300∧DfNil a∧LiveAll [(0,v0),(3,.pointer (some ⟨H,0,none⟩)),(4,.pointer (some ⟨KR,0,none⟩)),(5,.int .i64 ((n:Nat):Int)),(6,.slice (some ⟨b,o,none⟩) N c),(8,v8),(9,.int .i64 ((p:Nat):Int)),(10,.pointer (some ⟨WB,0,none⟩)),(62,.int .i64 ((i:Nat):Int))] a∧SS w0 w B1 H KR S∧SchZ w WB P p i 0∧BytesAt w b o P 0 N)
  (fun a _=>16-(intOf (a.tmps.getD 62 undef)).toNat) ⟨0,Nat.zero_le _,hs,hd,⟨s0,s3,s4,s5,s6,s8,s9,s10,s62,trivial⟩,hSS,hW,hM⟩ ?_
 clear hs hd s0 s3 s4 s5 s6 s8 s9 s10 s62 hSS hW hM a w;rintro a w ⟨i,hi,hs,hd,⟨s0,s3,s4,s5,s6,s8,s9,s10,s62,-⟩,hSS,hW,hM⟩;have hm:(intOf (a.tmps.getD 62 undef)).toNat=i:=by rw[s62];simp[intOf]
 rw[hm];clear hm;by_cases hi16:i<16
 ·have e1:decide (i<16)=true:=decide_eq_true hi16;have e2:decide ((i:Int)<16)=true:=decide_eq_true (by omega);have f4:IntKind.i64.wrap ((i:Int)+1)=((i+1:Nat):Int):=by rw[IntWalk.i64_in _ (by omega)];omega
  conv=>arg 2;whnf
  refine wp_seq ?_;refine wp_region_list ?_;show wpList _ _ _ [_] _ _
  refine tail_op rfl (fun K hK=>?_);have q62:=gd s62;go_simp;clear q62;refine hK _ _ ?_;clear hK K;refine act_put (d:=63) _ hs hd (by decide) [(0,_),(3,_),(4,_),(5,_),(6,_),(8,_),(9,_),(10,_),(62,_)] ⟨s0,s3,s4,s5,s6,s8,s9,s10,s62,trivial⟩ rfl ?_;clear hs hd s0 s3 s4 s5 s6 s8 s9 s10 s62;intro a hs hd zl;refine wp_seq ?_;refine wp_cond_true (vL zl 0) ?_;refine wp_skip ?_;refine wp_seq ?_;refine wp_block ?_;refine wp_seq ?_;refine fl2 [.eq 64 _] 1 hs hd zl
   ⟨sP bq,
    trivial⟩ ?_
  clear hs hd zl;intro a w hb hs hd zl hh;replace zl:=lH hh 0 zl;clear hh;replace hSS:=hSS.after hb;replace hW:=hW.after hb;replace hM:=hM.after hb;clear hb;refine wn 2 ?_;clear hs hd zl;intro a hs hd zl;refine wp_block ?_;obtain⟨s65,s11,-,-,s0,s3,s4,s5,s6,s8,s9,s10,s62,-⟩:=zl;refine ss_word a w hs hd s0 s3 s4 s5 s6 s8 s9 s10 s62 s11 s65 hi16 hN hN2 hP8 hWB hbW hSS hW hM ?_;clear hs hd s0 s3 s4 s5 s6 s8 s9 s10 s62 s11 s65 hSS hW hM;rintro a w hs hd ⟨s0,s3,s4,s5,s6,s8,s9,s10,s62,s11,-⟩ hSS hW hM;refine inBlock_exit ?_;replace hW:=hW.next (wd_lo P p i hi16).symm (by omega);refine fl2 (F:=[(0,_),(3,_),(4,_),(5,_),(6,_),(8,_),(9,_),(10,_),(11,_),(62,_)]) [.eq 86 _] 1 hs hd ⟨s0,s3,s4,s5,s6,s8,s9,s10,s11,s62,trivial⟩
   ⟨sP bq,
    trivial⟩ ?_
  clear hs hd s0 s3 s4 s5 s6 s8 s9 s10 s11 s62;intro a w hb hs hd zl hh;replace zl:=lH hh 0 zl;clear hh;replace hSS:=hSS.after hb;replace hW:=hW.after hb;replace hM:=hM.after hb;clear hb;show wpList _ _ _ [_] _ _
  refine tail_op rfl (fun K hK=>?_);have q86:=gL zl 0;go_simp;clear q86;refine hK _ _ ?_;clear hK K;obtain⟨s86,s0,s3,s4,s5,s6,s8,s9,s10,-,s62,-⟩:=zl;refine act_put (d:=62) _ hs hd (by decide) [(0,_),(3,_),(4,_),(5,_),(6,_),(8,_),(9,_),(10,_),(86,_)] ⟨s0,s3,s4,s5,s6,s8,s9,s10,s86,trivial⟩ rfl ?_;clear hs hd s0 s3 s4 s5 s6 s8 s9 s10 s62 s86;intro a hs hd zl;obtain⟨s62,s0,s3,s4,s5,s6,s8,s9,s10,-,-⟩:=zl;refine⟨⟨i+1,by omega,hs,hd,⟨s0,s3,s4,s5,s6,s8,s9,s10,s62,trivial⟩,hSS,hW,hM⟩,?_⟩;rw[s62];simp[intOf];omega
 ·obtain rfl:i=16:=by omega
  have e1:decide ((16:Nat)<16)=false:=by decide
  conv=>arg 2;whnf
  refine wp_seq ?_;refine wp_region_list ?_;show wpList _ _ _ [_] _ _
  refine tail_op rfl (fun K hK=>?_);have q62:=gd s62;go_simp;clear q62;refine hK _ _ ?_;clear hK K;refine act_put (d:=63) _ hs hd (by decide) [(0,_),(3,_),(4,_),(5,_),(6,_),(8,_),(9,_),(10,_),(62,_)] ⟨s0,s3,s4,s5,s6,s8,s9,s10,s62,trivial⟩ rfl ?_;clear hs hd s0 s3 s4 s5 s6 s8 s9 s10 s62;intro a hs hd zl;refine wp_seq ?_;refine wp_cond_false (vL zl 0) ?_;refine wp_exit ?_;obtain⟨s63,s0,s3,s4,s5,s6,s8,s9,s10,s62,-⟩:=zl;exact hQ a w hs hd ⟨s0,s3,s4,s5,s6,s8,s9,s10,trivial⟩ hSS hW hM
theorem ss_more{Q:Exit→Act→World→Prop}{B1 H KR n p WB b o N:Nat}{v0 v6 v9:Value}{S:ShaSt}{w0:World}{P:List Int}(a:Act)(w:World)(hs:SzIs a 300)(hd:DfNil a)
  (s0:a.tmps.getD 0 undef=v0)(s3:a.tmps.getD 3 undef=.pointer (some ⟨H,0,none⟩))(s4:a.tmps.getD 4 undef=.pointer (some ⟨KR,0,none⟩))(s5:a.tmps.getD 5 undef=.int .i64 ((n:Nat):Int))(s6:a.tmps.getD 6 undef=v6)(s8:a.tmps.getD 8 undef=(Value.func (Fn.func 43) #[] #[]))(s9:a.tmps.getD 9 undef=v9)(s10:a.tmps.getD 10 undef=.pointer (some ⟨WB,0,none⟩))(s13:a.tmps.getD 13 undef=.int .i64 16)
  (hWB:B1≤WB)(hbW:b≠WB)(hSS:SS w0 w B1 H KR S)(hW:SchZ w WB P p 16 0)(hM:BytesAt w b o P 0 N)
  (hQ:∀(a:Act) (w:World),SzIs a 300→DfNil a→LiveAll [(0,v0),(3,.pointer (some ⟨H,0,none⟩)),(4,.pointer (some ⟨KR,0,none⟩)),(5,.int .i64 ((n:Nat):Int)),(6,v6),(8,(Value.func (Fn.func 43) #[] #[])),(9,v9),(10,.pointer (some ⟨WB,0,none⟩))] a→SS w0 w B1 H KR S→SchZ w WB P p 64 0→BytesAt w b o P 0 N→Q (.exit 10) a w):
  (Code.loop (ssB 10)).wp Tryz.prog Q a w:=by
 refine wp_loop (fun a w=>∃t:Nat,16≤t∧t≤64∧SzIs a 300∧DfNil a∧LiveAll [(0,v0),(3,.pointer (some ⟨H,0,none⟩)),(4,.pointer (some ⟨KR,0,none⟩)),(5,.int .i64 ((n:Nat):Int)),(6,v6),(8,(Value.func (Fn.func 43) #[] #[])),(9,v9),(10,.pointer (some ⟨WB,0,none⟩)),(13,.int .i64 ((t:Nat):Int))] a∧SS w0 w B1 H KR S∧SchZ w WB P p t 0∧BytesAt w b o P 0 N)
  (fun a _=>64-(intOf (a.tmps.getD 13 undef)).toNat) ⟨16,Nat.le_refl _,by decide,hs,hd,⟨s0,s3,s4,s5,s6,s8,s9,s10,s13,trivial⟩,hSS,hW,hM⟩ ?_
 clear hs hd s0 s3 s4 s5 s6 s8 s9 s10 s13 hSS hW hM a w;rintro a w ⟨t,ht16,ht,hs,hd,⟨s0,s3,s4,s5,s6,s8,s9,s10,s13,-⟩,hSS,hW,hM⟩;have hm:(intOf (a.tmps.getD 13 undef)).toNat=t:=by rw[s13];simp[intOf]
 rw[hm];clear hm;by_cases h64:t<64
 ·have e1:decide (t<64)=true:=decide_eq_true h64;have e2:decide ((t:Int)<64)=true:=decide_eq_true (by omega);have f4:IntKind.i64.wrap ((t:Int)+1)=((t+1:Nat):Int):=by rw[IntWalk.i64_in _ (by omega)];omega
  have f5:(t:Int)<64:=by omega
  conv=>arg 2;whnf
  refine wp_seq ?_;refine wp_seq ?_;refine fl2 (F:=[(0,_),(3,_),(4,_),(5,_),(6,_),(8,_),(9,_),(10,_),(13,_)]) [.eq 87 _] 1 hs hd ⟨s0,s3,s4,s5,s6,s8,s9,s10,s13,trivial⟩
   ⟨sP bq,
    trivial⟩ ?_
  clear hs hd s0 s3 s4 s5 s6 s8 s9 s10 s13;intro a w hb hs hd zl hh;replace zl:=lH hh 0 zl;clear hh;replace hSS:=hSS.after hb;replace hW:=hW.after hb;replace hM:=hM.after hb;clear hb;refine wn 1 ?_;clear hs hd zl;intro a hs hd zl;refine wp_cond_true (vL zl 0) ?_;refine wp_skip ?_;refine wp_seq ?_;refine wp_block ?_;refine wp_seq ?_;obtain⟨t15,h15⟩:∃q,Is (t-15) q:=is_self _;have h15v:=h15.out;have g15:IntKind.i64.wrap ((t:Int)-15)=(t15:Int):=by rw[IntWalk.i64_in _ (by omega)];omega
  have b15:(t15:Int)<64:=by omega
  have l15:t15<t:=by omega
  have l15':t15<64:=by omega
  obtain⟨x15,y15⟩:∃x,Is (wd P p t15) x:=is_self _;have c15:=hW.word l15;rw[y15.out]at c15;clear h15v;refine fl2 [.eq 91 _,.eq 92 _,.eq 93 _,.eq 94 _,.eq 95 _,.eq 96 _,.eq 97 _,.eq 98 _,.eq 99 _,.eq 100 _,.eq 101 _,.eq 102 _,.eq 103 _,.eq 104 _,.eq 105 _,.eq 106 _,.eq 107 _,.eq 108 _,.eq 109 _] 19 hs hd zl
   ⟨sP bq,
    sP bq,
    sP bq,
    sP bq,
    sP bq,
    (stp rfl fun a u hb hs hl hd K hK=>by
     have s91:=gD hd 0;have s95:=gD hd 4;have c15:=cell_up hb c15;clear hd;go_simp;refine(c_rr7 _ _).mono ?_;rintro e w' ⟨rfl,hb2⟩;exact hK _ _ hb2 (eq_put hs (by decide))),
    sP bq,
    sP bq,
    sP bq,
    sP bq,
    sP bq,
    (stp rfl fun a u hb hs hl hd K hK=>by
     have s97:=gD hd 6;have s101:=gD hd 10;have c15:=cell_up hb c15;clear hd;go_simp;refine(c_rr18 _ _).mono ?_;rintro e w' ⟨rfl,hb2⟩;exact hK _ _ hb2 (eq_put hs (by decide))),
    sP bq,
    sP bq,
    sP bq,
    sP bq,
    sP bq,
    sP bq,
    sP bq,
    trivial⟩ ?_
  clear hs hd zl;intro a w hb hs hd zl hh;replace zl:=lH hh 18 zl;clear hh;replace hSS:=hSS.after hb;replace hW:=hW.after hb;replace hM:=hM.after hb;replace c15:=cell_up hb c15;clear hb;refine wn 1 ?_;clear hs hd zl;intro a hs hd zl;obtain⟨s14,s109,-,-,s0,s3,s4,s5,s6,s8,s9,s10,s13,-⟩:=zl;replace s14:a.tmps.getD 14 undef=.int .u32 (sg0 x15):=s14;clear s109;clear c15 g15 b15;refine wp_seq ?_;obtain⟨t2,h2⟩:∃q,Is (t-2) q:=is_self _;have h2v:=h2.out;have g2:IntKind.i64.wrap ((t:Int)-2)=(t2:Int):=by rw[IntWalk.i64_in _ (by omega)];omega
  have b2:(t2:Int)<64:=by omega
  have l2:t2<t:=by omega
  have l2':t2<64:=by omega
  obtain⟨x2,y2⟩:∃x,Is (wd P p t2) x:=is_self _;have c2:=hW.word l2;rw[y2.out]at c2;clear h2v;refine fl2 (F:=[(0,_),(3,_),(4,_),(5,_),(6,_),(8,_),(9,_),(10,_),(13,_),(14,_)]) [.eq 110 _,.eq 111 _,.eq 112 _,.eq 113 _,.eq 114 _,.eq 115 _,.eq 116 _,.eq 117 _,.eq 118 _,.eq 119 _,.eq 120 _,.eq 121 _,.eq 122 _,.eq 123 _,.eq 124 _,.eq 125 _,.eq 126 _,.eq 127 _,.eq 128 _] 19 hs hd ⟨s0,s3,s4,s5,s6,s8,s9,s10,s13,s14,trivial⟩
   ⟨sP bq,
    sP bq,
    sP bq,
    sP bq,
    sP bq,
    (stp rfl fun a u hb hs hl hd K hK=>by
     have s110:=gD hd 0;have s114:=gD hd 4;have c2:=cell_up hb c2;clear hd;go_simp;refine(c_rr17 _ _).mono ?_;rintro e w' ⟨rfl,hb2⟩;exact hK _ _ hb2 (eq_put hs (by decide))),
    sP bq,
    sP bq,
    sP bq,
    sP bq,
    sP bq,
    (stp rfl fun a u hb hs hl hd K hK=>by
     have s116:=gD hd 6;have s120:=gD hd 10;have c2:=cell_up hb c2;clear hd;go_simp;refine(c_rr19 _ _).mono ?_;rintro e w' ⟨rfl,hb2⟩;exact hK _ _ hb2 (eq_put hs (by decide))),
    sP bq,
    sP bq,
    sP bq,
    sP bq,
    sP bq,
    sP bq,
    sP bq,
    trivial⟩ ?_
  clear hs hd s0 s3 s4 s5 s6 s8 s9 s10 s13 s14;intro a w hb hs hd zl hh;replace zl:=lH hh 18 zl;clear hh;replace hSS:=hSS.after hb;replace hW:=hW.after hb;replace hM:=hM.after hb;replace c2:=cell_up hb c2;clear hb;refine wn 1 ?_;clear hs hd zl;intro a hs hd zl;obtain⟨s15,s128,s0,s3,s4,s5,s6,s8,s9,s10,s13,s14,-⟩:=zl;replace s15:a.tmps.getD 15 undef=.int .u32 (sg1 x2):=s15;clear s128;clear c2 g2 b2;obtain⟨t16,h16⟩:∃q,Is (t-16) q:=is_self _;have h16v:=h16.out;have g16:IntKind.i64.wrap ((t:Int)-16)=(t16:Int):=by rw[IntWalk.i64_in _ (by omega)];omega
  have b16:(t16:Int)<64:=by omega
  have l16:t16<t:=by omega
  have l16':t16<64:=by omega
  obtain⟨x16,y16⟩:∃x,Is (wd P p t16) x:=is_self _;have c16:=hW.word l16;rw[y16.out]at c16;clear h16v;obtain⟨t7,h7⟩:∃q,Is (t-7) q:=is_self _;have h7v:=h7.out;have g7:IntKind.i64.wrap ((t:Int)-7)=(t7:Int):=by rw[IntWalk.i64_in _ (by omega)];omega
  have b7:(t7:Int)<64:=by omega
  have l7:t7<t:=by omega
  have l7':t7<64:=by omega
  obtain⟨x7,y7⟩:∃x,Is (wd P p t7) x:=is_self _;have c7:=hW.word l7;rw[y7.out]at c7;clear h7v;refine fl2 (F:=[(0,_),(3,_),(4,_),(5,_),(6,_),(8,_),(9,_),(10,_),(13,_),(14,_),(15,_)]) [.eq 129 _,.eq 130 _,.eq 131 _,.eq 132 _,.eq 133 _,.eq 134 _,.eq 135 _,.eq 136 _,.eq 137 _,.eq 138 _,.eq 139 _,.eq 140 _,.eq 141 _,.eq 142 _,.eq 143 _] 15 hs hd ⟨s0,s3,s4,s5,s6,s8,s9,s10,s13,s14,s15,trivial⟩
   ⟨sP bq,
    sP bq,
    sP bq,
    sP bq,
    sP bq,
    sP bq,
    sP bq,
    sP bq,
    sP bq,
    sP bq,
    sP bq,
    sP bq,
    sP bq,
    sP bq,
    sP bq,
    trivial⟩ ?_
  clear hs hd s0 s3 s4 s5 s6 s8 s9 s10 s13 s14 s15;intro a w hb hs hd zl hh;replace zl:=lH hh 13 zl;replace zl:=lH hh 14 zl;clear hh;replace hSS:=hSS.after hb;replace hW:=hW.after hb;replace hM:=hM.after hb;replace c16:=cell_up hb c16;replace c7:=cell_up hb c7;clear hb;show wpList _ _ _ [_] _ _
  refine tail_op rfl (fun K hK=>?_);have q142:=gL zl 1;have q143:=gL zl 0;obtain⟨z,hz⟩:∃z,Is (add32 (add32 (add32 x16 (sg0 x15)) x7) (sg1 x2)) z:=is_self _;obtain⟨s143,s142,s0,s3,s4,s5,s6,s8,s9,s10,s13,-,-,-⟩:=zl;have s142':a.tmps.getD 142 undef=.int .u32 (add32 (add32 (add32 x16 (sg0 x15)) x7) (sg1 x2)):=s142;rw[hz.out]at s142';clear s142 q142;have q142:=gd s142';have hfr:=(hW.get h64).2;have hcw:=(hW.get h64).1;go_simp;clear hfr hcw s142';clear q142 q143;refine hK _ _ ?_;clear hK K;change wpList _ _ _ _ a _;replace hSS:=hSS.gb (gb1 w WB t (.int .u32 z)) hWB;replace hM:=hM.gb (gb1 w WB t (.int .u32 z)) hbW;replace hW:=hW.set_ h64 z;revert hSS hM hW;generalize World.setCell _ _ _=w;intro hSS hM hW;replace hW:=hW.next (by rw[← hz.out,← y16.out,← y15.out,← y7.out,← y2.out,← h16.out,← h15.out,← h7.out,← h2.out,wd_hi _ _ _ ht16]) h64;clear s143;clear c16 c7 g16 g7 b16 b7;refine fl2 (F:=[(0,_),(3,_),(4,_),(5,_),(6,_),(8,_),(9,_),(10,_),(13,_)]) [.eq 89 _,.eq 90 _] 2 hs hd ⟨s0,s3,s4,s5,s6,s8,s9,s10,s13,trivial⟩
   ⟨sP bq,
    sP bq,
    trivial⟩ ?_
  clear hs hd s0 s3 s4 s5 s6 s8 s9 s10 s13;intro a w hb hs hd zl hh;replace zl:=lH hh 1 zl;clear hh;replace hSS:=hSS.after hb;replace hW:=hW.after hb;replace hM:=hM.after hb;clear hb;show wpList _ _ _ [_] _ _
  refine tail_op rfl (fun K hK=>?_);have q90:=gL zl 0;go_simp;clear q90;refine hK _ _ ?_;clear hK K;obtain⟨s90,s0,s3,s4,s5,s6,s8,s9,s10,s13,-⟩:=zl;refine act_put (d:=13) _ hs hd (by decide) [(0,_),(3,_),(4,_),(5,_),(6,_),(8,_),(9,_),(10,_),(90,_)] ⟨s0,s3,s4,s5,s6,s8,s9,s10,s90,trivial⟩ rfl ?_;clear hs hd s0 s3 s4 s5 s6 s8 s9 s10 s13 s90;intro a hs hd zl;obtain⟨s13,s0,s3,s4,s5,s6,s8,s9,s10,-,-⟩:=zl;refine⟨⟨t+1,by omega,by omega,hs,hd,⟨s0,s3,s4,s5,s6,s8,s9,s10,s13,trivial⟩,hSS,hW,hM⟩,?_⟩;rw[s13];simp[intOf];omega
 ·obtain rfl:t=64:=by omega
  have e1:decide ((64:Nat)<64)=false:=by decide
  conv=>arg 2;whnf
  refine wp_seq ?_;refine wp_seq ?_;refine fl2 (F:=[(0,_),(3,_),(4,_),(5,_),(6,_),(8,_),(9,_),(10,_),(13,_)]) [.eq 87 _] 1 hs hd ⟨s0,s3,s4,s5,s6,s8,s9,s10,s13,trivial⟩
   ⟨sP bq,
    trivial⟩ ?_
  clear hs hd s0 s3 s4 s5 s6 s8 s9 s10 s13;intro a w hb hs hd zl hh;replace zl:=lH hh 0 zl;clear hh;replace hSS:=hSS.after hb;replace hW:=hW.after hb;replace hM:=hM.after hb;clear hb;refine wn 1 ?_;clear hs hd zl;intro a hs hd zl;refine wp_cond_false (vL zl 0) ?_;refine wp_exit ?_;obtain⟨s88,-,s0,s3,s4,s5,s6,s8,s9,s10,s13,-⟩:=zl;exact hQ a w hs hd ⟨s0,s3,s4,s5,s6,s8,s9,s10,trivial⟩ hSS hW hM
def Ho(w:World)(hb:Nat)(R:ShaSt):Prop:=
 w.cell? ⟨hb,0,none⟩=some (.int .u32 R.a)∧w.cell? ⟨hb,1,none⟩=some (.int .u32 R.b)∧w.cell? ⟨hb,2,none⟩=some (.int .u32 R.c)∧w.cell? ⟨hb,3,none⟩=some (.int .u32 R.d)∧w.cell? ⟨hb,4,none⟩=some (.int .u32 R.e)∧w.cell? ⟨hb,5,none⟩=some (.int .u32 R.f)∧w.cell? ⟨hb,6,none⟩=some (.int .u32 R.g)∧w.cell? ⟨hb,7,none⟩=some (.int .u32 R.h)
theorem Ho.after{w w':World}{hb:Nat}{R:ShaSt}(h:Ho w hb R)(hB:Below w.heap.size w w'):Ho w' hb R:=by
 obtain⟨h0,h1,h2,h3,h4,h5,h6,h7⟩:=h;exact⟨cell_up hB h0,cell_up hB h1,cell_up hB h2,cell_up hB h3,cell_up hB h4,cell_up hB h5,cell_up hB h6,cell_up hB h7⟩
theorem Ho.new{w:World}{hb:Nat}{t:TypeId}{R:ShaSt}(h:Blk w hb t (st8 R)):Ho w hb R:=
 ⟨h.cell 0,h.cell 1,h.cell 2,h.cell 3,h.cell 4,h.cell 5,h.cell 6,h.cell 7⟩
theorem ch_prog(e f g:Int):bits .xor .u32 (bits .and .u32 e f) (bits .and .u32 (bits .xor .u32 (if IntKind.u32.signed=true then -1 else IntKind.u32.max) e) g)=xor32 (and32 e f) (bits .andNot .u32 g e):=by rw[andNot_prog];rfl
theorem k64_get{i:Nat}(h:i<64):k64[i]?=some (.int .u32 (kTab.getD i 0)):=by
 unfold k64;rw[List.getElem?_toArray,List.getElem?_map,List.getD_eq_getElem?_getD,List.getElem?_eq_getElem (show i<kTab.length from h)];rfl
theorem SS.k{w0 w:World}{B1 H KR:Nat}{S:ShaSt}(h:SS w0 w B1 H KR S){i:Nat}(hi:i<64):w.cell? ⟨KR,i,none⟩=some (.int .u32 (kTab.getD i 0)):=(h.2.2.1.cell i).trans (k64_get hi)
theorem ss_rounds{Q:Exit→Act→World→Prop}{B1 H KR n p WB b o N hb c:Nat}{v0 v6 v9:Value}{S:ShaSt}{w0:World}{P:List Int}(a:Act)(w:World)(hs:SzIs a 300)(hd:DfNil a)
  (s0:a.tmps.getD 0 undef=v0)(s3:a.tmps.getD 3 undef=.pointer (some ⟨H,0,none⟩))(s4:a.tmps.getD 4 undef=.pointer (some ⟨KR,0,none⟩))(s5:a.tmps.getD 5 undef=.int .i64 ((n:Nat):Int))(s6:a.tmps.getD 6 undef=v6)(s8:a.tmps.getD 8 undef=(Value.func (Fn.func 43) #[] #[]))(s9:a.tmps.getD 9 undef=v9)(s10:a.tmps.getD 10 undef=.pointer (some ⟨WB,0,none⟩))(s16:a.tmps.getD 16 undef=.slice (some ⟨hb,0,none⟩) 8 c)(s146:a.tmps.getD 146 undef=.int .i64 0)
  (hSS:SS w0 w B1 H KR S)(hW:SchZ w WB P p 64 0)(hM:BytesAt w b o P 0 N)(hH:Ho w hb S)(hhb:B1≤hb)
  (hQ:∀(a:Act) (w:World) (hb c:Nat) (R:ShaSt),Is R (shaRds P p S 64)→SzIs a 300→DfNil a→LiveAll [(0,v0),(3,.pointer (some ⟨H,0,none⟩)),(4,.pointer (some ⟨KR,0,none⟩)),(5,.int .i64 ((n:Nat):Int)),(6,v6),(8,(Value.func (Fn.func 43) #[] #[])),(9,v9),(10,.pointer (some ⟨WB,0,none⟩)),(16,.slice (some ⟨hb,0,none⟩) 8 c)] a→SS w0 w B1 H KR S→BytesAt w b o P 0 N→Ho w hb R→B1≤hb→Q (.exit 12) a w):
  (Code.loop (ssB 12)).wp Tryz.prog Q a w:=by
 refine wp_loop (fun a w=>∃(i hb c:Nat) (R:ShaSt),i≤64∧Is R (shaRds P p S i)∧SzIs a 300∧DfNil a∧LiveAll [(0,v0),(3,.pointer (some ⟨H,0,none⟩)),(4,.pointer (some ⟨KR,0,none⟩)),(5,.int .i64 ((n:Nat):Int)),(6,v6),(8,(Value.func (Fn.func 43) #[] #[])),(9,v9),(10,.pointer (some ⟨WB,0,none⟩)),(16,.slice (some ⟨hb,0,none⟩) 8 c),(146,.int .i64 ((i:Nat):Int))] a∧SS w0 w B1 H KR S∧SchZ w WB P p 64 0∧BytesAt w b o P 0 N∧Ho w hb R∧B1≤hb)
  (fun a _=>64-(intOf (a.tmps.getD 146 undef)).toNat) ⟨0,hb,c,S,Nat.zero_le _,rfl,hs,hd,⟨s0,s3,s4,s5,s6,s8,s9,s10,s16,s146,trivial⟩,hSS,hW,hM,hH,hhb⟩ ?_
 clear hs hd s0 s3 s4 s5 s6 s8 s9 s10 s16 s146 hSS hW hM hH hhb a w;rintro a w ⟨i,hb,c,R,hi,hR,hs,hd,⟨s0,s3,s4,s5,s6,s8,s9,s10,s16,s146,-⟩,hSS,hW,hM,hH,hhb⟩;have hm:(intOf (a.tmps.getD 146 undef)).toNat=i:=by rw[s146];simp[intOf]
 rw[hm];clear hm;by_cases h64:i<64
 ·have e1:decide (i<64)=true:=decide_eq_true h64;have e2:decide ((i:Int)<64)=true:=decide_eq_true (by omega);have f4:IntKind.i64.wrap ((i:Int)+1)=((i+1:Nat):Int):=by rw[IntWalk.i64_in _ (by omega)];omega
  have f5:(i:Int)<64:=by omega
  obtain⟨kk,hkk⟩:∃x,Is (kTab.getD i 0) x:=is_self _;obtain⟨ww,hww⟩:∃x,Is (wd P p i) x:=is_self _;conv=>arg 2;whnf
  refine wp_seq ?_;refine wp_region_list ?_;show wpList _ _ _ [_] _ _
  refine tail_op rfl (fun K hK=>?_);have q146:=gd s146;go_simp;clear q146;refine hK _ _ ?_;clear hK K;refine act_put (d:=147) _ hs hd (by decide) [(0,_),(3,_),(4,_),(5,_),(6,_),(8,_),(9,_),(10,_),(16,_),(146,_)] ⟨s0,s3,s4,s5,s6,s8,s9,s10,s16,s146,trivial⟩ rfl ?_;clear hs hd s0 s3 s4 s5 s6 s8 s9 s10 s16 s146;intro a hs hd zl;refine wp_seq ?_;refine wp_cond_true (vL zl 0) ?_;refine wp_skip ?_;refine wp_seq ?_;refine wp_block ?_;refine wp_seq ?_;refine fl2 [.eq 148 _] 1 hs hd zl
   ⟨sP bq,
    trivial⟩ ?_
  clear hs hd zl;intro a w hb hs hd zl hh;replace zl:=lH hh 0 zl;clear hh;replace hSS:=hSS.after hb;replace hW:=hW.after hb;replace hM:=hM.after hb;replace hH:=hH.after hb;clear hb;refine wn 1 ?_;clear hs hd zl;intro a hs hd zl;refine wp_seq ?_;obtain⟨-,-,-,-,c4,-,-,-⟩:=id hH;refine fl2 [.eq 149 _,.eq 150 _,.eq 151 _,.eq 152 _,.eq 153 _,.eq 154 _,.eq 155 _,.eq 156 _,.eq 157 _,.eq 158 _,.eq 159 _,.eq 160 _,.eq 161 _,.eq 162 _,.eq 163 _,.eq 164 _,.eq 165 _] 17 hs hd zl
   ⟨sP bq,
    sP bq,
    sP bq,
    sP bq,
    (stp rfl fun a u hb hs hl hd K hK=>by
     have s149:=gD hd 0;have s152:=gD hd 3;have c4:=cell_up hb c4;clear hd;go_simp;refine(c_rr6 _ _).mono ?_;rintro e w' ⟨rfl,hb2⟩;exact hK _ _ hb2 (eq_put hs (by decide))),
    sP bq,
    sP bq,
    sP bq,
    sP bq,
    (stp rfl fun a u hb hs hl hd K hK=>by
     have s154:=gD hd 5;have s157:=gD hd 8;have c4:=cell_up hb c4;clear hd;go_simp;refine(c_rr11 _ _).mono ?_;rintro e w' ⟨rfl,hb2⟩;exact hK _ _ hb2 (eq_put hs (by decide))),
    sP bq,
    sP bq,
    sP bq,
    sP bq,
    sP bq,
    (stp rfl fun a u hb hs hl hd K hK=>by
     have s160:=gD hd 11;have s163:=gD hd 14;have c4:=cell_up hb c4;clear hd;go_simp;refine(c_rr25 _ _).mono ?_;rintro e w' ⟨rfl,hb2⟩;exact hK _ _ hb2 (eq_put hs (by decide))),
    sP bq,
    trivial⟩ ?_
  clear hs hd zl;intro a w hb hs hd zl hh;replace zl:=lH hh 16 zl;clear hh;replace hSS:=hSS.after hb;replace hW:=hW.after hb;replace hM:=hM.after hb;replace hH:=hH.after hb;replace c4:=cell_up hb c4;clear hb;refine wn 1 ?_;clear hs hd zl;intro a hs hd zl;obtain⟨s18,s165,s17,-,-,s0,s3,s4,s5,s6,s8,s9,s10,s16,s146,-⟩:=zl;replace s18:a.tmps.getD 18 undef=.int .u32 (Sg1 R.e):=s18;clear s165;clear c4;refine wp_seq ?_;obtain⟨-,-,-,-,c4,c5,c6,-⟩:=id hH;refine fl2 (F:=[(0,_),(3,_),(4,_),(5,_),(6,_),(8,_),(9,_),(10,_),(16,_),(17,_),(18,_),(146,_)]) [.eq 166 _,.eq 167 _,.eq 168 _,.eq 169 _,.eq 170 _,.eq 171 _,.eq 172 _,.eq 173 _,.eq 174 _,.eq 175 _,.eq 176 _,.eq 177 _,.eq 178 _,.eq 179 _,.eq 180 _,.eq 181 _] 16 hs hd ⟨s0,s3,s4,s5,s6,s8,s9,s10,s16,s17,s18,s146,trivial⟩
   ⟨sP bq,
    sP bq,
    sP bq,
    sP bq,
    sP bq,
    sP bq,
    sP bq,
    sP bq,
    sP bq,
    sP bq,
    sP bq,
    sP bq,
    sP bq,
    sP bq,
    sP bq,
    sP bq,
    trivial⟩ ?_
  clear hs hd s0 s3 s4 s5 s6 s8 s9 s10 s16 s17 s18 s146;intro a w hb hs hd zl hh;replace zl:=lH hh 15 zl;clear hh;replace hSS:=hSS.after hb;replace hW:=hW.after hb;replace hM:=hM.after hb;replace hH:=hH.after hb;replace c4:=cell_up hb c4;replace c5:=cell_up hb c5;replace c6:=cell_up hb c6;clear hb;refine wn 1 ?_;clear hs hd zl;intro a hs hd zl;obtain⟨s19,s181,s0,s3,s4,s5,s6,s8,s9,s10,s16,s17,s18,s146,-⟩:=zl;replace s19:=s19.trans (congrArg (Value.int IntKind.u32) (ch_prog R.e R.f R.g));clear s181;clear c4 c5 c6;refine wp_seq ?_;obtain⟨-,-,-,-,-,-,-,c7⟩:=id hH;have ck:=hSS.k h64;rw[hkk.out]at ck;have cw:=hW.word h64;rw[hww.out]at cw;refine fl2 (F:=[(0,_),(3,_),(4,_),(5,_),(6,_),(8,_),(9,_),(10,_),(16,_),(17,_),(18,_),(19,_),(146,_)]) [.eq 182 _,.eq 183 _,.eq 184 _,.eq 185 _,.eq 186 _,.eq 187 _,.eq 188 _,.eq 189 _,.eq 190 _,.eq 191 _,.eq 192 _,.eq 193 _,.eq 194 _,.eq 195 _,.eq 196 _] 15 hs hd ⟨s0,s3,s4,s5,s6,s8,s9,s10,s16,s17,s18,s19,s146,trivial⟩
   ⟨sP bq,
    sP bq,
    sP bq,
    sP bq,
    sP bq,
    sP bq,
    sP bq,
    sP bq,
    sP bq,
    sP bq,
    sP bq,
    sP bq,
    sP bq,
    sP bq,
    sP bq,
    trivial⟩ ?_
  clear hs hd s0 s3 s4 s5 s6 s8 s9 s10 s16 s17 s18 s19 s146;intro a w hb hs hd zl hh;replace zl:=lH hh 14 zl;clear hh;replace hSS:=hSS.after hb;replace hW:=hW.after hb;replace hM:=hM.after hb;replace hH:=hH.after hb;replace c7:=cell_up hb c7;replace ck:=cell_up hb ck;replace cw:=cell_up hb cw;clear hb;refine wn 1 ?_;clear hs hd zl;intro a hs hd zl;obtain⟨s20,s196,s0,s3,s4,s5,s6,s8,s9,s10,s16,s17,-,-,s146,-⟩:=zl;replace s20:a.tmps.getD 20 undef=.int .u32 (tOne kk ww R):=s20;clear s196;clear c7 ck cw;refine wp_seq ?_;obtain⟨c0,-,-,-,-,-,-,-⟩:=id hH;refine fl2 (F:=[(0,_),(3,_),(4,_),(5,_),(6,_),(8,_),(9,_),(10,_),(16,_),(17,_),(20,_),(146,_)]) [.eq 197 _,.eq 198 _,.eq 199 _,.eq 200 _,.eq 201 _,.eq 202 _,.eq 203 _,.eq 204 _,.eq 205 _,.eq 206 _,.eq 207 _,.eq 208 _,.eq 209 _,.eq 210 _,.eq 211 _,.eq 212 _,.eq 213 _] 17 hs hd ⟨s0,s3,s4,s5,s6,s8,s9,s10,s16,s17,s20,s146,trivial⟩
   ⟨sP bq,
    sP bq,
    sP bq,
    sP bq,
    (stp rfl fun a u hb hs hl hd K hK=>by
     have s197:=gD hd 0;have s200:=gD hd 3;have c0:=cell_up hb c0;clear hd;go_simp;refine(c_rr2 _ _).mono ?_;rintro e w' ⟨rfl,hb2⟩;exact hK _ _ hb2 (eq_put hs (by decide))),
    sP bq,
    sP bq,
    sP bq,
    sP bq,
    (stp rfl fun a u hb hs hl hd K hK=>by
     have s202:=gD hd 5;have s205:=gD hd 8;have c0:=cell_up hb c0;clear hd;go_simp;refine(c_rr13 _ _).mono ?_;rintro e w' ⟨rfl,hb2⟩;exact hK _ _ hb2 (eq_put hs (by decide))),
    sP bq,
    sP bq,
    sP bq,
    sP bq,
    sP bq,
    (stp rfl fun a u hb hs hl hd K hK=>by
     have s208:=gD hd 11;have s211:=gD hd 14;have c0:=cell_up hb c0;clear hd;go_simp;refine(c_rr22 _ _).mono ?_;rintro e w' ⟨rfl,hb2⟩;exact hK _ _ hb2 (eq_put hs (by decide))),
    sP bq,
    trivial⟩ ?_
  clear hs hd s0 s3 s4 s5 s6 s8 s9 s10 s16 s17 s20 s146;intro a w hb hs hd zl hh;replace zl:=lH hh 16 zl;clear hh;replace hSS:=hSS.after hb;replace hW:=hW.after hb;replace hM:=hM.after hb;replace hH:=hH.after hb;replace c0:=cell_up hb c0;clear hb;refine wn 1 ?_;clear hs hd zl;intro a hs hd zl;obtain⟨s21,s213,s0,s3,s4,s5,s6,s8,s9,s10,s16,s17,s20,s146,-⟩:=zl;replace s21:a.tmps.getD 21 undef=.int .u32 (Sg0 R.a):=s21;clear s213;clear c0;refine wp_seq ?_;obtain⟨c0,c1,c2,-,-,-,-,-⟩:=id hH;refine fl2 (F:=[(0,_),(3,_),(4,_),(5,_),(6,_),(8,_),(9,_),(10,_),(16,_),(17,_),(20,_),(21,_),(146,_)]) [.eq 214 _,.eq 215 _,.eq 216 _,.eq 217 _,.eq 218 _,.eq 219 _,.eq 220 _,.eq 221 _,.eq 222 _,.eq 223 _,.eq 224 _,.eq 225 _,.eq 226 _,.eq 227 _,.eq 228 _,.eq 229 _,.eq 230 _,.eq 231 _,.eq 232 _,.eq 233 _,.eq 234 _,.eq 235 _,.eq 236 _] 23 hs hd ⟨s0,s3,s4,s5,s6,s8,s9,s10,s16,s17,s20,s21,s146,trivial⟩
   ⟨sP bq,
    sP bq,
    sP bq,
    sP bq,
    sP bq,
    sP bq,
    sP bq,
    sP bq,
    sP bq,
    sP bq,
    sP bq,
    sP bq,
    sP bq,
    sP bq,
    sP bq,
    sP bq,
    sP bq,
    sP bq,
    sP bq,
    sP bq,
    sP bq,
    sP bq,
    sP bq,
    trivial⟩ ?_
  clear hs hd s0 s3 s4 s5 s6 s8 s9 s10 s16 s17 s20 s21 s146;intro a w hb hs hd zl hh;replace zl:=lH hh 22 zl;clear hh;replace hSS:=hSS.after hb;replace hW:=hW.after hb;replace hM:=hM.after hb;replace hH:=hH.after hb;replace c0:=cell_up hb c0;replace c1:=cell_up hb c1;replace c2:=cell_up hb c2;clear hb;refine wn 1 ?_;clear hs hd zl;intro a hs hd zl;obtain⟨s22,s236,s0,s3,s4,s5,s6,s8,s9,s10,s16,s17,s20,s21,s146,-⟩:=zl;replace s22:a.tmps.getD 22 undef=.int .u32 (xor32 (xor32 (and32 R.a R.b) (and32 R.a R.c)) (and32 R.b R.c)):=s22;clear s236;clear c0 c1 c2;obtain⟨c0,c1,c2,c3,c4,c5,c6,-⟩:=id hH;refine fl2 (F:=[(0,_),(3,_),(4,_),(5,_),(6,_),(8,_),(9,_),(10,_),(16,_),(17,_),(20,_),(21,_),(22,_),(146,_)]) [.eq 237 _,.eq 238 _,.eq 239 _,.eq 240 _,.eq 241 _,.eq 242 _,.eq 243 _,.eq 244 _,.eq 245 _,.eq 246 _,.eq 247 _,.eq 248 _,.eq 249 _,.eq 250 _,.eq 251 _,.eq 252 _,.eq 253 _,.eq 254 _,.eq 255 _,.eq 256 _,.eq 257 _,.eq 258 _,.eq 259 _,.eq 260 _,.eq 261 _,.eq 262 _,.eq 263 _,.eq 264 _] 28 hs hd ⟨s0,s3,s4,s5,s6,s8,s9,s10,s16,s17,s20,s21,s22,s146,trivial⟩
   ⟨sP bq,
    sP bq,
    sP bq,
    sP bq,
    sP bq,
    sP bq,
    sP bq,
    sP bq,
    sP bq,
    sP bq,
    sP bq,
    sP bq,
    sP bq,
    sP bq,
    sP bq,
    sP bq,
    sP bq,
    sP bq,
    sP bq,
    sP bq,
    sP bq,
    sP bq,
    sP bq,
    sP bq,
    sP bq,
    sP bq,
    sP bq,
    sP bq,
    trivial⟩ ?_
  clear hs hd s0 s3 s4 s5 s6 s8 s9 s10 s16 s17 s20 s21 s22 s146;intro a w hb hs hd zl hh;replace zl:=lH hh 4 zl;replace zl:=lH hh 7 zl;replace zl:=lH hh 10 zl;replace zl:=lH hh 13 zl;replace zl:=lH hh 18 zl;replace zl:=lH hh 21 zl;replace zl:=lH hh 24 zl;replace zl:=lH hh 27 zl;clear hh;replace hSS:=hSS.after hb;replace hW:=hW.after hb;replace hM:=hM.after hb;replace hH:=hH.after hb;replace c0:=cell_up hb c0;replace c1:=cell_up hb c1;replace c2:=cell_up hb c2;replace c3:=cell_up hb c3;replace c4:=cell_up hb c4;replace c5:=cell_up hb c5;replace c6:=cell_up hb c6;clear hb;show wpList _ _ _ [_,_] _ _
  refine tail_op rfl (fun K hK=>?_);have q241:=gL zl 7;have q244:=gL zl 6;have q247:=gL zl 5;have q250:=gL zl 4;have q255:=gL zl 3;have q258:=gL zl 2;have q261:=gL zl 1;have q264:=gL zl 0;obtain⟨R',hR'⟩:∃R',Is (shaRnd kk ww R) R':=is_self _;obtain⟨s264,s261,s258,s255,s250,s247,s244,s241,s0,s3,s4,s5,s6,s8,s9,s10,s16,-,-,-,-,s146,-⟩:=zl;replace s241:a.tmps.getD 241 undef=.int .u32 R'.a:=s241.trans (by rw[← hR'.out];exact congrArg (Value.int .u32) (add32_assoc _ _ _));replace s244:a.tmps.getD 244 undef=.int .u32 R'.b:=s244.trans (by rw[← hR'.out];rfl);replace s247:a.tmps.getD 247 undef=.int .u32 R'.c:=s247.trans (by rw[← hR'.out];rfl);replace s250:a.tmps.getD 250 undef=.int .u32 R'.d:=s250.trans (by rw[← hR'.out];rfl);replace s255:a.tmps.getD 255 undef=.int .u32 R'.e:=s255.trans (by rw[← hR'.out];rfl);replace s258:a.tmps.getD 258 undef=.int .u32 R'.f:=s258.trans (by rw[← hR'.out];rfl);replace s261:a.tmps.getD 261 undef=.int .u32 R'.g:=s261.trans (by rw[← hR'.out];rfl);replace s264:a.tmps.getD 264 undef=.int .u32 R'.h:=s264.trans (by rw[← hR'.out];rfl);replace q241:=gd s241;replace q244:=gd s244;replace q247:=gd s247;replace q250:=gd s250;replace q255:=gd s255;replace q258:=gd s258;replace q261:=gd s261;replace q264:=gd s264;go_simp;clear q241 q244 q247 q250 q255 q258 q261 q264;refine hK _ _ ?_;clear hK K;refine act_put (d:=265) _ hs hd (by decide) [(0,_),(3,_),(4,_),(5,_),(6,_),(8,_),(9,_),(10,_),(16,_),(146,_),(241,_),(244,_),(247,_),(250,_),(255,_),(258,_),(261,_),(264,_)] ⟨s0,s3,s4,s5,s6,s8,s9,s10,s16,s146,s241,s244,s247,s250,s255,s258,s261,s264,trivial⟩ rfl ?_;clear hs hd s0 s3 s4 s5 s6 s8 s9 s10 s16 s146 s241 s244 s247 s250 s255 s258 s261 s264;intro a hs hd zl;obtain⟨h2,hE⟩:∃h2,Is w.heap.size h2:=is_self _;generalize hw1:World.alloc w _=w1;have hB1:Below w.heap.size w w1:=by rw[← hw1];exact bz_alloc (bz_refl w) _
  have hhb2:B1≤h2:=by rw[← hE.out];exact hSS.2.2.2.2.2.2.2.2
  have hH2:Ho w1 h2 R':=by rw[← hw1,← hE.out];exact Ho.new (Blk.new w _ (st8 R'))
  replace hSS:=hSS.after hB1;replace hW:=hW.after hB1;replace hM:=hM.after hB1;obtain⟨s265,s0,s3,s4,s5,s6,s8,s9,s10,s16,s146,s241,s244,s247,s250,s255,s258,s261,s264,-⟩:=zl;rw[hE.out]at s265;clear hw1 hB1 hE hH;refine tail_op rfl (fun K hK=>?_);have q265:=gd s265;go_simp;clear q265;refine hK _ _ ?_;clear hK K;refine act_put (d:=16) _ hs hd (by decide) [(0,_),(3,_),(4,_),(5,_),(6,_),(8,_),(9,_),(10,_),(146,_),(241,_),(244,_),(247,_),(250,_),(255,_),(258,_),(261,_),(264,_),(265,_)] ⟨s0,s3,s4,s5,s6,s8,s9,s10,s146,s241,s244,s247,s250,s255,s258,s261,s264,s265,trivial⟩ rfl ?_;clear hs hd s0 s3 s4 s5 s6 s8 s9 s10 s16 s146 s241 s244 s247 s250 s255 s258 s261 s264 s265;intro a hs hd zl;clear c0 c1 c2 c3 c4 c5 c6;refine fl2 [.eq 266 _] 1 hs hd zl
   ⟨sP bq,
    trivial⟩ ?_
  clear hs hd zl;intro a w hb hs hd zl hh;replace zl:=lH hh 0 zl;clear hh;replace hSS:=hSS.after hb;replace hW:=hW.after hb;replace hM:=hM.after hb;replace hH2:=hH2.after hb;clear hb;show wpList _ _ _ [_] _ _
  refine tail_op rfl (fun K hK=>?_);have q266:=gL zl 0;go_simp;clear q266;refine hK _ _ ?_;clear hK K;obtain⟨s266,s16,s0,s3,s4,s5,s6,s8,s9,s10,s146,-,-,-,-,-,-,-,-,-,-⟩:=zl;refine act_put (d:=146) _ hs hd (by decide) [(0,_),(3,_),(4,_),(5,_),(6,_),(8,_),(9,_),(10,_),(16,_),(266,_)] ⟨s0,s3,s4,s5,s6,s8,s9,s10,s16,s266,trivial⟩ rfl ?_;clear hs hd s0 s3 s4 s5 s6 s8 s9 s10 s16 s146 s266;intro a hs hd zl;obtain⟨s146,s0,s3,s4,s5,s6,s8,s9,s10,s16,s266,-⟩:=zl;refine⟨⟨i+1,h2,8,R',by omega,?_,hs,hd,⟨s0,s3,s4,s5,s6,s8,s9,s10,s16,s146,trivial⟩,hSS,hW,hM,hH2,hhb2⟩,?_⟩
  ·unfold Is;rw[← hR'.out,← hkk.out,← hww.out,hR.out];rfl
  ·rw[s146];simp[intOf];omega
 ·obtain rfl:i=64:=by omega
  have e1:decide ((64:Nat)<64)=false:=by decide
  conv=>arg 2;whnf
  refine wp_seq ?_;refine wp_region_list ?_;show wpList _ _ _ [_] _ _
  refine tail_op rfl (fun K hK=>?_);have q146:=gd s146;go_simp;clear q146;refine hK _ _ ?_;clear hK K;refine act_put (d:=147) _ hs hd (by decide) [(0,_),(3,_),(4,_),(5,_),(6,_),(8,_),(9,_),(10,_),(16,_),(146,_)] ⟨s0,s3,s4,s5,s6,s8,s9,s10,s16,s146,trivial⟩ rfl ?_;clear hs hd s0 s3 s4 s5 s6 s8 s9 s10 s16 s146;intro a hs hd zl;refine wp_seq ?_;refine wp_cond_false (vL zl 0) ?_;refine wp_exit ?_;obtain⟨s147,s0,s3,s4,s5,s6,s8,s9,s10,s16,s146,-⟩:=zl;exact hQ a w hb c R hR hs hd ⟨s0,s3,s4,s5,s6,s8,s9,s10,s16,trivial⟩ hSS hM hH hhb
end Go.Proofs.YtjhnnjhaklohhaaGreatDoor
