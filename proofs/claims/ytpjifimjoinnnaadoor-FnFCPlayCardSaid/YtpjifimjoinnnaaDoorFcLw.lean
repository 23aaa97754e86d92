/- The law's runs. -/
import Derived.Test.YtpjifimjoinnnaaDoorFcA
import Derived.Test.YtpjifimjoinnnaaDoorFcO
import Derived.KernelRfl
set_option autoImplicit true
set_option relaxedAutoImplicit true
set_option linter.unusedVariables false
set_option maxRecDepth 100000
namespace Go.Proofs.YtpjifimjoinnnaaDoor
open Go Go.Sy
noncomputable def zfe0 : SE := .mul (.v 1004) (.c 4)
noncomputable def zfe1 : SE := .add (.c 1) (.v 1000)
noncomputable def zfe2 : SE := .mul zfe1 (.c 8)
noncomputable def zfe3 : SE := .tmod (.v 1008) (.c 4)
noncomputable def zfe4 : SE := .add (.c 1) zfe3
noncomputable def zfe5 : SE := .mul zfe2 zfe4
noncomputable def zfe6 : SE := .wrap .i64 zfe5
noncomputable def zfe7 : SE := .tmod (.v 1012) (.c 3)
noncomputable def zfe8 : SE := .add (.c 1) zfe7
noncomputable def zfe9 : SE := .add (.v 1013) (.v 1014)
noncomputable def zfe10 : SE := .add (.v 1009) (.v 1010)
noncomputable def zfe11 : SE := .add (.v 1005) (.v 1006)
noncomputable def zfe12 : SE := .add (.v 1001) (.v 1002)
noncomputable def zff0 : Fx := [((.le (.c 0) (.v 50)), true), ((.le (.v 50) (.v 53)), true), ((.le (.v 53) (.c 9223372036854775807)), true), ((.ap 1 (.a (.v 5) (.i (.v 50) .nil))), true)]
noncomputable def zff1 : Fx := ((.lt (.c 2147483647) (.v 50)), false) :: zff0
noncomputable def zfx0 : Vl := .out 0 [.a (.v 5) (.v 5) (.v 50) 1, .i (.v 50) (.v 50)] (((.lt (.c 2147483647) (.v 50)), true) :: zff0)
noncomputable def zfx1 : Vl := .go 0 [(22, zfe0), (21, zfe6), (20, zfe2), (53, (.v 1015)), (52, (.v 1014)), (51, (.v 1013)), (41, (.c 0)), (43, zfe8)] [] [] (((.le (.c 0) (.v 1012)), true) :: ((.le (.v 1012) (.c 255)), true) :: ((.le (.c 0) (.v 1013)), true) :: ((.le (.v 1013) (.c 4294967296)), true) :: ((.le (.c 0) (.v 1014)), true) :: ((.le (.v 1014) (.c 4294967296)), true) :: ((.le (.c 0) (.v 1015)), true) :: ((.le (.v 1015) (.c 9223372036854775807)), true) :: ((.le (.v 1014) (.v 1015)), true) :: ((.le zfe9 (.v 50)), true) :: ((.le (.v 1014) (.v 1010)), true) :: ((.and (.lt (.c 0) (.v 1010)) (.not (.lt (.v 1014) (.v 1010)))), false) :: ((.le (.c 0) (.v 1008)), true) :: ((.le (.v 1008) (.c 255)), true) :: ((.le (.c 0) (.v 1009)), true) :: ((.le (.v 1009) (.c 4294967296)), true) :: ((.le (.c 0) (.v 1010)), true) :: ((.le (.v 1010) (.c 4294967296)), true) :: ((.le (.c 0) (.v 1011)), true) :: ((.le (.v 1011) (.c 9223372036854775807)), true) :: ((.le (.v 1010) (.v 1011)), true) :: ((.le zfe10 (.v 50)), true) :: ((.le (.v 1010) (.v 1006)), true) :: ((.and (.lt (.c 0) (.v 1006)) (.not (.lt (.v 1010) (.v 1006)))), false) :: ((.le (.c 0) (.v 1004)), true) :: ((.le (.v 1004) (.c 255)), true) :: ((.le (.c 0) (.v 1005)), true) :: ((.le (.v 1005) (.c 4294967296)), true) :: ((.le (.c 0) (.v 1006)), true) :: ((.le (.v 1006) (.c 4294967296)), true) :: ((.le (.c 0) (.v 1007)), true) :: ((.le (.v 1007) (.c 9223372036854775807)), true) :: ((.le (.v 1006) (.v 1007)), true) :: ((.le zfe11 (.v 50)), true) :: ((.le (.v 1006) (.v 1002)), true) :: ((.and (.lt (.c 0) (.v 1002)) (.not (.lt (.v 1006) (.v 1002)))), false) :: ((.le (.c 0) (.v 1000)), true) :: ((.le (.v 1000) (.c 255)), true) :: ((.le (.c 0) (.v 1001)), true) :: ((.le (.v 1001) (.c 4294967296)), true) :: ((.le (.c 0) (.v 1002)), true) :: ((.le (.v 1002) (.c 4294967296)), true) :: ((.le (.c 0) (.v 1003)), true) :: ((.le (.v 1003) (.c 9223372036854775807)), true) :: ((.le (.v 1002) (.v 1003)), true) :: ((.le zfe12 (.v 50)), true) :: ((.le (.v 1002) (.v 50)), true) :: ((.and (.lt (.c 0) (.v 50)) (.not (.lt (.v 1002) (.v 50)))), false) :: ((.le (.v 50) (.v 50)), true) :: ((.le (.c 0) (.v 53)), true) :: zff1) (.code (.loop (loopB (prm3 Tryd.prog).P 3 8))) (loopK (prm3 Tryd.prog).P 3 8)
noncomputable def zfx2 : Vl := .dead (((.le (.v 50) (.v 50)), false) :: ((.le (.c 0) (.v 53)), true) :: zff1)
noncomputable def zfx3 : Vl := .dead (((.le (.c 0) (.v 53)), false) :: zff1)
noncomputable def zfls : List Vl := [zfx0, zfx1, zfx2, zfx3]
theorem zfrun : (run (prm3 Tryd.prog) 600 (enterD (prm3 Tryd.prog) ct3)).map (vOf (prm3 Tryd.prog) ct3 (pts3 Tryd.prog)) = zfls := by kernel_rfl
-- 4 ways; terms: zfe0, zfe1, zfe2, zfe3, zfe4, zfe5, zfe6, zfe7, zfe8, zfe9, zfe10, zfe11, zfe12
noncomputable def zge0 : SE := .add (.v 41) (.c 1)
noncomputable def zge1 : SE := .mul (.v 41) (.c 3)
noncomputable def zge2 : SE := .add (.c 1) (.v 1000)
noncomputable def zge3 : SE := .mul zge2 (.c 4)
noncomputable def zge4 : SE := .tmod (.v 1004) (.c 4)
noncomputable def zge5 : SE := .add (.c 1) zge4
noncomputable def zge6 : SE := .mul zge3 zge5
noncomputable def zge7 : SE := .wrap .i64 zge6
noncomputable def zge8 : SE := .mul (.v 1008) (.c 4)
noncomputable def zge9 : AE := .tl (.v 2) zge1 (.i zge3 (.i zge7 (.i zge8 .nil)))
noncomputable def zge10 : SE := .add (.v 1009) (.v 1010)
noncomputable def zge11 : SE := .add (.v 1005) (.v 1006)
noncomputable def zge12 : SE := .add (.v 1001) (.v 1002)
noncomputable def zge13 : SE := .add (.v 51) (.v 52)
noncomputable def zge14 : AE := .ap 2 (.a (.v 2) .nil)
noncomputable def zgf0 : Fx := [((.le (.c 0) (.v 50)), true), ((.le (.v 50) (.c 4294967296)), true), ((.le (.c 0) (.v 51)), true), ((.le (.v 51) (.c 4294967296)), true), ((.le (.c 0) (.v 52)), true), ((.le (.v 52) (.c 4294967296)), true), ((.le (.c 0) (.v 53)), true), ((.le (.v 53) (.c 9223372036854775807)), true), ((.le (.v 52) (.v 53)), true), ((.le zge13 (.v 50)), true), ((.ap 1 (.a (.v 5) (.i (.v 50) .nil))), true), ((.le (.c 8) (.v 20)), true), ((.le (.v 20) (.c 2048)), true), ((.le (.c 8) (.v 21)), true), ((.le (.v 21) (.c 8192)), true), ((.le (.c 0) (.v 22)), true), ((.le (.v 22) (.c 1020)), true), ((.le (.c 1) (.v 43)), true), ((.le (.v 43) (.c 3)), true), ((.le (.c 0) (.v 41)), true), ((.le (.v 41) (.c 3)), true)]
noncomputable def zgx0 : Vl := .go 0 [(53, (.v 1011)), (52, (.v 1010)), (51, (.v 1009)), (41, zge0)] [] [(2, zge9)] (((.le (.c 0) (.v 1008)), true) :: ((.le (.v 1008) (.c 255)), true) :: ((.le (.c 0) (.v 1009)), true) :: ((.le (.v 1009) (.c 4294967296)), true) :: ((.le (.c 0) (.v 1010)), true) :: ((.le (.v 1010) (.c 4294967296)), true) :: ((.le (.c 0) (.v 1011)), true) :: ((.le (.v 1011) (.c 9223372036854775807)), true) :: ((.le (.v 1010) (.v 1011)), true) :: ((.le zge10 (.v 50)), true) :: ((.le (.v 1010) (.v 1006)), true) :: ((.and (.lt (.c 0) (.v 1006)) (.not (.lt (.v 1010) (.v 1006)))), false) :: ((.le (.c 0) (.v 1004)), true) :: ((.le (.v 1004) (.c 255)), true) :: ((.le (.c 0) (.v 1005)), true) :: ((.le (.v 1005) (.c 4294967296)), true) :: ((.le (.c 0) (.v 1006)), true) :: ((.le (.v 1006) (.c 4294967296)), true) :: ((.le (.c 0) (.v 1007)), true) :: ((.le (.v 1007) (.c 9223372036854775807)), true) :: ((.le (.v 1006) (.v 1007)), true) :: ((.le zge11 (.v 50)), true) :: ((.le (.v 1006) (.v 1002)), true) :: ((.and (.lt (.c 0) (.v 1002)) (.not (.lt (.v 1006) (.v 1002)))), false) :: ((.le (.c 0) (.v 1000)), true) :: ((.le (.v 1000) (.c 255)), true) :: ((.le (.c 0) (.v 1001)), true) :: ((.le (.v 1001) (.c 4294967296)), true) :: ((.le (.c 0) (.v 1002)), true) :: ((.le (.v 1002) (.c 4294967296)), true) :: ((.le (.c 0) (.v 1003)), true) :: ((.le (.v 1003) (.c 9223372036854775807)), true) :: ((.le (.v 1002) (.v 1003)), true) :: ((.le zge12 (.v 50)), true) :: ((.le (.v 1002) (.v 52)), true) :: ((.and (.lt (.c 0) (.v 52)) (.not (.lt (.v 1002) (.v 52)))), false) :: ((.lt (.v 41) (.v 43)), true) :: zgf0) (.exit .normal) (.loop (loopB (prm3 Tryd.prog).P 3 8) :: loopK (prm3 Tryd.prog).P 3 8)
noncomputable def zgx1 : Vl := .go 1 [(42, (.c 0)), (40, (.c 100000000)), (9, (.c 0)), (8, (.v 22)), (7, (.c 0)), (6, (.c 0)), (5, (.c 0)), (4, (.v 21)), (3, (.v 20)), (2, (.v 20)), (1, (.c 0)), (0, (.c 0)), (64, (.c 1))] [(12, (.c false)), (11, (.c false)), (10, (.c false))] [(0, zge14)] (((.lt (.v 41) (.v 43)), false) :: zgf0) (.code (.loop (loopB (prm3 Tryd.prog).P 3 15))) (loopK (prm3 Tryd.prog).P 3 15)
noncomputable def zgls : List Vl := [zgx0, zgx1]
theorem zgrun : (run (prm3 Tryd.prog) 600 (ptD (pts3 Tryd.prog) 0 3)).map (vOf (prm3 Tryd.prog) ct3 (pts3 Tryd.prog)) = zgls := by kernel_rfl
-- 2 ways; terms: zge0, zge1, zge2, zge3, zge4, zge5, zge6, zge7, zge8, zge9, zge10, zge11, zge12, zge13, zge14
noncomputable def zhe0 : SE := .add (.v 42) (.c 1)
noncomputable def zhe1 : SE := .ite (.eq (.v 1004) (.c 11)) (.v 1006) (.v 40)
noncomputable def zhe2 : AE := .tl (.v 0) (.c 0) (.i (.v 0) (.i (.v 1) (.i (.v 2) (.i (.v 3) (.i (.v 4) (.i (.v 5) (.i (.v 6) (.i (.v 7) (.i (.v 8) (.i (.v 9) (.b (.v 10) (.b (.v 11) .nil))))))))))))
noncomputable def zhe3 : SE := .mul (.v 1000) (.c 1000000)
noncomputable def zhe4 : SE := .add (.v 64) zhe3
noncomputable def zhe5 : SE := .ap 20 (.i (.c 9) (.a zhe2 (.i (.v 40) (.b (.v 12) (.a (.v 0) (.i (.v 1004) (.i (.v 1005) (.i (.v 1006) (.i (.v 1007) (.i zhe4 (.b (.v 1004) .nil)))))))))))
noncomputable def zhe6 : SE := .ap 20 (.i (.c 8) (.a zhe2 (.i (.v 40) (.b (.v 12) (.a (.v 0) (.i (.v 1004) (.i (.v 1005) (.i (.v 1006) (.i (.v 1007) (.i zhe4 (.b (.v 1004) .nil)))))))))))
noncomputable def zhe7 : SE := .ap 20 (.i (.c 7) (.a zhe2 (.i (.v 40) (.b (.v 12) (.a (.v 0) (.i (.v 1004) (.i (.v 1005) (.i (.v 1006) (.i (.v 1007) (.i zhe4 (.b (.v 1004) .nil)))))))))))
noncomputable def zhe8 : SE := .ap 20 (.i (.c 6) (.a zhe2 (.i (.v 40) (.b (.v 12) (.a (.v 0) (.i (.v 1004) (.i (.v 1005) (.i (.v 1006) (.i (.v 1007) (.i zhe4 (.b (.v 1004) .nil)))))))))))
noncomputable def zhe9 : SE := .ap 20 (.i (.c 5) (.a zhe2 (.i (.v 40) (.b (.v 12) (.a (.v 0) (.i (.v 1004) (.i (.v 1005) (.i (.v 1006) (.i (.v 1007) (.i zhe4 (.b (.v 1004) .nil)))))))))))
noncomputable def zhe10 : SE := .ap 20 (.i (.c 4) (.a zhe2 (.i (.v 40) (.b (.v 12) (.a (.v 0) (.i (.v 1004) (.i (.v 1005) (.i (.v 1006) (.i (.v 1007) (.i zhe4 (.b (.v 1004) .nil)))))))))))
noncomputable def zhe11 : SE := .ap 20 (.i (.c 3) (.a zhe2 (.i (.v 40) (.b (.v 12) (.a (.v 0) (.i (.v 1004) (.i (.v 1005) (.i (.v 1006) (.i (.v 1007) (.i zhe4 (.b (.v 1004) .nil)))))))))))
noncomputable def zhe12 : SE := .ap 20 (.i (.c 2) (.a zhe2 (.i (.v 40) (.b (.v 12) (.a (.v 0) (.i (.v 1004) (.i (.v 1005) (.i (.v 1006) (.i (.v 1007) (.i zhe4 (.b (.v 1004) .nil)))))))))))
noncomputable def zhe13 : SE := .ap 20 (.i (.c 1) (.a zhe2 (.i (.v 40) (.b (.v 12) (.a (.v 0) (.i (.v 1004) (.i (.v 1005) (.i (.v 1006) (.i (.v 1007) (.i zhe4 (.b (.v 1004) .nil)))))))))))
noncomputable def zhe14 : SE := .ap 20 (.i (.c 0) (.a zhe2 (.i (.v 40) (.b (.v 12) (.a (.v 0) (.i (.v 1004) (.i (.v 1005) (.i (.v 1006) (.i (.v 1007) (.i zhe4 (.b (.v 1004) .nil)))))))))))
noncomputable def zhe15 : SE := .mul (.v 42) (.c 8)
noncomputable def zhe16 : SE := .ap 21 (.i (.c 0) (.a zhe2 (.i (.v 40) (.b (.v 12) (.a (.v 0) (.i (.v 1004) (.i (.v 1005) (.i (.v 1006) (.i (.v 1007) (.i zhe4 (.b (.v 1004) .nil)))))))))))
noncomputable def zhe17 : SE := .ap 21 (.i (.c 1) (.a zhe2 (.i (.v 40) (.b (.v 12) (.a (.v 0) (.i (.v 1004) (.i (.v 1005) (.i (.v 1006) (.i (.v 1007) (.i zhe4 (.b (.v 1004) .nil)))))))))))
noncomputable def zhe18 : SE := .ap 21 (.i (.c 2) (.a zhe2 (.i (.v 40) (.b (.v 12) (.a (.v 0) (.i (.v 1004) (.i (.v 1005) (.i (.v 1006) (.i (.v 1007) (.i zhe4 (.b (.v 1004) .nil)))))))))))
noncomputable def zhe19 : SE := .ap 21 (.i (.c 3) (.a zhe2 (.i (.v 40) (.b (.v 12) (.a (.v 0) (.i (.v 1004) (.i (.v 1005) (.i (.v 1006) (.i (.v 1007) (.i zhe4 (.b (.v 1004) .nil)))))))))))
noncomputable def zhe20 : SE := .ap 21 (.i (.c 4) (.a zhe2 (.i (.v 40) (.b (.v 12) (.a (.v 0) (.i (.v 1004) (.i (.v 1005) (.i (.v 1006) (.i (.v 1007) (.i zhe4 (.b (.v 1004) .nil)))))))))))
noncomputable def zhe21 : SE := .ap 21 (.i (.c 5) (.a zhe2 (.i (.v 40) (.b (.v 12) (.a (.v 0) (.i (.v 1004) (.i (.v 1005) (.i (.v 1006) (.i (.v 1007) (.i zhe4 (.b (.v 1004) .nil)))))))))))
noncomputable def zhe22 : SE := .ap 21 (.i (.c 6) (.a zhe2 (.i (.v 40) (.b (.v 12) (.a (.v 0) (.i (.v 1004) (.i (.v 1005) (.i (.v 1006) (.i (.v 1007) (.i zhe4 (.b (.v 1004) .nil)))))))))))
noncomputable def zhe23 : SE := .ap 21 (.i (.c 7) (.a zhe2 (.i (.v 40) (.b (.v 12) (.a (.v 0) (.i (.v 1004) (.i (.v 1005) (.i (.v 1006) (.i (.v 1007) (.i zhe4 (.b (.v 1004) .nil)))))))))))
noncomputable def zhe24 : AE := .tl (.v 7) zhe15 (.i zhe16 (.i zhe17 (.b (.not (.eq zhe18 (.c 0))) (.b (.not (.eq zhe19 (.c 0))) (.i zhe20 (.i zhe21 (.i zhe22 (.i zhe23 .nil))))))))
noncomputable def zhe25 : SE := .mul (.v 42) (.c 6)
noncomputable def zhe26 : AE := .tl (.v 6) zhe25 (.i (.v 1004) (.i (.v 1005) (.i (.v 1006) (.i (.v 1007) (.i zhe4 (.b (.v 1004) .nil))))))
noncomputable def zhe27 : AE := .ap 1 (.a zhe2 (.i (.v 40) (.b (.v 12) (.a (.v 0) (.i (.v 1004) (.i (.v 1005) (.i (.v 1006) (.i (.v 1007) (.i zhe4 (.b (.v 1004) .nil))))))))))
noncomputable def zhe28 : SE := .add (.v 1008) (.v 1009)
noncomputable def zhe29 : SE := .mul (.v 1005) (.c 12)
noncomputable def zhe30 : SE := .add zhe29 (.c 11)
noncomputable def zhe31 : SE := .rd (.v 0) zhe30
noncomputable def zhe32 : SE := .add zhe29 (.c 1)
noncomputable def zhe33 : SE := .rd (.v 0) zhe32
noncomputable def zhe34 : SE := .add zhe33 (.v 1006)
noncomputable def zhe35 : SE := .rd (.v 0) zhe29
noncomputable def zhe36 : SE := .add zhe29 (.c 7)
noncomputable def zhe37 : SE := .rd (.v 0) zhe36
noncomputable def zhe38 : SE := .add zhe37 (.v 1006)
noncomputable def zhe39 : SE := .add zhe29 (.c 8)
noncomputable def zhe40 : SE := .rd (.v 0) zhe39
noncomputable def zhe41 : SE := .add (.v 7) (.v 1006)
noncomputable def zhe42 : SE := .add zhe35 (.c 510)
noncomputable def zhe43 : SE := .add (.v 1001) (.v 1002)
noncomputable def zhe44 : SE := .add (.v 51) (.v 52)
noncomputable def zhe45 : AE := .ap 0 (.i (.v 20) (.i (.v 21) (.i (.v 22) (.a (.v 2) (.a zhe26 .nil)))))
noncomputable def zhe46 : AE := .ap 0 (.i (.v 20) (.i (.v 21) (.i (.v 22) (.a (.v 2) (.a (.v 6) .nil)))))
noncomputable def zhf0 : Fx := [((.le (.c 0) (.v 50)), true), ((.le (.v 50) (.c 4294967296)), true), ((.le (.c 0) (.v 51)), true), ((.le (.v 51) (.c 4294967296)), true), ((.le (.c 0) (.v 52)), true), ((.le (.v 52) (.c 4294967296)), true), ((.le (.c 0) (.v 53)), true), ((.le (.v 53) (.c 9223372036854775807)), true), ((.le (.v 52) (.v 53)), true), ((.le zhe44 (.v 50)), true), ((.ap 1 (.a (.v 5) (.i (.v 50) .nil))), true), ((.le (.c 0) (.v 22)), true), ((.le (.v 22) (.c 1020)), true), ((.le (.c 1) (.v 41)), true), ((.le (.v 41) (.c 3)), true), ((.le (.c 0) (.v 42)), true), ((.le (.v 42) (.c 60)), true), ((.le (.c 0) (.v 64)), true), ((.le (.v 64) (.c 900000000000000000)), true), ((.le (.c 0) (.v 0)), true), ((.le (.v 0) (.c 1000000)), true), ((.le (.c 0) (.v 2)), true), ((.le (.v 2) (.c 1000000)), true), ((.le (.c 0) (.v 7)), true), ((.le (.v 7) (.c 1000000)), true), ((.le (.c 0) (.v 8)), true), ((.le (.v 8) (.c 1000000)), true), ((.le (.v 7) (.v 8)), true), ((.le (.v 0) (.v 2)), true), ((.ap 2 (.a (.v 0) (.i (.v 41) .nil))), true)]
noncomputable def zhf1 : Fx := ((.le (.c 0) (.v 1004)), true) :: ((.le (.v 1004) (.c 11)), true) :: ((.le (.c 0) (.v 1005)), true) :: ((.lt (.v 1005) (.v 41)), true) :: ((.le (.c 0) (.v 1006)), true) :: ((.le (.v 1006) (.c 260000000)), true) :: ((.le (.c 0) (.v 1007)), true) :: ((.le (.v 1007) (.c 1000000)), true) :: ((.le (.c 0) (.v 1008)), true) :: ((.le (.v 1008) (.c 4294967296)), true) :: ((.le (.c 0) (.v 1009)), true) :: ((.le (.v 1009) (.c 4294967296)), true) :: ((.le (.c 0) (.v 1010)), true) :: ((.le (.v 1010) (.c 9223372036854775807)), true) :: ((.le (.v 1009) (.v 1010)), true) :: ((.le zhe28 (.v 50)), true) :: ((.le (.v 1009) (.v 1002)), true) :: ((.and (.lt (.c 0) (.v 1002)) (.not (.lt (.v 1009) (.v 1002)))), false) :: ((.and (.and (.v 1005) (.not (.eq zhe31 (.c 0)))) (.not (.lt (.c 3) (.v 1004)))), false) :: ((.and (.eq (.v 1004) (.c 1)) (.not (.le zhe34 zhe35))), false) :: ((.and (.eq (.v 1004) (.c 7)) (.not (.le zhe38 zhe40))), false) :: ((.and (.eq (.v 1004) (.c 7)) (.not (.le zhe41 (.v 8)))), false) :: ((.and (.eq (.v 1004) (.c 11)) (.not (.le (.c 1000000) (.v 1006)))), false) :: ((.and (.and (.v 1005) (.eq (.v 1004) (.c 11))) (.v 12)), false) :: ((.and (.lt (.v 1004) (.c 11)) (.not (.le (.v 1006) (.c 1000000)))), false) :: ((.le (.v 1007) zhe42), true) :: ((.le (.c 0) (.v 1000)), true) :: ((.le (.v 1000) (.c 255)), true) :: ((.le (.c 0) (.v 1001)), true) :: ((.le (.v 1001) (.c 4294967296)), true) :: ((.le (.c 0) (.v 1002)), true) :: ((.le (.v 1002) (.c 4294967296)), true) :: ((.le (.c 0) (.v 1003)), true) :: ((.le (.v 1003) (.c 9223372036854775807)), true) :: ((.le (.v 1002) (.v 1003)), true) :: ((.le zhe43 (.v 50)), true) :: ((.le (.v 1002) (.v 52)), true) :: ((.and (.lt (.c 0) (.v 52)) (.not (.lt (.v 1002) (.v 52)))), false) :: ((.lt (.c 0) (.v 52)), true) :: ((.lt (.v 42) (.c 60)), true) :: zhf0
noncomputable def zhf2 : Fx := ((.ap 3 (.a zhe2 (.i (.v 40) (.b (.v 12) (.a (.v 0) (.i (.v 1004) (.i (.v 1005) (.i (.v 1006) (.i (.v 1007) (.i zhe4 (.b (.v 1004) (.i (.v 41) .nil)))))))))))), true) :: ((.v 1005), true) :: zhf1
noncomputable def zhf3 : Fx := ((.lt (.c 0) (.v 52)), false) :: ((.lt (.v 42) (.c 60)), true) :: zhf0
noncomputable def zhx0 : Vl := .go 1 [(42, zhe0), (40, zhe1), (9, zhe5), (8, zhe6), (7, zhe7), (6, zhe8), (5, zhe9), (4, zhe10), (3, zhe11), (2, zhe12), (1, zhe13), (0, zhe14), (53, (.v 1010)), (52, (.v 1009)), (51, (.v 1008)), (64, zhe4)] [(12, (.not (.and (.not (.eq (.v 1004) (.c 11))) (.not (.v 12)))))] [(7, zhe24), (6, zhe26), (0, zhe27)] (((.eq zhe16 (.c 0)), true) :: zhf2) (.exit .normal) (.loop (loopB (prm3 Tryd.prog).P 3 15) :: loopK (prm3 Tryd.prog).P 3 15)
noncomputable def zhx1 : Vl := .go 2 [(44, (.c 0)), (42, zhe0)] [] [(8, zhe45), (7, zhe24)] (((.ap 0 (.i (.v 20) (.i (.v 21) (.i (.v 22) (.a (.v 2) (.i (.v 41) (.a zhe26 (.i zhe0 .nil)))))))), true) :: ((.eq zhe16 (.c 0)), false) :: zhf2) (.code (.loop (loopB (prm3 Tryd.prog).P 3 26))) (loopK (prm3 Tryd.prog).P 3 26)
noncomputable def zhx2 : Vl := .dead (((.ap 0 (.i (.v 20) (.i (.v 21) (.i (.v 22) (.a (.v 2) (.i (.v 41) (.a zhe26 (.i zhe0 .nil)))))))), false) :: ((.eq zhe16 (.c 0)), false) :: zhf2)
noncomputable def zhx9 : Vl := .dead (((.ap 3 (.a zhe2 (.i (.v 40) (.b (.v 12) (.a (.v 0) (.i (.v 1004) (.i (.v 1005) (.i (.v 1006) (.i (.v 1007) (.i zhe4 (.b (.v 1004) (.i (.v 41) .nil)))))))))))), false) :: ((.v 1005), true) :: zhf1)
noncomputable def zhx10 : Vl := .go 1 [(53, (.v 1010)), (52, (.v 1009)), (51, (.v 1008)), (64, zhe4)] [] [] (((.v 1005), false) :: zhf1) (.exit .normal) (.loop (loopB (prm3 Tryd.prog).P 3 15) :: loopK (prm3 Tryd.prog).P 3 15)
noncomputable def zhx11 : Vl := .go 2 [(44, (.c 0))] [] [(8, zhe46)] (((.ap 0 (.i (.v 20) (.i (.v 21) (.i (.v 22) (.a (.v 2) (.i (.v 41) (.a (.v 6) (.i (.v 42) .nil)))))))), true) :: zhf3) (.code (.loop (loopB (prm3 Tryd.prog).P 3 26))) (loopK (prm3 Tryd.prog).P 3 26)
noncomputable def zhx12 : Vl := .dead (((.ap 0 (.i (.v 20) (.i (.v 21) (.i (.v 22) (.a (.v 2) (.i (.v 41) (.a (.v 6) (.i (.v 42) .nil)))))))), false) :: zhf3)
noncomputable def zhx13 : Vl := .go 2 [(44, (.c 0))] [] [(8, zhe46)] (((.ap 0 (.i (.v 20) (.i (.v 21) (.i (.v 22) (.a (.v 2) (.i (.v 41) (.a (.v 6) (.i (.v 42) .nil)))))))), true) :: ((.lt (.v 42) (.c 60)), false) :: zhf0) (.code (.loop (loopB (prm3 Tryd.prog).P 3 26))) (loopK (prm3 Tryd.prog).P 3 26)
noncomputable def zhx14 : Vl := .dead (((.ap 0 (.i (.v 20) (.i (.v 21) (.i (.v 22) (.a (.v 2) (.i (.v 41) (.a (.v 6) (.i (.v 42) .nil)))))))), false) :: ((.lt (.v 42) (.c 60)), false) :: zhf0)
noncomputable def zhls : List Vl := [zhx0, zhx1, zhx2, zhx0, zhx1, zhx2, zhx0, zhx1, zhx2, zhx9, zhx10, zhx11, zhx12, zhx13, zhx14]
theorem zhrun : (run (prm3 Tryd.prog) 600 (ptD (pts3 Tryd.prog) 1 3)).map (vOf (prm3 Tryd.prog) ct3 (pts3 Tryd.prog)) = zhls := by kernel_rfl
-- 15 ways; terms: zhe0, zhe1, zhe2, zhe3, zhe4, zhe5, zhe6, zhe7, zhe8, zhe9, zhe10, zhe11, zhe12, zhe13, zhe14, zhe15, zhe16, zhe17, zhe18, zhe19, zhe20, zhe21, zhe22, zhe23, zhe24, zhe25, zhe26, zhe27, zhe28, zhe29, zhe30, zhe31, zhe32, zhe33, zhe34, zhe35, zhe36, zhe37, zhe38, zhe39, zhe40, zhe41, zhe42, zhe43, zhe44, zhe45, zhe46
noncomputable def zie0 : SE := .add (.v 44) (.c 1)
noncomputable def zie1 : SE := .mul (.v 44) (.c 8)
noncomputable def zie2 : SE := .rd (.v 8) zie1
noncomputable def zie3 : SE := .rd (.v 7) zie1
noncomputable def zie4 : SE := .add zie1 (.c 1)
noncomputable def zie5 : SE := .rd (.v 8) zie4
noncomputable def zie6 : SE := .rd (.v 7) zie4
noncomputable def zie7 : SE := .add zie1 (.c 2)
noncomputable def zie8 : SE := .rd (.v 8) zie7
noncomputable def zie9 : SE := .rd (.v 7) zie7
noncomputable def zie10 : SE := .add zie1 (.c 3)
noncomputable def zie11 : SE := .rd (.v 8) zie10
noncomputable def zie12 : SE := .rd (.v 7) zie10
noncomputable def zie13 : SE := .add zie1 (.c 4)
noncomputable def zie14 : SE := .rd (.v 8) zie13
noncomputable def zie15 : SE := .rd (.v 7) zie13
noncomputable def zie16 : SE := .add zie1 (.c 5)
noncomputable def zie17 : SE := .rd (.v 8) zie16
noncomputable def zie18 : SE := .rd (.v 7) zie16
noncomputable def zie19 : SE := .add zie1 (.c 6)
noncomputable def zie20 : SE := .rd (.v 8) zie19
noncomputable def zie21 : SE := .rd (.v 7) zie19
noncomputable def zie22 : SE := .add zie1 (.c 7)
noncomputable def zie23 : SE := .rd (.v 8) zie22
noncomputable def zie24 : SE := .rd (.v 7) zie22
noncomputable def zif0 : Fx := [((.le (.c 0) (.v 42)), true), ((.le (.v 42) (.c 60)), true), ((.le (.c 0) (.v 44)), true), ((.le (.v 44) (.c 60)), true)]
noncomputable def zif1 : Fx := ((.eq zie3 (.c 0)), true) :: ((.lt (.v 44) (.v 42)), true) :: zif0
noncomputable def zif2 : Fx := ((.eq zie3 (.c 0)), false) :: ((.lt (.v 44) (.v 42)), true) :: zif0
noncomputable def zix0 : Vl := .go 2 [(44, zie0)] [] [] (((.and (.eq zie2 zie3) (.and (.eq zie5 zie6) (.and (.beq (.not (.eq zie8 (.c 0))) (.not (.eq zie9 (.c 0)))) (.and (.beq (.not (.eq zie11 (.c 0))) (.not (.eq zie12 (.c 0)))) (.and (.eq zie14 zie15) (.and (.eq zie17 zie18) (.and (.eq zie20 zie21) (.eq zie23 zie24)))))))), true) :: zif1) (.exit .normal) (.loop (loopB (prm3 Tryd.prog).P 3 26) :: loopK (prm3 Tryd.prog).P 3 26)
noncomputable def zix1 : Vl := .out 0 [.b (.c false) (.c true), .a (.v 5) (.v 5) (.v 50) 1, .i (.v 50) (.v 50)] (((.and (.eq zie2 zie3) (.and (.eq zie5 zie6) (.and (.beq (.not (.eq zie8 (.c 0))) (.not (.eq zie9 (.c 0)))) (.and (.beq (.not (.eq zie11 (.c 0))) (.not (.eq zie12 (.c 0)))) (.and (.eq zie14 zie15) (.and (.eq zie17 zie18) (.and (.eq zie20 zie21) (.eq zie23 zie24)))))))), false) :: zif1)
noncomputable def zix2 : Vl := .go 2 [(44, zie0)] [] [] (((.eq zie2 zie3), true) :: zif2) (.exit .normal) (.loop (loopB (prm3 Tryd.prog).P 3 26) :: loopK (prm3 Tryd.prog).P 3 26)
noncomputable def zix3 : Vl := .out 0 [.b (.c false) (.c true), .a (.v 5) (.v 5) (.v 50) 1, .i (.v 50) (.v 50)] (((.eq zie2 zie3), false) :: zif2)
noncomputable def zix4 : Vl := .out 0 [.a (.v 5) (.v 5) (.v 50) 1, .i (.v 50) (.v 50)] (((.lt (.v 44) (.v 42)), false) :: zif0)
noncomputable def zils : List Vl := [zix0, zix1, zix2, zix3, zix4]
theorem zirun : (run (prm3 Tryd.prog) 600 (ptD (pts3 Tryd.prog) 2 3)).map (vOf (prm3 Tryd.prog) ct3 (pts3 Tryd.prog)) = zils := by kernel_rfl
-- 5 ways; terms: zie0, zie1, zie2, zie3, zie4, zie5, zie6, zie7, zie8, zie9, zie10, zie11, zie12, zie13, zie14, zie15, zie16, zie17, zie18, zie19, zie20, zie21, zie22, zie23, zie24
noncomputable def zje0 : AE := .tl (.v 0) (.c 0) (.i (.c 4) (.i (.c 4) (.i (.c 0) .nil)))
noncomputable def zjx0 : Vl := .out 0 [] [((.ap 0 (.i (.c 8) (.i (.c 8) (.i (.c 0) (.a zje0 (.i (.c 1) (.a (.v 0) (.i (.c 0) .nil)))))))), true)]
noncomputable def zjx1 : Vl := .dead [((.ap 0 (.i (.c 8) (.i (.c 8) (.i (.c 0) (.a zje0 (.i (.c 1) (.a (.v 0) (.i (.c 0) .nil)))))))), false)]
noncomputable def zjls : List Vl := [zjx0, zjx1]
end Go.Proofs.YtpjifimjoinnnaaDoor
