/- The table facts as instances. No condition. bytes.growSlice, walked: the bytes in a new row that has room for n more of them. For at most 2^40 bytes. -/
import Derived.Test.YtjkpfliaflmppaaW4x05
import Derived.Test.YtjkpfliaflmppaaW4x03
import Derived.Test.YtjkpfliaflmppaaW4x04
import Derived.Recover

namespace Go.Proofs.Ytjkpfliaflmppaa.Tb
open Go Go.Proofs.Ytjkpfliaflmppaa.Vm

instance : CelC Try.prog 0 1 := ⟨c0⟩
instance : PlainC Try.prog 0 := ⟨p0⟩
instance : NonIfC Try.prog 0 := ⟨n0⟩
instance : CelC Try.prog 1 1 := ⟨c1⟩
instance : PlainC Try.prog 1 := ⟨p1⟩
instance : NonIfC Try.prog 1 := ⟨n1⟩
instance : CelC Try.prog 2 1 := ⟨c2⟩
instance : UndC Try.prog 2 (.int .i64) := ⟨u2⟩
instance : PlainC Try.prog 2 := ⟨p2⟩
instance : NonIfC Try.prog 2 := ⟨n2⟩
instance : CelC Try.prog 3 1 := ⟨c3⟩
instance : UndC Try.prog 3 (.int .i64) := ⟨u3⟩
instance : PlainC Try.prog 3 := ⟨p3⟩
instance : NonIfC Try.prog 3 := ⟨n3⟩
instance : CelC Try.prog 4 1 := ⟨c4⟩
instance : PlainC Try.prog 4 := ⟨p4⟩
instance : NonIfC Try.prog 4 := ⟨n4⟩
instance : CelC Try.prog 5 1 := ⟨c5⟩
instance : UndC Try.prog 5 (.int .u8) := ⟨u5⟩
instance : PlainC Try.prog 5 := ⟨p5⟩
instance : NonIfC Try.prog 5 := ⟨n5⟩
instance : CelC Try.prog 6 1 := ⟨c6⟩
instance : UndC Try.prog 6 (.int .u8) := ⟨u6⟩
instance : PlainC Try.prog 6 := ⟨p6⟩
instance : NonIfC Try.prog 6 := ⟨n6⟩
instance : CelC Try.prog 7 4 := ⟨c7⟩
instance : NonIfC Try.prog 7 := ⟨n7⟩
instance : CelC Try.prog 8 4 := ⟨c8⟩
instance : NonIfC Try.prog 8 := ⟨n8⟩
instance : CelC Try.prog 9 1 := ⟨c9⟩
instance : PlainC Try.prog 9 := ⟨p9⟩
instance : NonIfC Try.prog 9 := ⟨n9⟩
instance : CelC Try.prog 10 1 := ⟨c10⟩
instance : PlainC Try.prog 10 := ⟨p10⟩
instance : NonIfC Try.prog 10 := ⟨n10⟩
instance : CelC Try.prog 11 1 := ⟨c11⟩
instance : PlainC Try.prog 11 := ⟨p11⟩
instance : NonIfC Try.prog 11 := ⟨n11⟩
instance : CelC Try.prog 12 1 := ⟨c12⟩
instance : UndC Try.prog 12 (.int .u64) := ⟨u12⟩
instance : PlainC Try.prog 12 := ⟨p12⟩
instance : NonIfC Try.prog 12 := ⟨n12⟩
instance : CelC Try.prog 13 2 := ⟨c13⟩
instance : NonIfC Try.prog 13 := ⟨n13⟩
instance : CelC Try.prog 14 2 := ⟨c14⟩
instance : NonIfC Try.prog 14 := ⟨n14⟩
instance : CelC Try.prog 15 1 := ⟨c15⟩
instance : PlainC Try.prog 15 := ⟨p15⟩
instance : NonIfC Try.prog 15 := ⟨n15⟩
instance : CelC Try.prog 16 1 := ⟨c16⟩
instance : PlainC Try.prog 16 := ⟨p16⟩
instance : NonIfC Try.prog 16 := ⟨n16⟩
instance : CelC Try.prog 17 1 := ⟨c17⟩
instance : PlainC Try.prog 17 := ⟨p17⟩
instance : NonIfC Try.prog 17 := ⟨n17⟩
instance : CelC Try.prog 18 1 := ⟨c18⟩
instance : NonIfC Try.prog 18 := ⟨n18⟩
instance : CelC Try.prog 19 1 := ⟨c19⟩
instance : NonIfC Try.prog 19 := ⟨n19⟩
instance : CelC Try.prog 20 1 := ⟨c20⟩
instance : PlainC Try.prog 20 := ⟨p20⟩
instance : CelC Try.prog 21 1 := ⟨c21⟩
instance : UndC Try.prog 21 (.int .i32) := ⟨u21⟩
instance : PlainC Try.prog 21 := ⟨p21⟩
instance : NonIfC Try.prog 21 := ⟨n21⟩
instance : CelC Try.prog 22 1 := ⟨c22⟩
instance : UndC Try.prog 22 (.slice 5) := ⟨u22⟩
instance : PlainC Try.prog 22 := ⟨p22⟩
instance : NonIfC Try.prog 22 := ⟨n22⟩
instance : CelC Try.prog 23 1 := ⟨c23⟩
instance : UndC Try.prog 23 (.slice 42) := ⟨u23⟩
instance : PlainC Try.prog 23 := ⟨p23⟩
instance : NonIfC Try.prog 23 := ⟨n23⟩
instance : CelC Try.prog 24 1 := ⟨c24⟩
instance : PlainC Try.prog 24 := ⟨p24⟩
instance : NonIfC Try.prog 24 := ⟨n24⟩
instance : CelC Try.prog 25 1 := ⟨c25⟩
instance : PlainC Try.prog 25 := ⟨p25⟩
instance : NonIfC Try.prog 25 := ⟨n25⟩
instance : CelC Try.prog 26 1 := ⟨c26⟩
instance : PlainC Try.prog 26 := ⟨p26⟩
instance : NonIfC Try.prog 26 := ⟨n26⟩
instance : CelC Try.prog 27 1 := ⟨c27⟩
instance : PlainC Try.prog 27 := ⟨p27⟩
instance : NonIfC Try.prog 27 := ⟨n27⟩
instance : CelC Try.prog 28 1 := ⟨c28⟩
instance : PlainC Try.prog 28 := ⟨p28⟩
instance : NonIfC Try.prog 28 := ⟨n28⟩
instance : CelC Try.prog 29 1 := ⟨c29⟩
instance : PlainC Try.prog 29 := ⟨p29⟩
instance : NonIfC Try.prog 29 := ⟨n29⟩
instance : CelC Try.prog 30 1 := ⟨c30⟩
instance : PlainC Try.prog 30 := ⟨p30⟩
instance : NonIfC Try.prog 30 := ⟨n30⟩
instance : CelC Try.prog 31 1 := ⟨c31⟩
instance : PlainC Try.prog 31 := ⟨p31⟩
instance : NonIfC Try.prog 31 := ⟨n31⟩
instance : CelC Try.prog 32 1 := ⟨c32⟩
instance : UndC Try.prog 32 (.slice 76) := ⟨u32⟩
instance : PlainC Try.prog 32 := ⟨p32⟩
instance : NonIfC Try.prog 32 := ⟨n32⟩
instance : CelC Try.prog 33 1 := ⟨c33⟩
instance : PlainC Try.prog 33 := ⟨p33⟩
instance : NonIfC Try.prog 33 := ⟨n33⟩
instance : CelC Try.prog 34 1 := ⟨c34⟩
instance : UndC Try.prog 34 (.slice 69) := ⟨u34⟩
instance : PlainC Try.prog 34 := ⟨p34⟩
instance : NonIfC Try.prog 34 := ⟨n34⟩
instance : CelC Try.prog 35 1 := ⟨c35⟩
instance : PlainC Try.prog 35 := ⟨p35⟩
instance : NonIfC Try.prog 35 := ⟨n35⟩
instance : CelC Try.prog 36 1 := ⟨c36⟩
instance : PlainC Try.prog 36 := ⟨p36⟩
instance : NonIfC Try.prog 36 := ⟨n36⟩
instance : CelC Try.prog 37 1 := ⟨c37⟩
instance : PlainC Try.prog 37 := ⟨p37⟩
instance : NonIfC Try.prog 37 := ⟨n37⟩
instance : CelC Try.prog 38 1 := ⟨c38⟩
instance : PlainC Try.prog 38 := ⟨p38⟩
instance : NonIfC Try.prog 38 := ⟨n38⟩
instance : CelC Try.prog 39 1 := ⟨c39⟩
instance : PlainC Try.prog 39 := ⟨p39⟩
instance : NonIfC Try.prog 39 := ⟨n39⟩
instance : CelC Try.prog 40 1 := ⟨c40⟩
instance : UndC Try.prog 40 (.int .u32) := ⟨u40⟩
instance : PlainC Try.prog 40 := ⟨p40⟩
instance : NonIfC Try.prog 40 := ⟨n40⟩
instance : CelC Try.prog 41 4 := ⟨c41⟩
instance : NonIfC Try.prog 41 := ⟨n41⟩
instance : CelC Try.prog 42 4 := ⟨c42⟩
instance : NonIfC Try.prog 42 := ⟨n42⟩
instance : CelC Try.prog 43 1 := ⟨c43⟩
instance : PlainC Try.prog 43 := ⟨p43⟩
instance : NonIfC Try.prog 43 := ⟨n43⟩
instance : CelC Try.prog 44 1 := ⟨c44⟩
instance : PlainC Try.prog 44 := ⟨p44⟩
instance : NonIfC Try.prog 44 := ⟨n44⟩
instance : CelC Try.prog 45 1 := ⟨c45⟩
instance : PlainC Try.prog 45 := ⟨p45⟩
instance : NonIfC Try.prog 45 := ⟨n45⟩
instance : CelC Try.prog 46 1 := ⟨c46⟩
instance : UndC Try.prog 46 (.slice 40) := ⟨u46⟩
instance : PlainC Try.prog 46 := ⟨p46⟩
instance : NonIfC Try.prog 46 := ⟨n46⟩
instance : CelC Try.prog 47 1 := ⟨c47⟩
instance : PlainC Try.prog 47 := ⟨p47⟩
instance : NonIfC Try.prog 47 := ⟨n47⟩
instance : CelC Try.prog 48 1 := ⟨c48⟩
instance : PlainC Try.prog 48 := ⟨p48⟩
instance : NonIfC Try.prog 48 := ⟨n48⟩
instance : CelC Try.prog 49 1 := ⟨c49⟩
instance : UndC Try.prog 49 (.int .u64) := ⟨u49⟩
instance : PlainC Try.prog 49 := ⟨p49⟩
instance : NonIfC Try.prog 49 := ⟨n49⟩
instance : CelC Try.prog 50 1 := ⟨c50⟩
instance : PlainC Try.prog 50 := ⟨p50⟩
instance : NonIfC Try.prog 50 := ⟨n50⟩
instance : CelC Try.prog 51 1 := ⟨c51⟩
instance : PlainC Try.prog 51 := ⟨p51⟩
instance : NonIfC Try.prog 51 := ⟨n51⟩
instance : CelC Try.prog 52 5 := ⟨c52⟩
instance : UndC Try.prog 52 (.array 5 4) := ⟨u52⟩
instance : NonIfC Try.prog 52 := ⟨n52⟩
instance : CelC Try.prog 53 1 := ⟨c53⟩
instance : PlainC Try.prog 53 := ⟨p53⟩
instance : NonIfC Try.prog 53 := ⟨n53⟩
instance : CelC Try.prog 54 1 := ⟨c54⟩
instance : PlainC Try.prog 54 := ⟨p54⟩
instance : NonIfC Try.prog 54 := ⟨n54⟩
instance : CelC Try.prog 55 1 := ⟨c55⟩
instance : PlainC Try.prog 55 := ⟨p55⟩
instance : NonIfC Try.prog 55 := ⟨n55⟩
instance : CelC Try.prog 56 1 := ⟨c56⟩
instance : PlainC Try.prog 56 := ⟨p56⟩
instance : NonIfC Try.prog 56 := ⟨n56⟩
instance : CelC Try.prog 57 1 := ⟨c57⟩
instance : PlainC Try.prog 57 := ⟨p57⟩
instance : NonIfC Try.prog 57 := ⟨n57⟩
instance : CelC Try.prog 58 1 := ⟨c58⟩
instance : UndC Try.prog 58 (.int .u64) := ⟨u58⟩
instance : PlainC Try.prog 58 := ⟨p58⟩
instance : NonIfC Try.prog 58 := ⟨n58⟩
instance : CelC Try.prog 59 1 := ⟨c59⟩
instance : PlainC Try.prog 59 := ⟨p59⟩
instance : NonIfC Try.prog 59 := ⟨n59⟩
instance : CelC Try.prog 60 1 := ⟨c60⟩
instance : PlainC Try.prog 60 := ⟨p60⟩
instance : NonIfC Try.prog 60 := ⟨n60⟩
instance : CelC Try.prog 61 1 := ⟨c61⟩
instance : PlainC Try.prog 61 := ⟨p61⟩
instance : NonIfC Try.prog 61 := ⟨n61⟩
instance : CelC Try.prog 62 1 := ⟨c62⟩
instance : PlainC Try.prog 62 := ⟨p62⟩
instance : NonIfC Try.prog 62 := ⟨n62⟩
instance : CelC Try.prog 63 1 := ⟨c63⟩
instance : UndC Try.prog 63 (.slice 49) := ⟨u63⟩
instance : PlainC Try.prog 63 := ⟨p63⟩
instance : NonIfC Try.prog 63 := ⟨n63⟩
instance : CelC Try.prog 64 1 := ⟨c64⟩
instance : PlainC Try.prog 64 := ⟨p64⟩
instance : NonIfC Try.prog 64 := ⟨n64⟩
instance : CelC Try.prog 65 1 := ⟨c65⟩
instance : PlainC Try.prog 65 := ⟨p65⟩
instance : NonIfC Try.prog 65 := ⟨n65⟩
instance : CelC Try.prog 66 1 := ⟨c66⟩
instance : PlainC Try.prog 66 := ⟨p66⟩
instance : NonIfC Try.prog 66 := ⟨n66⟩
instance : CelC Try.prog 67 1 := ⟨c67⟩
instance : PlainC Try.prog 67 := ⟨p67⟩
instance : NonIfC Try.prog 67 := ⟨n67⟩
instance : CelC Try.prog 68 2 := ⟨c68⟩
instance : NonIfC Try.prog 68 := ⟨n68⟩
instance : CelC Try.prog 69 2 := ⟨c69⟩
instance : NonIfC Try.prog 69 := ⟨n69⟩
instance : CelC Try.prog 70 1 := ⟨c70⟩
instance : PlainC Try.prog 70 := ⟨p70⟩
instance : NonIfC Try.prog 70 := ⟨n70⟩
instance : CelC Try.prog 71 1 := ⟨c71⟩
instance : PlainC Try.prog 71 := ⟨p71⟩
instance : NonIfC Try.prog 71 := ⟨n71⟩
instance : CelC Try.prog 72 1 := ⟨c72⟩
instance : PlainC Try.prog 72 := ⟨p72⟩
instance : NonIfC Try.prog 72 := ⟨n72⟩
instance : CelC Try.prog 73 1 := ⟨c73⟩
instance : PlainC Try.prog 73 := ⟨p73⟩
instance : NonIfC Try.prog 73 := ⟨n73⟩
instance : CelC Try.prog 74 1 := ⟨c74⟩
instance : PlainC Try.prog 74 := ⟨p74⟩
instance : NonIfC Try.prog 74 := ⟨n74⟩
instance : CelC Try.prog 75 4 := ⟨c75⟩
instance : NonIfC Try.prog 75 := ⟨n75⟩
instance : CelC Try.prog 76 4 := ⟨c76⟩
instance : NonIfC Try.prog 76 := ⟨n76⟩
instance : CelC Try.prog 77 1 := ⟨c77⟩
instance : PlainC Try.prog 77 := ⟨p77⟩
instance : NonIfC Try.prog 77 := ⟨n77⟩
instance : CelC Try.prog 78 1 := ⟨c78⟩
instance : UndC Try.prog 78 (.slice 146) := ⟨u78⟩
instance : PlainC Try.prog 78 := ⟨p78⟩
instance : NonIfC Try.prog 78 := ⟨n78⟩
instance : CelC Try.prog 79 1 := ⟨c79⟩
instance : UndC Try.prog 79 (.slice 146) := ⟨u79⟩
instance : PlainC Try.prog 79 := ⟨p79⟩
instance : NonIfC Try.prog 79 := ⟨n79⟩
instance : CelC Try.prog 80 1 := ⟨c80⟩
instance : PlainC Try.prog 80 := ⟨p80⟩
instance : NonIfC Try.prog 80 := ⟨n80⟩
instance : CelC Try.prog 81 1 := ⟨c81⟩
instance : PlainC Try.prog 81 := ⟨p81⟩
instance : CelC Try.prog 82 1 := ⟨c82⟩
instance : PlainC Try.prog 82 := ⟨p82⟩
instance : CelC Try.prog 83 1 := ⟨c83⟩
instance : PlainC Try.prog 83 := ⟨p83⟩
instance : NonIfC Try.prog 83 := ⟨n83⟩
instance : CelC Try.prog 84 1 := ⟨c84⟩
instance : PlainC Try.prog 84 := ⟨p84⟩
instance : NonIfC Try.prog 84 := ⟨n84⟩
instance : CelC Try.prog 85 1 := ⟨c85⟩
instance : PlainC Try.prog 85 := ⟨p85⟩
instance : NonIfC Try.prog 85 := ⟨n85⟩
instance : CelC Try.prog 86 1 := ⟨c86⟩
instance : PlainC Try.prog 86 := ⟨p86⟩
instance : NonIfC Try.prog 86 := ⟨n86⟩
instance : CelC Try.prog 87 1 := ⟨c87⟩
instance : UndC Try.prog 87 (.slice 5) := ⟨u87⟩
instance : PlainC Try.prog 87 := ⟨p87⟩
instance : NonIfC Try.prog 87 := ⟨n87⟩
instance : CelC Try.prog 88 1 := ⟨c88⟩
instance : PlainC Try.prog 88 := ⟨p88⟩
instance : NonIfC Try.prog 88 := ⟨n88⟩
instance : CelC Try.prog 89 1 := ⟨c89⟩
instance : PlainC Try.prog 89 := ⟨p89⟩
instance : NonIfC Try.prog 89 := ⟨n89⟩
instance : CelC Try.prog 90 1 := ⟨c90⟩
instance : PlainC Try.prog 90 := ⟨p90⟩
instance : NonIfC Try.prog 90 := ⟨n90⟩
instance : CelC Try.prog 91 1 := ⟨c91⟩
instance : UndC Try.prog 91 (.int .i8) := ⟨u91⟩
instance : PlainC Try.prog 91 := ⟨p91⟩
instance : NonIfC Try.prog 91 := ⟨n91⟩
instance : CelC Try.prog 92 1 := ⟨c92⟩
instance : UndC Try.prog 92 (.int .i8) := ⟨u92⟩
instance : PlainC Try.prog 92 := ⟨p92⟩
instance : NonIfC Try.prog 92 := ⟨n92⟩
instance : CelC Try.prog 93 3 := ⟨c93⟩
instance : NonIfC Try.prog 93 := ⟨n93⟩
instance : CelC Try.prog 94 3 := ⟨c94⟩
instance : NonIfC Try.prog 94 := ⟨n94⟩
instance : CelC Try.prog 95 1 := ⟨c95⟩
instance : PlainC Try.prog 95 := ⟨p95⟩
instance : CelC Try.prog 96 1 := ⟨c96⟩
instance : PlainC Try.prog 96 := ⟨p96⟩
instance : CelC Try.prog 97 512 := ⟨c97⟩
instance : UndC Try.prog 97 (.array 512 5) := ⟨u97⟩
instance : NonIfC Try.prog 97 := ⟨n97⟩
instance : CelC Try.prog 98 518 := ⟨c98⟩
instance : NonIfC Try.prog 98 := ⟨n98⟩
instance : CelC Try.prog 99 518 := ⟨c99⟩
instance : NonIfC Try.prog 99 := ⟨n99⟩
instance : CelC Try.prog 100 1 := ⟨c100⟩
instance : PlainC Try.prog 100 := ⟨p100⟩
instance : NonIfC Try.prog 100 := ⟨n100⟩
instance : CelC Try.prog 101 1 := ⟨c101⟩
instance : PlainC Try.prog 101 := ⟨p101⟩
instance : NonIfC Try.prog 101 := ⟨n101⟩
instance : CelC Try.prog 102 3 := ⟨c102⟩
instance : NonIfC Try.prog 102 := ⟨n102⟩
instance : CelC Try.prog 103 3 := ⟨c103⟩
instance : NonIfC Try.prog 103 := ⟨n103⟩
instance : CelC Try.prog 104 1 := ⟨c104⟩
instance : PlainC Try.prog 104 := ⟨p104⟩
instance : NonIfC Try.prog 104 := ⟨n104⟩
instance : CelC Try.prog 105 1 := ⟨c105⟩
instance : UndC Try.prog 105 (.slice 141) := ⟨u105⟩
instance : PlainC Try.prog 105 := ⟨p105⟩
instance : NonIfC Try.prog 105 := ⟨n105⟩
instance : CelC Try.prog 106 1 := ⟨c106⟩
instance : UndC Try.prog 106 (.slice 141) := ⟨u106⟩
instance : PlainC Try.prog 106 := ⟨p106⟩
instance : NonIfC Try.prog 106 := ⟨n106⟩
instance : CelC Try.prog 107 1024 := ⟨c107⟩
instance : UndC Try.prog 107 (.array 1024 40) := ⟨u107⟩
instance : NonIfC Try.prog 107 := ⟨n107⟩
instance : CelC Try.prog 108 1026 := ⟨c108⟩
instance : NonIfC Try.prog 108 := ⟨n108⟩
instance : CelC Try.prog 109 1026 := ⟨c109⟩
instance : NonIfC Try.prog 109 := ⟨n109⟩
instance : CelC Try.prog 110 1 := ⟨c110⟩
instance : PlainC Try.prog 110 := ⟨p110⟩
instance : NonIfC Try.prog 110 := ⟨n110⟩
instance : CelC Try.prog 111 1 := ⟨c111⟩
instance : PlainC Try.prog 111 := ⟨p111⟩
instance : NonIfC Try.prog 111 := ⟨n111⟩
instance : CelC Try.prog 112 1 := ⟨c112⟩
instance : PlainC Try.prog 112 := ⟨p112⟩
instance : NonIfC Try.prog 112 := ⟨n112⟩
instance : CelC Try.prog 113 1 := ⟨c113⟩
instance : PlainC Try.prog 113 := ⟨p113⟩
instance : NonIfC Try.prog 113 := ⟨n113⟩
instance : CelC Try.prog 114 1 := ⟨c114⟩
instance : PlainC Try.prog 114 := ⟨p114⟩
instance : NonIfC Try.prog 114 := ⟨n114⟩
instance : CelC Try.prog 115 1 := ⟨c115⟩
instance : PlainC Try.prog 115 := ⟨p115⟩
instance : NonIfC Try.prog 115 := ⟨n115⟩
instance : CelC Try.prog 116 1 := ⟨c116⟩
instance : PlainC Try.prog 116 := ⟨p116⟩
instance : NonIfC Try.prog 116 := ⟨n116⟩
instance : CelC Try.prog 117 1 := ⟨c117⟩
instance : PlainC Try.prog 117 := ⟨p117⟩
instance : NonIfC Try.prog 117 := ⟨n117⟩
instance : CelC Try.prog 118 1 := ⟨c118⟩
instance : PlainC Try.prog 118 := ⟨p118⟩
instance : NonIfC Try.prog 118 := ⟨n118⟩
instance : CelC Try.prog 119 1 := ⟨c119⟩
instance : PlainC Try.prog 119 := ⟨p119⟩
instance : NonIfC Try.prog 119 := ⟨n119⟩
instance : CelC Try.prog 120 1 := ⟨c120⟩
instance : PlainC Try.prog 120 := ⟨p120⟩
instance : NonIfC Try.prog 120 := ⟨n120⟩
instance : CelC Try.prog 121 1 := ⟨c121⟩
instance : PlainC Try.prog 121 := ⟨p121⟩
instance : NonIfC Try.prog 121 := ⟨n121⟩
instance : CelC Try.prog 122 1 := ⟨c122⟩
instance : PlainC Try.prog 122 := ⟨p122⟩
instance : NonIfC Try.prog 122 := ⟨n122⟩
instance : CelC Try.prog 123 1 := ⟨c123⟩
instance : PlainC Try.prog 123 := ⟨p123⟩
instance : NonIfC Try.prog 123 := ⟨n123⟩
instance : CelC Try.prog 124 1 := ⟨c124⟩
instance : UndC Try.prog 124 (.slice 46) := ⟨u124⟩
instance : PlainC Try.prog 124 := ⟨p124⟩
instance : NonIfC Try.prog 124 := ⟨n124⟩
instance : CelC Try.prog 125 7 := ⟨c125⟩
instance : NonIfC Try.prog 125 := ⟨n125⟩
instance : CelC Try.prog 126 7 := ⟨c126⟩
instance : NonIfC Try.prog 126 := ⟨n126⟩
instance : CelC Try.prog 127 1 := ⟨c127⟩
instance : PlainC Try.prog 127 := ⟨p127⟩
instance : NonIfC Try.prog 127 := ⟨n127⟩
instance : CelC Try.prog 128 3 := ⟨c128⟩
instance : NonIfC Try.prog 128 := ⟨n128⟩
instance : CelC Try.prog 129 3 := ⟨c129⟩
instance : NonIfC Try.prog 129 := ⟨n129⟩
instance : CelC Try.prog 130 1 := ⟨c130⟩
instance : PlainC Try.prog 130 := ⟨p130⟩
instance : NonIfC Try.prog 130 := ⟨n130⟩
instance : CelC Try.prog 131 1 := ⟨c131⟩
instance : PlainC Try.prog 131 := ⟨p131⟩
instance : NonIfC Try.prog 131 := ⟨n131⟩
instance : CelC Try.prog 132 1 := ⟨c132⟩
instance : PlainC Try.prog 132 := ⟨p132⟩
instance : NonIfC Try.prog 132 := ⟨n132⟩
instance : CelC Try.prog 133 1 := ⟨c133⟩
instance : PlainC Try.prog 133 := ⟨p133⟩
instance : NonIfC Try.prog 133 := ⟨n133⟩
instance : CelC Try.prog 134 1 := ⟨c134⟩
instance : UndC Try.prog 134 (.slice 136) := ⟨u134⟩
instance : PlainC Try.prog 134 := ⟨p134⟩
instance : NonIfC Try.prog 134 := ⟨n134⟩
instance : CelC Try.prog 135 2 := ⟨c135⟩
instance : NonIfC Try.prog 135 := ⟨n135⟩
instance : CelC Try.prog 136 2 := ⟨c136⟩
instance : NonIfC Try.prog 136 := ⟨n136⟩
instance : CelC Try.prog 137 1 := ⟨c137⟩
instance : PlainC Try.prog 137 := ⟨p137⟩
instance : NonIfC Try.prog 137 := ⟨n137⟩
instance : CelC Try.prog 138 1 := ⟨c138⟩
instance : PlainC Try.prog 138 := ⟨p138⟩
instance : NonIfC Try.prog 138 := ⟨n138⟩
instance : CelC Try.prog 139 1 := ⟨c139⟩
instance : UndC Try.prog 139 (.slice 58) := ⟨u139⟩
instance : PlainC Try.prog 139 := ⟨p139⟩
instance : NonIfC Try.prog 139 := ⟨n139⟩
instance : CelC Try.prog 140 1 := ⟨c140⟩
instance : PlainC Try.prog 140 := ⟨p140⟩
instance : NonIfC Try.prog 140 := ⟨n140⟩
instance : CelC Try.prog 141 2 := ⟨c141⟩
instance : NonIfC Try.prog 141 := ⟨n141⟩
instance : CelC Try.prog 142 1 := ⟨c142⟩
instance : PlainC Try.prog 142 := ⟨p142⟩
instance : NonIfC Try.prog 142 := ⟨n142⟩
instance : CelC Try.prog 143 1 := ⟨c143⟩
instance : PlainC Try.prog 143 := ⟨p143⟩
instance : NonIfC Try.prog 143 := ⟨n143⟩
instance : CelC Try.prog 144 1 := ⟨c144⟩
instance : PlainC Try.prog 144 := ⟨p144⟩
instance : NonIfC Try.prog 144 := ⟨n144⟩
instance : CelC Try.prog 145 1 := ⟨c145⟩
instance : PlainC Try.prog 145 := ⟨p145⟩
instance : NonIfC Try.prog 145 := ⟨n145⟩
instance : CelC Try.prog 146 4 := ⟨c146⟩
instance : NonIfC Try.prog 146 := ⟨n146⟩
instance : CelC Try.prog 147 1 := ⟨c147⟩
instance : PlainC Try.prog 147 := ⟨p147⟩
instance : NonIfC Try.prog 147 := ⟨n147⟩
instance : CelC Try.prog 148 28 := ⟨c148⟩
instance : UndC Try.prog 148 (.array 28 49) := ⟨u148⟩
instance : NonIfC Try.prog 148 := ⟨n148⟩
instance : CelC Try.prog 149 1 := ⟨c149⟩
instance : PlainC Try.prog 149 := ⟨p149⟩
instance : NonIfC Try.prog 149 := ⟨n149⟩
instance : CelC Try.prog 150 1 := ⟨c150⟩
instance : PlainC Try.prog 150 := ⟨p150⟩
instance : NonIfC Try.prog 150 := ⟨n150⟩
instance : CelC Try.prog 151 1 := ⟨c151⟩
instance : PlainC Try.prog 151 := ⟨p151⟩
instance : NonIfC Try.prog 151 := ⟨n151⟩
instance : CelC Try.prog 152 1 := ⟨c152⟩
instance : PlainC Try.prog 152 := ⟨p152⟩
instance : NonIfC Try.prog 152 := ⟨n152⟩
instance : CelC Try.prog 153 1 := ⟨c153⟩
instance : UndC Try.prog 153 (.slice 146) := ⟨u153⟩
instance : PlainC Try.prog 153 := ⟨p153⟩
instance : NonIfC Try.prog 153 := ⟨n153⟩
instance : CelC Try.prog 154 1 := ⟨c154⟩
instance : PlainC Try.prog 154 := ⟨p154⟩
instance : NonIfC Try.prog 154 := ⟨n154⟩
instance : CelC Try.prog 155 1 := ⟨c155⟩
instance : PlainC Try.prog 155 := ⟨p155⟩
instance : NonIfC Try.prog 155 := ⟨n155⟩
instance : CelC Try.prog 156 1 := ⟨c156⟩
instance : PlainC Try.prog 156 := ⟨p156⟩
instance : NonIfC Try.prog 156 := ⟨n156⟩
instance : CelC Try.prog 157 1 := ⟨c157⟩
instance : PlainC Try.prog 157 := ⟨p157⟩
instance : NonIfC Try.prog 157 := ⟨n157⟩
instance : CelC Try.prog 158 1 := ⟨c158⟩
instance : PlainC Try.prog 158 := ⟨p158⟩
instance : NonIfC Try.prog 158 := ⟨n158⟩
instance : CelC Try.prog 159 1 := ⟨c159⟩
instance : PlainC Try.prog 159 := ⟨p159⟩
instance : NonIfC Try.prog 159 := ⟨n159⟩
instance : CelC Try.prog 160 1 := ⟨c160⟩
instance : UndC Try.prog 160 (.slice 146) := ⟨u160⟩
instance : PlainC Try.prog 160 := ⟨p160⟩
instance : NonIfC Try.prog 160 := ⟨n160⟩
instance : CelC Try.prog 161 1 := ⟨c161⟩
instance : PlainC Try.prog 161 := ⟨p161⟩
instance : NonIfC Try.prog 161 := ⟨n161⟩
instance : CelC Try.prog 162 5 := ⟨c162⟩
instance : NonIfC Try.prog 162 := ⟨n162⟩
instance : CelC Try.prog 163 5 := ⟨c163⟩
instance : NonIfC Try.prog 163 := ⟨n163⟩
instance : CelC Try.prog 164 5120 := ⟨c164⟩
instance : UndC Try.prog 164 (.array 1024 163) := ⟨u164⟩
instance : NonIfC Try.prog 164 := ⟨n164⟩
instance : CelC Try.prog 165 1 := ⟨c165⟩
instance : UndC Try.prog 165 (.slice 163) := ⟨u165⟩
instance : PlainC Try.prog 165 := ⟨p165⟩
instance : NonIfC Try.prog 165 := ⟨n165⟩
instance : CelC Try.prog 166 1 := ⟨c166⟩
instance : PlainC Try.prog 166 := ⟨p166⟩
instance : NonIfC Try.prog 166 := ⟨n166⟩
instance : CelC Try.prog 167 1 := ⟨c167⟩
instance : PlainC Try.prog 167 := ⟨p167⟩
instance : NonIfC Try.prog 167 := ⟨n167⟩
instance : CelC Try.prog 168 28 := ⟨c168⟩
instance : UndC Try.prog 168 (.array 28 40) := ⟨u168⟩
instance : NonIfC Try.prog 168 := ⟨n168⟩
instance : CelC Try.prog 169 1 := ⟨c169⟩
instance : PlainC Try.prog 169 := ⟨p169⟩
instance : NonIfC Try.prog 169 := ⟨n169⟩
instance : CelC Try.prog 170 1 := ⟨c170⟩
instance : NonIfC Try.prog 170 := ⟨n170⟩
instance : CelC Try.prog 171 1 := ⟨c171⟩
instance : NonIfC Try.prog 171 := ⟨n171⟩
instance : CelC Try.prog 172 1 := ⟨c172⟩
instance : UndC Try.prog 172 (.slice 20) := ⟨u172⟩
instance : PlainC Try.prog 172 := ⟨p172⟩
instance : NonIfC Try.prog 172 := ⟨n172⟩
instance : CelC Try.prog 173 1 := ⟨c173⟩
instance : PlainC Try.prog 173 := ⟨p173⟩
instance : NonIfC Try.prog 173 := ⟨n173⟩
instance : CelC Try.prog 174 112 := ⟨c174⟩
instance : UndC Try.prog 174 (.array 28 146) := ⟨u174⟩
instance : NonIfC Try.prog 174 := ⟨n174⟩
instance : CelC Try.prog 175 1 := ⟨c175⟩
instance : PlainC Try.prog 175 := ⟨p175⟩
instance : CelC Try.prog 176 1 := ⟨c176⟩
instance : PlainC Try.prog 176 := ⟨p176⟩
instance : CelC Try.prog 177 1 := ⟨c177⟩
instance : PlainC Try.prog 177 := ⟨p177⟩
instance : NonIfC Try.prog 177 := ⟨n177⟩
instance : CelC Try.prog 178 1 := ⟨c178⟩
instance : PlainC Try.prog 178 := ⟨p178⟩
instance : NonIfC Try.prog 178 := ⟨n178⟩
instance : NonIfC Try.prog 179 := ⟨n179⟩
instance : NonIfC Try.prog 180 := ⟨n180⟩
instance : CelC Try.prog 181 1 := ⟨c181⟩
instance : PlainC Try.prog 181 := ⟨p181⟩
instance : NonIfC Try.prog 181 := ⟨n181⟩
instance : CelC Try.prog 182 1 := ⟨c182⟩
instance : PlainC Try.prog 182 := ⟨p182⟩
instance : NonIfC Try.prog 182 := ⟨n182⟩
instance : CelC Try.prog 183 1 := ⟨c183⟩
instance : PlainC Try.prog 183 := ⟨p183⟩
instance : NonIfC Try.prog 183 := ⟨n183⟩
instance : CelC Try.prog 184 1 := ⟨c184⟩
instance : PlainC Try.prog 184 := ⟨p184⟩
instance : NonIfC Try.prog 184 := ⟨n184⟩
instance : CelC Try.prog 185 1 := ⟨c185⟩
instance : PlainC Try.prog 185 := ⟨p185⟩
instance : NonIfC Try.prog 185 := ⟨n185⟩
instance : CelC Try.prog 186 1 := ⟨c186⟩
instance : PlainC Try.prog 186 := ⟨p186⟩
instance : NonIfC Try.prog 186 := ⟨n186⟩
instance : CelC Try.prog 187 1 := ⟨c187⟩
instance : PlainC Try.prog 187 := ⟨p187⟩
instance : NonIfC Try.prog 187 := ⟨n187⟩
instance : CelC Try.prog 188 1 := ⟨c188⟩
instance : PlainC Try.prog 188 := ⟨p188⟩
instance : NonIfC Try.prog 188 := ⟨n188⟩
instance : CelC Try.prog 189 1 := ⟨c189⟩
instance : UndC Try.prog 189 (.int .i64) := ⟨u189⟩
instance : PlainC Try.prog 189 := ⟨p189⟩
instance : NonIfC Try.prog 189 := ⟨n189⟩
instance : CelC Try.prog 190 1 := ⟨c190⟩
instance : PlainC Try.prog 190 := ⟨p190⟩
instance : NonIfC Try.prog 190 := ⟨n190⟩
instance : CelC Try.prog 191 1 := ⟨c191⟩
instance : PlainC Try.prog 191 := ⟨p191⟩
instance : NonIfC Try.prog 191 := ⟨n191⟩
instance : CelC Try.prog 192 1 := ⟨c192⟩
instance : PlainC Try.prog 192 := ⟨p192⟩
instance : NonIfC Try.prog 192 := ⟨n192⟩
instance : CelC Try.prog 193 1 := ⟨c193⟩
instance : PlainC Try.prog 193 := ⟨p193⟩
instance : NonIfC Try.prog 193 := ⟨n193⟩
instance : CelC Try.prog 194 1 := ⟨c194⟩
instance : PlainC Try.prog 194 := ⟨p194⟩
instance : NonIfC Try.prog 194 := ⟨n194⟩
instance : CelC Try.prog 195 1 := ⟨c195⟩
instance : PlainC Try.prog 195 := ⟨p195⟩
instance : NonIfC Try.prog 195 := ⟨n195⟩
instance : CelC Try.prog 196 1 := ⟨c196⟩
instance : PlainC Try.prog 196 := ⟨p196⟩
instance : NonIfC Try.prog 196 := ⟨n196⟩
instance : CelC Try.prog 197 1 := ⟨c197⟩
instance : UndC Try.prog 197 (.int .u64) := ⟨u197⟩
instance : PlainC Try.prog 197 := ⟨p197⟩
instance : NonIfC Try.prog 197 := ⟨n197⟩
instance : CelC Try.prog 198 1 := ⟨c198⟩
instance : PlainC Try.prog 198 := ⟨p198⟩
instance : NonIfC Try.prog 198 := ⟨n198⟩
instance : CelC Try.prog 199 1 := ⟨c199⟩
instance : PlainC Try.prog 199 := ⟨p199⟩
instance : NonIfC Try.prog 199 := ⟨n199⟩
instance : CelC Try.prog 200 1 := ⟨c200⟩
instance : PlainC Try.prog 200 := ⟨p200⟩
instance : NonIfC Try.prog 200 := ⟨n200⟩
instance : CelC Try.prog 201 1 := ⟨c201⟩
instance : PlainC Try.prog 201 := ⟨p201⟩
instance : NonIfC Try.prog 201 := ⟨n201⟩
instance : CelC Try.prog 202 1 := ⟨c202⟩
instance : PlainC Try.prog 202 := ⟨p202⟩
instance : NonIfC Try.prog 202 := ⟨n202⟩
instance : CelC Try.prog 203 1 := ⟨c203⟩
instance : PlainC Try.prog 203 := ⟨p203⟩
instance : NonIfC Try.prog 203 := ⟨n203⟩
instance : CelC Try.prog 204 1 := ⟨c204⟩
instance : PlainC Try.prog 204 := ⟨p204⟩
instance : NonIfC Try.prog 204 := ⟨n204⟩
instance : CelC Try.prog 205 1 := ⟨c205⟩
instance : PlainC Try.prog 205 := ⟨p205⟩
instance : NonIfC Try.prog 205 := ⟨n205⟩
instance : CelC Try.prog 206 1 := ⟨c206⟩
instance : PlainC Try.prog 206 := ⟨p206⟩
instance : NonIfC Try.prog 206 := ⟨n206⟩
instance : CelC Try.prog 207 4 := ⟨c207⟩
instance : NonIfC Try.prog 207 := ⟨n207⟩
instance : CelC Try.prog 208 4 := ⟨c208⟩
instance : NonIfC Try.prog 208 := ⟨n208⟩
instance : UndC Try.prog 209 (.array 0 16) := ⟨u209⟩
instance : NonIfC Try.prog 209 := ⟨n209⟩
instance : NonIfC Try.prog 210 := ⟨n210⟩
instance : NonIfC Try.prog 211 := ⟨n211⟩
instance : CelC Try.prog 212 1 := ⟨c212⟩
instance : UndC Try.prog 212 (.int .u8) := ⟨u212⟩
instance : PlainC Try.prog 212 := ⟨p212⟩
instance : NonIfC Try.prog 212 := ⟨n212⟩
instance : CelC Try.prog 213 1 := ⟨c213⟩
instance : UndC Try.prog 213 (.int .u8) := ⟨u213⟩
instance : PlainC Try.prog 213 := ⟨p213⟩
instance : NonIfC Try.prog 213 := ⟨n213⟩
instance : CelC Try.prog 214 1 := ⟨c214⟩
instance : PlainC Try.prog 214 := ⟨p214⟩
instance : NonIfC Try.prog 214 := ⟨n214⟩
instance : CelC Try.prog 215 1 := ⟨c215⟩
instance : PlainC Try.prog 215 := ⟨p215⟩
instance : NonIfC Try.prog 215 := ⟨n215⟩
instance : CelC Try.prog 216 1 := ⟨c216⟩
instance : UndC Try.prog 216 (.int .i32) := ⟨u216⟩
instance : PlainC Try.prog 216 := ⟨p216⟩
instance : NonIfC Try.prog 216 := ⟨n216⟩
instance : CelC Try.prog 217 1 := ⟨c217⟩
instance : UndC Try.prog 217 (.int .i32) := ⟨u217⟩
instance : PlainC Try.prog 217 := ⟨p217⟩
instance : NonIfC Try.prog 217 := ⟨n217⟩
instance : CelC Try.prog 218 11 := ⟨c218⟩
instance : NonIfC Try.prog 218 := ⟨n218⟩
instance : CelC Try.prog 219 11 := ⟨c219⟩
instance : NonIfC Try.prog 219 := ⟨n219⟩
instance : CelC Try.prog 220 1 := ⟨c220⟩
instance : PlainC Try.prog 220 := ⟨p220⟩
instance : NonIfC Try.prog 220 := ⟨n220⟩
instance : CelC Try.prog 221 1 := ⟨c221⟩
instance : PlainC Try.prog 221 := ⟨p221⟩
instance : NonIfC Try.prog 221 := ⟨n221⟩
instance : CelC Try.prog 222 1 := ⟨c222⟩
instance : PlainC Try.prog 222 := ⟨p222⟩
instance : NonIfC Try.prog 222 := ⟨n222⟩
instance : CelC Try.prog 223 1 := ⟨c223⟩
instance : PlainC Try.prog 223 := ⟨p223⟩
instance : NonIfC Try.prog 223 := ⟨n223⟩
instance : CelC Try.prog 224 1 := ⟨c224⟩
instance : PlainC Try.prog 224 := ⟨p224⟩
instance : NonIfC Try.prog 224 := ⟨n224⟩
instance : CelC Try.prog 225 1 := ⟨c225⟩
instance : NonIfC Try.prog 225 := ⟨n225⟩
instance : CelC Try.prog 226 1 := ⟨c226⟩
instance : NonIfC Try.prog 226 := ⟨n226⟩
instance : FldC Try.prog 7 0 0 := ⟨f7_0⟩
instance : FldC Try.prog 7 1 1 := ⟨f7_1⟩
instance : FldC Try.prog 7 2 2 := ⟨f7_2⟩
instance : FldC Try.prog 7 3 3 := ⟨f7_3⟩
instance : FldC Try.prog 8 0 0 := ⟨f8_0⟩
instance : FldC Try.prog 8 1 1 := ⟨f8_1⟩
instance : FldC Try.prog 8 2 2 := ⟨f8_2⟩
instance : FldC Try.prog 8 3 3 := ⟨f8_3⟩
instance : FldC Try.prog 13 0 0 := ⟨f13_0⟩
instance : FldC Try.prog 13 1 1 := ⟨f13_1⟩
instance : FldC Try.prog 14 0 0 := ⟨f14_0⟩
instance : FldC Try.prog 14 1 1 := ⟨f14_1⟩
instance : FldC Try.prog 18 0 0 := ⟨f18_0⟩
instance : FldC Try.prog 19 0 0 := ⟨f19_0⟩
instance : FldC Try.prog 41 0 0 := ⟨f41_0⟩
instance : FldC Try.prog 41 1 1 := ⟨f41_1⟩
instance : FldC Try.prog 41 2 2 := ⟨f41_2⟩
instance : FldC Try.prog 41 3 3 := ⟨f41_3⟩
instance : FldC Try.prog 42 0 0 := ⟨f42_0⟩
instance : FldC Try.prog 42 1 1 := ⟨f42_1⟩
instance : FldC Try.prog 42 2 2 := ⟨f42_2⟩
instance : FldC Try.prog 42 3 3 := ⟨f42_3⟩
instance : FldC Try.prog 68 0 0 := ⟨f68_0⟩
instance : FldC Try.prog 68 1 1 := ⟨f68_1⟩
instance : FldC Try.prog 69 0 0 := ⟨f69_0⟩
instance : FldC Try.prog 69 1 1 := ⟨f69_1⟩
instance : FldC Try.prog 75 0 0 := ⟨f75_0⟩
instance : FldC Try.prog 75 1 1 := ⟨f75_1⟩
instance : FldC Try.prog 75 2 2 := ⟨f75_2⟩
instance : FldC Try.prog 75 3 3 := ⟨f75_3⟩
instance : FldC Try.prog 76 0 0 := ⟨f76_0⟩
instance : FldC Try.prog 76 1 1 := ⟨f76_1⟩
instance : FldC Try.prog 76 2 2 := ⟨f76_2⟩
instance : FldC Try.prog 76 3 3 := ⟨f76_3⟩
instance : FldC Try.prog 93 0 0 := ⟨f93_0⟩
instance : FldC Try.prog 93 1 1 := ⟨f93_1⟩
instance : FldC Try.prog 93 2 2 := ⟨f93_2⟩
instance : FldC Try.prog 94 0 0 := ⟨f94_0⟩
instance : FldC Try.prog 94 1 1 := ⟨f94_1⟩
instance : FldC Try.prog 94 2 2 := ⟨f94_2⟩
instance : FldC Try.prog 98 0 0 := ⟨f98_0⟩
instance : FldC Try.prog 98 1 1 := ⟨f98_1⟩
instance : FldC Try.prog 98 2 2 := ⟨f98_2⟩
instance : FldC Try.prog 98 3 3 := ⟨f98_3⟩
instance : FldC Try.prog 98 4 4 := ⟨f98_4⟩
instance : FldC Try.prog 98 5 5 := ⟨f98_5⟩
instance : FldC Try.prog 98 6 517 := ⟨f98_6⟩
instance : FldC Try.prog 99 0 0 := ⟨f99_0⟩
instance : FldC Try.prog 99 1 1 := ⟨f99_1⟩
instance : FldC Try.prog 99 2 2 := ⟨f99_2⟩
instance : FldC Try.prog 99 3 3 := ⟨f99_3⟩
instance : FldC Try.prog 99 4 4 := ⟨f99_4⟩
instance : FldC Try.prog 99 5 5 := ⟨f99_5⟩
instance : FldC Try.prog 99 6 517 := ⟨f99_6⟩
instance : FldC Try.prog 102 0 0 := ⟨f102_0⟩
instance : FldC Try.prog 102 1 1 := ⟨f102_1⟩
instance : FldC Try.prog 102 2 2 := ⟨f102_2⟩
instance : FldC Try.prog 103 0 0 := ⟨f103_0⟩
instance : FldC Try.prog 103 1 1 := ⟨f103_1⟩
instance : FldC Try.prog 103 2 2 := ⟨f103_2⟩
instance : FldC Try.prog 108 0 0 := ⟨f108_0⟩
instance : FldC Try.prog 108 1 1 := ⟨f108_1⟩
instance : FldC Try.prog 108 2 1025 := ⟨f108_2⟩
instance : FldC Try.prog 109 0 0 := ⟨f109_0⟩
instance : FldC Try.prog 109 1 1 := ⟨f109_1⟩
instance : FldC Try.prog 109 2 1025 := ⟨f109_2⟩
instance : FldC Try.prog 125 0 0 := ⟨f125_0⟩
instance : FldC Try.prog 125 1 1 := ⟨f125_1⟩
instance : FldC Try.prog 125 2 2 := ⟨f125_2⟩
instance : FldC Try.prog 125 3 3 := ⟨f125_3⟩
instance : FldC Try.prog 125 4 4 := ⟨f125_4⟩
instance : FldC Try.prog 125 5 5 := ⟨f125_5⟩
instance : FldC Try.prog 125 6 6 := ⟨f125_6⟩
instance : FldC Try.prog 126 0 0 := ⟨f126_0⟩
instance : FldC Try.prog 126 1 1 := ⟨f126_1⟩
instance : FldC Try.prog 126 2 2 := ⟨f126_2⟩
instance : FldC Try.prog 126 3 3 := ⟨f126_3⟩
instance : FldC Try.prog 126 4 4 := ⟨f126_4⟩
instance : FldC Try.prog 126 5 5 := ⟨f126_5⟩
instance : FldC Try.prog 126 6 6 := ⟨f126_6⟩
instance : FldC Try.prog 128 0 0 := ⟨f128_0⟩
instance : FldC Try.prog 128 1 1 := ⟨f128_1⟩
instance : FldC Try.prog 128 2 2 := ⟨f128_2⟩
instance : FldC Try.prog 129 0 0 := ⟨f129_0⟩
instance : FldC Try.prog 129 1 1 := ⟨f129_1⟩
instance : FldC Try.prog 129 2 2 := ⟨f129_2⟩
instance : FldC Try.prog 135 0 0 := ⟨f135_0⟩
instance : FldC Try.prog 135 1 1 := ⟨f135_1⟩
instance : FldC Try.prog 136 0 0 := ⟨f136_0⟩
instance : FldC Try.prog 136 1 1 := ⟨f136_1⟩
instance : FldC Try.prog 141 0 0 := ⟨f141_0⟩
instance : FldC Try.prog 141 1 1 := ⟨f141_1⟩
instance : FldC Try.prog 146 0 0 := ⟨f146_0⟩
instance : FldC Try.prog 146 1 1 := ⟨f146_1⟩
instance : FldC Try.prog 146 2 2 := ⟨f146_2⟩
instance : FldC Try.prog 146 3 3 := ⟨f146_3⟩
instance : FldC Try.prog 162 0 0 := ⟨f162_0⟩
instance : FldC Try.prog 162 1 1 := ⟨f162_1⟩
instance : FldC Try.prog 162 2 2 := ⟨f162_2⟩
instance : FldC Try.prog 162 3 3 := ⟨f162_3⟩
instance : FldC Try.prog 162 4 4 := ⟨f162_4⟩
instance : FldC Try.prog 163 0 0 := ⟨f163_0⟩
instance : FldC Try.prog 163 1 1 := ⟨f163_1⟩
instance : FldC Try.prog 163 2 2 := ⟨f163_2⟩
instance : FldC Try.prog 163 3 3 := ⟨f163_3⟩
instance : FldC Try.prog 163 4 4 := ⟨f163_4⟩
instance : FldC Try.prog 170 0 0 := ⟨f170_0⟩
instance : FldC Try.prog 171 0 0 := ⟨f171_0⟩
instance : FldC Try.prog 207 0 0 := ⟨f207_0⟩
instance : FldC Try.prog 207 1 1 := ⟨f207_1⟩
instance : FldC Try.prog 207 2 2 := ⟨f207_2⟩
instance : FldC Try.prog 207 3 3 := ⟨f207_3⟩
instance : FldC Try.prog 208 0 0 := ⟨f208_0⟩
instance : FldC Try.prog 208 1 1 := ⟨f208_1⟩
instance : FldC Try.prog 208 2 2 := ⟨f208_2⟩
instance : FldC Try.prog 208 3 3 := ⟨f208_3⟩
instance : FldC Try.prog 218 0 0 := ⟨f218_0⟩
instance : FldC Try.prog 218 1 1 := ⟨f218_1⟩
instance : FldC Try.prog 218 2 2 := ⟨f218_2⟩
instance : FldC Try.prog 218 3 3 := ⟨f218_3⟩
instance : FldC Try.prog 218 4 4 := ⟨f218_4⟩
instance : FldC Try.prog 218 5 5 := ⟨f218_5⟩
instance : FldC Try.prog 218 6 6 := ⟨f218_6⟩
instance : FldC Try.prog 218 7 7 := ⟨f218_7⟩
instance : FldC Try.prog 218 8 8 := ⟨f218_8⟩
instance : FldC Try.prog 218 9 9 := ⟨f218_9⟩
instance : FldC Try.prog 218 10 10 := ⟨f218_10⟩
instance : FldC Try.prog 219 0 0 := ⟨f219_0⟩
instance : FldC Try.prog 219 1 1 := ⟨f219_1⟩
instance : FldC Try.prog 219 2 2 := ⟨f219_2⟩
instance : FldC Try.prog 219 3 3 := ⟨f219_3⟩
instance : FldC Try.prog 219 4 4 := ⟨f219_4⟩
instance : FldC Try.prog 219 5 5 := ⟨f219_5⟩
instance : FldC Try.prog 219 6 6 := ⟨f219_6⟩
instance : FldC Try.prog 219 7 7 := ⟨f219_7⟩
instance : FldC Try.prog 219 8 8 := ⟨f219_8⟩
instance : FldC Try.prog 219 9 9 := ⟨f219_9⟩
instance : FldC Try.prog 219 10 10 := ⟨f219_10⟩
instance : FldC Try.prog 225 0 0 := ⟨f225_0⟩
instance : FldC Try.prog 226 0 0 := ⟨f226_0⟩
end Go.Proofs.Ytjkpfliaflmppaa.Tb

namespace Go.Proofs.Ytjkpfliaflmppaa.Bu
open Go Go.RowKit Go.Proofs.Ytjkpfliaflmppaa.Vm

theorem info5 : (Try.prog.info? 5).map (fun i => (i.size, i.bytes, i.zero)) = some (1, 1, some (.int .u8 0)) := by kernel_rfl
theorem info5' : ∃ I, Try.prog.info? 5 = some I ∧ I.size = 1 ∧ I.bytes = 1 ∧ I.zero = some (.int .u8 0) := by
  have h := info5
  cases hI : Try.prog.info? 5 with
  | none => simp [hI] at h
  | some I => simp [hI] at h; exact ⟨I, rfl, h⟩

theorem run_append_zeros (c : Nat) (hc : 0 < c) (hc2 : c ≤ 2199023255552) (ty : TypeId) (w : World) : ∃ q, c ≤ q ∧ q ≤ 9223372036854775807 ∧
    (Builtin.append_ #[22, 3] ty #[.slice none 0 0, .int .i64 c]).run Try.prog w = .ok (.slice (some ⟨w.heap.size, 0, none⟩) c q) (w.drew.alloc (.cells (Array.replicate q (.int .u8 0)) 5)) := by
  obtain ⟨I, hI, h1, h2, h3⟩ := info5'
  have hw : IntKind.i64.wrap (c : Int) = c := wrap_id (k := .i64) (by simp only [IntKind.min, IntKind.signed, IntKind.bits]; omega) (by simp only [IntKind.max, IntKind.signed, IntKind.bits]; simp; omega)
  have hn : ¬ (c : Int) < 0 := by omega
  have hcaps := Go.Proofs.Ytjkpfliaflmppaa.Vm.nextslicecap_le (n := c) (c := 0) hc
  have c1 : ¬ (281474976710656 : Int) < c := by omega
  have c2 : ¬ (281474976710656) < Builtin.nextslicecap c 0 := by omega
  have c3 : ¬ c = 0 := by omega
  have c4 : ¬ (IntKind.i64.max : Int) < c := by simp only [IntKind.max, IntKind.signed, IntKind.bits]; simp; omega
  refine ⟨Question.cut (.appendCap c 0 5) (w.tape w.drawn (.appendCap c 0 5)), by simp [Question.cut], ?_, ?_⟩
  · simp only [Question.cut]
    have := Nat.mod_lt (w.tape w.drawn (.appendCap c 0 5)) (show 0 < 2 ^ 63 - c by omega)
    omega
  unfold Builtin.append_
  simp [Try.underlying22, Try.underlying3, run_under Try.underlying22, run_under Try.underlying3, asInt, asIntOf, hw, hn, sizeOf, typeInfo, hI, h1, h2, c1, c2, c3, c4, Builtin.firstCells, zeroValue, h3, Value.cells, newRow, Question.forced, Question.cut, Builtin.zeroCells, Nat.mod_one]
  have hm : ∀ n : Nat, Array.map (fun _ => Value.int .u8 0) (Array.range n) = Array.replicate n (Value.int .u8 0) := fun n => by
    apply Array.ext'
    simp [List.map_const']
  rw [if_neg (by omega), hm, hm]
  simp

theorem recover_idle (w : World) : CallsD Try.prog 149 #[] .returning w fun e u' w' => e = .returned (.tuple #[]) ∧ u' = .returning ∧ w' = w := by
  refine callsD_of_wpS Try.func149 rfl fun c₀ cs hu => ?_
  refine wpS_seq ?_
  apply wpS_region
  simp [wpOpsS, go_sem, recoverD, hu, Try.ntmps149]
  refine wpS_cond (t := false) rfl (wpS_of_wp (wp_skip ?_))
  cases c₀
  simp_all [bodyPostS, results, Try.results149]


section
variable {N : Fm} {Fin : Post} {k : List Kn} {E : Env} {M : Mem}
variable {ops : List Oper} {rest : List Oper} {d : Nat} {ty : TypeId} {pos : String} {after : Array Edge} {g : Option (Nat × Bool)}
theorem O_appendZ {x : Operand} {c : Nat} {z : Int} (hx : ev E x = some (.int .i64 z)) (hz : z = (c : Int)) (hc : 0 < c) (hc2 : c ≤ 2199023255552) (hg : On E ops g) (hd : Nat.blt d N.n = true)
    (h : ∀ b q, c ≤ q → q ≤ 9223372036854775807 → WO false Try.prog N Fin ops rest k ((d, .slice (some ⟨b, 0, none⟩) c q) :: E) (⟨true, b, 0, List.replicate q (.int .u8 0)⟩ :: M)) :
    WO false Try.prog N Fin ops (⟨some d, .call { callee := .builtin .append, args := #[.const (.slice none 0 0), x], argTypes := #[22, 3] }, ty, pos, after, g⟩ :: rest) k E M := by
  subst hz
  refine ⟨⟨?_⟩⟩
  intro base w0 a w hA hS
  unfold wpList
  rw [if_pos (On.wanted (o := ⟨some d, .call { callee := .builtin .append, args := #[.const (.slice none 0 0), x], argTypes := #[22, 3] }, ty, pos, after, g⟩) hg hA)]
  refine .inl ?_
  unfold Oper.wp
  obtain ⟨q, hq, hqm, hrun⟩ := run_append_zeros c hc hc2 ty w
  have hr : (execOp a.eval ⟨some d, .call { callee := .builtin .append, args := #[.const (.slice none 0 0), x], argTypes := #[22, 3] }, ty, pos, after, g⟩).run Try.prog w = .ok (.value (.slice (some ⟨w.heap.size, 0, none⟩) c q)) (w.drew.alloc (.cells (Array.replicate q (.int .u8 0)) 5)) := by
    have he : a.eval (.const (.slice none 0 0)) = .slice none 0 0 := rfl
    simp [execOp, resolve, invoke, builtin, hA.eval hx, he, hrun]
  rw [hr]
  have := hS.drew.alloc (Array.replicate q (.int .u8 0)) 5
  simp only [Array.toList_replicate] at this
  exact (h w.heap.size q hq hqm).out.out base w0 _ _ (hA.put hd _) this
end

theorem growSlice_c (ad : Option Addr) (l c n : Nat) (xs : List Int) (F : Mem) (hx : xs.length = l) (hF : (ad = none ∧ l = 0) ∨ ∃ b own lx, ad = some ⟨b, 0, none⟩ ∧ (⟨own, b, 0, ints .u8 xs ++ lx⟩ : Sg) ∈ F ∧ ∀ v ∈ lx, v.oneCell' = true) (hlc : l ≤ c) (hn : 0 < n) (hbig : l + n ≤ 1099511627776) (hcb : c ≤ 1099511627776) :
    HC Try.prog 148 #[.slice ad l c, .int .i64 n] F (fun v M' => ∃ b q sp, v = .slice (some ⟨b, 0, none⟩) l q ∧ xs.length + sp.length = q ∧ l + n ≤ q ∧ q ≤ 9223372036854775807 ∧ (∀ v ∈ sp, v.oneCell' = true) ∧ M' = ⟨true, b, 0, ints .u8 xs ++ sp⟩ :: F) := by
  obtain ⟨I, hI, hI1, hI2, hI3⟩ := info5'
  refine HC_of_W_defer (fn := Try.f148) Try.func148 rfl rfl rfl rfl recover_idle Tb.k149 ?_
  repeat' (first | (refine isO ?_; first | refine oo (Pc rfl) ?_ | refine oo (Pa rfl (by omega) (by omega)) ?_ | (refine ob rfl ?_ ?_ <;> intro hq <;> try (exfalso; omega)) | refine oo (Pi rfl (by omega)) ?_ | refine oo (Pl rfl) ?_ | refine oo (Px rfl rfl) ?_ | refine oo (Pj rfl (by omega) (by omega)) ?_ | refine oo (Pk rfl (by omega) (by omega)) ?_ | refine oo (Pf rfl) ?_ | refine oo (Pv rfl (by omega) (by omega)) ?_ | refine oo (Pn rfl) ?_ | refine oo (Pm rfl) ?_ | refine os rfl rfl ?_ | refine ot rfl (by omega) ?_ | refine O_nil ?_) | refine wo rfl ?_ | refine wc rfl ?_ | refine wg rfl ?_ | refine go rfl ?_ | refine gc rfl ?_ | refine gg rfl ?_)
  refine G_fin ⟨rfl, ?_⟩
  repeat' (first | (refine isO ?_; first | refine oo (Pc rfl) ?_ | refine oo (Pa rfl (by omega) (by omega)) ?_ | (refine ob rfl ?_ ?_ <;> intro hq <;> try (exfalso; omega)) | refine oo (Pi rfl (by omega)) ?_ | refine oo (Pl rfl) ?_ | refine oo (Px rfl rfl) ?_ | refine oo (Pj rfl (by omega) (by omega)) ?_ | refine oo (Pk rfl (by omega) (by omega)) ?_ | refine oo (Pf rfl) ?_ | refine oo (Pv rfl (by omega) (by omega)) ?_ | refine oo (Pn rfl) ?_ | refine oo (Pm rfl) ?_ | refine os rfl rfl ?_ | refine ot rfl (by omega) ?_ | refine O_nil ?_) | refine wo rfl ?_ | refine wc rfl ?_ | refine wg rfl ?_ | refine go rfl ?_ | refine gc rfl ?_ | refine gg rfl ?_)
  refine O_pure (P_cap Tb.u22 rfl) trivial rfl ?_
  repeat' (first | (refine isO ?_; first | refine oo (Pc rfl) ?_ | refine oo (Pa rfl (by omega) (by omega)) ?_ | (refine ob rfl ?_ ?_ <;> intro hq <;> try (exfalso; omega)) | refine oo (Pi rfl (by omega)) ?_ | refine oo (Pl rfl) ?_ | refine oo (Px rfl rfl) ?_ | refine oo (Pj rfl (by omega) (by omega)) ?_ | refine oo (Pk rfl (by omega) (by omega)) ?_ | refine oo (Pf rfl) ?_ | refine oo (Pv rfl (by omega) (by omega)) ?_ | refine oo (Pn rfl) ?_ | refine oo (Pm rfl) ?_ | refine os rfl rfl ?_ | refine ot rfl (by omega) ?_ | refine O_nil ?_) | refine wo rfl ?_ | refine wc rfl ?_ | refine wg rfl ?_ | refine go rfl ?_ | refine gc rfl ?_ | refine gg rfl ?_)
  · refine O_pure (P_cap Tb.u22 rfl) trivial rfl ?_
    repeat' (first | (refine isO ?_; first | refine oo (Pc rfl) ?_ | refine oo (Pa rfl (by omega) (by omega)) ?_ | (refine ob rfl ?_ ?_ <;> intro hq <;> try (exfalso; omega)) | refine oo (Pi rfl (by omega)) ?_ | refine oo (Pl rfl) ?_ | refine oo (Px rfl rfl) ?_ | refine oo (Pj rfl (by omega) (by omega)) ?_ | refine oo (Pk rfl (by omega) (by omega)) ?_ | refine oo (Pf rfl) ?_ | refine oo (Pv rfl (by omega) (by omega)) ?_ | refine oo (Pn rfl) ?_ | refine oo (Pm rfl) ?_ | refine os rfl rfl ?_ | refine ot rfl (by omega) ?_ | refine O_nil ?_) | refine wo rfl ?_ | refine wc rfl ?_ | refine wg rfl ?_ | refine go rfl ?_ | refine gc rfl ?_ | refine gg rfl ?_)
    refine O_appendZ (c := 2 * c) rfl (by omega) (by omega) (by omega) trivial rfl fun b' q hq hqm => ?_
    repeat' (first | (refine isO ?_; first | refine oo (Pc rfl) ?_ | refine oo (Pa rfl (by omega) (by omega)) ?_ | (refine ob rfl ?_ ?_ <;> intro hq <;> try (exfalso; omega)) | refine oo (Pi rfl (by omega)) ?_ | refine oo (Pl rfl) ?_ | refine oo (Px rfl rfl) ?_ | refine oo (Pj rfl (by omega) (by omega)) ?_ | refine oo (Pk rfl (by omega) (by omega)) ?_ | refine oo (Pf rfl) ?_ | refine oo (Pv rfl (by omega) (by omega)) ?_ | refine oo (Pn rfl) ?_ | refine oo (Pm rfl) ?_ | refine os rfl rfl ?_ | refine ot rfl (by omega) ?_ | refine O_nil ?_) | refine wo rfl ?_ | refine wc rfl ?_ | refine wg rfl ?_ | refine go rfl ?_ | refine gc rfl ?_ | refine gg rfl ?_)
    rcases hF with ⟨rfl, rfl⟩ | ⟨b, own, lx, rfl, hm, hone⟩
    · refine O_pure (P_copy0 Tb.u22 hI rfl rfl (by simp)) trivial rfl ?_
      repeat' (first | (refine isO ?_; first | refine oo (Pc rfl) ?_ | refine oo (Pa rfl (by omega) (by omega)) ?_ | (refine ob rfl ?_ ?_ <;> intro hq <;> try (exfalso; omega)) | refine oo (Pi rfl (by omega)) ?_ | refine oo (Pl rfl) ?_ | refine oo (Px rfl rfl) ?_ | refine oo (Pj rfl (by omega) (by omega)) ?_ | refine oo (Pk rfl (by omega) (by omega)) ?_ | refine oo (Pf rfl) ?_ | refine oo (Pv rfl (by omega) (by omega)) ?_ | refine oo (Pn rfl) ?_ | refine oo (Pm rfl) ?_ | refine os rfl rfl ?_ | refine ot rfl (by omega) ?_ | refine O_nil ?_) | refine wo rfl ?_ | refine wc rfl ?_ | refine wg rfl ?_ | refine go rfl ?_ | refine gc rfl ?_ | refine gg rfl ?_)
      refine O_pure (P_slice1 Tb.u22 Tb.c5 rfl rfl ⟨_, rfl⟩ (by omega) (by omega) (by omega) (by omega)) trivial rfl ?_
      repeat' (first | (refine isO ?_; first | refine oo (Pc rfl) ?_ | refine oo (Pa rfl (by omega) (by omega)) ?_ | (refine ob rfl ?_ ?_ <;> intro hq <;> try (exfalso; omega)) | refine oo (Pi rfl (by omega)) ?_ | refine oo (Pl rfl) ?_ | refine oo (Px rfl rfl) ?_ | refine oo (Pj rfl (by omega) (by omega)) ?_ | refine oo (Pk rfl (by omega) (by omega)) ?_ | refine oo (Pf rfl) ?_ | refine oo (Pv rfl (by omega) (by omega)) ?_ | refine oo (Pn rfl) ?_ | refine oo (Pm rfl) ?_ | refine os rfl rfl ?_ | refine ot rfl (by omega) ?_ | refine O_nil ?_) | refine wo rfl ?_ | refine wc rfl ?_ | refine wg rfl ?_ | refine go rfl ?_ | refine gc rfl ?_ | refine gg rfl ?_)
      refine G_fin ⟨_, rfl, b', q, List.replicate q (.int .u8 0), ?_, by simp [hx], by omega, hqm, ?_, ?_⟩
      · simp
      · intro v hv; rw [List.eq_of_mem_replicate hv]; rfl
      · rw [List.length_eq_zero_iff.1 hx]; simp [ints]
    · refine O_copy (o := 0) (i := 0) (ox := 0) (j := 0) (size := 1) (n := l) Tb.u22 hI hI1 rfl rfl (by omega) rfl rfl .head (.tail _ hm) (by simp [ints_length, hx]) (by
        intro v hv
        rcases List.mem_append.1 hv with h | h
        · simp [ints] at h; obtain ⟨z, _, rfl⟩ := h; rfl
        · exact hone v h) (by simp; omega) (l' := ints .u8 xs ++ List.replicate (q - l) (.int .u8 0)) ?_ trivial rfl ?_
      · have h1 : (List.drop 0 (ints .u8 xs ++ lx)).take (l * 1) = ints .u8 xs := by
          rw [List.drop_zero, Nat.mul_one, ← hx, ← ints_length .u8 xs, List.take_left]
        rw [h1]
        have := putAt_append (ints .u8 xs) [] (List.replicate q (.int .u8 0)) (by simp [ints_length, hx]; omega)
        simpa [ints_length, hx] using this
      repeat' (first | (refine isO ?_; first | refine oo (Pc rfl) ?_ | refine oo (Pa rfl (by omega) (by omega)) ?_ | (refine ob rfl ?_ ?_ <;> intro hq <;> try (exfalso; omega)) | refine oo (Pi rfl (by omega)) ?_ | refine oo (Pl rfl) ?_ | refine oo (Px rfl rfl) ?_ | refine oo (Pj rfl (by omega) (by omega)) ?_ | refine oo (Pk rfl (by omega) (by omega)) ?_ | refine oo (Pf rfl) ?_ | refine oo (Pv rfl (by omega) (by omega)) ?_ | refine oo (Pn rfl) ?_ | refine oo (Pm rfl) ?_ | refine os rfl rfl ?_ | refine ot rfl (by omega) ?_ | refine O_nil ?_) | refine wo rfl ?_ | refine wc rfl ?_ | refine wg rfl ?_ | refine go rfl ?_ | refine gc rfl ?_ | refine gg rfl ?_)
      refine O_pure (P_slice1 Tb.u22 Tb.c5 rfl rfl ⟨_, rfl⟩ (by omega) (by omega) (by omega) (by omega)) trivial rfl ?_
      repeat' (first | (refine isO ?_; first | refine oo (Pc rfl) ?_ | refine oo (Pa rfl (by omega) (by omega)) ?_ | (refine ob rfl ?_ ?_ <;> intro hq <;> try (exfalso; omega)) | refine oo (Pi rfl (by omega)) ?_ | refine oo (Pl rfl) ?_ | refine oo (Px rfl rfl) ?_ | refine oo (Pj rfl (by omega) (by omega)) ?_ | refine oo (Pk rfl (by omega) (by omega)) ?_ | refine oo (Pf rfl) ?_ | refine oo (Pv rfl (by omega) (by omega)) ?_ | refine oo (Pn rfl) ?_ | refine oo (Pm rfl) ?_ | refine os rfl rfl ?_ | refine ot rfl (by omega) ?_ | refine O_nil ?_) | refine wo rfl ?_ | refine wc rfl ?_ | refine wg rfl ?_ | refine go rfl ?_ | refine gc rfl ?_ | refine gg rfl ?_)
      refine G_fin ⟨_, rfl, b', q, List.replicate (q - l) (.int .u8 0), ?_, by simp [hx]; omega, by omega, hqm, ?_, rfl⟩
      · simp
      · intro v hv; rw [List.eq_of_mem_replicate hv]; rfl
  · refine O_appendZ (c := l + n) rfl (by omega) (by omega) (by omega) trivial rfl fun b' q hq hqm => ?_
    repeat' (first | (refine isO ?_; first | refine oo (Pc rfl) ?_ | refine oo (Pa rfl (by omega) (by omega)) ?_ | (refine ob rfl ?_ ?_ <;> intro hq <;> try (exfalso; omega)) | refine oo (Pi rfl (by omega)) ?_ | refine oo (Pl rfl) ?_ | refine oo (Px rfl rfl) ?_ | refine oo (Pj rfl (by omega) (by omega)) ?_ | refine oo (Pk rfl (by omega) (by omega)) ?_ | refine oo (Pf rfl) ?_ | refine oo (Pv rfl (by omega) (by omega)) ?_ | refine oo (Pn rfl) ?_ | refine oo (Pm rfl) ?_ | refine os rfl rfl ?_ | refine ot rfl (by omega) ?_ | refine O_nil ?_) | refine wo rfl ?_ | refine wc rfl ?_ | refine wg rfl ?_ | refine go rfl ?_ | refine gc rfl ?_ | refine gg rfl ?_)
    rcases hF with ⟨rfl, rfl⟩ | ⟨b, own, lx, rfl, hm, hone⟩
    · refine O_pure (P_copy0 Tb.u22 hI rfl rfl (by simp)) trivial rfl ?_
      repeat' (first | (refine isO ?_; first | refine oo (Pc rfl) ?_ | refine oo (Pa rfl (by omega) (by omega)) ?_ | (refine ob rfl ?_ ?_ <;> intro hq <;> try (exfalso; omega)) | refine oo (Pi rfl (by omega)) ?_ | refine oo (Pl rfl) ?_ | refine oo (Px rfl rfl) ?_ | refine oo (Pj rfl (by omega) (by omega)) ?_ | refine oo (Pk rfl (by omega) (by omega)) ?_ | refine oo (Pf rfl) ?_ | refine oo (Pv rfl (by omega) (by omega)) ?_ | refine oo (Pn rfl) ?_ | refine oo (Pm rfl) ?_ | refine os rfl rfl ?_ | refine ot rfl (by omega) ?_ | refine O_nil ?_) | refine wo rfl ?_ | refine wc rfl ?_ | refine wg rfl ?_ | refine go rfl ?_ | refine gc rfl ?_ | refine gg rfl ?_)
      refine O_pure (P_slice1 Tb.u22 Tb.c5 rfl rfl ⟨_, rfl⟩ (by omega) (by omega) (by omega) (by omega)) trivial rfl ?_
      repeat' (first | (refine isO ?_; first | refine oo (Pc rfl) ?_ | refine oo (Pa rfl (by omega) (by omega)) ?_ | (refine ob rfl ?_ ?_ <;> intro hq <;> try (exfalso; omega)) | refine oo (Pi rfl (by omega)) ?_ | refine oo (Pl rfl) ?_ | refine oo (Px rfl rfl) ?_ | refine oo (Pj rfl (by omega) (by omega)) ?_ | refine oo (Pk rfl (by omega) (by omega)) ?_ | refine oo (Pf rfl) ?_ | refine oo (Pv rfl (by omega) (by omega)) ?_ | refine oo (Pn rfl) ?_ | refine oo (Pm rfl) ?_ | refine os rfl rfl ?_ | refine ot rfl (by omega) ?_ | refine O_nil ?_) | refine wo rfl ?_ | refine wc rfl ?_ | refine wg rfl ?_ | refine go rfl ?_ | refine gc rfl ?_ | refine gg rfl ?_)
      refine G_fin ⟨_, rfl, b', q, List.replicate q (.int .u8 0), ?_, by simp [hx], by omega, hqm, ?_, ?_⟩
      · simp
      · intro v hv; rw [List.eq_of_mem_replicate hv]; rfl
      · rw [List.length_eq_zero_iff.1 hx]; simp [ints]
    · refine O_copy (o := 0) (i := 0) (ox := 0) (j := 0) (size := 1) (n := l) Tb.u22 hI hI1 rfl rfl (by omega) rfl rfl .head (.tail _ hm) (by simp [ints_length, hx]) (by
        intro v hv
        rcases List.mem_append.1 hv with h | h
        · simp [ints] at h; obtain ⟨z, _, rfl⟩ := h; rfl
        · exact hone v h) (by simp; omega) (l' := ints .u8 xs ++ List.replicate (q - l) (.int .u8 0)) ?_ trivial rfl ?_
      · have h1 : (List.drop 0 (ints .u8 xs ++ lx)).take (l * 1) = ints .u8 xs := by
          rw [List.drop_zero, Nat.mul_one, ← hx, ← ints_length .u8 xs, List.take_left]
        rw [h1]
        have := putAt_append (ints .u8 xs) [] (List.replicate q (.int .u8 0)) (by simp [ints_length, hx]; omega)
        simpa [ints_length, hx] using this
      repeat' (first | (refine isO ?_; first | refine oo (Pc rfl) ?_ | refine oo (Pa rfl (by omega) (by omega)) ?_ | (refine ob rfl ?_ ?_ <;> intro hq <;> try (exfalso; omega)) | refine oo (Pi rfl (by omega)) ?_ | refine oo (Pl rfl) ?_ | refine oo (Px rfl rfl) ?_ | refine oo (Pj rfl (by omega) (by omega)) ?_ | refine oo (Pk rfl (by omega) (by omega)) ?_ | refine oo (Pf rfl) ?_ | refine oo (Pv rfl (by omega) (by omega)) ?_ | refine oo (Pn rfl) ?_ | refine oo (Pm rfl) ?_ | refine os rfl rfl ?_ | refine ot rfl (by omega) ?_ | refine O_nil ?_) | refine wo rfl ?_ | refine wc rfl ?_ | refine wg rfl ?_ | refine go rfl ?_ | refine gc rfl ?_ | refine gg rfl ?_)
      refine O_pure (P_slice1 Tb.u22 Tb.c5 rfl rfl ⟨_, rfl⟩ (by omega) (by omega) (by omega) (by omega)) trivial rfl ?_
      repeat' (first | (refine isO ?_; first | refine oo (Pc rfl) ?_ | refine oo (Pa rfl (by omega) (by omega)) ?_ | (refine ob rfl ?_ ?_ <;> intro hq <;> try (exfalso; omega)) | refine oo (Pi rfl (by omega)) ?_ | refine oo (Pl rfl) ?_ | refine oo (Px rfl rfl) ?_ | refine oo (Pj rfl (by omega) (by omega)) ?_ | refine oo (Pk rfl (by omega) (by omega)) ?_ | refine oo (Pf rfl) ?_ | refine oo (Pv rfl (by omega) (by omega)) ?_ | refine oo (Pn rfl) ?_ | refine oo (Pm rfl) ?_ | refine os rfl rfl ?_ | refine ot rfl (by omega) ?_ | refine O_nil ?_) | refine wo rfl ?_ | refine wc rfl ?_ | refine wg rfl ?_ | refine go rfl ?_ | refine gc rfl ?_ | refine gg rfl ?_)
      refine G_fin ⟨_, rfl, b', q, List.replicate (q - l) (.int .u8 0), ?_, by simp [hx]; omega, by omega, hqm, ?_, rfl⟩
      · simp
      · intro v hv; rw [List.eq_of_mem_replicate hv]; rfl
end Go.Proofs.Ytjkpfliaflmppaa.Bu
