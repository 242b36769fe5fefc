/- The table facts as instances. No condition. Drawn regions: quiet operations, and one that comes last of all; a struct stored as it stands. No condition. -/
import Derived.Test.YtjkpfliaflmppaaW6x06
import Derived.Test.YtjkpfliaflmppaaW6x03

namespace Go.Proofs.Ytjkpfliaflmppaa.Tb
open Go Go.Proofs.Ytjkpfliaflmppaa.Vm

instance : CelC Try.prog 0 1 := ⟨c0⟩
instance : PlainC Try.prog 0 := ⟨p0⟩
instance : NonIfC Try.prog 0 := ⟨n0⟩
instance : CelC Try.prog 1 1 := ⟨c1⟩
instance : PlainC Try.prog 1 := ⟨p1⟩
instance : NonIfC Try.prog 1 := ⟨n1⟩
instance : CelC Try.prog 2 1 := ⟨c2⟩
instance : UndC Try.prog 2 (.int .i64) := ⟨u2⟩
instance : PlainC Try.prog 2 := ⟨p2⟩
instance : NonIfC Try.prog 2 := ⟨n2⟩
instance : CelC Try.prog 3 1 := ⟨c3⟩
instance : UndC Try.prog 3 (.int .i64) := ⟨u3⟩
instance : PlainC Try.prog 3 := ⟨p3⟩
instance : NonIfC Try.prog 3 := ⟨n3⟩
instance : CelC Try.prog 4 1 := ⟨c4⟩
instance : PlainC Try.prog 4 := ⟨p4⟩
instance : NonIfC Try.prog 4 := ⟨n4⟩
instance : CelC Try.prog 5 1 := ⟨c5⟩
instance : UndC Try.prog 5 (.int .u8) := ⟨u5⟩
instance : PlainC Try.prog 5 := ⟨p5⟩
instance : NonIfC Try.prog 5 := ⟨n5⟩
instance : CelC Try.prog 6 1 := ⟨c6⟩
instance : UndC Try.prog 6 (.int .u8) := ⟨u6⟩
instance : PlainC Try.prog 6 := ⟨p6⟩
instance : NonIfC Try.prog 6 := ⟨n6⟩
instance : CelC Try.prog 7 4 := ⟨c7⟩
instance : NonIfC Try.prog 7 := ⟨n7⟩
instance : CelC Try.prog 8 4 := ⟨c8⟩
instance : NonIfC Try.prog 8 := ⟨n8⟩
instance : CelC Try.prog 9 1 := ⟨c9⟩
instance : PlainC Try.prog 9 := ⟨p9⟩
instance : NonIfC Try.prog 9 := ⟨n9⟩
instance : CelC Try.prog 10 1 := ⟨c10⟩
instance : PlainC Try.prog 10 := ⟨p10⟩
instance : NonIfC Try.prog 10 := ⟨n10⟩
instance : CelC Try.prog 11 1 := ⟨c11⟩
instance : PlainC Try.prog 11 := ⟨p11⟩
instance : NonIfC Try.prog 11 := ⟨n11⟩
instance : CelC Try.prog 12 1 := ⟨c12⟩
instance : UndC Try.prog 12 (.int .u64) := ⟨u12⟩
instance : PlainC Try.prog 12 := ⟨p12⟩
instance : NonIfC Try.prog 12 := ⟨n12⟩
instance : CelC Try.prog 13 2 := ⟨c13⟩
instance : NonIfC Try.prog 13 := ⟨n13⟩
instance : CelC Try.prog 14 2 := ⟨c14⟩
instance : NonIfC Try.prog 14 := ⟨n14⟩
instance : CelC Try.prog 15 1 := ⟨c15⟩
instance : PlainC Try.prog 15 := ⟨p15⟩
instance : NonIfC Try.prog 15 := ⟨n15⟩
instance : CelC Try.prog 16 1 := ⟨c16⟩
instance : PlainC Try.prog 16 := ⟨p16⟩
instance : NonIfC Try.prog 16 := ⟨n16⟩
instance : CelC Try.prog 17 1 := ⟨c17⟩
instance : PlainC Try.prog 17 := ⟨p17⟩
instance : NonIfC Try.prog 17 := ⟨n17⟩
instance : CelC Try.prog 18 1 := ⟨c18⟩
instance : NonIfC Try.prog 18 := ⟨n18⟩
instance : CelC Try.prog 19 1 := ⟨c19⟩
instance : NonIfC Try.prog 19 := ⟨n19⟩
instance : CelC Try.prog 20 1 := ⟨c20⟩
instance : PlainC Try.prog 20 := ⟨p20⟩
instance : CelC Try.prog 21 1 := ⟨c21⟩
instance : UndC Try.prog 21 (.int .i32) := ⟨u21⟩
instance : PlainC Try.prog 21 := ⟨p21⟩
instance : NonIfC Try.prog 21 := ⟨n21⟩
instance : CelC Try.prog 22 1 := ⟨c22⟩
instance : UndC Try.prog 22 (.slice 5) := ⟨u22⟩
instance : PlainC Try.prog 22 := ⟨p22⟩
instance : NonIfC Try.prog 22 := ⟨n22⟩
instance : CelC Try.prog 23 1 := ⟨c23⟩
instance : UndC Try.prog 23 (.slice 42) := ⟨u23⟩
instance : PlainC Try.prog 23 := ⟨p23⟩
instance : NonIfC Try.prog 23 := ⟨n23⟩
instance : CelC Try.prog 24 1 := ⟨c24⟩
instance : PlainC Try.prog 24 := ⟨p24⟩
instance : NonIfC Try.prog 24 := ⟨n24⟩
instance : CelC Try.prog 25 1 := ⟨c25⟩
instance : PlainC Try.prog 25 := ⟨p25⟩
instance : NonIfC Try.prog 25 := ⟨n25⟩
instance : CelC Try.prog 26 1 := ⟨c26⟩
instance : PlainC Try.prog 26 := ⟨p26⟩
instance : NonIfC Try.prog 26 := ⟨n26⟩
instance : CelC Try.prog 27 1 := ⟨c27⟩
instance : PlainC Try.prog 27 := ⟨p27⟩
instance : NonIfC Try.prog 27 := ⟨n27⟩
instance : CelC Try.prog 28 1 := ⟨c28⟩
instance : PlainC Try.prog 28 := ⟨p28⟩
instance : NonIfC Try.prog 28 := ⟨n28⟩
instance : CelC Try.prog 29 1 := ⟨c29⟩
instance : PlainC Try.prog 29 := ⟨p29⟩
instance : NonIfC Try.prog 29 := ⟨n29⟩
instance : CelC Try.prog 30 1 := ⟨c30⟩
instance : PlainC Try.prog 30 := ⟨p30⟩
instance : NonIfC Try.prog 30 := ⟨n30⟩
instance : CelC Try.prog 31 1 := ⟨c31⟩
instance : PlainC Try.prog 31 := ⟨p31⟩
instance : NonIfC Try.prog 31 := ⟨n31⟩
instance : CelC Try.prog 32 1 := ⟨c32⟩
instance : UndC Try.prog 32 (.slice 76) := ⟨u32⟩
instance : PlainC Try.prog 32 := ⟨p32⟩
instance : NonIfC Try.prog 32 := ⟨n32⟩
instance : CelC Try.prog 33 1 := ⟨c33⟩
instance : PlainC Try.prog 33 := ⟨p33⟩
instance : NonIfC Try.prog 33 := ⟨n33⟩
instance : CelC Try.prog 34 1 := ⟨c34⟩
instance : UndC Try.prog 34 (.slice 69) := ⟨u34⟩
instance : PlainC Try.prog 34 := ⟨p34⟩
instance : NonIfC Try.prog 34 := ⟨n34⟩
instance : CelC Try.prog 35 1 := ⟨c35⟩
instance : PlainC Try.prog 35 := ⟨p35⟩
instance : NonIfC Try.prog 35 := ⟨n35⟩
instance : CelC Try.prog 36 1 := ⟨c36⟩
instance : PlainC Try.prog 36 := ⟨p36⟩
instance : NonIfC Try.prog 36 := ⟨n36⟩
instance : CelC Try.prog 37 1 := ⟨c37⟩
instance : PlainC Try.prog 37 := ⟨p37⟩
instance : NonIfC Try.prog 37 := ⟨n37⟩
instance : CelC Try.prog 38 1 := ⟨c38⟩
instance : PlainC Try.prog 38 := ⟨p38⟩
instance : NonIfC Try.prog 38 := ⟨n38⟩
instance : CelC Try.prog 39 1 := ⟨c39⟩
instance : PlainC Try.prog 39 := ⟨p39⟩
instance : NonIfC Try.prog 39 := ⟨n39⟩
instance : CelC Try.prog 40 1 := ⟨c40⟩
instance : UndC Try.prog 40 (.int .u32) := ⟨u40⟩
instance : PlainC Try.prog 40 := ⟨p40⟩
instance : NonIfC Try.prog 40 := ⟨n40⟩
instance : CelC Try.prog 41 4 := ⟨c41⟩
instance : NonIfC Try.prog 41 := ⟨n41⟩
instance : CelC Try.prog 42 4 := ⟨c42⟩
instance : NonIfC Try.prog 42 := ⟨n42⟩
instance : CelC Try.prog 43 1 := ⟨c43⟩
instance : PlainC Try.prog 43 := ⟨p43⟩
instance : NonIfC Try.prog 43 := ⟨n43⟩
instance : CelC Try.prog 44 1 := ⟨c44⟩
instance : PlainC Try.prog 44 := ⟨p44⟩
instance : NonIfC Try.prog 44 := ⟨n44⟩
instance : CelC Try.prog 45 1 := ⟨c45⟩
instance : PlainC Try.prog 45 := ⟨p45⟩
instance : NonIfC Try.prog 45 := ⟨n45⟩
instance : CelC Try.prog 46 1 := ⟨c46⟩
instance : UndC Try.prog 46 (.slice 40) := ⟨u46⟩
instance : PlainC Try.prog 46 := ⟨p46⟩
instance : NonIfC Try.prog 46 := ⟨n46⟩
instance : CelC Try.prog 47 1 := ⟨c47⟩
instance : PlainC Try.prog 47 := ⟨p47⟩
instance : NonIfC Try.prog 47 := ⟨n47⟩
instance : CelC Try.prog 48 1 := ⟨c48⟩
instance : PlainC Try.prog 48 := ⟨p48⟩
instance : NonIfC Try.prog 48 := ⟨n48⟩
instance : CelC Try.prog 49 1 := ⟨c49⟩
instance : UndC Try.prog 49 (.int .u64) := ⟨u49⟩
instance : PlainC Try.prog 49 := ⟨p49⟩
instance : NonIfC Try.prog 49 := ⟨n49⟩
instance : CelC Try.prog 50 1 := ⟨c50⟩
instance : PlainC Try.prog 50 := ⟨p50⟩
instance : NonIfC Try.prog 50 := ⟨n50⟩
instance : CelC Try.prog 51 1 := ⟨c51⟩
instance : PlainC Try.prog 51 := ⟨p51⟩
instance : NonIfC Try.prog 51 := ⟨n51⟩
instance : CelC Try.prog 52 5 := ⟨c52⟩
instance : UndC Try.prog 52 (.array 5 4) := ⟨u52⟩
instance : NonIfC Try.prog 52 := ⟨n52⟩
instance : CelC Try.prog 53 1 := ⟨c53⟩
instance : PlainC Try.prog 53 := ⟨p53⟩
instance : NonIfC Try.prog 53 := ⟨n53⟩
instance : CelC Try.prog 54 1 := ⟨c54⟩
instance : PlainC Try.prog 54 := ⟨p54⟩
instance : NonIfC Try.prog 54 := ⟨n54⟩
instance : CelC Try.prog 55 1 := ⟨c55⟩
instance : PlainC Try.prog 55 := ⟨p55⟩
instance : NonIfC Try.prog 55 := ⟨n55⟩
instance : CelC Try.prog 56 1 := ⟨c56⟩
instance : PlainC Try.prog 56 := ⟨p56⟩
instance : NonIfC Try.prog 56 := ⟨n56⟩
instance : CelC Try.prog 57 1 := ⟨c57⟩
instance : PlainC Try.prog 57 := ⟨p57⟩
instance : NonIfC Try.prog 57 := ⟨n57⟩
instance : CelC Try.prog 58 1 := ⟨c58⟩
instance : UndC Try.prog 58 (.int .u64) := ⟨u58⟩
instance : PlainC Try.prog 58 := ⟨p58⟩
instance : NonIfC Try.prog 58 := ⟨n58⟩
instance : CelC Try.prog 59 1 := ⟨c59⟩
instance : PlainC Try.prog 59 := ⟨p59⟩
instance : NonIfC Try.prog 59 := ⟨n59⟩
instance : CelC Try.prog 60 1 := ⟨c60⟩
instance : PlainC Try.prog 60 := ⟨p60⟩
instance : NonIfC Try.prog 60 := ⟨n60⟩
instance : CelC Try.prog 61 1 := ⟨c61⟩
instance : PlainC Try.prog 61 := ⟨p61⟩
instance : NonIfC Try.prog 61 := ⟨n61⟩
instance : CelC Try.prog 62 1 := ⟨c62⟩
instance : PlainC Try.prog 62 := ⟨p62⟩
instance : NonIfC Try.prog 62 := ⟨n62⟩
instance : CelC Try.prog 63 1 := ⟨c63⟩
instance : UndC Try.prog 63 (.slice 49) := ⟨u63⟩
instance : PlainC Try.prog 63 := ⟨p63⟩
instance : NonIfC Try.prog 63 := ⟨n63⟩
instance : CelC Try.prog 64 1 := ⟨c64⟩
instance : PlainC Try.prog 64 := ⟨p64⟩
instance : NonIfC Try.prog 64 := ⟨n64⟩
instance : CelC Try.prog 65 1 := ⟨c65⟩
instance : PlainC Try.prog 65 := ⟨p65⟩
instance : NonIfC Try.prog 65 := ⟨n65⟩
instance : CelC Try.prog 66 1 := ⟨c66⟩
instance : PlainC Try.prog 66 := ⟨p66⟩
instance : NonIfC Try.prog 66 := ⟨n66⟩
instance : CelC Try.prog 67 1 := ⟨c67⟩
instance : PlainC Try.prog 67 := ⟨p67⟩
instance : NonIfC Try.prog 67 := ⟨n67⟩
instance : CelC Try.prog 68 2 := ⟨c68⟩
instance : NonIfC Try.prog 68 := ⟨n68⟩
instance : CelC Try.prog 69 2 := ⟨c69⟩
instance : NonIfC Try.prog 69 := ⟨n69⟩
instance : CelC Try.prog 70 1 := ⟨c70⟩
instance : PlainC Try.prog 70 := ⟨p70⟩
instance : NonIfC Try.prog 70 := ⟨n70⟩
instance : CelC Try.prog 71 1 := ⟨c71⟩
instance : PlainC Try.prog 71 := ⟨p71⟩
instance : NonIfC Try.prog 71 := ⟨n71⟩
instance : CelC Try.prog 72 1 := ⟨c72⟩
instance : PlainC Try.prog 72 := ⟨p72⟩
instance : NonIfC Try.prog 72 := ⟨n72⟩
instance : CelC Try.prog 73 1 := ⟨c73⟩
instance : PlainC Try.prog 73 := ⟨p73⟩
instance : NonIfC Try.prog 73 := ⟨n73⟩
instance : CelC Try.prog 74 1 := ⟨c74⟩
instance : PlainC Try.prog 74 := ⟨p74⟩
instance : NonIfC Try.prog 74 := ⟨n74⟩
instance : CelC Try.prog 75 4 := ⟨c75⟩
instance : NonIfC Try.prog 75 := ⟨n75⟩
instance : CelC Try.prog 76 4 := ⟨c76⟩
instance : NonIfC Try.prog 76 := ⟨n76⟩
instance : CelC Try.prog 77 1 := ⟨c77⟩
instance : PlainC Try.prog 77 := ⟨p77⟩
instance : NonIfC Try.prog 77 := ⟨n77⟩
instance : CelC Try.prog 78 1 := ⟨c78⟩
instance : UndC Try.prog 78 (.slice 146) := ⟨u78⟩
instance : PlainC Try.prog 78 := ⟨p78⟩
instance : NonIfC Try.prog 78 := ⟨n78⟩
instance : CelC Try.prog 79 1 := ⟨c79⟩
instance : UndC Try.prog 79 (.slice 146) := ⟨u79⟩
instance : PlainC Try.prog 79 := ⟨p79⟩
instance : NonIfC Try.prog 79 := ⟨n79⟩
instance : CelC Try.prog 80 1 := ⟨c80⟩
instance : PlainC Try.prog 80 := ⟨p80⟩
instance : NonIfC Try.prog 80 := ⟨n80⟩
instance : CelC Try.prog 81 1 := ⟨c81⟩
instance : PlainC Try.prog 81 := ⟨p81⟩
instance : CelC Try.prog 82 1 := ⟨c82⟩
instance : PlainC Try.prog 82 := ⟨p82⟩
instance : CelC Try.prog 83 1 := ⟨c83⟩
instance : PlainC Try.prog 83 := ⟨p83⟩
instance : NonIfC Try.prog 83 := ⟨n83⟩
instance : CelC Try.prog 84 1 := ⟨c84⟩
instance : PlainC Try.prog 84 := ⟨p84⟩
instance : NonIfC Try.prog 84 := ⟨n84⟩
instance : CelC Try.prog 85 1 := ⟨c85⟩
instance : PlainC Try.prog 85 := ⟨p85⟩
instance : NonIfC Try.prog 85 := ⟨n85⟩
instance : CelC Try.prog 86 1 := ⟨c86⟩
instance : PlainC Try.prog 86 := ⟨p86⟩
instance : NonIfC Try.prog 86 := ⟨n86⟩
instance : CelC Try.prog 87 1 := ⟨c87⟩
instance : UndC Try.prog 87 (.slice 5) := ⟨u87⟩
instance : PlainC Try.prog 87 := ⟨p87⟩
instance : NonIfC Try.prog 87 := ⟨n87⟩
instance : CelC Try.prog 88 1 := ⟨c88⟩
instance : PlainC Try.prog 88 := ⟨p88⟩
instance : NonIfC Try.prog 88 := ⟨n88⟩
instance : CelC Try.prog 89 1 := ⟨c89⟩
instance : PlainC Try.prog 89 := ⟨p89⟩
instance : NonIfC Try.prog 89 := ⟨n89⟩
instance : CelC Try.prog 90 1 := ⟨c90⟩
instance : PlainC Try.prog 90 := ⟨p90⟩
instance : NonIfC Try.prog 90 := ⟨n90⟩
instance : CelC Try.prog 91 1 := ⟨c91⟩
instance : UndC Try.prog 91 (.int .i8) := ⟨u91⟩
instance : PlainC Try.prog 91 := ⟨p91⟩
instance : NonIfC Try.prog 91 := ⟨n91⟩
instance : CelC Try.prog 92 1 := ⟨c92⟩
instance : UndC Try.prog 92 (.int .i8) := ⟨u92⟩
instance : PlainC Try.prog 92 := ⟨p92⟩
instance : NonIfC Try.prog 92 := ⟨n92⟩
instance : CelC Try.prog 93 3 := ⟨c93⟩
instance : NonIfC Try.prog 93 := ⟨n93⟩
instance : CelC Try.prog 94 3 := ⟨c94⟩
instance : NonIfC Try.prog 94 := ⟨n94⟩
instance : CelC Try.prog 95 1 := ⟨c95⟩
instance : PlainC Try.prog 95 := ⟨p95⟩
instance : CelC Try.prog 96 1 := ⟨c96⟩
instance : PlainC Try.prog 96 := ⟨p96⟩
instance : CelC Try.prog 97 512 := ⟨c97⟩
instance : UndC Try.prog 97 (.array 512 5) := ⟨u97⟩
instance : NonIfC Try.prog 97 := ⟨n97⟩
instance : CelC Try.prog 98 518 := ⟨c98⟩
instance : NonIfC Try.prog 98 := ⟨n98⟩
instance : CelC Try.prog 99 518 := ⟨c99⟩
instance : NonIfC Try.prog 99 := ⟨n99⟩
instance : CelC Try.prog 100 1 := ⟨c100⟩
instance : PlainC Try.prog 100 := ⟨p100⟩
instance : NonIfC Try.prog 100 := ⟨n100⟩
instance : CelC Try.prog 101 1 := ⟨c101⟩
instance : PlainC Try.prog 101 := ⟨p101⟩
instance : NonIfC Try.prog 101 := ⟨n101⟩
instance : CelC Try.prog 102 3 := ⟨c102⟩
instance : NonIfC Try.prog 102 := ⟨n102⟩
instance : CelC Try.prog 103 3 := ⟨c103⟩
instance : NonIfC Try.prog 103 := ⟨n103⟩
instance : CelC Try.prog 104 1 := ⟨c104⟩
instance : PlainC Try.prog 104 := ⟨p104⟩
instance : NonIfC Try.prog 104 := ⟨n104⟩
instance : CelC Try.prog 105 1 := ⟨c105⟩
instance : UndC Try.prog 105 (.slice 141) := ⟨u105⟩
instance : PlainC Try.prog 105 := ⟨p105⟩
instance : NonIfC Try.prog 105 := ⟨n105⟩
instance : CelC Try.prog 106 1 := ⟨c106⟩
instance : UndC Try.prog 106 (.slice 141) := ⟨u106⟩
instance : PlainC Try.prog 106 := ⟨p106⟩
instance : NonIfC Try.prog 106 := ⟨n106⟩
instance : CelC Try.prog 107 1024 := ⟨c107⟩
instance : UndC Try.prog 107 (.array 1024 40) := ⟨u107⟩
instance : NonIfC Try.prog 107 := ⟨n107⟩
instance : CelC Try.prog 108 1026 := ⟨c108⟩
instance : NonIfC Try.prog 108 := ⟨n108⟩
instance : CelC Try.prog 109 1026 := ⟨c109⟩
instance : NonIfC Try.prog 109 := ⟨n109⟩
instance : CelC Try.prog 110 1 := ⟨c110⟩
instance : PlainC Try.prog 110 := ⟨p110⟩
instance : NonIfC Try.prog 110 := ⟨n110⟩
instance : CelC Try.prog 111 1 := ⟨c111⟩
instance : PlainC Try.prog 111 := ⟨p111⟩
instance : NonIfC Try.prog 111 := ⟨n111⟩
instance : CelC Try.prog 112 1 := ⟨c112⟩
instance : PlainC Try.prog 112 := ⟨p112⟩
instance : NonIfC Try.prog 112 := ⟨n112⟩
instance : CelC Try.prog 113 1 := ⟨c113⟩
instance : PlainC Try.prog 113 := ⟨p113⟩
instance : NonIfC Try.prog 113 := ⟨n113⟩
instance : CelC Try.prog 114 1 := ⟨c114⟩
instance : PlainC Try.prog 114 := ⟨p114⟩
instance : NonIfC Try.prog 114 := ⟨n114⟩
instance : CelC Try.prog 115 1 := ⟨c115⟩
instance : PlainC Try.prog 115 := ⟨p115⟩
instance : NonIfC Try.prog 115 := ⟨n115⟩
instance : CelC Try.prog 116 1 := ⟨c116⟩
instance : PlainC Try.prog 116 := ⟨p116⟩
instance : NonIfC Try.prog 116 := ⟨n116⟩
instance : CelC Try.prog 117 1 := ⟨c117⟩
instance : PlainC Try.prog 117 := ⟨p117⟩
instance : NonIfC Try.prog 117 := ⟨n117⟩
instance : CelC Try.prog 118 1 := ⟨c118⟩
instance : PlainC Try.prog 118 := ⟨p118⟩
instance : NonIfC Try.prog 118 := ⟨n118⟩
instance : CelC Try.prog 119 1 := ⟨c119⟩
instance : PlainC Try.prog 119 := ⟨p119⟩
instance : NonIfC Try.prog 119 := ⟨n119⟩
instance : CelC Try.prog 120 1 := ⟨c120⟩
instance : PlainC Try.prog 120 := ⟨p120⟩
instance : NonIfC Try.prog 120 := ⟨n120⟩
instance : CelC Try.prog 121 1 := ⟨c121⟩
instance : PlainC Try.prog 121 := ⟨p121⟩
instance : NonIfC Try.prog 121 := ⟨n121⟩
instance : CelC Try.prog 122 1 := ⟨c122⟩
instance : PlainC Try.prog 122 := ⟨p122⟩
instance : NonIfC Try.prog 122 := ⟨n122⟩
instance : CelC Try.prog 123 1 := ⟨c123⟩
instance : PlainC Try.prog 123 := ⟨p123⟩
instance : NonIfC Try.prog 123 := ⟨n123⟩
instance : CelC Try.prog 124 1 := ⟨c124⟩
instance : UndC Try.prog 124 (.slice 46) := ⟨u124⟩
instance : PlainC Try.prog 124 := ⟨p124⟩
instance : NonIfC Try.prog 124 := ⟨n124⟩
instance : CelC Try.prog 125 7 := ⟨c125⟩
instance : NonIfC Try.prog 125 := ⟨n125⟩
instance : CelC Try.prog 126 7 := ⟨c126⟩
instance : NonIfC Try.prog 126 := ⟨n126⟩
instance : CelC Try.prog 127 1 := ⟨c127⟩
instance : PlainC Try.prog 127 := ⟨p127⟩
instance : NonIfC Try.prog 127 := ⟨n127⟩
instance : CelC Try.prog 128 3 := ⟨c128⟩
instance : NonIfC Try.prog 128 := ⟨n128⟩
instance : CelC Try.prog 129 3 := ⟨c129⟩
instance : NonIfC Try.prog 129 := ⟨n129⟩
instance : CelC Try.prog 130 1 := ⟨c130⟩
instance : PlainC Try.prog 130 := ⟨p130⟩
instance : NonIfC Try.prog 130 := ⟨n130⟩
instance : CelC Try.prog 131 1 := ⟨c131⟩
instance : PlainC Try.prog 131 := ⟨p131⟩
instance : NonIfC Try.prog 131 := ⟨n131⟩
instance : CelC Try.prog 132 1 := ⟨c132⟩
instance : PlainC Try.prog 132 := ⟨p132⟩
instance : NonIfC Try.prog 132 := ⟨n132⟩
instance : CelC Try.prog 133 1 := ⟨c133⟩
instance : PlainC Try.prog 133 := ⟨p133⟩
instance : NonIfC Try.prog 133 := ⟨n133⟩
instance : CelC Try.prog 134 1 := ⟨c134⟩
instance : UndC Try.prog 134 (.slice 136) := ⟨u134⟩
instance : PlainC Try.prog 134 := ⟨p134⟩
instance : NonIfC Try.prog 134 := ⟨n134⟩
instance : CelC Try.prog 135 2 := ⟨c135⟩
instance : NonIfC Try.prog 135 := ⟨n135⟩
instance : CelC Try.prog 136 2 := ⟨c136⟩
instance : NonIfC Try.prog 136 := ⟨n136⟩
instance : CelC Try.prog 137 1 := ⟨c137⟩
instance : PlainC Try.prog 137 := ⟨p137⟩
instance : NonIfC Try.prog 137 := ⟨n137⟩
instance : CelC Try.prog 138 1 := ⟨c138⟩
instance : PlainC Try.prog 138 := ⟨p138⟩
instance : NonIfC Try.prog 138 := ⟨n138⟩
instance : CelC Try.prog 139 1 := ⟨c139⟩
instance : UndC Try.prog 139 (.slice 58) := ⟨u139⟩
instance : PlainC Try.prog 139 := ⟨p139⟩
instance : NonIfC Try.prog 139 := ⟨n139⟩
instance : CelC Try.prog 140 1 := ⟨c140⟩
instance : PlainC Try.prog 140 := ⟨p140⟩
instance : NonIfC Try.prog 140 := ⟨n140⟩
instance : CelC Try.prog 141 2 := ⟨c141⟩
instance : NonIfC Try.prog 141 := ⟨n141⟩
instance : CelC Try.prog 142 1 := ⟨c142⟩
instance : PlainC Try.prog 142 := ⟨p142⟩
instance : NonIfC Try.prog 142 := ⟨n142⟩
instance : CelC Try.prog 143 1 := ⟨c143⟩
instance : PlainC Try.prog 143 := ⟨p143⟩
instance : NonIfC Try.prog 143 := ⟨n143⟩
instance : CelC Try.prog 144 1 := ⟨c144⟩
instance : PlainC Try.prog 144 := ⟨p144⟩
instance : NonIfC Try.prog 144 := ⟨n144⟩
instance : CelC Try.prog 145 1 := ⟨c145⟩
instance : PlainC Try.prog 145 := ⟨p145⟩
instance : NonIfC Try.prog 145 := ⟨n145⟩
instance : CelC Try.prog 146 4 := ⟨c146⟩
instance : NonIfC Try.prog 146 := ⟨n146⟩
instance : CelC Try.prog 147 1 := ⟨c147⟩
instance : PlainC Try.prog 147 := ⟨p147⟩
instance : NonIfC Try.prog 147 := ⟨n147⟩
instance : CelC Try.prog 148 28 := ⟨c148⟩
instance : UndC Try.prog 148 (.array 28 49) := ⟨u148⟩
instance : NonIfC Try.prog 148 := ⟨n148⟩
instance : CelC Try.prog 149 1 := ⟨c149⟩
instance : PlainC Try.prog 149 := ⟨p149⟩
instance : NonIfC Try.prog 149 := ⟨n149⟩
instance : CelC Try.prog 150 1 := ⟨c150⟩
instance : PlainC Try.prog 150 := ⟨p150⟩
instance : NonIfC Try.prog 150 := ⟨n150⟩
instance : CelC Try.prog 151 1 := ⟨c151⟩
instance : PlainC Try.prog 151 := ⟨p151⟩
instance : NonIfC Try.prog 151 := ⟨n151⟩
instance : CelC Try.prog 152 1 := ⟨c152⟩
instance : PlainC Try.prog 152 := ⟨p152⟩
instance : NonIfC Try.prog 152 := ⟨n152⟩
instance : CelC Try.prog 153 1 := ⟨c153⟩
instance : UndC Try.prog 153 (.slice 146) := ⟨u153⟩
instance : PlainC Try.prog 153 := ⟨p153⟩
instance : NonIfC Try.prog 153 := ⟨n153⟩
instance : CelC Try.prog 154 1 := ⟨c154⟩
instance : PlainC Try.prog 154 := ⟨p154⟩
instance : NonIfC Try.prog 154 := ⟨n154⟩
instance : CelC Try.prog 155 1 := ⟨c155⟩
instance : PlainC Try.prog 155 := ⟨p155⟩
instance : NonIfC Try.prog 155 := ⟨n155⟩
instance : CelC Try.prog 156 1 := ⟨c156⟩
instance : PlainC Try.prog 156 := ⟨p156⟩
instance : NonIfC Try.prog 156 := ⟨n156⟩
instance : CelC Try.prog 157 1 := ⟨c157⟩
instance : PlainC Try.prog 157 := ⟨p157⟩
instance : NonIfC Try.prog 157 := ⟨n157⟩
instance : CelC Try.prog 158 1 := ⟨c158⟩
instance : PlainC Try.prog 158 := ⟨p158⟩
instance : NonIfC Try.prog 158 := ⟨n158⟩
instance : CelC Try.prog 159 1 := ⟨c159⟩
instance : PlainC Try.prog 159 := ⟨p159⟩
instance : NonIfC Try.prog 159 := ⟨n159⟩
instance : CelC Try.prog 160 1 := ⟨c160⟩
instance : UndC Try.prog 160 (.slice 146) := ⟨u160⟩
instance : PlainC Try.prog 160 := ⟨p160⟩
instance : NonIfC Try.prog 160 := ⟨n160⟩
instance : CelC Try.prog 161 1 := ⟨c161⟩
instance : PlainC Try.prog 161 := ⟨p161⟩
instance : NonIfC Try.prog 161 := ⟨n161⟩
instance : CelC Try.prog 162 5 := ⟨c162⟩
instance : NonIfC Try.prog 162 := ⟨n162⟩
instance : CelC Try.prog 163 5 := ⟨c163⟩
instance : NonIfC Try.prog 163 := ⟨n163⟩
instance : CelC Try.prog 164 5120 := ⟨c164⟩
instance : UndC Try.prog 164 (.array 1024 163) := ⟨u164⟩
instance : NonIfC Try.prog 164 := ⟨n164⟩
instance : CelC Try.prog 165 1 := ⟨c165⟩
instance : UndC Try.prog 165 (.slice 163) := ⟨u165⟩
instance : PlainC Try.prog 165 := ⟨p165⟩
instance : NonIfC Try.prog 165 := ⟨n165⟩
instance : CelC Try.prog 166 1 := ⟨c166⟩
instance : PlainC Try.prog 166 := ⟨p166⟩
instance : NonIfC Try.prog 166 := ⟨n166⟩
instance : CelC Try.prog 167 1 := ⟨c167⟩
instance : PlainC Try.prog 167 := ⟨p167⟩
instance : NonIfC Try.prog 167 := ⟨n167⟩
instance : CelC Try.prog 168 28 := ⟨c168⟩
instance : UndC Try.prog 168 (.array 28 40) := ⟨u168⟩
instance : NonIfC Try.prog 168 := ⟨n168⟩
instance : CelC Try.prog 169 1 := ⟨c169⟩
instance : PlainC Try.prog 169 := ⟨p169⟩
instance : NonIfC Try.prog 169 := ⟨n169⟩
instance : CelC Try.prog 170 1 := ⟨c170⟩
instance : NonIfC Try.prog 170 := ⟨n170⟩
instance : CelC Try.prog 171 1 := ⟨c171⟩
instance : NonIfC Try.prog 171 := ⟨n171⟩
instance : CelC Try.prog 172 1 := ⟨c172⟩
instance : UndC Try.prog 172 (.slice 20) := ⟨u172⟩
instance : PlainC Try.prog 172 := ⟨p172⟩
instance : NonIfC Try.prog 172 := ⟨n172⟩
instance : CelC Try.prog 173 1 := ⟨c173⟩
instance : PlainC Try.prog 173 := ⟨p173⟩
instance : NonIfC Try.prog 173 := ⟨n173⟩
instance : CelC Try.prog 174 112 := ⟨c174⟩
instance : UndC Try.prog 174 (.array 28 146) := ⟨u174⟩
instance : NonIfC Try.prog 174 := ⟨n174⟩
instance : CelC Try.prog 175 1 := ⟨c175⟩
instance : PlainC Try.prog 175 := ⟨p175⟩
instance : CelC Try.prog 176 1 := ⟨c176⟩
instance : PlainC Try.prog 176 := ⟨p176⟩
instance : CelC Try.prog 177 1 := ⟨c177⟩
instance : PlainC Try.prog 177 := ⟨p177⟩
instance : NonIfC Try.prog 177 := ⟨n177⟩
instance : CelC Try.prog 178 1 := ⟨c178⟩
instance : PlainC Try.prog 178 := ⟨p178⟩
instance : NonIfC Try.prog 178 := ⟨n178⟩
instance : NonIfC Try.prog 179 := ⟨n179⟩
instance : NonIfC Try.prog 180 := ⟨n180⟩
instance : CelC Try.prog 181 1 := ⟨c181⟩
instance : PlainC Try.prog 181 := ⟨p181⟩
instance : NonIfC Try.prog 181 := ⟨n181⟩
instance : CelC Try.prog 182 1 := ⟨c182⟩
instance : PlainC Try.prog 182 := ⟨p182⟩
instance : NonIfC Try.prog 182 := ⟨n182⟩
instance : CelC Try.prog 183 1 := ⟨c183⟩
instance : PlainC Try.prog 183 := ⟨p183⟩
instance : NonIfC Try.prog 183 := ⟨n183⟩
instance : CelC Try.prog 184 1 := ⟨c184⟩
instance : PlainC Try.prog 184 := ⟨p184⟩
instance : NonIfC Try.prog 184 := ⟨n184⟩
instance : CelC Try.prog 185 1 := ⟨c185⟩
instance : PlainC Try.prog 185 := ⟨p185⟩
instance : NonIfC Try.prog 185 := ⟨n185⟩
instance : CelC Try.prog 186 1 := ⟨c186⟩
instance : PlainC Try.prog 186 := ⟨p186⟩
instance : NonIfC Try.prog 186 := ⟨n186⟩
instance : CelC Try.prog 187 1 := ⟨c187⟩
instance : PlainC Try.prog 187 := ⟨p187⟩
instance : NonIfC Try.prog 187 := ⟨n187⟩
instance : CelC Try.prog 188 1 := ⟨c188⟩
instance : PlainC Try.prog 188 := ⟨p188⟩
instance : NonIfC Try.prog 188 := ⟨n188⟩
instance : CelC Try.prog 189 1 := ⟨c189⟩
instance : UndC Try.prog 189 (.int .i64) := ⟨u189⟩
instance : PlainC Try.prog 189 := ⟨p189⟩
instance : NonIfC Try.prog 189 := ⟨n189⟩
instance : CelC Try.prog 190 1 := ⟨c190⟩
instance : PlainC Try.prog 190 := ⟨p190⟩
instance : NonIfC Try.prog 190 := ⟨n190⟩
instance : CelC Try.prog 191 1 := ⟨c191⟩
instance : PlainC Try.prog 191 := ⟨p191⟩
instance : NonIfC Try.prog 191 := ⟨n191⟩
instance : CelC Try.prog 192 1 := ⟨c192⟩
instance : PlainC Try.prog 192 := ⟨p192⟩
instance : NonIfC Try.prog 192 := ⟨n192⟩
instance : CelC Try.prog 193 1 := ⟨c193⟩
instance : PlainC Try.prog 193 := ⟨p193⟩
instance : NonIfC Try.prog 193 := ⟨n193⟩
instance : CelC Try.prog 194 1 := ⟨c194⟩
instance : PlainC Try.prog 194 := ⟨p194⟩
instance : NonIfC Try.prog 194 := ⟨n194⟩
instance : CelC Try.prog 195 1 := ⟨c195⟩
instance : PlainC Try.prog 195 := ⟨p195⟩
instance : NonIfC Try.prog 195 := ⟨n195⟩
instance : CelC Try.prog 196 1 := ⟨c196⟩
instance : PlainC Try.prog 196 := ⟨p196⟩
instance : NonIfC Try.prog 196 := ⟨n196⟩
instance : CelC Try.prog 197 1 := ⟨c197⟩
instance : UndC Try.prog 197 (.int .u64) := ⟨u197⟩
instance : PlainC Try.prog 197 := ⟨p197⟩
instance : NonIfC Try.prog 197 := ⟨n197⟩
instance : CelC Try.prog 198 1 := ⟨c198⟩
instance : PlainC Try.prog 198 := ⟨p198⟩
instance : NonIfC Try.prog 198 := ⟨n198⟩
instance : CelC Try.prog 199 1 := ⟨c199⟩
instance : PlainC Try.prog 199 := ⟨p199⟩
instance : NonIfC Try.prog 199 := ⟨n199⟩
instance : CelC Try.prog 200 1 := ⟨c200⟩
instance : PlainC Try.prog 200 := ⟨p200⟩
instance : NonIfC Try.prog 200 := ⟨n200⟩
instance : CelC Try.prog 201 1 := ⟨c201⟩
instance : PlainC Try.prog 201 := ⟨p201⟩
instance : NonIfC Try.prog 201 := ⟨n201⟩
instance : CelC Try.prog 202 1 := ⟨c202⟩
instance : PlainC Try.prog 202 := ⟨p202⟩
instance : NonIfC Try.prog 202 := ⟨n202⟩
instance : CelC Try.prog 203 1 := ⟨c203⟩
instance : PlainC Try.prog 203 := ⟨p203⟩
instance : NonIfC Try.prog 203 := ⟨n203⟩
instance : CelC Try.prog 204 1 := ⟨c204⟩
instance : PlainC Try.prog 204 := ⟨p204⟩
instance : NonIfC Try.prog 204 := ⟨n204⟩
instance : CelC Try.prog 205 1 := ⟨c205⟩
instance : PlainC Try.prog 205 := ⟨p205⟩
instance : NonIfC Try.prog 205 := ⟨n205⟩
instance : CelC Try.prog 206 1 := ⟨c206⟩
instance : PlainC Try.prog 206 := ⟨p206⟩
instance : NonIfC Try.prog 206 := ⟨n206⟩
instance : CelC Try.prog 207 4 := ⟨c207⟩
instance : NonIfC Try.prog 207 := ⟨n207⟩
instance : CelC Try.prog 208 4 := ⟨c208⟩
instance : NonIfC Try.prog 208 := ⟨n208⟩
instance : UndC Try.prog 209 (.array 0 16) := ⟨u209⟩
instance : NonIfC Try.prog 209 := ⟨n209⟩
instance : NonIfC Try.prog 210 := ⟨n210⟩
instance : NonIfC Try.prog 211 := ⟨n211⟩
instance : CelC Try.prog 212 1 := ⟨c212⟩
instance : UndC Try.prog 212 (.int .u8) := ⟨u212⟩
instance : PlainC Try.prog 212 := ⟨p212⟩
instance : NonIfC Try.prog 212 := ⟨n212⟩
instance : CelC Try.prog 213 1 := ⟨c213⟩
instance : UndC Try.prog 213 (.int .u8) := ⟨u213⟩
instance : PlainC Try.prog 213 := ⟨p213⟩
instance : NonIfC Try.prog 213 := ⟨n213⟩
instance : CelC Try.prog 214 1 := ⟨c214⟩
instance : PlainC Try.prog 214 := ⟨p214⟩
instance : NonIfC Try.prog 214 := ⟨n214⟩
instance : CelC Try.prog 215 1 := ⟨c215⟩
instance : PlainC Try.prog 215 := ⟨p215⟩
instance : NonIfC Try.prog 215 := ⟨n215⟩
instance : CelC Try.prog 216 1 := ⟨c216⟩
instance : UndC Try.prog 216 (.int .i32) := ⟨u216⟩
instance : PlainC Try.prog 216 := ⟨p216⟩
instance : NonIfC Try.prog 216 := ⟨n216⟩
instance : CelC Try.prog 217 1 := ⟨c217⟩
instance : UndC Try.prog 217 (.int .i32) := ⟨u217⟩
instance : PlainC Try.prog 217 := ⟨p217⟩
instance : NonIfC Try.prog 217 := ⟨n217⟩
instance : CelC Try.prog 218 11 := ⟨c218⟩
instance : NonIfC Try.prog 218 := ⟨n218⟩
instance : CelC Try.prog 219 11 := ⟨c219⟩
instance : NonIfC Try.prog 219 := ⟨n219⟩
instance : CelC Try.prog 220 1 := ⟨c220⟩
instance : PlainC Try.prog 220 := ⟨p220⟩
instance : NonIfC Try.prog 220 := ⟨n220⟩
instance : CelC Try.prog 221 1 := ⟨c221⟩
instance : PlainC Try.prog 221 := ⟨p221⟩
instance : NonIfC Try.prog 221 := ⟨n221⟩
instance : CelC Try.prog 222 1 := ⟨c222⟩
instance : PlainC Try.prog 222 := ⟨p222⟩
instance : NonIfC Try.prog 222 := ⟨n222⟩
instance : CelC Try.prog 223 1 := ⟨c223⟩
instance : PlainC Try.prog 223 := ⟨p223⟩
instance : NonIfC Try.prog 223 := ⟨n223⟩
instance : CelC Try.prog 224 1 := ⟨c224⟩
instance : PlainC Try.prog 224 := ⟨p224⟩
instance : NonIfC Try.prog 224 := ⟨n224⟩
instance : CelC Try.prog 225 1 := ⟨c225⟩
instance : NonIfC Try.prog 225 := ⟨n225⟩
instance : CelC Try.prog 226 1 := ⟨c226⟩
instance : NonIfC Try.prog 226 := ⟨n226⟩
instance : FldC Try.prog 7 0 0 := ⟨f7_0⟩
instance : FldC Try.prog 7 1 1 := ⟨f7_1⟩
instance : FldC Try.prog 7 2 2 := ⟨f7_2⟩
instance : FldC Try.prog 7 3 3 := ⟨f7_3⟩
instance : FldC Try.prog 8 0 0 := ⟨f8_0⟩
instance : FldC Try.prog 8 1 1 := ⟨f8_1⟩
instance : FldC Try.prog 8 2 2 := ⟨f8_2⟩
instance : FldC Try.prog 8 3 3 := ⟨f8_3⟩
instance : FldC Try.prog 13 0 0 := ⟨f13_0⟩
instance : FldC Try.prog 13 1 1 := ⟨f13_1⟩
instance : FldC Try.prog 14 0 0 := ⟨f14_0⟩
instance : FldC Try.prog 14 1 1 := ⟨f14_1⟩
instance : FldC Try.prog 18 0 0 := ⟨f18_0⟩
instance : FldC Try.prog 19 0 0 := ⟨f19_0⟩
instance : FldC Try.prog 41 0 0 := ⟨f41_0⟩
instance : FldC Try.prog 41 1 1 := ⟨f41_1⟩
instance : FldC Try.prog 41 2 2 := ⟨f41_2⟩
instance : FldC Try.prog 41 3 3 := ⟨f41_3⟩
instance : FldC Try.prog 42 0 0 := ⟨f42_0⟩
instance : FldC Try.prog 42 1 1 := ⟨f42_1⟩
instance : FldC Try.prog 42 2 2 := ⟨f42_2⟩
instance : FldC Try.prog 42 3 3 := ⟨f42_3⟩
instance : FldC Try.prog 68 0 0 := ⟨f68_0⟩
instance : FldC Try.prog 68 1 1 := ⟨f68_1⟩
instance : FldC Try.prog 69 0 0 := ⟨f69_0⟩
instance : FldC Try.prog 69 1 1 := ⟨f69_1⟩
instance : FldC Try.prog 75 0 0 := ⟨f75_0⟩
instance : FldC Try.prog 75 1 1 := ⟨f75_1⟩
instance : FldC Try.prog 75 2 2 := ⟨f75_2⟩
instance : FldC Try.prog 75 3 3 := ⟨f75_3⟩
instance : FldC Try.prog 76 0 0 := ⟨f76_0⟩
instance : FldC Try.prog 76 1 1 := ⟨f76_1⟩
instance : FldC Try.prog 76 2 2 := ⟨f76_2⟩
instance : FldC Try.prog 76 3 3 := ⟨f76_3⟩
instance : FldC Try.prog 93 0 0 := ⟨f93_0⟩
instance : FldC Try.prog 93 1 1 := ⟨f93_1⟩
instance : FldC Try.prog 93 2 2 := ⟨f93_2⟩
instance : FldC Try.prog 94 0 0 := ⟨f94_0⟩
instance : FldC Try.prog 94 1 1 := ⟨f94_1⟩
instance : FldC Try.prog 94 2 2 := ⟨f94_2⟩
instance : FldC Try.prog 98 0 0 := ⟨f98_0⟩
instance : FldC Try.prog 98 1 1 := ⟨f98_1⟩
instance : FldC Try.prog 98 2 2 := ⟨f98_2⟩
instance : FldC Try.prog 98 3 3 := ⟨f98_3⟩
instance : FldC Try.prog 98 4 4 := ⟨f98_4⟩
instance : FldC Try.prog 98 5 5 := ⟨f98_5⟩
instance : FldC Try.prog 98 6 517 := ⟨f98_6⟩
instance : FldC Try.prog 99 0 0 := ⟨f99_0⟩
instance : FldC Try.prog 99 1 1 := ⟨f99_1⟩
instance : FldC Try.prog 99 2 2 := ⟨f99_2⟩
instance : FldC Try.prog 99 3 3 := ⟨f99_3⟩
instance : FldC Try.prog 99 4 4 := ⟨f99_4⟩
instance : FldC Try.prog 99 5 5 := ⟨f99_5⟩
instance : FldC Try.prog 99 6 517 := ⟨f99_6⟩
instance : FldC Try.prog 102 0 0 := ⟨f102_0⟩
instance : FldC Try.prog 102 1 1 := ⟨f102_1⟩
instance : FldC Try.prog 102 2 2 := ⟨f102_2⟩
instance : FldC Try.prog 103 0 0 := ⟨f103_0⟩
instance : FldC Try.prog 103 1 1 := ⟨f103_1⟩
instance : FldC Try.prog 103 2 2 := ⟨f103_2⟩
instance : FldC Try.prog 108 0 0 := ⟨f108_0⟩
instance : FldC Try.prog 108 1 1 := ⟨f108_1⟩
instance : FldC Try.prog 108 2 1025 := ⟨f108_2⟩
instance : FldC Try.prog 109 0 0 := ⟨f109_0⟩
instance : FldC Try.prog 109 1 1 := ⟨f109_1⟩
instance : FldC Try.prog 109 2 1025 := ⟨f109_2⟩
instance : FldC Try.prog 125 0 0 := ⟨f125_0⟩
instance : FldC Try.prog 125 1 1 := ⟨f125_1⟩
instance : FldC Try.prog 125 2 2 := ⟨f125_2⟩
instance : FldC Try.prog 125 3 3 := ⟨f125_3⟩
instance : FldC Try.prog 125 4 4 := ⟨f125_4⟩
instance : FldC Try.prog 125 5 5 := ⟨f125_5⟩
instance : FldC Try.prog 125 6 6 := ⟨f125_6⟩
instance : FldC Try.prog 126 0 0 := ⟨f126_0⟩
instance : FldC Try.prog 126 1 1 := ⟨f126_1⟩
instance : FldC Try.prog 126 2 2 := ⟨f126_2⟩
instance : FldC Try.prog 126 3 3 := ⟨f126_3⟩
instance : FldC Try.prog 126 4 4 := ⟨f126_4⟩
instance : FldC Try.prog 126 5 5 := ⟨f126_5⟩
instance : FldC Try.prog 126 6 6 := ⟨f126_6⟩
instance : FldC Try.prog 128 0 0 := ⟨f128_0⟩
instance : FldC Try.prog 128 1 1 := ⟨f128_1⟩
instance : FldC Try.prog 128 2 2 := ⟨f128_2⟩
instance : FldC Try.prog 129 0 0 := ⟨f129_0⟩
instance : FldC Try.prog 129 1 1 := ⟨f129_1⟩
instance : FldC Try.prog 129 2 2 := ⟨f129_2⟩
instance : FldC Try.prog 135 0 0 := ⟨f135_0⟩
instance : FldC Try.prog 135 1 1 := ⟨f135_1⟩
instance : FldC Try.prog 136 0 0 := ⟨f136_0⟩
instance : FldC Try.prog 136 1 1 := ⟨f136_1⟩
instance : FldC Try.prog 141 0 0 := ⟨f141_0⟩
instance : FldC Try.prog 141 1 1 := ⟨f141_1⟩
instance : FldC Try.prog 146 0 0 := ⟨f146_0⟩
instance : FldC Try.prog 146 1 1 := ⟨f146_1⟩
instance : FldC Try.prog 146 2 2 := ⟨f146_2⟩
instance : FldC Try.prog 146 3 3 := ⟨f146_3⟩
instance : FldC Try.prog 162 0 0 := ⟨f162_0⟩
instance : FldC Try.prog 162 1 1 := ⟨f162_1⟩
instance : FldC Try.prog 162 2 2 := ⟨f162_2⟩
instance : FldC Try.prog 162 3 3 := ⟨f162_3⟩
instance : FldC Try.prog 162 4 4 := ⟨f162_4⟩
instance : FldC Try.prog 163 0 0 := ⟨f163_0⟩
instance : FldC Try.prog 163 1 1 := ⟨f163_1⟩
instance : FldC Try.prog 163 2 2 := ⟨f163_2⟩
instance : FldC Try.prog 163 3 3 := ⟨f163_3⟩
instance : FldC Try.prog 163 4 4 := ⟨f163_4⟩
instance : FldC Try.prog 170 0 0 := ⟨f170_0⟩
instance : FldC Try.prog 171 0 0 := ⟨f171_0⟩
instance : FldC Try.prog 207 0 0 := ⟨f207_0⟩
instance : FldC Try.prog 207 1 1 := ⟨f207_1⟩
instance : FldC Try.prog 207 2 2 := ⟨f207_2⟩
instance : FldC Try.prog 207 3 3 := ⟨f207_3⟩
instance : FldC Try.prog 208 0 0 := ⟨f208_0⟩
instance : FldC Try.prog 208 1 1 := ⟨f208_1⟩
instance : FldC Try.prog 208 2 2 := ⟨f208_2⟩
instance : FldC Try.prog 208 3 3 := ⟨f208_3⟩
instance : FldC Try.prog 218 0 0 := ⟨f218_0⟩
instance : FldC Try.prog 218 1 1 := ⟨f218_1⟩
instance : FldC Try.prog 218 2 2 := ⟨f218_2⟩
instance : FldC Try.prog 218 3 3 := ⟨f218_3⟩
instance : FldC Try.prog 218 4 4 := ⟨f218_4⟩
instance : FldC Try.prog 218 5 5 := ⟨f218_5⟩
instance : FldC Try.prog 218 6 6 := ⟨f218_6⟩
instance : FldC Try.prog 218 7 7 := ⟨f218_7⟩
instance : FldC Try.prog 218 8 8 := ⟨f218_8⟩
instance : FldC Try.prog 218 9 9 := ⟨f218_9⟩
instance : FldC Try.prog 218 10 10 := ⟨f218_10⟩
instance : FldC Try.prog 219 0 0 := ⟨f219_0⟩
instance : FldC Try.prog 219 1 1 := ⟨f219_1⟩
instance : FldC Try.prog 219 2 2 := ⟨f219_2⟩
instance : FldC Try.prog 219 3 3 := ⟨f219_3⟩
instance : FldC Try.prog 219 4 4 := ⟨f219_4⟩
instance : FldC Try.prog 219 5 5 := ⟨f219_5⟩
instance : FldC Try.prog 219 6 6 := ⟨f219_6⟩
instance : FldC Try.prog 219 7 7 := ⟨f219_7⟩
instance : FldC Try.prog 219 8 8 := ⟨f219_8⟩
instance : FldC Try.prog 219 9 9 := ⟨f219_9⟩
instance : FldC Try.prog 219 10 10 := ⟨f219_10⟩
instance : FldC Try.prog 225 0 0 := ⟨f225_0⟩
instance : FldC Try.prog 226 0 0 := ⟨f226_0⟩
end Go.Proofs.Ytjkpfliaflmppaa.Tb

namespace Go.Proofs.Ytjkpfliaflmppaa.Vm
open Go Go.RowKit

/-- Each operation below n is waited for by a later one. -/
def covB (ws : List (List Nat)) (n : Nat) : Bool := (List.range n).all fun i => (List.range (n + 1)).any fun j => Nat.blt i j && (ws.getD j []).any fun x => Nat.beq x i
theorem covB_spec {ws : List (List Nat)} {n : Nat} (h : covB ws n = true) : ∀ i, i < n → ∃ j, i < j ∧ j ≤ n ∧ i ∈ ws.getD j [] := by
  intro i hi
  have h1 := List.all_eq_true.1 h i (List.mem_range.2 hi)
  obtain ⟨j, hj, h2⟩ := List.any_eq_true.1 h1
  rw [Bool.and_eq_true] at h2
  obtain ⟨h3, h4⟩ := h2
  obtain ⟨x, hx, h5⟩ := List.any_eq_true.1 h4
  have := Nat.eq_of_beq_eq_true h5
  subst this
  exact ⟨j, by simpa [Nat.blt_eq] using h3, by have := List.mem_range.1 hj; omega, hx⟩
theorem cov_all {ws : List (List Nat)} {n : Nat} (h : covB ws n = true) {done : Nat → Bool} (hc : ∀ i, done i = true → ∀ j ∈ ws.getD i [], done j = true) (hl : ∀ j ∈ ws.getD n [], done j = true) : ∀ m i, n - i ≤ m → i < n → done i = true := by
  intro m
  induction m with
  | zero => intro i h1 h2; omega
  | succ m ih =>
    intro i h1 h2
    obtain ⟨j, hj1, hj2, hj3⟩ := covB_spec h i h2
    by_cases hjn : j = n
    · subst hjn; exact hl i hj3
    · exact hc j (ih j (by omega) (by omega)) i hj3

theorem wpList1_mono {P : Program} {ops : Array Oper} {F F' : Exit → Act → World → Prop} {o : Oper} {a : Act} {w : World} (hF : ∀ a w, F .normal a w → F' .normal a w) (hno : ∀ e a w, e ≠ .normal → ¬ F e a w)
    (h : wpList P ops F [o] a w) : wpList P ops F' [o] a w := by
  have key : ∀ a w, wpList P ops F [] a w → wpList P ops F' [] a w := fun a w h => hF a w h
  unfold wpList at h ⊢
  split
  · rename_i hw
    rw [if_pos hw] at h
    rcases h with h | ⟨_, a2, w2, h2⟩
    · exact .inl (wp_other key hno h)
    · exact absurd h2 (hno _ _ _ (by simp))
  · rename_i hw
    rw [if_neg hw] at h
    exact key _ _ h

section
variable {P : Program} {N : Fm} {Fin : Post} {k : List Kn} {E : Env} {M : Mem} {l : List Oper}

/-- A struct stored as it stands. -/
theorem QS_storeAgg {K : UEnv → Prop} {done : UEnv} {w : List Nat} {ws : List (List Nat)} {rest : List Oper} {t : TypeId} {p x : Operand} {b o n : Nat} {c cs : List Value} {M0 : Mem} {ty : TypeId} {pos : String} {after : Array Edge} {g : Option (Nat × Bool)} (hn : Cel P t n) (hn0 : 0 < n)
    (hp : ev (pick done w ++ E) p = some (.pointer (some ⟨b, o, none⟩))) (hx : ev (pick done w ++ E) x = some (.agg cs.toArray)) (hcs : cs.length = n) (hv : ∀ v ∈ cs, v.oneCell' = true) (hg : On (pick done w ++ E) l g)
    (hm : Take1 M ⟨true, b, o, c⟩ M0) (hb : Rk (⟨true, b, o, c⟩ :: M0) M) (hl : c.length = n) (hc : c = cs) (h : QS P N l E M K (done ++ [none]) ws rest) : QS P N l E M K done (w :: ws) (⟨none, .store t p x, ty, pos, after, g⟩ :: rest) := by
  subst hc
  refine QS_of (u := none) ⟨fun base w0 a w1 hA hS F hF => ?_, fun _ h => by cases h⟩ h
  unfold wpList
  rw [if_pos (On.wanted (o := ⟨none, .store t p x, ty, pos, after, g⟩) hg hA)]
  refine .inl ?_
  unfold Oper.wp
  obtain ⟨I, hI, hs⟩ := size_of hn.out hn0
  obtain ⟨w', h1, h2⟩ := run_storeCells (P := P) (i := 0) c 0 c w1 (hS.rk (.cons hm .rfl)) hv (by omega)
  have hr : (execOp a.eval ⟨none, .store t p x, ty, pos, after, g⟩).run P w1 = .ok .skip w' := by
    simp only [execOp, Instr.storeAt, Instr.sureAddr, hA.eval hp, hA.eval hx]
    simp at h1
    simp [storeVar, Value.cells, sizeOf, typeInfo, hI, hs, hcs, h1]
  rw [hr]
  have e : putAt c 0 c = c := by
    have := putAt_append c [] c (Nat.le_refl _)
    simpa using this
  rw [e] at h2
  exact hF _ (h2.rk hb)

theorem W_region_last {id : Nat} (n : Nat) (hn : l.length = n + 1) (hm : P.follows .mixedOrders = true) (ws : List (List Nat)) (hw : ((List.range l.length).all fun i => (ws.getD i []).all fun j => Region.waitsFor .any l.toArray i j) = true)
    (hac : earlierB l.toArray = true) (hcov : covB ws n = true)
    (h : QS P N l E M (fun done => chkU E done = true ∧ WO false P N (fun e E2 M2 => e = .normal ∧ G false P N Fin .normal k E2 M2) l (l.drop n) [] (somes done ++ E) M) [] ws (l.take n)) : W false P N Fin (.region id l.toArray true) k E M := by
  obtain ⟨full, hlen, ⟨hc, hG⟩, hq⟩ := QS_all h.out
  simp only [List.nil_append] at hc hG hq
  have hlen' : full.length = n := by rw [hlen, List.length_take]; omega
  obtain ⟨hf1, hf2⟩ := chkU_spec hc
  refine W_region_inv2 hm ws hw hac (fun done E' M' => (∀ i, done i = true → ∀ j ∈ ws.getD i [], done j = true) ∧
    (done n = false → Le E' E ∧ (∀ (i : Nat) (p : Nat × Value), full[i]? = some (some p) → done i = true → E'.get? p.1 = some p.2) ∧ Rk M' M) ∧ (done n = true → G false P N Fin .normal k E' M'))
    ⟨fun i h => (by cases h), fun _ => ⟨fun _ _ h => h, fun i p _ h => (by cases h), .rfl⟩, fun h => (by cases h)⟩ ?_ ?_
  · intro i hi done E' M' ⟨hcl, hA1, hA2⟩ hno hdone
    have hcl' : ∀ i', (if i' = i then true else done i') = true → ∀ j ∈ ws.getD i' [], (if j = i then true else done j) = true := by
      intro i' hi' j hj
      by_cases hji : j = i
      · simp [hji]
      · rw [if_neg hji]
        by_cases hii : i' = i
        · subst hii; exact hdone j hj
        · rw [if_neg hii] at hi'; exact hcl i' hi' j hj
    have hone : (l.drop i).take 1 = [l[i]] := by rw [List.drop_eq_getElem_cons hi]; rfl
    rw [hone]
    by_cases hin : i = n
    · subst hin
      obtain ⟨hs, hd, hrk⟩ := hA1 hno
      have hall := cov_all hcov hcl hdone i
      have hlast : l.drop i = [l[i]] := by
        rw [List.drop_eq_getElem_cons hi, List.drop_eq_nil_of_le (by omega)]
      rw [hlast] at hG
      have hle : Le E' (somes full ++ E) := Le.app (fun p hp => by
        obtain ⟨j, hj, hjp⟩ := List.mem_iff_getElem.1 (mem_somes hp)
        exact hd j p (by rw [List.getElem?_eq_getElem hj, hjp]) (hall j (by omega) (by omega))) hs
      refine ⟨⟨fun base w0 a w hA hS => ?_⟩⟩
      refine wpList1_mono (fun a2 w2 hx => ?_) (fun e a2 w2 hne hx => ?_) (hG.out.out base w0 a w (hle.ag hA) (hS.rk hrk))
      · obtain ⟨E2, M2, q1, q2, _, q3⟩ := hx
        exact ⟨E2, M2, q1, q2, rfl, hcl', fun h => (by simp at h), fun _ => q3⟩
      · obtain ⟨E2, M2, q1, q2, q3, _⟩ := hx
        exact hne q3
    · have hno2 : done n = false := by
        cases hdn : done n with
        | false => rfl
        | true => have := cov_all hcov hcl (hcl n hdn) n i (by omega) (by omega); rw [this] at hno; cases hno
      obtain ⟨hs, hd, hrk⟩ := hA1 hno2
      have hif : i < full.length := by omega
      have hit : i < (l.take n).length := by rw [List.length_take]; omega
      have hqt := hq i hit hif
      have hli : (l.take n)[i] = l[i] := List.getElem_take
      rw [hli] at hqt
      have hfi : full[i]? = some full[i] := List.getElem?_eq_getElem hif
      generalize full[i] = u at hqt hfi
      refine ⟨⟨fun base w0 a w hA hS => hqt.out base w0 a w (Le.ag (Le.app (fun p hp => ?_) hs) hA) (hS.rk hrk) _ fun w' hS' => ?_⟩⟩
      · obtain ⟨j, hj, hjp⟩ := mem_pick hp
        refine hd j p ?_ (hdone j hj)
        rw [List.getElem?_take] at hjp
        split at hjp
        · exact hjp
        · cases hjp
      · have hni : ¬ n = i := fun e => hin e.symm
        cases u with
        | none =>
          refine ⟨E', M, hA, hS', rfl, hcl', fun _ => ⟨hs, ?_, .rfl⟩, fun h => (by simp [hni, hno2] at h)⟩
          intro j p hj hdj
          by_cases hji : j = i
          · subst hji; rw [hfi] at hj; cases hj
          · exact hd j p hj (by simpa [hji] using hdj)
        | some q =>
          obtain ⟨d, v⟩ := q
          refine ⟨(d, v) :: E', M, hA.put (hqt.hd _ rfl) _, hS', rfl, hcl', fun _ => ⟨hs.cons (hf1 (d, v) (List.mem_of_getElem? hfi)), ?_, .rfl⟩, fun h => (by simp [hni, hno2] at h)⟩
          intro j p hj hdj
          by_cases hji : j = i
          · subst hji; rw [hfi] at hj; cases hj; exact get_eq
          · have hdj' : done j = true := by simpa [hji] using hdj
            rw [get_ne (fun e => hf2 j i p (d, v) hj hfi hji e.symm)]
            exact hd j p hj hdj'
  · intro done E' M' ⟨hcl, hA1, hA2⟩ hall
    exact ⟨E', M', fun _ _ h => h, .rfl, hA2 (hall n (by omega))⟩

/-- A result, wherever it lies. -/
structure ResV (P : Program) (N : Fm) (E : Env) (M : Mem) (r : ResultVar) (v : Value) : Prop where
  out : ∀ pr base w0 w a, Ag N E a → Sim pr base w0 w M → (resAt a.tmps r).run P w = .ok v w
theorem ResV.tmp {t : Nat} {v : Value} (h : E.get? t = some v) : ResV P N E M (.tmp t) v := ⟨fun pr base w0 w a hA hS => by
  have h3 := hA.val _ _ h
  simp [resAt, Array.getD_eq_getD_getElem?, h3]⟩
theorem ResV.agg {p t b n : Nat} {own : Bool} {cs : List Value} (h : E.get? p = some (.pointer (some ⟨b, 0, none⟩))) (hm : (⟨own, b, 0, cs⟩ : Sg) ∈ M) (ht : AggT P t) (hn : Cel P t n) (hn0 : 0 < n) (hc : cs.length = n) : ResV P N E M (.cell p t) (.agg cs.toArray) :=
  ⟨fun pr base w0 w a hA hS => by
    have h3 := hA.val _ _ h
    obtain ⟨I, hI, hs⟩ := size_of hn.out hn0
    have h1 := run_loadCells (P := P) (i := 0) (n := n) (hS.seg _ hm) (by simp only; omega)
    simp only [List.drop_zero, ← hc, List.take_length] at h1
    obtain ⟨D, ht, hD⟩ := ht.out
    cases D <;> simp [isAggD] at hD <;> simp [resAt, Array.getD_eq_getD_getElem?, h3, asAddr, loadVar, isAgg, run_under ht, sizeOf, typeInfo, hI, hs, ← hc] <;> (simp at h1; simp [h1])⟩
def ResG (P : Program) (N : Fm) (E : Env) (M : Mem) : List ResultVar → List Value → Prop
  | [], [] => True
  | r :: rs, v :: vs => ResV P N E M r v ∧ ResG P N E M rs vs
  | _, _ => False
theorem mapM_resG {pr : Bool} {base : Nat} {w0 w : World} {a : Act} (h : Ag N E a) (hS : Sim pr base w0 w M) : ∀ (rs : List ResultVar) (vs : List Value), ResG P N E M rs vs → (rs.mapM (resAt a.tmps)).run P w = .ok vs w
  | [], [], _ => by simp
  | [], v :: vs, hv => by simp [ResG] at hv
  | r :: rs, [], hv => by simp [ResG] at hv
  | r :: rs, v :: vs, hv => by
    have h4 := mapM_resG h hS rs vs hv.2
    have h5 := hv.1.out _ _ _ _ _ h hS
    rw [List.mapM_cons, Sem.run_bind, h5, Result.andThen_ok, Sem.run_bind, h4]
    rfl
def EndsR (P : Program) (N : Fm) (rs : List ResultVar) (R : Value → Mem → Prop) : Post
  | .normal, E, M | .ret, E, M => ∃ vs, ResG P N E M rs vs ∧ R (tupled vs) M
  | _, _, _ => False

theorem HC_of_WR {pr : Bool} {f : FuncId} {fn : Func} {c : Code} {vs : List Value} {R : Value → Mem → Prop} {rs : List ResultVar} {n : Nat} (hf : P.funcs[f]? = some fn) (hb : fn.body = some c) (hN : fn.ntmps = n)
    (hrs : fn.results.toList = rs) (hs : Nat.ble vs.length n = true) (h : W pr P ⟨n, []⟩ (EndsR P ⟨n, []⟩ rs R) c [] (zipEnv 0 vs) M) : HCp pr P f vs.toArray M R := by
  constructor
  intro base w0 w hS
  have hle : vs.length ≤ n := by simpa using hs
  have hend : ∀ (a : Act) (E' : Env) (M' : Mem) (w' : World), Ag ⟨n, []⟩ E' a → Sim pr base w0 w' M' → (∃ vs, ResG P ⟨n, []⟩ E' M' rs vs ∧ R (tupled vs) M') →
      a.defers = [] ∧ ∃ v, (results fn a.tmps).run P w' = .ok v w' ∧ ∃ v' M', Ending.returned v = .returned v' ∧ Sim pr base w0 w' M' ∧ R v' M' := by
    intro a E' M' w' hA' hS' ⟨us, h1, h2⟩
    refine ⟨hA'.defers, tupled us, ?_, _, M', rfl, hS', h2⟩
    rw [results_eq, Sem.run_bind]
    have h3 : (fn.results.mapM (resAt a.tmps)).run P w' = .ok us.toArray w' := by
      rw [Array.mapM_eq_mapM_toList]
      simp only [Sem.run_map, hrs, mapM_resG hA' hS' _ _ h1]
      rfl
    rw [h3]
    match us with
    | [] => simp [tupled]
    | [u] => simp [tupled]
    | u :: u2 :: us => simp [tupled]
  refine calls_of_wp hf hb (wp_mono (h.out.out base w0 _ w ⟨rfl, by simp [hN]; omega, fun i v hv => ?_⟩ hS) ?_)
  · obtain ⟨h1, h2⟩ := zipEnv_get vs 0 i v hv
    simp only [Nat.sub_zero] at h2
    have hi : i < vs.length := by
      rcases Nat.lt_or_ge i vs.length with h | h
      · exact h
      · simp [List.getElem?_eq_none h] at h2
    rw [Array.getElem?_append_left (by simpa using hi)]
    simpa using h2
  · intro e a w' ⟨E', M', hA', hS', hq⟩
    cases e with
    | normal => exact hend a E' M' w' hA' hS' hq
    | ret => exact hend a E' M' w' hA' hS' hq
    | _ => exact hq.elim
end
end Go.Proofs.Ytjkpfliaflmppaa.Vm
