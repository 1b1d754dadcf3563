import PyProof.Rows.All
import KE.KFromBytes
import KE.KToBytes
import KE.KOwnIter
import KE.KBytesCut
import KE.KStopIter
import Lean
import PySem.Challenge.RW_kk0028_01
open PySem PySem.W PyProof.Rows
set_option Elab.async false
set_option backward.match.sparseCases false
set_option tactic.hygienic false
set_option maxRecDepth 100000
set_option maxHeartbeats 8000000
set_option genSizeOf false
set_option linter.all false
set_option compiler.extract_closed false
set_option bootstrap.genMatcherCode false
noncomputable section
namespace MineH
noncomputable abbrev oS:=Str.ofString
noncomputable abbrev pw:Program:=PySem.Challenge.pw_kk0028_01
def aB(i:Nat):Stmt:=pw.main.body[i]?.getD (.Pass default)
def ay(i j:Nat):Stmt:=match aB i with
 | .ClassDef _ _ _ b _ _ _ _ _ _ _=>b[j]?.getD (.Pass default)
 |s=>s
noncomputable def xm:Stmt→Arguments
 | .FunctionDef _ a _ _ _ _ _ _ _ _=>a
 |_=>default
noncomputable def aH:Stmt→List Stmt
 | .FunctionDef _ _ b _ _ _ _ _ _ _=>b
 |_=>[]
noncomputable def ai:Stmt→Scope
 | .FunctionDef _ _ _ _ _ _ s _ _ _=>s
 |_=>default
noncomputable def Ma:List Addr:=[2,3,4,584,585,611,612,635,636,657,658,685,695,772,773,785,786,797,798,809,810,821,822,834,835,846,852,853,859,860,862,869,870,876,877,879,880,892,893,894,900,901,911,912,922,923,924,925,926,932,933,935,936,951,952,954,955,965,966,967,973,974,976,977,992,993,995,996,1006,1007,1009,1010,1020,1026,1027,1033,1034,1040,1041,1047,1048,1054,1055,1061,1062,1068,1069,1071,1072,1077,1083,1084,1085,1086,1087,1088,1089,1095,1096,1102,1103,1109,1110,1114,1115,1121,1122,1126,1127,1133,1134,1140,1141,1145,1146]
noncomputable def kV(s:String)(t:Nat):Value:=.str (.ofString s) t
noncomputable def kE(P:Params)(s:String)(t:Nat)(v:Value):DictEntry:=⟨PyData.keyHash P (.ofString s),kV s t,v⟩
noncomputable def kC(c:Value)(n:String)(b m:List Value)(a:Addr)(u:List Value)(s:Array (Option Value)):Obj:=⟨c,none,.cls {name:=.ofString n,bases:=b,mro:=m,ns:=a,qualname:=.ofString n,hasDict:=true,slotNames:=[],subclasses:=u,abstract:=false,collection:=none,hasDel:=false},s⟩
noncomputable def kF(n q:String)(d:Stmt)(m:String)(t:Nat)(an:Option Addr)(c:Addr)(ct:Value)(w:Option Addr)(s:Array (Option Value)):Obj:=⟨.type "function",w,.func {name:=.ofString n,qualname:=.ofString q,params:=xm d,body:=.stmts (aH d),scope:=ai d,globals:=3,closure:=[],defaults:=.none,kwdefaults:=.none,doc:=.none,pyModule:=kV m t,annotations:=an,code:=.ref c,closureTuple:=ct,builtins:=0},s⟩
noncomputable def kO(n q:String)(t:Nat)(l k g:Int)(a b c d e f h:Value)(u:Int):Obj:=⟨.type "code",none,.fields #[kV n t,kV q (t+1),kV "/claim/cut.py" (t+2),.int l 0,.int k 0,.int 0 0,.int 0 0,.int g 0,a,b,.int 181 0,c,d,e,f,h,.int u 0,.int l 0,kV "/claim/cut.py" (u.toNat+1)],#[]⟩
def kObj(P:Params):List Obj:=[
 ⟨.none,none,.dict #[kE P "type.__subclasses__.int.0" 1003 (.int 636 0),kE P "type.__subclasses__.int.n" 1004 (.int 1 0),kE P "type.__subclasses__.Exception.0" 1536 (.int 773 0),kE P "type.__subclasses__.Exception.n" 1537 (.int 3 0),kE P "type.__subclasses__.Exception.1" 1612 (.int 822 0),kE P "type.__subclasses__.Exception.2" 1632 (.int 835 0)] 6,#[]⟩,
 ⟨.type "dict",none,.dict #[kE P "__name__" 165 (kV "law_kk0028_01" 1997),kE P "__doc__" 166 .none,kE P "__package__" 167 .none,kE P "__loader__" 168 (.builtin "__main__.__loader__#opaque"),kE P "__spec__" 169 .none,kE P "__annotations__" 170 (.ref 6),kE P "__builtins__" 171 (.ref 4),kE P "__file__" 173 (kV "/claim/cut.py" 172),kE P "__cached__" 174 .none,kE P "_wall" 193 (.ref 21),kE P "_OWN_NAMES" 201 (.ref 22),kE P "mappingproxy" 409 (.ref 203),kE P "_MEMBERS_VIEW" 410 (.ref 203),kE P "EnumType" 670 (.ref 419),kE P "_EnumField" 725 (.ref 461),kE P "Enum" 912 (.ref 585),kE P "ReprEnum" 957 (.ref 612),kE P "IntEnum" 1017 (.ref 636),kE P "ErrorCodes" 1074 (.ref 658),kE P "_lay_ErrorCodes" 1108 (.ref 671),kE P "H2Error" 1539 (.ref 773),kE P "ProtocolError" 1557 (.ref 786),kE P "FrameTooLargeError" 1575 (.ref 798),kE P "FrameDataMissingError" 1593 (.ref 810),kE P "InvalidFrameError" 1615 (.ref 822),kE P "InvalidDataError" 1635 (.ref 835),kE P "Frame" 1710 (.ref 880),kE P "DataFrame" 1750 (.ref 912),kE P "HeadersFrame" 1786 (.ref 936),kE P "RstStreamFrame" 1815 (.ref 955),kE P "PushPromiseFrame" 1850 (.ref 977),kE P "WindowUpdateFrame" 1879 (.ref 996),kE P "ContinuationFrame" 1900 (.ref 1010),kE P "CONTINUATION_BACKLOG" 1904 (.int 64 1903),kE P "FrameBuffer" 1996 (.ref 1072),kE P "_law_preamble" 2000 (.bytes #[80,82,73,32,42,32,72,84,84,80,47,50,46,48,13,10,13,10,83,77,13,10,13,10] 1999),kE P "_law_promises" 2009 (.ref 1077),kE P "_law_known" 2015 (.ref 1084),kE P "_law_flags" 2051 (.ref 1085),kE P "_law_octets" 2062 (.ref 1096),kE P "_law_padded" 2073 (.ref 1103),kE P "_law_many" 2083 (.ref 1110),kE P "_law_rows" 2089 (.ref 1115),kE P "_law_body" 2102 (.ref 1122),kE P "_law_due" 2108 (.ref 1127),kE P "_law_told" 2115 (.ref 1134),kE P "_law_feed" 2126 (.ref 1141),kE P "law" 2132 (.ref 1146)] 48,#[]⟩,
 ⟨.type "module",some 0,.plain,#[]⟩,
 ⟨.type "dict",none,.dict #[kE P "__module__" 733 (kV "enum" 738),kE P "__firstlineno__" 737 (.int 235 736),kE P "_written_out_" 741 (.int 0 906),kE P "_member_names_" 742 (.ref 473),kE P "_member_map_" 743 (.ref 474),kE P "_value2member_map_" 744 (.ref 475),kE P "_hashable_values_" 745 (.ref 476),kE P "_unhashable_values_" 746 (.ref 477),kE P "_unhashable_values_map_" 747 (.ref 478),kE P "_members_" 748 (.ref 479),kE P "_value_repr_" 749 .none,kE P "_is_flag_" 750 (.bool false),kE P "_making_" 751 (.bool false),kE P "__new__" 766 (.ref 586),kE P "_missing_" 786 (.ref 495),kE P "__init__" 795 (.ref 503),kE P "__repr__" 803 (.ref 510),kE P "__str__" 810 (.ref 517),kE P "__format__" 818 (.ref 524),kE P "__hash__" 825 (.ref 531),kE P "__reduce_ex__" 833 (.ref 538),kE P "__deepcopy__" 841 (.ref 545),kE P "__copy__" 848 (.ref 552),kE P "__dir__" 855 (.ref 559),kE P "_add_alias_" 863 (.ref 566),kE P "_add_value_alias_" 871 (.ref 573),kE P "name" 877 (.ref 575),kE P "value" 883 (.ref 578),kE P "__static_attributes__" 884 (.ref 580),kE P "__dict__" 896 (.ref 587),kE P "__weakref__" 898 (.ref 588),kE P "__doc__" 899 .none] 4,#[]⟩,
 kC (.ref 419) "Enum" [.type "object"] [.ref 585,.type "object"] 584 [.ref 612] #[none,none,some (kV "Enum" 726),some (kV "Enum" 734),some .none,some (.bool true)],
 ⟨.type "dict",none,.dict #[kE P "__module__" 920 (kV "enum" 925),kE P "__firstlineno__" 924 (.int 328 923),kE P "_written_out_" 928 (.int 0 951),kE P "_member_names_" 929 (.ref 602),kE P "_member_map_" 930 (.ref 603),kE P "_value2member_map_" 931 (.ref 604),kE P "_hashable_values_" 932 (.ref 605),kE P "_members_" 933 (.ref 606),kE P "__static_attributes__" 934 (.ref 607),kE P "__doc__" 944 .none] 2,#[]⟩,
 kC (.ref 419) "ReprEnum" [.ref 585] [.ref 612,.ref 585,.type "object"] 611 [.ref 636] #[some (.ref 595),none,some (kV "ReprEnum" 913),some (kV "ReprEnum" 921),some .none,some (.bool true)],
 ⟨.type "dict",none,.dict #[kE P "__module__" 965 (kV "enum" 970),kE P "__firstlineno__" 969 (.int 336 968),kE P "_written_out_" 973 (.int 0 1011),kE P "_member_names_" 974 (.ref 626),kE P "_member_map_" 975 (.ref 627),kE P "_value2member_map_" 976 (.ref 628),kE P "_hashable_values_" 977 (.ref 629),kE P "_members_" 978 (.ref 630),kE P "_value_repr_" 980 (.builtin "int.__repr__"),kE P "__new__" 982 (.ref 637),kE P "__repr__" 984 (.ref 510),kE P "__str__" 986 (.builtin "int.__repr__"),kE P "__format__" 988 (.builtin "int.__format__"),kE P "__static_attributes__" 989 (.ref 631),kE P "__dict__" 1001 (.ref 638),kE P "__doc__" 1002 .none] 3,#[]⟩,
 kC (.ref 419) "IntEnum" [.type "int",.ref 612] [.ref 636,.type "int",.ref 612,.ref 585,.type "object"] 635 [.ref 658] #[some (.ref 619),none,some (kV "IntEnum" 958),some (kV "IntEnum" 966),some .none,some (.bool false)],
 ⟨.type "dict",none,.dict #[kE P "__module__" 1027 (kV "h2.errors" 1018),kE P "__firstlineno__" 1031 (.int 350 1030),kE P "_written_out_" 1033 (.int 0 1068),kE P "_member_names_" 1048 (.ref 652),kE P "_value_repr_" 1050 (.builtin "int.__repr__"),kE P "__static_attributes__" 1051 (.ref 653),kE P "__doc__" 1061 .none,kE P "__new__" 1129 (.ref 486),kE P "NO_ERROR" 1347 (.ref 683),kE P "PROTOCOL_ERROR" 1355 (.ref 685),kE P "INTERNAL_ERROR" 1363 (.ref 687),kE P "FLOW_CONTROL_ERROR" 1371 (.ref 689),kE P "SETTINGS_TIMEOUT" 1379 (.ref 691),kE P "STREAM_CLOSED" 1387 (.ref 693),kE P "FRAME_SIZE_ERROR" 1395 (.ref 695),kE P "REFUSED_STREAM" 1403 (.ref 697),kE P "CANCEL" 1411 (.ref 699),kE P "COMPRESSION_ERROR" 1419 (.ref 701),kE P "CONNECT_ERROR" 1427 (.ref 703),kE P "ENHANCE_YOUR_CALM" 1435 (.ref 705),kE P "INADEQUATE_SECURITY" 1443 (.ref 707),kE P "HTTP_1_1_REQUIRED" 1451 (.ref 709),kE P "_member_map_" 1487 (.ref 752),kE P "_value2member_map_" 1509 (.ref 756),kE P "_hashable_values_" 1517 (.ref 760)] 20,#[]⟩,
 kC (.ref 419) "ErrorCodes" [.ref 636] [.ref 658,.ref 636,.type "int",.ref 612,.ref 585,.type "object"] 657 [] #[some (.ref 645),none,some (kV "ErrorCodes" 1020),some (kV "ErrorCodes" 1028),some .none,some (.bool false)],
 ⟨.ref 658,some 684,.prim (.int 1 1148),#[]⟩,
 ⟨.ref 658,some 694,.prim (.int 6 1223),#[]⟩,
 ⟨.type "dict",none,.dict #[kE P "__module__" 1527 (kV "h2.exceptions" 1518),kE P "__firstlineno__" 1531 (.int 459 1530),kE P "__static_attributes__" 1532 (.ref 771),kE P "__weakref__" 1534 (.ref 774),kE P "__doc__" 1535 .none] 3,#[]⟩,
 kC (.type "type") "H2Error" [.type "Exception"] [.ref 773,.type "Exception",.type "BaseException",.type "object"] 772 [.ref 786] #[some (.ref 764),none,some (kV "H2Error" 1520),some (kV "H2Error" 1528),some (.builtin "Exception.__new__"),some (.bool true)],
 ⟨.type "dict",none,.dict #[kE P "__module__" 1547 (kV "h2.exceptions" 1518),kE P "__firstlineno__" 1551 (.int 461 1550),kE P "error_code" 1553 (.ref 685),kE P "__static_attributes__" 1554 (.ref 784),kE P "__doc__" 1555 .none] 2,#[]⟩,
 kC (.type "type") "ProtocolError" [.ref 773] [.ref 786,.ref 773,.type "Exception",.type "BaseException",.type "object"] 785 [.ref 798,.ref 810] #[some (.ref 777),none,some (kV "ProtocolError" 1540),some (kV "ProtocolError" 1548),some (.builtin "Exception.__new__"),some (.bool true)],
 ⟨.type "dict",none,.dict #[kE P "__module__" 1565 (kV "h2.exceptions" 1518),kE P "__firstlineno__" 1569 (.int 463 1568),kE P "error_code" 1571 (.ref 695),kE P "__static_attributes__" 1572 (.ref 796),kE P "__doc__" 1573 .none] 2,#[]⟩,
 kC (.type "type") "FrameTooLargeError" [.ref 786] [.ref 798,.ref 786,.ref 773,.type "Exception",.type "BaseException",.type "object"] 797 [] #[some (.ref 789),none,some (kV "FrameTooLargeError" 1558),some (kV "FrameTooLargeError" 1566),some (.builtin "Exception.__new__"),some (.bool true)],
 ⟨.type "dict",none,.dict #[kE P "__module__" 1583 (kV "h2.exceptions" 1518),kE P "__firstlineno__" 1587 (.int 465 1586),kE P "error_code" 1589 (.ref 695),kE P "__static_attributes__" 1590 (.ref 808),kE P "__doc__" 1591 .none] 2,#[]⟩,
 kC (.type "type") "FrameDataMissingError" [.ref 786] [.ref 810,.ref 786,.ref 773,.type "Exception",.type "BaseException",.type "object"] 809 [] #[some (.ref 801),none,some (kV "FrameDataMissingError" 1576),some (kV "FrameDataMissingError" 1584),some (.builtin "Exception.__new__"),some (.bool true)],
 ⟨.type "dict",none,.dict #[kE P "__module__" 1603 (kV "h2.frames" 1594),kE P "__firstlineno__" 1607 (.int 468 1606),kE P "__static_attributes__" 1608 (.ref 820),kE P "__weakref__" 1610 (.ref 823),kE P "__doc__" 1611 .none] 3,#[]⟩,
 kC (.type "type") "InvalidFrameError" [.type "Exception"] [.ref 822,.type "Exception",.type "BaseException",.type "object"] 821 [] #[some (.ref 813),none,some (kV "InvalidFrameError" 1596),some (kV "InvalidFrameError" 1604),some (.builtin "Exception.__new__"),some (.bool true)],
 ⟨.type "dict",none,.dict #[kE P "__module__" 1623 (kV "h2.frames" 1594),kE P "__firstlineno__" 1627 (.int 470 1626),kE P "__static_attributes__" 1628 (.ref 833),kE P "__weakref__" 1630 (.ref 836),kE P "__doc__" 1631 .none] 3,#[]⟩,
 kC (.type "type") "InvalidDataError" [.type "Exception"] [.ref 835,.type "Exception",.type "BaseException",.type "object"] 834 [] #[some (.ref 826),none,some (kV "InvalidDataError" 1616),some (kV "InvalidDataError" 1624),some (.builtin "Exception.__new__"),some (.bool true)],
 ⟨.type "list",none,.seq #[] 0,#[]⟩,
 kO "__init__" "Frame.__init__" 1651 476 2 3 (.ref 847) (.bool true) (.ref 848) .none (.ref 849) (.ref 850) (.ref 851) 1656,
 kF "__init__" "Frame.__init__" (ay 22 2) "h2.frames" 1594 none 852 .none none #[],
 kO "parse_frame_header" "Frame.parse_frame_header" 1659 482 1 3 (.ref 854) (.bool true) (.ref 855) .none (.ref 856) (.ref 857) (.ref 858) 1668,
 kF "parse_frame_header" "Frame.parse_frame_header" (ay 22 3) "h2.frames" 1594 (some 863) 859 .none none #[],
 ⟨.type "staticmethod",some 861,.fields #[.ref 860,.bool false],#[]⟩,
 kO "parse_body" "Frame.parse_body" 1683 510 2 3 (.ref 864) (.bool true) (.ref 865) .none (.ref 866) (.ref 867) (.ref 868) 1688,
 kF "parse_body" "Frame.parse_body" (ay 22 4) "h2.frames" 1594 none 869 .none none #[],
 kO "unpadded" "Frame.unpadded" 1691 513 2 3 (.ref 871) (.bool true) (.ref 872) .none (.ref 873) (.ref 874) (.ref 875) 1696,
 kF "unpadded" "Frame.unpadded" (ay 22 5) "h2.frames" 1594 none 876 .none none #[],
 ⟨.type "dict",none,.dict #[kE P "__module__" 1643 (kV "h2.frames" 1594),kE P "__firstlineno__" 1647 (.int 472 1646),kE P "kind" 1649 (.int 255 1648),kE P "known_flags" 1650 (.ref 846),kE P "__init__" 1658 (.ref 853),kE P "parse_frame_header" 1682 (.ref 862),kE P "parse_body" 1690 (.ref 870),kE P "unpadded" 1698 (.ref 877),kE P "__static_attributes__" 1703 (.ref 878),kE P "__dict__" 1705 (.ref 881),kE P "__weakref__" 1707 (.ref 882),kE P "__doc__" 1708 .none] 4,#[]⟩,
 kC (.type "type") "Frame" [.type "object"] [.ref 880,.type "object"] 879 [.ref 912,.ref 936,.ref 955,.ref 977,.ref 996,.ref 1010] #[none,none,some (kV "Frame" 1636),some (kV "Frame" 1644),some (.builtin "object.__new__"),some (.bool true)],
 ⟨.type "tuple",none,.seq #[.int 1 1725,kV "END_STREAM" 1726] 0,#[]⟩,
 ⟨.type "tuple",none,.seq #[.int 8 1727,kV "PADDED" 1728] 0,#[]⟩,
 ⟨.type "list",none,.seq #[.ref 892,.ref 893] 0,#[]⟩,
 kO "parse_body" "DataFrame.parse_body" 1730 526 2 3 (.ref 895) (.bool true) (.ref 896) .none (.ref 897) (.ref 898) (.ref 899) 1735,
 kF "parse_body" "DataFrame.parse_body" (ay 23 2) "h2.frames" 1594 none 900 .none none #[],
 ⟨.type "dict",none,.dict #[kE P "__module__" 1718 (kV "h2.frames" 1594),kE P "__firstlineno__" 1722 (.int 522 1721),kE P "kind" 1724 (.int 0 1723),kE P "known_flags" 1729 (.ref 894),kE P "parse_body" 1737 (.ref 901),kE P "flow_controlled_length" 1745 (.ref 909),kE P "__static_attributes__" 1747 (.ref 910),kE P "__doc__" 1748 .none] 2,#[]⟩,
 kC (.type "type") "DataFrame" [.ref 880] [.ref 912,.ref 880,.type "object"] 911 [] #[some (.ref 885),none,some (kV "DataFrame" 1711),some (kV "DataFrame" 1719),some (.builtin "object.__new__"),some (.bool true)],
 ⟨.type "tuple",none,.seq #[.int 1 1765,kV "END_STREAM" 1766] 0,#[]⟩,
 ⟨.type "tuple",none,.seq #[.int 4 1767,kV "END_HEADERS" 1768] 0,#[]⟩,
 ⟨.type "tuple",none,.seq #[.int 8 1769,kV "PADDED" 1770] 0,#[]⟩,
 ⟨.type "tuple",none,.seq #[.int 32 1771,kV "PRIORITY" 1772] 0,#[]⟩,
 ⟨.type "list",none,.seq #[.ref 922,.ref 923,.ref 924,.ref 925] 0,#[]⟩,
 kO "parse_body" "HeadersFrame.parse_body" 1774 536 2 3 (.ref 927) (.bool true) (.ref 928) .none (.ref 929) (.ref 930) (.ref 931) 1779,
 kF "parse_body" "HeadersFrame.parse_body" (ay 24 2) "h2.frames" 1594 none 932 .none none #[],
 ⟨.type "dict",none,.dict #[kE P "__module__" 1758 (kV "h2.frames" 1594),kE P "__firstlineno__" 1762 (.int 532 1761),kE P "kind" 1764 (.int 1 1763),kE P "known_flags" 1773 (.ref 926),kE P "parse_body" 1781 (.ref 933),kE P "__static_attributes__" 1783 (.ref 934),kE P "__doc__" 1784 .none] 2,#[]⟩,
 kC (.type "type") "HeadersFrame" [.ref 880] [.ref 936,.ref 880,.type "object"] 935 [] #[some (.ref 915),none,some (kV "HeadersFrame" 1751),some (kV "HeadersFrame" 1759),some (.builtin "object.__new__"),some (.bool true)],
 kO "parse_body" "RstStreamFrame.parse_body" 1803 547 2 3 (.ref 946) (.bool true) (.ref 947) .none (.ref 948) (.ref 949) (.ref 950) 1808,
 kF "parse_body" "RstStreamFrame.parse_body" (ay 25 2) "h2.frames" 1594 none 951 .none none #[],
 ⟨.type "dict",none,.dict #[kE P "__module__" 1794 (kV "h2.frames" 1594),kE P "__firstlineno__" 1798 (.int 543 1797),kE P "kind" 1800 (.int 3 1799),kE P "error_code" 1802 (.int 0 1801),kE P "parse_body" 1810 (.ref 952),kE P "__static_attributes__" 1812 (.ref 953),kE P "__doc__" 1813 .none] 2,#[]⟩,
 kC (.type "type") "RstStreamFrame" [.ref 880] [.ref 955,.ref 880,.type "object"] 954 [] #[some (.ref 939),none,some (kV "RstStreamFrame" 1787),some (kV "RstStreamFrame" 1795),some (.builtin "object.__new__"),some (.bool true)],
 ⟨.type "tuple",none,.seq #[.int 4 1830,kV "END_HEADERS" 1831] 0,#[]⟩,
 ⟨.type "tuple",none,.seq #[.int 8 1832,kV "PADDED" 1833] 0,#[]⟩,
 ⟨.type "list",none,.seq #[.ref 965,.ref 966] 0,#[]⟩,
 kO "parse_body" "PushPromiseFrame.parse_body" 1837 556 2 3 (.ref 968) (.bool true) (.ref 969) .none (.ref 970) (.ref 971) (.ref 972) 1842,
 kF "parse_body" "PushPromiseFrame.parse_body" (ay 26 3) "h2.frames" 1594 none 973 .none none #[],
 ⟨.type "dict",none,.dict #[kE P "__module__" 1823 (kV "h2.frames" 1594),kE P "__firstlineno__" 1827 (.int 551 1826),kE P "kind" 1829 (.int 5 1828),kE P "known_flags" 1834 (.ref 967),kE P "promised_stream_id" 1836 (.int 0 1835),kE P "parse_body" 1844 (.ref 974),kE P "__static_attributes__" 1847 (.ref 975),kE P "__doc__" 1848 .none] 2,#[]⟩,
 kC (.type "type") "PushPromiseFrame" [.ref 880] [.ref 977,.ref 880,.type "object"] 976 [] #[some (.ref 958),none,some (kV "PushPromiseFrame" 1816),some (kV "PushPromiseFrame" 1824),some (.builtin "object.__new__"),some (.bool true)],
 kO "parse_body" "WindowUpdateFrame.parse_body" 1867 568 2 3 (.ref 987) (.bool true) (.ref 988) .none (.ref 989) (.ref 990) (.ref 991) 1872,
 kF "parse_body" "WindowUpdateFrame.parse_body" (ay 27 2) "h2.frames" 1594 none 992 .none none #[],
 ⟨.type "dict",none,.dict #[kE P "__module__" 1858 (kV "h2.frames" 1594),kE P "__firstlineno__" 1862 (.int 564 1861),kE P "kind" 1864 (.int 8 1863),kE P "window_increment" 1866 (.int 0 1865),kE P "parse_body" 1874 (.ref 993),kE P "__static_attributes__" 1876 (.ref 994),kE P "__doc__" 1877 .none] 2,#[]⟩,
 kC (.type "type") "WindowUpdateFrame" [.ref 880] [.ref 996,.ref 880,.type "object"] 995 [] #[some (.ref 980),none,some (kV "WindowUpdateFrame" 1851),some (kV "WindowUpdateFrame" 1859),some (.builtin "object.__new__"),some (.bool true)],
 ⟨.type "tuple",none,.seq #[.int 4 1894,kV "END_HEADERS" 1895] 0,#[]⟩,
 ⟨.type "list",none,.seq #[.ref 1006] 0,#[]⟩,
 ⟨.type "dict",none,.dict #[kE P "__module__" 1887 (kV "h2.frames" 1594),kE P "__firstlineno__" 1891 (.int 574 1890),kE P "kind" 1893 (.int 9 1892),kE P "known_flags" 1896 (.ref 1007),kE P "__static_attributes__" 1897 (.ref 1008),kE P "__doc__" 1898 .none] 2,#[]⟩,
 kC (.type "type") "ContinuationFrame" [.ref 880] [.ref 1010,.ref 880,.type "object"] 1009 [] #[some (.ref 999),none,some (kV "ContinuationFrame" 1880),some (kV "ContinuationFrame" 1888),some (.builtin "object.__new__"),some (.bool true)],
 ⟨.type "tuple",none,.seq #[.bool false] 0,#[]⟩,
 kO "__init__" "FrameBuffer.__init__" 1917 581 2 3 (.ref 1021) (.bool true) (.ref 1022) .none (.ref 1023) (.ref 1024) (.ref 1025) 1922,
 ⟨.type "function",none,.func {name:=(oS "__init__"),qualname:=(oS "FrameBuffer.__init__"),params:=xm (ay 31 0),body:=.stmts (aH (ay 31 0)),scope:=ai (ay 31 0),globals:=3,closure:=[],defaults:=(.ref 1020),kwdefaults:=.none,doc:=.none,pyModule:=(kV "h2.frame_buffer" 1901),annotations:=none,code:=(.ref 1026),closureTuple:=.none,builtins:=0},#[]⟩,
 kO "add_data" "FrameBuffer.add_data" 1925 588 2 3 (.ref 1028) (.bool true) (.ref 1029) .none (.ref 1030) (.ref 1031) (.ref 1032) 1934,
 kF "add_data" "FrameBuffer.add_data" (ay 31 1) "h2.frame_buffer" 1901 none 1033 .none none #[],
 kO "_validate_frame_length" "FrameBuffer._validate_frame_length" 1937 601 2 3 (.ref 1035) (.bool true) (.ref 1036) .none (.ref 1037) (.ref 1038) (.ref 1039) 1943,
 kF "_validate_frame_length" "FrameBuffer._validate_frame_length" (ay 31 2) "h2.frame_buffer" 1901 none 1040 .none none #[],
 kO "_update_header_buffer" "FrameBuffer._update_header_buffer" 1946 606 2 3 (.ref 1042) (.bool true) (.ref 1043) .none (.ref 1044) (.ref 1045) (.ref 1046) 1954,
 kF "_update_header_buffer" "FrameBuffer._update_header_buffer" (ay 31 3) "h2.frame_buffer" 1901 none 1047 .none none #[],
 kO "__iter__" "FrameBuffer.__iter__" 1957 630 1 3 (.ref 1049) (.bool true) (.ref 1050) .none (.ref 1051) (.ref 1052) (.ref 1053) 1961,
 kF "__iter__" "FrameBuffer.__iter__" (ay 31 4) "h2.frame_buffer" 1901 none 1054 .none none #[],
 kO "__next__" "FrameBuffer.__next__" 1964 633 1 3 (.ref 1056) (.bool true) (.ref 1057) .none (.ref 1058) (.ref 1059) (.ref 1060) 1969,
 kF "__next__" "FrameBuffer.__next__" (ay 31 5) "h2.frame_buffer" 1901 none 1061 .none none #[],
 kO "_next_frame" "FrameBuffer._next_frame" 1972 639 1 3 (.ref 1063) (.bool true) (.ref 1064) .none (.ref 1065) (.ref 1066) (.ref 1067) 1981,
 kF "_next_frame" "FrameBuffer._next_frame" (ay 31 6) "h2.frame_buffer" 1901 none 1068 .none none #[],
 ⟨.type "dict",none,.dict #[kE P "__module__" 1912 (kV "h2.frame_buffer" 1901),kE P "__firstlineno__" 1916 (.int 579 1915),kE P "__init__" 1924 (.ref 1027),kE P "add_data" 1936 (.ref 1034),kE P "_validate_frame_length" 1945 (.ref 1041),kE P "_update_header_buffer" 1956 (.ref 1048),kE P "__iter__" 1963 (.ref 1055),kE P "__next__" 1971 (.ref 1062),kE P "_next_frame" 1983 (.ref 1069),kE P "__static_attributes__" 1989 (.ref 1070),kE P "__dict__" 1991 (.ref 1073),kE P "__weakref__" 1993 (.ref 1074),kE P "__doc__" 1994 .none] 4,#[]⟩,
 kC (.type "type") "FrameBuffer" [.type "object"] [.ref 1072,.type "object"] 1071 [] #[none,none,some (kV "FrameBuffer" 1905),some (kV "FrameBuffer" 1913),some (.builtin "object.__new__"),some (.bool true)],
 ⟨.type "list",none,.seq #[.int 2 2001,.int 4 2002,.int 2147483650 2003,.int 65538 2004,.int 0 2005,.int 3 2006,.int 2147483648 2007,.int 16777222 2008] 0,#[]⟩,
 kO "_law_known" "_law_known" 2010 664 0 3 (.ref 1078) (.bool true) (.ref 1079) .none (.ref 1080) (.ref 1081) (.ref 1082) 2013,
 kF "_law_known" "_law_known" (aB 35) "law_kk0028_01" 1997 none 1083 .none none #[],
 ⟨.type "dict",none,.dict #[⟨0,.int 0 2016,.ref 1086⟩,⟨1,.int 1 2023,.ref 1087⟩,⟨5,.int 5 2036,.ref 1088⟩,⟨9,.int 9 2043,.ref 1089⟩] 4,#[]⟩,
 ⟨.type "dict",none,.dict #[⟨1,.int 1 2017,kV "END_STREAM" 2018⟩,⟨8,.int 8 2019,kV "PADDED" 2020⟩] 2,#[]⟩,
 ⟨.type "dict",none,.dict #[⟨1,.int 1 2024,kV "END_STREAM" 2025⟩,⟨4,.int 4 2026,kV "END_HEADERS" 2027⟩,⟨8,.int 8 2028,kV "PADDED" 2029⟩,⟨32,.int 32 2030,kV "PRIORITY" 2031⟩] 4,#[]⟩,
 ⟨.type "dict",none,.dict #[⟨4,.int 4 2037,kV "END_HEADERS" 2038⟩,⟨8,.int 8 2039,kV "PADDED" 2040⟩] 2,#[]⟩,
 ⟨.type "dict",none,.dict #[⟨4,.int 4 2044,kV "END_HEADERS" 2045⟩] 1,#[]⟩,
 kO "_law_octets" "_law_octets" 2052 667 1 3 (.ref 1090) (.bool true) (.ref 1091) .none (.ref 1092) (.ref 1093) (.ref 1094) 2060,
 kF "_law_octets" "_law_octets" (aB 37) "law_kk0028_01" 1997 none 1095 .none none #[],
 kO "_law_padded" "_law_padded" 2063 670 3 3 (.ref 1097) (.bool true) (.ref 1098) .none (.ref 1099) (.ref 1100) (.ref 1101) 2071,
 kF "_law_padded" "_law_padded" (aB 38) "law_kk0028_01" 1997 none 1102 .none none #[],
 kO "_law_many" "_law_many" 2074 680 2 3 (.ref 1104) (.bool true) (.ref 1105) .none (.ref 1106) (.ref 1107) (.ref 1108) 2081,
 kF "_law_many" "_law_many" (aB 39) "law_kk0028_01" 1997 none 1109 .none none #[],
 kO "_law_rows" "_law_rows" 2084 685 1 3 (.ref 1111) (.bool true) (.ref 1112) .none .none .none (.ref 1113) 2087,
 kF "_law_rows" "_law_rows" (aB 40) "law_kk0028_01" 1997 none 1114 .none none #[],
 kO "_law_body" "_law_body" 2090 744 1 3 (.ref 1116) (.bool true) (.ref 1117) .none (.ref 1118) (.ref 1119) (.ref 1120) 2100,
 kF "_law_body" "_law_body" (aB 41) "law_kk0028_01" 1997 none 1121 .none none #[],
 kO "_law_due" "_law_due" 2103 772 3 3 (.ref 1123) (.bool true) (.ref 1124) .none .none .none (.ref 1125) 2106,
 kF "_law_due" "_law_due" (aB 42) "law_kk0028_01" 1997 none 1126 .none none #[],
 kO "_law_told" "_law_told" 2109 802 1 3 (.ref 1128) (.bool true) (.ref 1129) .none (.ref 1130) (.ref 1131) (.ref 1132) 2113,
 kF "_law_told" "_law_told" (aB 43) "law_kk0028_01" 1997 none 1133 .none none #[],
 kO "_law_feed" "_law_feed" 2116 816 3 3 (.ref 1135) (.bool true) (.ref 1136) .none (.ref 1137) (.ref 1138) (.ref 1139) 2124,
 kF "_law_feed" "_law_feed" (aB 44) "law_kk0028_01" 1997 none 1140 .none none #[],
 kO "law" "law" 2127 833 1 3 (.ref 1142) (.bool true) (.ref 1143) .none .none .none (.ref 1144) 2130,
 kF "law" "law" (aB 45) "law_kk0028_01" 1997 none 1145 .none none #[]]
noncomputable def FG:List Addr→List Obj→Frag
 |a::r,o::s=>(a,o)::FG r s
 |_,_=>[]
def K(P:Params):Frag:=FG Ma (kObj P)
def nZ:Program:={pw with main:={pw.main with body:=[aB 45]}}
def oV:List Str:=[oS "_wall",oS "_OWN_NAMES",oS "mappingproxy",oS "_MEMBERS_VIEW",oS "EnumType",oS "_EnumField",oS "Enum",oS "ReprEnum",oS "IntEnum",oS "ErrorCodes",oS "_lay_ErrorCodes",oS "H2Error",oS "ProtocolError",oS "FrameTooLargeError",oS "FrameDataMissingError",oS "InvalidFrameError",oS "InvalidDataError",oS "Frame",oS "DataFrame",oS "HeadersFrame",oS "RstStreamFrame",oS "PushPromiseFrame",oS "WindowUpdateFrame",oS "ContinuationFrame",oS "CONTINUATION_BACKLOG",oS "FrameBuffer",oS "_law_preamble",oS "_law_promises",oS "_law_known",oS "_law_flags",oS "_law_octets",oS "_law_padded",oS "_law_many",oS "_law_rows",oS "_law_body",oS "_law_due",oS "_law_told",oS "_law_feed"]
def FH:List Value:=[.str (oS "<module>") 182,.str (oS "<module>") 183,.str (oS "/claim/cut.py") 184,.int 1 0,.int 0 0,.int 0 0,.int 0 0,.int 0 0,.ref 11,.bool false,.int 181 0,.ref 12,.none,.none,.none,.none,.int 185 0,.int 1 0,.str (oS "/claim/cut.py") 186]
def FI(P:Params):List Obj:=[boot_o_0 P,boot_o_1 P,boot_o_2 P,boot_o_3 P,boot_o_4 P,boot_o_5 P,boot_o_6 P,boot_o_7 P,boot_o_8 P,boot_o_9 P,boot_o_10 P,
 ⟨.type "tuple",none,.seq #[] 0,#[]⟩,⟨.none,none,.fields #[],#[]⟩,⟨.type "code",none,.fields FH.toArray,#[]⟩,
 ⟨.type "frame",none,.plain,#[some (.ref 13),some (.ref 3),some (.ref 3),none,some (.str (oS "__main__") 164),none,some (.ref 0)]⟩]
def FJ(P:Params):BT:=((FI P).zipIdx).foldl (fun t x=>t.ins x.2 x.1) .nil
def Aw:Env:={scope:=pw.main.scope,locals:=mainNs,globals:=mainNs,cells:=[],code:=.ref 13,frame:=some 14}
def cQ:Code:=.body (behindTheImports pw) Aw
def S1(P:Params)(os:OsState):SharedT:=⟨FJ P,15,(boot_heap P).life,#[],boot_drawn,187,os⟩
abbrev xo:Option Value:=some (.ref 6)
abbrev FK:String:="special-get-raises"
theorem C9(w:World)(os:OsState):topGo treeTable pw w 11 xo 12 ⟨boot_heap w.params,Array.mk [],boot_drawn,boot_toks,os⟩ (topStub pw)=some ((S1 w.params os).abs,⟨denote treeTable cQ,cQ,default,[topFrame default]⟩):=by
 unfold topStub
 rw[PySem.W.Fast.te15667345088766844465,PySem.W.Fast.te14364793385576792824,PySem.W.Fast.te11892475500146522536,PySem.W.Fast.te17154629097778926822,PySem.W.Fast.te12822647523644345616]
 kernel_rfl!
theorem xp(w:World)(os:OsState):segRun treeTable pw w 11 xo 1 1 (S1 w.params os).abs (blockOf (behindTheImports pw) Aw cQ default [topFrame default])=some (.next,(S1 w.params os).abs,cQ,default):=by
 rw[PySem.W.Fast.te14374325043358763698,PySem.W.Fast.te14364793385576792824]
 kernel_rfl!
theorem size_eq(w:World):((boot_heap w.params).isNs mainGlobals&&(Array.mk []:Array GenState).size==0,(boot_heap w.params).objs.size,(boot_heap w.params).nsMap mainGlobals "__annotations__")=(true,11,xo):=by kernel_rfl!
theorem Dc(w:World)(s:Shared)(c:Code)(p:Pos):topRun treeTable pw w 11 xo 5 s ⟨doneF .next,c,p,[topFrame default]⟩=some s:=by
 obtain⟨h,g,d,t,os⟩:=s
 rfl
noncomputable def vm:Obj:=⟨.none,none,.fields #[],#[]⟩
def vn:List Addr:=1043::Ma
def K2 (P:Params):Frag:=(1043,vm)::K P
theorem Ax (P:Params):vn=(K2 P).map (·.1):=rfl
noncomputable def xq (p:Program) (h:Heap) (s:Shared):Bool:=staticsOk (importedModules p.main.body) h s.heap&&namesBound p s.heap&&gensDone s&&laidKept h s.heap
abbrev xr (b:Bool):Prop:=∀(w:World) (os:OsState),(segRunT treeTable pw (w.withFollow FK b) 11 xo 1 20000 (S1 w.params os) (piecesOf (behindTheImports pw) Aw cQ default [topFrame default])).map
  (fun r=>(r.1,r.2.2.1,(vn.map fun a=>(r.2.1.tree.get a).bind alive),r.2.1.n,xq pw (boot_heap w.params) r.2.1.abs,openSeen nZ oV (importedModules pw.main.body) (fun U=>true) true r.2.1.abs))=
  some (Flow.next,cQ,((K2 w.params).map fun p=>some p.2),1147,true,openGood nZ oV)
theorem vp:xr false:=by
 intro w os
 unfold piecesOf
 rw[PySem.W.Fast.te10110043849684766642,PySem.W.Fast.te14364793385576792824,PySem.W.Fast.te12563942051412417395,PySem.W.Fast.te4187177175401517315]
 kernel_rfl
theorem xt:xr true:=by
 intro w os
 unfold piecesOf
 rw[PySem.W.Fast.te10110043849684766642,PySem.W.Fast.te14364793385576792824,PySem.W.Fast.te12563942051412417395,PySem.W.Fast.te4187177175401517315]
 kernel_rfl
abbrev HK:Hook:=kHook K2 vn Ax
theorem vq:(vn.all fun a=>Nat.blt a 1147)=true:=by decide+kernel
theorem xu{s:SharedT}{a:Addr}{o:Obj}(h:(s.tree.get a).bind alive=some o)(hn:a<s.n):s.abs.heap.get? a=some o:=by obtain⟨o',h1,h2⟩:=Option.bind_eq_some_iff.mp h;exact(abs_get hn h1).trans h2
theorem qy{s:SharedT}:∀{as:List Addr} {os:List Obj},(as.all fun a=>Nat.blt a s.n)=true→(as.map fun a=>(s.tree.get a).bind alive)=os.map some→as.map s.abs.heap.get? =os.map some
 |[],[],_,_=>rfl
 |[],_::_,_,h=>by cases h
 |_::_,[],_,h=>by cases h
 |a::as,o::os,hn,h=>by simp only[List.all_cons,Bool.and_eq_true]at hn;simp only[List.map_cons,List.cons.injEq]at h⊢;exact⟨xu h.1 (Nat.lt_of_succ_le (Nat.le_of_ble_eq_true hn.1)),qy hn.2 h.2⟩
theorem xv{p q:Program}{loose:List Str}{w:World}{H:Heap}{S:SharedT}{env:Env}{c:Code}{ann:Option Value}{α:Type}{Y:Shared→α}{y:α}{Xt:Shared→Bool}{k:Nat}{d:Drawn}{os:OsState}{m0:Nat}{Ip:Array GenState}(hc:c= .body (behindTheImports p) env)(size:(H.isNs mainGlobals&&Ip.size==0,H.objs.size,H.nsMap mainGlobals "__annotations__")=(true,m0,ann))(pre:topGo treeTable p w m0 ann 12 ⟨H,Ip,d,k,os⟩ (topStub p)=some (S.abs,⟨denote treeTable c,c,default,[topFrame default]⟩))(block:segRun treeTable p w m0 ann 1 1 S.abs (blockOf (behindTheImports p) env c default [topFrame default])=some (.next,S.abs,c,default)){s':SharedT} {p':Pos} (seg:segRunT treeTable p w m0 ann 1 20000 S (piecesOf (behindTheImports p) env c default [topFrame default])=some (.next,s',c,p'))(fin:topRun treeTable p w m0 ann 5 s'.abs ⟨doneF .next,c,p',[topFrame default]⟩=some s'.abs)(dG:xq p H s'.abs=true) (Hh:openSeen q loose (importedModules p.main.body) Xt true s'.abs=openGood q loose) (hY:Y s'.abs=y):
  (topFrom treeTable p w 40000 ⟨H,Ip,d,k,os⟩).map (fun s=>(openSeen q loose (importedModules p.main.body) Xt true s,Y s))=some (openGood q loose,y):=by
 subst hc;have h1:=segRun_of seg;have r1:=piece_app (rest:=[]) (q:=default) h1 (piece_nil fin);rw[List.append_nil]at r1;have r2:=piece_block block r1;have r3:=go_top pre r2;have r4:=topRun_mono (40000-(12+(1+(20000+5)))) _ _ _ _ r3;simp only[Prod.mk.injEq]at size;obtain⟨z1,z2,z3⟩:=size;unfold topFrom;dsimp only;rw[z1,z2,z3];dsimp only;have r5:topRun treeTable p w m0 ann 40000 ⟨H,Ip,d,k,os⟩ (topStub p)=some s'.abs:=r4;rw[r5];unfold xq at dG;dsimp only[Option.bind_some];rw[dG];exact congrArg some (Prod.ext Hh hY)
theorem Ay(w:World):(fencedOpening treeTable pw w 40000).map (fun s=>(s.heap,s.gens,s.drawn,s.toks))=some (boot_heap w.params,Array.mk [],boot_drawn,boot_toks):=
 boot_open (p:=pw) (N:=40000) (by kernel_rfl) (by rfl) (by intro s;kernel_rfl) w
theorem Dd(w:World)(s':SharedT)(hn:s'.n=1147)(hk:(vn.map fun a=>(s'.tree.get a).bind alive)=(K2 w.params).map fun p=>some p.2):HK.obs s'.abs=HK.val w:=by have:=qy (s:=s') (as:=vn) (os:=(K2 w.params).map (·.2)) (by rw[hn];exact vq) (by rw[List.map_map];exact hk);rw[List.map_map]at this;exact this
theorem Az(b:Bool):xr b:=by cases b;exact vp;exact xt
theorem vr{p q:Program}{loose:List Str}{w:World}{α:Type}{Y:Shared→α}{y:α}{Xt:Shared→Bool}{s₀:Shared}{N:Nat}(e1:fencedOpening treeTable p w N=some s₀) (h:(topFrom treeTable p w N s₀).map (fun s=>(openSeen q loose (importedModules p.main.body) Xt true s,Y s))=some (openGood q loose,y)):
  (openEnds treeTable p w N).map (fun s=>(openSeen q loose (importedModules p.main.body) Xt true s,Y s))=some (openGood q loose,y):=by
 unfold openEnds;rw[e1,Option.bind_some];exact h
theorem qz:LeftO pw nZ oV (fun U=>true) HK.obs HK.val 40000:=by intro w;obtain⟨⟨h,g,d,k,os⟩,e1,e2⟩:=Option.map_eq_some_iff.mp (Ay w);simp only[Prod.mk.injEq]at e2;obtain⟨rfl,rfl,rfl,rfl⟩:=e2;refine vr e1 ?_;have hs:=Az (w.params.followText FK) w os;rw[World.withFollow_self]at hs;obtain⟨⟨f,s',c,p'⟩,hr,hv⟩:=Option.map_eq_some_iff.mp hs;simp only[Prod.mk.injEq]at hv;obtain⟨rfl,rfl,hk,hn,dG,Hh⟩:=hv;exact xv (q:=nZ) (loose:=oV) (Y:=HK.obs) (Xt:=fun U=>true) (c:=cQ) (env:=Aw) rfl (size_eq w) (C9 w os) (xp w os) hr (Dc w s'.abs cQ p') dG Hh (Dd w s' hn hk)
end MineH
open MineH
open List
namespace MineL
abbrev V:=@wpAny_bind
abbrev aG:=@wpAny_pure
abbrev n4:=@List.getElem?_eq_getElem
abbrev eT:=@wpAny_holding
abbrev gh:=@Heap.get?_push_size
abbrev js:=@of_decide_eq_true
abbrev eA:=@wpAny_of_eq
abbrev nE:=@builtinLookup_eq_fast
abbrev gx:=@wpAny_standAt
abbrev hH:=@Nat.le_trans
abbrev n5:=@Heap.get?_push_of_some
abbrev nF:=@typeLookup_type
abbrev eB:=@eq_of_beq
abbrev Cp:=@Nat.lt_of_lt_of_le
abbrev jt:=@wpAny_mono
abbrev ax:=@if_neg
abbrev aJ:=@if_pos
theorem dU{α:Type _}{l:List α}{i:Nat}{a:α}(h:l[i]? =some a):∃h:i<l.length,l[i]=a:=List.getElem?_eq_some_iff.mp h
theorem iA{α:Type _}{x:Option α}(h:x.isSome=true):∃a,x=some a:=Option.isSome_iff_exists.mp h
theorem iO{α β:Type _}{o:Option α}{f:α→Option β}{b:β}(h:o.bind f=some b):∃a,o=some a∧f a=some b:=Option.bind_eq_some_iff.mp h
theorem oW{α:Type _}[BEq α][LawfulBEq α]{a b:α}(h:a≠b):(a==b)=false:=beq_eq_false_iff_ne.mpr h
@[elab_as_elim] theorem aD{α:Sort _}{a b:α}{m:α→Prop}(p:m b)(h:a=b):m a:=h▸p
@[elab_as_elim] theorem bD{α:Sort _}{a b:α}{m:α→Prop}(p:m b)(h:b=a):m a:=h▸p
local macro_rules | `(tactic| show $t) => `(tactic| refine $t)
local macro_rules
 | `(tactic| erw [$h:term]) => `(tactic| refine aD ?_ $h)
 | `(tactic| erw [$h:term, $r,*]) => `(tactic| (refine aD ?_ $h; erw [$r,*]))
local macro_rules | `(tactic| left) => `(tactic| kernel_rfl)
local macro_rules | `(tactic| right) => `(tactic| contradiction)
local macro_rules | `(tactic| nofun) => `(tactic| decide +kernel)
local macro_rules | `(tactic| ac_rfl) => `(tactic| lia -abstractProof)
theorem aA{A1 A2 G:Prop}(h:A1∧A2)(f:A1→A2→G):G:=f h.1 h.2
theorem ju{A1 A2 A3 G:Prop}(h:A1∧A2∧A3)(f:A1→A2→A3→G):G:=f h.1 h.2.1 h.2.2
theorem qA{A1 A2 A3 A4 G:Prop}(h:A1∧A2∧A3∧A4)(f:A1→A2→A3→A4→G):G:=f h.1 h.2.1 h.2.2.1 h.2.2.2
theorem xw{A1 A2 A3 A4 A5 G:Prop}(h:A1∧A2∧A3∧A4∧A5)(f:A1→A2→A3→A4→A5→G):G:=f h.1 h.2.1 h.2.2.1 h.2.2.2.1 h.2.2.2.2
theorem AA{A1 A2 A3 A4 A5 A6 G:Prop}(h:A1∧A2∧A3∧A4∧A5∧A6)(f:A1→A2→A3→A4→A5→A6→G):G:=f h.1 h.2.1 h.2.2.1 h.2.2.2.1 h.2.2.2.2.1 h.2.2.2.2.2
theorem Mb{A1 A2 A3 A4 A5 A6 A7 G:Prop}(h:A1∧A2∧A3∧A4∧A5∧A6∧A7)(f:A1→A2→A3→A4→A5→A6→A7→G):G:=f h.1 h.2.1 h.2.2.1 h.2.2.2.1 h.2.2.2.2.1 h.2.2.2.2.2.1 h.2.2.2.2.2.2
theorem IY{A1 A2 A3 A4 A5 A6 A7 A8 G:Prop}(h:A1∧A2∧A3∧A4∧A5∧A6∧A7∧A8)(f:A1→A2→A3→A4→A5→A6→A7→A8→G):G:=f h.1 h.2.1 h.2.2.1 h.2.2.2.1 h.2.2.2.2.1 h.2.2.2.2.2.1 h.2.2.2.2.2.2.1 h.2.2.2.2.2.2.2
theorem Nj{A1 A2 A3 A4 A5 A6 A7 A8 A9 G:Prop}(h:A1∧A2∧A3∧A4∧A5∧A6∧A7∧A8∧A9)(f:A1→A2→A3→A4→A5→A6→A7→A8→A9→G):G:=f h.1 h.2.1 h.2.2.1 h.2.2.2.1 h.2.2.2.2.1 h.2.2.2.2.2.1 h.2.2.2.2.2.2.1 h.2.2.2.2.2.2.2.1 h.2.2.2.2.2.2.2.2
theorem IZ{A1 A2 A3 A4 A5 A6 A7 A8 A9 Hi G:Prop}(h:A1∧A2∧A3∧A4∧A5∧A6∧A7∧A8∧A9∧Hi)(f:A1→A2→A3→A4→A5→A6→A7→A8→A9→Hi→G):G:=f h.1 h.2.1 h.2.2.1 h.2.2.2.1 h.2.2.2.2.1 h.2.2.2.2.2.1 h.2.2.2.2.2.2.1 h.2.2.2.2.2.2.2.1 h.2.2.2.2.2.2.2.2.1 h.2.2.2.2.2.2.2.2.2
theorem I1{A1 A2 A3 A4 A5 A6 A7 A8 A9 Hi Mf G:Prop}(h:A1∧A2∧A3∧A4∧A5∧A6∧A7∧A8∧A9∧Hi∧Mf)(f:A1→A2→A3→A4→A5→A6→A7→A8→A9→Hi→Mf→G):G:=f h.1 h.2.1 h.2.2.1 h.2.2.2.1 h.2.2.2.2.1 h.2.2.2.2.2.1 h.2.2.2.2.2.2.1 h.2.2.2.2.2.2.2.1 h.2.2.2.2.2.2.2.2.1 h.2.2.2.2.2.2.2.2.2.1 h.2.2.2.2.2.2.2.2.2.2
theorem av{α:Sort _}{A:α→Prop}{G:Prop}(h:∃a,A a)(f:∀a,A a→G):G:=h.elim f
theorem fJ{α β:Sort _}{A:α→β→Prop}{G:Prop}(h:∃a b,A a b)(f:∀a b,A a b→G):G:=h.elim fun a h=>av h (f a)
theorem xx{α β γ:Sort _}{A:α→β→γ→Prop}{G:Prop}(h:∃a b c,A a b c)(f:∀a b c,A a b c→G):G:=h.elim fun a h=>fJ h (f a)
theorem De{α β γ δ:Sort _}{A:α→β→γ→δ→Prop}{G:Prop}(h:∃a b c d,A a b c d)(f:∀a b c d,A a b c d→G):G:=h.elim fun a h=>xx h (f a)
theorem Mc{α β γ δ ε:Sort _}{A:α→β→γ→δ→ε→Prop}{G:Prop}(h:∃a b c d i,A a b c d i)(f:∀a b c d i,A a b c d i→G):G:=h.elim fun a h=>De h (f a)
theorem FL{α β γ δ ε ζ:Sort _}{A:α→β→γ→δ→ε→ζ→Prop}{G:Prop}(h:∃a b c d i j,A a b c d i j)(f:∀a b c d i j,A a b c d i j→G):G:=h.elim fun a h=>Mc h (f a)
theorem Nk{α β γ δ ε ζ η:Sort _}{A:α→β→γ→δ→ε→ζ→η→Prop}{G:Prop}(h:∃a b c d i j k,A a b c d i j k)(f:∀a b c d i j k,A a b c d i j k→G):G:=h.elim fun a h=>FL h (f a)
theorem hide{G:Prop}(k:∀H:Prop,(G→H)→H):G:=k G id
theorem I4{A B C D F:Prop}(h0:A)(h1:B)(h2:C)(h3:D)(h4:F):A∧B∧C∧D∧F:=⟨h0,h1,h2,h3,h4⟩
theorem I5{A B C D F H I:Prop}(h0:A)(h1:B)(h2:C)(h3:D)(h4:F)(h5:H)(h6:I):A∧B∧C∧D∧F∧H∧I:=⟨h0,h1,h2,h3,h4,h5,h6⟩
theorem cM{α:Sort _}{A B:α→Prop}(a:α)(h0:A a)(h1:B a):∃a,A a∧B a:=⟨a,h0,h1⟩
theorem oX{α:Sort _}{A B C:α→Prop}(a:α)(h0:A a)(h1:B a)(h2:C a):∃a,A a∧B a∧C a:=⟨a,h0,h1,h2⟩
theorem Df{α:Sort _}{A B C D:α→Prop}(a:α)(h0:A a)(h1:B a)(h2:C a)(h3:D a):∃a,A a∧B a∧C a∧D a:=⟨a,h0,h1,h2,h3⟩
theorem FN{α:Sort _}{A B C D F:α→Prop}(a:α)(h0:A a)(h1:B a)(h2:C a)(h3:D a)(h4:F a):∃a,A a∧B a∧C a∧D a∧F a:=⟨a,h0,h1,h2,h3,h4⟩
theorem nH{α β:Sort _}{A B:α→β→Prop}(a:α)(b:β)(h0:A a b)(h1:B a b):∃a b,A a b∧B a b:=⟨a,b,h0,h1⟩
theorem xy{α β:Sort _}{A B C:α→β→Prop}(a:α)(b:β)(h0:A a b)(h1:B a b)(h2:C a b):∃a b,A a b∧B a b∧C a b:=⟨a,b,h0,h1,h2⟩
theorem AB{α β:Sort _}{A B C D:α→β→Prop}(a:α)(b:β)(h0:A a b)(h1:B a b)(h2:C a b)(h3:D a b):∃a b,A a b∧B a b∧C a b∧D a b:=⟨a,b,h0,h1,h2,h3⟩
theorem FO{α β:Sort _}{A B C D F:α→β→Prop}(a:α)(b:β)(h0:A a b)(h1:B a b)(h2:C a b)(h3:D a b)(h4:F a b):∃a b,A a b∧B a b∧C a b∧D a b∧F a b:=⟨a,b,h0,h1,h2,h3,h4⟩
theorem I6{α β:Sort _}{A B C D F H:α→β→Prop}(a:α)(b:β)(h0:A a b)(h1:B a b)(h2:C a b)(h3:D a b)(h4:F a b)(h5:H a b):∃a b,A a b∧B a b∧C a b∧D a b∧F a b∧H a b:=⟨a,b,h0,h1,h2,h3,h4,h5⟩
theorem I7{α β γ:Sort _}{A B:α→β→γ→Prop}(a:α)(b:β)(c:γ)(h0:A a b c)(h1:B a b c):∃a b c,A a b c∧B a b c:=⟨a,b,c,h0,h1⟩
theorem AD{α β γ:Sort _}{A B C:α→β→γ→Prop}(a:α)(b:β)(c:γ)(h0:A a b c)(h1:B a b c)(h2:C a b c):∃a b c,A a b c∧B a b c∧C a b c:=⟨a,b,c,h0,h1,h2⟩
theorem FP{α β γ:Sort _}{A B C D:α→β→γ→Prop}(a:α)(b:β)(c:γ)(h0:A a b c)(h1:B a b c)(h2:C a b c)(h3:D a b c):∃a b c,A a b c∧B a b c∧C a b c∧D a b c:=⟨a,b,c,h0,h1,h2,h3⟩
theorem I8{α β γ:Sort _}{A B C D F:α→β→γ→Prop}(a:α)(b:β)(c:γ)(h0:A a b c)(h1:B a b c)(h2:C a b c)(h3:D a b c)(h4:F a b c):∃a b c,A a b c∧B a b c∧C a b c∧D a b c∧F a b c:=⟨a,b,c,h0,h1,h2,h3,h4⟩
theorem I9{α β γ δ:Sort _}{A B C:α→β→γ→δ→Prop}(a:α)(b:β)(c:γ)(d:δ)(h0:A a b c d)(h1:B a b c d)(h2:C a b c d):∃a b c d,A a b c d∧B a b c d∧C a b c d:=⟨a,b,c,d,h0,h1,h2⟩
theorem Ja{α β γ δ:Sort _}{A B C D:α→β→γ→δ→Prop}(a:α)(b:β)(c:γ)(d:δ)(h0:A a b c d)(h1:B a b c d)(h2:C a b c d)(h3:D a b c d):∃a b c d,A a b c d∧B a b c d∧C a b c d∧D a b c d:=⟨a,b,c,d,h0,h1,h2,h3⟩
theorem Jb{α β γ δ:Sort _}{A B C D F H I J K:α→β→γ→δ→Prop}(a:α)(b:β)(c:γ)(d:δ)(h0:A a b c d)(h1:B a b c d)(h2:C a b c d)(h3:D a b c d)(h4:F a b c d)(h5:H a b c d)(h6:I a b c d)(h7:J a b c d)(h8:K a b c d):∃a b c d,A a b c d∧B a b c d∧C a b c d∧D a b c d∧F a b c d∧H a b c d∧I a b c d∧J a b c d∧K a b c d:=⟨a,b,c,d,h0,h1,h2,h3,h4,h5,h6,h7,h8⟩
theorem Jc{α β γ δ ε:Sort _}{A B C D F H:α→β→γ→δ→ε→Prop}(a:α)(b:β)(c:γ)(d:δ)(e:ε)(h0:A a b c d e)(h1:B a b c d e)(h2:C a b c d e)(h3:D a b c d e)(h4:F a b c d e)(h5:H a b c d e):∃a b c d e,A a b c d e∧B a b c d e∧C a b c d e∧D a b c d e∧F a b c d e∧H a b c d e:=⟨a,b,c,d,e,h0,h1,h2,h3,h4,h5⟩
theorem aa{α:Sort _}{A B:α→Prop}{Z:Prop}(h:∃a,A a∧B a)(ff:∀a,A a→B a→Z):Z:=av h fun a h=>aA h (ff a)
theorem bJ{α:Sort _}{A B C:α→Prop}{Z:Prop}(h:∃a,A a∧B a∧C a)(ff:∀a,A a→B a→C a→Z):Z:=av h fun a h=>ju h (ff a)
theorem iP{α:Sort _}{A B C D:α→Prop}{Z:Prop}(h:∃a,A a∧B a∧C a∧D a)(ff:∀a,A a→B a→C a→D a→Z):Z:=av h fun a h=>qA h (ff a)
theorem oY{α:Sort _}{A B C D F:α→Prop}{Z:Prop}(h:∃a,A a∧B a∧C a∧D a∧F a)(ff:∀a,A a→B a→C a→D a→F a→Z):Z:=av h fun a h=>xw h (ff a)
theorem Jd{α:Sort _}{A B C D F H:α→Prop}{Z:Prop}(h:∃a,A a∧B a∧C a∧D a∧F a∧H a)(ff:∀a,A a→B a→C a→D a→F a→H a→Z):Z:=av h fun a h=>AA h (ff a)
theorem Je{α:Sort _}{A B C D F H I:α→Prop}{Z:Prop}(h:∃a,A a∧B a∧C a∧D a∧F a∧H a∧I a)(ff:∀a,A a→B a→C a→D a→F a→H a→I a→Z):Z:=av h fun a h=>Mb h (ff a)
theorem cj{α β:Sort _}{A B:α→β→Prop}{Z:Prop}(h:∃a b,A a b∧B a b)(ff:∀a b,A a b→B a b→Z):Z:=fJ h fun a b h=>aA h (ff a b)
theorem bb{α β:Sort _}{A B C:α→β→Prop}{Z:Prop}(h:∃a b,A a b∧B a b∧C a b)(ff:∀a b,A a b→B a b→C a b→Z):Z:=fJ h fun a b h=>ju h (ff a b)
theorem bY{α β:Sort _}{A B C D:α→β→Prop}{Z:Prop}(h:∃a b,A a b∧B a b∧C a b∧D a b)(ff:∀a b,A a b→B a b→C a b→D a b→Z):Z:=fJ h fun a b h=>qA h (ff a b)
theorem cN{α β:Sort _}{A B C D F:α→β→Prop}{Z:Prop}(h:∃a b,A a b∧B a b∧C a b∧D a b∧F a b)(ff:∀a b,A a b→B a b→C a b→D a b→F a b→Z):Z:=fJ h fun a b h=>xw h (ff a b)
theorem AE{α β:Sort _}{A B C D F H:α→β→Prop}{Z:Prop}(h:∃a b,A a b∧B a b∧C a b∧D a b∧F a b∧H a b)(ff:∀a b,A a b→B a b→C a b→D a b→F a b→H a b→Z):Z:=fJ h fun a b h=>AA h (ff a b)
theorem Jf{α β:Sort _}{A B C D F H I J:α→β→Prop}{Z:Prop}(h:∃a b,A a b∧B a b∧C a b∧D a b∧F a b∧H a b∧I a b∧J a b)(ff:∀a b,A a b→B a b→C a b→D a b→F a b→H a b→I a b→J a b→Z):Z:=fJ h fun a b h=>IY h (ff a b)
theorem sI{α β γ:Sort _}{A B:α→β→γ→Prop}{Z:Prop}(h:∃a b c,A a b c∧B a b c)(ff:∀a b c,A a b c→B a b c→Z):Z:=xx h fun a b c h=>aA h (ff a b c)
theorem gy{α β γ:Sort _}{A B C:α→β→γ→Prop}{Z:Prop}(h:∃a b c,A a b c∧B a b c∧C a b c)(ff:∀a b c,A a b c→B a b c→C a b c→Z):Z:=xx h fun a b c h=>ju h (ff a b c)
theorem iQ{α β γ:Sort _}{A B C D:α→β→γ→Prop}{Z:Prop}(h:∃a b c,A a b c∧B a b c∧C a b c∧D a b c)(ff:∀a b c,A a b c→B a b c→C a b c→D a b c→Z):Z:=xx h fun a b c h=>qA h (ff a b c)
theorem AF{α β γ:Sort _}{A B C D F:α→β→γ→Prop}{Z:Prop}(h:∃a b c,A a b c∧B a b c∧C a b c∧D a b c∧F a b c)(ff:∀a b c,A a b c→B a b c→C a b c→D a b c→F a b c→Z):Z:=xx h fun a b c h=>xw h (ff a b c)
theorem Jg{α β γ:Sort _}{A B C D F H:α→β→γ→Prop}{Z:Prop}(h:∃a b c,A a b c∧B a b c∧C a b c∧D a b c∧F a b c∧H a b c)(ff:∀a b c,A a b c→B a b c→C a b c→D a b c→F a b c→H a b c→Z):Z:=xx h fun a b c h=>AA h (ff a b c)
theorem xA{α β γ:Sort _}{A B C D F H I:α→β→γ→Prop}{Z:Prop}(h:∃a b c,A a b c∧B a b c∧C a b c∧D a b c∧F a b c∧H a b c∧I a b c)(ff:∀a b c,A a b c→B a b c→C a b c→D a b c→F a b c→H a b c→I a b c→Z):Z:=xx h fun a b c h=>Mb h (ff a b c)
theorem uf{α β γ:Sort _}{A B C D F H I J K L M:α→β→γ→Prop}{Z:Prop}(h:∃a b c,A a b c∧B a b c∧C a b c∧D a b c∧F a b c∧H a b c∧I a b c∧J a b c∧K a b c∧L a b c∧M a b c)(ff:∀a b c,A a b c→B a b c→C a b c→D a b c→F a b c→H a b c→I a b c→J a b c→K a b c→L a b c→M a b c→Z):Z:=xx h fun a b c h=>I1 h (ff a b c)
theorem jv{α β γ δ:Sort _}{A B:α→β→γ→δ→Prop}{Z:Prop}(h:∃a b c d,A a b c d∧B a b c d)(ff:∀a b c d,A a b c d→B a b c d→Z):Z:=De h fun a b c d h=>aA h (ff a b c d)
theorem vt{α β γ δ:Sort _}{A B C:α→β→γ→δ→Prop}{Z:Prop}(h:∃a b c d,A a b c d∧B a b c d∧C a b c d)(ff:∀a b c d,A a b c d→B a b c d→C a b c d→Z):Z:=De h fun a b c d h=>ju h (ff a b c d)
theorem nJ{α β γ δ:Sort _}{A B C D:α→β→γ→δ→Prop}{Z:Prop}(h:∃a b c d,A a b c d∧B a b c d∧C a b c d∧D a b c d)(ff:∀a b c d,A a b c d→B a b c d→C a b c d→D a b c d→Z):Z:=De h fun a b c d h=>qA h (ff a b c d)
theorem Dg{α β γ δ:Sort _}{A B C D F H I J:α→β→γ→δ→Prop}{Z:Prop}(h:∃a b c d,A a b c d∧B a b c d∧C a b c d∧D a b c d∧F a b c d∧H a b c d∧I a b c d∧J a b c d)(ff:∀a b c d,A a b c d→B a b c d→C a b c d→D a b c d→F a b c d→H a b c d→I a b c d→J a b c d→Z):Z:=De h fun a b c d h=>IY h (ff a b c d)
theorem AG{α β γ δ:Sort _}{A B C D F H I J K:α→β→γ→δ→Prop}{Z:Prop}(h:∃a b c d,A a b c d∧B a b c d∧C a b c d∧D a b c d∧F a b c d∧H a b c d∧I a b c d∧J a b c d∧K a b c d)(ff:∀a b c d,A a b c d→B a b c d→C a b c d→D a b c d→F a b c d→H a b c d→I a b c d→J a b c d→K a b c d→Z):Z:=De h fun a b c d h=>Nj h (ff a b c d)
theorem xB{α β γ δ:Sort _}{A B C D F H I J K L:α→β→γ→δ→Prop}{Z:Prop}(h:∃a b c d,A a b c d∧B a b c d∧C a b c d∧D a b c d∧F a b c d∧H a b c d∧I a b c d∧J a b c d∧K a b c d∧L a b c d)(ff:∀a b c d,A a b c d→B a b c d→C a b c d→D a b c d→F a b c d→H a b c d→I a b c d→J a b c d→K a b c d→L a b c d→Z):Z:=De h fun a b c d h=>IZ h (ff a b c d)
theorem Jh{α β γ δ ε:Sort _}{A B C D F H:α→β→γ→δ→ε→Prop}{Z:Prop}(h:∃a b c d e,A a b c d e∧B a b c d e∧C a b c d e∧D a b c d e∧F a b c d e∧H a b c d e)(ff:∀a b c d e,A a b c d e→B a b c d e→C a b c d e→D a b c d e→F a b c d e→H a b c d e→Z):Z:=Mc h fun a b c d e h=>AA h (ff a b c d e)
theorem Ji{α β γ δ ε ζ:Sort _}{A B C:α→β→γ→δ→ε→ζ→Prop}{Z:Prop}(h:∃a b c d e f,A a b c d e f∧B a b c d e f∧C a b c d e f)(ff:∀a b c d e f,A a b c d e f→B a b c d e f→C a b c d e f→Z):Z:=FL h fun a b c d e f h=>ju h (ff a b c d e f)
theorem FQ{α β γ δ ε ζ:Sort _}{A B C D F:α→β→γ→δ→ε→ζ→Prop}{Z:Prop}(h:∃a b c d e f,A a b c d e f∧B a b c d e f∧C a b c d e f∧D a b c d e f∧F a b c d e f)(ff:∀a b c d e f,A a b c d e f→B a b c d e f→C a b c d e f→D a b c d e f→F a b c d e f→Z):Z:=FL h fun a b c d e f h=>xw h (ff a b c d e f)
theorem Jj{α β γ δ ε ζ:Sort _}{A B C D F H:α→β→γ→δ→ε→ζ→Prop}{Z:Prop}(h:∃a b c d e f,A a b c d e f∧B a b c d e f∧C a b c d e f∧D a b c d e f∧F a b c d e f∧H a b c d e f)(ff:∀a b c d e f,A a b c d e f→B a b c d e f→C a b c d e f→D a b c d e f→F a b c d e f→H a b c d e f→Z):Z:=FL h fun a b c d e f h=>AA h (ff a b c d e f)
theorem Jk{α β γ δ ε ζ:Sort _}{A B C D F H I J:α→β→γ→δ→ε→ζ→Prop}{Z:Prop}(h:∃a b c d e f,A a b c d e f∧B a b c d e f∧C a b c d e f∧D a b c d e f∧F a b c d e f∧H a b c d e f∧I a b c d e f∧J a b c d e f)(ff:∀a b c d e f,A a b c d e f→B a b c d e f→C a b c d e f→D a b c d e f→F a b c d e f→H a b c d e f→I a b c d e f→J a b c d e f→Z):Z:=FL h fun a b c d e f h=>IY h (ff a b c d e f)
theorem Jl{α β γ δ ε ζ η:Sort _}{A B C D:α→β→γ→δ→ε→ζ→η→Prop}{Z:Prop}(h:∃a b c d e f g,A a b c d e f g∧B a b c d e f g∧C a b c d e f g∧D a b c d e f g)(ff:∀a b c d e f g,A a b c d e f g→B a b c d e f g→C a b c d e f g→D a b c d e f g→Z):Z:=Nk h fun a b c d e f g h=>qA h (ff a b c d e f g)
theorem gA{α:Type _}{l ex:List α}{x:α}:(l++x::ex)[l.length]? =some x:=by simp
theorem gB{α:Type _}{l a ex:List α}{x:α}:(l++x::a++ex)[l.length]? =some x:=by simp
theorem Nl{α:Type _}{l a b ex:List α}{x:α}:(l++x::a++b++ex)[l.length]? =some x:=by simp
theorem gC{α:Type _}{l ex:List α}{x y:α}:(l++x::y::ex)[l.length+1]? =some y:=by simp
theorem Nm{α:Type _}{l ex:List α}{x y:α}:(l++[x]++y::ex)[l.length+1]? =some y:=by simp
theorem gE{α:Type _}{l ex:List α}:l.length≤(l++ex).length:=by simp
theorem Nn{α:Type _}{l a ex:List α}:l.length≤(l++a++ex).length:=by simp[Nat.add_assoc]
theorem gF{α:Type _}{l:List α}{x:α}:(l++[x]).length=l.length+1:=by simp
theorem nt{a b c:Nat}(h:a≤b:=by assumption)(k:b≤c:=by decide):a≤c:=hH h k
abbrev VP:=Value→Shared→Prop
inductive LV where
 |none
 |bool (b:Bool)
 |int (i:Int)
 |str (s:Str)
 |bytes (b:List Int)
 |tup (l:List LV)
 |kq (l:List LV)
 |gw (l:List (Int×LV))
 |lZ (a b c:Int)
 |obj (id:Nat)
 |gl (v:Value)
 deriving Inhabited
inductive LO where
 |list (l:List LV)
 |set (l:List Str)
 |aV (b:List Int)
 |inst (C:Addr) (fs:List (Str×LV))
 |tab
 deriving Inhabited
set_option genInjectivity false
set_option genCtorIdx false
abbrev oi(i:Int):Option LV:=some (.int i)
abbrev oo(i:Nat):Option LV:=some (.obj i)
noncomputable abbrev ob(b:List Int):Option LV:=some (.bytes b)
noncomputable abbrev nK:List (Option LV):=[none,none,none]
noncomputable abbrev sJ:List (Option LV):=none::nK
noncomputable abbrev di:List (Option LV):=none::sJ
noncomputable abbrev Dh:List (Option LV):=none::di
noncomputable abbrev Jm:List (Option LV):=none::Dh
noncomputable abbrev xC:List (Option LV):=none::Jm
noncomputable abbrev qB:List (Option LV):=none::xC
noncomputable abbrev xD:List (Option LV):=none::qB
noncomputable abbrev FR:List (Option LV):=none::xD
abbrev ug:List (Option LV):=none::FR
abbrev qC:List (Option LV):=none::ug
abbrev Cq:List (Option LV):=none::qC
abbrev qE:List (Option LV):=none::Cq
abbrev Cr:List (Option LV):=none::qE
abbrev FT:List (Option LV):=none::Cr
abbrev Md:List (Option LV):=none::FT
abbrev Cells:=List (Addr×List Addr)
noncomputable def flat(ρ:Cells):List Addr:=ρ.flatMap fun c=>c.1::c.2
mutual
def Rep(h:Heap)(ρ:Cells):LV→Value→Prop
 | .none,v=>v= .none
 | .bool b,v=>v= .bool b
 | .int i,v=>∃t,v= .int i t
 | .str s,v=>∃t,v= .str s t
 | .bytes l,v=>∃b t,v= .bytes b t∧KBw.bInts b=l
 | .tup l,v=>∃a vs,v= .ref a∧a∉flat ρ∧h.IsTuple a vs.toArray∧bz h ρ l vs
 | .kq l,v=>∃a vs,v= .ref a∧a∉flat ρ∧h.IsList a vs.toArray∧bz h ρ l vs
 | .gw l,v=>∃a o es n,v= .ref a∧a∉flat ρ∧h.get? a=some o∧o.ExactDict∧a≠sysModules∧(l.map (·.1)).Nodup∧o.data= .dict es n∧¬ StrKeys es∧nL h ρ l es.toList
 | .lZ a b c,v=>∃r t1 t2 t3,v= .ref r∧r∉flat ρ∧IsRange h r a b c t1 t2 t3
 | .obj id,v=>∃c,ρ[id]? =some c∧v= .ref c.1
 | .gl u,v=>v=u
def bz(h:Heap)(ρ:Cells):List LV→List Value→Prop
 |[],vs=>vs=[]
 |x::r,vs=>∃v dX,vs=v::dX∧Rep h ρ x v∧bz h ρ r dX
def nL(h:Heap)(ρ:Cells):List (Int×LV)→List DictEntry→Prop
 |[],es=>es=[]
 |(k,x)::r,es=>∃e fL t,es=e::fL∧e.key= .int k t∧e.hash=hashInt k∧Rep h ρ x e.val∧nL h ρ r fL
end
def l7(o:Obj):Prop:=(∃items n,o.data= .seq items n)∨(∃es n,o.data= .dict es n∧¬ StrKeys es)∨o.cls= .type "range"∧∃vs,o.data= .fields vs
def bj(ρ:Cells)(h h':Heap):Prop:=∀a o,a∉flat ρ→l7 o→h.get? a=some o→h'.get? a=some o
def aF(h:Heap)(ρ ρ':Cells):Prop:=∃ex,ρ'=ρ++ex∧∀a∈flat ex,h.get? a=none
theorem cA(ρ ex:Cells):flat (ρ++ex)=flat ρ++flat ex:=by simp[flat]
theorem aF.refl(h:Heap)(ρ:Cells):aF h ρ ρ:=⟨[],by simp,by simp[flat]⟩
theorem aF.get{h:Heap}{ρ ρ':Cells}(x:aF h ρ ρ'){i:Nat}(e:ρ[i]? =some c):ρ'[i]? =some c:=by
 show aa x ?_;rintro ex rfl U
 show aD ?_ (getElem?_append_left (by
  rw[List.getElem?_eq_some_iff]at e
  show e.1))
 show e
theorem aF.out{h:Heap}{ρ ρ':Cells}(x:aF h ρ ρ'){a:Addr}(n:a∉flat ρ)(e:h.get? a=some o):a∉flat ρ':=by show aa x ?_;rintro ex rfl hx;erw[cA ..];rw[mem_append,not_or];show⟨n,fun m=>by replace e:=hx a m▸e;right⟩
mutual
theorem Rep.mono{h h':Heap}{ρ ρ':Cells}(k:bj ρ h h')(x:aF h ρ ρ'):∀{lv:LV} {v:Value},Rep h ρ lv v→Rep h' ρ' lv v
 | .none,_,r=>r
 | .bool _,_,r=>r
 | .int _,_,r=>r
 | .str _,_,r=>r
 | .bytes _,_,r=>r
 | .gl _,_,r=>r
 | .obj _,_,r=>by show aa r ?_;rintro c e rfl;show cM c (x.get e) rfl
 | .lZ a b c,_,r=>by show vt r ?_;rintro x0 t1 t2 t3 rfl n hr;show I9 x0 t1 t2 t3 rfl (x.out n hr) (k _ _ n (.inr (.inr ⟨rfl,_,rfl⟩)) hr)
 | .tup l,_,r=>by show bY r ?_;rintro a vs rfl n ⟨o,ho,hc,m,hd⟩ q;show⟨a,vs,rfl,x.out n ho,⟨o,k a o n (.inl ⟨_,_,hd⟩) ho,hc,m,hd⟩,bz.mono k x q⟩
 | .kq l,_,r=>by show bY r ?_;rintro a vs rfl n ⟨o,ho,hc,m,hd⟩ q;show⟨a,vs,rfl,x.out n ho,⟨o,k a o n (.inl ⟨_,_,hd⟩) ho,hc,m,hd⟩,bz.mono k x q⟩
 | .gw l,_,r=>by show AG r ?_;rintro a o es m rfl n ho hc hy hu hd hs q;show Jb a o es m rfl (x.out n ho) (k a o n (.inr (.inl ⟨_,_,hd,hs⟩)) ho) hc hy hu hd hs (nL.mono k x q)
theorem bz.mono{h h':Heap}{ρ ρ':Cells}(k:bj ρ h h')(x:aF h ρ ρ'):∀{l:List LV} {vs:List Value},bz h ρ l vs→bz h' ρ' l vs
 |[],_,r=>r
 |_::_,_,r=>by show bb r ?_;rintro v vs rfl a b;show xy v vs rfl (a.mono k x) (b.mono k x)
theorem nL.mono{h h':Heap}{ρ ρ':Cells}(k:bj ρ h h')(x:aF h ρ ρ'):∀{l:List (Int×LV)} {es:List DictEntry},nL h ρ l es→nL h' ρ' l es
 |[],_,r=>r
 |_::_,_,r=>by show AF r ?_;rintro e es t rfl a b c d;show I8 e es t rfl a b (c.mono k x) (d.mono k x)
end
noncomputable abbrev sk(w:World):=strKind PySem.Challenge.pw_kk0028_01 w
def hU(h:Heap)(ρ:Cells):Option LV→Option Value→Prop
 |none,v=>v=none
 |some lv,v=>∃u,v=some u∧Rep h ρ lv u
def ky(w:World)(h:Heap)(a:Addr):Prop:=∃o es ep t,h.get? a=some o∧o.data= .set es ep t∧(t.led=true∨w.params.followText "set-order"=true)∧(t.plain=true→es= #[])
def kz(w:World)(h:Heap)(ρ:Cells):LO→(Addr×List Addr)→Prop
 | .list l,c=>c.2=[]∧∃vs:List Value,h.PlainList c.1 vs.toArray∧bz h ρ l vs
 | .set l,c=>c.2=[]∧l.Nodup∧h.SetOf (sk w) c.1 (fun k=>l.contains k) l.length∧ky w h c.1
 | .aV b,c=>c.2=[]∧∃arr,h.get? c.1=some ⟨.type "bytearray",none,.bytearray arr 0,#[]⟩∧KBw.bInts arr=b
 | .tab,c=>c=(1043,[])∧∃ps:Array Value,h.get? 1043=some ⟨.none,none,.fields ps,#[]⟩∧TriplesOk ps.toList
 | .inst C fs,c=>∃d m,c.2=[d]∧h.get? c.1=some {cls:=.ref C,dict:=some d,data:=.plain}∧h.Ns1 d m∧∀x,hU h ρ (fs.lookup x) (m x)
structure Base where
 w:World
 heap:Heap
 mg:Str→Option Value
 mb:Str→Option Value
noncomputable abbrev Base.M(B:Base):Model:=model PySem.Challenge.pw_kk0028_01 B.w
structure Base.Ok(B:Base):Prop where
 ns:B.heap.Ns mainGlobals B.mg
 nb:B.heap.Ns builtinsNs B.mb
 nolimit:B.heap.NoLimit
 bt:∀x:Str,x≠"__name__"→B.mb x=bootBuiltins x
structure Cx where
 A:Around
 env:Env
 dq:List Env
noncomputable def Cx.own(C:Cx):List Addr:=C.env.locals::C.env.cells.map (·.2)
noncomputable def Cx.outs(C:Cx):List Addr:=C.dq.filterMap (·.frame)
structure Cx.Ok(C:Cx):Prop where
 frames:C.A.frames=some C.dq
 depth:C.A.depth≤310+2*C.dq.length
 units:C.A.units≤1000+20*C.dq.length
 kind:C.env.scope.kind= .function
 globals:C.env.globals=mainGlobals
 builtins:C.env.builtins=builtinsNs
abbrev aQ:=List (Str×LV)
abbrev cT:=List (Option LV)
abbrev qu:=Flow→Shared→Prop
abbrev sF:=Unit→Shared→Prop
abbrev kr:=LV→List LO→Prop
abbrev sG:=Nat→aQ→List LO→Prop
def uh(E:Env)(m:Str→Option Value)(h:Heap)(x:Str)(v:Value):Prop:=
 (E.kindOf x=some .local∧m x=some v)∨((E.kindOf x=some .cell∨E.kindOf x=some .free)∧∃c,E.cells.lookup x=some c∧h.IsCell c (some v))
structure St(B:Base)(C:Cx)(ρ:Cells)(env:aQ)(σ:List LO)(h:Heap):Prop where
 ns:∃m,h.Ns C.env.locals m∧∀x lv,env.lookup x=some lv→∃v,uh C.env m h x v∧Rep h ρ lv v
 jm:∀p∈C.env.cells,∃v,h.IsCell p.2 v
 apart:C.env.cells.Pairwise fun x y=>x.2≠y.2
 ow:∀a∈C.own,B.heap.get? a=none∧a∉flat ρ
 base:∀a o,B.heap.get? a=some o→h.get? a=some o
 dq:∀e∈C.dq,e.scope.kind≠.module∧∃L m,e.frame=some L∧L∉flat ρ∧h.Ns L m∧B.heap.get? L=none
 out:∀a∈flat ρ,B.heap.get? a=none∧(h.get? a).isSome
 nd:(flat ρ).Nodup
 len:ρ.length=σ.length
 iR:∀(i:Nat) (o:LO) (c:Addr×List Addr),σ[i]? =some o→ρ[i]? =some c→kz B.w h ρ o c
structure GX(g g':Array GenState):Prop where
 keep:∀(i:Nat) x,g[i]? =some x→g'[i]? =some x
 bare:AllBare g→AllBare g'
theorem GX.of_eq{g g':Array GenState}(e:g'=g):GX g g':=e▸⟨fun U U h=>h,fun h=>h⟩
theorem GX.trans{g g' Mg:Array GenState}(x:GX g g')(y:GX g' Mg):GX g Mg:=⟨fun i z h=>y.keep i z (x.keep i z h),fun h=>y.bare (x.bare h)⟩
structure Kept(C:Cx)(ρ:Cells)(s:Shared)(ρ':Cells)(s':Shared):Prop where
 keep:∀a o,a∉flat ρ→a∉C.own→a∉C.outs→s.heap.get? a=some o→s'.heap.get? a=some o
 outs:∀a o,a∈C.outs→a∉flat ρ→a∉C.own→s.heap.get? a=some o→∃o',s'.heap.get? a=some o'∧o'.data=o.data
 alive:∀a,(s.heap.get? a).isSome→(s'.heap.get? a).isSome
 ext:aF s.heap ρ ρ'
 gens:GX s.gens s'.gens
 os:s'.os=s.os
theorem Kept.refl(C:Cx)(ρ:Cells)(s s':Shared)(hh:s'.heap=s.heap)(hg:s'.gens=s.gens)(ho:s'.os=s.os):Kept C ρ s ρ s':=
 ⟨fun a o U U U e=>hh▸e,fun a o U U U e=>⟨o,hh▸e,rfl⟩,fun a e=>hh▸e,.refl _ _,.of_eq hg,ho⟩
theorem Kept.rr{C:Cx}{ρ:Cells}{s s':Shared}(hh:s'.heap=s.heap)(hg:s'.gens=s.gens)(ho:s'.os=s.os):Kept C ρ s ρ s':=.refl _ _ _ _ hh hg ho
theorem aF.trans{h h':Heap}{ρ ρ':Cells}(al:∀a,(h.get? a).isSome→(h'.get? a).isSome)(x:aF h ρ ρ')(y:aF h' ρ' ρ''):aF h ρ ρ'':=by
 show aa x fun e1 r1 f1=>?_;show aa y fun e2 r2 f2=>?_;show cM (e1++e2) (by(erw[r2,r1];show aD rfl (append_assoc ..))) (fun a m=>?_);rw[cA,mem_append]at m
 rcases m with m|m
 ·show f1 a m
 ·cases q:h.get? a with
  |none=>rfl
  |some o=>have:=al a (by erw[q];rfl);replace this:=f2 a m▸this;right
theorem Kept.trans{C:Cx}{ρ ρ':Cells}{s:Shared}(x:Kept C ρ s ρ' s')(y:Kept C ρ' s' ρ'' lX):Kept C ρ s ρ'' lX:=
 ⟨fun a o n l m e=>y.keep a o (x.ext.out n e) l m (x.keep a o n l m e),fun a o m n l e=>by
  show aa (x.outs a o m n l e) fun o1 e1 d1=>?_;show aa (y.outs a o1 m (x.ext.out n e) l e1) fun o2 e2 d2=>?_
  show cM o2 e2 (d2.trans d1),fun a e=>y.alive a (x.alive a e),x.ext.trans x.alive y.ext,x.gens.trans y.gens,y.os.trans x.os⟩
theorem fN{h:Heap}{L a:Addr}{m:Str→Option Value}(F:h.Ns L m)(f:l7 o)(e:h.get? a=some o):a≠L:=by
 rintro rfl;show iQ F fun o' es ep ho hd hk U=>?_;replace ho:=e▸ho
 injection ho with z;subst z
 rcases f with⟨items,n,q⟩|⟨fL,n,q,hs⟩|⟨_,vs,q⟩
 ·replace hd:=q▸hd;right
 ·replace hd:=q▸hd
  injection hd with z w;subst z;subst w
  show hs hk
 ·replace hd:=q▸hd;right
theorem lJ{h:Heap}{a:Addr}{v:Option Value}(c:h.IsCell a v)(e:h.get? a=some o):¬ l7 o:=by
 show aa c fun o' ho hd=>?_;replace ho:=e▸ho
 injection ho with z;subst z
 rintro(⟨_,_,q⟩|⟨_,_,q,_⟩|⟨_,_,q⟩)<;>replace hd:=q▸hd<;>right
theorem aj{α:Type}{l:List (Str×α)}{x:Str}{a:α}(e:l.lookup x=some a):(x,a)∈l:=by
 induction l with
 |nil=>right
 |cons p r ih=>
  obtain⟨y,b⟩:=p;rw[lookup_cons]at e
  by_cases q:(x==y)=true
  ·replace e:=q▸e;obtain rfl:b=a:=Option.some.inj e;erw[eB q];show .head _
  ·rw[Bool.not_eq_true]at q;replace e:=q▸e;show .tail _ (ih e)
section
variable{B:Base}{C:Cx}{ρ ρ':Cells}{env:aQ}{σ:List LO}{h h':Heap}{s s':Shared}
theorem St.fy(S:St B C ρ env σ h){a:Addr}(f:l7 o)(e:h.get? a=some o):a∉C.own:=by
 intro m
 rcases mem_cons.mp m with q|q
 ·show aa S.ns fun m hm U=>?_;show fN hm f e q
 ·show aa (mem_map.mp q) ?_;rintro p hp rfl;show av (S.jm p hp) fun v hv=>?_;show lJ hv e f
theorem St.eU(S:St B C ρ env σ h){a:Addr}(m:a∈C.outs):a∉flat ρ∧(∃m,h.Ns a m)∧B.heap.get? a=none:=by
 show aa (mem_filterMap.mp m) fun e he q=>?_;show aA (S.dq e he) fun U hZ=>?_;show bY hZ fun L m2 y1 y2 y3 y4=>?_;replace q:=y1▸q
 injection q with z;subst z
 show⟨y2,⟨m2,y3⟩,y4⟩
theorem St.fz(S:St B C ρ env σ h){a:Addr}(f:l7 o)(e:h.get? a=some o):a∉C.outs:=fun m=>by show ju (S.eU m) ?_;rintro U ⟨m,hm⟩ U;show fN hm f e rfl
theorem Kept.FU(x:Kept C ρ s ρ' s')(S:St B C ρ env σ s.heap):bj ρ s.heap s'.heap:=fun a o n f e=>x.keep a o n (S.fy f e) (S.fz f e) e
theorem Kept.rep{v:Value}(x:Kept C ρ s ρ' s')(S:St B C ρ env σ s.heap)(r:Rep s.heap ρ lv v):Rep s'.heap ρ' lv v:=r.mono (x.FU S) x.ext
theorem Kept.gz{v:List Value}(x:Kept C ρ s ρ' s')(S:St B C ρ env σ s.heap)(r:bz s.heap ρ lv v):bz s'.heap ρ' lv v:=r.mono (x.FU S) x.ext
theorem hU.mono{o:Option LV}{v:Option Value}(fk:bj ρ h h')(ce:aF h ρ ρ')(q:hU h ρ o v):hU h' ρ' o v:=by
 induction o using Option.casesOn with
 |none=>show q
 |some lv=>(show aa q fun u e r=>?_);show⟨u,e,r.mono fk ce⟩
theorem kz.mono{w:World}{o:LO}{c:Addr×List Addr}(q:kz w h ρ o c)(k:∀a o,a∈c.1::c.2→h.get? a=some o→h'.get? a=some o)(fk:bj ρ h h')(ce:aF h ρ ρ'):kz w h' ρ' o c:=by
 induction o using LO.casesOn with
 |list l=>show aA q fun q1 hZ=>?_;show aa hZ fun vs r q3=>?_;show⟨q1,vs,r.at fun o ho=>k _ _ (.head _) ho,q3.mono fk ce⟩
 |set l=>show aA q fun q1 hZ=>?_;show aA hZ fun nd hZ=>?_;show aA hZ ?_;rintro⟨o,es,ep,t,ho,r⟩ hZ;show jv hZ fun o2 zY Kj t2 B8 r2=>?_;show⟨q1,nd,⟨o,es,ep,t,k _ _ (.head _) ho,r⟩,o2,zY,Kj,t2,k _ _ (.head _) B8,r2⟩
 |aV b=>show aA q fun q1 hZ=>?_;show aa hZ fun arr ho r=>?_;show⟨q1,arr,k _ _ (.head _) ho,r⟩
 |tab=>show aA q ?_;rintro rfl hZ;show aa hZ fun ps ho r=>?_;show⟨rfl,ps,k _ _ (.head _) ho,r⟩
 |inst C fs=>show bY q fun d m q1 ho hn r=>?_;show AB d m q1 (k _ _ (.head _) ho) ?_ (fun x=>(r x).mono fk ce);show sI hn fun od es ep hd r2=>?_;show I7 od es ep (k _ _ (by erw[q1];show .tail _ (.head _)) hd) r2
theorem uh.keeps{E:Env}{m:Str→Option Value}{x:Str}{v:Value}(k:∀a o,h.get? a=some o→h'.get? a=some o)(q:uh E m h x v):uh E m h' x v:=q.imp id fun q=>⟨q.1,q.2.imp fun c q=>⟨q.1,q.2.keeps k⟩⟩
theorem b8{i:Nat}{c:Addr×List Addr}{a:Addr}(e:ρ[i]? =some c)(m:a∈c.1::c.2):a∈flat ρ:=mem_flatMap.mpr ⟨c,mem_of_getElem? e,m⟩
theorem St.bh(S:St B C ρ env σ h)(k:∀a o,h.get? a=some o→h'.get? a=some o):St B C ρ env σ h':=by
 have fk:bj ρ h h':=fun a o U U e=>k a o e;have ce:aF h ρ ρ:=.refl _ _;show aa S.ns fun m hm hv=>?_;show⟨⟨m,hm.keeps k,fun x lv e=>?_⟩,fun p hp=>?_,S.apart,S.ow,fun a o e=>k a o (S.base a o e),fun e he=>?_,fun a ha=>?_,S.nd,S.len,fun i o c hi hc=>(S.iR i o c hi hc).mono (fun a o U e=>k a o e) fk ce⟩
 ·show aa (hv x lv e) fun v e1 e2=>?_;show cM v (e1.keeps k) (e2.mono fk ce)
 ·show av (S.jm p hp) fun v q=>?_;show⟨v,q.keeps k⟩
 ·show aA (S.dq e he) fun q hZ=>?_;show bY hZ fun L m a b c d=>?_;show⟨q,L,m,a,b,c.keeps k,d⟩
 ·show aA (S.out a ha) fun a1 a2=>?_;show av (iA a2) fun o ho=>?_;show⟨a1,by erw[k a o ho];rfl⟩
theorem aR(k:∀a o,s.heap.get? a=some o→s'.heap.get? a=some o)(hg:s'.gens=s.gens)(ho:s'.os=s.os):Kept C ρ s ρ s':=
 ⟨fun a o U U U e=>k a o e,fun a o U U U e=>⟨o,k a o e,rfl⟩,fun a e=>by(show av (iA e) fun o h=>?_);erw[k a o h];rfl,.refl _ _,.of_eq hg,ho⟩
theorem St.iS(S:St B C ρ env σ h){a:Addr}(x:Heap.ExtBut a h h')(na:a∉flat ρ)(no:a∉C.own)(nb:B.heap.get? a=none)(nf:∀o,h.get? a=some o→¬ l7 o)(nd:∀o,h.get? a=some o→∀es n,o.data≠.dict es n):St B C ρ env σ h':=by
 have fk:bj ρ h h':=fun b o n f e=>x b o (fun q=>nf o (q▸e) f) e;have ce:aF h ρ ρ:=.refl _ _;show aa S.ns fun m hm hv=>?_
 have zZ:∀{L m},h.Ns L m→h'.Ns L m:=fun{L m} q=>by show q.extBut x fun z=>?_;show gy q fun o es ep ho hd U=>?_;show nd o (z▸ho) es ep hd
 show⟨⟨m,zZ hm,fun y lv e=>?_⟩,fun p hp=>?_,S.apart,S.ow,fun b o e=>x b o (fun q=>?_) (S.base b o e),fun e he=>?_,fun b hb=>?_,S.nd,S.len,fun i o c hi hc=>(S.iR i o c hi hc).mono (fun b o hb e=>x b o (fun q=>na (q▸b8 hc hb)) e) fk ce⟩
 ·show aa (hv y lv e) fun v e1 e2=>?_;show cM v ?_ (e2.mono fk ce)
  rcases e1 with q|⟨q,c,y1,o,ho,hd⟩
  ·show .inl q
  ·show .inr ⟨q,c,y1,o,x _ _ (fun z=>no (z▸.tail _ (List.mem_map_of_mem (f:=(·.2)) (aj y1)))) ho,hd⟩
 ·show cj (S.jm p hp) fun v o ho hd=>?_;show nH v o (x _ _ (fun z=>no (z▸.tail _ (List.mem_map_of_mem (f:=(·.2)) hp))) ho) hd
 ·replace nb:=q.symm▸nb;replace nb:=e▸nb;right
 ·show aA (S.dq e he) fun q hZ=>?_;show bY hZ fun L mm y1 y2 y3 y4=>?_;show⟨q,L,mm,y1,y2,zZ y3,y4⟩
 ·show aA (S.out b hb) fun y1 y2=>?_;show av (iA y2) fun o ho=>?_;show⟨y1,by erw[x b o (fun q=>na (q▸hb)) ho];rfl⟩
theorem Kept.oZ{s₁:Shared}(K:Kept C ρ s ρ' s₁){a:Addr}(x:Heap.ExtBut a s₁.heap h')(hn:s.heap.get? a=none)(hh:s'.heap=h')(hg:s'.gens=s₁.gens)(ho:s'.os=s₁.os):Kept C ρ s ρ' s':=by
 subst hh;show⟨fun b o n l m e=>x b o (fun q=>by(replace hn:=q.symm▸hn;replace hn:=e▸hn);right) (K.keep b o n l m e),fun b o m n l e=>?_,fun b e=>?_,K.ext,K.gens.trans (.of_eq hg),ho.trans K.os⟩
 ·show aa (K.outs b o m n l e) fun o1 e1 d1=>?_;show cM o1 (x b o1 (fun q=>by(replace hn:=q.symm▸hn;replace hn:=e▸hn);right) e1) d1
 show av (iA (K.alive b e)) fun o ho=>?_
 (erw[x b o (fun q=>by(replace e:=q▸e;replace e:=hn▸e);right) ho]);rfl
theorem bo(h:Heap):h.get? h.objs.size=none:=by
 cases q:h.get? h.objs.size with
 |none=>rfl
 |some o=>show absurd (Heap.lt_size q) (Nat.lt_irrefl _)
theorem aC(h:Heap)(o:Obj):∀a x,h.get? a=some x→(h.push o).get? a=some x:=fun U U e=>n5 _ e
theorem St.fresh(S:St B C ρ env σ h):h.objs.size∉flat ρ:=fun m=>by have:=(S.out _ m).2;rw[bo]at this;right
theorem St.ek(S:St B C ρ env σ h):h.objs.size∉C.own:=fun m=>by
 rcases mem_cons.mp m with q|q
 ·show aa S.ns fun m hm U=>?_;have:=hm.lt;replace this:=q.symm▸this;show Nat.lt_irrefl _ this
 ·show aa (mem_map.mp q) fun p hp e=>?_;show cj (S.jm p hp) fun v o ho U=>?_;replace ho:=e▸ho;rw[bo]at ho;right
theorem St.eC(S:St B C ρ env σ h):h.objs.size∉C.outs:=fun m=>by show ju (S.eU m) ?_;rintro U ⟨m,hm⟩ U;show absurd hm.lt (Nat.lt_irrefl _)
theorem dc(S:St B C ρ env σ h):B.heap.get? h.objs.size=none:=by
 cases q:B.heap.get? h.objs.size with
 |none=>rfl
 |some o=>have:=S.base _ _ q;rw[bo]at this;right
theorem St.fA(S:St B C ρ env σ h){x:Obj}(hx:x.isFreed=false)(ro:kz B.w (h.push x) (ρ++[(h.objs.size,[])]) o (h.objs.size,[])):
  St B C (ρ++[(h.objs.size,[])]) env (σ++[o]) (h.push x):=by
 have k:=aC h x;have fk:bj ρ h (h.push x):=fun a o U U e=>k a o e
 have ce:aF h ρ (ρ++[(h.objs.size,[])]):=⟨_,rfl,fun a m=>by
  obtain rfl:a=h.objs.size:=by simpa[flat]using m
  show bo h⟩
 have fl:∀a,a∈flat (ρ++[(h.objs.size,[])])↔a∈flat ρ∨a=h.objs.size:=fun a=>by erw[cA ..];simp[flat]
 show aa S.ns fun m hm hv=>?_;show⟨⟨m,hm.keeps k,fun x lv e=>?_⟩,fun p hp=>?_,S.apart,fun a ha=>⟨(S.ow a ha).1,?_⟩,fun a o e=>k a o (S.base a o e),fun e he=>?_,fun a ha=>?_,?_,by simp[S.len],fun i o' c hi hc=>?_⟩
 ·show aa (hv x lv e) fun v e1 e2=>?_;show cM v (e1.keeps k) (e2.mono fk ce)
 ·show av (S.jm p hp) fun v q=>?_;show⟨v,q.keeps k⟩
 ·rw[fl];rintro(q|rfl)
  ·show(S.ow a ha).2 q
  ·show S.ek ha
 ·show aA (S.dq e he) fun q hZ=>?_;show bY hZ fun L m a b c d=>?_;show⟨q,L,m,a,?_,c.keeps k,d⟩;rw[fl];rintro(q|q)
  ·show b q
  ·have:=c.lt;replace this:=q▸this;show Nat.lt_irrefl _ this
 ·rcases(fl a).mp ha with q|rfl
  ·show aA (S.out a q) fun a1 a2=>?_;show av (iA a2) fun o ho=>?_;show⟨a1,by erw[k a o ho];rfl⟩
  ·show⟨dc S,by erw[gh _ hx];rfl⟩
 ·erw[cA ..];show nodup_append.mpr ⟨S.nd,by simp[flat],fun a ha b hb e=>?_⟩;subst e
  obtain rfl:a=h.objs.size:=by simpa[flat]using hb
  show S.fresh ha
 ·by_cases q:i<σ.length
  ·replace hi:=(getElem?_append_left q)▸hi;replace hc:=(getElem?_append_left (S.len▸q))▸hc;show(S.iR i o' c hi hc).mono (fun a o U e=>k a o e) fk ce
  ·have hl:i=σ.length:=by have:=(dU hi).1;simp at this;ac_rfl
   subst hl;replace hi:=(getElem?_append_right (Nat.le_refl _))▸hi;replace hc:=(getElem?_append_right (by erw[S.len];show Nat.le_refl _))▸hc;replace hc:=S.len▸hc;simp at hi hc;subst hi hc;show ro
theorem cU{x:Obj}{s':Shared}(hh:s'.heap=s.heap.push x)(hg:s'.gens=s.gens)(ho:s'.os=s.os):Kept C ρ s (ρ++[(s.heap.objs.size,[])]) s':=
 ⟨fun a o U U U e=>by erw[hh];show aC _ _ a o e,fun a o U U U e=>⟨o,by erw[hh];show aC _ _ a o e,rfl⟩,fun a e=>by(show av (iA e) fun o h=>?_);erw[hh,aC _ _ a o h];rfl,
  ⟨_,rfl,fun a m=>by
   obtain rfl:a=s.heap.objs.size:=by simpa[flat]using m
   show bo s.heap⟩,.of_eq hg,ho⟩
theorem St.kA(S:St B C ρ env σ h){i:Nat}{c:Addr×List Addr}{z0:Addr}(hc:ρ[i]? =some c)(Fp:z0∈c.1::c.2)(hs:Heap.SameBut z0 h h')(al:(h'.get? z0).isSome)(ro:kz B.w h' ρ o c):
  St B C ρ env (σ.set i o) h':=by
 have Iq:z0∈flat ρ:=b8 hc Fp;have k:∀a o,a≠z0→h.get? a=some o→h'.get? a=some o:=fun a o n e=>(hs.2 a n).trans e;have fk:bj ρ h h':=fun a o n U e=>k a o (fun q=>n (q▸Iq)) e;have ce:aF h ρ ρ:=.refl _ _;have ko:∀a,a∈C.own→a≠z0:=fun a ha q=>(S.ow a ha).2 (q▸Iq);show aa S.ns fun m hm hv=>?_;show⟨⟨m,hm.sameBut hs (ko _ (.head _)),fun x lv e=>?_⟩,fun p hp=>?_,S.apart,S.ow,fun a o e=>k a o (fun q=>?_) (S.base a o e),fun e he=>?_,fun a ha=>?_,S.nd,by simp[S.len],fun j o' c' hj Hj=>?_⟩
 ·show aa (hv x lv e) fun v e1 e2=>?_;show cM v ?_ (e2.mono fk ce)
  rcases e1 with q|⟨q,cc,a,b⟩
  ·show .inl q
  ·show aa b fun oc wZ hd=>?_;show .inr ⟨q,cc,a,oc,k _ _ (ko _ (.tail _ (List.mem_map_of_mem (f:=(·.2)) (aj a)))) wZ,hd⟩
 ·show cj (S.jm p hp) fun v oc wZ hd=>?_;show nH v oc (k _ _ (ko _ (.tail _ (List.mem_map_of_mem (f:=(·.2)) hp))) wZ) hd
 ·have:=(S.out _ Iq).1;replace this:=q.symm▸this;replace this:=e▸this;right
 ·show aA (S.dq e he) fun q hZ=>?_;show bY hZ fun L m a b c' d=>?_;show⟨q,L,m,a,b,c'.sameBut hs (fun z=>b (z▸Iq)),d⟩
 ·show aA (S.out a ha) fun a1 a2=>?_;show⟨a1,?_⟩
  by_cases q:a=z0
  ·erw[q];show al
  ·erw[hs.2 a q];show a2
 ·by_cases q:i=j
  ·subst q;replace Hj:=hc▸Hj
   injection Hj with z;subst z
   replace hj:=(getElem?_set_self (by have:=(dU hc).1;show bD ?_ S.len;show this))▸hj
   injection hj with z;subst z
   show ro
  ·replace hj:=(getElem?_set_ne q)▸hj;show(S.iR j o' c' hj Hj).mono (fun a o ha e=>k a o (fun z=>?_) e) fk ce;subst z;have nd:=S.nd;have Fq:=pairwise_flatMap.mp nd;have h1:=(dU hc);have h2:=(dU Hj);show av h1 fun l1 e1=>?_;show av h2 fun l2 e2=>?_;have pw:=pairwise_iff_getElem.mp Fq.2
   rcases Nat.lt_or_gt_of_ne q with lt|gt
   ·have:=pw i j l1 l2 lt;replace this:=e1▸this;replace this:=e2▸this;show this _ Fp _ ha rfl
   ·have:=pw j i l2 l1 gt;replace this:=e1▸this;replace this:=e2▸this;show this _ ha _ Fp rfl
theorem St.jw(S:St B C ρ env σ h){i:Nat}{c:Addr×List Addr}(hc:ρ[i]? =some c)(hs:Heap.SameBut c.1 h h')(al:(h'.get? c.1).isSome)(NG:c.2=[])(ro:kz B.w h' ρ o c):
  St B C ρ env (σ.set i o) h':=S.kA hc (.head _) hs al ro
theorem dN{i:Nat}{c:Addr×List Addr}{z0:Addr}(hc:ρ[i]? =some c)(Fp:z0∈c.1::c.2)(hs:Heap.SameBut z0 s.heap s'.heap)(al:(s'.heap.get? z0).isSome)(hg:s'.gens=s.gens)(ho:s'.os=s.os):Kept C ρ s ρ s':=
 ⟨fun a o n U U e=>(hs.2 a (fun q=>n (q▸b8 hc Fp))).trans e,fun a o U n U e=>⟨o,(hs.2 a (fun q=>n (q▸b8 hc Fp))).trans e,rfl⟩,fun a e=>by
  by_cases q:a=z0
  ·erw[q];show al
  ·erw[hs.2 a q];show e,.refl _ _,.of_eq hg,ho⟩
theorem dH(S:St B C ρ env σ s.heap){i:Nat}{c:Addr×List Addr}(hc:ρ[i]? =some c)(hs:Heap.SameBut c.1 s.heap s'.heap)(al:(s'.heap.get? c.1).isSome)(hg:s'.gens=s.gens)(ho:s'.os=s.os):Kept C ρ s ρ s':=
 dN hc (.head _) hs al hg ho
structure EX where
 cls:Value
 args:List Str
 fst:Bool:=true
structure Sx where
 sc:Scope
 d:Nat
 hn:Bool:=true
 top:Bool:=true
 R:EX→aQ→List LO→Prop:=fun U U U=>False
 code:Option Value:=none
structure Sx.At(X:Sx)(C:Cx):Prop where
 sc:C.env.scope=X.sc
 d:C.dq.length≤X.d
 hn:X.hn=true→C.A.handled=none
 top:X.top=true→∃outer,C.dq=C.env::outer
 code:∀v,X.code=some v→C.env.code=v
def o6:List Value→List Str→Prop
 |[],[]=>True
 |v::r,x::l=>(∃t,v= .str x t)∧o6 r l
 |_,_=>False
theorem bQ{h h':Heap}(al:∀a,(h.get? a).isSome→(h'.get? a).isSome){a:Addr}(e:h'.get? a=none):h.get? a=none:=by
 cases q:h.get? a with
 |none=>rfl
 |some o=>have:=al a (by erw[q];rfl);replace this:=e▸this;right
set_option genCtorIdx true in
inductive Di where
 |new|up|here
def qF(s0:Shared)(e:Addr)(vs:Array Value)(h:Heap)(fl:Value):Prop:=
 ∃T ts,vs[1]? =some (.ref T)∧s0.heap.get? T=none∧T≠e∧h.get? T=some ⟨.type "traceback",none,.fields ts,#[]⟩∧3<ts.size∧ts[3]? =some fl
def Jo(fr:Option Addr)(s0:Shared)(e:Addr)(vs:Array Value)(h:Heap):Di→Prop
 | .new=>vs[1]? =some .none
 | .up=>qF s0 e vs h .none
 | .here=>∃L,fr=some L∧qF s0 e vs h (rawInt L)
def Dj(c:Value):Prop:=c≠.type "range"∧c≠.none
structure dj(fr:Option Addr)(s0:Shared)(e:Addr)(x:EX)(f:Di)(h:Heap):Prop where
 new:s0.heap.get? e=none
 nr:Dj x.cls
 obj:∃vs t args,h.get? e=some ⟨x.cls,none,.fields vs,#[]⟩∧vs.size=6∧(vs[0]? =some (.ref t)∧(x.fst=true→vs[2]? =some .none))∧s0.heap.get? t=none∧h.get? t=some {cls:=.type "tuple",data:=.seq args}∧o6 args.toList x.args∧Jo fr s0 e vs h f
def ExcAt(C:Cx)(s0:Shared)(e:Addr)(x:EX)(s:Shared):Prop:=∃f,dj C.env.frame s0 e x f s.heap
theorem qF.since{s0 s1:Shared}{e:Addr}{vs:Array Value}(X:qF s1 e vs h fl)(al:∀a,(s0.heap.get? a).isSome→(s1.heap.get? a).isSome):qF s0 e vs h fl:=by show bb X fun T ts d1 d2 d3=>?_;show xy T ts d1 (bQ al d2) d3
theorem dj.since{fr:Option Addr}{s0 s1:Shared}{e:Addr}{x:EX}{f:Di}(X:dj fr s1 e x f h)(al:∀a,(s0.heap.get? a).isSome→(s1.heap.get? a).isSome):dj fr s0 e x f h:=by
 show hide fun H_ o_=>?_;obtain⟨a,b,vs,t,args,c1,c2,c3,c4,c5,c6,c8⟩:=X;show o_ ?_;clear o_ H_;show⟨bQ al a,b,vs,t,args,c1,c2,c3,bQ al c4,c5,c6,?_⟩
 cases f with
 |new=>show c8
 |up=>show c8.since al
 |here=>(show aa c8 fun L q c8=>?_);show cM L q (c8.since al)
theorem ExcAt.since{s0 s1:Shared}{e:Addr}{x:EX}(X:ExcAt C s1 e x s)(al:∀a,(s0.heap.get? a).isSome→(s1.heap.get? a).isSome):ExcAt C s0 e x s:=
 let⟨f,q⟩:=X
 ⟨f,q.since al⟩
def Exc(B:Base)(X:Sx)(C:Cx)(ρ:Cells)(s:Shared)(E:VP):Prop:=
 ∀e x ae σ' ρ' s',X.R x ae σ'→Kept C ρ s ρ' s'→St B C ρ' ae σ' s'.heap→ExcAt C s e x s'→E (.ref e) s'
theorem Exc.since{X:Sx}{E:VP}(K:Kept C ρ s ρ' s')(q:Exc B X C ρ s E):Exc B X C ρ' s' E:=fun e x ae σ' ρ1 s1 r K1 S1 X1=>q e x ae σ' ρ1 s1 r (K.trans K1) S1 (X1.since K.alive)
noncomputable abbrev Sx.calm(X:Sx):Sx:={X with R:=fun U U U=>False}
theorem Sx.At.calm{X:Sx}(h:X.At C):X.calm.At C:=⟨h.sc,h.d,h.hn,h.top,h.code⟩
theorem Exc.none{X:Sx}{E:VP}(h:∀x env σ,¬ X.R x env σ):Exc B X C ρ s E:=fun e x ae σ' U U r=>(h x ae σ' r).elim
theorem Exc.calm{X:Sx}{E:VP}:Exc B X.calm C ρ s E:=.none fun U U U h=>h
end
variable {σ σ' σ0 σ1 σ2 : List LO} {env : aQ} {ρ ρ' : Cells} {h h' : Heap} {s s1 : Shared} {E Q : VP} {P : LV → List LO → Prop} {vs : List Value} {R : Result → Shared → Prop} {prog : Program} {w : World} {body : List Stmt} {x : Str} {A : Around} {v : Value} {l : List LV} {pos : Pos} {a : Addr} {es : List Expr} {tk : Tok}
variable {B : Base} {X : Sx} {C : Cx}
noncomputable def put(x:Str)(v:LV):aQ→aQ
 |[]=>[(x,v)]
 |(y,w)::r=>if y==x then(x,v)::r else(y,w)::put x v r
theorem aE(x:Str)(v:LV)(y:Str)(env:aQ):(put x v env).lookup y=if y==x then some v else env.lookup y:=by
 induction env with
 |nil=>erw[lookup_cons];cases y==x<;>rfl
 |cons p r ih=>
  obtain⟨z,w⟩:=p;show(?_:(if z==x then(x,v)::r else(z,w)::put x v r).lookup y=_)
  by_cases q:(z==x)=true
  ·erw[aJ q];obtain rfl:=eB q;erw[lookup_cons,lookup_cons];cases y==z<;>rfl
  ·erw[ax q,lookup_cons,lookup_cons,ih]
   by_cases p:(y==z)=true
   ·obtain rfl:=eB p;erw[p];simp only[Bool.not_eq_true]at q;erw[q];rfl
   ·rw[Bool.not_eq_true]at p;show aD rfl p
section
variable{s':Shared}
theorem iB{α:Type}{l:List (Str×α)}{p:Str×α}(m:p∈l):∃c,l.lookup p.1=some c:=by
 induction l with
 |nil=>right
 |cons y r ih=>
  erw[lookup_cons]
  by_cases q:(p.1==y.1)=true
  ·show⟨y.2,by(show aD rfl q)⟩
  ·rw[Bool.not_eq_true]at q;erw[q]
   rcases mem_cons.mp m with rfl|m
   ·simp at q
   ·show ih m
theorem St.vu(S:St B C ρ env σ h){m:Str→Option Value}(hm:h.Ns C.env.locals m)(hl:C.env.kindOf x=some .local)(hn:h'.Ns C.env.locals (fun y=>if y=x then some v else m y))(hs:Heap.SameBut C.env.locals h h')(r:Rep h ρ lv v):St B C ρ (put x lv env) σ h':=by
 have k:∀a o,a≠C.env.locals→h.get? a=some o→h'.get? a=some o:=fun a o n e=>(hs.2 a n).trans e;have fk:bj ρ h h':=fun a o n f e=>k a o (fun q=>S.fy f e (by erw[q];show .head _)) e;have ce:aF h ρ ρ:=.refl _ _;show aa S.ns fun m' B9 hv=>?_;have nf:∀a∈flat ρ,a≠C.env.locals:=fun a ha q=>(S.ow C.env.locals (.head _)).2 (q▸ha)
 have iM:∀{c vv},h.IsCell c vv→c≠C.env.locals:=fun{c vv} q z=>by
  show aa q fun o ho hd=>?_;show gy hm fun o' es ep eN du U=>?_;replace ho:=z▸ho;replace ho:=eN▸ho
  injection ho with z;subst z
  replace hd:=du▸hd;right
 have Kk:∀y,m' y=m y:=fun y=>by
  show iQ hm fun o1 kv Mh a1 b1 c1 d1=>?_;show iQ B9 fun o2 zY Kj a2 b2 c2 d2=>?_;replace a2:=a1▸a2
  injection a2 with z;subst z
  replace b2:=b1▸b2
  injection b2 with z w;subst z;subst w
  show bD ?_ (d1 ..);show bD rfl (d2 ..)
 show⟨⟨_,hn,fun y ly e=>?_⟩,fun p hp=>?_,S.apart,S.ow,fun a o e=>k a o (fun q=>?_) (S.base a o e),fun e he=>?_,fun a ha=>⟨(S.out a ha).1,?_⟩,S.nd,S.len,
  fun i o c hi hc=>(S.iR i o c hi hc).mono (fun a o ha e=>k a o (nf a (b8 hc ha)) e) fk ce⟩
 ·rw[aE]at e
  by_cases q:(y==x)=true
  ·replace e:=aJ q▸e;obtain rfl:=eB q
   injection e with z;subst z
   show cM v (.inl ⟨hl,by show aJ rfl⟩) (r.mono fk ce)
  ·replace e:=ax q▸e;show aa (hv y ly e) fun u e1 e2=>?_;show⟨u,?_,e2.mono fk ce⟩
   rcases e1 with⟨a,b⟩|⟨a,c,b,d⟩
   ·show .inl ⟨a,?_⟩;have:y≠x:=fun z=>q (by erw[z];show beq_self_eq_true _);show(?_:(if y=x then some v else m y)=some u)
    (erw[ax this];show bD ?_ (Kk ..));show b
   ·show aa (id d) fun o ho hd=>?_;show .inr ⟨a,c,b,o,k _ _ (iM d) ho,hd⟩
 ·show av (S.jm p hp) fun u d=>?_;show aa (id d) fun o ho hd=>?_;show nH u o (k _ _ (iM d) ho) hd
 ·have:=(S.ow C.env.locals (.head _)).1;replace this:=q.symm▸this;replace this:=e▸this;right
 ·show aA (S.dq e he) fun q hZ=>?_;show bY hZ fun L mm a b c' d=>?_
  by_cases z:L=C.env.locals
  ·show⟨q,L,_,a,b,z▸hn,d⟩
  ·show⟨q,L,mm,a,b,c'.sameBut hs z,d⟩
 ·erw[hs.2 a (nf a ha)];show(S.out a ha).2
theorem jx(m:a∈C.own)(hs:Heap.SameBut a s.heap s'.heap)(al:(s'.heap.get? a).isSome)(hg:s'.gens=s.gens)(ho:s'.os=s.os):Kept C ρ s ρ s':=
 ⟨fun b o U n U e=>(hs.2 b (fun q=>n (q▸m))).trans e,fun b o U U n e=>⟨o,(hs.2 b (fun q=>n (q▸m))).trans e,rfl⟩,fun b e=>by
  by_cases q:b=a
  ·erw[q];show al
  ·erw[hs.2 b q];show e,.refl _ _,.of_eq hg,ho⟩
theorem St.qG(S:St B C ρ env σ h){c:Addr}(hl:C.env.kindOf x=some .cell)(hc:C.env.cells.lookup x=some c)(hn:h'.IsCell c (some v))(hs:Heap.SameBut c h h')(r:Rep h ρ lv v):St B C ρ (put x lv env) σ h':=by
 have mc:(x,c)∈C.env.cells:=aj hc;have mo:c∈C.own:=.tail _ (List.mem_map_of_mem (f:=(·.2)) mc);have k:∀a o,a≠c→h.get? a=some o→h'.get? a=some o:=fun a o n e=>(hs.2 a n).trans e;have fk:bj ρ h h':=fun a o n f e=>k a o (fun q=>S.fy f e (q▸mo)) e;have ce:aF h ρ ρ:=.refl _ _;show aa S.ns fun m hm hv=>?_;show av (S.jm _ mc) fun u0 d0=>?_;have nf:∀a∈flat ρ,a≠c:=fun a ha q=>(S.ow c mo).2 (q▸ha)
 have hL:∀{L mm},h.Ns L mm→L≠c:=fun{L mm} q z=>by
  show aa d0 fun o ho hd=>?_;show gy q fun o' es ep eN du U=>?_;replace eN:=z▸eN;replace eN:=ho▸eN
  injection eN with z;subst z
  replace hd:=du▸hd;right
 have other:∀p∈C.env.cells,p.1≠x→p.2≠c:=by
  intro p hp jn he;have pw:=S.apart
  rcases mem_iff_getElem.mp hp with⟨i,hi,ei⟩
  rcases mem_iff_getElem.mp mc with⟨j,hj,ej⟩
  have Fq:i≠j:=fun q=>by subst q;replace ej:=ei▸ej;replace jn:=ej▸jn;show jn rfl
  have pw:=pairwise_iff_getElem.mp pw
  rcases Nat.lt_or_gt_of_ne Fq with lt|gt
  ·have:=pw i j hi hj lt;replace this:=ei▸this;replace this:=ej▸this;show this he
  ·have:=pw j i hj hi gt;replace this:=ei▸this;replace this:=ej▸this;show this he.symm
 show⟨⟨m,hm.sameBut hs (hL hm),fun y ly e=>?_⟩,fun p hp=>?_,S.apart,S.ow,fun a o e=>k a o (fun q=>?_) (S.base a o e),fun e he=>?_,fun a ha=>⟨(S.out a ha).1,?_⟩,S.nd,S.len,
  fun i o cc hi Mi=>(S.iR i o cc hi Mi).mono (fun a o ha e=>k a o (nf a (b8 Mi ha)) e) fk ce⟩
 ·rw[aE]at e
  by_cases q:(y==x)=true
  ·replace e:=aJ q▸e;obtain rfl:=eB q
   injection e with z;subst z
   show cM v (.inr ⟨.inl hl,c,hc,hn⟩) (r.mono fk ce)
  ·replace e:=ax q▸e;show aa (hv y ly e) fun u e1 e2=>?_;show cM u ?_ (e2.mono fk ce)
   rcases e1 with z|⟨a,c',b,d⟩
   ·show .inl z
   ·show aa (id d) fun o ho hd=>?_;have jn:c'≠c:=other (y,c') (aj b) (fun z:y=x=>q (by erw[z];show beq_self_eq_true _));show .inr ⟨a,c',b,o,k _ _ jn ho,hd⟩
 ·by_cases z:p.2=c
  ·show⟨_,z▸hn⟩
  ·show cj (S.jm p hp) fun u o ho hd=>?_;show nH u o (k _ _ z ho) hd
 ·have:=(S.ow c mo).1;replace this:=q.symm▸this;replace this:=e▸this;right
 ·show aA (S.dq e he) fun q hZ=>?_;show bY hZ fun L mm a b c' d=>?_;show⟨q,L,mm,a,b,c'.sameBut hs (hL c'),d⟩
 ·erw[hs.2 a (nf a ha)];show(S.out a ha).2
structure bC(C:Cx):Prop extends C.Ok where
 cells:∀x,C.env.kindOf x=some .cell→∃c,C.env.cells.lookup x=some c
theorem Ns.alive{L:Addr}{m:Str→Option Value}(q:h.Ns L m):(h.get? L).isSome:=by
 obtain⟨o,_,_,ho,_⟩:=q;erw[ho];rfl
theorem IsCell.alive{L:Addr}{m:Option Value}(q:h.IsCell L m):(h.get? L).isSome:=let⟨o,ho,_⟩:=q;by erw[ho];rfl
theorem dk{Q:sF}(O:bC C)(S:St B C ρ env σ s.heap)(hk:C.env.kindOf x=some .local∨C.env.kindOf x=some .cell)(r:Rep s.heap ρ lv v)(h:∀s',Kept C ρ s ρ s'→St B C ρ (put x lv env) σ s'.heap→Q () s'):wpAny M C.A (storeName C.env x v) Q E s:=by
 have hp:(C.env.scope.kind== .class||(C.env.scope.kind== .module&&C.env.locals !=C.env.globals))=false:=by erw[O.kind];rfl
 rcases hk with hk|hk
 ·show aa S.ns fun m hm hv=>?_;show wpAny_storeName_local hk hm (fun h' hn hs=>?_) hp;show h {s with heap:=h',toks:=s.toks+1} (jx (.head _) hs (Ns.alive hn) rfl rfl) (S.vu hm hk hn hs r)
 ·show av (O.cells x hk) fun c hc=>?_;show av (S.jm _ (aj hc)) fun u hu=>?_;show wpAny_storeName_cell O.kind hk hc hu (fun h' hn hs=>?_);show h {s with heap:=h'} (jx (.tail _ (List.mem_map_of_mem (f:=(·.2)) (aj hc))) hs (IsCell.alive hn) rfl rfl) (S.qG hk hc hn hs r)
end
noncomputable def bK(t:Value→Value→Sem Value):List Value→Sem Value
 |[x,y]=>t x y
 |_=>.unsupported ""
def aS(B:Base)(sc:Sx)(env:aQ)(σ:List LO)(e:Expr)(P:kr):Prop:=
 ∀(C:Cx),bC C→sc.At C→∀(ρ:Cells) (s:Shared) (E:VP) (Q:VP),St B C ρ env σ s.heap→Exc B sc C ρ s E→
  (∀r σ' v ρ' s',P r σ'→Kept C ρ s ρ' s'→St B C ρ' env σ' s'.heap→Rep s'.heap ρ' r v→Q v s')→wpAny B.M C.A (eval e C.env) Q E s
def aM(B:Base)(sc:Sx)(env:aQ)(σ:List LO)(as:List LV)(t:List Value→Sem Value)(P:kr):Prop:=
 ∀(C:Cx),bC C→sc.At C→∀(ρ:Cells) (s:Shared) (E:VP) (Q:VP) (vs:List Value),St B C ρ env σ s.heap→Exc B sc C ρ s E→bz s.heap ρ as vs→
  (∀r σ' v ρ' s',P r σ'→Kept C ρ s ρ' s'→St B C ρ' env σ' s'.heap→Rep s'.heap ρ' r v→Q v s')→wpAny B.M C.A (t vs) Q E s
section
variable{sc:Sx}
theorem aS.int{i:Int}{k:Nat}(h:P (.int i) σ):aS B sc env σ (.Constant (.int i) k p) P:=
 fun C O hs ρ s E Q S qe q=>wpAny_Constant_int (q _ _ _ ρ {s with toks:=s.toks+1} h (.rr rfl rfl rfl) S ⟨_,rfl⟩)
theorem aS.str{k:Nat}(h:P (.str i) σ):aS B sc env σ (.Constant (.str i) k p) P:=
 fun C O hs ρ s E Q S qe q=>wpAny_Constant_str (q _ _ _ ρ {s with toks:=s.toks+1} h (.rr rfl rfl rfl) S ⟨_,rfl⟩)
theorem aS.bool{i:Bool}{k:Nat}(h:P (.bool i) σ):aS B sc env σ (.Constant (.bool i) k p) P:=
 fun C O hs ρ s E Q S qe q=>wpAny_Constant_bool (q _ _ _ ρ s h (.rr rfl rfl rfl) S rfl)
theorem aS.Cs{k:Nat}(h:P .none σ):aS B sc env σ (.Constant .none k p) P:=
 fun C O hs ρ s E Q S qe q=>wpAny_Constant_none (q _ _ _ ρ s h (.rr rfl rfl rfl) S rfl)
theorem aS.bytes{b:List UInt8}{k:Nat}(h:P (.bytes (b.map fun c=>(c.toNat:Int))) σ):aS B sc env σ (.Constant (.bytes b) k p) P:=
 fun C O hs ρ s E Q S qe q=>Constant_bytes (q _ _ _ ρ {s with toks:=s.toks+1} h (.rr rfl rfl rfl) S ⟨_,_,rfl,rfl⟩)
theorem aS.var(e:env.lookup x=some lv)(h:P lv σ)(hd:(x==("__debug__":Str))=false:=by left)(hn:(x==("__classdict__":Str))=false:=by left):
  aS B sc env σ (.Name x p) P:=fun C O hs ρ s E Q S qe q=>by
 show aa S.ns fun m hm hv=>?_;show aa (hv x lv e) fun v a r=>?_;show wpAny_Name ?_ hd;have fin:=q _ _ _ ρ s h (.rr rfl rfl rfl) S r
 rcases a with⟨k,mv⟩|⟨k|k,c,hc,d⟩
 ·show wpAny_loadName_local O.kind k hm mv fin
 ·show wpAny_loadName_cell O.kind k hc d fin
 ·show wpAny_loadName_free O.kind k hc d fin hn
theorem aS.bin{l:Expr}(h:aS B sc env σ l fun a σ1=>aS B sc env σ1 r fun b σ2=>aM B sc env σ2 [a,b] (bK (binaryOp op)) P):
  aS B sc env σ (.BinOp l op r p) P:=fun C O hs ρ s E Q S qe q=>by
 show wpAny_BinOp (h C O hs ρ s E _ S qe fun a σ1 va ρ1 s1 h1 K1 S1 R1=>h1 C O hs ρ1 s1 E _ S1 (qe.since K1) fun b σ2 vb ρ2 s2 h2 K2 S2 R2=>?_);show h2 C O hs ρ2 s2 E Q [va,vb] S2 (qe.since (K1.trans K2)) ⟨va,[vb],rfl,K2.rep S1 R1,vb,[],rfl,R2,rfl⟩ fun r σ' v ρ' s' p' K' S' R'=>q r σ' v ρ' s' p' ((K1.trans K2).trans K') S' R'
def gv(B:Base)(sc:Sx)(env:aQ)(σ:List LO)(e:Expr)(P:Bool→List LO→Prop):Prop:=
 ∀(C:Cx),bC C→sc.At C→∀(ρ:Cells) (s:Shared) (E:VP) (Q:Bool→Shared→Prop),St B C ρ env σ s.heap→Exc B sc C ρ s E→
  (∀r σ' ρ' s',P r σ'→Kept C ρ s ρ' s'→St B C ρ' env σ' s'.heap→Q r s')→wpAny B.M C.A (isTrue e C.env (eval e C.env)) Q E s
def AllP(B:Base)(sc:Sx)(env:aQ)(σ:List LO)(op:BoolOp)(es:List Expr)(P:Bool→List LO→Prop):Prop:=
 ∀(C:Cx),bC C→sc.At C→∀(ρ:Cells) (s:Shared) (E:VP) (Q:Bool→Shared→Prop),St B C ρ env σ s.heap→Exc B sc C ρ s E→
  (∀r σ' ρ' s',P r σ'→Kept C ρ s ρ' s'→St B C ρ' env σ' s'.heap→Q r s')→wpAny B.M C.A (allTrue op es C.env) Q E s
def nM(B:Base)(env:aQ)(σ:List LO)(a:LV)(P:Bool→List LO→Prop):Prop:=
 ∀(C:Cx),bC C→∀(ρ:Cells) (s:Shared) (E:VP) (Q:Bool→Shared→Prop) (v:Value),St B C ρ env σ s.heap→Rep s.heap ρ a v→
  (∀r σ' ρ' s',P r σ'→Kept C ρ s ρ' s'→St B C ρ' env σ' s'.heap→Q r s')→wpAny B.M C.A (truthy v) Q E s
section
variable{PB:Bool→List LO→Prop}
theorem nM.bool{b:Bool}(h:PB b σ):nM B env σ (.bool b) PB:=fun C O ρ s E Q v S r q=>by obtain rfl:=r;show wpAny_truthy_bool (q _ _ ρ s h (.rr rfl rfl rfl) S)
theorem gv.not{x:Expr}(h:gv B sc env σ x fun b σ'=>PB (!b) σ'):gv B sc env σ (.UnaryOp .Not x p) PB:=fun C O hs ρ s E Q S qe q=>
 wpAny_isTrue_Not (h C O hs ρ s E _ S qe fun r σ' ρ' s' p' K' S'=>q _ _ _ _ p' K' S')
theorem gv.cmp{l:Expr}(h:aS B sc env σ l fun a σ1=>aS B sc env σ1 r fun b σ2=>aM B sc env σ2 [a,b] (bK (compareOp op)) fun c σ3=>∃t,c= .bool t∧PB t σ3)(hm:behindInMarks op r=false:=by with_unfolding_all rfl):gv B sc env σ (.Compare l [op] [r] p) PB:=fun C O hs ρ s E Q S qe q=>by show wpAny_isTrue_Compare1 (h C O hs ρ s E _ S qe fun a σ1 va ρ1 s1 h1 K1 S1 R1=>h1 C O hs ρ1 s1 E _ S1 (qe.since K1) fun b σ2 vb ρ2 s2 h2 K2 S2 R2=>?_) hm;show h2 C O hs ρ2 s2 E _ [va,vb] S2 (qe.since (K1.trans K2)) ⟨va,[vb],rfl,K2.rep S1 R1,vb,[],rfl,R2,rfl⟩ fun r σ' v ρ' s' p' K' S' R'=>?_;show aa p' ?_;rintro t rfl pt;obtain rfl:=R';show wpAny_truthy_bool (q _ _ _ _ pt ((K1.trans K2).trans K') S')
theorem aS.cmp{l:Expr}(h:aS B sc env σ l fun a σ1=>aS B sc env σ1 r fun b σ2=>aM B sc env σ2 [a,b] (bK (compareOp op)) P)(hm:behindInMarks op r=false:=by with_unfolding_all rfl):aS B sc env σ (.Compare l [op] [r] p) P:=fun C O hs ρ s E Q S qe q=>by show wpAny_Compare1 (h C O hs ρ s E _ S qe fun a σ1 va ρ1 s1 h1 K1 S1 R1=>h1 C O hs ρ1 s1 E _ S1 (qe.since K1) fun b σ2 vb ρ2 s2 h2 K2 S2 R2=>?_) hm;show h2 C O hs ρ2 s2 E _ [va,vb] S2 (qe.since (K1.trans K2)) ⟨va,[vb],rfl,K2.rep S1 R1,vb,[],rfl,R2,rfl⟩ fun r σ' v ρ' s' p' K' S' R'=>q _ _ _ _ _ p' ((K1.trans K2).trans K') S' R'
theorem gv.val{e:Expr}(h:aS B sc env σ e fun a σ1=>nM B env σ1 a PB)(he:∀ae whole,isTrue e ae whole=(do let v←whole;standAt e.pos;holding [v] (truthy v)):=by intro U U;rfl):gv B sc env σ e PB:=fun C O hs ρ s E Q S qe q=>
 wpAny_isTrue_value (h C O hs ρ s E _ S qe fun a σ1 va ρ1 s1 h1 K1 S1 R1=>h1 C O ρ1 s1 E Q va S1 R1 fun r σ' ρ' s' p' K' S'=>q _ _ _ _ p' (K1.trans K') S') (he _ _)
theorem gv.ops{op:BoolOp}(h:AllP B sc env σ op es PB):gv B sc env σ (.BoolOp op es p) PB:=fun C O hs ρ s E Q S qe q=>wpAny_isTrue_BoolOp (h C O hs ρ s E Q S qe q)
theorem AllP.and_nil(h:PB true σ):AllP B sc env σ .And [] PB:=fun C O hs ρ s E Q S qe q=>wpAny_allTrue_And_nil (q _ _ ρ s h (.rr rfl rfl rfl) S)
theorem AllP.or_nil(h:PB false σ):AllP B sc env σ .Or [] PB:=fun C O hs ρ s E Q S qe q=>wpAny_allTrue_Or_nil (q _ _ ρ s h (.rr rfl rfl rfl) S)
theorem AllP.and_cons{x:Expr}(h:gv B sc env σ x fun b σ1=>(b=false→PB false σ1)∧(b=true→AllP B sc env σ1 .And r PB)):AllP B sc env σ .And (x::r) PB:=fun C O hs ρ s E Q S qe q=>by
 show wpAny_allTrue_And_cons (h C O hs ρ s E _ S qe fun b σ1 ρ1 s1 h1 K1 S1=>?_);cases b
 ·show q _ _ _ _ (h1.1 rfl) K1 S1
 ·show h1.2 rfl C O hs ρ1 s1 E Q S1 (qe.since K1) fun r σ' ρ' s' p' K' S'=>q _ _ _ _ p' (K1.trans K') S'
theorem AllP.or_cons{x:Expr}(h:gv B sc env σ x fun b σ1=>(b=true→PB true σ1)∧(b=false→AllP B sc env σ1 .Or r PB)):AllP B sc env σ .Or (x::r) PB:=fun C O hs ρ s E Q S qe q=>by
 show wpAny_allTrue_Or_cons (h C O hs ρ s E _ S qe fun b σ1 ρ1 s1 h1 K1 S1=>?_);cases b
 ·show h1.2 rfl C O hs ρ1 s1 E Q S1 (qe.since K1) fun r σ' ρ' s' p' K' S'=>q _ _ _ _ p' (K1.trans K') S'
 ·show q _ _ _ _ (h1.1 rfl) K1 S1
theorem aS.ite(h:gv B sc env σ t fun c σ1=>(c=true→aS B sc env σ1 b P)∧(c=false→aS B sc env σ1 o P)):aS B sc env σ (.IfExp t b o p) P:=fun C O hs ρ s E Q S qe q=>by
 show wpAny_IfExp (h C O hs ρ s E _ S qe fun c σ1 ρ1 s1 h1 K1 S1=>?_);cases c
 ·show h1.2 rfl C O hs ρ1 s1 E Q S1 (qe.since K1) fun r σ' v ρ' s' p' K' S' R'=>q _ _ _ _ _ p' (K1.trans K') S' R'
 ·show h1.1 rfl C O hs ρ1 s1 E Q S1 (qe.since K1) fun r σ' v ρ' s' p' K' S' R'=>q _ _ _ _ _ p' (K1.trans K') S' R'
end
def lR(B:Base)(sc:Sx)(env:aQ)(σ:List LO)(es:List Expr)(P:List LV→List LO→Prop):Prop:=
 ∀(C:Cx),bC C→sc.At C→∀(ρ:Cells) (s:Shared) (E:VP) (Q:List Value→Shared→Prop) (pos:Pos),St B C ρ env σ s.heap→Exc B sc C ρ s E→
  (∀rs σ' vs ρ' s',P rs σ'→Kept C ρ s ρ' s'→St B C ρ' env σ' s'.heap→bz s'.heap ρ' rs vs→Q vs s')→wpAny B.M C.A (spliced (backTo pos (starEach es C.env))) Q E s
theorem bz.nil:bz h ρ [] []:=by rfl
theorem bz.cons{x:LV}(a:Rep h ρ x v)(b:bz h ρ l vs):bz h ρ (x::l) (v::vs):=by show⟨v,vs,rfl,a,b⟩
theorem bz.length:∀{l:List LV} {vs:List Value},bz h ρ l vs→vs.length=l.length
 |[],_,r=>by have r:_=[]:=r;subst r;rfl
 |_::_,_,r=>by show bb r ?_;rintro v vs rfl U b;simp[b.length]
theorem lR.nil{PL:List LV→List LO→Prop}(h:PL [] σ):lR B sc env σ [] PL:=fun C O hs ρ s E Q pos S qe q=>args_nil (q _ _ _ ρ s h (.rr rfl rfl rfl) S .nil)
theorem lR.cons{PL:List LV→List LO→Prop}(h:aS B sc env σ e fun a σ1=>lR B sc env σ1 r fun as σ2=>PL (a::as) σ2)(he:∀ae,starEach (e::r) ae=(false,eval e ae)::starEach r ae:=by intro U;rfl):lR B sc env σ (e::r) PL:=fun C O hs ρ s E Q pos S qe q=>by show args_cons (h C O hs ρ s E _ S qe fun a σ1 va ρ1 s1 h1 K1 S1 R1=>?_) (he _);show h1 C O hs ρ1 s1 E _ pos S1 (qe.since K1) fun rs σ' vs ρ' s' p' K' S' R'=>q _ _ _ _ _ p' (K1.trans K') S' (.cons (K'.rep S1 R1) R')
theorem St.vw(S:St B C ρ env σ h)(r:bz h ρ rs vs):
  Rep (h.push {cls:=.type "tuple",data:=.seq vs.toArray}) ρ (.tup rs) (.ref h.objs.size):=by
 show AB _ vs rfl S.fresh ⟨_,gh _ rfl,rfl,_,rfl⟩ (r.mono (fun a o U U e=>aC _ _ a o e) (.refl _ _))
theorem aS.tup{k:Nat}(h:lR B sc env σ es fun rs σ1=>rs.length≤1000∧P (.tup rs) σ1):aS B sc env σ (.Tuple es k p) P:=fun C O hs ρ s E Q S qe q=>by show Tuple_ ?_;show h C O hs ρ s E (fun vs s₁=>wpAny B.M C.A (newTuple vs) Q E s₁) p S qe fun rs σ1 vs ρ1 s1 p1 K1 S1 R1=>?_;show wpAny_newTuple ?_ (by erw[R1.length];have:=p1.1;unfold sizeLine;show nt);have kp:=aC s1.heap {cls:=.type "tuple",data:=.seq vs.toArray};show q _ _ _ ρ1 {s1 with heap:=s1.heap.push {cls:=.type "tuple",data:=.seq vs.toArray}} p1.2 (K1.trans (aR kp rfl rfl)) (S1.bh kp) (S1.vw R1)
theorem aS.lst(h:lR B sc env σ es fun rs σ1=>rs.length≤1000∧P (.obj σ1.length) (σ1++[.list rs])):aS B sc env σ (.List es p) P:=fun C O hs ρ s E Q S qe q=>by show List_ ?_;show h C O hs ρ s E (fun vs s₁=>wpAny B.M C.A (newList vs) Q E s₁) p S qe fun rs σ1 vs ρ1 s1 p1 K1 S1 R1=>?_;show wpAny_newObj_type ?_ (by show(?_:vs.toArray.size≤sizeLine);erw[List.size_toArray,R1.length];have:=p1.1;unfold sizeLine;show nt);have K2:Kept C ρ1 s1 (ρ1++[(s1.heap.objs.size,[])]) {s1 with heap:=s1.heap.push {cls:=.type "list",data:=.seq vs.toArray}}:=cU rfl rfl rfl;show q _ _ _ _ {s1 with heap:=s1.heap.push {cls:=.type "list",data:=.seq vs.toArray}} p1.2 (K1.trans K2) (S1.fA (o:=.list rs) rfl ⟨rfl,vs,⟨0,gh _ rfl⟩,K2.gz S1 R1⟩) ?_;show⟨(s1.heap.objs.size,[]),by(show bD ?_ S1.len;erw[getElem?_append_right (Nat.le_refl _)]);simp,rfl⟩
end
section
variable{sc:Sx}
theorem aM.two{t:Value→Value→Sem Value}{a:LV}(h:∀(C:Cx),bC C→sc.At C→∀(ρ:Cells) (s:Shared) (E:VP) (Q:VP) (x y:Value),St B C ρ env σ s.heap→Rep s.heap ρ a x→Rep s.heap ρ b y→
   (∀r σ' v ρ' s',P r σ'→Kept C ρ s ρ' s'→St B C ρ' env σ' s'.heap→Rep s'.heap ρ' r v→Q v s')→wpAny B.M C.A (t x y) Q E s):
  aM B sc env σ [a,b] (bK t) P:=fun C O hX ρ s E Q vs S qe r q=>by
 show bb r ?_;rintro x dX rfl rx r;show bb r ?_;rintro y dX rfl ry r;subst r;show h C O hX ρ s E Q x y S rx ry q
section
variable{a b:Int}
theorem aM.add(h:P (.int (a+b)) σ):aM B sc env σ [.int a,.int b] (bK (binaryOp .Add)) P:=.two fun C O hX ρ s E Q x y S rx ry q=>by
 (show av rx ?_;rintro t rfl);show av ry ?_;rintro u rfl
 show add_int (q _ _ _ ρ {s with toks:=s.toks+1} h (.rr rfl rfl rfl) S ⟨_,rfl⟩)
theorem aM.sub(h:P (.int (a-b)) σ):aM B sc env σ [.int a,.int b] (bK (binaryOp .Sub)) P:=.two fun C O hX ρ s E Q x y S rx ry q=>by
 (show av rx ?_;rintro t rfl);show av ry ?_;rintro u rfl
 show sub_int (q _ _ _ ρ {s with toks:=s.toks+1} h (.rr rfl rfl rfl) S ⟨_,rfl⟩)
theorem aM.mul(h:P (.int (a*b)) σ)(hm:IntMulOk a b):aM B sc env σ [.int a,.int b] (bK (binaryOp .Mult)) P:=.two fun C O hX ρ s E Q x y S rx ry q=>by
 (show av rx ?_;rintro t rfl);show av ry ?_;rintro u rfl
 show mul_int (q _ _ _ ρ {s with toks:=s.toks+1} h (.rr rfl rfl rfl) S ⟨_,rfl⟩) hm
theorem aM.mod(hb:b≠0)(h:P (.int (a.fmod b)) σ):aM B sc env σ [.int a,.int b] (bK (binaryOp .Mod)) P:=.two fun C O hX ρ s E Q x y S rx ry q=>by
 (show av rx ?_;rintro t rfl);show av ry ?_;rintro u rfl
 show mod_int hb (q _ _ _ ρ {s with toks:=s.toks+1} h (.rr rfl rfl rfl) S ⟨_,rfl⟩)
theorem aM.fdiv(hb:b≠0)(hp:∀a',Builtin.divisionGoesByPylong a' b=false)(h:P (.int (a.fdiv b)) σ):aM B sc env σ [.int a,.int b] (bK (binaryOp .FloorDiv)) P:=.two fun C O hX ρ s E Q x y S rx ry q=>by
 (show av rx ?_;rintro t rfl);show av ry ?_;rintro u rfl
 show floordiv_int hb (q _ _ _ ρ {s with toks:=s.toks+1} h (.rr rfl rfl rfl) S ⟨_,rfl⟩) (.inl (hp a))
theorem aM.and(h:P (.int (Builtin.bitAnd a b)) σ):aM B sc env σ [.int a,.int b] (bK (binaryOp .BitAnd)) P:=.two fun C O hX ρ s E Q x y S rx ry q=>by
 (show av rx ?_;rintro t rfl);show av ry ?_;rintro u rfl
 show and_int (q _ _ _ ρ {s with toks:=s.toks+1} h (.rr rfl rfl rfl) S ⟨_,rfl⟩)
theorem aM.xor(h:P (.int (Builtin.bitXor a b)) σ):aM B sc env σ [.int a,.int b] (bK (binaryOp .BitXor)) P:=.two fun C O hX ρ s E Q x y S rx ry q=>by
 (show av rx ?_;rintro t rfl);show av ry ?_;rintro u rfl
 show xor_int (q _ _ _ ρ {s with toks:=s.toks+1} h (.rr rfl rfl rfl) S ⟨_,rfl⟩)
theorem aM.pow{n:Nat}(hn:n≤1000000)(ha:a.natAbs<2 ^ 64)(h:P (.int (a ^ n)) σ):aM B sc env σ [.int a,.int n] (bK (binaryOp .Pow)) P:=.two fun C O hX ρ s E Q x y S rx ry q=>by
 (show av rx ?_;rintro t rfl);show av ry ?_;rintro u rfl
 show pow_int_small (by lia) (by lia) ha (q _ _ _ ρ {s with toks:=s.toks+1} h (.rr rfl rfl rfl) S ⟨_,rfl⟩)
theorem aM.eq(h:P (.bool (a==b)) σ):aM B sc env σ [.int a,.int b] (bK (compareOp .Eq)) P:=.two fun C O hX ρ s E Q x y S rx ry q=>by
 (show av rx ?_;rintro t rfl);show av ry ?_;rintro u rfl
 show eq_int (q _ _ _ ρ s h (.rr rfl rfl rfl) S rfl)
theorem aM.ne(h:P (.bool (a !=b)) σ):aM B sc env σ [.int a,.int b] (bK (compareOp .NotEq)) P:=.two fun C O hX ρ s E Q x y S rx ry q=>by
 (show av rx ?_;rintro t rfl);show av ry ?_;rintro u rfl
 show ne_int (q _ _ _ ρ s h (.rr rfl rfl rfl) S rfl)
theorem aM.lt(h:P (.bool (decide (a<b))) σ):aM B sc env σ [.int a,.int b] (bK (compareOp .Lt)) P:=.two fun C O hX ρ s E Q x y S rx ry q=>by
 (show av rx ?_;rintro t rfl);show av ry ?_;rintro u rfl
 show PySem.P.lt_int (q _ _ _ ρ s h (.rr rfl rfl rfl) S rfl)
theorem aM.le(h:P (.bool (decide (a≤b))) σ):aM B sc env σ [.int a,.int b] (bK (compareOp .LtE)) P:=.two fun C O hX ρ s E Q x y S rx ry q=>by
 (show av rx ?_;rintro t rfl);show av ry ?_;rintro u rfl
 show PySem.P.le_int (q _ _ _ ρ s h (.rr rfl rfl rfl) S rfl)
theorem aM.gt(h:P (.bool (decide (a>b))) σ):aM B sc env σ [.int a,.int b] (bK (compareOp .Gt)) P:=.two fun C O hX ρ s E Q x y S rx ry q=>by
 (show av rx ?_;rintro t rfl);show av ry ?_;rintro u rfl
 show PySem.P.gt_int (q _ _ _ ρ s h (.rr rfl rfl rfl) S rfl)
theorem aM.ge(h:P (.bool (decide (a≥b))) σ):aM B sc env σ [.int a,.int b] (bK (compareOp .GtE)) P:=.two fun C O hX ρ s E Q x y S rx ry q=>by
 (show av rx ?_;rintro t rfl);show av ry ?_;rintro u rfl
 show PySem.P.ge_int (q _ _ _ ρ s h (.rr rfl rfl rfl) S rfl)
end
theorem aM.Jp{x y:List Int}(hz:x.length+y.length≤16777216)(h:P (.bytes (x++y)) σ):aM B sc env σ [.bytes x,.bytes y] (bK (binaryOp .Add)) P:=.two fun C O hX ρ s E Q vx vy S rx ry q=>by
 (show cj rx ?_;rintro bx t rfl ex);show cj ry ?_;rintro Pt u rfl ey
 show KBa.add_K ex ey hz fun t' k e=>q _ _ _ ρ {s with toks:=k} h (.rr rfl rfl rfl) S ⟨_,_,rfl,e⟩
end
set_option genCtorIdx true in
inductive FV where
 |next|brk|cont
 |ret (v:LV)
abbrev dO:=FV→aQ→List LO→Prop
abbrev eV:=FV→List (Option LV)→List LO→Prop
def iT(h:Heap)(ρ:Cells):FV→Flow→Prop
 | .next,f=>f= .next
 | .brk,f=>f= .brk
 | .cont,f=>f= .cont
 | .ret r,f=>∃v,f= .ret v∧Rep h ρ r v
def dY(B:Base)(X:Sx)(env:aQ)(σ:List LO)(b:List Stmt)(P:dO):Prop:=
 ∀(C:Cx),bC C→X.At C→∀(ρ:Cells) (s:Shared) (E:VP) (Q:qu),St B C ρ env σ s.heap→Exc B X C ρ s E→
  (∀f fv ae σ' ρ' s',P fv ae σ'→Kept C ρ s ρ' s'→St B C ρ' ae σ' s'.heap→iT s'.heap ρ' fv f→Q f s')→wpAny B.M C.A (execs b C.env) Q E s
def eD(B:Base)(X:Sx)(env:aQ)(σ:List LO)(b:Stmt)(P:dO):Prop:=
 ∀(C:Cx),bC C→X.At C→∀(ρ:Cells) (s:Shared) (E:VP) (Q:qu),St B C ρ env σ s.heap→Exc B X C ρ s E→
  (∀f fv ae σ' ρ' s',P fv ae σ'→Kept C ρ s ρ' s'→St B C ρ' ae σ' s'.heap→iT s'.heap ρ' fv f→Q f s')→wpAny B.M C.A (exec b C.env) Q E s
section
variable{P:dO}
theorem dY.nil(h:P .next env σ):dY B X env σ [] P:=fun C O hs ρ s E Q S qe q=>wpAny_execs_nil (q _ _ _ _ ρ s h (.rr rfl rfl rfl) S rfl)
def xE(B:Base)(X:Sx)(r:List Stmt)(P:dO):dO
 | .next,ae,σ'=>dY B X ae σ' r P
 |fv,ae,σ'=>P fv ae σ'
theorem dY.cons{st:Stmt}{r:List Stmt}(h:eD B X env σ st (xE B X r P)):dY B X env σ (st::r) P:=fun C O hs ρ s E Q S qe q=>by
 show wpAny_execs_cons (h C O hs ρ s E _ S qe fun f fv kT σ1 ρ1 s1 h1 K1 S1 R1=>?_)
 induction fv using FV.casesOn with
 |next=>obtain rfl:=R1;show h1 C O hs ρ1 s1 E Q S1 (qe.since K1) fun f fv ae σ' ρ' s' p' K' S' R'=>q _ _ _ _ _ _ p' (K1.trans K') S' R'
 |brk=>obtain rfl:=R1;show q _ .brk _ _ _ _ h1 K1 S1 rfl
 |cont=>obtain rfl:=R1;show q _ .cont _ _ _ _ h1 K1 S1 rfl
 |ret r=>(show aa R1 ?_;rintro v rfl R1);show q _ (.ret r) _ _ _ _ h1 K1 S1 ⟨v,rfl,R1⟩
theorem eD.mono{P':dO}{st:Stmt}(h:eD B X env σ st P)(k:∀f e s,P f e s→P' f e s):eD B X env σ st P':=fun C O hs ρ s E Q S qe q=>
 h C O hs ρ s E Q S qe fun f fv ae σ' ρ' s' p'=>q f fv ae σ' ρ' s' (k _ _ _ p')
theorem dY.mono{P':dO}(h:dY B X env σ b P)(k:∀f e s,P f e s→P' f e s):dY B X env σ b P':=fun C O hs ρ s E Q S qe q=>
 h C O hs ρ s E Q S qe fun f fv ae σ' ρ' s' p'=>q f fv ae σ' ρ' s' (k _ _ _ p')
theorem aS.mono {P P':kr} {e:Expr} (h:aS B X env σ e P) (k:∀r s,P r s→P' r s):aS B X env σ e P':=fun C O hs ρ s E Q S qe q=>
 h C O hs ρ s E Q S qe fun r σ' v ρ' s' p'=>q r σ' v ρ' s' (k _ _ p')
theorem aS.at(h:aS B X env σ e fun v σ1=>v=lv∧σ1=σ)(O:bC C)(hX:X.At C)(S:St B C ρ env σ s.heap)(qe:Exc B X C ρ s E)(k:∀u ρ1 s1,Kept C ρ s ρ1 s1→St B C ρ1 env σ s1.heap→Rep s1.heap ρ1 lv u→Q u s1):wpAny B.M C.A (eval e C.env) Q E s:=h C O hX ρ s E Q S qe fun r σ1 v ρ1 s1 p K1 S1 R1=>by show aA p ?_;rintro rfl rfl;show k v ρ1 s1 K1 S1 R1
theorem eD.assign(hk:X.sc.names.lookup x=some .local∨X.sc.names.lookup x=some .cell)(h:aS B X env σ value fun r σ1=>P .next (put x r env) σ1)(hs:∀ae,swapsWith value (some (.Name x px)) pos.line ae=pure false:=by intro U;rfl):eD B X env σ (.Assign [.Name x px] value pos) P:=fun C O hX ρ s E Q S qe q=>by show wpAny_Assign_Name (h C O hX ρ s E _ S qe fun r σ1 v ρ1 s1 h1 K1 S1 R1=>?_) (hs _);show dk O S1 (by unfold Env.kindOf;erw[hX.1];show hk) R1 fun s2 K2 S2=>?_;show q _ .next _ _ _ _ h1 (K1.trans K2) S2 rfl
theorem eD.ret(h:aS B X env σ e fun r σ1=>P (.ret r) env σ1):eD B X env σ (.Return (some e) pos) P:=fun C O hX ρ s E Q S qe q=>
 wpAny_Return_some (h C O hX ρ s E _ S qe fun r σ1 v ρ1 s1 h1 K1 S1 R1=>q _ (.ret r) _ _ _ _ h1 K1 S1 ⟨v,rfl,R1⟩)
theorem eD.ite(h:gv B X env σ t fun c σ1=>(c=true→dY B X env σ1 b P)∧(c=false→dY B X env σ1 o P)):eD B X env σ (.If t b o pos) P:=fun C O hX ρ s E Q S qe q=>by
 show wpAny_If (h C O hX ρ s E _ S qe fun c σ1 ρ1 s1 h1 K1 S1=>?_);cases c
 ·show h1.2 rfl C O hX ρ1 s1 E Q S1 (qe.since K1) fun f fv ae σ' ρ' s' p' K' S' R'=>q _ _ _ _ _ _ p' (K1.trans K') S' R'
 ·show h1.1 rfl C O hX ρ1 s1 E Q S1 (qe.since K1) fun f fv ae σ' ρ' s' p' K' S' R'=>q _ _ _ _ _ _ p' (K1.trans K') S' R'
theorem eD.brk(h:P .brk env σ):eD B X env σ (.Break pos) P:=fun C O hX ρ s E Q S qe q=>wpAny_Break (q _ .brk _ _ ρ s h (.rr rfl rfl rfl) S rfl)
theorem eD.Dk{i:Int}(hx:env.lookup x=oi i)(hk:X.sc.names.lookup x=some .local)(h:aS B X env σ value fun r σ1=>∃j,r= .int j∧P .next (put x (.int (i+j)) env) σ1):eD B X env σ (.AugAssign (.Name x px) .Add value pos) P:=fun C O hX ρ s E Q S qe q=>by
 have Fs:C.env.kindOf x=some .local:=by unfold Env.kindOf;erw[hX.1];show hk
 show aa S.ns fun m hm hv=>?_;show aa (hv x _ hx) fun v a r=>?_
 have mv:m x=some v:=by
  rcases a with⟨_,mv⟩|⟨k|k,_⟩
  ·show mv
  ·replace k:=Fs▸k;right
  ·replace k:=Fs▸k;right
 show av r ?_;rintro t rfl;show wpAny_AugAssign_Name (wpAny_loadName_local O.kind Fs hm mv (h C O hX ρ s E _ S qe fun r σ1 v ρ1 s1 h1 K1 S1 R1=>?_));show aa h1 ?_;rintro j rfl h1;show av R1 ?_;rintro u rfl;show wpAny_iadd_int ?_;show dk (s:={s1 with toks:=s1.toks+1}) O S1 (.inl Fs) (lv:=.int (i+j)) ⟨_,rfl⟩ fun s2 K2 S2=>?_;show q _ .next _ _ _ _ h1 (K1.trans ((Kept.refl C ρ1 s1 {s1 with toks:=s1.toks+1} rfl rfl rfl).trans K2)) S2 rfl
def putAll:List Str→List LV→aQ→aQ
 |x::xs,v::vs,env=>putAll xs vs (put x v env)
 |_,_,env=>env
noncomputable def AH(qs:List (Str×Pos)):List Expr:=qs.map fun q=>.Name q.1 q.2
theorem gG(O:bC C)(hX:X.At C)(qs:List (Str×Pos)):∀(rs:List LV) (vs:List Value) (env:aQ) (s:Shared) (Q:sF),St B C ρ env σ s.heap→bz s.heap ρ rs vs→
  (∀x∈qs.map (·.1),X.sc.names.lookup x=some .local∨X.sc.names.lookup x=some .cell)→rs.length=qs.length→
  (∀s',Kept C ρ s ρ s'→St B C ρ (putAll (qs.map (·.1)) rs env) σ s'.heap→Q () s')→wpAny B.M C.A (assignInOrder ((assignEach (AH qs) C.env).map (·.2)) vs) Q E s:=by
 induction qs with
 |nil=>intro rs vs env s Q S R hk hl q;obtain rfl:=length_eq_zero_iff.mp hl;show aG (q s (.rr rfl rfl rfl) S)
 |cons x qs ih=>
  intro rs vs env s Q S R hk hl q
  induction rs using List.casesOn with
  |nil=>right
  |cons r rs=>show bb R ?_;rintro v vs rfl R1 R2;show(?_:wpAny B.M C.A (do holding vs (do standAt _;bindName C.env _ v);assignInOrder ((assignEach (AH qs) C.env).map (·.2)) vs) Q E s);show V (eT (V (gx (wpAny_bindName ?_))));show dk O S (by unfold Env.kindOf;erw[hX.1];show hk _ (.head _)) R1 fun s1 K1 S1=>?_;show ih rs vs _ s1 Q S1 (K1.gz S R2) (fun y hy=>hk y (.tail _ hy)) (Nat.succ.inj hl) fun s' K' S'=>q s' (K1.trans K') S'
theorem eW(env:Env)(qs:List (Str×Pos)):(assignEach (AH qs) env).length=qs.length:=by
 induction qs with
 |nil=>rfl
 |cons q qs ih=>show congrArg (· +1) ih
theorem fB(env:Env)(qs:List (Str×Pos)):(assignEach (AH qs) env).findIdx? (·.1)=none:=by
 induction qs with
 |nil=>rfl
 |cons q qs ih=>show(findIdx?_cons).trans (congrArg (Option.map (· +1)) ih)
theorem eD.unpack{qs:List (Str×Pos)}{k:Nat}(hn:X.hn=true)(hk:∀x∈qs.map (·.1),X.sc.names.lookup x=some .local∨X.sc.names.lookup x=some .cell)(h:aS B X env σ value fun r σ1=>∃rs,r= .tup rs∧rs.length=qs.length∧P .next (putAll (qs.map (·.1)) rs env) σ1)(hs:∀ae,swapsWithSole [.Tuple (AH qs) k pt] value pos.line ae=pure false)(hw:∀ae,swappedStores [.Tuple (AH qs) k pt] value ae=pure none):
  eD B X env σ (.Assign [.Tuple (AH qs) k pt] value pos) P:=fun C O hX ρ s E Q S qe q=>by
 show wpAny_Assign_stores (h C O hX ρ s E _ S qe fun r σ1 v ρ1 s1 h1 K1 S1 R1=>?_) (hs _) (hw _);show bJ h1 ?_;rintro rs rfl hl h1;show bY R1 ?_;rintro a vs rfl ha ht R2;show(?_:wpAny B.M C.A (PySem.assign (.Tuple (AH qs) k pt) C.env (.ref a)) _ E s1);show wpAny_assign_Tuple (hX.hn hn) ht (by(erw[eW ..,List.size_toArray,R2.length];show aD rfl hl)) (fB _ _) fun h' hx=>?_;have kx:∀b o,s1.heap.get? b=some o→h'.get? b=some o:=fun b o e=>hx b o (Nat.ne_of_lt (Heap.lt_size e)) e;have K2:Kept C ρ1 s1 ρ1 {s1 with heap:=h'}:=aR kx rfl rfl;show gG O hX qs rs vs env {s1 with heap:=h'} _ (S1.bh kx) (K2.gz S1 R2) hk hl fun s' K' S'=>?_;show q _ .next _ _ _ _ h1 ((K1.trans K2).trans K') S' rfl
end
def l8(o:Obj):Prop:=Dj o.cls∧∃vs,o.data= .fields vs
structure XS(C:Cx)(s0:Shared)(h h':Heap):Prop where
 keep:∀a o,a∉C.outs→((s0.heap.get? a).isSome∨¬ l8 o)→h.get? a=some o→h'.get? a=some o
 outs:∀a o,a∈C.outs→¬ l8 o→h.get? a=some o→∃o',h'.get? a=some o'∧o'.data=o.data
 alive:∀a,(h.get? a).isSome→(h'.get? a).isSome
theorem XS.refl(C:Cx)(s0:Shared)(h:Heap):XS C s0 h h:=⟨fun U U U U e=>e,fun U o U U e=>⟨o,e,rfl⟩,fun U e=>e⟩
theorem n6{o o':Obj}(hd:o'.data=o.data)(n:∃es k,o.data= .dict es k):¬ l8 o':=by rintro zq;show aA zq fun U hZ=>?_;show av hZ fun vs e=>?_;show fJ n fun es k q=>?_;replace e:=hd▸e;replace e:=q▸e;right
theorem vz(f:l7 o):¬ l8 o:=by
 rintro zq;show aA zq fun h1 hZ=>?_;show av hZ fun vs h2=>?_
 rcases f with⟨_,_,q⟩|⟨_,_,q,_⟩|⟨q,_⟩
 ·replace q:=h2▸q;right
 ·replace q:=h2▸q;right
 ·show h1.1 q
theorem o7{L:Addr}{m:Str→Option Value}(n:h.Ns L m)(e:h.get? L=some o):¬ l8 o:=by
 show gy n fun o' es ep ho hd U=>?_;replace e:=ho▸e
 injection e with z;subst z
 rintro zq;show aA zq fun U hZ=>?_;show av hZ fun vs q=>?_;replace q:=hd▸q;right
theorem n7{c:Addr}{v:Option Value}(n:h.IsCell c v)(e:h.get? c=some o):¬ l8 o:=by
 show aa n fun o' ho hd=>?_;replace e:=ho▸e
 injection e with z;subst z
 rintro zq;show aA zq fun U hZ=>?_;show av hZ fun vs q=>?_;replace q:=hd▸q;right
theorem kz.FW{o:LO}{c:Addr×List Addr}(q:kz w h ρ o c)(m:a∈c.1::c.2){ob:Obj}(e:h.get? a=some ob):¬ l8 ob:=by
 rintro zq;show aA zq fun oc hZ=>?_;show av hZ fun vs q2=>?_
 induction o using LO.casesOn with
 |list l=>
  show aA q fun q1 hZ=>?_;show aa hZ ?_;rintro us ⟨n,r⟩ q3;replace m:=q1▸m
  obtain rfl:a=c.1:=by simpa using m
  replace e:=r▸e;injection e with z;subst z;right
 |set l=>
  show qA q ?_;rintro q1 nd ⟨o,es,ep,t,ho,U,hd,U⟩ U;replace m:=q1▸m
  obtain rfl:a=c.1:=by simpa using m
  replace e:=ho▸e;injection e with z;subst z;replace q2:=hd▸q2;right
 |aV b=>
  show aA q fun q1 hZ=>?_;show aa hZ fun arr ho r=>?_;replace m:=q1▸m
  obtain rfl:a=c.1:=by simpa using m
  replace e:=ho▸e;injection e with z;subst z;right
 |tab=>
  show aA q ?_;rintro rfl hZ;show aa hZ fun ps ho U=>?_
  obtain rfl:a=1043:=by simpa using m
  replace e:=ho▸e;injection e with z;subst z;show oc.2 rfl
 |inst C fs=>
  show bY q ?_;rintro d mm q1 ho ⟨od,es,ep,hd,hd2,U⟩ r;replace m:=q1▸m
  rcases mem_cons.mp m with rfl|m
  ·replace e:=ho▸e;injection e with z;subst z;right
  ·obtain rfl:a=d:=by simpa using m
   replace e:=hd▸e;injection e with z;subst z;replace q2:=hd2▸q2;right
section
variable{Mj:Heap}{s0 s':Shared}
theorem XS.trans(ho:∀a∈C.outs,∀o,h.get? a=some o→∃es k,o.data= .dict es k)(x:XS C s0 h h')(y:XS C s0 h' Mj):XS C s0 h Mj:=
 ⟨fun a o n d e=>y.keep a o n d (x.keep a o n d e),fun a o m n e=>by
  show aa (x.outs a o m n e) fun o1 e1 d1=>?_;show aa (y.outs a o1 m (n6 d1 (ho a m o e)) e1) fun o2 e2 d2=>?_
  show cM o2 e2 (d2.trans d1),fun a e=>y.alive a (x.alive a e)⟩
theorem St.cG(S:St B C ρ env σ h):∀a∈C.outs,∀o,h.get? a=some o→∃es k,o.data= .dict es k:=fun a m o e=>by
 show ju (S.eU m) ?_;rintro U ⟨m,o',es,ep,ho,hd,U⟩ U;replace e:=ho▸e
 injection e with z;subst z
 show⟨_,_,hd⟩
theorem n8{o:Obj}(h:∃es k,o.data= .dict es k):¬ l8 o:=n6 rfl h
theorem St.xs(S:St B C ρ env σ h)(hb:∀a o,B.heap.get? a=some o→(s0.heap.get? a).isSome)(x:XS C s0 h h'):St B C ρ env σ h':=by
 have fk:bj ρ h h':=fun a o n f e=>x.keep a o (S.fz f e) (.inr (vz f)) e;have ce:aF h ρ ρ:=.refl _ _
 have zZ:∀{L m},h.Ns L m→h'.Ns L m:=fun{L m} q=>by
  by_cases hL:L∈C.outs
  ·show gy q fun o es ep ho hd r=>?_;show aa (x.outs L o hL (n8 ⟨_,_,hd⟩) ho) fun o' e' d'=>?_;show AD o' es ep e' (d'.trans hd) r
  ·show gy (id q) fun o es ep ho hd r=>?_;show AD o es ep (x.keep L o hL (.inr (o7 q ho)) ho) hd r
 have ck:∀{c v},h.IsCell c v→h'.IsCell c v:=fun{c v} q=>by show aa (id q) fun o ho hd=>?_;show⟨o,x.keep c o (fun m=>?_) (.inr (n7 q ho)) ho,hd⟩;show fJ (S.cG c m o ho) fun es k z=>?_;replace hd:=z▸hd;right
 show aa S.ns fun m hm hv=>?_;show⟨⟨m,zZ hm,fun y lv e=>?_⟩,fun p hp=>?_,S.apart,S.ow,fun a o e=>?_,fun e he=>?_,fun a ha=>⟨(S.out a ha).1,x.alive a (S.out a ha).2⟩,S.nd,S.len,fun i o c hi hc=>?_⟩
 ·show aa (hv y lv e) fun v e1 e2=>?_;show cM v ?_ (e2.mono fk ce)
  rcases e1 with q|⟨q,c,a,b⟩
  ·show .inl q
  ·show .inr ⟨q,c,a,ck b⟩
 ·show av (S.jm p hp) fun v q=>?_;show⟨v,ck q⟩
 ·show x.keep a o (fun m=>by replace e:=(S.eU m).2.2▸e;right) (.inl (hb a o e)) (S.base a o e)
 ·show aA (S.dq e he) fun q hZ=>?_;show bY hZ fun L m a b c d=>?_;show⟨q,L,m,a,b,zZ c,d⟩
 ·have ro:=S.iR i o c hi hc;show ro.mono (fun a ob m e=>x.keep a ob (fun z=>(S.eU z).1 (b8 hc m)) (.inr (ro.FW m e)) e) fk ce
theorem Kept.xs(K:Kept C ρ s0 ρ' s)(S0:St B C ρ dx σ0 s0.heap)(S:St B C ρ' env σ h)(hs:s.heap=h)(x:XS C s0 h h'):Kept C ρ s0 ρ' {s with heap:=h'}:=by subst hs;show⟨fun a o n l m e=>x.keep a o m (.inl (by erw[e];rfl)) (K.keep a o n l m e),fun a o m n l e=>?_,fun a e=>x.alive a (K.alive a e),K.ext,K.gens,K.os⟩;show aa (K.outs a o m n l e) fun o1 e1 d1=>?_;show aa (x.outs a o1 m (n8 (S.cG a m o1 e1)) e1) fun o2 e2 d2=>?_;show cM o2 e2 (d2.trans d1)
theorem hV(S:St B C ρ env σ h)(n0:s0.heap.get? a=none)(ho:h.get? a=some o)(hr:l8 o)(f:Obj→Obj)(hf:(f o).isFreed=false):XS C s0 h (h.update a f):=by
 have ne:∀b ob,((s0.heap.get? b).isSome∨¬ l8 ob)→h.get? b=some ob→a≠b:=fun b ob d e z=>by
  subst z
  rcases d with d|d
  ·replace d:=n0▸d;right
  ·replace e:=ho▸e;injection e with z;subst z;show d hr
 show⟨fun b ob U d e=>(Heap.get?_update_other _ _ (ne b ob d e)).trans e,fun b ob m n e=>⟨ob,(Heap.get?_update_other _ _ (ne b ob (.inr n) e)).trans e,rfl⟩,fun b e=>?_⟩
 by_cases q:a=b
 ·subst q;erw[Heap.get?_update_self _ ho hf];rfl
 ·erw[Heap.get?_update_other _ _ q];show e
theorem AI:XS C s0 h (h.push o):=⟨fun a x U U e=>aC _ _ a x e,fun a x U U e=>⟨x,aC _ _ a x e,rfl⟩,fun a e=>by
 show av (iA e) fun x hx=>?_
 erw[aC _ _ a x hx];rfl⟩
theorem xF(x:Heap.SlotsOnly C.outs h h'):XS C s0 h h':=⟨fun a o n U e=>(x.2.1 a n).trans e,fun a o U U e=>by
 show av (x.2.2 a o e) fun sl q=>?_
 show cM _ q rfl,fun a e=>by
 show av (iA e) fun o ho=>?_;show av (x.2.2 a o ho) fun sl q=>?_
 erw[q];rfl⟩
theorem l9:∀{l:List Env},(∀e∈l,e.scope.kind≠.module∧∃L m,e.frame=some L∧L∉flat ρ∧h.Ns L m∧B.heap.get? L=none)→h.FunFrames B.heap l
 |[],_=>trivial
 |e::l,q=>by show aA (q e (.head _)) fun k hZ=>?_;show bY hZ fun L m a b c d=>?_;show .cons k a c d (l9 fun e' m'=>q e' (.tail _ m'))
theorem vA{vs:Array Value}(S:St B C ρ env σ h)(e:h.get? a=some ⟨cls,none,.fields vs,#[]⟩):a∉C.outs:=fun m=>by show fJ (S.cG a m _ e) fun es k q=>?_;right
theorem qH{outer:List Env}{e:Addr}{vs:Array Value}{head:Value}{L:Addr}{NH:Bool}{Q:sF}(xe:A.frames=some C.dq)(bg:C.dq=C.env::outer)(hf:C.env.frame=some L)(S:St B C ρ env σ s.heap)(n0:s0.heap.get? e=none)(hc:Dj cls)(he:s.heap.get? e=some ⟨cls,none,.fields vs,#[]⟩)(hz:1<vs.size)(jl:∀a o,B.heap.get? a=some o→(s0.heap.get? a).isSome)(z7:∀a,(s0.heap.get? a).isSome→(s.heap.get? a).isSome)(h:∀h' T ts,XS C s0 s.heap h'→h'.get? e=some ⟨cls,none,.fields (vs.setIfInBounds 1 (.ref T)),#[]⟩→s0.heap.get? T=none→T≠e→h'.get? T=some ⟨.type "traceback",none,.fields ts,#[]⟩→3<ts.size→ts[3]? =some (rawInt L)→Q () {s with heap:=h'}):
  wpAny M A (do let a←frameOf C.env;let pl←entryPlaceOf L NH;let b←EntryCells.newEntry head a .none (rawInt L) .none pl;setField (.ref e) 1 b) Q E s:=by
 have hl:=l9 S.dq;replace hl:=bg▸hl;have jq:=vA S he;show V (wpAny_frameOf_fun (xe.trans (congrArg some bg)) hl hf fun h₁ NI=>?_)
 have Hk:Heap.SlotsOnly C.outs s.heap h₁:=by unfold Cx.outs;erw[bg];show NI
 have x1:XS C s0 s.heap h₁:=xF Hk;have S1:=S.xs jl x1;show V (wpAny_entryPlaceOf fun pl xf=>?_);show V (wpAny_newObj_type ?_ (xf.sizeOk5 _ _ _ _ _));generalize EM:([head,.ref L,.none,rawInt L,.none]++(if pl.isEmpty then replicate 6 Value.none else pl)).toArray=td;have Mk:h₁.get? e=some ⟨cls,none,.fields vs,#[]⟩:=(Hk.2.1 e jq).trans he;have x2:XS C s0 h₁ (h₁.push {cls:=.type "traceback",data:=.fields td}):=AI;have S2:=S1.xs jl x2;have Kl:=aC h₁ {cls:=.type "traceback",data:=.fields td} _ _ Mk;show wpAny_setField Kl rfl hz ?_;have Ml:h₁.objs.size≠e:=Nat.ne_of_gt (Heap.lt_size Mk);have x3:XS C s0 _ _:=hV (s0:=s0) S2 n0 Kl ⟨hc,_,rfl⟩ (Obj.mapFields (·.setIfInBounds 1 (.ref h₁.objs.size))) rfl;show h _ h₁.objs.size td (.trans S.cG x1 (.trans S1.cG x2 x3)) ?_ ?_ Ml ?_ ?_ ?_
 ·erw[Heap.get?_update_self _ Kl rfl];rfl
 ·show bQ (h':=h₁) (fun a ha=>x1.alive a (z7 a ha)) (bo h₁)
 ·erw[Heap.get?_update_other _ _ (Ne.symm Ml)];show gh _ rfl
 ·subst EM;simp only[List.size_toArray,length_append,length_cons,length_nil];lia
 ·subst EM;rfl
theorem jy{outer:List Env}{e:Addr}{x:EX}{f:Di}{L:Addr}{Q:sF}(xe:A.frames=some C.dq)(bg:C.dq=C.env::outer)(hf:C.env.frame=some L)(S:St B C ρ env σ s.heap)(X:dj C.env.frame s0 e x f s.heap)(jl:∀a o,B.heap.get? a=some o→(s0.heap.get? a).isSome)(z7:∀a,(s0.heap.get? a).isSome→(s.heap.get? a).isSome)(h:∀h',XS C s0 s.heap h'→dj C.env.frame s0 e x .here h'→Q () {s with heap:=h'}):wpAny M A (noteFrame (.ref e) C.env) Q E s:=by
 show hide fun H_ o_=>?_;obtain⟨n0,nr,vs,t,args,he,hz,h0,ht0,ht,ha,fl⟩:=X
 have fin:∀{hh:Heap} {dX:Array Value} {T:Addr} {ts:Array Value},dX.size=6→(dX[0]? =some (.ref t)∧(x.fst=true→dX[2]? =some .none))→XS C s0 s.heap hh→hh.get? e=some ⟨x.cls,none,.fields (dX.setIfInBounds 1 (.ref T)),#[]⟩→s0.heap.get? T=none→T≠e→hh.get? T=some ⟨.type "traceback",none,.fields ts,#[]⟩→3<ts.size→ts[3]? =some (rawInt L)→Q () {s with heap:=hh}:=fun{hh dX T ts} z1 z2 k1 k2 k3 k4 k5 k6 k7=>by show h hh k1 ⟨n0,nr,_,t,args,k2,by simpa using z1,⟨by erw[Array.getElem?_setIfInBounds_ne (by decide)];show z2.1,fun q=>by erw[Array.getElem?_setIfInBounds_ne (by decide)];show z2.2 q⟩,ht0,?_,ha,L,hf,T,ts,by simp[z1],k3,k4,k5,k6,k7⟩;show k1.keep t _ (fun m=>by(show fJ (S.cG t m _ ht) fun es k q=>?_);right) (.inr (by rintro⟨U,us,q⟩;right)) ht
 show o_ ?_;clear o_ H_;unfold noteFrame;simp only[hf]
 cases f with
 |new=>show V (wpAny_field he rfl fl ?_);erw[ax (by decide)];show qH (s0:=s0) xe bg hf S n0 nr he (by lia) jl z7 fun h' T ts k1 k2 k3 k4 k5 k6 k7=>fin hz h0 k1 k2 k3 k4 k5 k6 k7
 |here=>
  show hide fun H_ o_=>?_;show av fl fun L' hZ=>?_;show aA hZ fun e1 hZ=>?_;show AE hZ fun T ts d1 d2 d3 d4 d5 d6=>?_;replace e1:=hf▸e1
  injection e1 with z;subst z
  show o_ ?_;clear o_ H_;show V (wpAny_field he rfl d1 ?_);erw[aJ (show(Value.ref T !=Value.none)=true from by simp)];show V (wpAny_field d4 rfl d6 ?_);erw[aJ (show(rawInt L==rawInt L)=true from by first|(simp;done)|show beq_self_eq_true _)];show aG (h s.heap (.refl ..) ⟨n0,nr,vs,t,args,he,hz,h0,ht0,ht,ha,L,hf,T,ts,d1,d2,d3,d4,d5,d6⟩)
 |up=>
  show hide fun H_ o_=>?_;show AE fl fun T ts d1 d2 d3 d4 d5 d6=>?_;show o_ ?_;clear o_ H_;show V (wpAny_field he rfl d1 ?_);erw[aJ (show(Value.ref T !=Value.none)=true from by simp)];show V (wpAny_field d4 rfl d6 ?_);erw[ax (show ¬ ((Value.none==rawInt L)=true) from by simp[rawInt])];show V (wpAny_setField d4 rfl d5 ?_);have x1:XS C s0 s.heap _:=hV S d2 d4 ⟨⟨(show Value.type "traceback"≠Value.type "range" by decide),fun z=>by right⟩,_,rfl⟩ (Obj.mapFields (·.setIfInBounds 3 .none)) rfl;have S1:=S.xs jl x1;have Ir:(s.heap.update T (Obj.mapFields (·.setIfInBounds 3 .none))).get? e=_:=(Heap.get?_update_other _ _ d3).trans he
  show qH (s0:=s0) (s:={s with heap:=s.heap.update T (Obj.mapFields (·.setIfInBounds 3 .none))}) xe bg hf S1 n0 nr Ir (by lia) jl (fun a q=>x1.alive a (z7 a q)) fun h' T' qw k1 k2 k3 k4 k5 k6 k7=>
   fin hz h0 (.trans S.cG x1 k1) k2 k3 k4 k5 k6 k7
theorem eE{e:Addr}{x:EX}{f:Di}{fr fr':Option Addr}{Q:sF}(S:St B C ρ env σ s.heap)(X:dj fr s0 e x f s.heap)(hf:f≠.new)(h:∀h' g,XS C s0 s.heap h'→(fr'=none→g= .up)→(∀L,fr'=some L→g= .here)→dj fr' s0 e x g h'→Q () {s with heap:=h'}):wpAny M A (setFlight (.ref e) fr') Q E s:=by
 show hide fun H_ o_=>?_;obtain⟨n0,nr,vs,t,args,he,hz,h0,ht0,ht,ha,fl⟩:=X
 obtain⟨Mm,T,ts,d1,d2,d3,d4,d5,d6⟩:∃Mm,qF s0 e vs s.heap Mm:=by
  cases f with
  |new=>show absurd rfl hf
  |up=>show⟨_,fl⟩
  |here=>(show aa fl fun L U q=>?_);show⟨_,q⟩
 show o_ ?_;clear o_ H_;show V (wpAny_field he rfl d1 ?_);erw[aJ (show(Value.ref T !=Value.none)=true from by rfl)];show wpAny_setField d4 rfl d5 ?_;generalize hv:fr'.elim Value.none (fun f=>rawInt f)=v;have x1:XS C s0 s.heap (s.heap.update T (Obj.mapFields (·.setIfInBounds 3 v))):=hV S d2 d4 ⟨⟨(show Value.type "traceback"≠Value.type "range" by decide),fun z=>by right⟩,_,rfl⟩ _ rfl;have Ir:(s.heap.update T (Obj.mapFields (·.setIfInBounds 3 v))).get? e=_:=(Heap.get?_update_other _ _ d3).trans he;have Mn:(s.heap.update T (Obj.mapFields (·.setIfInBounds 3 v))).get? t=_:=(Heap.get?_update_other _ _ (fun z=>by(replace d4:=z▸d4;replace d4:=ht▸d4);injection d4 with d4;injection d4 with _ _ q _;right)).trans ht;have It:(s.heap.update T (Obj.mapFields (·.setIfInBounds 3 v))).get? T=some ⟨.type "traceback",none,.fields (ts.setIfInBounds 3 v),#[]⟩:=Heap.get?_update_self _ d4 rfl
 induction fr' using Option.casesOn with
 |none=>subst hv;show h _ .up x1 (fun U=>rfl) (fun U q=>by right) ⟨n0,nr,vs,t,args,Ir,hz,h0,ht0,Mn,ha,T,_,d1,d2,d3,It,by simpa using d5,by simp[d5]⟩
 |some L=>subst hv;show h _ .here x1 (fun q=>by right) (fun U U=>rfl) ⟨n0,nr,vs,t,args,Ir,hz,h0,ht0,Mn,ha,L,rfl,T,_,d1,d2,d3,It,by simpa using d5,by simp[d5]⟩
theorem vB{outer:List Env}{e:Addr}{x:EX}{f:Di}{L:Addr}{Q:sF}(xe:A.frames=some C.dq)(bg:C.dq=C.env::outer)(hf:C.env.frame=some L)(S:St B C ρ env σ s.heap)(X:dj C.env.frame s0 e x f s.heap)(jl:∀a o,B.heap.get? a=some o→(s0.heap.get? a).isSome)(z7:∀a,(s0.heap.get? a).isSome→(s.heap.get? a).isSome)(h:∀h',XS C s0 s.heap h'→dj none s0 e x .up h'→Q () {s with heap:=h'}):wpAny M A (leaving C.env (.ref e)) Q E s:=by show V (jy xe bg hf S X jl z7 fun h1 k1 X1=>?_);have S1:=S.xs jl k1;show eE (s:={s with heap:=h1}) (fr':=none) S1 X1 (by intro z;right) fun h2 g k2 e1 U X2=>?_;obtain rfl:=e1 rfl;show h h2 (.trans S.cG k1 k2) X2
theorem dj.Dl{fr fr':Option Addr}{e:Addr}{x:EX}(X:dj fr s0 e x .up h):dj fr' s0 e x .up h:=⟨X.new,X.nr,X.obj⟩
theorem St.kB{outer:List Env}(S:St B C ρ env σ h)(bg:C.dq=C.env::outer):∃L,C.env.frame=some L:=by show aA (S.dq C.env (by erw[bg];show .head _)) ?_;rintro U hZ;show cj hZ fun L U e U=>?_;show⟨L,e⟩
theorem jz(S0:St B C ρ env σ s0.heap):∀a o,B.heap.get? a=some o→(s0.heap.get? a).isSome:=fun a o e=>by erw[S0.base a o e];rfl
theorem fO(O:bC C)(hX:X.At C)(ht:X.top=true)(hA:A.frames=some C.dq)(S0:St B C ρ dx σ0 s.heap)(q:Exc B X C ρ s E){e:Addr}{x:EX}(r:X.R x ae σ')(K:Kept C ρ s ρ' s')(S:St B C ρ' ae σ' s'.heap)(Xe:ExcAt C s e x s'){E':VP}:wpAny B.M A (noteFrame (.ref e) C.env) (fun U lX=>cameBackBy B.M C.A C.env E (.ref e) lX) E' s':=by show av (hX.top ht) fun outer bg=>?_;show av (S.kB bg) fun L hf=>?_;show av Xe fun f Xe=>?_;have jl:=jz S0;show jy (s0:=s) hA bg hf S Xe jl K.alive fun h1 k1 X1=>?_;have S1:=S.xs jl k1;have K1:=K.xs S0 S rfl k1;show hide fun H_ o_=>?_;obtain⟨n0,nr,vs,t,args,he,hz,h0,ht0,Km,ha,L',e1,T,ts,d1,d2⟩:=id X1;show o_ ?_;clear o_ H_;show V (wpAny_field (s:={s' with heap:=h1}) he rfl d1 ?_);erw[ax (by simp)];show eE (s0:=s) (s:={s' with heap:=h1}) (fr':=C.env.frame) S1 X1 (by intro z;right) fun h2 g k2 U U X2=>?_;have S2:=S1.xs jl k2;have K2:=K1.xs S0 S1 rfl k2;show q e x ae σ' ρ' _ r K2 S2 ⟨g,X2⟩
end
set_option backward.match.sparseCases true
def dI(B:Base)(v:Value):Prop:=∀h,(∀a o,B.heap.get? a=some o→h.get? a=some o)→∃k,(k=Keeper.frame∨k=Keeper.machine∨k=Keeper.boundFrame)∧Looks B.M h (keeperOf v) k
theorem dI.builtin{i:String}:dI B (.builtin i):=fun h U=>⟨.machine,.inr (.inl rfl),Looks.now⟩
theorem dI.type{i:String}:dI B (.type i):=fun h U=>⟨.machine,.inr (.inl rfl),Looks.now⟩
theorem dI.fn{o:Obj}(ho:B.heap.get? a=some o)(hd:o.data= .func fd):dI B (.ref a):=fun h hk=>by show cM .frame (.inl rfl) ((Looks.ld (part:=none) (hk _ _ ho)).andThen ?_);erw[hd];show .now
structure cm(B:Base)(a:Addr)(fd:FuncData)(body:List Stmt)(xs:List Str):Prop where
 at_:∃o,B.heap.get? a=some o∧o.data= .func fd
 code:B.heap.CodeRec fd.code fd.qualname
 body:fd.body= .stmts body
 Fl:fd.closure=[]
 glob:fd.globals=mainGlobals
 blt:fd.builtins=builtinsNs
 bind:∀vs:List Value,vs.length=xs.length→∀s:Shared,(∀a o,B.heap.get? a=some o→s.heap.get? a=some o)→BindsTo s fd ⟨vs,[]⟩ (xs.zip vs)
 nd:xs.Nodup
 kinds:∀x∈xs,fd.scope.names.lookup x=some .local∨(fd.scope.names.lookup x=some .cell)
 co:fd.scope.isCoroutine=false
 gen:fd.scope.isGenerator=false
 kind:fd.scope.kind= .function
 cells:∃ns:List Str,ns.Nodup∧(∀n,(cellsFrom n fd.scope.names []).map (·.1)=ns)∧∀x,fd.scope.names.lookup x=some .cell→x∈ns
theorem de{α:Type}:∀{l:List (Str×α)} {x:Str},x∈l.map (·.1)→∃c,l.lookup x=some c:=fun{l x} m=>by show aa (mem_map.mp m) ?_;rintro p hp rfl;show iB hp
theorem gi{α:Type}{l:List (Str×α)}:∀{p:Str×α},(l.map (·.1)).Nodup→p∈l→l.lookup p.1=some p.2:=by
 induction l with
 |nil=>intro p _ m;right
 |cons y r ih=>
  intro p nd m;replace nd:=map_cons▸nd;rw[nodup_cons]at nd;erw[lookup_cons]
  rcases mem_cons.mp m with rfl|m'
  ·simp
  ·have:(p.1==y.1)=false:=by rw[beq_eq_false_iff_ne];intro e;show nd.1 (e▸List.mem_map_of_mem (f:=(·.1)) m')
   erw[this];show ih nd.2 m'
theorem n9{k:Str→Option NameKind}{l:List (Str×Value)}:∀{m:Str→Option Value},x∉l.map (·.1)→bindL k l m x=m x:=by
 induction l with
 |nil=>show fun U=>rfl
 |cons p r ih=>
  intro m h;obtain⟨n,v⟩:=p;replace h:=map_cons▸h;rw[mem_cons,not_or]at h;show(?_:bindL k r _ x=_);erw[ih h.2]
  split
  ·show(?_:(if x=n then some v else m x)=m x);show aD rfl (ax h.1)
  ·rfl
theorem oa{k:Str→Option NameKind}{l:List (Str×Value)}:∀{m:Str→Option Value},x∉l.map (·.1)→bindC k l m x=m x:=by
 induction l with
 |nil=>show fun U=>rfl
 |cons p r ih=>
  intro m h;obtain⟨n,v⟩:=p;replace h:=map_cons▸h;rw[mem_cons,not_or]at h;show(?_:bindC k r _ x=_);erw[ih h.2]
  split
  ·rfl
  ·show(?_:(if x=n then some v else m x)=m x);show aD rfl (ax h.1)
theorem gH{α β:Type}{xs:List α}:∀{vs:List β},vs.length=xs.length→(xs.zip vs).map (·.1)=xs:=by
 induction xs with
 |nil=>show fun U=>rfl
 |cons x xs ih=>
  intro vs h
  cases vs with
  |nil=>right
  |cons v vs=>simp[ih (vs:=vs) (by simpa using h)]
theorem ma{k:Str→Option NameKind}{xs:List Str}:∀{as:List LV} {vs:List Value} {m c:Str→Option Value},xs.Nodup→bz h ρ as vs→as.length=xs.length→∀{x lv},(xs.zip as).lookup x=some lv→
  ∃v,Rep h ρ lv v∧(k x=some .local→bindL k (xs.zip vs) m x=some v)∧(k x≠some .local→bindC k (xs.zip vs) c x=some v):=by
 induction xs with
 |nil=>intro _ _ _ _ _ _ _ x lv e;simp at e
 |cons y ys ih=>
  intro as vs m c nd R hl x lv e
  cases as with
  |nil=>right
  |cons a as=>
   show bb R ?_;rintro v vs rfl R1 R2;rw[nodup_cons]at nd;replace e:=zip_cons_cons▸e;rw[lookup_cons]at e
   have len:vs.length=ys.length:=by erw[R2.length];simpa using hl
   by_cases q:(x==y)=true
   ·replace e:=q▸e
    injection e with z;subst z
    obtain rfl:=eB q
    have off:x∉(ys.zip vs).map (·.1):=by erw[gH len];show nd.1
    show oX v R1 (fun hk=>?_) (fun hk=>?_)
    ·erw[zip_cons_cons,n9 off];rw[aJ hk,aJ rfl]
    ·erw[zip_cons_cons,oa off];rw[ax hk,aJ rfl]
   ·rw[Bool.not_eq_true]at q;replace e:=q▸e;erw[zip_cons_cons];show ih nd.2 R2 (by simpa using hl) e
noncomputable def lK:FV→LV
 | .ret r=>r
 |_=>.none
noncomputable abbrev Sx.lL(X:Sx)(env:aQ)(fd:FuncData):Sx:=⟨fd.scope,X.d+1,X.hn,true,fun x U σ=>X.R x env σ,some fd.code⟩
theorem call_cells{o:Obj}{fd:FuncData}{binds:List (Str×Value)}(kj:A.depth<recursionLimit)(ho:s.heap.get? a=some o)(dp:o.data= .func fd)(EN:s.heap.NoLimit)(CQ:s.heap.CodeRec fd.code fd.qualname)(nv:fd.body= .stmts body)(z8:BindsTo s fd ⟨vals,[]⟩ binds)(EO:fd.closure=[])(Aa:∀x∈binds,fd.scope.names.lookup x.1=some .local∨(fd.scope.names.lookup x.1=some .cell∧((cellsFrom (s.heap.objs.size+1) fd.scope.names []).lookup x.1).isSome=true))(h:∀s₁,InCallC s (callEnvC fd s.heap.objs.size a).locals (bindL (callEnvC fd s.heap.objs.size a).kindOf binds fun U=>none) (callEnvC fd s.heap.objs.size a).cells (bindC (callEnvC fd s.heap.objs.size a).kindOf binds fun U=>none) s₁→
   wpAny (model prog w) (A.deeper (callEnvC fd s.heap.objs.size a)) (execs body (callEnvC fd s.heap.objs.size a)) (fun f s'=>R (.ok (.ret (match f with| .ret v=>v|_=>.none))) s')
    (fun e s'=>wpAny (model prog w) (A.deeper (callEnvC fd s.heap.objs.size a)) (leaving (callEnvC fd s.heap.objs.size a) e) (fun U lX=>R (.error e) lX) (fun e' lX=>R (.error e') lX) s') s₁) (Hl:fd.scope.isCoroutine=false) (si:fd.scope.isGenerator=false) (hk:fd.scope.kind= .function):codeAny (model prog w) A (.call (.ref a) ⟨vals,[]⟩) R s:=by
 show codeAny_call_function kj ho dp Hl si nv CQ (z8 _ _ _ _ ?_);erw[EO];show wpAny_newFunctionEnv_cells hk Aa fun env he s' x=>?_;subst he;show⟨EN.keeps x.toInCall.keep,codeAny_func (h s' x)⟩
theorem Ct{xs:List Str}{as:List LV}(hB:B.Ok)(F:cm B a fd body xs)(hd:X.d≤300)(hl:as.length=xs.length)(C:Cx)(O:bC C)(hX:X.At C)(ρ:Cells)(s:Shared)(E:VP)(Q:VP)(vs:List Value)(S:St B C ρ env σ s.heap)(qe:Exc B X C ρ s E)(R:bz s.heap ρ as vs)(q:∀r σ' v ρ' s',P r σ'→Kept C ρ s ρ' s'→St B C ρ' env σ' s'.heap→Rep s'.heap ρ' r v→Q v s')(A:Around)(hA:A.handled=C.A.handled∧A.frames=C.A.frames∧A.depth≤C.A.depth+1∧A.units≤C.A.units+16)(s₁:Shared)(hIn:InCallC s (callEnvC fd s.heap.objs.size a).locals (bindL (callEnvC fd s.heap.objs.size a).kindOf (xs.zip vs) fun U=>none) (callEnvC fd s.heap.objs.size a).cells (bindC (callEnvC fd s.heap.objs.size a).kindOf (xs.zip vs) fun U=>none) s₁):
  ∃dq,let C':Cx:=⟨A.deeper (callEnvC fd s.heap.objs.size a),callEnvC fd s.heap.objs.size a,dq⟩
   bC C'∧Sx.At (X.lL env fd) C'∧St B C' ρ (xs.zip as) σ s₁.heap∧
   Exc B (X.lL env fd) C' ρ s₁ (fun e s'=>wpAny B.M (A.deeper (callEnvC fd s.heap.objs.size a)) (leaving (callEnvC fd s.heap.objs.size a) e) (fun U lX=>E e lX) (fun e' lX=>E e' lX) s')∧
   ∀f fv c7 σ' ρ' s',P (lK fv) σ'→Kept C' ρ s₁ ρ' s'→St B C' ρ' c7 σ' s'.heap→iT s'.heap ρ' fv f→Q (match f with| .ret v=>v|_=>.none) s':=by
 show qA hA fun a1 a2 a3 a4=>?_;have dep:C.A.depth≤310+2*C.dq.length:=O.depth;have Mo:C.dq.length≤X.d:=hX.d;show bJ F.cells fun ns Kn Ft Hm=>?_;have w1:∀n x,fd.scope.names.lookup x=some .cell→∃c,(cellsFrom n fd.scope.names []).lookup x=some c:=fun n x e=>de (by erw[Ft n];show Hm x e);obtain⟨⟨⟨h1,tk,e1⟩,EP,keep,xe⟩,iM,hapart,habove⟩:=hIn;have big:∀b o,s.heap.get? b=some o→b<s.heap.objs.size:=fun b o e=>Heap.lt_size e;let ae:=callEnvC fd s.heap.objs.size a;let C':Cx:=⟨A.deeper ae,ae,ae::C.dq⟩
 have O':bC C':=⟨⟨by show(?_:Option.map _ _=_);erw[a2,O.frames];rfl,by show(?_:A.depth+1≤310+2*(C.dq.length+1));ac_rfl,by show(?_:A.units+3≤1000+20*(C.dq.length+1));have:=O.units;ac_rfl,F.kind,F.glob,F.blt⟩,
  fun x e=>w1 _ x e⟩
 have bZ:Sx.At (X.lL env fd) C':=⟨rfl,by show(?_:C.dq.length+1≤X.d+1);show Nat.succ_le_succ ‹_›,fun z=>a1.trans (hX.hn z),fun U=>⟨C.dq,rfl⟩,fun v z=>by cases z;rfl⟩;have ER:∀p∈ae.cells,s.heap.objs.size<p.2:=fun p hp=>habove p.1 p.2 hp
 have lY:∀b∈C'.own,s.heap.objs.size≤b:=fun b hb=>by
  rcases mem_cons.mp hb with rfl|hb
  ·show Nat.le_refl _
  ·show aa (mem_map.mp hb) ?_;rintro p hp rfl;show Nat.le_of_lt (ER p hp)
 have CR:C'.outs=s.heap.objs.size::C.outs:=rfl
 have ny:∀b∈flat ρ,b<s.heap.objs.size:=fun b hb=>by show av (iA (S.out b hb).2) fun o ho=>?_;show big _ _ ho
 have Iv:bj ρ s.heap s₁.heap:=fun b o U U e=>keep b o e
 have S':St B C' ρ (xs.zip as) σ s₁.heap:=by
  show⟨⟨_,EP,fun x lv e=>?_⟩,fun p hp=>?_,hapart,fun b hb=>⟨?_,fun m=>?_⟩,fun b o e=>keep b o (S.base b o e),fun e he=>?_,fun b hb=>⟨(S.out b hb).1,?_⟩,S.nd,S.len,
   fun i o c hi hc=>(S.iR i o c hi hc).mono (fun b o U e=>keep b o e) Iv (.refl _ _)⟩
  ·show bJ (ma (k:=ae.kindOf) (m:=fun U=>none) (c:=fun U=>none) F.nd R hl e) fun v r ES Kp=>?_;show cM v ?_ (r.mono Iv (.refl _ _))
   have hx:x∈xs:=by have:=aj e;have:=List.mem_map_of_mem (f:=(·.1)) this;replace this:=gH hl▸this;show this
   rcases F.kinds x hx with kx|kx
   ·show .inl ⟨kx,ES kx⟩
   ·show av (w1 (s.heap.objs.size+1) x kx) fun c hc=>?_;show .inr ⟨.inl kx,c,hc,?_⟩;have:=iM x c hc;replace this:=(Kp (by show(?_:fd.scope.names.lookup x≠_);erw[kx];intro z;right))▸this;show this
  ·have:=gi (by show(?_:((cellsFrom (s.heap.objs.size+1) fd.scope.names []).map (·.1)).Nodup);erw[Ft ..];show Kn) hp;show⟨_,iM _ _ this⟩
  ·cases q:B.heap.get? b with
   |none=>rfl
   |some o=>show absurd (big _ _ (S.base _ _ q)) (Nat.not_lt.mpr (lY b hb))
  ·show absurd (ny b m) (Nat.not_lt.mpr (lY b hb))
  ·rcases mem_cons.mp he with rfl|he
   ·show⟨(by show(?_:fd.scope.kind≠_);erw[F.kind];intro z;right),s.heap.objs.size,_,rfl,fun m=>absurd (ny _ m) (Nat.lt_irrefl _),EP,dc S⟩
   ·show aA (S.dq e he) fun q hZ=>?_;show bY hZ fun L m x1 x2 x3 x4=>?_;show⟨q,L,m,x1,x2,x3.keeps keep,x4⟩
  ·show av (iA (S.out b hb).2) fun o ho=>?_;erw[keep b o ho];rfl
 have back:∀{ρ':Cells} {s':Shared} {σ':List LO} {c7:aQ},Kept C' ρ s₁ ρ' s'→St B C' ρ' c7 σ' s'.heap→Kept C ρ s ρ' s'∧St B C ρ' env σ' s'.heap:=by
  intro ρ' s' σ' c7 K' T
  have u9:∀b o,b∉flat ρ→b∉C.outs→s.heap.get? b=some o→s'.heap.get? b=some o:=fun b o n m e=>
   K'.keep b o n (fun m=>absurd (big _ _ e) (Nat.not_lt.mpr (lY b m))) (fun z=>by
    replace z:=CR▸z
    rcases mem_cons.mp z with rfl|z
    ·show absurd (big _ _ e) (Nat.lt_irrefl _)
    ·show m z) (keep b o e)
  have lH:∀b o,b∉flat ρ→s.heap.get? b=some o→∃o',s'.heap.get? b=some o'∧o'.data=o.data:=fun b o n e=>by
   by_cases m:b∈C.outs
   ·show K'.outs b o (by erw[CR];show .tail _ m) n (fun m=>absurd (big _ _ e) (Nat.not_lt.mpr (lY b m))) (keep b o e)
   ·show⟨o,u9 b o n m e,rfl⟩
  have ext:aF s.heap ρ ρ':=by
   show aa K'.ext fun ex e1 e2=>?_;show cM ex e1 (fun b hb=>?_)
   cases q:s.heap.get? b with
   |none=>rfl
   |some o=>have:=e2 b hb;replace this:=keep b o q▸this;right
  have alive:∀b,(s.heap.get? b).isSome→(s'.heap.get? b).isSome:=fun b hb=>K'.alive b (by(show av (iA hb) fun o ho=>?_);erw[keep b o ho];rfl)
  have gg:GX s.gens s'.gens:=by have:=K'.gens;replace this:=e1▸this;show this
  have K:Kept C ρ s ρ' s':=⟨fun b o n U m e=>u9 b o n m e,fun b o U n U e=>lH b o n e,alive,ext,gg,by(erw[K'.os];show aD rfl e1)⟩;have qo:∀b∈C.own,b∉flat ρ:=fun b hb=>(S.ow b hb).2
  have Kq:∀b∈C.own,∃o,s.heap.get? b=some o:=fun b hb=>by
   rcases mem_cons.mp hb with rfl|hb
   ·show aa S.ns fun m hm U=>?_;show iA (Ns.alive hm)
   ·show aa (mem_map.mp hb) ?_;rintro p hp rfl;show av (S.jm p hp) fun v hv=>?_;show iA (IsCell.alive hv)
  have zZ:∀{L m},L∉flat ρ→s.heap.Ns L m→s'.heap.Ns L m:=fun{L m} n q=>by show gy q fun o es ep ho hd r=>?_;show aa (lH L o n ho) fun o' eN du=>?_;show AD o' es ep eN (du.trans hd) r
  have ck:∀{c v},c∉flat ρ→s.heap.IsCell c v→s'.heap.IsCell c v:=fun{c v} n q=>by show aa q fun o ho r=>?_;show aa (lH c o n ho) fun o' eN du=>?_;show⟨o',eN,du.trans r⟩
  have fk:bj ρ s.heap s'.heap:=fun b o n f e=>u9 b o n (S.fz f e) e;show⟨K,?_⟩;show aa S.ns fun m hm hv=>?_;show⟨⟨m,zZ (qo _ (.head _)) hm,fun x lv e=>?_⟩,fun p hp=>?_,S.apart,fun b hb=>⟨(S.ow b hb).1,?_⟩,fun b o e=>u9 b o (fun m=>by replace e:=(S.out b m).1▸e;right) (fun m=>by replace e:=(S.eU m).2.2▸e;right) (S.base b o e),fun e he=>?_,T.out,T.nd,T.len,T.iR⟩
  ·show aa (hv x lv e) fun v x1 x2=>?_;show cM v ?_ (x2.mono fk ext)
   rcases x1 with q|⟨q,c,y1,y2⟩
   ·show .inl q
   ·show .inr ⟨q,c,y1,ck (qo _ (.tail _ (List.mem_map_of_mem (f:=(·.2)) (aj y1)))) y2⟩
  ·show av (S.jm p hp) fun v hv=>?_;show⟨v,ck (qo _ (.tail _ (List.mem_map_of_mem (f:=(·.2)) hp))) hv⟩
  ·show av (Kq b hb) fun o ho=>?_;show ext.out (qo b hb) ho
  ·show aA (S.dq e he) fun q hZ=>?_;show bY hZ fun L m x1 x2 x3 x4=>?_;show sI (id x3) fun o es ep ho r=>?_;show⟨q,L,m,x1,ext.out x2 ho,zZ x2 x3,x4⟩
 show FN (ae::C.dq) O' bZ S' (fun e x c7 σ' ρ' s' r K' T Xe=>?_) (fun f fv c7 σ' ρ' s' p' K' T R'=>?_)
 ·show av Xe fun f Xe=>?_;have jl:=jz S';show vB (s0:=s₁) O'.frames (outer:=C.dq) rfl (L:=s.heap.objs.size) rfl T Xe jl K'.alive fun h2 k2 X2=>?_;show aA (back (K'.xs S' T rfl k2) (T.xs jl k2)) fun K S2=>?_;show qe e x env σ' ρ' _ r K S2 ⟨.up,X2.Dl.since fun b hb=>?_⟩;show av (iA hb) fun o ho=>?_;erw[keep b o ho];rfl
 show aA (back K' T) fun K S2=>?_
 induction fv using FV.casesOn with
 |next=>obtain rfl:=R';show q _ _ _ _ _ p' K S2 rfl
 |brk=>obtain rfl:=R';show q _ _ _ _ _ p' K S2 rfl
 |cont=>obtain rfl:=R';show q _ _ _ _ _ p' K S2 rfl
 |ret r=>(show aa R' ?_;rintro v rfl R');show q _ _ _ _ _ p' K S2 R'
theorem Cu{xs:List Str}{as:List LV}(hB:B.Ok)(F:cm B a fd body xs)(hd:X.d≤300)(hl:as.length=xs.length)(h:dY B (X.lL env fd) (xs.zip as) σ body fun fv ae σ'=>P (lK fv) σ')(C:Cx)(O:bC C)(hX:X.At C)(ρ:Cells)(s:Shared)(E:VP)(Q:VP)(vs:List Value)(S:St B C ρ env σ s.heap)(qe:Exc B X C ρ s E)(R:bz s.heap ρ as vs)(q:∀r σ' v ρ' s',P r σ'→Kept C ρ s ρ' s'→St B C ρ' env σ' s'.heap→Rep s'.heap ρ' r v→Q v s')(A:Around)(hA:A.handled=C.A.handled∧A.frames=C.A.frames∧A.depth≤C.A.depth+1∧A.units≤C.A.units+16):
  codeAny B.M A (.call (.ref a) ⟨vs,[]⟩) (fun r s'=>match r with| .ok (.ret v)=>Q v s'| .ok _=>False| .error e=>E e s') s:=by
 have Kr:=hA;show qA hA fun a1 a2 a3 a4=>?_;show aa F.at_ fun o ho dp=>?_
 have len:vs.length=xs.length:=by(erw[R.length];show aD rfl hl)
 have dep:C.A.depth≤310+2*C.dq.length:=O.depth;have Mo:C.dq.length≤X.d:=hX.d;show bJ F.cells fun ns Kn Ft Hm=>?_;have w1:∀n x,fd.scope.names.lookup x=some .cell→∃c,(cellsFrom n fd.scope.names []).lookup x=some c:=fun n x e=>de (by erw[Ft n];show Hm x e)
 show call_cells (by unfold recursionLimit;ac_rfl) (S.base _ _ ho) dp (hB.nolimit.keeps S.base) (by
   show nJ F.code fun c oc us tq e1 e2 e3 e4=>?_
   show Ja c oc us tq e1 (S.base _ _ e2) e3 e4) F.body (F.bind vs len s S.base) F.Fl (fun x hx=>?_) (fun s₁ hIn=>?_) F.co F.gen F.kind
 ·have Ks:x.1∈xs:=by have:=List.mem_map_of_mem (f:=(·.1)) hx;replace this:=gH len▸this;show this
  rcases F.kinds _ Ks with e|e
  ·show .inl e
  ·show av (w1 (s.heap.objs.size+1) _ e) fun c hc=>?_;show .inr ⟨e,by erw[hc];rfl⟩
 show oY (Ct hB F hd hl C O hX ρ s E Q vs S qe R q A Kr s₁ hIn) fun dq O' bZ S' Kt q'=>?_;show h _ O' bZ ρ s₁ _ _ S' Kt q'
theorem aM.fn{xs:List Str}{as:List LV}(hB:B.Ok)(F:cm B a fd body xs)(hd:X.d≤300)(hl:as.length=xs.length)(h:dY B (X.lL env fd) (xs.zip as) σ body fun fv ae σ'=>P (lK fv) σ'):aM B X env σ as (fun vs=>PySem.call (.ref a) vs) P:=fun C O hX ρ s E Q vs S qe R q=>
 wpAny_call (Cu hB F hd hl h C O hX ρ s E Q vs S qe R q C.A ⟨rfl,rfl,by show Nat.le_add_right _ _,by show Nat.le_add_right _ _⟩)
set_option backward.match.sparseCases false
def dZ(B:Base)(X:Sx)(env:aQ)(σ:List LO)(o i:LV)(P:kr):Prop:=
 ∀(C:Cx),bC C→X.At C→∀(ρ:Cells) (s:Shared) (E:VP) (Q:VP) (x y:Value),St B C ρ env σ s.heap→Rep s.heap ρ o x→Rep s.heap ρ i y→
  (∀r σ' v ρ' s',P r σ'→Kept C ρ s ρ' s'→St B C ρ' env σ' s'.heap→Rep s'.heap ρ' r v→Q v s')→
  ∃T id,typeLookup (.type T) "__getitem__"=pure (some (.builtin id))∧s.TypeIs x T∧wpAny B.M C.A (getItem x y) Q E s
theorem aS.item(h:aS B X env σ value fun o σ1=>aS B X env σ1 slice fun i σ2=>dZ B X env σ2 o i P)(hs:∀o i,subscripted slice false o i=operate [o,i] (getItem o i):=by intro U U;rfl):aS B X env σ (.Subscript value slice pos) P:=fun C O hX ρ s E Q S qe q=>by
 show Subscript_ (h C O hX ρ s E _ S qe fun o σ1 vo ρ1 s1 h1 K1 S1 R1=>h1 C O hX ρ1 s1 E _ S1 (qe.since K1) fun i σ2 vi ρ2 s2 h2 K2 S2 R2=>?_);show bb (h2 C O hX ρ2 s2 E Q vo vi S2 (K2.rep S1 R1) R2 fun r σ' v ρ' s' p' K' S' R'=>q _ _ _ _ _ p' ((K1.trans K2).trans K') S' R') fun T id tl ty hg=>?_;unfold subscriptTail;show V ?_;erw[getitemInPython_of_ne ty.not_modules];show V (wpAny_specialOf ty tl ?_)
 have fin:wpAny B.M C.A (subscripted slice false vo vi) (fun r s₃=>wpAny B.M C.A (letTemporaryGo value vo r>>=fun U=>pure r) Q E s₃) E s2:=by erw[hs ..];show wpAny_operating (jt hg (fun r s₃ h₃=>V (wpAny_letTemporaryGo (aG h₃))) fun U U x=>x)
 first
  |show aG (V fin)
  |show V (aG (V fin))
  |show V fin
theorem bz.get{l:List LV}:∀{vs:List Value} {i:Nat} {x:LV},bz h ρ l vs→l[i]? =some x→∃v,vs[i]? =some v∧Rep h ρ x v:=by
 induction l with
 |nil=>intro _ _ _ _ e;simp at e
 |cons y r ih=>
  intro vs i x r e;show bb r ?_;rintro v vs rfl a b
  cases i with
  |zero=>cases e;show⟨v,rfl,a⟩
  |succ i=>show ih (i:=i) b e
theorem St.list{id:Nat}(S:St B C ρ env σ h)(r:Rep h ρ (.obj id) v)(e:σ[id]? =some (.list l)):
  ∃c vs,ρ[id]? =some c∧v= .ref c.1∧c.2=[]∧h.PlainList c.1 vs.toArray∧bz h ρ l vs:=by
 show aa r ?_;rintro c hc rfl;show aA (S.iR id _ c e hc) fun h1 hZ=>?_;show aa hZ fun vs h2 h3=>?_;show⟨c,vs,hc,rfl,h1,h2,h3⟩
theorem dZ.list{id:Nat}{k:Int}{x:LV}(e:σ[id]? =some (.list l))(h0:0≤k)(h1:k<2 ^ 63)(hx:l[k.toNat]? =some x)(h:P x σ):dZ B X env σ (.obj id) (.int k) P:=fun C O hX ρ s E Q vo vi S ro ri q=>by show cN (S.list ro e) ?_;rintro c vs hc rfl c2 pl hr;have hl:=pl.isList;show av ri ?_;rintro t rfl;show aa (hr.get hx) fun v hv rv=>?_;show⟨"list",_,slot_list_getitem.lookup,hl.typeIs,wpAny_getItem_list hl h0 h1 (by simpa using hv) (q _ _ _ ρ s h (.rr rfl rfl rfl) S rv)⟩
theorem dZ.AJ{id:Nat}{k:Int}{x:LV}(e:σ[id]? =some (.list l))(h0:k<0)(h1: -(l.length:Int)≤k)(h2:l.length<2 ^ 62)(hx:l[(k+l.length).toNat]? =some x)(h:P x σ):dZ B X env σ (.obj id) (.int k) P:=fun C O hX ρ s E Q vo vi S ro ri q=>by show cN (S.list ro e) ?_;rintro c vs hc rfl c2 pl hr;have hl:=pl.isList;show av ri ?_;rintro t rfl;show aa (hr.get hx) fun v hv rv=>?_;have hlen:=hr.length;show⟨"list",_,slot_list_getitem.lookup,hl.typeIs,wpAny_getItem_list_neg hl h0 (by simp only[List.size_toArray,hlen];show h1) (by lia) (by simpa[hlen]using hv) (q _ _ _ ρ s h (.rr rfl rfl rfl) S rv)⟩
theorem dZ.kq{k:Int}{x:LV}(h0:0≤k)(h1:k<2 ^ 63)(hx:l[k.toNat]? =some x)(h:P x σ):dZ B X env σ (.kq l) (.int k) P:=fun C O hX ρ s E Q vo vi S ro ri q=>by show bY ro ?_;rintro a vs rfl na hl hr;show av ri ?_;rintro t rfl;show aa (hr.get hx) fun v hv rv=>?_;show⟨"list",_,slot_list_getitem.lookup,hl.typeIs,wpAny_getItem_list hl h0 h1 (by simpa using hv) (q _ _ _ ρ s h (.rr rfl rfl rfl) S rv)⟩
theorem dZ.tup{k:Int}{x:LV}(h0:0≤k)(h1:k<2 ^ 63)(hx:l[k.toNat]? =some x)(h:P x σ):dZ B X env σ (.tup l) (.int k) P:=fun C O hX ρ s E Q vo vi S ro ri q=>by
 show bY ro ?_;rintro a vs rfl na ht hr;show av ri ?_;rintro t rfl;show aa (hr.get hx) fun v hv rv=>?_;have Km:IsTup s.heap a vs.toArray:=ht;have nG:k.toNat<vs.length:=(dU hv).1
 show⟨"tuple",_,slot_tuple_getitem.lookup,Km.typeIs,getItem_tuple (j:=k.toNat) Km (by lia) h1 (by
  have n0:¬ k<0:=by show Int.not_lt.mpr ‹_›
  simp only[seqIndex?,List.size_toArray,if_neg n0]
  have:k<(vs.length:Int):=by ac_rfl
  simp[h0,this]) (by simpa using hv) (q _ _ _ ρ s h (.rr rfl rfl rfl) S rv)⟩
def me(I:sG)(i:Nat)(P:dO):dO
 | .next,env,σ=>I (i+1) env σ
 | .cont,env,σ=>I (i+1) env σ
 | .brk,env,σ=>P .next env σ
 | .ret r,env,σ=>P (.ret r) env σ
structure Iter(B:Base)(C:Cx)(it:Addr)(items:Nat→Option LV)(At:Nat→Heap→Prop)(G:Cells→aQ→List LO→Prop):Prop where
 obj:∀i h,At i h→∃o,h.get? it=some o∧¬ l7 o∧∀es n,o.data≠.dict es n
 keep:∀i h h',At i h→(∀o,h.get? it=some o→h'.get? it=some o)→At i h'
 item:∀i v ρ env σ (s:Shared) (E:VP) (Q:Option Value→Shared→Prop),items i=some v→G ρ env σ→St B C ρ env σ s.heap→it∉flat ρ→At i s.heap→
  (∀val h' tk,At (i+1) h'→Heap.SameBut it s.heap h'→Rep h' ρ v val→Q (some val) {s with heap:=h',toks:=tk})→wpAny B.M C.A (pyNext (.ref it)) Q E s
 stop:∀i ρ env σ (s:Shared) (E:VP) (Q:Option Value→Shared→Prop),items i=none→G ρ env σ→St B C ρ env σ s.heap→At i s.heap→
  (∀h',Heap.ExtBut it s.heap h'→Q none {s with heap:=h'})→wpAny B.M C.A (pyNext (.ref it)) Q E s
structure gI(B:Base)(C:Cx)(it:Addr)(s1:Shared):Prop where
 hit:s1.heap.get? it=none
 nb:B.heap.get? it=none
 own:it∉C.own
 sL:it∉C.outs
structure LoopAt(B:Base)(C:Cx)(it:Addr)(At:Nat→Heap→Prop)(ρs:Cells)(s1:Shared)(i:Nat)(ρ:Cells)(env:aQ)(σ:List LO)(s:Shared):Prop where
 K:Kept C ρs s1 ρ s
 S:St B C ρ env σ s.heap
 A:At i s.heap
 nf:it∉flat ρ
section
variable{P:dO}{it:Addr}{ρs:Cells}{items:Nat→Option LV}{At:Nat→Heap→Prop}{G:Cells→aQ→List LO→Prop}{i:Nat}{Q:Option Value→Shared→Prop}
theorem LoopAt.after(W:Iter B C it items At G)(F:gI B C it s1)(L:LoopAt B C it At ρs s1 i ρ env σ s){s':Shared}(K':Kept C ρ s ρ' s')(S':St B C ρ' ae σ' s'.heap):LoopAt B C it At ρs s1 i ρ' ae σ' s':=
 ⟨L.K.trans K',S',W.keep _ _ _ L.A fun o e=>K'.keep it o L.nf F.own F.sL e,(W.obj _ _ L.A).elim fun o q=>K'.ext.out L.nf q.1⟩
theorem LoopAt.ext(W:Iter B C it items At G)(F:gI B C it s1)(L:LoopAt B C it At ρs s1 i ρ env σ s)(x:Heap.ExtBut it s.heap h'):Kept C ρs s1 ρ {s with heap:=h',toks:=tk}∧St B C ρ env σ h':=
 (W.obj _ _ L.A).elim fun o q=>⟨L.K.oZ x F.hit rfl rfl rfl,L.S.iS x L.nf F.own F.nb (fun o' e=>Option.some.inj (q.1.symm.trans e)▸q.2.1) (fun o' e=>Option.some.inj (q.1.symm.trans e)▸q.2.2)⟩
theorem LoopAt.next(W:Iter B C it items At G)(F:gI B C it s1)(L:LoopAt B C it At ρs s1 i ρ env σ s)(g:G ρ env σ){v:LV}(hv:items i=some v)(q:∀val s',LoopAt B C it At ρs s1 (i+1) ρ env σ s'→Rep s'.heap ρ v val→Q (some val) s'):wpAny B.M C.A (pyNext (.ref it)) Q E s:=
 W.item i v ρ env σ s E Q hv g L.S L.nf L.A fun val h' tk A1 sb rv=>q val _ ⟨(L.ext W F sb.extBut).1,(L.ext W F sb.extBut (tk:=tk)).2,A1,L.nf⟩ rv
theorem LoopAt.stop(W:Iter B C it items At G)(F:gI B C it s1)(L:LoopAt B C it At ρs s1 i ρ env σ s)(g:G ρ env σ)(hv:items i=none)(q:∀s',Kept C ρs s1 ρ s'→St B C ρ env σ s'.heap→Q none s'):wpAny B.M C.A (pyNext (.ref it)) Q E s:=
 W.stop i ρ env σ s E Q hv g L.S L.A fun h' he=>q {s with heap:=h'} (L.ext W F he (tk:=s.toks)).1 (L.ext W F he (tk:=s.toks)).2
theorem oe(O:bC C)(hX:X.At C){upd:LV→aQ→aQ}{N:Nat}(hN:∀i v,items i=some v→i<N){I:sG}(W:Iter B C it items At G)(IG:∀i ρ env σ,I i env σ→aF s1.heap ρs ρ→G ρ env σ)(F:gI B C it s1)(asg:∀i v ρ env σ (s:Shared) val (E:VP) (Q:sF),items i=some v→At (i+1) s.heap→St B C ρ env σ s.heap→Rep s.heap ρ v val→(∀s',Kept C ρ s ρ s'→St B C ρ (upd v env) σ s'.heap→Q () s')→wpAny B.M C.A (letOwnedTupleGo target (.ref it) val) (fun U s'=>wpAny B.M C.A (PySem.assign target C.env val) Q E s') E s)(step:∀i v env σ,items i=some v→I i env σ→dY B X.calm (upd v env) σ body (me I i P))(fin:∀i env σ,items i=none→I i env σ→P .next env σ)(L0:LoopAt B C it At ρs s1 0 ρ env σ s2)(I0:I 0 env σ)(q:∀f fv ae σ' ρ' s',P fv ae σ'→Kept C ρs s1 ρ' s'→St B C ρ' ae σ' s'.heap→iT s'.heap ρ' fv f→R (.ok f) s'):
  codeAny B.M C.A (.forLoop target (.ref it) body [] C.env) R s2:=by
 show codeAny_forLoop_any (fun n s=>∃i ρ env σ,n=N-i∧I i env σ∧LoopAt B C it At ρs s1 i ρ env σ s) ?_ N ⟨0,ρ,env,σ,rfl,I0,L0⟩;rintro n s zq;show vt zq ?_;rintro i ρ env σ rfl hI L
 cases hv:items i with
 |none=>show L.stop W F (IG _ _ _ _ hI L.K.ext) hv fun s' K' S'=>wpAny_execs_nil (q .next .next env σ ρ s' (fin i env σ hv hI) K' S' rfl)
 |some v=>
  show L.next W F (IG _ _ _ _ hI L.K.ext) hv fun val s' L rv=>asg i v ρ env σ s' val _ _ hv L.A L.S rv fun s3 K3 S3=>?_;have L:=L.after W F K3 S3;show step i v env σ hv hI C O hX.calm ρ s3 _ _ S3 .calm fun f fv ae σ' ρ' s' p' K' S' R'=>?_;have L:=L.after W F K' S'
  have again:I (i+1) ae σ'→∃m,m<N-i∧∃i' ρ env σ,m=N-i'∧I i' env σ∧LoopAt B C it At ρs s1 i' ρ env σ s':=fun hi=>
   ⟨_,Nat.sub_lt_sub_left (hN i v hv) (Nat.lt_succ_self i),i+1,ρ',ae,σ',rfl,hi,L⟩
  induction fv using FV.casesOn with
  |next=>obtain rfl:=R';show again p'
  |cont=>obtain rfl:=R';show again p'
  |brk=>obtain rfl:=R';show q .next .next _ _ _ _ p' L.K S' rfl
  |ret r=>(show aa R' ?_;rintro v rfl rr);show q _ (.ret r) _ _ _ _ p' L.K S' ⟨v,rfl,rr⟩
theorem qI(O:bC C)(hX:X.At C)(hk:X.sc.names.lookup x=some .local∨X.sc.names.lookup x=some .cell){N:Nat}(hN:∀i v,items i=some v→i<N){I:sG}(W:Iter B C it items At G)(IG:∀i ρ env σ,I i env σ→aF s1.heap ρs ρ→G ρ env σ)(F:gI B C it s1)(step:∀i v env σ,items i=some v→I i env σ→dY B X.calm (put x v env) σ body (me I i P))(fin:∀i env σ,items i=none→I i env σ→P .next env σ)(L0:LoopAt B C it At ρs s1 0 ρ env σ s2)(I0:I 0 env σ)(q:∀f fv ae σ' ρ' s',P fv ae σ'→Kept C ρs s1 ρ' s'→St B C ρ' ae σ' s'.heap→iT s'.heap ρ' fv f→R (.ok f) s'):
  codeAny B.M C.A (.forLoop (.Name x px) (.ref it) body [] C.env) R s2:=
 oe (upd:=put x) O hX hN W IG F (fun i v ρ env σ s val E Q U U S rv k=>by
  show eA (t:=letOwnedTupleGo (.Name x px) (.ref it) val) (a:=()) rfl ?_;show V (m:=standAt px) (gx (wpAny_bindName ?_))
  show dk O S (by unfold Env.kindOf;erw[hX.1];show hk) rv k) step fin L0 I0 q
end
theorem og(hh:C.A.handled=none){it l:Addr}{id:Nat}{ls:List LV}(jn:it≠l):
  Iter B C it (fun i=>ls[i]?) (fun i h=>h.IsListIter it l i) (fun ρ env σ=>ρ[id]? =some (l,[])∧σ[id]? =some (.list ls)):=by
 show⟨fun i h a=>?_,fun i h h' a k=>?_,fun i v ρ env σ s E Q hv g S nf a q=>?_,fun i ρ env σ s E Q hv g S a q=>?_⟩
 ·show bJ a fun o ho hc hd=>?_;show⟨o,ho,?_,fun es n z=>by replace z:=hd▸z;right⟩;rintro(⟨_,_,z⟩|⟨_,_,z,_⟩|⟨z,_⟩)
  ·replace z:=hd▸z;right
  ·replace z:=hd▸z;right
  ·replace z:=hc▸z;show absurd z (by decide)
 ·show aa a fun o ho r=>?_;show⟨o,k o ho,r⟩
 ·show aA (S.iR id _ _ g.2 g.1) fun U hZ=>?_;show aa hZ fun vs pl rl=>?_;show aa (rl.get hv) fun u hu ru=>?_;show wpAny_pyNext_list_item a pl.isList (by simpa using hu) fun h' a1 sb=>?_;show q u h' s.toks a1 sb (ru.mono (fun b o n f e=>(sb.2 b fun z=>?_).trans e) (.refl _ _));show bJ a fun o' ho hc hd=>?_;replace e:=z▸e;replace e:=ho▸e
  injection e with z;subst z
  rcases f with⟨_,_,z⟩|⟨_,_,z,_⟩|⟨z,_⟩
  ·replace z:=hd▸z;right
  ·replace z:=hd▸z;right
  ·replace z:=hc▸z;show absurd z (by decide)
 ·show aA (S.iR id _ _ g.2 g.1) fun U hZ=>?_;show aa hZ fun vs pl rl=>?_;show wpAny_pyNext_list_end hh a pl.isList ?_ fun h' he=>q h' he;have:=rl.length;simp only[List.getElem?_eq_none_iff]at hv;simp;ac_rfl
theorem dJ{o:Obj}{T:String}{vs:Array Value}(hc:o.cls= .type T)(hd:o.data= .fields vs)(hT:T≠"range"):¬ l7 o:=by
 rintro(⟨_,_,z⟩|⟨_,_,z,_⟩|⟨z,_⟩)
 ·replace z:=hd▸z;right
 ·replace z:=hd▸z;right
 ·replace z:=hc▸z;injection z with z;subst z;show hT rfl
def o8(B:Base)(X:Sx)(env:aQ)(σ:List LO)(o:LV)(x:Str)(px:Pos)(body:List Stmt)(P:dO):Prop:=
 ∀(C:Cx),bC C→X.At C→∀(ρ:Cells) (s:Shared) (E:VP) (Q:qu) (v:Value),St B C ρ env σ s.heap→Exc B X C ρ s E→Rep s.heap ρ o v→
  (∀f fv ae σ' ρ' s',P fv ae σ'→Kept C ρ s ρ' s'→St B C ρ' ae σ' s'.heap→iT s'.heap ρ' fv f→Q f s')→
  wpAny B.M C.A (pyIter v) (fun it s₂=>codeAny B.M C.A (.forLoop (.Name x px) it body [] C.env) (fun r s'=>match r with| .ok f=>Q f s'| .error e=>cameBackBy B.M C.A C.env E e s') s₂) E s
theorem eD.Jq{iter:Expr}{P:dO}(h:aS B X env σ iter fun o σ1=>o8 B X env σ1 o x px body P)(hs:∀ae v,foldedSetIterable iter ae v=pure v):eD B X env σ (.For (.Name x px) iter body [] pos) P:=fun C O hX ρ s E Q S qe q=>
 wpAny_For (h C O hX ρ s E _ S qe fun o σ1 v ρ1 s1 h1 K1 S1 R1=>h1 C O hX ρ1 s1 E Q v S1 (qe.since K1) R1 fun f fv ae σ' ρ' s' p' K' S' R'=>q _ _ _ _ _ _ p' (K1.trans K') S' R') (hs _)
theorem o8.list(hn:X.hn=true){P:dO}(hk:X.sc.names.lookup x=some .local∨X.sc.names.lookup x=some .cell){id:Nat}{ls:List LV}(I:sG)(i0:I 0 env σ)(ig:∀i env σ,I i env σ→σ[id]? =some (.list ls))(step:∀i v env σ,ls[i]? =some v→I i env σ→dY B X.calm (put x v env) σ body (me I i P))(fin:∀env σ i,ls.length≤i→I i env σ→P .next env σ):o8 B X env σ (.obj id) x px body P:=fun C O hX ρ1 s1 E Q v S1 qe R1 q=>by
 have xg:=ig 0 env σ i0;show cN (S1.list R1 xg) ?_;rintro c vs hc rfl c2 pl rl;obtain⟨l,vc⟩:=c;obtain rfl:vc=[]:=c2;show wpAny_pyIter_list pl.isList ?_;have kp:=aC s1.heap {cls:=.type "list_iterator",data:=.fields #[.ref l,.int 0 0]}
 have jn:s1.heap.objs.size≠l:=fun z=>by show av pl fun n e=>?_;have:=Heap.lt_size e;replace this:=z▸this;show Nat.lt_irrefl _ this
 show qI (I:=I) O hX hk (N:=ls.length) (fun i v hi=>(dU hi).1) (og (hX.hn hn) jn) (fun i ρ' ae σ' hI ce=>⟨ce.get hc,ig i ae σ' hI⟩) ⟨bo s1.heap,dc S1,S1.ek,S1.eC⟩ step
  (fun i ae σ' hi hI=>fin ae σ' i (List.getElem?_eq_none_iff.mp hi) hI) (s2:={s1 with heap:=_}) ⟨aR kp rfl rfl,S1.bh kp,⟨_,gh _ rfl,rfl,rfl⟩,S1.fresh⟩ i0 q
noncomputable def bS(a b c:Int)(i:Nat):Option LV:=if(i:Int)<Builtin.Range.rangeSize a b c then oi (a+i*c)else none
theorem jA{a b c:Int}{i:Nat}{v:LV}(h:bS a b c i=some v):(i:Int)<Builtin.Range.rangeSize a b c∧v= .int (a+i*c):=by
 unfold bS at h
 by_cases q:(i:Int)<Builtin.Range.rangeSize a b c
 ·replace h:=aJ q▸h;show⟨q,(Option.some.inj h).symm⟩
 ·replace h:=ax q▸h;right
theorem mf{a b c:Int}{i:Nat}(h:bS a b c i=none):Builtin.Range.rangeSize a b c≤i:=Int.not_lt.mp fun q=>by unfold bS at h;replace h:=aJ q▸h;right
theorem xG{a b c:Int}(i:Nat)(v:LV)(h:bS a b c i=some v):i<(Builtin.Range.rangeSize a b c).toNat:=by have:=(jA h).1;ac_rfl
theorem oh{it:Addr}{a b c:Int}(q:IsRangeIter h it a (Builtin.Range.rangeSize a b c) c):IsRangeIter h it (a+((0:Nat):Int)*c) (Builtin.Range.rangeSize a b c-((0:Nat):Int)) c:=by erw[show a+((0:Nat):Int)*c=a by simp,show Builtin.Range.rangeSize a b c-((0:Nat):Int)=Builtin.Range.rangeSize a b c by simp];show q
theorem iU(hh:C.A.handled=none){it:Addr}{a b c:Int}:
  Iter B C it (bS a b c) (fun i h=>IsRangeIter h it (a+i*c) (Builtin.Range.rangeSize a b c-i) c) (fun ρ env σ=>True):=by
 show⟨fun i h q=>?_,fun i h h' q k=>k _ q,fun i v ρ env σ s E Q hv g S nf q z=>?_,fun i ρ env σ s E Q hv g S q z=>?_⟩
 ·show⟨_,q,dJ (T:="range_iterator") rfl rfl (by decide),fun es n z=>by right⟩
 ·show aA (jA hv) ?_;rintro lt rfl;show wpAny_pyNext_range_item q (by ac_rfl) fun h' a1 sb=>?_;show z _ h' (s.toks+1) ?_ sb ⟨_,rfl⟩
  have e1:a+(i:Int)*c+c=a+((i+1:Nat):Int)*c:=by(erw[Int.natCast_succ ..,Int.add_mul ..,Int.one_mul ..];show aD rfl (Int.add_assoc ..))
  have e2:Builtin.Range.rangeSize a b c-(i:Int)-1=Builtin.Range.rangeSize a b c-((i+1:Nat):Int):=by ac_rfl
  replace a1:=e1▸a1;replace a1:=e2▸a1;show a1
 ·have:=mf hv;show wpAny_pyNext_range_end hh q (by ac_rfl) z
theorem o8.lZ(hn:X.hn=true){P:dO}(hk:X.sc.names.lookup x=some .local∨X.sc.names.lookup x=some .cell){a b c:Int}(sm:Builtin.Range.small a b c=true)(I:sG)(i0:I 0 env σ)(step:∀(i:Nat) env σ,(i:Int)<Builtin.Range.rangeSize a b c→I i env σ→dY B X.calm (put x (.int (a+i*c)) env) σ body (me I i P))(fin:∀env σ (i:Nat),Builtin.Range.rangeSize a b c≤i→I i env σ→P .next env σ):
  o8 B X env σ (.lZ a b c) x px body P:=fun C O hX ρ1 s1 E Q v S1 qe R1 q=>by
 show vt R1 ?_;rintro r t1 t2 t3 rfl nr hr;show wpAny_pyIter_range hr sm ?_;have kp:=aC s1.heap {cls:=.type "range_iterator",data:=.fields #[rawInt a,rawInt (Builtin.Range.rangeSize a b c),rawInt c]}
 show qI (I:=I) O hX hk xG (iU (hX.hn hn)) (fun i ρ' ae σ' hI ce=>trivial) ⟨bo s1.heap,dc S1,S1.ek,S1.eC⟩
  (fun i v ae σ' hv hI=>by(show aA (jA hv) ?_;rintro lt rfl);show step i ae σ' lt hI)
  (fun i ae σ' hi hI=>fin ae σ' i (mf hi) hI) (s2:={s1 with heap:=_}) ⟨aR kp rfl rfl,S1.bh kp,oh (gh _ rfl),S1.fresh⟩ i0 q
theorem aM.one{t:List Value→Sem Value}{a:LV}(h:∀(C:Cx),bC C→X.At C→∀(ρ:Cells) (s:Shared) (E:VP) (Q:VP) (x:Value),St B C ρ env σ s.heap→Rep s.heap ρ a x→
   (∀r σ' v ρ' s',P r σ'→Kept C ρ s ρ' s'→St B C ρ' env σ' s'.heap→Rep s'.heap ρ' r v→Q v s')→wpAny B.M C.A (t [x]) Q E s):
  aM B X env σ [a] t P:=fun C O hX ρ s E Q vs S qe r q=>by
 show bb r ?_;rintro x dX rfl rx r;subst r;show h C O hX ρ s E Q x S rx q
theorem aM.three{t:List Value→Sem Value}{a:LV}(h:∀(C:Cx),bC C→X.At C→∀(ρ:Cells) (s:Shared) (E:VP) (Q:VP) (x y z:Value),St B C ρ env σ s.heap→Rep s.heap ρ a x→Rep s.heap ρ b y→Rep s.heap ρ c z→
   (∀r σ' v ρ' s',P r σ'→Kept C ρ s ρ' s'→St B C ρ' env σ' s'.heap→Rep s'.heap ρ' r v→Q v s')→wpAny B.M C.A (t [x,y,z]) Q E s):
  aM B X env σ [a,b,c] t P:=fun C O hX ρ s E Q vs S qe r q=>by
 show bb r ?_;rintro x dX rfl rx r;show bb r ?_;rintro y dX rfl ry r;show bb r ?_;rintro z dX rfl rz r;subst r;show h C O hX ρ s E Q x y z S rx ry rz q
theorem aM.xH{n:Int}(h:P (.lZ 0 n 1) σ):aM B X env σ [.int n] (fun vs=>PySem.call (.type "range") vs) P:=.one fun C O hX ρ s E Q x S rx q=>by show av rx ?_;rintro t rfl;have kp:=aC s.heap {cls:=.type "range",data:=.fields #[.int 0 s.toks,.int n t,.int 1 (s.toks+1)]};show call_range_1 (q _ _ _ ρ _ h (aR kp rfl rfl) (S.bh kp) ?_);show⟨_,_,_,_,rfl,S.fresh,gh _ rfl⟩
theorem aM.Dm{a b c:Int}(hc:c≠0)(hp:∀a',Builtin.divisionGoesByPylong a' c=false)(h:P (.lZ a b c) σ):aM B X env σ [.int a,.int b,.int c] (fun vs=>PySem.call (.type "range") vs) P:=.three fun C O hX ρ s E Q x y z S rx ry rz q=>by show av rx ?_;rintro t rfl;show av ry ?_;rintro u rfl;show av rz ?_;rintro v rfl;have kp:=aC s.heap {cls:=.type "range",data:=.fields #[.int a t,.int b u,.int c v]};show call_range_3 hc (q _ _ _ ρ _ h (aR kp rfl rfl) (S.bh kp) ?_) (.inl (hp _));show⟨_,_,_,_,rfl,S.fresh,gh _ rfl⟩
theorem aM.fP{id:Nat}(e:σ[id]? =some (.list l))(hz:l.length<2 ^ 62)(h:P (.int l.length) σ):aM B X env σ [.obj id] (fun vs=>PySem.call (.builtin "len") vs) P:=.one fun C O hX ρ s E Q x S rx q=>by show cN (S.list rx e) ?_;rintro c vs hc rfl c2 pl hr;have len:=hr.length;show Calls.call_len_list pl.isList (by simp only[List.size_toArray];lia) ?_;show q _ _ _ ρ {s with toks:=s.toks+1+1} h (.rr rfl rfl rfl) S ⟨s.toks+1,by simp only[List.size_toArray,len]⟩
theorem aM.aX{l:List Int}(hz:l.length≤1099511627776)(h:P (.int l.length) σ):aM B X env σ [.bytes l] (fun vs=>PySem.call (.builtin "len") vs) P:=.one fun C O hX ρ s E Q x S rx q=>by show cj rx ?_;rintro b t rfl eb;show KBw.len_K eb hz (q _ _ _ ρ {s with toks:=s.toks+1+1} h (.rr rfl rfl rfl) S ⟨_,rfl⟩)
theorem o9{ns:List Int}:∀{vs:List Value},bz h ρ (ns.map .int) vs→IntsAre vs ns:=by
 induction ns with
 |nil=>intro vs r;have r:_=[]:=r;subst r;show .nil
 |cons n ns ih=>intro vs r;replace r:=map_cons▸r;show bb r ?_;rintro v vs rfl ⟨t,rfl⟩ b;show .cons n t (ih b)
theorem aM.bytesOf(hn:X.hn=true){id:Nat}{ns:List Int}(e:σ[id]? =some (.list (ns.map .int)))(hr:∀n∈ns,0≤n∧n<256)(hz:ns.length≤16777216)(h:P (.bytes ns) σ):aM B X env σ [.obj id] (fun vs=>PySem.call (.type "bytes") vs) P:=.one fun C O hX ρ s E Q x S rx q=>by show cN (S.list rx e) ?_;rintro c vs hc rfl c2 pl rl;have hi:=o9 rl;show call_bytes_ints pl.isList hi hr (by(erw[hi.length,sizeLine_eq]);show hz) (hX.hn hn) fun h' t' k hk=>?_;show q _ _ _ ρ {s with heap:=h',toks:=k} h (aR hk rfl rfl) (S.bh hk) ⟨_,_,rfl,KBa.ints_make hr⟩
noncomputable def bT(scope sc:Scope):Scope:={scope with names:=scope.names.map fun(n,k)=>if(k== .free&&sc.kind== .function&&sc.names.lookup n==some .cell)then(n,.cell)else(n,k)}
theorem iV{E:Env}:relabel scope E=bT scope E.scope:=rfl
noncomputable def cV(g:Str→Addr):List (Str×NameKind)→List (Str×Addr)→List (Str×Addr)
 |[],acc=>acc
 |(n,k)::r,acc=>if k== .free then cV g r ((n,g n)::acc)else cV g r acc
theorem iW{E:Env}(f:Str×NameKind→List (Str×Addr)→Sem (ForInStep (List (Str×Addr))))(hf:∀n k acc,f (n,k) acc=if k== .free then(do let a←cellOf E n;pure (.yield ((n,a)::acc)))else pure (.yield acc))(names:List (Str×NameKind)):∀(acc:List (Str×Addr)),(∀x∈names,x.2= .free→∃c,E.cells.lookup x.1=some c)→forIn names acc f=pure (cV (fun n=>(E.cells.lookup n).getD 0) names acc):=by
 induction names with
 |nil=>intro acc h;erw[forIn_nil];rfl
 |cons p r ih=>
  intro acc h;obtain⟨n,k⟩:=p;erw[forIn_cons ..,hf ..];show(?_:_=(pure (if(k==NameKind.free)=true then cV _ r ((n,_)::acc)else cV _ r acc):Sem (List (Str×Addr))))
  by_cases hk:(k==NameKind.free)=true
  ·show av (h (n,k) (.head _) (by simpa using hk)) fun c hc=>?_;simp only[hk,if_true]
   have:cellOf E n=pure c:=by unfold cellOf;dsimp only at hc;show aD rfl hc
   erw[this];simp only[pure_bind];dsimp only at hc;erw[ih _ fun x hx=>h x (.tail _ hx),hc];rfl
  ·simp only[hk,if_false,Bool.false_eq_true,pure_bind];show ih _ fun x hx=>h x (.tail _ hx)
theorem mh{scope:Scope}{E:Env}(h:∀x∈scope.names,x.2= .free→∃c,E.cells.lookup x.1=some c):closureFor scope E=pure (cV (fun n=>(E.cells.lookup n).getD 0) scope.names []):=by have e:=iW (E:=E) (fun x r=>match x with|(name,kind)=>if kind== .free then(do let a←cellOf E name;pure (.yield ((name,a)::r)))else pure (.yield r)) (fun n k acc=>rfl) scope.names [] h;show(congrArg (fun t=>t>>=fun s=>(pure s:Sem (List (Str×Addr)))) e).trans rfl
noncomputable def fQ:List (Str×NameKind)→List Str→List Str
 |[],acc=>acc
 |(n,k)::r,acc=>if k== .free then fQ r (n::acc)else fQ r acc
theorem fR(g:Str→Addr):∀(names:List (Str×NameKind)) (acc:List Str),cV g names (acc.map fun n=>(n,g n))=(fQ names acc).map fun n=>(n,g n)
 |[],_=>rfl
 |(n,k)::r,acc=>by
  show(?_:(if(k==NameKind.free)=true then cV g r ((n,g n)::acc.map fun n=>(n,g n))else cV g r (acc.map fun n=>(n,g n)))=(if(k==NameKind.free)=true then fQ r (n::acc)else fQ r acc).map fun n=>(n,g n));cases k==NameKind.free
  ·show fR g r acc
  ·show fR g r (n::acc)
theorem gj(g:Str→Addr){l:List Str}{n:Str}:(l.map fun n=>(n,g n)).lookup n=if n∈l then some (g n)else none:=by
 induction l with
 |nil=>rfl
 |cons x l ih=>
  erw[map_cons,lookup_cons]
  by_cases h:n=x
  ·subst h;simp
  ·have:(n==x)=false:=by simpa using h
   erw[this];simp only[mem_cons,h,false_or];show ih
structure iC(scope sc:Scope)(fs:List Str):Prop where
 eq:fQ scope.names []=fs
 nd:fs.Nodup
 mem:∀x∈scope.names,x.2= .free→x.1∈fs
 cell:∀n∈fs,sc.names.lookup n=some .cell
 rel:∀n,(bT scope sc).names.lookup n=some .cell→n∈fs
 FX:∀n∈fs,(bT scope sc).names.lookup n=some .cell
 kind:scope.kind= .function
 Dn:∀x∈scope.names,x.2≠.cell
 names:∀x∈scope.names,x.2= .local→scope.names.lookup x.1=some .local
noncomputable def cellsOf(C:Cx)(fs:List Str):List (Str×Addr):=fs.map fun n=>(n,(C.env.cells.lookup n).getD 0)
theorem vC(O:bC C)(hs:C.env.scope=sc)(F:iC scope sc fs):closureFor scope C.env=pure (cellsOf C fs):=by erw[mh fun x hx hf=>O.cells _ (by unfold Env.kindOf;show aD ?_ hs;show F.cell _ (F.mem x hx hf))];have:=fR (fun n=>(C.env.cells.lookup n).getD 0) scope.names [];replace this:=F.eq▸this;show congrArg pure this
theorem eF(O:bC C)(hs:C.env.scope=sc)(F:iC scope sc fs)(hn:n∈fs):∃c,(cellsOf C fs).lookup n=some c∧C.env.cells.lookup n=some c:=by
 show av (O.cells n (by unfold Env.kindOf;erw[hs];show F.cell n hn)) ?_;rintro c hc;show⟨c,?_,hc⟩
 (erw[gj ..,aJ hn,hc]);rfl
theorem dh(O:bC C)(hs:C.env.scope=sc)(F:iC scope sc fs){p:Str×Addr}(hp:p∈cellsOf C fs):p.1∈fs∧C.env.cells.lookup p.1=some p.2:=by show aa (mem_map.mp hp) ?_;rintro n hn rfl;show av (O.cells n (by unfold Env.kindOf;erw[hs];show F.cell n hn)) ?_;rintro c hc;show⟨hn,by dsimp only;erw[hc];rfl⟩
theorem qJ{l:List (Str×Addr)}(hp:l.Pairwise fun x y=>x.2≠y.2){a b:Str×Addr}(ha:a∈l)(hb:b∈l)(e:a.2=b.2):a=b:=by
 induction l with
 |nil=>right
 |cons x l ih=>
  show aA (pairwise_cons.mp hp) fun h1 h2=>?_
  rcases mem_cons.mp ha with rfl|ha'<;>rcases mem_cons.mp hb with q|hb'
  ·show q.symm
  ·show absurd e (h1 _ hb')
  ·replace e:=q▸e;show absurd e.symm (h1 _ ha')
  ·show ih h2 ha' hb'
theorem nN(O:bC C)(hs:C.env.scope=sc)(F:iC scope sc fs)(ap:C.env.cells.Pairwise fun x y=>x.2≠y.2):(cellsOf C fs).Pairwise fun x y=>x.2≠y.2:=by have nd:=F.nd;unfold cellsOf;rw[pairwise_map];show Pairwise.imp_of_mem (fun{a b} ha hb jn e=>?_) nd;show av (O.cells a (by unfold Env.kindOf;erw[hs];show F.cell a ha)) ?_;rintro c hc;show av (O.cells b (by unfold Env.kindOf;erw[hs];show F.cell b hb)) ?_;rintro d hd;replace e:=hc▸e;replace e:=hd▸e;have:=qJ ap (aj hc) (aj hd) e;show jn (Prod.mk.inj this).1
noncomputable def cO(fs:List Str)(env:aQ):aQ:=fs.filterMap fun n=>(env.lookup n).map fun v=>(n,v)
theorem nO{v:LV}(h:(cO fs env).lookup n=some v):n∈fs∧env.lookup n=some v:=by
 have:=aj h;show aa (mem_filterMap.mp this) fun m hm e=>?_;show aa (Option.map_eq_some_iff.mp e) fun w hw e'=>?_
 injection e' with z w;subst z;subst w
 show⟨hm,hw⟩
theorem oj{v:LV}{fs:List Str}(hn:n∈fs)(hv:env.lookup n=some v):(cO fs env).lookup n=some v:=by
 induction fs with
 |nil=>right
 |cons x fs ih=>
  unfold cO;erw[filterMap_cons]
  by_cases h:n=x
  ·subst h;erw[hv];simp
  ·have cR:n∈fs:=by rcases mem_cons.mp hn with e|e;show absurd e h;show e
   replace ih:=ih cR
   cases hx:env.lookup x with
   |none=>show ih
   |some w=>erw[lookup_cons,show(n==x)=false by simpa using h];show ih
section
variable{ρ1:Cells}{scope:Scope}{fs:List Str}
def fS(C:Cx)(scope:Scope)(fs:List Str)(L:Addr):Cx:=⟨C.A,compEnvC scope (cellsOf C fs) L C.env,C.dq⟩
theorem AK(O:bC C)(hX:X.At C)(F:iC scope X.sc fs)(L:Addr):bC (fS C scope fs L):=
 ⟨⟨O.frames,O.depth,O.units,F.kind,O.globals,O.builtins⟩,fun x e=>by
  have e':(bT scope X.sc).names.lookup x=some .cell:=by have:(bT scope C.env.scope).names.lookup x=some .cell:=e;replace this:=hX.1▸this;show this
  show aa (eF O hX.1 F (F.rel x e')) fun c h1 U=>?_
  show⟨c,h1⟩⟩
abbrev Sx.cmp(X:Sx)(scope:Scope):Sx:=⟨bT scope X.sc,X.d,X.hn,false,fun U U U=>False,none⟩
theorem AL(hX:X.At C)(L:Addr):Sx.At (X.cmp scope) (fS C scope fs L):=⟨by
 show(?_:relabel scope C.env=_)
 (erw[iV];show aD rfl hX.1),hX.2,hX.hn,(fun z=>by right),fun v z=>by right⟩
theorem AM(O:bC C)(hX:X.At C)(F:iC scope X.sc fs)(S:St B C ρ env σ h)(k:∀a o,h.get? a=some o→h'.get? a=some o){L:Addr}{m:Str→Option Value}(hL:h'.Ns L m)(hn:h.get? L=none):St B (fS C scope fs L) ρ (cO fs env) σ h':=by
 have S':=S.bh k;show aa S'.ns fun m' B9 hv=>?_
 have bn:B.heap.get? L=none:=by
  cases q:B.heap.get? L with
  |none=>rfl
  |some o=>have:=S.base _ _ q;replace this:=hn▸this;right
 have fl:L∉flat ρ:=fun m=>by have:=(S.out _ m).2;replace this:=hn▸this;right
 show⟨⟨m,hL,fun x lv e=>?_⟩,fun p hp=>?_,nN O hX.1 F S.apart,fun a ha=>?_,S'.base,S'.dq,S'.out,S'.nd,S'.len,S'.iR⟩
 ·show aA (nO e) fun hx e=>?_;show aa (hv x lv e) fun v a r=>?_;show⟨v,?_,r⟩;show aa (eF O hX.1 F hx) fun c h1 h2=>?_
  have hk:(fS C scope fs L).env.kindOf x=some .cell:=by
   show(?_:(relabel scope C.env).names.lookup x=_)
   (erw[iV,hX.1]);show F.FX x hx
  show .inr ⟨.inl hk,c,h1,?_⟩
  rcases a with⟨kl,_⟩|⟨_,c',y1,y2⟩
  ·unfold Env.kindOf at kl;replace kl:=hX.1▸kl;replace kl:=F.cell x hx▸kl;right
  ·replace y1:=h2▸y1
   injection y1 with z;subst z
   show y2
 ·show aA (dh O hX.1 F hp) fun U h2=>?_;show S'.jm _ (aj h2)
 ·rcases mem_cons.mp ha with rfl|ha
  ·show⟨bn,fl⟩
  ·show aa (mem_map.mp ha) ?_;rintro p hp rfl;show aA (dh O hX.1 F hp) fun U h2=>?_;show S'.ow _ (.tail _ (List.mem_map_of_mem (f:=(·.2)) (aj h2)))
theorem xI(O:bC C)(hX:X.At C)(F:iC scope X.sc fs){s2 s':Shared}{Hn:aQ}{L:Addr}{m:Str→Option Value}(S:St B C ρ1 env σ1 s1.heap)(k:∀a o,s1.heap.get? a=some o→s2.heap.get? a=some o)(hn:s1.heap.get? L=none)(K:Kept (fS C scope fs L) ρ1 s2 ρ' s')(T:St B (fS C scope fs L) ρ' Hn σ' s'.heap)(sb:Heap.SameBut L s'.heap h')(hL:s'.heap.Ns L m)(hf:∀n∈fs,∀lv,env.lookup n=some lv→Hn.lookup n=some lv)(hg:s2.gens=s1.gens)(ho:s2.os=s1.os):St B C ρ' env σ' h'∧Kept C ρ1 s1 ρ' {s' with heap:=h'}:=by
 have ext:aF s1.heap ρ1 ρ':=by
  show aa K.ext fun ex e1 e2=>?_;show⟨ex,e1,fun b hb=>?_⟩
  cases q:s1.heap.get? b with
  |none=>rfl
  |some o=>have:=e2 b hb;replace this:=k b o q▸this;right
 have ne:∀{b o},s1.heap.get? b=some o→b≠L:=fun{b o} e z=>by(replace e:=z▸e;replace e:=hn▸e);right
 have Ho:∀{b o},b∉(cellsOf C fs).map (·.2)→s1.heap.get? b=some o→b∉(fS C scope fs L).own:=fun{b o} n2 e q=>by
  rcases mem_cons.mp q with q|q
  ·show ne e q
  ·show n2 q
 have keep:∀b o,b∉flat ρ1→b∉(cellsOf C fs).map (·.2)→b∉C.outs→s1.heap.get? b=some o→h'.get? b=some o:=fun b o n1 n2 n3 e=>by erw[sb.2 b (ne e)];show K.keep b o n1 (Ho n2 e) n3 (k b o e)
 have lH:∀b o,b∉flat ρ1→b∉(cellsOf C fs).map (·.2)→s1.heap.get? b=some o→∃o',h'.get? b=some o'∧o'.data=o.data:=fun b o n1 n2 e=>by
  by_cases m:b∈C.outs
  ·show aa (K.outs b o m n1 (Ho n2 e) (k b o e)) fun o' q1 q2=>?_;show⟨o',(sb.2 b (ne e)).trans q1,q2⟩
  ·show⟨o,keep b o n1 n2 m e,rfl⟩
 have alive:∀b,(s1.heap.get? b).isSome→(h'.get? b).isSome:=fun b e=>by show av (iA e) fun o ho=>?_;erw[sb.2 b (ne ho)];show K.alive b (by erw[k b o ho];rfl)
 have ck:∀{c v},s'.heap.IsCell c v→h'.IsCell c v:=fun{c v} q=>by
  show aa q fun o ho hd=>?_;show⟨o,(sb.2 c fun z=>?_).trans ho,hd⟩;show gy (id hL) fun o' es ep eN du U=>?_;replace ho:=z▸ho;replace ho:=eN▸ho
  injection ho with z;subst z
  replace hd:=du▸hd;right
 have Ca:∀c∈(cellsOf C fs).map (·.2),c∈C.own:=fun c hc=>by show aa (mem_map.mp hc) ?_;rintro p hp rfl;show .tail _ (List.mem_map_of_mem (f:=(·.2)) (aj (dh O hX.1 F hp).2))
 have Hp:∀{b o},s1.heap.get? b=some o→l7 o→b∉(cellsOf C fs).map (·.2):=fun{b o} e f q=>S.fy f e (Ca b q);have fk:bj ρ1 s1.heap h':=fun b o n f e=>keep b o n (Hp e f) (S.fz f e) e;have Mp:bj ρ' s'.heap h':=fun b o n f e=>(sb.2 b fun z=>fN hL f e z).trans e;have qo:∀b∈C.own,b∉flat ρ1:=fun b hb=>(S.ow b hb).2;have Kc:Kept C ρ1 s1 ρ' {s' with heap:=h'}:=⟨fun b o n1 n2 n3 e=>keep b o n1 (fun q=>n2 (Ca b q)) n3 e,fun b o U n1 n2 e=>lH b o n1 (fun q=>n2 (Ca b q)) e,alive,ext,by have:=K.gens;replace this:=hg▸this;show this,K.os.trans ho⟩;show⟨?_,Kc⟩;show aa S.ns fun m0 Hq hv=>?_
 have zZ:∀{L0 mm},L0∉flat ρ1→s1.heap.Ns L0 mm→h'.Ns L0 mm:=fun{L0 mm} n q=>by
  show gy q fun o es ep ho hd r=>?_
  have hz:L0∉(cellsOf C fs).map (·.2):=fun z=>by
   show aa (mem_map.mp z) fun p hp e=>?_;show cj (S.jm _ (aj (dh O hX.1 F hp).2)) fun v oc wZ Iw=>?_;replace wZ:=e▸wZ;replace wZ:=ho▸wZ
   injection wZ with z;subst z
   replace Iw:=hd▸Iw;right
  show aa (lH L0 o n hz ho) fun o1 kU qv=>?_;show⟨o1,es,ep,kU,qv.trans hd,r⟩
 show aa T.ns fun mt Pu NJ=>?_;show⟨⟨m0,zZ (qo _ (.head _)) Hq,fun x lv e=>?_⟩,fun p hp=>?_,S.apart,fun b hb=>⟨(S.ow b hb).1,?_⟩,fun b o e=>?_,fun e he=>?_,fun b hb=>?_,T.nd,T.len,fun i o c hi hc=>(T.iR i o c hi hc).mono (fun b o hb e=>(sb.2 b fun z=>?_).trans e) Mp (.refl _ _)⟩
 ·show aa (hv x lv e) fun v a r=>?_
  by_cases hx:x∈fs
  · --the value lies in a cell that the inner list shares
   show aa (NJ x lv (hf x hx lv e)) fun v' a' r'=>?_;show aa (eF O hX.1 F hx) fun c h1 h2=>?_;show⟨v',.inr ⟨.inl (by unfold Env.kindOf;erw[hX.1];show F.cell x hx),c,h2,?_⟩,r'.mono Mp (.refl _ _)⟩
   have hk:(fS C scope fs L).env.kindOf x=some .cell:=by
    show(?_:(relabel scope C.env).names.lookup x=_)
    (erw[iV,hX.1]);show F.FX x hx
   rcases a' with⟨kl,_⟩|⟨_,c',y1,y2⟩
   ·replace kl:=hk▸kl;right
   ·have:(cellsOf C fs).lookup x=some c':=y1;replace this:=h1▸this
    injection this with z;subst z
    show ck y2
  ·show⟨v,?_,r.mono fk ext⟩
   rcases a with q|⟨q,c,y1,y2⟩
   ·show .inl q
   ·show aa y2 fun o ho hd=>?_
    have hz:c∉(cellsOf C fs).map (·.2):=fun z=>by show aa (mem_map.mp z) fun p hp e=>?_;have hm:=dh O hX.1 F hp;have:=qJ S.apart (aj hm.2) (aj y1) e;replace hm:=(Prod.mk.inj this).1▸hm;show hx hm.1
    show aa (lH c o (qo _ (.tail _ (List.mem_map_of_mem (f:=(·.2)) (aj y1)))) hz ho) fun o1 kU qv=>?_;show .inr ⟨q,c,y1,o1,kU,qv.trans hd⟩
 ·by_cases hp':p.2∈(cellsOf C fs).map (·.2)
  ·show aa (mem_map.mp hp') fun p' h1 e=>?_;show av (T.jm p' h1) fun v hv=>?_;show⟨v,e▸ck hv⟩
  ·show cj (S.jm p hp) fun v o ho hd=>?_;show aa (lH _ o (qo _ (.tail _ (List.mem_map_of_mem (f:=(·.2)) hp))) hp' ho) fun o1 kU qv=>?_;show⟨v,o1,kU,qv.trans hd⟩
 ·obtain⟨o,ho⟩:∃o,s1.heap.get? b=some o:=by
   rcases mem_cons.mp hb with rfl|hb
   ·show iA (Ns.alive Hq)
   ·show aa (mem_map.mp hb) ?_;rintro p hp rfl;show av (S.jm p hp) fun v hv=>?_;show iA (IsCell.alive hv)
  show ext.out (qo b hb) ho
 ·show keep b o (fun q=>by replace e:=(S.out b q).1▸e;right) (fun q=>?_) (fun q=>by replace e:=(S.eU q).2.2▸e;right) (S.base b o e);have:=(S.ow b (Ca b q)).1;replace this:=e▸this;right
 ·show aA (S.dq e he) fun q hZ=>?_;show bY hZ fun L0 mm y1 y2 y3 y4=>?_;show sI (id y3) fun o es ep ho r=>?_;show⟨q,L0,mm,y1,ext.out y2 ho,zZ y2 y3,y4⟩
 ·show⟨(T.out b hb).1,?_⟩
  by_cases z:b=L
  ·show absurd (z▸hb) (T.ow L (.head _)).2
  ·erw[sb.2 b z];show(T.out b hb).2
 ·show(T.ow L (.head _)).2 (z▸b8 hc hb)
end
set_option tactic.hygienic true
theorem jB(x:Str)(v:LV)(y:Str)(w:LV)(r:aQ):put x v ((y,w)::r)=if y==x then(x,v)::r else(y,w)::put x v r:=rfl
theorem ui(x:Str)(u v:LV)(env:aQ):put x v (put x u env)=put x v env:=by
 induction env with
 |nil=>simp[put]
 |cons p r ih=>
  obtain⟨y,w⟩:=p;erw[jB ..,jB ..]
  by_cases h:(y==x)=true
  ·erw[aJ h,aJ h,jB ..];simp
  ·erw[ax h,ax h,jB ..,ax h];show aD rfl ih
theorem bz.snoc{x:LV}{l:List LV}:∀{vs:List Value},bz h ρ l vs→Rep h ρ x v→bz h ρ (l++[x]) (vs++[v]):=by
 induction l with
 |nil=>intro vs r q;have r:_=[]:=r;subst r;show .cons q .nil
 |cons y l ih=>intro vs r q;show bb r ?_;rintro u us rfl g1 g2;show .cons g1 (ih g2 q)
def sM(B:Base)(X:Sx)(env:aQ)(σ:List LO)(P:Bool→List LO→Prop):List Expr→Prop
 |[]=>P true σ
 |[c]=>gv B X env σ c P
 |_=>False
section
variable{scope:Scope}{fs:List Str}
theorem vD(O:bC C)(hX:X.At C){iter:Expr}(hx:X.sc.names.lookup x=some .local){it acc:Addr}{id:Nat}{sB:Shared}{ρs:Cells}{items:Nat→Option LV}{N:Nat}(hN:∀i,N≤i→items i=none)(hz:N≤1000000){At:Nat→Heap→Prop}{J:Nat→List LV→List LO→Prop}{G:Cells→aQ→List LO→Prop}(W:Iter B C it items At G)(IG:∀i a ρ env σ,J i a σ→aF sB.heap ρB ρ→G ρ env σ)(km:ρs[id]? =some (acc,[]))(hit:sB.heap.get? it=none)(nb:B.heap.get? it=none)(own:it∉C.own)(sL:it∉C.outs)(hR:∀x env σ,¬ X.R x env σ)(out:it∉flat ρs)(dx:aQ)(step:∀i v a σ,items i=some v→J i a σ→σ[id]? =some (.list a)→sM B X (put x v dx) σ (fun b σ1=>(b=false→σ1[id]? =some (.list a)∧J (i+1) a σ1)∧
   (b=true→aS B X (put x v dx) σ1 elt fun r σ2=>σ2[id]? =some (.list a)∧J (i+1) (a++[r]) (σ2.set id (.list (a++[r]))))) ifs) (K0:Kept C ρB sB ρs s1) (S0:St B C ρs dx σ0 s1.heap) (A0:At 0 s1.heap) (J0:J 0 [] σ0) (h0:σ0[id]? =some (.list [])) (q:∀i a ae σ' ρ' s',items i=none→J i a σ'→σ'[id]? =some (.list a)→ρ'[id]? =some (acc,[])→(ae=dx∨∃u,ae=put x u dx)→Kept C ρB sB ρ' s'→St B C ρ' ae σ' s'.heap→R (.ok .next) s'):
  codeAny B.M C.A (.compLoop (.ListComp elt [⟨.Name x px,iter,ifs,0⟩] sco pos) 0 (.ref it) (.ref acc) C.env) R s1:=by
 have hk:C.env.kindOf x=some .local:=by unfold Env.kindOf;erw[hX.1];show hx
 show codeAny_compLoop_tests (fun n s=>∃i a ρ env σ,n=N-i∧i≤N∧a.length≤i∧J i a σ∧σ[id]? =some (.list a)∧ρ[id]? =some (acc,[])∧(env=dx∨∃u,env=put x u dx)∧Kept C ρB sB ρ s∧St B C ρ env σ s.heap∧At i s.heap∧it∉flat ρ) ?_ N
  ⟨0,[],ρs,dx,σ0,rfl,Nat.zero_le _,Nat.le_refl _,J0,h0,km,.inl rfl,K0,S0,A0,out⟩
 rintro n s zq;show av zq ?_;clear zq;rintro i hZ;show av hZ ?_;clear hZ;rintro a hZ;show uf hZ ?_;clear hZ;rintro ρ env σ rfl iN al hJ xg hρ he K S A nf;show bJ (W.obj i _ A) ?_;rintro oi Iy ni nd
 have NK:∀v,put x v env=put x v dx:=fun v=>by
  rcases he with rfl|⟨u,rfl⟩
  ·rfl
  ·show ui x u v dx
 cases hv:items i with
 |none=>show W.stop i ρ env σ s _ _ hv (IG _ _ _ _ _ hJ K.ext) S A fun h' hx=>?_;show q i a env σ ρ {s with heap:=h'} hv hJ xg hρ he (K.oZ hx hit rfl rfl rfl) (S.iS hx nf own nb (fun o ho=>by replace ho:=Iy▸ho;injection ho with z;subst z;show ni) (fun o ho=>by replace ho:=Iy▸ho;injection ho with z;subst z;show nd))
 |some v=>
  have Pw:i<N:=by
   rcases Nat.lt_or_ge i N with h|h
   ·show h
   ·replace hv:=hN i h▸hv;right
  show W.item i v ρ env σ s _ _ hv (IG _ _ _ _ _ hJ K.ext) S nf A fun val h' tk A1 sb rv=>?_;have K1:Kept C ρB sB ρ {s with heap:=h',toks:=tk}:=K.oZ sb.extBut hit rfl rfl rfl;have S1:St B C ρ env σ h':=S.iS sb.extBut nf own nb (fun o ho=>by replace ho:=Iy▸ho;injection ho with z;subst z;show ni) (fun o ho=>by replace ho:=Iy▸ho;injection ho with z;subst z;show nd);show V (gx (wpAny_bindName ?_));show dk (s:={s with heap:=h',toks:=tk}) O S1 (.inl hk) rv fun s3 K3 S3=>?_;rw[NK]at S3;have Mq:=K1.trans K3;show bJ (W.obj _ _ A1) ?_;rintro o1 kU n1 d1;have e3:s3.heap.get? it=some o1:=K3.keep it o1 nf own sL kU;have A3:At (i+1) s3.heap:=W.keep _ _ _ A1 fun o e=>K3.keep it o nf own sL e;have st:=step i v a σ hv hJ xg
  suffices main:∀b σ1 ρ1 s4,((b=false→σ1[id]? =some (.list a)∧J (i+1) a σ1)∧(b=true→aS B X (put x v dx) σ1 elt fun r σ2=>σ2[id]? =some (.list a)∧J (i+1) (a++[r]) (σ2.set id (.list (a++[r])))))→
    Kept C ρ s3 ρ1 s4→St B C ρ1 (put x v dx) σ1 s4.heap→if b=true then wpAny B.M C.A (eval elt C.env) (fun y s₄=>
       wpAny B.M C.A (call (.builtin "list.append") [.ref acc,y]) (fun U s₅=>∃m,m<N-i∧∃i a ρ env σ,m=N-i∧i≤N∧a.length≤i∧J i a σ∧σ[id]? =some (.list a)∧ρ[id]? =some (acc,[])∧(env=dx∨∃u,env=put x u dx)∧Kept C ρB sB ρ s₅∧St B C ρ env σ s₅.heap∧At i s₅.heap∧it∉flat ρ)
        (notedBy B.M C.A C.env fun e s'=>R (.error e) s') s₄) (notedBy B.M C.A C.env fun e s'=>R (.error e) s') s4
      else∃m,m<N-i∧∃i a ρ env σ,m=N-i∧i≤N∧a.length≤i∧J i a σ∧σ[id]? =some (.list a)∧ρ[id]? =some (acc,[])∧(env=dx∨∃u,env=put x u dx)∧Kept C ρB sB ρ s4∧St B C ρ env σ s4.heap∧At i s4.heap∧it∉flat ρ by
   induction ifs using List.casesOn with
   |nil=>show eA (a:=true) (by(show aD rfl forIn_nil)) ?_;show main true σ ρ s3 st (.rr rfl rfl rfl) S3
   |cons c rest=>
    induction rest using List.casesOn with
    |cons=>show st.elim
    |nil=>show wpAny_tests_one ?_;show st C O hX ρ s3 _ _ S3 (.none hR) fun b σ1 ρ1 s4 p K4 S4=>main b σ1 ρ1 s4 p K4 S4
  intro b σ1 ρ1 s4 p K4 S4;have e4:s4.heap.get? it=some o1:=K4.keep it o1 nf own sL e3;have Ku:it∉flat ρ1:=K4.ext.out nf e3;have A4:At (i+1) s4.heap:=W.keep _ _ _ A3 fun o e=>K4.keep it o nf own sL e;have Mr:ρ1[id]? =some (acc,[]):=K4.ext.get hρ
  induction b using Bool.casesOn with
  |false=>erw[ax (by decide)];show aA (p.1 rfl) ?_;rintro h1 h2;show⟨N-(i+1),by omega,i+1,a,ρ1,_,σ1,rfl,‹_›,by show Nat.le_succ_of_le ‹_›,h2,h1,Mr,.inr ⟨v,rfl⟩,Mq.trans K4,S4,A4,Ku⟩
  |true=>
   erw[aJ rfl];show p.2 rfl C O hX ρ1 s4 _ _ S4 (.none hR) fun r σ2 y ρ2 s5 p5 K5 S5 R5=>?_;show hide fun H_ o_=>?_;show aA p5 ?_;clear p5;rintro h1 h2;have Hr:ρ2[id]? =some (acc,[]):=K5.ext.get Mr;have Ms:it∉flat ρ2:=K5.ext.out Ku e4;have A5:At (i+1) s5.heap:=W.keep _ _ _ A4 fun o e=>K5.keep it o Ku own sL e;show aA (S5.iR id _ _ h1 Hr) ?_;rintro U hZ;show aa hZ ?_;clear hZ;rintro vs pl rl;show o_ ?_;show wpAny_list_append_plain pl (fun h6 w2 xh=>?_) (by have:=rl.length;simp only[List.size_toArray,this];unfold sizeLine;ac_rfl)
   have Ab:(h6.get? acc).isSome:=by(show av w2 ?_;clear w2;rintro n e);erw[e];rfl
   have K6:Kept C ρ2 s5 ρ2 {s5 with heap:=h6}:=dH S5 Hr xh Ab rfl rfl
   have ET:h6.PlainList acc (vs++[y]).toArray:=by simpa using w2
   have Iz:bz h6 ρ2 (a++[r]) (vs++[y]):=by show(K6.gz S5 rl).snoc (K6.rep S5 R5)
   have S6:=S5.jw (o:=.list (a++[r])) Hr xh Ab rfl ⟨rfl,_,ET,Iz⟩;have lt:it≠acc:=fun z=>Ms (z▸b8 Hr (.head _));have A6:At (i+1) h6:=W.keep _ _ _ A5 fun o e=>(xh.2 it lt).trans e;show⟨N-(i+1),by omega,i+1,a++[r],ρ2,_,_,rfl,‹_›,by simp;assumption,h2,?_,Hr,.inr ⟨v,rfl⟩,((Mq.trans K4).trans K5).trans K6,S6,A6,Ms⟩;have:=(dU h1).1;simp[this]
inductive Src where
 |list (id:Nat) (ls:List LV)
 |lZ (a b c:Int)
 |iX (d:Addr) (l:List Int)
noncomputable def Src.items:Src→Nat→Option LV
 | .list _ ls,i=>ls[i]?
 | .lZ a b c,i=>bS a b c i
 | .iX _ l,i=>(l[i]?).map LV.int
noncomputable def Src.top:Src→Nat
 | .list _ ls=>ls.length
 | .lZ a b c=>(Builtin.Range.rangeSize a b c).toNat
 | .iX _ l=>l.length
noncomputable def Src.val:Src→LV
 | .list id _=>.obj id
 | .lZ a b c=>.lZ a b c
 | .iX d _=>.gl (.ref d)
def Src.ok:Src→List LO→Prop
 | .list id ls,σ=>σ[id]? =some (.list ls)
 | .lZ _ _ _,_=>True
 | .iX _ _,_=>True
def Src.fit(B:Base):Src→Prop
 | .list _ _=>True
 | .lZ a b c=>Builtin.Range.small a b c=true
 | .iX d l=>∃fb ep,(d==sysModules)=false∧B.heap.DictAt (intKind PySem.Challenge.pw_kk0028_01 B.w) d fb ep∧fb.map (·.1)=l
theorem Src.stop(t:Src):∀i,t.top≤i→t.items i=none:=fun i h=>by
 induction t using Src.casesOn with
 |list id ls=>show getElem?_eq_none h
 |lZ a b c=>show(?_:bS a b c i=none);unfold bS;erw[ax (by have:(Builtin.Range.rangeSize a b c).toNat≤i:=h;ac_rfl)];with_reducible rfl
 |iX d l=>show(?_:(l[i]?).map LV.int=none);erw[getElem?_eq_none h];rfl
theorem kD{d:Addr}{fb:List (Int×Value)}{ep:Nat}(hm:B.heap.DictAt (intKind PySem.Challenge.pw_kk0028_01 B.w) d fb ep)(k:∀a o,B.heap.get? a=some o→h.get? a=some o):h.DictAt (intKind PySem.Challenge.pw_kk0028_01 B.w) d fb ep:=fJ hm fun o es q=>⟨o,es,k _ _ q.1,q.2⟩
theorem vE(hh:C.A.handled=none){it d:Addr}{fb:List (Int×Value)}{ep:Nat}(hm:B.heap.DictAt (intKind PySem.Challenge.pw_kk0028_01 B.w) d fb ep):
  Iter B C it (fun i=>((fb.map (·.1))[i]?).map LV.int) (fun i h=>h.IsKeyIter it d i fb.length ep) (fun U U U=>True):=by
 show⟨fun i h a=>?_,fun i h h' a k=>?_,fun i v ρ env σ s E Q hv g S nf a q=>?_,fun i ρ env σ s E Q hv g S a q=>?_⟩
 ·show hide fun H_ o_=>?_;show bJ a fun o ho hc hd=>?_;show o_ ?_;show oX o ho (dJ hc hd (by decide)) (fun es n z=>by replace z:=hd▸z;right)
 ·show aa a fun o ho r=>?_;show cM o (k o ho) r
 ·show hide fun H_ o_=>?_;show aa (Option.map_eq_some_iff.mp hv) ?_;rintro k hk rfl;replace hk:=getElem?_map▸hk;show aa (Option.map_eq_some_iff.mp hk) ?_;rintro⟨k',x⟩ hx rfl;show o_ ?_;show wpAny_pyNext_dict_item a (kD hm S.base) hx fun key h' Ac a1 sb=>?_;show q key h' s.toks a1 sb ?_
  cases key<;>first|(right;done)|skip
  rename_i j t
  have:j=k':=by simpa[intKind,Value.isInt]using Ac
  show⟨t,by(show aD rfl this)⟩
 ·show wpAny_pyNext_dict_end hh a (kD hm S.base) ?_ fun h' he=>q h' he;rw[Option.map_eq_none_iff]at hv;replace hv:=getElem?_map▸hv;rw[Option.map_eq_none_iff]at hv;show hv
theorem aS.comp(hn:X.hn=true){iter:Expr}(F:iC scope X.sc fs)(hx:(bT scope X.sc).names.lookup x=some .local)(EU:x∉fs)(h:aS B X env σ iter fun o σ1=>∃(t:Src) (J:Nat→List LV→List LO→Prop),o=t.val∧t.fit B∧t.top≤1000000∧J 0 [] (σ1++[.list []])∧(∀i a σ,J i a σ→t.ok σ)∧t.ok σ1∧
   (∀i v a σ,t.items i=some v→J i a σ→σ[σ1.length]? =some (.list a)→sM B (X.cmp scope) (put x v (cO fs env)) σ (fun b σ2=>(b=false→σ2[σ1.length]? =some (.list a)∧J (i+1) a σ2)∧
    (b=true→aS B (X.cmp scope) (put x v (cO fs env)) σ2 elt fun r σ3=>σ3[σ1.length]? =some (.list a)∧J (i+1) (a++[r]) (σ3.set σ1.length (.list (a++[r]))))) ifs)∧
   ∀i a σ,t.items i=none→J i a σ→σ[σ1.length]? =some (.list a)→P (.obj σ1.length) σ) (hs:∀ae v,foldedSetIterable iter ae v=pure v:=by intro U U;rfl):aS B X env σ (.ListComp elt [⟨.Name x px,iter,ifs,0⟩] scope pos) P:=fun C O hX ρ s E Q S qe q=>by
 erw[eval_ListComp ..];show wpAny_comprehension_free (g:=⟨.Name x px,iter,ifs,0⟩) (gs:=[]) rfl (hs _) (vC O hX.1 F) F.kind F.names ?_;show h C O hX ρ s E _ S qe fun o σ1 v ρ1 s1 h1 K1 S1 R1=>?_;show hide fun H_ o_=>?_;show Jf h1 ?_;clear h1;rintro t J rfl fit top j0 NL NM step fin;show o_ ?_;clear o_ H_
 suffices main:∀(sj:Obj) (At:Nat→Heap→Prop) (G:Cells→aQ→List LO→Prop),(∀C':Cx,C'.A=C.A→Iter B C' s1.heap.objs.size t.items At G)→(∀ρ' ae σ',t.ok σ'→aF s1.heap ρ1 ρ'→G ρ' ae σ')→sj.isFreed=false→At 0 (s1.heap.push sj)→
   (∀(s:Shared) (E:VP) (Q:VP),s.heap.get? s1.heap.objs.size=some sj→Q (.ref s1.heap.objs.size) s→wpAny B.M C.A (pyIter (.ref s1.heap.objs.size)) Q E s)→
   wpAny B.M C.A (newList []) (fun acc s₃=>wpAny B.M C.A (newFunctionEnv scope C.env.globals (cellsOf C fs) [] C.env.qual none .none (some C.env)) (fun Hs s₄=>
    codeAny B.M C.A (.compStart (.ListComp elt [⟨.Name x px,iter,ifs,0⟩] scope pos) 0 (.ref s1.heap.objs.size) acc {Hs with scope:=relabel scope C.env}) (compPost B.M C.A E none Q acc Hs.locals) s₄) E s₃) E {s1 with heap:=s1.heap.push sj} by
  induction t using Src.casesOn with
  |list lid ls=>
   show cN (S1.list R1 NM) ?_;rintro c vs hc rfl c2 pl rl;obtain⟨l,vc⟩:=c;obtain rfl:vc=[]:=c2;show wpAny_pyIter_list pl.isList ?_
   have jn:s1.heap.objs.size≠l:=fun z=>by show av pl ?_;clear pl;rintro n e;have:=Heap.lt_size e;replace this:=z▸this;show Nat.lt_irrefl _ this
   show main {cls:=.type "list_iterator",data:=.fields #[.ref l,.int 0 0]} _ _ (fun C' hA=>og (by erw[hA];show hX.hn hn) jn) (fun ρ' ae σ' dG ce=>⟨ce.get hc,dG⟩) rfl ⟨{cls:=.type "list_iterator",data:=.fields #[.ref l,.int 0 0]},gh _ rfl,rfl,rfl⟩ fun s E Q e z=>?_;show wpAny_pyIter_listiter (i:=0) (l:=l) ⟨_,e,rfl,rfl⟩ z
  |lZ a b c=>
   show vt R1 ?_;clear R1;rintro r t1 t2 t3 rfl nr hr;show wpAny_pyIter_range hr fit ?_;show main {cls:=.type "range_iterator",data:=.fields #[rawInt a,rawInt (Builtin.Range.rangeSize a b c),rawInt c]} _ _ (fun C' hA=>iU (a:=a) (b:=b) (c:=c) (by erw[hA];show hX.hn hn)) (fun ρ' ae σ' dG ce=>trivial) rfl ?_ fun s E Q e z=>?_
   ·have e1:a+((0:Nat):Int)*c=a:=by simp
    have e2:Builtin.Range.rangeSize a b c-((0:Nat):Int)=Builtin.Range.rangeSize a b c:=by simp
    erw[e1,e2];show gh _ rfl
   ·show wpAny_pyIter_rangeiter e z
  |iX d l=>show bb fit ?_;clear fit;rintro fb ep hd hm rfl;obtain rfl:v= .ref d:=R1;show wpAny_pyIter_dict hd (kD hm S1.base) ?_;show main {cls:=.type "dict_keyiterator",data:=.fields #[.ref d,.int 0 0,.int fb.length 0,.int ep 0]} _ _ (fun C' hA=>vE (by erw[hA];show hX.hn hn) hm) (fun ρ' ae σ' dG ce=>trivial) rfl ⟨_,gh _ rfl,rfl,rfl⟩ fun s E Q e z=>?_;show wpAny_pyIter_keyiter (i:=0) ⟨_,e,rfl,rfl⟩ z
 intro sj At G W IG xe A0 again;have kp:=aC s1.heap sj;let s2:Shared:={s1 with heap:=s1.heap.push sj};have S2:St B C ρ1 env σ1 s2.heap:=S1.bh kp;have z2:s2.heap.objs.size=s1.heap.objs.size+1:=Heap.size_push ..;show wpAny_newObj_type (s:=s2) ?_ (by show(?_:(#[]:Array Value).size≤sizeLine);simp);let lobj:Obj:={cls:=.type "list",data:=.seq ([]:List Value).toArray};let s3:Shared:={s2 with heap:=s2.heap.push lobj};have Kv:=aC s2.heap lobj;let ρ3:=ρ1++[(s2.heap.objs.size,[])];have S3:St B C ρ3 env (σ1++[.list []]) s3.heap:=S2.fA (o:=.list []) rfl ⟨rfl,[],⟨0,gh _ rfl⟩,.nil⟩
 have z3:s3.heap.objs.size=s1.heap.objs.size+2:=by show(?_:(s2.heap.push lobj).objs.size=_);erw[Heap.size_push ..];show aD rfl z2
 show wpAny_newFunctionEnv (s:=s3) (around:=some C.env) F.Dn (fun y hy=>nomatch hy) (fun h4 EP NN=>?_) F.kind;have k4:∀a o,s3.heap.get? a=some o→h4.get? a=some o:=fun a o e=>NN.extBut a o (Nat.ne_of_lt (Heap.lt_size e)) (n5 _ e);have Kw:∀a o,s1.heap.get? a=some o→h4.get? a=some o:=fun a o e=>k4 a o (Kv a o (kp a o e));let L:=s3.heap.objs.size;let C2:=fS C scope fs L;have O2:bC C2:=AK O hX F L;have NO:Sx.At (X.cmp scope) C2:=AL hX L;have S4:St B C2 ρ3 (cO fs env) (σ1++[.list []]) h4:=AM O hX F S3 k4 EP (bo _)
 have none_of:∀b,s1.heap.objs.size≤b→s1.heap.get? b=none:=fun b hb=>by
  cases q:s1.heap.get? b with
  |none=>rfl
  |some o=>show absurd (Heap.lt_size q) (Nat.not_lt.mpr hb)
 have km:ρ3[σ1.length]? =some (s2.heap.objs.size,[]):=by
  (show bD ?_ S1.len;erw[getElem?_append_right (Nat.le_refl _)]);simp
 have Kx:s1.heap.objs.size∉C2.own:=fun m=>by
  rcases mem_cons.mp m with q|q
  ·have q:s1.heap.objs.size=s3.heap.objs.size:=q;ac_rfl
  ·show aa (mem_map.mp q) ?_;rintro p hp e;have:=dh O hX.1 F hp;show S1.ek (e▸.tail _ (List.mem_map_of_mem (f:=(·.2)) (aj this.2)))
 have Ky:s1.heap.objs.size∉flat ρ3:=fun m=>by
  rw[cA,mem_append]at m
  rcases m with m|m
  ·show S1.fresh m
  ·have:s1.heap.objs.size=s2.heap.objs.size:=by simpa[flat]using m
   ac_rfl
 have NP:h4.get? s1.heap.objs.size=some sj:=k4 _ _ (Kv _ _ (gh _ xe));have A4:At 0 h4:=(W C2 rfl).keep _ _ _ A0 fun o e=>k4 _ _ (Kv _ _ e)
 have K0:Kept C2 ρ1 s1 ρ3 {s3 with heap:=h4}:=⟨fun b o U U U e=>Kw b o e,fun b o U U U e=>⟨o,Kw b o e,rfl⟩,fun b e=>by(show av (iA e) ?_;rintro o ho);erw[Kw b o ho];rfl,
  ⟨_,rfl,fun b m=>by
   obtain rfl:b=s2.heap.objs.size:=by simpa[flat]using m
   show none_of _ (by ac_rfl)⟩,.of_eq rfl,rfl⟩
 have NQ:∀ae,(ae=cO fs env∨∃u,ae=put x u (cO fs env))→∀n∈fs,∀lv,env.lookup n=some lv→ae.lookup n=some lv:=fun ae he n hn lv e=>by
  have:=oj hn e
  rcases he with rfl|⟨u,rfl⟩
  ·show this
  ·erw[aE ..,ax (fun z=>EU (by show bD ?_ (eB z);show hn))];show this
 have go:codeAny B.M C2.A (.compLoop (.ListComp elt [⟨.Name x px,iter,ifs,0⟩] scope pos) 0 (.ref s1.heap.objs.size) (.ref s2.heap.objs.size) C2.env) (compPost B.M C.A E none Q (.ref s2.heap.objs.size) L) {s3 with heap:=h4}:=by show vD (sB:=s1) (ρB:=ρ1) (s1:={s3 with heap:=h4}) O2 NO hx (N:=t.top) t.stop top (W C2 rfl) (fun i a ρ' ae σ' hJ ce=>IG ρ' ae σ' (NL i a σ' hJ) ce) km (bo _) (dc S1) Kx S1.eC (fun U U U h=>h) Ky (cO fs env) step K0 S4 A4 j0 (gA) fun i a ae σ' ρ' s' hi hJ xg NR he K' S'=>?_;show aa S'.ns ?_;rintro m hm U;show cM m hm (fun h' sb=>?_);show aA (xI O hX F (s1:=s1) (s2:=s1) S1 (fun U U e=>e) (none_of _ (by show(?_:s1.heap.objs.size≤s3.heap.objs.size);ac_rfl)) K' S' sb hm (NQ ae he) rfl rfl) ?_;rintro T KK;show q _ _ _ ρ' _ (fin i a σ' hi hJ xg) (K1.trans KK) T ?_;show cM _ NR rfl
 show codeAny_compStart_list go (again _ _ _ NP go)
end
set_option tactic.hygienic false
def AN(B:Base)(env:aQ)(σ:List LO)(a:LV)(T:String):Prop:=∀(C:Cx) (ρ:Cells) (s:Shared) (v:Value),St B C ρ env σ s.heap→Rep s.heap ρ a v→s.TypeIs v T∧∀x,v= .ref x→∃ob,s.heap.get? x=some ob∧ob.dict=none
theorem AN.int{i:Int}:AN B env σ (.int i) "int":=fun C ρ s v S r=>by(show av r ?_;rintro t rfl);show⟨typeIs_int s i t,fun x e=>by right⟩
theorem AN.bytes{l:List Int}:AN B env σ (.bytes l) "bytes":=fun C ρ s v S r=>by(show cj r ?_;rintro b t rfl U);show⟨typeIs_bytes s b t,fun x e=>by right⟩
theorem AN.list{id:Nat}(e:σ[id]? =some (.list l)):AN B env σ (.obj id) "list":=fun C ρ s v S r=>by
 show cN (S.list r e) ?_;rintro c vs hc rfl c2 pl rl;show⟨pl.isList.typeIs,fun x e=>?_⟩
 injection e with z;subst z
 show av pl fun n q=>?_;show⟨_,q,rfl⟩
theorem aM.toBytes{x B':Int}{k:Nat}(hk:k≤8)(hB:(256:Int) ^ k=B')(h0:0≤x)(h1:x<B')(h:P (.bytes (KTBy.little k x).reverse) σ):aM B X env σ [.int x,.int k,.str (oS "big")] (fun vs=>PySem.call (.builtin "int.to_bytes") vs) P:=
 .three fun C O hX ρ s E Q a b c S ra rb rc q=>by
  (show av ra ?_;rintro t rfl);show av rb ?_;rintro u rfl;show av rc ?_;rintro v rfl
  show KTBy.to_big hk hB h0 h1 fun b t' k' e U=>q _ _ _ ρ {s with toks:=k'} h (.rr rfl rfl rfl) S ⟨_,_,rfl,e⟩
theorem aM.append{id:Nat}{x:LV}(e:σ[id]? =some (.list l))(hz:l.length≤1000000)(h:P .none (σ.set id (.list (l++[x])))):aM B X env σ [.obj id,x] (fun vs=>PySem.call (.builtin "list.append") vs) P:=
 fun C O hX ρ s E Q vs S qe r q=>by
  show bb r ?_;rintro v dX rfl rx r;show bb r ?_;rintro y dX rfl ry r;have r:_=[]:=r;subst r;show cN (S.list rx e) ?_;rintro c us hc rfl c2 pl rl;obtain⟨l0,vc⟩:=c;obtain rfl:vc=[]:=c2;show wpAny_list_append_plain pl (fun h6 w2 xh=>?_) (by have:=rl.length;simp only[List.size_toArray,this];unfold sizeLine;show nt)
  have Ab:(h6.get? l0).isSome:=by(show av w2 fun n e=>?_);erw[e];rfl
  have K6:Kept C ρ s ρ {s with heap:=h6}:=dH S hc xh Ab rfl rfl
  have ET:h6.PlainList l0 (us++[y]).toArray:=by simpa using w2
  show q _ _ _ ρ {s with heap:=h6} h K6 (S.jw (o:=.list (l++[x])) hc xh Ab rfl ⟨rfl,_,ET,(K6.gz S rl).snoc (K6.rep S ry)⟩) rfl
theorem eD.expr{P:dO}(h:aS B X env σ e fun r σ1=>r= .none∧P .next env σ1)(hi:∀ae,interactive ae=(ae.scope.kind== .module&&ae.scope.more.any fun(n,_)=>n==("interactive":Str)):=by intro U;rfl)(hs:∀ae,swapsWith e none pos.line ae=pure false:=by intro U;rfl):
  eD B X env σ (.Expr e pos) P:=fun C O hX ρ s E Q S qe q=>by
 show wpAny_Expr (h C O hX ρ s E _ S qe fun r σ1 v ρ1 s1 h1 K1 S1 R1=>?_) (by(erw[hi ..,O.kind]);rfl) (hs _);show aA h1 ?_;rintro rfl h2;obtain rfl:=R1;show q _ .next _ _ _ _ h2 K1 S1 rfl
theorem xJ(A:Around)(s:Shared)(x y:Int)(t u:Tok):SeqAt.EqAt A s (.int x t) (.int y u) (x==y):=fun prog w E Q h=>wpAny_eqBool_int h
theorem xK(hi:IntsAre vs ns)(h:y∈vs):∃n t,y= .int n t:=by
 induction hi with
 |nil=>right
 |cons n t _ ih=>
  rcases mem_cons.mp h with rfl|h
  ·show⟨n,t,rfl⟩
  ·show ih h
theorem any_ints{ns:List Int}(hi:IntsAre vs ns)(x:Int):(vs.any fun v=>match v with| .int n _=>n==x|_=>false)=ns.contains x:=by
 induction hi with
 |nil=>rfl
 |cons n t _ ih=>
  erw[any_cons,contains_cons,ih]
  congr 1
  show(?_:(n==x)=(x==n));show BEq.comm
theorem aM.FY{x:Int}{ns:List Int}(h:P (.bool (ns.contains x)) σ):aM B X env σ [.int x,.tup (ns.map .int)] (bK (compareOp .In)) P:=.two fun C O hX ρ s E Q vx vy S rx ry q=>by
 show av rx ?_;rintro t rfl;show bY ry ?_;rintro a vs rfl na ht rl;have hi:=o9 rl;show SeqAt.in_tupleAt (fun v=>match v with| .int n _=>n==x|_=>false) ht (fun y hy=>?_) ?_
 ·show fJ (xK hi (by simpa using hy)) ?_;rintro n u rfl;show xJ _ _ _ _ _ _
 ·have e:(vs.toArray.any fun v=>match v with| .int n _=>n==x|_=>false)=ns.contains x:=by erw[any_toArray];show any_ints hi x
  erw[e];show q _ _ _ ρ s h (.rr rfl rfl rfl) S rfl
noncomputable def bq:Expr→Bool
 | .Starred _ _=>false
 | .Set _ _ _=>false
 | .Slice _ _ _ _=>false
 |_=>true
noncomputable def fT:Expr→Bool
 | .Call f as kws _=>f.ctorIdx !=23 ||!as.isEmpty||!kws.isEmpty
 |_=>true
theorem fK{α:Type}{p:Prop}{a:α}(h:none=some a):p:=nomatch h
noncomputable def asName:Expr→Option (Str×Pos)
 | .Name x p=>some (x,p)
 |_=>none
theorem eu{r:Str×Pos}(h:asName e=some r):e= .Name r.1 r.2:=by
 induction e using Expr.casesOn with
 |Name x p=>show Option.some.inj h▸rfl
 |_=>show fK h
noncomputable def pd:Expr→Option (Expr×Str×Pos)
 | .Attribute o x p=>some (o,x,p)
 |_=>none
theorem kG{r:Expr×Str×Pos}(h:pd e=some r):e= .Attribute r.1 r.2.1 r.2.2:=by
 induction e using Expr.casesOn with
 |Attribute o x p=>show Option.some.inj h▸rfl
 |_=>show fK h
noncomputable def xM:Expr→Option (List Expr×Nat×Pos)
 | .Tuple es k p=>some (es,k,p)
 |_=>none
theorem xN{r:List Expr×Nat×Pos}(h:xM e=some r):e= .Tuple r.1 r.2.1 r.2.2:=by
 induction e using Expr.casesOn with
 |Tuple o x p=>show Option.some.inj h▸rfl
 |_=>show fK h
noncomputable def pe:Expr→Option (Const×Nat×Pos)
 | .Constant c k p=>some (c,k,p)
 |_=>none
theorem mi{r:Const×Nat×Pos}(h:pe e=some r):e= .Constant r.1 r.2.1 r.2.2:=by
 induction e using Expr.casesOn with
 |Constant o x p=>show Option.some.inj h▸rfl
 |_=>show fK h
theorem fU(h:bq e=true)(env:Env):starEach (e::r) env=(false,eval e env)::starEach r env:=by
 cases e<;>first|rfl|(right)
theorem kW(env:Env):∀{r:List Expr},r.all bq=true→∀pos,(backTo pos (starEach r env)).any (·.1)=false
 |[],_,_=>rfl
 |e::r,h,pos=>by simp only[all_cons,Bool.and_eq_true]at h;rw[fU h.1];show(?_:(false||(backTo pos (starEach r env)).any (·.1))=false);erw[kW env h.2 pos];rfl
theorem cH(env:Env):∀{r:List Expr},r.all bq=true→∀pos,(backTo pos (starEach r env)).all (fun x=>!x.1)=true
 |[],_,_=>rfl
 |e::r,h,pos=>by simp only[all_cons,Bool.and_eq_true]at h;rw[fU h.1];show(?_:(true&&(backTo pos (starEach r env)).all (fun x=>!x.1))=true);erw[cH env h.2 pos];rfl
theorem dB(h:fT o=true)(name:Str)(env:Env):attributeBase o name env (eval o env)=eval o env:=by
 induction o using Expr.casesOn with
 |Call f as kws p=>
  induction f using Expr.casesOn with
  |Name x np=>
   induction as using List.casesOn with
   |nil=>
    induction kws using List.casesOn with
    |nil=>show(Bool.false_ne_true h).elim
    |cons=>rfl
   |cons=>rfl
  |_=>rfl
 |_=>rfl
theorem mj(h:bq e=true):behindInMarks op e=false:=by
 cases e<;>first|rfl|(right)
theorem vF(h:bq e=true)(o i:Value):subscripted e false o i=operate [o,i] (getItem o i):=by
 cases e<;>first|rfl|(right)
section
variable{PB:Bool→List LO→Prop}
theorem Rc.cons{PL:List LV→List LO→Prop}(hp:bq e=true)(h:aS B X env σ e fun a σ1=>lR B X env σ1 r fun as σ2=>PL (a::as) σ2):lR B X env σ (e::r) PL:=lR.cons h fun ae=>fU hp ae
theorem Rc.item(hp:bq slice=true)(h:aS B X env σ value fun o σ1=>aS B X env σ1 slice fun i σ2=>dZ B X env σ2 o i P):aS B X env σ (.Subscript value slice pos) P:=aS.item h (vF hp)
theorem Rc.AO{l:Expr}(hp:bq r=true)(h:aS B X env σ l fun a σ1=>aS B X env σ1 r fun b σ2=>aM B X env σ2 [a,b] (bK (compareOp op)) fun c σ3=>∃t,c= .bool t∧PB t σ3):gv B X env σ (.Compare l [op] [r] p) PB:=gv.cmp h (mj hp)
theorem Rc.Jr{l:Expr}(hp:bq r=true)(h:aS B X env σ l fun a σ1=>aS B X env σ1 r fun b σ2=>aM B X env σ2 [a,b] (bK (compareOp op)) P):aS B X env σ (.Compare l [op] [r] p) P:=aS.cmp h (mj hp)
end
set_option backward.match.sparseCases true
theorem pg:typeLookup (.type "int") "__bytes__"=pure none:=by(erw[nF ..,nE]);left
theorem int_index:typeLookup (.type "int") "__index__"=pure (some (.builtin "int.__index__")):=by(erw[nF ..,nE]);left
theorem vG{n:Int}{t:Tok}(h0:0≤n)(h1:n≤1000000)(hQ:∀t' k,Q (.bytes (Array.replicate n.toNat 0) t') {s with toks:=k}):
  codeAny (model prog w) A (.call (.builtin "bytes.__new__") ⟨[.type "bytes",.int n t],[]⟩) (wants Q E) s:=by
 show codeAny_of_tree ?_;show(?_:wpAny _ A.in1 (do checkBuiltinCall "bytes.__new__" ⟨[.type "bytes",.int n t],[]⟩;again (.builtin "bytes.__new__" ⟨[.type "bytes",.int n t],[]⟩)) _ _ s);show V (eA (F.bm_newCall _) (aG ⟨plainId_quiet F.bm_plain _,codeAny_builtin F.bm_entry ?_⟩));erw[Around.under_plainId F.bm_plain _];have hT:s.TypeIs (.int n t) "int":=typeIs_int s n t;show V (eA (a:=true) rfl ?_);show bm_if_false rfl ?_;show V (eA F.bm_sub ?_);show bm_if_false rfl ?_;show V (eA (F.bm_bind _) ?_);show V (eA (a:=()) rfl ?_);show V (eA (a:=()) rfl ?_);show bm_if_false rfl ?_;show V (wpAny_specialOf hT pg ?_);show V (eA (a:=false) rfl ?_);show bm_if_false rfl ?_;show V (wpAny_specialOf hT int_index ?_);show bm_if_false rfl ?_;show V (wpAny_attempt (eA (a:=n) rfl ?_));show bm_if_false (by show(?_:(!(Builtin.Bytes.fitsIndex n))=false);unfold Builtin.Bytes.fitsIndex;simp;lia) ?_;show wpAny_ite_false (decide_eq_false (Int.not_lt.mpr ‹_›)) ?_;show wpAny_ite_false (decide_eq_false (by lia)) ?_;show bm_if_false (by show(?_:Builtin.Bytes.tooLong n.toNat=false);unfold Builtin.Bytes.tooLong;simp;unfold sizeLine;show Int.le_trans ‹_› (by decide)) ?_;show V (wpAny_rule ?_);show V (wpAny_mkBytes ?_ (by simp;unfold sizeLine;show Int.le_trans ‹_› (by decide)));show aG (hQ _ _)
theorem sN{n:Int}{t:Tok}(h0:0≤n)(h1:n≤1000000)(hQ:∀t' k,Q (.bytes (Array.replicate n.toNat 0) t') {s with toks:=k}):wpAny (model prog w) A (call (.type "bytes") [.int n t]) Q E s:=by
 show callType_codes (Q₁:=fun obj s₁=>s₁.TypeIs obj "bytes"∧Q obj s₁) F.bm_called (F.bm_typeCall _) F.entry_object_init
  (vG h0 h1 fun t' k=>⟨PySem.W.typeIs_bytes _ _ _,hQ t' k⟩) fun obj s₁ h₁=>?_
 show⟨h₁.1,F.args_object_init_2 obj _,object_init_meets F.bm_called.init.lookup F.bm_called.made (by decide) prog w A.in1 _ s₁ ⟨h₁.1,rfl,h₁.2⟩⟩
theorem aM.zeros{n:Int}(h0:0≤n)(h1:n≤1000000)(h:P (.bytes (replicate n.toNat 0)) σ):aM B X env σ [.int n] (fun vs=>PySem.call (.type "bytes") vs) P:=.one fun C O hX ρ s E Q x S rx q=>by show av rx ?_;rintro t rfl;show sN h0 h1 fun t' k=>q _ _ _ ρ {s with toks:=k} h (.rr rfl rfl rfl) S ⟨_,_,rfl,?_⟩;unfold KBw.bInts;simp
theorem vH{a b:Int}(h:b.natAbs<2 ^ 60):IntMulOk a b:=IntMulOk.of_right (by
 have:b.natAbs<2 ^ 64:=by show Cp ‹_› (by decide)
 show intBits_le_iff.mpr this)
theorem aS.neg{i:Int}{k:Nat}(h:P (.int (-i)) σ):aS B X env σ (.UnaryOp .USub (.Constant (.int i) k p) p') P:=fun C O hX ρ s E Q S qe q=>by show wpAny_UnaryOp (wpAny_Constant_int (neg_int (q _ _ _ ρ {s with toks:=s.toks+1+1} h (.rr rfl rfl rfl) S ⟨_,rfl⟩)))
def fV(B:Base)(X:Sx)(env:aQ)(op:BoolOp)(P:kr):List LO→List Expr→Prop
 |σ,[e]=>aS B X env σ e P
 |σ,e::r=>aS B X env σ e fun v σ1=>∃t,v= .bool t∧match op,t with
  | .And,false=>P (.bool false) σ1
  | .Or,true=>P (.bool true) σ1
  |_,_=>fV B X env op P σ1 r
 |_,[]=>False
theorem kH{op:BoolOp}(es:List Expr):∀{σ:List LO},fV B X env op P σ es→∀(C:Cx),bC C→X.At C→∀(ρ:Cells) (s:Shared) (E:VP) (Q:VP),St B C ρ env σ s.heap→Exc B X C ρ s E→
  (∀r σ' v ρ' s',P r σ'→Kept C ρ s ρ' s'→St B C ρ' env σ' s'.heap→Rep s'.heap ρ' r v→Q v s')→wpAny B.M C.A (boolOp pos op (evalEach es C.env)) Q E s:=by
 induction es with
 |nil=>show fun h=>h.elim
 |cons e r ih=>
  intro σ h C O hX ρ s E Q S qe q
  cases r with
  |nil=>show h C O hX ρ s E Q S qe q
  |cons e' r=>
   show(?_:wpAny B.M C.A (do
    let v←eval e C.env
    standAt pos
    let t←holding [v] (truthy v)
    match op,t with
    | .And,false| .Or,true=>pure v
    |_,_=>boolOp pos op (evalEach (e'::r) C.env)) Q E s)
   show V (h C O hX ρ s E _ S qe fun v σ1 u ρ1 s1 h1 K1 S1 R1=>V (gx (V (eT ?_))));show aa h1 ?_;rintro t rfl h2;obtain rfl:=R1;show wpAny_truthy_bool ?_
   have go:fV B X env op P σ1 (e'::r)→wpAny B.M C.A (boolOp pos op (evalEach (e'::r) C.env)) Q E s1:=fun h2=>ih h2 C O hX ρ1 s1 E Q S1 (qe.since K1) fun r σ' v ρ' s' p' K'=>q _ _ _ _ _ p' (K1.trans K')
   cases op<;>cases t
   ·show aG (q _ _ _ _ _ h2 K1 S1 rfl)
   ·show go h2
   ·show go h2
   ·show aG (q _ _ _ _ _ h2 K1 S1 rfl)
theorem aS.bools{op:BoolOp}(h:fV B X env op P σ es):aS B X env σ (.BoolOp op es p) P:=fun C O hX ρ s E Q S qe q=>kH es h C O hX ρ s E Q S qe q
theorem ph{l:Addr}{items:List Value}{t:Tok}{Q:sF}(pl:s.heap.PlainList l items.toArray)(hn:items≠[])(hz:items.length≤1000000)(hQ:∀h',h'.PlainList l (items.set (items.length-1) v).toArray→Heap.SameBut l s.heap h'→Q () {s with heap:=h'}):wpAny B.M C.A (setItem (.ref l) (.int (-1) t) v) Q E s:=by
 have hl:=pl.isList;show av pl fun n ho=>?_;have qp:0<items.length:=length_pos_iff.mpr hn;unfold setItem
 try with_reducible show eT ?_
 first|show V (aG ?_)|skip
 show V (wpAny_sequenceKey hl.typeIs (by decide) ?_)
 show V (wpAny_callSpecial?_slot (name:=Str.ofString "__setitem__") hl.typeIs slot_list_setitem
  (wpAny_call_entry slot_list_setitem hl.typeIs entry_list_setitem ?_ (args_list_setitem _ _ _)))
 change wpAny _ _ (Builtin.List.listSubscript? (.int (-1) t)>>=_) _ _ s;show V (wpAny_listSubscript_int (by decide) ?_);show(?_:wpAny _ _ ((Builtin.List.listItems (.ref l)>>=fun xs=>pure ((seqIndex? (Int.negSucc 0) xs.size).bind fun i=>xs[i]?.map (i,·)))>>=_) _ _ s);show V (V ?_);show V (wpAny_seqItems ho rfl (aG (aG ?_)))
 have Kz:seqIndex? (Int.negSucc 0) items.toArray.size=some (items.length-1):=by
  have:=seqIndex_neg (k:=Int.negSucc 0) (n:=items.toArray.size) (by decide) (by simp;show Int.ofNat_le.mpr ‹_›);erw[this]
  congr 1
  simp;lia
 have hx:items.toArray[items.length-1]? =some (items[items.length-1]'(Nat.sub_lt ‹_› (by decide))):=by simp
 erw[Kz];simp only[Option.bind_some,hx,Option.map_some]
 have Ht:(s.heap.update l (Obj.mapSeq (·.setIfInBounds (items.length-1) v))).PlainList l (items.set (items.length-1) v).toArray:=by show⟨n,(Heap.get?_update_self _ ho rfl).trans ?_⟩;unfold Obj.mapSeq;simp
 show V (wpAny_setSeqItemAt ho rfl ?_)
 first
  |show V (aG (aG ⟨.none,rfl,aG (hQ _ Ht (Heap.SameBut.update ..))⟩))
  |show aG ⟨.none,rfl,aG (hQ _ Ht (Heap.SameBut.update ..))⟩
theorem bz.set{x:LV}{l:List LV}:∀{vs:List Value} {i:Nat},bz h ρ l vs→Rep h ρ x v→bz h ρ (l.set i x) (vs.set i v):=by
 induction l with
 |nil=>intro vs i r q;have r:_=[]:=r;subst r;show .nil
 |cons y l ih=>
  intro vs i r q;show bb r ?_;rintro u us rfl g1 g2
  cases i with
  |zero=>show .cons q g2
  |succ i=>show .cons g1 (ih g2 q)
theorem eD.ph{P:dO}{k:Nat}{id:Nat}(ho:env.lookup o=oo id)(hd:(o==("__debug__":Str))=false)(EV:(o==("__classdict__":Str))=false)(h:aS B X env σ value fun r σ1=>∃l,σ1[id]? =some (.list l)∧l≠[]∧l.length≤1000000∧P .next env (σ1.set id (.list (l.set (l.length-1) r))))(hs:∀ae,swapsWith value (some (.Subscript (.Name o po) (.UnaryOp .USub (.Constant (.int 1) k p1) p2) ps)) pos.line ae=pure false:=by intro U;rfl):
  eD B X env σ (.Assign [.Subscript (.Name o po) (.UnaryOp .USub (.Constant (.int 1) k p1) p2) ps] value pos) P:=fun C O hX ρ s E Q S qe q=>by
 show wpAny_Assign_Subscript (h C O hX ρ s E _ S qe fun r σ1 v ρ1 s1 h1 K1 S1 R1=>?_) (hs _);show iP h1 fun l e ne hz h2=>?_;show aS.var (B:=B) (sc:=X) (P:=fun a σ2=>a= .obj id∧σ2=σ1) ho ⟨rfl,rfl⟩ hd EV C O hX ρ1 s1 E _ S1 (qe.since K1) fun a σ2 va ρ2 s2 p2 K2 S2 R2=>?_;show aA p2 ?_;rintro rfl rfl;show aS.neg (B:=B) (X:=X) (P:=fun a σ3=>a= .int (-1)∧σ3=σ2) ⟨rfl,rfl⟩ C O hX ρ2 s2 E _ S2 (qe.since (K1.trans K2)) fun b σ3 vb ρ3 s3 p3 K3 S3 R3=>?_;show aA p3 ?_;rintro rfl rfl;show av R3 ?_;rintro t rfl;show cN (S3.list (K3.rep S2 R2) e) ?_;rintro c vs hc rfl c2 pl rl;obtain⟨l0,vc⟩:=c;obtain rfl:vc=[]:=c2;have len:=rl.length;show MineL.ph pl (fun z=>ne (by replace len:=z▸len;show length_eq_zero_iff.mp len.symm)) (by ac_rfl) fun h6 w2 xh=>?_
 have Ab:(h6.get? l0).isSome:=by(show av w2 fun n e=>?_);erw[e];rfl
 have K6:Kept C ρ3 s3 ρ3 {s3 with heap:=h6}:=dH S3 hc xh Ab rfl rfl;have R0:=K6.rep S3 (K3.rep S2 (K2.rep S1 R1));have Iz:=(K6.gz S3 rl).set (i:=vs.length-1) R0;rw[len]at Iz w2;show q _ .next _ _ ρ3 {s3 with heap:=h6} h2 (((K1.trans K2).trans K3).trans K6) (S3.jw (o:=.list (l.set (l.length-1) r)) hc xh Ab rfl ⟨rfl,_,w2,Iz⟩) rfl
set_option backward.match.sparseCases false
noncomputable def bE{α:Type}(l:List α)(lo hi:Option Int):List α:=(l.drop (lo.elim 0 (clipAt l.length))).take (hi.elim l.length (clipAt l.length)-lo.elim 0 (clipAt l.length))
theorem jC(n i:Nat):clipAt n (i:Int)=min i n:=by
 unfold clipAt;erw[ax (Int.not_lt.mpr (Int.natCast_nonneg i))]
 rcases Nat.le_total i n with h|h
 ·(erw[Int.min_eq_left (Int.ofNat_le.mpr h),Int.max_eq_right (Int.natCast_nonneg _),Nat.min_eq_left h]);rfl
 ·(erw[Int.min_eq_right (Int.ofNat_le.mpr h),Int.max_eq_right (Int.natCast_nonneg _),Nat.min_eq_right h]);rfl
theorem AP{i j n:Nat}(h:i≤j):min j n-min i n≤j-i:=(Nat.le_total n i).elim
 (fun z=>by(erw[Nat.min_eq_right z,Nat.min_eq_right (hH z h),Nat.sub_self ..]);show Nat.zero_le _)
 (fun z=>by erw[Nat.min_eq_left z];show Nat.sub_le_sub_right (Nat.min_le_left j n) i)
section
variable{α:Type}(l:List α)
theorem pj(i j:Nat):bE l (some (i:Int)) (some (j:Int))=(l.drop (min i l.length)).take (min j l.length-min i l.length):=by
 (show bD ?_ (jC ..);show bD ?_ (jC ..));rfl
theorem uj(a b:Int)(h0:0≤a)(h1:a≤b):((bE l (some a) (some b)).length:Int)≤b-a:=by show av (Int.eq_ofNat_of_zero_le h0) ?_;rintro i rfl;show av (Int.eq_ofNat_of_zero_le (Int.le_trans h0 h1)) ?_;rintro j rfl;have Fq:=Int.ofNat_le.mp h1;erw[pj ..];show bD ?_ (Int.ofNat_sub Fq);show Int.ofNat_le.mpr (hH (length_take_le _ _) (AP Fq))
theorem ml(b:Int)(h1:0≤b):((bE l none (some b)).length:Int)≤b:=by show av (Int.eq_ofNat_of_zero_le h1) ?_;rintro j rfl;show Int.ofNat_le.mpr (hH (length_take_le _ _) (hH (Nat.sub_le _ _) (show clipAt l.length (j:Int)≤j from(jC _ _).symm▸Nat.min_le_left j l.length)))
theorem cB(a b:Option Int):(bE l a b).length≤l.length:=hH (length_take_le' _ _) (drop_sublist _ _).length_le
theorem AQ{l:List Int}{L:Int}(h0:0≤L)(h:(9:Int)+L≤l.length):bE l (some 9) (some (9+L))=(l.drop 9).take L.toNat:=by
 show av (Int.eq_ofNat_of_zero_le h0) ?_;rintro n rfl;have hn:9+n≤l.length:=Int.ofNat_le.mp h;show(pj l 9 (9+n)).trans ?_
 (erw[Nat.min_eq_left hn,Nat.min_eq_left (hH (Nat.le_add_right 9 n) hn),Nat.add_sub_cancel_left ..]);rfl
theorem mn{l:List Int}{n:Nat}(h:n≤l.length):bE l (some (n:Int)) none=l.drop n:=by show(?_:(l.drop (clipAt l.length n)).take (l.length-clipAt l.length n)=l.drop n);erw[jC ..,Nat.min_eq_left h];show bD ?_ length_drop;show aD rfl take_length
theorem vI{O:List Int}{F k:Nat}(h:F≤O.length):bE O (some (F:Int)) (some ((F:Int)+(k:Int)))=(O.drop F).take k:=by
 show(pj O F (F+k)).trans ?_;erw[Nat.min_eq_left h];rw[take_eq_take_iff];erw[length_drop]
 rcases Nat.le_total (F+k) O.length with z|z
 ·erw[Nat.min_eq_left z];show aD rfl (Nat.add_sub_cancel_left ..)
 ·erw[Nat.min_eq_right z,Nat.min_self ..];show aD rfl (Nat.min_eq_right (Nat.sub_le_iff_le_add'.mpr z))
theorem Js:(bE b none (some 4)).length≤4:=Int.ofNat_le.mp (ml b 4 (by decide))
end
def pk(B:Base)(X:Sx)(env:aQ)(σ:List LO)(P:Option Int→List LO→Prop):Option Expr→Prop
 |none=>P none σ
 |some e=>aS B X env σ e fun v σ1=>∃i,v= .int i∧P (some i) σ1
theorem uk{PO:Option Int→List LO→Prop}{e:Option Expr}(h:pk B X env σ PO e)(C:Cx)(O:bC C)(hX:X.At C)(ρ:Cells)(s:Shared)(E:VP)(Q:VP)(S:St B C ρ env σ s.heap)(qe:Exc B X C ρ s E)(q:∀i σ' v ρ' s',PO i σ'→Kept C ρ s ρ' s'→St B C ρ' env σ' s'.heap→IsPart v i→Q v s'):wpAny B.M C.A (evalPart e C.env) Q E s:=by
 induction e using Option.casesOn with
 |none=>show wpAny_evalPart_none (q _ _ _ ρ s h (.rr rfl rfl rfl) S .none)
 |some e=>show wpAny_evalPart_some (h C O hX ρ s E Q S qe fun r σ' v ρ' s' p K' S' R=>?_);show aa p ?_;rintro i rfl p;show av R ?_;rintro t rfl;show q _ _ _ _ _ p K' S' (.int _ _)
def eG(B:Base)(X:Sx)(env:aQ)(σ:List LO)(o:LV)(lo hi:Option Int)(P:kr):Prop:=
 ∀(C:Cx),bC C→X.At C→∀(ρ:Cells) (s:Shared) (E:VP) (Q:VP) (x l u:Value),St B C ρ env σ s.heap→Rep s.heap ρ o x→IsPart l lo→IsPart u hi→
  (∀r σ' v ρ' s',P r σ'→Kept C ρ s ρ' s'→St B C ρ' env σ' s'.heap→Rep s'.heap ρ' r v→Q v s')→
  ∃T id,typeLookup (.type T) "__getitem__"=pure (some (.builtin id))∧s.TypeIs x T∧
   (({s with heap:=s.heap.push {cls:=.type "slice",data:=.fields #[l,u,.none]}}:Shared).TypeIs x T)∧wpAny B.M C.A (getItem x (.ref s.heap.objs.size)) Q E {s with heap:=s.heap.push {cls:=.type "slice",data:=.fields #[l,u,.none]}}
theorem aS.slice{lo hi:Option Expr}(h:aS B X env σ value fun o σ1=>pk B X env σ1 (fun a σ2=>pk B X env σ2 (fun b σ3=>eG B X env σ3 o a b P) hi) lo):aS B X env σ (.Subscript value (.Slice lo hi none p) pos) P:=fun C O hX ρ s E Q S qe q=>by
 show Subscript_ (h C O hX ρ s E _ S qe fun o σ1 vo ρ1 s1 h1 K1 S1 R1=>wpAny_Slice ?_);show uk h1 C O hX ρ1 s1 E _ S1 (qe.since K1) fun a σ2 va ρ2 s2 h2 K2 S2 pa=>?_;show uk h2 C O hX ρ2 s2 E _ S2 (qe.since (K1.trans K2)) fun b σ3 vb ρ3 s3 h3 K3 S3 pb=>?_;show wpAny_evalPart_none ?_;show bY (h3 C O hX ρ3 s3 E Q vo va vb S3 (K3.rep S2 (K2.rep S1 R1)) pa pb fun r σ' v ρ' s' p' K' S' R'=>q _ _ _ _ _ p' (((K1.trans K2).trans K3).trans K') S' R') fun T id tl Px ty hg=>?_;show V ?_;erw[getitemInPython_of_ne ty.not_modules];show V (wpAny_specialOf ty tl ?_)
 have fin:wpAny B.M C.A (subscripted (.Slice lo hi none p) false vo (.ref s3.heap.objs.size)) (fun r s₃=>wpAny B.M C.A (letTemporaryGo value vo r>>=fun U=>pure r) Q E s₃) E {s3 with heap:=s3.heap.push {cls:=.type "slice",data:=.fields #[va,vb,.none]}}:=by show wpAny_operating (jt hg (fun r s₃ h₃=>V (wpAny_letTemporaryGo (aG h₃))) fun U U x=>x)
 first
  |show aG (V fin)
  |show V (aG (V fin))
  |show V fin
theorem eG.bytes{l:List Int}{lo hi:Option Int}(hz:l.length≤16777216)(h:P (.bytes (bE l lo hi)) σ):eG B X env σ (.bytes l) lo hi P:=fun C O hX ρ s E Q x va vb S r pa pb q=>by
 show cj r ?_;rintro b t rfl eb;have kp:=aC s.heap {cls:=.type "slice",data:=.fields #[va,vb,.none]};show⟨"bytes",_,FB.slot_bytes_getitem.lookup,typeIs_bytes _ _ _,typeIs_bytes _ _ _,?_⟩
 show getItem_meets (typeIs_bytes _ _ _) (by decide) FB.slot_bytes_getitem FB.entry_bytes_getitem (FB.args_bytes_getitem_2 _ _) (KBc.meets_slice2 b t _ pa pb)
  ⟨Heap.IsSliceOf.new _ _ _ _,hH (KBc.size_picked_le b lo hi) (by(show bD ?_ (KBw.ints_length b);erw[eb,sizeLine_eq]);show hz),fun t' k=>?_⟩
 show q _ _ _ ρ _ h (aR kp rfl rfl) (S.bh kp) ⟨_,_,rfl,KBc.ints_picked eb lo hi⟩
noncomputable def pq:Heap:=⟨#[],{}⟩
noncomputable def pz(h:Heap)(L:Addr):List (Addr×Obj):=(range h.objs.size).filterMap fun a=>if a=L then none else(h.get? a).map fun o=>(a,o)
theorem mq{L:Addr}(e:h.get? a=some o)(n:a≠L):(a,o)∈pz h L:=by
 unfold pz;show mem_filterMap.mpr ⟨a,mem_range.mpr (Heap.lt_size e),?_⟩
 (erw[ax n,e]);rfl
theorem qK(h:Heap)(L:Addr):News pq L h (pz h L):=fun p hp=>by
 unfold pz at hp;show aa (mem_filterMap.mp hp) fun a U e=>?_
 by_cases q:a=L
 ·replace e:=aJ q▸e;right
 ·replace e:=ax q▸e;show aa (Option.map_eq_some_iff.mp e) fun o ho e=>?_;subst e;show⟨ho,q,rfl⟩
theorem Dp{L:Addr}{m:Str→Option Value}(n:h.Ns L m):Fr pq L h m:=⟨n,(fun b o e=>by right),Nat.zero_le _⟩
section
variable{s':Shared}
theorem St.of_frame(S:St B C ρ env σ h){m:Str→Option Value}(hm:h.Ns C.env.locals m)(B9:h'.Ns C.env.locals m)(k:∀a o,a≠C.env.locals→h.get? a=some o→h'.get? a=some o):St B C ρ env σ h':=by
 have nf:∀a∈flat ρ,a≠C.env.locals:=fun a ha q=>(S.ow C.env.locals (.head _)).2 (q▸ha);have fk:bj ρ h h':=fun a o n f e=>k a o (fN hm f e) e;have ce:aF h ρ ρ:=.refl _ _
 have iM:∀{c vv},h.IsCell c vv→c≠C.env.locals:=fun{c vv} q z=>by
  show aa q ?_;clear q;rintro o ho hd;show gy hm ?_;clear hm;rintro o' es ep eN du U;replace ho:=z▸ho;replace ho:=eN▸ho
  injection ho with z;subst z
  replace hd:=du▸hd;right
 have ck:∀{c vv},h.IsCell c vv→h'.IsCell c vv:=fun{c vv} q=>by show aa (id q) ?_;rintro o ho hd;show⟨o,k _ _ (iM q) ho,hd⟩
 show aa S.ns ?_;rintro m' Hq hv
 have Kk:∀y,m' y=m y:=fun y=>by
  show iQ hm ?_;clear hm;rintro o1 kv Mh a1 b1 c1 d1;show iQ Hq ?_;clear Hq;rintro o2 zY Kj a2 b2 c2 d2;replace a2:=a1▸a2
  injection a2 with z;subst z
  replace b2:=b1▸b2
  injection b2 with z w;subst z;subst w
  show bD ?_ (d1 ..);show bD rfl (d2 ..)
 show⟨⟨m,B9,fun y lv e=>?_⟩,fun p hp=>?_,S.apart,S.ow,fun a o e=>k a o (fun q=>?_) (S.base a o e),fun e he=>?_,fun a ha=>⟨(S.out a ha).1,?_⟩,S.nd,S.len,
  fun i o c hi hc=>(S.iR i o c hi hc).mono (fun a o ha e=>k a o (nf a (b8 hc ha)) e) fk ce⟩
 ·show aa (hv y lv e) ?_;rintro u e1 e2;show⟨u,?_,e2.mono fk ce⟩
  rcases e1 with⟨a,b⟩|⟨a,c,b,d⟩
  ·show .inl ⟨a,by show bD ?_ (Kk ..);show b⟩
  ·show .inr ⟨a,c,b,ck d⟩
 ·show av (S.jm p hp) ?_;rintro v q;show⟨v,ck q⟩
 ·have:=(S.ow C.env.locals (.head _)).1;replace this:=q.symm▸this;replace this:=e▸this;right
 ·show aA (S.dq e he) ?_;rintro q hZ;show bY hZ ?_;clear hZ;rintro L mm a b c' d
  by_cases z:L=C.env.locals
  ·show⟨q,L,m,a,b,z▸B9,d⟩
  ·show sI c' ?_;clear c';rintro o es ep ho r;show⟨q,L,mm,a,b,⟨o,es,ep,k _ _ z ho,r⟩,d⟩
 ·show av (iA (S.out a ha).2) ?_;rintro o ho;erw[k a o (nf a ha) ho];rfl
theorem sO{m:Str→Option Value}(B9:s'.heap.Ns C.env.locals m)(k:∀a o,a≠C.env.locals→s.heap.get? a=some o→s'.heap.get? a=some o)(hg:s'.gens=s.gens)(ho:s'.os=s.os):Kept C ρ s ρ s':=
 ⟨fun a o U n U e=>k a o (fun z=>n (z▸.head _)) e,fun a o U U n e=>⟨o,k a o (fun z=>n (z▸.head _)) e,rfl⟩,fun a e=>by
  by_cases z:a=C.env.locals
  ·erw[z];show Ns.alive B9
  ·show av (iA e) fun o ho=>?_
   erw[k a o z ho];rfl,.refl _ _,.of_eq hg,ho⟩
end
theorem xO:findCls [] (.type "int") (.type "type") (PySem.Str.ofString "from_bytes")=some (.get (.builtin "classmethod_descriptor.__get__") (.builtin "int.from_bytes") .none (.type "int")):=by left
theorem Dq:Frag.In [] h:=fun a o e=>by right
theorem Rc.fromBytes{apos:Pos}{k:Nat}(hp:(bq e1&&apos.endLine==pos.line)=true)(h:aS B X env σ (.Name (oS "int") np) fun v σ1=>v= .gl (.type "int")∧aS B X env σ1 e1 fun b σ2=>∃l,b= .bytes l∧l.length≤8∧P (.int (KFB.value l)) σ2):
  aS B X env σ (.Call (.Attribute (.Name (oS "int") np) (oS "from_bytes") apos) [e1,.Constant (.str (oS "big")) k p1] [] pos) P:=fun C O hX ρ s E Q S qe q=>by
 simp only[Bool.and_eq_true]at hp;show aA hp fun KA g9=>?_;erw[arm_eval_Call ..];rw[dB rfl];show V (h C O hX ρ s E _ S qe fun v σ1 u ρ1 s1 h1 K1 S1 R1=>?_);show aA h1 ?_;rintro rfl h2;obtain rfl:=R1;show V (gx ?_)
 have fu:([e1,Expr.Constant (.str (oS "big")) k p1]:List Expr).all bq=true:=by show(?_:(bq e1&&(true&&true))=true);erw[KA];rfl
 have so:methodCallForm (([e1,Expr.Constant (.str (oS "big")) k p1]:List Expr).length+([]:List Keyword).length) (backTo pos (starEach [e1,Expr.Constant (.str (oS "big")) k p1] C.env)) (backToKw pos (keywordEach [] C.env))=true:=by show(?_:((backTo pos (starEach [e1,Expr.Constant (.str (oS "big")) k p1] C.env)).all (fun x=>!x.1)&&true&&decide (2+0+0<30))=true);erw[cH C.env fu pos];rfl
 have qp:methodCallPos true (.Name (oS "int") np) C.env apos pos=pure pos:=by unfold methodCallPos;simp[g9]
 unfold methodCall;erw[so];show aa S1.ns fun m hm U=>?_;show V (eT ?_);show(?_:wpAny B.M C.A (getMethod (.type "int") (oS "from_bytes") _) _ E s1);show KFB.getm (Dp hm) (qK s1.heap C.env.locals) Dq xO fun x h' F' N' lx=>?_;show V (eA qp ?_);have k1:∀a o,a≠C.env.locals→s1.heap.get? a=some o→h'.get? a=some o:=fun a o n e=>(N' _ (.tail _ (mq e n))).1;have xb:h'.get? x=some KFB.bound:=(N' _ (.head _)).1;have xn:x≠C.env.locals:=(N' _ (.head _)).2.1;have S2:St B C ρ1 env σ1 h':=S1.of_frame hm F'.ns k1;have K2:Kept C ρ1 s1 ρ1 {s1 with heap:=h',toks:=s1.toks+1}:=sO F'.ns k1 rfl rfl;have big:∀a o,s1.heap.get? a=some o→a≠C.env.locals→a<x:=fun a o e n=>lx (a,o) (mq e n)
 have Mt:x∉flat ρ1:=fun z=>by show av (iA (S1.out x z).2) fun o ho=>?_;show Nat.lt_irrefl _ (big x o ho xn)
 have Mu:x∉C.own:=fun z=>by
  rcases mem_cons.mp z with e|z
  ·show xn e
  ·show aa (mem_map.mp z) fun p hp e=>?_;show cj (S1.jm p hp) fun v o ho U=>?_
   have:p.2≠C.env.locals:=by erw[e];show xn
   have:=big p.2 o ho this;replace this:=e▸this;show Nat.lt_irrefl _ this
 have Hu:x∉C.outs:=fun m=>by show fJ (S2.cG x m _ xb) fun es k q=>?_;right
 have hl:lR B X env σ1 [e1,.Constant (.str (oS "big")) k p1] fun as σ2=>∃l,as=[.bytes l,.str (oS "big")]∧l.length≤8∧P (.int (KFB.value l)) σ2:=
  Rc.cons KA (h2.mono fun b σ2 hb=>by
   show bJ hb ?_;rintro l rfl hl hP
   show Rc.cons rfl (aS.str (lR.nil ⟨l,rfl,hl,hP⟩)))
 show KFB.callWith_bound (h₀:=pq) (L:=C.env.locals) N' (.head _) ?_ (fU KA _) (kW _ (by rfl) _);show hl C O hX ρ1 {s1 with heap:=h',toks:=s1.toks+1} E _ pos S2 (qe.since (K1.trans K2)) fun rs σ2 vs ρ3 s3 p3 K3 S3 R3=>⟨K3.keep x _ Mt Mu Hu xb,?_⟩;show bJ p3 ?_;rintro l rfl ll hP;show bb R3 ?_;rintro v1 nz rfl r1 R3;show bb R3 ?_;rintro v2 Ap rfl r2 R3;have R3:_=[]:=R3;subst R3;show cj r1 ?_;rintro b t rfl eb;show av r2 ?_;rintro u rfl;subst eb;show KFB.call_of (K3.keep x _ Mt Mu Hu xb) (fun z=>KFB.tree_big (by show bD ?_ (KBw.ints_length ..);show ll) z) ?_;show q _ _ _ ρ3 {s3 with toks:=s3.toks+1} hP ((K1.trans K2).trans (K3.trans (.rr rfl rfl rfl))) S3 ⟨_,rfl⟩
theorem len0(h:vs.length=0):vs=[]:=length_eq_zero_iff.mp h
theorem lM(h:vs.length=1):∃a,vs=[a]:=by
 induction vs using List.casesOn with
 |nil=>right
 |cons a r=>show⟨a,by(show aD rfl (len0 (Nat.succ.inj h)))⟩
theorem fW(h:vs.length=2):∃a b,vs=[a,b]:=by
 induction vs using List.casesOn with
 |nil=>right
 |cons a r=>(show av (lM (Nat.succ.inj h)) fun b e=>?_);show⟨a,b,by(show aD rfl e)⟩
theorem sP(h:vs.length=3):∃a b c,vs=[a,b,c]:=by
 induction vs using List.casesOn with
 |nil=>right
 |cons a r=>(show fJ (fW (Nat.succ.inj h)) fun b c e=>?_);show⟨a,b,c,by(show aD rfl e)⟩
structure Gd(B:Base):Prop extends B.Ok where
 dy:(K B.w.params).In B.heap
theorem Gd.g(G:Gd B)(e:nsIn (K B.w.params) mainGlobals x=some (some v)):B.mg x=some v:=mg_of G.dy G.ns e
theorem Gd.n(G:Gd B)(e:nsIn (K B.w.params) mainGlobals x=some none):B.mg x=none:=mg_none_of G.dy G.ns e
def fdOf(i:Nat)(n:Str)(c:Addr):FuncData:={name:=n,qualname:=n,params:=xm (aB i),body:=.stmts (aH (aB i)),scope:=ai (aB i),globals:=3,closure:=[],defaults:=.none,kwdefaults:=.none,doc:=.none,pyModule:=(.str (oS "law_kk0028_01") 1997),annotations:=none,code:=.ref c,closureTuple:=.none,builtins:=0}
theorem kX(G:Gd B){i:Nat}{c:Addr}{xs:List Str}(h1:(K B.w.params).lookup a=some ⟨.type "function",none,.func (fdOf i n c),#[]⟩)(h2:codeIn (K B.w.params) (.ref c) n=true)(h3:∀vs:List Value,vs.length=xs.length→bindArgs (fdOf i n c) ⟨vs,[]⟩=pure (xs.zip vs))(h4:xs.Nodup)(h5:(xs.all fun x=>decide ((ai (aB i)).names.lookup x=some .local))=true)(h6:((ai (aB i)).names.all fun y=>decide (y.2≠.cell))=true)(h7:(ai (aB i)).isCoroutine=false)(h8:(ai (aB i)).isGenerator=false)(h9:(ai (aB i)).kind= .function)(EW:∀m,cellsFrom m (ai (aB i)).names []=[]):cm B a (fdOf i n c) (aH (aB i)) xs where
 at_:=⟨_,G.dy _ _ h1,rfl⟩
 code:=codeRec_of G.dy h2
 body:=rfl
 Fl:=rfl
 glob:=rfl
 blt:=rfl
 bind:=fun vs l s U=>.of_eq (h3 vs l)
 nd:=h4
 kinds:=fun x hx=>.inl (by have:=List.all_eq_true.mp h5 x hx;show js this)
 co:=h7
 gen:=h8
 kind:=h9
 cells:=⟨[],.nil,fun m=>by show(?_:(cellsFrom m (ai (aB i)).names []).map (·.1)=[]);erw[EW ..];rfl,fun x e=>by
  have:=List.all_eq_true.mp h6 _ (aj e)
  show absurd rfl (js this)⟩
theorem vJ(G:Gd B):cm B 1096 (fdOf 37 (oS "_law_octets") 1095) (aH (aB 37)) [oS "row"]:=
 kX G (by left) (by left) (fun vs h=>by(show av (lM h) ?_;rintro a rfl);left) (by nofun) (by nofun) (by nofun) (by left) (by left) (by left) (fun m=>by left)
def Sub(e0 env:aQ):Prop:=∀y w,e0.lookup y=some w→env.lookup y=some w
def xP:aQ→aQ→Prop
 |[],_=>True
 |(x,v)::r,env=>env.lookup x=some v∧xP r env
theorem xP.sub{e0:aQ}:∀{env:aQ},xP e0 env→Sub e0 env:=by
 induction e0 with
 |nil=>intro _ _ y w z;right
 |cons p r ih=>
  intro env h y w z;obtain⟨x,v⟩:=p;rw[lookup_cons]at z
  by_cases q:(y==x)=true
  ·replace z:=q▸z;obtain rfl:=eB q
   injection z with z;subst z
   show h.1
  ·rw[Bool.not_eq_true]at q;replace z:=q▸z;show ih h.2 y w z
theorem Sub.refl(e:aQ):Sub e e:=fun U U z=>z
section
variable{e0:aQ}
theorem St.weak(S:St B C ρ env σ h)(k:Sub e0 env):St B C ρ e0 σ h where
 ns:=by(show aa S.ns fun m a b=>?_);show⟨m,a,fun x lv e=>b x lv (k x lv e)⟩
 jm:=S.jm
 apart:=S.apart
 ow:=S.ow
 base:=S.base
 dq:=S.dq
 out:=S.out
 nd:=S.nd
 len:=S.len
 iR:=S.iR
theorem dY.weak{P:dO}(k:Sub e0 env)(h:dY B X e0 σ b P):dY B X env σ b P:=fun C O hX ρ s E Q S qe q=>h C O hX ρ s E Q (S.weak k) qe q
def xQ(J:sG)(i:Nat)(P:dO):dO
 | .next,env,σ=>∃e0,J (i+1) e0 σ∧Sub e0 env
 | .cont,env,σ=>∃e0,J (i+1) e0 σ∧Sub e0 env
 | .brk,env,σ=>P .next env σ
 | .ret r,env,σ=>P (.ret r) env σ
theorem o8.FZ(hn:X.hn=true){P:dO}(hk:X.sc.names.lookup x=some .local∨X.sc.names.lookup x=some .cell)(hP:∀e e' σ,Sub e e'→P .next e σ→P .next e' σ){id:Nat}{ls:List LV}(J:sG)(j0:∃e0,J 0 e0 σ∧Sub e0 env)(jg:∀i e0 σ,J i e0 σ→σ[id]? =some (.list ls))(step:∀i v e0 σ,ls[i]? =some v→J i e0 σ→dY B X.calm (put x v e0) σ body (xQ J i P))(fin:∀e0 σ i,ls.length≤i→J i e0 σ→P .next e0 σ):o8 B X env σ (.obj id) x px body P:=by
 show .list hn hk (ls:=ls) (fun i env σ=>∃e0,J i e0 σ∧Sub e0 env) j0 (fun i env σ hI=>?_) (fun i v env σ hi hI=>?_) fun env σ i hi hI=>?_
 ·show aa hI fun e0 j k=>?_;show jg i e0 σ j
 ·show aa hI fun e0 j k=>?_;show .weak (fun z w q=>?_) ((step i v e0 σ hi j).mono fun f e s p=>?_)
  ·rw[aE]at q⊢
   split
   ·rename_i c;replace q:=aJ c▸q;show q
   ·rename_i c;replace q:=ax c▸q;show k z w q
  ·cases f<;>show p
 ·show aa hI fun e0 j k=>?_;show hP _ _ _ k (fin e0 σ i hi j)
theorem o8.Jt(hn:X.hn=true){P:dO}(hk:X.sc.names.lookup x=some .local∨X.sc.names.lookup x=some .cell)(hP:∀e e' σ,Sub e e'→P .next e σ→P .next e' σ){a b c:Int}(sm:Builtin.Range.small a b c=true)(J:sG)(j0:∃e0,J 0 e0 σ∧Sub e0 env)(step:∀(i:Nat) e0 σ,(i:Int)<Builtin.Range.rangeSize a b c→J i e0 σ→dY B X.calm (put x (.int (a+i*c)) e0) σ body (xQ J i P))(fin:∀e0 σ (i:Nat),Builtin.Range.rangeSize a b c≤i→J i e0 σ→P .next e0 σ):o8 B X env σ (.lZ a b c) x px body P:=by
 show .lZ hn hk sm (fun i env σ=>∃e0,J i e0 σ∧Sub e0 env) j0 (fun i env σ hi hI=>?_) fun env σ i hi hI=>?_
 ·show aa hI fun e0 j k=>?_;show .weak (fun z w q=>?_) ((step i e0 σ hi j).mono fun f e s p=>?_)
  ·rw[aE]at q⊢
   split
   ·rename_i c;replace q:=aJ c▸q;show q
   ·rename_i c;replace q:=ax c▸q;show k z w q
  ·cases f<;>show p
 ·show aa hI fun e0 j k=>?_;show hP _ _ _ k (fin e0 σ i hi j)
end
theorem dZ.bytes{l:List Int}{k:Int}(hz:l.length≤16777216)(h0:0≤k)(h1:k<l.length)(h:0≤l.getD k.toNat 0→l.getD k.toNat 0<256→P (.int (l.getD k.toNat 0)) σ):dZ B X env σ (.bytes l) (.int k) P:=fun C O hX ρ s E Q vo vi S ro ri q=>by
 show cj ro ?_;rintro b t rfl eb;show av ri ?_;rintro u rfl;subst eb;have e:b.toList.toArray=b:=Array.toArray_toList;have Mv:=KBw.getD_in (ks:=KBw.bInts b) (j:=k.toNat) fun k hk=>KBw.ints_in hk;rw[KBw.ints_length]at hz h1;show⟨"bytes",_,FB.slot_bytes_getitem.lookup,typeIs_bytes _ _ _,?_⟩
 have g:wpAny B.M C.A (getItem (.bytes b.toList.toArray t) (.int k u)) Q E s:=by show getItem_bytes (l:=b.toList) (by simp;show nt) h0 (by simpa using h1) ?_;show q _ _ _ ρ {s with toks:=s.toks+1} (h Mv.1 Mv.2) (.rr rfl rfl rfl) S ⟨s.toks,?_⟩;erw[KBw.getD_ints ..];rfl
 replace g:=e▸g;show g
theorem vK(h:aS B X env σ e fun v σ1=>∃t,v= .bool t∧((t=false→P (.bool false) σ1)∧(t=true→fV B X env .And P σ1 (e'::r)))):fV B X env .And P σ (e::e'::r):=by
 show h.mono fun v σ1 h1=>?_;show aa h1 ?_;rintro t rfl h2;show⟨t,rfl,?_⟩;cases t
 ·show h2.1 rfl
 ·show h2.2 rfl
theorem xR(h:aS B X env σ e fun v σ1=>∃t,v= .bool t∧((t=true→P (.bool true) σ1)∧(t=false→fV B X env .Or P σ1 (e'::r)))):fV B X env .Or P σ (e::e'::r):=by
 show h.mono fun v σ1 h1=>?_;show aa h1 ?_;rintro t rfl h2;show⟨t,rfl,?_⟩;cases t
 ·show h2.2 rfl
 ·show h2.1 rfl
def xS(J:aQ→List LO→Prop)(P:dO):dO
 | .next,env,σ=>∃e0,J e0 σ∧Sub e0 env
 |fv,env,σ=>P fv env σ
theorem dY.join{st:Stmt}{r:List Stmt}{P:dO}(J:aQ→List LO→Prop)(h:eD B X env σ st (xS J P))(h1:∀e0 σ,J e0 σ→dY B X e0 σ r P):dY B X env σ (st::r) P:=
 .cons (h.mono fun f e s p=>by
  induction f using FV.casesOn with
  |next=>show aa p fun e0 j k=>?_;show dY.weak k (h1 e0 s j)
  |brk=>show p
  |cont=>show p
  |ret v=>show p)
theorem jD{k j:Int}{r:List (Int×Value)}:valueAt ((k,v)::r) j=if k=j then some v else valueAt r j:=by
 unfold valueAt;erw[find?_cons]
 by_cases q:k=j
 ·(erw[aJ q,decide_eq_true q]);rfl
 ·erw[ax q];show aD rfl (decide_eq_false q)
theorem nL.pairs {prog:Program} {w:World} {h:Heap} {ρ:Cells}{l:List (Int×LV)}:∀{es:List DictEntry},nL h ρ l es→∃fb,Pairs (intKind prog w) es fb∧fb.map (·.1)=l.map (·.1)∧
  (∀e∈es,∃k,(intKind prog w).is k e.key=true∧e.hash=(intKind prog w).hash k)∧(∀k x,l.lookup k=some x→∃v,valueAt fb k=some v∧Rep h ρ x v)∧∀k,l.lookup k=none→valueAt fb k=none:=by
 induction l with
 |nil=>
  intro es r
  have r:_=[]:=r
  subst r
  show⟨[],.nil,rfl,fun e m=>(by right),fun k x z=>(by right),fun k _=>rfl⟩
 |cons p l ih=>
  intro es r;obtain⟨k,x⟩:=p
  show AF r ?_;clear r;rintro e es t rfl a b c d
  show oY (ih d) ?_;rintro fb p e1 e2 e3 e4
  have ki:(intKind prog w).is k e.key=true:=by erw[a];show intKind_is prog w k t
  show⟨(k,e.val)::fb,.cons ki rfl p,by simp[e1],fun e' m=>?_,fun j y z=>?_,fun j z=>?_⟩
  ·rcases mem_cons.mp m with rfl|m
   ·show⟨k,ki,b⟩
   ·show e2 e' m
  ·erw[jD]
   rw[lookup_cons]at z
   by_cases q:k=j
   ·subst q
    replace z:=(show(k==k)=true from beq_self_eq_true k)▸z
    injection z with z;subst z
    erw[aJ rfl]
    show⟨_,rfl,c⟩
   ·erw[ax q]
    replace z:=(show(j==k)=false from oW (fun z=>q z.symm))▸z
    show e3 j y z
  ·erw[jD]
   rw[lookup_cons]at z
   by_cases q:k=j
   ·subst q
    replace z:=(show(k==k)=true from beq_self_eq_true k)▸z
    right
   ·erw[ax q]
    replace z:=(show(j==k)=false from oW (fun z=>q z.symm))▸z
    show e4 j z
theorem Rep.dictOf{l:List (Int×LV)}(r:Rep h ρ (.gw l) v):∃a fb,v= .ref a∧a≠sysModules∧h.DictOf (intKind prog w) a fb∧
  (∀k x,l.lookup k=some x→∃v,valueAt fb k=some v∧Rep h ρ x v)∧∀k,l.lookup k=none→valueAt fb k=none:=by
 show AG r ?_;rintro a o es n rfl na ho hc hy hu hd hs q;show oY (q.pairs (prog:=prog) (w:=w)) fun fb p e1 e2 e3 e4=>?_;show⟨a,fb,rfl,hy,⟨o,es,n,ho,hc,hd,fun e m=>e2 e (Array.mem_toList_iff.mpr m),p,by erw[e1];show hu⟩,e3,e4⟩
theorem dZ.gw{l:List (Int×LV)}{k:Int}{x:LV}(hx:l.lookup k=some x)(h:P x σ):dZ B X env σ (.gw l) (.int k) P:=fun C O hX ρ s E Q vo vi S ro ri q=>by show cN (ro.dictOf (prog:=PySem.Challenge.pw_kk0028_01) (w:=B.w)) ?_;rintro a fb rfl hy hd e3 e4;show av ri ?_;rintro t rfl;show aa (e3 k x hx) fun v hv rv=>?_;show⟨"dict",_,slot_dict_getitem.lookup,hd.typeIs,wpAny_getItem_of (intKind_is _ _ k t) hd.mapOf hv (q _ _ _ ρ {s with toks:=s.toks+1} h (.rr rfl rfl rfl) S rv)⟩
theorem aM.F0{l:List (Int×LV)}{k:Int}(h:P (.bool (l.lookup k).isSome) σ):aM B X env σ [.int k,.gw l] (bK (compareOp .In)) P:=.two fun C O hX ρ s E Q vx vy S rx ry q=>by
 show cN (ry.dictOf (prog:=PySem.Challenge.pw_kk0028_01) (w:=B.w)) ?_;rintro a fb rfl hy hd e3 e4;show av rx ?_;rintro t rfl;show wpAny_in_of (intKind_is _ _ k t) (oW hy) hd.mapOf (q _ _ _ ρ {s with toks:=s.toks+1} h (.rr rfl rfl rfl) S ?_)
 cases e:l.lookup k with
 |none=>erw[e4 k e];rfl
 |some x=>(show aa (e3 k x e) fun v hv U=>?_);erw[hv];rfl
noncomputable def pA:List (Option Expr)→List Expr→List (Expr×Expr)
 |some a::r,b::l=>(a,b)::pA r l
 |_,_=>[]
noncomputable def qL(e:Expr):Option Int:=(pe e).bind fun r=>match r.1 with
 | .int i=>some i
 |_=>none
theorem iY{i:Int}(h:qL e=some i):∃k p,e= .Constant (.int i) k p:=by
 show aa (iO h) ?_;rintro⟨c,k,p⟩ h1 h;obtain rfl:=mi h1
 induction c using Const.casesOn with
 |int j=>show Option.some.inj h▸⟨k,p,rfl⟩
 |_=>show fK h
def F2{α β:Type}(R:α→β→Prop):List α→List β→Prop
 |[],[]=>True
 |a::l,b::m=>R a b∧F2 R l m
 |_,_=>False
section
variable{α β:Type}{R:α→β→Prop}{l:List α}{m:List β}
theorem F2.ind{P:List α→List β→Prop}(h:F2 R l m)(n:P [] [])(c:∀a b l m,R a b→P l m→P (a::l) (b::m)):P l m:=by
 induction l generalizing m with
 |nil=>
  cases m with
  |nil=>show n
  |cons=>show h.elim
 |cons a l ih=>
  cases m with
  |nil=>show h.elim
  |cons b m=>show c _ _ _ _ h.1 (ih h.2)
theorem F2.two(h:F2 R l m):(l=[]∧m=[])∨∃a r b s,l=a::r∧m=b::s:=h.ind (P:=fun l m=>(l=[]∧m=[])∨∃a r b s,l=a::r∧m=b::s) (.inl ⟨rfl,rfl⟩) fun a b l m U U=>.inr ⟨a,l,b,m,rfl,rfl⟩
theorem F2.length(h:F2 R l m):l.length=m.length:=h.ind (P:=fun l m=>l.length=m.length) rfl fun U U U U U e=>congrArg Nat.succ e
theorem F2.mono{S:α→β→Prop}(k:∀a b,R a b→S a b)(h:F2 R l m):F2 S l m:=h.ind (P:=F2 S) trivial fun a b U U r t=>⟨k a b r,t⟩
theorem F2.snoc{a:α}{b:β}(h:F2 R l m)(g:R a b):F2 R (l++[a]) (m++[b]):=h.ind (P:=fun l m=>F2 R (l++[a]) (m++[b])) ⟨g,trivial⟩ fun U U U U r t=>⟨r,t⟩
theorem F2.map{f:α→γ}{g}(k:∀a b,R a b→f a=g b)(h:F2 R l m):l.map f=m.map g:=h.ind (P:=fun l m=>l.map f=m.map g) rfl fun a b U U r t=>by erw[map_cons,map_cons,k a b r,t];rfl
theorem F2.get(h:F2 R l m):∀{i:Nat} {a},l[i]? =some a→∃b,m[i]? =some b∧R a b:=h.ind (P:=fun l m=>∀{i:Nat} {a},l[i]? =some a→∃b,m[i]? =some b∧R a b) (fun e=>by simp at e) fun a b l m r t i c e=>by
 cases i with
 |zero=>cases e;show⟨b,rfl,r⟩
 |succ i=>show t e
theorem F2.at(h:F2 R l m){j:Nat}(h1:j<l.length)(h2:j<m.length):R l[j] m[j]:=by
 obtain⟨b,e,r⟩:=h.get (getElem?_eq_getElem h1);rw[getElem?_eq_getElem h2]at e;cases e;show r
end
def jE:List (Int×Value)→List (Int×Int)→Prop:=F2 fun p q=>p.1=q.1∧∃t,p.2=Value.int q.2 t
theorem jE.keys{fb:List (Int×Value)}{l:List (Int×Int)}(h:jE fb l):fb.map (·.1)=l.map (·.1):=F2.map (fun U U r=>r.1) h
theorem evalPairs_lits{env:Env}(ps:List (Expr×Expr)):∀(l:List (Int×Int)) (s:Shared) (Q:List (Value×Value)→Shared→Prop),
  ps.map (fun p=>(qL p.1,qL p.2))=l.map (fun p=>(some p.1,some p.2))→
  (∀vs fb k,Carries (intKind prog w) vs fb→jE fb l→Q vs {s with toks:=k})→
  wpAny (model prog w) A (evalPairs (ps.map fun p=>(eval p.1 env,do let x←eval p.2 env;standAt pos;pure x))) Q E s:=by
 induction ps with
 |nil=>
  intro l s Q e h
  cases l with
  |nil=>show aG (h [] [] s.toks trivial trivial)
  |cons=>right
 |cons p ps ih=>
  intro l s Q e h
  cases l with
  |nil=>right
  |cons q l=>simp only[map_cons,List.cons.injEq,Prod.mk.injEq]at e;show aA e ?_;rintro⟨e1,e2⟩ e3;show fJ (iY e1) ?_;rintro k1 p1 e4;show fJ (iY e2) ?_;rintro k2 p2 e5;erw[map_cons,e4,e5];show V (wpAny_Constant_int (V (eT (V (wpAny_Constant_int (V (gx (aG ?_))))))));show V (eT (ih l _ _ e3 fun vs fb k c f=>aG ?_));show h _ ((q.1,_)::fb) k ⟨intKind_is _ _ _ _,rfl,c⟩ ⟨⟨rfl,_,rfl⟩,f⟩
theorem um:∀{es:List DictEntry} {fb:List (Int×Value)} {l:List (Int×Int)},Pairs (intKind prog w) es fb→
  (∀e∈es,∃k,(intKind prog w).is k e.key=true∧e.hash=(intKind prog w).hash k)→jE fb l→nL h ρ (l.map fun p=>(p.1,LV.int p.2)) es
 |[],[],[],_,_,_=>by rfl
 |e::es,(k,v)::fb,(i,j)::l,p,ke,lv=>by
  show aA lv ?_;rintro⟨(rfl:k=i),t,(rfl:v=.int j t)⟩ lv
  cases p with
  |cons p1 p2 p3=>
   show av (Value.isInt_shape p1) fun t' e1=>?_;show aa (ke e (.head _)) fun k' q1 q2=>?_;show av (Value.isInt_shape q1) fun t2 e2=>?_;replace e2:=e1▸e2
   injection e2 with z w;subst z;subst w
   erw[map_cons];show⟨e,es,t',rfl,e1,q2,?_,um p3 (fun e m=>ke e (.tail _ m)) lv⟩;erw[p2];show⟨t,rfl⟩
 |_,[],_::_,_,_,lv=>lv.elim
 |_,_::_,[],_,_,lv=>lv.elim
 |[],_::_,_::_,p,_,_=>by right
 |_::_,[],[],p,_,_=>by right
theorem aS.F1(hB:B.Ok)(l:List (Int×Int))(ps:List (Expr×Expr))(h0:l≠[])(hl:l.length≤15)(hn:(l.map (·.1)).Nodup)(Cb:ps.map (fun p=>(qL p.1,qL p.2))=l.map (fun p=>(some p.1,some p.2)))(KC:∀ae,(evalEachOpt keys ae).zip ((evalEach values ae).map fun v=>do let x←v;standAt pos;pure x)=(ps.map fun p=>(eval p.1 ae,(do let x←eval p.2 ae;standAt pos;pure x:Sem Value))).map fun p=>(some p.1,p.2))(h:P (.gw (l.map fun p=>(p.1,LV.int p.2))) σ):aS B X env σ (.Dict keys values pos) P:=fun C O hX ρ s E Q S qe q=>by
 have Mw:ps.length=l.length:=by have:=congrArg length Cb;simpa using this
 show wpAny_Dict_pairs (knd:=intKind PySem.Challenge.pw_kk0028_01 B.w) (KC C.env) (by
  intro z;have:=congrArg length z;rw[length_map]at this;replace this:=Mw▸this
  show h0 (length_eq_zero_iff.mp this)) (by(erw[length_map ..,Mw]);show hl) ?_
 show evalPairs_lits ps l _ _ Cb fun vs fb k hc lv=>⟨fb,hc,?_,fun h' hd sb=>?_⟩
 ·show⟨_,#[],0,gh _ rfl,⟨rfl,rfl,rfl⟩,rfl,fun e m=>(by simp at m),.nil,.nil⟩
 ·have nd:(fb.map (·.1)).Nodup:=by erw[lv.keys];show hn
  replace hd:=merged_nil_of_nodup fb nd▸hd
  have kp:∀a o,s.heap.get? a=some o→h'.get? a=some o:=fun a o e=>by
   have ne:a≠s.heap.objs.size:=fun z=>by(replace e:=z▸e;rw[bo]at e);right
   erw[sb.2 a ne];show aC _ _ a o e
  show q _ _ _ ρ _ h (aR kp rfl rfl) (S.bh kp) ?_;show Jg hd fun o es n ho hx qv hk hp EV=>?_;show⟨_,o,es,n,rfl,S.fresh,ho,hx,?_,?_,qv,?_,um hp (fun e m=>hk e (Array.mem_toList_iff.mp m)) lv⟩
  ·intro z;show sI hB.ns fun o1 kv Mh kU U=>?_;have:=Heap.lt_size (S.base _ _ kU);replace this:=z▸this;show absurd this (by decide)
  ·erw[List.map_map];show hn
  ·intro z
   induction l using List.casesOn with
   |nil=>show h0 rfl
   |cons p l'=>
    cases hp':es.toList with
    |nil=>replace hp:=hp'▸hp;cases hp;show lv.elim
    |cons e r=>
     have m:e∈es.toList:=by erw[hp'];show .head _
     show aa (hk e (Array.mem_toList_iff.mp m)) fun k e1 U=>?_;show av (Value.isInt_shape e1) fun t e2=>?_;show fJ (z e (Array.mem_toList_iff.mp m)) fun n t' e3=>?_;replace e3:=e2▸e3;right
theorem Rc.dict(hB:B.Ok)(l:List (Int×Int))(h0:l≠[])(hl:l.length≤15)(hn:(l.map (·.1)).Nodup)(Cb:(pA keys values).map (fun p=>(qL p.1,qL p.2))=l.map (fun p=>(some p.1,some p.2)))(KC:∀ae,(evalEachOpt keys ae).zip ((evalEach values ae).map fun v=>do let x←v;standAt pos;pure x)=((pA keys values).map fun p=>(eval p.1 ae,(do let x←eval p.2 ae;standAt pos;pure x:Sem Value))).map fun p=>(some p.1,p.2))(h:P (.gw (l.map fun p=>(p.1,LV.int p.2))) σ):aS B X env σ (.Dict keys values pos) P:=aS.F1 hB l _ h0 hl hn Cb KC h
theorem bz.append{l l2:List LV}:∀{vs ws:List Value},bz h ρ l vs→bz h ρ l2 ws→bz h ρ (l++l2) (vs++ws):=by
 induction l with
 |nil=>intro vs ws r r2;have r:_=[]:=r;subst r;show r2
 |cons x l ih=>intro vs ws r r2;show bb r ?_;rintro v dX rfl a b;erw[cons_append,cons_append];show .cons a (ih b r2)
theorem aM.extend{id Mx:Nat}{l2:List LV}(e:σ[id]? =some (.list l))(e2:σ[Mx]? =some (.list l2))(hz:l.length≤100000)(Fu:l2.length≤100000)(h:P .none (σ.set id (.list (l++l2)))):aM B X env σ [.obj id,.obj Mx] (fun vs=>PySem.call (.builtin "list.extend") vs) P:=
 fun C O hX ρ s E Q vs S qe r q=>by
  show bb r ?_;rintro v dX rfl rx r;show bb r ?_;rintro y dX rfl ry r;have r:_=[]:=r;subst r;show cN (S.list rx e) ?_;rintro c us hc rfl c2 pl rl;show cN (S.list ry e2) ?_;rintro d ws hd rfl d2 xi xj;obtain⟨l0,vc⟩:=c;obtain rfl:vc=[]:=c2;show av (_root_.id pl) fun n ho=>?_;show av (_root_.id xi) fun n2 B8=>?_;have e1:=rl.length;have e3:=xj.length;show call_meets PySem.F.slot_list_extend pl.isList.typeIs PySem.F.entry_list_extend (PySem.F.args_list_extend_2 _ _) (PySem.AutoSeq1.list_extend_list_list_0 l0 us.toArray n d.1 ws.toArray n2 ?_ ?_ ?_) ⟨ho,B8,?_⟩
  ·have:Builtin.List.listTooLong (us.toArray.size+ws.toArray.size)=false:=by unfold Builtin.List.listTooLong;simp only[List.size_toArray,e1,e3];show decide_eq_false (by unfold sizeLine;ac_rfl)
   erw[this];simp
  ·simp only[List.size_toArray,e1];unfold sizeLine;show nt
  ·simp only[List.size_toArray,e1,e3];unfold sizeLine;ac_rfl
  ·have w2:(s.heap.update l0 (Obj.mapSeq fun x=>x++ws.toArray)).PlainList l0 (us++ws).toArray:=by
    show av (Obj.data_mapSeq (o:={cls:=.type "list",data:=.seq us.toArray n}) rfl (fun x=>x++ws.toArray)) fun n' du=>?_;show⟨n',?_⟩;erw[Heap.get?_update_self _ ho (Obj.isFreed_of_seq du)]
    have e5:us.toArray++ws.toArray=(us++ws).toArray:=by simp
    show bD ?_ e5;unfold Obj.mapSeq at du⊢;simp at du⊢;show du
   have xh:Heap.SameBut l0 s.heap (s.heap.update l0 (Obj.mapSeq fun x=>x++ws.toArray)):=Heap.SameBut.update ..
   have Ab:((s.heap.update l0 (Obj.mapSeq fun x=>x++ws.toArray)).get? l0).isSome:=by(show av w2 fun n e=>?_);erw[e];rfl
   have K6:Kept C ρ s ρ {s with heap:=s.heap.update l0 (Obj.mapSeq fun x=>x++ws.toArray)}:=dH S hc xh Ab rfl rfl;show q _ _ _ ρ {s with heap:=s.heap.update l0 (Obj.mapSeq fun x=>x++ws.toArray)} h K6 (S.jw (o:=.list (l++l2)) hc xh Ab rfl ⟨rfl,_,w2,(K6.gz S rl).append (K6.gz S xj)⟩) rfl

theorem xT(G:Gd B){i:Nat}{c:Addr}{xs:List Str}(cs:List Str)(h1:(K B.w.params).lookup a=some ⟨.type "function",none,.func (fdOf i n c),#[]⟩)(h2:codeIn (K B.w.params) (.ref c) n=true)(h3:∀vs:List Value,vs.length=xs.length→bindArgs (fdOf i n c) ⟨vs,[]⟩=pure (xs.zip vs))(h4:xs.Nodup)(h5:(xs.all fun x=>decide ((ai (aB i)).names.lookup x=some .local))=true)(KD:cs.Nodup)(h6:((ai (aB i)).names.all fun y=>decide (y.2≠.cell)||cs.contains y.1)=true)(h7:(ai (aB i)).isCoroutine=false)(h8:(ai (aB i)).isGenerator=false)(h9:(ai (aB i)).kind= .function)(EW:∀m,(cellsFrom m (ai (aB i)).names []).map (·.1)=cs):cm B a (fdOf i n c) (aH (aB i)) xs where
 at_:=⟨_,G.dy _ _ h1,rfl⟩
 code:=codeRec_of G.dy h2
 body:=rfl
 Fl:=rfl
 glob:=rfl
 blt:=rfl
 bind:=fun vs l s U=>.of_eq (h3 vs l)
 nd:=h4
 kinds:=fun x hx=>.inl (by have:=List.all_eq_true.mp h5 x hx;show js this)
 co:=h7
 gen:=h8
 kind:=h9
 cells:=⟨cs,KD,fun m=>EW m,fun x e=>by
  have:=List.all_eq_true.mp h6 _ (aj e)
  rcases Bool.or_eq_true_iff.mp this with q|q
  ·show absurd rfl (js q)
  ·simpa using q⟩
theorem AR(G:Gd B):cm B 1115 (fdOf 40 (oS "_law_rows") 1114) (aH (aB 40)) [oS "numbers"]:=
 xT G [oS "part"] (by left) (by left) (fun vs h=>by(show av (lM h) ?_;rintro a rfl);left) (by nofun) (by nofun) (by nofun) (by nofun) (by left) (by left) (by left) (fun m=>by left)
theorem Dr(G:Gd B):cm B 1127 (fdOf 42 (oS "_law_due") 1126) (aH (aB 42)) [oS "rows",oS "start",oS "limit"]:=
 xT G [oS "flags",oS "kind"] (by left) (by left) (fun vs h=>by(show xx (sP h) ?_;rintro a b c rfl);left) (by nofun) (by nofun) (by nofun) (by nofun) (by left) (by left) (by left) (fun m=>by left)
inductive IE where
 |lit (v:LV)
 |var (n:Nat)
 |bin (op:Operator) (l r:IE)
 |cmp (op:CmpOp) (l r:IE)
 |ite (t b o:IE)
 |cn (es:List IE)
 |kY (es:List IE)
 |not (e:IE)
 |call (v:Value) (es:List IE)
 |bA (name:Str) (o:IE) (es:List IE)
 |attr (o:IE) (name:Str)
 |item (v s:IE)
 |slice (v:IE) (lo hi:Option IE)
 |tup (es:List IE)
 |lst (es:List IE)
 |eX (e:IE)
 |raw (e:Expr)
abbrev IE.li(n:Int):IE:=.lit (.int n)
inductive IS where
 |assign (n:Nat) (e:IE)
 |unpack (ns:List Nat) (e:IE)
 |ret (e:IE)
 |aug (n:Nat) (e:IE)
 |expr (e:IE)
 |dw (o:IE) (name:Str) (e:IE)
 |brk
 |pass
 |ite (t:IE) (b o:List IS)
 |mr (n:Nat) (e:IE) (b:List IS)
 |gJ (t:IE) (b:List IS)
 |raw (s:Stmt)
noncomputable abbrev IE.v9:=IE.var
noncomputable abbrev IE.c:=IE.call
noncomputable abbrev IE.ad:=IE.bin .Add
noncomputable abbrev IE.md:=IE.bin .Mod
noncomputable abbrev IE.q:=IE.cmp .Eq
noncomputable abbrev IS.a9:=IS.assign
noncomputable def AS:Data→Option ClassData
 | .cls c=>some c
 |_=>none
theorem uq{d:Data}(h:AS d=some c):d= .cls c:=by
 induction d using Data.casesOn with
 |cls cd=>show Option.some.inj h▸rfl
 |_=>show fK h
noncomputable def Cv:Data→Option FuncData
 | .func c=>some c
 |_=>none
theorem xU{d:Data}(h:Cv d=some c):d= .func c:=by
 induction d using Data.casesOn with
 |func cd=>show Option.some.inj h▸rfl
 |_=>show fK h
noncomputable def Ds:Data→Option (Array Value)
 | .seq xs _=>some xs
 |_=>none
theorem AU{d:Data}(h:Ds d=some xs):∃n,d= .seq xs n:=by
 induction d using Data.casesOn with
 |seq ys n=>show Option.some.inj h▸⟨n,rfl⟩
 |_=>show fK h
noncomputable def xV:Data→Option (Array DictEntry)
 | .dict xs _=>some xs
 |_=>none
theorem xW{d:Data}{xs:Array DictEntry}(h:xV d=some xs):∃n,d= .dict xs n:=by
 induction d using Data.casesOn with
 |dict ys n=>show Option.some.inj h▸⟨n,rfl⟩
 |_=>show fK h
noncomputable def F5:Value→Option Int
 | .int i _=>some i
 |_=>none
theorem ur{i:Int}(h:F5 v=some i):∃t,v= .int i t:=by
 induction v using Value.casesOn with
 |int j t=>show Option.some.inj h▸⟨t,rfl⟩
 |_=>show fK h
noncomputable def kZ(f:Value→LV):List Value→List LV
 |[]=>[]
 |v::r=>f v::kZ f r
noncomputable def qM(f:Value→LV):List DictEntry→Option (List (Int×LV))
 |[]=>some []
 |e::r=>(F5 e.key).bind fun k=>if e.hash==hashInt k then(qM f r).bind fun l=>some ((k,f e.val)::l)else none
noncomputable def F6(f:Value→LV)(v:Value)(o:Obj)(xs:Array Value):LV:=if o.cls= .type "list" then .kq (kZ f xs.toList)else if o.cls= .type "tuple" then .tup (kZ f xs.toList)else .gl v
def iX(f:Value→LV)(v:Value)(o:Obj)(es:Array DictEntry):LV:=if o.cls= .type "dict"∧o.dict=none∧o.slots.isEmpty=true∧v≠.ref sysModules then(match qM f es.toList with
   |some l=>if l≠[]∧(l.map (·.1)).Nodup then .gw l else .gl v
   |none=>.gl v)else .gl v
def Dt(f:Value→LV)(v:Value)(o:Obj):LV:=match Ds o.data with
 |some xs=>F6 f v o xs
 |none=>match xV o.data with
  |some es=>iX f v o es
  |none=>.gl v
noncomputable def sQ:Value→LV
 | .int i _=>.int i
 | .str s _=>.str s
 | .bytes b _=>.bytes (KBw.bInts b)
 | .none=>.none
 | .bool b=>.bool b
 |v=>.gl v
noncomputable def Du:Value→Option Addr
 | .ref a=>some a
 |_=>none
theorem AV(h:Du v=some a):v= .ref a:=by
 induction v using Value.casesOn with
 |ref j=>show Option.some.inj h▸rfl
 |_=>show fK h
def iZ(K:Frag):Nat→Value→LV
 |0,v=>sQ v
 |n+1,v=>match(Du v).bind fun a=>K.lookup a with
  |some o=>Dt (iZ K n) v o
  |none=>sQ v
noncomputable def cu(x:Str):List Str→Nat→Option Nat
 |[],_=>none
 |y::r,n=>if x==y then some n else cu x r (n+1)
noncomputable def c9(x:Str):Bool:=x==("__debug__":Str)||x==("__classdict__":Str)||x==("__name__":Str)
noncomputable def bX(K:Frag)(sc:Scope)(x:Str):Option Value:=if sc.names.lookup x==some .globalImplicit&&!c9 x then(match nsIn K mainGlobals x with
  |some o=>o.or (bootBuiltins x)
  |none=>none)else none
noncomputable def sR(K:Frag)(v:Value)(o:Obj):Bool:=(Cv o.data).isSome||((AS o.data).isSome&&specialIn K v "__call__"==some (some (.builtin "type.__call__")))
noncomputable def i7(K:Frag):Value→Bool
 | .builtin _=>true
 | .type _=>true
 | .ref a=>(match K.lookup a with
  |some o=>sR K (.ref a) o
  |none=>false)
 |_=>false
noncomputable def eH(f:Expr→Option IE):List Expr→Option (List IE)
 |[]=>some []
 |e::r=>(f e).bind fun a=>(eH f r).bind fun l=>some (a::l)
noncomputable def oq(f:Expr→Option IE):Option Expr→Option (Option IE)
 |none=>some none
 |some e=>(f e).bind fun a=>some (some a)
noncomputable def vL(es:List Expr):Bool:=es.all bq&&decide (es.length<20)
noncomputable def xX:Const→Option IE
 | .int i=>some (.lit (.int i))
 | .str s=>some (.lit (.str s))
 | .bytes b=>some (.lit (.bytes (b.map fun c=>(c.toNat:Int))))
 | .bool b=>some (.lit (.bool b))
 | .none=>some (.lit .none)
 |_=>none
def Cw:List Expr→Option Expr
 |[e,c]=>(pe c).bind fun r=>match r.1 with
  | .str b=>if b== oS "big" then some e else none
  |_=>none
 |_=>none
section
variable(K:Frag)(sc:Scope)(xs:List Str)
def uu(x:Str):Option IE:=match cu x xs 0 with
 |some k=>if c9 x then none else some (.var k)
 |none=>(bX K sc x).bind fun v=>some (.lit (iZ K 4 v))
noncomputable def F7(f:Expr→Option IE)(op:UnaryOp)(x:Expr):Option IE:=match op with
 | .Not=>(f x).bind fun a=>some (.not a)
 | .USub=>(qL x).bind fun i=>some (.lit (.int (-i)))
 |_=>none
noncomputable def uv(f:Expr→Option IE)(l:Expr):List CmpOp→List Expr→Option IE
 |[op],[r]=>if bq r then(f l).bind fun a=>(f r).bind fun b=>some (.cmp op a b)else none
 |_,_=>none
noncomputable def uw(f:Expr→Option IE)(v:Expr)(s:Expr):Option IE:=match s with
 | .Slice lo hi st _=>if st.isNone then(f v).bind fun a=>(oq f lo).bind fun b=>(oq f hi).bind fun c=>some (.slice a b c)else none
 |s=>if bq s then(f v).bind fun a=>(f s).bind fun b=>some (.item a b)else none
noncomputable def jF(f:Expr→Option IE)(es:List Expr)(pos:Pos)(g:Expr):Option IE:=match asName g with
 |some q=>if(cu q.1 xs 0).isNone&&es.all bq then(bX K sc q.1).bind fun v=>if i7 K v then(eH f es).bind fun l=>some (.call v l)else none else none
 |none=>(pd g).bind fun r=>if vL es&&fT r.1&&r.2.2.endLine==pos.line then(f r.1).bind fun a=>(eH f es).bind fun l=>some (.bA r.2.1 a l)else none
def jG(f:Expr→Option IE)(es:List Expr)(pos:Pos)(g:Expr):Option IE:=(pd g).bind fun r=>(asName r.1).bind fun q=>
 if r.2.1== oS "from_bytes"&&q.1== oS "int"&&bX K sc q.1==some (.type "int")&&r.2.2.endLine==pos.line then(Cw es).bind fun e=>if bq e then(f e).bind fun a=>some (.eX a)else none else none
noncomputable def sS(e:Expr):Bool:=e.ctorIdx==11
def xY(f:Expr→Option IE):Expr→Option IE
  | .Constant c _ _=>xX c
  | .Name x _=>uu K sc xs x
  | .BinOp l op r _=>(f l).bind fun a=>(f r).bind fun b=>some (.bin op a b)
  | .UnaryOp op x _=>F7 f op x
  | .IfExp t b o _=>(f t).bind fun t=>(f b).bind fun b=>(f o).bind fun o=>some (.ite t b o)
  | .Compare l ops rs _=>uv f l ops rs
  | .BoolOp op es _=>(eH f es).bind fun l=>some (match op with
   | .And=>.cn l
   | .Or=>.kY l)
  | .Tuple es _ _=>if es.all bq then(eH f es).bind fun l=>some (.tup l)else none
  | .List es _=>if es.all bq then(eH f es).bind fun l=>some (.lst l)else none
  | .Subscript v s _=>uw f v s
  | .Attribute o x _=>if fT o then(f o).bind fun a=>some (.attr a x)else none
  | .Call g es kws pos=>if es.any sS then some (.raw (.Call g es kws pos))else if kws.isEmpty then(match jG K sc f es pos g with
   |some r=>some r
   |none=>jF K sc xs f es pos g)else none
  |e=>some (.raw e)
def cC:Nat→Expr→Option IE
 |0,_=>none
 |n+1,e=>xY K sc xs (cC n) e
end
noncomputable def fc(e:Expr):Bool:=!(e.ctorIdx==8 ||e.ctorIdx==9 ||e.ctorIdx==10)
noncomputable def sT(e:Expr):Bool:=!(e.ctorIdx==24 ||e.ctorIdx==25)
noncomputable def ux(e:Expr):Bool:=!(e.ctorIdx==7)
noncomputable def gK(sc:Scope)(x:Str):Bool:=match sc.names.lookup x with
 |some .local=>true
 |some .cell=>true
 |_=>false
section
variable(K:Frag)(sc:Scope)(xs:List Str)
noncomputable def slotsOf:List Expr→Option (List Nat)
 |[]=>some []
 |e::r=>((asName e).bind fun q=>if gK sc q.1 then cu q.1 xs 0 else none).bind fun k=>(slotsOf r).bind fun l=>some (k::l)
noncomputable def qN(value:Expr)(e:Option IE)(fo:Expr→Option IE)(t:Expr):Option IS:=match asName t with
 |some q=>if gK sc q.1&&fc value then(cu q.1 xs 0).bind fun k=>e.bind fun e=>some (IS.assign k e)else none
 |none=>match xM t with
  |some q=>if fc value&&sT value then(slotsOf sc xs q.1).bind fun ks=>e.bind fun e=>some (IS.unpack ks e)else none
  |none=>(pd t).bind fun q=>if fT q.1&&fc value then(fo q.1).bind fun a=>e.bind fun e=>some (IS.dw a q.2.1 e)else none
noncomputable def pB(f:Expr→Option IE)(t:Expr)(op:Operator)(value:Expr)(pos:Pos):Option IS:=match asName t with
    |some q=>if sc.names.lookup q.1==some NameKind.local&&op== .Add then(cu q.1 xs 0).bind fun k=>(f value).bind fun e=>some (IS.aug k e)else none
    |none=>some (IS.raw (.AugAssign t op value pos))
noncomputable def pC(f:Expr→Option IE)(g:List Stmt→Option (List IS))(t iter:Expr)(body Aq:List Stmt)(pos:Pos):Option IS:=match asName t with
    |some q=>if gK sc q.1&&ux iter&&Aq.isEmpty then(cu q.1 xs 0).bind fun k=>(f iter).bind fun e=>(g body).bind fun b=>some (IS.mr k e b)else none
    |none=>some (IS.raw (.For t iter body Aq pos))
noncomputable def sU(f:Expr→Option IE)(g:List Stmt→Option (List IS)):Stmt→Option IS
   | .Assign ts value pos=>(match ts with
    |[t]=>(match qN sc xs value (f value) f t with
     |some a=>some a
     |none=>some (IS.raw (.Assign [t] value pos)))
    |_=>none)
   | .Return v _=>(match v with
    |some value=>(f value).bind fun e=>some (IS.ret e)
    |none=>none)
   | .AugAssign t op value pos=>pB sc xs f t op value pos
   | .Expr value _=>if fc value then(f value).bind fun e=>some (IS.expr e)else none
   | .Break _=>some IS.brk
   | .Pass _=>some IS.pass
   | .If t b o _=>(f t).bind fun t=>(g b).bind fun b=>(g o).bind fun o=>some (IS.ite t b o)
   | .For t iter body Aq pos=>pC sc xs f g t iter body Aq pos
   | .While t b Aq _=>if Aq.isEmpty then(f t).bind fun t=>(g b).bind fun b=>some (IS.gJ t b)else none
   |s=>some (IS.raw s)
def aN:Nat→List Stmt→Option (List IS)
 |0,_=>none
 |n+1,l=>match l with
  |[]=>some []
  |s::rest=>(sU sc xs (cC K sc xs n) (aN n) s).bind fun a=>(aN n rest).bind fun r=>some (a::r)
end
structure af(p:Prop):Prop where
 get:p
structure aw(c:Bool)(A B:Prop):Prop where
 yes:c=true→A
 no:c=false→B
structure aY(p A:Prop):Prop where
 ask:p
 go:A
theorem aw.t{A B:Prop}(h:A):aw true A B:=⟨fun U=>h,fun z=>by right⟩
theorem aw.f{A B:Prop}(h:B):aw false A B:=⟨fun z=>(by right),fun U=>h⟩
noncomputable def envOf:List Str→List (Option LV)→aQ
 |x::xs,some v::vs=>(x,v)::envOf xs vs
 |_::xs,none::vs=>envOf xs vs
 |_,_=>[]
def xZ:cT→Nat→(LV→Prop)→Prop
 |some v::_,0,k=>k v
 |_::r,n+1,k=>xZ r n k
 |_,_,_=>False
def lN(env:cT)(n:Nat)(v:LV)(k:cT→Prop):Prop:=match Nat.blt n env.length with
 |true=>k (env.set n (some v))
 |false=>False
theorem mu{w:LV}{xs:List Str}:∀{vs:cT},(envOf xs vs).lookup z=some w→∃i:Nat,xs[i]? =some z∧vs[i]? =some (some w):=by
 induction xs with
 |nil=>intro vs h;right<;>show fK h
 |cons y xs ih=>
  intro vs h
  induction vs using List.casesOn with
  |nil=>show fK h
  |cons a vs=>
   have tl:(envOf xs vs).lookup z=some w→∃i:Nat,(y::xs)[i]? =some z∧(a::vs)[i]? =some (some w):=fun h=>(ih h).elim fun i q=>⟨i+1,q⟩
   induction a using Option.casesOn with
   |none=>show tl h
   |some u=>
    have h:List.lookup z ((y,u)::envOf xs vs)=some w:=h;rw[lookup_cons]at h
    by_cases q:(z==y)=true
    ·replace h:=q▸h;show⟨0,eB q▸rfl,congrArg some h⟩
    ·rw[Bool.not_eq_true]at q;replace h:=q▸h;show tl h
theorem mw{w:LV}{xs:List Str}:∀{vs:cT} {i:Nat},xs.Nodup→xs[i]? =some z→vs[i]? =some (some w)→(envOf xs vs).lookup z=some w:=by
 induction xs with
 |nil=>intro vs i nd h;show fK h
 |cons y xs ih=>
  intro vs i nd h e;rw[nodup_cons]at nd
  induction vs using List.casesOn with
  |nil=>show fK e
  |cons a vs=>
   induction i using Nat.casesAuxOn with
   |zero=>obtain rfl:y=z:=Option.some.inj h;obtain rfl:a=some w:=Option.some.inj e;show(lookup_cons).trans (by(show aD rfl (beq_self_eq_true ..)))
   |succ i=>
    have q:=ih nd.2 (show xs[i]? =some z from h) (show vs[i]? =some (some w) from e)
    induction a using Option.casesOn with
    |none=>show q
    |some u=>have ne:(z==y)=false:=oW fun e=>nd.1 (e▸mem_of_getElem? (show xs[i]? =some z from h));show(lookup_cons).trans (by erw[ne];show q)
theorem slot_get{xs:List Str}:∀{n k:Nat},cu x xs n=some k→∃i:Nat,k=n+i∧xs[i]? =some x:=by
 induction xs with
 |nil=>intro n k h;show fK h
 |cons y xs ih=>
  intro n k h;have h:(if(x==y)=true then some n else cu x xs (n+1))=some k:=h
  by_cases q:(x==y)=true
  ·replace h:=aJ q▸h;show⟨0,(Option.some.inj h).symm,eB q▸rfl⟩
  ·replace h:=ax q▸h;show aa (ih h) fun i e z=>?_;show⟨i+1,e.trans (Nat.succ_add_eq_add_succ n i),z⟩
theorem slot0{xs:List Str}{k:Nat}(h:cu x xs 0=some k):xs[k]? =some x:=by show aa (slot_get h) fun i e z=>?_;show(e.trans (Nat.zero_add i))▸z
theorem AW{Kf:LV→Prop}{vs:cT}:∀{k:Nat},xZ vs k Kf→∃v,vs[k]? =some (some v)∧Kf v:=by
 induction vs with
 |nil=>intro k h;show False.elim h
 |cons a vs ih=>
  intro k h
  induction k using Nat.casesAuxOn with
  |zero=>
   induction a using Option.casesOn with
   |none=>show False.elim h
   |some v=>show⟨v,rfl,h⟩
  |succ k=>induction a using Option.casesOn<;>show ih h
theorem la{xs:List Str}{vs:cT}{k:Nat}{Kf:LV→Prop}(nd:xs.Nodup)(hx:xs[k]? =some x)(h:xZ vs k Kf):∃v,(envOf xs vs).lookup x=some v∧Kf v:=
 (AW h).elim fun v q=>⟨v,mw nd hx q.1,q.2⟩
theorem jH{xs:List Str}{vs:cT}{k:Nat}{v:LV}{Kf:cT→Prop}(nd:xs.Nodup)(hx:xs[k]? =some x)(h:lN vs k v Kf):∃dX,Kf dX∧Sub (envOf xs dX) (put x v (envOf xs vs)):=by
 unfold lN at h
 cases hk:Nat.blt k vs.length with
 |false=>replace h:=hk▸h;show h.elim
 |true=>
  replace h:=hk▸h;show⟨_,h,fun z w e=>?_⟩;show aa (mu e) fun i ei ev=>?_;erw[aE ..]
  by_cases q:k=i
  ·subst q;obtain rfl:x=z:=Option.some.inj (hx.symm.trans ei);replace ev:=(getElem?_set_self (Nat.le_of_ble_eq_true hk))▸ev;erw[aJ (beq_self_eq_true x)];show Option.some.inj ev
  ·replace ev:=(getElem?_set_ne q)▸ev;erw[ax fun n=>q ((getElem?_inj (dU hx).1 nd).mp (hx.trans (by(show aD ?_ ei;show aD rfl (eB n)))))];show mw nd ei ev
theorem bf{α:Type}{c:Bool}{o:Option α}{a:α}(h:(if c=true then o else none)=some a):c=true∧o=some a:=by
 cases c
 ·show fK h
 ·show⟨rfl,h⟩
section
variable{K:Frag}{hb:Heap}
theorem hW{f:Value→LV}(hf:∀v,Rep h ρ (f v) v):∀l,bz h ρ (kZ f l) l
 |[]=>.nil
 |v::r=>.cons (hf v) (hW hf r)
theorem vM{f:Value→LV}(hf:∀v,Rep h ρ (f v) v){es:List DictEntry}:∀{l:List (Int×LV)},qM f es=some l→nL h ρ l es:=by
 induction es with
 |nil=>intro l e;injection e with z;subst z;rfl
 |cons a r ih=>intro l e;show aa (iO e) fun k hk e=>?_;show aA (bf e) fun hh e=>?_;show aa (iO e) fun l' e1 e=>?_;show av (ur hk) fun t ht=>?_;show Option.some.inj e▸⟨a,r,t,rfl,ht,eB hh,hf _,ih e1⟩
theorem vN{f:Value→LV}{es:List DictEntry}{l:List (Int×LV)}(e:qM f es=some l)(ne:l≠[]):¬ StrKeys es.toArray:=fun z=>by
 induction es using List.casesOn with
 |nil=>show ne (Option.some.inj e).symm
 |cons a r=>show aa (iO e) fun k hk U=>?_;show av (ur hk) fun t ht=>?_;show fJ (z a (by simp)) fun x t' e3=>?_;show nomatch e3.symm.trans ht
theorem ya{f:Value→LV}(hf:∀v,Rep h ρ (f v) v)(ho:h.get? a=some o)(nf:a∉flat ρ):Rep h ρ (Dt f (.ref a) o) (.ref a):=by
 unfold Dt
 cases hs:Ds o.data with
 |some xs=>
  show av (AU hs) fun n hd=>?_;dsimp only;unfold F6
  by_cases hT:o.cls= .type "list"
  ·erw[aJ hT];show⟨a,xs.toList,rfl,nf,⟨_,ho,hT,n,hd⟩,hW hf _⟩
  ·erw[ax hT]
   by_cases hT:o.cls= .type "tuple"
   ·erw[aJ hT];show⟨a,xs.toList,rfl,nf,⟨_,ho,hT,n,hd⟩,hW hf _⟩
   ·erw[ax hT];rfl
 |none=>
  dsimp only
  cases hs:xV o.data with
  |none=>rfl
  |some es=>
   show av (xW hs) fun n hd=>?_;dsimp only;unfold iX
   by_cases q:o.cls= .type "dict"∧o.dict=none∧o.slots.isEmpty=true∧Value.ref a≠.ref sysModules
   ·erw[aJ q];show qA q fun hT h2 h3 hn=>?_
    cases e:qM f es.toList with
    |none=>rfl
    |some l=>
     dsimp only
     by_cases nd:l≠[]∧(l.map (·.1)).Nodup
     ·erw[aJ nd];show⟨a,o,es,n,rfl,nf,ho,⟨hT,h2,Array.isEmpty_iff.mp h3⟩,fun z=>hn (by(show aD rfl z)),nd.2,hd,vN e nd.1,vM hf e⟩
     ·erw[ax nd];rfl
   ·erw[ax q];rfl
theorem mz(v:Value):Rep h ρ (sQ v) v:=by
 induction v using Value.casesOn<;>first|rfl|show⟨_,rfl⟩|show⟨_,_,rfl,rfl⟩
theorem mA(hK:∀a o,K.lookup a=some o→h.get? a=some o∧a∉flat ρ)(n:Nat):∀v,Rep h ρ (iZ K n v) v:=by
 induction n with
 |zero=>show mz
 |succ n ih=>
  intro v;unfold iZ
  cases e:(Du v).bind fun a=>K.lookup a with
  |none=>show mz v
  |some o=>show aa (iO e) fun a ha ho=>?_;erw[AV ha];show ya ih (hK a o ho).1 (hK a o ho).2
end
theorem fX(h:c9 x=false):(x==("__debug__":Str))=false∧(x==("__classdict__":Str))=false∧x≠"__name__":=by unfold c9 at h;simp only[Bool.or_eq_false_iff]at h;show⟨h.1.1,h.1.2,beq_eq_false_iff_ne.mp h.2⟩
theorem fC(G:Gd B)(O:bC C)(hg:bX (K B.w.params) C.env.scope x=some v)(hb:∀a o,B.heap.get? a=some o→s.heap.get? a=some o)(q:Q v s):wpAny B.M A (eval (.Name x p) C.env) Q E s:=by
 show aA (bf hg) fun hk hg=>?_;show aA (Bool.and_eq_true_iff.mp hk) fun hk ho=>?_;show ju (fX (Bool.not_eq_true' _▸ho)) fun o1 o2 o3=>?_;have ns:=G.toOk.ns.keeps hb;replace ns:=O.globals.symm▸ns;show Calls.Name_function_global O.kind (eB hk) ?_ o1
 cases hn:nsIn (K B.w.params) mainGlobals x with
 |none=>replace hg:=hn▸hg;show fK hg
 |some o=>
  replace hg:=hn▸hg
  induction o using Option.casesOn with
  |some u=>show Calls.loadGlobal_global ns (G.g (hn.trans (congrArg some hg))) q
  |none=>show Calls.loadGlobal_builtin ns (G.n hn) (by erw[O.builtins];show G.toOk.nb.keeps hb) ((G.toOk.bt x o3).trans hg) q
theorem qO(G:Gd B)(e:bX (K B.w.params) X.sc x=some v)(hr:∀h ρ,(∀a o,B.heap.get? a=some o→h.get? a=some o)→(∀a∈flat ρ,B.heap.get? a=none)→Rep h ρ lv v)(h:P lv σ):aS B X env σ (.Name x p) P:=fun C O hs ρ s E Q S qe q=>
 fC G O (hs.1▸e) S.base (q _ _ _ ρ s h (.rr rfl rfl rfl) S (hr _ _ S.base fun a ha=>(S.out a ha).1))
theorem qP(G:Gd B)(n:Nat)(e:bX (K B.w.params) X.sc x=some v)(h:P (iZ (K B.w.params) n v) σ):aS B X env σ (.Name x p) P:=qO G e (fun h ρ k f=>
 mA (fun a o q=>⟨k _ _ (G.dy a o q),fun m=>by have:=G.dy a o q;replace this:=f a m▸this;right⟩) n v) h
theorem AX(G:Gd B)(e:bX (K B.w.params) X.sc x=some v)(h:P (iZ (K B.w.params) 4 v) σ):aS B X env σ (.Name x p) P:=qP G 4 e h
theorem vO(G:Gd B)(q:(K B.w.params).lookup a=some o)(e:sR (K B.w.params) (.ref a) o=true):dI B (.ref a):=by
 have ho:=G.dy _ _ q;obtain⟨c,d,dt,sl⟩:=o
 rcases Bool.or_eq_true_iff.mp e with e|e
 ·show av (iA e) fun fd e=>?_;obtain rfl:dt=_:=xU e;show .fn ho rfl
 ·show aA (Bool.and_eq_true_iff.mp e) fun e q2=>?_;show av (iA e) fun cd e=>?_;obtain rfl:dt=_:=uq e;intro h hk;show⟨.machine,.inr (.inl rfl),(Looks.ld (part:=none) (hk _ _ ho)).andThen ((looks_specialIn (G.dy.keeps hk) (eB q2)).andThen .now)⟩
theorem jI(G:Gd B)(e:i7 (K B.w.params) v=true):dI B v:=by
 induction v using Value.casesOn with
 |builtin=>show .builtin
 |type=>show .type
 |ref a=>
  have e:(match(K B.w.params).lookup a with
   |some o=>sR (K B.w.params) (.ref a) o
   |none=>false)=true:=e
  cases q:(K B.w.params).lookup a with
  |none=>replace e:=q▸e;show(Bool.false_ne_true e).elim
  |some o=>replace e:=q▸e;show vO G q e
 |_=>show(Bool.false_ne_true e).elim
structure bO(B:Base)(env:aQ)(σ:List LO)(o:LV)(name:Str)(v:Value)(dA:List LV):Prop where
 run:∀(C:Cx),bC C→∀(ρ:Cells) (s:Shared) (E:VP) (Q:Value×List Value→Shared→Prop) (pl:Sem Bool) (x:Value),St B C ρ env σ s.heap→Rep s.heap ρ o x→
  (∀vs s',Kept C ρ s ρ s'→St B C ρ env σ s'.heap→bz s'.heap ρ dA vs→Q (v,vs) s')→wpAny B.M C.A (getMethod x name pl) Q E s
 keeps:dI B v
structure fe(B:Base)(env:aQ)(σ:List LO)(o:LV)(name:Str)(r:LV):Prop where
 run:∀(C:Cx),bC C→∀(ρ:Cells) (s:Shared) (E:VP) (Q:VP) (x:Value),St B C ρ env σ s.heap→Rep s.heap ρ o x→
  (∀v s',Kept C ρ s ρ s'→St B C ρ env σ s'.heap→Rep s'.heap ρ r v→Q v s')→wpAny B.M C.A (getAttr x name true) Q E s
noncomputable def gL:List LV→Option (List Int)
 |[]=>some []
 | .int i::r=>(match gL r with|some l=>some (i::l)|none=>none)
 |_=>none
theorem kI{l:List LV}:∀{ns:List Int},gL l=some ns→l=ns.map .int:=by
 induction l with
 |nil=>show fun e=>Option.some.inj e▸rfl
 |cons x r ih=>
  intro ns e
  induction x using LV.casesOn with
  |int i=>
   have e:(match gL r with|some l=>some (i::l)|none=>none)=some ns:=e
   cases e':gL r with
   |none=>replace e:=e'▸e;show fK e
   |some l=>replace e:=e'▸e;erw[ih e'];show Option.some.inj e▸rfl
  |_=>show fK e
inductive MethW(B:Base)(env:aQ)(σ:List LO)(o:LV)(name:Str)(k:Value→List LV→Prop):Prop
 |mk (v:Value) (dA:List LV) (h:bO B env σ o name v dA) (q:k v dA):MethW B env σ o name k
inductive aO(B:Base)(env:aQ)(σ:List LO)(o:LV)(name:Str)(k:LV→Prop):Prop
 |mk (r:LV) (h:fe B env σ o name r) (q:k r):aO B env σ o name k
abbrev KV:=kr
abbrev Am:=Bool→IE→List LO→KV→Prop
def F8(P:KV):Bool→List LO→Prop:=fun b σ=>P (.bool b) σ
def atK(P:KV)(σ:List LO):LV→Prop:=fun v=>P v σ
def F9(P:KV):KV:=fun v σ=>match v with
 | .bool c=>P (.bool c) σ
 |_=>False
section
variable(B:Base)(X:Sx)(env:aQ)
def yb(σ:List LO)(tm:Bool)(P:KV)(v:LV):Prop:=match tm with
 |false=>P v σ
 |true=>(match v with
  | .bool b=>P (.bool b) σ
  | .int i=>P (.bool (i !=0)) σ
  |v=>af (nM B env σ v (F8 P)))
def Ga(σ:List LO)(tm:Bool)(P:KV):LV→Prop:=fun v=>yb B env σ tm P v
def yc(tm:Bool)(P:KV):KV:=fun v σ=>yb B env σ tm P v
def binI(op:Operator)(σ:List LO)(x y:Int)(P:KV)(L:Prop):Prop:=match op with
 | .Add=>P (.int (x+y)) σ
 | .Sub=>P (.int (x-y)) σ
 | .Mult=>aY (x.natAbs<2 ^ 60∨y.natAbs<2 ^ 60) (P (.int (x*y)) σ)
 | .Mod=>aY (y≠0) (P (.int (x.fmod y)) σ)
 | .FloorDiv=>aY (0<y∧y<2 ^ 60) (P (.int (x.fdiv y)) σ)
 | .Pow=>aY (0≤y∧y≤1000000∧x.natAbs<2 ^ 64) (P (.int (x ^ y.toNat)) σ)
 | .BitAnd=>P (.int (Builtin.bitAnd x y)) σ
 | .BitXor=>P (.int (Builtin.bitXor x y)) σ
 |_=>L
def Ju(op:Operator)(σ:List LO)(x y:List Int)(P:KV)(L:Prop):Prop:=match op with
 | .Add=>aY (x.length+y.length≤16777216) (P (.bytes (x++y)) σ)
 |_=>L
def Gb(op:Operator)(σ:List LO)(a b:LV)(P:KV):Prop:=match a with
 | .int x=>(match b with
  | .int y=>binI op σ x y P (af (aM B X env σ [.int x,.int y] (bK (binaryOp op)) P))
  |b=>af (aM B X env σ [.int x,b] (bK (binaryOp op)) P))
 | .bytes x=>(match b with
  | .bytes y=>Ju op σ x y P (af (aM B X env σ [.bytes x,.bytes y] (bK (binaryOp op)) P))
  |b=>af (aM B X env σ [.bytes x,b] (bK (binaryOp op)) P))
 |a=>af (aM B X env σ [a,b] (bK (binaryOp op)) P)
def Jw(op:CmpOp)(σ:List LO)(x y:Int)(P:KV)(L:Prop):Prop:=match op with
 | .Eq=>P (.bool (x==y)) σ
 | .NotEq=>P (.bool (x !=y)) σ
 | .Lt=>P (.bool (decide (x<y))) σ
 | .LtE=>P (.bool (decide (x≤y))) σ
 | .Gt=>P (.bool (decide (x>y))) σ
 | .GtE=>P (.bool (decide (x≥y))) σ
 |_=>L
def Jx(op:CmpOp)(σ:List LO)(x:Int)(l:List (Int×LV))(P:KV)(L:Prop):Prop:=match op with
 | .In=>P (.bool (l.lookup x).isSome) σ
 |_=>L
def AO(op:CmpOp)(σ:List LO)(x:Int)(l:List LV)(P:KV)(L:Prop):Prop:=match op with
 | .In=>(match gL l with
  |some ns=>P (.bool (ns.contains x)) σ
  |none=>L)
 |_=>L
def Ge(op:CmpOp)(σ:List LO)(a b:LV)(P:KV):Prop:=match a with
 | .int x=>(match b with
  | .int y=>Jw op σ x y P (af (aM B X env σ [.int x,.int y] (bK (compareOp op)) P))
  | .gw l=>Jx op σ x l P (af (aM B X env σ [.int x,.gw l] (bK (compareOp op)) P))
  | .tup l=>AO op σ x l P (af (aM B X env σ [.int x,.tup l] (bK (compareOp op)) P))
  |b=>af (aM B X env σ [.int x,b] (bK (compareOp op)) P))
 |a=>af (aM B X env σ [a,b] (bK (compareOp op)) P)
def vP:List LV→Nat→(LV→Prop)→Prop
 |x::_,0,k=>k x
 |_::r,n+1,k=>vP r n k
 |[],_,_=>False
def itemF(σ:List LO)(o i:LV)(P:KV):Prop:=match o,i with
 | .tup l,.int (.ofNat n)=>if Nat.ble n 64=true then vP l n (atK P σ)else False
 |o,i=>af (dZ B X env σ o i P)
def yd(σ:List LO)(o:LV)(lo hi:Option Int)(P:KV):Prop:=match o with
 | .bytes l=>aY (l.length≤16777216) (P (.bytes (bE l lo hi)) σ)
 |o=>af (eG B X env σ o lo hi P)
def sV(v:LV)(A B:Prop):Prop:=match v with
 | .bool c=>aw c A B
 |_=>False
def Gf(v:LV)(P:List LV→List LO→Prop):List LV→List LO→Prop:=fun vs σ=>P (v::vs) σ
def Jy(g:List LO→(List LV→List LO→Prop)→Prop)(P:List LV→List LO→Prop):KV:=fun v σ=>g σ (Gf v P)
def Cy(ev:IE→List LO→KV→Prop):List IE→List LO→(List LV→List LO→Prop)→Prop
 |[],σ,P=>P [] σ
 |e::r,σ,P=>ev e σ (Jy (Cy ev r) P)
def Gg(P:Option Int→List LO→Prop):KV:=fun v σ=>match v with
 | .int i=>P (some i) σ
 |_=>False
def Jz(ev:IE→List LO→KV→Prop):Option IE→List LO→(Option Int→List LO→Prop)→Prop
 |none,σ,P=>P none σ
 |some e,σ,P=>ev e σ (Gg P)
def JA(g:List LO→KV→Prop)(P:KV):KV:=fun c σ=>sV c (g σ P) (P (.bool false) σ)
def Np(g:List LO→KV→Prop)(P:KV):KV:=fun c σ=>sV c (P (.bool true) σ) (g σ P)
def uy(ev:Am)(tm:Bool):List IE→List LO→KV→Prop
 |[],_,_=>False
 |[e],σ,P=>ev tm e σ P
 |e::r,σ,P=>ev tm e σ (JA (uy ev tm r) P)
def AY(ev:Am)(tm:Bool):List IE→List LO→KV→Prop
 |[],_,_=>False
 |[e],σ,P=>ev tm e σ P
 |e::r,σ,P=>ev tm e σ (Np (AY ev tm r) P)
def Gh(op:Operator)(a:LV)(tm:Bool)(P:KV):KV:=fun b σ=>Gb B X env op σ a b (yc B env tm P)
def JB(ev:Am)(op:Operator)(r:IE)(tm:Bool)(P:KV):KV:=fun a σ=>ev false r σ (Gh B X env op a tm P)
def Gi(op:CmpOp)(a:LV)(P:KV):KV:=fun b σ=>Ge B X env op σ a b (F9 P)
def JC(ev:Am)(op:CmpOp)(r:IE)(P:KV):KV:=fun a σ=>ev false r σ (Gi B X env op a P)
def JD(ev:Am)(b o:IE)(P:KV):KV:=fun c σ=>sV c (ev false b σ P) (ev false o σ P)
def JE(P:KV):KV:=fun c σ=>match c with
 | .bool b=>P (.bool (!b)) σ
 |_=>False
def Gj(v:Value)(tm:Bool)(P:KV):List LV→List LO→Prop:=fun as σ=>af (aM B X env σ as (fun vs=>PySem.call v vs) (yc B env tm P))
def Dv(v:Value)(dA:List LV)(tm:Bool)(P:KV):List LV→List LO→Prop:=fun as σ=>af (aM B X env σ (dA++as) (fun vs=>PySem.call v vs) (yc B env tm P))
def Dw(ev:Am)(es:List IE)(tm:Bool)(P:KV)(σ:List LO):Value→List LV→Prop:=fun v dA=>Cy (ev false) es σ (Dv B X env v dA tm P)
def Gk(ev:Am)(x:Str)(es:List IE)(tm:Bool)(P:KV):KV:=fun ov σ=>MethW B env σ ov x (Dw B X env ev es tm P σ)
def Gl(x:Str)(tm:Bool)(P:KV):KV:=fun ov σ=>aO B env σ ov x (Ga B env σ tm P)
def Dx(o:LV)(tm:Bool)(P:KV):KV:=fun i σ=>itemF B X env σ o i (yc B env tm P)
def Gm(ev:Am)(s:IE)(tm:Bool)(P:KV):KV:=fun o σ=>ev false s σ (Dx B X env o tm P)
def AZ(o:LV)(a:Option Int)(tm:Bool)(P:KV):Option Int→List LO→Prop:=fun b σ=>yd B X env σ o a b (yc B env tm P)
def Ba(ev:Am)(o:LV)(hi:Option IE)(tm:Bool)(P:KV):Option Int→List LO→Prop:=fun a σ=>Jz (ev false) hi σ (AZ B X env o a tm P)
def Dy(ev:Am)(lo hi:Option IE)(tm:Bool)(P:KV):KV:=fun o σ=>Jz (ev false) lo σ (Ba B X env ev o hi tm P)
def tupK(P:KV):List LV→List LO→Prop:=fun as σ=>if Nat.ble as.length 1000=true then P (.tup as) σ else False
def lstK(P:KV):List LV→List LO→Prop:=fun as σ=>if Nat.ble as.length 1000=true then P (.obj σ.length) (σ++[.list as])else False
def Gn(P:KV):KV:=fun b σ=>match b with
 | .bytes l=>aY (l.length≤8) (P (.int (KFB.value l)) σ)
 |_=>False
end
def dV(B:Base)(X:Sx)(xs:List Str)(env:cT):Nat→Bool→IE→List LO→KV→Prop
 |0,_,_,_,_=>False
 |n+1,tm,e,σ,P=>match e with
  | .lit v=>yb B (envOf xs env) σ tm P v
  | .var k=>xZ env k (Ga B (envOf xs env) σ tm P)
  | .bin op l r=>dV B X xs env n false l σ (JB B X (envOf xs env) (dV B X xs env n) op r tm P)
  | .cmp op l r=>dV B X xs env n false l σ (JC B X (envOf xs env) (dV B X xs env n) op r P)
  | .ite t b o=>(match tm with
    |false=>dV B X xs env n true t σ (JD (dV B X xs env n) b o P)
    |true=>False)
  | .cn es=>uy (dV B X xs env n) tm es σ P
  | .kY es=>AY (dV B X xs env n) tm es σ P
  | .not e=>(match tm with
    |false=>False
    |true=>dV B X xs env n true e σ (JE P))
  | .call v es=>Cy (dV B X xs env n false) es σ (Gj B X (envOf xs env) v tm P)
  | .bA x o es=>dV B X xs env n false o σ (Gk B X (envOf xs env) (dV B X xs env n) x es tm P)
  | .attr o x=>dV B X xs env n false o σ (Gl B (envOf xs env) x tm P)
  | .item v s=>dV B X xs env n false v σ (Gm B X (envOf xs env) (dV B X xs env n) s tm P)
  | .slice v lo hi=>dV B X xs env n false v σ (Dy B X (envOf xs env) (dV B X xs env n) lo hi tm P)
  | .tup es=>(match tm with
    |false=>Cy (dV B X xs env n false) es σ (tupK P)
    |true=>False)
  | .lst es=>(match tm with
    |false=>Cy (dV B X xs env n false) es σ (lstK P)
    |true=>False)
  | .eX e=>(match tm with
    |false=>dV B X xs env n false e σ (Gn P)
    |true=>False)
  | .raw e=>match tm with
    |false=>af (aS B X (envOf xs env) σ e P)
    |true=>False
theorem eI{l:List (Bool×Sem Value)}{Q:Args→Shared→Prop}(hp:l.all (fun x=>!x.1)=true)(h:wpAny M A (spliced l) (fun vs s'=>Q ⟨vs,[]⟩ s') E s):wpAny M A (evalArgs f true l []) Q E s:=by
 induction l using List.casesOn with
 |nil=>show V (jt h (fun vs s' h'=>?_) fun U U x=>x);show V (aG ?_);show eT ?_;show V (aG (V (aG (aG h'))))
 |cons x r=>
  obtain⟨b,t⟩:=x;simp only[all_cons,Bool.and_eq_true]at hp
  induction b using Bool.casesOn with
  |true=>cases hp.1
  |false=>show Calls.evalArgs_plain h
theorem qQ(G:Gd B)(e:bX (K B.w.params) X.sc x=some v)(h:P (.gl v) σ):aS B X env σ (.Name x p) P:=qO (lv:=.gl v) G e (fun U U U U=>rfl) h
theorem uz(G:Gd B)(e:bX (K B.w.params) X.sc x=some v)(O:bC C)(hX:X.At C)(S:St B C ρ env σ s.heap)(qe:Exc B X C ρ s E)(k:∀ρ1 s1,Kept C ρ s ρ1 s1→St B C ρ1 env σ s1.heap→Q v s1):wpAny B.M C.A (eval (.Name x p) C.env) Q E s:=aS.at (qQ G e (P:=fun fv σ1=>fv= .gl v∧σ1=σ) ⟨rfl,rfl⟩) O hX S qe fun u ρ1 s1 K1 S1 R1=>(show u=v from R1)▸k ρ1 s1 K1 S1
theorem df:∀{l:List (Bool×Sem Value)},l.all (fun x=>!x.1)=true→l.any (·.1)=false
 |[],_=>rfl
 |(b,t)::r,h=>by
  simp only[all_cons,Bool.and_eq_true]at h
  have:b=false:=by cases b;rfl;cases h.1
  subst this;show(?_:(false||r.any (·.1))=false);erw[df h.2];rfl
theorem aS.qR(G:Gd B)(hp:es.all bq=true)(hv:bX (K B.w.params) X.sc f=some v)(kp:i7 (K B.w.params) v=true)(h:lR B X env σ es fun as σ1=>aM B X env σ1 as (fun vs=>PySem.call v vs) P):aS B X env σ (.Call (.Name f np) es [] pos) P:=fun C O hX ρ s E Q S qe q=>by
 show Call_ (uz G hv O hX S qe fun ρ1 s1 K1 S1=>?_) rfl;have fu:=cH C.env hp pos
 have h3:=h C O hX ρ1 s1 E (fun vs s₁=>(∀a o,B.heap.get? a=some o→s₁.heap.get? a=some o)∧wpAny B.M C.A (PySem.call v ([]++vs)) Q E s₁) pos S1 (qe.since K1) fun rs σ2 vs ρ2 s2 p2 K2 S2 R2=>
  ⟨S2.base,p2 C O hX ρ2 s2 E Q vs S2 (qe.since (K1.trans K2)) R2 fun r σ' v' ρ' s' p' K' S' R'=>q _ _ _ _ _ p' ((K1.trans K2).trans K') S' R'⟩
 show callWith_of (P:=fun hh=>∀a o,B.heap.get? a=some o→hh.get? a=some o) (by show(?_:((backTo pos (starEach es C.env)).any (·.1)||false)=false);erw[df fu];rfl) (jI G kp) (eI fu h3)
theorem aS.pD{apos:Pos}(hp:(vL es&&fT o&&apos.endLine==pos.line)=true)(h:aS B X env σ o fun ov σ1=>∃v dA,bO B env σ1 ov name v dA∧lR B X env σ1 es fun as σ2=>aM B X env σ2 (dA++as) (fun vs=>PySem.call v vs) P):
  aS B X env σ (.Call (.Attribute o name apos) es [] pos) P:=fun C O hX ρ s E Q S qe q=>by
 simp only[Bool.and_eq_true]at hp;show aA hp ?_;rintro⟨hfew,ho⟩ g9;unfold vL at hfew;simp only[Bool.and_eq_true,decide_eq_true_eq]at hfew;show aA hfew fun xf hlen=>?_;have fu:=cH C.env xf pos;erw[arm_eval_Call ..];rw[dB ho];show V (h C O hX ρ s E _ S qe fun ov σ1 u ρ1 s1 h1 K1 S1 R1=>?_);show cj h1 fun v dA hm h2=>?_;show V (gx ?_)
 have so:methodCallForm (es.length+([]:List Keyword).length) (backTo pos (starEach es C.env)) (backToKw pos (keywordEach [] C.env))=true:=by
  show(?_:((backTo pos (starEach es C.env)).all (fun x=>!x.1)&&true&&decide (es.length+0+0<30))=true)
  (erw[fu,decide_eq_true (Cp ‹_› (by decide))]);rfl
 have qp:methodCallPos true o C.env apos pos=pure pos:=by unfold methodCallPos;simp[g9]
 unfold methodCall;erw[so];show V (eT ?_);show hm.run C O ρ1 s1 _ _ _ u S1 R1 fun vs s2 K2 S2 R2=>?_;show V (eA qp ?_)
 have h3:=h2 C O hX ρ1 s2 E (fun Ap s₁=>(∀a o,B.heap.get? a=some o→s₁.heap.get? a=some o)∧wpAny B.M C.A (PySem.call v (vs++Ap)) Q E s₁) pos S2 (qe.since (K1.trans K2)) fun rs σ2 Ap ρ3 s3 p3 K3 S3 R3=>
  ⟨S3.base,p3 C O hX ρ3 s3 E Q (vs++Ap) S3 (qe.since ((K1.trans K2).trans K3)) ((K3.gz S2 R2).append R3) fun r σ' v' ρ' s' p' K' S' R'=>q _ _ _ _ _ p' (((K1.trans K2).trans K3).trans K') S' R'⟩
 show callWith_of (P:=fun hh=>∀a o,B.heap.get? a=some o→hh.get? a=some o) (by show(?_:((backTo pos (starEach es C.env)).any (·.1)||false)=false);erw[df fu];rfl) hm.keeps (eI fu h3)
theorem aS.mB(hp:fT o=true)(h:aS B X env σ o fun ov σ1=>∃r,fe B env σ1 ov name r∧P r σ1):aS B X env σ (.Attribute o name pos) P:=fun C O hX ρ s E Q S qe q=>by
 erw[arm_eval_Attribute ..];rw[dB hp];show V (h C O hX ρ s E _ S qe fun ov σ1 u ρ1 s1 h1 K1 S1 R1=>?_);show aa h1 fun r ha p=>?_;show V (gx (V (eT ?_)));show ha.run C O ρ1 s1 _ _ u S1 R1 fun v s2 K2 S2 R2=>?_
 try show V ?_
 first
  |show wpAny_letTemporaryGo (aG (q _ _ _ _ _ p (K1.trans K2) S2 R2))
  |show wpAny_letTemporaryGo (q _ _ _ _ _ p (K1.trans K2) S2 R2)
theorem nM.int{i:Int}{PB:Bool→List LO→Prop}(h:PB (i !=0) σ):nM B env σ (.int i) PB:=fun C O ρ s E Q v S r q=>by show av r ?_;rintro t rfl;show PySem.P.truthy_int (q _ _ ρ s h (.rr rfl rfl rfl) S)
theorem cw{e:Expr}{tm:Bool}(hv:aS B X env σ e fun v σ1=>yb B env σ1 tm P v)(he:∀ae whole,isTrue e ae whole=(do let v←whole;standAt e.pos;holding [v] (truthy v))):
  (tm=false→aS B X env σ e P)∧(tm=true→gv B X env σ e fun b σ1=>P (.bool b) σ1):=by
 show⟨fun h=>?_,fun h=>?_⟩
 ·subst h;show hv.mono fun r s p=>p
 ·subst h;show .val (hv.mono fun r s p=>?_) he
  induction r using LV.casesOn with
  |bool b=>show .bool p
  |int i=>show .int p
  |_=>show p.get
theorem Bb{a:LV}(h:Gb B X env op σ a b P):aM B X env σ [a,b] (bK (binaryOp op)) P:=by
 induction a using LV.casesOn with
 |int x=>
  induction b using LV.casesOn with
  |int y=>
   induction op using Operator.casesOn with
   |Add=>show .add h
   |Sub=>show .sub h
   |Mult=>
    show .mul h.go ?_
    rcases h.ask with q|q
    ·show IntMulOk.of_left (intBits_le_iff.mpr (Cp ‹_› (by decide)))
    ·show vH q
   |Mod=>show .mod h.ask h.go
   |FloorDiv=>
    show aA h.ask fun h0 h1=>?_;show .fdiv (by lia) (fun a'=>PyProof.noPylong_of_log2 ?_) h.go
    have:y.natAbs<2 ^ 60:=by lia
    have h2:y.natAbs≠0:=by omega
    have:=(Nat.log2_lt h2).mpr this;show Cp ‹_› (by decide)
   |Pow=>
    show ju h.ask fun h0 h1 h2=>?_
    have e:y=((y.toNat:Nat):Int):=by show(Int.toNat_of_nonneg ‹_›).symm
    erw[e];show .pow (by ac_rfl) h2 h.go
   |BitAnd=>show .and h
   |BitXor=>show .xor h
   |_=>show af.get h
  |_=>show af.get h
 |bytes x=>
  induction b using LV.casesOn with
  |bytes y=>
   induction op using Operator.casesOn with
   |Add=>show .Jp h.ask h.go
   |_=>show af.get h
  |_=>show af.get h
 |_=>show af.get h
theorem Bc{a:LV}(h:Ge B X env op σ a b P):aM B X env σ [a,b] (bK (compareOp op)) P:=by
 induction a using LV.casesOn with
 |int x=>
  induction b using LV.casesOn with
  |int y=>
   induction op using CmpOp.casesOn with
   |Eq=>show .eq h
   |NotEq=>show .ne h
   |Lt=>show .lt h
   |LtE=>show .le h
   |Gt=>show .gt h
   |GtE=>show .ge h
   |_=>show af.get h
  |gw l=>
   induction op using CmpOp.casesOn with
   |In=>show .F0 h
   |_=>show af.get h
  |tup l=>
   induction op using CmpOp.casesOn with
   |In=>
    have h:(match gL l with
     |some ns=>P (.bool (ns.contains x)) σ
     |none=>af (aM B X env σ [.int x,.tup l] (bK (compareOp .In)) P)):=h
    cases e:gL l with
    |some ns=>replace h:=e▸h;erw[kI e];show .FY h
    |none=>replace h:=e▸h;show h.get
   |_=>show af.get h
  |_=>show af.get h
 |_=>show af.get h
theorem qS:∀{l:List LV} {n:Nat} {k:LV→Prop},vP l n k→∃x,l[n]? =some x∧k x
 |[],n,k,h=>by simp[vP]at h
 |x::r,0,k,h=>⟨x,rfl,h⟩
 |x::r,n+1,k,h=>by have h:vP r n k:=h;show aa (qS h) fun y e q=>?_;show⟨y,by simpa using e,q⟩
theorem ye(h:itemF B X env σ o i P):dZ B X env σ o i P:=by
 induction o using LV.casesOn with
 |tup l=>
  induction i using LV.casesOn with
  |int k=>
   induction k using Int.casesOn with
   |ofNat n=>
    have h:(if Nat.ble n 64=true then vP l n (atK P σ)else False):=h
    by_cases hn:Nat.ble n 64=true
    ·replace h:=aJ hn▸h;show aa (qS h) fun x e q=>?_;have:=Nat.le_of_ble_eq_true hn;show .tup (Int.natCast_nonneg n) (by show(?_:(n:Int)<2 ^ 63);lia) e q
    ·replace h:=ax hn▸h;show h.elim
   |negSucc n=>show af.get h
  |_=>show af.get h
 |_=>show af.get h
theorem vQ{lo hi:Option Int}(h:yd B X env σ o lo hi P):eG B X env σ o lo hi P:=by
 induction o using LV.casesOn with
 |bytes l=>show .bytes h.ask h.go
 |_=>show af.get h
theorem gv.jJ{P P':Bool→List LO→Prop}(h:gv B X env σ e P)(k:∀b s,P b s→P' b s):gv B X env σ e P':=fun C O hX ρ s E Q S qe q=>
 h C O hX ρ s E Q S qe fun r σ' ρ' s' p=>q r σ' ρ' s' (k _ _ p)
theorem aM.mono{t:List Value→Sem Value}{P':kr}(h:aM B X env σ as t P)(k:∀b s,P b s→P' b s):aM B X env σ as t P':=fun C O hX ρ s E Q vs S qe R q=>
 h C O hX ρ s E Q vs S qe R fun r σ' v ρ' s' p=>q r σ' v ρ' s' (k _ _ p)
theorem lR.mono{P P':List LV→List LO→Prop}(h:lR B X env σ es P)(k:∀b s,P b s→P' b s):lR B X env σ es P':=fun C O hX ρ s E Q pos S qe q=>
 h C O hX ρ s E Q pos S qe fun r σ' v ρ' s' p=>q r σ' v ρ' s' (k _ _ p)
theorem pk.mono{eo:Option Expr}{P P':Option Int→List LO→Prop}(h:pk B X env σ P eo)(k:∀b s,P b s→P' b s):pk B X env σ P' eo:=by
 induction eo using Option.casesOn with
 |none=>show k _ _ h
 |some e=>show aS.mono h fun v s p=>?_;show aa p fun i e q=>?_;show cM i e (k _ _ q)
def mC(B:Base)(X:Sx)(env:aQ)(σ:List LO)(tm:Bool)(e:Expr)(P:kr):Prop:=
 (tm=false→aS B X env σ e P)∧(tm=true→gv B X env σ e fun b σ1=>P (.bool b) σ1)
theorem jK{cf:Expr→Option IE}{ev:IE→List LO→(kr)→Prop}(qx:∀e a σ P,cf e=some a→ev a σ P→aS B X env σ e P){es:List Expr}:
  ∀{l:List IE} {σ:List LO} {PL:List LV→List LO→Prop},es.all bq=true→eH cf es=some l→Cy ev l σ PL→lR B X env σ es PL:=by
 induction es with
 |nil=>intro l σ PL _ hc h;injection hc with z;subst z;show .nil h
 |cons e r ih=>
  intro l σ PL hp hc h;show aa (iO hc) fun a ha hc=>?_;show aa (iO hc) fun l' hl hc=>?_
  injection hc with z;subst z
  simp only[all_cons,Bool.and_eq_true]at hp;show Rc.cons hp.1 (.mono (qx e a σ _ ha h) fun v σ1 q=>ih hp.2 hl q)
theorem uA{cf:Expr→Option IE}{ev:IE→List LO→(kr)→Prop}(qx:∀e a σ P,cf e=some a→ev a σ P→aS B X env σ e P){eo:Option Expr}{ao:Option IE}{PO:Option Int→List LO→Prop}(hc:oq cf eo=some ao)(h:Jz ev ao σ PO):pk B X env σ PO eo:=by
 induction eo using Option.casesOn with
 |none=>unfold oq at hc;injection hc with z;subst z;show h
 |some e=>
  show aa (iO hc) fun a ha hc=>?_
  injection hc with z;subst z
  show(qx e a σ _ ha h).mono fun v σ1 q=>?_
  cases v<;>first|show⟨_,rfl,q⟩|show(False.elim q)
theorem sV.out{v:LV}{A B:Prop}(h:sV v A B):∃c,v= .bool c∧(c=true→A)∧(c=false→B):=by
 cases v<;>first|show h.elim|show⟨_,rfl,h.yes,h.no⟩
theorem jL{cf:Expr→Option IE}{ev:Bool→IE→List LO→(kr)→Prop}(qx:∀tm e a σ P,cf e=some a→ev tm a σ P→mC B X env σ tm e P){es:List Expr}:
  ∀{l:List IE} {σ:List LO},eH cf es=some l→(uy ev false l σ P→fV B X env .And P σ es)∧(uy ev true l σ P→AllP B X env σ .And es fun b σ1=>P (.bool b) σ1):=by
 induction es with
 |nil=>intro l σ hc;injection hc with z;subst z;show⟨fun h=>h.elim,fun h=>h.elim⟩
 |cons e r ih=>
  intro l σ hc
  cases r with
  |nil=>
   show aa (iO hc) fun a ha hc=>?_
   injection hc with z;subst z
   show⟨fun h=>?_,fun h=>?_⟩
   ·show(qx false e a σ P ha h).1 rfl
   ·show .and_cons (gv.jJ ((qx true e a σ P ha h).2 rfl) fun b σ1 p=>⟨fun z=>by subst z;show p,fun z=>.and_nil (by subst z;show p)⟩)
  |cons e' r=>
   show aa (iO hc) fun a ha hc=>?_;show aa (iO hc) fun l' hl hc=>?_
   injection hc with z;subst z
   have nl:∃a' r',l'=a'::r':=by
    show aa (iO hl) fun a' U hl=>?_;show aa (iO hl) fun r' U hl=>?_
    injection hl with z;subst z
    show⟨_,_,rfl⟩
   show fJ nl ?_;rintro a' r' rfl;show⟨fun h=>vK (((qx false e a σ _ ha h).1 rfl).mono fun v σ1 q=>?_),fun h=>.and_cons (gv.jJ ((qx true e a σ _ ha h).2 rfl) fun b σ1 q=>?_)⟩
   ·show bJ q.out ?_;rintro c rfl q1 q2;show oX c rfl q2 (fun z=>(ih hl).1 (q1 z))
   ·show bJ q.out fun c e1 q1 q2=>?_
    injection e1 with z;subst z
    show⟨q2,fun z=>(ih hl).2 (q1 z)⟩
theorem lS{cf:Expr→Option IE}{ev:Bool→IE→List LO→(kr)→Prop}(qx:∀tm e a σ P,cf e=some a→ev tm a σ P→mC B X env σ tm e P){es:List Expr}:
  ∀{l:List IE} {σ:List LO},eH cf es=some l→(AY ev false l σ P→fV B X env .Or P σ es)∧(AY ev true l σ P→AllP B X env σ .Or es fun b σ1=>P (.bool b) σ1):=by
 induction es with
 |nil=>intro l σ hc;injection hc with z;subst z;show⟨fun h=>h.elim,fun h=>h.elim⟩
 |cons e r ih=>
  intro l σ hc
  cases r with
  |nil=>
   show aa (iO hc) fun a ha hc=>?_
   injection hc with z;subst z
   show⟨fun h=>?_,fun h=>?_⟩
   ·show(qx false e a σ P ha h).1 rfl
   ·show .or_cons (gv.jJ ((qx true e a σ P ha h).2 rfl) fun b σ1 p=>⟨fun z=>by subst z;show p,fun z=>.or_nil (by subst z;show p)⟩)
  |cons e' r=>
   show aa (iO hc) fun a ha hc=>?_;show aa (iO hc) fun l' hl hc=>?_
   injection hc with z;subst z
   have nl:∃a' r',l'=a'::r':=by
    show aa (iO hl) fun a' U hl=>?_;show aa (iO hl) fun r' U hl=>?_
    injection hl with z;subst z
    show⟨_,_,rfl⟩
   show fJ nl ?_;rintro a' r' rfl;show⟨fun h=>xR (((qx false e a σ _ ha h).1 rfl).mono fun v σ1 q=>?_),fun h=>.or_cons (gv.jJ ((qx true e a σ _ ha h).2 rfl) fun b σ1 q=>?_)⟩
   ·show bJ q.out ?_;rintro c rfl q1 q2;show oX c rfl q1 (fun z=>(ih hl).1 (q2 z))
   ·show bJ q.out fun c e1 q1 q2=>?_
    injection e1 with z;subst z
    show⟨q1,fun z=>(ih hl).2 (q2 z)⟩
section
variable{xs:List Str}{env:cT}
theorem yf(h:Cw es=some e):∃k p,es=[e,.Constant (.str (oS "big")) k p]:=by
 match es,h with
 |[e',c],h=>
  show aa (iO h) ?_;rintro⟨c,k,p⟩ h1 h;obtain rfl:=mi h1
  induction c using Const.casesOn with
  |str b=>show aA (bf h) fun q h=>?_;obtain rfl:=eB q;show Option.some.inj h▸⟨k,p,rfl⟩
  |_=>show fK h
 |[],h=>show fK h
 |[_],h=>show fK h
 |_::_::_::_,h=>show fK h
theorem vR(G:Gd B)(nd:xs.Nodup){a:IE}{m:Nat}{tm:Bool}(hc:uu (K B.w.params) X.sc xs x=some a)(h:dV B X xs env (m+1) tm a σ P):mC B X (envOf xs env) σ tm (.Name x p) P:=by
 unfold uu at hc
 cases hs:cu x xs 0 with
 |some k=>
  replace hc:=hs▸hc;dsimp only at hc
  by_cases ho:c9 x=true
  ·replace hc:=aJ ho▸hc;right
  ·replace hc:=ax ho▸hc;rw[Bool.not_eq_true]at ho;show ju (fX ho) fun o1 o2 o3=>?_
   injection hc with z;subst z
   show aa (la nd (slot0 hs) h) fun v e1 q=>?_;show cw (.var e1 q o1 o2) (fun U U=>rfl)
 |none=>
  replace hc:=hs▸hc;show aa (iO hc) fun v hv hc=>?_
  injection hc with z;subst z
  show cw (AX G hv h) (fun U U=>rfl)
end
theorem bind1{α β:Type}{o:Option α}{g:α→β}{r:β}(h:(o.bind fun a=>some (g a))=some r):∃a,o=some a∧g a=r:=by
 induction o using Option.casesOn with
 |none=>show nomatch h
 |some a=>show⟨a,rfl,Option.some.inj h⟩
theorem gm{α β γ:Type}{o:Option α}{p:Option β}{g:α→β→γ}{r:γ}(h:(o.bind fun a=>p.bind fun b=>some (g a b))=some r):∃a b,o=some a∧p=some b∧g a b=r:=by
 induction o using Option.casesOn with
 |none=>show nomatch h
 |some a=>show(bind1 h).elim fun b q=>⟨a,b,rfl,q⟩
theorem uB{α β γ δ:Type}{o:Option α}{p:Option β}{q:Option γ}{g:α→β→γ→δ}{r:δ}(h:(o.bind fun a=>p.bind fun b=>q.bind fun c=>some (g a b c))=some r):∃a b c,o=some a∧p=some b∧q=some c∧g a b c=r:=by
 induction o using Option.casesOn with
 |none=>show nomatch h
 |some a=>show(gm h).elim fun b z=>z.elim fun c z=>⟨a,b,c,rfl,z⟩
theorem qT{c:Bool}{p:Prop}(h:if c=true then p else False):c=true∧p:=by
 cases c
 ·show h.elim
 ·show⟨rfl,h⟩
inductive dm(K:Frag)(sc:Scope)(xs:List Str)(f:Expr→Option IE):Expr→IE→Prop
 |const {c k p a} (h:xX c=some a):dm K sc xs f (.Constant c k p) a
 |name {x p a} (h:uu K sc xs x=some a):dm K sc xs f (.Name x p) a
 |neg {i k p p'}:dm K sc xs f (.UnaryOp .USub (.Constant (.int i) k p') p) (.li (-i))
 |bin {a b op p l r} (h1:f a=some l) (h2:f b=some r):dm K sc xs f (.BinOp a op b p) (.bin op l r)
 |cmp {a b op p l r} (hp:bq b=true) (h1:f a=some l) (h2:f b=some r):dm K sc xs f (.Compare a [op] [b] p) (.cmp op l r)
 |ite {t' b' o' p t b o} (h1:f t'=some t) (h2:f b'=some b) (h3:f o'=some o):dm K sc xs f (.IfExp t' b' o' p) (.ite t b o)
 |cn {l p es} (h:eH f l=some es):dm K sc xs f (.BoolOp .And l p) (.cn es)
 |kY {l p es} (h:eH f l=some es):dm K sc xs f (.BoolOp .Or l p) (.kY es)
 |not {y p x} (h:f y=some x):dm K sc xs f (.UnaryOp .Not y p) (.not x)
 |call {x np l pos v es} (hp:l.all bq=true) (hv:bX K sc x=some v) (kp:i7 K v=true) (h:eH f l=some es):dm K sc xs f (.Call (.Name x np) l [] pos) (.call v es)
 |bA {o' x l apos pos o es} (hp:(vL l&&fT o'&&apos.endLine==pos.line)=true) (h1:f o'=some o) (h2:eH f l=some es):dm K sc xs f (.Call (.Attribute o' x apos) l [] pos) (.bA x o es)
 |attr {o' x p o} (hp:fT o'=true) (h:f o'=some o):dm K sc xs f (.Attribute o' x p) (.attr o x)
 |item {v' s' p v s} (hp:bq s'=true) (h1:f v'=some v) (h2:f s'=some s):dm K sc xs f (.Subscript v' s' p) (.item v s)
 |slice {v' lo' IA sp p v lo hi} (h1:f v'=some v) (h2:oq f lo'=some lo) (h3:oq f IA=some hi):dm K sc xs f (.Subscript v' (.Slice lo' IA none sp) p) (.slice v lo hi)
 |tup {l k p es} (hp:l.all bq=true) (h:eH f l=some es):dm K sc xs f (.Tuple l k p) (.tup es)
 |lst {l p es} (hp:l.all bq=true) (h:eH f l=some es):dm K sc xs f (.List l p) (.lst es)
 |eX {b' k p1 np apos pos b} (hg:bX K sc (oS "int")=some (.type "int")) (hp:(bq b'&&apos.endLine==pos.line)=true) (h:f b'=some b):dm K sc xs f (.Call (.Attribute (.Name (oS "int") np) (oS "from_bytes") apos) [b',.Constant (.str (oS "big")) k p1] [] pos) (.eX b)
 |raw {e}:dm K sc xs f e (.raw e)
section
variable{K:Frag}{sc:Scope}{xs:List Str}{f:Expr→Option IE}{a:IE}
theorem yg{v s:Expr}(h:(if bq s=true then(f v).bind fun a=>(f s).bind fun b=>some (IE.item a b)else none)=some a):dm K sc xs f (.Subscript v s p) a:=by show aA (bf h) fun hp h=>?_;show bb (gm h) ?_;rintro a1 b1 h1 h2 rfl;show .item hp h1 h2
theorem Bd{v s:Expr}(h:uw f v s=some a):dm K sc xs f (.Subscript v s p) a:=by
 induction s using Expr.casesOn with
 |Slice lo hi st sp=>
  induction st using Option.casesOn with
  |some _=>show fK h
  |none=>show iQ (uB h) ?_;rintro a1 b1 c1 h1 h2 h3 rfl;show .slice h1 h2 h3
 |_=>show yg h
theorem dm.Gp{apos:Pos}{k:Nat}(eg:g= .Attribute (.Name (oS "int") np) (oS "from_bytes") apos)(ee:es=[b',.Constant (.str (oS "big")) k p1])(hg:bX K sc (oS "int")=some (.type "int"))(hp:(bq b'&&apos.endLine==pos.line)=true)(h:f b'=some b):dm K sc xs f (.Call g es [] pos) (.eX b):=by subst eg;subst ee;show .eX hg hp h
theorem yh(h:jG K sc f es pos g=some a):dm K sc xs f (.Call g es [] pos) a:=by show hide fun H_ o_=>?_;show aa (iO h) fun r hr h=>?_;show aa (iO h) fun q hq h=>?_;show aA (bf h) fun hc h=>?_;show aA (Bool.and_eq_true_iff.mp hc) fun hc g9=>?_;show aA (Bool.and_eq_true_iff.mp hc) fun hc q4=>?_;show aA (Bool.and_eq_true_iff.mp hc) fun q1 q2=>?_;have q2:=eB q2;show aa (iO h) fun e1 h0 h=>?_;show fJ (yf h0) fun k p1 ee=>?_;show aA (bf h) fun hp h=>?_;show aa (bind1 h) fun a1 h1 ea=>?_;show o_ ?_;clear o_ H_;show ea▸.Gp (by(erw[kG hr,eu hq,eB q1];show aD rfl q2)) ee (q2▸eB q4) (Bool.and_eq_true_iff.mpr ⟨hp,g9⟩) h1
theorem yi(h:jF K sc xs f es pos g=some a):dm K sc xs f (.Call g es [] pos) a:=by
 unfold jF at h
 cases hg:asName g with
 |some q=>replace h:=hg▸h;show aA (bf h) fun hp h=>?_;show aa (iO h) fun v hv h=>?_;show aA (bf h) fun kp h=>?_;show aa (bind1 h) fun l h1 ea=>?_;erw[eu hg];show ea▸.call (Bool.and_eq_true_iff.mp hp).2 hv kp h1
 |none=>replace h:=hg▸h;show aa (iO h) fun r hr h=>?_;show aA (bf h) fun hp h=>?_;show bb (gm h) fun a1 l h1 h2 ea=>?_;erw[kG hr];show ea▸.bA hp h1 h2
theorem uC(h:some (IE.raw e)=some a):dm K sc xs f e a:=Option.some.inj h▸.raw
theorem Be{l:Expr}{ops:List CmpOp}(h:uv f l ops rs=some a):dm K sc xs f (.Compare l ops rs p) a:=by
 match ops,rs,h with
 |[op],[r],h=>show aA (bf h) fun hp h=>?_;show bb (gm h) ?_;rintro a1 b1 h1 h2 rfl;show .cmp hp h1 h2
 |[],_,h=>show fK h
 |[_],[],h=>show fK h
 |[_],_::_::_,h=>show fK h
 |_::_::_,_,h=>show fK h
theorem sW(h:xY K sc xs f e=some a):dm K sc xs f e a:=by
 induction e using Expr.casesOn with
 |Constant c k p=>show .const h
 |Name x p=>show .name h
 |BinOp l op r p=>show bb (gm h) ?_;rintro a1 b1 h1 h2 rfl;show .bin h1 h2
 |UnaryOp op x p=>
  induction op using UnaryOp.casesOn with
  |Not=>show aa (bind1 h) ?_;rintro a1 h1 rfl;show .not h1
  |USub=>show aa (bind1 h) ?_;rintro i h1 rfl;show fJ (iY h1) ?_;rintro k p' rfl;show .neg
  |_=>show fK h
 |IfExp t b o p=>show iQ (uB h) ?_;rintro t1 b1 o1 h1 h2 h3 rfl;show .ite h1 h2 h3
 |Compare l ops rs p=>show Be h
 |BoolOp op es p=>
  show aa (bind1 h) ?_;rintro l h1 rfl
  induction op using BoolOp.casesOn with
  |And=>show .cn h1
  |Or=>show .kY h1
 |Tuple es k p=>show aA (bf h) fun hp h=>?_;show aa (bind1 h) ?_;rintro l h1 rfl;show .tup hp h1
 |List es p=>show aA (bf h) fun hp h=>?_;show aa (bind1 h) ?_;rintro l h1 rfl;show .lst hp h1
 |Subscript v s p=>show Bd h
 |Attribute o x p=>show aA (bf h) fun hp h=>?_;show aa (bind1 h) ?_;rintro a1 h1 rfl;show .attr hp h1
 |Call g es kws pos=>
  have h:(if es.any sS=true then some (IE.raw (.Call g es kws pos))else if kws.isEmpty=true then(match jG K sc f es pos g with
   |some r=>some r
   |none=>jF K sc xs f es pos g)else none)=some a:=h
  by_cases si:es.any sS=true
  ·replace h:=aJ si▸h;show uC h
  ·replace h:=ax si▸h;show aA (bf h) fun hk h=>?_;obtain rfl:=isEmpty_iff.mp hk
   cases hf:jG K sc f es pos g with
   |some r=>replace h:=hf▸h;show yh (hf.trans h)
   |none=>replace h:=hf▸h;show yi h
 |_=>show uC h
end
section
variable{xs:List Str}{env:cT}{m:Nat}{tm:Bool}{e:Expr}{f:Expr→Option IE}
theorem mC.Gq(h:aS B X (envOf xs env) σ e P):mC B X (envOf xs env) σ false e P:=⟨fun U=>h,fun z=>(by right)⟩
theorem mC.ofT(h:gv B X (envOf xs env) σ e fun b σ1=>P (.bool b) σ1):mC B X (envOf xs env) σ true e P:=⟨fun z=>(by right),fun U=>h⟩
theorem vS{c:Const}{k:Nat}{a:IE}(hc:xX c=some a)(h:dV B X xs env (m+1) tm a σ P):mC B X (envOf xs env) σ tm (.Constant c k p) P:=by
 induction c using Const.casesOn with
 |none=>show cw (.Cs (by(injection hc with z;subst z);show h)) (fun U U=>rfl)
 |bool b=>show cw (.bool (by(injection hc with z;subst z);show h)) (fun U U=>rfl)
 |int b=>show cw (.int (by(injection hc with z;subst z);show h)) (fun U U=>rfl)
 |str b=>show cw (.str (by(injection hc with z;subst z);show h)) (fun U U=>rfl)
 |bytes b=>show cw (.bytes (by(injection hc with z;subst z);show h)) (fun U U=>rfl)
 |_=>show fK hc
theorem yj(G:Gd B)(nd:xs.Nodup)(ih:∀{tm:Bool} {e:Expr} {a:IE} {σ:List LO} {P:kr},f e=some a→dV B X xs env m tm a σ P→mC B X (envOf xs env) σ tm e P){a:IE}(inv:dm (K B.w.params) X.sc xs f e a)(h:dV B X xs env (m+1) tm a σ P):mC B X (envOf xs env) σ tm e P:=by
 have ev:∀{e:Expr} {a:IE} {σ:List LO} {P:kr},f e=some a→dV B X xs env m false a σ P→aS B X (envOf xs env) σ e P:=fun c q=>(ih c q).1 rfl;have Fv:∀(e:Expr) (a:IE) (σ:List LO) (P:kr),f e=some a→dV B X xs env m false a σ P→aS B X (envOf xs env) σ e P:=fun U U U U=>ev;have tr:∀{e:Expr} {a:IE} {σ:List LO} {P:kr},f e=some a→dV B X xs env m true a σ P→gv B X (envOf xs env) σ e fun b σ1=>P (.bool b) σ1:=fun c q=>(ih c q).2 rfl
 induction inv using dm.casesOn with
 |const hc=>show vS hc h
 |name hc=>show vR G nd hc h
 |neg=>show cw (.neg h) (fun U U=>rfl)
 |bin h1 h2=>show cw (.bin ((ev h1 h).mono fun v σ1 q=>(ev h2 q).mono fun u σ2 q=>Bb q)) (fun U U=>rfl)
 | @cmp a b op p l r hp h1 h2=>
  have go:aS B X (envOf xs env) σ a fun v σ1=>aS B X (envOf xs env) σ1 b fun u σ2=>aM B X (envOf xs env) σ2 [v,u] (bK (compareOp op)) fun c σ3=>∃t,c= .bool t∧P (.bool t) σ3:=(ev h1 h).mono fun v σ1 q=>(ev h2 q).mono fun u σ2 q=>(Bc q).mono fun r σ3 q=>by
   cases r<;>first|show⟨_,rfl,q⟩|show q.elim
  show⟨fun U=>Rc.Jr hp (go.mono fun v σ1 q=>q.mono fun u σ2 q=>q.mono fun r σ3 q=>?_),fun U=>Rc.AO hp go⟩;show aa q ?_;rintro t rfl q;show q
 |ite h1 h2 h3=>
  induction tm using Bool.casesOn with
  |false=>
   show .Gq (.ite (.jJ (tr h1 h) fun c σ1 q=>?_));show bJ q.out fun c' e q1 q2=>?_
   injection e with z;subst z
   show⟨fun z=>ev h2 (q1 z),fun z=>ev h3 (q2 z)⟩
  |true=>show h.elim
 |cn h1=>show⟨fun z=>(by subst z;show .bools ((jL (fun U U U U U c q=>ih c q) h1).1 h)),fun z=>(by subst z;show .ops ((jL (fun U U U U U c q=>ih c q) h1).2 h))⟩
 |kY h1=>show⟨fun z=>(by subst z;show .bools ((lS (fun U U U U U c q=>ih c q) h1).1 h)),fun z=>(by subst z;show .ops ((lS (fun U U U U U c q=>ih c q) h1).2 h))⟩
 |not h1=>
  induction tm using Bool.casesOn with
  |false=>show h.elim
  |true=>show .ofT (.not (.jJ (tr h1 h) fun b σ1 q=>q))
 |call hp hv kp h1=>show cw (.qR G hp hv kp (.mono (jK Fv hp h1 h) fun rs σ1 q=>q.get)) (fun U U=>rfl)
 |bA hp h1 h2=>show cw (.pD hp ((ev h1 h).mono fun ov σ1 q=>?_)) (fun U U=>rfl);obtain⟨v,dA,hm,q⟩:=q;show nH v dA hm (.mono (jK Fv (Bool.and_eq_true_iff.mp (Bool.and_eq_true_iff.mp (Bool.and_eq_true_iff.mp hp).1).1).1 h2 q) fun rs σ2 q=>q.get)
 |attr hp h1=>show cw (.mB hp ((ev h1 h).mono fun ov σ1 q=>q.casesOn fun r ha q=>⟨r,ha,q⟩)) (fun U U=>rfl)
 |item hp h1 h2=>show cw (Rc.item hp ((ev h1 h).mono fun v σ1 q=>(ev h2 q).mono fun u σ2 q=>ye q)) (fun U U=>rfl)
 |slice h1 h2 h3=>show cw (.slice ((ev h1 h).mono fun v σ1 q=>pk.mono (uA Fv h2 q) fun i σ2 q=>pk.mono (uA Fv h3 q) fun j σ3 q=>vQ q)) (fun U U=>rfl)
 |tup hp h1=>
  induction tm using Bool.casesOn with
  |false=>show .Gq (.tup (.mono (jK Fv hp h1 h) fun rs σ1 q=>?_));show aA (qT q) fun hz q=>?_;show⟨Nat.le_of_ble_eq_true hz,q⟩
  |true=>show h.elim
 |lst hp h1=>
  induction tm using Bool.casesOn with
  |false=>show .Gq (.lst (.mono (jK Fv hp h1 h) fun rs σ1 q=>?_));show aA (qT q) fun hz q=>?_;show⟨Nat.le_of_ble_eq_true hz,q⟩
  |true=>show h.elim
 |eX q4 hp h1=>
  induction tm using Bool.casesOn with
  |false=>
   show .Gq (Rc.fromBytes hp (qQ G q4 ⟨rfl,(ev h1 h).mono fun v σ1 q=>?_⟩))
   cases v<;>first|show⟨_,rfl,q.ask,q.go⟩|show q.elim
  |true=>show h.elim
 |raw=>
  induction tm using Bool.casesOn with
  |false=>show .Gq h.get
  |true=>show h.elim
end
theorem fD{xs:List Str}{env:cT}(G:Gd B)(nd:xs.Nodup)(m:Nat):∀(n:Nat) (tm:Bool) (e:Expr) (a:IE) (σ:List LO) (P:kr),
  cC (K B.w.params) X.sc xs n e=some a→dV B X xs env m tm a σ P→mC B X (envOf xs env) σ tm e P:=by
 induction m with
 |zero=>show fun U U U U U U U h=>h.elim
 |succ m ih=>
  intro n tm e a σ P hc h
  cases n with
  |zero=>right
  |succ n=>show yj G nd (fun c q=>ih n _ _ _ _ _ c q) (sW hc) h
structure iD(B:Base)(env:aQ)(σ:List LO)(o:LV)(name:Str)(r:LV)(σ':List LO):Prop where
 run:∀(C:Cx),bC C→∀(ρ:Cells) (s:Shared) (E:VP) (Q:sF) (x v:Value),St B C ρ env σ s.heap→Rep s.heap ρ o x→Rep s.heap ρ r v→
  (∀s',Kept C ρ s ρ s'→St B C ρ env σ' s'.heap→Q () s')→wpAny B.M C.A (setAttr x name v) Q E s
def PV(xs:List Str)(P:eV):dO:=fun f ae σ'=>∃e,Sub (envOf xs e) ae∧P f e σ'
structure XE(B:Base)(X:Sx)(xs:List Str)(ir:List IS)(env:cT)(σ:List LO)(P:eV):Prop where
 run:∀n ast,aN (K B.w.params) X.sc xs n ast=some ir→dY B X (envOf xs env) σ ast (PV xs P)
def pE:cT→List Nat→List LV→(cT→Prop)→Prop
 |env,[],[],k=>k env
 |env,n::ns,v::vs,k=>lN env n v fun ae=>pE ae ns vs k
 |_,_,_,_=>False
def cx(B:Base)(X:Sx)(xs:List Str)(r:List IS)(P:eV):eV
 | .next,env,σ=>XE B X xs r env σ P
 |f,env,σ=>P f env σ
def WK:cT→List (Option LV)→Prop
 |[],[]=>True
 |none::r,_::r'=>WK r r'
 |some v::r,some w::r'=>v=w∧WK r r'
 |_,_=>False
def iE(J:cT→List LO→Prop)(P:eV):eV
 | .next,env,σ=>∃e0,J e0 σ∧WK e0 env
 |f,env,σ=>P f env σ
def qU(Jn:cT→List LO→Prop)(Pb:cT→List LO→Prop)(P:eV):eV
 | .next,env,σ=>∃e0,Jn e0 σ∧WK e0 env
 | .cont,env,σ=>∃e0,Jn e0 σ∧WK e0 env
 | .brk,env,σ=>Pb env σ
 | .ret r,env,σ=>P (.ret r) env σ
structure Cz(A B:Prop):Prop where
 Gr:A
 rest:B
def nextK(g:cT→List LO→Prop)(σ:List LO):cT→Prop:=fun env=>g env σ
def Fm(B:Base)(X:Sx)(xs:List Str)(ir:List IS)(P:eV):cT→List LO→Prop:=fun env σ=>XE B X xs ir env σ P
def Gs(J:Nat→List (Option LV)→List LO→Prop)(n:Nat):cT→List LO→Prop:=fun e σ=>∃n',n'<n∧J n' e σ
def Dz(B:Base)(X:Sx)(xs:List Str)(b:List IS)(P1:eV)(o:List IS)(P2:eV)(env:cT):KV:=fun c σ=>sV c (XE B X xs b env σ P1) (XE B X xs o env σ P2)
inductive Bf(B:Base)(X:Sx)(xs:List Str)(P:eV)(k:Nat)(b r:List IS)(env:cT)(σ:List LO)(id:Nat):Prop
 |mk (hn:X.hn=true) (ls:List LV) (J:Nat→List (Option LV)→List LO→Prop) (h0:∃e0,J 0 e0 σ∧WK e0 env) (jg:∀i e σ,J i e σ→σ[id]? =some (.list ls))(step:∀(i:Nat) v e σ,ls[i]? =some v→J i e σ→lN e k v (nextK (Fm B X.calm xs b (qU (J (i+1)) (Fm B X xs r P) P)) σ)) (fin:∀e σ (i:Nat),ls.length≤i→J i e σ→XE B X xs r e σ P):Bf B X xs P k b r env σ id
inductive DA(B:Base)(X:Sx)(xs:List Str)(P:eV)(k:Nat)(b r:List IS)(env:cT)(σ:List LO)(lo hi st:Int):Prop
 |mk (hn:X.hn=true) (sm:Builtin.Range.small lo hi st=true) (J:Nat→List (Option LV)→List LO→Prop) (h0:∃e0,J 0 e0 σ∧WK e0 env)(step:∀(i:Nat) e σ,(i:Int)<Builtin.Range.rangeSize lo hi st→J i e σ→lN e k (.int (lo+i*st)) (nextK (Fm B X.calm xs b (qU (J (i+1)) (Fm B X xs r P) P)) σ))(fin:∀e σ (i:Nat),Builtin.Range.rangeSize lo hi st≤i→J i e σ→XE B X xs r e σ P):DA B X xs P k b r env σ lo hi st
inductive sX(B:Base)(X:Sx)(xs:List Str)(m:Nat)(P:eV)(t:IE)(b r:List IS)(env:cT)(σ:List LO):Prop
 |mk (ht:X.top=true) (N:Nat) (J:Nat→List (Option LV)→List LO→Prop) (h0:∃e0,J N e0 σ∧WK e0 env)(step:∀n e σ,J n e σ→dV B X xs e m true t σ (Dz B X xs b (qU (Gs J n) (Fm B X xs r P) P) r P e)):sX B X xs m P t b r env σ
inductive dW(B:Base)(env:aQ)(σ:List LO)(o:LV)(name:Str)(r:LV)(k:List LO→Prop):Prop
 |mk (σ':List LO) (h:iD B env σ o name r σ') (q:k σ'):dW B env σ o name r k
set_option genCtorIdx true in
inductive Hint where
 |go
 |join (J:cT→List LO→Prop)
 |val (v:LV)
def Gu(g:cT→List LO→Prop)(env:cT)(k:Nat):KV:=fun v σ=>lN env k v (nextK g σ)
def Nq(v0:LV)(σ0:List LO):KV:=fun v σ=>v=v0∧σ=σ0
def Gv(g:cT→List LO→Prop)(env:cT)(ks:List Nat):KV:=fun v σ=>match v with
 | .tup l=>pE env ks l (nextK g σ)
 |_=>False
def JF(P:eV)(env:cT):KV:=fun v σ=>P (.ret v) env σ
def Gw(g:cT→List LO→Prop)(env:cT)(k:Nat)(i:Int):KV:=fun v σ=>match v with
 | .int j=>lN env k (.int (i+j)) (nextK g σ)
 |_=>False
def JG(ev:IE→List LO→KV→Prop)(e:IE)(g:cT→List LO→Prop)(env:cT)(k:Nat)(σ:List LO):LV→Prop:=fun u=>match u with
 | .int i=>ev e σ (Gw g env k i)
 |_=>False
def Gx(g:cT→List LO→Prop)(env:cT):KV:=fun v σ=>match v with
 | .none=>g env σ
 |_=>False
def DB(B:Base)(xs:List Str)(g:cT→List LO→Prop)(env:cT)(x:Str)(v:LV):KV:=fun ov σ=>dW B (envOf xs env) σ ov x v (g env)
def Gy(B:Base)(xs:List Str)(ev:IE→List LO→KV→Prop)(o:IE)(g:cT→List LO→Prop)(env:cT)(x:Str):KV:=fun v σ=>ev o σ (DB B xs g env x v)
def JH(B:Base)(X:Sx)(xs:List Str)(P:eV)(k:Nat)(b r:List IS)(env:cT):KV:=fun v σ=>match v with
 | .obj id=>Bf B X xs P k b r env σ id
 | .lZ lo hi st=>DA B X xs P k b r env σ lo hi st
 |_=>False
def lO(B:Base)(X:Sx)(xs:List Str)(m:Nat)(jo:Hint)(P:eV):List IS→List (Option LV)→List LO→Prop
 |[],env,σ=>P .next env σ
 |i::r,env,σ=>match i with
  | .assign k e=>(match jo with
   | .val v0=>Cz (dV B X xs env m false e σ (Nq v0 σ)) (lN env k v0 (nextK (Fm B X xs r P) σ))
   |jo=>dV B X xs env m false e σ (Gu (lO B X xs m jo P r) env k))
  | .unpack ks e=>aY (X.hn=true) (dV B X xs env m false e σ (Gv (lO B X xs m jo P r) env ks))
  | .ret e=>dV B X xs env m false e σ (JF P env)
  | .aug k e=>xZ env k (JG (dV B X xs env m false) e (lO B X xs m jo P r) env k σ)
  | .expr e=>dV B X xs env m false e σ (Gx (lO B X xs m jo P r) env)
  | .dw o x e=>dV B X xs env m false e σ (Gy B xs (dV B X xs env m false) o (lO B X xs m jo P r) env x)
  | .brk=>P .brk env σ
  | .pass=>lO B X xs m jo P r env σ
  | .ite t b o=>(match jo with
   | .join J=>Cz (dV B X xs env m true t σ (Dz B X xs b (iE J P) o (iE J P) env)) (∀e σ,J e σ→XE B X xs r e σ P)
   |_=>dV B X xs env m true t σ (Dz B X xs b (cx B X xs r P) o (cx B X xs r P) env))
  | .mr k e b=>dV B X xs env m false e σ (JH B X xs P k b r env)
  | .gJ t b=>sX B X xs m P t b r env σ
  | .raw s=>af (eD B X (envOf xs env) σ s (PV xs (cx B X xs r P)))
theorem WK.at:∀{e0 e:cT} {i:Nat} {w:LV},WK e0 e→e0[i]? =some (some w)→e[i]? =some (some w)
 |[],_,_,_,_,q=>fK q
 |a::r,[],_,_,h,_=>by cases a<;>show h.elim
 |none::r,b::r',0,_,_,q=>nomatch q
 |none::r,b::r',i+1,w,h,q=>WK.at (e0:=r) (e:=r') h q
 |some v::r,none::r',_,_,h,_=>h.elim
 |some v::r,some u::r',0,w,h,q=>h.1▸q
 |some v::r,some u::r',i+1,w,h,q=>WK.at (e0:=r) (e:=r') h.2 q
theorem WK.sub{xs:List Str}(nd:xs.Nodup)(h:WK e0 e):Sub (envOf xs e0) (envOf xs e):=fun z w q=>(mu q).elim fun i p=>mw nd p.1 (h.at p.2)
theorem eD.sY{P:dO}(ht:X.top=true)(N:Nat)(J:sG)(h0:∃e0,J N e0 σ0∧Sub e0 dx)(step:∀n e σ,J n e σ→gv B X e σ test fun c σ1=>(c=true→dY B X e σ1 body fun f ae σ'=>match f with
    | .next=>∃n' e',n'<n∧J n' e' σ'∧Sub e' ae
    | .cont=>∃n' e',n'<n∧J n' e' σ'∧Sub e' ae
    | .brk=>P .next ae σ'
    | .ret v=>P (.ret v) ae σ')∧(c=false→P .next e σ1)):eD B X dx σ0 (.While test body [] pos) P:=fun C O hX ρ s E Q S qe q=>by
 show wpAny_While (codeAny_whileLoop (fun n s1=>∃e σ ρ1,J n e σ∧Kept C ρ s ρ1 s1∧St B C ρ1 e σ s1.heap) ?_ N ?_)
 ·rintro n s1 zq;show gy zq fun e σ ρ1 hJ K1 S1=>?_
  have exc:∀{ρ2:Cells} {s2:Shared},Kept C ρ s ρ2 s2→Exc B X C ρ2 s2 (notedBy B.M C.A C.env fun e s'=>cameBackBy B.M C.A C.env E e s'):=fun K2 ev x ae σ' ρ' s' r K' S' X'=>
   fO O hX ht O.frames S qe r (K2.trans K') S' (X'.since K2.alive)
  show step n e σ hJ C O hX ρ1 s1 _ _ S1 (exc K1) fun c σ2 ρ2 s2 h2 K2 S2=>?_;have Ad:=K1.trans K2
  induction c using Bool.casesOn with
  |false=>show wpAny_execs_nil (q _ .next _ _ _ _ (h2.2 rfl) Ad S2 rfl)
  |true=>
   show h2.1 rfl C O hX ρ2 s2 _ _ S2 (exc Ad) fun f fv ae σ' ρ' s' p' K' S' R'=>?_;have KK:=Ad.trans K'
   induction fv using FV.casesOn with
   |next=>obtain rfl:=R';show bb p' fun n' e' lt j k=>?_;show⟨n',lt,e',σ',ρ',j,KK,S'.weak k⟩
   |cont=>obtain rfl:=R';show bb p' fun n' e' lt j k=>?_;show⟨n',lt,e',σ',ρ',j,KK,S'.weak k⟩
   |brk=>obtain rfl:=R';show q _ .next _ _ _ _ p' KK S' rfl
   |ret v=>(show aa R' ?_;rintro u rfl ru);show q _ (.ret v) _ _ _ _ p' KK S' ⟨u,rfl,ru⟩
 ·show aa h0 fun e0 j k=>?_;show AD e0 σ0 ρ j (.rr rfl rfl rfl) (S.weak k)
section
variable{xs:List Str}{env:cT}{P:eV}
theorem ia{sc:Scope}(h:gK sc x=true):sc.names.lookup x=some .local∨sc.names.lookup x=some .cell:=by
 have h:(match sc.names.lookup x with|some .local=>true|some .cell=>true|_=>false)=true:=h
 cases q:sc.names.lookup x with
 |none=>replace h:=q▸h;show absurd h Bool.false_ne_true
 |some k=>replace h:=q▸h;induction k using NameKind.casesOn<;>first|show .inl rfl|show .inr rfl|show absurd h Bool.false_ne_true
theorem eY{v:Expr}(h:fc v=true)(t:Option Expr)(l:Nat)(env:Env):swapsWith v t l env=pure false:=by
 cases v<;>first|rfl|right
theorem qV{v:Expr}(h:sT v=true)(es:List Expr)(k:Nat)(p:Pos)(env:Env):swappedStores [.Tuple es k p] v env=pure none:=by
 cases v<;>first|rfl|right
theorem qW{v:Expr}(h:ux v=true)(env:Env)(x:Value):foldedSetIterable v env x=pure x:=by
 cases v<;>first|rfl|right
theorem PV.of(h:P f ae σ'):PV xs P f (envOf xs ae) σ':=⟨ae,Sub.refl _,h⟩
theorem lb{ys:List Str}:∀{vs:List LV} {e1 e2:aQ},Sub e1 e2→Sub (putAll ys vs e1) (putAll ys vs e2):=by
 induction ys with
 |nil=>intro vs _ _ k;cases vs<;>show k
 |cons y ys ih=>
  intro vs e1 e2 k
  cases vs with
  |nil=>show k
  |cons v vs=>
   show(?_:Sub (putAll ys vs (put y v e1)) (putAll ys vs (put y v e2)));show ih fun z w q=>?_;rw[aE]at q⊢
   split
   ·rename_i c;replace q:=aJ c▸q;show q
   ·rename_i c;replace q:=ax c▸q;show k z w q
theorem pF(nd:xs.Nodup):∀{ks:List Nat},slotsOf X.sc xs es=some ks→
  ∃qs,es=AH qs∧(∀y∈qs.map (·.1),X.sc.names.lookup y=some .local∨X.sc.names.lookup y=some .cell)∧
   ∀vs env Kf,pE env ks vs Kf→vs.length=qs.length∧∃ae,Kf ae∧Sub (envOf xs ae) (putAll (qs.map (·.1)) vs (envOf xs env)):=by
 induction es with
 |nil=>
  intro ks hc
  injection hc with z;subst z
  show oX ([]) rfl (fun y m=>(by right)) (fun vs env Kf h=>?_)
  induction vs using List.casesOn with
  |nil=>show⟨rfl,env,h,Sub.refl _⟩
  |cons=>show h.elim
 |cons e r ih=>
  intro ks hc;show hide fun H_ o_=>?_;show bb (gm hc) ?_;rintro k l hk hl rfl;show aa (iO hk) fun q hq hk=>?_;show aA (bf hk) fun hv hk=>?_;show bJ (ih hl) fun qs e1 e2 e3=>?_;show o_ ?_;clear o_ H_;show oX (q::qs) (by(erw[eu hq,e1]);rfl) (fun y m=>(mem_cons.mp m).elim (fun z=>z▸ia hv) (e2 y)) (fun vs env Kf h=>?_)
  induction vs using List.casesOn with
  |nil=>show h.elim
  |cons v vs=>show hide fun H_ o_=>?_;show aa (jH (v:=v) nd (slot0 hk) h) fun kT h1 s1=>?_;show aA (e3 vs kT Kf h1) fun l1 hZ=>?_;show aa hZ fun c7 q2 s2=>?_;show o_ ?_;clear o_ H_;show⟨congrArg (· +1) l1,c7,q2,fun z w q=>lb s1 z w (s2 z w q)⟩
theorem eD.setAttr {P:dO} {env:aQ} {o value:Expr} {x:Str} {p pos:Pos} (h:aS B X env σ value fun v σ1=>aS B X env σ1 o fun ov σ2=>∃σ3,iD B env σ2 ov x v σ3∧P .next env σ3)(hs:∀ae,swapsWith value (some (.Attribute o x p)) pos.line ae=pure false):eD B X env σ (.Assign [.Attribute o x p] value pos) P:=fun C O hX ρ s E Q S qe q=>by
 show plainObj_wpAny_Assign_Attribute (h C O hX ρ s E _ S qe fun v σ1 u ρ1 s1 h1 K1 S1 R1=>h1 C O hX ρ1 s1 E _ S1 (qe.since K1) fun ov σ2 uo ρ2 s2 h2 K2 S2 R2=>?_) (hs _)
 show aa h2 ?_;clear h2;rintro σ3 ue p
 show ue.run C O ρ2 s2 E _ uo u S2 R2 (K2.rep S1 R1) fun s3 K3 S3=>q _ .next _ _ _ _ p ((K1.trans K2).trans K3) S3 rfl
theorem eD.pass {P:dO} {env:aQ} {pos:Pos} (h:P .next env σ):eD B X env σ (.Pass pos) P:=fun C O hX ρ s E Q S qe q=>wpAny_Pass (q _ .next _ _ ρ s h (.rr rfl rfl rfl) S rfl)
theorem qX{n:Nat}(hr:aN (K B.w.params) X.sc xs n rest=some r)(hb:aN (K B.w.params) X.sc xs n b=some ib)(h:XE B X xs ib env σ1 (cx B X xs r P)):dY B X (envOf xs env) σ1 b (xE B X rest (PV xs P)):=(h.run n b hb).mono fun f e s p=>by
 show aa p fun e' k p=>?_
 induction f using FV.casesOn with
 |next=>show dY.weak k (p.run n rest hr)
 |brk=>show⟨e',k,p⟩
 |cont=>show⟨e',k,p⟩
 |ret v=>show⟨e',k,p⟩
theorem qY(nd:xs.Nodup){J:cT→List LO→Prop}{n:Nat}(hb:aN (K B.w.params) X.sc xs n b=some ib)(h:XE B X xs ib env σ1 (iE J P)):dY B X (envOf xs env) σ1 b (xS (fun e σ=>∃ie,e=envOf xs ie∧J ie σ) (PV xs P)):=(h.run n b hb).mono fun f e s p=>by
 show aa p fun e' k p=>?_
 induction f using FV.casesOn with
 |next=>show aa p fun e0 j wk=>?_;show cM (envOf xs e0) ⟨e0,rfl,j⟩ (fun z w q=>k z w (wk.sub nd z w q))
 |brk=>show⟨e',k,p⟩
 |cont=>show⟨e',k,p⟩
 |ret v=>show⟨e',k,p⟩
theorem qZ(nd:xs.Nodup){Jn:cT→List LO→Prop}{Jv:aQ→List LO→Prop}(hJ:∀e σ,Jn e σ→Jv (envOf xs e) σ){n:Nat}(hr:aN (K B.w.params) X.sc xs n rest=some r){X':Sx}(hX:X'.sc=X.sc)(hb:aN (K B.w.params) X.sc xs n b=some ib)(h:XE B X' xs ib env σ1 (qU Jn (fun env σ=>XE B X xs r env σ P) P)):dY B X' (envOf xs env) σ1 b fun f ae σ'=>match f with
    | .next=>∃e0,Jv e0 σ'∧Sub e0 ae
    | .cont=>∃e0,Jv e0 σ'∧Sub e0 ae
    | .brk=>dY B X ae σ' rest (PV xs P)
    | .ret v=>PV xs P (.ret v) ae σ':=(h.run n b (by erw[hX];show hb)).mono fun f e s p=>by
 show aa p fun e' k p=>?_
 induction f using FV.casesOn with
 |next=>(show aa p fun e0 j wk=>?_);show⟨_,hJ e0 s j,fun z w q=>k z w (wk.sub nd z w q)⟩
 |cont=>(show aa p fun e0 j wk=>?_);show⟨_,hJ e0 s j,fun z w q=>k z w (wk.sub nd z w q)⟩
 |brk=>show dY.weak k (p.run n rest hr)
 |ret v=>show⟨e',k,p⟩
inductive fh(K:Frag)(sc:Scope)(xs:List Str)(f:Expr→Option IE)(g:List Stmt→Option (List IS)):Stmt→IS→Prop
 |assign {x p v pos k e} (hv:gK sc x=true) (hs:fc v=true) (hk:cu x xs 0=some k) (he:f v=some e):fh K sc xs f g (.Assign [.Name x p] v pos) (.assign k e)
 |unpack {es k p v pos ks e} (hs:fc v=true) (hp:sT v=true) (hk:slotsOf sc xs es=some ks) (he:f v=some e):fh K sc xs f g (.Assign [.Tuple es k p] v pos) (.unpack ks e)
 |dw {o' x p v pos o e} (hs:fc v=true) (ha:f o'=some o) (he:f v=some e):fh K sc xs f g (.Assign [.Attribute o' x p] v pos) (.dw o x e)
 |ret {v p e} (he:f v=some e):fh K sc xs f g (.Return (some v) p) (.ret e)
 |aug {x np v p k e} (hx:sc.names.lookup x=some .local) (hk:cu x xs 0=some k) (he:f v=some e):fh K sc xs f g (.AugAssign (.Name x np) .Add v p) (.aug k e)
 |expr {v p e} (hs:fc v=true) (he:f v=some e):fh K sc xs f g (.Expr v p) (.expr e)
 |brk {p}:fh K sc xs f g (.Break p) .brk
 |pass {p}:fh K sc xs f g (.Pass p) .pass
 |ite {t' b' o' p t b o} (h1:f t'=some t) (h2:g b'=some b) (h3:g o'=some o):fh K sc xs f g (.If t' b' o' p) (.ite t b o)
 |mr {x np it body p k e b} (hv:gK sc x=true) (hs:ux it=true) (hk:cu x xs 0=some k) (h1:f it=some e) (h2:g body=some b):fh K sc xs f g (.For (.Name x np) it body [] p) (.mr k e b)
 |gJ {t' b' p t b} (h1:f t'=some t) (h2:g b'=some b):fh K sc xs f g (.While t' b' [] p) (.gJ t b)
 |raw {s:_}:fh K sc xs f g s (.raw s)
end
section
variable{K:Frag}{sc:Scope}{xs:List Str}{f:Expr→Option IE}{g:List Stmt→Option (List IS)}{i:IS}
theorem sZ{v:Expr}(h:qN sc xs v (f v) f t=some i):fh K sc xs f g (.Assign [t] v pos) i:=by
 unfold qN at h
 cases hn:asName t with
 |some q=>replace h:=hn▸h;show aA (bf h) fun hp h=>?_;show bb (gm h) fun k e hk he ea=>?_;erw[eu hn];show ea▸.assign (Bool.and_eq_true_iff.mp hp).1 (Bool.and_eq_true_iff.mp hp).2 hk he
 |none=>
  replace h:=hn▸h
  cases ht:xM t with
  |some q=>replace h:=ht▸h;show aA (bf h) fun hp h=>?_;show bb (gm h) fun ks e hk he ea=>?_;erw[xN ht];show ea▸.unpack (Bool.and_eq_true_iff.mp hp).1 (Bool.and_eq_true_iff.mp hp).2 hk he
  |none=>replace h:=ht▸h;show aa (iO h) fun r hr h=>?_;show aA (bf h) fun hp h=>?_;show bb (gm h) fun a e ha he ea=>?_;erw[kG hr];show ea▸.dw (Bool.and_eq_true_iff.mp hp).2 ha he
theorem jM{s:Stmt}(h:some (IS.raw s)=some i):fh K sc xs f g s i:=Option.some.inj h▸.raw
theorem DC{v:Expr}(h:sU sc xs f g (.Assign ts v pos)=some i):fh K sc xs f g (.Assign ts v pos) i:=by
 induction ts using List.casesOn with
 |nil=>show fK h
 |cons t r=>
  induction r using List.casesOn with
  |cons=>show fK h
  |nil=>
   have h:(match qN sc xs v (f v) f t with
    |some a=>some a
    |none=>some (IS.raw (.Assign [t] v pos)))=some i:=h
   cases hA:qN sc xs v (f v) f t with
   |none=>replace h:=hA▸h;show jM h
   |some a=>replace h:=hA▸h;show sZ (hA.trans h)
theorem Bg{v:Expr}(h:pB sc xs f t op v p=some i):fh K sc xs f g (.AugAssign t op v p) i:=by
 unfold pB at h
 cases hn:asName t with
 |some q=>replace h:=hn▸h;show aA (bf h) fun hp h=>?_;show aA (Bool.and_eq_true_iff.mp hp) fun h1 h2=>?_;show bb (gm h) fun k e hk he ea=>?_;erw[eu hn,eB h2];show ea▸.aug (eB h1) hk he
 |none=>replace h:=hn▸h;show jM h
theorem Bh(h:pC sc xs f g t it body Aq p=some i):fh K sc xs f g (.For t it body Aq p) i:=by
 unfold pC at h
 cases hn:asName t with
 |some q=>replace h:=hn▸h;show aA (bf h) fun hp h=>?_;show aA (Bool.and_eq_true_iff.mp hp) fun hp KG=>?_;show iQ (uB h) fun k e b hk h1 h2 ea=>?_;erw[eu hn,isEmpty_iff.mp KG];show ea▸.mr (Bool.and_eq_true_iff.mp hp).1 (Bool.and_eq_true_iff.mp hp).2 hk h1 h2
 |none=>replace h:=hn▸h;show jM h
theorem s6{s:Stmt}(h:sU sc xs f g s=some i):fh K sc xs f g s i:=by
 induction s using Stmt.casesOn with
 |Assign ts v pos=>show DC h
 |Return v p=>
  induction v using Option.casesOn with
  |none=>show fK h
  |some v=>show aa (bind1 h) ?_;rintro e he rfl;show .ret he
 |AugAssign t op v p=>show Bg h
 |Expr v p=>show aA (bf h) fun hp h=>?_;show aa (bind1 h) ?_;rintro e he rfl;show .expr hp he
 |Break p=>show Option.some.inj h▸.brk
 |Pass p=>show Option.some.inj h▸.pass
 |If t b o p=>show iQ (uB h) ?_;rintro t' b' o' h1 h2 h3 rfl;show .ite h1 h2 h3
 |While t b Aq p=>show aA (bf h) fun hp h=>?_;show bb (gm h) ?_;rintro t' b' h1 h2 rfl;obtain rfl:=isEmpty_iff.mp hp;show .gJ h1 h2
 |For t it body Aq p=>show Bh h
 |_=>show jM h
theorem s7{n:Nat}(h:aN K sc xs n ast=some (i::ir)):∃n' s rest,n=n'+1∧ast=s::rest∧fh K sc xs (cC K sc xs n') (aN K sc xs n') s i∧aN K sc xs n' rest=some ir:=by
 induction n using Nat.casesAuxOn with
 |zero=>show fK h
 |succ n=>
  induction ast using List.casesOn with
  |nil=>show nomatch (show some ([]:List IS)=some (i::ir) from h)
  |cons s rest=>show bb (gm h) fun a r ha hr e=>?_;show aA (List.cons.inj e) ?_;rintro rfl rfl;show FP n s rest rfl rfl (s6 ha) hr
end
section
variable{xs:List Str}{env:cT}{P:eV}{n m:Nat}{jo:Hint}{rest:List Stmt}{ir:List IS}
theorem An(G:Gd B)(nd:xs.Nodup){a:IE}{Q:kr}(c:cC (K B.w.params) X.sc xs n e=some a)(q:dV B X xs env m false a σ Q):aS B X (envOf xs env) σ e Q:=(fD G nd m n false _ _ _ _ c q).1 rfl
theorem JI(G:Gd B)(nd:xs.Nodup){a:IE}{Q:kr}(c:cC (K B.w.params) X.sc xs n e=some a)(q:dV B X xs env m true a σ Q):gv B X (envOf xs env) σ e fun b σ1=>Q (.bool b) σ1:=(fD G nd m n true _ _ _ _ c q).2 rfl
def JJ(B:Base)(X:Sx)(xs:List Str)(m:Nat)(jo:Hint)(P:eV)(ir:List IS):Prop:=∀{env:cT} {σ:List LO},lO B X xs m jo P ir env σ→XE B X xs ir env σ P
theorem s8(nd:xs.Nodup)(ih:JJ B X xs m jo P ir)(hr:aN (K B.w.params) X.sc xs n rest=some ir){k:Nat}{v:LV}(hk:cu x xs 0=some k)(q:lN env k v fun ae=>lO B X xs m jo P ir ae σ):dY B X (put x v (envOf xs env)) σ rest (PV xs P):=by show aa (jH nd (slot0 hk) q) fun kT q1 s1=>?_;show .weak s1 ((ih q1).run n rest hr)
theorem vT(G:Gd B)(nd:xs.Nodup)(ih:JJ B X xs m jo P ir)(hr:aN (K B.w.params) X.sc xs n rest=some ir){k:Nat}{v:Expr}(hv:gK X.sc x=true)(hs:fc v=true)(hk:cu x xs 0=some k)(he:cC (K B.w.params) X.sc xs n v=some e)(h:lO B X xs m jo P (.assign k e::ir) env σ):dY B X (envOf xs env) σ (.Assign [.Name x p] v pos::rest) (PV xs P):=by
 show .cons (.assign (ia hv) ?_ fun ae=>eY hs _ _ _)
 induction jo using Hint.casesOn with
 |val v0=>show(An G nd he h.Gr).mono fun v σ1 q=>?_;show aA q ?_;rintro rfl rfl;show aa (jH nd (slot0 hk) h.rest) fun kT q1 s1=>?_;show .weak s1 (q1.run n rest hr)
 |go=>show(An G nd he h).mono fun v σ1 q=>s8 nd ih hr hk q
 |join J=>show(An G nd he h).mono fun v σ1 q=>s8 nd ih hr hk q
theorem CA(G:Gd B)(nd:xs.Nodup)(hr:aN (K B.w.params) X.sc xs n rest=some ir)(h1:cC (K B.w.params) X.sc xs n t=some t')(h2:aN (K B.w.params) X.sc xs n b=some b')(h3:aN (K B.w.params) X.sc xs n o=some o')(h:dV B X xs env m true t' σ fun c σ1=>sV c (XE B X xs b' env σ1 (cx B X xs ir P)) (XE B X xs o' env σ1 (cx B X xs ir P))):dY B X (envOf xs env) σ (.If t b o p::rest) (PV xs P):=by
 show .cons (.ite (.jJ (JI G nd h1 h) fun c σ1 q=>?_));show bJ q.out fun c' e q1 q2=>?_
 injection e with z;subst z
 show⟨fun z=>qX hr h2 (q1 z),fun z=>qX hr h3 (q2 z)⟩
theorem yk(G:Gd B)(nd:xs.Nodup)(hr:aN (K B.w.params) X.sc xs n rest=some ir)(h1:cC (K B.w.params) X.sc xs n t=some t')(h2:aN (K B.w.params) X.sc xs n b=some b')(h:sX B X xs m P t' b' ir env σ):dY B X (envOf xs env) σ (.While t b [] p::rest) (PV xs P):=by
 obtain⟨ht,N,J,⟨e0,j0,wk⟩,step⟩:=h;show .cons (.sY ht N (fun n e σ=>∃ie,e=envOf xs ie∧J n ie σ) ⟨_,⟨e0,rfl,j0⟩,wk.sub nd⟩ ?_);rintro n' e σ' zq;show aa zq ?_;rintro ie rfl j;show .jJ (JI G nd h1 (step n' ie σ' j)) fun c σ1 q=>?_;show hide fun H_ o_=>?_;show bJ q.out fun c' e q1 q2=>?_
 injection e with z;subst z
 show o_ ?_;clear o_ H_;show⟨fun z=>(qZ nd (Jv:=fun e σ=>∃CS,CS<n'∧∃ie,e=envOf xs ie∧J CS ie σ) (fun e σ jj=>?_) hr rfl h2 (q1 z)).mono fun f e s p=>?_,fun z=>(q2 z).run n rest hr⟩
 ·show aa jj fun CS lt jj=>?_;show⟨CS,lt,e,rfl,jj⟩
 ·induction f using FV.casesOn with
  |next=>(show aa p ?_;rintro e0 ⟨CS,lt,ie,e1,jj⟩ k);show⟨CS,e0,lt,⟨ie,e1,jj⟩,k⟩
  |cont=>(show aa p ?_;rintro e0 ⟨CS,lt,ie,e1,jj⟩ k);show⟨CS,e0,lt,⟨ie,e1,jj⟩,k⟩
  |brk=>show p
  |ret v=>show p
theorem uD(nd:xs.Nodup)(hr:aN (K B.w.params) X.sc xs n rest=some ir)(h2:aN (K B.w.params) X.sc xs n body=some b'){k:Nat}(hk:cu x xs 0=some k){J:Nat→List (Option LV)→List LO→Prop}{i:Nat}{v:LV}(q:lN env k v fun e'=>XE B X.calm xs b' e' σ (qU (J (i+1)) (fun env σ=>XE B X xs ir env σ P) P)):dY B X.calm (put x v (envOf xs env)) σ body (xQ (fun i e σ=>∃ie,e=envOf xs ie∧J i ie σ) i (xE B X rest (PV xs P))):=by show aa (jH nd (slot0 hk) q) fun kT q1 s1=>?_;show .weak s1 ((qZ (X':=X.calm) nd (Jv:=fun e σ=>∃ie,e=envOf xs ie∧J (i+1) ie σ) (fun e σ jj=>⟨e,rfl,jj⟩) hr rfl h2 q1).mono fun f e s p=>?_);cases f<;>show p
theorem DD(G:Gd B)(nd:xs.Nodup)(hr:aN (K B.w.params) X.sc xs n rest=some ir){k:Nat}(hv:gK X.sc x=true)(hs:ux it=true)(hk:cu x xs 0=some k)(h1:cC (K B.w.params) X.sc xs n it=some e')(h2:aN (K B.w.params) X.sc xs n body=some b')(h:lO B X xs m jo P (.mr k e' b'::ir) env σ):dY B X (envOf xs env) σ (.For (.Name x np) it body [] p::rest) (PV xs P):=by
 have hP:∀(e e':aQ) σ',Sub e e'→xE B X rest (PV xs P) .next e σ'→xE B X rest (PV xs P) .next e' σ':=fun e e' σ' k q=>dY.weak k q;show .cons (.Jq ((An G nd h1 h).mono fun v σ1 q=>?_) fun ae v=>qW hs _ _)
 induction v using LV.casesOn with
 |obj id=>
  obtain⟨hn,ls,J,⟨e0,j0,wk⟩,jg,step,fin⟩:=q;show .FZ hn (ia hv) hP (ls:=ls) (fun i e σ=>∃ie,e=envOf xs ie∧J i ie σ) ⟨_,⟨e0,rfl,j0⟩,wk.sub nd⟩ ?_ ?_ ?_
  ·rintro i e σ ⟨ie,rfl,j⟩;show jg i ie σ j
  ·rintro i v e σ hi ⟨ie,rfl,j⟩;show uD nd hr h2 hk (step i v ie σ hi j)
  ·rintro e σ i hi ⟨ie,rfl,j⟩;show(fin ie σ i hi j).run n rest hr
 |lZ a b c=>
  obtain⟨hn,sm,J,⟨e0,j0,wk⟩,step,fin⟩:=q;show .Jt hn (ia hv) hP sm (fun i e σ=>∃ie,e=envOf xs ie∧J i ie σ) ⟨_,⟨e0,rfl,j0⟩,wk.sub nd⟩ ?_ ?_
  ·rintro i e σ hi ⟨ie,rfl,j⟩;show uD nd hr h2 hk (step i ie σ hi j)
  ·rintro e σ i hi ⟨ie,rfl,j⟩;show(fin ie σ i hi j).run n rest hr
 |_=>show q.elim
theorem XE.step(G:Gd B)(nd:xs.Nodup)(ih:JJ B X xs m jo P ir){s:Stmt}(inv:fh (K B.w.params) X.sc xs (cC (K B.w.params) X.sc xs n) (aN (K B.w.params) X.sc xs n) s i)(hr:aN (K B.w.params) X.sc xs n rest=some ir)(h:lO B X xs m jo P (i::ir) env σ):dY B X (envOf xs env) σ (s::rest) (PV xs P):=by
 induction inv using fh.casesOn with
 |assign hv hs hk he=>show vT G nd ih hr hv hs hk he h
 |unpack hs hp hk he=>
  show bJ (pF nd hk) ?_;rintro qs rfl y2 y3;show .cons (.unpack h.ask y2 ((An G nd he h.go).mono fun v σ1 q=>?_) (fun ae=>by unfold swapsWithSole;show eY hs _ _ _) (fun ae=>qV hp _ _ _ _))
  induction v using LV.casesOn with
  |tup l=>show aA (y3 l _ _ q) fun l1 hZ=>?_;show aa hZ fun kT q1 s1=>?_;show oX l rfl l1 (.weak s1 ((ih q1).run n rest hr))
  |_=>show q.elim
 |dw hs ha he=>show .cons (eD.setAttr ((An G nd he h).mono fun v σ1 q=>(An G nd ha q).mono fun ov σ2 q=>?_) fun ae=>eY hs _ _ _);obtain⟨σ3,hs,q⟩:=q;show cM σ3 hs ((ih q).run n rest hr)
 |ret he=>show .cons (.ret ((An G nd he h).mono fun v σ1 q=>PV.of q))
 |aug hx hk he=>
  show aa (la nd (slot0 hk) h) fun u hu q=>?_
  induction u using LV.casesOn with
  |int i=>
   show .cons (.Dk hu hx ((An G nd he q).mono fun v σ1 q=>?_))
   induction v using LV.casesOn with
   |int j=>show⟨j,rfl,s8 nd ih hr hk q⟩
   |_=>show q.elim
  |_=>show q.elim
 |expr hs he=>
  show .cons (.expr ((An G nd he h).mono fun v σ1 q=>?_) (fun U=>rfl) fun ae=>eY hs _ _ _)
  induction v using LV.casesOn with
  |none=>show⟨rfl,(ih q).run n rest hr⟩
  |_=>show q.elim
 |brk=>show .cons (.brk (PV.of h))
 |pass=>show .cons (.pass ((ih h).run n rest hr))
 |ite h1 h2 h3=>
  induction jo using Hint.casesOn with
  |go=>show CA G nd hr h1 h2 h3 h
  |val v=>show CA G nd hr h1 h2 h3 h
  |join J=>
   show .join (fun e σ=>∃ie,e=envOf xs ie∧J ie σ) (.ite (.jJ (JI G nd h1 h.Gr) fun c σ1 q=>?_)) ?_
   ·show hide fun H_ o_=>?_;show bJ q.out fun c' e q1 q2=>?_
    injection e with z;subst z
    show o_ ?_;clear o_ H_;show⟨fun z=>qY nd h2 (q1 z),fun z=>qY nd h3 (q2 z)⟩
   ·rintro e0 σ' zq;show aa zq ?_;rintro ie rfl j;show(h.rest ie σ' j).run n rest hr
 |mr hv hs hk h1 h2=>show DD G nd hr hv hs hk h1 h2 h
 |gJ h1 h2=>show yk G nd hr h1 h2 h
 |raw=>
  show .cons (h.get.mono fun f ae σ' p=>?_);show aa p fun e k p=>?_
  induction f using FV.casesOn with
  |next=>show dY.weak k (p.run n rest hr)
  |brk=>show⟨e,k,p⟩
  |cont=>show⟨e,k,p⟩
  |ret v=>show⟨e,k,p⟩
theorem XE.of(G:Gd B)(nd:xs.Nodup)(m:Nat)(jo:Hint){ir:List IS}:∀{env:cT} {σ:List LO},lO B X xs m jo P ir env σ→XE B X xs ir env σ P:=by
 induction ir with
 |nil=>show fun h=>⟨fun n ast hc=>by
  induction n using Nat.casesAuxOn with
  |zero=>right
  |succ n=>
   induction ast using List.casesOn with
   |nil=>show .nil (PV.of h)
   |cons s r=>
    show aa (iO hc) fun a U hc=>?_;show aa (iO hc) fun b U hc=>?_
    cases hc⟩
 |cons i ir ih=>show fun h=>⟨fun n ast hc=>by
  show iQ (s7 hc) ?_;rintro n' s rest rfl rfl inv hr
  show XE.step G nd (fun q=>ih q) inv hr h⟩
end
theorem aM.fnX(G:Gd B){fd:FuncData}{ps:List Str}{as:List LV}{n:Nat}(F:cm B a fd body ps)(hd:X.d≤300)(hl:as.length=ps.length)(hc:aN (K B.w.params) fd.scope xs n body=some ir)(he:envOf xs e0=ps.zip as)(h:XE B (X.lL env fd) xs ir e0 σ fun f e σ'=>P (lK f) σ'):aM B X env σ as (fun vs=>PySem.call (.ref a) vs) P:=by show .fn G.toOk F hd hl ?_;show bD ?_ he;show(h.run n body hc).mono fun f e s p=>?_;show aa p fun e' k q=>?_;cases f<;>show q
noncomputable def JK:Expr→List Expr
 | .BoolOp _ l _=>l
 | .BinOp l _ r _=>[l,r]
 | .UnaryOp _ x _=>[x]
 | .IfExp t b o _=>[t,b,o]
 | .Call f as _ _=>f::as
 | .Subscript v s _=>[v,s]
 | .Slice lo hi _ _=>lo.toList++hi.toList
 | .Compare l _ r _=>l::r
 | .Tuple l _ _=>l
 | .List l _=>l
 | .Attribute v _ _=>[v]
 |_=>[]
noncomputable def JL:Stmt→List Expr
 | .Assign _ v _=>[v]
 | .Return v _=>v.toList
 | .Expr v _=>[v]
 | .If t _ _ _=>[t]
 | .For _ it _ _ _=>[it]
 | .While t _ _ _=>[t]
 | .AugAssign _ _ v _=>[v]
 |_=>[]
noncomputable def ym:Stmt→List Stmt
 | .FunctionDef _ _ b _ _ _ _ _ _ _=>b
 | .If _ b o _=>b++o
 | .For _ _ b _ _=>b
 | .While _ b _ _=>b
 |_=>[]
noncomputable def cW(s:Stmt):List Nat→Stmt
 |[]=>s
 |i::r=>cW ((ym s)[i]?.getD (.Pass default)) r
def Gz(e:Expr):List Nat→Expr
 |[]=>e
 |i::r=>Gz ((JK e)[i]?.getD e) r
def jN(s:Stmt)(p:List Nat)(i:Nat)(q:List Nat):Expr:=match(JL (cW s p))[i]? with
 |some e=>Gz e q
 |none=>.Constant .none 0 default
def GA:List Str:=[]
def JM:List IS:=[.ret (.raw (jN (aB 35) [0] 0 []))]
theorem JN(P:Params):aN (K P) (ai (aB 35)) GA 60 (aH (aB 35))=some JM:=by left
def GB:List Str:=[oS "row",oS "kind",oS "flags",oS "stream",oS "body"]
def JO:List IS:=[.unpack [1,2,3,4] (.v9 0),
 (.ret (.ad (.ad (.ad (.bA (oS "to_bytes") (.c (.builtin "len") [(.v9 4)]) [.li 3,.lit (.str (oS "big"))]) (.c (.type "bytes") [.lst [(.v9 1),(.v9 2)]])) (.bA (oS "to_bytes") (.v9 3) [.li 4,.lit (.str (oS "big"))])) (.v9 4)))]
theorem JP(P:Params):aN (K P) (ai (aB 37)) GB 60 (aH (aB 37))=some JO:=by left
def GC:List Str:=[oS "part",oS "flags",oS "body",oS "way",oS "more"]
def JQ:List IS:=[.ite (.cmp .NotEq (.md (.v9 0) (.li 3)) (.li 0)) [.ret (.tup [(.v9 1),(.v9 2)])] [],
 (.a9 3 (.md (.bin .FloorDiv (.v9 0) (.li 3)) (.li 5))),
 (.a9 4 (.bin .FloorDiv (.v9 0) (.li 15))),
 (.ite (.q (.v9 3) (.li 3)) [.ret (.tup [.ad (.v9 1) (.li 8),.ad (.c (.type "bytes") [.lst [.ad (.ad (.c (.builtin "len") [(.v9 2)]) (.li 1)) (.bin .Mult (.md (.v9 4) (.li 2)) (.li 200))]]) (.v9 2)])] []),
 (.ite (.q (.v9 3) (.li 4)) [.ret (.tup [.ad (.v9 1) (.li 8),.ite (.q (.md (.v9 4) (.li 2)) (.li 0)) (.lit (.bytes [])) (.ad (.c (.type "bytes") [.lst [.c (.builtin "len") [(.v9 2)]]]) (.v9 2))])] []),
 (.ret (.tup [.ad (.v9 1) (.li 8),.ad (.ad (.c (.type "bytes") [.lst [.md (.v9 4) (.li 4)]]) (.v9 2)) (.c (.type "bytes") [.md (.v9 4) (.li 4)])]))]
theorem JR(P:Params):aN (K P) (ai (aB 38)) GC 60 (aH (aB 38))=some JQ:=by left
def GD:List Str:=[oS "count",oS "stream",oS "rows",oS "i"]
def JS:List IS:=[(.a9 2 (.lst [.tup [.li 1,.li 0,(.v9 1),.lit (.bytes [104])]])),
 (.mr 3 (.c (.type "range") [(.v9 0)]) [.expr (.bA (oS "append") (.v9 2) [.tup [.li 9,.ite (.q (.v9 3) (.bin .Sub (.v9 0) (.li 1))) (.li 4) (.li 0),(.v9 1),.c (.type "bytes") [.lst [(.v9 3)]]]])]),
 (.ret (.v9 2))]
theorem JT(P:Params):aN (K P) (ai (aB 39)) GD 60 (aH (aB 39))=some JS:=by left
def bu:List Str:=[oS "numbers",oS "rows",oS "block",oS "many",oS "drawn",oS "deed",oS "part",oS "stream",oS "body",oS "end",oS "top",oS "other",oS "flags",oS "lead",oS "kind",oS "word",oS "known"]
def JU:List IS:=[(.a9 1 (.lst [])),
 (.a9 2 (.li 0)),
 (.a9 3 (.lit (.bool false))),
 (.mr 4 (.v9 0) [(.a9 5 (.md (.v9 4) (.li 12))),
 (.a9 6 (.bin .FloorDiv (.v9 4) (.li 12))),
 (.a9 7 (.item (.lst [.li 1,.li 3,.bin .Sub (.bin .Pow (.li 2) (.li 31)) (.li 1),.li 5]) (.md (.v9 6) (.li 4)))),
 (.ite (.cn [.cmp .NotEq (.v9 2) (.li 0),.cmp .NotEq (.md (.v9 6) (.li 7)) (.li 1)]) [(.a9 5 (.ad (.li 3) (.md (.v9 5) (.li 2)))),
 (.a9 7 (.v9 2))] []),
 (.ite (.cn [.q (.v9 2) (.li 0),.kY [.q (.v9 5) (.li 3),.q (.v9 5) (.li 4)],.cmp .NotEq (.md (.v9 6) (.li 3)) (.li 0)]) [(.a9 5 (.li 1))] []),
 (.a9 8 (.c (.type "bytes") [.raw (jN (aB 40) [3,5] 0 [1])])),
 (.a9 9 (.md (.bin .FloorDiv (.v9 6) (.li 2)) (.li 2))),
 (.a9 10 (.bin .Mult (.bin .Pow (.li 2) (.li 31)) (.md (.bin .FloorDiv (.v9 6) (.li 9)) (.li 2)))),
 (.a9 11 (.md (.bin .FloorDiv (.v9 6) (.li 11)) (.li 256))),
 (.ite (.q (.v9 5) (.li 0)) [.unpack [12,8] (.c (.ref 1103) [(.v9 6),(.v9 9),(.v9 8)]),
 (.expr (.bA (oS "append") (.v9 1) [.tup [.li 0,(.v9 12),.ad (.v9 7) (.v9 10),(.v9 8)]]))] [(.ite (.kY [.q (.v9 5) (.li 1),.q (.v9 5) (.li 2)]) [.ite (.cn [.q (.md (.v9 6) (.li 7)) (.li 2),.cmp .NotEq (.md (.v9 6) (.li 11)) (.li 3)]) [(.a9 8 (.ad (.c (.type "bytes") [.lst [.li 128,.li 0,.li 0,.li 3,.md (.v9 6) (.li 256)]]) (.v9 8)))] [],
 (.unpack [12,8] (.c (.ref 1103) [(.v9 6),.ad (.v9 9) (.ite (.q (.v9 5) (.li 1)) (.li 4) (.li 0)),(.v9 8)])),
 (.expr (.bA (oS "append") (.v9 1) [.tup [.li 1,.ad (.v9 12) (.ite (.q (.md (.v9 6) (.li 7)) (.li 2)) (.li 32) (.li 0)),.ad (.v9 7) (.v9 10),(.v9 8)]])),
 (.ite (.q (.v9 5) (.li 2)) [(.a9 2 (.v9 7))] [])] [(.ite (.kY [.q (.v9 5) (.li 3),.q (.v9 5) (.li 4)]) [.expr (.bA (oS "append") (.v9 1) [.tup [.li 9,.ite (.q (.v9 5) (.li 4)) (.li 4) (.li 0),.ad (.v9 7) (.v9 10),(.v9 8)]]),
 (.ite (.q (.v9 5) (.li 4)) [(.a9 2 (.li 0))] [])] [(.ite (.q (.v9 5) (.li 5)) [(.a9 13 (.bA (oS "to_bytes") (.item (.lit (.kq [.int 2,.int 4,.int 2147483650,.int 65538,.int 0,.int 3,.int 2147483648,.int 16777222])) (.md (.bin .FloorDiv (.v9 6) (.li 4)) (.li 8))) [.li 4,.lit (.str (oS "big"))])),
 (.unpack [12,8] (.c (.ref 1103) [(.v9 6),.bin .Mult (.li 4) (.v9 9),.ite (.q (.md (.v9 6) (.li 7)) (.li 6)) (.slice (.v9 13) none (some (.md (.v9 6) (.li 4)))) (.ad (.v9 13) (.v9 8))])),
 (.expr (.bA (oS "append") (.v9 1) [.tup [.li 5,(.v9 12),.ad (.v9 7) (.v9 10),(.v9 8)]])),
 (.ite (.q (.v9 9) (.li 0)) [(.a9 2 (.v9 7))] [])] [(.ite (.kY [.q (.v9 5) (.li 6),.q (.v9 5) (.li 7)]) [.ite (.cn [.q (.v9 5) (.li 6),.q (.md (.v9 6) (.li 6)) (.li 5)]) [(.a9 7 (.li 0))] [],
 (.expr (.bA (oS "append") (.v9 1) [.tup [.ite (.q (.v9 5) (.li 6)) (.li 8) (.li 3),.li 0,.ad (.v9 7) (.v9 10),.ite (.cmp .NotEq (.md (.v9 6) (.li 8)) (.li 7)) (.bA (oS "to_bytes") (.md (.bin .Mult (.v9 6) (.li 3)) (.bin .Pow (.li 2) (.li 32))) [.li 4,.lit (.str (oS "big"))]) (.v9 8)]]))] [(.ite (.q (.v9 5) (.li 8)) [(.a9 14 (.item (.lst [.li 4,.li 6,.li 7,.li 10,.li 255,.li 2]) (.md (.v9 6) (.li 6)))),
 (.ite (.kY [.cmp .In (.v9 14) (.tup [.li 4,.li 6,.li 7]),.cn [.cmp .NotEq (.v9 14) (.li 2),.q (.md (.bin .FloorDiv (.v9 6) (.li 6)) (.li 3)) (.li 0)]]) [(.a9 7 (.li 0))] []),
 (.expr (.bA (oS "append") (.v9 1) [.tup [(.v9 14),.li 0,.ad (.v9 7) (.v9 10),(.v9 8)]]))] [(.ite (.q (.v9 5) (.li 9)) [(.a9 14 (.item (.lst [.li 0,.li 1,.li 9,.li 3,.li 5,.li 2,.li 4,.li 7,.li 6]) (.md (.v9 6) (.li 9)))),
 (.expr (.bA (oS "append") (.v9 1) [.tup [(.v9 14),.li 4,.ite (.cmp .In (.v9 14) (.tup [.li 4,.li 6,.li 7])) (.li 1) (.v9 10),.c (.type "bytes") [.li 4]]]))] [(.ite (.cn [.q (.v9 5) (.li 10),.q (.md (.v9 6) (.li 6)) (.li 1),.not (.v9 3),.q (.v9 2) (.li 0)]) [(.a9 3 (.lit (.bool true))),
 (.expr (.bA (oS "extend") (.v9 1) [.c (.ref 1110) [.ad (.li 62) (.md (.bin .FloorDiv (.v9 6) (.li 6)) (.li 4)),(.v9 7)]])),
 (.a9 11 (.li 0))] [.expr (.bA (oS "append") (.v9 1) [.tup [.li 0,(.v9 9),(.v9 7),.c (.type "bytes") [.ite (.q (.md (.v9 6) (.li 5)) (.li 4)) (.li 300) (.ad (.li 20) (.md (.v9 6) (.li 6)))]]])])])])])])])])]),
 (.unpack [14,12,15,8] (.item (.v9 1) (.li (-1)))),
 (.a9 16 (.ite (.cmp .In (.v9 14) (.c (.ref 1084) [])) (.item (.c (.ref 1084) []) (.v9 14)) (.li 0))),
 (.raw (cW (aB 40) [3,12]))]),
 (.ret (.v9 1))]
theorem JV(P:Params):aN (K P) (ai (aB 40)) bu 60 (aH (aB 40))=some JU:=by left
def GF:List Str:=[oS "row",oS "kind",oS "flags",oS "stream",oS "body",oS "padded",oS "told"]
def JW:List IS:=[.unpack [1,2,3,4] (.v9 0),
 (.a9 5 (.cn [.cmp .In (.v9 1) (.tup [.li 0,.li 1,.li 5]),.q (.md (.bin .FloorDiv (.v9 2) (.li 8)) (.li 2)) (.li 1)])),
 (.ite (.v9 5) [.ite (.q (.c (.builtin "len") [(.v9 4)]) (.li 0)) [.ret (.tup [.lit (.str (oS "missing")),.lit (.bytes []),.li 0])] [],
 (.ite (.cmp .GtE (.item (.v9 4) (.li 0)) (.c (.builtin "len") [(.v9 4)])) [.ret (.tup [.lit (.str (oS "refused")),.lit (.bytes []),.li 0])] []),
 (.a9 4 (.slice (.v9 4) (some (.li 1)) (some (.bin .Sub (.c (.builtin "len") [(.v9 4)]) (.item (.v9 4) (.li 0))))))] []),
 (.ite (.cn [.q (.v9 1) (.li 1),.q (.md (.bin .FloorDiv (.v9 2) (.li 32)) (.li 2)) (.li 1)]) [.ite (.cmp .Lt (.c (.builtin "len") [(.v9 4)]) (.li 5)) [.ret (.tup [.lit (.str (oS "missing")),.lit (.bytes []),.li 0])] [],
 (.a9 4 (.slice (.v9 4) (some (.li 5)) none))] []),
 (.ite (.kY [.q (.v9 1) (.li 3),.q (.v9 1) (.li 8)]) [.ite (.cmp .NotEq (.c (.builtin "len") [(.v9 4)]) (.li 4)) [.ret (.tup [.lit (.str (oS "missing")),.lit (.bytes []),.li 0])] [],
 (.a9 6 (.eX (.v9 4))),
 (.ite (.cn [.q (.v9 1) (.li 8),.q (.md (.v9 6) (.bin .Pow (.li 2) (.li 31))) (.li 0)]) [.ret (.tup [.lit (.str (oS "refused")),.lit (.bytes []),.li 0])] []),
 (.ret (.tup [.lit (.str (oS "")),.lit (.bytes []),.ite (.q (.v9 1) (.li 3)) (.v9 6) (.md (.v9 6) (.bin .Pow (.li 2) (.li 31)))]))] []),
 (.ite (.q (.v9 1) (.li 5)) [.ite (.cmp .Lt (.c (.builtin "len") [(.v9 4)]) (.li 4)) [.ret (.tup [.lit (.str (oS "missing")),.lit (.bytes []),.li 0])] [],
 (.a9 6 (.md (.eX (.slice (.v9 4) none (some (.li 4)))) (.bin .Pow (.li 2) (.li 31)))),
 (.ite (.kY [.q (.v9 6) (.li 0),.q (.md (.v9 6) (.li 2)) (.li 1)]) [.ret (.tup [.lit (.str (oS "refused")),.lit (.bytes []),.li 0])] []),
 (.ret (.tup [.lit (.str (oS "")),.slice (.v9 4) (some (.li 4)) none,(.v9 6)]))] []),
 (.ret (.tup [.lit (.str (oS "")),(.v9 4),.li 0]))]
theorem JX(P:Params):aN (K P) (ai (aB 41)) GF 60 (aH (aB 41))=some JW:=by left
def cp:List Str:=[oS "rows",oS "start",oS "limit",oS "due",oS "block",oS "place",oS "row",oS "kind",oS "flags",oS "stream",oS "body",oS "fault",oS "data",oS "extra",oS "names",oS "first"]
def JY:List IS:=[(.a9 3 (.lst [])),
 (.a9 4 (.lst [])),
 (.a9 5 (.v9 1)),
 (.mr 6 (.v9 0) [.unpack [7,8,9,10] (.v9 6),
 (.a9 9 (.md (.v9 9) (.bin .Pow (.li 2) (.li 31)))),
 (.ite (.kY [.cn [.cmp .In (.v9 7) (.tup [.li 0,.li 1,.li 2,.li 3,.li 5,.li 9]),.q (.v9 9) (.li 0)],.cn [.cmp .In (.v9 7) (.tup [.li 4,.li 6,.li 7]),.cmp .NotEq (.v9 9) (.li 0)]]) [.expr (.bA (oS "append") (.v9 3) [.tup [.ad (.v9 5) (.li 9),.tup [.lit (.str (oS "fault")),.lit (.str (oS "refused"))]]]),
 (.ret (.v9 3))] []),
 (.aug 5 (.ad (.li 9) (.c (.builtin "len") [(.v9 10)]))),
 (.unpack [11,12,13] (.c (.ref 1122) [(.v9 6)])),
 (.ite (.cmp .Gt (.c (.builtin "len") [(.v9 10)]) (.v9 2)) [(.a9 11 (.lit (.str (oS "large"))))] []),
 (.a9 14 (.ite (.cmp .In (.v9 7) (.lit (.gw [(0,(.gw [(1,(.str (oS "END_STREAM"))),(8,(.str (oS "PADDED")))])),(1,(.gw [(1,(.str (oS "END_STREAM"))),(4,(.str (oS "END_HEADERS"))),(8,(.str (oS "PADDED"))),(32,(.str (oS "PRIORITY")))])),(5,(.gw [(4,(.str (oS "END_HEADERS"))),(8,(.str (oS "PADDED")))])),(9,(.gw [(4,(.str (oS "END_HEADERS")))]))]))) (.c (.builtin "sorted") [.raw (jN (aB 42) [3,6] 0 [1,1])]) (.lst []))),
 (.ite (.cn [.q (.v9 11) (.lit (.str (oS ""))),.cmp .NotEq (.v9 4) (.lst [])]) [.ite (.kY [.cmp .NotEq (.v9 7) (.li 9),.cmp .NotEq (.v9 9) (.item (.item (.v9 4) (.li 0)) (.li 1)),.q (.c (.builtin "len") [(.v9 4)]) (.li 64)]) [(.a9 11 (.lit (.str (oS "refused"))))] []] []),
 (.ite (.cmp .NotEq (.v9 11) (.lit (.str (oS "")))) [.expr (.bA (oS "append") (.v9 3) [.tup [(.v9 5),.tup [.lit (.str (oS "fault")),(.v9 11)]]]),
 (.ret (.v9 3))] []),
 (.ite (.kY [.cmp .NotEq (.v9 4) (.lst []),.cn [.cmp .In (.v9 7) (.tup [.li 1,.li 5]),.cmp .NotIn (.lit (.str (oS "END_HEADERS"))) (.v9 14)]]) [.expr (.bA (oS "append") (.v9 4) [.tup [(.v9 7),(.v9 9),(.v9 14),(.v9 12),(.v9 13)]]),
 (.ite (.cn [.cmp .Gt (.c (.builtin "len") [(.v9 4)]) (.li 1),.q (.v9 14) (.lst [.lit (.str (oS "END_HEADERS"))])]) [(.a9 15 (.item (.v9 4) (.li 0))),
 (.expr (.bA (oS "append") (.v9 3) [.tup [(.v9 5),.tup [.item (.v9 15) (.li 0),(.v9 9),.c (.builtin "sorted") [.ad (.item (.v9 15) (.li 2)) (.lst [.lit (.str (oS "END_HEADERS"))])],.bA (oS "join") (.lit (.bytes [])) [.raw (jN (aB 42) [3,9,1,1] 0 [1,1,3,1])],.item (.v9 15) (.li 4)]]])),
 (.a9 4 (.lst []))] [])] [.expr (.bA (oS "append") (.v9 3) [.tup [(.v9 5),.tup [(.v9 7),(.v9 9),(.v9 14),(.v9 12),(.v9 13)]]])])]),
 (.ret (.v9 3))]
theorem JZ(P:Params):aN (K P) (ai (aB 42)) cp 60 (aH (aB 42))=some JY:=by left
def GG:List Str:=[oS "frame"]
def J1:List IS:=[.ite (.c (.builtin "isinstance") [(.v9 0),.lit (.gl (.ref 912))]) [.ret (.tup [.li 0,.attr (.v9 0) (oS "stream_id"),.c (.builtin "sorted") [.attr (.v9 0) (oS "flags")],.attr (.v9 0) (oS "data"),.li 0])] [],
 (.ite (.c (.builtin "isinstance") [(.v9 0),.lit (.gl (.ref 936))]) [.ret (.tup [.li 1,.attr (.v9 0) (oS "stream_id"),.c (.builtin "sorted") [.attr (.v9 0) (oS "flags")],.attr (.v9 0) (oS "data"),.li 0])] []),
 (.ite (.c (.builtin "isinstance") [(.v9 0),.lit (.gl (.ref 955))]) [.ret (.tup [.li 3,.attr (.v9 0) (oS "stream_id"),.c (.builtin "sorted") [.attr (.v9 0) (oS "flags")],.lit (.bytes []),.attr (.v9 0) (oS "error_code")])] []),
 (.ite (.c (.builtin "isinstance") [(.v9 0),.lit (.gl (.ref 977))]) [.ret (.tup [.li 5,.attr (.v9 0) (oS "stream_id"),.c (.builtin "sorted") [.attr (.v9 0) (oS "flags")],.attr (.v9 0) (oS "data"),.attr (.v9 0) (oS "promised_stream_id")])] []),
 (.ite (.c (.builtin "isinstance") [(.v9 0),.lit (.gl (.ref 996))]) [.ret (.tup [.li 8,.attr (.v9 0) (oS "stream_id"),.c (.builtin "sorted") [.attr (.v9 0) (oS "flags")],.lit (.bytes []),.attr (.v9 0) (oS "window_increment")])] []),
 (.ite (.c (.builtin "isinstance") [(.v9 0),.lit (.gl (.ref 1010))]) [.ret (.tup [.li 9,.attr (.v9 0) (oS "stream_id"),.c (.builtin "sorted") [.attr (.v9 0) (oS "flags")],.attr (.v9 0) (oS "data"),.li 0])] []),
 (.ret (.tup [.attr (.v9 0) (oS "kind"),.attr (.v9 0) (oS "stream_id"),.c (.builtin "sorted") [.attr (.v9 0) (oS "flags")],.attr (.v9 0) (oS "data"),.li 0]))]
theorem J2(P:Params):aN (K P) (ai (aB 43)) GG 60 (aH (aB 43))=some J1:=by left
def s9:List Str:=[oS "buffer",oS "piece",oS "told",oS "frame",oS "error"]
def b9:List Str:=[oS "script",oS "head",oS "rows",oS "octets",oS "limit",oS "server",oS "start",oS "due",oS "lead",oS "place",oS "step",oS "buffer",oS "told",oS "count",oS "piece",oS "stopped"]
def Bi:List IS:=[(.a9 1 (.ite (.v9 0) (.item (.v9 0) (.li 0)) (.li 5))),
 (.a9 2 (.c (.ref 1115) [.slice (.v9 0) (some (.li 1)) (some (.li 13))])),
 (.a9 3 (.bA (oS "join") (.lit (.bytes [])) [.raw (jN (aB 45) [2] 0 [1])])),
 (.ite (.q (.md (.bin .FloorDiv (.v9 1) (.li 11)) (.li 3)) (.li 0)) [(.a9 3 (.ad (.ad (.v9 3) (.c (.type "bytes") [.lst [.li 1,.li 0,.li 9,.li 0,.li 0,.li 0,.li 0,.li 0,.li 1]])) (.c (.type "bytes") [.li 9])))] []),
 (.a9 4 (.item (.lst [.li 16384,.li 64,.li 16384,.li 9,.li 24,.li 5]) (.md (.v9 1) (.li 6)))),
 (.a9 5 (.cmp .NotEq (.md (.bin .FloorDiv (.v9 1) (.li 6)) (.li 3)) (.li 0))),
 (.a9 6 (.li 0)),
 (.a9 7 (.lst [])),
 (.ite (.v9 5) [(.a9 6 (.c (.builtin "len") [.lit (.bytes [80,82,73,32,42,32,72,84,84,80,47,50,46,48,13,10,13,10,83,77,13,10,13,10])])),
 (.a9 8 (.lit (.bytes [80,82,73,32,42,32,72,84,84,80,47,50,46,48,13,10,13,10,83,77,13,10,13,10]))),
 (.ite (.q (.md (.bin .FloorDiv (.v9 1) (.li 18)) (.li 5)) (.li 4)) [(.a9 9 (.md (.bin .FloorDiv (.v9 1) (.li 90)) (.v9 6))),
 (.a9 8 (.ad (.ad (.slice (.v9 8) none (some (.v9 9))) (.c (.type "bytes") [.lst [.bin .BitXor (.item (.v9 8) (.v9 9)) (.li 1)]])) (.slice (.v9 8) (some (.ad (.v9 9) (.li 1))) none))),
 (.a9 7 (.lst [.tup [.ad (.v9 9) (.li 1),.tup [.lit (.str (oS "fault")),.lit (.str (oS "refused"))]]]))] []),
 (.a9 3 (.ad (.v9 8) (.v9 3)))] []),
 (.ite (.q (.v9 7) (.lst [])) [(.a9 7 (.c (.ref 1127) [(.v9 2),(.v9 6),(.v9 4)]))] []),
 (.a9 10 (.item (.lst [.li 1,.li 2,.li 3,.li 5,.li 8,.li 9,.li 13,.li 1000]) (.md (.bin .FloorDiv (.v9 1) (.li 7)) (.li 8)))),
 (.a9 10 (.c (.builtin "max") [(.v9 10),.ad (.bin .FloorDiv (.c (.builtin "len") [(.v9 3)]) (.li 60)) (.li 1)])),
 (.a9 11 (.c (.ref 1072) [(.v9 5)])),
 (.dw (.v9 11) (oS "max_frame_size") (.v9 4)),
 (.a9 12 (.lst [])),
 (.a9 13 (.li 0)),
 (.mr 9 (.c (.type "range") [.li 0,.c (.builtin "len") [(.v9 3)],(.v9 10)]) [(.a9 14 (.slice (.v9 3) (some (.v9 9)) (some (.ad (.v9 9) (.v9 10))))),
 (.a9 15 (.c (.ref 1141) [(.v9 11),(.v9 14),(.v9 12)])),
 (.gJ (.cn [.cmp .Lt (.v9 13) (.c (.builtin "len") [(.v9 7)]),.cmp .LtE (.item (.item (.v9 7) (.v9 13)) (.li 0)) (.ad (.v9 9) (.c (.builtin "len") [(.v9 14)]))]) [.aug 13 (.li 1)]),
 (.ite (.cmp .NotEq (.c (.builtin "len") [(.v9 12)]) (.v9 13)) [.ret (.lit (.bool false))] []),
 (.ite (.v9 15) [.brk] [])]),
 (.ret (.q (.v9 12) (.slice (.raw (jN (aB 45) [17] 0 [1,0])) none (some (.v9 13)))))]
def tc:List Str:=[oS "self",oS "stream_id"]
def yn:List IS:=[.dw (.v9 0) (oS "stream_id") (.v9 1),
 (.dw (.v9 0) (oS "flags") (.c (.type "set") [])),
 (.dw (.v9 0) (oS "pad_length") (.li 0)),
 (.dw (.v9 0) (oS "data") (.lit (.bytes [])))]
theorem DE(P:Params):aN (K P) (ai (ay 22 2)) tc 60 (aH (ay 22 2))=some yn:=by left
def mD:List Str:=[oS "header",oS "kind",oS "stream_id",oS "frame",oS "bit",oS "name"]
def DF:List IS:=[(.a9 1 (.item (.v9 0) (.li 3))),
 (.a9 2 (.bin .BitAnd (.eX (.slice (.v9 0) (some (.li 5)) (some (.li 9)))) (.li 2147483647))),
 (.ite (.cn [.cmp .In (.v9 1) (.tup [.li 0,.li 1,.li 2,.li 3,.li 5,.li 9]),.q (.v9 2) (.li 0)]) [.raw (cW (ay 22 3) [2,0])] []),
 (.ite (.cn [.cmp .In (.v9 1) (.tup [.li 4,.li 6,.li 7]),.cmp .NotEq (.v9 2) (.li 0)]) [.raw (cW (ay 22 3) [3,0])] []),
 (.ite (.q (.v9 1) (.li 0)) [(.a9 3 (.c (.ref 912) [(.v9 2)]))] [(.ite (.q (.v9 1) (.li 1)) [(.a9 3 (.c (.ref 936) [(.v9 2)]))] [(.ite (.q (.v9 1) (.li 3)) [(.a9 3 (.c (.ref 955) [(.v9 2)]))] [(.ite (.q (.v9 1) (.li 5)) [(.a9 3 (.c (.ref 977) [(.v9 2)]))] [(.ite (.q (.v9 1) (.li 8)) [(.a9 3 (.c (.ref 996) [(.v9 2)]))] [(.ite (.q (.v9 1) (.li 9)) [(.a9 3 (.c (.ref 1010) [(.v9 2)]))] [(.a9 3 (.c (.ref 880) [(.v9 2)])),
 (.dw (.v9 3) (oS "kind") (.v9 1))])])])])])]),
 (.raw (cW (ay 22 3) [5])),
 (.ret (.tup [(.v9 3),.eX (.slice (.v9 0) none (some (.li 3)))]))]
theorem DG(P:Params):aN (K P) (ai (ay 22 3)) mD 60 (aH (ay 22 3))=some DF:=by left
def yo:List Str:=[oS "self",oS "data"]
def DH:List IS:=[.dw (.v9 0) (oS "data") (.v9 1)]
theorem DI(P:Params):aN (K P) (ai (ay 22 4)) yo 60 (aH (ay 22 4))=some DH:=by left
def yp:List Str:=[oS "self",oS "data"]
def DJ:List IS:=[.ite (.cmp .NotIn (.lit (.str (oS "PADDED"))) (.attr (.v9 0) (oS "flags"))) [.ret (.v9 1)] [],
 (.ite (.q (.c (.builtin "len") [(.v9 1)]) (.li 0)) [.raw (cW (ay 22 5) [1,0])] []),
 (.dw (.v9 0) (oS "pad_length") (.item (.v9 1) (.li 0))),
 (.ite (.cmp .GtE (.attr (.v9 0) (oS "pad_length")) (.c (.builtin "len") [(.v9 1)])) [.raw (cW (ay 22 5) [3,0])] []),
 (.ret (.slice (.v9 1) (some (.li 1)) (some (.bin .Sub (.c (.builtin "len") [(.v9 1)]) (.attr (.v9 0) (oS "pad_length"))))))]
theorem DK(P:Params):aN (K P) (ai (ay 22 5)) yp 60 (aH (ay 22 5))=some DJ:=by left
def yq:List Str:=[oS "self",oS "data"]
def DL:List IS:=[.dw (.v9 0) (oS "data") (.bA (oS "unpadded") (.v9 0) [(.v9 1)])]
theorem DM(P:Params):aN (K P) (ai (ay 23 2)) yq 60 (aH (ay 23 2))=some DL:=by left
def yr:List Str:=[oS "self",oS "data"]
def DN:List IS:=[(.a9 1 (.bA (oS "unpadded") (.v9 0) [(.v9 1)])),
 (.ite (.cmp .In (.lit (.str (oS "PRIORITY"))) (.attr (.v9 0) (oS "flags"))) [.ite (.cmp .Lt (.c (.builtin "len") [(.v9 1)]) (.li 5)) [.raw (cW (ay 24 2) [1,0,0])] [],
 (.a9 1 (.slice (.v9 1) (some (.li 5)) none))] []),
 (.dw (.v9 0) (oS "data") (.v9 1))]
theorem DO(P:Params):aN (K P) (ai (ay 24 2)) yr 60 (aH (ay 24 2))=some DN:=by left
def yt:List Str:=[oS "self",oS "data"]
def DP:List IS:=[.ite (.cmp .NotEq (.c (.builtin "len") [(.v9 1)]) (.li 4)) [.raw (cW (ay 25 2) [0,0])] [],
 (.dw (.v9 0) (oS "error_code") (.eX (.v9 1)))]
theorem DQ(P:Params):aN (K P) (ai (ay 25 2)) yt 60 (aH (ay 25 2))=some DP:=by left
def yu:List Str:=[oS "self",oS "data"]
def DR:List IS:=[(.a9 1 (.bA (oS "unpadded") (.v9 0) [(.v9 1)])),
 (.ite (.cmp .Lt (.c (.builtin "len") [(.v9 1)]) (.li 4)) [.raw (cW (ay 26 3) [1,0])] []),
 (.dw (.v9 0) (oS "promised_stream_id") (.bin .BitAnd (.eX (.slice (.v9 1) none (some (.li 4)))) (.li 2147483647))),
 (.ite (.kY [.q (.attr (.v9 0) (oS "promised_stream_id")) (.li 0),.cmp .NotEq (.md (.attr (.v9 0) (oS "promised_stream_id")) (.li 2)) (.li 0)]) [.raw (cW (ay 26 3) [3,0])] []),
 (.dw (.v9 0) (oS "data") (.slice (.v9 1) (some (.li 4)) none))]
theorem DS(P:Params):aN (K P) (ai (ay 26 3)) yu 60 (aH (ay 26 3))=some DR:=by left
def yv:List Str:=[oS "self",oS "data"]
def DT:List IS:=[.ite (.cmp .NotEq (.c (.builtin "len") [(.v9 1)]) (.li 4)) [.raw (cW (ay 27 2) [0,0])] [],
 (.dw (.v9 0) (oS "window_increment") (.bin .BitAnd (.eX (.v9 1)) (.li 2147483647))),
 (.ite (.q (.attr (.v9 0) (oS "window_increment")) (.li 0)) [.raw (cW (ay 27 2) [2,0])] [])]
theorem DU(P:Params):aN (K P) (ai (ay 27 2)) yv 60 (aH (ay 27 2))=some DT:=by left
def pG:List Str:=[oS "self",oS "server"]
def yw:List IS:=[.dw (.v9 0) (oS "_data") (.c (.type "bytearray") []),
 (.dw (.v9 0) (oS "max_frame_size") (.li 0)),
 (.dw (.v9 0) (oS "_preamble") (.ite (.v9 1) (.lit (.bytes [80,82,73,32,42,32,72,84,84,80,47,50,46,48,13,10,13,10,83,77,13,10,13,10])) (.lit (.bytes [])))),
 (.dw (.v9 0) (oS "_preamble_len") (.c (.builtin "len") [.attr (.v9 0) (oS "_preamble")])),
 (.dw (.v9 0) (oS "_headers_buffer") (.lst []))]
def tf:List Str:=[oS "self",oS "data",oS "data_view",oS "data_len",oS "of_which_preamble",oS "msg"]
def yx:List IS:=[(.a9 2 (.v9 1)),
 (.ite (.attr (.v9 0) (oS "_preamble_len")) [(.a9 3 (.c (.builtin "len") [(.v9 2)])),
 (.a9 4 (.c (.builtin "min") [.attr (.v9 0) (oS "_preamble_len"),(.v9 3)])),
 (.ite (.cmp .NotEq (.slice (.attr (.v9 0) (oS "_preamble")) none (some (.v9 4))) (.slice (.v9 2) none (some (.v9 4)))) [(.a9 5 (.lit (.str (oS "Invalid HTTP/2 preamble.")))),
 (.raw (cW (ay 31 1) [1,2,1]))] []),
 (.a9 2 (.slice (.v9 2) (some (.v9 4)) none)),
 (.raw (cW (ay 31 1) [1,4])),
 (.dw (.v9 0) (oS "_preamble") (.slice (.attr (.v9 0) (oS "_preamble")) (some (.v9 4)) none))] []),
 (.raw (cW (ay 31 1) [2]))]
def yy:List Str:=[oS "self",oS "length",oS "msg"]
def DV:List IS:=[(.ite (.cmp .Gt (.v9 1) (.attr (.v9 0) (oS "max_frame_size"))) [(.a9 2 (.raw (jN (ay 31 2) [0,0] 0 []))),
 (.raw (cW (ay 31 2) [0,1]))] [])]
theorem DW(P:Params):aN (K P) (ai (ay 31 2)) yy 60 (aH (ay 31 2))=some DV:=by left
def tg:List Str:=[oS "self",oS "f",oS "stream_id",oS "valid_frame",oS "msg"]
def DX:List IS:=[(.ite (.attr (.v9 0) (oS "_headers_buffer")) [(.a9 2 (.attr (.item (.attr (.v9 0) (oS "_headers_buffer")) (.li 0)) (oS "stream_id"))),
 (.a9 3 (.cn [.cmp .IsNot (.v9 1) (.lit .none),.c (.builtin "isinstance") [(.v9 1),.lit (.gl (.ref 1010))],.q (.attr (.v9 1) (oS "stream_id")) (.v9 2)])),
 (.ite (.not (.v9 3)) [(.a9 4 (.lit (.str (oS "Invalid frame during header block.")))),
 (.raw (cW (ay 31 3) [0,2,1]))] []),
 (.raw (cW (ay 31 3) [0,3])),
 (.expr (.bA (oS "append") (.attr (.v9 0) (oS "_headers_buffer")) [(.v9 1)])),
 (.ite (.cmp .Gt (.c (.builtin "len") [.attr (.v9 0) (oS "_headers_buffer")]) (.li 64)) [(.a9 4 (.lit (.str (oS "Too many continuation frames received.")))),
 (.raw (cW (ay 31 3) [0,5,1]))] []),
 (.ite (.cmp .In (.lit (.str (oS "END_HEADERS"))) (.attr (.v9 1) (oS "flags"))) [(.a9 1 (.item (.attr (.v9 0) (oS "_headers_buffer")) (.li 0))),
 (.expr (.bA (oS "add") (.attr (.v9 1) (oS "flags")) [.lit (.str (oS "END_HEADERS"))])),
 (.dw (.v9 1) (oS "data") (.raw (jN (ay 31 3) [0,6,2] 0 []))),
 (.dw (.v9 0) (oS "_headers_buffer") (.lst []))] [(.a9 1 (.lit .none))])] [(.ite (.cn [.c (.builtin "isinstance") [(.v9 1),.tup [.lit (.gl (.ref 936)),.lit (.gl (.ref 977))]],.cmp .NotIn (.lit (.str (oS "END_HEADERS"))) (.attr (.v9 1) (oS "flags"))]) [.expr (.bA (oS "append") (.attr (.v9 0) (oS "_headers_buffer")) [(.v9 1)]),
 (.a9 1 (.lit .none))] [])]),
 (.ret (.v9 1))]
theorem DY(P:Params):aN (K P) (ai (ay 31 3)) tg 60 (aH (ay 31 3))=some DX:=by left
def yz:List Str:=[oS "self"]
def DZ:List IS:=[.ret (.v9 0)]
theorem D0(P:Params):aN (K P) (ai (ay 31 4)) yz 60 (aH (ay 31 4))=some DZ:=by left
def mE:List Str:=[oS "self",oS "f",oS "length",oS "err",oS "msg",oS "new_frame"]
def yA:List IS:=[.ite (.cmp .Lt (.c (.builtin "len") [.attr (.v9 0) (oS "_data")]) (.li 9)) [.raw (cW (ay 31 6) [0,0])] [],
 (.raw (cW (ay 31 6) [1])),
 (.ite (.cmp .Lt (.c (.builtin "len") [.attr (.v9 0) (oS "_data")]) (.ad (.v9 2) (.li 9))) [.raw (cW (ay 31 6) [2,0])] []),
 (.expr (.bA (oS "_validate_frame_length") (.v9 0) [(.v9 2)])),
 (.raw (cW (ay 31 6) [4])),
 (.raw (cW (ay 31 6) [5])),
 (.a9 5 (.bA (oS "_update_header_buffer") (.v9 0) [(.v9 1)])),
 (.ret (.v9 5))]
set_option tactic.hygienic true
theorem bO.builtin{a:LV}{T id:String}(hT:AN B env σ a T)(pa:PlainAttrs T)(slot:Slot T name id)(ty:typeOf (.builtin id)=pure (.type "method_descriptor")):bO B env σ a name (.builtin id) [a] where
 run:=fun C O ρ s E Q pl x S r q=>by obtain⟨t1,t2⟩:=hT C ρ s x S r;show getMethod_builtin t1 pa slot ty t2 (q [x] s (.rr rfl rfl rfl) S (.cons r .nil))
 keeps:=.builtin
theorem bO.toBytes{i:Int}:bO B env σ (.int i) (oS "to_bytes") (.builtin "int.to_bytes") [.int i]:=.builtin .int F.plainAttrs_int KTBy.slot KTBy.type_eq
theorem bO.append{id:Nat}(e:σ[id]? =some (.list l)):bO B env σ (.obj id) (oS "append") (.builtin "list.append") [.obj id]:=.builtin (.list e) F.plainAttrs_list F.slot_list_append F.type_list_append
theorem bO.extend{id:Nat}(e:σ[id]? =some (.list l)):bO B env σ (.obj id) (oS "extend") (.builtin "list.extend") [.obj id]:=.builtin (.list e) F.plainAttrs_list F.slot_list_extend F.type_list_extend
theorem fm{x k:Int}(hk:0<k):0≤x.fmod k∧x.fmod k<k:=⟨Int.fmod_nonneg_of_pos _ hk,Int.fmod_lt_of_pos _ hk⟩
def yB(l:List LV)(k:List Int→Prop):Prop:=match gL l with
 |some ns=>if Nat.ble ns.length 1000=true then aY (∀n∈ns,0≤n∧n<256) (k ns)else False
 |none=>False
theorem aM.dP(hn:X.hn=true)(h:yB l fun ns=>P (.bytes ns) (σ++[.list l])):
  aM B X env (σ++[.list l]) [.obj σ.length] (fun vs=>PySem.call (.type "bytes") vs) P:=by
 unfold yB at h
 split at h
 ·rename_i ns e
  by_cases hz:Nat.ble ns.length 1000=true
  ·rw[aJ hz]at h;have:=Nat.le_of_ble_eq_true hz;show .bytesOf hn (ns:=ns) (by rw[kI e];simp) h.ask (by omega) h.go
  ·rw[ax hz]at h;show h.elim
 ·show h.elim
theorem XE.o{xs:List Str}{P:eV}{env:cT}(h:lO B X xs 60 .go P ir env σ)(G:Gd B:=by assumption)(nd:xs.Nodup:=by assumption):XE B X xs ir env σ P:=.of G nd 60 .go h
set_option tactic.hygienic false
theorem vU{od:Obj}{es:Array DictEntry}{n:Nat}{m:Str→Option Value}(hd:od.data= .dict es n)(hk:StrKeys es)(hm:∀y,nsFind es y=m y)(y:Str):lookIn y od=some (m y):=by
 unfold lookIn;erw[hd];dsimp only;have:=hm y;unfold nsFind findBy at this;replace this:=Array.find?_toList.symm▸this
 cases q:es.toList.find? (fun e=>e.key.isStr y)with
 |some e=>replace this:=q▸this;show bD ?_ this;rfl
 |none=>
  replace this:=q▸this;rw[ax]
  ·show bD ?_ this;rfl
  ·intro z;show aa (List.any_eq_true.mp z) fun e he r=>?_;show fJ (hk e (Array.mem_toList_iff.mp he)) fun n t k=>?_;unfold DictEntry.refKey at r;replace r:=k▸r;right
structure yC(B:Base)(ρ:Cells)(h:Heap)(id:Nat)(C:Addr)(fs:List (Str×LV))(a d:Addr)(m:Str→Option Value)(od:Obj):Prop where
 cell:ρ[id]? =some (a,[d])
 obj:h.get? a=some (instObj C d)
 ns:h.Ns1 d m
 vals:∀y,hU h ρ (fs.lookup y) (m y)
 inst:InstAt h a (instObj C d) C (some od)
 look:∀y,lookIn y od=some (m y)
theorem St.inst(S:St B C ρ env σ h){id:Nat}{c:Addr}{x:Value}(r:Rep h ρ (.obj id) x)(e:σ[id]? =some (.inst c fs)):∃a d m od,x= .ref a∧yC B ρ h id c fs a d m od:=by show aa r ?_;rintro⟨a,l⟩ hc rfl;show bY (S.iR id _ _ e hc) fun d m q1 ho hn hv=>?_;obtain rfl:l=[d]:=q1;have NS:=hn;show AF NS fun od es ep hd h2 hk hu hm=>?_;show⟨a,d,m,od,rfl,hc,ho,hn,hv,⟨ho,rfl,rfl,hd⟩,vU h2 hk hm⟩
theorem St.dy(G:Gd B)(S:St B C ρ env σ h):(K B.w.params).In h:=G.dy.keeps S.base
noncomputable def cy(K:Frag)(C:Addr)(name:Str):Bool:=match clsIn K C,findIn K (.ref C) name with
 |some cd,some none=>cd.hasDict
 |some cd,some (some a)=>cd.hasDict&&(match specialIn K a "__get__" with
  |some none=>true
  |some (some _)=>takesIn K a==some false
  |none=>false)
 |_,_=>false
theorem bindS{α β:Type _}{x:Option α}{a:α}{f:α→Option β}{r:Option β}(e:x=some a)(h:f a=r):x.bind f=r:=e▸h
theorem jO{K:Frag}{C:Addr}{od:Obj}{name:Str}(e:cy K C name=true)(l:lookIn name od=some (some v)):findObj K C (some od) name=some (.value v):=by
 unfold cy at e;unfold findObj
 cases h1:clsIn K C with
 |none=>replace e:=h1▸e;right
 |some cd=>
  replace e:=h1▸e
  cases h2:findIn K (.ref C) name with
  |none=>replace e:=h2▸e;right
  |some at_=>
   replace e:=h2▸e;erw[Option.bind_some ..,Option.bind_some ..]
   induction at_ using Option.casesOn with
   |none=>
    have e:cd.hasDict=true:=e
    have ow:W.ownOf cd (some od) name=some (some v):=by unfold W.ownOf;erw[e,aJ rfl];show l
    erw[ow];rfl
   |some a=>
    rw[Bool.and_eq_true]at e;show aA e fun e1 e2=>?_
    have ow:W.ownOf cd (some od) name=some (some v):=by unfold W.ownOf;erw[e1,aJ rfl];show l
    cases h3:specialIn K a "__get__" with
    |none=>replace e2:=h3▸e2;right
    |some g=>
     replace e2:=h3▸e2
     induction g using Option.casesOn with
     |none=>erw[ow];show bindS h3 ?_;rfl
     |some g=>have e2:=beq_iff_eq.mp e2;erw[ow];show bindS h3 ?_;show bindS e2 ?_;rfl
noncomputable def mF(K:Frag)(C:Addr):Bool:=findIn K (.ref C) "__getattribute__"==some (some (.builtin "object.__getattribute__"))
theorem jP{K:Frag}{C:Addr}(e:mF K C=true):findIn K (.ref C) "__getattribute__"=some (some (.builtin "object.__getattribute__")):=beq_iff_eq.mp e
noncomputable def CB:LV→Bool
 | .gl _=>false
 |_=>true
theorem th(e:CB lv=true)(r:Rep h ρ lv v):handedIn v=true:=by
 induction lv using LV.casesOn with
 |gl u=>right
 |none=>obtain rfl:=r;rfl
 |bool b=>obtain rfl:=r;rfl
 |int i=>(show av r ?_;rintro t rfl);rfl
 |str i=>(show av r ?_;rintro t rfl);rfl
 |bytes l=>show cj r ?_;rintro b t rfl U;rfl
 |tup l=>show cj r ?_;rintro a vs rfl U;rfl
 |kq l=>show cj r ?_;rintro a vs rfl U;rfl
 |gw l=>show jv r ?_;rintro a o es n rfl U;rfl
 |lZ x y z=>show jv r ?_;rintro q U U U rfl U;rfl
 |obj i=>show aa r ?_;rintro c U rfl;rfl
theorem fe.own(G:Gd B){id:Nat}{c:Addr}{fs:List (Str×LV)}{name:Str}{r:LV}(e:σ[id]? =some (.inst c fs))(hf:fs.lookup name=some r)(hr:CB r=true)(hg:mF (K B.w.params) c=true)(hs:cy (K B.w.params) c name=true):
  fe B env σ (.obj id) name r where
 run:=fun C O ρ s E Q x S rx q=>by show jv (S.inst rx e) ?_;rintro a d m od rfl I;have hv:=I.vals name;replace hv:=hf▸hv;show aa hv fun u hm ru=>?_;show get_value (S.dy G) I.inst (jP hg) (jO hs (by(erw[I.look ..];show aD rfl hm))) (th hr ru) (q u _ (.rr rfl rfl rfl) S ru)
noncomputable def jQ(K:Frag)(C:Addr)(name:Str)(v:Value):Bool:=match clsIn K C,findIn K (.ref C) name with
 |some cd,some (some a)=>cd.hasDict&&a==v&&specialIn K a "__get__"==some none&&!copiedNames.contains name&&handedIn a
 |_,_=>false
theorem pH{K:Frag}{C:Addr}{od:Obj}{name:Str}(e:jQ K C name v=true)(l:lookIn name od=some none):findObj K C (some od) name=some (.value v)∧handedIn v=true:=by
 unfold jQ at e;unfold findObj
 cases h1:clsIn K C with
 |none=>replace e:=h1▸e;right
 |some cd=>
  replace e:=h1▸e
  cases h2:findIn K (.ref C) name with
  |none=>replace e:=h2▸e;right
  |some at_=>
   replace e:=h2▸e
   induction at_ using Option.casesOn with
   |none=>right
   |some a=>
    simp only[Bool.and_eq_true,beq_iff_eq,Bool.not_eq_true']at e;show aA e ?_;rintro⟨⟨⟨e1,rfl⟩,e3⟩,e4⟩ e5
    have ow:W.ownOf cd (some od) name=some none:=by unfold W.ownOf;erw[e1,aJ rfl];show l
    show⟨?_,e5⟩;erw[Option.bind_some ..,Option.bind_some ..,ow];show bindS e3 ?_;erw[e4];show aJ e5
theorem fe.cls(G:Gd B){id:Nat}{c:Addr}{fs:List (Str×LV)}{name:Str}{r:LV}(e:σ[id]? =some (.inst c fs))(hf:fs.lookup name=none)(hg:mF (K B.w.params) c=true)(hs:jQ (K B.w.params) c name v=true)(hr:∀(C:Cx) (ρ:Cells) (h:Heap),St B C ρ env σ h→Rep h ρ r v):fe B env σ (.obj id) name r where
 run:=fun C O ρ s E Q x S rx q=>by show jv (S.inst rx e) ?_;rintro a d m od rfl I;have hv:=I.vals name;replace hv:=hf▸hv;show aA (pH hs (od:=od) (by(erw[I.look ..];show aD rfl (show m name=none from hv)))) ?_;rintro f1 f2;show get_value (S.dy G) I.inst (jP hg) f1 f2 (q v _ (.rr rfl rfl rfl) S (hr C ρ _ S))
noncomputable def fE(K:Frag)(C:Addr)(name:Str)(f:Addr):Bool:=mF K C&&findIn K (.ref C) "__getattr__"==some none&&findIn K (.ref C) name==some (some (.ref f))&&typeIn K (.ref f)==some (.type "function")&&i7 K (.ref f)
theorem bO.fn(G:Gd B){id:Nat}{c f:Addr}{fs:List (Str×LV)}(e:σ[id]? =some (.inst c fs))(hf:fs.lookup name=none)(hs:fE (K B.w.params) c name f=true):bO B env σ (.obj id) name (.ref f) [.obj id]:=by unfold fE at hs;simp only[Bool.and_eq_true,beq_iff_eq]at hs;show aA hs ?_;rintro⟨⟨⟨h1,h2⟩,h3⟩,h4⟩ h5;show⟨fun C O ρ s E Q pl x S rx q=>?_,jI G h5⟩;show jv (S.inst rx e) ?_;rintro a d m od rfl I;have hv:=I.vals name;replace hv:=hf▸hv;show method_fn (S.dy G) I.inst (jP h1) h2 h3 h4 (by show(?_:(lookIn name od).map (·.isSome)=_);erw[I.look ..,show m name=none from hv];rfl) (q [.ref a] s (.rr rfl rfl rfl) S (.cons rx .nil))
noncomputable def setSlot(K:Frag)(C:Addr)(name:Str):Bool:=findIn K (.ref C) "__setattr__"==some (some (.builtin "object.__setattr__"))&&plainOver K C&&takerIn K C name==some none&&(clsIn K C).any (·.hasDict)
theorem q9{m:Str→Option Value}{fs:List (Str×LV)}(hv:∀y,hU h ρ (fs.lookup y) (m y)):Within m (fs.map (·.1)):=fun y hy=>by
 have:=hv y
 cases q:fs.lookup y with
 |none=>replace this:=q▸this;show absurd this hy
 |some lv=>show List.mem_map_of_mem (f:=(·.1)) (aj q)
theorem mG{d:Addr}{c:Addr}{cd:ClassData}{m:Str→Option Value}{b:Bool}{ns:List Str}{Q:Fin→Shared→Prop}(X:(K w.params).In s.heap)(ho:s.heap.get? a=some (instObj c d))(hc:clsIn (K w.params) c=some cd)(hh:cd.hasDict=true)(hn:s.heap.Ns1 d m)(hw:Within m ns)(hz:ns.length≤1000)(h:∀h',h'.Ns1 d (fun x=>if x=name then some v else m x)→Heap.SameBut d s.heap h'→Q (.done (.ret .none)) {s with heap:=h',toks:=s.toks+1}):
  wpAny (model prog w) A (Builtin.ObjectAttr.storeInOwnDict (.ref a) (.ref c) (.str name tk) name v b) Q E s:=by
 show V (aG (V (V (wpAny_loadPart ho (V ((looks_clsIn X hc).here ?_))))));erw[hh];show aG (a:=some d) (V (aG (V (wpAny_nsSet1 hn fun h' cR hs=>?_))));show gy (cR.count (Within.cons name v hw)) fun oD Py Pz NT NU NV=>?_;show V (wpAny_lookBehind NT (by erw[NU];show pastItsLine_dict (hH NV (by(erw[length_cons,sizeLine_eq]);show Nat.succ_le_succ (hH ‹_› (by decide))))) ?_);show aG (h h' cR hs)
theorem iD.own(G:Gd B){id:Nat}{c:Addr}{fs:List (Str×LV)}(e:σ[id]? =some (.inst c fs))(hz:fs.length≤100)(hs:setSlot (K B.w.params) c name=true):
  iD B env σ (.obj id) name r (σ.set id (.inst c (put name r fs))) where
 run:=fun C O ρ s E Q x v S rx rv q=>by
  show jv (S.inst rx e) ?_;rintro a d m od rfl I;unfold setSlot at hs;simp only[Bool.and_eq_true,beq_iff_eq]at hs;show aA hs ?_;rintro⟨⟨h1,h2⟩,h3⟩ h4;show aa (any_some h4) fun cd hc hd=>?_;show set_plain (S.dy G) I.inst h1 (osa_open (s:={s with toks:=s.toks+1}) (S.dy G) I.inst h2 h3 fun b=>mG (S.dy G) I.obj hc hd I.ns (q9 I.vals) (by simp;show nt) fun h' hn sb=>?_);have al:(h'.get? d).isSome:=Ns.alive hn.ns;have K1:Kept C ρ s ρ {s with heap:=h',toks:=s.toks+1+1}:=dN I.cell (.tail _ (.head _)) sb al rfl rfl
  have ne:a≠d:=by
   intro z;show gy I.ns fun o2 es ep hd2 PA U=>?_;replace hd2:=z.symm▸hd2;replace hd2:=I.obj▸hd2
   injection hd2 with z;subst z
   right
  show q _ K1 (S.kA (o:=.inst c (put name r fs)) I.cell (.tail _ (.head _)) sb al ⟨d,_,rfl,(sb.2 a ne).trans I.obj,hn,fun y=>?_⟩);erw[aE ..]
  by_cases z:y=name
  ·subst z;erw[aJ rfl,aJ (beq_self_eq_true _)];show⟨v,rfl,K1.rep S rv⟩
  ·erw[ax z,ax (by simpa using z)];have:=I.vals y
   cases q2:fs.lookup y with
   |none=>replace this:=q2▸this;show this
   |some lv=>replace this:=q2▸this;show aa this fun u u1 u2=>?_;show⟨u,u1,K1.rep S u2⟩
section
variable{s':Shared}
theorem lg{c:Addr×List Addr}(fr:∀a∈c.1::c.2,h.get? a=none):aF h ρ (ρ++[c]):=⟨_,rfl,fun a m=>fr a (by simpa[flat]using m)⟩
theorem St.pI(S:St B C ρ env σ h){o:LO}{c:Addr×List Addr}(k:∀a o,h.get? a=some o→h'.get? a=some o)(fr:∀a∈c.1::c.2,h.get? a=none∧(h'.get? a).isSome)(NW:(c.1::c.2).Nodup)(ro:kz B.w h' (ρ++[c]) o c):
  St B C (ρ++[c]) env (σ++[o]) h':=by
 have fk:bj ρ h h':=fun a o U U e=>k a o e;have ce:aF h ρ (ρ++[c]):=lg fun a m=>(fr a m).1
 have fl:∀a,a∈flat (ρ++[c])↔a∈flat ρ∨a∈c.1::c.2:=fun a=>by erw[cA ..];simp[flat]
 have dead:∀a,(h.get? a).isSome→a∉c.1::c.2:=fun a e m=>by replace e:=(fr a m).1▸e;right
 show aa S.ns fun m hm hv=>?_;show⟨⟨m,hm.keeps k,fun x lv e=>?_⟩,fun p hp=>?_,S.apart,fun a ha=>⟨(S.ow a ha).1,?_⟩,fun a o e=>k a o (S.base a o e),fun e he=>?_,fun a ha=>?_,?_,by simp[S.len],fun i o' c' hi hc=>?_⟩
 ·show aa (hv x lv e) fun v e1 e2=>?_;show⟨v,e1.keeps k,e2.mono fk ce⟩
 ·show av (S.jm p hp) fun v q=>?_;show⟨v,q.keeps k⟩
 ·rw[fl];rintro(q|q)
  ·show(S.ow a ha).2 q
  ·show dead a ?_ q
   rcases mem_cons.mp ha with rfl|ha
   ·show Ns.alive hm
   ·show aa (mem_map.mp ha) ?_;rintro p hp rfl;show av (S.jm p hp) fun v hv=>?_;show IsCell.alive hv
 ·show aA (S.dq e he) fun q hZ=>?_;show bY hZ fun L m a b c d=>?_;show⟨q,L,m,a,?_,c.keeps k,d⟩;rw[fl];rintro(q|q)
  ·show b q
  ·show dead L (Ns.alive c) q
 ·rcases(fl a).mp ha with q|q
  ·show aA (S.out a q) fun a1 a2=>?_;show av (iA a2) fun o ho=>?_;show⟨a1,by erw[k a o ho];rfl⟩
  ·show⟨?_,(fr a q).2⟩
   cases z:B.heap.get? a with
   |none=>rfl
   |some o=>have:=S.base _ _ z;replace this:=(fr a q).1▸this;right
 ·erw[cA ..];show nodup_append.mpr ⟨S.nd,by simpa[flat]using NW,fun a ha b hb e=>?_⟩;subst e;show dead a (S.out a ha).2 (by simpa[flat]using hb)
 ·by_cases q:i<σ.length
  ·replace hi:=(getElem?_append_left q)▸hi;replace hc:=(getElem?_append_left (S.len▸q))▸hc;show(S.iR i o' c' hi hc).mono (fun a o U e=>k a o e) fk ce
  ·have hl:i=σ.length:=by have:=(dU hi).1;simp at this;ac_rfl
   subst hl;replace hi:=(getElem?_append_right (Nat.le_refl _))▸hi;replace hc:=(getElem?_append_right (by erw[S.len];show Nat.le_refl _))▸hc;replace hc:=S.len▸hc;simp at hi hc;subst hi hc;show ro
theorem eZ{c:Addr×List Addr}(k:∀a o,s.heap.get? a=some o→s'.heap.get? a=some o)(fr:∀a∈c.1::c.2,s.heap.get? a=none)(hg:s'.gens=s.gens)(ho:s'.os=s.os):Kept C ρ s (ρ++[c]) s':=
 ⟨fun a o U U U e=>k a o e,fun a o U U U e=>⟨o,k a o e,rfl⟩,fun a e=>by(show av (iA e) fun o h=>?_);erw[k a o h];rfl,lg fr,.of_eq hg,ho⟩
noncomputable def gO(K:Frag)(c f:Addr):Bool:=makesIn K c&&findIn K (.ref c) "__init__"==some (some (.ref f))&&typeIn K (.ref f)==some (.type "function")
theorem fF(h:Heap):h.get? (h.objs.size+1)=none:=by
 cases q:h.get? (h.objs.size+1)with
 |none=>rfl
 |some o=>show absurd (Heap.lt_size q) (Nat.not_lt.mpr (Nat.le_succ _))
theorem mkS{c:Addr}(S:St B C ρ env σ s.heap):Kept C ρ s (ρ++[(s.heap.objs.size+1,[s.heap.objs.size])]) {s with heap:=(s.heap.push emptyDict).push (instObj c s.heap.objs.size)}∧St B C (ρ++[(s.heap.objs.size+1,[s.heap.objs.size])]) env (σ++[.inst c []]) ((s.heap.push emptyDict).push (instObj c s.heap.objs.size))∧(ρ++[(s.heap.objs.size+1,[s.heap.objs.size])])[σ.length]? =some (s.heap.objs.size+1,[s.heap.objs.size]):=by
 let h':=(s.heap.push emptyDict).push (instObj c s.heap.objs.size);have k:∀a o,s.heap.get? a=some o→h'.get? a=some o:=fun a o e=>n5 _ (n5 _ e)
 have g1:h'.get? (s.heap.objs.size+1)=some (instObj c s.heap.objs.size):=by have:=gh (o:=instObj c s.heap.objs.size) (s.heap.push emptyDict) rfl;rw[Heap.size_push]at this;assumption
 have g0:h'.get? s.heap.objs.size=some emptyDict:=n5 _ (gh _ rfl)
 have fr:∀a∈[s.heap.objs.size+1,s.heap.objs.size],s.heap.get? a=none∧(h'.get? a).isSome:=fun a m=>by
  rcases mem_cons.mp m with rfl|m
  ·show⟨fF _,by erw[g1];rfl⟩
  ·obtain rfl:a=s.heap.objs.size:=by simpa using m
   show⟨bo _,by erw[g0];rfl⟩
 have hn:h'.Ns1 s.heap.objs.size fun U=>none:=.of_empty ⟨_,#[],0,g0,rfl,fun U he=>by simp at he,fun U=>rfl⟩;show⟨eZ k (fun a m=>(fr a m).1) rfl rfl,S.pI k fr (by simp) ⟨_,_,rfl,g1,hn,fun y=>rfl⟩,by show bD ?_ S.len;simp⟩
theorem aM.make(G:Gd B){c f:Addr}{xs:List Str}{as:List LV}(F:cm B f fd body xs)(hm:gO (K B.w.params) c f=true)(hd:X.d≤300)(hl:as.length+1=xs.length)(hx:dY B (X.lL env fd) (xs.zip (.obj σ.length::as)) (σ++[.inst c []]) body fun fv ae σ'=>lK fv= .none∧P (.obj σ.length) σ'):aM B X env σ as (fun vs=>PySem.call (.ref c) vs) P:=fun C O hX ρ s E Q vs S qe R q=>by
 unfold gO at hm;simp only[Bool.and_eq_true,beq_iff_eq]at hm;show aA hm ?_;rintro⟨m1,m2⟩ m3;have Hv:=S.dy G;show wpAny_call (make_core (makes_of Hv m1) (looks_findIn Hv m2) (fun self=>bind_fn Hv self m3) (.inl rfl) ?_);show ju (mkS (c:=c) S) fun K1 S1 hc=>?_
 show codeAny_mono (Cu (P:=fun r σ'=>r= .none∧P (.obj σ.length) σ') G.toOk F hd (as:=.obj σ.length::as) (by simpa using hl) hx C O hX _ _ E (fun v s'=>v= .none∧Q (.ref (s.heap.objs.size+1)) s') (.ref (s.heap.objs.size+1)::vs) S1 (qe.since K1) (.cons ⟨_,hc,rfl⟩ (K1.gz S R)) ?_ _ ⟨rfl,by unfold Around.under;dsimp only;cases C.A.frames<;>rfl,by erw[depth_under_make ..];show Nat.lt_succ_self _,by erw[units_under_make ..];lia⟩) ?_
 ·rintro r σ' v ρ' s' zq;show aA zq ?_;rintro rfl p;rintro K' S' R';obtain rfl:=R';show⟨rfl,q _ _ _ ρ' s' p (K1.trans K') S' (⟨_,K'.ext.get hc,rfl⟩)⟩
 ·intro r s' z
  rcases r with e|(v|_|_|_)<;>first|show z|show z.elim
end
def iu(i j:Nat)(n q:Str)(c:Addr)(m:Value)(d:Value)(an:Option Addr):FuncData:={name:=n,qualname:=q,params:=xm (ay i j),body:=.stmts (aH (ay i j)),scope:=ai (ay i j),globals:=3,closure:=[],defaults:=d,kwdefaults:=.none,doc:=.none,pyModule:=m,annotations:=an,code:=.ref c,closureTuple:=.none,builtins:=0}
theorem rd(G:Gd B){i j:Nat}{c:Addr}{m:Value}{an:Option Addr}{xs:List Str}(h1:(K B.w.params).lookup a=some ⟨.type "function",none,.func (iu i j n q c m d an),#[]⟩)(h2:codeIn (K B.w.params) (.ref c) q=true)(h3:∀vs:List Value,vs.length=xs.length→∀s:Shared,(K B.w.params).In s.heap→BindsTo s (iu i j n q c m d an) ⟨vs,[]⟩ (xs.zip vs))(h4:xs.Nodup)(h5:(xs.all fun x=>decide ((ai (ay i j)).names.lookup x=some .local))=true)(h6:((ai (ay i j)).names.all fun y=>decide (y.2≠.cell))=true)(h7:((ai (ay i j)).isCoroutine=false∧(ai (ay i j)).isGenerator=false)∧(ai (ay i j)).kind= .function)(EW:∀m,cellsFrom m (ai (ay i j)).names []=[]):cm B a (iu i j n q c m d an) (aH (ay i j)) xs where
 at_:=⟨_,G.dy _ _ h1,rfl⟩
 code:=codeRec_of G.dy h2
 body:=rfl
 Fl:=rfl
 glob:=rfl
 blt:=rfl
 bind:=fun vs l s k=>h3 vs l s (G.dy.keeps k)
 nd:=h4
 kinds:=fun x hx=>.inl (by have:=List.all_eq_true.mp h5 x hx;show js this)
 co:=h7.1.1
 gen:=h7.1.2
 kind:=h7.2
 cells:=⟨[],.nil,fun m=>by show(?_:(cellsFrom m (ai (ay i j)).names []).map (·.1)=[]);erw[EW ..];rfl,fun x e=>by
  have:=List.all_eq_true.mp h6 _ (aj e)
  show absurd rfl (js this)⟩
theorem cb(G:Gd B){i j:Nat}{c:Addr}{m:Value}{an:Option Addr}{xs:List Str}(h1:(K B.w.params).lookup a=some ⟨.type "function",none,.func (iu i j n q c m .none an),#[]⟩)(h2:codeIn (K B.w.params) (.ref c) q=true)(h3:∀vs:List Value,vs.length=xs.length→bindArgs (iu i j n q c m .none an) ⟨vs,[]⟩=pure (xs.zip vs))(h4:xs.Nodup)(h5:(xs.all fun x=>decide ((ai (ay i j)).names.lookup x=some .local))=true)(h6:((ai (ay i j)).names.all fun y=>decide (y.2≠.cell))=true)(h7:((ai (ay i j)).isCoroutine=false∧(ai (ay i j)).isGenerator=false)∧(ai (ay i j)).kind= .function)(EW:∀m,cellsFrom m (ai (ay i j)).names []=[]):cm B a (iu i j n q c m .none an) (aH (ay i j)) xs:=
 rd G h1 h2 (fun vs l s U=>.of_eq (h3 vs l)) h4 h5 h6 h7 EW
abbrev jR:Value:=.str (oS "h2.frames") 1594
abbrev kJ:Value:=.str (oS "h2.frame_buffer") 1901
theorem yD(G:Gd B):cm B 853 (iu 22 2 (oS "__init__") (oS "Frame.__init__") 852 jR .none none) (aH (ay 22 2)) [oS "self",oS "stream_id"]:=
 cb G (by left) (by left) (fun vs h=>by(show fJ (fW h) ?_;rintro a b rfl);left) (by nofun) (by nofun) (by nofun) ⟨⟨by left,by left⟩,by left⟩ (fun m=>by left)
theorem yE(G:Gd B):cm B 1027 (iu 31 0 (oS "__init__") (oS "FrameBuffer.__init__") 1026 kJ (.ref 1020) none) (aH (ay 31 0)) [oS "self",oS "server"]:=
 rd G (by left) (by left) (fun vs h s X=>by
  show fJ (fW h) ?_;rintro a b rfl
  show binds_K (T:=1020) (o:=⟨.type "tuple",none,.seq #[.bool false] 0,#[]⟩) (items:= #[.bool false]) (n:=0) X rfl (by left) rfl rfl (by left)) (by nofun) (by nofun) (by nofun) ⟨⟨by left,by left⟩,by left⟩ (fun m=>by left)
section
variable{K:Frag}{c D:Addr}{ox:Obj}{od:Option Obj}
theorem class_get(X:K.In s.heap)(I:InstAt s.heap a ox c od)(hs:subIn K (.ref c) (.type "object")=some true)(hq:R (.ok (.ret (.ref c))) s):
  codeAny (model prog w) A (.call (.builtin "getset_descriptor.__get__") ⟨[.builtin "object.__class__",.ref a,.ref c],[]⟩) R s:=by
 have NX:s.TypeIs (.builtin "object.__class__") "getset_descriptor":=PySem.F.typeOf_object_class;have L0:=I.type (M:=model prog w);have L1:=looks_subIn (M:=model prog w) X hs;have L2:Looks (model prog w) s.heap (isInstance (.ref a) (.type "object")) true:=L0.andThen L1;show codeAny_call_builtin PySem.F.slot_gs_get.plain PySem.F.entry_gs_get (PySem.F.slot_gs_get.check _ _ _ _ _ _ _ _ NX (PySem.F.args_gs_get _ _ _) ?_);obtain⟨hh,g,d,t,os⟩:=s
 have e:Builtin.«getset_descriptor.__get__» ⟨[.builtin "object.__class__",.ref a,.ref c],[]⟩=(Builtin.Getset_descriptor.descrCheckInstance (.builtin "object.__class__") (.ref a)>>=fun U=>pure (Fin.again (.builtin "object.__class__" ⟨[.ref a],[]⟩))):=by left
 have own:Builtin.Getset_descriptor.descrOwnerAndName "object.__class__"=("object","__class__"):=by left
 have L3:Looks (model prog w) hh (Builtin.Getset_descriptor.descrCheckInstance (.builtin "object.__class__") (.ref a)) ():=by erw[own];show Looks.now.andThen (L2.andThen .now)
 erw[e];show V (L3.at ?_);show aG ⟨Code.quiet_builtin _ (by nofun),codeAny_builtin PySem.F.entry_object_class ?_⟩
 repeat lk
 show hq
noncomputable def fG(K:Frag)(c:Addr):Bool:=mF K c&&findIn K (.ref c) "__getattr__"==some none&&subIn K (.ref c) (.type "object")==some true&&(clsIn K c).isSome&&findIn K (.ref c) "__class__"==some (some (.builtin "object.__class__"))&&
 specialIn K (.builtin "object.__class__") "__get__"==some (some (.builtin "getset_descriptor.__get__"))&&takesIn K (.builtin "object.__class__")==some true
theorem ti(X:K.In s.heap)(I:InstAt s.heap a ox c od)(hs:fG K c=true){Q:Option Value→Shared→Prop}(hq:Q (some (.ref c)) {s with toks:=s.toks+1}):wpAny (model prog w) A (getAttr? (.ref a) "__class__") Q E s:=by
 unfold fG at hs;simp only[Bool.and_eq_true,beq_iff_eq]at hs;show aA hs ?_;rintro⟨⟨⟨⟨⟨h1,h2⟩,h3⟩,h4⟩,h5⟩,h6⟩ h7;show av (iA h4) fun cd hc=>?_
 have hf:findObj K c od "__class__"=some (.bind (.builtin "getset_descriptor.__get__") (.builtin "object.__class__")):=by unfold findObj;erw[hc,Option.bind_some ..,h5,Option.bind_some ..];show bindS h6 ?_;show bindS h7 ?_;rfl
 obtain⟨hh,g,d,t,os⟩:=s;have L0:=I.type (M:=model prog w);have L1:=looks_findIn (M:=model prog w) X (jP h1);have L3:=looks_find (M:=model prog w) X I hf;have L4:=looks_findIn (M:=model prog w) X h2;show V (wpAny_mkText (V (wpAny_attempt ?_)));show eT (V (L0.at (V (L1.at ?_))));show V (wpAny_onRaise (wpAny_runValue (codeAny_builtin PySem.F.plainObj_entry_getattr_hooked ?_)));show V (aG (V (L0.at (V (L3.at (V (L4.at ?_)))))));show V (eT (wpAny_call (class_get (s:=⟨hh,g,d,t+1,os⟩) X I h3 ?_)));show aG (aG (aG hq))
def cg(K:Frag)(c D:Addr)(b:Bool):Bool:=(clsIn K D).isSome&&typeIn K (.ref D)==some (.type "type")&&instIn K (.ref D) (.type "type")==some true&&subIn K (.ref c) (.ref D)==some b&&fG K c&&(b||c !=D)
theorem jS(X:K.In h)(e:(clsIn K c).isSome=true):Looks M h (isType (.ref c)) true:=by
 unfold clsIn at e
 split at e
 ·rename_i ho;intro A Q E s k q;show V (nd_load (k _ _ (X _ _ ho)) (nd_pure (aG q)))
 ·right
theorem rf{b:Bool}{dep:Int}(hk:cg K c D b=true)(X:K.In s.heap)(I:InstAt s.heap a ox c od){Q:Fin→Shared→Prop}(hq:∀Fw,Q (.done (.ret (.bool b))) {s with toks:=Fw}):
  wpAny (model prog w) A (Builtin.«isinstance.nested» ⟨[.ref a,.ref D,.int dep tk],[]⟩) Q E s:=by
 unfold cg at hk;simp only[Bool.and_eq_true,beq_iff_eq]at hk;show aA hk ?_;clear hk;rintro⟨⟨⟨⟨e0,e1⟩,e2⟩,e3⟩,e4⟩ e5;obtain⟨hh,g,d,t,os⟩:=s;have ht:=I.type (M:=model prog w);have L1:=looks_typeIn (M:=model prog w) X e1;have L3:Looks (model prog w) hh (isInstance (.ref a) (.ref D)) b:=ht.andThen (looks_subIn X e3);have L4:Looks (model prog w) hh (isSubtype (.ref c) (.ref D)) b:=looks_subIn X e3;show V (ht.at ?_)
 by_cases q:(Value.ref c==Value.ref D)=true
 ·erw[aJ q]
  have:b=true:=by
   induction b using Bool.casesOn with
   |true=>rfl
   |false=>rw[Bool.false_or]at e5;have:=beq_iff_eq.mp q;injection this with z;subst z;simp at e5
  subst this;show V (wpAny_rule (V (aG (aG (hq _)))))
 ·erw[ax q];show V (L1.at ?_);erw[aJ (by decide)]
  k_delta "plainIsInstance"
  repeat lk
  unfold clsIn at e0
  split at e0
  ·rename_i ho;show nd_load (X _ _ ho) (nd_pure (aG ?_));simp only[Bool.not_true,Bool.false_eq_true,if_false];show V (L3.at ?_)
   induction b using Bool.casesOn with
   |true=>show aG (aG (hq _))
   |false=>simp only[Bool.false_eq_true,if_false];show V (ti (s:=⟨hh,g,d,t,os⟩) X I e4 ?_);show V ((jS (M:=model prog w) (h:=hh) X (by unfold fG at e4;simp only[Bool.and_eq_true]at e4;show e4.1.1.1.2)).at ?_);simp only[Bool.not_true,Bool.false_eq_true,if_false];show V (wpAny_rule ?_);show L4.at ?_;show aG (hq _)
  ·right
def uE(K:Frag)(a c:Addr)(s:Shared):Prop:=K.In s.heap∧∃ox od,InstAt s.heap a ox c od
theorem uF{b:Bool}(hk:cg K c D b=true):Answers (uE K a c) (.ref a) (.ref D) b:=fun dep tk prog w A R s hs=>by show aA hs ?_;rintro⟨X,ox,od,I⟩ hq;show rf hk X I hq
end
theorem vV{P:Shared→Prop}(hP:∀s tk,P s→P {s with toks:=tk}){x:Value}{tp:Addr}{o:Obj}{n:Nat}{cs:List Value}{vs:List Bool}{Q:Fin→Shared→Prop}(hx:Looks (model prog w) s.heap (typeOf x) T)(jn:(T== .ref tp)=false)(ho:s.heap.get? tp=some o)(hc:o.cls= .type "tuple")(hd:o.data= .seq cs.toArray n)(ha:AnswersAll P x cs vs)(hs:P s)(hq:∀Fw,Q (.done (.ret (.bool (vs.any id)))) {s with toks:=Fw}):wpAny (model prog w) A (Builtin.«isinstance.nested» ⟨[x,.ref tp,.int 0 tk],[]⟩) Q E s:=by
 obtain⟨h,g,d,t,os⟩:=s;have PC:(⟨h,g,d,t,os⟩:Shared).TypeIs (.ref tp) "tuple":=⟨_,ho,hc⟩;have f1:=PySem.F.isi_sub_tuple;show V (hx.at ?_);erw[ax (by show aD ?_ jn;decide)]
 repeat(any_goals(first|assumption|wp_step))
 erw[hd];show aG ?_;show(?_:wpAny _ _ (forIn cs.toArray _ _>>=_) _ _ _);show V (wpAny_arrayLoop (hle:=Nat.le_refl _) ?_);simp only[List.toList_toArray];show isinstance_items (dep:=0) hP cs vs _ _ ha hs fun Fw=>?_
 cases hv:vs.any id with
 |true=>simp only[if_true];show aG (hv▸hq Fw)
 |false=>simp only[Bool.false_eq_true,if_false];show aG (hv▸hq Fw)
theorem aM.CC(G:Gd B){id:Nat}{c D:Addr}{b:Bool}(e:σ[id]? =some (.inst c fs))(hk:cg (K B.w.params) c D b=true)(h:P (.bool b) σ):aM B X env σ [.obj id,.gl (.ref D)] (fun vs=>PySem.call (.builtin "isinstance") vs) P:=fun C O hX ρ s E Q vs S qe R q=>by
 show bb R ?_;rintro v dX rfl rx R;show bb R ?_;rintro y dX rfl ry R;subst R;obtain rfl:=ry;show jv (S.inst rx e) ?_;rintro a d m od rfl I;show call_isinstance (S:=fun U R s=>(uE (K B.w.params) a c s)∧∀tk,R (.ok (.ret (.bool b))) {s with toks:=tk}) (fun U U U U U hs=>?_) ⟨⟨S.dy G,_,_,I.inst⟩,fun tk=>?_⟩
 ·show aA hs ?_;rintro⟨X,ox,od,I⟩ hq;show isinstance_outer (rf hk X I hq)
 ·show q _ σ _ ρ _ h (.rr rfl rfl rfl) S rfl
theorem aM.J3(G:Gd B){id:Nat}{c D1 D2:Addr}{b1 b2:Bool}(e:σ[id]? =some (.inst c fs))(hk:cg (K B.w.params) c D1 b1=true)(Fx:cg (K B.w.params) c D2 b2=true)(h:P (.bool (b1 ||b2)) σ):
  aM B X env σ [.obj id,.tup [.gl (.ref D1),.gl (.ref D2)]] (fun vs=>PySem.call (.builtin "isinstance") vs) P:=fun C O hX ρ s E Q vs S qe R q=>by
 show bb R ?_;clear R;rintro v dX rfl rx R;show bb R ?_;clear R;rintro y dX rfl ry R;subst R;show bY ry ?_;clear ry;rintro ta cs rfl U ht rc;show bb rc ?_;clear rc;rintro v1 cs rfl rfl rc;show bb rc ?_;clear rc;rintro v2 cs rfl rfl rc;subst rc;show jv (S.inst rx e) ?_;rintro a d m od rfl I;show av ht ?_;clear ht;rintro o hZ;show aA hZ ?_;clear hZ;rintro ho hZ;show aA hZ ?_;clear hZ;rintro hc hZ;show av hZ ?_;clear hZ;rintro n hd;show call_isinstance (S:=fun U R s=>(uE (K B.w.params) a c s∧s.heap.get? ta=some o)∧∀tk,R (.ok (.ret (.bool (b1 ||b2)))) {s with toks:=tk}) (fun U U U U U hs=>?_) ⟨⟨⟨S.dy G,_,_,I.inst⟩,ho⟩,fun tk=>?_⟩
 ·show aA hs ?_;clear hs;rintro⟨I,ho⟩ hq;show isinstance_outer (vV (P:=uE (K B.w.params) a c) (T:=.ref c) (vs:=[b1,b2]) (fun U U h=>h) (by(show aA I ?_;clear I;rintro U hZ;show fJ hZ ?_;clear hZ;rintro U U I);show I.type) ?_ ho hc hd ⟨uF hk,uF Fx,trivial⟩ I (by simpa using hq));rw[beq_eq_false_iff_ne];rintro zq;obtain⟨⟩:=zq;show aA I ?_;clear I;rintro X hZ;show fJ hZ ?_;clear hZ;rintro U U I;unfold cg fG at hk;simp only[Bool.and_eq_true]at hk;have h4:=hk.1.2.1.1.1.2;unfold clsIn at h4
  split at h4
  ·rename_i q;replace ho:=X _ _ q▸ho
   injection ho with z;subst z
   right
  ·right
 ·show q _ σ _ ρ _ h (.rr rfl rfl rfl) S rfl
set_option tactic.hygienic true
theorem tj(t:SetTable)(es:Array (Int×Value))(h:Int)(x:Value):(layNew t es h x).2.1.led=t.led:=by
 unfold layNew
 split
 ·show(?_:(SetTable.orStandIn _ _).led=t.led);unfold SetTable.orStandIn
  split<;>rfl
 ·rfl
theorem pJ(t:SetTable)(es:Array (Int×Value))(n:Nat):(relayAll t es n).2.1.led=t.led:=by
 unfold relayAll
 split
 ·rename_i t' order h
  have:t'.led=t.led:=by unfold SetTable.relaid SetTable.laid at h;show aa (iO h) fun ow h1 h2=>?_;cases h2;rfl
  dsimp only
  split
  ·show this
  ·rfl
 ·rfl
theorem mH{t:SetTable}{es:Array (Int×Value)}{n:Nat}(e:t.plain=false):(relayAll t es n).2.1.plain=false:=by
 unfold relayAll
 split
 ·rename_i t' order h
  have:t'.plain=t.plain:=by unfold SetTable.relaid SetTable.laid at h;show aa (iO h) fun ow h1 h2=>?_;cases h2;rfl
  dsimp only
  split
  ·show this.trans e
  ·rfl
 ·rfl
theorem mI{o:Obj}{es fL:Array (Int×Value)}{ep:Nat}{t':SetTable}{S:Str→Bool}(ho:h.get? a=some o)(hex:o.ExactSet)(hd:o.data= .set es ep t)(Ar:ElemsOf (PySem.strKind prog w) fL.toList)(sq:∀k,S k=true↔∃e∈fL.toList,(PySem.strKind prog w).is k e.2=true)(hb:fL.size<scanBound)(hf:t'.fits fL.size=true)(hl:t'.led=true∨w.params.followText "set-order"=true)(hp:t'.plain=false):
  (h.update a (Obj.putSet fL t')).get? a=some {o with data:=.set fL (ep+1) t'}∧(h.update a (Obj.putSet fL t')).SetOf (PySem.strKind prog w) a S fL.size∧ky w (h.update a (Obj.putSet fL t')) a:=by
 show aA (SetOf_store (knd:=PySem.strKind prog w) ho hex hd Ar sq hb hf) fun h1 h2=>?_;show⟨h1,h2,_,fL,ep+1,t',h1,rfl,hl,fun z=>by replace z:=hp▸z;right⟩
theorem tn{S:Str→Bool}{n:Nat}{Q:Bool→Shared→Prop}(hS:s.heap.SetOf (PySem.strKind prog w) a S n)(hL:ky w s.heap a)(kj:n+1<scanBound)(h:∀h',Heap.SameBut a s.heap h'→h'.SetOf (PySem.strKind prog w) a (fun k'=>S k'||decide (k'=k)) (if S k then n else n+1)→ky w h' a→Q (!S k) {s with heap:=h'}):
  wpAny (model prog w) A (setAddHashed a (.str k tk) ((PySem.strKind prog w).hash k)) Q E s:=by
 have Ac:(PySem.strKind prog w).is k (.str k tk)=true:=beq_self_eq_true k;show Dg hS fun o es ep t ho hex hd Ar sq hb hf hn=>?_;show nJ hL fun o' fL NY t' eN du led pl=>?_
 replace eN:=ho▸eN;injection eN with z;subst z
 replace du:=hd▸du;injection du with z w x;subst z;subst w;subst x
 unfold setAddHashed setAddHashedIn;show eT (V (wpAny_setState_of ho hd hf ?_))
 try dsimp only
 erw[byScan_of rfl hb Ar,aJ rfl];unfold setAddByScan;show V (V (wpAny_rule (V (wpAny_setScan_of Ac ho hd hf Ar ?_))))
 cases hr:findIdx? (fun e=>(PySem.strKind prog w).is k e.2) es.toList with
 |some j=>
  show aa (findIdx?_eq_some_iff_getElem.mp hr) fun hj NZ U=>?_;have Hw:S k=true:=(sq k).mpr ⟨es.toList[j],getElem_mem hj,NZ⟩
  have q:=h s.heap (Heap.SameBut.refl a s.heap) ⟨o,es,ep,t,ho,hex,hd,Ar,fun k'=>by
   erw[Bool.or_eq_true ..,decide_eq_true_eq];rw[←sq k']
   show⟨fun hk=>hk.elim (fun z=>z) (fun e=>e▸Hw),.inl⟩,hb,hf,by erw[Hw];show hn⟩ ⟨o,es,ep,t,ho,hd,led,pl⟩
  replace q:=Hw▸q;show aG (aG q)
 |none=>
  have Hw:S k=false:=by
   cases hk:S k with
   |false=>rfl
   |true=>show aa ((sq k).mp hk) fun e he hp=>?_;have:=findIdx?_eq_none_iff.mp hr e he;replace this:=hp▸this;right
  have nA:=layNew_perm t es ((PySem.strKind prog w).hash k) (.str k tk);have vd:=layNew_fits t es ((PySem.strKind prog w).hash k) (.str k tk);have Cc:=tj t es ((PySem.strKind prog w).hash k) (.str k tk);dsimp only;generalize layNew t es ((PySem.strKind prog w).hash k) (.str k tk)=L at nA vd Cc⊢;obtain⟨kv,t1,wasDummy,gave⟩:=L;dsimp only at nA vd Cc⊢;replace nA:=Array.toList_push▸nA;have Hx:ElemsOf (PySem.strKind prog w) kv.toList:=(Ar.push Ac rfl).perm nA;have CT:=mem_push_iff Ac sq nA
  have Hy:kv.size=n+1:=by(show bD ?_ Array.length_toList;erw[nA.length_eq,length_append,Array.length_toList,hn]);rfl
  have fM:kv.size<scanBound:=by erw[Hy];show kj
  have say:∀(b:Bool) {s₁:Shared} {Q':sF},Q' () s₁→wpAny (model prog w) A (match b with|true=>rule "set.scan.the-table-gave-way"|false=>pure ()) Q' E s₁:=fun b s₁ Q' q=>by
   cases b
   ·show aG q
   ·show wpAny_rule q
  have fin:∀t2:SetTable,t2.fits kv.size=true→t2.led=t.led→t2.plain=false→wpAny (model prog w) A (do
    storeSet a kv t2
    if(!wasDummy&&t2.tooFull)=true then do
      (match(relayAll t2 kv (SetTable.grown kv.size)).2.2 with|true=>rule "set.scan.the-table-gave-way"|false=>pure ())
      storeSet a (relayAll t2 kv (SetTable.grown kv.size)).1 (relayAll t2 kv (SetTable.grown kv.size)).2.1
      pure (some true)
     else pure (some true)) (fun r s'=>wpAny (model prog w) A (match r with|some added=>pure added|none=>setAddHashedIn a (.str k tk) ((PySem.strKind prog w).hash k) 99999) Q E s') E s:=fun t2 f2 l2 p2=>by
   have Hz:t2.led=true∨w.params.followText "set-order"=true:=by erw[l2];show led
   show ju (mI (prog:=prog) (w:=w) ho hex hd Hx CT fM f2 Hz p2) fun g1 S1 L1=>?_;have My:=Heap.SameBut.update s.heap a (Obj.putSet kv t2)
   have HA:∀h',Heap.SameBut a s.heap h'→h'.SetOf (PySem.strKind prog w) a (fun k'=>S k'||decide (k'=k)) kv.size→ky w h' a→Q true {s with heap:=h'}:=fun h' q1 q2 q3=>by have q:=h h' q1;replace q:=Hw▸q;replace q2:=Hy▸q2;show q q2 q3
   show V (wpAny_storeSet_of ho hd ?_ (fits_of_scanBound fM))
   split
   ·have Fy:=relayAll_perm t2 kv (SetTable.grown kv.size);have KH:=relayAll_fits t2 kv (SetTable.grown kv.size);have sH:=pJ t2 kv (SetTable.grown kv.size);have EY:=mH (es:=kv) (n:=SetTable.grown kv.size) p2;generalize relayAll t2 kv (SetTable.grown kv.size)=R at Fy KH sH EY⊢;obtain⟨zY,t3,gave2⟩:=R;dsimp only at Fy KH sH EY⊢;have HC:∀k',(S k'||decide (k'=k))=true↔∃e∈zY.toList,(PySem.strKind prog w).is k' e.2=true:=fun k'=>(CT k').trans ⟨fun⟨e,he,q⟩=>⟨e,Fy.mem_iff.mpr he,q⟩,fun⟨e,he,q⟩=>⟨e,Fy.mem_iff.mp he,q⟩⟩
    have Cd:zY.size=kv.size:=by(show bD ?_ Array.length_toList;erw[Fy.length_eq];show aD rfl Array.length_toList)
    have jr:zY.size<scanBound:=by erw[Cd];show fM
    show V (say _ (V (wpAny_storeSet_of g1 rfl ?_ (fits_of_scanBound jr))));show ju (mI (prog:=prog) (w:=w) (o:={o with data:=.set kv (ep+1) t2}) g1 hex rfl (Hx.perm Fy) HC jr KH (by erw[sH];show Hz) EY) ?_;rintro U S2 L2;replace S2:=Cd▸S2;show aG (aG (HA _ (My.trans (Heap.SameBut.update _ a _)) S2 L2))
   ·show aG (aG (HA _ My S1 L1))
  show V (say _ ?_)
  cases hp:t1.plain with
  |true=>erw[aJ rfl,hashByValue_scannable 8 rfl];show V (aG ?_);show fin _ (SetTable.fits_plain_off vd) Cc rfl
  |false=>erw[ax (by decide)];show V (aG ?_);show fin _ vd Cc hp
noncomputable abbrev cI(w:World):Obj:={cls:=.type "set",dict:=none,data:=.set #[] 0 (.fresh 0 0 (!w.params.followText "set-order"))}
theorem rg{Q₁:VP}(h:Q₁ (.ref s.heap.objs.size) {s with heap:=s.heap.push (cI w)}):codeAny (model prog w) A (.call (.builtin "set.__new__") ⟨[.type "set"],[]⟩) (wants Q₁ E) s:=by
 show codeAny_of_tree ?_;show(?_:wpAny _ A.in1 (do checkBuiltinCall "set.__new__" ⟨[.type "set"],[]⟩;again (.builtin "set.__new__" ⟨[.type "set"],[]⟩)) _ _ s);show V (eA PySem.F.newCall_set_0 (aG ⟨plainId_quiet PySem.F.plain_set_new _,codeAny_builtin PySem.F.entry_set_new ?_⟩));erw[Around.under_plainId PySem.F.plain_set_new _];unfold Builtin.«set.__new__» Builtin.Frozenset.newClass;have eR:=sub_set_self;obtain⟨hp,g,d,tk,os⟩:=s
 try dsimp only
 wp_walk
 show wpAny_askSetting (aG ?_)
 try dsimp only
 simp only[newObj];show V (wpAny_alloc (aG (aG h)))
theorem rh(h:Q (.ref s.heap.objs.size) {s with heap:=s.heap.push (cI w)}):wpAny (model prog w) A (call (.type "set") []) Q E s:=by
 show fJ PySem.F.called_set.mro fun c tl N0=>?_;have Mz:=PySem.F.called_set.made;have eR:=PySem.F.called_set.sub;show wpAny_call (codeAny_of_tree ?_);show(?_:wpAny _ _ (callAny (.type "set") _) _ _ _);show aG ⟨Code.quiet_builtin _ (by nofun),codeAny_builtin PySem.F.entry_type_call ?_⟩;erw[Around.under_plain (weight_type_call_type "set" [] []) rfl];have h1:=PySem.F.called_set.notType;have h2:=PySem.F.called_set.canCreate;have HD:=PySem.F.typeCall_set_0
 repeat(any_goals(first|assumption|wp_step))
 show codeAny_mono (rg (E:=E) (Q₁:=fun obj s₁=>obj= .ref s.heap.objs.size∧s₁={s with heap:=s.heap.push (cI w)}) ⟨rfl,rfl⟩) fun r s₁ hr=>?_
 rcases r with e|(obj|_|_|_)<;>first|show hr|show hr.elim|skip
 show aA hr ?_;rintro rfl rfl;have hS:(s.heap.push (cI w)).get? s.heap.objs.size=some (cI w):=gh _ rfl;have hT:Shared.TypeIs {s with heap:=s.heap.push (cI w)} (.ref s.heap.objs.size) "set":=⟨_,hS,rfl⟩;have PD:=PySem.F.called_set.init.lookup;have PE:=PySem.F.called_set.init.bind (.ref s.heap.objs.size)
 repeat(any_goals(first|assumption|wp_step))
 show codeAny_mono (codeAny_call_builtin (R:=wants (fun r s₂=>r= .none∧Q (.ref s.heap.objs.size) s₂) E) PySem.F.called_set.init.plain PySem.F.entry_set_init (check_set_init hT ?_)) fun r₂ s₂ KI=>?_
 ·unfold Builtin.«set.__init__» noKeywords
  wp_walk
  show⟨rfl,h⟩
 ·rcases r₂ with e|(r|_|_|_)<;>first|show KI |show KI.elim|skip
  show aA KI ?_;rintro rfl hq
  repeat(any_goals(first|assumption|wp_step))
theorem aM.D5(h:P (.obj σ.length) (σ++[.set []])):aM B X env σ [] (fun vs=>PySem.call (.type "set") vs) P:=fun C O hX ρ s E Q vs S qe R q=>by
 have R:_=[]:=R;subst R;have g:=gh (o:=cI B.w) s.heap rfl;have K1:Kept C ρ s (ρ++[(s.heap.objs.size,[])]) {s with heap:=s.heap.push (cI B.w)}:=cU rfl rfl rfl
 have S1:St B C (ρ++[(s.heap.objs.size,[])]) env (σ++[.set []]) (s.heap.push (cI B.w)):=S.fA rfl ⟨rfl,.nil,⟨_,#[],0,_,g,⟨rfl,rfl,rfl⟩,rfl,fun e he=>by simp at he,fun k=>by simp,by decide,rfl,rfl⟩,_,#[],0,_,g,rfl,by
  show(?_:(!B.w.params.followText "set-order")=true∨_)
  cases B.w.params.followText "set-order"<;>simp,fun U=>rfl⟩
 show rh (q _ _ _ _ _ h K1 S1 (by show⟨(s.heap.objs.size,[]),by show bD ?_ S.len;simp,rfl⟩))
theorem St.set(S:St B C ρ env σ h){id:Nat}{l:List Str}{x:Value}(r:Rep h ρ (.obj id) x)(e:σ[id]? =some (.set l)):
  ∃a,ρ[id]? =some (a,[])∧x= .ref a∧l.Nodup∧h.SetOf (sk B.w) a (fun k=>l.contains k) l.length∧ky B.w h a:=by
 show aa r ?_;rintro⟨a,c2⟩ hc rfl;show qA (S.iR id _ _ e hc) fun q1 q2 q3 q4=>?_;obtain rfl:c2=[]:=q1;show FN a hc rfl q2 q3 q4
theorem mJ{t:Tok}:(sk w).is k (.str k t)=true:=beq_self_eq_true k
theorem aM.inSet{id:Nat}{l:List Str}(e:σ[id]? =some (.set l))(h:P (.bool (l.contains k)) σ):aM B X env σ [.str k,.obj id] (bK (compareOp .In)) P:=fun C O hX ρ s E Q vs S qe R q=>by show bb R ?_;rintro v dX rfl ⟨t,rfl⟩ R;show bb R ?_;rintro y dX rfl ry R;have R:_=[]:=R;subst R;show oY (S.set ry e) ?_;rintro a hc rfl nd hS hL;show wpAny_inSet_of (mJ (w:=B.w)) rfl hS (q _ σ _ ρ _ h (.rr rfl rfl rfl) S rfl)
theorem aM.rj{id:Nat}{l:List Str}(e:σ[id]? =some (.set l))(h:P (.bool (!l.contains k)) σ):aM B X env σ [.str k,.obj id] (bK (compareOp .NotIn)) P:=fun C O hX ρ s E Q vs S qe R q=>by show bb R ?_;rintro v dX rfl ⟨t,rfl⟩ R;show bb R ?_;rintro y dX rfl ry R;have R:_=[]:=R;subst R;show oY (S.set ry e) ?_;rintro a hc rfl nd hS hL;show wpAny_notInSet_of (mJ (w:=B.w)) rfl hS (q _ σ _ ρ _ h (.rr rfl rfl rfl) S rfl)
noncomputable def dg(l:List Str)(k:Str):List Str:=if l.contains k then l else l++[k]
theorem aM.setAdd{id:Nat}{l:List Str}(e:σ[id]? =some (.set l))(hz:l.length≤100)(h:P .none (σ.set id (.set (dg l k)))):aM B X env σ [.obj id,.str k] (fun vs=>PySem.call (.builtin "set.add") vs) P:=fun C O hX ρ s E Q vs S qe R q=>by
 show bb R ?_;rintro y dX rfl ry R;show bb R ?_;rintro v dX rfl ⟨t,rfl⟩ R;have R:_=[]:=R;subst R;show oY (S.set ry e) ?_;rintro a hc rfl nd hS hL;show wpAny_call_entry PySem.F.slot_set_add hS.typeIs PySem.F.entry_set_add ?_ (PySem.F.args_set_add_2 _ _);unfold Builtin.«set.add» Builtin.Frozenset.oneOther;simp only[isEmpty_nil,bind_assoc];unfold Builtin.Frozenset.addrOf PySem.setAdd;show V (aG ?_)
 try dsimp only
 show V (aG ?_)
 try dsimp only
 show V (eT (V ((sk B.w).pyHash (mJ (w:=B.w)) ?_)));show tn (s:={s with toks:=s.toks+1}) hS hL (by unfold scanBound;lia) fun h' sb S' L'=>?_;show(?_:wpAny _ _ (ret Value.none) _ _ _)
 have al:(h'.get? a).isSome:=by(show jv L' fun o U U U ho U=>?_);erw[ho];rfl
 have K1:Kept C ρ s ρ {s with heap:=h',toks:=s.toks+1}:=dN (s':={s with heap:=h',toks:=s.toks+1}) hc (.head _) sb al rfl rfl;show aG ⟨_,rfl,q _ _ _ ρ _ h K1 (S.kA (o:=.set (dg l k)) hc (.head _) sb al ⟨rfl,?_,?_,L'⟩) rfl⟩
 ·unfold dg
  split
  ·show nd
  ·rename_i hk;show nodup_append.mpr ⟨nd,by simp,fun x hx y hy z=>?_⟩
   obtain rfl:y=k:=by simpa using hy
   subst z;show hk (by simpa using hx)
 ·have e1:(fun k'=>l.contains k'||decide (k'=k))=fun k'=>(dg l k).contains k':=by
   funext k'
   unfold dg
   split
   ·rename_i hk
    by_cases z:k'=k
    ·subst z;erw[hk];rfl
    ·erw[decide_eq_false z];show aD rfl (Bool.or_false ..)
   ·erw[contains_append]
    congr 1
    by_cases z:k'=k<;>simp[z]
  have e2:(if l.contains k=true then l.length else l.length+1)=(dg l k).length:=by unfold dg;split<;>simp
  show bD ?_ e1;show bD ?_ e2;show S'
set_option backward.match.sparseCases true
theorem bW:Slot "set_iterator" "__next__" "set_iterator.__next__":=
 .of (owner:="set_iterator") (n:="__next__") (by(erw[nF ..,nE]);left) (by nofun) (by nofun) (by nofun) (by first|show .inl (by decide+kernel)|show .inr (by decide+kernel)) (by erw[isSubtype_type ..];left)
theorem fj:entryFor table "set_iterator.__next__"=some Builtin.«set_iterator.__next__»:=entryFor_of_tree (by left)
theorem fY(a:Value):argsOk "set_iterator.__next__" ⟨[a],[]⟩:=by unfold argsOk;left
theorem mK:entryFor table "set.__iter__"=some Builtin.«frozenset.__iter__»:=entryFor_alias (id':="frozenset.__iter__") (by left) rfl (by nofun) (by left)
theorem jT:Slot "set_iterator" "__iter__" "set_iterator.__iter__":=
 .of (owner:="set_iterator") (n:="__iter__") (by(erw[nF ..,nE]);left) (by nofun) (by nofun) (by nofun) (by first|show .inl (by decide+kernel)|show .inr (by decide+kernel)) (by erw[isSubtype_type ..];left)
theorem nP:entryFor table "set_iterator.__iter__"=some Builtin.«dict_keyiterator.__iter__»:=entryFor_alias (id':="dict_keyiterator.__iter__") (by left) rfl (by nofun) (by left)
theorem pK(a:Value):argsOk "set_iterator.__iter__" ⟨[a],[]⟩:=by unfold argsOk;left
theorem pL{src:Source}{n:Nat}{Q:Nat→Shared→Prop}(hn:n≠0)(h:∀i s',i<n→s'.heap=s.heap→s'.gens=s.gens→s'.os=s.os→s'.toks=s.toks→Q i s'):wpAny M A (choose src n) Q E s:=
 fun Γ p hΓ=>⟨hn,h _ _ (Nat.mod_lt _ (Nat.pos_of_ne_zero hn)) rfl rfl rfl rfl⟩
theorem i8{α:Type}{l:List α}:∀{i:Nat} (h:i<l.length),(l[i]::l.eraseIdx i).Perm l:=by
 induction l with
 |nil=>intro i h;right
 |cons a r ih=>
  intro i h
  cases i with
  |zero=>show .refl _
  |succ i=>show(Perm.swap _ _ _).trans ((ih (Nat.lt_of_succ_lt_succ h)).cons a)
theorem lh{α:Type}(next:Nat→Nat)(fuel:Nat):∀(k:Nat) (left:List α) (out:Array α),left.length≤fuel→(pickOrder.go next fuel k left out).toList.Perm (out.toList++left):=by
 induction fuel with
 |zero=>intro k left out h;obtain rfl:=length_eq_zero_iff.mp (Nat.le_zero.mp h);show(?_:Perm out.toList _);simp
 |succ fuel ih=>
  intro k left out h;show(?_:Perm (match left[next k % left.length]? with|some x=>pickOrder.go next fuel (k+1) (left.eraseIdx (next k % left.length)) (out.push x)|none=>out).toList _)
  cases e:left[next k % left.length]? with
  |some x=>show av (dU e) fun hi hx=>?_;show(ih (k+1) _ _ (by erw[length_eraseIdx_of_lt hi];ac_rfl)).trans ?_;erw[Array.toList_push,append_assoc ..];show Perm.append_left _ ?_;show bD ?_ hx;show i8 hi
  |none=>
   have:left=[]:=by
    induction left using List.casesOn with
    |nil=>rfl
    |cons a r=>rw[n4 (Nat.mod_lt _ (by show Nat.succ_pos _))]at e;right
   subst this;simp
theorem eJ{α:Type}(next:Nat→Nat)(xs:Array α):(pickOrder next xs).toList.Perm xs.toList:=lh next xs.size 0 xs.toList #[] (Nat.le_refl _)
theorem gp{α:Type}{n:Nat}:∀{xs:List α} {s:Shared} {Q:List α→Shared→Prop},xs.length≤n→(∀ys s',ys.Perm xs→s'.heap=s.heap→s'.gens=s.gens→s'.os=s.os→s'.toks=s.toks→Q ys s')→wpAny M A (drawOrder n xs) Q E s:=by
 induction n with
 |zero=>intro xs s Q hl h;obtain rfl:=length_eq_zero_iff.mp (Nat.le_zero.mp hl);show aG (h _ _ .nil rfl rfl rfl rfl)
 |succ n ih=>
  intro xs s Q hl h
  cases xs with
  |nil=>show aG (h _ _ .nil rfl rfl rfl rfl)
  |cons x r=>show V (pL (by simp) fun i s1 hi e1 e2 e3 e4=>?_);erw[n4 hi];show V (ih (by erw[length_eraseIdx_of_lt hi];ac_rfl) fun ys s2 hp f1 f2 f3 f4=>?_);show aG (h _ _ ((hp.cons _).trans (i8 hi)) (f1.trans e1) (f2.trans e2) (f3.trans e3) (f4.trans e4))
noncomputable abbrev e8(f:Value)(i:Nat)(a:Addr)(n ep:Nat):Obj:={cls:=.type "set_iterator",data:=.fields #[f,.int i 0,.ref a,.int n 0,.int ep 0]}
section
variable{I:Addr}{o:Obj}{es:Array (Int×Value)}{ep:Nat}{t:SetTable}
theorem yF{slot i nx:Nat}{x:Value}{Q:Option Value→Shared→Prop}(ho:s.heap.get? a=some o)(hd:o.data= .set es ep t)(hf:t.fits es.size=true)(hI:s.heap.get? I=some (e8 (.int slot 0) i a es.size ep))(HE:∀A E Q,Q (some (x,nx)) s→wpAny (model prog w) A (setNext a slot i ep) Q E s)(h:∀h',Heap.SameBut I s.heap h'→h'.get? I=some (e8 (.int nx 0) (i+1) a es.size ep)→Q (some x) {s with heap:=h'}):wpAny (model prog w) A (pyNext (.ref I)) Q E s:=by have hT:s.TypeIs (.ref I) "set_iterator":=⟨_,hI,rfl⟩;unfold pyNext;show V (wpAny_attempt (wpAny_callSpecial?_slot (name:=Str.ofString "__next__") hT bW (wpAny_call_entry bW hT fj ?_ (fY _))));show(?_:wpAny _ _ (fieldsOf (.ref I)>>=_) _ _ s);show V (wpAny_fieldsOf hI rfl ?_);show(?_:wpAny _ _ (setEntries a>>=_) _ _ s);show V (wpAny_setEntries_of ho hd hf ?_);erw[ax (by simp)];show(?_:wpAny _ _ (setNext a (Int.toNat slot) (Int.toNat i) (Int.toNat ep)>>=_) _ _ s);simp only[Int.toNat_natCast];show V (HE _ _ _ ?_);show(?_:wpAny _ _ (setField (.ref I) 0 (.int nx 0)>>=_) _ _ s);show V (wpAny_setField hI rfl (Nat.succ_pos _) ?_);have h1:(s.heap.update I (Obj.mapFields (·.setIfInBounds 0 (.int nx 0)))).get? I=some (e8 (.int nx 0) i a es.size ep):=Heap.get?_update_self _ hI rfl;show V (wpAny_setField h1 rfl (by simp) ?_);have h2:=Heap.get?_update_self (Obj.mapFields (·.setIfInBounds 1 (.int ((i:Int)+1) 0))) h1 rfl;show aG ⟨x,rfl,aG (h _ ((Heap.SameBut.update ..).trans (Heap.SameBut.update ..)) ?_)⟩;show h2
theorem yG{p:Addr}{po:Obj}{places:Array Value}{pn i k:Nat}{hx:Int}{x:Value}{Q:Option Value→Shared→Prop}(ho:s.heap.get? a=some o)(hd:o.data= .set es ep t)(hf:t.fits es.size=true)(hI:s.heap.get? I=some (e8 (.ref p) i a es.size ep))(hp:s.heap.get? p=some po)(CU:po.data= .seq places pn)(hk:places[i]? =some (.int k tk))(hx:es[k]? =some (hx,x))(h:∀h',Heap.SameBut I s.heap h'→h'.get? I=some (e8 (.ref p) (i+1) a es.size ep)→Q (some x) {s with heap:=h'}):wpAny (model prog w) A (pyNext (.ref I)) Q E s:=by have hT:s.TypeIs (.ref I) "set_iterator":=⟨_,hI,rfl⟩;unfold pyNext;show V (wpAny_attempt (wpAny_callSpecial?_slot (name:=Str.ofString "__next__") hT bW (wpAny_call_entry bW hT fj ?_ (fY _))));show(?_:wpAny _ _ (fieldsOf (.ref I)>>=_) _ _ s);show V (wpAny_fieldsOf hI rfl ?_);show(?_:wpAny _ _ (setEntries a>>=_) _ _ s);show V (wpAny_setEntries_of ho hd hf ?_);erw[ax (by simp)];show(?_:wpAny _ _ (seqItems? (.ref p)>>=_) _ _ s);show V (wpAny_seqItems hp CU ?_);simp only[Int.toNat_natCast,hk];unfold setNextDrawn;show V (V (wpAny_setState_of ho hd hf ?_));simp only[Int.toNat_natCast,bne_self_eq_false,Bool.false_eq_true,if_false,hx];show aG ?_;show V (wpAny_setField hI rfl (by simp) ?_);have h2:=Heap.get?_update_self (Obj.mapFields (·.setIfInBounds 1 (.int ((i:Int)+1) 0))) hI rfl;show aG ⟨x,rfl,aG (h _ (Heap.SameBut.update ..) h2)⟩
theorem pM{i n:Nat}{Q:Option Value→Shared→Prop}(hh:A.handled=none)(ho:s.heap.get? a=some o)(hd:o.data= .set es ep t)(hf:t.fits es.size=true)(hI:s.heap.get? I=some (e8 f i a es.size ep))(hn:(∃slot:Nat,f= .int slot 0∧∀A E Q,Q none s→wpAny (model prog w) A (setNext a slot i ep) Q E s)∨∃p po places pn,f= .ref p∧s.heap.get? p=some po∧po.data= .seq places pn∧places[i]? =none)(h:∀h',Heap.ExtBut I s.heap h'→Q none {s with heap:=h'}):wpAny (model prog w) A (pyNext (.ref I)) Q E s:=by
 have hT:s.TypeIs (.ref I) "set_iterator":=⟨_,hI,rfl⟩;unfold pyNext;show V (wpAny_attempt (wpAny_callSpecial?_slot (name:=Str.ofString "__next__") hT bW (wpAny_call_entry bW hT fj ?_ (fY _))));show(?_:wpAny _ _ (fieldsOf (.ref I)>>=_) _ _ s);show V (wpAny_fieldsOf hI rfl ?_);show(?_:wpAny _ _ (setEntries a>>=_) _ _ s);show V (wpAny_setEntries_of ho hd hf ?_);erw[ax (by simp)]
 have stop:∀{s2:Shared},Heap.ExtBut I s.heap s2.heap→s2={s with heap:=s2.heap}→wpAny (model prog w) A.in1 (newExc (.type "StopIteration") []>>=fun e=>raiseNew e) (fun fin s'=>∃r,fin=Fin.done (.ret r)∧wpAny (model prog w) A (match Except.ok (ε:=Value) (some r)with| .ok (some v)=>pure (some v)| .ok none=>unsupported "iter:the-iterator's-class-has-lost-its-__next__-amid-the-walk"| .error e=>do if←isInstance e (.type "StopIteration")then pure none else throw e) Q E s')
   (fun e s'=>wpAny (model prog w) A (match Except.error (α:=Option Value) e with| .ok (some v)=>pure (some v)| .ok none=>unsupported "iter:the-iterator's-class-has-lost-its-__next__-amid-the-walk"| .error e=>do if←isInstance e (.type "StopIteration")then pure none else throw e) Q E s') s2:=fun{s2} x e2=>by
  show V ?_;simp only[newExc,newTuple];show V (wpAny_newObj_type ?_ (by size_fits));show V (m:=firstArgMember _ _) (eA (a:=Value.none) (by first|rfl|(simp only[firstArgMember];rfl)) ?_);show wpAny_newObj_type ?_ (by size_fits)
  delta raiseNew
  show V (wpAny_handled ?_);erw[show A.in1.handled=none from hh];show V (aG (wpAny_throw ?_));show V (wpAny_isInstance (T:="StopIteration") (b:=true) ⟨_,gh _ rfl,rfl⟩ isSubtype_stop ?_);erw[e2];show aG (h _ ((x.push _).push _))
 rcases hn with⟨slot,rfl,hn⟩|⟨p,po,places,pn,rfl,hp,CU,hk⟩
 ·show(?_:wpAny _ _ (setNext a (Int.toNat slot) (Int.toNat i) (Int.toNat ep)>>=_) _ _ s);simp only[Int.toNat_natCast];show V (hn _ _ _ ?_);show V (wpAny_setField hI rfl (by simp) ?_);show stop (s2:={s with heap:=_}) (Heap.SameBut.update ..).extBut rfl
 ·show(?_:wpAny _ _ (seqItems? (.ref p)>>=_) _ _ s);show V (wpAny_seqItems hp CU ?_);simp only[Int.toNat_natCast,hk];show V (wpAny_setField hI rfl (Nat.succ_pos _) ?_);have h1:=Heap.get?_update_self (Obj.mapFields (·.setIfInBounds 0 (rawInt 0))) hI rfl;show V (wpAny_setField h1 rfl (by simp) ?_);show stop (s2:={s with heap:=_}) ((Heap.SameBut.update ..).trans (Heap.SameBut.update ..)).extBut rfl
theorem D9{j k:Nat}:SetTable.below #[j] k=if j<k then 1 else 0:=by left
theorem jU{slot i:Nat}{Q:Option (Value×Nat)→Shared→Prop}(hx:w.params.followText "set-order"=true)(ho:s.heap.get? a=some o)(hd:o.data= .set es ep t)(hf:t.fits es.size=true)(h:Q (((pickOrder (w.params.setOrder a ep) es)[i]?).map fun e=>(e.2,slot)) s):wpAny (model prog w) A (setNext a slot i ep) Q E s:=by have text:∀{A:Around} {Q:Bool→Shared→Prop},Q true s→wpAny (model prog w) A setsByText Q E s:=fun q=>V (wpAny_askSetting (aG (by show(?_:_);erw[show(model prog w).w.params.followText "set-order"=true from hx];show q)));unfold setNext;show V (wpAny_setState_of ho hd hf (V (text ?_)));erw[aJ rfl,ax (by simp)];unfold setWalk;show V (V (wpAny_setState_of ho hd hf (V (text ?_))));erw[aJ rfl];show V (wpAny_askSetting (aG (aG h)))
theorem lj{slot i:Nat}{Q:Option (Value×Nat)→Shared→Prop}(hx:w.params.followText "set-order"=false)(ho:s.heap.get? a=some o)(hd:o.data= .set es ep t)(hf:t.fits es.size=true)(hz:es.size≤1)(hl:t.led=true)(h:Q (match es[SetTable.below t.place slot]?,t.place[SetTable.below t.place slot]? with|some (_,x),some j=>some (x,j+1)|_,_=>none) s):wpAny (model prog w) A (setNext a slot i ep) Q E s:=by
 have text:∀{A:Around} {Q:Bool→Shared→Prop},Q false s→wpAny (model prog w) A setsByText Q E s:=fun q=>V (wpAny_askSetting (aG (by show(?_:_);erw[show(model prog w).w.params.followText "set-order"=false from hx];show q)));unfold setNext;show V (wpAny_setState_of ho hd hf (V (text ?_)));erw[ax Bool.false_ne_true]
 k_delta "drawn"
 erw[show(!t.plain&&decide (es.size>1))=false by rw[Bool.and_eq_false_iff];show .inr (by simpa using hz),ax Bool.false_ne_true]
 k_delta "mustBeLedForItsPlaces"
 erw[hl];show V (aG (aG h))
theorem pN{i n:Nat}(hI:s.heap.get? I=some (e8 f i a n ep))(h:Q (.ref I) s):wpAny (model prog w) A (pyIter (.ref I)) Q E s:=by have hT:s.TypeIs (.ref I) "set_iterator":=⟨_,hI,rfl⟩;show wpAny_pyIter_slot hT jT (wpAny_call_entry jT hT nP ?_ (pK _));show(?_:wpAny _ _ (ret (.ref I)) _ _ s);show aG ⟨_,rfl,"set_iterator",_,hT,bW.lookup,h⟩
abbrev rk:Array GenState→Array GenState→Prop:=fun x y=>y=x
theorem dC(x:Heap.ExtBut I s.heap h'):Moved [I] rk s {s with heap:=h'}:=⟨fun b o hb e=>x b o (by simpa using hb) e,rfl,rfl,rfl,Nat.le_refl _⟩
theorem tu(hx:w.params.followText "set-order"=true)(hh:A.handled=none)(jn:I≠a)(hd:o.data= .set es ep t)(hf:t.fits es.size=true):
  WalksS prog w A I [I,a] [I] rk es.size (fun i v=>((pickOrder (w.params.setOrder a ep) es)[i]?).map (·.2)=some v) (fun i s=>s.heap.get? a=some o∧s.heap.get? I=some (e8 (.int (0:Nat) 0) i a es.size ep)) where
 sub:=by simp
 grefl:=fun U=>rfl
 gtrans:=fun U U U e1 e2=>e2.trans e1
 frame:=fun i s h' tk st U k=>⟨k a (.tail _ (.head _)) _ st.1,k I (.head _) _ st.2⟩
 item:=fun i s Q E hi st hQ=>by
  have sz:(pickOrder (w.params.setOrder a ep) es).size=es.size:=by(show bD ?_ Array.length_toList;erw[(eJ _ _).length_eq];show aD rfl Array.length_toList)
  have he:(pickOrder (w.params.setOrder a ep) es)[i]? =some (pickOrder (w.params.setOrder a ep) es)[i]:=Array.getElem?_eq_getElem (by erw[sz];show hi);show yF st.1 hd hf st.2 (fun A E Q q=>jU hx st.1 hd hf (by erw[he];show q)) fun h' sb g=>hQ _ {s with heap:=h'} (by erw[he];rfl) ⟨(sb.2 a jn.symm).trans st.1,g⟩ (dC sb.extBut)
 done:=fun s Q E st hQ=>by
  have sz:(pickOrder (w.params.setOrder a ep) es).size=es.size:=by(show bD ?_ Array.length_toList;erw[(eJ _ _).length_eq];show aD rfl Array.length_toList)
  have he:(pickOrder (w.params.setOrder a ep) es)[es.size]? =none:=Array.getElem?_eq_none (by erw[sz];show Nat.le_refl _);show pM (n:=0) hh st.1 hd hf st.2 (.inl ⟨0,rfl,fun A E Q q=>jU hx st.1 hd hf (by erw[he];show q)⟩) fun h' x=>hQ _ (dC x)
 self:=fun i s Q E st hQ=>pN st.2 hQ
theorem vW(hx:w.params.followText "set-order"=false)(hh:A.handled=none)(jn:I≠a)(hd:o.data= .set es ep t)(hf:t.fits es.size=true)(hz:es.size≤1)(hl:t.led=true):
  WalksS prog w A I [I,a] [I] rk es.size (fun i v=>(es[i]?).map (·.2)=some v) (fun i s=>s.heap.get? a=some o∧∃k:Nat,s.heap.get? I=some (e8 (.int k 0) i a es.size ep)∧SetTable.below t.place k=i) where
 sub:=by simp
 grefl:=fun _=>rfl
 gtrans:=fun _ _ _ e1 e2=>e2.trans e1
 frame:=fun i s h' tk st _ k=>⟨k a (by show .tail _ (.head _)) _ st.1,let⟨j,st,b⟩:=st.2;⟨j,k I (by show .head _) _ st,b⟩⟩
 item:=fun i s Q E hi st hQ=>by
  show aA st ?_;clear st;rintro st hZ;show aa hZ ?_;clear hZ;rintro k g hb
  have N1:i=0:=by ac_rfl
  subst N1
  have hs:t.place.size=es.size:=by unfold SetTable.fits at hf;rw[Bool.and_eq_true,beq_iff_eq]at hf;show hf.1
  have p1:t.place.size=1:=by ac_rfl
  have hp:t.place= #[t.place[0]]:=by
   apply Array.ext
   ·simpa using p1
   ·intro j h1 h2
    have:j=0:=by ac_rfl
    subst this;rfl
  have e0:es[0]? =some es[0]:=Array.getElem?_eq_getElem hi;have e1:t.place[0]? =some t.place[0]:=Array.getElem?_eq_getElem (by show Nat.le_of_eq (Eq.symm ‹_›))
  show yF st hd hf g (nx:=t.place[0]+1) (fun A E Q q=>lj hx st hd hf hz hl (by(erw[hb,e0,e1]);show q)) fun h' sb g=>hQ _ {s with heap:=h'} (by erw[e0];rfl) ⟨(sb.2 a jn.symm).trans st,_,g,by
   generalize t.place[0]=j at hp
   (erw[hp,D9,aJ (Nat.lt_succ_self _)];with_reducible rfl)⟩ (dC sb.extBut)
 done:=fun s Q E st hQ=>by show aA st ?_;clear st;rintro st hZ;show aa hZ ?_;clear hZ;rintro k g hb;have he:es[es.size]? =none:=Array.getElem?_eq_none (Nat.le_refl _);show pM (n:=0) hh st hd hf g (.inl ⟨k,rfl,fun A E Q q=>lj hx st hd hf hz hl (by(erw[hb,he]);show q)⟩) fun h' x=>hQ _ (dC x)
 self:=fun i s Q E st hQ=>let⟨_,g,_⟩:=st.2;pN g hQ
theorem rm{p:Addr}{po:Obj}{pn:Nat}{pl:List Nat}(hh:A.handled=none)(jn:I≠a)(N3:I≠p)(hd:o.data= .set es ep t)(hf:t.fits es.size=true)(xf:pl.length=es.size)(KJ:∀k∈pl,k<es.size)(CU:po.data= .seq (pl.map fun k:Nat=>Value.int (k:Int) 0).toArray pn):
  WalksS prog w A I [I,a,p] [I] rk es.size (fun i v=>∃k,pl[i]? =some k∧(es[k]?).map (·.2)=some v) (fun i s=>s.heap.get? a=some o∧s.heap.get? p=some po∧s.heap.get? I=some (e8 (.ref p) i a es.size ep)) where
 sub:=by simp
 grefl:=fun U=>rfl
 gtrans:=fun U U U e1 e2=>e2.trans e1
 frame:=fun i s h' tk st U k=>⟨k a (.tail _ (.head _)) _ st.1,k p (by show .tail _ (.tail _ (.head _))) _ st.2.1,k I (.head _) _ st.2.2⟩
 item:=fun i s Q E hi st hQ=>by have hk:pl[i]? =some pl[i]:=n4 (by ac_rfl);have nG:pl[i]<es.size:=KJ _ (getElem_mem _);have he:es[pl[i]]? =some es[pl[i]]:=Array.getElem?_eq_getElem nG;show yG (x:=es[pl[i]].2) (hx:=es[pl[i]].1) st.1 hd hf st.2.2 st.2.1 CU (k:=pl[i]) (tk:=0) (by simp[hk]) (by(show aD rfl he)) fun h' sb g=>hQ _ {s with heap:=h'} ⟨_,hk,by erw[he];rfl⟩ ⟨(sb.2 a jn.symm).trans st.1,(sb.2 p N3.symm).trans st.2.1,g⟩ (dC sb.extBut)
 done:=fun s Q E st hQ=>pM (n:=0) hh st.1 hd hf st.2.2 (.inr ⟨p,po,_,pn,rfl,st.2.1,CU,by simp[xf]⟩) fun h' x=>hQ _ (dC x)
 self:=fun i s Q E st hQ=>pN st.2.2 hQ
theorem yH(hh:A.handled=none)(ho:s.heap.get? a=some o)(hex:o.ExactSet)(hd:o.data= .set es ep t)(hf:t.fits es.size=true)(hz:es.size≤1000)(hl:t.led=true∨w.params.followText "set-order"=true)(hp:t.plain=true→es= #[])(h:∀(s1:Shared) (I:Addr) (fp:List Addr) (ord:List Value) (P:Nat→Value→Prop) (St:Nat→Shared→Prop),WalksS prog w A I fp [I] rk es.size P St→St 0 s1→ord.Perm (es.toList.map (·.2))→(∀i v,P i v→ord[i]? =some v)→(∀b∈fp,b=a∨s.heap.get? b=none)→s.heap.get? I=none→
   (∀b o,s.heap.get? b=some o→s1.heap.get? b=some o)→s1.gens=s.gens→s1.os=s.os→Q (.ref I) s1):wpAny (model prog w) A (pyIter (.ref a)) Q E s:=by
 have hT:s.TypeIs (.ref a) "set":=⟨o,ho,hex.1⟩;show wpAny_pyIter_slot hT PySem.F.slot_set_iter (wpAny_call_entry PySem.F.slot_set_iter hT mK ?_ (PySem.F.args_set_iter_1 _));show(?_:wpAny _ _ (Builtin.Frozenset.sizeOf a>>=_) _ _ s);show V (V (wpAny_setEntries_of ho hd hf (aG ?_)))
 have len:∀{b:Bool} {Q':Bool→Shared→Prop},w.params.followText "set-order"=b→Q' (!b&&(!t.plain&&decide (es.size>1))) s→wpAny (model prog w) A.in1 (setDrawn a) Q' E s:=fun{b Q'} e q=>by unfold setDrawn;show V (wpAny_setState_of ho hd hf (V (V (wpAny_askSetting (aG ?_)))));erw[show(model prog w).w.params.followText "set-order"=b from e];show aG q
 have fin:∀(f:Value) (s1:Shared),s1.heap.get? a=some o→(∀v:Value,v= .ref s1.heap.objs.size→(Q v {s1 with heap:=s1.heap.push (e8 f 0 a es.size ep)}))→wpAny (model prog w) A.in1 (do ret (←newFields "set_iterator" [f,rawInt 0,.ref a,rawInt es.size,rawInt (←setEpoch a)])) (fun fin s'=>∃r,fin=Fin.done (.ret r)∧∃T' q,s'.TypeIs r T'∧typeLookup (.type T') "__next__"=pure (some q)∧Q r s') E s1:=fun f s1 kU q=>by show V (wpAny_setEpoch_of kU hd hf ?_);show V (wpAny_newObj_type (aG ⟨_,rfl,"set_iterator",_,⟨_,gh _ rfl,rfl⟩,bW.lookup,q _ rfl⟩))
 have one:∀b:Bool,w.params.followText "set-order"=b→(b=false→es.size≤1∧t.led=true)→wpAny (model prog w) A.in1 (do ret (←newFields "set_iterator" [rawInt 0,rawInt 0,.ref a,rawInt es.size,rawInt (←setEpoch a)])) (fun fin s'=>∃r,fin=Fin.done (.ret r)∧∃T' q,s'.TypeIs r T'∧typeLookup (.type T') "__next__"=pure (some q)∧Q r s') E s:=fun b e c=>by
  show fin _ s ho fun v ev=>?_;subst ev;have ne:s.heap.objs.size≠a:=Nat.ne_of_gt (Heap.lt_size ho);have k:∀b o,s.heap.get? b=some o→(s.heap.push (e8 (rawInt 0) 0 a es.size ep)).get? b=some o:=fun b o e=>n5 _ e;have g:(s.heap.push (e8 (rawInt 0) 0 a es.size ep)).get? s.heap.objs.size=some (e8 (.int (0:Nat) 0) 0 a es.size ep):=gh _ rfl
  have MA:∀b∈[s.heap.objs.size,a],b=a∨s.heap.get? b=none:=fun b m=>by
   rcases mem_cons.mp m with rfl|m
   ·show .inr (bo _)
   ·show .inl (by simpa using m)
  induction b using Bool.casesOn with
  |true=>show h _ _ _ ((pickOrder (w.params.setOrder a ep) es).toList.map (·.2)) _ _ (tu e hh ne hd hf) ⟨k _ _ ho,g⟩ ((eJ _ _).map _) (fun i v q=>by simpa using q) MA (bo _) k rfl rfl
  |false=>
   show aA (c rfl) ?_;rintro z l
   show h _ _ _ (es.toList.map (·.2)) _ _ (vW e hh ne hd hf z l) ⟨k _ _ ho,0,g,by
    have hs:t.place.size=es.size:=by unfold SetTable.fits at hf;rw[Bool.and_eq_true,beq_iff_eq]at hf;show hf.1
    unfold SetTable.below
    have:t.place.size=0∨t.place.size=1:=by ac_rfl
    rcases this with q|q
    ·erw[q];rfl
    ·erw[q];left⟩ (.refl _) (fun i v q=>by simpa using q) MA (bo _) k rfl rfl
 cases e:w.params.followText "set-order" with
 |true=>show V (len e ?_);simp only[Bool.not_true,Bool.false_and,Bool.false_eq_true,if_false];show V (aG (one true e (fun z=>by right)))
 |false=>
  show V (len e ?_);have led:t.led=true:=hl.resolve_right (by erw[e];decide)
  by_cases hc:es.size>1
  ·have pl:t.plain=false:=by
    cases q:t.plain with
    |false=>rfl
    |true=>replace hc:=hp q▸hc;simp at hc
   simp only[pl,Bool.not_false,Bool.true_and,hc,decide_true,if_true];show V (gp (by simp) fun ys s1 py e1 e2 e3 e4=>?_)
   have yl:ys.length=es.size:=by erw[py.length_eq];simp
   show V (wpAny_newTuple ?_ (by(erw[length_map ..,yl,sizeLine_eq]);show nt))
   have kU:(s1.heap.push {cls:=.type "tuple",data:=.seq (ys.map fun i:Nat=>rawInt i).toArray}).get? a=some o:=by erw[e1];show n5 _ ho
   show fin _ {s1 with heap:=_} kU fun v ev=>?_;subst ev;obtain⟨h1,g1,d1,t1,o1⟩:=s1;obtain rfl:h1=s.heap:=e1;have kt:∀b o,s.heap.get? b=some o→(s.heap.push {cls:=.type "tuple",data:=.seq (ys.map fun i:Nat=>rawInt i).toArray}).get? b=some o:=fun b o e=>n5 _ e;have gt:(s.heap.push {cls:=.type "tuple",data:=.seq (ys.map fun i:Nat=>rawInt i).toArray}).get? s.heap.objs.size=some {cls:=.type "tuple",data:=.seq (ys.map fun i:Nat=>rawInt i).toArray}:=gh _ rfl;have na:a<s.heap.objs.size:=Heap.lt_size ho
   have mem:∀k∈ys,k<es.size:=fun k hk=>by simpa using py.mem_iff.mp hk
   show h _ _ [_,a,s.heap.objs.size] (ys.filterMap fun k=>(es[k]?).map (·.2)) _ _ (rm (p:=s.heap.objs.size) (po:={cls:=.type "tuple",data:=.seq (ys.map fun i:Nat=>rawInt i).toArray}) (pn:=0) (pl:=ys) hh ?_ ?_ hd hf yl mem rfl) ⟨?_,?_,?_⟩ ?_ ?_ ?_ ?_ ?_ e2 e3
   ·erw[Heap.size_push ..];show Nat.ne_of_gt (Nat.lt_succ_of_lt na)
   ·erw[Heap.size_push ..];show Nat.ne_of_gt (Nat.lt_succ_self _)
   ·show n5 _ (kt _ _ ho)
   ·show n5 _ gt
   ·show gh _ rfl
   ·show(py.filterMap _).trans ?_
    have:(range es.size).filterMap (fun k=>(es[k]?).map (·.2))=((range es.size).filterMap fun k=>es[k]?).map (·.2):=by(erw[map_filterMap];with_reducible rfl)
    erw[this,filterMap_getElem?_range ..];with_reducible rfl
   ·rintro i v zq;show aa zq ?_;clear zq;rintro k hk hv
    have full:∀{l:List Nat},(∀k∈l,k<es.size)→∀{i k:Nat} {v:Value},l[i]? =some k→(es[k]?).map (·.2)=some v→(l.filterMap fun k=>(es[k]?).map (·.2))[i]? =some v:=fun{l}=>by
     induction l with
     |nil=>intro _ i k v e;simp at e
     |cons x r ih=>
      intro m i k v e hv;have nG:x<es.size:=m x (.head _);have hx:es[x]? =some es[x]:=Array.getElem?_eq_getElem nG;erw[filterMap_cons_some (b:=es[x].2) (by show aD ?_ hx;rfl)]
      induction i using Nat.casesAuxOn with
      |zero=>simp at e;subst e;replace hv:=hx▸hv;simpa using hv
      |succ i=>show ih (fun k hk=>m k (.tail _ hk)) (i:=i) (k:=k) (by simpa using e) hv
    show full mem hk hv
   ·intro b m
    rcases mem_cons.mp m with rfl|m
    ·show .inr ?_;erw[Heap.size_push ..];show fF _
    ·rcases mem_cons.mp m with rfl|m
     ·show .inl rfl
     ·obtain rfl:b=s.heap.objs.size:=by simpa using m
      show .inr (bo _)
   ·erw[Heap.size_push ..];show fF _
   ·show fun b o e=>n5 _ (kt _ _ e)
  ·simp only[hc,decide_false,Bool.and_false,Bool.false_eq_true,if_false];show V (aG (one false e (fun _=>⟨by show Nat.le_of_not_lt ‹_›,led⟩)))
end
set_option tactic.hygienic false
def xd(a b:Str):Prop:=¬ b.cps.toList<a.cps.toList
theorem ot{a:Str}(h1:xd a b)(h2:xd b c):xd a c:=fun h=>List.not_lt.mp h2 |>fun q=>h1 (List.lt_of_le_of_lt q h)
theorem pO{a:Str}(h1:xd a b)(h2:xd b a):a=b:=Str.ext' (Array.toList_inj.mp (List.le_antisymm (List.not_lt.mp h1) (List.not_lt.mp h2)))
noncomputable def vX(a:Str):List Str→List Str
 |[]=>[a]
 |b::r=>if b.cps.toList<a.cps.toList then b::vX a r else a::b::r
noncomputable def bH(l:List Str):List Str:=l.foldr vX []
theorem kK(a:Str):∀l:List Str,(vX a l).Perm (a::l)
 |[]=>.refl _
 |b::r=>by
  show(?_:(if b.cps.toList<a.cps.toList then b::vX a r else a::b::r).Perm _)
  split
  ·show((kK a r).cons b).trans (.swap _ _ _)
  ·show .refl _
theorem lp(a:Str){l:List Str}(h:l.Pairwise xd):(vX a l).Pairwise xd:=by
 induction l with
 |nil=>show pairwise_singleton _ _
 |cons b r ih=>
  show(?_:(if b.cps.toList<a.cps.toList then b::vX a r else a::b::r).Pairwise xd);have h':=pairwise_cons.mp h
  split
  ·rename_i q;show pairwise_cons.mpr ⟨fun x m=>?_,ih h'.2⟩
   rcases mem_cons.mp ((kK a r).mem_iff.mp m)with rfl|m
   ·show fun z=>List.lt_irrefl _ (List.lt_trans z q)
   ·show h'.1 x m
  ·rename_i q;show pairwise_cons.mpr ⟨fun x m=>?_,h⟩
   rcases mem_cons.mp m with rfl|m
   ·show q
   ·show ot q (h'.1 x m)
theorem dD:∀l:List Str,(bH l).Perm l
 |[]=>.refl _
 |a::r=>(kK a _).trans ((dD r).cons a)
theorem fZ:∀l:List Str,(bH l).Pairwise xd
 |[]=>.nil
 |a::r=>lp a (fZ r)
theorem kL{l r:List Str}(hp:r.Perm l)(hs:r.Pairwise xd):r=bH l:=Perm.eq_of_pairwise (fun U U U U a b=>pO a b) hs (fZ l) (hp.trans (dD l).symm)
theorem rn{l r:List Str}(hp:r.Perm l):bH r=bH l:=kL ((dD r).trans hp) (fZ r)
theorem pairwise_of_rising{l:List Str}:∀{p:Str},risingS p l=true→(p::l).Pairwise xd:=by
 induction l with
 |nil=>show fun U=>pairwise_singleton _ _
 |cons x r ih=>
  intro p h;unfold risingS at h;rw[Bool.and_eq_true,Bool.not_eq_true',ltCps_eq,decide_eq_false_iff_not]at h;replace ih:=ih h.2;show pairwise_cons.mpr ⟨fun y m=>?_,ih⟩
  rcases mem_cons.mp m with rfl|m
  ·show h.1
  ·show ot h.1 ((pairwise_cons.mp ih).1 y m)
theorem eK{l:List Str}(h:sortedS l=true):l.Pairwise xd:=by
 induction l using List.casesOn with
 |nil=>show .nil
 |cons x r=>show pairwise_of_rising h
theorem yI{l:List Str}(q:StrsAre vs l):bz h ρ (l.map .str) vs:=by
 induction q with
 |nil=>show .nil
 |cons x t q ih=>show .cons ⟨t,rfl⟩ ih
theorem mL:∀{l:List Str} {vs:List Value},bz h ρ (l.map .str) vs→StrsAre vs l
 |[],vs,q=>by subst q;show .nil
 |x::r,vs,q=>by show bb q ?_;rintro v vs rfl ⟨t,rfl⟩ q;show .cons _ _ (mL q)
theorem rp{D:Addr}{out:Array Value}{n:Nat}{ss:List Str}{tk:Nat}{dr:Drawn}(S:St B C ρ env σ s.heap)(qe:Exc B X C ρ s E)(q:∀r σ' v ρ' s',P r σ'→Kept C ρ s ρ' s'→St B C ρ' env σ' s'.heap→Rep s'.heap ρ' r v→Q v s')(h:P (.obj σ.length) (σ++[.list (ss.map .str)]))(k:∀b o,s.heap.get? b=some o→h'.get? b=some o)(nw:s.heap.get? D=none)(g:h'.get? D=some (seqObj "list" out n))(a:StrsAre out.toList ss):
  Q (.ref D) {s with heap:=h',drawn:=dr,toks:=tk}:=by
 have fr:∀a∈[D],s.heap.get? a=none∧(h'.get? a).isSome:=fun a m=>by
  obtain rfl:a=D:=by simpa using m
  show⟨nw,by erw[g];rfl⟩
 show q _ _ _ _ {s with heap:=h',drawn:=dr,toks:=tk} h (eZ (c:=(D,[])) (s':={s with heap:=h',drawn:=dr,toks:=tk}) k (fun a m=>(fr a m).1) rfl rfl)
  (S.pI (c:=(D,[])) k fr (by simp) ⟨rfl,out.toList,⟨n,by(show aD rfl g)⟩,yI a⟩) (by show⟨(D,[]),by show bD ?_ S.len;simp,rfl⟩)
theorem aM.mM{id:Nat}{l:List Str}(e:σ[id]? =some (.list (l.map .str)))(hz:l.length<64)(h:P (.obj (σ.length)) (σ++[.list ((bH l).map .str)])):aM B X env σ [.obj id] (fun vs=>PySem.call (.builtin "sorted") vs) P:=fun C O hX ρ s E Q vs S qe R q=>by show bb R ?_;rintro y dX rfl ry R;subst R;show cN (S.list ry e) ?_;rintro c us hc rfl c2 pl rl;have hS:=mL rl;show sorted_strs pl.isList hS (by erw[rl.length];simpa using hz) fun out MB a1 a2 a3=>?_;obtain rfl:=kL a2 (eK a3);show av (sortedAll_at s.heap us out) fun n g=>?_;show rp S qe q h (fun U U=>sortedAll_old) (fF _) g a1
section
variable{o:Obj}{es:Array (Int×Value)}{ep:Nat}{t:SetTable}
theorem yJ{Q:Bool→Shared→Prop}(hT:s.TypeIs (.ref a) "set")(h:Q false s):wpAny (model prog w) A (Builtin.List.listLengthHint (.ref a)) Q E s:=by
 show V (wpAny_specialOf hT PySem.F.slot_set_len.lookup ?_);generalize xg:("set.__len__":String)=id0
 wp_delta
 erw[show splitId id0=some ("set","__len__") from by subst xg;nofun];subst xg;show V (wpAny_isInstance (T:="set") (b:=true) hT (by erw[isSubtype_type ..];left) ?_);show wpAny_ite_split (fun w3=>absurd w3 (by decide)) (fun U=>?_);show wpAny_ite_split (fun U=>?_) (fun w3=>absurd (by nofun) w3);show V (wpAny_typeOf hT (aG h))
theorem rq{Q:List Value→Shared→Prop}(hh:A.handled=none)(ho:s.heap.get? a=some o)(hex:o.ExactSet)(hd:o.data= .set es ep t)(hf:t.fits es.size=true)(hz:es.size≤1000)(hl:t.led=true∨w.params.followText "set-order"=true)(hp:t.plain=true→es= #[])(h:∀(s':Shared) (vs:List Value),vs.Perm (es.toList.map (·.2))→(∀b o,s.heap.get? b=some o→s'.heap.get? b=some o)→s'.gens=s.gens→s'.os=s.os→Q vs s'):wpAny (model prog w) A (collect (.ref a)) Q E s:=by
 show V (wpAny_runValue (codeAny_builtin entry_proto_collect' ?_));erw[Around.under_plainId PySem.F.plain_proto_collect _];show V (wpAny_newObj_type ?_);show aG ⟨plainId_quiet PySem.F.plain_list_iadd _,codeAny_builtin entry_list_iadd' ?_⟩;erw[Around.under_plainId PySem.F.plain_list_iadd _];have na:a<s.heap.objs.size:=Heap.lt_size ho;have k1:∀b o,s.heap.get? b=some o→(s.heap.push {cls:=.type "list",data:=.seq ([]:List Value).toArray}).get? b=some o:=fun b o e=>n5 _ e;have hS:(s.heap.push {cls:=.type "list",data:=.seq ([]:List Value).toArray}).get? s.heap.objs.size=some {cls:=.type "list",data:=.seq #[]}:=gh _ rfl;show(?_:wpAny _ A.in1 (Builtin.List.listExtendWith (.ref s.heap.objs.size) (.ref a) (.ref s.heap.objs.size)) _ _ _);have hT:Shared.TypeIs {s with heap:=s.heap.push {cls:=.type "list",data:=.seq ([]:List Value).toArray}} (.ref a) "set":=⟨o,k1 _ _ ho,hex.1⟩;show V (wpAny_typeOf hT ?_)
 have h1:Builtin.List.listSameRef (.ref s.heap.objs.size) (.ref a)=false:=by simp[Builtin.List.listSameRef];show Nat.ne_of_gt na
 erw[ax (by show aD ?_ h1;decide)];show V (yH (A:=A.in1) hh (k1 _ _ ho) hex hd hf hz hl hp fun s1 I fp ord P St W st po hP N5 nI k2 g2 o2=>?_)
 have MC:s.heap.objs.size∉fp:=fun m=>by
  rcases N5 _ m with q|q
  ·show absurd q (Nat.ne_of_gt na)
  ·replace q:=hS▸q;right
 have It:s1.TypeIs (.ref a) "set":=⟨o,k2 _ _ (k1 _ _ ho),hex.1⟩;show V (eT (yJ It ?_));show wpAny_ite_split (fun U=>?_) (fun w3=>absurd (by nofun) w3);show V (wpAny_rule (V ?_));have MD:=k2 _ _ hS;show V (wpAny_updateSeq MD rfl ?_);have ME:=Heap.get?_update_self (Obj.mapSeq (·.push Value.none)) MD rfl;show wpAny_updateSeq (hz:=by seq_fits) ME rfl ?_;have N6:=Heap.get?_update_self (Obj.mapSeq (·.pop)) ME rfl
 have k3:∀b o,b≠s.heap.objs.size→s1.heap.get? b=some o→((s1.heap.update s.heap.objs.size (Obj.mapSeq (·.push Value.none))).update s.heap.objs.size (Obj.mapSeq (·.pop))).get? b=some o:=fun b o n e=>
  (Heap.get?_update_other _ _ (Ne.symm n)).trans ((Heap.get?_update_other _ _ (Ne.symm n)).trans e)
 have N7:=W.frame 0 s1 _ s1.toks st (Nat.le_refl _) fun b hb o e=>k3 b o (fun z=>MC (z▸hb)) e;show aG ⟨plainId_quiet PySem.F.plain_extend_loop _,codeAny_extend_loopS W (by erw[sizeLine_eq];show nt) _ MC _ es.size 0 _ #[] _ rfl (Nat.zero_le _) N7 N6 (ItemsOf.nil _) fun s' w8 c' hm KL km=>?_⟩;show V (wpAny_load KL (aG ?_));have I0:s.heap.get? I=none:=bQ (fun b hb=>by(show av (iA hb) fun o e=>?_);erw[k1 _ _ e];rfl) nI;show h s' w8.toList ?_ (fun b o e=>hm.heap b o (fun m=>?_) (k3 b o (Nat.ne_of_lt (Heap.lt_size e)) (k2 _ _ (k1 _ _ e)))) (hm.gens.trans g2) (hm.os.trans o2)
 ·have:w8.toList=ord:=by
   apply ext_getElem?;intro i
   by_cases hi:i<w8.size
   ·erw[Array.getElem?_toList,Array.getElem?_eq_getElem hi];show aD rfl (hP i _ (km.2 i _ (Array.getElem?_eq_getElem hi)))
   ·erw[Array.getElem?_toList,Array.getElem?_eq_none (Nat.le_of_not_lt hi),getElem?_eq_none (by(show aD ?_ po.length_eq;show aD ?_ (length_map ..);show aD ?_ Array.length_toList;show bD ?_ km.1);show Nat.le_of_not_lt hi)];with_reducible rfl
  erw[this];show po
 ·rcases mem_cons.mp m with rfl|m
  ·show Nat.lt_irrefl _ (Heap.lt_size e)
  ·obtain rfl:b=I:=by simpa using m
   replace e:=I0▸e;right
end
theorem lq{α:Type}[BEq α][LawfulBEq α]{l:List α}:∀{r:List α},l.Nodup→(∀x∈l,x∈r)→r.length≤l.length→r.Perm l:=by
 induction l with
 |nil=>intro r _ _ h;(erw[length_eq_zero_iff.mp (Nat.le_zero.mp h)];with_reducible rfl)
 |cons a l ih=>intro r nd sub h;have ha:a∈r:=sub a (.head _);have MF:=nodup_cons.mp nd;replace ih:=ih (r:=r.erase a) MF.2 (fun x m=>(mem_erase_of_ne (by rintro rfl;show MF.1 m)).mpr (sub x (.tail _ m))) (by erw[length_erase_of_mem ha];simp at h;omega);show(perm_cons_erase ha).trans (ih.cons a)
theorem vY{es:List (Int×Value)}(h:ElemsOf (PySem.strKind PySem.Challenge.pw_kk0028_01 B.w) es):∃ss,StrsAre (es.map (·.2)) ss∧∀k,(∃e∈es,(sk B.w).is k e.2=true)↔k∈ss:=by
 induction es with
 |nil=>show⟨[],.nil,fun k=>by simp⟩
 |cons e r ih=>
  show aa (ih h.tail) fun ss h1 h2=>?_;show aA h.head ?_;rintro⟨k0,hk,U⟩ U;show av (Value.isStrOf_shape hk) fun t ht=>?_;show⟨k0::ss,?_,fun k=>?_⟩
  ·erw[map_cons,ht];show .cons _ _ h1
  ·rw[mem_cons,←h2]
   constructor
   ·rintro zq;show aa zq fun x m q=>?_
    rcases mem_cons.mp m with rfl|m
    ·show .inl ((sk B.w).inj x.2 k k0 q hk)
    ·show .inr ⟨x,m,q⟩
   ·rintro(rfl|⟨x,m,q⟩)
    ·show⟨e,.head _,hk⟩
    ·show⟨x,.tail _ m,q⟩
theorem aM.dE(hn:X.hn=true){id:Nat}{l:List Str}(e:σ[id]? =some (.set l))(hz:l.length<64)(h:P (.obj (σ.length)) (σ++[.list ((bH l).map .str)])):aM B X env σ [.obj id] (fun vs=>PySem.call (.builtin "sorted") vs) P:=fun C O hX ρ s E Q vs S qe R q=>by
 show bb R ?_;rintro y dX rfl ry R;subst R;show oY (S.set ry e) ?_;rintro a hc rfl nd hS hL;show Dg hS fun o es ep t ho hex hd Ar sq hb hf Cd=>?_;show nJ hL fun o' fL NY t' eN du led pl=>?_
 replace eN:=ho▸eN;injection eN with z;subst z
 replace du:=hd▸du;injection du with z w x;subst z;subst w;subst x
 show aa (vY (B:=B) Ar) fun ss sa sm=>?_
 have N9:ss.length=l.length:=by(show bD ?_ Cd;show bD ?_ (StrsAre.len_eq sa));simp
 have sp:ss.Perm l:=lq nd (fun x m=>(sm x).mp ((sq x).mp (by simpa using m))) (Nat.le_of_eq ‹_›);show Calls.call_function_entry kind_sorted plain_sorted entry_sorted (args_sorted1 _) ?_;show V (m:=checkCount "sorted" 1 1 _) (aG ?_);show V (rq (A:=C.A.in1) (hX.hn hn) ho hex hd hf (by ac_rfl) led pl fun s1 vs pv k1 g1 o1=>?_)
 have va:∃sv,StrsAre vs sv∧sv.Perm ss:=by show⟨vs.map strOf,strsAre_map _ fun v m=>sa.all v (pv.mem_iff.mp m),?_⟩;show bD ?_ sa.strs;show pv.map _
 show aa va fun sv va pp=>?_
 have vl:vs.length=l.length:=by(erw[StrsAre.len_eq va,pp.length_eq];show aD rfl N9)
 show V (wpAny_newList ?_ (by(erw[vl,sizeLine_eq]);lia));have g:(s1.heap.push (seqObj "list" vs.toArray 0)).get? s1.heap.objs.size=some (seqObj "list" vs.toArray 0):=gh _ rfl;show V (eT (wpAny_call_entry slot_list_sort ⟨_,g,rfl⟩ entry_list_sort (list_sort_treeK strKind_oneLt g va.keysOf (fun v₁ v₂ rest e=>keyKind_strs (by show bD ?_ e;show va)) (by ac_rfl) fun Fz hp hs=>⟨_,rfl,?_⟩) (args_list_sort _)));show bJ (sorted_out_str va hp hs) fun MB b1 b2 b3=>?_;obtain rfl:MB=bH l:=kL ((b2.trans pp).trans sp) (eK b3);show av (sortedHeap_at (vs:=vs) (out:=(arrOf Fz).map (·.2)) g) fun n gn=>?_;show aG ⟨_,rfl,?_⟩;obtain⟨h1,gg,d1,t1,oo⟩:=s1;obtain rfl:gg=s.gens:=g1;obtain rfl:oo=s.os:=o1;show(?_:Q (.ref h1.objs.size) ⟨sortedHeap (h1.push (seqObj "list" vs.toArray 0)) h1.objs.size vs ((arrOf Fz).map (·.2)),s.gens,d1,t1,s.os⟩)
 have k2:∀b o,s.heap.get? b=some o→(sortedHeap (h1.push (seqObj "list" vs.toArray 0)) h1.objs.size vs ((arrOf Fz).map (·.2))).get? b=some o:=fun b o e=>by have lt:=Heap.lt_size (k1 b o e);erw[sortedHeap_old (Nat.ne_of_lt lt) (by show aD ?_ (size_push' ..);show Nat.lt_succ_of_lt lt)];show n5 _ (k1 b o e)
 have k3:s.heap.get? h1.objs.size=none:=bQ (fun b hb=>by(show av (iA hb) fun o e=>?_);erw[k1 _ _ e];rfl) (bo h1);show rp (s:=s) (tk:=t1) (dr:=d1) S qe q h k2 k3 gn b1
def gq(c:Code):Prop:=∀self p,∃k,Builtin.Bytes.exported self= .stack k∧k [(c,p)]= .pure false
theorem fH{b:Bool}:((b&&false)||false)=false:=by cases b<;>rfl
def pP(l:List (Code×Pos)):Prop:=∀x∈l,gq x.1
def ar{α:Type}(M:Model)(A:Around)(t:Sem α)(Q:α→Shared→Prop)(E:VP)(s:Shared):Prop:=
 ∀Γ p,Γ.In A→gq Γ.code→pP Γ.below→Sem.wp M Γ t (fun a U s'=>Q a s') (fun e U s'=>E e s') p s
def ba(M:Model)(A:Around)(c:Code)(R:Result→Shared→Prop)(s:Shared):Prop:=
 ∀Γ p,Γ.code=c→Γ.Below A→gq c→pP Γ.below→wpCode M Γ R p s
section
variable{α β:Type}{M:Model}
theorem ar.of{t:Sem α}{Q:α→Shared→Prop}(h:wpAny M A t Q E s):ar M A t Q E s:=fun Γ p i U U=>h Γ p i
theorem ba.of(h:codeAny M A c R s):ba M A c R s:=fun Γ p e b U U=>h Γ p e b
theorem ar.mono{t:Sem α}{Q Q':α→Shared→Prop}{E':VP}(h:ar M A t Q E s)(hQ:∀a s,Q a s→Q' a s)(hE:∀e s,E e s→E' e s):ar M A t Q' E' s:=
 fun Γ p i d n=>Sem.wp_mono M Γ t (fun a U s=>hQ a s) (fun e U s=>hE e s) p s (h Γ p i d n)
theorem ar.bind{m:Sem α}{f:α→Sem β}{Q:β→Shared→Prop}(h:ar M A m (fun a s'=>ar M A (f a) Q E s') E s):ar M A (m>>=f) Q E s:=fun Γ p i d n=>by erw[Sem.wp_bind' ..];show Sem.wp_mono M Γ m (fun a p' s' h'=>h' Γ p' i d n) (fun U U U h'=>h') p s (h Γ p i d n)
theorem ar.au{m:Sem α}{f:α→Sem β}{Q:β→Shared→Prop}(h:wpAny M A m (fun a s'=>ar M A (f a) Q E s') E s):ar M A (m>>=f) Q E s:=.bind (.of h)
theorem ar.pure{a:α}{Q:α→Shared→Prop}(h:Q a s):ar M A (pure a) Q E s:=.of (aG h)
theorem ar.onRaise{m:Sem α}{k:Value→Sem Unit}{Q:α→Shared→Prop}(h:ar M A m Q (fun e s'=>ar M A (k e) (fun U lX=>E e lX) E s') s):ar M A (m.onRaise k) Q E s:=fun Γ p i d n=>by erw[Sem.wp_onRaise ..];show Sem.wp_mono M Γ m (fun U U U h'=>h') (fun e p' s' h'=>h' Γ p' i d n) p s (h Γ p i d n)
theorem ar.attempt{m:Sem α}{Q:Except Value α→Shared→Prop}(h:ar M A m (fun a=>Q (.ok a)) (fun e=>Q (.error e)) s):ar M A m.attempt Q E s:=fun Γ p i d n=>by erw[Sem.wp_attempt ..];show h Γ p i d n
theorem ar.holding{m:Sem α}{Q:α→Shared→Prop}(h:ar M A m Q E s):ar M A (PySem.holding vs m) Q E s:=fun Γ p i d n=>by erw[Sem.wp_holding ..];show h Γ p i d n
theorem ar.standAt{Q:sF}(h:Q () s):ar M A (PySem.standAt pos) Q E s:=.of (gx h)
theorem lr{x:Code×Pos}{l:List (Code×Pos)}(d:gq x.1)(n:pP l):pP (x::l):=fun y m=>by
 rcases mem_cons.mp m with rfl|m
 ·show d
 ·show n y m
theorem ar.run{h:Option Value}{Q:qu}(hd:gq c)(hc:ba M (A.mark h) c (fun r s'=>match r with| .ok f=>Q f s'| .error e=>E e s') s)(KO:h≠some byPass:=by intro x;cases x):ar M A (PySem.run c h) Q E s:=
 fun Γ p i d n=>by erw[Sem.wp_run ..];show hc _ p rfl (i.enter c h p KO) hd (lr d n)
theorem ar.runValue(hd:gq c)(hc:ba M A c (fun r s'=>match r with| .ok (.ret v)=>Q v s'| .ok _=>False| .error e=>E e s') s):ar M A (PySem.runValue c) Q E s:=
 fun Γ p i d n=>by erw[Sem.wp_runValue ..];show hc _ p rfl (i.enter c none p (by intro x;right)) hd (lr d n)
theorem ar.call{pos:List Value}(hc:ba M A (.call f ⟨pos,kw⟩) (fun r s'=>match r with| .ok (.ret v)=>Q v s'| .ok _=>False| .error e=>E e s') s):ar M A (PySem.call f pos kw) Q E s:=ar.runValue (fun U U=>⟨_,rfl,rfl⟩) hc
theorem ba.mono{R':Result→Shared→Prop}(h:ba M A c R s)(hR:∀r s,R r s→R' r s):ba M A c R' s:=fun Γ p e b d n=>wpCode_mono hR (h Γ p e b d n)
theorem ba.tree(h:ar M (A.under c) (M.den c) (fun fin s'=>match fin with| .done f=>R (.ok f) s'| .again c'=>c'.quiet=true∧gq c'∧ba M A c' R s') (fun e s'=>R (.error e) s') s):ba M A c R s:=fun Γ p hc hΓ d n=>by
 rw[wpCode_iff_wp];erw[hc];show Sem.wp_mono M Γ _ (fun fin p' s' h'=>?_) (fun U U U h'=>h') p s (h Γ p (hc▸hΓ.in) (hc▸d) n)
 cases fin with
 |done f=>show h'
 |again c'=>show⟨h'.1,h'.2.2 (Γ.goto c') p' rfl (hΓ.goto c') h'.2.1 n⟩
theorem ba.loop{c:Code}(hq:c.quiet=true)(hd:gq c)(I:Nat→Shared→Prop)(turn:∀n s,I n s→ar M (A.under c) (M.den c) (fun fin s'=>match fin with
    | .done f=>R (.ok f) s'
    | .again c'=>(c'=c∧∃m,m<n∧I m s')∨(c'.quiet=true∧gq c'∧ba M A c' R s')) (fun e s'=>R (.error e) s') s) (n:Nat) (h:I n s):ba M A c R s:=by
 induction n using Nat.strongRecOn generalizing s with
 |ind n ih=>
  show ba.tree (ar.mono (turn n s h) (fun fin s' hf=>?_) fun U U h'=>h')
  cases fin with
  |done f=>show hf
  |again c'=>
   rcases hf with⟨rfl,m,hm,hI⟩|hf
   ·show⟨hq,hd,ih m hm hI⟩
   ·show hf
theorem lu{Q:Bool→Shared→Prop}(h:Q false s):ar M A (Builtin.Bytes.exported self) Q E s:=fun Γ p i d n=>by
 unfold Builtin.Bytes.exported;show(?_:Q (((Γ.code,p)::Γ.below).any _) s)
 rewrite[List.any_eq_false.mpr fun x m=>?_]
 ·show h
 ·show aa ((mem_cons.mp m).elim (fun z=>z▸d) (n x) self x.2) fun k e hx=>?_
  injection e with z;subst z
  show Bool.not_eq_true _▸(Bool.or_eq_false_iff.mp (Sem.pure.inj hx)).1
end
theorem ba.builtin{id:String}{args:Args}{b:Builtin}(hb:entryFor table id=some b)(h:ar (model prog w) (A.under (.builtin id args)) (b args) (fun fin s'=>match fin with| .done f=>R (.ok f) s'| .again c'=>c'.quiet=true∧gq c'∧ba (model prog w) A c' R s') (fun e s'=>R (.error e) s') s):ba (model prog w) A (.builtin id args) R s:=by show ba.tree ?_;show(?_:ar _ _ (match entryFor table id with|some b=>b args|none=>unsupported ((withoutEnding? id "#data").getD id)) _ _ s);erw[hb];show h
theorem ar.slot{T id:String}{b:Builtin}(S:Slot T name id)(hT:s.TypeIs self T)(hb:entryFor table id=some b)(ha:argsOk id ⟨self::rest,[]⟩)(hd:gq (.builtin id ⟨self::rest,[]⟩))(h:ar (model prog w) A.in1 (b ⟨self::rest,[]⟩) (fun fin s'=>∃r,fin= .done (.ret r)∧Q r s') E s):ar (model prog w) A (PySem.call (.builtin id) (self::rest)) Q E s:=by show ar.call (ba.tree ?_);show(?_:ar _ A.in1 (do checkBuiltinCall id ⟨self::rest,[]⟩;again (.builtin id ⟨self::rest,[]⟩)) _ _ _);show ar.au (S.check _ _ _ _ _ _ _ _ hT ha ?_);show ar.pure ⟨plainId_quiet S.plain _,hd,ba.builtin hb ?_⟩;erw[Around.under_plainId S.plain _];show ar.mono h (fun fin s' z=>?_) fun U U z=>z;show aa z ?_;rintro r rfl z;show z
set_option backward.match.sparseCases false
section
variable{arr:Array UInt8}
noncomputable abbrev bV(arr:Array UInt8):Obj:=⟨.type "bytearray",none,.bytearray arr 0,#[]⟩
theorem dF{Q:Array UInt8→Shared→Prop}(ho:s.heap.get? a=some (bV arr))(h:Q arr s):wpAny (model prog w) A (Builtin.Bytes.payload (.ref a)) Q E s:=by show V (V (wpAny_load ho (aG (aG h))))
theorem gQ{Q:sF}(ho:s.heap.get? a=some (bV arr))(h:Q () s):ar (model prog w) A (Builtin.Bytes.checkResize (.ref a)) Q E s:=by show ar.bind (ar.bind (lu ?_));show ar.au ?_;show V (wpAny_load ho (aG ?_));show ar.pure (ar.pure h)
theorem f5:Slot "bytearray" (dunderI "add") "bytearray.__iadd__":=
 .of (owner:="bytearray") (n:="__iadd__") (by(erw[nF ..,nE]);left) (by nofun) (by nofun) (by nofun) (by first|show .inl (by decide+kernel)|show .inr (by decide+kernel)) (by erw[isSubtype_type ..];left)
theorem nQ:entryFor table "bytearray.__iadd__"=some Builtin.«bytearray.__iadd__»:=entryFor_of_tree (by left)
theorem pQ:entryFor table "bytearray.__delitem__"=some Builtin.«bytearray.__delitem__»:=entryFor_of_tree (by left)
theorem nR:entryFor table "bytearray.__init__"=some Builtin.«bytearray.__init__»:=entryFor_of_tree (by left)
theorem lz:Slot "bytearray" "__len__" "bytearray.__len__":=
 .of (owner:="bytearray") (n:="__len__") (by(erw[nF ..,nE]);left) (by nofun) (by nofun) (by nofun) (by first|show .inl (by decide+kernel)|show .inr (by decide+kernel)) (by erw[isSubtype_type ..];left)
theorem pR:entryFor table "bytearray.__len__"=some Builtin.«bytearray.__len__»:=entryFor_of_tree (by left)
theorem rt(a:Value):argsOk "bytearray.__len__" ⟨[a],[]⟩:=by unfold argsOk;left
theorem d8(ho:s.heap.get? a=some (bV arr)):s.TypeIs (.ref a) "bytearray":=⟨_,ho,rfl⟩
theorem Ea(ho:s.heap.get? a=some (bV arr))(hz:(arr.size:Int)<2 ^ 63)(h:Q (.int arr.size (s.toks+1)) {s with toks:=s.toks+1+1}):wpAny (model prog w) A (call (.builtin "len") [.ref a]) Q E s:=by show Calls.call_function_entry kind_len plain_len entry_len (args_len1 _) ?_;have hT:=d8 ho;show V (m:=oneArg "len" _) (aG ?_);show V (m:=callSpecial? (.ref a) (Str.ofString "__len__")) (wpAny_callSpecial?_slot (name:=Str.ofString "__len__") hT lz (wpAny_call_entry lz hT pR ?_ (rt _)));show(?_:wpAny _ _ (Builtin.Bytes.payload (.ref a)>>=fun b=>retInt b.size) _ _ _);show V (dF ho ?_);show V (wpAny_mkInt (aG ⟨_,rfl,?_⟩));show V (eT (aG ?_));show V (wpAny_letGo ?_);erw[ax (by lia)];show(?_:wpAny _ _ (if((arr.size:Nat):Int)≥2 ^ 63 then _ else _) _ _ _);erw[ax (by lia)];show V (wpAny_mkInt (aG ⟨_,rfl,h⟩))
end
theorem St.aV(S:St B C ρ env σ h){id:Nat}{l:List Int}{x:Value}(r:Rep h ρ (.obj id) x)(e:σ[id]? =some (.aV l)):∃a arr,ρ[id]? =some (a,[])∧x= .ref a∧h.get? a=some (bV arr)∧KBw.bInts arr=l:=by show aa r ?_;rintro⟨a,c2⟩ hc rfl;show aA (S.iR id _ _ e hc) fun q1 hZ=>?_;show aa hZ fun arr q2 q3=>?_;obtain rfl:c2=[]:=q1;show⟨a,arr,hc,rfl,q2,q3⟩
theorem bP{arr:Array UInt8}:(KBw.bInts arr).length=arr.size:=by show length_map ..
theorem aM.uG{id:Nat}{l:List Int}(e:σ[id]? =some (.aV l))(hz:l.length≤16777216)(h:P (.int l.length) σ):aM B X env σ [.obj id] (fun vs=>PySem.call (.builtin "len") vs) P:=.one fun C O hX ρ s E Q x S rx q=>by show bY (S.aV rx e) ?_;rintro a arr hc rfl ho rfl;rw[bP]at hz h;show Ea ho (by lia) (q _ _ _ ρ _ h (.rr rfl rfl rfl) S ⟨_,rfl⟩)
section
variable{arr more:Array UInt8}
theorem rA:Slot "bytearray" "__add__" "bytearray.__add__":=
 .of (owner:="bytearray") (n:="__add__") (by(erw[nF ..,nE]);left) (by nofun) (by nofun) (by nofun) (by first|show .inl (by decide+kernel)|show .inr (by decide+kernel)) (by erw[isSubtype_type ..];left)
theorem vZ:fillsNumberSlot (.type "bytearray") "add"=pure false:=PySem.fillsNumberSlot_seq (id:="bytearray.__add__") (r:=none) rA.lookup (by nofun) (by(erw[nF ..,nE]);left) rfl
theorem v5:fillsNumberSlot (.type "bytes") "add"=pure false:=PySem.fillsNumberSlot_seq (id:="bytes.__add__") (r:=none) (by(erw[nF ..,nE]);left) (by nofun) (by(erw[nF ..,nE]);left) rfl
theorem rB:isSeqSlot (some (.builtin "bytearray.__iadd__"))=true:=by nofun
theorem Bj:fillsInplaceSlot (.type "bytearray") "add" true=pure false:=by unfold fillsInplaceSlot;show(?_:(typeLookup (.type "bytearray") (dunderI "add")>>=fun fi=>pure (fi.isSome&&!isSeqSlot fi))=pure false);erw[f5.lookup];show(?_:(pure (true&&!isSeqSlot (some (.builtin "bytearray.__iadd__"))):Sem Bool)=_);erw[rB];rfl
theorem pS(a b:Value):argsOk "bytearray.__iadd__" ⟨[a,b],[]⟩:=by unfold argsOk;left
theorem own_buffer:Builtin.Bytes.slotIsOwn (.bytes more tk) "__buffer__"=pure true:=by
 have e1:specialOf (.bytes more tk) (Str.ofString "__buffer__")=pure (some (.builtin "bytes.__buffer__")):=by
  show(?_:typeLookup (.type "bytes") (Str.ofString "__buffer__")=_)
  (erw[nF ..,nE]);left
 have e3:isInstance (.bytes more tk) (.type "bytes")=pure true:=by show(?_:isSubtype (.type "bytes") (.type "bytes")=_);erw[isSubtype_type ..];left
 have e4:"bytes.__buffer__".endsWith ("."++"__buffer__")=true:=by nofun
 have e5:"bytes.__buffer__".dropRight ("__buffer__".length+1)="bytes":=by nofun
 erw[e1];show(?_:(if(!"bytes.__buffer__".endsWith ("."++"__buffer__"))=true then pure false else isInstance (.bytes more tk) (.type ("bytes.__buffer__".dropRight ("__buffer__".length+1))))=_);erw[e4,e5,e3];rfl
theorem own_release:Builtin.Bytes.ownRelease (.bytes more tk)=pure false:=by
 have e1:specialOf (.bytes more tk) (Str.ofString "__release_buffer__")=pure none:=by
  show(?_:typeLookup (.type "bytes") (Str.ofString "__release_buffer__")=_)
  (erw[nF ..,nE]);left
 erw[e1];rfl
theorem i9{id:String}:Builtin.Bytes.takeBufferQuiet? id (.bytes more tk) 0=pure (some (more,none)):=by
 have e1:specialOf (.bytes more tk) (Str.ofString "__buffer__")=pure (some (.builtin "bytes.__buffer__")):=by
  show(?_:typeLookup (.type "bytes") (Str.ofString "__buffer__")=_)
  (erw[nF ..,nE]);left
 have b:∀full,Builtin.Bytes.buffer? id (.bytes more tk) full=pure (some more):=fun full=>by
  unfold Builtin.Bytes.buffer?
  (erw[e1,own_buffer,own_release]);rfl
 have t:Builtin.Bytes.takeBuffer? id (.bytes more tk) 0=pure (some (more,none)):=by
  unfold Builtin.Bytes.takeBuffer?
  (erw[e1,own_buffer,b ..]);rfl
 unfold Builtin.Bytes.takeBufferQuiet?;erw[t];rfl
theorem pT(ho:s.heap.get? a=some (bV arr))(hz:arr.size+more.size≤16777216)(h:∀h',Heap.SameBut a s.heap h'→h'.get? a=some (bV (arr++more))→Q (.ref a) {s with heap:=h'}):
  ar (model prog w) A (Builtin.«bytearray.__iadd__» ⟨[.ref a,.bytes more tk],[]⟩) (fun fin s'=>∃v,fin= .done (.ret v)∧Q v s') E s:=by
 show ar.au (aG ?_);show ar.au (eA i9 ?_);dsimp only
 have hl:Builtin.Bytes.tooLong (arr.size+more.size)=false:=by unfold Builtin.Bytes.tooLong;erw[sizeLine_eq];show decide_eq_false (Nat.not_lt.mpr ‹_›)
 have fin:∀{t:Sem Fin},t=(do Builtin.Bytes.write (.ref a) (fun x=>x++more);ret (.ref a))→ar (model prog w) A t (fun fin s'=>∃v,fin= .done (.ret v)∧Q v s') E s:=fun e=>by
  subst e;show ar.au ?_;show V (wpAny_load ho (V (wpAny_update ho ?_)));have g:=Heap.get?_update_self (Obj.mapBytearray (fun x=>x++more)) ho rfl;show wpAny_lookBehind g ?_ ?_
  ·show(?_:(if(arr++more).size>sizeLine then some "bytearray:memory" else none)=none);erw[ax (by(show aD ?_ Array.size_append;show aD ?_ sizeLine_eq);show Nat.not_lt.mpr ‹_›)];with_reducible rfl
  ·show ar.pure ⟨_,rfl,h _ (Heap.SameBut.update ..) g⟩
 cases hm:more.isEmpty with
 |true=>erw[ax (by decide)];show ar.au (dF ho ?_);erw[ax (by show aD ?_ hl;decide)];show fin rfl
 |false=>erw[aJ (by decide),ax (by show(?_:¬ false=true);decide)];show ar.bind (gQ ho ?_);show ar.au (dF ho ?_);erw[ax (by show aD ?_ hl;decide)];show fin rfl
theorem rC(ho:s.heap.get? a=some (bV arr))(hz:arr.size+more.size≤16777216)(h:∀h',Heap.SameBut a s.heap h'→h'.get? a=some (bV (arr++more))→Q (.ref a) {s with heap:=h'}):
  ar (model prog w) A (inplaceOp .Add (.ref a) (.bytes more tk)) Q E s:=by
 have ha:=d8 ho;have hb:s.TypeIs (.bytes more tk) "bytes":=typeIs_bytes s more tk;show ar.holding ?_;show ar.au (wpAny_typeOf ha ?_);show ar.au (eA Bj ?_);erw[ax Bool.false_ne_true];show ar.au ?_
 ·show V (wpAny_typeOf ha (V (wpAny_typeOf hb (V (eA vZ ?_)))));show V (eA v5 ?_);show aG ?_;show ar.au (eA (PySem.seqSlot_of f5.lookup rB) ?_);show ar.au (wpAny_rule ?_);show ar.slot f5 ha nQ (pS _ _) (fun U U=>⟨_,rfl,congrArg Sem.pure fH⟩) (pT ho hz h)
end
section
variable{sl:Addr}{arr:Array UInt8}{l u:Value}{lo hi:Option Int}
theorem lA {Q:Value×Value×Value→Shared→Prop} (hs:s.heap.IsSliceOf sl l u .none) (hl:IsPart l lo) (hu:IsPart u hi) (h:Q (rawPart lo,rawPart hi,rawPart none) s):wpAny (model prog w) A (Builtin.Bytes.sliceParts (.ref sl)) Q E s:=by
 show bJ hs ?_;clear hs;rintro o ho hc hd
 unfold Builtin.Bytes.sliceParts
 show V (wpAny_field (x:=.none) ho hd rfl ?_)
 kby_none
 show wpAny_ite (KBy.ite_no (show ¬ ((Value.none==rawInt 0)=true) from Bool.false_ne_true) ?_)
 show V (wpAny_field (x:=l) ho hd rfl ?_)
 cases hl<;>cases hu<;>(first
  |(kby_none;(show V (wpAny_field (x:=.none) ho hd rfl ?_));kby_none)
  |(kby_none;(show V (wpAny_field (x:=.int _ _) ho hd rfl ?_));kby_int)
  |(kby_int;(show V (wpAny_field (x:=.none) ho hd rfl ?_));kby_none)
  |(kby_int;(show V (wpAny_field (x:=.int _ _) ho hd rfl ?_));kby_int))<;>show aG h
theorem jV{Q:Option Int→Shared→Prop}(hs:s.heap.IsSliceOf sl l u .none)(h:Q none s):wpAny (model prog w) A (Builtin.Bytes.subscript? (.ref sl)) Q E s:=by show bJ hs fun o ho hc hd=>?_;have hT:s.TypeIs (.ref sl) "slice":=⟨o,ho,hc⟩;unfold Builtin.Bytes.subscript?;show V (wpAny_specialOf hT slice_no_index (aG h))
theorem gR:Slot "bytearray" "__getitem__" "bytearray.__getitem__":=
 .of (owner:="bytearray") (n:="__getitem__") (by(erw[nF ..,nE]);left) (by nofun) (by nofun) (by nofun) (by first|show .inl (by decide+kernel)|show .inr (by decide+kernel)) (by erw[isSubtype_type ..];left)
theorem pU:entryFor table "bytearray.__getitem__"=some Builtin.«bytearray.__getitem__»:=entryFor_of_tree (by left)
theorem rD(a b:Value):argsOk "bytearray.__getitem__" ⟨[a,b],[]⟩:=by unfold argsOk;left
theorem tv(ho:s.heap.get? a=some (bV arr))(hs:s.heap.IsSliceOf sl l u .none)(hl:IsPart l lo)(hu:IsPart u hi)(hz:arr.size≤16777216)(h:Q (.ref s.heap.objs.size) {s with heap:=s.heap.push (bV (KBy.picked arr lo hi))}):wpAny (model prog w) A (Builtin.«bytearray.__getitem__» ⟨[.ref a,.ref sl],[]⟩) (fun fin s'=>∃v,fin= .done (.ret v)∧Q v s') E s:=by
 have hT:s.TypeIs (.ref sl) "slice":=let⟨o,ho,hc,_⟩:=hs;⟨o,ho,hc⟩;unfold Builtin.«bytearray.__getitem__»;show V (aG ?_);dsimp only;show V (jV hs ?_);show V (wpAny_typeOf hT ?_);erw[ax (by decide)];show V (lA hs hl hu ?_);show V (dF ho ?_);show V (eA (sliceIndices_raw lo hi none arr.size (fun e=>nomatch e)) ?_)
 show V (wpAny_newObj_type (aG ⟨_,rfl,h⟩) (by
  have:=KBc.size_picked_le arr lo hi;show(?_:(KBy.picked arr lo hi).size≤sizeLine)
  erw[sizeLine_eq];show hH ‹_› ‹_›))
end
theorem eG.aV{id:Nat}{b:List Int}{lo hi:Option Int}(e:σ[id]? =some (.aV b))(hz:b.length≤16777216)(h:P (.obj σ.length) (σ++[.aV (bE b lo hi)])):eG B X env σ (.obj id) lo hi P:=fun C O hX ρ s E Q x va vb S r pa pb q=>by show bY (S.aV r e) ?_;rintro a arr hc rfl ho rfl;have kp:=aC s.heap {cls:=.type "slice",data:=.fields #[va,vb,.none]};have kU:=kp _ _ ho;show⟨"bytearray",_,gR.lookup,d8 ho,⟨_,kU,rfl⟩,?_⟩;show wpAny_getItem_slot (T:="bytearray") ⟨_,kU,rfl⟩ (by decide) gR (wpAny_call_entry gR ⟨_,kU,rfl⟩ pU (tv (lo:=lo) (hi:=hi) kU (Heap.IsSliceOf.new _ _ _ _) pa pb (by replace hz:=bP▸hz;show hz) ?_) (rD _ _));have S1:=S.bh kp;have g:((s.heap.push {cls:=.type "slice",data:=.fields #[va,vb,.none]}).push (bV (KBy.picked arr lo hi))).get? (s.heap.push {cls:=.type "slice",data:=.fields #[va,vb,.none]}).objs.size=some (bV (KBy.picked arr lo hi)):=gh _ rfl;have K1:Kept C ρ s ρ {s with heap:=s.heap.push {cls:=.type "slice",data:=.fields #[va,vb,.none]}}:=aR kp rfl rfl;show q _ _ _ _ _ h (K1.trans (cU (x:=bV (KBy.picked arr lo hi)) rfl rfl rfl)) (S1.fA (o:=.aV (bE (KBw.bInts arr) lo hi)) rfl ⟨rfl,_,g,KBc.ints_picked rfl lo hi⟩) (by show⟨(_,[]),by show bD ?_ S.len;simp,rfl⟩)
section
variable{arr:Array UInt8}
theorem f6:typeLookup (.type "bytearray") (Str.ofString "__buffer__")=pure (some (.builtin "bytearray.__buffer__")):=by(erw[nF ..,nE]);left
theorem iF:typeLookup (.type "bytearray") (Str.ofString "__release_buffer__")=pure (some (.builtin "bytearray.__release_buffer__")):=by(erw[nF ..,nE]);left
theorem rE:typeLookup (.type "bytearray") (Str.ofString "__bytes__")=pure none:=by(erw[nF ..,nE]);left
theorem rF:typeLookup (.type "bytearray") (Str.ofString "__index__")=pure none:=by(erw[nF ..,nE]);left
theorem tw:isSubtype (.type "bytearray") (.type "bytearray")=pure true:=by erw[isSubtype_type ..];left
theorem tx{name id:String}{Q:Bool→Shared→Prop}(ho:s.heap.get? a=some (bV arr))(hl:typeLookup (.type "bytearray") (name:Str)=pure (some (.builtin id)))(h4:id.endsWith ("."++name)=true)(h5:id.dropRight (name.length+1)="bytearray")(h:Q true s):
  wpAny (model prog w) A (Builtin.Bytes.slotIsOwn (.ref a) name) Q E s:=by
 unfold Builtin.Bytes.slotIsOwn;show V (wpAny_specialOf (d8 ho) hl ?_);show(?_:wpAny _ _ (if(!id.endsWith ("."++name))=true then pure false else isInstance (.ref a) (.type (id.dropRight (name.length+1)))) _ _ _);erw[h4,h5,ax (by decide)];show wpAny_isInstance (d8 ho) tw h
theorem v7{id:String}{full:Bool}{Q:Option (Array UInt8)→Shared→Prop}(ho:s.heap.get? a=some (bV arr))(h:Q (some arr) s):wpAny (model prog w) A (Builtin.Bytes.buffer? id (.ref a) full) Q E s:=by unfold Builtin.Bytes.buffer?;show V (wpAny_specialOf (d8 ho) f6 ?_);show V (tx ho f6 (by nofun) (by nofun) ?_);erw[ax (by decide)];show V (wpAny_specialOf (d8 ho) f6 ?_);unfold Builtin.Bytes.ownRelease;show V (V (tx ho iF (by nofun) (by nofun) (aG ?_)));erw[ax (by decide)];show V (dF ho (aG h))
theorem Eb(ho:s.heap.get? a=some (bV arr))(hz:arr.size≤16777216)(hQ:∀t' k,Q (.bytes arr t') {s with toks:=k}):
  codeAny (model prog w) A (.call (.builtin "bytes.__new__") ⟨[.type "bytes",.ref a],[]⟩) (wants Q E) s:=by
 show codeAny_of_tree ?_;show(?_:wpAny _ A.in1 (do checkBuiltinCall "bytes.__new__" ⟨[.type "bytes",.ref a],[]⟩;again (.builtin "bytes.__new__" ⟨[.type "bytes",.ref a],[]⟩)) _ _ s);show V (eA (F.bm_newCall _) (aG ⟨plainId_quiet F.bm_plain _,codeAny_builtin F.bm_entry ?_⟩));erw[Around.under_plainId F.bm_plain _];have hT:=d8 ho;unfold Builtin.«bytes.__new__»;show V (eA (a:=true) rfl ?_);show bm_if_false rfl ?_;show V (eA F.bm_sub ?_);show bm_if_false rfl ?_;show V (eA (F.bm_bind _) ?_);show V (eA (a:=()) rfl ?_);show V (eA (a:=()) rfl ?_);show bm_if_false rfl ?_;show V (wpAny_specialOf hT rE ?_);show V (V ?_);show(?_:wpAny _ _ (load a>>=_) _ _ _);show V (wpAny_load ho ?_);show aG (aG ?_);show bm_if_false rfl ?_;show V (wpAny_specialOf hT rF ?_);show bm_if_true rfl ?_
 first
  |show(?_:wpAny _ _ (Builtin.Bytes.buffer? "bytes.__new__" (.ref a) true>>=_) _ _ _)
  |(show V ?_;change wpAny _ _ (Builtin.Bytes.buffer? "bytes.__new__" (.ref a) true>>=_) _ _ _)
 show V (v7 ho ?_);show V (wpAny_rule ?_);show V (wpAny_mkBytes ?_ (by erw[sizeLine_eq];assumption));show aG (hQ _ _)
theorem yK(ho:s.heap.get? a=some (bV arr))(hz:arr.size≤16777216)(hQ:∀t' k,Q (.bytes arr t') {s with toks:=k}):wpAny (model prog w) A (call (.type "bytes") [.ref a]) Q E s:=by
 show callType_codes (Q₁:=fun obj s₁=>s₁.TypeIs obj "bytes"∧Q obj s₁) F.bm_called (F.bm_typeCall _) F.entry_object_init
  (Eb ho hz fun t' k=>⟨PySem.W.typeIs_bytes _ _ _,hQ t' k⟩) fun obj s₁ h₁=>?_
 show⟨h₁.1,F.args_object_init_2 obj _,object_init_meets F.bm_called.init.lookup F.bm_called.made (by decide) prog w A.in1 _ s₁ ⟨h₁.1,rfl,h₁.2⟩⟩
end
theorem aM.ou{id:Nat}{l:List Int}(e:σ[id]? =some (.aV l))(hz:l.length≤16777216)(h:P (.bytes l) σ):aM B X env σ [.obj id] (fun vs=>PySem.call (.type "bytes") vs) P:=.one fun C O hX ρ s E Q x S rx q=>by show bY (S.aV rx e) ?_;rintro a arr hc rfl ho rfl;show yK ho (by replace hz:=bP▸hz;show hz) fun t' k=>q _ _ _ ρ {s with toks:=k} h (.rr rfl rfl rfl) S ⟨_,_,rfl,rfl⟩
section
variable{sl:Addr}{arr:Array UInt8}
theorem gT:Slot "bytearray" "__delitem__" "bytearray.__delitem__":=
 .of (owner:="bytearray") (n:="__delitem__") (by(erw[nF ..,nE]);left) (by nofun) (by nofun) (by nofun) (by first|show .inl (by decide+kernel)|show .inr (by decide+kernel)) (by erw[isSubtype_type ..];left)
theorem rG(a b:Value):argsOk "bytearray.__delitem__" ⟨[a,b],[]⟩:=by unfold argsOk;left
theorem mO{α:Type}{sel:Nat→Bool}{m:Nat}(hs:∀k,sel k=decide (k<m))(l:List α):∀(i:Nat),((l.zipIdx i).filterMap fun(x,k)=>if sel k=true then none else some x)=l.drop (m-i):=by
 induction l with
 |nil=>simp
 |cons x r ih=>
  intro i;erw[zipIdx_cons]
  by_cases h:i<m
  ·erw[filterMap_cons_none (by show(?_:(if sel i=true then none else some x)=none);(show aD ?_ (hs ..);show aD rfl (aJ (by simpa using h)))),ih (i+1)];obtain⟨k,hk⟩:∃k,m-i=k+1:=⟨m-i-1,by lia⟩;erw[hk];rw[drop_succ_cons];show aD rfl (show m-(i+1)=k by lia)
  ·erw[filterMap_cons_some (b:=x) (by show(?_:(if sel i=true then none else some x)=some x);(show aD ?_ (hs ..);show aD rfl (ax (by simpa using h)))),ih (i+1),show m-i=0 by omega,show m-(i+1)=0 by omega];rfl
theorem Ec(m k:Nat):Builtin.Bytes.selects ((0:Nat):Int) (m:Int) 1 k=decide (k<m):=by
 unfold Builtin.Bytes.selects;erw[aJ (by decide)];have h1:decide (((0:Nat):Int)≤(k:Int))=true:=decide_eq_true (Int.natCast_nonneg _)
 have h3:(((k:Int)-((0:Nat):Int)) % 1==0)=true:=by simp[Int.emod_one]
 erw[h1,h3,Bool.and_true ..,Bool.true_and ..]
 by_cases h:k<m
 ·erw[decide_eq_true h];show aD rfl (decide_eq_true (Int.ofNat_lt.mpr ‹_›))
 ·erw[decide_eq_false h];show aD rfl (decide_eq_false (by ac_rfl))
theorem rH{n:Nat}(ho:s.heap.get? a=some (bV arr))(hs:s.heap.IsSliceOf sl .none u .none)(hu:IsPart u (some (n:Int)))(hz:arr.size≤16777216)(h:∀h' sr,KBw.bInts sr=(KBw.bInts arr).drop n→Heap.SameBut a s.heap h'→h'.get? a=some (bV sr)→Q .none {s with heap:=h'}):
  ar (model prog w) A (Builtin.«bytearray.__delitem__» ⟨[.ref a,.ref sl],[]⟩) (fun fin s'=>∃v,fin= .done (.ret v)∧Q v s') E s:=by
 have hT:s.TypeIs (.ref sl) "slice":=let⟨o,ho,hc,_⟩:=hs;⟨o,ho,hc⟩;unfold Builtin.«bytearray.__delitem__»;show ar.au (aG ?_);dsimp only;show ar.au (jV hs ?_);show ar.au (wpAny_typeOf hT ?_);erw[ax (by decide)];show ar.au (lA hs .none hu ?_);show ar.au (dF ho ?_)
 have eb:sliceBounds none (some (n:Int)) none arr.size=(((0:Nat):Int),((min n arr.size:Nat):Int),1):=by erw[sliceBounds_plain ..];change(((0:Nat):Int),((clipAt arr.size (n:Int):Nat):Int),1)=_;show aD rfl (clipAt_nat ..)
 show ar.au (eA ((sliceIndices_raw none (some (n:Int)) none arr.size (fun e=>nomatch e)).trans (congrArg pure eb)) ?_);show ar.au (wpAny_rule ?_);dsimp only
 have fin:∀{t:Sem Unit},t=Builtin.Bytes.write (.ref a) (fun b=>(b.toList.zipIdx.filterMap fun(x,k)=>if Builtin.Bytes.selects ((0:Nat):Int) ((min n arr.size:Nat):Int) 1 k then none else some x).toArray)→ar (model prog w) A (t>>=fun U=>ret .none) (fun fin s'=>∃v,fin= .done (.ret v)∧Q v s') E s:=fun e=>by
  subst e;show ar.au ?_;show(?_:wpAny _ _ (updateBytearray a _) _ _ _);unfold updateBytearray;show V (wpAny_load ho (V (wpAny_update ho ?_)));have g:=Heap.get?_update_self (Obj.mapBytearray fun b:Array UInt8=>(b.toList.zipIdx.filterMap fun(x,k)=>if Builtin.Bytes.selects ((0:Nat):Int) ((min n arr.size:Nat):Int) 1 k then none else some x).toArray) ho rfl
  have e:(arr.toList.zipIdx.filterMap fun(x,k)=>if Builtin.Bytes.selects ((0:Nat):Int) ((min n arr.size:Nat):Int) 1 k=true then none else some x)=arr.toList.drop n:=by
   erw[mO (fun k=>Ec (min n arr.size) k) arr.toList 0,Nat.sub_zero ..]
   rcases Nat.le_total n arr.size with q|q
   ·show aD rfl (Nat.min_eq_left q)
   ·erw[Nat.min_eq_right q,drop_of_length_le (Nat.le_refl _)];show aD rfl (drop_of_length_le (by simpa using q))
  show wpAny_lookBehind g ?_ ?_
  ·show(?_:(if(arr.toList.zipIdx.filterMap _).toArray.size>sizeLine then some "bytearray:memory" else none)=none);erw[e,ax (by simp[sizeLine_eq];lia)];with_reducible rfl
  ·show ar.pure ⟨_,rfl,h _ _ (by unfold KBw.bInts;dsimp only;erw[e];simp[map_drop]) (Heap.SameBut.update ..) g⟩
 split
 ·show ar.bind (gQ ho (fin rfl))
 ·show fin rfl
end
section
variable{sl:Addr}{arr:Array UInt8}
theorem tA:mroOf (.type "bytearray")=pure [.type "bytearray",.type "object"]:=by erw[mroOf_type ..];left
theorem v8:typeLookup (.type "bytearray") "__new__"=pure (some (.builtin "bytearray.__new__")):=by(erw[nF ..,nE]);left
theorem d9:Slot "bytearray" "__init__" "bytearray.__init__":=
 .of (owner:="bytearray") (n:="__init__") (by(erw[nF ..,nE]);left) (by nofun) (by nofun) (by nofun) (by first|show .inl (by decide+kernel)|show .inr (by decide+kernel)) (by erw[isSubtype_type ..];left)
theorem oz:TypeCalled "bytearray" "bytearray.__new__" "bytearray.__init__":=
 ⟨by nofun,by nofun,⟨_,_,tA⟩,madeBy_type tA v8 (by nofun),by nofun,by erw[isSubtype_type ..];left,d9⟩
theorem rI:checkTypeCall "bytearray" ⟨[],[]⟩=pure ():=by left
theorem tB:checkBuiltinCall "bytearray.__new__" ⟨[.type "bytearray"],[]⟩=pure ():=by left
theorem pV:entryFor table "bytearray.__new__"=some Builtin.«list.__new__»:=entryFor_alias (id':="list.__new__") (by left) rfl (by nofun) (by left)
theorem pW:("bytearray.__new__".splitOn ".__new__").headD ""="bytearray":=by simp +decide [String.splitOn,String.splitOnAux]
theorem jW:plainId "bytearray.__new__"=true:=by nofun
theorem rJ{Q₁:VP}(h:Q₁ (.ref s.heap.objs.size) {s with heap:=s.heap.push (bV #[])}):codeAny (model prog w) A (.call (.builtin "bytearray.__new__") ⟨[.type "bytearray"],[]⟩) (wants Q₁ E) s:=by show codeAny_of_tree ?_;show(?_:wpAny _ A.in1 (do checkBuiltinCall "bytearray.__new__" ⟨[.type "bytearray"],[]⟩;again (.builtin "bytearray.__new__" ⟨[.type "bytearray"],[]⟩)) _ _ s);show V (eA tB (aG ⟨plainId_quiet jW _,codeAny_builtin_stack pV rfl fun p st=>?_⟩));erw[Around.under_plainId jW _];have eR:=tw;dsimp only;erw[pW];show V (eA (a:=true) rfl ?_);erw[ax (by decide)];show V (eA eR ?_);erw[ax (by decide)];show V (eA (a:=Data.bytearray #[]) rfl ?_);show wpAny_ite_split (fun U=>?_) (fun w3=>absurd (by nofun) w3);show V (wpAny_newObj_type (aG h) (by size_fits))
theorem pX(a:Value):argsOk "bytearray.__init__" ⟨[a],[]⟩:=by unfold argsOk;left
theorem pY(ho:s.heap.get? a=some (bV #[]))(h:∀h',Heap.SameBut a s.heap h'→h'.get? a=some (bV #[])→Q .none {s with heap:=h'}):
  ar (model prog w) A (Builtin.«bytearray.__init__» ⟨[.ref a],[]⟩) (fun fin s'=>∃v,fin= .done (.ret v)∧Q v s') E s:=by
 unfold Builtin.«bytearray.__init__»;dsimp only
 have own:∀{Q':Bool→Shared→Prop},Q' false s→wpAny (model prog w) A (Builtin.Bytes.ownRelease (.ref a)) Q' E s:=fun q=>by unfold Builtin.Bytes.ownRelease;show V (tx ho iF (by nofun) (by nofun) (aG q))
 show ar.au (own ?_);erw[ax (by decide)];show ar.au (eA (a:=[none,none,none]) (by left) ?_);dsimp only;show ar.au (eA (a:=()) rfl ?_);show ar.au (eA (a:=()) rfl ?_);show ar.bind (ar.bind (lu ?_));show ar.au ?_;show(?_:wpAny _ _ (Builtin.Bytes.exportsOf (.ref a)) _ _ _);unfold Builtin.Bytes.exportsOf;show V (wpAny_load ho (aG ?_));show ar.pure ?_;erw[ax (by decide)];show ar.au ?_;show(?_:wpAny _ _ (updateBytearray a (fun _=> #[])) _ _ _);unfold updateBytearray;show V (wpAny_load ho (V (wpAny_update ho ?_)));have g:=Heap.get?_update_self (Obj.mapBytearray fun _:Array UInt8=> #[]) ho rfl;show wpAny_lookBehind g (by nofun) ?_;show ar.pure ⟨_,rfl,h _ (Heap.SameBut.update ..) g⟩
end
section
variable{sl:Addr}{arr:Array UInt8}
theorem Bk(h:∀h',(∀b o,s.heap.get? b=some o→h'.get? b=some o)→h'.get? s.heap.objs.size=some (bV #[])→Q (.ref s.heap.objs.size) {s with heap:=h'}):ar (model prog w) A (call (.type "bytearray") []) Q E s:=by
 show ar.call (ba.tree ?_);show(?_:ar _ _ (callAny (.type "bytearray") _) _ _ _);show ar.pure ⟨Code.quiet_builtin _ (by nofun),(fun U U=>⟨_,rfl,congrArg Sem.pure fH⟩),ba.builtin PySem.F.entry_type_call ?_⟩;erw[Around.under_plain (weight_type_call_type "bytearray" [] []) rfl];unfold Builtin.«type.__call__»;dsimp only;erw[ax (by decide),ax (by show aD ?_ oz.canCreate;decide)];show ar.au (eA rI ?_);show ar.au (eA tA ?_);erw[ax (by decide)];show ar.au (eA oz.made ?_);dsimp only;show ar.au (aG ?_);show ar.au (eT (wpAny_call (codeAny_mono (rJ (E:=E) (Q₁:=fun v s1=>v= .ref s.heap.objs.size∧s1={s with heap:=s.heap.push (bV #[])}) ⟨rfl,rfl⟩) fun r s1 z=>?_)))
 rcases r with e|(v|_|_|_)<;>first|show z|show z.elim|skip
 show aA z ?_;rintro rfl rfl;have g:(s.heap.push (bV #[])).get? s.heap.objs.size=some (bV #[]):=gh _ rfl;show ar.au (wpAny_isInstance (T:="bytearray") ⟨_,g,rfl⟩ tw ?_);erw[ax (by decide)];have hT:Shared.TypeIs {s with heap:=s.heap.push (bV #[])} (.ref s.heap.objs.size) "bytearray":=⟨_,g,rfl⟩;show ar.bind (ar.holding ?_);unfold callSpecial?;show ar.au (wpAny_specialOf hT d9.lookup ?_);show ar.holding ?_;erw[d9.bind _];show ar.au (aG ?_);show ar.bind (ar.slot d9 hT nR (pX _) (fun U U=>⟨_,rfl,congrArg Sem.pure fH⟩) (pY g fun h' sb g'=>?_));show ar.pure ?_;show ar.pure (h h' (fun b o e=>(sb.2 b (Nat.ne_of_lt (Heap.lt_size e))).trans (n5 _ e)) g')
end
section
variable{sl:Addr}{arr:Array UInt8}
theorem rK{n:Nat}{Q:sF}(ho:s.heap.get? a=some (bV arr))(hs:s.heap.IsSliceOf sl .none u .none)(hu:IsPart u (some (n:Int)))(hz:arr.size≤16777216)(h:∀h' sr,KBw.bInts sr=(KBw.bInts arr).drop n→Heap.SameBut a s.heap h'→h'.get? a=some (bV sr)→Q () {s with heap:=h'}):ar (model prog w) A (delItem (.ref a) (.ref sl)) Q E s:=by have hT:=d8 ho;unfold delItem;show ar.holding ?_;show ar.au (wpAny_sequenceKey hT (by decide) ?_);unfold callSpecial?;show ar.bind (ar.au (wpAny_specialOf hT gT.lookup ?_));show ar.holding ?_;erw[gT.bind _];show ar.au (aG ?_);show ar.bind (ar.slot gT hT pQ (rG _ _) (fun U U=>⟨_,rfl,congrArg Sem.pure fH⟩) (rH ho hs hu hz fun h' sr e sb g=>?_));show ar.pure (ar.pure (h h' sr e sb g))
end
section
variable{M:Model}{env:Env}
theorem ar.pZ{Q:qu}(h:wpAny M A (eval o env) (fun ov s₁=>wpAny M A (getAttr ov attr true) (fun old s₂=>wpAny M A (eval value env) (fun v s₃=>ar M A (inplaceOp op old v) (fun new s₄=>wpAny M A (setAttr ov attr new) (fun U=>Q .next) E s₄) E s₃) E s₂) E s₁) E s):
  ar M A (exec (.AugAssign (.Attribute o attr tpos) op value pos) env) Q E s:=by
 erw[arm_exec_AugAssign_2 ..];show ar.au (gx ?_);show ar.au (jt h (fun ov s₁ h₁=>?_) fun U U x=>x);show ar.bind (ar.holding (ar.au (gx (ar.au (jt h₁ (fun old s₂ h₂=>?_) fun U U x=>x)))));show ar.au (eT (jt h₂ (fun v s₃ h₃=>?_) fun U U x=>x));show ar.au (gx ?_);unfold operate;show ar.bind (ar.holding (ar.mono h₃ (fun new s₄ h₄=>?_) fun U U x=>x));show ar.au (wpAny_release (ar.pure ?_));show ar.au (gx ?_);show ar.au (eT (jt h₄ (fun U U h₅=>?_) fun U U x=>x));show ar.au (wpAny_release (ar.pure h₅))
theorem Bl{Q:qu}(h:wpAny M A (eval o env) (fun ov s₁=>wpAny M A (eval i env) (fun iv s₂=>ar M A (delItem ov iv) (fun U=>Q .next) E s₂) E s₁) E s):
  ar M A (exec (.Delete [.Subscript o i tpos] pos) env) Q E s:=by
 have e:exec (.Delete [.Subscript o i tpos] pos) env=(do
   standAt pos
   (do
    (do
     let ov←eval o env;let iv←holding [ov] (eval i env)
     standAt tpos
     holding [ov,iv] (delItem ov iv)
     release [ov,iv] [])
    pure ())
   pure Flow.next):=rfl
 erw[e];show ar.au (gx ?_);show ar.bind (ar.bind ?_);show ar.au (jt h (fun ov s₁ h₁=>?_) fun U U x=>x);show ar.au (eT (jt h₁ (fun iv s₂ h₂=>?_) fun U U x=>x));show ar.au (gx ?_);show ar.bind (ar.holding (ar.mono h₂ (fun U s₃ h₃=>?_) fun U U x=>x));show ar.of (wpAny_release (ar.pure (ar.pure h₃)))
end
set_option backward.match.sparseCases true
section
variable{M:Model}{env:Env}
theorem Ed{Q:qu}(h:ar M A (exec t env) (fun f s'=>match f with| .next=>ar M A (execs r env) Q E s'|f=>Q f s') E s):ar M A (execs (t::r) env) Q E s:=by
 have e:execs (t::r) env=(do match←exec t env with| .next=>execs r env|f=>pure f):=rfl;erw[e];show ar.bind (ar.mono h (fun f s' z=>?_) fun U U z=>z)
 cases f<;>first|show z|show ar.pure z
theorem J4{h₀:ExceptHandler}{hs:List ExceptHandler}{Q:qu}(h:ar M A (execs body env) (fun f s₁=>match f with| .next=>wpAny M A (execs orelse env) Q E s₁ |f=>Q f s₁)
   (fun e s₁=>wpAny M A (noteFrame e env) (fun U s₂=>wpAny M A (setFlight e none) (fun U s₃=>wpAny M A (handleBy e env (h₀::hs)) Q E s₃) E s₂) E s₁) s):
  ar M A (exec (.Try body (h₀::hs) orelse [] pos) env) Q E s:=by
 erw[arm_exec_Try ..];show ar.au (gx ?_);unfold tryStmt;show ar.bind (ar.attempt (ar.mono h (fun f s₁ z=>?_) fun e s₁ z=>?_))
 ·cases f<;>first|show ar.of (jt z (fun f s h=>by first|show ar.pure h|show h) fun U U x=>x)|show ar.pure z
 ·show ar.au (jt z (fun U s2 z2=>?_) fun U U x=>x);erw[ax (by simp)];show ar.au (jt z2 (fun U s3 z3=>?_) fun U U x=>x);show ar.of (jt z3 (fun f s h=>by first|show ar.pure h|show h) fun U U x=>x)
end
theorem p0(l1 l2:List Stmt)(env:Env):execs (l1++l2) env=(do match←execs l1 env with| .next=>execs l2 env|f=>pure f):=by
 induction l1 with
 |nil=>rfl
 |cons a r ih=>
  erw[cons_append,execs_cons ..,execs_cons ..,LawfulMonad.bind_assoc ..]
  congr 1
  funext f
  cases f<;>first|show ih|rfl
section
variable{α:Type}{M:Model}
theorem GH{m:Sem α}{Q:α→Shared→Prop}(h:ar M A m Q E s):ar M A (m.keep vs) Q E s:=fun Γ p i d n=>by erw[Sem.wp_keep ..];show h Γ p i d n
theorem iteJ{Q:α→Shared→Prop}{c:Prop}[Decidable c]{t e:Sem α}(h:ar M A t Q E s)(k:ar M A e Q E s):ar M A (if c then t else e) Q E s:=by
 by_cases x:c
 ·show aJ x▸h
 ·show ax x▸k
theorem oA{P:Heap→Prop}{args:List (Bool×Sem Value)}{keywords:List (Option Str×Sem Value)}(EZ:(args.any (·.1)||keywords.any (·.1.isNone))=false)(hk:∀h,P h→∃k,(k=Keeper.frame∨k=Keeper.machine∨k=Keeper.boundFrame)∧Looks M h (keeperOf f) k)(h:wpAny M A (evalArgs f true args keywords) (fun a s₁=>P s₁.heap∧ar M A (call f (first++a.pos) a.kw) Q E s₁) E s):ar M A (callWith pos f first args keywords) Q E s:=by
 show ar.au (eT (jt h (fun a s₁ h₁=>?_) fun U U x=>x));show ar.au (gx ?_);show aa (hk _ h₁.1) fun k Fs L=>?_;show ar.au (L.here ?_);erw[EZ]
 have tail:∀{t:Sem Value},ar M A t Q E s₁→ar M A (t>>=fun r=>holding [r] point>>=fun U=>pure r) Q E s₁:=
  fun ht=>ar.bind (ar.mono ht (fun r s₂ hr=>ar.of (V (eT (wpAny_point (aG hr))))) fun U U x=>x)
 have marked (mk:Value):ar M A (callMarked mk f (first++a.pos) a.kw) Q E s₁:=by unfold callMarked;show GH h₁.2
 rcases Fs with rfl|rfl|rfl
 ·show iteJ (tail h₁.2) (tail (marked _))
 ·show tail h₁.2
 ·show iteJ (tail h₁.2) (tail (marked _))
end
theorem tC{env:Env}(h:ar (model prog w) (A.deeper env) (execs body env) (fun f s'=>R (.ok (.ret (match f with| .ret v=>v|_=>.none))) s')
   (fun e s'=>wpAny (model prog w) (A.deeper env) (leaving env e) (fun U lX=>R (.error e) lX) (fun e' lX=>R (.error e') lX) s') s):ba (model prog w) A (.func body env) R s:=by
 show ba.tree ?_;show(?_:ar _ (A.deeper env) (do point;match←(execs body env).onRaise (leaving env)with| .ret v=>ret v|_=>ret .none) _ _ s);show ar.au (wpAny_point (ar.bind (ar.onRaise (ar.mono h (fun f s' h'=>?_) fun U U h'=>ar.of h'))));cases f<;>show ar.pure h'
theorem iw{args:Args}{o:Obj}{fd:FuncData}(kj:A.depth<recursionLimit)(ho:s.heap.get? a=some o)(du:o.data= .func fd)(Hl:fd.scope.isCoroutine=false)(si:fd.scope.isGenerator=false)(nv:fd.body= .stmts body)(CQ:s.heap.CodeRec fd.code fd.qualname)(h:wpAny (model prog w) A.in1 (bindArgs fd args) (fun binds s₁=>
   wpAny (model prog w) A.in1 (newFunctionEnv fd.scope fd.globals fd.closure binds (fd.qualname++".<locals>.") (some a) fd.code none fd.builtins)
    (fun env s₂=>s₂.heap.NoLimit∧ba (model prog w) A (.func body env) R s₂) (fun e s'=>R (.error e) s') s₁) (fun e s'=>R (.error e) s') s):
  ba (model prog w) A (.call (.ref a) args) R s:=by
 show ba.tree ?_;show(?_:ar _ A.in1 (callAny (.ref a) args) _ _ s);show ar.au (wpAny_load ho ?_);show nJ CQ fun c oc vs tq hc wZ Iw hq=>?_;rw[du];dsimp only;unfold callFunction;rw[Hl,si,nv,hc];replace h:=hc▸h;show ar.au (m:=field (.ref c) 1) (wpAny_field wZ Iw hq (ar.au (aG ?_)))
 show ar.au (jt h (fun binds s₁ h₁=>ar.au (jt h₁ (fun env s₂ h₂=>ar.au (wpAny_enterFrame h₂.1 kj
  (ar.pure ⟨rfl,fun U U=>⟨_,rfl,rfl⟩,h₂.2⟩))) fun U U h'=>h')) fun U U h'=>h')
theorem lB{o:Obj}{fd:FuncData}{binds:List (Str×Value)}(kj:A.depth<recursionLimit)(ho:s.heap.get? a=some o)(dp:o.data= .func fd)(EN:s.heap.NoLimit)(CQ:s.heap.CodeRec fd.code fd.qualname)(nv:fd.body= .stmts body)(z8:BindsTo s fd ⟨vals,[]⟩ binds)(EO:fd.closure=[])(Aa:∀x∈binds,fd.scope.names.lookup x.1=some .local∨(fd.scope.names.lookup x.1=some .cell∧((cellsFrom (s.heap.objs.size+1) fd.scope.names []).lookup x.1).isSome=true))(h:∀s₁,InCallC s (callEnvC fd s.heap.objs.size a).locals (bindL (callEnvC fd s.heap.objs.size a).kindOf binds fun U=>none) (callEnvC fd s.heap.objs.size a).cells (bindC (callEnvC fd s.heap.objs.size a).kindOf binds fun U=>none) s₁→
   ar (model prog w) (A.deeper (callEnvC fd s.heap.objs.size a)) (execs body (callEnvC fd s.heap.objs.size a)) (fun f s'=>R (.ok (.ret (match f with| .ret v=>v|_=>.none))) s')
    (fun e s'=>wpAny (model prog w) (A.deeper (callEnvC fd s.heap.objs.size a)) (leaving (callEnvC fd s.heap.objs.size a) e) (fun U lX=>R (.error e) lX) (fun e' lX=>R (.error e') lX) s') s₁) (Hl:fd.scope.isCoroutine=false) (si:fd.scope.isGenerator=false) (hk:fd.scope.kind= .function):ba (model prog w) A (.call (.ref a) ⟨vals,[]⟩) R s:=by
 show iw kj ho dp Hl si nv CQ (z8 _ _ _ _ ?_);erw[EO];show wpAny_newFunctionEnv_cells hk Aa fun env he s' x=>?_;subst he;show⟨EN.keeps x.toInCall.keep,tC (h s' x)⟩
def Ee(B:Base)(sc:Sx)(env:aQ)(σ:List LO)(e:Expr)(P:kr):Prop:=
 ∀(C:Cx),bC C→sc.At C→∀(ρ:Cells) (s:Shared) (E:VP) (Q:VP),St B C ρ env σ s.heap→Exc B sc C ρ s E→
  (∀r σ' v ρ' s',P r σ'→Kept C ρ s ρ' s'→St B C ρ' env σ' s'.heap→Rep s'.heap ρ' r v→Q v s')→ar B.M C.A (eval e C.env) Q E s
def uH(B:Base)(sc:Sx)(env:aQ)(σ:List LO)(as:List LV)(t:List Value→Sem Value)(P:kr):Prop:=
 ∀(C:Cx),bC C→sc.At C→∀(ρ:Cells) (s:Shared) (E:VP) (Q:VP) (vs:List Value),St B C ρ env σ s.heap→Exc B sc C ρ s E→bz s.heap ρ as vs→
  (∀r σ' v ρ' s',P r σ'→Kept C ρ s ρ' s'→St B C ρ' env σ' s'.heap→Rep s'.heap ρ' r v→Q v s')→ar B.M C.A (t vs) Q E s
def jX(B:Base)(X:Sx)(env:aQ)(σ:List LO)(b:List Stmt)(P:dO):Prop:=
 ∀(C:Cx),bC C→X.At C→∀(ρ:Cells) (s:Shared) (E:VP) (Q:qu),St B C ρ env σ s.heap→Exc B X C ρ s E→
  (∀f fv ae σ' ρ' s',P fv ae σ'→Kept C ρ s ρ' s'→St B C ρ' ae σ' s'.heap→iT s'.heap ρ' fv f→Q f s')→ar B.M C.A (execs b C.env) Q E s
def eP(B:Base)(X:Sx)(env:aQ)(σ:List LO)(b:Stmt)(P:dO):Prop:=
 ∀(C:Cx),bC C→X.At C→∀(ρ:Cells) (s:Shared) (E:VP) (Q:qu),St B C ρ env σ s.heap→Exc B X C ρ s E→
  (∀f fv ae σ' ρ' s',P fv ae σ'→Kept C ρ s ρ' s'→St B C ρ' ae σ' s'.heap→iT s'.heap ρ' fv f→Q f s')→ar B.M C.A (exec b C.env) Q E s
def oB(B:Base)(X:Sx)(r:List Stmt)(P:dO):dO
 | .next,ae,σ'=>jX B X ae σ' r P
 |fv,ae,σ'=>P fv ae σ'
section
variable{P:dO}{PV:kr}
theorem jX.of(h:dY B X env σ b P):jX B X env σ b P:=fun C O hX ρ s E Q S qe q=>.of (h C O hX ρ s E Q S qe q)
theorem mP{Q:qu}{f:Flow}{fv:FV}(O:bC C)(hX:X.At C)(qe:Exc B X C ρ s E)(q:∀f fv ae σ' ρ' s',P fv ae σ'→Kept C ρ s ρ' s'→St B C ρ' ae σ' s'.heap→iT s'.heap ρ' fv f→Q f s')(h1:oB B X r P fv kT σ1)(K1:Kept C ρ s ρ1 s1)(S1:St B C ρ1 kT σ1 s1.heap)(R1:iT s1.heap ρ1 fv f):
  match(generalizing:=false) f with| .next=>ar B.M C.A (execs r C.env) Q E s1 |f=>Q f s1:=by
 induction fv using FV.casesOn with
 |next=>obtain rfl:=R1;show h1 C O hX ρ1 s1 E Q S1 (qe.since K1) fun f fv ae σ' ρ' s' p' K' S' R'=>q _ _ _ _ _ _ p' (K1.trans K') S' R'
 |brk=>obtain rfl:=R1;show q _ .brk _ _ _ _ h1 K1 S1 rfl
 |cont=>obtain rfl:=R1;show q _ .cont _ _ _ _ h1 K1 S1 rfl
 |ret r=>(show aa R1 ?_;rintro v rfl R1);show q _ (.ret r) _ _ _ _ h1 K1 S1 ⟨v,rfl,R1⟩
theorem jX.cons{st:Stmt}{r:List Stmt}(h:eP B X env σ st (oB B X r P)):jX B X env σ (st::r) P:=fun C O hX ρ s E Q S qe q=>
 Ed (h C O hX ρ s E _ S qe fun f fv kT σ1 ρ1 s1 h1 K1 S1 R1=>mP O hX qe q h1 K1 S1 R1)
theorem jX.append(h:dY B X env σ pre (oB B X r P)):jX B X env σ (pre++r) P:=fun C O hX ρ s E Q S qe q=>by
 erw[p0 ..];show ar.au (h C O hX ρ s E _ S qe fun f fv kT σ1 ρ1 s1 h1 K1 S1 R1=>?_);have:=mP O hX qe q h1 K1 S1 R1
 cases f<;>first|show this|show ar.pure this
theorem jX.weak(k:Sub env c7)(h:jX B X env σ b P):jX B X c7 σ b P:=fun C O hX ρ s E Q S qe q=>h C O hX ρ s E Q (S.weak k) qe q
theorem jX.mono{P':dO}(h:jX B X env σ b P)(k:∀f e s,P f e s→P' f e s):jX B X env σ b P':=fun C O hs ρ s E Q S qe q=>
 h C O hs ρ s E Q S qe fun f fv ae σ' ρ' s' p'=>q f fv ae σ' ρ' s' (k _ _ _ p')
theorem yL{xs:List Str}{as:List LV}(hB:B.Ok)(F:cm B a fd body xs)(hd:X.d≤300)(hl:as.length=xs.length)(h:jX B (X.lL env fd) (xs.zip as) σ body fun fv ae σ'=>PV (lK fv) σ')(C:Cx)(O:bC C)(hX:X.At C)(ρ:Cells)(s:Shared)(E:VP)(Q:VP)(vs:List Value)(S:St B C ρ env σ s.heap)(qe:Exc B X C ρ s E)(R:bz s.heap ρ as vs)(q:∀r σ' v ρ' s',PV r σ'→Kept C ρ s ρ' s'→St B C ρ' env σ' s'.heap→Rep s'.heap ρ' r v→Q v s')(A:Around)(hA:A.handled=C.A.handled∧A.frames=C.A.frames∧A.depth≤C.A.depth+1∧A.units≤C.A.units+16):
  ba B.M A (.call (.ref a) ⟨vs,[]⟩) (fun r s'=>match r with| .ok (.ret v)=>Q v s'| .ok _=>False| .error e=>E e s') s:=by
 have Kr:=hA;show qA hA ?_;clear hA;rintro a1 a2 a3 a4;show aa F.at_ ?_;rintro o ho dp
 have len:vs.length=xs.length:=by(erw[R.length];show aD rfl hl)
 have dep:C.A.depth≤310+2*C.dq.length:=O.depth;have Mo:C.dq.length≤X.d:=hX.d;show bJ F.cells ?_;rintro ns Kn Ft Hm;have w1:∀n x,fd.scope.names.lookup x=some .cell→∃c,(cellsFrom n fd.scope.names []).lookup x=some c:=fun n x e=>de (by erw[Ft n];show Hm x e)
 show lB (by unfold recursionLimit;ac_rfl) (S.base _ _ ho) dp (hB.nolimit.keeps S.base) (by
   show nJ F.code ?_;rintro c oc us tq e1 e2 e3 e4
   show⟨c,oc,us,tq,e1,S.base _ _ e2,e3,e4⟩) F.body (F.bind vs len s S.base) F.Fl (fun x hx=>?_) (fun s₁ hIn=>?_) F.co F.gen F.kind
 ·have Ks:x.1∈xs:=by have:=List.mem_map_of_mem (f:=(·.1)) hx;replace this:=gH len▸this;show this
  rcases F.kinds _ Ks with e|e
  ·show .inl e
  ·show av (w1 (s.heap.objs.size+1) _ e) ?_;rintro c hc;show .inr ⟨e,by erw[hc];rfl⟩
 show oY (Ct hB F hd hl C O hX ρ s E Q vs S qe R q A Kr s₁ hIn) ?_;rintro dq O' bZ S' Kt q';show h _ O' bZ ρ s₁ _ _ S' Kt q'
theorem uH.fn{xs:List Str}{as:List LV}(hB:B.Ok)(F:cm B a fd body xs)(hd:X.d≤300)(hl:as.length=xs.length)(h:jX B (X.lL env fd) (xs.zip as) σ body fun fv ae σ'=>PV (lK fv) σ'):uH B X env σ as (fun vs=>PySem.call (.ref a) vs) PV:=fun C O hX ρ s E Q vs S qe R q=>
 ar.call (yL hB F hd hl h C O hX ρ s E Q vs S qe R q C.A ⟨rfl,rfl,by show Nat.le_add_right _ _,by show Nat.le_add_right _ _⟩)
theorem Ee.qR(G:Gd B)(hp:es.all bq=true)(hv:bX (K B.w.params) X.sc f=some v)(kp:i7 (K B.w.params) v=true)(h:lR B X env σ es fun as σ1=>uH B X env σ1 as (fun vs=>PySem.call v vs) PV):Ee B X env σ (.Call (.Name f np) es [] pos) PV:=fun C O hX ρ s E Q S qe q=>by
 show ar.au (uz G hv O hX S qe fun ρ1 s1 K1 S1=>?_);have fu:=cH C.env hp pos
 have h3:=h C O hX ρ1 s1 E (fun vs s₁=>(∀a o,B.heap.get? a=some o→s₁.heap.get? a=some o)∧ar B.M C.A (PySem.call v ([]++vs)) Q E s₁) pos S1 (qe.since K1) fun rs σ2 vs ρ2 s2 p2 K2 S2 R2=>
  ⟨S2.base,p2 C O hX ρ2 s2 E Q vs S2 (qe.since (K1.trans K2)) R2 fun r σ' v' ρ' s' p' K' S' R'=>q _ _ _ _ _ p' ((K1.trans K2).trans K') S' R'⟩
 show oA (P:=fun hh=>∀a o,B.heap.get? a=some o→hh.get? a=some o) (by show(?_:((backTo pos (starEach es C.env)).any (·.1)||false)=false);erw[df fu];rfl) (jI G kp) (eI fu h3)
theorem Ee.pD{apos:Pos}(hp:(vL es&&fT o&&apos.endLine==pos.line)=true)(h:aS B X env σ o fun ov σ1=>∃v dA,bO B env σ1 ov name v dA∧lR B X env σ1 es fun as σ2=>uH B X env σ2 (dA++as) (fun vs=>PySem.call v vs) PV):
  Ee B X env σ (.Call (.Attribute o name apos) es [] pos) PV:=fun C O hX ρ s E Q S qe q=>by
 simp only[Bool.and_eq_true]at hp;show aA hp ?_;clear hp;rintro⟨hfew,ho⟩ g9;unfold vL at hfew;simp only[Bool.and_eq_true,decide_eq_true_eq]at hfew;show aA hfew ?_;clear hfew;rintro xf hlen;have fu:=cH C.env xf pos;erw[arm_eval_Call ..];rw[dB ho];show ar.au (h C O hX ρ s E _ S qe fun ov σ1 u ρ1 s1 h1 K1 S1 R1=>?_);show cj h1 ?_;clear h1;rintro v dA hm h2;show ar.au (gx ?_)
 have so:methodCallForm (es.length+([]:List Keyword).length) (backTo pos (starEach es C.env)) (backToKw pos (keywordEach [] C.env))=true:=by
  show(?_:((backTo pos (starEach es C.env)).all (fun x=>!x.1)&&true&&decide (es.length+0+0<30))=true)
  (erw[fu,decide_eq_true (Cp ‹_› (by decide))]);rfl
 have qp:methodCallPos true o C.env apos pos=pure pos:=by unfold methodCallPos;simp[g9]
 unfold methodCall;erw[so];show ar.au (eT ?_);show hm.run C O ρ1 s1 _ _ _ u S1 R1 fun vs s2 K2 S2 R2=>?_;show ar.au (eA qp ?_)
 have h3:=h2 C O hX ρ1 s2 E (fun Ap s₁=>(∀a o,B.heap.get? a=some o→s₁.heap.get? a=some o)∧ar B.M C.A (PySem.call v (vs++Ap)) Q E s₁) pos S2 (qe.since (K1.trans K2)) fun rs σ2 Ap ρ3 s3 p3 K3 S3 R3=>
  ⟨S3.base,p3 C O hX ρ3 s3 E Q (vs++Ap) S3 (qe.since ((K1.trans K2).trans K3)) ((K3.gz S2 R2).append R3) fun r σ' v' ρ' s' p' K' S' R'=>q _ _ _ _ _ p' (((K1.trans K2).trans K3).trans K') S' R'⟩
 show oA (P:=fun hh=>∀a o,B.heap.get? a=some o→hh.get? a=some o) (by show(?_:((backTo pos (starEach es C.env)).any (·.1)||false)=false);erw[df fu];rfl) hm.keeps (eI fu h3)
theorem eP.assign(hk:X.sc.names.lookup x=some .local∨X.sc.names.lookup x=some .cell)(h:Ee B X env σ value fun r σ1=>P .next (put x r env) σ1)(hs:∀ae,swapsWith value (some (.Name x px)) pos.line ae=pure false:=by intro U;rfl):eP B X env σ (.Assign [.Name x px] value pos) P:=fun C O hX ρ s E Q S qe q=>by
 erw[exec_Assign_Name (hs:=hs _)];show ar.au (gx (ar.bind (ar.mono (h C O hX ρ s E (fun v s₁=>wpAny B.M C.A (storeName C.env x v) (fun U=>Q .next) E s₁) S qe fun r σ1 v ρ1 s1 h1 K1 S1 R1=>?_) (fun v s₁ z=>?_) fun U U z=>z)))
 ·show dk O S1 (by unfold Env.kindOf;erw[hX.1];show hk) R1 fun s2 K2 S2=>?_;show q _ .next _ _ _ _ h1 (K1.trans K2) S2 rfl
 ·show ar.au (gx (ar.au (wpAny_bindName (jt z (fun U s2 z2=>ar.pure z2) fun U U x=>x))))
theorem eP.expr(h:Ee B X env σ e fun r σ1=>r= .none∧P .next env σ1)(hi:∀ae,interactive ae=(ae.scope.kind== .module&&ae.scope.more.any fun(n,_)=>n==("interactive":Str)):=by intro U;rfl)(hs:∀ae,swapsWith e none pos.line ae=pure false:=by intro U;rfl):
  eP B X env σ (.Expr e pos) P:=fun C O hX ρ s E Q S qe q=>by
 erw[exec_Expr (hi:=by(show aD ?_ (hi ..);show aD ?_ O.kind);rfl) (hs:=hs _)];show ar.au (gx (ar.bind (ar.mono (h C O hX ρ s E (fun v s1=>v= .none∧Q .next s1) S qe fun r σ1 v ρ1 s1 h1 K1 S1 R1=>?_) (fun v s₁ z=>?_) fun U U z=>z)))
 ·show aA h1 ?_;rintro rfl h1;show⟨R1,q _ .next _ _ _ _ h1 K1 S1 rfl⟩
 ·show aA z ?_;rintro rfl z;erw[dropValue_plain (by intro a e;right)];show ar.pure z
end
set_option backward.match.sparseCases false
section
variable{α:Type}{M:Model}{env:Env}
theorem ar.hide{t:Sem α}{Q:α→Shared→Prop}(h:∀Q':α→Shared→Prop,(∀a s,Q a s→Q' a s)→ar M A t Q' E s):ar M A t Q E s:=h Q fun U U z=>z
theorem yM{m:Sem α}{Q:α→Shared→Prop}(h:ar M A m Q (notedBy M A env E) s):ar M A (m.onRaise fun x=>do noteFrame x env;theTreesLotGoes x) Q E s:=
 ar.onRaise (ar.mono h (fun U U q=>q) fun U U hx=>ar.of (V (jt hx (fun U U e=>wpAny_theTreesLotGoes e) fun U U e=>e)))
theorem uI{Q:qu}(hd:gq c)(hc:ba M A c (fun r s'=>match r with| .ok f=>Q f s'| .error e=>cameBackBy M A env E e s') s):ar M A (runOwn c env) Q E s:=by show ar.onRaise (ar.mono (ar.run (E:=cameBackBy M A env E) hd hc) (fun U U q=>q) fun e s' z=>ar.of z)
theorem lC{K:Frag}{x C f:Addr}{od:Option Obj}{Q:Option Value→Shared→Prop}(X:K.In s.heap)(I:InstAt s.heap x ox C od)(hs:findIn K (.ref C) name=some (some (.ref f)))(hf:typeIn K (.ref f)=some (.type "function"))(h:ar M A (call (.ref f) (.ref x::args)) (fun v=>Q (some v)) E s):
  ar M A (callSpecial? (.ref x) name args) Q E s:=by
 show ar.au (V (I.type.here ((looks_findIn X hs).here ?_)));show ar.holding (ar.au ((bind_fn X _ hf).here ?_));show ar.bind (ar.mono h (fun U U z=>ar.pure z) fun U U z=>z)
end
section
variable{env:Env}
theorem iG(I:Nat→Shared→Prop)(turn:∀n s,I n s→ar (model prog w) A (pyNext it) (fun r s₁=>match r with
   |none=>R (.ok .next) s₁
   |some v=>wpAny (model prog w) A (assign target env v) (fun U s₂=>ar (model prog w) A (execs body env) (fun f s₃=>match f with
     | .next| .cont=>∃m,m<n∧I m s₃
     | .brk=>R (.ok .next) s₃
     | .ret v=>R (.ok (.ret v)) s₃) (notedBy (model prog w) A env fun e s'=>R (.error e) s') s₂) (notedBy (model prog w) A env fun e s'=>R (.error e) s') s₁) (notedBy (model prog w) A env fun e s'=>R (.error e) s') s) (n:Nat) (h:I n s) (ht:∀v,letOwnedTupleGo target it v=pure ():=by intro U;rfl):ba (model prog w) A (.forLoop target it body [] env) R s:=by
 show ba.loop rfl (fun U U=>⟨_,rfl,rfl⟩) I (fun n s hI=>?_) n h;show yM ?_;unfold forTurn;show ar.au (gx (ar.bind (ar.onRaise (ar.mono (turn n s hI) (fun r s₁ h₁=>?_) fun U U h'=>ar.standAt h'))))
 induction r using Option.casesOn with
 |none=>show ar.pure (.inr ⟨rfl,fun U U=>⟨_,rfl,rfl⟩,ba.of (codeAny_block (wpAny_execs_nil h₁))⟩)
 |some v=>
  show ar.au (eA (ht v) ?_);show ar.au (jt h₁ (fun U s₂ h₂=>ar.bind (ar.mono h₂ (fun f s₃ h₃=>?_) fun U U h'=>h')) fun U U h'=>h')
  induction f using Flow.casesOn with
  |next=>show ar.pure (.inl ⟨rfl,h₃⟩)
  |cont=>show ar.pure (.inl ⟨rfl,h₃⟩)
  |brk=>show ar.pure h₃
  |ret v=>show ar.pure h₃
theorem GI{iter:Expr}{Q:qu}(h:wpAny (model prog w) A (eval iter env) (fun x s₁=>wpAny (model prog w) A (pyIter x) (fun it s₂=>
   ba (model prog w) A (.forLoop target it body [] env) (fun r s'=>match r with| .ok f=>Q f s'| .error e=>cameBackBy (model prog w) A env E e s') s₂) E s₁) E s) (hs:∀x,foldedSetIterable iter env x=pure x):ar (model prog w) A (exec (.For target iter body [] pos) env) Q E s:=by
 erw[exec_For ..];show ar.au (gx (ar.au (jt h (fun x s₁ h₁=>?_) fun U U h'=>h')));show ar.au (eA (hs x) (ar.au (gx (ar.au (eT (jt h₁ (fun it s₂ h₂=>?_) fun U U h'=>h'))))));show uI (fun U U=>⟨_,rfl,rfl⟩) h₂
theorem Bm{Q:qu}(I:Nat→Shared→Prop)(turn:∀n s,I n s→wpAny (model prog w) A (isTrue test env (eval test env)) (fun b s₂=>
    if b then ar (model prog w) A (execs body env) (fun f s₃=>match f with
      | .next| .cont=>∃m,m<n∧I m s₃
      | .brk=>Q .next s₃
      | .ret v=>Q (.ret v) s₃) (notedBy (model prog w) A env fun e s'=>cameBackBy (model prog w) A env E e s') s₂
    else Q .next s₂)
    (notedBy (model prog w) A env fun e s'=>cameBackBy (model prog w) A env E e s') s) (n:Nat) (h:I n s):ar (model prog w) A (exec (.While test body [] pos) env) Q E s:=by
 erw[exec_While ..];show ar.au (gx (uI (fun U U=>⟨_,rfl,rfl⟩) ?_));show ba.loop rfl (fun U U=>⟨_,rfl,rfl⟩) I (fun n s hI=>?_) n h;show(?_:ar _ A ((whileTurn test body [] env).onRaise (fun x=>do noteFrame x env;theTreesLotGoes x)) _ _ s);show yM ?_;unfold whileTurn;show ar.au (jt (turn n s hI) (fun b s₂ h₂=>?_) fun U U h'=>h')
 induction b using Bool.casesOn with
 |false=>simp only[Bool.false_eq_true,if_false]at h₂⊢;show ar.of (V (wpAny_execs_nil (aG h₂)))
 |true=>
  simp only[if_true]at h₂⊢;show ar.bind (ar.mono h₂ (fun f s₃ h₃=>?_) fun U U h'=>h')
  induction f using Flow.casesOn with
  |next=>show ar.pure (.inl ⟨rfl,h₃⟩)
  |cont=>show ar.pure (.inl ⟨rfl,h₃⟩)
  |brk=>show ar.pure h₃
  |ret v=>show ar.pure h₃
end
section
variable{M:Model}{K:Frag}{x C f:Addr}{ox:Obj}{od:Option Obj}
theorem yN(X:K.In s.heap)(I:InstAt s.heap x ox C od)(hs:findIn K (.ref C) "__next__"=some (some g))(h:Q (.ref x) s):OwitIt M A Q E (.ref x) s:=by show V (I.type.here ((looks_findIn X hs).here h))
theorem tD(X:K.In s.heap)(I:InstAt s.heap x ox C od)(hs:findIn K (.ref C) "__iter__"=some (some (.ref f)))(hf:isFn K (.ref f)=true)(h:wpAny M A (call (.ref f) [.ref x]) (OwitIt M A Q E) E s):wpAny M A (pyIter (.ref x)) Q E s:=by
 have hb:=bind_fn (M:=M) (h:=s.heap) X (.ref x) (beq_iff_eq.mp hf);have L1:=I.type (M:=M);have L2:=looks_findIn (M:=M) X hs
 have go:∀refuse:Sem Value,wpAny M A (if(Value.ref f==Value.none)=true then(refuse>>=fun v=>pure (some v))else(call (.ref f) [.ref x]>>=fun v=>pure (some v))) (fun r s'=>∃v,r=some v∧OwitIt M A Q E v s') E s:=fun refuse=>by erw[ax (show ¬ ((Value.ref f==Value.none)=true) from Bool.false_ne_true)];show V (jt h (fun v s' h'=>aG ⟨v,rfl,h'⟩) fun U U z=>z)
 show V (V (L1.here (L2.here ?_)));show V (jt (Q:=fun r s'=>∃v,r=some v∧OwitIt M A Q E v s') ?_ (fun r s' hr=>?_) fun U U z=>z)
 ·unfold callSpecialIfBoundUnlessNone? bindSpecialIfBound?;show eT (V (V (V (L1.here (L2.here ?_)))));show V (wpAny_askSetting (wpAny_ite ?_))
  split
  ·show V (hb.here (aG (go _)))
  ·show wpAny_tryCatch (V (hb.here (aG (go _))))
 ·show aa hr ?_;rintro v rfl hv;show V (jt hv (fun r s₂ hr=>?_) fun U U z=>z)
  induction r using Option.casesOn with
  |none=>show hr.elim
  |some g=>show aG hr
end
section
variable{P:dO}
theorem eP.sY(ht:X.top=true)(N:Nat)(J:sG)(h0:J N env σ)(step:∀n e σ,J n e σ→gv B X e σ test fun c σ1=>(c=true→jX B X e σ1 body fun f ae σ'=>match f with
    | .next=>∃n',n'<n∧J n' ae σ'
    | .cont=>∃n',n'<n∧J n' ae σ'
    | .brk=>P .next ae σ'
    | .ret v=>P (.ret v) ae σ')∧(c=false→P .next e σ1)):eP B X env σ (.While test body [] pos) P:=fun C O hX ρ s E Q S qe q=>by
 show Bm (fun n s1=>∃e σ ρ1,J n e σ∧Kept C ρ s ρ1 s1∧St B C ρ1 e σ s1.heap) ?_ N ⟨env,σ,ρ,h0,.rr rfl rfl rfl,S⟩;rintro n s1 zq;show gy zq fun e σ ρ1 hJ K1 S1=>?_
 have exc:∀{ρ2:Cells} {s2:Shared},Kept C ρ s ρ2 s2→Exc B X C ρ2 s2 (notedBy B.M C.A C.env fun e s'=>cameBackBy B.M C.A C.env E e s'):=fun K2 ev x ae σ' ρ' s' r K' S' X'=>
  fO O hX ht O.frames S qe r (K2.trans K') S' (X'.since K2.alive)
 show step n e σ hJ C O hX ρ1 s1 _ _ S1 (exc K1) fun c σ2 ρ2 s2 h2 K2 S2=>?_;have Ad:=K1.trans K2
 induction c using Bool.casesOn with
 |false=>show q _ .next _ _ _ _ (h2.2 rfl) Ad S2 rfl
 |true=>
  show h2.1 rfl C O hX ρ2 s2 _ _ S2 (exc Ad) fun f fv ae σ' ρ' s' p' K' S' R'=>?_;have KK:=Ad.trans K'
  induction fv using FV.casesOn with
  |next=>obtain rfl:=R';show aa p' fun n' lt j=>?_;show⟨n',lt,ae,σ',ρ',j,KK,S'⟩
  |cont=>obtain rfl:=R';show aa p' fun n' lt j=>?_;show⟨n',lt,ae,σ',ρ',j,KK,S'⟩
  |brk=>obtain rfl:=R';show q _ .next _ _ _ _ p' KK S' rfl
  |ret v=>(show aa R' ?_;rintro u rfl ru);show q _ (.ret v) _ _ _ _ p' KK S' ⟨u,rfl,ru⟩
theorem yO(O:bC C)(hX:X.At C)(hk:X.sc.names.lookup x=some .local∨X.sc.names.lookup x=some .cell){a b c:Int}{it:Addr}{At:Nat→Heap→Prop}(W:Iter B C it (bS a b c) At fun U U U=>True)(F:gI B C it s1){J:sG}(step:∀(i:Nat) env σ,(i:Int)<Builtin.Range.rangeSize a b c→J i env σ→jX B X.calm (put x (.int (a+i*c)) env) σ body (me J i P))(fin:∀env σ (i:Nat),Builtin.Range.rangeSize a b c≤i→J i env σ→P .next env σ)(L0:LoopAt B C it At ρ1 s1 0 ρ env σ s)(j0:J 0 env σ)(q:∀f fv ae σ' ρ' s',P fv ae σ'→Kept C ρ1 s1 ρ' s'→St B C ρ' ae σ' s'.heap→iT s'.heap ρ' fv f→R (.ok f) s'):
  ba B.M C.A (.forLoop (.Name x px) (.ref it) body [] C.env) R s:=by
 show iG (fun n sx=>∃i ρ env σ,n=(Builtin.Range.rangeSize a b c).toNat-i∧J i env σ∧LoopAt B C it At ρ1 s1 i ρ env σ sx) ?_ _ ⟨0,ρ,env,σ,rfl,j0,L0⟩;rintro n sx zq;show vt zq ?_;rintro i ρ env σ rfl hI L
 cases hv:bS a b c i with
 |none=>show .of (L.stop W F trivial hv fun s' K' S'=>q .next .next env σ ρ s' (fin env σ i (mf hv) hI) K' S' rfl)
 |some v=>
  show .of (L.next W F trivial hv fun val s' L rv=>?_);show aA (jA hv) ?_;rintro lt rfl;show V (m:=standAt px) (gx (wpAny_bindName ?_));show dk O L.S (by unfold Env.kindOf;erw[hX.1];show hk) rv fun s3 K3 S3=>?_;have L:=L.after W F K3 S3;show step i env σ lt hI C O hX.calm ρ s3 _ _ S3 .calm fun f fv c7 σ2 ρ2 s2 p' K' S' R'=>?_;have L:=L.after W F K' S'
  have again:J (i+1) c7 σ2→∃m,m<(Builtin.Range.rangeSize a b c).toNat-i∧∃i' ρ env σ,m=(Builtin.Range.rangeSize a b c).toNat-i'∧J i' env σ∧LoopAt B C it At ρ1 s1 i' ρ env σ s2:=fun hi=>
   ⟨_,Nat.sub_lt_sub_left (xG i _ hv) (Nat.lt_succ_self i),i+1,ρ2,c7,σ2,rfl,hi,L⟩
  induction fv using FV.casesOn with
  |next=>obtain rfl:=R';show again p'
  |cont=>obtain rfl:=R';show again p'
  |brk=>obtain rfl:=R';show q .next .next _ _ _ _ p' L.K S' rfl
  |ret r=>(show aa R' ?_;rintro v rfl rr);show q _ (.ret r) _ _ _ _ p' L.K S' ⟨v,rfl,rr⟩
theorem eP.Ef{iter:Expr}(hn:X.hn=true)(hk:X.sc.names.lookup x=some .local∨X.sc.names.lookup x=some .cell){a b c:Int}(sm:Builtin.Range.small a b c=true)(J:sG)(h:aS B X env σ iter fun r σ1=>r= .lZ a b c∧J 0 env σ1)(hs:∀ae v,foldedSetIterable iter ae v=pure v)(step:∀(i:Nat) env σ,(i:Int)<Builtin.Range.rangeSize a b c→J i env σ→jX B X.calm (put x (.int (a+i*c)) env) σ body (me J i P))(fin:∀env σ (i:Nat),Builtin.Range.rangeSize a b c≤i→J i env σ→P .next env σ):
  eP B X env σ (.For (.Name x px) iter body [] pos) P:=fun C O hX ρ s E Q S qe q=>by
 show GI (h C O hX ρ s E _ S qe fun r σ1 v ρ1 s1 h1 K1 S1 R1=>?_) (hs _);show aA h1 ?_;rintro rfl j0;show vt R1 ?_;rintro r t1 t2 t3 rfl nr hr;show wpAny_pyIter_range hr sm ?_;have W:=iU (B:=B) (C:=C) (hX.hn hn) (it:=s1.heap.objs.size) (a:=a) (b:=b) (c:=c);have F:gI B C s1.heap.objs.size s1:=⟨bo s1.heap,dc S1,S1.ek,S1.eC⟩;have kp:=aC s1.heap {cls:=.type "range_iterator",data:=.fields #[rawInt a,rawInt (Builtin.Range.rangeSize a b c),rawInt c]};show yO O hX hk W F step fin (s:={s1 with heap:=_}) ⟨aR kp rfl rfl,S1.bh kp,oh (gh _ rfl),S1.fresh⟩ j0 fun f fv ae σ' ρ' s' p K' S' R'=>q f fv ae σ' ρ' s' p (K1.trans K') S' R'
structure uJ(B:Base)(X:Sx)(x:Str)(body:List Stmt)(id:Nat)(c fx:Addr)(J:sG)(P:dO)(n:Nat)(e:aQ)(σ:List LO):Prop where
 inst:(∃fs,σ[id]? =some (.inst c fs))
 next:uH B {X with R:=fun ex e' σ'=>(ex.cls= .type "StopIteration"∧P .next e' σ')∨((∃D,ex.cls= .ref D∧subIn (K B.w.params) (.ref D) (.type "StopIteration")=some false)∧X.R ex e' σ')} e σ [.obj id] (fun vs=>PySem.call (.ref fx) vs)
   fun v σ1=>jX B X (put x v e) σ1 body fun f ae σ'=>match f with
    | .next=>∃n',n'<n∧J n' ae σ'
    | .cont=>∃n',n'<n∧J n' ae σ'
    | .brk=>P .next ae σ'
    | .ret v=>P (.ret v) ae σ'
theorem yP(G:Gd B)(O:bC C)(hX:X.At C){id:Nat}{c fx:Addr}(hk:X.sc.names.lookup x=some .local∨X.sc.names.lookup x=some .cell){J:sG}(hx:findIn (K B.w.params) (.ref c) "__next__"=some (some (.ref fx)))(EU:isFn (K B.w.params) (.ref fx)=true)(step:∀n e σ,J n e σ→uJ B X x body id c fx J P n e σ){N:Nat}(j0:J N env σ)(K0:Kept C ρ0 s0 ρ s)(S0:St B C ρ env σ s.heap)(R0:Rep s.heap ρ (.obj id) (.ref a))(exc:∀{ρ s},Kept C ρ0 s0 ρ s→Exc B X C ρ s (notedBy B.M C.A C.env fun e s'=>R (.error e) s'))(q:∀f fv ae σ' ρ' s',P fv ae σ'→Kept C ρ0 s0 ρ' s'→St B C ρ' ae σ' s'.heap→iT s'.heap ρ' fv f→R (.ok f) s'):ba B.M C.A (.forLoop (.Name x px) (.ref a) body [] C.env) R s:=by
 show iG (fun n sx=>∃ρ env σ,J n env σ∧Kept C ρ0 s0 ρ sx∧St B C ρ env σ sx.heap∧Rep sx.heap ρ (.obj id) (.ref a)) ?_ N ⟨ρ,env,σ,j0,K0,S0,R0⟩;rintro n sx zq;show iQ zq fun ρ env σ hI K S rx=>?_;show ar.hide fun QQ qq=>?_;have st:=step n env σ hI;show av st.inst fun KP e'=>?_;show jv (S.inst rx e') fun a3 d3 m3 PG ea I3=>?_;obtain rfl:a=a3:=Value.ref.inj ea;show ar.bind (ar.attempt (lC (args:=[]) (S.dy G) I3.inst hx (beq_iff_eq.mp EU) ?_));show st.next C O ⟨hX.sc,hX.d,hX.hn,hX.top,hX.code⟩ ρ sx _ _ [.ref a] S (fun ev ex c7 σ2 ρ3 s3 r3 K3 S3 X3=>?_) (.cons rx .nil) fun r σ1 v ρ3 s3 p3 K3 S3 R3=>?_
 ·show hide fun H_ o_=>?_;show av (_root_.id X3) fun f hZ=>?_;obtain⟨n0,nr,vs,t,args,he,_⟩:=hZ;show o_ ?_;clear o_ H_
  rcases r3 with⟨ec,p⟩|⟨⟨D,ec,eR⟩,r4⟩
  ·show ar.au (wpAny_isInstance (T:="StopIteration") (b:=true) ⟨_,he,ec⟩ isSubtype_stop ?_);erw[aJ rfl];show ar.pure (qq _ _ (q _ .next _ _ _ _ p (K.trans K3) S3 rfl))
  ·have Lt:Looks B.M s3.heap (typeOf (.ref ev)) ex.cls:=(Looks.ld he).andThen .now;replace Lt:=ec▸Lt;show ar.au ((Lt.andThen (looks_subIn (S3.dy G) eR):Looks B.M s3.heap (isInstance (.ref ev) (.type "StopIteration")) false).here ?_);erw[ax (by decide)];show ar.of (wpAny_throw (exc K ev ex c7 σ2 ρ3 s3 r4 K3 S3 X3))
 ·show ar.pure (qq _ _ ?_);show V (m:=standAt px) (gx (wpAny_bindName ?_));show dk O S3 (by unfold Env.kindOf;erw[hX.1];show hk) R3 fun s4 K4 S4=>?_;have KK:=(K.trans K3).trans K4;have rx:=K4.rep S3 (K3.rep S rx);show p3 C O hX ρ3 s4 _ _ S4 (exc KK) fun f fv c7 σ2 ρ5 s5 p' K' S' R'=>?_;have rx:=K'.rep S4 rx;have KK:=KK.trans K'
  induction fv using FV.casesOn with
  |next=>obtain rfl:=R';show aa p' fun n' lt j=>?_;show⟨n',lt,ρ5,c7,σ2,j,KK,S',rx⟩
  |cont=>obtain rfl:=R';show aa p' fun n' lt j=>?_;show⟨n',lt,ρ5,c7,σ2,j,KK,S',rx⟩
  |brk=>obtain rfl:=R';show q _ .next _ _ _ _ p' KK S' rfl
  |ret v=>(show aa R' ?_;rintro u rfl ru);show q _ (.ret v) _ _ _ _ p' KK S' ⟨u,rfl,ru⟩
theorem eP.Eg(G:Gd B){iter:Expr}{id:Nat}{c fi fx:Addr}(hk:X.sc.names.lookup x=some .local∨X.sc.names.lookup x=some .cell)(ht:X.top=true)(N:Nat)(J:sG)(h:aS B X env σ iter fun r σ1=>r= .obj id∧(∃fs,σ1[id]? =some (.inst c fs))∧aM B X env σ1 [.obj id] (fun vs=>PySem.call (.ref fi) vs) fun r σ2=>r= .obj id∧(∃fs,σ2[id]? =some (.inst c fs))∧J N env σ2)(hs:∀ae v,foldedSetIterable iter ae v=pure v)(hi:findIn (K B.w.params) (.ref c) "__iter__"=some (some (.ref fi)))(Oa:isFn (K B.w.params) (.ref fi)=true)(hx:findIn (K B.w.params) (.ref c) "__next__"=some (some (.ref fx)))(EU:isFn (K B.w.params) (.ref fx)=true)(step:∀n e σ,J n e σ→uJ B X x body id c fx J P n e σ):eP B X env σ (.For (.Name x px) iter body [] pos) P:=fun C O hX ρ s E Q S qe q=>by show GI (h C O hX ρ s E _ S qe fun r σ1 v ρ1 s1 h1 K1 S1 R1=>?_) (hs _);show ju h1 ?_;rintro rfl ⟨fs,e1⟩ h2;show jv (S1.inst R1 e1) ?_;rintro a d m od rfl I;show tD (S1.dy G) I.inst hi Oa (h2 C O hX ρ1 s1 E _ [.ref a] S1 (qe.since K1) (.cons R1 .nil) fun r σ2 v ρ2 s2 p2 K2 S2 R2=>?_);show ju p2 ?_;rintro rfl ⟨fs2,e2⟩ j0;show jv (S2.inst R2 e2) ?_;rintro a2 d2 m2 PH rfl I2;show yN (S2.dy G) I2.inst hx (yP G O hX hk hx EU step j0 (K1.trans K2) S2 R2 (fun K2 ev x ae σ' ρ' s' r K' S' X'=>fO O hX ht O.frames S qe r (K2.trans K') S' (X'.since K2.alive)) q)
end
noncomputable abbrev GJ:List Value:=[.type "Exception",.type "BaseException",.type "object"]
structure GK where
 bm:List Value
 N:Addr
 nm:Str
 q:Str
 bs:List Value
 hdct:Bool
 sn:List Str
 sub:List Value
 ab:Bool
 col:Option Bool
 dd:Option Addr
 k0:Option Value
 k1:Option Value
 k2:Option Value
 k3:Option Value
 k5:Option Value
 mN:Str→Option Value
structure p6(h:Heap)(C:Addr)(d:GK):Prop where
 obj:h.get? C=some (excClassObj d.nm d.q C d.N d.bs d.bm d.hdct d.sn d.sub d.ab d.col d.dd d.k0 d.k1 d.k2 d.k3 d.k5 "Exception.__new__")
 ns:h.Ns d.N d.mN
 init:d.mN "__init__"=none
 tail:OwnTail h GJ d.bm
theorem Bn{α:Type}{l:List α}{a:α}(h:l.head? =some a):l=a::l.tail:=by
 induction l using List.casesOn with
 |nil=>show fK h
 |cons x r=>show Option.some.inj h▸rfl
noncomputable def J5(l:List (Option Value)):Bool:=l==[l.getD 0 none,l.getD 1 none,l.getD 2 none,l.getD 3 none,some (.builtin "Exception.__new__"),l.getD 5 none]
noncomputable def GL(C:Addr)(cd:ClassData):Bool:=cd.mro.head? ==some (.ref C)&&!cd.hasDel
noncomputable def J6(K:Frag)(cd:ClassData):Bool:=tailIn K GJ cd.mro.tail&&nsOkIn K cd.ns&&nsIn K cd.ns "__init__"==some none
def rL(K:Frag)(C:Addr):Bool:=match K.lookup C with
 |none=>false
 |some o=>o.cls== .type "type"&&J5 o.slots.toList&&(match AS o.data with
  |none=>false
  |some cd=>GL C cd&&J6 K cd)
theorem Bo{C:Addr}{cd:ClassData}(h:GL C cd=true):cd=⟨cd.name,cd.bases,.ref C::cd.mro.tail,cd.ns,cd.qualname,cd.hasDict,cd.slotNames,cd.subclasses,cd.abstract,cd.collection,false⟩:=by show aA (Bool.and_eq_true_iff.mp h) ?_;rintro h1 h2;show bD ?_ (Bn (eB h1));show bD ?_ (Bool.not_eq_true' _▸h2:cd.hasDel=false);with_reducible rfl
theorem Eh{o:Obj}{cd:Data}{l:List (Option Value)}(h0:o.cls=v)(h1:o.data=cd)(h2:o.slots.toList=l):o=⟨v,o.dict,cd,⟨l⟩⟩:=by subst h0;subst h1;subst h2;rfl
theorem oC{K:Frag}{C:Addr}(X:K.In h)(q:rL K C=true):∃d,p6 h C d:=by
 unfold rL at q
 cases ho:K.lookup C with
 |none=>replace q:=ho▸q;show(Bool.false_ne_true q).elim
 |some o=>
  replace q:=ho▸q;show aA (Bool.and_eq_true_iff.mp q) fun q q2=>?_;show aA (Bool.and_eq_true_iff.mp q) fun q0 q1=>?_
  cases hd:AS o.data with
  |none=>replace q2:=hd▸q2;show(Bool.false_ne_true q2).elim
  |some cd=>replace q2:=hd▸q2;show aA (Bool.and_eq_true_iff.mp q2) fun q2 q3=>?_;show aA (Bool.and_eq_true_iff.mp q3) fun q3 q5=>?_;show aA (Bool.and_eq_true_iff.mp q3) fun q3 q4=>?_;show⟨⟨cd.mro.tail,cd.ns,cd.name,cd.qualname,cd.bases,cd.hasDict,cd.slotNames,cd.subclasses,cd.abstract,cd.collection,o.dict,_,_,_,_,_,_⟩,(X _ _ ho).trans (congrArg some (Eh (eB q0) ((uq hd).trans (congrArg Data.cls (Bo q2))) (eB q1))),.of_isNs (isNs_of_in X q4),nsMap_none_of_in X q4 (eB q5),tail_of_in X q3⟩
theorem p6.keeps{C:Addr}{d:GK}(k:∀b o,h.get? b=some o→h'.get? b=some o)(X:p6 h C d):p6 h' C d:=⟨k _ _ X.obj,X.ns.keeps k,X.init,X.tail.keeps k⟩
section
variable{P:dO}
theorem yQ{e D:Addr}(hm:Heap.MadeExcOf s.heap h' e (.ref D) vs)(hv:∃t,vs=[.str m t]):ExcAt C s e ⟨.ref D,[m],true⟩ {s with heap:=h'}:=by show bJ hm.there fun t h1 h2 h3=>?_;show av hv ?_;rintro tk rfl;show⟨.new,hm.new,⟨fun z=>(by right),fun z=>by right⟩,_,t,_,h1,rfl,⟨rfl,fun U=>rfl⟩,h2,h3,⟨⟨tk,rfl⟩,trivial⟩,rfl⟩
theorem eD.raise(G:Gd B){D:Addr}(hn:X.hn=true)(hg:bX (K B.w.params) X.sc x=some (.ref D))(q:rL (K B.w.params) D=true)(hp:bq e=true)(h:aS B X env σ e fun v σ1=>∃m,v= .str m∧X.R ⟨.ref D,[m],true⟩ env σ1):eD B X env σ (.Raise (some (.Call (.Name x np) [e] [] cpos)) none pos) P:=fun C O hX ρ s E Q S qe U=>by
 show av (oC G.dy q) fun d XC=>?_;have FB:=PySem.F.excBase_Exception;have fu:=cH C.env (r:=[e]) (by simp[hp]) cpos
 show wpAny_Raise_call_subT (C:=D) (nm:=d.nm) (q:=d.q) (N:=d.N) (bs:=d.bs) (bm:=d.bm) (hdct:=d.hdct) (sn:=d.sn) (sub:=d.sub) (ab:=d.ab) (col:=d.col) (dd:=d.dd) (k0:=d.k0) (k1:=d.k1) (k2:=d.k2) (k3:=d.k3) (k5:=d.k5)
  FB (mN:=d.mN) (XC.tail.hasType FB.hasBase) (hX.hn hn) (df fu) XC.init (uz G hg O hX S qe fun ρ1 s1 K1 S1=>⟨rfl,eI fu ?_⟩)
 have hL:lR B X env σ [e] fun as σ3=>∃m,as=[.str m]∧X.R ⟨.ref D,[m],true⟩ env σ3:=Rc.cons hp (h.mono fun v σ2 h2=>lR.nil (by(show aa h2 ?_;rintro m rfl r);show⟨m,rfl,r⟩));show hL C O hX ρ1 s1 E _ cpos S1 (qe.since K1) fun rs σ2 vs ρ2 s2 p2 K2 S2 R2=>?_
 ·show aa p2 ?_;rintro m rfl r;have Ce:=XC.keeps S2.base;show bb R2 ?_;rintro v dX rfl ⟨t,rfl⟩ R2;have R2:_=[]:=R2;subst R2;show⟨rfl,by show Nat.succ_pos _,Ce.obj,Ce.ns,Ce.tail,fun h' e hm=>?_⟩;have K3:Kept C ρ2 s2 ρ2 {s2 with heap:=h'}:=aR hm.keeps rfl rfl;show qe e _ env σ2 ρ2 _ r ((K1.trans K2).trans K3) (S2.bh hm.keeps) ((yQ hm ⟨t,rfl⟩).since (K1.trans K2).alive)
theorem eD.oE(G:Gd B)(hn:X.hn=true)(hg:bX (K B.w.params) X.sc x=some (.type "StopIteration"))(h:X.R ⟨.type "StopIteration",[],true⟩ env σ):eD B X env σ (.Raise (some (.Name x np)) none pos) P:=fun C O hX ρ s E Q S qe U=>by
 show owsi_raiseC (hX.hn hn) ?_ fun h' e hm=>?_
 ·show fC G O (hX.1▸hg) S.base ⟨rfl,rfl⟩
 ·show bJ hm.there fun t h1 h2 h3=>?_;show qe e _ env σ ρ _ h (aR hm.keeps rfl rfl) (S.bh hm.keeps) ⟨.new,hm.new,⟨(show Value.type "StopIteration"≠Value.type "range" by decide),fun z=>by right⟩,_,t,_,h1,rfl,⟨rfl,fun U=>rfl⟩,h2,h3,trivial,rfl⟩
end
noncomputable def noObj:Obj:={cls:=.none,data:=.freed}
noncomputable def jY(h b:Heap)(ks:List Addr):Heap:={objs:=(Array.range h.objs.size).map fun i=>if((b.get? i).isSome||ks.contains i)=true then(h.objs[i]?).getD noObj else noObj}
theorem dQ(h b:Heap)(ks:List Addr)(a:Addr):(jY h b ks).get? a=if((b.get? a).isSome||ks.contains a)=true then h.get? a else none:=by
 have e:(jY h b ks).objs[a]? =if a<h.objs.size then some (if((b.get? a).isSome||ks.contains a)=true then(h.objs[a]?).getD noObj else noObj)else none:=by
  erw[Array.getElem?_map]
  by_cases q:a<h.objs.size
  ·(erw[aJ q,Array.getElem?_eq_getElem (by simpa using q),Array.getElem_range ..]);rfl
  ·(erw[ax q,Array.getElem?_eq_none (by simpa using q)]);rfl
 generalize ((b.get? a).isSome||ks.contains a)=c at e⊢
 by_cases q:a<h.objs.size
 ·replace e:=aJ q▸e
  induction c using Bool.casesOn with
  |false=>rw[ax (by decide)]at e⊢;unfold Heap.get?;erw[e];rfl
  |true=>
   replace e:=aJ rfl▸e;replace e:=(Array.getElem?_eq_getElem q)▸e;erw[aJ rfl];unfold Heap.get?
   (erw[e,Array.getElem?_eq_getElem q]);rfl
 ·replace e:=ax q▸e;unfold Heap.get?;erw[e,Array.getElem?_eq_none (Nat.le_of_not_lt q)];cases c<;>rfl
def Base.with(B:Base)(h:Heap)(ks:List Addr):Base:={B with heap:=jY h B.heap ks}
section
variable{s':Shared}{ks:List Addr}
theorem eL(k:∀a o,B.heap.get? a=some o→h.get? a=some o):∀a o,B.heap.get? a=some o→(B.with h ks).heap.get? a=some o:=fun a o e=>by erw[dQ ..,aJ (by show aD ?_ e;rfl)];show k a o e
theorem oF(e:(B.with h ks).heap.get? a=some o):h.get? a=some o∧((B.heap.get? a).isSome∨a∈ks):=by
 have e:(jY h B.heap ks).get? a=some o:=e;rw[dQ]at e
 split at e
 ·rename_i c;show⟨e,by simpa using c⟩
 ·right
theorem kM(e:B.heap.get? a=none)(n:a∉ks):(B.with h ks).heap.get? a=none:=by
 cases q:(B.with h ks).heap.get? a with
 |none=>rfl
 |some o=>
  obtain⟨_,z|z⟩:=oF q
  ·replace z:=e▸z;right
  ·show absurd z n
theorem uK(m:a∈ks):(B.with h ks).heap.get? a=h.get? a:=by erw[dQ ..];show aD rfl (aJ (by simp[m]))
theorem Gd.with(G:Gd B)(k:∀a o,B.heap.get? a=some o→h.get? a=some o):Gd (B.with h ks) where
 ns:=G.ns.keeps (eL k)
 nb:=G.nb.keeps (eL k)
 nolimit:=G.nolimit.keeps (eL k)
 bt:=G.bt
 dy:=G.dy.keeps (eL k)
theorem St.with(S:St B C ρ env σ h')(ke:∀a o,(B.heap.get? a).isSome∨a∈ks→h.get? a=some o→h'.get? a=some o)(hk:∀k∈ks,k∉C.own∧k∉flat ρ∧k∉C.outs):St (B.with h ks) C ρ env σ h':=by
 show⟨S.ns,S.jm,S.apart,fun a ha=>⟨kM (S.ow a ha).1 fun m=>(hk a m).1 ha,(S.ow a ha).2⟩,fun a o e=>?_,fun e he=>?_,fun a ha=>⟨kM (S.out a ha).1 fun m=>(hk a m).2.1 ha,(S.out a ha).2⟩,S.nd,S.len,S.iR⟩
 ·show aA (oF e) fun e1 e2=>?_;show ke a o e2 e1
 ·show aA (S.dq e he) fun q hZ=>?_;show bY hZ fun L m a b c d=>?_;show⟨q,L,m,a,b,c,kM d fun z=>(hk L z).2.2 (mem_filterMap.mpr ⟨e,he,a⟩)⟩
theorem St.without(S:St (B.with h ks) C ρ env σ h')(k:∀a o,B.heap.get? a=some o→h.get? a=some o):St B C ρ env σ h':=by
 have none_:∀a,(B.with h ks).heap.get? a=none→B.heap.get? a=none:=fun a e=>by
  cases q:B.heap.get? a with
  |none=>rfl
  |some o=>replace e:=eL k a o q▸e;right
 show⟨S.ns,S.jm,S.apart,fun a ha=>⟨none_ _ (S.ow a ha).1,(S.ow a ha).2⟩,fun a o e=>S.base a o (eL k a o e),fun e he=>?_,fun a ha=>⟨none_ _ (S.out a ha).1,(S.out a ha).2⟩,S.nd,S.len,S.iR⟩;show aA (S.dq e he) fun q hZ=>?_;show bY hZ fun L m a b c d=>?_;show⟨q,L,m,a,b,c,none_ _ d⟩
noncomputable def Cx.at(C:Cx)(A:Around):Cx:=⟨A,C.env,C.dq⟩
theorem St.at(S:St B C ρ env σ h):St B (C.at A) ρ env σ h:=⟨S.ns,S.jm,S.apart,S.ow,S.base,S.dq,S.out,S.nd,S.len,S.iR⟩
theorem St.back(S:St B (C.at A) ρ env σ h):St B C ρ env σ h:=⟨S.ns,S.jm,S.apart,S.ow,S.base,S.dq,S.out,S.nd,S.len,S.iR⟩
theorem Kept.back(K:Kept (C.at A) ρ s ρ' s'):Kept C ρ s ρ' s':=⟨K.keep,K.outs,K.alive,K.ext,K.gens,K.os⟩
theorem Cx.uL(O:bC C){h:Option Value}:bC (C.at (C.A.mark h)):=⟨⟨O.frames,O.depth,O.units,O.kind,O.globals,O.builtins⟩,O.cells⟩
theorem St.yR(S:St B C ρ env σ h){m:Str→Option Value}(hn:h'.Ns C.env.locals m)(hs:Heap.SameBut C.env.locals h h'):St B C ρ [] σ h':=by
 have k:∀a o,a≠C.env.locals→h.get? a=some o→h'.get? a=some o:=fun a o n e=>(hs.2 a n).trans e;have fk:bj ρ h h':=fun a o n f e=>k a o (fun q=>S.fy f e (by erw[q];show .head _)) e;have ce:aF h ρ ρ:=.refl _ _;show aa S.ns fun m0 hm hv=>?_;have nf:∀a∈flat ρ,a≠C.env.locals:=fun a ha q=>(S.ow C.env.locals (.head _)).2 (q▸ha)
 have iM:∀{c vv},h.IsCell c vv→c≠C.env.locals:=fun{c vv} q z=>by
  show aa q fun o ho hd=>?_;show gy hm fun o' es ep eN du U=>?_;replace ho:=z▸ho;replace ho:=eN▸ho
  injection ho with z;subst z
  replace hd:=du▸hd;right
 show⟨⟨_,hn,fun y ly e=>by right⟩,fun p hp=>?_,S.apart,S.ow,fun a o e=>k a o (fun q=>?_) (S.base a o e),fun e he=>?_,fun a ha=>⟨(S.out a ha).1,?_⟩,S.nd,S.len,
  fun i o c hi hc=>(S.iR i o c hi hc).mono (fun a o ha e=>k a o (nf a (b8 hc ha)) e) fk ce⟩
 ·show av (S.jm p hp) fun u d=>?_;show aa (id d) fun o ho hd=>?_;show⟨u,o,k _ _ (iM d) ho,hd⟩
 ·have:=(S.ow C.env.locals (.head _)).1;replace this:=q.symm▸this;replace this:=e▸this;right
 ·show aA (S.dq e he) fun q hZ=>?_;show bY hZ fun L mm a b c' d=>?_
  by_cases z:L=C.env.locals
  ·show⟨q,L,_,a,b,z▸hn,d⟩
  ·show⟨q,L,mm,a,b,c'.sameBut hs z,d⟩
 ·erw[hs.2 a (nf a ha)];show(S.out a ha).2
theorem dj.keep{fr:Option Addr}{e:Addr}{x:EX}{f:Di}(k:∀a o,(∀es n,o.data≠.dict es n)→h.get? a=some o→h'.get? a=some o)(X:dj fr s0 e x f h):dj fr s0 e x f h':=by
 obtain⟨a,b,vs,t,args,c1,c2,c3,c4,c5,c6,c8⟩:=X
 have tr:∀{fl},qF s0 e vs h fl→qF s0 e vs h' fl:=fun{fl} q=>by show cN q fun T ts d1 d2 d3 d4 d5=>?_;show⟨T,ts,d1,d2,d3,k _ _ (fun U U z=>by right) d4,d5⟩
 show⟨a,b,vs,t,args,k _ _ (fun U U z=>by right) c1,c2,c3,c4,k _ _ (fun U U z=>by right) c5,c6,?_⟩
 cases f with
 |new=>show c8
 |up=>show tr c8
 |here=>(show aa c8 fun L q c8=>?_);show⟨L,q,tr c8⟩
end
theorem kz.wa{c:Addr×List Addr}(q:kz w h ρ o c)(m:a∈c.1::c.2)(e:h.get? a=some {cls:=.type "tuple",data:=.seq args}):False:=by
 induction o using LO.casesOn with
 |list l=>
  show aA q fun q1 hZ=>?_;show aa hZ ?_;rintro us ⟨n,r⟩ q3;replace m:=q1▸m
  obtain rfl:a=c.1:=by simpa using m
  replace e:=r▸e
  injection e with e
  injection e with e1 e2 e3 e4
  show absurd e1 (by decide)
 |set l=>
  show qA q ?_;rintro q1 nd ⟨o,es,ep,t,ho,U,hd,U⟩ U;replace m:=q1▸m
  obtain rfl:a=c.1:=by simpa using m
  replace e:=ho▸e;injection e with z;subst z;right
 |aV b=>
  show hide fun H_ o_=>?_;show aA q fun q1 hZ=>?_;show aa hZ fun arr ho r=>?_;replace m:=q1▸m
  obtain rfl:a=c.1:=by simpa using m
  replace e:=ho▸e
  injection e with e
  injection e with e1 e2 e3 e4
  show o_ ?_;clear o_ H_;show absurd e1 (by decide)
 |tab=>
  show aA q ?_;rintro rfl hZ;show aa hZ fun ps ho r=>?_
  obtain rfl:a=1043:=by simpa using m
  replace e:=ho▸e;cases e
 |inst C fs=>
  show bY q ?_;rintro d mm q1 ho ⟨od,es,ep,hd,hd2,U⟩ r;replace m:=q1▸m
  rcases mem_cons.mp m with rfl|m
  ·replace e:=ho▸e;cases e
  ·obtain rfl:a=d:=by simpa using m
   replace e:=hd▸e;injection e with z;subst z;right
theorem St.uM(S:St B C ρ env σ h)(m:a∈flat ρ):∃(i:Nat) (o:LO) (c:Addr×List Addr),σ[i]? =some o∧ρ[i]? =some c∧a∈c.1::c.2∧kz B.w h ρ o c:=by
 show aa (mem_flatMap.mp m) fun c hc ha=>?_;show av (mem_iff_getElem?.mp hc) fun i hi=>?_
 have:i<σ.length:=by show bD ?_ S.len;show(dU hi).1
 show FP i _ c (n4 this) hi ha (S.iR i _ c (n4 this) hi)
theorem St.uN(S:St B C ρ env σ h)(e:h.get? a=some o)(r:l8 o):a∉C.own∧a∉flat ρ∧a∉C.outs:=by
 show⟨fun m=>?_,fun m=>?_,fun m=>?_⟩
 ·rcases mem_cons.mp m with q|m
  ·show aa S.ns fun m hm U=>?_;show o7 hm (q▸e) r
  ·show aa (mem_map.mp m) ?_;rintro p hp rfl;show av (S.jm p hp) fun v hv=>?_;show n7 hv e r
 ·show iQ (S.uM m) fun i o' c U U ha ro=>?_;show ro.FW ha e r
 ·show ju (S.eU m) ?_;rintro U ⟨m,hm⟩ U;show o7 hm e r
theorem St.kN(S:St B C ρ env σ h)(e:h.get? a=some {cls:=.type "tuple",data:=.seq args}):a∉C.own∧a∉flat ρ∧a∉C.outs:=by have f:l7 {cls:=.type "tuple",data:=.seq args}:=.inl ⟨_,_,rfl⟩;show⟨S.fy f e,fun m=>?_,S.fz f e⟩;show iQ (S.uM m) fun i o' c U U ha ro=>?_;show ro.wa ha e
structure tE(B:Base)(e:Addr)(x:EX):Prop where
 obj:∃vs t args,B.heap.get? e=some ⟨x.cls,none,.fields vs,#[]⟩∧vs.size=6∧(vs[0]? =some (.ref t)∧(x.fst=true→vs[2]? =some .none))∧B.heap.get? t=some {cls:=.type "tuple",data:=.seq args}∧o6 args.toList x.args
def tF(B:Base)(e:Addr)(X:Sx)(env:aQ)(σ:List LO)(b:List Stmt)(P:dO):Prop:=
 ∀(C:Cx),bC C→X.At C→C.A.handled=some (.ref e)→∀(ρ:Cells) (s:Shared) (E:VP) (Q:qu),St B C ρ env σ s.heap→Exc B X C ρ s E→
  (∀f fv ae σ' ρ' s',P fv ae σ'→Kept C ρ s ρ' s'→St B C ρ' ae σ' s'.heap→iT s'.heap ρ' fv f→Q f s')→wpAny B.M C.A (execs b C.env) Q E s
def dK(B:Base)(X:Sx)(env:aQ)(σ:List LO)(x:EX)(hs:List ExceptHandler)(P:dO):Prop:=
 ∀(C:Cx),bC C→X.At C→∀(ρ0:Cells) (s0:Shared) (dx:aQ) (σ0:List LO) (ρ:Cells) (s:Shared) (E:VP) (Q:qu) (e:Addr),St B C ρ0 dx σ0 s0.heap→Exc B X C ρ0 s0 E→Kept C ρ0 s0 ρ s→St B C ρ env σ s.heap→
  dj none s0 e x .up s.heap→(∀f fv ae σ' ρ' s',P fv ae σ'→Kept C ρ0 s0 ρ' s'→St B C ρ' ae σ' s'.heap→iT s'.heap ρ' fv f→Q f s')→wpAny B.M C.A (handleBy (.ref e) C.env hs) Q E s
def jb(B:Base)(X:Sx)(t:Expr)(cls:Value)(b:Bool):Prop:=
 ∀(C:Cx),bC C→X.sc=C.env.scope→∀(ρ:Cells) (s:Shared) (E:VP) (Q:Bool→Shared→Prop) (env:aQ) (σ:List LO) (e:Addr) (vs:Array Value),St B C ρ env σ s.heap→s.heap.get? e=some ⟨cls,none,.fields vs,#[]⟩→
  (∀s',(∀a o,s.heap.get? a=some o→s'.heap.get? a=some o)→s'.gens=s.gens→s'.os=s.os→Q b s')→wpAny B.M C.A (eval t C.env) (fun c s₁=>wpAny B.M C.A (excMatches (.ref e) c) Q E s₁) E s
section
variable{P:dO}{x:EX}{t:Expr}{rest:List ExceptHandler}
theorem dK.miss{n:Option Str}(hm:jb B X t x.cls false)(h:dK B X env σ x rest P):dK B X env σ x (.ExceptHandler (some t) n body pos::rest) P:=fun C O hX ρ0 s0 dx σ0 ρ s E Q e S0 qe K S Xe q=>by show hide fun H_ o_=>?_;obtain⟨n0,nr,vs,tt,args,he,r⟩:=_root_.id Xe;show o_ ?_;clear o_ H_;show wpAny_handleBy_cons (codeAny_handlers_test ?_) (by intro q;right);show hm (C.at (C.A.mark (some (.ref e)))) (Cx.uL O) hX.sc.symm ρ s _ _ env σ e vs S.at he fun s' gr hg ho=>?_;show h C O hX ρ0 s0 dx σ0 ρ s' E Q e S0 qe (K.trans (aR gr hg ho)) (S.bh gr) (Xe.keep fun a o U e=>gr a o e) q
theorem dK.hit(G:Gd B)(ht:X.top=true)(hn:X.sc.names.lookup n=some .local)(hm:jb B X t x.cls true)(hs:∀B' e,Gd B'→B'.w=B.w→(∀a o,B.heap.get? a=some o→B'.heap.get? a=some o)→tE B' e x→tF B' e {X with hn:=false,R:=fun y U σ'=>X.R y [] σ'} (put n (.gl (.ref e)) env) σ (b₀::suite) fun fv U σ'=>P fv [] σ'):
  dK B X env σ x (.ExceptHandler (some t) (some n) (b₀::suite) pos::rest) P:=fun C O hX ρ0 s0 dx σ0 ρ s E Q e S0 qe K S Xe q=>by
 show hide fun H_ o_=>?_;show av (hX.top ht) fun outer bg=>?_;show av (S.kB bg) fun L hf=>?_;have jl:=jz S0;obtain⟨n0,nr,vs,tt,args,he,r⟩:=_root_.id Xe;show o_ ?_;clear o_ H_;show wpAny_handleBy_cons (codeAny_handlers_test ?_) (by intro q;right);show hm (C.at (C.A.mark (some (.ref e)))) (Cx.uL O) hX.sc.symm ρ s _ _ env σ e vs S.at he fun s1 gr hg ho=>?_;have K1:=K.trans (aR (C:=C) (ρ:=ρ) (s':=s1) gr hg ho);have S1:=S.bh gr;have X1:dj none s0 e x .up s1.heap:=Xe.keep fun a o U e=>gr a o e;show codeAny_handlers_suite_as ?_;show eE (s0:=s0) (fr':=none) S1 X1 (by intro z;right) fun h2 g k2 e1 U X2=>?_;show hide fun H_ o_=>?_;obtain rfl:=e1 rfl;have S2:=S1.xs jl k2;have K2:=K1.xs S0 S1 rfl k2;obtain⟨n0',nr',Ap,t2,args2,he2,Fu,h02,ht02,htt2,ha2,MG⟩:=_root_.id X2;show ju (S2.uN he2 ⟨nr,_,rfl⟩) fun HF E0 E1=>?_;show ju (S2.kN htt2) fun HG E2 E3=>?_;have nB:=S2.base
 have Ob:St (B.with h2 [e,t2]) (C.at (C.A.mark (some (.ref e)))) ρ env σ h2:=(S2.with (ks:=[e,t2]) (fun a o U q=>q) (fun k hk=>by
  rcases mem_cons.mp hk with rfl|hk
  ·show⟨HF,E0,E1⟩
  ·obtain rfl:k=t2:=by simpa using hk
   show⟨HG,E2,E3⟩)).at
 have HB:tE (B.with h2 [e,t2]) e x:=⟨Ap,t2,args2,(uK (.head _)).trans he2,Fu,h02,(uK (.tail _ (.head _))).trans htt2,ha2⟩;show o_ ?_;clear o_ H_
 have hl:C.env.kindOf n=some .local:=by unfold Env.kindOf;erw[hX.sc];show hn
 have hp:(C.env.scope.kind== .class||(C.env.scope.kind== .module&&C.env.locals !=C.env.globals))=false:=by erw[O.kind];rfl
 show dk (s:={s1 with heap:=h2}) (B:=B.with h2 [e,t2]) (C:=C.at (C.A.mark (some (.ref e)))) (Cx.uL O) Ob (.inl hl) (lv:=.gl (.ref e)) rfl fun s3 K3 S3=>?_;have KQ:=K2.trans K3.back;show hs (B.with h2 [e,t2]) e (G.with nB) rfl (eL nB) HB (C.at (C.A.mark (some (.ref e)))) (Cx.uL O) ⟨hX.sc,hX.d,(fun z=>by right),hX.top,hX.code⟩ rfl ρ s3 _ _ S3 ?_ ?_
 · --something is raised within the suite
  intro e2 y c7 σ2 ρ2 s4 r4 K4 S4 X4;show av (X4.since (s0:=s0) KQ.alive) fun f4 X4=>?_;have E4:St B C ρ2 c7 σ2 s4.heap:=(S4.without nB).back;have IB:=KQ.trans K4.back;show jy (s0:=s0) (A:=C.A.mark (some (.ref e))) O.frames bg hf E4 X4 jl IB.alive fun h5 k5 X5=>?_;have S5:=E4.xs jl k5;have K5:=IB.xs S0 E4 rfl k5;show aa S5.ns fun m5 IC U=>?_;show wpAny_nameGoes (s:={s4 with heap:=h5}) hl IC hp fun h6 m6 HH FA=>?_;have S6:=S5.yR HH FA;have K6:=K5.trans (jx (C:=C) (ρ:=ρ2) (s:={s4 with heap:=h5}) (s':={s4 with heap:=h6,toks:=s4.toks+1}) (.head _) FA (Ns.alive HH) rfl rfl)
  have X6:dj C.env.frame s0 e2 y .here h6:=X5.keep fun a o nd q=>(FA.2 a fun z=>by
   show gy IC fun o' es ep eN du U=>?_;subst z
   replace q:=eN▸q;injection q with z;subst z
   show nd _ _ du).trans q
  show hide fun H_ o_=>?_;obtain⟨_,_,vs6,_,_,he6,_,_,_,_,_,L6,hL6,T6,ts6,d1,_⟩:=_root_.id X6;show o_ ?_;clear o_ H_;show V (wpAny_field (s:={s4 with heap:=h6,toks:=s4.toks+1}) he6 rfl d1 ?_);erw[ax (by simp)];show V (eE (s:={s4 with heap:=h6,toks:=s4.toks+1}) (s0:=s0) (fr':=C.env.frame) S6 X6 (by intro z;right) fun h7 g7 k7 U U X7=>?_);have S7:=S6.xs jl k7;have K7:=K6.xs (s:={s4 with heap:=h6,toks:=s4.toks+1}) S0 S6 rfl k7;show wpAny_throw ?_;show fO O hX ht (A:=C.A.mark (some (.ref e))) O.frames S0 qe r4 K7 S7 ⟨g7,X7⟩
 · --the suite ends
  intro f fv c7 σ2 ρ2 s4 p4 K4 S4 R4;have E4:St B C ρ2 c7 σ2 s4.heap:=(S4.without nB).back;have IB:=KQ.trans K4.back;show aa E4.ns fun m5 IC U=>?_;show wpAny_nameGoes hl IC hp fun h6 m6 HH FA=>?_;have S6:=E4.yR HH FA;have Ko:=jx (C:=C) (ρ:=ρ2) (s:=s4) (s':={s4 with heap:=h6,toks:=s4.toks+1}) (.head _) FA (Ns.alive HH) rfl rfl;show q f fv [] σ2 ρ2 _ p4 (IB.trans Ko) S6 ?_
  induction fv using FV.casesOn with
  |next=>show R4
  |brk=>show R4
  |cont=>show R4
  |ret v=>(show aa R4 fun u e ru=>?_);show cM u e (Ko.rep E4 ru)
theorem yS{h₀:ExceptHandler}{hs:List ExceptHandler}{s0:Shared}{Q:qu}{e:Addr}(ht:X.top=true)(O:bC C)(hX:X.At C)(S0:St B C ρ0 dx σ0 s0.heap)(qe:Exc B X C ρ0 s0 E)(K:Kept C ρ0 s0 ρ1 s1)(S:St B C ρ1 kT σ1 s1.heap)(Xe:ExcAt C s0 e x s1)(h:dK B X kT σ1 x (h₀::hs) P)(q:∀f fv ae σ' ρ' s',P fv ae σ'→Kept C ρ0 s0 ρ' s'→St B C ρ' ae σ' s'.heap→iT s'.heap ρ' fv f→Q f s'):
  wpAny B.M C.A (noteFrame (.ref e) C.env) (fun U s₂=>wpAny B.M C.A (setFlight (.ref e) none) (fun U s₃=>wpAny B.M C.A (handleBy (.ref e) C.env (h₀::hs)) Q E s₃) E s₂) E s1:=by
 show av (hX.top ht) fun outer bg=>?_;show av (S.kB bg) fun L hf=>?_;have jl:=jz S0;show av Xe fun f Xe=>?_;show jy (s0:=s0) O.frames bg hf S Xe jl K.alive fun h2 k2 X2=>?_;have S2:=S.xs jl k2;have K2:=K.xs S0 S rfl k2;show eE (s:={s1 with heap:=h2}) (s0:=s0) (fr':=none) S2 X2 (by intro z;right) fun h3 g k3 e1 U X3=>?_;obtain rfl:=e1 rfl;show h C O hX ρ0 s0 dx σ0 ρ1 _ E Q e S0 qe (K2.xs (s:={s1 with heap:=h2}) S0 S2 rfl k3) (S2.xs jl k3) X3 q
theorem eD.Bp{h₀:ExceptHandler}{hs:List ExceptHandler}(ht:X.top=true)(R1:EX→aQ→List LO→Prop)(h:dY B {X with R:=R1} env σ body P)(hh:∀x ae σ',R1 x ae σ'→dK B X ae σ' x (h₀::hs) P):
  eD B X env σ (.Try body (h₀::hs) [] [] pos) P:=fun C O hX ρ s E Q S qe q=>by
 show wpAny_Try_except (h C O ⟨hX.sc,hX.d,hX.hn,hX.top,hX.code⟩ ρ s _ _ S (fun e x ae σ' ρ' s' r K' S' X'=>yS ht O hX S qe K' S' X' (hh x ae σ' r) q) fun f fv ae σ' ρ' s' p' K' S' R'=>?_)
 induction fv using FV.casesOn with
 |next=>obtain rfl:=R';show wpAny_execs_nil (q _ .next _ _ _ _ p' K' S' rfl)
 |brk=>obtain rfl:=R';show q _ .brk _ _ _ _ p' K' S' rfl
 |cont=>obtain rfl:=R';show q _ .cont _ _ _ _ p' K' S' rfl
 |ret r=>(show aa R' ?_;rintro v rfl R1);show q _ (.ret r) _ _ _ _ p' K' S' ⟨v,rfl,R1⟩
theorem eP.Bp{h₀:ExceptHandler}{hs:List ExceptHandler}(ht:X.top=true)(R1:EX→aQ→List LO→Prop)(h:jX B {X with R:=R1} env σ body P)(hh:∀x ae σ',R1 x ae σ'→dK B X ae σ' x (h₀::hs) P):
  eP B X env σ (.Try body (h₀::hs) [] [] pos) P:=fun C O hX ρ s E Q S qe q=>by
 show J4 (h C O ⟨hX.sc,hX.d,hX.hn,hX.top,hX.code⟩ ρ s _ _ S (fun e x ae σ' ρ' s' r K' S' X'=>yS ht O hX S qe K' S' X' (hh x ae σ' r) q) fun f fv ae σ' ρ' s' p' K' S' R'=>?_)
 induction fv using FV.casesOn with
 |next=>obtain rfl:=R';show wpAny_execs_nil (q _ .next _ _ _ _ p' K' S' rfl)
 |brk=>obtain rfl:=R';show q _ .brk _ _ _ _ p' K' S' rfl
 |cont=>obtain rfl:=R';show q _ .cont _ _ _ _ p' K' S' rfl
 |ret r=>(show aa R' ?_;rintro v rfl R1);show q _ (.ret r) _ _ _ _ p' K' S' ⟨v,rfl,R1⟩
end
noncomputable def rM(K:Frag)(D:Addr):Bool:=(clsIn K D).isSome&&typeIn K (.ref D)==some (.type "type")&&subIn K (.ref D) (.type "BaseException")==some true
section
variable{M:Model}{K:Frag}{c D D1 D2 e:Addr}{vs:Array Value}
theorem f7(X:K.In h)(hk:rM K D=true):Looks M h (isInstance (.ref D) (.type "tuple")) false∧Looks M h (isExcClass (.ref D)) true:=by unfold rM at hk;simp only[Bool.and_eq_true,beq_iff_eq]at hk;show aA hk ?_;rintro⟨e0,e1⟩ e2;show⟨(looks_typeIn X e1).andThen (Looks.of_pure tc_notTuple),?_⟩;show(jS X e0).andThen (by simp only[if_true];show looks_subIn X e2)
theorem GN(X:K.In s.heap)(hk:rM K D=true){b:Bool}(hs:subIn K (.ref c) (.ref D)=some b)(he:s.heap.get? e=some ⟨.ref c,none,.fields vs,#[]⟩){Q:Bool→Shared→Prop}(q:Q b s):wpAny M A (excMatches (.ref e) (.ref D)) Q E s:=by
 show aA (f7 (M:=M) X hk) fun L1 L2=>?_;have Lt:Looks M s.heap (typeOf (.ref e)) (.ref c):=(Looks.ld he).andThen .now;have L3:=looks_subIn (M:=M) X hs;unfold excMatches;show V (L1.here ?_);simp only[Bool.false_eq_true,if_false];show V (aG ?_);simp only[forIn_cons,forIn_nil];show V (V (V (L2.here ?_)));simp only[Bool.not_true,Bool.false_eq_true,if_false];show aG (aG (V (Lt.here (V (V (V (L3.here ?_)))))))
 induction b using Bool.casesOn with
 |true=>show aG (aG (aG q))
 |false=>show aG (aG (aG q))
theorem GO{tp:Addr}{n:Nat}{o:Obj}(X:K.In s.heap)(ho:s.heap.get? tp=some o)(hc:o.cls= .type "tuple")(hd:o.data= .seq #[.ref D1,.ref D2] n)(HI:rM K D1=true)(Fx:rM K D2=true){b1 b2:Bool}(FC:subIn K (.ref c) (.ref D1)=some b1)(CV:subIn K (.ref c) (.ref D2)=some b2)(he:s.heap.get? e=some ⟨.ref c,none,.fields vs,#[]⟩){Q:Bool→Shared→Prop}(q:Q (b1 ||b2) s):wpAny M A (excMatches (.ref e) (.ref tp)) Q E s:=by
 have L1:=(f7 (M:=M) X HI).2;have L2:=(f7 (M:=M) X Fx).2;have Lt:Looks M s.heap (typeOf (.ref e)) (.ref c):=(Looks.ld he).andThen .now;have L3:=looks_subIn (M:=M) X FC;have L4:=looks_subIn (M:=M) X CV;unfold excMatches;show V (wpAny_isInstance (T:="tuple") ⟨o,ho,hc⟩ isSubtype_tuple_tuple ?_);dsimp only;erw[aJ rfl];show V (wpAny_seqItems ho hd (V (aG ?_)));simp only[Option.getD_some];simp only[forIn_cons,forIn_nil];show V (V (V (L1.here ?_)));simp only[Bool.not_true,Bool.false_eq_true,if_false];show aG (V (V (L2.here ?_)));simp only[Bool.not_true,Bool.false_eq_true,if_false];show aG (aG (V (Lt.here (V (V (V (L3.here ?_)))))))
 induction b1 using Bool.casesOn with
 |true=>show aG (aG (aG q))
 |false=>
  show aG (V (V (L4.here ?_)))
  induction b2 using Bool.casesOn with
  |true=>show aG (aG (aG q))
  |false=>show aG (aG (aG q))
end
theorem jb.one(G:Gd B){c D:Addr}{b:Bool}(hg:bX (K B.w.params) X.sc x=some (.ref D))(hk:rM (K B.w.params) D=true)(hs:subIn (K B.w.params) (.ref c) (.ref D)=some b):jb B X (.Name x p) (.ref c) b:=fun C O aZ ρ s E Q env σ e vs S he q=>
 fC G O (aZ▸hg) S.base (GN (S.dy G) hk hs he (q s (fun U U h=>h) rfl rfl))
theorem jb.two(G:Gd B){k:Nat}{c D1 D2:Addr}{b1 b2:Bool}(Oc:bX (K B.w.params) X.sc x=some (.ref D1))(Od:bX (K B.w.params) X.sc y=some (.ref D2))(HI:rM (K B.w.params) D1=true)(Fx:rM (K B.w.params) D2=true)(FC:subIn (K B.w.params) (.ref c) (.ref D1)=some b1)(CV:subIn (K B.w.params) (.ref c) (.ref D2)=some b2):jb B X (.Tuple [.Name x p,.Name y p2] k tp) (.ref c) (b1 ||b2):=fun C O aZ ρ s E Q env σ e vs S he q=>by show Tuple_ (spliced_more (fC G O (aZ▸Oc) S.base (spliced_more (fC G O (aZ▸Od) S.base (spliced_none ?_)))));show wpAny_newObj_type ?_ (by size_fits);have k:=aC s.heap {cls:=.type "tuple",data:=.seq [Value.ref D1,.ref D2].toArray};show GO (s:={s with heap:=s.heap.push _}) ((S.dy G).keeps k) (gh _ rfl) rfl rfl HI Fx FC CV (k _ _ he) (q _ k rfl rfl)
section
variable{K:Frag}{x C:Addr}{ox:Obj}{od:Option Obj}{name:Str}{expr:Bool}
theorem Bq(X:K.In s.heap)(I:InstAt s.heap x ox C od)(Oe:findIn K (.ref C) "__getattribute__"=some (some (.builtin "BaseException.__getattribute__")))(KR:findIn K (.ref C) "__getattr__"=some none)(hb:subIn K (.ref C) (.type "BaseException")=some true)(hf:findObj K C od name=some (.value v))(hh:handedIn v=true)(h:Q v {s with toks:=s.toks+1}):wpAny (model prog w) A (getAttr (.ref x) name expr) Q E s:=by
 obtain⟨hp,g,d,t,os⟩:=s;have L0:=I.type (M:=model prog w);have L1:=looks_findIn (M:=model prog w) X Oe;have L2:=looks_findIn (M:=model prog w) X KR;have L3:=looks_find (M:=model prog w) X I hf;have Lb:Looks (model prog w) hp (isInstance (.ref x) (.type "BaseException")) true:=L0.andThen (looks_subIn X hb);show V (wpAny_mkText (eT (V (L0.at (V (L1.at ?_))))));dsimp only;erw[ax (by(show aD ?_ (Bool.and_eq_true ..);rw[not_and]);intro U;decide)];unfold getAttrByItsOwn hookBefore;show V ?_;erw[aJ (show onTheHeap (.ref C)=true from rfl)];show L2.at (V (wpAny_attempt (eT ?_)));unfold callGetattribute;erw[ax (by cases expr<;>decide)];show V (eA (PySem.F.attr_Exception.ga.bind _) ?_)
 have hk:builtinKind "BaseException.__getattribute__"=some .slot:=by nofun
 have nC:splitId "BaseException.__getattribute__"=some ("BaseException","__getattribute__"):=by nofun
 show wpAny_call (codeAny_call_builtin PySem.F.attr_Exception.ga.plain PySem.F.entry_bexc_ga (@check_slot (model prog w) _ _ _ "BaseException.__getattribute__" "BaseException" "__getattribute__" (.ref x) [.str name t] [] _ hk nC Lb (PySem.F.args_bexc_ga _ _) ?_));show V (aG (V (aG (V (L0.at (V (L3.at ?_)))))));show aG ?_;dsimp only;erw[handedOut_of hh];show aG h
theorem Br{i j:Int}{t:Tok}(X:K.In s.heap)(ho:s.heap.get? x=some ox)(Of:ox.cls= .ref C)(hd:ox.data= .prim (.int i tk))(hq:findIn K (.ref C) "__eq__"=some (some (.builtin "int.__eq__")))(hs:subIn K (.ref C) (.type "int")=some true)(hi:subIn K (.type "int") (.ref C)=some false)(hu:A.units<cLine)(h:Q (.bool (i==j)) s):wpAny (model prog w) A (compareOp .Eq (.ref x) (.int j t)) Q E s:=by
 obtain⟨hp,g,d,tt,os⟩:=s;have L0:Looks (model prog w) hp (typeOf (.ref x)) (.ref C):=Of▸(Looks.ld ho).andThen .now;have L1:=looks_findIn (M:=model prog w) X hq;have Li:Looks (model prog w) hp (isInstance (.ref x) (.type "int")) true:=L0.andThen (looks_subIn X hs);show(?_:wpAny _ _ (richCompare .Eq _ _) _ _ _);show eT (V (wpAny_cRoomFor hu ?_));erw[show oneThing? CmpOp.Eq (Value.ref x) (Value.int j t)=none from rfl];dsimp only[cmpInfo];show V (L0.at (V (eA (a:=Value.type "int") rfl ?_)));erw[aJ (by rfl)];show V ((looks_subIn (M:=model prog w) X hi).at ?_);erw[ax (by decide)]
 have hk:builtinKind "int.__eq__"=some .slot:=by nofun
 have nC:splitId "int.__eq__"=some ("int","__eq__"):=by nofun
 have fin:wpAny (model prog w) A (call (.builtin "int.__eq__") ([.ref x]++[.int j t])>>=fun v=>pure (some v)) (fun r s'=>r=some (.bool (i==j))∧s'=⟨hp,g,d,tt,os⟩) E ⟨hp,g,d,tt,os⟩:=by show V (wpAny_call (codeAny_call_builtin PySem.F.slot_int_eq.plain PySem.F.entry_int_eq (@check_slot (model prog w) _ _ _ "int.__eq__" "int" "__eq__" (.ref x) [.int j t] [] _ hk nC Li (PySem.F.args_int_eq_2 _ _) ?_)));show V (aG ?_);show V (V (V (wpAny_load ho ?_)));erw[hd];show aG (aG (V (aG ?_)));show aG (aG ⟨rfl,rfl⟩)
 show V (V (jt (Q:=fun r s'=>r=some (.bool (i==j))∧s'=⟨hp,g,d,tt,os⟩) ?_ (fun r s' hr=>?_) fun U U z=>z))
 ·simp only[callSpecialIfBound?,bindSpecialIfBound?];show eT (V (V (V (L0.at (L1.at ?_)))));simp only[PySem.F.slot_int_eq.bind];show V (wpAny_askSetting (wpAny_ite ?_))
  split
  ·show V (aG (aG fin))
  ·show wpAny_tryCatch (V (aG (aG fin)))
 ·show aA hr ?_;rintro rfl rfl;show aG (aG h)
end
theorem rN(O:bC C)(hX:X.At C)(parts:List Expr):∀(acc:Str) (ρ:Cells) (s:Shared) (Q:Str→Shared→Prop),St B C ρ env σ s.heap→Exc B X C ρ s E→
  (∀p∈parts,aS B X env σ p fun v σ1=>σ1=σ∧∃m,v= .str m∧m.length≤3000)→acc.length+3000*parts.length≤100000→(∀out ρ' s',out.length≤100000→Kept C ρ s ρ' s'→St B C ρ' env σ s'.heap→Q out s')→Joins B.M C.A E (evalEach parts C.env) acc Q s:=by
 induction parts with
 |nil=>show fun acc ρ s Q S qe h hz q=>q acc ρ s (by simp at hz;assumption) (.rr rfl rfl rfl) S
 |cons p r ih=>intro acc ρ s Q S qe h hz q;show h p (.head _) C O hX ρ s E _ S qe fun v σ1 u ρ1 s1 h1 K1 S1 R1=>?_;show aA h1 fun e0 hZ=>?_;show aa hZ ?_;rintro m rfl hm;obtain rfl:σ=σ1:=e0.symm;show av R1 ?_;rintro t rfl;have e:(acc++m).length=acc.length+m.length:=strLen_append ..;show xy m t rfl (by(erw[e,sizeLine_eq]);simp at hz;ac_rfl) (ih (acc++m) ρ1 s1 Q S1 (qe.since K1) (fun p hp=>h p (.tail _ hp)) (by erw[e];simp at hz;ac_rfl) fun out ρ' s' ho K' S'=>q out ρ' s' ho (K1.trans K') S')
theorem aS.joined{v₁ v₂:Expr}{rest:List Expr}(h:∀p∈v₁::v₂::rest,aS B X env σ p fun v σ1=>σ1=σ∧∃m,v= .str m∧m.length≤3000)(hz:rest.length≤20)(hp:∀m,P (.str m) σ):aS B X env σ (.JoinedStr (v₁::v₂::rest) pos) P:=fun C O hX ρ s E Q S qe q=>by show wpAny_JoinedStr (rN O hX _ _ ρ s _ S qe h (by show(?_:0+3000*(rest.length+1+1)≤100000);lia) fun out ρ' s' ho K' S'=>⟨by erw[sizeLine_eq];show nt,?_⟩);show q (.str out) σ _ ρ' {s' with toks:=s'.toks+1} (hp out) (K'.trans (.rr rfl rfl rfl)) S' ⟨_,rfl⟩
theorem aS.fmtInt(h:aS B X env σ value fun v σ1=>σ1=σ∧∃i:Int,v= .int i∧i.natAbs<2 ^ 60):aS B X env σ (.FormattedValue value (-1) none pos) fun v σ1=>σ1=σ∧∃m,v= .str m∧m.length≤3000:=fun C O hX ρ s E Q S qe q=>by
 show wpAny_FormattedValue_plain (h C O hX ρ s E _ S qe fun v σ1 u ρ1 s1 h1 K1 S1 R1=>?_);show aA h1 ?_;rintro rfl hZ;show aa hZ ?_;rintro i rfl hi;show av R1 ?_;rintro t rfl
 have hl:i.natAbs.log2<1920:=by
  by_cases z:i.natAbs=0
  ·erw[z];decide
  ·show Cp ((Nat.log2_lt z).mpr hi) (by decide)
 show wpAny_formatField_int hl ?_;show q _ _ _ ρ1 {s1 with toks:=s1.toks+1+1} ⟨rfl,_,rfl,?_⟩ (K1.trans (.rr rfl rfl rfl)) S1 ⟨_,rfl⟩;have:=int_text_length_le (k:=1920) (by decide) hl;show(?_:(Str.ofString (toString i)).length≤3000);erw[PySem.ofString_length ..];show nt
theorem aS.fmtStr{k:Nat}(hx:x.length≤3000):aS B X env σ (.Constant (.str x) k p) fun v σ1=>σ1=σ∧∃m,v= .str m∧m.length≤3000:=.str ⟨rfl,_,rfl,hx⟩
section
variable{K:Frag}{e t0 C:Addr}{vs:Array Value}
theorem Bs(X:K.In s.heap)(he:s.heap.get? e=some ⟨.ref C,none,.fields vs,#[]⟩)(h0:vs[0]? =some (.ref t0))(ht:s.heap.get? t0=some {cls:=.type "tuple",data:=.seq #[.str m tk]})(hs:findIn K (.ref C) "__str__"=some (some (.builtin "BaseException.__str__")))(hb:subIn K (.ref C) (.type "BaseException")=some true)(hu:A.units<cLine)(hq:Q (.str m tk) s):wpAny (model prog w) A (pyStrObj (.ref e)) Q E s:=by
 have L0:Looks (model prog w) s.heap (typeOf (.ref e)) (.ref C):=(Looks.ld he).andThen .now;have L1:=looks_findIn (M:=model prog w) X hs;have Lb:Looks (model prog w) s.heap (isInstance (.ref e) (.type "BaseException")) true:=L0.andThen (looks_subIn X hb)
 have hk:builtinKind "BaseException.__str__"=some .slot:=by nofun
 have nC:splitId "BaseException.__str__"=some ("BaseException","__str__"):=by nofun
 show V (wpAny_cRoomFor hu ?_);show V (V (V (L0.here (L1.here ?_))));simp only[PySem.F.excStr_Exception.str.bind];show eT (V (aG (V ?_)));show wpAny_call (codeAny_call_builtin PySem.F.excStr_Exception.str.plain PySem.F.entry_bexc_str (@check_slot (model prog w) _ _ _ "BaseException.__str__" "BaseException" "__str__" (.ref e) [] [] _ hk nC Lb (PySem.F.args_bexc_str _) ?_));show V (aG ?_);dsimp only;show V ?_;show V (wpAny_field he rfl h0 (V (wpAny_seqItems ht rfl (aG ?_))));show V (wpAny_rule (V (aG ?_)));show aG (aG (V ?_));show wpAny_isInstance (typeIs_str _ _ _) isSubtype_str_str (by erw[aJ rfl];show aG hq)
end
section
variable{x:EX}{e:Addr}
theorem gU(O:bC C)(hX:X.At C)(hd:X.d≤300):C.A.units<cLine:=by have:=O.units;have:=hX.d;unfold cLine;ac_rfl
noncomputable def mQ(K:Frag)(c:Addr):Bool:=findIn K (.ref c) "__getattribute__"==some (some (.builtin "BaseException.__getattribute__"))&&findIn K (.ref c) "__getattr__"==some none&&subIn K (.ref c) (.type "BaseException")==some true
theorem fe.exc(G:Gd B)(H:tE B e x){c:Addr}(hc:x.cls= .ref c)(hk:mQ (K B.w.params) c=true)(hf:findObj (K B.w.params) c none name=some (.value v))(hh:handedIn v=true):fe B env σ (.gl (.ref e)) name (.gl v) where
 run:=fun C O ρ s E Q y S ry q=>by obtain rfl:=ry;unfold mQ at hk;simp only[Bool.and_eq_true,beq_iff_eq]at hk;show aA hk ?_;rintro⟨k1,k2⟩ k3;show sI H.obj fun vs t args he U=>?_;replace he:=hc▸he;show Bq (S.dy G) (ox:=⟨.ref c,none,.fields vs,#[]⟩) (od:=none) ⟨S.base _ _ he,rfl,rfl,trivial⟩ k1 k2 k3 hf hh ?_;show q v {s with toks:=s.toks+1} (.rr rfl rfl rfl) S rfl
noncomputable def CD:Data→Option Int
 | .prim (.int i _)=>some i
 |_=>none
theorem yT{d:Data}{i:Int}(h:CD d=some i):∃t,d= .prim (.int i t):=by
 induction d using Data.casesOn with
 |prim v=>
  induction v using Value.casesOn with
  |int j t=>show Option.some.inj h▸⟨t,rfl⟩
  |_=>show fK h
 |_=>show fK h
noncomputable def yU(K:Frag)(a C:Addr)(i:Int):Bool:=((K.lookup a).any fun o=>o.cls== .ref C&&(o.dict.isSome&&CD o.data==some i))&&findIn K (.ref C) "__eq__"==some (some (.builtin "int.__eq__"))&&subIn K (.ref C) (.type "int")==some true&&subIn K (.type "int") (.ref C)==some false
theorem aM.Ei(G:Gd B){C:Addr}{i j:Int}(hd:X.d≤300)(hk:yU (K B.w.params) a C i=true)(h:P (.bool (i==j)) σ):
  aM B X env σ [.gl (.ref a),.int j] (bK (compareOp .Eq)) P:=fun C' O hX ρ s E Q vs S qe R q=>by
 unfold yU at hk;simp only[Bool.and_eq_true,beq_iff_eq]at hk;show aA hk ?_;rintro⟨⟨k1,k2⟩,k3⟩ k4;show bb R ?_;rintro v dX rfl rx R;show bb R ?_;rintro y dX rfl ry R;subst R;obtain rfl:=rx;show av ry ?_;rintro t rfl;show aa ((Option.any_eq_true ..).mp k1) ?_;rintro⟨c0,d0,dt,sl⟩ ho k1;show aA (Bool.and_eq_true_iff.mp k1) fun q1 k1=>?_;show aA (Bool.and_eq_true_iff.mp k1) fun q2 q3=>?_;obtain⟨d1,rfl⟩:∃d,d0=some d:=iA q2;obtain⟨tk,rfl⟩:∃t,dt=_:=yT (eB q3);obtain rfl:c0=_:=eB q1;show Br (S.dy G) (S.dy G _ _ ho) rfl rfl k2 k3 k4 (gU O hX hd) (q _ σ _ ρ s h (.rr rfl rfl rfl) S rfl)
theorem aS.Ej(G:Gd B)(H:tE B e x){c:Addr}{m:Str}(hd:X.d≤300)(hc:x.cls= .ref c)(ha:x.args=[m])(hm:m.length≤3000)(hs:findIn (K B.w.params) (.ref c) "__str__"=some (some (.builtin "BaseException.__str__")))(hb:subIn (K B.w.params) (.ref c) (.type "BaseException")=some true)(h:aS B X env σ value fun v σ1=>σ1=σ∧v= .gl (.ref e)):aS B X env σ (.FormattedValue value 115 none pos) fun v σ1=>σ1=σ∧∃m,v= .str m∧m.length≤3000:=fun C O hX ρ s E Q S qe q=>by
 show wpAny_FormattedValue_s (h C O hX ρ s E _ S qe fun v σ1 u ρ1 s1 h1 K1 S1 R1=>?_);show aA h1 ?_;rintro e0 rfl;obtain rfl:σ=σ1:=e0.symm;obtain rfl:=R1;show AF H.obj ?_;rintro vs t args he hz ⟨h0,U⟩ ht hA;replace he:=hc▸he;replace hA:=ha▸hA;obtain⟨l⟩:=args
 induction l using List.casesOn with
 |nil=>show hA.elim
 |cons v0 r=>
  induction r using List.casesOn with
  |cons _ _=>show hA.2.elim
  |nil=>show aA hA ?_;rintro⟨tk,rfl⟩ U;show Bs (S1.dy G) (S1.base _ _ he) h0 (S1.base _ _ ht) hs hb (gU O hX hd) ?_;show wpAny_formatField_str (q _ _ _ ρ1 s1 ⟨rfl,m,rfl,hm⟩ K1 S1 ⟨_,rfl⟩) (q _ _ _ ρ1 {s1 with toks:=s1.toks+1} ⟨rfl,m,rfl,hm⟩ (K1.trans (.rr rfl rfl rfl)) S1 ⟨_,rfl⟩) (by erw[sizeLine_eq];show nt)
end
section
variable{M:Model}{K:Frag}{e c:Addr}{vs:Array Value}
theorem iH(X:K.In h)(he:h.get? e=some ⟨.ref c,none,.fields vs,#[]⟩)(hb:subIn K (.ref c) (.type "BaseException")=some true):
  Looks M h (isType (.ref e)) false∧Looks M h (isInstance (.ref e) (.type "BaseException")) true:=by
 show⟨?_,((Looks.ld he).andThen .now).andThen (looks_subIn X hb)⟩;intro A Q E s k q;show V (nd_load (k _ _ he) (nd_pure (aG q)))
theorem jZ{msg:String}(X:K.In s.heap)(he:s.heap.get? e=some ⟨.ref c,none,.fields vs,#[]⟩)(hb:subIn K (.ref c) (.type "BaseException")=some true)(q:Q (.ref e) s):wpAny M A (excFromValue (.ref e) msg) Q E s:=by show aA (iH (M:=M) X he hb) fun L1 L2=>?_;show V (V (L1.here ?_));erw[ax (by decide)];show aG ?_;erw[ax (by decide)];show V (L2.here ?_);erw[aJ rfl];show aG q
end
section
variable{e h2:Addr}{vs:Array Value}
theorem p7(he:s.heap.get? e=some ⟨hv,none,.fields vs,#[]⟩)(h2:vs[2]? =some .none){x:Value}(q:Q .none s):wpAny (model prog w) A (runValue (.builtin "proto.unchain" ⟨[x,.ref e,.ref e,.bool false],[]⟩)) Q E s:=by show wpAny_runValue (codeAny_builtin (b:=Builtin.«proto.unchain») (entryFor_of_tree (by left)) ?_);show V (wpAny_field he rfl h2 ?_);erw[aJ (by decide)];show aG q
end
section
variable{P:dO}{x:EX}{e:Addr}
theorem tF.of(h:dY B X env σ b P):tF B e X env σ b P:=fun C O hX U ρ s E Q S qe q=>h C O hX ρ s E Q S qe q
theorem p8{s0:Shared}(jl:∀a o,B.heap.get? a=some o→(s0.heap.get? a).isSome)(S0:St B C ρ0 dx σ0 s0.heap)(S:St B C ρ env σ s.heap)(KK:Kept C ρ0 s0 ρ s){e2 D:Addr}(n0:s0.heap.get? e2=none){vs:Array Value}(g:s.heap.get? e2=some ⟨.ref D,none,.fields vs,#[]⟩){i:Nat}(v:Value)(hi:i<vs.size){Q:sF}(k:∀h',St B C ρ env σ h'→Kept C ρ0 s0 ρ {s with heap:=h'}→h'.get? e2=some ⟨.ref D,none,.fields (vs.setIfInBounds i v),#[]⟩→(∀t args,s.heap.get? t=some {cls:=.type "tuple",data:=.seq args}→h'.get? t=some {cls:=.type "tuple",data:=.seq args})→Q () {s with heap:=h'}):
  wpAny B.M A (setField (.ref e2) i v) Q E s:=by
 have x:=hV (C:=C) S n0 g ⟨⟨fun z=>(by right),fun z=>by right⟩,_,rfl⟩ (Obj.mapFields (·.setIfInBounds i v)) rfl;show wpAny_setField g rfl hi ?_;show k _ (S.xs jl x) (KK.xs S0 S rfl x) (Heap.get?_update_self _ g rfl) fun t args w=>x.keep _ _ (S.kN w).2.2 (.inr (by rintro⟨U,us,q⟩;right)) w
theorem wb(G:Gd B)(H:tE B e x)(O:bC C)(hX:X.At C)(hh:C.A.handled=some (.ref e)){D c:Addr}{Q:qu}(hc:x.cls= .ref c)(hx:x.fst=true)(KS:subIn (K B.w.params) (.ref c) (.type "BaseException")=some true)(hg:bX (K B.w.params) X.sc y=some (.ref D))(qD:rL (K B.w.params) D=true)(ID:subIn (K B.w.params) (.ref D) (.type "BaseException")=some true)(KU:typeIn (K B.w.params) (.ref D)=some (.type "type"))(hm:c9 m=false)(hn:c9 n=false)(em:env.lookup m=some (.str msg))(en:env.lookup n=some (.gl (.ref e)))(S:St B C ρ env σ s.heap)(qe:Exc B X C ρ s E)(hR:X.R ⟨.ref D,[msg],false⟩ env σ):
  wpAny B.M C.A (exec (.Raise (some (.Call (.Name y np) [.Name m mp] [] cpos)) (some (.Name n np2)) pos) C.env) Q E s:=by
 show av (oC G.dy qD) fun d XC=>?_;have FB:=PySem.F.excBase_Exception;have fu:=cH C.env (r:=[.Name m mp]) (by rfl) cpos;have om:=fX hm;have on:=fX hn;have jl:=jz S;erw[arm_exec_Raise ..];show V (gx (V (V ?_)));show(?_:wpAny B.M C.A (do callWith cpos (←eval (.Name y np) C.env) [] (backTo cpos (starEach [.Name m mp] C.env)) (backToKw cpos (keywordEach [] C.env))) _ _ _);show V (uz G hg O hX S qe fun ρ1 s1 K1 S1=>?_);have hL:lR B X env σ [.Name m mp] fun as σ3=>as=[.str msg]∧σ3=σ:=Rc.cons rfl (aS.var em (lR.nil ⟨rfl,rfl⟩) om.1 om.2.1);show V (eT (eI fu (hL C O hX ρ1 s1 E _ cpos S1 (qe.since K1) fun rs σ2 vs ρ2 s2 p2 K2 S2 R2=>?_)));show aA p2 ?_;rintro rfl e0;replace S2:=e0▸S2;show bb R2 ?_;rintro v dX rfl ⟨t,rfl⟩ R2;obtain rfl:dX=[]:=R2;have Ce:=XC.keeps S2.base;have Ad:=K1.trans K2;show V (gx ?_);erw[df fu];show V (wpAny_keeperOf_exc (h:=s2.heap) (g:=s2.gens) (d:=s2.drawn) (t:=s2.toks) (os:=s2.os) Ce.obj ?_);show V (wpAny_call_exc_subT (h:=s2.heap) (g:=s2.gens) (d:=s2.drawn) (t:=s2.toks) (os:=s2.os) FB Ce.tail Ce.obj Ce.ns Ce.init (fun h3 e2 IF=>V (eT (wpAny_point (aG ?_)))) (by show(?_:1≤sizeLine);erw[sizeLine_eq];show Nat.zero_lt_succ _));show V (gx (aG ?_));have K3:Kept C ρ s ρ2 {s2 with heap:=h3}:=Ad.trans (aR IF.keeps rfl rfl);have S3:St B C ρ2 env σ h3:=S2.bh IF.keeps;have Ae:s.heap.get? e2=none:=bQ Ad.alive IF.new;show bJ IF.there fun t2 g1 g2 g3=>?_;have KW:s.heap.get? t2=none:=bQ Ad.alive g2;show V (eT ?_);show V (aS.at (aS.var en (P:=fun v σ1=>v= .gl (.ref e)∧σ1=σ) ⟨rfl,rfl⟩ on.1 on.2.1) O hX (s:={s2 with heap:=h3}) S3 (qe.since K3) fun v4 ρ4 s4 K4 S4 R4=>?_);obtain rfl:v4= .ref e:=R4;show V (gx (aG (V (aG ?_))));have o3:=S3.uN g1 ⟨⟨fun z=>(by right),fun z=>by right⟩,_,rfl⟩;have u3:=S3.kN g3;have g4:=K4.keep _ _ o3.2.1 o3.1 o3.2.2 g1;have w4:=K4.keep _ _ u3.2.1 u3.1 u3.2.2 g3;have KK:=K3.trans K4;show iQ H.obj fun vs t args he hz h2 U=>?_;replace he:=hc▸he;have jn:e2≠e:=fun z=>fK (Ae.symm.trans ((congrArg s.heap.get? z).trans (S.base _ _ he)));show V (eT (jZ (S4.dy G) g4 ID ?_));dsimp only;erw[ax (show ¬ (Value.ref e==Value.none)=true from Bool.false_ne_true)];show V (eT (jZ (S4.dy G) (S4.base _ _ he) KS ?_));show V (p8 jl S S4 KK Ae g4 (.ref e) (by show(?_:3<6);decide) fun h5 S5 K5 g5 w5=>?_);show V (p8 (s:={s4 with heap:=h5}) jl S S5 K5 Ae g5 (.bool true) (by show(?_:4<6);decide) fun h6 S6 K6 g6 w6=>?_);have w6:=w6 _ _ (w5 _ _ w4);have HJ:=S6.dy G;show V ((iH (M:=B.M) HJ g6 ID).1.at ?_);erw[ax (by decide)];have Lt:Looks B.M h6 (typeOf (.ref e2)) (.ref D):=(Looks.ld g6).andThen .now;show V (V (Lt.at (V ((looks_typeIn (M:=B.M) HJ KU).at ?_))));erw[aJ (by decide)];show aG ?_;show V (V (wpAny_field (s:={s4 with heap:=h6}) g6 rfl (x:=.none) rfl ?_));erw[ax (by decide)];show aG ?_;show V (wpAny_handled ?_);erw[hh];dsimp only;erw[aJ (by simp only[bne_iff_ne,ne_eq,Value.ref.injEq];show fun z=>jn z.symm)];show V (eT (p7 (s:={s4 with heap:=h6}) (S6.base _ _ he) (h2.2 hx) ?_));show V (m:=setField (.ref e2) 2 (.ref e)) (p8 (s:={s4 with heap:=h6}) jl S S6 K6 Ae g6 (.ref e) (by show(?_:2<6);decide) fun h7 S7 K7 g7 w7=>?_);show wpAny_throw (qe e2 _ env σ ρ4 _ hR K7 S7 ⟨.new,Ae,⟨fun z=>(by right),fun z=>by right⟩,_,t2,_,g7,rfl,⟨rfl,fun z=>by right⟩,KW,w7 _ _ w6,⟨⟨_,rfl⟩,trivial⟩,rfl⟩)
theorem dK.raise(G:Gd B){ap:Pos}{t:Expr}{rest:List ExceptHandler}{c D:Addr}(ht:X.top=true)(hn:X.sc.names.lookup n=some .local)(hm:X.sc.names.lookup m=some .local)(jn:(n==m)=false)(om:c9 m=false)(on:c9 n=false)(hM:jb B X t x.cls true)(hc:x.cls= .ref c)(hf:x.fst=true)(KS:∀pr,subIn (K pr) (.ref c) (.type "BaseException")=some true)(hg:∀pr,bX (K pr) X.sc y=some (.ref D))(qD:∀pr,rL (K pr) D=true)(ID:∀pr,subIn (K pr) (.ref D) (.type "BaseException")=some true)(KU:∀pr,typeIn (K pr) (.ref D)=some (.type "type"))(hs:∀ae,swapsWith value (some (.Name m px)) ap.line ae=pure false)(hv:∀(B':Base) (e:Addr) (X':Sx),Gd B'→X'.sc=X.sc→X'.d=X.d→tE B' e x→aS B' X' (put n (.gl (.ref e)) env) σ value fun v σ1=>σ1=σ∧∃t,v= .str t)(hR:∀t,X.R ⟨.ref D,[t],false⟩ [] σ):
  dK B X env σ x (.ExceptHandler (some t) (some n) [.Assign [.Name m px] value ap,.Raise (some (.Call (.Name y np) [.Name m mp] [] cpos)) (some (.Name n np2)) pos] qp::rest) P:=by
 show .hit G ht hn hM fun B' e G' hw eR H=>?_;intro C O hX hh ρ s E Q S qe q;have asg:eD B' {X with hn:=false,R:=fun y U σ'=>X.R y [] σ'} (put n (.gl (.ref e)) env) σ (.Assign [.Name m px] value ap) fun f ae σ'=>f= .next∧σ'=σ∧∃t,ae=put m (.str t) (put n (.gl (.ref e)) env):=.assign (.inl hm) ((hv B' e {X with hn:=false,R:=fun y U σ'=>X.R y [] σ'} G' rfl rfl H).mono fun v σ1 z=>⟨rfl,z.1,z.2.elim fun t ht=>⟨t,by(show aD rfl ht)⟩⟩) hs;show wpAny_execs_cons (asg C O hX ρ s E _ S qe fun f fv kT σ1 ρ1 s1 h1 K1 S1 R1=>?_);show aA h1 ?_;rintro rfl hZ;show aA hZ fun e0 hZ=>?_;show av hZ ?_;rintro tt rfl;obtain rfl:σ=σ1:=e0.symm;obtain rfl:=R1;show wpAny_execs_cons (wb G' H O hX hh hc hf (KS _) (hg _) (qD _) (ID _) (KU _) om on (msg:=tt) (by(erw[aE ..];show aD rfl (aJ (beq_self_eq_true _)))) ?_ S1 (qe.since K1) (hR tt));erw[aE ..,ax (by show aD ?_ jn;decide),aE ..];show aD rfl (aJ (beq_self_eq_true _))
end
section
variable{α:Type}{M:Model}
theorem tG {n : Nat} {f : Nat → α → Sem (ForInStep α)} {a0 : α} {Q : α → Shared → Prop} (I : Nat → α → Prop) (h0 : I 0 a0) (step : ∀ i a, i < n → I i a → ∀ Q' : ForInStep α → Shared → Prop, (∀ a', I (i + 1) a' → Q' (.yield a') s) → wpAny M A (f i a) Q' E s) (fin : ∀ a, I n a → Q a s) :
    wpAny M A (forIn [:n] a0 f) Q E s := by
  erw[Std.Legacy.Range.forIn_eq_forIn_range' ..]
  simp only [Std.Legacy.Range.size, Nat.sub_zero, Nat.add_sub_cancel, Nat.div_one]
  have go : ∀ (m k : Nat) (a : α), k + m = n → I k a → wpAny M A (forIn (range' k m 1) a f) Q E s := by
    intro m
    induction m with
    | zero => intro k a e h; obtain rfl : k = n := ‹_›
              show aG (fin a h)
    | succ m ih =>
      intro k a e h
      erw[range'_succ]; erw[forIn_cons ..]
      show V (step k a (by ac_rfl) h _ fun a' h' => ih (k + 1) a' (by ac_rfl) h')
  show go n 0 a0 (by show Nat.add_comm _ _) h0
end
def fI(v:List Value)(b:List (Array UInt8)):Prop:=F2 (fun b v=>∃t,v=Value.bytes b t) b v
theorem fI.get{vs:List Value}{bs:List (Array UInt8)}(h:fI vs bs):vs.length=bs.length∧∀(i:Nat) b,bs[i]? =some b→∃t,vs[i]? =some (.bytes b t):=⟨(F2.length h).symm,fun i b e=>(F2.get h e).elim fun v q=>q.2.elim fun t z=>⟨t,z▸q.1⟩⟩
theorem tH(l:List (Array UInt8)):Builtin.Bytes.joined #[] l=l.foldl (· ++ ·) #[]:=by
 have:∀(l:List (Array UInt8)) (k:Nat) (a:Array UInt8),(l.zipIdx k).foldl (fun out (p,i)=>(if i>0 then out++ #[]else out)++p) a=l.foldl (· ++ ·) a:=by
  intro l
  induction l with
  |nil=>intro k a;rfl
  |cons b r ih=>intro k a;erw[zipIdx_cons,foldl_cons,foldl_cons,ih ..];show(?_:foldl _ ((if k>0 then a++ #[]else a)++b) r=_);erw[show(if k>0 then a++ #[]else a)=a by split<;>simp];with_reducible rfl
 show this l 0 #[]
theorem tI(l:List (Array UInt8)):∀a:Array UInt8,KBw.bInts (l.foldl (· ++ ·) a)=KBw.bInts a++(l.map KBw.bInts).flatten:=by
 induction l with
 |nil=>intro a;simp
 |cons b r ih=>intro a;erw[foldl_cons,ih ..];simp[KBw.bInts]
theorem wc(l:List (Array UInt8)):∀a:Array UInt8,(l.foldl (· ++ ·) a).size=a.size+(l.map (·.size)).sum:=by
 induction l with
 |nil=>intro a;simp
 |cons b r ih=>intro a;erw[foldl_cons,ih ..];simp;show Nat.add_assoc _ _ _
theorem tJ(l:List (Array UInt8)):∀n:Nat,l.foldl (fun x1 x2=>x1+x2.size) n=n+(l.map (·.size)).sum:=by
 induction l with
 |nil=>intro n;simp
 |cons b r ih=>intro n;erw[foldl_cons,ih ..];simp;show Nat.add_assoc _ _ _
theorem nS{taken:List (Value×Option Value)}{Q:sF}(ht:∀p∈taken,p.2=none)(h:Q () s):wpAny (model prog w) A (Builtin.Bytes.joinLetGo taken keep) Q E s:=by
 induction taken with
 |nil=>show aG h
 |cons p r ih=>obtain⟨x,u⟩:=p;obtain rfl:u=none:=ht _ (.head _);show V (wpAny_letGo (ih fun q hq=>ht q (.tail _ hq)))
theorem oG(take:∀(id:String) (b:Array UInt8) (t:Tok),Builtin.Bytes.takeBufferQuiet? id (.bytes b t) 0=pure (some (b,none))){Q:Fin→Shared→Prop}(hj:wpAny (model prog w) A (Builtin.Bytes.joinItems it) (fun seq s1=>∃l o vs n bs,seq= .ref l∧s1.heap.get? l=some o∧o.data= .seq (List.toArray vs) n∧fI vs bs∧(bs.map (·.size)).sum≤16777216∧∀r t k,KBw.bInts r=(bs.map KBw.bInts).flatten→Q (.done (.ret (.bytes r t))) {s1 with toks:=k}) E s):
  wpAny (model prog w) A (Builtin.«bytes.join» ⟨[.bytes #[] tk,it],[]⟩) Q E s:=by
 show V (eA (a:=(Value.bytes #[] tk,it)) rfl ?_);dsimp only;erw[aJ (by rfl)];show V (jt hj (fun seq s1 z=>?_) fun U U z=>z);show hide fun H_ o_=>?_;show Jh z ?_;rintro l o vs n bs rfl ho hd hb hz h;show aA hb.get fun hlen w9=>?_;show o_ ?_;clear o_ H_;show V (wpAny_seqItems ho hd ?_);dsimp only;erw[aJ (by rfl)]
 have one:∀v:Value,vs=[v]→∃t,∃b,v= .bytes b t∧bs=[b]:=fun v e=>by
  subst e
  induction bs using List.casesOn with
  |nil=>right
  |cons b r=>
   obtain rfl:r=[]:=by simpa using hlen
   show aA hb ?_;rintro⟨t,rfl⟩ U;show nH t b rfl rfl
 have fin:∀(parts:Array (Array UInt8)) (taken:List (Value×Option Value)),parts.toList=bs→(∀p∈taken,p.2=none)→Builtin.Bytes.tooLong (Array.foldl (fun x1 x2=>x1+x2.size) ((#[]:Array UInt8).size*(parts.size-1)) parts)=false∧∀X:List Value,wpAny (model prog w) A (do
   let result←Builtin.Bytes.Kind.bytes.new (Builtin.Bytes.joined #[] parts.toList)
   holding (result::X) point
   Builtin.Bytes.joinLetGo taken [result]
   ret result) Q E s1:=fun parts taken hp ht=>by
  show⟨?_,fun X=>?_⟩
  ·unfold Builtin.Bytes.tooLong;show bD ?_ (Array.foldl_toList ..);erw[hp,tJ ..,sizeLine_eq];simp;assumption
  ·erw[hp,tH ..];show V (wpAny_mkBytes ?_ (by(erw[wc ..,sizeLine_eq]);simp;assumption));show V (eT (wpAny_point (V (nS ht (aG (h _ _ _ (by erw[tI ..];rfl)))))))
 rcases vs with _|⟨v,_|⟨v2,r⟩⟩
 case cons.nil=>
  show hide fun H_ o_=>?_;show cj (one v rfl) ?_;rintro t b rfl rfl;show o_ ?_;clear o_ H_;show V (eA (a:=Value.type "bytes") rfl ?_);erw[aJ (by rfl)];show V (wpAny_rule (aG ?_));have:=h b t s1.toks (by simp);show this
 all_goals
  show V (tG (fun i st=>st.1.toList=bs.take i∧(∀p∈st.2,p.2=none∧p.1.onHeap=false)) ⟨rfl,fun p hp=>by right⟩ ?_ ?_)
  ·rintro i zq;obtain⟨parts,taken⟩:=zq;rintro hi KX;show aA KX fun h1 h2=>?_;rintro Q' q';have MH:i<bs.length:=hlen▸(show i<(List.toArray _).size from hi);show av (w9 i bs[i] (n4 MH)) fun t et=>?_;show V (wpAny_seqItems ho hd ?_);dsimp only;erw[show(List.toArray _).getD i Value.none= .bytes bs[i] t by(show aD ?_ Array.getD_eq_getD_getElem?;show aD ?_ getElem?_toArray;show aD ?_ et);rfl]
   show aD ?_ (ax (by
    simp only[Bool.or_eq_true,List.any_eq_true,not_or]
    show⟨by decide,fun⟨p,hp,e⟩=>by replace e:=(h2 p hp).2▸e;right⟩))
   show V (eT (eA (take _ _ _) ?_));show V (wpAny_seqItems ho hd ?_);dsimp only;erw[ax (by simp)];show aG (q' _ ⟨?_,fun p hp=>?_⟩)
   ·(erw[Array.toList_push,show parts.toList=_ from h1,take_succ,n4 MH]);rfl
   ·rcases mem_append.mp hp with z|z
    ·show h2 p z
    ·obtain rfl:=mem_singleton.mp z;show⟨rfl,rfl⟩
  ·rintro zq;obtain⟨parts,taken⟩:=zq;rintro KX;show aA KX fun h1 h2=>?_;show aA (fin parts taken (by erw[show parts.toList=_ from h1];show take_of_length_le (by show bD ?_ hlen;show Nat.le_of_eq rfl)) fun p hp=>(h2 p hp).1) ?_;rintro f1 f2;show V (eA (a:=(#[]:Array UInt8)) rfl ?_);erw[ax (by show aD ?_ f1;show Bool.false_ne_true)];show f2 _
theorem aM.J7{t:List Value→Sem Value}{a:LV}(h:∀(C:Cx),bC C→X.At C→∀(ρ:Cells) (s:Shared) (E:VP) (Q:VP) (x y:Value),St B C ρ env σ s.heap→Rep s.heap ρ a x→Rep s.heap ρ b y→
   (∀r σ' v ρ' s',P r σ'→Kept C ρ s ρ' s'→St B C ρ' env σ' s'.heap→Rep s'.heap ρ' r v→Q v s')→wpAny B.M C.A (t [x,y]) Q E s):
  aM B X env σ [a,b] t P:=fun C O hX ρ s E Q vs S qe r q=>by
 show bb r ?_;rintro x dX rfl rx r;show bb r ?_;rintro y dX rfl ry r;have r:_=[]:=r;subst r;show h C O hX ρ s E Q x y S rx ry q
theorem aM.min2(hn:X.hn=true){a b:Int}(h:P (.int (if b<a then b else a)) σ):aM B X env σ [.int a,.int b] (fun vs=>PySem.call (.builtin "min") vs) P:=.J7 fun C O hX ρ s E Q x y S rx ry q=>by
 show av rx ?_;rintro t rfl;show av ry ?_;rintro u rfl;show min_two_ints (hX.hn hn) fun h' tk k=>?_;show q _ _ _ ρ {s with heap:=h',toks:=tk} h (aR k rfl rfl) (S.bh k) ?_
 by_cases z:b<a
 ·(erw[aJ z,aJ z]);show⟨_,rfl⟩
 ·(erw[ax z,ax z]);show⟨_,rfl⟩
theorem aM.max2(hn:X.hn=true){a b:Int}(h:P (.int (if b>a then b else a)) σ):aM B X env σ [.int a,.int b] (fun vs=>PySem.call (.builtin "max") vs) P:=.J7 fun C O hX ρ s E Q x y S rx ry q=>by
 show av rx ?_;rintro t rfl;show av ry ?_;rintro u rfl;show max_two_ints (hX.hn hn) fun h' tk k=>?_;show q _ _ _ ρ {s with heap:=h',toks:=tk} h (aR k rfl rfl) (S.bh k) ?_
 by_cases z:b>a
 ·(erw[aJ z,aJ z]);show⟨_,rfl⟩
 ·(erw[ax z,ax z]);show⟨_,rfl⟩
theorem oH{b c:Array UInt8}(h:KBw.bInts b=KBw.bInts c):b.toList=c.toList:=by
 unfold KBw.bInts at h
 have:∀{l m:List UInt8},l.map (fun c=>(c.toNat:Int))=m.map (fun c=>(c.toNat:Int))→l=m:=by
  intro l
  induction l with
  |nil=>intro m e;induction m using List.casesOn with
   |nil=>rfl
   |cons _ _=>right
  |cons x r ih=>intro m e;induction m using List.casesOn with
   |nil=>right
   |cons y q=>simp only[map_cons,List.cons.injEq]at e;show aA e fun e1 e2=>?_;erw[ih e2];show aD rfl (UInt8.toNat_inj.mp (by ac_rfl:x.toNat=y.toNat))
 show this h
theorem aM.bne{x:List Int}(h:P (.bool (!(decide (x=y)))) σ):aM B X env σ [.bytes x,.bytes y] (bK (compareOp .NotEq)) P:=.two fun C O hX ρ s E Q vx vy S rx ry q=>by
 show cj rx ?_;rintro b t rfl rfl;show cj ry ?_;rintro c u rfl rfl;show W.ne_bytes (q _ _ _ ρ s h (.rr rfl rfl rfl) S ?_);show(?_:_=_)
 congr 1
 by_cases z:b.toList=c.toList
 ·obtain rfl:=Array.toList_inj.mp z;simp
 ·(erw[bne_iff_ne.mpr z,decide_eq_false fun e=>z (oH e)]);rfl
theorem aM.isNotNone{a:LV}(hp:a= .none∨∃i,a= .obj i)(h:P (.bool (match a with| .none=>false|_=>true)) σ):aM B X env σ [a,.none] (bK (compareOp .IsNot)) P:=.two fun C O hX ρ s E Q vx vy S rx ry q=>by
 obtain rfl:=ry
 rcases hp with rfl|⟨i,rfl⟩
 ·obtain rfl:=rx;show wpAny_isNot_self rfl (q _ _ _ ρ s h (.rr rfl rfl rfl) S rfl)
 ·show aa rx ?_;rintro c e rfl;show wpAny_isNot_other rfl (by intro z;right) (q _ _ _ ρ s h (.rr rfl rfl rfl) S rfl)
theorem aM.isNone{a:LV}(hp:a= .none∨∃i,a= .obj i)(h:P (.bool (match a with| .none=>true|_=>false)) σ):aM B X env σ [a,.none] (bK (compareOp .Is)) P:=.two fun C O hX ρ s E Q vx vy S rx ry q=>by
 obtain rfl:=ry
 rcases hp with rfl|⟨i,rfl⟩
 ·obtain rfl:=rx;show wpAny_is_self rfl (q _ _ _ ρ s h (.rr rfl rfl rfl) S rfl)
 ·show aa rx ?_;rintro c e rfl;show wpAny_is_other rfl (by intro z;right) (q _ _ _ ρ s h (.rr rfl rfl rfl) S rfl)
theorem nM.list{PB:Bool→List LO→Prop}{id:Nat}(e:σ[id]? =some (.list l))(hz:l.length≤100000)(h:PB (!l.isEmpty) σ):nM B env σ (.obj id) PB:=fun C O ρ s E Q v S r q=>by
 show cN (S.list r e) ?_;rintro c vs hc rfl c2 pl hr;have len:=hr.length;show wpAny_truthy_list pl.isList (by simp;lia) (q _ _ ρ _ (cast ?_ h) (.rr rfl rfl rfl) S)
 congr 1
 cases l<;>(first|subst vs|cases vs)<;>simp_all
theorem eD.Bt{P:dO}{msg:Option Expr}(h:gv B X env σ test fun b σ1=>b=true∧P .next env σ1):eD B X env σ (.Assert test msg pos) P:=fun C O hX ρ s E Q S qe q=>
 wpAny_Assert_holds (h C O hX ρ s E _ S qe fun b σ1 ρ1 s1 h1 K1 S1=>⟨h1.1,q _ .next _ _ _ _ h1.2 K1 S1 rfl⟩)
theorem eD.pZ{P:dO}(h:aS B X env σ o fun ov σ1=>∃r,fe B env σ1 ov x r∧aS B X env σ1 value fun v σ2=>aM B X env σ2 [r,v] (bK (inplaceOp op)) fun n σ3=>∃σ4,iD B env σ3 ov x n σ4∧P .next env σ4):
  eD B X env σ (.AugAssign (.Attribute o x tpos) op value pos) P:=fun C O hX ρ s E Q S qe q=>by
 show wpAny_AugAssign_AttributeAny (h C O hX ρ s E _ S qe fun ov σ1 u ρ1 s1 h1 K1 S1 R1=>?_);show aa h1 fun r E5 h2=>?_;show E5.run C O ρ1 s1 E _ u S1 R1 fun v0 s2 K2 S2 R2=>?_;show h2 C O hX ρ1 s2 E _ S2 (qe.since (K1.trans K2)) fun v σ3 w ρ3 s3 h3 K3 S3 R3=>?_;have IH:=K3.rep S2 R2;have HL:=(K2.trans K3).rep S1 R1;show h3 C O hX ρ3 s3 E _ [v0,w] S3 (qe.since ((K1.trans K2).trans K3)) (.cons IH (.cons R3 .nil)) fun n σ4 z ρ4 s4 h4 K4 S4 R4=>?_;show aa h4 fun σ5 ue p=>?_;show ue.run C O ρ4 s4 E _ u z S4 (K4.rep S3 HL) R4 fun s5 K5 S5=>q _ .next _ _ _ _ p ((((K1.trans K2).trans K3).trans K4).trans K5) S5 rfl
theorem aM.J8{a b:Int}(h:P (.int (a-b)) σ):aM B X env σ [.int a,.int b] (bK (inplaceOp .Sub)) P:=.two fun C O hX ρ s E Q x y S rx ry q=>by show av rx ?_;rintro t rfl;show av ry ?_;rintro u rfl;show isub_int (q _ _ _ ρ {s with toks:=s.toks+1} h (.rr rfl rfl rfl) S ⟨_,rfl⟩)
theorem bO.static(G:Gd B){C f p:Addr}(h1:readsIn (K B.w.params) C (.type "type")=true)(h2:specialIn (K B.w.params) (.ref C) "__getattribute__"=some (some (.builtin "type.__getattribute__")))(h3:findCls (K B.w.params) (.ref C) (.type "type") name=some (.get (.builtin "staticmethod.__get__") (.ref p) .none (.ref C)))(h4:recIn (K B.w.params) p "staticmethod"=some (.ref f::vs))(h5:i7 (K B.w.params) (.ref f)=true):bO B env σ (.gl (.ref C)) name (.ref f) []:=by show⟨fun C' O ρ s E Q pl x S r q=>?_,jI G h5⟩;obtain rfl:=r;have X:=St.dy G S;show method_cls X h2 ?_;show cls_bind X h1 h3 (wpAny_call (sm_get (s:={s with toks:=s.toks+1}) X h4 (handed_on rfl ?_)));show q [] _ (.rr rfl rfl rfl) S .nil
theorem rO(G:Gd B):bO B env σ (.gl (.ref 880)) (oS "parse_frame_header") (.ref 860) []:=
 .static G (vs:=[.bool false]) (p:=862) (by left) (by left) (by left) (by left) (by left)
theorem yV(G:Gd B):cm B 860 (iu 22 3 (oS "parse_frame_header") (oS "Frame.parse_frame_header") 859 jR .none (some 863)) (aH (ay 22 3)) [oS "header"]:=
 cb G (by left) (by left) (fun vs h=>by(show av (lM h) ?_;rintro a rfl);left) (by nofun) (by nofun) (by nofun) ⟨⟨by left,by left⟩,by left⟩ (fun m=>by left)
theorem yW(G:Gd B):cm B 870 (iu 22 4 (oS "parse_body") (oS "Frame.parse_body") 869 jR .none none) (aH (ay 22 4)) [oS "self",oS "data"]:=
 cb G (by left) (by left) (fun vs h=>by(show fJ (fW h) ?_;rintro a b rfl);left) (by nofun) (by nofun) (by nofun) ⟨⟨by left,by left⟩,by left⟩ (fun m=>by left)
theorem wd(G:Gd B):cm B 877 (iu 22 5 (oS "unpadded") (oS "Frame.unpadded") 876 jR .none none) (aH (ay 22 5)) [oS "self",oS "data"]:=
 cb G (by left) (by left) (fun vs h=>by(show fJ (fW h) ?_;rintro a b rfl);left) (by nofun) (by nofun) (by nofun) ⟨⟨by left,by left⟩,by left⟩ (fun m=>by left)
theorem we(G:Gd B):cm B 901 (iu 23 2 (oS "parse_body") (oS "DataFrame.parse_body") 900 jR .none none) (aH (ay 23 2)) [oS "self",oS "data"]:=
 cb G (by left) (by left) (fun vs h=>by(show fJ (fW h) ?_;rintro a b rfl);left) (by nofun) (by nofun) (by nofun) ⟨⟨by left,by left⟩,by left⟩ (fun m=>by left)
theorem wg(G:Gd B):cm B 933 (iu 24 2 (oS "parse_body") (oS "HeadersFrame.parse_body") 932 jR .none none) (aH (ay 24 2)) [oS "self",oS "data"]:=
 cb G (by left) (by left) (fun vs h=>by(show fJ (fW h) ?_;rintro a b rfl);left) (by nofun) (by nofun) (by nofun) ⟨⟨by left,by left⟩,by left⟩ (fun m=>by left)
theorem wh(G:Gd B):cm B 952 (iu 25 2 (oS "parse_body") (oS "RstStreamFrame.parse_body") 951 jR .none none) (aH (ay 25 2)) [oS "self",oS "data"]:=
 cb G (by left) (by left) (fun vs h=>by(show fJ (fW h) ?_;rintro a b rfl);left) (by nofun) (by nofun) (by nofun) ⟨⟨by left,by left⟩,by left⟩ (fun m=>by left)
theorem wi(G:Gd B):cm B 974 (iu 26 3 (oS "parse_body") (oS "PushPromiseFrame.parse_body") 973 jR .none none) (aH (ay 26 3)) [oS "self",oS "data"]:=
 cb G (by left) (by left) (fun vs h=>by(show fJ (fW h) ?_;rintro a b rfl);left) (by nofun) (by nofun) (by nofun) ⟨⟨by left,by left⟩,by left⟩ (fun m=>by left)
theorem wj(G:Gd B):cm B 993 (iu 27 2 (oS "parse_body") (oS "WindowUpdateFrame.parse_body") 992 jR .none none) (aH (ay 27 2)) [oS "self",oS "data"]:=
 cb G (by left) (by left) (fun vs h=>by(show fJ (fW h) ?_;rintro a b rfl);left) (by nofun) (by nofun) (by nofun) ⟨⟨by left,by left⟩,by left⟩ (fun m=>by left)
theorem Bu(G:Gd B):cm B 1034 (iu 31 1 (oS "add_data") (oS "FrameBuffer.add_data") 1033 kJ .none none) (aH (ay 31 1)) [oS "self",oS "data"]:=
 cb G (by left) (by left) (fun vs h=>by(show fJ (fW h) ?_;rintro a b rfl);left) (by nofun) (by nofun) (by nofun) ⟨⟨by left,by left⟩,by left⟩ (fun m=>by left)
theorem Bv(G:Gd B):cm B 1041 (iu 31 2 (oS "_validate_frame_length") (oS "FrameBuffer._validate_frame_length") 1040 kJ .none none) (aH (ay 31 2)) [oS "self",oS "length"]:=
 cb G (by left) (by left) (fun vs h=>by(show fJ (fW h) ?_;rintro a b rfl);left) (by nofun) (by nofun) (by nofun) ⟨⟨by left,by left⟩,by left⟩ (fun m=>by left)
theorem Bw(G:Gd B):cm B 1048 (iu 31 3 (oS "_update_header_buffer") (oS "FrameBuffer._update_header_buffer") 1047 kJ .none none) (aH (ay 31 3)) [oS "self",oS "f"]:=
 cb G (by left) (by left) (fun vs h=>by(show fJ (fW h) ?_;rintro a b rfl);left) (by nofun) (by nofun) (by nofun) ⟨⟨by left,by left⟩,by left⟩ (fun m=>by left)
theorem yX(G:Gd B):cm B 1055 (iu 31 4 (oS "__iter__") (oS "FrameBuffer.__iter__") 1054 kJ .none none) (aH (ay 31 4)) [oS "self"]:=
 cb G (by left) (by left) (fun vs h=>by(show av (lM h) ?_;rintro a rfl);left) (by nofun) (by nofun) (by nofun) ⟨⟨by left,by left⟩,by left⟩ (fun m=>by left)
theorem yY(G:Gd B):cm B 1062 (iu 31 5 (oS "__next__") (oS "FrameBuffer.__next__") 1061 kJ .none none) (aH (ay 31 5)) [oS "self"]:=
 cb G (by left) (by left) (fun vs h=>by(show av (lM h) ?_;rintro a rfl);left) (by nofun) (by nofun) (by nofun) ⟨⟨by left,by left⟩,by left⟩ (fun m=>by left)
theorem wm(G:Gd B):cm B 1069 (iu 31 6 (oS "_next_frame") (oS "FrameBuffer._next_frame") 1068 kJ .none none) (aH (ay 31 6)) [oS "self"]:=
 cb G (by left) (by left) (fun vs h=>by(show av (lM h) ?_;rintro a rfl);left) (by nofun) (by nofun) (by nofun) ⟨⟨by left,by left⟩,by left⟩ (fun m=>by left)
theorem Bx(G:Gd B):cm B 1134 (fdOf 43 (oS "_law_told") 1133) (aH (aB 43)) [oS "frame"]:=
 kX G (by left) (by left) (fun vs h=>by(show av (lM h) ?_;rintro a rfl);left) (by nofun) (by nofun) (by nofun) (by left) (by left) (by left) (fun m=>by left)
theorem By(G:Gd B):cm B 1141 (fdOf 44 (oS "_law_feed") 1140) (aH (aB 44)) [oS "buffer",oS "piece",oS "told"]:=
 kX G (by left) (by left) (fun vs h=>by(show xx (sP h) ?_;rintro a b c rfl);left) (by nofun) (by nofun) (by nofun) (by left) (by left) (by left) (fun m=>by left)
theorem J9{n:Nat}(hc:aN (K B.w.params) X.sc xs n body=some ir)(he:envOf xs e0=env)(h:XE B X xs ir e0 σ fun f e σ'=>P (lK f) σ'):dY B X env σ body fun f U σ'=>P (lK f) σ':=by show bD ?_ he;show(h.run n body hc).mono fun f e s p=>?_;show aa p fun e' k q=>?_;show q
theorem iD.to(G:Gd B){id:Nat}{c:Addr}{fs:List (Str×LV)}(e:σ[id]? =some (.inst c fs))(hz:fs.length≤100)(hs:setSlot (K B.w.params) c name=true)(h:σ.set id (.inst c (put name r fs))=σ'):
  iD B env σ (.obj id) name r σ':=h▸.own G e hz hs
def yZ(az:Int)(j:Nat)(pl:Int)(d:List Int):List (Str×LV):=[(oS "stream_id",.int az),(oS "flags",.obj j),(oS "pad_length",.int pl),(oS "data",.bytes d)]
def CE(K:Frag)(c:Addr):Bool:=setSlot K c (oS "stream_id")&&setSlot K c (oS "flags")&&setSlot K c (oS "pad_length")&&setSlot K c (oS "data")
theorem aM.frame(G:Gd B){c:Addr}{az:Int}(hm:gO (K B.w.params) c 853=true)(hs:CE (K B.w.params) c=true)(hd:X.d≤300)(h:P (.obj σ.length) (σ++[.inst c (yZ az (σ.length+1) 0 []),.set []])):
  aM B X env σ [.int az] (fun vs=>PySem.call (.ref c) vs) P:=by
 unfold CE at hs;simp only[Bool.and_eq_true]at hs;show aA hs ?_;rintro⟨⟨s1,s2⟩,s3⟩ s4;show .make G (yD G) hm hd rfl (J9 (P:=fun r σ'=>r= .none∧P (.obj σ.length) σ') (xs:=tc) (ir:=yn) (n:=60) (e0:=[oo σ.length,oi az]) (DE _) rfl ?_)
 have nd:tc.Nodup:=by nofun
 show .o ?_;show dW.mk _ (.to G (σ':=σ++[.inst c [(oS "stream_id",.int az)]]) (c:=c) (fs:=[]) (gA) (by decide) s1 (by simp;rfl)) ?_;show af.mk (.D5 ?_);show dW.mk _ (.to G (σ':=σ++[.inst c [(oS "stream_id",.int az),(oS "flags",.obj (σ.length+1))],.set []]) (c:=c) (fs:=[(oS "stream_id",.int az)]) (gB) (Nat.succ_pos _) s2 (by simp;rfl)) ?_;show dW.mk _ (.to G (σ':=σ++[.inst c [(oS "stream_id",.int az),(oS "flags",.obj (σ.length+1)),(oS "pad_length",.int 0)],.set []]) (c:=c) (fs:=[(oS "stream_id",.int az),(oS "flags",.obj (σ.length+1))]) (gA) (by simp) s3 (by simp;rfl)) ?_;show dW.mk _ (.to G (σ':=σ++[.inst c (yZ az (σ.length+1) 0 []),.set []]) (c:=c) (fs:=[(oS "stream_id",.int az),(oS "flags",.obj (σ.length+1)),(oS "pad_length",.int 0)]) (gA) (by simp) s4 (by simp;rfl)) ?_;show(?_:And ..);show⟨rfl,h⟩
theorem rP{it l:Addr}{i:Nat}{k:Nat}{Q:sF}(hi:s.heap.IsListIter it l i)(h:Q () s):wpAny M A (letOwnedTupleGo (.Tuple es k p) (.ref it) v) Q E s:=by
 show bJ hi fun o ho hc hd=>?_;obtain⟨oc,od,oda,osl⟩:=o;subst hc;subst hd
 induction v using Value.casesOn with
 |ref a=>show(?_:wpAny M A (do let o←load it;_) Q E s);show V (wpAny_load ho ?_);dsimp only;erw[ax (by(show aD ?_ (Bool.and_eq_true ..);rw[not_and]);intro z;show absurd z (by decide))];show aG h
 |_=>show aG h
section
variable{P:dO}
theorem St.ground(G:Gd B)(S:St B C ρ env σ h)(n:Nat)(v:Value):Rep h ρ (iZ (K B.w.params) n v) v:=
 mA (fun a o q=>⟨S.base _ _ (G.dy a o q),fun m=>by have:=G.dy a o q;replace this:=(S.out a m).1▸this;right⟩) n v
noncomputable def gV(p:LV×LV):LV:=.tup [p.1,p.2]
theorem rQ(G:Gd B)(hh:C.A.handled=none){it l:Addr}{vs:Array Value}{n:Nat}{items:List (LV×LV)}(hl:(K B.w.params).lookup l=some ⟨.type "list",none,.seq vs n,#[]⟩)(hi:kZ (iZ (K B.w.params) 3) vs.toList=items.map gV):
  Iter B C it (fun i=>(items[i]?).map gV) (fun i h=>h.IsListIter it l i) (fun U U U=>True):=by
 have rl:∀{ρ env σ h},St B C ρ env σ h→bz h ρ (items.map gV) vs.toList:=fun S=>hi▸hW (fun v=>S.ground G 3 v) vs.toList;show⟨fun i h a=>?_,fun i h h' a k=>a.elim fun o q=>⟨o,k o q.1,q.2⟩,fun i v ρ env σ s E Q hv U S nf a q=>?_,fun i ρ env σ s E Q hv U S a q=>?_⟩
 ·show bJ a fun o ho hc hd=>?_;show⟨o,ho,dJ hc hd (by decide),fun es n z=>nomatch hd.symm.trans z⟩
 ·show aa ((rl S).get (i:=i) (x:=v) (by erw[getElem?_map];show hv)) ?_;rintro u hu ru;show bJ (id a) fun o ho hc hd=>?_;show wpAny_pyNext_list_item a ⟨_,S.base _ _ (G.dy _ _ hl),rfl,n,rfl⟩ (Array.getElem?_toList▸hu) fun h' a1 sb=>q u h' s.toks a1 sb (ru.mono (fun b ob U f e=>(sb.2 b fun z=>?_).trans e) (.refl _ _));replace e:=z▸e;replace e:=ho▸e;show dJ hc hd (by decide) (Option.some.inj e▸f)
 ·show wpAny_pyNext_list_end hh a ⟨_,S.base _ _ (G.dy _ _ hl),rfl,n,rfl⟩ ?_ q;have:=(rl S).length;rw[length_map]at this;show Array.getElem?_eq_none (hH (Nat.le_of_eq this) (List.getElem?_eq_none_iff.mp (Option.map_eq_none_iff.mp hv)))
theorem eD.y0(G:Gd B){y:Str}{px py pt:Pos}{k:Nat}{iter:Expr}(hn:X.hn=true)(hx:X.sc.names.lookup x=some .local∨X.sc.names.lookup x=some .cell)(hy:X.sc.names.lookup y=some .local∨X.sc.names.lookup y=some .cell){l:Addr}{vs:Array Value}{n:Nat}{items:List (LV×LV)}(hl:(K B.w.params).lookup l=some ⟨.type "list",none,.seq vs n,#[]⟩)(hi:kZ (iZ (K B.w.params) 3) vs.toList=items.map gV)(J:sG)(h:aS B X env σ iter fun r σ1=>r= .gl (.ref l)∧J 0 env σ1)(hs:∀ae v,foldedSetIterable iter ae v=pure v)(step:∀(i:Nat) p env σ,items[i]? =some p→J i env σ→dY B X.calm (put y p.2 (put x p.1 env)) σ body (me J i P))(fin:∀env σ (i:Nat),items.length≤i→J i env σ→P .next env σ):
  eD B X env σ (.For (.Tuple [.Name x px,.Name y py] k pt) iter body [] pos) P:=fun C O hX ρ s E Q S qe q=>by
 show wpAny_For (h C O hX ρ s E _ S qe fun r σ1 v ρ1 s1 h1 K1 S1 R1=>?_) (hs _);show aA h1 ?_;clear h1;rintro rfl j0;obtain rfl:v= .ref l:=R1;show wpAny_pyIter_list ⟨_,S1.base _ _ (G.dy _ _ hl),rfl,n,rfl⟩ ?_;have kp:=aC s1.heap {cls:=.type "list_iterator",data:=.fields #[.ref l,.int 0 0]};have pr:∀{i:Nat} {v:LV},(items[i]?).map gV=some v→∃p,items[i]? =some p∧v=gV p:=fun e=>(Option.map_eq_some_iff.mp e).elim fun p q=>⟨p,q.1,q.2.symm⟩
 show oe (I:=J) (upd:=fun v e=>match v with| .tup [a,b]=>put y b (put x a e)|_=>e) (N:=items.length) O hX (fun i v e=>(pr e).elim fun p q=>(dU q.1).1) (rQ G (hX.hn hn) hl hi) (fun _ _ _ _ _ _=>trivial) ⟨bo s1.heap,dc S1,S1.ek,S1.eC⟩
  (fun i v ρ env σ s val E Q hv A S rv k=>?_) (fun i v env σ hv hI=>(pr hv).elim fun p q=>by(show aA q ?_;clear q;rintro q rfl);show step i p env σ q hI) (fun i env σ hi hI=>fin env σ i (List.getElem?_eq_none_iff.mp (Option.map_eq_none_iff.mp hi)) hI)
  (s2:={s1 with heap:=_}) ⟨aR kp rfl rfl,S1.bh kp,⟨_,gh _ rfl,rfl,rfl⟩,S1.fresh⟩ j0 fun f fv ae σ' ρ' s' p' K' S' R'=>q _ _ _ _ _ _ p' (K1.trans K') S' R'
 show aa (pr hv) ?_;rintro p _ rfl;show bY rv ?_;clear rv;rintro ta ws rfl _ ht MI;show rP A ?_;show wpAny_assign_Tuple (hX.hn hn) ht ((eW C.env [(x,px),(y,py)]).trans MI.length.symm) (fB _ [(x,px),(y,py)]) fun h3 Og=>?_;have k3:∀b o,s.heap.get? b=some o→h3.get? b=some o:=fun b o e=>Og b o (Nat.ne_of_lt (Heap.lt_size e)) e;have K3:Kept C ρ s ρ {s with heap:=h3}:=aR k3 rfl rfl;show gG O hX [(x,px),(y,py)] [p.1,p.2] ws env {s with heap:=h3} _ (S.bh k3) (K3.gz S MI) (fun z hz=>(mem_cons.mp hz).elim (fun e=>e▸hx) fun hz=>mem_singleton.mp hz▸hy) rfl fun s4 K4 S4=>k s4 (K3.trans K4) S4
end
noncomputable def ah(k:Int):Addr:=if k=0 then 912 else if k=1 then 936 else if k=3 then 955 else if k=5 then 977 else if k=8 then 996 else if k=9 then 1010 else 880
theorem ew{p:Addr→Prop}(h0:p 912)(h1:p 936)(h2:p 955)(h3:p 977)(h4:p 996)(h5:p 1010)(h6:p 880)(k:Int):p (ah k):=by
 unfold ah
 split
 ·show h0
 split
 ·show h1
 split
 ·show h2
 split
 ·show h3
 split
 ·show h4
 split
 ·show h5
 show h6
noncomputable def GP(f:Addr→Bool):Bool:=f 912&&f 936&&f 955&&f 977&&f 996&&f 1010&&f 880
theorem b7{f:Addr→Bool}(h:GP f=true)(k:Int):f (ah k)=true:=by unfold GP at h;simp only[Bool.and_eq_true]at h;show aA h ?_;rintro⟨⟨⟨⟨⟨h0,h1⟩,h2⟩,h3⟩,h4⟩,h5⟩ h6;show ew (p:=fun c=>f c=true) h0 h1 h2 h3 h4 h5 h6 k
noncomputable def mR(c:Addr):Addr:=if c=912 then 894 else if c=936 then 926 else if c=977 then 967 else if c=1010 then 1007 else 846
def fq(c:Addr):List (Int×Str):=if c=912 then[(1,oS "END_STREAM"),(8,oS "PADDED")]else if c=936 then[(1,oS "END_STREAM"),(4,oS "END_HEADERS"),(8,oS "PADDED"),(32,oS "PRIORITY")]
 else if c=977 then[(4,oS "END_HEADERS"),(8,oS "PADDED")]else if c=1010 then[(4,oS "END_HEADERS")]else[]
noncomputable def p9(c:Addr):Array Value:=if c=912 then #[.ref 892,.ref 893]else if c=936 then #[.ref 922,.ref 923,.ref 924,.ref 925]else if c=977 then #[.ref 965,.ref 966]else if c=1010 then #[.ref 1006]else #[]
noncomputable def ef(f:Int)(l:List (Int×Str)):List Str:=l.foldl (fun acc p=>if(Builtin.bitAnd f p.1 !=0)=true then dg acc p.2 else acc) []
theorem qa(f:Int)(l:List (Int×Str))(p:Int×Str):ef f (l++[p])=if(Builtin.bitAnd f p.1 !=0)=true then dg (ef f l) p.2 else ef f l:=by unfold ef;erw[foldl_append];rfl
def aU(k f:Int):List Str:=ef f (fq (ah k))
noncomputable def aK(k s:Int):Bool:=([0,1,2,3,5,9].contains k&&s==0)||([4,6,7].contains k&&s !=0)
def plainKind(k:Int):Bool:=ah k==880
def f9(k az:Int)(j:Nat)(pl:Int)(d:List Int):List (Str×LV):=yZ az j pl d++if plainKind k then[(oS "kind",.int k)]else[]
def strOf(h:List Int):Int:=Builtin.bitAnd (KFB.value (bE h (some 5) (some 9))) 2147483647
def lenOf(h:List Int):Int:=KFB.value (bE h none (some 3))
theorem AN.set{id:Nat}{l:List Str}(e:σ[id]? =some (.set l)):AN B env σ (.obj id) "set":=fun C ρ s v S r=>by show aa r ?_;rintro c hc rfl;show qA (S.iR id _ _ e hc) ?_;rintro U U ⟨o,es,ep,t,ho,hex,U⟩ U;show⟨⟨o,ho,hex.1⟩,fun x q=>by(injection q with z;subst z);show⟨o,ho,hex.2.1⟩⟩
theorem bO.setAdd{id:Nat}{l:List Str}(e:σ[id]? =some (.set l)):bO B env σ (.obj id) (oS "add") (.builtin "set.add") [.obj id]:=.builtin (.set e) F.plainAttrs_set F.slot_set_add F.type_set_add
theorem mS(pr:Params)(k:Int):(K pr).lookup (mR (ah k))=some ⟨.type "list",none,.seq (p9 (ah k)) 0,#[]⟩∧kZ (iZ (K pr) 3) (p9 (ah k)).toList=((fq (ah k)).map fun p=>(LV.int p.1,LV.str p.2)).map gV:=
 ew (p:=fun c=>(K pr).lookup (mR c)=some ⟨.type "list",none,.seq (p9 c) 0,#[]⟩∧kZ (iZ (K pr) 3) (p9 c).toList=((fq c).map fun p=>(LV.int p.1,LV.str p.2)).map gV)
  ⟨by left,by left⟩ ⟨by left,by left⟩ ⟨by left,by left⟩ ⟨by left,by left⟩ ⟨by left,by left⟩ ⟨by left,by left⟩ ⟨by left,by left⟩ k
theorem gb(pr:Params)(k:Int):mF (K pr) (ah k)=true∧jQ (K pr) (ah k) (oS "known_flags") (.ref (mR (ah k)))=true:=
 ⟨b7 (f:=fun c=>mF (K pr) c) (by left) k,b7 (f:=fun c=>jQ (K pr) c (oS "known_flags") (.ref (mR c))) (by left) k⟩
theorem oI(pr:Params)(k:Int):cy (K pr) (ah k) (oS "flags")=true:=b7 (f:=fun c=>cy (K pr) c (oS "flags")) (by left) k
theorem rR(l:List Str)(k:Str):(dg l k).length≤l.length+1:=by unfold dg;split<;>simp
theorem lD(f:Int)(l:List (Int×Str)):(ef f l).length≤l.length:=by
 have:∀(l:List (Int×Str)) (acc:List Str),(l.foldl (fun acc p=>if(Builtin.bitAnd f p.1 !=0)=true then dg acc p.2 else acc) acc).length≤acc.length+l.length:=by
  intro l
  induction l with
  |nil=>intro acc;show Nat.le_refl _
  |cons p r ih=>
   intro acc;erw[foldl_cons,length_cons];have h1:=ih (if(Builtin.bitAnd f p.1 !=0)=true then dg acc p.2 else acc)
   have h2:(if(Builtin.bitAnd f p.1 !=0)=true then dg acc p.2 else acc).length≤acc.length+1:=by
    have:=rR acc p.2
    split<;>(first|assumption|lia)
   omega
 show hH (this l []) (by simp)
def Nr:List IS:=[.ite (.bin .BitAnd (.item (.v9 0) (.li 4)) (.v9 4)) [.expr (.bA (oS "add") (.attr (.v9 3) (oS "flags")) [.v9 5])] []]
theorem Nt(P:Params):aN (K P) (ai (ay 22 3)) mD 60 (ym (cW (ay 22 3) [5]))=some Nr:=by left
theorem wo(G:Gd B)(hd:X.d≤290)(hn:X.hn=true){h:List Int}(hl:h.length=9)(bad:aK (h.getD 3 0) (strOf h)=true→∀m:Str,m.length≤100→X.R ⟨.ref 835,[m],true⟩ env σ)(good:aK (h.getD 3 0) (strOf h)=false→P (.tup [.obj σ.length,.int (lenOf h)]) (σ++[.inst (ah (h.getD 3 0)) (f9 (h.getD 3 0) (strOf h) (σ.length+1) 0 []),.set (aU (h.getD 3 0) (h.getD 4 0))])):
  aM B X env σ [.bytes h] (fun vs=>PySem.call (.ref 860) vs) P:=by
 show .fnX G (yV G) nt rfl (DG _) (e0:=(ob h::di)) rfl ?_
 have nd:mD.Nodup:=by nofun
 have c1:=uj h 5 9 (Int.natCast_nonneg _) (Int.natCast_nonneg _);have c2:=ml h 3 (Int.natCast_nonneg _);obtain⟨k,hk⟩:∃k,h.getD 3 0=k:=⟨_,rfl⟩;obtain⟨az,hs⟩:∃az,strOf h=az:=⟨_,rfl⟩;rw[hk,hs]at bad good;generalize bZ:X.lL env (iu 22 3 (oS "parse_frame_header") (oS "Frame.parse_frame_header") 859 jR .none (some 863))=X';have cR:X'.hn=true:=bZ▸hn
 have du:X'.d≤300:=by show bD ?_ bZ;show(?_:X.d+1≤300);show Nat.lt_of_le_of_lt ‹_› (by decide)
 have Cf:aK k az=true→∀(m:Str) ae,m.length≤100→X'.R ⟨.ref 835,[m],true⟩ ae σ:=fun z m e y=>by show bD ?_ bZ;show bad z m y
 have aZ:X'.sc=ai (ay 22 3):=by show bD ?_ bZ;rfl
 show .of G nd 60 (.join fun e σ'=>e=(ob h::oi k::oi az::nK)∧σ'=σ∧([0,1,2,3,5,9].contains k&&az==0)=false) ?_;show af.mk (.bytes (by omega) (by omega) (by omega) ?_);intro U U;show aY.mk (by omega) ?_;show(?_:aY ..)
 show .mk (by omega) ?_;conv=>whnf
 erw[show h.getD (Int.toNat 3) 0=k from hk,show Builtin.bitAnd (KFB.value (bE h (some 5) (some 9))) 2147483647=az from hs];show⟨?_,?_⟩
 ·show aw.mk (fun _=>?_) (fun _=>?_)<;>show(?_:aw ..)
  ·rename_i i1;show .mk (fun _=>?_) (fun _=>?_)<;>show(?_:XE ..)
   ·rename_i i2;show .o ?_;show af.mk ?_;show .raise G cR (D:=835) (by erw[aZ];left) (by left) rfl (.str ⟨_,rfl,Cf (by unfold aK;erw[i1,i2];rfl) _ _ (by decide)⟩)
   ·rename_i i2;show .o ?_;show(?_:Exists _);show⟨_,⟨rfl,rfl,by(erw[i1,i2]);rfl⟩,rfl,rfl,rfl,trivial⟩
  ·rename_i i1;show .f ?_;show XE.o ?_;show(?_:Exists _);show⟨_,⟨rfl,rfl,by erw[i1];rfl⟩,rfl,rfl,rfl,trivial⟩
 rintro U σ1 zq;show ju zq ?_;clear zq;rintro rfl e0 b1;obtain rfl:σ=σ1:=e0.symm;show .of G nd 60 (.join fun e σ'=>e=(ob h::oi k::oi az::nK)∧σ'=σ∧aK k az=false) ?_
 conv=>whnf
 show⟨?_,?_⟩
 ·show aw.mk (fun _=>?_) (fun _=>?_)<;>show(?_:aw ..)
  ·rename_i i1;show .mk (fun _=>?_) (fun _=>?_)<;>show(?_:XE ..)
   ·rename_i i2;show .o ?_;show af.mk ?_;show .raise G cR (D:=835) (by erw[aZ];left) (by left) rfl (.str ⟨_,rfl,Cf (by unfold aK;erw[i1,i2];simp) _ _ (by decide)⟩)
   ·rename_i i2;show .o ?_;show(?_:Exists _);show⟨_,⟨rfl,rfl,by unfold aK;erw[b1,i1,i2];rfl⟩,rfl,rfl,rfl,trivial⟩
  ·rename_i i1;show .f ?_;show XE.o ?_;show(?_:Exists _);show⟨_,⟨rfl,rfl,by unfold aK;erw[b1,i1];rfl⟩,rfl,rfl,rfl,trivial⟩
 rintro U σ1 zq;show ju zq ?_;clear zq;rintro rfl e0 b2;obtain rfl:σ=σ1:=e0.symm;have good:=good b2;show .of G nd 60 (.join fun e σ'=>e=[ob h,none,none,oo σ.length,none,none]∧σ'=σ++[.inst (ah k) (f9 k az (σ.length+1) 0 []),.set []]) ?_
 conv=>whnf
 show⟨?_,?_⟩
 ·show(?_:aw ..)
  have fin:∀{c:Addr},ah k=c→c≠880→iE (fun e σ'=>e=[ob h,none,none,oo σ.length,none,none]∧σ'=σ++[.inst (ah k) (f9 k az (σ.length+1) 0 []),.set []]) (fun f e σ'=>P (lK f) σ') .next [ob h,oi k,oi az,oo σ.length,none,none] (σ++[.inst c (yZ az (σ.length+1) 0 []),.set []]):=by rintro c rfl hc;show⟨_,⟨rfl,by unfold f9 plainKind;erw[oW hc];simp⟩,rfl,rfl,trivial⟩
  show .mk (fun _=>?_) (fun _=>?_)<;>show(?_:XE ..)
  ·rename_i z;show .o ?_;show af.mk (.frame G (by left) (by left) du ?_);show(?_:Exists _);show fin (by erw[eB z];rfl) (by decide)
  rename_i z0;show .o ?_;show aw.mk (fun _=>?_) (fun _=>?_)<;>show(?_:XE ..)
  ·rename_i z;show .o ?_;show af.mk (.frame G (by left) (by left) du ?_);show(?_:XE ..)
   repeat(show .o ?_;show(?_:Exists _))
   show fin (by erw[eB z];rfl) (by decide)
  rename_i z1;show .o ?_;show aw.mk (fun _=>?_) (fun _=>?_)<;>show(?_:XE ..)
  ·rename_i z;show .o ?_;show af.mk (.frame G (by left) (by left) du ?_);show(?_:XE ..)
   repeat(first|(show .o ?_;show(?_:XE ..))|(show .o ?_;show(?_:Exists _))|fail)
   show fin (by erw[eB z];rfl) (by decide)
  rename_i z2;show .o ?_;show aw.mk (fun _=>?_) (fun _=>?_)<;>show(?_:XE ..)
  ·rename_i z;show .o ?_;show af.mk (.frame G (by left) (by left) du ?_);show(?_:XE ..)
   repeat(first|(show .o ?_;show(?_:XE ..))|(show .o ?_;show(?_:Exists _))|fail)
   show fin (by erw[eB z];rfl) (by decide)
  rename_i z3;show .o ?_;show aw.mk (fun _=>?_) (fun _=>?_)<;>show(?_:XE ..)
  ·rename_i z;show .o ?_;show af.mk (.frame G (by left) (by left) du ?_);show(?_:XE ..)
   repeat(first|(show .o ?_;show(?_:XE ..))|(show .o ?_;show(?_:Exists _))|fail)
   show fin (by erw[eB z];rfl) (by decide)
  rename_i z4;show .o ?_;show aw.mk (fun _=>?_) (fun _=>?_)<;>show(?_:XE ..)
  ·rename_i z;show .o ?_;show af.mk (.frame G (by left) (by left) du ?_);show(?_:XE ..)
   repeat(first|(show .o ?_;show(?_:XE ..))|(show .o ?_;show(?_:Exists _))|fail)
   show fin (by erw[eB z];rfl) (by decide)
  rename_i z5
  have hc:ah k=880:=by simp only[beq_eq_false_iff_ne]at z0 z1 z2 z3 z4 z5;unfold ah;erw[ax z0,ax z1,ax z2,ax z3,ax z4];show aD rfl (ax z5)
  show .o ?_;show af.mk (.frame G (by left) (by left) du ?_);show dW.mk _ (.to G (σ':=σ++[.inst 880 (yZ az (σ.length+1) 0 []++[(oS "kind",.int k)]),.set []]) (c:=880) (fs:=yZ az (σ.length+1) 0 []) (gA) (by show(?_:4≤100);decide) (by left) (by simp[yZ];rfl)) ?_;show(?_:XE ..)
  repeat(first|(show .o ?_;show(?_:XE ..))|(show .o ?_;show(?_:Exists _))|fail)
  show⟨_,⟨rfl,by unfold f9 plainKind;erw[hc];rfl⟩,rfl,rfl,trivial⟩
 rintro U U zq;show aA zq ?_;clear zq;rintro rfl rfl;show .o ?_;show af.mk ?_
 have w9:∀(x:LO),(σ++[.inst (ah k) (f9 k az (σ.length+1) 0 []),x])[σ.length]? =some (.inst (ah k) (f9 k az (σ.length+1) 0 [])):=fun x=>by show gA
 have CW:∀(x:LO),(σ++[.inst (ah k) (f9 k az (σ.length+1) 0 []),x])[σ.length+1]? =some x:=fun x=>by show gC
 show .y0 G cR (.inl (by erw[aZ];left)) (.inl (by erw[aZ];left)) (mS _ k).1 (mS _ k).2 (fun i e σ'=>Sub (envOf mD [ob h,none,none,oo σ.length,none,none]) e∧σ'=σ++[.inst (ah k) (f9 k az (σ.length+1) 0 []),.set (ef (h.getD 4 0) ((fq (ah k)).take i))]) ?_ (fun U U=>rfl) ?_ ?_
 ·show .mB rfl (.var (lv:=.obj σ.length) rfl ⟨.gl (.ref (mR (ah k))),.cls G (w9 _) (by unfold f9;cases plainKind k<;>rfl) (gb _ k).1 (gb _ k).2 fun U U U U=>rfl,rfl,Sub.refl _,rfl⟩)
 ·rintro i p e σ' hp zq;show aA zq ?_;clear zq;rintro eR rfl;replace hp:=getElem?_map▸hp;show aa (Option.map_eq_some_iff.mp hp) ?_;rintro⟨b,nm⟩ hq rfl
  have HM:(fq (ah k)).take (i+1)=(fq (ah k)).take i++[(b,nm)]:=by(erw[take_add_one,hq]);rfl
  have hz:(ef (h.getD 4 0) ((fq (ah k)).take i)).length≤100:=hH (lD _ _) (hH (length_take_le' _ _) (ew (p:=fun c=>(fq c).length≤100) (by decide) (by decide) (by decide) (by decide) (by decide) (by decide) (by decide) k))
  have CV:Sub (envOf mD [ob h,none,none,oo σ.length,oi b,some (.str nm)]) (put (oS "name") (.str nm) (put (oS "bit") (.int b) e)):=by
   show xP.sub ⟨?_,?_,?_,?_,trivial⟩<;>simp only[aE]
   ·show eR _ _ rfl
   ·show eR _ _ rfl
   ·rfl
   ·rfl
  show .weak CV (.mono (XE.run (P:=fun f e σ2=>f= .next∧WK [ob h,none,none,oo σ.length,none,none] e∧σ2=σ++[.inst (ah k) (f9 k az (σ.length+1) 0 []),.set (ef (h.getD 4 0) ((fq (ah k)).take (i+1)))]) ?_ 60 _ (by show(?_:aN _ X'.sc _ _ _=_);erw[aZ];show Nt _)) ?_)
  ·show .o ?_;show af.mk (.bytes (by omega) (by omega) (by omega) ?_);intro U U;show(?_:aw ..);erw[HM,qa ..];show .mk (fun _=>?_) (fun _=>?_)<;>show(?_:XE ..)
   ·rename_i z;have z':(Builtin.bitAnd (h.getD 4 0) b !=0)=true:=z;erw[aJ z'];show .o ?_;show aO.mk _ (.own G (w9 _) (r:=.obj (σ.length+1)) (by unfold f9;cases plainKind k<;>rfl) rfl (gb _ k).1 (oI _ k)) ?_;show MethW.mk _ _ (.setAdd (CW _)) ?_;show af.mk (.setAdd (CW _) hz ?_);show(?_:XE ..)
    repeat(show .o ?_;show(?_:And ..))
    show⟨rfl,⟨rfl,rfl,trivial⟩,by simp⟩
   ·rename_i z
    have z':¬ (Builtin.bitAnd (h.getD 4 0) b !=0)=true:=by erw[show(Builtin.bitAnd (h.getD 4 0) b !=0)=false from z];decide
    erw[ax z']
    repeat(first|(show .o ?_;show(?_:XE ..))|(show .o ?_;show(?_:And ..))|fail)
    show⟨rfl,⟨rfl,rfl,trivial⟩,rfl⟩
  ·rintro f e' s2 zq;show iP zq ?_;clear zq;rintro e2 KY rfl wk rfl;show⟨fun z w q=>KY z w (wk.sub nd z w q),rfl⟩
 ·rintro e σ' i hi zq;show aA zq ?_;clear zq;rintro eR rfl;rw[length_map]at hi;erw[take_of_length_le hi];show cM _ eR ?_;show(?_:XE ..)
  repeat(first|(show .o ?_;show(?_:aY ..))|(show .mk (by omega) ?_;show(?_:aY ..))|(show .mk (by omega) ?_;conv=>whnf)|fail)
  show good
abbrev cJ:Str:=oS "PADDED"
abbrev Bz:Str:=oS "PRIORITY"
abbrev bw:Str:=oS "END_HEADERS"
def Ek(K:Frag)(c:Addr):Bool:=mF K c&&cy K c (oS "flags")&&cy K c (oS "pad_length")&&setSlot K c (oS "pad_length")
theorem tK(G:Gd B)(hd:X.d≤280)(hn:X.hn=true){id j:Nat}{c:Addr}{fs:List (Str×LV)}{fl:List Str}{b:List Int}(e:σ[id]? =some (.inst c fs))(ej:σ[j]? =some (.set fl))(hf:fs.lookup (oS "flags")=oo j)(hz:fs.length≤50)(hc:Ek (K B.w.params) c=true)(hb:b.length≤16777216)(Oh:fl.contains cJ=false→P (.bytes b) σ)(Oi:fl.contains cJ=true→(b.length:Int)=0→∀m:Str,m.length≤100→X.R ⟨.ref 822,[m],true⟩ env σ)(ref:fl.contains cJ=true→(b.length:Int)≠0→b.getD 0 0≥(b.length:Int)→∀m:Str,m.length≤100→X.R ⟨.ref 835,[m],true⟩ env (σ.set id (.inst c (put (oS "pad_length") (.int (b.getD 0 0)) fs))))(ok:fl.contains cJ=true→(b.length:Int)≠0→¬ b.getD 0 0≥(b.length:Int)→P (.bytes (bE b (some 1) (some ((b.length:Int)-b.getD 0 0)))) (σ.set id (.inst c (put (oS "pad_length") (.int (b.getD 0 0)) fs)))):
  aM B X env σ [.obj id,.bytes b] (fun vs=>PySem.call (.ref 877) vs) P:=by
 unfold Ek at hc;simp only[Bool.and_eq_true]at hc;show aA hc ?_;rintro⟨⟨k1,k2⟩,k3⟩ k4;show .fnX G (wd G) nt rfl (DK _) (e0:=[oo id,ob b]) rfl ?_
 have nd:yp.Nodup:=by nofun
 generalize bZ:X.lL env (iu 22 5 (oS "unpadded") (oS "Frame.unpadded") 876 jR .none none)=X';have cR:X'.hn=true:=bZ▸hn
 have hR:∀x e s,X.R x env s→X'.R x e s:=fun x e s r=>by show bD ?_ bZ;show r
 have aZ:X'.sc=ai (ay 22 5):=by show bD ?_ bZ;rfl
 clear bZ;have e1:(σ.set id (.inst c (put (oS "pad_length") (.int (b.getD 0 0)) fs)))[id]? =some (.inst c (put (oS "pad_length") (.int (b.getD 0 0)) fs)):=getElem?_set_self (dU e).1
 have hp:(put (oS "pad_length") (.int (b.getD 0 0)) fs).lookup (oS "pad_length")=oi (b.getD 0 0):=by(erw[aE ..];show aD rfl (aJ (beq_self_eq_true _)))
 show .o ?_;show aO.mk _ (.own G e hf rfl k1 k2) ?_;show af.mk (.rj ej ?_);show aw.mk (fun _=>?_) (fun _=>?_)<;>show(?_:XE ..)
 ·rename_i z
  show .o ?_;conv=>whnf
  show Oh (by simpa using z)
 rename_i z
 have z:fl.contains cJ=true:=by simpa using z
 show .o ?_;show XE.o ?_;show af.mk (.aX (by omega) ?_);show aw.mk (fun _=>?_) (fun _=>?_)<;>show(?_:XE ..)
 ·rename_i z1;show .o ?_;show af.mk ?_;show .raise G cR (D:=822) (by erw[aZ];left) (by left) rfl (.str ⟨_,rfl,hR _ _ _ (Oi z (eB z1) _ (by decide))⟩)
 rename_i z1
 have z1:(b.length:Int)≠0:=by simpa using z1
 repeat(first|(show .o ?_;show(?_:af _))|(show .o ?_;show(?_:XE ..))|(show .mk (.bytes (by omega) (by omega) (by omega) ?_);intro U U;show(?_:dW ..))|fail)
 show⟨_,.own G e nt k4,?_⟩;show aO.mk _ (.own G e1 hp rfl k1 k3) ?_;show(?_:af _)
 repeat(first|((with_reducible show .mk (fun _=>?_) (fun _=>?_))<;>show(?_:XE ..))|(show .o ?_;show(?_:af _))|(show .mk (.aX (by omega) ?_);show(?_:aw ..))|fail)
 ·rename_i g;show⟨?_⟩;show .raise G cR (D:=835) (by erw[aZ];left) (by left) rfl (.str ⟨_,rfl,hR _ _ _ (ref z z1 (js g) _ (by decide))⟩)
 ·rename_i g
  repeat(first|(show .o ?_;show(?_:af _))|(show .o ?_;show(?_:XE ..))|(show .mk (.aX (by omega) ?_);show(?_:aO ..))|fail)
  show⟨_,.own G e1 hp rfl k1 k3,?_⟩;show(?_:aY ..)
  repeat(show .mk ‹_› ?_;conv=>whnf)
  show ok z z1 (of_decide_eq_false g)
noncomputable def cX(k f st:Int)(b:List Int):LV:=.tup [.int k,.int f,.int st,.bytes b]
noncomputable def octets(k f st:Int)(b:List Int):List Int:=(((KTBy.little 3 b.length).reverse++[k,f])++(KTBy.little 4 st).reverse)++b
theorem rS(G:Gd B)(hX:X.d≤300)(hn:X.hn=true){k f st:Int}{b:List Int}(hk:0≤k∧k<256)(hf:0≤f∧f<256)(hs:0≤st∧st<4294967296)(hb:b.length<16000000)(h:P (.bytes (octets k f st b)) (σ++[.list [.int k,.int f]])):aM B X env σ [cX k f st b] (fun vs=>PySem.call (.ref 1096) vs) P:=by
 show .fnX G (vJ G) hX rfl (JP _) (e0:=(some (cX k f st b)::sJ)) rfl ?_
 have nd:GB.Nodup:=by nofun
 show .o ?_;show aY.mk ‹_› ?_;show af.mk (.aX (by omega) ?_);show MethW.mk _ _ bO.toBytes ?_;show af.mk (.toBytes (k:=3) (B':=16777216) (by decide) (by decide) (by lia) (by lia) ?_);show af.mk (.dP ‹_› ?_);show aY.mk (by intro n hn;simp at hn;omega) ?_;show aY.mk (by simp[KTBy.little_length]) ?_;show MethW.mk _ _ bO.toBytes ?_;show af.mk (.toBytes (k:=4) (B':=4294967296) (by decide) (by decide) (by lia) (by lia) ?_);show aY.mk (by simp[KTBy.little_length]) ?_;show aY.mk (by simp[KTBy.little_length];lia) ?_;show h
theorem wq(G:Gd B):cm B 1103 (fdOf 38 (oS "_law_padded") 1102) (aH (aB 38)) [oS "part",oS "flags",oS "body"]:=
 kX G (by left) (by left) (fun vs h=>by(show xx (sP h) ?_;rintro a b c rfl);left) (by nofun) (by nofun) (by nofun) (by left) (by left) (by left) (fun m=>by left)
theorem gW(G:Gd B)(hX:X.d≤300)(hn:X.hn=true){p f:Int}{b:List Int}(hb:b.length≤50)(jr:∀x∈b,0≤x∧x<256)(h:∀f' b' σ',(∃ex,σ'=σ++ex)→(f'=f∨f'=f+8)→b'.length≤b.length+10→(∀x∈b',0≤x∧x<256)→P (.tup [.int f',.bytes b']) σ'):aM B X env σ [.int p,.int f,.bytes b] (fun vs=>PySem.call (.ref 1103) vs) P:=by
 show .fnX G (wq G) hX rfl (JR _) (e0:=[oi p,oi f,ob b,none,none]) rfl ?_
 have nd:GC.Nodup:=by nofun
 have m1:=fm (x:=p.fdiv 15) (k:=2) (by decide);have m2:=fm (x:=p.fdiv 15) (k:=4) (by decide)
 repeat' (first|((with_reducible show .mk (fun _=>?_) (fun _=>?_))<;>show(?_:XE ..))|((with_reducible show .mk (fun _=>?_) (fun _=>?_))<;>(first|show(?_:af _)|conv=>whnf))|(show .o ?_;show(?_:af _))|(show .o ?_;show(?_:aw ..))|(show .o ?_;show(?_:aY ..))|(show .o ?_;show(?_:XE ..))|(show .o ?_;conv=>whnf)|(show .mk (.aX (by omega) ?_);show(?_:af _))|(show .mk (.aX (by omega) ?_);show(?_:aY ..))|(show .mk (by omega) ?_;show(?_:af _))|(show .mk (by omega) ?_;show(?_:aw ..))|(show .mk (by omega) ?_;show(?_:aY ..))|fail)
 ·show h f b σ ⟨[],by simp⟩ (.inl rfl) (Nat.le_add_right _ _) jr
 ·show .mk (.dP ‹_› ?_);show aY.mk (by intro n hn;simp at hn;omega) ?_;show(?_:aY ..)
  show .mk (by simp;omega) ?_;conv=>whnf
  show h _ _ _ ⟨_,rfl⟩ (.inr rfl) (by simp) fun x m=>?_;simp at m
  rcases m with rfl|m
  ·omega
  ·show jr x m
 ·show h _ _ σ ⟨[],by simp⟩ (.inr rfl) (Nat.zero_le _) fun x m=>by simp at m
 ·show .mk (.dP ‹_› ?_);show aY.mk (by intro n hn;simp at hn;omega) ?_;show(?_:aY ..)
  show .mk (by simp;omega) ?_;conv=>whnf
  show h _ _ _ ⟨_,rfl⟩ (.inr rfl) (by simp) fun x m=>?_;simp at m
  rcases m with rfl|m
  ·lia
  ·show jr x m
 ·show .mk (.dP ‹_› ?_);show aY.mk (by intro n hn;simp at hn;omega) ?_;show(?_:aY ..)
  repeat(first|(show .mk (by omega) ?_;show(?_:af _))|(show .mk (by simp;omega) ?_;show(?_:aY ..))|fail)
  show⟨.zeros (by omega) (by omega) ?_⟩;show aY.mk (by simp;omega) ?_;show h _ _ _ ⟨_,rfl⟩ (.inr rfl) (by simp;omega) fun x m=>?_;simp at m
  rcases m with rfl|m|m
  ·omega
  ·show jr x m
  ·omega
theorem BA(G:Gd B):cm B 1110 (fdOf 39 (oS "_law_many") 1109) (aH (aB 39)) [oS "count",oS "stream"]:=
 kX G (by left) (by left) (fun vs h=>by(show fJ (fW h) ?_;rintro a b rfl);left) (by nofun) (by nofun) (by nofun) (by left) (by left) (by left) (fun m=>by left)
theorem qb{n:Nat}:Builtin.Range.rangeSize 0 n 1=n:=by unfold Builtin.Range.rangeSize;simp;lia
theorem uO{n:Nat}(h:n≤100000):Builtin.Range.small 0 n 1=true:=by unfold Builtin.Range.small;erw[qb];simp[Builtin.Range.rangeFitsLong];lia
noncomputable def tL(n:Nat)(st:Int)(i:Nat):LV:=cX 9 (if(i:Int)=n-1 then 4 else 0) st [(i:Int)]
noncomputable def dR(n:Nat)(st:Int)(k:Nat):List LV:=cX 1 0 st [104]::(range k).map (tL n st)
theorem tM(n st k):dR n st (k+1)=dR n st k++[tL n st k]:=by simp[dR,range_succ]
theorem wt(G:Gd B)(hX:X.d≤300)(hn:X.hn=true){n:Nat}{st:Int}(hz:n≤200)(h:∀ex,P (.obj σ.length) (σ++[.list (dR n st n)]++ex)):aM B X env σ [.int n,.int st] (fun vs=>PySem.call (.ref 1110) vs) P:=by
 show .fnX G (BA G) hX rfl (JT _) (e0:=[oi n,oi st,none,none]) rfl ?_
 have nd:GD.Nodup:=by nofun
 show .o ?_;show af.mk (.xH ?_);show(?_:DA ..);show⟨hn,uO nt,fun i e σ'=>e=[oi n,oi st,oo σ.length,none]∧i≤n∧∃ex,σ'=σ++[.list (dR n st i)]++ex,⟨_,⟨rfl,by show Nat.zero_le _,[],by simp[dR,cX]⟩,⟨rfl,rfl,rfl,trivial⟩⟩,?_,?_⟩
 ·rintro i e0 σ1 hi zq;show aA zq ?_;rintro rfl hZ;show aA hZ fun IA hZ=>?_;show av hZ ?_;rintro ex rfl;replace hi:=qb▸hi;erw[show(0:Int)+(i:Int)*1=(i:Int) by lia]
  have hl:(σ++[LO.list (dR n st i)]++ex)[σ.length]? =some (.list (dR n st i)):=by show gB
  have hz:(dR n st i).length≤1000:=by simp[dR];ac_rfl
  have Oj:=tM n st i;generalize dR n st i=L at*;show XE.o ?_;show MethW.mk _ _ (bO.append ‹_›) ?_;show aw.mk (fun _=>?_) (fun _=>?_)<;>show(?_:af _)
  all_goals(
   rename_i c;show .mk (.dP ‹_› ?_);show aY.mk (by intro n hn;simp at hn;omega) ?_;show af.mk (.append (l:=L) (Nl) nt ?_);show(?_:Exists _);show cM _ ⟨rfl,by show Int.ofNat_lt.mp ‹_›,ex++[.list [.int i]],?_⟩ ⟨rfl,rfl,rfl,trivial⟩;simp at c;erw[Oj]
   simp[tL,cX,c])
 ·rintro e0 σ1 i hi zq;show aA zq ?_;rintro rfl hZ;show aA hZ fun IA hZ=>?_;show av hZ ?_;rintro ex rfl;replace hi:=qb▸hi
  obtain rfl:i=n:=by ac_rfl
  show .o ?_;conv=>whnf
  show h ex
set_option tactic.hygienic true
theorem y5(G:Gd B):cm B 1084 (fdOf 35 (oS "_law_known") 1083) (aH (aB 35)) []:=
 kX G (by left) (by left) (fun vs h=>by obtain rfl:=len0 h;left) (by nofun) (by nofun) (by nofun) (by left) (by left) (by left) (fun m=>by left)
noncomputable def mT:List (Int×LV):=[(0,.int 9),(1,.int 45),(5,.int 12),(9,.int 4)]
theorem mU(G:Gd B)(hX:X.d≤300)(h:P (.gw mT) σ):aM B X env σ [] (fun vs=>PySem.call (.ref 1084) vs) P:=by
 show .fnX G (y5 G) hX rfl (JN _) (e0:=[]) rfl ?_
 have nd:GA.Nodup:=by nofun
 show .o ?_;show af.mk ?_
 conv=>arg 5;whnf
 with_reducible show Rc.dict G.toOk [(0,9),(1,45),(5,12),(9,4)] (by decide) (by decide) (by decide) (by left) (by intro U;left) ?_
 show h
theorem BB(G:Gd B):cm B 1122 (fdOf 41 (oS "_law_body") 1121) (aH (aB 41)) [oS "row"]:=
 kX G (by left) (by left) (fun vs h=>by(show av (lM h) ?_;rintro a rfl);left) (by nofun) (by nofun) (by nofun) (by left) (by left) (by left) (fun m=>by left)
structure Told where
 fault:Str
 data:List Int
 more:Int
noncomputable def Told.lv(t:Told):LV:=.tup [.str t.fault,.bytes t.data,.int t.more]
def dS:Told:=⟨oS "missing",[],0⟩
def gX:Told:=⟨oS "refused",[],0⟩
def nT(b:List Int)(n:Int):Told:=⟨oS "",b,n⟩
noncomputable def e9(k f:Int):Bool:=[0,1,5].contains k&&((f.fdiv 8).fmod 2==1)
noncomputable def d7(k f:Int):Bool:=(k==1)&&((f.fdiv 32).fmod 2==1)
def bc(k:Int)(b:List Int):Told:=
 if(k==3 ||k==8)=true then
  if(b.length:Int)≠4 then dS
  else if((k==8)&&((KFB.value b).fmod 2147483648==0))=true then gX
  else nT [] (if k==3 then KFB.value b else(KFB.value b).fmod 2147483648)
 else if k=5 then
  if(b.length:Int)<4 then dS
  else if(((KFB.value (bE b none (some 4))).fmod 2147483648==0)||(((KFB.value (bE b none (some 4))).fmod 2147483648).fmod 2==1))=true then gX
  else nT (bE b (some 4) none) ((KFB.value (bE b none (some 4))).fmod 2147483648)
 else nT b 0
def bp(k f:Int)(b:List Int):Told:=
 if d7 k f then(if(b.length:Int)<5 then dS else bc k (bE b (some 5) none))else bc k b
def bodyOf(k f:Int)(b:List Int):Told:=
 if e9 k f then
  if(b.length:Int)=0 then dS
  else if b.getD 0 0≥(b.length:Int)then gX
  else bp k f (bE b (some 1) (some ((b.length:Int)-b.getD 0 0)))
 else bp k f b
theorem wu(G:Gd B)(hX:X.d≤300)(hn:X.hn=true){k f st:Int}{b:List Int}(hb:b.length≤1000)(h:P (bodyOf k f b).lv σ):aM B X env σ [cX k f st b] (fun vs=>PySem.call (.ref 1122) vs) P:=by
 show .fnX G (BB G) hX rfl (JX _) (e0:=[some (cX k f st b),none,none,none,none,none,none]) rfl ?_
 have nd:GF.Nodup:=by nofun
 have fin:∀{z:Told},bodyOf k f b=z→P z.lv σ:=fun e=>e▸h;show .of G nd 60 (.val (.bool (e9 k f))) ?_;show(?_:aY ..)
 show .mk ‹_› ?_;conv=>whnf
 show⟨?_,?_⟩
 ·show(?_:aw ..)
  repeat' (first|((with_reducible show .mk (fun _=>?_) (fun _=>?_))<;>(first|show(?_:aY ..)|show(?_:And ..)))|(show .mk (by omega) ?_;show(?_:aY ..))|(show .mk (by omega) ?_;show(?_:And ..))|fail)
  ·rename_i c;show⟨by unfold e9;erw[c];rfl,rfl⟩
  ·rename_i c;show⟨by unfold e9;erw[c];rfl,rfl⟩
 show(?_:XE ..);show .of G nd 60 (.join fun e σ'=>∃b',e=[none,some (.int k),some (.int f),none,some (.bytes b'),none,none]∧σ'=σ∧b'.length≤1000∧bodyOf k f b=bp k f b') ?_
 conv=>whnf
 show⟨?_,?_⟩
 ·show(?_:aw ..);show .mk (fun _=>?_) (fun _=>?_)<;>show(?_:XE ..)
  ·rename_i c
   repeat' (first|((with_reducible show .mk (fun _=>?_) (fun _=>?_))<;>show(?_:XE ..))|(show .o ?_;show(?_:af _))|(show .o ?_;show(?_:XE ..))|(show .o ?_;conv=>whnf)|(show .mk (.aX (by omega) ?_);show(?_:aw ..))|fail)
   ·rename_i z;show fin (by unfold bodyOf;rw[c,aJ rfl,aJ (by simpa using z)];try rfl)
   ·rename_i z
    have z':¬ (b.length:Int)=0:=by simpa using z
    repeat' (first|((with_reducible show .mk (fun _=>?_) (fun _=>?_))<;>show(?_:XE ..))|(show .o ?_;show(?_:af _))|(show .o ?_;show(?_:XE ..))|(show .o ?_;conv=>whnf)|(show .mk (.aX (by omega) ?_);show(?_:af _))|(show .mk (.aX (by omega) ?_);show(?_:aw ..))|(show .mk (by omega) ?_;show(?_:Exists _))|(show .mk (.bytes (by omega) (by omega) (by omega) ?_);intro _ _;show(?_:af _))|(show .mk (.bytes (by omega) (by omega) (by omega) ?_);intro _ _;show(?_:aY ..))|fail)
    ·rename_i g;show fin (by unfold bodyOf;rw[c,aJ rfl,ax z',aJ (by simpa using g)];try rfl)
    ·rename_i g _ _;show⟨_,⟨_,rfl,rfl,hH (cB _ _ _) hb,by unfold bodyOf;erw[c,aJ rfl,ax z',ax (by simpa using g)];rfl⟩,rfl,rfl,rfl,trivial⟩
  ·rename_i c;show .o ?_;show(?_:Exists _);show⟨_,⟨b,rfl,rfl,hb,by unfold bodyOf;erw[c];rfl⟩,rfl,rfl,rfl,trivial⟩
 ·rintro e σ' zq;show iP zq ?_;clear zq;rintro b' rfl rfl hb' As;rw[As]at fin;clear As hb h;show .of G nd 60 (.join fun e σ2=>∃b2,e=[none,some (.int k),some (.int f),none,some (.bytes b2),none,none]∧σ2=σ'∧b2.length≤1000∧bp k f b'=bc k b2) ?_
  conv=>whnf
  show⟨?_,?_⟩
  ·show(?_:aw ..)
   repeat' (first|((with_reducible show .f ?_);show(?_:XE ..))|((with_reducible show .mk (fun _=>?_) (fun _=>?_))<;>(first|show(?_:aw ..)|show(?_:aY ..)))|((with_reducible show .mk (fun _=>?_) (fun _=>?_))<;>show(?_:XE ..))|(show .o ?_;show(?_:af _))|(show .o ?_;show(?_:aY ..))|(show .o ?_;show(?_:XE ..))|(show .o ?_;show(?_:Exists _))|(show .o ?_;conv=>whnf)|(show .mk (.aX (by omega) ?_);show(?_:aw ..))|(show .mk (by omega) ?_;show(?_:aw ..))|(show .mk (by omega) ?_;show(?_:aY ..))|(show .mk (by omega) ?_;show(?_:Exists _))|fail)
   ·rename_i c1 c2 z
    have hp:d7 k f=true:=by unfold d7;erw[c1,c2];rfl
    show fin (by unfold bp;rw[hp,aJ rfl,aJ (by simpa using z)];try rfl)
   ·rename_i c1 c2 z
    have hp:d7 k f=true:=by unfold d7;erw[c1,c2];rfl
    show⟨_,⟨_,rfl,rfl,hH (cB _ _ _) hb',by unfold bp;(erw[hp,aJ rfl,ax (by simpa using z)];with_reducible rfl)⟩,rfl,rfl,rfl,trivial⟩
   ·rename_i c1 c2
    have hp:d7 k f=false:=by unfold d7;erw[c1,c2];rfl
    show⟨_,⟨_,rfl,rfl,hb',by unfold bp;erw[hp];rfl⟩,rfl,rfl,rfl,trivial⟩
   ·rename_i c1
    have hp:d7 k f=false:=by unfold d7;erw[c1];rfl
    show⟨_,⟨_,rfl,rfl,hb',by unfold bp;erw[hp];rfl⟩,rfl,rfl,rfl,trivial⟩
  ·rintro e σ2 zq;show iP zq ?_;clear zq;rintro b2 rfl rfl jr As;rw[As]at fin;clear As hb';have h4:(bE b2 none (some 4)).length≤8:=hH Js (by decide);have E6:(2:Int) ^ Int.toNat 31=2147483648:=rfl
   repeat' (first|((with_reducible show .t ?_);show(?_:XE ..))|((with_reducible show .mk (fun _=>?_) (fun _=>?_))<;>show(?_:aw ..))|((with_reducible show .mk (fun _=>?_) (fun _=>?_))<;>(first|show(?_:aw ..)|show(?_:aY ..)))|((with_reducible show .mk (fun _=>?_) (fun _=>?_))<;>show(?_:XE ..))|(show .o ?_;show(?_:af _))|(show .o ?_;show(?_:aw ..))|(show .o ?_;show(?_:aY ..))|(show .o ?_;show(?_:XE ..))|(show .o ?_;conv=>whnf)|(show .mk (.aX (by omega) ?_);show(?_:aw ..))|(show .mk ‹_› ?_;show(?_:aY ..))|(show .mk (by omega) ?_;show(?_:aw ..))|(show .mk (by omega) ?_;show(?_:aY ..))|(show .mk (by omega) ?_;conv=>whnf)|fail)
   ·rename_i c1 c2;show fin (by unfold bc;rw[c1,aJ (by rfl),aJ (by simpa using c2)];try rfl)
   ·rename_i c1 c2
    have vc:(b2.length:Int)=4:=by simpa using c2
    show .mk (by omega) ?_;show(?_:aw ..)
    have k3:k=3:=by simpa using c1
    subst k3
    have hz:bc 3 b2=nT [] (KFB.value b2):=by unfold bc;erw[aJ (by decide),ax (by simp[vc])];rfl
    repeat' (first|((with_reducible show .f ?_);show(?_:XE ..))|((with_reducible show .mk (fun _=>?_) (fun _=>?_))<;>(first|show(?_:aw ..)|show(?_:aY ..)))|((with_reducible show .mk (fun _=>?_) (fun _=>?_))<;>show(?_:XE ..))|((with_reducible show .mk (fun _=>?_) (fun _=>?_))<;>(first|show(?_:aY ..)|conv=>whnf))|(show .o ?_;show(?_:aw ..))|(show .o ?_;show(?_:XE ..))|(show .o ?_;conv=>whnf)|(show .mk (by omega) ?_;show(?_:aw ..))|(show .mk (by omega) ?_;show(?_:aY ..))|(show .mk (by omega) ?_;conv=>whnf)|fail)
    all_goals first|show fin hz|(exfalso;simp at*)
   ·rename_i c0 c1 c2;show fin (by unfold bc;rw[c1,aJ (by simp),aJ (by simpa using c2)];try rfl)
   ·rename_i c0 c1 c2
    have vc:(b2.length:Int)=4:=by simpa using c2
    repeat' (first|((with_reducible show .f ?_);show(?_:XE ..))|((with_reducible show .mk (fun _=>?_) (fun _=>?_))<;>(first|show(?_:aw ..)|show(?_:aY ..)))|((with_reducible show .mk (fun _=>?_) (fun _=>?_))<;>show(?_:XE ..))|((with_reducible show .mk (fun _=>?_) (fun _=>?_))<;>(first|show(?_:aY ..)|conv=>whnf))|(show .o ?_;show(?_:aw ..))|(show .o ?_;show(?_:XE ..))|(show .o ?_;conv=>whnf)|(show .mk (by omega) ?_;show(?_:aw ..))|(show .mk (by omega) ?_;show(?_:aY ..))|(show .mk (by omega) ?_;conv=>whnf)|fail)
    ·rename_i x1 x2;replace x2:=E6▸x2;show fin (by unfold bc;rw[c1,aJ (by simp),ax (by simp[vc]),x2];try rfl)
    ·rename_i x1 x2 x3;replace x3:=c0▸x3;right
    ·rename_i x1 x2 x3;replace x2:=E6▸x2;show fin (by unfold bc;rw[c1,aJ (by simp),ax (by simp[vc]),x2,c0];try rfl)
    all_goals(rename_i x1 x2;replace x1:=c1▸x1;right)
   ·rename_i c0 c1 c2 c3
    have k5:k=5:=by simpa using c2
    show fin (by unfold bc;rw[c0,c1,ax (by decide),aJ k5,aJ (by simpa using c3)];try rfl)
   ·rename_i c0 c1 c2 c3 c4
    have k5:k=5:=by simpa using c2
    replace c4:=E6▸c4;show fin (by unfold bc;rw[c0,c1,ax (by decide),aJ k5,ax (by simpa using c3),c4];try rfl)
   ·rename_i c0 c1 c2 c3 c4 c5
    have k5:k=5:=by simpa using c2
    rw[E6]at c4 c5;show fin (by unfold bc;rw[c0,c1,ax (by decide),aJ k5,ax (by simpa using c3),c4,c5];try rfl)
   ·rename_i c0 c1 c2 c3 c4 c5
    have k5:k=5:=by simpa using c2
    rw[E6]at c4 c5;show fin (by unfold bc;rw[c0,c1,ax (by decide),aJ k5,ax (by simpa using c3),c4,c5];try rfl)
   ·rename_i c0 c1 c2;show fin (by unfold bc;rw[c0,c1,ax (by decide),ax (by simpa using c2)];try rfl)
set_option tactic.hygienic false
noncomputable def y6(k f:Int):Bool:=[1,5,9].contains k&&((f.fdiv 4).fmod 2==1)
def bL(k:Int):List (Int×Str):=if k=0 then[(1,oS "END_STREAM"),(8,cJ)]else if k=1 then[(1,oS "END_STREAM"),(4,bw),(8,cJ),(32,Bz)]else if k=5 then[(4,bw),(8,cJ)]else if k=9 then[(4,bw)]else[]
def cD(k f:Int):List Str:=(bL k).filterMap fun p=>if(f.fdiv p.1).fmod 2==1 then some p.2 else none
def lT(k:Int)(n:Nat):Bool:=(aU k n).contains cJ==e9 k n&&(aU k n).contains Bz==d7 k n&&(aU k n).contains bw==y6 k n&&aU k n==cD k n&&decide (aU k n).Nodup
theorem j3{k:Int}(h:(range 256).all (lT k)=true){f:Int}(hf:0≤f∧f<256):lT k f.toNat=true:=List.all_eq_true.mp h _ (mem_range.mpr (by lia))
theorem kP(k:Int){f:Int}(hf:0≤f∧f<256):(aU k f).contains cJ=e9 k f∧(aU k f).contains Bz=d7 k f∧(aU k f).contains bw=y6 k f∧aU k f=cD k f∧(aU k f).Nodup:=by
 have e:((f.toNat:Nat):Int)=f:=by lia
 have go:lT k f.toNat=true→_:=fun h=>by unfold lT at h;replace h:=e▸h;simp only[Bool.and_eq_true,beq_iff_eq,decide_eq_true_eq]at h;show And.intro h.1.1.1.1 (And.intro h.1.1.1.2 (And.intro h.1.1.2 (And.intro h.1.2 h.2)))
 by_cases h0:k=0
 ·subst h0;show go (j3 (by nofun) hf)
 by_cases h1:k=1
 ·subst h1;show go (j3 (by nofun) hf)
 by_cases h5:k=5
 ·subst h5;show go (j3 (by nofun) hf)
 by_cases h9:k=9
 ·subst h9;show go (j3 (by nofun) hf)
 have hn:aU k f=[]:=by
  unfold aU ah;erw[ax h0,ax h1,ax h5,ax h9]
  split
  ·rfl
  split<;>rfl
 have hl:cD k f=[]:=by unfold cD bL;erw[ax h0,ax h1,ax h5,ax h9];rfl
 have c1:[0,1,5].contains k=false:=by simp[h0,h1,h5]
 have c2:[1,5,9].contains k=false:=by simp[h1,h5,h9]
 erw[hn,hl];unfold e9 d7 y6;erw[c1,c2,oW h1];show⟨rfl,rfl,rfl,rfl,.nil⟩
def dz(σ σ':List LO):Prop:=∀(i:Nat) o,((∃l,o= .list l)∨o= .tab)→σ[i]? =some o→σ'[i]? =some o
theorem dz.refl(σ:List LO):dz σ σ:=fun U U U h=>h
theorem dz.set{id:Nat}{x:LO}(e:σ[id]? =some x)(hx:∀l,x≠.list l)(ht:x≠.tab:=by intro z;cases z):dz σ (σ.set id y):=fun i o t h=>by
 have:id≠i:=fun z=>by
  replace e:=z▸e;replace e:=h▸e
  injection e with z;subst z
  rcases t with⟨l,t⟩|t
  ·show hx _ t
  ·show ht t
 erw[getElem?_set_ne this];show h
def ic(k az:Int)(j:Nat)(pl:Int)(d:List Int)(m:Int):List (Str×LV):=yZ az j pl d++if k=3 then[(oS "error_code",.int m)]else if k=5 then[(oS "promised_stream_id",.int m)]else if k=8 then[(oS "window_increment",.int m)]else if plainKind k then[(oS "kind",.int k)]else[]
def excOf(s:Str):Addr:=if s= oS "missing" then 822 else 835
section
structure gY(X:Sx)(env:aQ)(σ:List LO)(id j:Nat)(k f az:Int)(b:List Int)(P:kr):Prop where
 good:∀II,(bodyOf k f b).fault= oS ""→P .none (σ.set id (.inst (ah k) (ic k az j II (bodyOf k f b).data (bodyOf k f b).more)))
 bad:∀σ' m,dz σ σ'→m.length≤100→(bodyOf k f b).fault≠oS ""→X.R ⟨.ref (excOf (bodyOf k f b).fault),[m],true⟩ env σ'
theorem gY.ok{id j:Nat}{k f az:Int}(H:gY X env σ id j k f az b P){m:Int}(h:bodyOf k f b=nT d m)(pl:Int):P .none (σ.set id (.inst (ah k) (ic k az j pl d m))):=by have:=H.good pl;replace this:=h▸this;show this rfl
theorem gY.no{id j:Nat}{k f az:Int}(H:gY X env σ id j k f az b P){t:Told}(h:bodyOf k f b=t)(ht:t.fault≠oS "")(hl:dz σ σ'){m:Str}(hm:m.length≤100):X.R ⟨.ref (excOf t.fault),[m],true⟩ env σ':=by have:=H.bad σ' m hl hm;replace this:=h▸this;show this ht
theorem iI{k f:Int}(h1:k≠1)(h3:k≠3)(h5:k≠5)(h8:k≠8):bp k f b=nT b 0:=by unfold bp d7 bc;erw[oW h1,oW h3,oW h8,ax (by simp),ax (by decide)];show aD rfl (ax h5)
theorem ij{k f:Int}(h:e9 k f=false):bodyOf k f b=bp k f b:=by unfold bodyOf;erw[h];rfl
theorem wx{k f:Int}{b:List Int}(h:e9 k f=true)(h2:(b.length:Int)=0):bodyOf k f b=dS:=by unfold bodyOf;erw[h,aJ rfl];show aD rfl (aJ h2)
theorem wy{k f:Int}{b:List Int}(h:e9 k f=true)(h2:(b.length:Int)≠0)(h3:b.getD 0 0≥(b.length:Int)):bodyOf k f b=gX:=by unfold bodyOf;erw[h,aJ rfl,ax h2];show aD rfl (aJ h3)
theorem wz{k f:Int}{b:List Int}(h:e9 k f=true)(h2:(b.length:Int)≠0)(h3:¬ b.getD 0 0≥(b.length:Int)):bodyOf k f b=bp k f (bE b (some 1) (some ((b.length:Int)-b.getD 0 0))):=by unfold bodyOf;erw[h,aJ rfl,ax h2];show aD rfl (ax h3)
variable{id j:Nat}{k f az pl:Int}{b:List Int}
theorem tN(G:Gd B)(hd:X.d≤270)(hn:X.hn=true)(hf:0≤f∧f<256)(hk:k=9∨plainKind k=true)(e:σ[id]? =some (.inst (ah k) (f9 k az j pl [])))(H:gY X env σ id j k f az b P):
  aM B X env σ [.obj id,.bytes b] (fun vs=>PySem.call (.ref 870) vs) P:=by
 show .fnX G (yW G) nt rfl (DI _) (e0:=[oo id,ob b]) rfl ?_
 have nd:yo.Nodup:=by nofun
 have CX:k≠0∧k≠1∧k≠3∧k≠5∧k≠8:=by
  rcases hk with rfl|h
  ·decide
  ·show⟨?_,?_,?_,?_,?_⟩<;>(rintro rfl;revert h;decide)
 have KZ:e9 k f=false:=by unfold e9;erw[show[0,1,5].contains k=false by simp[CX]];rfl
 show .o ?_;show dW.mk _ (.to G (σ':=σ.set id (.inst (ah k) (ic k az j pl b 0))) e (by unfold f9;cases plainKind k<;>simp[yZ]) (b7 (f:=fun c=>setSlot (K B.w.params) c (oS "data")) (by left) k) ?_) ?_
 ·unfold ic f9;erw[ax CX.2.2.1,ax CX.2.2.2.1,ax CX.2.2.2.2];rfl
 conv=>whnf
 show H.ok ((ij KZ).trans (iI CX.2.1 CX.2.2.1 CX.2.2.2.1 CX.2.2.2.2)) pl
theorem set_same{x:LO}(e:σ[id]? =some x):σ.set id x=σ:=by
 show ext_getElem? fun i=>?_
 by_cases h:id=i
 ·subst h;erw[getElem?_set_self (dU e).1];show aD rfl e
 ·show aD rfl (getElem?_set_ne h)
theorem jc(G:Gd B)(hd:X.d≤280)(hn:X.hn=true)(hf:0≤f∧f<256)(hb:b.length≤16777000)(e:σ[id]? =some (.inst (ah k) (f9 k az j pl [])))(ej:σ[j]? =some (.set (aU k f)))(bad:∀σ' m,dz σ σ'→m.length≤100→(bodyOf k f b).fault≠oS ""→X.R ⟨.ref (excOf (bodyOf k f b).fault),[m],true⟩ env σ'):
  aM B X env σ [.obj id,.bytes b] (fun vs=>PySem.call (.ref 877) vs) fun v σ1=>∃qr b',v= .bytes b'∧σ1=σ.set id (.inst (ah k) (f9 k az j qr []))∧bodyOf k f b=bp k f b'∧b'.length≤b.length∧(b'=b∨∃lo hi,b'=bE b lo hi):=by
 have hp:=(kP k hf).1;show tK G hd hn e ej rfl (by unfold f9;cases plainKind k<;>simp[yZ]) (b7 (f:=Ek (K B.w.params)) (by left) k) nt ?_ ?_ ?_ ?_
 ·intro z;show FO pl b rfl ((set_same e).symm) (ij (hp▸z)) (Nat.le_refl _) (.inl rfl)
 ·intro z z2 m hm;replace bad:=(wx (hp▸z) z2)▸bad;show bad _ m (dz.refl _) hm (by decide)
 ·intro z z2 z3 m hm;replace bad:=(wy (hp▸z) z2 z3)▸bad;show bad _ m (dz.set e fun l z=>by right) hm (by decide)
 ·intro z z2 z3;show FO _ _ rfl rfl (wz (hp▸z) z2 z3) (cB _ _ _) (.inr ⟨_,_,rfl⟩)
theorem jd(pr:Params)(k:Int):fE (K pr) (ah k) (oS "unpadded") 877=true:=b7 (f:=fun c=>fE (K pr) c (oS "unpadded") 877) (by left) k
theorem wA(G:Gd B)(hd:X.d≤270)(hn:X.hn=true)(hf:0≤f∧f<256)(hb:b.length≤16777000)(e:σ[id]? =some (.inst (ah 0) (f9 0 az j pl [])))(ej:σ[j]? =some (.set (aU 0 f)))(H:gY X env σ id j 0 f az b P):
  aM B X env σ [.obj id,.bytes b] (fun vs=>PySem.call (.ref 901) vs) P:=by
 show .fnX G (we G) nt rfl (DM _) (e0:=[oo id,ob b]) rfl ?_
 have nd:yq.Nodup:=by nofun
 generalize bZ:X.lL env (iu 23 2 (oS "parse_body") (oS "DataFrame.parse_body") 900 jR .none none)=X';have cR:X'.hn=true:=bZ▸hn
 have du:X'.d≤280:=by show bD ?_ bZ;show(?_:X.d+1≤280);show Nat.lt_of_le_of_lt ‹_› (by decide)
 have hR:∀x e s,X.R x env s→X'.R x e s:=fun x e s r=>by show bD ?_ bZ;show r
 clear bZ;show .o ?_;show MethW.mk _ _ (.fn G e (f:=877) rfl (jd _ _)) ?_;show af.mk ((jc G du cR hf hb e ej fun σ' m a b c=>hR _ _ _ (H.bad σ' m a b c)).mono ?_);rintro U U zq;show cN zq ?_;rintro qr b' rfl rfl fM jr U;show dW.mk _ (.to G (σ':=σ.set id (.inst (ah 0) (ic 0 az j qr b' 0))) (getElem?_set_self (dU e).1) (by show(?_:4≤100);decide) (by left) (by erw[set_set ..];rfl)) ?_
 conv=>whnf
 show H.ok (fM.trans (iI (by decide) (by decide) (by decide) (by decide))) _
theorem tO(G:Gd B)(hd:X.d≤270)(hn:X.hn=true)(hf:0≤f∧f<256)(hb:b.length≤16777000)(e:σ[id]? =some (.inst (ah 1) (f9 1 az j pl [])))(ej:σ[j]? =some (.set (aU 1 f)))(H:gY X env σ id j 1 f az b P):
  aM B X env σ [.obj id,.bytes b] (fun vs=>PySem.call (.ref 933) vs) P:=by
 show .fnX G (wg G) nt rfl (DO _) (e0:=[oo id,ob b]) rfl ?_
 have nd:yr.Nodup:=by nofun
 generalize bZ:X.lL env (iu 24 2 (oS "parse_body") (oS "HeadersFrame.parse_body") 932 jR .none none)=X';have cR:X'.hn=true:=bZ▸hn
 have du:X'.d≤280:=by show bD ?_ bZ;show(?_:X.d+1≤280);show Nat.lt_of_le_of_lt ‹_› (by decide)
 have hR:∀x e s,X.R x env s→X'.R x e s:=fun x e s r=>by show bD ?_ bZ;show r
 have aZ:X'.sc=ai (ay 24 2):=by show bD ?_ bZ;rfl
 clear bZ;show .o ?_;show MethW.mk _ _ (.fn G e (f:=877) rfl (jd _ _)) ?_;show af.mk ((jc G du cR hf hb e ej fun σ' m a b c=>hR _ _ _ (H.bad σ' m a b c)).mono ?_);rintro U U zq;show cN zq ?_;rintro qr b' rfl rfl fM jr U
 have li:dz σ (σ.set id (.inst (ah 1) (f9 1 az j qr []))):=dz.set e fun l z=>by right
 have e1:(σ.set id (.inst (ah 1) (f9 1 az j qr [])))[id]? =some (.inst (ah 1) (f9 1 az j qr [])):=getElem?_set_self (dU e).1
 have K8:(σ.set id (.inst (ah 1) (f9 1 az j qr [])))[j]? =some (.set (aU 1 f)):=by(erw[getElem?_set_ne (fun z=>by(replace e:=z▸e;replace e:=ej▸e);cases e)]);show ej
 have fin:∀d,bp 1 f b'=nT d 0→P .none (σ.set id (.inst (ah 1) (ic 1 az j qr d 0))):=fun d h=>H.ok (fM.trans h) qr;have hp:=(kP 1 hf).2.1;show aO.mk _ (.own G e1 (r:=.obj j) rfl rfl (by left) (by left)) ?_;show af.mk (.inSet K8 ?_);show(?_:aw ..)
 have mid:∀{d},bc 1 d=nT d 0:=fun{d}=>by unfold bc;simp
 show .mk (fun _=>?_) (fun _=>?_)<;>show(?_:XE ..)
 ·rename_i z;have z:d7 1 f=true:=hp▸z;show .o ?_;show af.mk (.aX (by omega) ?_);show aw.mk (fun _=>?_) (fun _=>?_)<;>show(?_:XE ..)
  ·rename_i z1;show .o ?_;show af.mk ?_;show .raise G cR (D:=822) (by erw[aZ];left) (by left) rfl (.str ⟨_,rfl,hR _ _ _ (H.no (fM.trans (by unfold bp;(erw[z,aJ rfl];show aD rfl (aJ (js z1))))) (t:=dS) (by decide) li (by decide))⟩)
  ·rename_i z1
   repeat(first|(show .o ?_;show(?_:aY ..))|(show .o ?_;show(?_:XE ..))|(show .o ?_;show(?_:dW ..))|(show .mk (by omega) ?_;show(?_:XE ..))|fail)
   show⟨_,.to G (σ':=σ.set id (.inst (ah 1) (ic 1 az j qr (bE b' (some 5) none) 0))) e1 (by show(?_:4≤100);decide) (by left) (by erw[set_set ..];rfl),?_⟩
   conv=>whnf
   show fin _ (by unfold bp;(erw[z,aJ rfl,ax (of_decide_eq_false z1)];show aD rfl mid))
 ·rename_i z;have z:d7 1 f=false:=hp▸z
  repeat(first|(show .o ?_;show(?_:XE ..))|(show .o ?_;show(?_:dW ..))|fail)
  show⟨_,.to G (σ':=σ.set id (.inst (ah 1) (ic 1 az j qr b' 0))) e1 (by show(?_:4≤100);decide) (by left) (by erw[set_set ..];rfl),?_⟩
  conv=>whnf
  show fin _ (by unfold bp;(erw[z,ax (by decide)];show aD rfl mid))
end
def cS(l:List Int):Prop:=∀x∈l,0≤x∧x<256
theorem mV(l:List Int):∀(a:Int),0≤a→cS l→0≤l.foldl (fun a k=>a*256+k) a∧l.foldl (fun a k=>a*256+k) a<(a+1)*256 ^ l.length:=by
 induction l with
 |nil=>intro a h _;simp;lia
 |cons x r ih=>intro a h o;have hx:=o x (.head _);show aA (ih (a*256+x) (by ac_rfl) fun y hy=>o y (.tail _ hy)) fun h1 h2=>?_;show⟨h1,Int.lt_of_lt_of_le h2 ?_⟩;erw[length_cons,Int.pow_succ ..,Int.mul_comm (256 ^ r.length) 256];show bD ?_ (Int.mul_assoc ..);show Int.mul_le_mul_of_nonneg_right (by lia) (Int.pow_nonneg (by decide))
theorem gc{l:List Int}(h:cS l):0≤KFB.value l:=(mV l 0 (by decide) h).1
theorem cS.cut{l:List Int}(h:cS l)(a b:Option Int):cS (bE l a b):=fun x hx=>h x (by unfold bE at hx;show mem_of_mem_drop (mem_of_mem_take hx))
theorem y7{x:Int}(h:0≤x):Builtin.bitAnd x 2147483647=x.fmod 2147483648:=by unfold Builtin.bitAnd;erw[decide_eq_true h,decide_eq_true (show(0:Int)≤2147483647 by decide)];show(?_:((x.toNat&&&2147483647:Nat):Int)=_);erw[show(2147483647:Nat)=2 ^ 31-1 from rfl,Nat.and_two_pow_sub_one_eq_mod ..,Int.fmod_eq_emod_of_nonneg _ (by decide)];lia
section
variable{id j:Nat}{f az pl:Int}{b:List Int}
theorem y8(G:Gd B)(hd:X.d≤270)(hn:X.hn=true)(hb:b.length≤16777000)(e:σ[id]? =some (.inst (ah 3) (f9 3 az j pl [])))(H:gY X env σ id j 3 f az b P):
  aM B X env σ [.obj id,.bytes b] (fun vs=>PySem.call (.ref 952) vs) P:=by
 show .fnX G (wh G) nt rfl (DQ _) (e0:=[oo id,ob b]) rfl ?_
 have nd:yt.Nodup:=by nofun
 have h0:bodyOf 3 f b=if(b.length:Int)≠4 then dS else nT [] (KFB.value b):=by erw[ij rfl];rfl
 show .o ?_;show af.mk (.aX (by omega) ?_);show aw.mk (fun _=>?_) (fun _=>?_)<;>show(?_:XE ..)
 ·rename_i z
  have z:(b.length:Int)≠4:=by simpa using z
  show .o ?_;show af.mk ?_;show .raise G hn (D:=822) (by left) (by left) rfl (.str ⟨_,rfl,H.no (h0.trans (aJ z)) (by decide) (dz.refl _) (by decide)⟩)
 ·rename_i z
  have z:(b.length:Int)=4:=by simpa using z
  repeat(first|(show .o ?_;show(?_:aY ..))|(show .o ?_;show(?_:XE ..))|(show .mk (by omega) ?_;show(?_:dW ..))|fail)
  show⟨_,.to G (σ':=σ.set id (.inst (ah 3) (ic 3 az j pl [] (KFB.value b)))) e (by show(?_:4≤100);decide) (by left) rfl,?_⟩
  conv=>whnf
  show H.ok (h0.trans (ax (by simpa using z))) _
theorem y9(G:Gd B)(hd:X.d≤270)(hn:X.hn=true)(hb:b.length≤16777000)(ho:cS b)(e:σ[id]? =some (.inst (ah 8) (f9 8 az j pl [])))(H:gY X env σ id j 8 f az b P):
  aM B X env σ [.obj id,.bytes b] (fun vs=>PySem.call (.ref 993) vs) P:=by
 show .fnX G (wj G) nt rfl (DU _) (e0:=[oo id,ob b]) rfl ?_
 have nd:yv.Nodup:=by nofun
 have h0:bodyOf 8 f b=if(b.length:Int)≠4 then dS else if((KFB.value b).fmod 2147483648==0)=true then gX else nT [] ((KFB.value b).fmod 2147483648):=by erw[ij rfl];rfl
 replace h0:=(y7 (gc ho)).symm▸h0;have e1:∀v,(σ.set id (.inst (ah 8) (ic 8 az j pl [] v)))[id]? =some (.inst (ah 8) (ic 8 az j pl [] v)):=fun v=>getElem?_set_self (dU e).1;show .o ?_;show af.mk (.aX (by omega) ?_);show aw.mk (fun _=>?_) (fun _=>?_)<;>show(?_:XE ..)
 ·rename_i z
  have z:(b.length:Int)≠4:=by simpa using z
  show .o ?_;show af.mk ?_;show .raise G hn (D:=822) (by left) (by left) rfl (.str ⟨_,rfl,H.no (h0.trans (aJ z)) (by decide) (dz.refl _) (by decide)⟩)
 ·rename_i z
  have z:(b.length:Int)=4:=by simpa using z
  rw[ax (by simpa using z)]at h0
  repeat(first|(show .o ?_;show(?_:aY ..))|(show .o ?_;show(?_:XE ..))|(show .mk (by omega) ?_;show(?_:dW ..))|fail)
  show⟨_,.to G (σ':=σ.set id (.inst (ah 8) (ic 8 az j pl [] (Builtin.bitAnd (KFB.value b) 2147483647)))) e (by show(?_:4≤100);decide) (by left) rfl,?_⟩;show aO.mk _ (.own G (e1 _) (r:=.int (Builtin.bitAnd (KFB.value b) 2147483647)) rfl rfl (by left) (by left)) ?_;show aw.mk (fun _=>?_) (fun _=>?_)<;>show(?_:XE ..)
  ·rename_i z1;show .o ?_;show af.mk ?_;show .raise G hn (D:=835) (by left) (by left) rfl (.str ⟨_,rfl,H.no (h0.trans (aJ z1)) (by decide) (dz.set e fun l z=>by right) (by decide)⟩)
  ·rename_i z1
   repeat(first|(show .o ?_;show(?_:XE ..))|(show .o ?_;conv=>whnf)|fail)
   show H.ok (h0.trans (ax (by erw[z1];decide))) _
theorem wB(G:Gd B)(hd:X.d≤270)(hn:X.hn=true)(hf:0≤f∧f<256)(hb:b.length≤16777000)(ho:cS b)(e:σ[id]? =some (.inst (ah 5) (f9 5 az j pl [])))(ej:σ[j]? =some (.set (aU 5 f)))(H:gY X env σ id j 5 f az b P):
  aM B X env σ [.obj id,.bytes b] (fun vs=>PySem.call (.ref 974) vs) P:=by
 show .fnX G (wi G) nt rfl (DS _) (e0:=[oo id,ob b]) rfl ?_
 have nd:yu.Nodup:=by nofun
 generalize bZ:X.lL env (iu 26 3 (oS "parse_body") (oS "PushPromiseFrame.parse_body") 973 jR .none none)=X';have cR:X'.hn=true:=bZ▸hn
 have du:X'.d≤280:=by show bD ?_ bZ;show(?_:X.d+1≤280);show Nat.lt_of_le_of_lt ‹_› (by decide)
 have hR:∀x e s,X.R x env s→X'.R x e s:=fun x e s r=>by show bD ?_ bZ;show r
 have aZ:X'.sc=ai (ay 26 3):=by show bD ?_ bZ;rfl
 show .o ?_;show MethW.mk _ _ (.fn G e (f:=877) rfl (jd _ _)) ?_;show af.mk ((jc G du cR hf hb e ej fun σ' m a b c=>hR _ _ _ (H.bad σ' m a b c)).mono ?_);rintro U U zq;show cN zq ?_;rintro qr b' rfl rfl fM jr Ol
 have eN:cS b':=by
  rcases Ol with rfl|⟨lo,hi,rfl⟩
  ·show ho
  ·show ho.cut lo hi
 have li:∀x:List (Str×LV),dz σ (σ.set id (.inst (ah 5) x)):=fun x=>dz.set e fun l z=>by right
 have e1:∀x:List (Str×LV),(σ.set id (.inst (ah 5) x))[id]? =some (.inst (ah 5) x):=fun x=>getElem?_set_self (dU e).1;have h4:=ml b' 4 (by decide);have h0:bodyOf 5 f b=bc 5 b':=fM.trans rfl;have n0:=y7 (gc (eN.cut none (some 4)));unfold bc at h0;rw[ax (by decide)]at h0;replace h0:=aJ rfl▸h0;replace h0:=n0.symm▸h0;show af.mk (.aX (by omega) ?_);show aw.mk (fun _=>?_) (fun _=>?_)<;>show(?_:XE ..)
 ·rename_i z;show .o ?_;show af.mk ?_;show .raise G cR (D:=822) (by erw[aZ];left) (by left) rfl (.str ⟨_,rfl,hR _ _ _ (H.no (h0.trans (aJ (js z))) (by decide) (li _) (by decide))⟩)
 rename_i z;replace h0:=ax (of_decide_eq_false z)▸h0
 repeat(first|(show .o ?_;show(?_:aY ..))|(show .o ?_;show(?_:XE ..))|(show .mk (by omega) ?_;show(?_:aY ..))|(show .mk (by omega) ?_;show(?_:dW ..))|fail)
 have st:(σ.set id (.inst (ah 5) (f9 5 az j qr []))).set id (.inst (ah 5) (ic 5 az j qr [] (Builtin.bitAnd (KFB.value (bE b' none (some 4))) 2147483647)))=σ.set id (.inst (ah 5) (ic 5 az j qr [] (Builtin.bitAnd (KFB.value (bE b' none (some 4))) 2147483647))):=set_set ..;show⟨_,.to G (σ':=σ.set id (.inst (ah 5) (ic 5 az j qr [] (Builtin.bitAnd (KFB.value (bE b' none (some 4))) 2147483647)))) (e1 _) (by show(?_:4≤100);decide) (by left) st,?_⟩;show(?_:aO ..);generalize hv:Builtin.bitAnd (KFB.value (bE b' none (some 4))) 2147483647=v at*;show⟨_,.own G (e1 _) (r:=.int v) rfl rfl (by left) (by left),?_⟩;show(?_:aw ..);have no:(v==0 ||v.fmod 2==1)=true→∀(m:Str) (en:aQ),m.length≤100→X'.R ⟨.ref 835,[m],true⟩ en (σ.set id (.inst (ah 5) (ic 5 az j qr [] v))):=fun z m en hm=>hR _ _ _ (H.no (h0.trans (aJ z)) (by decide) (li _) hm);show .mk (fun _=>?_) (fun _=>?_)<;>(first|show(?_:aw ..)|show(?_:aO ..))
 ·rename_i g;show .t ?_;show XE.o ?_;show af.mk ?_;show .raise G cR (D:=835) (by erw[aZ];left) (by left) rfl (.str ⟨_,rfl,?_⟩);show no (by erw[g];rfl) _ _ (by decide)
 rename_i g;show⟨_,.own G (e1 _) (r:=.int v) rfl rfl (by left) (by left),?_⟩;show aY.mk (by omega) ?_;show aw.mk (fun _=>?_) (fun _=>?_)<;>show(?_:XE ..)
 ·show .o ?_;show af.mk ?_;show .raise G cR (D:=835) (by erw[aZ];left) (by left) rfl (.str ⟨_,rfl,?_⟩);show no (by(erw[g,show v.fmod 2=1 by ac_rfl]);rfl) _ _ (by decide)
 rename_i g2
 repeat(first|(show .o ?_;show(?_:aY ..))|(show .o ?_;show(?_:XE ..))|(show .mk (by omega) ?_;show(?_:dW ..))|fail)
 show⟨_,.to G (σ':=σ.set id (.inst (ah 5) (ic 5 az j qr (bE b' (some 4) none) v))) (e1 _) (by show(?_:5≤100);decide) (by left) (set_set ..),?_⟩
 conv=>whnf
 have g3:v.fmod 2=0:=by simpa using g2
 show H.ok (h0.trans (ax (by(erw[g,g3]);decide))) _
end
noncomputable def uP(c:Addr):Addr:=if c=912 then 901 else if c=936 then 933 else if c=955 then 952 else if c=977 then 974 else if c=996 then 993 else 870
theorem tP(pr:Params)(k:Int):fE (K pr) (ah k) (oS "parse_body") (uP (ah k))=true:=b7 (f:=fun c=>fE (K pr) c (oS "parse_body") (uP c)) (by left) k
theorem uQ(pr:Params)(k:Int):cg (K pr) (ah k) 912 (ah k==912)=true∧cg (K pr) (ah k) 936 (ah k==936)=true∧cg (K pr) (ah k) 955 (ah k==955)=true∧cg (K pr) (ah k) 977 (ah k==977)=true∧cg (K pr) (ah k) 996 (ah k==996)=true∧cg (K pr) (ah k) 1010 (ah k==1010)=true:=
 ⟨b7 (f:=fun c=>cg (K pr) c 912 (c==912)) (by left) k,b7 (f:=fun c=>cg (K pr) c 936 (c==936)) (by left) k,b7 (f:=fun c=>cg (K pr) c 955 (c==955)) (by left) k,
  b7 (f:=fun c=>cg (K pr) c 977 (c==977)) (by left) k,b7 (f:=fun c=>cg (K pr) c 996 (c==996)) (by left) k,b7 (f:=fun c=>cg (K pr) c 1010 (c==1010)) (by left) k⟩
theorem lU(pr:Params)(k:Int):mF (K pr) (ah k)=true∧cy (K pr) (ah k) (oS "stream_id")=true∧cy (K pr) (ah k) (oS "flags")=true∧cy (K pr) (ah k) (oS "data")=true∧setSlot (K pr) (ah k) (oS "data")=true:=
 ⟨(gb pr k).1,b7 (f:=fun c=>cy (K pr) c (oS "stream_id")) (by left) k,oI pr k,b7 (f:=fun c=>cy (K pr) c (oS "data")) (by left) k,b7 (f:=fun c=>setSlot (K pr) c (oS "data")) (by left) k⟩
theorem za{k:Int}:((ah k==912)=true→k=0)∧((ah k==936)=true→k=1)∧((ah k==955)=true→k=3)∧((ah k==977)=true→k=5)∧((ah k==996)=true→k=8)∧((ah k==1010)=true→k=9):=by
 unfold ah
 by_cases h0:k=0
 ·simp[h0]
 by_cases h1:k=1
 ·simp[h1]
 by_cases h3:k=3
 ·simp[h3]
 by_cases h5:k=5
 ·simp[h5]
 by_cases h8:k=8
 ·simp[h8]
 by_cases h9:k=9
 ·simp[h9]
 simp[h0,h1,h3,h5,h8,h9]
section
variable{id j:Nat}{k f az pl:Int}{b:List Int}
theorem tQ(G:Gd B)(hd:X.d≤270)(hn:X.hn=true)(hf:0≤f∧f<256)(hb:b.length≤16777000)(ho:cS b)(e:σ[id]? =some (.inst (ah k) (f9 k az j pl [])))(ej:σ[j]? =some (.set (aU k f)))(H:gY X env σ id j k f az b P):
  aM B X env σ [.obj id,.bytes b] (fun vs=>PySem.call (.ref (uP (ah k))) vs) P:=by
 by_cases h0:k=0
 ·subst h0;show wA G hd hn hf hb e ej H
 by_cases h1:k=1
 ·subst h1;show tO G hd hn hf hb e ej H
 by_cases h3:k=3
 ·subst h3;show y8 G hd hn hb e H
 by_cases h5:k=5
 ·subst h5;show wB G hd hn hf hb ho e ej H
 by_cases h8:k=8
 ·subst h8;show y9 G hd hn hb ho e H
 have hc:k=9∨plainKind k=true:=by
  by_cases h9:k=9
  ·show .inl h9
  ·show .inr ?_;unfold plainKind ah
   (erw[ax h0,ax h1,ax h3,ax h5,ax h8,ax h9]);rfl
 have Om:uP (ah k)=870:=by
  rcases hc with rfl|h
  ·rfl
  ·erw[show ah k=880 from eB h];rfl
 erw[Om];show tN G hd hn hf hc e H
theorem wC(G:Gd B)(hd:X.d≤270)(hn:X.hn=true){fl:List Str}{m:Int}(e:σ[id]? =some (.inst (ah k) (ic k az j pl d m)))(ej:σ[j]? =some (.set fl))(hz:fl.length<64)(Fn:k=3∨k=8→d=[])(h0:k≠3→k≠5→k≠8→m=0)(h:P (.tup [.int k,.int az,.obj σ.length,.bytes d,.int m]) (σ++[.list ((bH fl).map .str)])):aM B X env σ [.obj id] (fun vs=>PySem.call (.ref 1134) vs) P:=by
 show .fnX G (Bx G) nt rfl (J2 _) (e0:=[oo id]) rfl ?_
 have nd:GG.Nodup:=by nofun
 show AA (uQ B.w.params k) fun i1 i2 i3 i4 i5 i6=>?_;show xw (lU B.w.params k) fun o1 o2 o3 o4 o5=>?_;show AA (@za k) fun c1 c2 c3 c4 c5 c6=>?_
 have e':(σ++[.list ((bH fl).map .str)])[id]? =some (.inst (ah k) (ic k az j pl d m)):=by erw[getElem?_append_left (dU e).1];show e
 generalize bZ:X.lL env (fdOf 43 (oS "_law_told") 1133)=X';have cR:X'.hn=true:=bZ▸hn;clear bZ;show .o ?_;show af.mk (.CC G e i1 ?_);show aw.mk (fun _=>?_) (fun _=>?_)<;>show(?_:XE ..)
 ·rename_i z;have hk:=c1 z;show .o ?_;show aO.mk _ (.own G e (r:=.int az) rfl rfl o1 o2) ?_;show aO.mk _ (.own G e (r:=.obj j) rfl rfl o1 o3) ?_;show af.mk (.dE cR ej hz ?_);show aO.mk _ (.own G e' (r:=.bytes d) rfl rfl o1 o4) ?_
  conv=>whnf
  replace h:=h0 (by ac_rfl) (by ac_rfl) (by ac_rfl)▸h;replace h:=hk▸h;show h
 rename_i z1;show .o ?_;show XE.o ?_;show af.mk (.CC G e i2 ?_);show aw.mk (fun _=>?_) (fun _=>?_)<;>show(?_:XE ..)
 ·rename_i z;have hk:=c2 z;show .o ?_;show aO.mk _ (.own G e (r:=.int az) rfl rfl o1 o2) ?_;show aO.mk _ (.own G e (r:=.obj j) rfl rfl o1 o3) ?_;show af.mk (.dE cR ej hz ?_);show aO.mk _ (.own G e' (r:=.bytes d) rfl rfl o1 o4) ?_
  conv=>whnf
  replace h:=h0 (by ac_rfl) (by ac_rfl) (by ac_rfl)▸h;replace h:=hk▸h;show h
 rename_i z2;show .o ?_;show XE.o ?_;show af.mk (.CC G e i3 ?_);show aw.mk (fun _=>?_) (fun _=>?_)<;>show(?_:XE ..)
 ·rename_i z;have hk:=c3 z;show .o ?_;show aO.mk _ (.own G e (r:=.int az) rfl rfl o1 o2) ?_;show aO.mk _ (.own G e (r:=.obj j) rfl rfl o1 o3) ?_;show af.mk (.dE cR ej hz ?_);show(?_:aO ..);subst hk;replace h:=Fn (by decide)▸h;show⟨_,.own G e' (r:=.int m) rfl rfl o1 (by left),?_⟩
  conv=>whnf
  show h
 rename_i z3;show .o ?_;show XE.o ?_;show af.mk (.CC G e i4 ?_);show aw.mk (fun _=>?_) (fun _=>?_)<;>show(?_:XE ..)
 ·rename_i z;have hk:=c4 z;show .o ?_;show aO.mk _ (.own G e (r:=.int az) rfl rfl o1 o2) ?_;show aO.mk _ (.own G e (r:=.obj j) rfl rfl o1 o3) ?_;show af.mk (.dE cR ej hz ?_);show aO.mk _ (.own G e' (r:=.bytes d) rfl rfl o1 o4) ?_;show(?_:aO ..);subst hk;show⟨_,.own G e' (r:=.int m) rfl rfl o1 (by left),?_⟩
  conv=>whnf
  show h
 rename_i z4;show .o ?_;show XE.o ?_;show af.mk (.CC G e i5 ?_);show aw.mk (fun _=>?_) (fun _=>?_)<;>show(?_:XE ..)
 ·rename_i z;have hk:=c5 z;show .o ?_;show aO.mk _ (.own G e (r:=.int az) rfl rfl o1 o2) ?_;show aO.mk _ (.own G e (r:=.obj j) rfl rfl o1 o3) ?_;show af.mk (.dE cR ej hz ?_);show(?_:aO ..);show hide fun H_ o_=>?_;subst hk;replace h:=Fn (by decide)▸h;show o_ ?_;clear o_ H_;show⟨_,.own G e' (r:=.int m) rfl rfl o1 (by left),?_⟩
  conv=>whnf
  show h
 rename_i z5;show .o ?_;show XE.o ?_;show af.mk (.CC G e i6 ?_);show aw.mk (fun _=>?_) (fun _=>?_)<;>show(?_:XE ..)
 ·rename_i z;have hk:=c6 z;show .o ?_;show aO.mk _ (.own G e (r:=.int az) rfl rfl o1 o2) ?_;show aO.mk _ (.own G e (r:=.obj j) rfl rfl o1 o3) ?_;show af.mk (.dE cR ej hz ?_);show aO.mk _ (.own G e' (r:=.bytes d) rfl rfl o1 o4) ?_
  conv=>whnf
  replace h:=h0 (by ac_rfl) (by ac_rfl) (by ac_rfl)▸h;replace h:=hk▸h;show h
 rename_i z6
 have hc:ah k=880:=by show ew (p:=fun c=>(c==912)=false→(c==936)=false→(c==955)=false→(c==977)=false→(c==996)=false→(c==1010)=false→c=880) ?_ ?_ ?_ ?_ ?_ ?_ ?_ k z1 z2 z3 z4 z5 z6<;>decide
 have hk:k≠3∧k≠5∧k≠8:=by show⟨?_,?_,?_⟩<;>(rintro rfl;revert hc;decide)
 have Oo:(ic k az j pl d m).lookup (oS "kind")=oi k:=by unfold ic plainKind;erw[ax hk.1,ax hk.2.1,ax hk.2.2,hc];rfl
 repeat(first|(show .o ?_;show(?_:aO ..))|(show .o ?_;show(?_:XE ..))|fail)
 show⟨_,.own G e Oo rfl o1 (by erw[hc];left),?_⟩;show aO.mk _ (.own G e (r:=.int az) rfl rfl o1 o2) ?_;show aO.mk _ (.own G e (r:=.obj j) rfl rfl o1 o3) ?_;show af.mk (.dE cR ej hz ?_);show aO.mk _ (.own G e' (r:=.bytes d) rfl rfl o1 o4) ?_
 conv=>whnf
 replace h:=h0 hk.1 hk.2.1 hk.2.2▸h;show h
end
theorem gf:Slot "bytes" "join" "bytes.join":=
 .of (owner:="bytes") (n:="join") (by(erw[nF ..,nE]);left) (by nofun) (by nofun) (by nofun) (by first|show .inl (by decide+kernel)|show .inr (by decide+kernel)) (by erw[isSubtype_type ..];left)
theorem iJ:entryFor table "bytes.join"=some Builtin.«bytes.join»:=entryFor_of_tree (by left)
theorem j5(a b:Value):argsOk "bytes.join" ⟨[a,b],[]⟩:=by unfold argsOk;left
theorem qc:typeOf (.builtin "bytes.join")=pure (.type "method_descriptor"):=by left
theorem gZ{vs:List Value}:∀{ds:List (List Int)},vs.length=ds.length→(∀(j:Nat) v,vs[j]? =some v→∃b t,v= .bytes b t∧ds[j]? =some (KBw.bInts b))→∃bs,fI vs bs∧bs.map KBw.bInts=ds:=by
 induction vs with
 |nil=>
  intro ds l h
  cases ds with
  |nil=>show⟨[],trivial,rfl⟩
  |cons=>right
 |cons v r ih=>
  intro ds hl h
  cases ds with
  |nil=>right
  |cons d ds=>show cj (h 0 v rfl) ?_;rintro b t rfl e;show aa (ih (ds:=ds) (by simpa using hl) fun j v e=>h (j+1) v (by simpa using e)) fun bs h1 h2=>?_;simp only[getElem?_cons_zero,Option.some.injEq]at e;show cM (b::bs) ⟨⟨t,rfl⟩,h1⟩ (by(erw[map_cons,h2];show bD rfl e))
theorem rT{bs:List (Array UInt8)}{ds:List (List Int)}(h:bs.map KBw.bInts=ds):(bs.map (·.size)).sum=(ds.map (·.length)).sum:=by
 subst h;erw[List.map_map]
 congr 1
 show map_congr_left fun b U=>bP.symm
theorem bO.join{l:List Int}:bO B env σ (.bytes l) (oS "join") (.builtin "bytes.join") [.bytes l]:=.builtin .bytes FB.plainAttrs_bytes gf qc
theorem bz.uR{α:Type}{f:α→LV}{l:List α}(r:bz h ρ (l.map f) vs){j:Nat}(e:vs[j]? =some v):∃a,l[j]? =some a∧Rep h ρ (f a) v:=by
 have hl:=r.length;rw[length_map]at hl
 have hj:j<l.length:=by show bD ?_ hl;show(dU e).1
 show hide fun H_ o_=>?_;show aa (r.get (i:=j) (x:=f l[j]) (by simp[hj])) fun v' e' r'=>?_;replace e':=e▸e'
 injection e' with z;subst z
 show o_ ?_;show cM (l[j]) (n4 hj) r'
theorem aM.rU{id:Nat}{ds:List (List Int)}(e:σ[id]? =some (.list (ds.map .bytes)))(hz:(ds.map (·.length)).sum≤16777216)(h:P (.bytes ds.flatten) σ):aM B X env σ [.bytes [],.obj id] (fun vs=>PySem.call (.builtin "bytes.join") vs) P:=.J7 fun C O hX ρ s E Q x y S rx ry q=>by
 show cj rx ?_;rintro b t rfl hb
 obtain rfl:b= #[]:=by
  have:b.size=0:=by(show bD ?_ bP;erw[hb]);rfl
  show Array.eq_empty_of_size_eq_zero this
 show hide fun H_ o_=>?_;show cN (S.list ry e) ?_;rintro c vs hc rfl c2 pl rl
 show aa (gZ (vs:=vs) (ds:=ds) (by(erw[rl.length];show aD rfl (length_map ..))) fun j v ev=>by
  show av (rl.uR ev) fun d hZ=>?_;show aA hZ fun hd hZ=>?_;show cj hZ ?_;rintro b t rfl e2
  show nH b t rfl (by erw[e2];show hd)) ?_;rintro bs h1 h2
 show av pl fun n ho=>?_;show o_ ?_;show wpAny_call_entry gf (typeIs_bytes s _ t) iJ ?_ (j5 _ _);show oG (fun U U U=>i9) (it:=.ref c.1) ?_;show V (wpAny_typeOf (T:="list") ⟨_,ho,rfl⟩ ?_);erw[aJ (by rfl)];show aG ⟨c.1,_,vs,n,bs,rfl,ho,rfl,h1,by erw[rT h2];show hz,fun r t k hr=>⟨_,rfl,?_⟩⟩;show q _ _ _ ρ {s with toks:=k} h (.rr rfl rfl rfl) S ⟨r,t,rfl,by(erw[hr];show aD rfl h2)⟩
section
variable{M:Model}
theorem zb{env:Env}{c T:Addr}(hc:env.code= .ref c)(dG:s.heap.IsCode c T ps)(su:s.heap.TableAt c T ps)(hQ:∀code h' tk CY,Heap.ExtBut T s.heap h'→h'.get? T=some ⟨.none,none,.fields CY,#[]⟩→TriplesOk CY.toList→s.heap.objs.size≤h'.objs.size→Q code {s with heap:=h',toks:=tk}):
  wpAny M A (genexprCode env pos qualname scope) Q E s:=by
 cases hf:codeAmong pos ps.toList with
 |some c'=>show hide fun H_ o_=>?_;show av (id dG) fun U hZ=>?_;show av hZ fun U hZ=>?_;show av hZ fun U hZ=>?_;show av hZ fun U hZ=>?_;show av hZ fun U hZ=>?_;show av hZ fun U hZ=>?_;show av hZ fun U hZ=>?_;show uf hZ fun U U U U U U U U U U U U E7 U=>?_;show o_ ?_;show wpAny_genexprCode_hit hc dG hf (hQ _ s.heap s.toks ps (fun U U U e=>e) su.2 E7 (Nat.le_refl _))
 |none=>show wpAny_genexprCodeX hc dG su hf fun c' h' tk hx MJ nG sy U ht U=>?_;show hide fun H_ o_=>?_;show av (id sy) fun U hZ=>?_;show av hZ fun U hZ=>?_;show av hZ fun U hZ=>?_;show av hZ fun U hZ=>?_;show av hZ fun U hZ=>?_;show av hZ fun U hZ=>?_;show av hZ fun U hZ=>?_;show uf hZ fun U U U U U U U U U U U U E7 U=>?_;show o_ ?_;show hQ _ h' tk _ hx ht.2 E7 (hH MJ (Nat.le_of_lt nG))
end
theorem lE(n:Nat):passing (fun U=>true) n 0=range n:=by unfold passing;simp
noncomputable def GQ(sc:Scope)(x:Str):Bool:=!sc.isCoroutine&&(sc.names.all fun y=>y.2 != .cell&&y.2 != .free)&&sc.names.lookup (".0":Str)==some NameKind.local&&sc.names.lookup x==some NameKind.local&&sc.kind== .function
noncomputable def zc(K:Frag):Array Value:=match K.lookup 1047 with
 |some ⟨_,_,.fields vs,_⟩=>vs
 |_=> #[]
theorem GR(P:Params):(K P).lookup 1047=some ⟨.type "code",none,.fields (zc (K P)),#[]⟩:=by left
theorem El(G:Gd B)(S:St B C ρ env σ h):B.mg "__builtins__"=some (.ref 4)∧∃sl,h.get? 4=some ⟨.type "module",some 0,.plain,sl⟩:=
 ⟨G.g (show nsIn (K B.w.params) mainGlobals "__builtins__"=some (some (.ref 4)) by left),_,St.dy G S _ _ (show(K B.w.params).lookup 4=some ⟨.type "module",some 0,.plain,#[]⟩ by left)⟩
theorem code_at(G:Gd B)(S:St B C ρ env σ h){ps:Array Value}(ht:h.get? 1043=some ⟨.none,none,.fields ps,#[]⟩)(E7:TriplesOk ps.toList):h.IsCode 1047 1043 ps∧h.TableAt 1047 1043 ps:=
 have ho:=St.dy G S _ _ (GR B.w.params)
 ⟨⟨_,zc (K B.w.params),oS "/claim/cut.py",1955,3,0,true,181,0,_,ho,rfl,(by left),(by left),(by left),(by left),(by left),ht,rfl,E7,by decide⟩,⟨_,_,ho,rfl,rfl,(by left)⟩,ht⟩
theorem aS.joinGen(G:Gd B)(hd:X.d≤300)(hn:X.hn=true)(sy:X.code=some (.ref 1047)){k:Nat}{apos:Pos}{iter:Expr}(g9:(apos.endLine==pos.line)=true)(hg:GQ scope x=true)(Oq:c9 x=false)(hit:∀ae v,genFold iter ae v=pure v)(h:aS B X env σ iter fun o σ1=>∃(hl:Nat) (ids:List Nat) (ds:List (List Int)) (tb:Nat),o= .obj hl∧σ1[hl]? =some (.list (ids.map .obj))∧σ1[tb]? =some .tab∧ids.length=ds.length∧ids.length≤1000∧
   (∀(j:Nat) i d,ids[j]? =some i→ds[j]? =some d→∃c fs,σ1[i]? =some (.inst c fs)∧fs.lookup (oS "data")=ob d∧mF (K B.w.params) c=true∧cy (K B.w.params) c (oS "data")=true)∧
   (ds.map (·.length)).sum≤16777216∧P (.bytes ds.flatten) σ1):
  aS B X env σ (.Call (.Attribute (.Constant (.bytes []) k p) (oS "join") apos) [.GeneratorExp (.Attribute (.Name x px2) (oS "data") p2) [⟨.Name x px,iter,[],0⟩] scope gpos] [] pos) P:=fun C O hX ρ s E Q S qe q=>by
 unfold GQ at hg;simp only[Bool.and_eq_true,Bool.not_eq_true',beq_iff_eq,List.all_eq_true,bne_iff_ne]at hg;show hide fun H_ o_=>?_;show aA hg ?_;rintro⟨⟨⟨g1,g2⟩,g3⟩,g4⟩ g5;show o_ ?_;erw[arm_eval_Call ..];rw[dB rfl];show V ((aS.bytes (P:=fun v σ1=>v= .bytes []∧σ1=σ) ⟨rfl,rfl⟩) C O hX ρ s E _ S qe fun ov σ1 u ρ1 s1 h1 K1 S1 R1=>?_);show aA h1 ?_;rintro rfl rfl;show V (gx ?_)
 have qp:methodCallPos true (.Constant (.bytes []) k p) C.env apos pos=pure pos:=by unfold methodCallPos;simp[g9]
 unfold methodCall;erw[show methodCallForm _ _ _=true from rfl];show V (eT ?_);show(bO.join (l:=[])).run C O ρ1 s1 _ _ _ u S1 R1 fun vs s2 K2 S2 R2=>?_;show V (eA qp ?_);show callWith_of (P:=fun hh=>∀a o,B.heap.get? a=some o→hh.get? a=some o) rfl dI.builtin (eI (cH C.env rfl pos) (args_cons ?_ rfl))
 have HN:closureFor scope C.env=pure []:=by
  erw[mh fun y hy z=>absurd z (g2 y hy).2]
  have:∀(names:List (Str×NameKind)) acc,(∀y∈names,y.2≠.free)→cV (fun n=>(C.env.cells.lookup n).getD 0) names acc=acc:=by
   intro names
   induction names with
   |nil=>intro acc U;rfl
   |cons y r ih=>intro acc hy;obtain⟨n,kd⟩:=y;show(?_:(if(kd==NameKind.free)=true then _ else _)=_);erw[ax (by simpa using hy _ (.head _))];show ih _ fun y Ot=>hy y (.tail _ Ot)
  show aD rfl (this _ _ fun y hy=>(g2 y hy).2)
 have kj:C.A.depth<recursionLimit:=by have h1:=O.depth;have h2:=hX.d;unfold recursionLimit;ac_rfl
 show wpAny_GeneratorExp_walksQ (cl:=[]) (hX.hn hn) g1 HN (fun y hy=>(g2 y hy).1) g3 g4 g5 kj ?_ (hit _);show h C O hX ρ1 s2 E _ S2 (qe.since (K1.trans K2)) fun o σ3 v ρ3 s3 h3 K3 S3 R3=>?_;show hide fun H_ o_=>?_;show Dg h3 ?_;rintro hl ids ds tb rfl e1 e2 HO Ou ei hz hP;show cN (S3.list R3 e1) ?_;rintro c K9 hc rfl c2 pl rl
 have wD:K9.length=ids.length:=by(erw[rl.length];show aD rfl (length_map ..))
 show o_ ?_;clear o_ H_;obtain⟨ct,HD⟩:∃ct,ρ3[tb]? =some ct:=⟨_,n4 (by erw[S3.len];show(dU e2).1)⟩;show hide fun H_ o_=>?_;show aA (S3.iR tb _ _ e2 HD) ?_;rintro rfl hZ;show aa hZ fun ps ht E7=>?_;have HP:B.heap.get? 1043=none:=(S3.out 1043 (b8 HD (.head _))).1;show o_ ?_;clear o_ H_;show wpAny_pyIter_list pl.isList ?_;have kp:=aC s3.heap {cls:=.type "list_iterator",data:=.fields #[.ref c.1,.int 0 0]};have S4:=S3.bh kp
 have MK:c.1<s3.heap.objs.size:=by(show av pl fun n e=>?_);show Heap.lt_size e
 have jn:c.1≠s3.heap.objs.size:=Nat.ne_of_lt MK;have CZ:=G.nolimit.keeps S4.base;show⟨CZ,?_⟩;have Ov:=kp _ _ ht;show aA (code_at G S4 Ov E7) fun dG su=>?_;show zb (hX.code _ sy) dG su fun code h4 PI CY x4 t4 Ow IJ=>?_;rw[Heap.size_push]at IJ;show aA (El G S4) fun mb hZ=>?_;show av hZ fun PJ m4=>?_;have b4:∀a o,B.heap.get? a=some o→h4.get? a=some o:=fun a o eb=>x4 a o (fun z=>by(replace eb:=z▸eb;replace eb:=HP▸eb);right) (S4.base a o eb);show wpAny_builtinsFor (m:=B.mg) (bm:=4) (by erw[O.globals];show G.ns.keeps b4) mb (by decide) (x4 4 _ (by decide) m4) rfl rfl rfl ?_;have k4:∀b o,b≠1043→s3.heap.get? b=some o→h4.get? b=some o:=fun b o hb eb=>x4 b o hb (kp _ _ eb);have La:(s3.heap.push {cls:=.type "list_iterator",data:=.fields #[.ref c.1,.int 0 0]}).get? s3.heap.objs.size=some {cls:=.type "list_iterator",data:=.fields #[.ref c.1,.int 0 0]}:=gh _ rfl;have Af:1043<s3.heap.objs.size:=Heap.lt_size ht
 have Ox:c.1≠1043:=fun z=>by show av pl fun n e=>?_;replace e:=z▸e;replace e:=ht▸e;cases e
 show⟨s3.heap.objs.size,[s3.heap.objs.size,c.1],[s3.heap.objs.size],K9.toArray.size,_,_,fun U=>true,fun i y=>∃b t,y= .bytes b t∧ds[i]? =some (KBw.bInts b),rfl,fun A' hA=>Walks.list hA _ _ jn _,
  ⟨⟨_,x4 _ _ (Nat.ne_of_gt Af) La,rfl,rfl⟩,pl.isList.at fun o ho=>k4 _ _ Ox ho⟩,?_,CZ.extBut x4 (by decide),?_,?_,?_⟩
 ·intro b hb
  rcases mem_cons.mp hb with rfl|hb
  ·show IJ
  ·obtain rfl:=mem_singleton.mp hb;show Nat.lt_trans MK IJ
 ·intro hb;have:=mem_singleton.mp hb;replace Af:=this.symm▸Af;show absurd Af (by decide)
 · --what each item's data is
  intro Oy HQ;show⟨fun A' E' i v u m₂ hA hP hn hm hk=>aG ⟨rfl,u.heap,u.toks,rfl,fun U U e=>e⟩,fun A' E' i v u m₂ hA hP U hn hm hk=>?_⟩
  have ku:∀b o,b≠1043→s3.heap.get? b=some o→u.heap.get? b=some o:=fun b o hb eb=>hk b (mem_range.mpr (by have:=Heap.lt_size (k4 b o hb eb);show this)) (fun z=>by
   have q:=Heap.lt_size eb;replace q:=mem_singleton.mp z▸q
   show Nat.lt_irrefl _ q) o (HQ b o (k4 b o hb eb))
  show aa (rl.uR (j:=i) (by simpa using hP)) fun id xg rv=>?_
  have hi:i<ds.length:=by show bD ?_ HO;show(dU xg).1
  show hide fun H_ o_=>?_;show bY (ei i id ds[i] xg (n4 hi)) fun cc fs HR HS ga os=>?_;show jv (S3.inst rv HR) ?_;rintro a d' m' od rfl I;have hv:=I.vals (oS "data");replace hv:=HS▸hv;show av hv fun w0 hZ=>?_;show aA hZ fun B9 hZ=>?_;show cj hZ ?_;rintro b t rfl hb;have Lc:s3.heap.get? d'=some od:=I.inst.dict
  have Oz:a≠1043:=fun z=>by have:=I.obj;replace this:=z▸this;replace this:=ht▸this;cases this
  have OA:d'≠1043:=fun z=>by
   show gy I.ns fun PK es ep hd h2 U=>?_;replace hd:=z▸hd;replace hd:=ht▸hd
   injection hd with z;subst z
   right
  have Iu:InstAt u.heap a (instObj cc d') cc (some od):=⟨ku _ _ Oz I.inst.at_,I.inst.cls,I.inst.no,ku _ _ OA Lc⟩;show o_ ?_;erw[arm_eval_Attribute ..];rw[dB rfl];show V (wpAny_Name ?_ (fX Oq).1);show wpAny_loadName_local g5 g4 hn hm ?_;show V (gx (V (eT ?_)));show get_value (G.dy.keeps fun a o eb=>ku a o (fun z=>by(replace eb:=z▸eb;replace eb:=HP▸eb);right) (S3.base a o eb)) Iu (jP ga) (jO os (by(erw[I.look ..];show aD rfl B9))) rfl ?_
  try show V ?_
  show wpAny_letTemporaryGo ?_
  try show aG ?_
  show⟨⟨b,t,rfl,by erw[hb];show n4 hi⟩,u.heap,_,rfl,fun U U e=>e⟩
 intro a h₅ tk gs OB ML Ld Le W E5;have b5:∀a o,B.heap.get? a=some o→h₅.get? a=some o:=fun a o eb=>Le a o (b4 a o eb);show args_nil ⟨b5,?_⟩;show bb R2 ?_;rintro x0 r0 rfl ⟨b0,t0,rfl,Ka⟩ R2;subst R2
 obtain rfl:b0= #[]:=by
  have:b0.size=0:=by(show bD ?_ bP;erw[Ka]);rfl
  show Array.eq_empty_of_size_eq_zero this
 show(?_:wpAny _ _ (PySem.call (.builtin "bytes.join") [.bytes #[] t0,.ref a]) Q E _);show wpAny_call_entry gf (typeIs_bytes _ _ t0) iJ ?_ (j5 _ _);show oG (fun U U U=>i9) ?_;show V (wpAny_typeOf E5.1.typeIs ?_);erw[ax (by decide)];show V (wpAny_tryCatch (wpAny_pyIter_gen E5.1 ?_))
 have xa:(passing (fun U=>true) K9.toArray.size 0).length=ids.length:=by erw[lE ..];simp[wD]
 show call_list_gen (A:=C.A.in1) (WalksS.of_in1 (A:=C.A.in1.in1.in1) W) (fun i s' st=>st.1.typeIs) E5 ?_ mem_cons_self (fun s' w8 c' hm KL km=>?_) (by(erw[xa,sizeLine_eq]);show nt)
 ·intro b hb;erw[Ld]
  rcases mem_cons.mp hb with rfl|hb
  ·show Nat.lt_succ_self _
  ·rcases mem_cons.mp hb with rfl|hb
   ·show Nat.lt_succ_of_lt ML
   ·show Nat.lt_succ_of_lt (Nat.lt_trans (mem_range.mp hb) ML)
 show aa (gZ (vs:=w8.toList) (ds:=ds) (by(erw[Array.length_toList,km.1,xa];show aD rfl HO)) fun j v ev=>by
  show hide fun H_ o_=>?_;show av (km.2 j v (by simpa using ev)) fun i hZ=>?_;show aA hZ fun hi hZ=>?_;show cj hZ ?_;rintro b t rfl hd;rw[lE]at hi
  obtain rfl:j=i:=by
   have:=dU hi;show av this fun U e=>?_
   simpa using e
  show o_ ?_
  show nH b t rfl hd) ?_;rintro bs fM jr
 show Jc _ _ w8.toList c' bs rfl KL (by simp) fM (by erw[rT jr];show hz) (fun r t k hr=>⟨_,rfl,?_⟩)
 have kf:∀b o,b<s3.heap.objs.size→h₅.get? b=some o→s'.heap.get? b=some o:=fun b o hb eb=>hm.heap b o (fun z=>by
  rcases mem_cons.mp z with z|z
  ·replace eb:=(show b=h₅.objs.size from z)▸eb;show absurd (Heap.lt_size eb) (Nat.lt_irrefl _)
  ·rcases mem_cons.mp z with z|z
   ·replace hb:=(show b=h4.objs.size from z)▸hb;show absurd (Nat.lt_trans hb IJ) (Nat.lt_irrefl _)
   ·replace hb:=mem_singleton.mp z▸hb
    show absurd hb (Nat.lt_irrefl _)) (aC _ _ b o eb)
 have kS:∀b o,b≠1043→s3.heap.get? b=some o→s'.heap.get? b=some o:=fun b o hb eb=>kf b o (Heap.lt_size eb) (Le b o (k4 b o hb eb));have t5:s'.heap.get? 1043=some ⟨.none,none,.fields CY,#[]⟩:=kf _ _ Af (Le _ _ t4);have hs:=Heap.SameBut.update s3.heap 1043 (fun U=>(⟨.none,none,.fields CY,#[]⟩:Obj));have Lf:(s3.heap.update 1043 (fun U=>(⟨.none,none,.fields CY,#[]⟩:Obj))).get? 1043=some ⟨.none,none,.fields CY,#[]⟩:=Heap.get?_update_self _ ht rfl
 have S5:St B C ρ3 env σ3 s'.heap:=by
  have:=(S3.kA (o:=.tab) HD (.head _) hs (by erw[Lf];rfl) ⟨rfl,CY,Lf,Ow⟩).bh (h':=s'.heap) fun b o eb=>by
   by_cases z:b=1043
   ·subst z;replace eb:=Lf▸eb
    injection eb with z;subst z
    show t5
   ·replace eb:=hs.2 b z▸eb;show kS b o z eb
  replace this:=set_same e2▸this;assumption
 have MM:∀b,b∉flat ρ3→b≠1043:=fun b n z=>n (z▸b8 HD (.head _))
 have K5:Kept C ρ3 s3 ρ3 {s' with toks:=k}:=by
  show⟨fun b o n U U eb=>kS b o (MM b n) eb,fun b o U n U eb=>⟨o,kS b o (MM b n) eb,rfl⟩,fun b eb=>?_,.refl _ _,⟨fun i x ex=>?_,fun ab=>(ab.push OB).moved hm.gens⟩,hm.os⟩
  ·by_cases z:b=1043
   ·subst z;erw[t5];rfl
   ·show av (iA eb) fun o ho=>?_;erw[kS b o z ho];rfl
  ·have hi:i<s3.gens.size:=(Array.getElem?_eq_some_iff.mp ex).1
   have e1:(s3.gens.push gs)[i]? =some x:=by(erw[Array.getElem?_push,ax (Nat.ne_of_lt ‹_›)]);show ex
   rcases hm.gens with z|⟨⟨_,z⟩,_⟩
   ·show(?_:s'.gens[i]? =_);erw[z];show e1
   ·show(z i (by show(?_:i≠s3.gens.size);show Nat.ne_of_lt ‹_›)).trans e1
 show q _ _ _ ρ3 {s' with toks:=k} hP (((K1.trans K2).trans K3).trans K5) S5 ⟨r,t,rfl,by(erw[hr];show aD rfl jr)⟩
theorem str_beq(x y:Str):(x.cps.toList==y.cps.toList)=decide (x=y):=by
 by_cases h:x=y
 ·subst h;simp
 ·erw[decide_eq_false h];rw[beq_eq_false_iff_ne];intro e;show h (Str.ext' (Array.toList_inj.mp e))
theorem BC(x y:Str):(x.cps.toList !=y.cps.toList)=!decide (x=y):=by show(?_:(!(x.cps.toList==y.cps.toList))=_);show aD rfl (str_beq ..)
theorem aM.eqStr(h:P (.bool (decide (x=y))) σ):aM B X env σ [.str x,.str y] (bK (compareOp .Eq)) P:=.two fun C O hX ρ s E Q vx vy S rx ry q=>by show av rx ?_;rintro t rfl;show av ry ?_;rintro u rfl;show PySem.P.eq_str (q _ _ _ ρ s h (.rr rfl rfl rfl) S (by erw[str_beq ..];rfl))
theorem aM.GS(h:P (.bool (!decide (x=y))) σ):aM B X env σ [.str x,.str y] (bK (compareOp .NotEq)) P:=.two fun C O hX ρ s E Q vx vy S rx ry q=>by show av rx ?_;rintro t rfl;show av ry ?_;rintro u rfl;show PySem.P.ne_str (q _ _ _ ρ s h (.rr rfl rfl rfl) S (by erw[BC ..];rfl))
theorem aM.CF(hd:X.d≤300){a b:Nat}(e:σ[a]? =some (.list l))(e2:σ[b]? =some (.list []))(h:P (.bool l.isEmpty) σ):aM B X env σ [.obj a,.obj b] (bK (compareOp .Eq)) P:=.two fun C O hX ρ s E Q vx vy S rx ry q=>by
 show cN (S.list rx e) ?_;rintro c vs hc rfl c2 pl rl;show cN (S.list ry e2) ?_;rintro d ws du rfl d2 xi xj;have l1:=rl.length;have l2:=xj.length;have hu:=gU O hX hd;obtain rfl:ws=[]:=length_eq_zero_iff.mp l2
 induction l using List.casesOn with
 |nil=>obtain rfl:vs=[]:=length_eq_zero_iff.mp l1;show SeqAt.eq_listAt (e:=fun U=>true) pl.isList xi.isList rfl hu (fun j h1 U=>absurd h1 (Nat.not_lt_zero _)) (q _ _ _ ρ s h (.rr rfl rfl rfl) S rfl)
 |cons x r=>show SeqAt.eq_list_lengthsAt pl.isList xi.isList ?_ hu (q _ _ _ ρ s h (.rr rfl rfl rfl) S rfl);simp only[List.size_toArray,bne_iff_ne];erw[l1];simp
theorem aM.CG(hd:X.d≤300){a b:Nat}(e:σ[a]? =some (.list l))(e2:σ[b]? =some (.list []))(h:P (.bool (!l.isEmpty)) σ):aM B X env σ [.obj a,.obj b] (bK (compareOp .NotEq)) P:=.two fun C O hX ρ s E Q vx vy S rx ry q=>by
 show cN (S.list rx e) ?_;rintro c vs hc rfl c2 pl rl;show cN (S.list ry e2) ?_;rintro d ws du rfl d2 xi xj;have l1:=rl.length;have l2:=xj.length;have hu:=gU O hX hd;obtain rfl:ws=[]:=length_eq_zero_iff.mp l2
 induction l using List.casesOn with
 |nil=>obtain rfl:vs=[]:=length_eq_zero_iff.mp l1;show SeqAt.RcNeAt.lists (e:=fun U=>true) pl.isList xi.isList rfl hu (fun j h1 U=>absurd h1 (Nat.not_lt_zero _)) _ _ _ _ (q _ _ _ ρ s h (.rr rfl rfl rfl) S rfl)
 |cons x r=>show SeqAt.RcNeAt.lists_lengths pl.isList xi.isList ?_ hu _ _ _ _ (q _ _ _ ρ s h (.rr rfl rfl rfl) S rfl);simp only[List.size_toArray,bne_iff_ne];erw[l1];simp
theorem bz.idx(r:bz h ρ l vs){j:Nat}(hj:j<l.length)(OC:j<vs.length):Rep h ρ l[j] vs[j]:=by
 show aa (r.get (n4 hj)) fun v e q=>?_;replace e:=(n4 OC)▸e
 injection e with z;subst z
 show q
theorem aM.Em(hd:X.d≤300){a b:Nat}{l m:List Str}(e:σ[a]? =some (.list (l.map .str)))(e2:σ[b]? =some (.list (m.map .str)))(h:P (.bool (decide (l=m))) σ):aM B X env σ [.obj a,.obj b] (bK (compareOp .Eq)) P:=.two fun C O hX ρ s E Q vx vy S rx ry q=>by
 show cN (S.list rx e) ?_;rintro c vs hc rfl c2 pl rl;show cN (S.list ry e2) ?_;rintro d ws du rfl d2 xi xj;have l1:=rl.length;have l2:=xj.length;rw[length_map]at l1 l2;have hu:=gU O hX hd
 by_cases hl:l.length=m.length
 ·show SeqAt.eq_listAt (e:=fun j=>l[j]? ==m[j]?) pl.isList xi.isList (by simp;ac_rfl) hu (fun j h1 h2=>?_) (q _ _ _ ρ s h (.rr rfl rfl rfl) S ?_)
  ·simp only[List.size_toArray]at h1 h2
   have j1:j<l.length:=by ac_rfl
   have j2:j<m.length:=by ac_rfl
   have q1:=rl.idx (j:=j) (by simpa using j1) h1;have q2:=xj.idx (j:=j) (by simpa using j2) h2;rw[getElem_map]at q1 q2;show av q1 fun t q1=>?_;show av q2 fun u q2=>?_;simp only[getElem_toArray];erw[q1,q2,n4 j1,n4 j2];show SeqAt.EqAt.str_str _ _ _ _
  ·congr 1
   rw[Bool.eq_iff_iff,List.all_eq_true,decide_eq_true_iff];simp only[List.size_toArray,mem_range,beq_iff_eq]
   constructor
   ·intro z;show ext_getElem? fun j=>?_
    by_cases hj:j<vs.length
    ·show z j hj
    ·erw[getElem?_eq_none (by ac_rfl)];show aD rfl (getElem?_eq_none (by ac_rfl))
   ·rintro rfl j U;rfl
 ·show SeqAt.eq_list_lengthsAt pl.isList xi.isList (by simp;ac_rfl) hu (q _ _ _ ρ s h (.rr rfl rfl rfl) S ?_);show(?_:_=_);erw[decide_eq_false fun z=>hl (by(show aD rfl z))];with_reducible rfl
theorem aM.wF{a:Nat}{l:List Str}(e:σ[a]? =some (.list (l.map .str)))(h:P (.bool (!l.contains x)) σ):aM B X env σ [.str x,.obj a] (bK (compareOp .NotIn)) P:=.two fun C O hX ρ s E Q vx vy S rx ry q=>by
 show av rx ?_;rintro t rfl;show cN (S.list ry e) ?_;rintro c vs hc rfl c2 pl rl;have hS:=mL rl;show SeqAt.notIn_listAt (fun v=>match v with| .str y _=>y==x|_=>false) pl.isList (fun y hy=>?_) (q _ _ _ ρ s h (.rr rfl rfl rfl) S ?_)
 ·show av (mem_iff_getElem.mp (by simpa using hy)) fun j hZ=>?_;show av hZ ?_;rintro hj rfl;have q1:=rl.idx (j:=j) (by show bD ?_ rl.length;show hj) hj;rw[getElem_map]at q1;show av q1 fun u q1=>?_;erw[q1];show SeqAt.EqAt.str_str _ _ _ _
 ·congr 2
  clear hc pl q S h e
  induction hS with
  |nil=>simp
  |cons m u r ih=>
   erw[contains_cons];show bD ?_ (ih (by show bb rl fun U U z U r2=>?_;injection z with z w;subst z;subst w;show r2));simp only[any_toArray,any_cons]
   congr 1
   show BEq.comm
theorem aM.Kb{a b:Nat}{m:List LV}(e:σ[a]? =some (.list l))(e2:σ[b]? =some (.list m))(hz:l.length+m.length≤100000)(h:P (.obj σ.length) (σ++[.list (l++m)])):aM B X env σ [.obj a,.obj b] (bK (binaryOp .Add)) P:=.two fun C O hX ρ s E Q vx vy S rx ry q=>by show cN (S.list rx e) ?_;rintro c vs hc rfl c2 pl rl;show cN (S.list ry e2) ?_;rintro d ws du rfl d2 xi xj;have l1:=rl.length;have l2:=xj.length;show av pl fun n ho=>?_;show av xi fun n2 B8=>?_;show PySem.P.add_list ho B8 ?_ (by erw[sizeLine_eq];simp;ac_rfl);have g:(s.heap.push {cls:=.type "list",data:=.seq (vs.toArray++ws.toArray)}).get? s.heap.objs.size=some {cls:=.type "list",data:=.seq (vs.toArray++ws.toArray)}:=gh _ rfl;have K1:Kept C ρ s (ρ++[(s.heap.objs.size,[])]) {s with heap:=s.heap.push {cls:=.type "list",data:=.seq (vs.toArray++ws.toArray)}}:=cU rfl rfl rfl;have S1:=S.fA (o:=.list (l++m)) (x:={cls:=.type "list",data:=.seq (vs.toArray++ws.toArray)}) rfl ⟨rfl,vs++ws,⟨0,by erw[g];simp⟩,(K1.gz S rl).append (K1.gz S xj)⟩;show q _ _ _ _ {s with heap:=s.heap.push {cls:=.type "list",data:=.seq (vs.toArray++ws.toArray)}} h K1 S1 (by show⟨(s.heap.objs.size,[]),by show bD ?_ S.len;simp,rfl⟩)
theorem bz.drop:∀(n:Nat) {l:List LV} {vs:List Value},bz h ρ l vs→bz h ρ (l.drop n) (vs.drop n)
 |0,_,_,r=>r
 |n+1,[],_,r=>by have r:_=[]:=r;subst r;show .nil
 |n+1,x::l,_,r=>by show bb r ?_;rintro v dX rfl U b;show bz.drop n b
theorem bz.take:∀(n:Nat) {l:List LV} {vs:List Value},bz h ρ l vs→bz h ρ (l.take n) (vs.take n)
 |0,_,_,r=>by(erw[take_zero,take_zero]);show .nil
 |n+1,[],_,r=>by have r:_=[]:=r;subst r;show .nil
 |n+1,x::l,_,r=>by show bb r ?_;rintro v dX rfl a b;show .cons a (bz.take n b)
theorem oJ{lo hi:Option Int}(S:St B C ρ env σ s.heap)(hl:s.heap.IsList a vs.toArray)(rl:bz s.heap ρ l vs)(pa:IsPart va lo)(pb:IsPart vb hi)(hz:l.length≤100000)(h:P (.obj σ.length) (σ++[.list (bE l lo hi)]))(q:∀r σ' v ρ' s',P r σ'→Kept C ρ s ρ' s'→St B C ρ' env σ' s'.heap→Rep s'.heap ρ' r v→Q v s'):
  ∃T id,typeLookup (.type T) "__getitem__"=pure (some (.builtin id))∧s.TypeIs (.ref a) T∧
   (({s with heap:=s.heap.push {cls:=.type "slice",data:=.fields #[va,vb,.none]}}:Shared).TypeIs (.ref a) T)∧wpAny B.M C.A (getItem (.ref a) (.ref s.heap.objs.size)) Q E {s with heap:=s.heap.push {cls:=.type "slice",data:=.fields #[va,vb,.none]}}:=by
 have kp:=aC s.heap {cls:=.type "slice",data:=.fields #[va,vb,.none]};have sH:(s.heap.push {cls:=.type "slice",data:=.fields #[va,vb,.none]}).IsList a vs.toArray:=hl.push _;have len:=rl.length;show AB ("list") _ slot_list_getitem.lookup hl.typeIs sH.typeIs ?_;show wpAny_getItem_list_slice (s:={s with heap:=s.heap.push {cls:=.type "slice",data:=.fields #[va,vb,.none]}}) sH (Heap.IsSliceOf.new _ _ _ _) pa pb .none (by intro z;right) ?_ (by erw[sizeLine_eq];simp;ac_rfl)
 have hp:slicePick vs.toArray lo hi none=(bE vs lo hi).toArray:=by erw[slicePick_plain ..];unfold bE;simp
 erw[hp];have S1:St B C ρ env σ (s.heap.push {cls:=.type "slice",data:=.fields #[va,vb,.none]}):=S.bh kp;have K1:Kept C ρ s ρ {s with heap:=s.heap.push {cls:=.type "slice",data:=.fields #[va,vb,.none]}}:=aR kp rfl rfl;have OD:=K1.gz S rl
 have K2:Kept C ρ {s with heap:=s.heap.push {cls:=.type "slice",data:=.fields #[va,vb,.none]}} (ρ++[((s.heap.push {cls:=.type "slice",data:=.fields #[va,vb,.none]}).objs.size,[])])
   {s with heap:=(s.heap.push {cls:=.type "slice",data:=.fields #[va,vb,.none]}).push {cls:=.type "list",data:=.seq (bE vs lo hi).toArray}}:=cU rfl rfl rfl
 have g:((s.heap.push {cls:=.type "slice",data:=.fields #[va,vb,.none]}).push {cls:=.type "list",data:=.seq (bE vs lo hi).toArray}).get? (s.heap.push {cls:=.type "slice",data:=.fields #[va,vb,.none]}).objs.size=some {cls:=.type "list",data:=.seq (bE vs lo hi).toArray}:=gh _ rfl
 have S2:=S1.fA (o:=.list (bE l lo hi)) (x:={cls:=.type "list",data:=.seq (bE vs lo hi).toArray}) rfl ⟨rfl,bE vs lo hi,⟨0,by(show aD rfl g)⟩,by
  have e1:bE l lo hi=(l.drop (lo.elim 0 (clipAt vs.length))).take (hi.elim vs.length (clipAt vs.length)-lo.elim 0 (clipAt vs.length)):=by unfold bE;show aD rfl len
  erw[e1]
  show((K2.gz S1 OD).drop _).take _⟩
 show q _ _ _ _ _ h (K1.trans K2) S2 (by show⟨(_,[]),by show bD ?_ S.len;simp,rfl⟩)
theorem eG.list{a:Nat}{lo hi:Option Int}(e:σ[a]? =some (.list l))(hz:l.length≤100000)(h:P (.obj σ.length) (σ++[.list (bE l lo hi)])):eG B X env σ (.obj a) lo hi P:=fun C O hX ρ s E Q x va vb S r pa pb q=>by show cN (S.list r e) ?_;rintro c vs hc rfl c2 pl rl;show oJ S pl.isList rl pa pb hz h q
theorem eG.kq{lo hi:Option Int}(hz:l.length≤100000)(h:P (.obj σ.length) (σ++[.list (bE l lo hi)])):eG B X env σ (.kq l) lo hi P:=fun C O hX ρ s E Q x va vb S r pa pb q=>by show bY r ?_;rintro a vs rfl na hl hr;show oJ S hl hr pa pb hz h q
theorem nM.kq{PB:Bool→List LO→Prop}(hz:l.length≤100000)(h:PB (!l.isEmpty) σ):nM B env σ (.kq l) PB:=fun C O ρ s E Q v S r q=>by
 show bY r ?_;rintro a vs rfl na hl hr;have len:=hr.length;show wpAny_truthy_list hl (by simp;lia) (q _ _ ρ _ (cast ?_ h) (.rr rfl rfl rfl) S)
 congr 1
 cases l<;>(first|subst vs|cases vs)<;>simp_all
def Ext(σ σ':List LO):Prop:=∀(k:Nat) (o:LO),σ[k]? =some o→σ'[k]? =some o
theorem Ext.refl(σ:List LO):Ext σ σ:=fun U U e=>e
theorem Ext.trans{a:List LO}(x:Ext a b)(y:Ext b c):Ext a c:=fun k o e=>y k o (x k o e)
theorem Ext.app(σ ex:List LO):Ext σ (σ++ex):=fun k o e=>by erw[getElem?_append_left (dU e).1];show e
theorem Ext.len(x:Ext σ σ'):σ.length≤σ'.length:=by
 by_cases h:σ.length=0
 ·lia
 have e:=x (σ.length-1) σ[σ.length-1] (n4 (by lia));have:=(dU e).1;omega
theorem Ext.dM{j:Nat}(x:Ext σ σ')(h:σ.length≤j):Ext σ (σ'.set j y):=fun k o e=>by erw[getElem?_set_ne (by have:=(dU e).1;ac_rfl)];show x k o e
theorem gv.mono{P P':Bool→List LO→Prop}(h:gv B X env σ e P)(k:∀b s,P b s→P' b s):gv B X env σ e P':=fun C O hX ρ s E Q S qe q=>h C O hX ρ s E Q S qe fun r σ' ρ' s' p=>q r σ' ρ' s' (k _ _ p)
theorem sM.mono{P P':Bool→List LO→Prop}(k:∀b s,P b s→P' b s):∀{l:List Expr},sM B X env σ P l→sM B X env σ P' l
 |[],h=>k _ _ h
 |[_],h=>gv.mono h k
 |_::_::_,h=>h.elim
noncomputable def Src.first(t:Src)(sel:LV→Bool)(val:LV→LV)(i:Nat):List LV:=(((range i).filterMap t.items).filter sel).map val
theorem Src.mW{t:Src}{sel:LV→Bool}{val:LV→LV}{i:Nat}{v:LV}(h:t.items i=some v):t.first sel val (i+1)=t.first sel val i++if sel v=true then[val v]else[]:=by
 unfold Src.first;erw[range_succ,filterMap_append,filter_append ..,map_append];simp only[filterMap_cons,filterMap_nil,h]
 by_cases z:sel v=true
 ·erw[aJ z];simp[z]
 ·erw[ax z];simp[z]
theorem aS.cC(hn:X.hn=true){iter:Expr}(F:iC scope X.sc fs)(hx:(bT scope X.sc).names.lookup x=some .local)(EU:x∉fs)(sel:LV→Bool)(val:LV→LV)(h:aS B X env σ iter fun o σ1=>∃t:Src,o=t.val∧t.fit B∧t.top≤1000000∧(∀σ2,Ext σ1 σ2→t.ok σ2)∧
   (∀i v σ2,t.items i=some v→Ext σ1 σ2→sM B (X.cmp scope) (put x v (cO fs env)) σ2 (fun b σ3=>b=sel v∧Ext σ2 σ3) ifs)∧
   (∀i v σ2,t.items i=some v→sel v=true→Ext σ1 σ2→aS B (X.cmp scope) (put x v (cO fs env)) σ2 elt fun r σ3=>r=val v∧Ext σ2 σ3)∧
   ∀σ2,Ext σ1 σ2→σ2[σ1.length]? =some (.list (t.first sel val t.top))→P (.obj σ1.length) σ2) (hs:∀ae v,foldedSetIterable iter ae v=pure v:=by intro U U;rfl):aS B X env σ (.ListComp elt [⟨.Name x px,iter,ifs,0⟩] scope pos) P:=by
 show .comp hn F hx EU (h.mono fun o σ1 q=>?_) hs;show Je q ?_;clear q;rintro t rfl fit top ok tests elts fin;show⟨t,fun i a σ2=>Ext σ1 σ2∧a=t.first sel val i∧i≤t.top,rfl,fit,top,⟨.app _ _,rfl,Nat.zero_le _⟩,fun i a σ2 hJ=>ok σ2 hJ.1,ok σ1 (.refl _),?_,?_⟩
 ·rintro i v a σ2 hi zq;show ju zq ?_;clear zq;rintro x2 ha hle;rintro km
  have nG:i<t.top:=Nat.lt_of_not_le fun z=>by replace hi:=t.stop i z▸hi;right
  show sM.mono (fun b σ3 q=>?_) (tests i v σ2 hi x2);show aA q ?_;clear q;rintro hb x3;show⟨fun z=>⟨x3 _ _ km,x2.trans x3,?_,nG⟩,fun z=>?_⟩
  ·(erw[Src.mW hi,ax (by(show bD ?_ hb;show aD ?_ z);decide),append_nil ..]);show ha
  ·show(elts i v σ3 hi (hb▸z) (x2.trans x3)).mono fun r σ4 q=>?_;show aA q ?_;clear q;rintro rfl x4;show⟨x4 _ _ (x3 _ _ km),((x2.trans x3).trans x4).dM (Nat.le_refl _),?_,nG⟩;erw[Src.mW hi,aJ (hb▸z)];show aD rfl ha
 ·rintro i a σ2 hi zq;show ju zq ?_;clear zq;rintro x2 rfl hle;rintro km
  have:i=t.top:=by
   induction t using Src.casesOn with
   |list id ls=>have hi:ls[i]? =none:=hi;have:i≤ls.length:=hle;have:=List.getElem?_eq_none_iff.mp hi;show(?_:i=ls.length);ac_rfl
   |lZ a b c=>
    have hi:bS a b c i=none:=hi;have hle:i≤(Builtin.Range.rangeSize a b c).toNat:=hle;unfold bS at hi
    split at hi
    ·right
    ·show(?_:i=(Builtin.Range.rangeSize a b c).toNat);ac_rfl
   |iX d l=>have hi:(l[i]?).map LV.int=none:=hi;have:i≤l.length:=hle;have:=List.getElem?_eq_none_iff.mp (Option.map_eq_none_iff.mp hi);show(?_:i=l.length);ac_rfl
  subst this;show fin σ2 x2 km
inductive TE where
 |fr (k az:Int) (names:List Str) (d:List Int) (m:Int)
 |fault (s:Str)
structure Row where
 k:Int
 f:Int
 st:Int
 b:List Int
def Row.oct(r:Row):List Int:=octets r.k r.f r.st r.b
structure Row.Ok(r:Row):Prop where
 k:0≤r.k∧r.k<256
 f:0≤r.f∧r.f<256
 st:0≤r.st∧r.st<4294967296
 b:r.b.length≤1000
 o:cS r.b
structure PF where
 k:Int
 az:Int
 fl:List Str
 d:List Int
 m:Int
abbrev aP:Str:=oS "refused"
abbrev eM:Str:=oS "large"
abbrev dT:Str:=oS "missing"
set_option genCtorIdx true in
inductive Step where
 |stop
 |err (e:Str)
 |got (p:PF) (n:Nat)
def bG(mx:Int)(d:List Int):Step:=
 if d.length<9 then .stop
 else if aK ((d.take 9).getD 3 0) (strOf (d.take 9))then .err aP
 else if(d.length:Int)<lenOf (d.take 9)+9 then .stop
 else if lenOf (d.take 9)>mx then .err eM
 else if(bodyOf ((d.take 9).getD 3 0) ((d.take 9).getD 4 0) ((d.drop 9).take (lenOf (d.take 9)).toNat)).fault= oS "" then
  .got ⟨(d.take 9).getD 3 0,strOf (d.take 9),aU ((d.take 9).getD 3 0) ((d.take 9).getD 4 0),(bodyOf ((d.take 9).getD 3 0) ((d.take 9).getD 4 0) ((d.drop 9).take (lenOf (d.take 9)).toNat)).data,(bodyOf ((d.take 9).getD 3 0) ((d.take 9).getD 4 0) ((d.drop 9).take (lenOf (d.take 9)).toNat)).more⟩ (9+(lenOf (d.take 9)).toNat)
 else .err (bodyOf ((d.take 9).getD 3 0) ((d.take 9).getD 4 0) ((d.drop 9).take (lenOf (d.take 9)).toNat)).fault
set_option genCtorIdx true in
inductive Upd where
 |err
 |out (g:PF)
 |hold (hl:List PF)
def upd(hl:List PF)(f:PF):Upd:=match hl with
 |[]=>if((f.k==1 ||f.k==5)&&!(f.fl.contains bw))=true then .hold [f]else .out f
 |a::r=>if(f.k==9&&f.az==a.az)=true then(if(a::r).length+1>64 then .err else if f.fl.contains bw=true then .out {a with fl:=dg a.fl bw,d:=((a::r++[f]).map (·.d)).flatten}else .hold (a::r++[f]))else .err
set_option genCtorIdx true in
inductive En where
 |stop (d:List Int) (hl:List PF)
 |err (e:Str)
 |got (g:PF) (d:List Int)
inductive cK(mx:Int):List Int→List PF→En→Prop
 |stop {d hl}:bG mx d= .stop→cK mx d hl (.stop d hl)
 |err {d hl e}:bG mx d= .err e→cK mx d hl (.err e)
 |wG {d hl f n}:bG mx d= .got f n→upd hl f= .err→cK mx d hl (.err aP)
 |out {d hl f n g}:bG mx d= .got f n→upd hl f= .out g→cK mx d hl (.got g (d.drop n))
 |hold {d hl f n eS r}:bG mx d= .got f n→upd hl f= .hold eS→cK mx (d.drop n) eS r→cK mx d hl r
def PF.te(p:PF):TE:=.fr p.k p.az (bH p.fl) p.d p.m
inductive qd where
 |stop (t:List TE) (d:List Int) (hl:List PF)
 |halt (t:List TE)
inductive cE(mx:Int):List Int→List PF→List TE→qd→Prop
 |stop {d hl t d' eS}:cK mx d hl (.stop d' eS)→cE mx d hl t (.stop t d' eS)
 |err {d hl t e}:cK mx d hl (.err e)→cE mx d hl t (.halt (t++[.fault e]))
 |full {d hl t g d'}:cK mx d hl (.got g d')→24<(t++[g.te]).length→cE mx d hl t (.halt (t++[g.te]))
 |more {d hl t g d' r}:cK mx d hl (.got g d')→¬ 24<(t++[g.te]).length→cE mx d' [] (t++[g.te]) r→cE mx d hl t r
noncomputable def Row.az(r:Row):Int:=r.st.fmod 2147483648
def Row.fault(mx:Int)(r:Row):Str:=if(r.b.length:Int)>mx then eM else(bodyOf r.k r.f r.b).fault
def Row.names(r:Row):List Str:=bH (cD r.k r.f)
def Row.pf(r:Row):PF:=⟨r.k,r.az,r.names,(bodyOf r.k r.f r.b).data,(bodyOf r.k r.f r.b).more⟩
noncomputable def cY(bl:List PF)(r:Row):Bool:=match bl with
 |[]=>false
 |a::t=>r.k !=9 ||r.az !=a.az||(a::t).length==64
def Row.bB(mx:Int)(bl:List PF)(r:Row):Str:=if(r.fault mx== oS ""&&cY bl r)=true then aP else r.fault mx
def bN(mx:Int):List Row→Int→List PF→List (Int×TE)
 |[],_,_=>[]
 |r::rest,place,bl=>
  if aK r.k r.az=true then[(place+9,.fault aP)]
  else if r.bB mx bl≠oS "" then[(place+(9+r.b.length),.fault (r.bB mx bl))]
  else match bl with
   |[]=>if((r.k==1 ||r.k==5)&&!(r.names.contains bw))=true then bN mx rest (place+(9+r.b.length)) [r.pf]
    else(place+(9+r.b.length),.fr r.k r.az r.names r.pf.d r.pf.m)::bN mx rest (place+(9+r.b.length)) []
   |a::t=>if r.names.contains bw=true then(place+(9+r.b.length),.fr a.k r.az (bH (a.fl++[bw])) ((a::t++[r.pf]).map (·.d)).flatten a.m)::bN mx rest (place+(9+r.b.length)) []
    else bN mx rest (place+(9+r.b.length)) (a::t++[r.pf])
theorem qf(r:Row):r.oct=[(r.b.length:Int)/256/256 % 256,(r.b.length:Int)/256 % 256,(r.b.length:Int) % 256,r.k,r.f,r.st/256/256/256 % 256,r.st/256/256 % 256,r.st/256 % 256,r.st % 256]++r.b:=rfl
theorem lV(r:Row):r.oct.length=9+r.b.length:=by(erw[qf ..,length_append]);rfl
theorem BD(r:Row)(h:r.Ok):strOf [(r.b.length:Int)/256/256 % 256,(r.b.length:Int)/256 % 256,(r.b.length:Int) % 256,r.k,r.f,r.st/256/256/256 % 256,r.st/256/256 % 256,r.st/256 % 256,r.st % 256]=r.az:=by
 have e:KFB.value [r.st/256/256/256 % 256,r.st/256/256 % 256,r.st/256 % 256,r.st % 256]=r.st:=by have:=h.st;show(?_:(((0*256+r.st/256/256/256 % 256)*256+r.st/256/256 % 256)*256+r.st/256 % 256)*256+r.st % 256=r.st);lia
 show(?_:Builtin.bitAnd (KFB.value [r.st/256/256/256 % 256,r.st/256/256 % 256,r.st/256 % 256,r.st % 256]) 2147483647=_)
 (erw[e,y7 h.st.1]);rfl
theorem BE(r:Row)(h:r.Ok):lenOf [(r.b.length:Int)/256/256 % 256,(r.b.length:Int)/256 % 256,(r.b.length:Int) % 256,r.k,r.f,r.st/256/256/256 % 256,r.st/256/256 % 256,r.st/256 % 256,r.st % 256]=r.b.length:=by have:=h.b;show(?_:KFB.value [(r.b.length:Int)/256/256 % 256,(r.b.length:Int)/256 % 256,(r.b.length:Int) % 256]=_);simp only[KFB.value,foldl_cons,foldl_nil];lia
theorem tR(mx:Int)(r:Row)(h:r.Ok)(rest:List Int)(n:Nat):bG mx ((r.oct++rest).take n)=
  if n<9 then .stop else if aK r.k r.az=true then .err aP else if n<9+r.b.length then .stop else if(r.b.length:Int)>mx then .err eM
  else if(bodyOf r.k r.f r.b).fault= oS "" then .got ⟨r.k,r.az,aU r.k r.f,(bodyOf r.k r.f r.b).data,(bodyOf r.k r.f r.b).more⟩ (9+r.b.length)else .err (bodyOf r.k r.f r.b).fault:=by
 have hl:(r.oct++rest).length=9+r.b.length+rest.length:=by(erw[length_append];show aD rfl (lV ..))
 unfold bG
 by_cases h9:n<9
 ·erw[aJ h9,aJ (by show aD ?_ length_take;ac_rfl)];with_reducible rfl
 erw[ax h9,ax (by(show aD ?_ length_take;show aD ?_ hl);ac_rfl)]
 have ht:((r.oct++rest).take n).take 9=[(r.b.length:Int)/256/256 % 256,(r.b.length:Int)/256 % 256,(r.b.length:Int) % 256,r.k,r.f,r.st/256/256/256 % 256,r.st/256/256 % 256,r.st/256 % 256,r.st % 256]:=by erw[take_take,Nat.min_eq_left (Nat.le_of_not_lt ‹_›),qf ..,append_assoc ..];rfl
 erw[ht,BD r h,BE r h];show(?_:(if aK r.k r.az=true then _ else _)=_)
 by_cases hb:aK r.k r.az=true
 ·erw[aJ hb];show aD rfl (aJ hb)
 erw[ax hb,ax hb]
 by_cases hn:n<9+r.b.length
 ·erw[aJ hn,aJ (by(show aD ?_ length_take;show aD ?_ hl);ac_rfl)];with_reducible rfl
 erw[ax hn,ax (by(show aD ?_ length_take;show aD ?_ hl);ac_rfl)]
 by_cases hm:(r.b.length:Int)>mx
 ·erw[aJ hm];show aD rfl (aJ hm)
 erw[ax hm,ax hm]
 have nv:(((r.oct++rest).take n).drop 9).take (r.b.length:Int).toNat=r.b:=by erw[drop_take,take_take,qf ..,append_assoc ..];show(?_:List.take _ (r.b++rest)=_);erw[show min (r.b.length:Int).toNat (n-9)=r.b.length by ac_rfl];simp
 erw[nv];rfl
def g8:List PF→List PF→Prop:=F2 fun p q=>p.k=q.k∧p.az=q.az∧bH p.fl=q.fl∧p.d=q.d∧p.m=q.m∧p.fl.contains bw=false
theorem g8.rV{l m:List PF}(h:g8 l m):l.map (·.d)=m.map (·.d):=F2.map (fun U U r=>r.2.2.2.1) h
theorem cE.step{mx:Int}{d:List Int}{r:qd}(h:cE mx d hl t r):match bG mx d with
  | .stop=>r= .stop t d hl
  | .err e=>r= .halt (t++[.fault e])
  | .got f n=>match upd hl f with
   | .err=>r= .halt (t++[.fault aP])
   | .hold eS=>cE mx (d.drop n) eS t r
   | .out g=>(24<(t++[g.te]).length∧r= .halt (t++[g.te]))∨(¬ 24<(t++[g.te]).length∧cE mx (d.drop n) [] (t++[g.te]) r):=by
 cases h with
 |stop h=>cases h with
  |stop e=>(show aD rfl e)
  |hold e u h=>erw[e];dsimp only;erw[u];show .stop h
 |err h=>cases h with
  |err e=>(show aD rfl e)
  |wG e u=>erw[e];dsimp only;show aD rfl u
  |hold e u h=>erw[e];dsimp only;erw[u];show .err h
 |full h z=>cases h with
  |out e u=>erw[e];dsimp only;erw[u];show .inl ⟨z,rfl⟩
  |hold e u h=>erw[e];dsimp only;erw[u];show .full h z
 |more h z k=>cases h with
  |out e u=>erw[e];dsimp only;erw[u];show .inr ⟨z,k⟩
  |hold e u h=>erw[e];dsimp only;erw[u];show .more h z k
theorem j7(mx:Int)(rows:List Row):∀(place:Int) (bl:List PF) (e:Int×TE),e∈bN mx rows place bl→place+9≤e.1:=by
 induction rows with
 |nil=>intro _ _ _ h;right
 |cons r rest ih=>
  intro place bl e h
  replace h:e∈(if aK r.k r.az=true then _ else if r.bB mx bl≠oS "" then _ else _):=h
  split at h
  ·obtain rfl:=mem_singleton.mp h;show Int.le_refl _
  split at h
  ·obtain rfl:=mem_singleton.mp h;show(?_:place+9≤place+(9+(r.b.length:Int)));lia
  replace ih:=fun bl h=>ih (place+(9+r.b.length)) bl e h
  split at h
  ·split at h
   ·have:=ih _ h;ac_rfl
   ·rcases mem_cons.mp h with rfl|h
    ·show(?_:place+9≤place+(9+(r.b.length:Int)));lia
    ·have:=ih _ h;ac_rfl
  ·split at h
   ·rcases mem_cons.mp h with rfl|h
    ·show(?_:place+9≤place+(9+(r.b.length:Int)));lia
    ·have:=ih _ h;ac_rfl
   ·have:=ih _ h;ac_rfl
theorem zd(mx:Int){r:Row}{place:Int}(hb:¬ aK r.k r.az=true)(e:Int×TE)(h:e∈bN mx (r::rest) place bl):place+(9+r.b.length)≤e.1:=by
 replace h:e∈(if aK r.k r.az=true then _ else if r.bB mx bl≠oS "" then _ else _):=h;replace h:=ax hb▸h;have ih:=fun bl h=>j7 mx rest (place+(9+r.b.length)) bl e h
 split at h
 ·obtain rfl:=mem_singleton.mp h;show Int.le_refl _
 split at h
 ·split at h
  ·have:=ih _ h;ac_rfl
  ·rcases mem_cons.mp h with rfl|h
   ·show Int.le_refl _
   ·have:=ih _ h;ac_rfl
 ·split at h
  ·rcases mem_cons.mp h with rfl|h
   ·show Int.le_refl _
   ·have:=ih _ h;ac_rfl
  ·have:=ih _ h;ac_rfl
def cq(rows:List Row)(tail:List Int):List Int:=(rows.map Row.oct).flatten++tail
theorem ik(r:Row)(rest:List Row)(tail:List Int):cq (r::rest) tail=r.oct++cq rest tail:=by unfold cq;simp
def rW(mx:Int)(tail:List Int)(rows:List Row)(bl:List PF)(place:Int)(n:Nat)(t:List TE)(r:qd):Prop:=
 ∃es rem,bN mx rows place bl=es++rem∧(∀e∈es,e.1≤place+n)∧(∀e∈rem,place+n<e.1)∧match r with
  | .halt t'=>t'=t++es.map (·.2)∧rem=[]
  | .stop t' d' eS=>t'=t++es.map (·.2)∧∃(m:Nat) (rows':List Row) (bl':List PF),m≤n∧(∀x∈rows',x.Ok)∧g8 eS bl'∧eS.length≤64∧rem=bN mx rows' (place+m) bl'∧d'=(cq rows' tail).take (n-m)∧(cq rows tail).drop m=cq rows' tail
theorem rW.here{mx:Int}{tail:List Int}{rows:List Row}{hl bl:List PF}{place:Int}{n:Nat}(ho:∀x∈rows,x.Ok)(hb:g8 hl bl)(hz:hl.length≤64)(h:∀e∈bN mx rows place bl,place+n<e.1):
  rW mx tail rows bl place n t (.stop t ((cq rows tail).take n) hl):=
 ⟨[],_,rfl,fun e he=>by simp at he,h,by simp,0,rows,bl,Nat.zero_le _,ho,hb,hz,by simp,by simp,by rfl⟩
theorem rW.fault{mx:Int}{tail:List Int}{place p:Int}{n:Nat}{s:Str}(h:bN mx rows place bl=[(p,.fault s)])(hp:p≤place+n):rW mx tail rows bl place n t (.halt (t++[.fault s])):=
 ⟨_,[],by(erw[h];rw[append_nil]),fun e he=>by obtain rfl:=mem_singleton.mp he;show hp,fun e he=>by simp at he,rfl,rfl⟩
theorem rW.lift{mx:Int}{tail:List Int}{r0:Row}{place:Int}{n:Nat}{r:qd}(pre:List (Int×TE))(hn:9+r0.b.length≤n)(hd:bN mx (r0::rest) place bl=pre++bN mx rest (place+(9+r0.b.length)) Lg)(hp:∀e∈pre,e.1≤place+n)(h:rW mx tail rest Lg (place+(9+r0.b.length)) (n-(9+r0.b.length)) (t++pre.map (·.2)) r):
  rW mx tail (r0::rest) bl place n t r:=by
 show bY h fun es rem e1 e2 e3 e4=>?_
 have cR:place+(9+(r0.b.length:Int))+((n-(9+r0.b.length):Nat):Int)=place+n:=by omega
 rw[cR]at e2 e3;show AB (pre++es) rem (by(erw[hd,e1];show aD rfl (append_assoc ..))) (fun e he=>(mem_append.mp he).elim (hp e) (e2 e)) e3 ?_
 cases r with
 |halt t'=>show⟨by(erw[e4.1,map_append];show aD rfl (append_assoc ..)),e4.2⟩
 |stop t' d' eS=>
  show hide fun H_ o_=>?_;show aA e4 fun q1 hZ=>?_;show xA hZ fun m rows' bl' q2 q3 q4 q5 q6 q7 q8=>?_;show o_ ?_;show⟨by(erw[q1,map_append];show aD rfl (append_assoc ..)),9+r0.b.length+m,rows',bl',by ac_rfl,q3,q4,q5,?_,?_,?_⟩
  ·erw[q6];congr 1;lia
  ·erw[q7];congr 1;lia
  ·erw[ik ..];show bD ?_ drop_drop;show bD ?_ (lV ..);erw[drop_left];show aD rfl q8
theorem wH(r:Row)(h:r.Ok):(aU r.k r.f).contains bw=r.names.contains bw∧bH (aU r.k r.f)=r.names:=by show xw (kP r.k h.f) fun U U U e U=>?_;erw[e];show⟨?_,rfl⟩;show((dD (cD r.k r.f)).contains_eq).symm
theorem BF{fl:List Str}(h:fl.contains bw=false):bH (dg fl bw)=bH (bH fl++[bw]):=by unfold dg;erw[h];show(rn ((dD fl).append_right _)).symm
theorem wI(mx:Int)(tail:List Int)(lI:∀n,bG mx (tail.take n)= .stop):∀(rows:List Row),(∀x∈rows,x.Ok)→∀(hl bl:List PF) (place:Int) (n:Nat) (t:List TE) (r:qd),g8 hl bl→hl.length≤64→t.length+(bN mx rows place bl).length≤24→
  cE mx ((cq rows tail).take n) hl t r→rW mx tail rows bl place n t r:=by
 intro rows
 induction rows with
 |nil=>
  intro ho hl bl place n t r hb hz hc hD;have st:=hD.step;replace st:=(show cq [] tail=tail from rfl)▸st;replace st:=lI n▸st;subst st
  show .here ho hb hz fun e he=>by right
 |cons r0 rest ih=>
  intro ho hl bl place n t r hb hz hc hD;have h0:=ho r0 (.head _);have hr:=fun x hx=>ho x (.tail _ hx);have st:=hD.step;rw[ik,tR mx r0 h0]at st
  have nD:(((r0.oct++cq rest tail).take n).drop (9+r0.b.length))=(cq rest tail).take (n-(9+r0.b.length)):=by(erw[drop_take];show bD ?_ (lV ..);show aD rfl drop_left)
  by_cases h9:n<9
  ·replace st:=aJ h9▸st;erw[st];show bD ?_ (ik ..)
   show .here ho hb hz fun e he=>by have:=j7 _ _ _ _ e he;ac_rfl
  replace st:=ax h9▸st
  by_cases hh:aK r0.k r0.az=true
  ·replace st:=aJ hh▸st;erw[st];show .fault (aJ hh) (by ac_rfl)
  replace st:=ax hh▸st
  by_cases hn:n<9+r0.b.length
  ·replace st:=aJ hn▸st;erw[st];show bD ?_ (ik ..)
   show .here ho hb hz fun e he=>by have:=zd mx hh e he;ac_rfl
  replace st:=ax hn▸st
  have MN:∀s,r0.fault mx=s→s≠oS ""→r0.bB mx bl=s:=fun s e z=>by
   unfold Row.bB
   (erw[e,oW z]);rfl
  have Cg:∀s,r0.bB mx bl=s→s≠oS ""→bN mx (r0::rest) place bl=[(place+(9+r0.b.length),.fault s)]:=fun s e z=>by show(?_:(if aK r0.k r0.az=true then _ else if r0.bB mx bl≠oS "" then[(place+(9+r0.b.length),TE.fault (r0.bB mx bl))]else _)=_);erw[ax hh,aJ (by show aD ?_ e;show z)];show aD rfl e
  by_cases hm:(r0.b.length:Int)>mx
  ·replace st:=aJ hm▸st;erw[st];show .fault (Cg _ (MN _ (by unfold Row.fault;(show aD rfl (aJ hm))) (by decide)) (by decide)) (by ac_rfl)
  replace st:=ax hm▸st
  have MO:r0.fault mx=(bodyOf r0.k r0.f r0.b).fault:=by unfold Row.fault;show aD rfl (ax hm)
  by_cases hf:(bodyOf r0.k r0.f r0.b).fault= oS ""
  case neg=>
   replace st:=ax hf▸st;erw[st];show .fault (Cg _ (MN _ MO hf) hf) (by ac_rfl)
  replace st:=aJ hf▸st;dsimp only at st;replace st:=nD▸st;show aA (wH r0 h0) fun n1 n2=>?_
  have dG:r0.bB mx bl=if cY bl r0=true then aP else oS "":=by unfold Row.bB;erw[MO,hf];cases cY bl r0<;>rfl
  have cR:9+r0.b.length≤n:=by show Nat.le_of_not_lt ‹_›
  rcases hb.two with⟨rfl,rfl⟩|⟨a,l,q,m,rfl,rfl⟩
  ·skip
   have hd:bN mx (r0::rest) place []=if((r0.k==1 ||r0.k==5)&&!(r0.names.contains bw))=true then bN mx rest (place+(9+r0.b.length)) [r0.pf]
    else(place+(9+r0.b.length),.fr r0.k r0.az r0.names r0.pf.d r0.pf.m)::bN mx rest (place+(9+r0.b.length)) []:=by
    show(?_:(if aK r0.k r0.az=true then _ else if r0.bB mx []≠oS "" then _ else _)=_);erw[ax hh,ax (by show aD ?_ dG;simp[cY])];with_reducible rfl
   unfold upd at st;dsimp only at st;replace st:=n1▸st
   by_cases hq:((r0.k==1 ||r0.k==5)&&!(r0.names.contains bw))=true
   ·rw[aJ hq]at st hd
    have jn:r0.names.contains bw=false:=by
     rw[Bool.and_eq_true]at hq
     simpa using hq.2
    show .lift [] cR hd (fun e he=>by right) (ih hr [⟨r0.k,r0.az,aU r0.k r0.f,(bodyOf r0.k r0.f r0.b).data,(bodyOf r0.k r0.f r0.b).more⟩] _ _ _ _ _ ⟨⟨rfl,rfl,n2,rfl,rfl,n1.trans jn⟩,trivial⟩ (Nat.succ_pos _) (by replace hc:=hd▸hc;simpa using hc) (by simpa using st))
   ·rw[ax hq]at st hd;dsimp only at st
    have Lh:PF.te ⟨r0.k,r0.az,aU r0.k r0.f,(bodyOf r0.k r0.f r0.b).data,(bodyOf r0.k r0.f r0.b).more⟩= .fr r0.k r0.az r0.names r0.pf.d r0.pf.m:=by unfold PF.te;erw[n2];rfl
    replace st:=Lh▸st;replace hc:=hd▸hc;replace hc:=length_cons▸hc
    rcases st with⟨z,_⟩|⟨_,st⟩
    ·(replace z:=length_append▸z;replace z:=length_singleton▸z);ac_rfl
    show .lift [(place+(9+r0.b.length),.fr r0.k r0.az r0.names r0.pf.d r0.pf.m)] cR hd (fun e he=>by obtain rfl:=mem_singleton.mp he;show(?_:place+(9+(r0.b.length:Int))≤_);ac_rfl) (ih hr [] _ _ _ _ _ trivial (Nat.zero_le _) (by simp only[map_cons,map_nil,length_append,length_singleton];ac_rfl) st)
  ·skip
   have hlen:=hb.length;show hide fun H_ o_=>?_;show aA (id hb) ?_;rintro⟨b1,b2,b3,b4,b5,b6⟩ hb';unfold upd at st;dsimp only at st;show o_ ?_
   by_cases hv:(r0.k==9&&r0.az==a.az)=true
   case neg=>
    replace st:=ax hv▸st;erw[st]
    show .fault (Cg _ (by
     erw[dG];rw[aJ];show(?_:(r0.k !=9 ||r0.az !=q.az||_)=true);show bD ?_ b2
     revert hv
     unfold bne
     cases(r0.k==9)<;>cases(r0.az==a.az)<;>simp) (by decide)) (by ac_rfl)
   replace st:=aJ hv▸st;simp only[Bool.and_eq_true,beq_iff_eq]at hv
   by_cases Fu:(a::l).length+1>64
   ·replace st:=aJ Fu▸st;erw[st]
    show .fault (Cg _ (by
     erw[dG];rw[aJ];show(?_:(r0.k !=9 ||r0.az !=q.az||(q::m).length==64)=true)
     erw[show(q::m).length=64 by ac_rfl];simp) (by decide)) (by ac_rfl)
   replace st:=ax Fu▸st;replace st:=n1▸st
   have KO:cY (q::m) r0=false:=by show(?_:(r0.k !=9 ||r0.az !=q.az||(q::m).length==64)=false);erw[hv.1,hv.2,b2,oW (show(q::m).length≠64 by ac_rfl)];simp[bne]
   have hd:bN mx (r0::rest) place (q::m)=if r0.names.contains bw=true then(place+(9+r0.b.length),.fr q.k r0.az (bH (q.fl++[bw])) ((q::m++[r0.pf]).map (·.d)).flatten q.m)::bN mx rest (place+(9+r0.b.length)) []
    else bN mx rest (place+(9+r0.b.length)) (q::m++[r0.pf]):=by
    show(?_:(if aK r0.k r0.az=true then _ else if r0.bB mx (q::m)≠oS "" then _ else _)=_);erw[ax hh,ax (by(show aD ?_ dG;show aD ?_ KO);simp)];with_reducible rfl
   by_cases he:r0.names.contains bw=true
   ·rw[aJ he]at st hd;dsimp only at st
    have Lh:PF.te {a with fl:=dg a.fl bw,d:=((a::l++[(⟨r0.k,r0.az,aU r0.k r0.f,(bodyOf r0.k r0.f r0.b).data,(bodyOf r0.k r0.f r0.b).more⟩:PF)]).map (fun p:PF=>p.d)).flatten}= .fr q.k r0.az (bH (q.fl++[bw])) ((q::m++[r0.pf]).map (·.d)).flatten q.m:=by
     unfold PF.te;erw[BF b6,b3,b1,b5];show bD ?_ hv.2
     congr 2
     (erw[map_append,map_append,hb.rV]);rfl
    replace st:=Lh▸st;replace hc:=hd▸hc;replace hc:=length_cons▸hc
    rcases st with⟨z,_⟩|⟨_,st⟩
    ·(replace z:=length_append▸z;replace z:=length_singleton▸z);ac_rfl
    show .lift [_] cR hd (fun e he=>by obtain rfl:=mem_singleton.mp he;show(?_:place+(9+(r0.b.length:Int))≤_);ac_rfl) (ih hr [] _ _ _ _ _ trivial (Nat.zero_le _) (by simp only[map_cons,map_nil,length_append,length_singleton];ac_rfl) st)
   ·rw[ax he]at st hd;rw[Bool.not_eq_true]at he;show .lift [] cR hd (fun e he=>by right) (ih hr _ _ _ _ _ _ (hb.snoc (a:=⟨r0.k,r0.az,aU r0.k r0.f,(bodyOf r0.k r0.f r0.b).data,(bodyOf r0.k r0.f r0.b).more⟩) (b:=r0.pf) ⟨rfl,rfl,n2,rfl,rfl,n1.trans he⟩) (by simp only[length_append,length_singleton];show Nat.le_of_not_lt ‹_›) (by replace hc:=hd▸hc;simpa using hc) (by simpa using st))
def uS(mx:Int)(pre data:List Int)(hl:List PF)(ts:List TE)(aq:List Int)(r:qd):Prop:=
 (pre.take (min pre.length aq.length)≠aq.take (min pre.length aq.length)∧r= .halt (ts++[.fault aP]))∨
 (pre.take (min pre.length aq.length)=aq.take (min pre.length aq.length)∧cE mx (data++aq.drop (min pre.length aq.length)) hl ts r)
inductive cP(mx:Int)(due:List (Int×TE))(O:List Int)(F:Nat)(pre data:List Int)(hl:List PF)(ts:List TE):List (Int×TE)→List (Int×TE)→Prop
 |clean {es rem:List (Int×TE)} {pre0 tail:List Int} {rows rows':List Row} {bl':List PF} {m:Nat} (hO:O=pre0++cq rows tail) (hd:due=es++rem) (ht:ts=es.map (·.2)) (he:∀e∈es,e.1≤F) (hr:∀e∈rem,F<e.1)(hm:pre0.length≤m) (HT:m≤max F pre0.length) (Ag:rem=bN mx rows' m bl') (hb:g8 hl bl') (hz:hl.length≤64) (ho:∀x∈rows',x.Ok) (dp:data=(cq rows' tail).take (F-m)) (iz:pre=pre0.drop F)(nD:(cq rows tail).drop (m-pre0.length)=cq rows' tail) (lI:∀n,bG mx (tail.take n)= .stop) (hlen:due.length≤24) (hF:F≤O.length):cP mx due O F pre data hl ts es rem
 |odd {pre0 rest:List Int} {p:Nat} {x:Int} (hO:O=pre0.take p++[x]++pre0.drop (p+1)++rest) (hp:p<pre0.length) (hx:pre0[p]?≠some x) (hd:due=[((p:Int)+1,.fault aP)]) (ht:ts=[]) (hF:F≤p) (dp:data=[]) (MP:hl=[]) (iz:pre=pre0.drop F):cP mx due O F pre data hl ts [] due
theorem cP.split{mx:Int}{due es rem:List (Int×TE)}{F:Nat}(h:cP mx due O F pre data hl ts es rem):due=es++rem∧ts=es.map (·.2)∧(∀e∈es,e.1≤F)∧(∀e∈rem,F<e.1):=by
 cases h with
 |clean hO hd ht he hr=>show⟨hd,ht,he,hr⟩
 | @odd pre0 rest p x hO hp hx hd ht hF=>show⟨rfl,ht,fun e he=>by simp at he,fun e he=>?_⟩;replace he:=hd▸he;obtain rfl:=mem_singleton.mp he;show(?_:(F:Int)<(p:Int)+1);lia
theorem wJ{mx:Int}{r:qd}(h:cE mx [] hl ts r):r= .stop ts [] hl:=by have:=h.step;show this
theorem Nu{F S m:Nat}(h1:S≤m)(h2:m≤max F S):(m-S)+(F-m)=F-S:=by
 rcases Nat.le_total F S with z|z
 ·obtain rfl:m=S:=Nat.le_antisymm (Nat.max_eq_right z▸h2) h1;erw[Nat.sub_self ..];show aD rfl (Nat.zero_add ..)
 ·erw[Nat.add_comm ..];show Nat.sub_add_sub_cancel (Nat.max_eq_left z▸h2) h1
theorem Nv{F S m p:Nat}(h1:S≤m)(h2:m≤max F S):F-m+(p-(S-F))=F+p-m:=by
 rcases Nat.le_total F S with z|z
 ·obtain rfl:m=S:=Nat.le_antisymm (Nat.max_eq_right z▸h2) h1;erw[Nat.sub_eq_zero_of_le z,Nat.zero_add ..,Nat.sub_sub_right _ z];show aD rfl (Nat.add_comm ..)
 ·erw[Nat.sub_eq_zero_of_le z];show(Nat.sub_add_comm (Nat.max_eq_left z▸h2)).symm
theorem Nw{x:Int}{m a:Nat}(h:x≤m+((a-m:Nat):Int))(h9:(m:Int)+9≤x):x≤(a:Int):=by
 rcases Nat.le_total m a with z|z
 ·rw[←Int.natCast_add]at h;replace h:=Nat.add_sub_cancel' z▸h;assumption
 ·replace h:=Nat.sub_eq_zero_of_le z▸h;ac_rfl
theorem Nx{x:Int}{m a:Nat}(h:(m:Int)+((a-m:Nat):Int)<x):(a:Int)<x:=Int.lt_of_le_of_lt (Int.ofNat_le.mpr (Nat.sub_le_iff_le_add'.mp (Nat.le_refl _))) h
theorem Ny{F S m m2 p:Nat}(h1:m≤max F S)(h2:m2≤F+p-m):m+m2≤max (F+p) S:=by
 rcases Nat.le_total m (F+p)with z|z
 ·show hH (Nat.add_le_add_left h2 m) (by erw[Nat.add_sub_cancel' z];show Nat.le_max_left _ _)
 ·replace h2:=Nat.sub_eq_zero_of_le z▸h2;erw[Nat.le_zero.mp h2];show hH h1 (Nat.max_le.mpr ⟨hH (Nat.le_add_right _ _) (Nat.le_max_left _ _),Nat.le_max_right _ _⟩)
theorem ze{α:Type}(l:List α)(p:Nat):l.drop (min l.length p)=l.drop p:=by
 rcases Nat.le_total l.length p with z|z
 ·erw[Nat.min_eq_left z,drop_length];show aD rfl (drop_of_length_le z)
 ·show aD rfl (Nat.min_eq_right z)
theorem tS{α:Type}{pre Y aq:List α}{k:Nat}(h:aq=(pre++Y).take k):aq.take (min pre.length aq.length)=pre.take (min pre.length aq.length)∧aq.drop (min pre.length aq.length)=Y.take (aq.length-pre.length):=by
 have e:aq=(pre++Y).take aq.length:=prefix_iff_eq_take.mp (h▸take_prefix _ _);generalize aq.length=p at e;subst e
 rcases Nat.le_total pre.length p with z|z
 ·erw[Nat.min_eq_left z,take_append,take_of_length_le z,take_left,drop_left,take_length];show⟨rfl,rfl⟩
 ·erw[Nat.min_eq_right z,take_append_of_le_length z,take_take,Nat.min_self ..,Nat.sub_eq_zero_of_le z];show⟨rfl,drop_of_length_le (length_take_le _ _)⟩
def BG(mx:Int)(due:List (Int×TE))(O:List Int)(F:Nat)(pre aq:List Int)(es:List (Int×TE)):qd→Prop
 | .halt qw=>∃fL,due=fL∧qw=fL.map (·.2)∧(∀e∈fL,e.1≤(F+aq.length:Nat))∧es.length≤fL.length
 | .stop qw d' eS=>∃fL Ci,cP mx due O (F+aq.length) (pre.drop (min pre.length aq.length)) d' eS qw fL Ci∧es.length≤fL.length
theorem cP.step{mx:Int}{due es rem:List (Int×TE)}{O:List Int}{F k:Nat}(h:cP mx due O F pre data hl ts es rem)(hp:aq=(O.drop F).take k){r:qd}(hf:uS mx pre data hl ts aq r):
  BG mx due O F pre aq es r:=by
 have xf:aq.length≤O.length-F:=by(erw[hp,length_take,length_drop]);show Nat.min_le_right _ _
 have KJ:aq.length≤k:=hp▸length_take_le _ _
 cases h with
 | @clean _ _ pre0 tail rows rows' bl' m hO hd ht he hr hm HT Ag hb hz ho dp iz nD lI hlen hF=>
  have OE:O.drop F=pre++(cq rows' tail).drop (F-m):=by(erw[hO,drop_append,iz];show bD ?_ nD;erw[drop_drop];show aD rfl (Nu hm HT))
  have Cj:pre.length=pre0.length-F:=by(erw[iz];show aD rfl length_drop)
  replace hp:=OE▸hp;show aA (tS hp) fun OF Lj=>?_
  rcases hf with⟨z,_⟩|⟨_,hD⟩
  ·show(z OF.symm).elim
  have hX:data++aq.drop (min pre.length aq.length)=(cq rows' tail).take (F+aq.length-m):=by erw[Lj,dp];show bD ?_ take_add;erw[Cj];show aD rfl (Nv hm HT)
  replace hD:=hX▸hD
  have CU:pre.drop (min pre.length aq.length)=pre0.drop (F+aq.length):=by(erw[ze ..,iz];show aD rfl drop_drop)
  have PM:ts.length=es.length:=by(erw[ht];show aD rfl (length_map ..))
  have OG:due.length=es.length+rem.length:=by(erw[hd];show aD rfl length_append)
  show bY (wI mx tail lI rows' ho hl bl' m (F+aq.length-m) ts r hb hz (by show bD ?_ Ag;ac_rfl) hD) ?_;rintro zY Lk q1 q2 q3 q4;replace q1:=Ag.symm▸q1
  have nV:∀e∈es++zY,e.1≤((F+aq.length:Nat):Int):=fun e HU=>by
   rcases mem_append.mp HU with z|z
   ·show Int.le_trans (he e z) (Int.ofNat_le.mpr (Nat.le_add_right _ _))
   ·show Nw (q2 e z) (j7 mx rows' m bl' e (by(show bD ?_ Ag;erw[q1]);show mem_append_left _ z))
  cases r with
  |halt qw=>show aA q4 ?_;rintro r1 rfl;rw[append_nil]at q1;show Df (es++zY) (by(erw[hd];show aD rfl q1)) (by(erw[r1,ht];show aD rfl map_append)) nV (by erw[length_append];show Nat.le_add_right _ _)
  |stop qw d' eS=>
   show aA q4 fun r1 hZ=>?_;show xA hZ fun m2 HV Lg r2 r3 r4 r5 r6 r7 r8=>?_;show nH (es++zY) Lk (.clean (pre0:=pre0) (tail:=tail) (rows:=rows) (rows':=HV) (bl':=Lg) (m:=m+m2) hO (by(erw[hd,q1];show aD rfl (append_assoc ..))) (by(erw[r1,ht];show aD rfl map_append)) nV (fun e HU=>Nx (q3 e HU)) (hH hm (Nat.le_add_right _ _)) (Ny HT r2) r6 r4 r5 r3 ?_ CU ?_ lI hlen (hH (Nat.add_le_add_left xf F) (Nat.le_of_eq (Nat.add_sub_cancel' hF)))) (by erw[length_append];show Nat.le_add_right _ _)
   ·erw[r7];show aD rfl (Nat.sub_sub ..)
   ·show bD ?_ r8;show bD ?_ nD;erw[drop_drop];show aD rfl (Nat.sub_add_comm hm)
 | @odd pre0 rest p x hO hq hx hd ht hF dp MP iz=>
  have Cj:pre.length=pre0.length-F:=by(erw[iz];show aD rfl length_drop)
  have hA:(pre0.take p).length=p:=by(erw[length_take];show aD rfl (Nat.min_eq_left (Nat.le_of_lt hq)))
  have w9:∀i,i<p→O[i]? =pre0[i]?:=fun i hi=>by erw[hO,append_assoc ..,append_assoc ..,getElem?_append_left (hA.symm▸hi),getElem?_take];show aD rfl (aJ hi)
  have OH:O[p]? =some x:=by
   (erw[hO,append_assoc ..,append_assoc ..,getElem?_append_right (Nat.le_of_eq hA),hA,Nat.sub_self ..]);rfl
  have MQ:∀i,i<aq.length→aq[i]? =O[F+i]?:=fun i hi=>by erw[hp,getElem?_take,aJ (Cp hi KJ),getElem?_drop];with_reducible rfl
  unfold uS at hf
  by_cases hFp:F+aq.length≤p
  ·have hL:min pre.length aq.length=aq.length:=Nat.min_eq_right (Cj▸hH (Nat.le_sub_of_add_le' hFp) (Nat.sub_le_sub_right (Nat.le_of_lt hq) F));replace hf:=hL▸hf
   have heq:pre.take aq.length=aq.take aq.length:=by
    erw[take_length];show ext_getElem? fun i=>?_
    by_cases hi:i<aq.length
    ·erw[getElem?_take,aJ hi,iz,getElem?_drop,MQ i hi];show aD rfl (w9 (F+i) (Cp (Nat.add_lt_add_left hi F) hFp))
    ·erw[getElem?_eq_none (hH (length_take_le _ _) (Nat.not_lt.mp hi))];show aD rfl (getElem?_eq_none (Nat.not_lt.mp hi))
   rcases hf with⟨z,_⟩|⟨_,hD⟩
   ·show(z heq).elim
   replace hD:=dp▸hD;replace hD:=drop_length▸hD;rw[nil_append]at hD;obtain rfl:=wJ hD;show nH ([]) due (.odd (pre0:=pre0) (rest:=rest) (p:=p) (x:=x) hO hq hx hd ht hFp rfl MP (by(erw[hL,iz];show aD rfl drop_drop))) (Nat.le_refl _)
  ·have nG:=Nat.not_le.mp hFp;have sH:p-F<aq.length:=Nat.sub_lt_left_of_lt_add hF nG;have MR:p-F<min pre.length aq.length:=Nat.lt_min.mpr ⟨Cj▸Nat.sub_lt_sub_right hF hq,sH⟩
   rcases hf with⟨_,rfl⟩|⟨z,_⟩
   ·show Df due rfl (by(erw[hd,ht]);rfl) (fun e he=>?_) (Nat.zero_le _);replace he:=hd▸he;obtain rfl:=mem_singleton.mp he;show Int.ofNat_le.mpr nG
   ·have z:=congrArg (·[p-F]?) z;replace z:=getElem?_take▸z;replace z:=getElem?_take▸z;replace z:=aJ MR▸z;replace z:=aJ MR▸z;replace z:=iz▸z;replace z:=getElem?_drop▸z;replace z:=MQ _ sH▸z;replace z:=Nat.add_sub_cancel' hF▸z;replace z:=OH▸z;show(hx z).elim
theorem cP.start{mx:Int}{pre0 tail:List Int}{rows:List Row}(ho:∀x∈rows,x.Ok)(lI:∀n,bG mx (tail.take n)= .stop)(hlen:(bN mx rows pre0.length []).length≤24):
  cP mx (bN mx rows pre0.length []) (pre0++cq rows tail) 0 pre0 [] [] [] [] (bN mx rows pre0.length []):=
 .clean (m:=pre0.length) (rows':=rows) (bl':=[]) rfl rfl rfl (fun e he=>by right) (fun e he=>by have:=j7 _ _ _ _ e he;ac_rfl) (Nat.le_refl _) (Nat.le_max_right _ _) rfl trivial (Nat.zero_le _) ho (by simp) rfl (by simp) lI hlen (Nat.zero_le _)
inductive Seg where
 |one (r:Row)
 |many (n:Nat) (st:Int)
noncomputable def fa(n:Nat)(st:Int)(i:Nat):Row:=⟨9,if(i:Int)=n-1 then 4 else 0,st,[(i:Int)]⟩
noncomputable def Seg.rows:Seg→List Row
 | .one r=>[r]
 | .many n st=>⟨1,0,st,[104]⟩::(range n).map (fa n st)
def aI(l:List Seg):List Row:=(l.map Seg.rows).flatten
theorem qg{mx:Int}{N:Nat}(h:∀place bl,(bN mx rest place bl).length≤N)(place:Int)(bl:List PF):(bN mx (r::rest) place bl).length≤N+1:=by
 unfold bN
 split
 ·simp
 split
 ·simp
 split
 ·split
  ·show Nat.le_succ_of_le (h _ _)
  ·erw[length_cons];show Nat.succ_le_succ (h _ _)
 ·split
  ·erw[length_cons];show Nat.succ_le_succ (h _ _)
  ·show Nat.le_succ_of_le (h _ _)
theorem oK{mx:Int}{N:Nat}(h:∀place bl,(bN mx rest place bl).length≤N+1)(cs:List Row)(hc:∀c∈cs,c.k=9∧c.f=0):∀(place:Int) (a:PF) (bl:List PF),(bN mx (cs++rest) place (a::bl)).length≤N+1:=by
 induction cs with
 |nil=>show fun U U U=>h _ _
 |cons c cs ih=>
  intro place a bl;erw[cons_append];unfold bN
  split
  ·simp
  split
  ·simp
  have hn:c.names.contains bw=false:=by
   unfold Row.names;erw[(hc c (.head _)).1,(hc c (.head _)).2]
   nofun
  dsimp only;erw[ax (by show aD ?_ hn;decide)];show ih (fun x hx=>hc x (.tail _ hx)) _ _ _
theorem zf{mx:Int}{n:Nat}{st:Int}{N:Nat}(h:∀place bl,(bN mx rest place bl).length≤N)(place:Int)(bl:List PF):(bN mx (Seg.rows (.many n st)++rest) place bl).length≤N+1:=by
 induction n using Nat.casesAuxOn with
 |zero=>show qg h place bl
 |succ n=>
  have HW:∀place bl,(bN mx (fa (n+1) st n::rest) place bl).length≤N+1:=qg h
  have HX:Seg.rows (.many (n+1) st)++rest=⟨1,0,st,[104]⟩::((range n).map (fa (n+1) st)++(fa (n+1) st n::rest)):=by show(?_:(⟨1,0,st,[104]⟩::(range (n+1)).map (fa (n+1) st))++rest=_);erw[range_succ,map_append];simp
  erw[HX]
  have KD:∀c∈(range n).map (fa (n+1) st),c.k=9∧c.f=0:=fun c hc=>by show aa (mem_map.mp hc) ?_;rintro i hi rfl;have:=mem_range.mp hi;show⟨rfl,?_⟩;show(?_:(if(i:Int)=((n+1:Nat):Int)-1 then(4:Int)else 0)=0);show aD rfl (ax (by lia))
  unfold bN
  split
  ·simp
  split
  ·simp
  rename_i hf
  have hn:Row.names ⟨1,0,st,[104]⟩=[]:=by show(?_:bH (cD 1 0)=[]);nofun
  induction bl using List.casesOn with
  |nil=>dsimp only;erw[aJ (by show aD ?_ hn;decide)];show oK HW _ KD _ _ _
  |cons a bl=>
   show(hf ?_).elim;unfold Row.bB;have hb:cY (a::bl) ⟨1,0,st,[104]⟩=true:=rfl;erw[hb,Bool.and_true ..]
   by_cases z:(Row.fault mx ⟨1,0,st,[104]⟩==Str.ofString "")=true
   ·erw[aJ z];decide
   ·erw[ax z];intro e;show z (by erw[e];rfl)
theorem mX{mx:Int}:∀(l:List Seg) (place:Int) (bl:List PF),(bN mx (aI l) place bl).length≤l.length
 |[],_,_=>Nat.le_refl _
 | .one r::l,place,bl=>qg (mX l) place bl
 | .many n st::l,place,bl=>by show(?_:(bN mx (Seg.rows (.many n st)++aI l) place bl).length≤l.length+1);show zf (mX l) place bl
def uT(dl:Nat)(mx:Int)(pre:List Int)(xa:Int)(hb:Nat):List (Str×LV):=[(oS "_data",.obj dl),(oS "max_frame_size",.int mx),(oS "_preamble",.bytes pre),(oS "_preamble_len",.int xa),(oS "_headers_buffer",.obj hb)]
structure je(σ:List LO)(i:Nat)(p:PF):Prop where
 at_:∃j pl,σ[i]? =some (.inst (ah p.k) (ic p.k p.az j pl p.d p.m))∧σ[j]? =some (.set p.fl)
 fl:p.fl.length≤10
 Fn:p.k=3∨p.k=8→p.d=[]
 h0:p.k≠3→p.k≠5→p.k≠8→p.m=0
structure Kd(p:PF):Prop where
 d:p.d.length≤16384
 fl:p.fl.length≤9
 k:p.k≠3∧p.k≠8
def cF(σ:List LO):List Nat→List PF→Prop:=F2 fun i p=>je σ i p∧Kd p
def aT(hb:Nat)(σ σ':List LO):Prop:=∀(i:Nat) o,i≠hb→((∃l,o= .list l)∨o= .tab)→σ[i]? =some o→σ'[i]? =some o
structure cZ(σ:List LO)(id dl hb:Nat)(mx:Int)(pre data:List Int)(hl:List PF):Prop where
 inst:σ[id]? =some (.inst 1072 (uT dl mx pre pre.length hb))
 data:σ[dl]? =some (.aV data)
 tab:σ[0]? =some .tab
 Ao:∃ids,σ[hb]? =some (.list (ids.map .obj))∧cF σ ids hl∧hl.length≤64
theorem zg(G:Gd B)(hd:X.d≤280)(hn:X.hn=true){id dl hb:Nat}{mx L xa:Int}(e:σ[id]? =some (.inst 1072 (uT dl mx pre xa hb)))(hL:L.natAbs<2 ^ 60)(hm:mx.natAbs<2 ^ 60)(good:L≤mx→P .none σ)(bad:L>mx→∀m,X.R ⟨.ref 798,[m],true⟩ env σ):aM B X env σ [.obj id,.int L] (fun vs=>PySem.call (.ref 1041) vs) P:=by
 show .fnX G (Bv G) nt rfl (DW _) (e0:=[oo id,oi L,none]) rfl ?_
 have nd:yy.Nodup:=by nofun
 generalize bZ:X.lL env (iu 31 2 (oS "_validate_frame_length") (oS "FrameBuffer._validate_frame_length") 1040 kJ .none none)=X';have cR:X'.hn=true:=bZ▸hn
 have Cf:L>mx→∀(m:Str) ae,X'.R ⟨.ref 798,[m],true⟩ ae σ:=fun z m e=>by show bD ?_ bZ;show bad z m
 have aZ:X'.sc=ai (ay 31 2):=by show bD ?_ bZ;rfl
 clear bZ;show .o ?_;show aO.mk _ (.own G e (r:=.int mx) rfl rfl (by left) (by left)) ?_;show aw.mk (fun _=>?_) (fun _=>?_)<;>show(?_:XE ..)
 ·rename_i z;have z:=js z;show .o ?_;show af.mk ?_;show .joined (fun p hp=>?_) (by decide) (fun m=>?_)
  ·simp only[mem_cons,not_mem_nil,or_false]at hp
   rcases hp with rfl|rfl|rfl|rfl
   ·show .fmtStr (by decide)
   ·show .fmtInt (.var (lv:=.int L) rfl ⟨rfl,_,rfl,hL⟩)
   ·show .fmtStr (by decide)
   ·show .fmtInt (.mB rfl (.var (lv:=.obj id) rfl ⟨_,.own G e (r:=.int mx) rfl rfl (by left) (by left),rfl,_,rfl,hm⟩))
  ·show af.mk ?_;show .raise G cR (D:=798) (by erw[aZ];left) (by left) rfl (.var rfl ⟨_,rfl,Cf z _ _⟩)
 ·rename_i z;show .o ?_;show(?_:XE ..)
  show .o ?_;conv=>whnf
  show good (by simpa using z)
theorem tT{xs:List Str}{env:cT}(G:Gd B)(nd:xs.Nodup)(m n:Nat){a:IE}(hc:cC (K B.w.params) X.sc xs n e=some a)(h:dV B X xs env m false a σ P):aS B X (envOf xs env) σ e P:=(fD G nd m n false e a σ P hc h).1 rfl
theorem GU{xs:List Str}{env:cT}(G:Gd B)(nd:xs.Nodup)(m n:Nat){a:IE}(hc:cC (K B.w.params) X.sc xs n e=some a)(h:dV B X xs env m true a σ P):gv B X (envOf xs env) σ e fun b σ1=>P (.bool b) σ1:=(fD G nd m n true e a σ P hc h).2 rfl
theorem eD.zh{xs:List Str}{env:cT}(G:Gd B)(nd:xs.Nodup)(m n:Nat){msg:Option Expr}{a:IE}{P:dO}(hc:cC (K B.w.params) X.sc xs n test=some a)(h:dV B X xs env m true a σ fun v σ1=>v= .bool true∧P .next (envOf xs env) σ1):eD B X (envOf xs env) σ (.Assert test msg pos) P:=
 .Bt fun C O hX ρ s E Q S qe q=>GU G nd m n hc h C O hX ρ s E Q S qe fun r σ' ρ' s' p K S'=>q r σ' ρ' s' ⟨by have:=p.1;cases this;rfl,p.2⟩ K S'
def GV(σ σ':List LO):Prop:=∀(i:Nat) o,(∀l,o≠.list l)→σ[i]? =some o→σ'[i]? =some o
theorem je.BH{i:Nat}(F:je σ i p)(h:GV σ σ'):je σ' i p:=by show cj F.at_ fun j pl e1 e2=>?_;show⟨⟨j,pl,h _ _ (fun U z=>by right) e1,h _ _ (fun U z=>by right) e2⟩,F.fl,F.Fn,F.h0⟩
theorem cF.BH(h:GV σ σ'){ids}{l:List PF}(q:cF σ ids l):cF σ' ids l:=F2.mono (fun U U q=>⟨q.1.BH h,q.2⟩) q
theorem cF.snoc{i:Nat}{l:List PF}(q:cF σ ids l)(F:je σ i p)(z:Kd p):cF σ (ids++[i]) (l++[p]):=F2.snoc q ⟨F,z⟩
theorem zi{α:Type}{f:α→Nat}{n:Nat}{l:List α}(h:∀x∈l,f x≤n):(l.map f).sum≤l.length*n:=by
 induction l with
 |nil=>show Nat.zero_le _
 |cons a r ih=>have h1:=h a (.head _);have h2:=ih fun x hx=>h x (.tail _ hx);erw[map_cons,sum_cons,length_cons,Nat.add_mul ..];ac_rfl
theorem qh{hb:Nat}{x:LO}(e:σ[hb]? =some (.list l)):GV σ (σ.set hb x):=fun i o h ei=>by
 rw[getElem?_set_ne]
 ·show ei
 ·rintro rfl;replace ei:=e▸ei
  injection ei with z;subst z
  show h l rfl
theorem oL{hb:Nat}{x:LO}:aT hb σ (σ.set hb x):=fun i o h U ei=>by erw[getElem?_set_ne (Ne.symm h)];show ei
theorem cZ.BH{id dl hb:Nat}{mx:Int}{pre data:List Int}{hl eS:List PF}(S:cZ σ id dl hb mx pre data hl)(h:GV σ σ')(e:∃ids,σ'[hb]? =some (.list (ids.map .obj))∧cF σ' ids eS∧eS.length≤64):cZ σ' id dl hb mx pre data eS:=
 ⟨h _ _ (fun U z=>by right) S.inst,h _ _ (fun U z=>by right) S.data,h _ _ (fun U z=>by right) S.tab,e⟩
def Plain(o:LO):Prop:=(∀l,o≠.list l)∧o≠.tab
theorem Plain.inst{C:Addr}:Plain (.inst C fs):=⟨fun l z=>(by right),fun z=>by right⟩
theorem Plain.set{l:List Str}:Plain (.set l):=⟨fun l z=>(by right),fun z=>by right⟩
theorem Plain.aV{l:List Int}:Plain (.aV l):=⟨fun l z=>(by right),fun z=>by right⟩
theorem aT.refl{hb:Nat}:aT hb σ σ:=fun U U U U e=>e
theorem aT.set{hb j:Nat}{x:LO}(k:aT hb σ σ')(e:σ'[j]? =some x)(hx:Plain x):aT hb σ (σ'.set j y):=fun i o h t ei=>by
 have:=k i o h t ei;rw[getElem?_set_ne]
 ·show this
 ·rintro rfl;replace this:=e▸this
  injection this with z;subst z
  rcases t with⟨l,rfl⟩|rfl
  ·show hx.1 l rfl
  ·show hx.2 rfl
theorem aT.app{hb:Nat}(k:aT hb σ σ'):aT hb σ (σ'++ex):=fun i o h t ei=>by have:=k i o h t ei;erw[getElem?_append_left (dU this).1];show this
theorem ak{i j:Nat}{x:LO}(e:σ[i]? =some x)(h:j≠i):(σ.set j y)[i]? =some x:=by erw[getElem?_set_ne h];show e
theorem bU{i:Nat}{x:LO}(e:σ[i]? =some x):(σ.set i y)[i]? =some y:=getElem?_set_self (dU e).1
theorem aW{i:Nat}{x:LO}(e:σ[i]? =some x):(σ++ex)[i]? =some x:=by erw[getElem?_append_left (dU e).1];show e
theorem aL{i j:Nat}{x:LO}(e:σ[i]? =some x)(e2:σ[j]? =some y)(h:x≠y):i≠j:=by
 rintro rfl;replace e2:=e▸e2
 injection e2 with z;subst z
 show h rfl
theorem zj(k:Int):(1072:Addr)≠ah k:=ew (p:=fun c=>(1072:Addr)≠c) (by decide) (by decide) (by decide) (by decide) (by decide) (by decide) (by decide) k
theorem lF{hb hb':Nat}(K:aT hb σ σ1)(h:hb'=hb∨∀l,σ1[hb']?≠some (.list l)):hb'=hb∨∀l,σ[hb']?≠some (.list l):=by
 rcases h with h|h
 ·show .inl h
 by_cases z:hb'=hb
 ·show .inl z
 ·show .inr fun l e=>h l (K hb' _ z (.inl ⟨l,rfl⟩) e)
theorem rX{a f:PF}:upd (a::r) f=if(f.k==9&&f.az==a.az)=true then(if(a::r).length+1>64 then .err else if f.fl.contains bw=true then .out {a with fl:=dg a.fl bw,d:=((a::r++[f]).map (·.d)).flatten}else .hold (a::r++[f]))else .err:=rfl
theorem zk(G:Gd B)(hd:X.d≤270)(hn:X.hn=true){id dl hb i:Nat}{mx:Int}{pre data:List Int}{hl:List PF}{f:PF}(S:cZ σ id dl hb mx pre data hl)(F:je σ i f)(MS:f.d.length≤16384)(MT:f.fl.length≤9)(HY:upd hl f= .err→∀σ' m,aT hb σ σ'→m.length≤100→X.R ⟨.ref 786,[m],true⟩ env σ')(HZ:∀g,upd hl f= .out g→∀σ' i' hb',aT hb σ σ'→(hb'=hb∨∀l,σ[hb']?≠some (.list l))→cZ σ' id dl hb' mx pre data []→je σ' i' g→P (.obj i') σ')(C0:∀eS,upd hl f= .hold eS→∀σ',aT hb σ σ'→cZ σ' id dl hb mx pre data eS→P .none σ'):
  aM B X env σ [.obj id,.obj i] (fun vs=>PySem.call (.ref 1048) vs) P:=by
 show .fnX G (Bw G) (by show nt) rfl (DY _) (e0:=(oo id::oo i::nK)) rfl ?_
 have nd:tg.Nodup:=by nofun
 generalize bZ:X.lL env (iu 31 3 (oS "_update_header_buffer") (oS "FrameBuffer._update_header_buffer") 1047 kJ .none none)=X';have cR:X'.hn=true:=bZ▸hn
 have du:X'.d≤300:=by show bD ?_ bZ;show(?_:X.d+1≤300);show Nat.lt_of_le_of_lt ‹_› (by decide)
 have Cf:upd hl f= .err→∀σ' (m:Str) ae,aT hb σ σ'→m.length≤100→X'.R ⟨.ref 786,[m],true⟩ ae σ':=fun z s m e k y=>by show bD ?_ bZ;show HY z s m k y
 have aZ:X'.sc=ai (ay 31 3):=by show bD ?_ bZ;rfl
 have sy:X'.code=some (.ref 1047):=by show bD ?_ bZ;rfl
 clear bZ HY;show bJ S.Ao fun ids eh fr hz=>?_;show cj F.at_ fun j pl ei ej=>?_;have hlen:=fr.length;show xw (lU B.w.params f.k) fun o1 o2 o3 o4 o5=>?_;show AA (uQ B.w.params f.k) fun i1 i2 i3 i4 i5 i6=>?_;show AA (@za f.k) fun c1 c2 c3 c4 c5 c6=>?_;show .o ?_;show aO.mk _ (.own G S.inst (r:=.obj hb) rfl rfl (by left) (by left)) ?_;show af.mk (.list eh (by erw[length_map ..];ac_rfl) ?_)
 rcases fr.two with⟨rfl,rfl⟩|⟨i0,ids,a,hl,rfl,rfl⟩
 ·skip
  show(?_:aw ..);show aw.f ?_;show XE.o ?_;show af.mk (.J3 G ei i2 i4 ?_);show(?_:aw ..)
  have hk:(ah f.k==936 ||ah f.k==977)=(f.k==1 ||f.k==5):=by
   rw[Bool.eq_iff_iff];simp only[Bool.or_eq_true]
   constructor
   ·rintro(z|z)
    ·show .inl (by erw[c2 z];rfl)
    ·show .inr (by erw[c4 z];rfl)
   ·rintro(z|z)
    ·show .inl (by erw[eB z];rfl)
    ·show .inr (by erw[eB z];rfl)
  have out:((f.k==1 ||f.k==5)&&!(f.fl.contains bw))=false→P (.obj i) σ:=fun z=>HZ f (by unfold upd;erw[z];rfl) σ i hb (fun U U U U e=>e) (.inl rfl) S F;show .mk (fun _=>?_) (fun _=>?_)<;>(first|show(?_:aw ..)|show(?_:aO ..))
  ·rename_i z;replace z:=hk▸z;show⟨_,.own G ei (r:=.obj j) rfl rfl o1 o3,?_⟩;show af.mk (.rj ej ?_);show aw.mk (fun _=>?_) (fun _=>?_)<;>show(?_:XE ..)
   ·rename_i z2;show .o ?_;show aO.mk _ (.own G S.inst (r:=.obj hb) rfl rfl (by left) (by left)) ?_;show MethW.mk _ _ (.append eh) ?_;show af.mk (.append eh (by show Nat.zero_le _) ?_);show(?_:XE ..)
    repeat(first|(show .o ?_;show(?_:XE ..))|(show .o ?_;conv=>whnf)|fail)
    show C0 [f] (by unfold upd;erw[z,z2];rfl) _ oL ?_;show S.BH (qh eh) ⟨[i],by erw[getElem?_set_self (dU eh).1];rfl,⟨⟨F.BH (qh eh),MS,MT,by rw[Bool.or_eq_true]at z;rcases z with z|z<;>erw[eB z]<;>decide⟩,trivial⟩,by show Nat.succ_pos _⟩
   ·rename_i z2
    repeat(first|(show .o ?_;show(?_:XE ..))|(show .o ?_;conv=>whnf)|fail)
    show out (by(erw[z,z2]);rfl)
  ·rename_i z;replace z:=hk▸z
   repeat(first|((with_reducible show .f ?_);show(?_:XE ..))|(show .o ?_;show(?_:XE ..))|(show .o ?_;conv=>whnf)|fail)
   show out (by erw[z];rfl)
 ·skip
  show(?_:aw ..);show aw.t ?_;show(?_:XE ..);show cj fr.1.1.at_ fun j0 xk MU OI=>?_;show xw (lU B.w.params a.k) fun p1 p2 p3 p4 p5=>?_;show .o ?_;show aO.mk _ (.own G S.inst (r:=.obj hb) rfl rfl (by left) (by left)) ?_;show af.mk (.list eh (by decide) (by decide) (x:=.obj i0) rfl ?_);show aO.mk _ (.own G MU (r:=.int a.az) rfl rfl p1 p2) ?_;show af.mk (.isNotNone (.inr ⟨_,rfl⟩) ?_);show aw.t ?_;show af.mk (.CC G ei i6 ?_);show(?_:aw ..)
  have hk:(ah f.k==1010)=(f.k==9):=by rw[Bool.eq_iff_iff];show⟨fun z=>by erw[c6 z];rfl,fun z=>by erw[eB z];rfl⟩
  have Ll:(f.k==9&&f.az==a.az)=false→∀env,X'.R ⟨.ref 786,[oS "Invalid frame during header block."],true⟩ env σ:=fun z env=>Cf (by(erw[rX,z]);rfl) σ _ env (fun U U U U e=>e) (by decide)
  have rz:∀{PP:dO} {v3},(f.k==9&&f.az==a.az)=false→eD B X' (envOf tg [oo id,oo i,oi a.az,v3,some (.str (oS "Invalid frame during header block."))]) σ (cW (ay 31 3) [0,2,1]) PP:=fun{PP v3} z=>by show .raise G cR (D:=786) (by erw[aZ];left) (by left) rfl (.var (lv:=.str (oS "Invalid frame during header block.")) (by cases v3<;>rfl) ⟨_,rfl,Ll z _⟩)
  show .mk (fun _=>?_) (fun _=>?_)<;>(first|show(?_:aw ..)|show(?_:aO ..))
  rotate_left
  ·rename_i z;replace z:=hk▸z;show aw.t ?_;show XE.o ?_;show af.mk (rz (by erw[z];rfl))
  rename_i z;replace z:=hk▸z;show⟨_,.own G ei (r:=.int f.az) rfl rfl o1 o2,?_⟩;show aw.mk (fun _=>?_) (fun _=>?_)<;>show(?_:XE ..)
  ·rename_i z2;show .o ?_;show af.mk (rz (by erw[z];simpa using z2))
  rename_i z2
  have z2:(f.az==a.az)=true:=by simpa using z2
  repeat(first|(show .o ?_;show(?_:af _))|(show .o ?_;show(?_:XE ..))|fail)
  show⟨?_⟩;show .zh G nd 60 60 (a:=.call (.builtin "isinstance") [.var 1,.lit (.gl (.ref 1010))]) (by erw[aZ];left) ?_;show af.mk (.CC G ei i6 ?_);show(?_:And ..);show⟨by(erw[hk];show aD rfl z),_,Sub.refl _,?_⟩;show XE.o ?_;show aO.mk _ (.own G S.inst (r:=.obj hb) rfl rfl (by left) (by left)) ?_;show MethW.mk _ _ (.append eh) ?_;show af.mk (.append eh (by erw[length_map ..];ac_rfl) ?_);show(?_:aO ..);have Ah:GV σ (σ.set hb (.list ((i0::ids).map .obj++[.obj i]))):=qh eh
  have Au:(σ.set hb (.list ((i0::ids).map .obj++[.obj i])))[hb]? =some (.list ((i0::ids).map .obj++[.obj i])):=by(show aD rfl (getElem?_set_self (dU eh).1))
  have IK:aT hb σ (σ.set hb (.list ((i0::ids).map .obj++[.obj i]))):=oL;generalize hσ1:σ.set hb (.list ((i0::ids).map .obj++[.obj i]))=σ1 at Ah Au IK⊢
  have lM:σ1.length=σ.length:=by(show bD ?_ hσ1;show aD rfl length_set)
  have nl:∀{C fs} l,LO.inst C fs≠.list l:=fun l z=>by right
  have S1:=Ah _ _ nl S.inst;show⟨_,.own G S1 (r:=.obj hb) rfl rfl (by left) (by left),?_⟩;show af.mk (.fP Au (by simp only[length_append,length_map,length_singleton];ac_rfl) ?_);show(?_:aw ..)
  have sA:((i0::ids).map LV.obj++[LV.obj i]).length=(a::hl).length+1:=by simp only[length_append,length_map,length_singleton];ac_rfl
  have hu:upd (a::hl) f=if(a::hl).length+1>64 then .err else if f.fl.contains bw=true then .out {a with fl:=dg a.fl bw,d:=((a::hl++[f]).map (·.d)).flatten}else .hold (a::hl++[f]):=by(erw[rX,z,z2]);rfl
  show .mk (fun _=>?_) (fun _=>?_)<;>show(?_:XE ..)
  ·rename_i z3
   have z3:(a::hl).length+1>64:=by replace z3:=sA▸z3;have:=js z3;show Int.ofNat_lt.mp ‹_›
   show .o ?_;show af.mk ?_;show .raise G cR (D:=786) (by erw[aZ];left) (by left) rfl (.var (lv:=.str (oS "Too many continuation frames received.")) rfl ⟨_,rfl,Cf (by(erw[hu];show aD rfl (aJ z3))) σ1 _ _ IK (by decide)⟩)
  rename_i z3
  have z3:¬ (a::hl).length+1>64:=by replace z3:=sA▸z3;have:=of_decide_eq_false z3;ac_rfl
  repeat(first|(show .o ?_;show(?_:aO ..))|(show .o ?_;show(?_:XE ..))|fail)
  have OJ:=Ah _ _ nl ei;have K8:=Ah _ _ (fun l z=>by right) ej;show⟨_,.own G OJ (r:=.obj j) rfl rfl o1 o3,?_⟩;show af.mk (.inSet K8 ?_);show(?_:aw ..);have xl:cF σ1 ((i0::ids)++[i]) ((a::hl)++[f]):=(fr.BH Ah).snoc (F.BH Ah) ⟨MS,MT,by erw[eB z];decide⟩;show .mk (fun _=>?_) (fun _=>?_)<;>show(?_:XE ..)
  rotate_left
  ·rename_i z4
   repeat(first|(show .o ?_;show(?_:XE ..))|(show .o ?_;conv=>whnf)|fail)
   show C0 (a::hl++[f]) (by(erw[hu,ax z3,ax (by show aD ?_ z4;decide)];with_reducible rfl)) σ1 IK (S.BH Ah ⟨(i0::ids)++[i],by(erw[Au,map_append]);rfl,xl,by simp at z3⊢;assumption⟩)
  rename_i z4
  have Lm:upd (a::hl) f= .out {a with fl:=dg a.fl bw,d:=((a::hl++[f]).map (·.d)).flatten}:=by(erw[hu,ax z3];show aD rfl (aJ z4))
  repeat(show .o ?_;show(?_:aO ..))
  show⟨_,.own G S1 (r:=.obj hb) rfl rfl (by left) (by left),?_⟩;show af.mk (.list Au (by decide) (by decide) (x:=.obj i0) rfl ?_);show(?_:aO ..);have xc:=Ah _ _ nl MU;have nW:=Ah _ _ (fun l z=>by right) OI;have Ai:=Ah _ _ (fun l z=>by right) S.tab;have Ck:=Ah _ _ (fun l z=>by right) S.data;show⟨_,.own G xc (r:=.obj j0) rfl rfl p1 p3,?_⟩;show MethW.mk _ _ (.setAdd nW) ?_;show af.mk (.setAdd nW (by have:=fr.1.1.fl;show nt) ?_);show(?_:af _);have OK:j0≠i0:=aL nW xc (fun z=>by right);have OL:j0≠id:=aL nW S1 (fun z=>by right);have OM:j0≠hb:=aL nW Au (fun z=>by right);have ON:j0≠0:=aL nW Ai (fun z=>by right);have OO:j0≠dl:=aL nW Ck (fun z=>by right);have MV:i0≠id:=aL xc S1 (fun z=>by injection z with z _;show zj _ z.symm);have IL:i0≠0:=aL xc Ai (fun z=>by right);have OP:i0≠dl:=aL xc Ck (fun z=>by right);have H0:id≠0:=aL S1 Ai (fun z=>by right);have OQ:id≠dl:=aL S1 Ck (fun z=>by right);have C1:=IK.set (y:=.set (dg a.fl bw)) nW .set;have Aj:∀{k:Nat} {C fs},σ1[k]? =some (.inst C fs)→(σ1.set j0 (.set (dg a.fl bw)))[k]? =some (.inst C fs):=fun{k C fs} e=>ak e (aL nW e fun z=>by right);have Cm:=Aj xc;have S2:=Aj S1;have C3:=ak (y:=.set (dg a.fl bw)) Au OM;have E8:=ak (y:=.set (dg a.fl bw)) Ai ON;have H2:=ak (y:=.set (dg a.fl bw)) Ck OO;have H3:=bU (y:=.set (dg a.fl bw)) nW
  have fW:(σ1.set j0 (.set (dg a.fl bw))).length=σ.length:=by(erw[length_set];show aD rfl lM)
  have MW:∀(q i':Nat) (d:List Int),((i0::ids)++[i])[q]? =some i'→(((a::hl)++[f]).map (·.d))[q]? =some d→∃c fs,(σ1.set j0 (.set (dg a.fl bw)))[i']? =some (.inst c fs)∧fs.lookup (oS "data")=ob d∧mF (K B.w.params) c=true∧cy (K B.w.params) c (oS "data")=true:=fun q i' d e1 e2=>by
   show bJ (xl.get e1) fun p e3 F' U=>?_;show cj F'.at_ fun j' II e4 U=>?_;replace e2:=getElem?_map▸e2;replace e2:=e3▸e2
   injection e2 with z;subst z
   show xw (lU B.w.params p.k) fun q1 U U q4 U=>?_;show⟨_,_,Aj e4,rfl,q1,q4⟩
  generalize hσ2:σ1.set j0 (.set (dg a.fl bw))=σ2 at C1 Cm S2 C3 E8 H2 H3 fW MW⊢;obtain⟨D,hD⟩:∃D,((a::hl++[f]).map (·.d)).flatten=D:=⟨_,rfl⟩;replace Lm:=hD▸Lm;have H4:=C1.set (y:=.inst (ah a.k) (ic a.k a.az j0 xk D a.m)) Cm .inst;have S3:=ak (y:=.inst (ah a.k) (ic a.k a.az j0 xk D a.m)) S2 MV;have Ln:=ak (y:=.inst (ah a.k) (ic a.k a.az j0 xk D a.m)) E8 IL;have Lo:=ak (y:=.inst (ah a.k) (ic a.k a.az j0 xk D a.m)) H2 OP;have Lp:=ak (y:=.inst (ah a.k) (ic a.k a.az j0 xk D a.m)) H3 OK.symm;have Lq:=bU (y:=.inst (ah a.k) (ic a.k a.az j0 xk D a.m)) Cm
  have sP:(σ2.set i0 (.inst (ah a.k) (ic a.k a.az j0 xk D a.m))).length=σ.length:=by(erw[length_set];show aD rfl fW)
  show⟨?_⟩;show .joinGen G du cR sy rfl (by left) (by left) (fun U U=>rfl) (.mB rfl (.var (lv:=.obj id) rfl ⟨_,.own G S2 (r:=.obj hb) rfl rfl (by left) (by left),hb,(i0::ids)++[i],((a::hl)++[f]).map (·.d),0,rfl,?_,E8,?_,?_,MW,?_,?_⟩))
  ·(erw[C3,map_append]);rfl
  ·erw[length_map ..];show aD rfl xl.length
  ·(erw[xl.length,length_append,length_singleton]);show Nat.lt_of_le_of_lt ‹_› (by decide)
  ·erw[List.map_map]
   have:=zi (f:=length∘fun x:PF=>x.d) (n:=16384) (l:=a::hl++[f]) fun x hx=>by
    show av (mem_iff_getElem.mp hx) fun q hZ=>?_;show av hZ ?_;rintro hq rfl
    have OR:q<((i0::ids)++[i]).length:=by erw[xl.length];show hq
    show bJ (xl.get (n4 OR)) fun p e3 U e5=>?_;replace e3:=(n4 hq)▸e3
    injection e3 with z;subst z
    show e5.d
   show hH this ?_;erw[length_append,length_singleton];ac_rfl
  erw[hD];show dW.mk _ (.to G (σ':=σ2.set i0 (.inst (ah a.k) (ic a.k a.az j0 xk D a.m))) Cm (by unfold ic yZ;split<;>(try split)<;>(try split)<;>(try split)<;>simp) p5 rfl) ?_;show dW.mk _ (.to G (σ':=(σ2.set i0 (.inst (ah a.k) (ic a.k a.az j0 xk D a.m))++[LO.list []]).set id (LO.inst 1072 (uT dl mx pre pre.length (σ2.set i0 (.inst (ah a.k) (ic a.k a.az j0 xk D a.m))).length))) (aW S3) (by show(?_:5≤100);decide) (by left) rfl) ?_;show(?_:XE ..)
  repeat(first|(show .o ?_;show(?_:XE ..))|(show .o ?_;conv=>whnf)|fail)
  generalize σ2.set i0 (LO.inst (ah a.k) (ic a.k a.az j0 xk D a.m))=σ3 at*
  have Lr:(σ3++[LO.list []])[σ3.length]? =some (.list []):=by show gA
  have Lu:id≠σ3.length:=Nat.ne_of_lt (dU S3).1
  show HZ _ Lm _ i0 σ3.length (H4.app.set (aW S3) .inst) (.inr fun l=>by(erw[sP,getElem?_eq_none (Nat.le_refl _)]);intro z;right) ⟨bU (aW S3),ak (aW Lo) OQ,ak (aW Ln) H0,[],ak Lr Lu,trivial,by simp⟩
   ⟨⟨j0,xk,ak (aW Lq) MV.symm,ak (aW Lp) OL.symm⟩,?_,?_,fr.1.1.h0⟩
  ·have h1:=fr.1.2.fl;have h2:=rR a.fl bw;show(?_:(dg a.fl bw).length≤10);lia
  ·intro q;show(q.elim fr.1.2.k.1 fr.1.2.k.2).elim
section
variable{P:dO}
theorem qi(a b:Array UInt8):KBw.bInts (a++b)=KBw.bInts a++KBw.bInts b:=by simp[KBw.bInts]
theorem eP.BI(h:aS B X env σ o fun ov σ1=>∃dl,fe B env σ1 ov x (.obj dl)∧aS B X env σ1 value fun v σ2=>∃b more,v= .bytes more∧σ2[dl]? =some (.aV b)∧b.length+more.length≤16777216∧∃σ4,iD B env (σ2.set dl (.aV (b++more))) ov x (.obj dl) σ4∧P .next env σ4):
  eP B X env σ (.AugAssign (.Attribute o x tpos) .Add value pos) P:=fun C O hX ρ s E Q S qe q=>by
 show ar.pZ (h C O hX ρ s E _ S qe fun ov σ1 u ρ1 s1 h1 K1 S1 R1=>?_);show aa h1 fun dl E5 h2=>?_;show E5.run C O ρ1 s1 E _ u S1 R1 fun v0 s2 K2 S2 R2=>?_;show h2 C O hX ρ1 s2 E _ S2 (qe.since (K1.trans K2)) fun v σ3 w ρ3 s3 h3 K3 S3 R3=>?_;show av h3 fun b hZ=>?_;show av hZ fun more hZ=>?_;show aA hZ ?_;rintro rfl hZ;show aA hZ fun e hZ=>?_;show aA hZ fun hz hZ=>?_;show aa hZ fun σ4 ue p=>?_;have IH:=K3.rep S2 R2;have HL:=(K2.trans K3).rep S1 R1;show bY (S3.aV IH e) ?_;rintro a arr hc rfl ho rfl;show cj R3 ?_;rintro m t rfl rfl;replace hz:=bP▸hz;replace hz:=bP▸hz;show rC ho hz fun h' sb g=>?_;have K4:Kept C ρ3 s3 ρ3 {s3 with heap:=h'}:=dN (s':={s3 with heap:=h'}) hc (.head _) sb (by erw[g];rfl) rfl rfl;have S4:St B C ρ3 env (σ3.set dl (.aV (KBw.bInts arr++KBw.bInts m))) h':=S3.kA (o:=.aV (KBw.bInts arr++KBw.bInts m)) hc (.head _) sb (by erw[g];rfl) ⟨rfl,_,g,qi arr m⟩;show ue.run C O ρ3 {s3 with heap:=h'} E _ u (.ref a) S4 (K4.rep S3 HL) (K4.rep S3 IH) fun s5 K5 S5=>q _ .next _ _ _ _ p ((((K1.trans K2).trans K3).trans K4).trans K5) S5 rfl
theorem eP.zl(h:aS B X env σ o fun ov σ1=>∃dl b,ov= .obj dl∧b.length≤16777216∧aS B X env σ1 hi fun v σ2=>∃n:Nat,v= .int n∧σ2[dl]? =some (.aV b)∧P .next env (σ2.set dl (.aV (b.drop n)))):
  eP B X env σ (.Delete [.Subscript o (.Slice none (some hi) none p) tpos] pos) P:=fun C O hX ρ s E Q S qe q=>by
 show Bl (h C O hX ρ s E _ S qe fun ov σ1 u ρ1 s1 h1 K1 S1 R1=>?_);show bb h1 ?_;rintro dl b rfl hz h2;show wpAny_Slice (wpAny_evalPart_none (wpAny_evalPart_some (h2 C O hX ρ1 s1 E _ S1 (qe.since K1) fun v σ2 w ρ2 s2 h3 K2 S2 R2=>wpAny_evalPart_none ?_)));show bJ h3 ?_;rintro n rfl e p;have HL:=K2.rep S1 R1;show bY (S2.aV HL e) ?_;rintro a arr hc rfl ho rfl;show av R2 ?_;rintro t rfl;replace hz:=bP▸hz;have kp:=aC s2.heap {cls:=.type "slice",data:=.fields #[.none,.int n t,.none]};have S3:=S2.bh kp;have K3:Kept C ρ2 s2 ρ2 {s2 with heap:=s2.heap.push {cls:=.type "slice",data:=.fields #[.none,.int n t,.none]}}:=aR kp rfl rfl;show rK (u:=.int n t) (n:=n) (kp _ _ ho) ⟨_,gh _ rfl,rfl,rfl⟩ (.int _ _) hz fun h' sr ha sb g=>?_;have K4:Kept C ρ2 {s2 with heap:=s2.heap.push {cls:=.type "slice",data:=.fields #[.none,.int n t,.none]}} ρ2 {s2 with heap:=h'}:=dN (s':={s2 with heap:=h'}) hc (.head _) sb (by erw[g];rfl) rfl rfl;have S4:St B C ρ2 env (σ2.set dl (.aV ((KBw.bInts arr).drop n))) h':=S3.kA (o:=.aV ((KBw.bInts arr).drop n)) hc (.head _) sb (by erw[g];rfl) ⟨rfl,_,g,ha⟩;show q _ .next _ _ _ _ p (((K1.trans K2).trans K3).trans K4) S4 rfl
theorem uH.BJ{PV:kr}(h:PV (.obj σ.length) (σ++[.aV []])):uH B X env σ [] (fun vs=>PySem.call (.type "bytearray") vs) PV:=fun C O hX ρ s E Q vs S qe R q=>by
 have R:_=[]:=R;subst R;show Bk fun h' k g=>?_
 have fr:∀a∈[s.heap.objs.size],s.heap.get? a=none∧(h'.get? a).isSome:=fun a m=>by
  obtain rfl:a=s.heap.objs.size:=by simpa using m
  show⟨bo s.heap,by erw[g];rfl⟩
 show q _ _ _ _ {s with heap:=h'} h (eZ (c:=(s.heap.objs.size,[])) (s':={s with heap:=h'}) k (fun a m=>(fr a m).1) rfl rfl)
  (S.pI (c:=(s.heap.objs.size,[])) k fr (by simp) ⟨rfl,_,g,rfl⟩) (by show⟨(s.heap.objs.size,[]),by show bD ?_ S.len;simp,rfl⟩)
theorem eP.setAttr(h:Ee B X env σ value fun v σ1=>aS B X env σ1 o fun ov σ2=>∃σ3,iD B env σ2 ov x v σ3∧P .next env σ3)(hs:∀ae,swapsWith value (some (.Attribute o x p)) pos.line ae=pure false):eP B X env σ (.Assign [.Attribute o x p] value pos) P:=fun C O hX ρ s E Q S qe q=>by
 erw[plainObj_exec_Assign_Attribute o x p value pos (hs _)];show ar.au (gx ?_);show ar.bind (ar.mono (h C O hX ρ s E (fun v s₁=>wpAny B.M C.A (eval o C.env) (fun ov s₂=>wpAny B.M C.A (PySem.setAttr ov x v) (fun U=>Q .next) E s₂) E s₁) S qe fun v σ1 u ρ1 s1 h1 K1 S1 R1=>?_) (fun v s₁ z=>?_) fun U U z=>z)
 ·show h1 C O hX ρ1 s1 E _ S1 (qe.since K1) fun ov σ2 uo ρ2 s2 h2 K2 S2 R2=>?_;show aa h2 fun σ3 ue p=>?_;show ue.run C O ρ2 s2 E _ uo u S2 R2 (K2.rep S1 R1) fun s3 K3 S3=>q _ .next _ _ _ _ p ((K1.trans K2).trans K3) S3 rfl
 ·erw[assign_Attribute ..];show ar.of (V (V (eT (jt z (fun ov s2 z2=>V (gx (V (eT (jt z2 (fun U s3 z3=>wpAny_release (aG z3)) fun U U x=>x))))) fun U U x=>x))))
end
theorem j8{l:List Int}{n:Nat}(h:n≤l.length):bE l none (some (n:Int))=l.take n:=by
 unfold bE clipAt;simp only[Option.elim,drop_zero];erw[ax (by lia)]
 congr 1
 omega
def GW(o:LO):Prop:=(∃l,o= .set l)∨∃c fs,o= .inst c fs∧c≠1072
def cL(σ σ':List LO):Prop:=∀(k:Nat) o,GW o→σ[k]? =some o→σ'[k]? =some o
theorem cL.refl:cL σ σ:=fun U U U e=>e
theorem cL.set{j:Nat}{x:LO}(k:cL σ σ')(e:σ'[j]? =some x)(hx:¬ GW x):cL σ (σ'.set j y):=fun i o t ei=>by
 have:=k i o t ei;rw[getElem?_set_ne]
 ·show this
 ·rintro rfl;replace this:=e▸this
  injection this with z;subst z
  show hx t
theorem cL.app(k:cL σ σ'):cL σ (σ'++ex):=fun i o t ei=>aW (k i o t ei)
theorem zm:¬ GW (.inst 1072 fs):=by
 rintro(⟨l,z⟩|⟨c,KP,z,h⟩)
 ·right
 ·(injection z with z w;subst z;subst w);show h rfl
theorem uU{l:List Int}:¬ GW (.aV l):=by rintro(⟨l,z⟩|⟨c,KP,z,h⟩)<;>right
theorem BK:¬ GW (.list l):=by rintro(⟨l,z⟩|⟨c,KP,z,h⟩)<;>right
theorem je.iK{i:Nat}(F:je σ i p)(h:cL σ σ'):je σ' i p:=by show cj F.at_ fun j pl e1 e2=>?_;show⟨⟨j,pl,h _ _ (.inr ⟨_,_,rfl,fun z=>zj _ z.symm⟩) e1,h _ _ (.inl ⟨_,rfl⟩) e2⟩,F.fl,F.Fn,F.h0⟩
theorem cF.iK(h:cL σ σ'){ids}{l:List PF}(q:cF σ ids l):cF σ' ids l:=F2.mono (fun U U q=>⟨q.1.iK h,q.2⟩) q
theorem jX.pre{P:dO}{a:List Stmt}{n:Nat}(J:cT→List LO→Prop)(he:envOf xs e0=env)(hc:aN (K B.w.params) X.sc xs n a=some ir)(h:XE B X xs ir e0 σ fun f e σ'=>f= .next∧J e σ')(h2:∀e σ',J e σ'→jX B X (envOf xs e) σ' b P):jX B X env σ (a++b) P:=.append (he▸(h.run n a hc).mono fun f ae σ' q=>by
 show bJ q ?_;rintro e k rfl j
 show .weak k (h2 e σ' j))
theorem zo(G:Gd B)(hd:X.d≤270)(hn:X.hn=true){id dl hb n:Nat}{mx:Int}{pre data aq:List Int}(S:cZ σ id dl hb mx pre data hl)(hz:data.length+aq.length≤16777216)(hp:pre.length≤100)(EV:n=min pre.length aq.length)(bad:pre.take n≠aq.take n→∀m:Str,m.length≤100→X.R ⟨.ref 786,[m],true⟩ env σ)(good:pre.take n=aq.take n→∀σ',(∀h,aT h σ σ')→cZ σ' id dl hb mx (pre.drop n) (data++aq.drop n) hl→P .none σ'):
  uH B X env σ [.obj id,.bytes aq] (fun vs=>PySem.call (.ref 1034) vs) P:=by
 show .fn G.toOk (Bu G) nt rfl ?_;generalize bZ:X.lL env (iu 31 1 (oS "add_data") (oS "FrameBuffer.add_data") 1033 kJ .none none)=X';have cR:X'.hn=true:=bZ▸hn
 have du:X'.d≤300:=by show bD ?_ bZ;show(?_:X.d+1≤300);show Nat.lt_of_le_of_lt ‹_› (by decide)
 have Cf:pre.take n≠aq.take n→∀(m:Str) ae,m.length≤100→X'.R ⟨.ref 786,[m],true⟩ ae σ:=fun z m e y=>by show bD ?_ bZ;show bad z m y
 have aZ:X'.sc=ai (ay 31 1):=by show bD ?_ bZ;rfl
 clear bZ bad
 have nd:tf.Nodup:=by nofun
 have wide:∀q:Nat,(q:Int)≤aq.length→aq.length≤16777216:=fun U U=>by show hH (Nat.le_add_left _ _) ‹_›
 show bJ S.Ao fun ids eh fr Ak=>?_
 show .pre (a:=(aH (ay 31 1)).take 2) (b:=(aH (ay 31 1)).drop 2) (xs:=tf) (n:=60) (ir:=yx.take 2) (e0:=(oo id::ob aq::sJ))
  (fun e σ'=>WK (oo id::none::ob (aq.drop n)::nK) e∧pre.take n=aq.take n∧(∀h,aT h σ σ')∧cZ σ' id dl hb mx (pre.drop n) data hl) rfl (by erw[aZ];left) ?_ ?_
 ·show(?_:XE B X' tf (yx.take 2) _ _ _);show .o ?_;show aO.mk _ (.own G S.inst (r:=.int pre.length) rfl rfl (by left) (by left)) ?_;show aw.mk (fun _=>?_) (fun _=>?_)<;>show(?_:XE ..)
  rotate_left
  ·rename_i z;have h0:pre=[]:=length_eq_zero_iff.mp (by simpa using z);subst h0
   obtain rfl:n=0:=by erw[EV];simp
   repeat(first|(show .o ?_;show(?_:XE ..))|(show .o ?_;show(?_:And ..))|fail)
   show I4 rfl ⟨rfl,rfl,trivial⟩ rfl (fun h=>.refl) (by simpa using S)
  show .o ?_;show af.mk (.aX (by ac_rfl) ?_);show aO.mk _ (.own G S.inst (r:=.int pre.length) rfl rfl (by left) (by left)) ?_;show af.mk (.min2 cR ?_);erw[show(if(aq.length:Int)<pre.length then(aq.length:Int)else pre.length)=(n:Int) by show aD ?_ EV;split<;>ac_rfl];show aO.mk _ (.own G S.inst (r:=.bytes pre) rfl rfl (by left) (by left)) ?_;show aY.mk (by omega) ?_;show aY.mk (by omega) ?_;show(?_:af _);erw[j8 (by ac_rfl),j8 (by lia)];show⟨.bne ?_⟩;show aw.mk (fun _=>?_) (fun _=>?_)<;>show(?_:XE ..)
  ·rename_i z
   have z:pre.take n≠aq.take n:=by simpa using z
   show .o ?_;show af.mk ?_;show .raise G cR (D:=786) (by erw[aZ];left) (by left) rfl (.var (lv:=.str (oS "Invalid HTTP/2 preamble.")) rfl ⟨_,rfl,Cf z _ _ (by decide)⟩)
  rename_i z
  have z:pre.take n=aq.take n:=by simpa using z
  repeat(first|(show .o ?_;show(?_:aY ..))|(show .o ?_;show(?_:XE ..))|(show .mk (by omega) ?_;show(?_:af _))|fail)
  erw[mn (by lia)];show af.mk ?_
  have xf:(pre.length:Int)-n=((pre.drop n).length:Int):=by erw[length_drop];lia
  show .pZ (.var (lv:=.obj id) rfl ⟨_,.own G S.inst (r:=.int pre.length) rfl rfl (by left) (by left),.var (lv:=.int n) rfl (.J8 ⟨_,.to G (σ':=σ.set id (.inst 1072 (uT dl mx pre (pre.drop n).length hb))) S.inst (by show(?_:5≤100);decide) (by left) (by erw[xf];rfl),_,Sub.refl _,?_⟩)⟩);have S1:=bU (y:=.inst 1072 (uT dl mx pre (pre.drop n).length hb)) S.inst;show(?_:XE ..)
  repeat(show .o ?_;show(?_:aO ..))
  show⟨_,.own G S1 (r:=.bytes pre) rfl rfl (by left) (by left),?_⟩;show aY.mk (by omega) ?_;show(?_:dW ..);erw[mn (by ac_rfl)];show⟨_,.to G (σ':=(σ.set id (.inst 1072 (uT dl mx pre (pre.drop n).length hb))).set id (.inst 1072 (uT dl mx (pre.drop n) (pre.drop n).length hb))) S1 (by show(?_:5≤100);decide) (by left) rfl,?_⟩;show(?_:XE ..)
  repeat(show .o ?_;show(?_:And ..))
  have KF:cL σ ((σ.set id (.inst 1072 (uT dl mx pre (pre.drop n).length hb))).set id (.inst 1072 (uT dl mx (pre.drop n) (pre.drop n).length hb))):=(cL.refl.set S.inst zm).set S1 zm
  have E9:id≠dl:=aL S.inst S.data fun z=>by right
  have IL:id≠0:=aL S.inst S.tab fun z=>by right
  have MX:id≠hb:=aL S.inst eh fun z=>by right
  show⟨rfl,⟨rfl,rfl,trivial⟩,z,fun h=>(aT.refl.set S.inst .inst).set S1 .inst,bU S1,ak (ak S.data E9) E9,ak (ak S.tab IL) IL,ids,ak (ak eh MX) MX,fr.iK KF,Ak⟩
 ·rintro e σ' zq;show qA zq fun wk e1 k S'=>?_;show .weak (WK.sub nd wk) (.cons ?_);show(?_:eP ..)
  have H5:dl≠id:=aL S'.data S'.inst fun z=>by right
  have H0:dl≠0:=aL S'.data S'.tab fun z=>by right
  show bJ S'.Ao fun Fb H6 fr' Lv=>?_
  have Lw:dl≠hb:=aL S'.data H6 fun z=>by right
  show .BI (.var (lv:=.obj id) rfl ⟨dl,.own G S'.inst (r:=.obj dl) rfl rfl (by left) (by left),.var (lv:=.bytes (aq.drop n)) rfl ⟨data,_,rfl,S'.data,by erw[length_drop];ac_rfl,_,.to G (σ':=σ'.set dl (.aV (data++aq.drop n))) (ak S'.inst H5) (by show(?_:5≤100);decide) (by left) ?_,?_⟩⟩)
  ·show set_same (ak S'.inst H5)
  ·show jX.of (.nil ?_);show good e1 _ (fun h=>(k h).set S'.data .aV) ⟨ak S'.inst H5,bU S'.data,ak S'.tab H0,Fb,ak H6 Lw,fr'.iK (cL.refl.set S'.data uU),Lv⟩
theorem j9(k:Int)(b:List Int):((k=3∨k=8)→(bc k b).data=[])∧(k≠3→k≠5→k≠8→(bc k b).more=0)∧(bc k b).data.length≤b.length:=by
 unfold bc
 by_cases h:(k==3 ||k==8)=true
 ·erw[aJ h]
  have hk:k=3∨k=8:=by simpa using h
  show⟨fun U=>?_,fun a U c=>(hk.elim a c).elim,?_⟩
  ·by_cases h1:(b.length:Int)≠4
   ·erw[aJ h1];rfl
   ·erw[ax h1];split<;>rfl
  ·by_cases h1:(b.length:Int)≠4
   ·erw[aJ h1];show Nat.zero_le _
   ·erw[ax h1];split<;>show Nat.zero_le _
 ·erw[ax h]
  have hk:¬ (k=3∨k=8):=by simpa using h
  by_cases h5:k=5
  ·erw[aJ h5];show⟨fun z=>(hk z).elim,fun U a U=>(a h5).elim,?_⟩
   by_cases h1:(b.length:Int)<4
   ·erw[aJ h1];show Nat.zero_le _
   ·erw[ax h1]
    split
    ·show Nat.zero_le _
    ·show cB _ _ _
  ·erw[ax h5];show⟨fun z=>(hk z).elim,fun U U U=>rfl,Nat.le_refl _⟩
theorem ka(k f:Int)(b:List Int):((k=3∨k=8)→(bp k f b).data=[])∧(k≠3→k≠5→k≠8→(bp k f b).more=0)∧(bp k f b).data.length≤b.length:=by
 unfold bp
 by_cases h:d7 k f=true
 ·erw[aJ h]
  by_cases h5:(b.length:Int)<5
  ·erw[aJ h5];show⟨fun U=>rfl,fun U U U=>rfl,Nat.zero_le _⟩
  ·erw[ax h5];show ju (j9 k (bE b (some 5) none)) fun a c d=>?_;show⟨a,c,hH d (cB _ _ _)⟩
 ·erw[ax h];show j9 k b
theorem oM(k f:Int)(b:List Int):((k=3∨k=8)→(bodyOf k f b).data=[])∧(k≠3→k≠5→k≠8→(bodyOf k f b).more=0)∧(bodyOf k f b).data.length≤b.length:=by
 unfold bodyOf
 by_cases h:e9 k f=true
 ·erw[aJ h]
  by_cases h0:(b.length:Int)=0
  ·erw[aJ h0];show⟨fun U=>rfl,fun U U U=>rfl,Nat.zero_le _⟩
  erw[ax h0]
  by_cases h1:b.getD 0 0≥(b.length:Int)
  ·erw[aJ h1];show⟨fun U=>rfl,fun U U U=>rfl,Nat.zero_le _⟩
  erw[ax h1];show ju (ka k f (bE b (some 1) (some ((b.length:Int)-b.getD 0 0)))) fun a c d=>?_;show⟨a,c,hH d (cB _ _ _)⟩
 ·erw[ax h];show ka k f b
def lP(e:Str):Addr:=if e=aP then 786 else if e=eM then 798 else 810
theorem zp{a:LO}:(σ++[a,b])[σ.length+1]? =some b:=by
 (erw[getElem?_append_right (Nat.le_add_right _ _),show σ.length+1-σ.length=1 by show Nat.add_sub_cancel_left ..]);rfl
theorem cL.dM{j:Nat}(k:cL σ σ')(h:σ.length≤j):cL σ (σ'.set j y):=fun i o t ei=>by
 rw[getElem?_set_ne]
 ·show k i o t ei
 ·have:=(dU ei).1;ac_rfl
theorem aT.dM{hb:Nat}{j:Nat}(k:aT hb σ σ')(h:σ.length≤j):aT hb σ (σ'.set j y):=fun i o n t ei=>by
 rw[getElem?_set_ne]
 ·show k i o n t ei
 ·have:=(dU ei).1;ac_rfl
theorem il(k f:Int):(aU k f).length≤9:=hH (lD _ _) (ew (p:=fun c=>(fq c).length≤9) (by decide) (by decide) (by decide) (by decide) (by decide) (by decide) (by decide) k)
def Ke:List IS:=[.unpack [1,2] (.bA (oS "parse_frame_header") (.lit (.gl (.ref 880))) [.c (.type "bytes") [.slice (.attr (.v9 0) (oS "_data")) none (some (.li 9))]])]
def Kg:List IS:=[.expr (.bA (oS "parse_body") (.v9 1) [.c (.type "bytes") [.slice (.attr (.v9 0) (oS "_data")) (some (.li 9)) (some (.ad (.li 9) (.v9 2)))]])]
theorem aT.ls{hb:Nat}(h:aT hb σ σ'):aT hb σ σ':=h
theorem aT.then{hb:Nat}(h:aT hb σ σ1)(k:dz σ1 σ'):aT hb σ σ':=fun i o n t e=>k i o t (h i o n t e)
theorem mY(k f:Int)(b:List Int):(bodyOf k f b).fault= oS ""∨(bodyOf k f b).fault=dT∨(bodyOf k f b).fault=aP:=by
 have e:∀b,(bc k b).fault= oS ""∨(bc k b).fault=dT∨(bc k b).fault=aP:=fun b=>by
  unfold bc
  split
  ·split
   ·show .inr (.inl rfl)
   ·split
    ·show .inr (.inr rfl)
    ·show .inl rfl
  ·split
   ·split
    ·show .inr (.inl rfl)
    ·split
     ·show .inr (.inr rfl)
     ·show .inl rfl
   ·show .inl rfl
 have m:∀b,(bp k f b).fault= oS ""∨(bp k f b).fault=dT∨(bp k f b).fault=aP:=fun b=>by
  unfold bp
  split
  ·split
   ·show .inr (.inl rfl)
   ·show e _
  ·show e _
 unfold bodyOf
 split
 ·split
  ·show .inr (.inl rfl)
  ·split
   ·show .inr (.inr rfl)
   ·show m _
 ·show m _
theorem cZ.app{id dl hb:Nat}{mx:Int}{pre data:List Int}{hl:List PF}(S:cZ σ id dl hb mx pre data hl)(ex:List LO):cZ (σ++ex) id dl hb mx pre data hl:=by show bJ S.Ao fun ids eh fr hz=>?_;show⟨aW S.inst,aW S.data,aW S.tab,ids,aW eh,fr.iK cL.refl.app,hz⟩
theorem tU(G:Gd B)(hd:X.d≤260)(hn:X.hn=true){id dl hb:Nat}{mx:Int}{data:List Int}(S:cZ σ id dl hb mx pre data hl)(hz:data.length≤16777000)(ho:cS data)(nX:0≤mx∧mx≤16384)(stop:bG mx data= .stop→∀σ',aT hb σ σ'→cZ σ' id dl hb mx pre data hl→X.R ⟨.type "StopIteration",[],true⟩ env σ')(err:∀e,bG mx data= .err e→∀σ' m b,aT hb σ σ'→X.R ⟨.ref (lP e),[m],b⟩ env σ')(wG:∀f n,bG mx data= .got f n→upd hl f= .err→∀σ' m,aT hb σ σ'→X.R ⟨.ref 786,[m],true⟩ env σ')(out:∀f n g,bG mx data= .got f n→upd hl f= .out g→∀σ' i' hb',aT hb σ σ'→(hb'=hb∨∀l,σ[hb']?≠some (.list l))→cZ σ' id dl hb' mx pre (data.drop n) []→je σ' i' g→P (.obj i') σ')(hold:∀f n eS,bG mx data= .got f n→upd hl f= .hold eS→∀σ',aT hb σ σ'→cZ σ' id dl hb mx pre (data.drop n) eS→P .none σ'):
  uH B X env σ [.obj id] (fun vs=>PySem.call (.ref 1069) vs) P:=by
 show .fn G.toOk (wm G) nt rfl ?_;generalize bZ:X.lL env (iu 31 6 (oS "_next_frame") (oS "FrameBuffer._next_frame") 1068 kJ .none none)=X';have cR:X'.hn=true:=bZ▸hn
 have bg:X'.top=true:=by(show bD rfl bZ)
 have du:X'.d≤261:=by show bD ?_ bZ;show(?_:X.d+1≤261);show Nat.succ_le_succ ‹_›
 have hR:∀x ae σ',X.R x env σ'→X'.R x ae σ':=fun x e s z=>by show bD ?_ bZ;show z
 have aZ:X'.sc=ai (ay 31 6):=by show bD ?_ bZ;rfl
 have nd:mE.Nodup:=by nofun
 show bJ S.Ao fun ids eh fr Ak=>?_
 show .pre (a:=(aH (ay 31 6)).take 5) (b:=(aH (ay 31 6)).drop 5) (xs:=mE) (n:=60) (ir:=yA.take 5) (e0:=(oo id::di))
  (fun e σ'=>∃(i n:Nat) (p:PF) (L:Int),bG mx data= .got p n∧9+L=n∧WK (oo id::oo i::oi L::nK) e∧aT hb σ σ'∧σ.length≤σ'.length∧cZ σ' id dl hb mx pre data hl∧je σ' i p∧p.d.length≤16384∧p.fl.length≤9) rfl (by erw[aZ];left) ?_ ?_
 ·show .o ?_;show aO.mk _ (.own G S.inst (r:=.obj dl) rfl rfl (by left) (by left)) ?_;show af.mk (.uG S.data nt ?_);show aw.mk (fun _=>?_) (fun _=>?_)<;>show(?_:XE ..)
  ·rename_i z;have z:=js z;show .o ?_;show af.mk ?_;show .oE G cR (by erw[aZ];left) (hR _ _ _ (stop (by unfold bG;(show aD rfl (aJ (Int.ofNat_lt.mp ‹_›)))) σ .refl S))
  rename_i z9
  have z9:¬ data.length<9:=by have:=of_decide_eq_false z9;ac_rfl
  repeat(first|(show .o ?_;show(?_:af _))|(show .o ?_;show(?_:XE ..))|fail)
  show⟨?_⟩;obtain⟨h,hh⟩:∃h,data.take 9=h:=⟨_,rfl⟩
  have OS:h.length=9:=by(show bD ?_ hh;erw[length_take]);lia
  have H7:bE data none (some 9)=h:=by show bD ?_ hh;show j8 (n:=9) (Nat.le_of_not_lt ‹_›)
  have Lx:cS h:=fun x hx=>ho x (by replace hx:=hh.symm▸hx;show mem_of_mem_take hx)
  have f1:bG mx data=if aK (h.getD 3 0) (strOf h)then .err aP
   else if(data.length:Int)<lenOf h+9 then .stop
   else if lenOf h>mx then .err eM
   else if(bodyOf (h.getD 3 0) (h.getD 4 0) ((data.drop 9).take (lenOf h).toNat)).fault= oS "" then
    .got ⟨h.getD 3 0,strOf h,aU (h.getD 3 0) (h.getD 4 0),(bodyOf (h.getD 3 0) (h.getD 4 0) ((data.drop 9).take (lenOf h).toNat)).data,(bodyOf (h.getD 3 0) (h.getD 4 0) ((data.drop 9).take (lenOf h).toNat)).more⟩ (9+(lenOf h).toNat)
   else .err (bodyOf (h.getD 3 0) (h.getD 4 0) ((data.drop 9).take (lenOf h).toNat)).fault:=by unfold bG;erw[ax z9];show aD rfl hh
  have MY:0≤lenOf h:=gc (Lx.cut _ _)
  have hf:0≤h.getD 4 0∧h.getD 4 0<256:=by
   have:h.getD 4 0∈h:=by(erw[getD_eq_getElem?_getD,n4 (by lia)]);show getElem_mem _
   show Lx _ this
  show .Bp bg (fun x U σ'=>∃m:Str,m.length≤100∧x=⟨.ref 835,[m],true⟩∧σ'=σ++[.aV h]∧aK (h.getD 3 0) (strOf h)=true) ((XE.run (xs:=mE) (ir:=Ke) ?_ 60 _ (by show(?_:aN _ X'.sc _ _ _=_);erw[aZ];left)).mono fun f e s q=>q) ?_
  rotate_left
  ·rintro x ae σ' zq;show iP zq ?_;rintro m hm rfl rfl Fc
   show .raise G (c:=835) (D:=786) bg (by erw[aZ];left) (by erw[aZ];left) rfl rfl rfl (.two G (D1:=835) (D2:=822) (by erw[aZ];left) (by erw[aZ];left) (by left) (by left) (b1:=true) (b2:=false) (by left) (by left)) rfl rfl
    (fun pr=>by left) (fun pr=>by erw[aZ];left) (fun pr=>by left) (fun pr=>by left) (fun pr=>by left) (fun U=>rfl) (fun B' e X2 G' h1 h2 H=>?_) (fun t=>hR _ _ _ (err aP (by(erw[f1];show aD rfl (aJ Fc))) _ t false (aT.refl.app).ls))
   show .joined (fun p hp=>?_) (by decide) (fun m=>⟨rfl,_,rfl⟩);simp only[mem_cons,not_mem_nil,or_false]at hp
   rcases hp with rfl|rfl
   ·show .fmtStr (by decide)
   ·show .Ej G' H (by erw[h2];show nt) rfl rfl nt (by left) (by left) (.var (by erw[aE ..];rfl) ⟨rfl,rfl⟩)
  have Ly:({X' with R:=fun x U σ'=>∃m:Str,m.length≤100∧x=⟨.ref 835,[m],true⟩∧σ'=σ++[.aV h]∧aK (h.getD 3 0) (strOf h)=true}:Sx).hn=true:=cR;show .o ?_;show aY.mk Ly ?_;show(?_:MethW ..);show⟨_,_,rO G,?_⟩;show aO.mk _ (.own G S.inst (r:=.obj dl) rfl rfl (by left) (by left)) ?_;show af.mk (.aV S.data nt ?_);erw[H7];show af.mk (.ou (l:=h) (gA) (by lia) ?_);show af.mk (wo G (by show(?_:X'.d≤290);show nt) Ly OS (fun Fc m y=>⟨m,y,rfl,rfl,Fc⟩) (fun sC=>?_));replace f1:=sC▸f1;rw[ax (by decide)]at f1;clear Ly hh H7 Lx;generalize h.getD 3 0=k at f1 sC⊢;generalize h.getD 4 0=fg at f1 hf⊢;generalize strOf h=az at f1 sC⊢;generalize lenOf h=L at f1 MY⊢;have C1:aT hb σ (σ++[LO.aV h]++[LO.inst (ah k) (f9 k az ((σ++[LO.aV h]).length+1) 0 []),LO.set (aU k fg)]):=aT.refl.app.app
  have fW:σ.length≤(σ++[LO.aV h]++[LO.inst (ah k) (f9 k az ((σ++[LO.aV h]).length+1) 0 []),LO.set (aU k fg)]).length:=by show Nn
  have H8:(σ++[LO.aV h]++[LO.inst (ah k) (f9 k az ((σ++[LO.aV h]).length+1) 0 []),LO.set (aU k fg)])[(σ++[LO.aV h]).length]? =some (.inst (ah k) (f9 k az ((σ++[LO.aV h]).length+1) 0 [])):=by show gA
  have Lz:(σ++[LO.aV h]++[LO.inst (ah k) (f9 k az ((σ++[LO.aV h]).length+1) 0 []),LO.set (aU k fg)])[(σ++[LO.aV h]).length+1]? =some (.set (aU k fg)):=zp;have S2:=(S.app [LO.aV h]).app [LO.inst (ah k) (f9 k az ((σ++[LO.aV h]).length+1) 0 []),LO.set (aU k fg)];have MZ:cL σ (σ++[LO.aV h]++[LO.inst (ah k) (f9 k az ((σ++[LO.aV h]).length+1) 0 []),LO.set (aU k fg)]):=cL.refl.app.app
  have Fd:σ.length≤(σ++[LO.aV h]).length:=by show gE
  have C3:(σ++[LO.aV h]++[LO.inst (ah k) (f9 k az ((σ++[LO.aV h]).length+1) 0 []),LO.set (aU k fg)])[hb]? =some (.list (ids.map .obj)):=aW (aW eh);generalize (σ++[LO.aV h]++[LO.inst (ah k) (f9 k az ((σ++[LO.aV h]).length+1) 0 []),LO.set (aU k fg)])=σ2 at C1 fW H8 Lz S2 MZ C3⊢;generalize (σ++[LO.aV h]).length+1=j at H8 Lz⊢;generalize (σ++[LO.aV h]).length=i at H8 Fd⊢;show XE.o ?_;show aO.mk _ (.own G S2.inst (r:=.obj dl) rfl rfl (by left) (by left)) ?_;show af.mk (.uG S2.data nt ?_);show aw.mk (fun _=>?_) (fun _=>?_)<;>show(?_:XE ..)
  ·rename_i z;have z:=js z;show .o ?_;show af.mk ?_;show .oE G cR (by erw[aZ];left) (hR _ _ _ (stop (by(erw[f1];show aD rfl (aJ z))) σ2 C1 S2))
  rename_i z;have z:=of_decide_eq_false z;replace f1:=ax z▸f1
  repeat(first|(show .o ?_;show(?_:MethW ..))|(show .o ?_;show(?_:XE ..))|fail)
  show⟨_,_,.fn (f:=1041) G S2.inst rfl (by left),?_⟩;show af.mk (zg G nt cR S2.inst (by lia) (by lia) (fun hm=>?_) (fun hm m=>hR _ _ _ (err eM (by(erw[f1];show aD rfl (aJ hm))) σ2 m true C1.ls)));replace f1:=ax (Int.not_lt.mpr ‹_›)▸f1;show af.mk ?_
  have M1:((data.drop 9).take L.toNat).length=L.toNat:=by(erw[length_take,length_drop]);ac_rfl
  have M3:cS ((data.drop 9).take L.toNat):=fun x hx=>ho x (mem_of_mem_drop (mem_of_mem_take hx));have C4:bE data (some 9) (some (9+L))=(data.drop 9).take L.toNat:=AQ MY (by ac_rfl);generalize (data.drop 9).take L.toNat=b at f1 M1 M3 C4;show ju (oM k fg b) fun OT OU PN=>?_;show .Bp bg (fun x U σ'=>∃m:Str,m.length≤100∧x=⟨.ref (excOf (bodyOf k fg b).fault),[m],true⟩∧dz (σ2++[LO.aV b]) σ'∧(bodyOf k fg b).fault≠oS "") ((XE.run (xs:=mE) (ir:=Kg) ?_ 60 _ (by show(?_:aN _ X'.sc _ _ _=_);erw[aZ];left)).mono fun f e s q=>q) ?_
  rotate_left
  ·rintro x ae σ' zq;show iP zq ?_;rintro m hm rfl eS IM;have M4:aT hb σ σ':=(C1.app.ls).then eS;have e1:=err _ (by(erw[f1];show aD rfl (ax IM))) σ'
   rcases mY k fg b with q|q|q
   ·show(IM q).elim
   ·rw[q]at e1⊢;show .miss (.one G (D:=835) (by erw[aZ];left) (by left) (by left)) ?_
    show .raise G (c:=822) (D:=810) bg (by erw[aZ];left) (by erw[aZ];left) rfl rfl rfl (.one G (D:=822) (by erw[aZ];left) (by left) (by left)) rfl rfl
     (fun pr=>by left) (fun pr=>by erw[aZ];left) (fun pr=>by left) (fun pr=>by left) (fun pr=>by left) (fun U=>rfl) (fun B' e X2 G' h1 h2 H=>.str ⟨rfl,_,rfl⟩) (fun t=>hR _ _ _ (e1 t false M4))
   ·rw[q]at e1⊢
    show .raise G (c:=835) (D:=786) bg (by erw[aZ];left) (by erw[aZ];left) rfl rfl rfl (.one G (D:=835) (by erw[aZ];left) (by left) (by left)) rfl rfl
     (fun pr=>by left) (fun pr=>by erw[aZ];left) (fun pr=>by left) (fun pr=>by left) (fun pr=>by left) (fun U=>rfl) (fun B' e X2 G' h1 h2 H=>.str ⟨rfl,_,rfl⟩) (fun t=>hR _ _ _ (e1 t false M4))
  show .o ?_;show MethW.mk _ _ (.fn G H8 (by unfold f9;cases plainKind k<;>rfl) (tP _ k)) ?_;show aO.mk _ (.own G S2.inst (r:=.obj dl) rfl rfl (by left) (by left)) ?_;show af.mk (.aV S2.data nt ?_);erw[C4];show af.mk (.ou (l:=b) (gA) (by ac_rfl) ?_);show(?_:af _);have LA:=aW (ex:=[LO.aV b]) H8;have LD:=aW (ex:=[LO.aV b]) Lz;show⟨tQ (X:={X' with R:=_}) G (by show(?_:X'.d≤270);show nt) cR hf (by ac_rfl) M3 LA LD ⟨fun II sC=>?_,fun σ' m eS hm IM=>⟨m,hm,rfl,eS,IM⟩⟩⟩;replace f1:=aJ sC▸f1;show(?_:XE ..)
  have IP:∀{q:Nat} {o:LO},σ[q]? =some o→i≠q:=fun{q o} e=>by have:=(dU e).1;ac_rfl
  have OV:i≠j:=aL LA LD fun z=>by right
  repeat(show .o ?_;show(?_:And ..))
  show⟨rfl,i,9+L.toNat,_,L,f1,by lia,⟨rfl,rfl,rfl,trivial⟩,C1.app.dM Fd,by(erw[length_set,length_append]);show Nat.le_succ_of_le ‹_›,
   ⟨ak (aW S2.inst) (IP S.inst),ak (aW S2.data) (IP S.data),ak (aW S2.tab) (IP S.tab),ids,ak (aW C3) (IP eh),fr.iK (MZ.app.dM Fd),Ak⟩,
   ⟨⟨j,II,bU LA,ak LD OV⟩,Nat.le_succ_of_le (il k fg),OT,OU⟩,by show(?_:(bodyOf k fg b).data.length≤16384);ac_rfl,il k fg⟩
 ·rintro e σ' zq;show AG zq fun i n p L f1 hL wk KN len S' F fd ff=>?_;show .weak (WK.sub nd wk) (.cons ?_)
  have H5:dl≠id:=aL S'.data S'.inst fun z=>by right
  have H0:dl≠0:=aL S'.data S'.tab fun z=>by right
  show bJ S'.Ao fun Fb H6 fr' Lv=>?_
  have Lw:dl≠hb:=aL S'.data H6 fun z=>by right
  show .zl (.mB rfl (.var (lv:=.obj id) rfl ⟨_,.own G S'.inst (r:=.obj dl) rfl rfl (by left) (by left),dl,data,rfl,by show nt,tT G nd 60 60 (a:=.bin .Add (.li 9) (.var 2)) (by erw[aZ];left) ?_⟩));show(?_:Exists _);show oX n (by(show aD rfl hL)) S'.data ?_;have M5:cL σ' (σ'.set dl (.aV (data.drop n))):=cL.refl.set S'.data uU;have S3:cZ (σ'.set dl (.aV (data.drop n))) id dl hb mx pre (data.drop n) hl:=⟨ak S'.inst H5,bU S'.data,ak S'.tab H0,Fb,ak H6 Lw,fr'.iK M5,Lv⟩;have H4:aT hb σ (σ'.set dl (.aV (data.drop n))):=KN.set S'.data .aV
  have sP:σ.length≤(σ'.set dl (.aV (data.drop n))).length:=by erw[length_set];show len
  have F3:=F.iK M5;generalize σ'.set dl (.aV (data.drop n))=σ3 at S3 H4 sP F3⊢;have trans:∀{σ4},aT hb σ3 σ4→aT hb σ σ4:=fun{σ4} k q o n t e=>k q o n t (H4 q o n t e);show .of (J9 (xs:=mE) (n:=60) (ir:=yA.drop 6) (e0:=(oo id::oo i::oi L::nK)) (by erw[aZ];left) rfl ?_);show .o ?_;show MethW.mk _ _ (.fn (f:=1048) G S3.inst rfl (by left)) ?_;show af.mk (zk G nt cR S3 F3 fd ff (fun hu σ4 m k hm=>hR _ _ _ (wG p n f1 hu σ4 m (trans k).ls)) (fun g hu σ4 i' hb' k hh S4 F4=>?_) (fun eS hu σ4 k S4=>?_))
  ·conv=>whnf
   show out p n g f1 hu σ4 i' hb' (trans k) (lF H4 hh) S4 F4
  ·conv=>whnf
   show hold p n eS f1 hu σ4 (trans k) S4
theorem mZ{mx:Int}{d:List Int}{n:Nat}(h:bG mx d= .got p n)(ho:cS d):9≤n∧n≤d.length:=by
 unfold bG at h
 by_cases h1:d.length<9
 ·replace h:=aJ h1▸h;right
 replace h:=ax h1▸h
 by_cases h2:aK ((d.take 9).getD 3 0) (strOf (d.take 9))=true
 ·replace h:=aJ h2▸h;right
 replace h:=ax h2▸h
 by_cases h3:(d.length:Int)<lenOf (d.take 9)+9
 ·replace h:=aJ h3▸h;right
 replace h:=ax h3▸h
 by_cases h4:lenOf (d.take 9)>mx
 ·replace h:=aJ h4▸h;right
 replace h:=ax h4▸h
 split at h
 ·(injection h with z w;subst z;subst w);ac_rfl
 ·right
def GY(σ:List LO)(id dl hb:Nat)(mx:Int)(pre data:List Int)(hl:List PF)(N:Nat)(v:LV)(σ2:List LO):Prop:=
 (v= .none∧∃data2 sH,data2.length<N∧cS data2∧aT hb σ σ2∧cZ σ2 id dl hb mx pre data2 sH∧∀r,cK mx data2 sH r→cK mx data hl r)∨
 ∃g d' i' hb',v= .obj i'∧cK mx data hl (.got g d')∧aT hb σ σ2∧(hb'=hb∨∀l,σ[hb']?≠some (.list l))∧cZ σ2 id dl hb' mx pre d' []∧je σ2 i' g
theorem oN(G:Gd B){X':Sx}(hd:X'.d≤260)(hn:X'.hn=true){id dl hb:Nat}{mx:Int}{data:List Int}(hz:data.length≤16777000)(nX:0≤mx∧mx≤16384){e:aQ}(aZ:X'.sc=ai (ay 31 5))(stop:∀d' eS,cK mx data hl (.stop d' eS)→∀σ',aT hb σ σ'→cZ σ' id dl hb mx pre d' eS→X'.R ⟨.type "StopIteration",[],true⟩ e σ')(err:∀er,cK mx data hl (.err er)→∀σ' m b,aT hb σ σ'→X'.R ⟨.ref (lP er),[m],b⟩ e σ'){data1:List Int}(ho:cS data1)(hlen:data1.length≤data.length)(KN:aT hb σ σ1)(S:cZ σ1 id dl hb mx pre data1 C5)(lift:∀r,cK mx data1 C5 r→cK mx data hl r)(hs:e.lookup (oS "self")=oo id){apos:Pos}{Q:dO}(g9:(apos.endLine==pos.line)=true)(q:∀v σ2,GY σ id dl hb mx pre data hl data1.length v σ2→Q .next (put (oS "new_frame") v e) σ2):
  eP B X' e σ1 (.Assign [.Name (oS "new_frame") px] (.Call (.Attribute (.Name (oS "self") py) (oS "_next_frame") apos) [] [] pos) spos) Q:=by
 have trans:∀{σ4},aT hb σ1 σ4→aT hb σ σ4:=fun{σ4} k q o n t e=>k q o n t (KN q o n t e);show .assign (.inl (by erw[aZ];left)) (.pD (by erw[g9];rfl) (.var hs ⟨_,_,.fn (f:=1069) G S.inst rfl (by left),.nil ?_⟩)) (fun U=>rfl)
 show tU G hd hn S (hH ‹_› ‹_›) ho nX (fun h σ' k S'=>stop _ _ (lift _ (.stop h)) σ' (trans k) S') (fun er h σ' m b k=>err er (lift _ (.err h)) σ' m b fun i o n t e=>k i o n t (KN i o n t e)) (fun f n h hu σ' m k=>err _ (lift _ (.wG h hu)) σ' m true fun i o n t e=>k i o n t (KN i o n t e))
  (fun f n g h hu σ' i' hb' k hh S' F'=>q _ _ (.inr ⟨g,_,i',hb',rfl,lift _ (.out h hu),trans k,lF KN hh,S',F'⟩)) (fun f n eS h hu σ' k S'=>q _ _ (.inl ⟨rfl,data1.drop n,eS,?_,fun x hx=>ho x (mem_of_mem_drop hx),trans k,S',fun r hr=>lift r (.hold h hu hr)⟩))
 have:=mZ h ho;erw[length_drop];omega
theorem wK(G:Gd B)(hd:X.d≤250)(hn:X.hn=true){id dl hb:Nat}{mx:Int}{data:List Int}(S:cZ σ id dl hb mx pre data hl)(hz:data.length≤16777000)(ho:cS data)(nX:0≤mx∧mx≤16384)(stop:∀d' eS,cK mx data hl (.stop d' eS)→∀σ',aT hb σ σ'→cZ σ' id dl hb mx pre d' eS→X.R ⟨.type "StopIteration",[],true⟩ env σ')(err:∀er,cK mx data hl (.err er)→∀σ' m b,aT hb σ σ'→X.R ⟨.ref (lP er),[m],b⟩ env σ')(out:∀g d',cK mx data hl (.got g d')→∀σ' i' hb',aT hb σ σ'→(hb'=hb∨∀l,σ[hb']?≠some (.list l))→cZ σ' id dl hb' mx pre d' []→je σ' i' g→P (.obj i') σ'):
  uH B X env σ [.obj id] (fun vs=>PySem.call (.ref 1062) vs) P:=by
 show .fn G.toOk (yY G) nt rfl ?_;generalize bZ:X.lL env (iu 31 5 (oS "__next__") (oS "FrameBuffer.__next__") 1061 kJ .none none)=X';have cR:X'.hn=true:=bZ▸hn
 have bg:X'.top=true:=by(show bD rfl bZ)
 have du:X'.d≤251:=by show bD ?_ bZ;show(?_:X.d+1≤251);show Nat.succ_le_succ ‹_›
 have hR:∀x ae σ',X.R x env σ'→X'.R x ae σ':=fun x e s z=>by show bD ?_ bZ;show z
 have aZ:X'.sc=ai (ay 31 5):=by show bD ?_ bZ;rfl
 have C6:=fun e d' eS h σ' k S'=>hR _ e _ (stop d' eS h σ' k S');have H9:=fun e er h σ' m b k=>hR _ e _ (err er h σ' m b k);show .cons (oN G nt cR hz nX aZ (C6 _) (H9 _) ho (Nat.le_refl _) .refl S (fun r h=>h) rfl rfl fun v σ1 hj=>?_);show .cons ?_
 conv=>arg 5;whnf
 show .sY bg (data.length+1) (fun n e σ1=>e.lookup (oS "self")=oo id∧∃v,e.lookup (oS "new_frame")=some v∧n≤data.length+1∧GY σ id dl hb mx pre data hl n v σ1) ⟨rfl,v,rfl,Nat.le_refl _,?_⟩ fun n e σ1 hj=>?_
 ·show hj.imp (fun h=>⟨h.1,h.2.imp fun d2 h=>h.imp fun h2 h=>⟨Nat.lt_succ_of_lt h.1,h.2⟩⟩) fun h=>h
 show aA hj fun hs hZ=>?_;show bJ hZ fun v hv hle hj=>?_;show Rc.AO rfl (.var hv (.Cs ?_))
 rcases hj with⟨rfl,data2,sH,nG,B8,KN,S2,lift⟩|⟨g,d',i',hb',rfl,hg,KN,hh,S2,F2⟩
 ·show .isNone (.inl rfl) ⟨true,rfl,(fun U=>?_),fun z=>by right⟩;show .cons (oN G nt cR hz nX aZ (C6 _) (H9 _) B8 (by ac_rfl) KN S2 lift hs rfl fun v σ1 hj=>?_);show .of (.nil ?_);show⟨data2.length,nG,by erw[aE ..];show hs,v,by erw[aE ..];rfl,by ac_rfl,hj⟩
 ·show .isNone (.inr ⟨_,rfl⟩) ⟨false,rfl,(fun z=>by right),fun U=>?_⟩;show .of (.cons (.ret (.var hv (out g d' hg _ i' hb' KN hh S2 F2))))
def nU(σ:List LO)(hb td:Nat):TE→LV→Prop
 | .fr k az names d m,v=>∃j,v= .tup [.int k,.int az,.obj j,.bytes d,.int m]∧σ[j]? =some (.list (names.map .str))∧j≠hb∧j≠td
 | .fault s,v=>v= .tup [.str (oS "fault"),.str s]
def bR(σ:List LO)(hb td:Nat):List TE→List LV→Prop:=F2 (nU σ hb td)
theorem nUm{hb hb' td:Nat}(k:∀(j:Nat) l,j≠hb→j≠td→σ[j]? =some (.list l)→σ'[j]? =some (.list l))(hh:hb'=hb∨∀l,σ[hb']?≠some (.list l))(t:TE)(v:LV)(h1:nU σ hb td t v):nU σ' hb' td t v:=by
 induction t using TE.casesOn with
 |fault s=>show h1
 |fr k' az names d m=>
  show iP h1 fun j e ej n1 n2=>?_;show⟨j,e,k j _ n1 n2 ej,?_,n2⟩
  rcases hh with rfl|hh
  ·show n1
  ·rintro rfl;show hh _ ej
theorem bR.mono{hb hb' td:Nat}(k:∀(j:Nat) l,j≠hb→j≠td→σ[j]? =some (.list l)→σ'[j]? =some (.list l))(hh:hb'=hb∨∀l,σ[hb']?≠some (.list l)){vs:List LV}(h:bR σ hb td ts vs):bR σ' hb' td ts vs:=F2.mono (nUm k hh) h
def kb(hb td:Nat)(σ σ':List LO):Prop:=∀(i:Nat) o,i≠hb→i≠td→((∃l,o= .list l)∨o= .tab)→σ[i]? =some o→σ'[i]? =some o
theorem zr{mx:Int}{d:List Int}{r:En}(h:cK mx d hl r):cS d→∀g d',r= .got g d'→d'.length<d.length∧cS d':=by
 induction h with
 |stop=>intro U g d' e;right
 |err=>intro U g d' e;right
 |wG=>intro U g d' e;right
 |out e u=>
  intro ho g d' er
  injection er with z w;subst z;subst w
  have:=mZ e ho;show⟨by erw[length_drop];omega,fun x hx=>ho x (mem_of_mem_drop hx)⟩
 |hold e u h ih=>intro ho g d' er;show aA (ih (fun x hx=>ho x (mem_of_mem_drop hx)) g d' er) fun a c=>?_;replace a:=length_drop▸a;show⟨by omega,c⟩
theorem zt{mx:Int}{r:En}(h:cK mx d hl r):∀e,r= .err e→e=aP∨e=eM∨e=dT:=by
 induction h with
 |stop=>intro e z;right
 |err e=>
  intro er z
  injection z with z;subst z
  unfold bG at e
  split at e
  ·right
  split at e
  ·(injection e with z;subst z);show .inl rfl
  split at e
  ·right
  split at e
  ·(injection e with z;subst z);show .inr (.inl rfl)
  split at e
  ·right
  ·rename_i q
   injection e with z;subst z
   rcases mY _ _ _ with z|z|z
   ·show(q z).elim
   ·show .inr (.inr z)
   ·show .inl z
 |wG=>intro e z;injection z with z;subst z;show .inl rfl
 |out=>intro e z;right
 |hold _ _ _ ih=>show ih
theorem BL(pr:Params)(er:Str):subIn (K pr) (.ref (lP er)) (.type "StopIteration")=some false:=by
 unfold lP
 split
 ·left
 split
 ·left
 ·left
def Nz(word:Str)(code:Int):List IS:=[.expr (.bA (oS "append") (.v9 2) [.tup [.lit (.str (oS "fault")),.ite (.q (.attr (.v9 4) (oS "error_code")) (.li code)) (.lit (.str word)) (.lit (.str (oS "another")))]]),.ret (.lit (.bool true))]
def NA:List IS:=[.expr (.bA (oS "append") (.v9 2) [.c (.ref 1134) [.v9 3]]),.ite (.cmp .Gt (.c (.builtin "len") [.v9 2]) (.li 24)) [.ret (.lit (.bool true))] []]
theorem wL(G:Gd B)(hd:X.d≤300){id:Nat}(h:P (.obj id) σ):aM B X env σ [.obj id] (fun vs=>PySem.call (.ref 1055) vs) P:=by
 show .fnX G (yX G) hd rfl (D0 _) (e0:=[oo id]) rfl ?_
 have nd:yz.Nodup:=by nofun
 show .o ?_;conv=>whnf
 show h
theorem jf(G:Gd B)(hd:X.d≤260){e:Addr}{x:EX}{c:Addr}{code:Int}{td:Nat}{vs:List LV}{PP:dO}(H:tE B e x)(hx:x.cls= .ref c)(h1:mQ (K B.w.params) c=true)(h2:findObj (K B.w.params) c none (oS "error_code")=some (.value (.ref a)))(h3:yU (K B.w.params) a 658 code=true)(hv:vs.length≤1000)(hc:aN (K B.w.params) X.sc s9 60 body=some (Nz word code))(et:σ[td]? =some (.list vs))(he:env.lookup (oS "told")=oo td)(hr:env.lookup (oS "error")=some (.gl (.ref e)))(h:∀ae,PP (.ret (.bool true)) ae (σ.set td (.list (vs++[.tup [.str (oS "fault"),.str word]])))):dY B X env σ body PP:=by
 have nd:s9.Nodup:=by nofun
 have hs:Sub (envOf s9 [none,none,oo td,none,some (.gl (.ref e))]) env:=xP.sub ⟨he,hr,trivial⟩;show .weak hs (.mono (XE.run (P:=fun f e' s=>∀ae,PP f ae s) ?_ 60 _ hc) fun f e' s q=>?_)
 ·show .o ?_;show MethW.mk _ _ (.append et) ?_;show aO.mk _ (.exc G H hx h1 h2 rfl) ?_;show af.mk (.Ei G nt h3 ?_);erw[beq_self_eq_true ..];show(?_:aw ..);show aw.t ?_;show af.mk (.append et nt ?_)
  conv=>whnf
  show h
 ·show aa q fun U U q=>?_;show q _
theorem tV(h:er=aP∨er=eM∨er=dT):(er=aP∧lP er=786)∨(er=eM∧lP er=798)∨(er=dT∧lP er=810):=by
 rcases h with rfl|rfl|rfl
 ·show .inl ⟨rfl,by unfold lP;(show aD rfl (aJ rfl))⟩
 ·show .inr (.inl ⟨rfl,by unfold lP;(erw[ax (by decide)];show aD rfl (aJ rfl))⟩)
 ·show .inr (.inr ⟨rfl,by unfold lP;(erw[ax (by decide)];show aD rfl (ax (by decide)))⟩)
def CH(σ:List LO)(id dl hb td:Nat)(mx:Int)(pre Ia:List Int)(hl:List PF)(ts:List TE)(n:Nat)(σ1:List LO):Prop:=
 ∃(fM:Nat) (d1:List Int) (C5:List PF) (sD:List TE) (nz:List LV),n=d1.length∧cZ σ1 id dl fM mx pre d1 C5∧(fM=hb∨∀l,σ[fM]?≠some (.list l))∧kb hb td σ σ1∧σ1[td]? =some (.list nz)∧td≠fM∧bR σ1 fM td sD nz∧sD.length≤24∧
  (∀r,cE mx d1 C5 sD r→cE mx Ia hl ts r)∧cS d1∧d1.length≤16777000
theorem jh{hb fM td:Nat}(K:kb hb td σ σ1)(K1:aT fM σ1 σ2)(e1:σ1[fM]? =some (.list L))(h1:fM=hb∨∀l,σ[fM]?≠some (.list l)):kb hb td σ σ2:=fun i o n n2 t ei=>by
 have e2:=K i o n n2 t ei;show K1 i o ?_ t e2;rintro rfl
 rcases h1 with rfl|h1
 ·show n rfl
 rcases t with⟨l,rfl⟩|rfl
 ·show h1 l ei
 ·replace e2:=e1▸e2;cases e2
theorem Eo{hb fM jr td:Nat}(K:kb hb td σ σ1)(et:σ1[td]? =some (.list L))(h1:fM=hb∨∀l,σ[fM]?≠some (.list l))(h2:jr=fM∨∀l,σ1[jr]?≠some (.list l)):jr=hb∨∀l,σ[jr]?≠some (.list l):=by
 rcases h2 with rfl|h2
 ·show h1
 by_cases z:jr=hb
 ·show .inl z
 show .inr fun l e=>?_
 by_cases z2:jr=td
 ·subst z2;show h2 L et
 ·show h2 l (K jr _ z z2 (.inl ⟨l,rfl⟩) e)
theorem wM(G:Gd B)(hd:X.d≤240)(hn:X.hn=true){id dl hb td n:Nat}{mx:Int}{pre data aq:List Int}{hl:List PF}{ts:List TE}{vs:List LV}(S:cZ σ id dl hb mx pre data hl)(et:σ[td]? =some (.list vs))(EM:td≠hb)(T:bR σ hb td ts vs)(IQ:ts.length≤24)(hz:data.length+aq.length≤16777000)(hp:pre.length≤100)(ho:cS data)(Hh:cS aq)(nX:0≤mx∧mx≤16384)(EV:n=min pre.length aq.length)(halt:∀qw,((pre.take n≠aq.take n∧qw=ts++[.fault aP])∨(pre.take n=aq.take n∧cE mx (data++aq.drop n) hl ts (.halt qw)))→∀σ' dX hb',σ'[td]? =some (.list dX)→bR σ' hb' td qw dX→kb hb td σ σ'→P (.bool true) σ')(stop:pre.take n=aq.take n→∀qw d' eS,cE mx (data++aq.drop n) hl ts (.stop qw d' eS)→∀σ' hb' dX,kb hb td σ σ'→(hb'=hb∨∀l,σ[hb']?≠some (.list l))→cZ σ' id dl hb' mx (pre.drop n) d' eS→σ'[td]? =some (.list dX)→bR σ' hb' td qw dX→P (.bool false) σ'):
  uH B X env σ [.obj id,.bytes aq,.obj td] (fun vs=>PySem.call (.ref 1141) vs) P:=by
 show .fn G.toOk (By G) (by show nt) rfl ?_;generalize bZ:X.lL env (fdOf 44 (oS "_law_feed") 1140)=X';have cR:X'.hn=true:=bZ▸hn
 have bg:X'.top=true:=by(show bD ?_ bZ;with_reducible rfl)
 have du:X'.d≤241:=by show bD ?_ bZ;show(?_:X.d+1≤241);show Nat.succ_le_succ ‹_›
 have aZ:X'.sc=ai (aB 44):=by show bD ?_ bZ;rfl
 clear bZ
 have nd:s9.Nodup:=by nofun
 show .cons ?_
 obtain⟨R1,hR1⟩:∃R1:EX→aQ→List LO→Prop,R1=fun x e' σ'=>∃(er:Str) (c:Addr) (m:Str) (b:Bool) (sD:List TE) (nz:List LV) (fM:Nat),x=⟨.ref c,[m],b⟩∧((er=aP∧c=786)∨(er=eM∧c=798)∨(er=dT∧c=810))∧e'.lookup (oS "told")=some (.obj td)∧σ'[td]? =some (.list nz)∧bR σ' fM td sD nz∧sD.length≤24∧kb hb td σ σ'∧
  ((pre.take n≠aq.take n∧sD++[.fault er]=ts++[.fault aP])∨(pre.take n=aq.take n∧cE mx (data++aq.drop n) hl ts (.halt (sD++[.fault er])))):=⟨_,rfl⟩
 show .Bp bg R1 ?_ ?_
 rotate_left
 · --the handlers
  intro x ae σ' r;replace r:=hR1▸r;show av r ?_;clear r;rintro er hZ;show Jk hZ ?_;clear hZ;rintro c m b sD nz fM rfl hc he Av T1 Ib k1 Fe
  have fin:∀PP:dO,(∀σ'' fv,PP (.ret (.bool true)) fv σ''=P (.bool true) σ'')→∀c7,PP (.ret (.bool true)) c7 (σ'.set td (.list (nz++[.tup [.str (oS "fault"),.str er]]))):=fun PP OW c7=>by erw[OW ..];have Ic:=bU (y:=.list (nz++[.tup [.str (oS "fault"),.str er]])) Av;show halt _ Fe _ _ fM Ic (.snoc (T1.mono (fun j l n1 n2 e=>ak e (Ne.symm n2)) (.inl rfl)) rfl) (fun i l n1 n2 t e=>ak (k1 i l n1 n2 t e) (Ne.symm n2))
  have hv:=T1.length
  rcases hc with⟨rfl,rfl⟩|⟨rfl,rfl⟩|⟨rfl,rfl⟩
  ·show .miss (.one G (D:=798) (by erw[aZ];left) (by left) (by left)) (.miss (.one G (D:=810) (by erw[aZ];left) (by left) (by left)) ?_);show .hit G bg (by erw[aZ];left) (.one G (D:=786) (by erw[aZ];left) (by left) (by left)) fun B' e G' hw nB H=>.of ?_;show jf G' (by show(?_:X'.d≤260);show nt) (a:=685) (code:=1) (word:=aP) H rfl (by left) (by left) (by left) (by ac_rfl) (by show(?_:aN _ X'.sc _ _ _=_);erw[aZ];left) Av (by erw[aE ..];show he) (by erw[aE ..];rfl) fun c7=>fin (fun fv _ s=>oB B X' _ _ fv [] s) (fun _ _=>rfl) c7
  ·show .hit G bg (by erw[aZ];left) (.one G (D:=798) (by erw[aZ];left) (by left) (by left)) fun B' e G' hw nB H=>.of ?_;show jf G' (by show(?_:X'.d≤260);show nt) (a:=695) (code:=6) (word:=eM) H rfl (by left) (by left) (by left) (by ac_rfl) (by show(?_:aN _ X'.sc _ _ _=_);erw[aZ];left) Av (by erw[aE ..];show he) (by erw[aE ..];rfl) fun c7=>fin (fun fv _ s=>oB B X' _ _ fv [] s) (fun _ _=>rfl) c7
  ·show .miss (.one G (D:=798) (by erw[aZ];left) (by left) (by left)) ?_;show .hit G bg (by erw[aZ];left) (.one G (D:=810) (by erw[aZ];left) (by left) (by left)) fun B' e G' hw nB H=>.of ?_;show jf G' (by show(?_:X'.d≤260);show nt) (a:=695) (code:=6) (word:=dT) H rfl (by left) (by left) (by left) (by ac_rfl) (by show(?_:aN _ X'.sc _ _ _=_);erw[aZ];left) Av (by erw[aE ..];show he) (by erw[aE ..];rfl) fun c7=>fin (fun fv _ s=>oB B X' _ _ fv [] s) (fun _ _=>rfl) c7
 ·show .cons (.expr (.pD rfl (.var (lv:=.obj id) rfl ⟨_,_,.fn (f:=1034) G S.inst rfl (by left),Rc.cons rfl (.var (lv:=.bytes aq) rfl (.nil ?_))⟩)));show zo G (by show(?_:X'.d≤270);show nt) (by show cR) S (by show nt) hp EV (fun z m hm=>?_) (fun e1 σ' Ff S'=>⟨rfl,?_⟩)
  ·show(?_:R1 ..);erw[hR1];show⟨aP,786,m,true,ts,vs,hb,rfl,.inl ⟨rfl,rfl⟩,rfl,et,T,IQ,fun _ _ _ _ _ e=>e,.inl ⟨z,rfl⟩⟩
  show .cons ?_;have eN:cS (data++aq.drop n):=fun x hx=>(mem_append.mp hx).elim (ho x) fun h=>Hh x (mem_of_mem_drop h);have Fg:=Ff hb td _ EM (.inl ⟨vs,rfl⟩) et
  show .Eg G (id:=id) (c:=1072) (fi:=1055) (fx:=1062) (.inl (by show(?_:X'.sc.names.lookup _=_);erw[aZ];left)) bg (data++aq.drop n).length
   (fun k e σ1=>Sub (envOf s9 [some (.obj id),none,some (.obj td),none,none]) e∧CH σ id dl hb td mx (pre.drop n) (data++aq.drop n) hl ts k σ1)
   (.var (lv:=.obj id) rfl ⟨rfl,⟨_,S'.inst⟩,wL G (by show(?_:X'.d≤300);show nt) ⟨rfl,⟨_,S'.inst⟩,xP.sub ⟨rfl,rfl,trivial⟩,hb,_,hl,ts,vs,rfl,S',.inl rfl,fun i o n1 _ t e=>Ff hb i o n1 t e,Fg,EM,T.mono (fun j l n1 n2 e=>Ff hb j _ n1 (.inl ⟨l,rfl⟩) e) (.inl rfl),IQ,fun _ h=>h,eN,by(erw[length_append,length_drop]);lia⟩⟩) (fun _ _=>rfl)
   (by left) (by left) (by left) (by left) ?_
  rintro k e σ1 zq;show aA zq ?_;clear zq;rintro eR hZ;show av hZ ?_;clear hZ;rintro fM hZ;show av hZ ?_;clear hZ;rintro d1 hZ;show uf hZ ?_;clear hZ;rintro C5 sD nz rfl S1 xl K1 Av IT T1 Ib lift kU LF;show hide fun H_ o_=>?_;show bJ S1.Ao ?_;rintro OX Au _ _;have kl:∀{σ2},aT fM σ1 σ2→kb hb td σ σ2:=fun{σ2} kk=>jh K1 kk Au xl;show o_ ?_;clear o_ H_;show⟨⟨_,S1.inst⟩,wK G (by show(?_:X'.d≤250);show nt) (by show cR) S1 LF kU nX (fun d' eS IU σ2 k2 S2=>.inl ⟨rfl,?_⟩) (fun er IU σ2 m b k2=>.inr ⟨⟨_,rfl,BL _ _⟩,?_⟩) (fun g d' hg σ2 i' jr k2 hh S2 F2=>?_)⟩
  · --no frame is left
   show .of (.nil ?_);show .of (.cons (.ret (.bool (stop e1 sD d' eS (lift _ (.stop IU)) σ2 fM nz (jh K1 k2 Au xl) xl S2 (k2 td _ IT (.inl ⟨nz,rfl⟩) Av) (T1.mono (fun j l n1 _ ej=>k2 j _ n1 (.inl ⟨l,rfl⟩) ej) (.inl rfl))))))
  ·show(?_:R1 ..);erw[hR1];show⟨er,lP er,m,b,sD,nz,fM,rfl,tV (zt IU er rfl),eR _ _ rfl,k2 td _ IT (.inl ⟨nz,rfl⟩) Av,T1.mono (fun j l n1 _ ej=>k2 j _ n1 (.inl ⟨l,rfl⟩) ej) (.inl rfl),Ib,kl k2,.inr ⟨e1,lift _ (.err IU)⟩⟩
  · --a frame is told
   show hide fun H_ o_=>?_;show aA (zr hg kU g d' rfl) ?_;rintro nG B8;have Ic:=k2 td _ IT (.inl ⟨nz,rfl⟩) Av;have K2:=jh K1 k2 Au xl;have OY:=Eo K1 Av xl hh;show cj F2.at_ ?_;rintro j pl ei ej;show bJ S2.Ao ?_;rintro LG C3 OZ _
   have M7:td≠jr:=by
    rcases hh with rfl|h
    ·show IT
    ·rintro rfl;show h _ Av
   have T2:bR σ2 jr td sD nz:=T1.mono (fun j l n1 _ ej=>k2 j _ n1 (.inl ⟨l,rfl⟩) ej) hh
   have CV:Sub (envOf s9 [some (.obj id),none,some (.obj td),some (.obj i'),none]) (put (oS "frame") (.obj i') e):=by
    show xP.sub ⟨?_,?_,?_,trivial⟩<;>erw[aE ..]
    ·show eR _ _ rfl
    ·show eR _ _ rfl
    ·rfl
   show o_ ?_;clear o_ H_;show .weak CV (.mono (.of (XE.run (xs:=s9) (ir:=NA) (P:=fun f e' s=>(f= .ret (.bool true)∧P (.bool true) s)∨(f= .next∧WK [some (.obj id),none,some (.obj td),none,none] e'∧CH σ id dl hb td mx (pre.drop n) (data++aq.drop n) hl ts d'.length s)) ?_ 60 _ (by show(?_:aN _ X'.sc _ _ _=_);erw[aZ];left))) fun f e' s q=>?_)
   rotate_left
   ·show aa q ?_;clear q;rintro e2 sb q
    rcases q with⟨rfl,q⟩|⟨rfl,wk,q⟩
    ·show q
    ·show oX d'.length nG (fun y w z=>sb y w (WK.sub nd wk y w z)) q
   show .o ?_;show(?_:MethW ..);show⟨_,_,.append Ic,?_⟩;show(?_:af _);show⟨wC G (by show(?_:X'.d≤270);show nt) (by show cR) ei ej (by have:=F2.fl;show Nat.lt_of_le_of_lt ‹_› (by decide)) F2.Fn F2.h0 ?_⟩;have FD:=aW (ex:=[LO.list ((bH g.fl).map .str)]) Ic;have PQ:=T1.length;show(?_:af _);show⟨.append FD (by ac_rfl) ?_⟩;show(?_:af _);have LI:=bU (y:=LO.list (nz++[.tup [.int g.k,.int g.az,.obj σ2.length,.bytes g.d,.int g.m]])) FD;have Fo:td<σ2.length:=(dU Ic).1;have O0:jr<σ2.length:=(dU C3).1;have LK:((σ2++[LO.list ((bH g.fl).map .str)]).set td (LO.list (nz++[.tup [.int g.k,.int g.az,.obj σ2.length,.bytes g.d,.int g.m]])))[σ2.length]? =some (.list ((bH g.fl).map .str)):=ak (by show gA) (Nat.ne_of_lt Fo)
   have T4:bR ((σ2++[LO.list ((bH g.fl).map .str)]).set td (LO.list (nz++[.tup [.int g.k,.int g.az,.obj σ2.length,.bytes g.d,.int g.m]]))) jr td (sD++[g.te]) (nz++[.tup [.int g.k,.int g.az,.obj σ2.length,.bytes g.d,.int g.m]]):=
    .snoc (T2.mono (fun j l n1 n2 ej=>ak (aW ej) (Ne.symm n2)) (.inl rfl)) ⟨σ2.length,rfl,LK,(Nat.ne_of_lt O0).symm,(Nat.ne_of_lt Fo).symm⟩
   have K4:kb hb td σ ((σ2++[LO.list ((bH g.fl).map .str)]).set td (LO.list (nz++[.tup [.int g.k,.int g.az,.obj σ2.length,.bytes g.d,.int g.m]]))):=fun i o n1 n2 t ei=>ak (aW (K2 i o n1 n2 t ei)) (Ne.symm n2)
   have S4:cZ ((σ2++[LO.list ((bH g.fl).map .str)]).set td (LO.list (nz++[.tup [.int g.k,.int g.az,.obj σ2.length,.bytes g.d,.int g.m]]))) id dl jr mx (pre.drop n) d' []:=by have a1:=(S2.app [LO.list ((bH g.fl).map .str)]);have O1:=aW (ex:=[LO.list ((bH g.fl).map .str)]) C3;show⟨ak a1.inst (aL FD a1.inst fun z=>by right),ak a1.data (aL FD a1.data fun z=>by right),ak a1.tab (aL FD a1.tab fun z=>by right),LG,ak O1 M7,OZ.iK (cL.refl.app.set FD BK),Nat.zero_le _⟩
   show⟨.fP LI (by(erw[length_append,length_singleton]);ac_rfl) ?_⟩;show(?_:aw ..);have M8:(nz++[LV.tup [.int g.k,.int g.az,.obj σ2.length,.bytes g.d,.int g.m]]).length=(sD++[g.te]).length:=T4.length.symm;show .mk (fun _=>?_) (fun _=>?_)<;>show(?_:XE ..)
   ·rename_i z
    have z:24<(sD++[g.te]).length:=by show bD ?_ M8;have:=js z;show Int.ofNat_lt.mp ‹_›
    show .o ?_;conv=>whnf
    show .inl ⟨rfl,halt _ (.inr ⟨e1,lift _ (.full hg z)⟩) _ _ jr LI T4 K4⟩
   ·rename_i z
    have z:¬ 24<(sD++[g.te]).length:=by show bD ?_ M8;have:=of_decide_eq_false z;ac_rfl
    repeat(first|(show .o ?_;show(?_:XE ..))|(show .o ?_;conv=>whnf))
    show .inr ⟨rfl,⟨rfl,rfl,trivial⟩,jr,d',[],_,_,rfl,S4,OY,K4,LI,M7,T4,by show Nat.le_of_not_lt ‹_›,fun r hr=>lift r (.more hg z hr),B8,by ac_rfl⟩
def tW(scope sc:Scope)(fs:List Str):Bool:=fQ scope.names []==fs&&decide fs.Nodup&&(scope.names.all fun x=>x.2 != .free||fs.contains x.1)&&(fs.all fun n=>sc.names.lookup n==some .cell)&&
 ((bT scope sc).names.all fun x=>x.2 != .cell||fs.contains x.1)&&(fs.all fun n=>(bT scope sc).names.lookup n==some .cell)&&scope.kind== .function&&(scope.names.all fun x=>x.2 != .cell)&&(scope.names.all fun x=>x.2 != .local||scope.names.lookup x.1==some .local)
theorem kc(h:tW scope sc fs=true):iC scope sc fs:=by unfold tW at h;simp only[Bool.and_eq_true,beq_iff_eq,decide_eq_true_eq,List.all_eq_true,Bool.or_eq_true,bne_iff_ne,ne_eq,contains_eq_mem]at h;show aA h ?_;rintro⟨⟨⟨⟨⟨⟨⟨h1,h2⟩,h3⟩,h4⟩,h5⟩,h6⟩,h7⟩,h8⟩ h9;show⟨h1,h2,fun x m e=>(h3 x m).resolve_left fun z=>z e,h4,fun n e=>?_,h6,h7,h8,fun x m e=>(h9 x m).resolve_left fun z=>z e⟩;show(h5 _ (aj e)).resolve_left fun z=>z rfl
theorem Ep(G:Gd B){d:Addr}{l:List (Int×LV)}(hK:iZ (K B.w.params) 1 (.ref d)= .gw l):Src.fit B (.iX d (l.map (·.1))):=by
 have r:Rep B.heap [] (iZ (K B.w.params) 1 (.ref d)) (.ref d):=mA (fun a o q=>⟨G.dy a o q,fun m=>by unfold flat at m;right⟩) 1 (.ref d);replace r:=hK▸r;show AG r fun a o es n e na ho hc hy hu hd hs q=>?_
 injection e with z;subst z
 show oY (q.pairs (prog:=PySem.Challenge.pw_kk0028_01) (w:=B.w)) fun fb p e1 e2 e3 e4=>?_;show xy fb n (oW hy) ⟨o,es,ho,hc,hd,fun e m=>e2 e (Array.mem_toList_iff.mpr m),p,by erw[e1];show hu⟩ e1
def tX(l:List (Int×Str)):LV→LV
 | .int b=>.str ((l.lookup b).getD (oS ""))
 |v=>v
noncomputable def qj(f:Int):LV→Bool
 | .int b=>(f.fdiv b).fmod 2==1
 |_=>false
theorem ip{α β:Type}(g:α→β)(l:List α):(range l.length).filterMap (fun i=>(l[i]?).map g)=l.map g:=by
 induction l with
 |nil=>rfl
 |cons a l ih=>
  erw[length_cons,range_succ_eq_map,filterMap_cons,filterMap_map];show(?_:g a::_=_);erw[map_cons];show bD ?_ ih
  congr 1
theorem iq{l:List (Int×Str)}:∀(nd:(l.map (·.1)).Nodup) {p:Int×Str},p∈l→l.lookup p.1=some p.2:=by
 induction l with
 |nil=>intro _ p m;right
 |cons y r ih=>
  intro nd p h;replace nd:=map_cons▸nd;rw[nodup_cons]at nd;erw[lookup_cons]
  rcases mem_cons.mp h with rfl|h
  ·simp
  ·have:(p.1==y.1)=false:=oW fun z=>nd.1 (mem_map.mpr ⟨p,h,z⟩);erw[this];show ih nd.2 h
theorem tY(d:Addr)(f:Int)(l:List (Int×Str))(nd:(l.map (·.1)).Nodup):(Src.iX d (l.map (·.1))).first (qj f) (tX l) (l.map (·.1)).length=(l.filterMap fun p=>if(f.fdiv p.1).fmod 2==1 then some p.2 else none).map .str:=by
 unfold Src.first
 have e1:(range (l.map (·.1)).length).filterMap (Src.iX d (l.map (·.1))).items=(l.map (·.1)).map .int:=by change filterMap (fun i=>((l.map (·.1))[i]?).map LV.int) _=_;show ip LV.int (l.map (·.1))
 erw[e1]
 have go:∀m:List (Int×Str),(∀p∈m,p∈l)→(((m.map (·.1)).map LV.int).filter (qj f)).map (tX l)=(m.filterMap fun p=>if(f.fdiv p.1).fmod 2==1 then some p.2 else none).map .str:=by
  intro m
  induction m with
  |nil=>intro U;rfl
  |cons p m ih=>
   intro hm;rw[map_cons,map_cons,filterMap_cons];have ih:=ih fun q hq=>hm q (.tail _ hq)
   by_cases z:((f.fdiv p.1).fmod 2==1)=true
   ·erw[filter_cons_of_pos (by show z),map_cons,ih,aJ z,map_cons]
    congr 1
    show(?_:LV.str ((l.lookup p.1).getD _)=_);erw[iq nd (hm p (.head _))];rfl
   ·erw[filter_cons_of_neg (by show z),ih];show aD rfl (ax z)
 show go l fun U h=>h
noncomputable def uV(l:List (Int×Str)):LV:=.gw (l.map fun p=>(p.1,.str p.2))
theorem wN{l:List (Int×Str)}{b:Int}:(l.map fun p=>(p.1,LV.str p.2)).lookup b=(l.lookup b).map .str:=by
 induction l with
 |nil=>rfl
 |cons p r ih=>
  erw[map_cons,lookup_cons,lookup_cons,ih]
  split<;>rfl
def kQ:List (Int×LV):=[(0,.gw [(1,.str (oS "END_STREAM")),(8,.str cJ)]),(1,.gw [(1,.str (oS "END_STREAM")),(4,.str bw),(8,.str cJ),(32,.str Bz)]),(5,.gw [(4,.str bw),(8,.str cJ)]),(9,.gw [(4,.str bw)])]
noncomputable def tZ:Int→Addr:=fun k=>if k=0 then 1086 else if k=1 then 1087 else if k=5 then 1088 else 1089
theorem t6(G:Gd B)(aZ:X.sc=ai (aB 42))(hn:X.hn=true){k f:Int}(e1:env.lookup (oS "kind")=oi k)(e2:env.lookup (oS "flags")=oi f)(hk:k=0∨k=1∨k=5∨k=9)(h:∀σ2,Ext σ σ2→σ2[σ.length]? =some (.list ((cD k f).map .str))→P (.obj σ.length) σ2):aS B X env σ (jN (aB 42) [3,6] 0 [1,1]) P:=by
 have Cn:∀v,put (oS "bit") v (cO [oS "kind",oS "flags"] env)=envOf [oS "kind",oS "flags",oS "bit"] [oi k,oi f,some v]:=by intro v;unfold cO;erw[filterMap_cons,e1,filterMap_cons,e2];rfl
 have nd:[Str.ofString "kind",oS "flags",oS "bit"].Nodup:=by nofun
 have gd:∃l:List (Int×LV),iZ (K B.w.params) 1 (.ref 1085)= .gw l∧l.lookup k=some (.gl (.ref (tZ k))):=by
  show⟨[(0,.gl (.ref 1086)),(1,.gl (.ref 1087)),(5,.gl (.ref 1088)),(9,.gl (.ref 1089))],by left,?_⟩
  rcases hk with rfl|rfl|rfl|rfl<;>rfl
 have gk:iZ (K B.w.params) 1 (.ref (tZ k))=uV (bL k):=by rcases hk with rfl|rfl|rfl|rfl<;>left
 have LL:((bL k).map (·.1)).Nodup:=by rcases hk with rfl|rfl|rfl|rfl<;>nofun
 have pos:∀b∈(bL k).map (·.1),0<b∧b<2 ^ 60:=by rcases hk with rfl|rfl|rfl|rfl<;>nofun
 have O3:kQ.lookup k=some (uV (bL k)):=by rcases hk with rfl|rfl|rfl|rfl<;>rfl
 have len:(bL k).length≤1000:=by rcases hk with rfl|rfl|rfl|rfl<;>nofun
 show .cC hn (fs:=[oS "kind",oS "flags"]) (kc (by erw[aZ];left)) (by erw[aZ];left) (by nofun) (qj f) (tX (bL k)) ?_;show aa gd fun l0 g0 g1=>?_;show .item (qP G 1 (v:=.ref 1085) (by erw[aZ];left) ?_);erw[g0];show .var e1 (.gw g1 ⟨.iX (tZ k) ((bL k).map (·.1)),rfl,?_,?_,fun U U=>trivial,?_,?_,?_⟩)
 ·have:=Ep G gk;replace this:=List.map_map▸this;assumption
 ·show(?_:((bL k).map (·.1)).length≤_);erw[length_map ..];show nt
 ·intro i v σ2 hi x2;erw[Cn ..];show aa (Option.map_eq_some_iff.mp (show(((bL k).map (·.1))[i]?).map LV.int=some v from hi)) ?_;rintro b hb rfl;have hp:=pos b (mem_of_getElem? hb);show gv.mono (GU G nd 60 60 (P:=fun c σ3=>c= .bool (qj f (.int b))∧Ext σ2 σ3) (a:=.cmp .Eq (.bin .Mod (.bin .FloorDiv (.var 1) (.var 2)) (.li 2)) (.li 1)) (by show(?_:cC _ (bT _ X.sc) _ _ _=_);erw[aZ];left) ?_) fun c s p=>?_
  ·show aY.mk ⟨hp.1,hp.2⟩ ?_;show aY.mk (by lia) ?_;show(?_:And ..);show⟨rfl,.refl _⟩
  ·(show aA p fun p1 p2=>?_);injection p1 with z;subst z;show⟨rfl,p2⟩
 ·intro i v σ2 hi hs x2;erw[Cn ..];show aa (Option.map_eq_some_iff.mp (show(((bL k).map (·.1))[i]?).map LV.int=some v from hi)) ?_;rintro b hb rfl;have hm:=mem_of_getElem? hb;show aa (mem_map.mp hm) ?_;rintro p hp rfl;show tT G nd 60 60 (a:=.item (.item (.lit (.gw kQ)) (.var 0)) (.var 2)) (by show(?_:cC _ (bT _ X.sc) _ _ _=_);erw[aZ];left) ?_;show af.mk (.gw O3 ?_);show af.mk (.gw (x:=.str p.2) (by show(?_:List.lookup p.1 ((bL k).map _)=_);erw[wN,iq LL hp];rfl) ⟨?_,.refl _⟩);show(?_:_=LV.str (((bL k).lookup p.1).getD _));erw[iq LL hp];rfl
 ·intro σ2 x2 e;show h σ2 x2 ?_;erw[e]
  congr 2
  show tY _ f _ LL
noncomputable def itemAt(n:Nat):LV→LV
 | .tup l=>l.getD n .none
 |v=>v
theorem aS.oO(hn:X.hn=true){n k:Nat}{id:Nat}{vs:List LV}(xe:tW scope X.sc []=true)(hx:((bT scope X.sc).names.lookup x==some .local)=true)(ox:c9 x=false)(oy:c9 y=false)(he:env.lookup y=oo id)(el:σ[id]? =some (.list vs))(hz:vs.length≤1000000)(hv:∀v∈vs,∃l,v= .tup l∧n<l.length)(O4:n≤64)(h:∀σ2,Ext σ σ2→σ2[σ.length]? =some (.list (vs.map (itemAt n)))→P (.obj σ.length) σ2):
  aS B X env σ (.ListComp (.Subscript (.Name x p1) (.Constant (.int n) k p2) p3) [⟨.Name x p4,.Name y p5,[],0⟩] scope pos) P:=by
 show ju (fX ox) fun x1 x2 U=>?_;show ju (fX oy) fun y1 y2 U=>?_;show .cC hn (fs:=[]) (kc xe) (eB hx) (by simp) (fun U=>true) (itemAt n) ?_;show .var he ⟨.list id vs,rfl,trivial,hz,fun σ2 x2=>x2 _ _ el,fun i v σ2 hi e=>⟨rfl,.refl _⟩,fun i v σ2 hi U x3=>?_,fun σ2 x3 e=>h σ2 x3 ?_⟩ y1 y2
 ·have hi:vs[i]? =some v:=hi;show aa (hv v (mem_of_getElem? hi)) ?_;rintro l rfl hl;show(?_:aS B _ [(x,.tup l)] _ _ _);show .item (.var (lv:=.tup l) (by simp) (.int (.tup (x:=l[n]) (Int.natCast_nonneg _) (by lia) (n4 ‹_›) ⟨?_,.refl _⟩)) x1 x2);show(?_:_=l.getD n .none);simp[List.getD,hl]
 ·erw[e]
  congr 2
  unfold Src.first
  have e1:(range (Src.list id vs).top).filterMap (Src.list id vs).items=vs:=by
   show(?_:filterMap (fun i=>vs[i]?) (range vs.length)=vs);have:=ip (fun v:LV=>v) vs
   simpa using this
  erw[e1];show aD rfl (filter_eq_self.mpr fun U U=>rfl)
def bM(σ:List LO)(bk dd:Nat):List (Int×TE)→List LV→Prop:=F2 fun e v=>∃u,v=LV.tup [.int e.1,u]∧nU σ bk dd e.2 u
theorem bM.snoc{bk dd:Nat}{p:Int}(g:nU σ bk dd t u){es}{vs:List LV}(h:bM σ bk dd es vs):bM σ bk dd (es++[(p,t)]) (vs++[.tup [.int p,u]]):=F2.snoc h ⟨u,rfl,g⟩
theorem bM.mono{bk bk' dd:Nat}(k:∀(j:Nat) l,j≠bk→j≠dd→σ[j]? =some (.list l)→σ'[j]? =some (.list l))(hh:bk'=bk∨∀l,σ[bk']?≠some (.list l)){es}{vs:List LV}(h:bM σ bk dd es vs):bM σ' bk' dd es vs:=F2.mono (fun U U q=>q.imp fun U q=>⟨q.1,nUm k hh _ _ q.2⟩) h
noncomputable def PF.raw(p:PF):TE:=.fr p.k p.az p.fl p.d p.m
structure cz(σ0:List LO)(dd bk:Nat)(es:List (Int×TE))(bl:List PF)(vs ez:List LV)(σ:List LO):Prop where
 ext:Ext σ0 σ
 d0:σ0.length≤dd
 b0:σ0.length≤bk
 ne:dd≠bk
 d:σ[dd]? =some (.list vs)
 b:σ[bk]? =some (.list ez)
 dr:bM σ bk dd es vs
 br:bR σ bk dd (bl.map PF.raw) ez
 zu:bl.length≤64
 small:∀f∈bl,f.d.length≤1000∧f.fl.length≤9
 Io:es.length≤1000
namespace cz
variable{dd bk:Nat}{es:List (Int×TE)}{bl:List PF}{vs ez:List LV}
theorem grow(D:cz σ0 dd bk es bl vs ez σ)(x:Ext σ σ'):cz σ0 dd bk es bl vs ez σ':=
 ⟨D.ext.trans x,D.d0,D.b0,D.ne,x _ _ D.d,x _ _ D.b,D.dr.mono (fun j l U U e=>x _ _ e) (.inl rfl),D.br.mono (fun j l U U e=>x _ _ e) (.inl rfl),D.zu,D.small,D.Io⟩
theorem wD(D:cz σ0 dd bk es bl vs ez σ):vs.length≤1000:=by have:=D.dr.length;have:=D.Io;ac_rfl
theorem t7(D:cz σ0 dd bk es bl vs ez σ):ez.length=bl.length:=by have:=D.br.length;rw[length_map]at this;show Eq.symm ‹_›
theorem due(D:cz σ0 dd bk es bl vs ez σ){p:Int}(g:nU σ bk dd t u)(hz:es.length<1000):cz σ0 dd bk (es++[(p,t)]) bl (vs++[.tup [.int p,u]]) ez (σ.set dd (.list (vs++[.tup [.int p,u]]))):=by
 have k:∀(j:Nat) l,j≠bk→j≠dd→σ[j]? =some (.list l)→(σ.set dd (.list (vs++[.tup [.int p,u]])))[j]? =some (.list l):=fun j l U n e=>by erw[getElem?_set_ne (by lia)];show e
 show⟨D.ext.dM D.d0,D.d0,D.b0,D.ne,by(show aD rfl (getElem?_set_self (dU D.d).1)),by erw[getElem?_set_ne D.ne];show D.b,(D.dr.snoc g).mono k (.inl rfl),D.br.mono k (.inl rfl),D.zu,D.small,by simp;lia⟩
theorem bF(D:cz σ0 dd bk es bl vs ez σ){f:PF}(g:nU σ bk dd f.raw u)(hz:bl.length<64)(hs:f.d.length≤1000∧f.fl.length≤9):cz σ0 dd bk es (bl++[f]) vs (ez++[u]) (σ.set bk (.list (ez++[u]))):=by
 have k:∀(j:Nat) l,j≠bk→j≠dd→σ[j]? =some (.list l)→(σ.set bk (.list (ez++[u])))[j]? =some (.list l):=fun j l n U e=>by erw[getElem?_set_ne (by lia)];show e
 show⟨D.ext.dM D.b0,D.d0,D.b0,D.ne,by erw[getElem?_set_ne (Ne.symm D.ne)];show D.d,by(show aD rfl (getElem?_set_self (dU D.b).1)),D.dr.mono k (.inl rfl),?_,by simp;lia,fun x hx=>?_,D.Io⟩
 ·erw[map_append];show bR.mono k (.inl rfl) (D.br.snoc g)
 ·rcases mem_append.mp hx with hx|hx
  ·show D.small x hx
  ·obtain rfl:=mem_singleton.mp hx;show hs
theorem fresh(D:cz σ0 dd bk es bl vs ez σ):cz σ0 dd σ.length es [] vs [] (σ++[.list []]):=by have x:=Ext.app σ [.list []];have hd:=(dU D.d).1;show⟨D.ext.trans x,D.d0,D.ext.len,by show Nat.ne_of_lt ‹_›,x _ _ D.d,by show gA,D.dr.mono (fun j l U U e=>x _ _ e) (.inr fun l e=>?_),trivial,Nat.zero_le _,fun f h=>(by right),D.Io⟩;replace e:=(getElem?_eq_none (Nat.le_refl _))▸e;right
theorem start:cz σ0 σ0.length (σ0.length+1) [] [] [] [] (σ0++[.list []]++[.list []]):=
 ⟨(Ext.app _ _).trans (.app _ _),Nat.le_refl _,by show Nat.le_add_right _ _,by lia,by show gB,by show Nm,trivial,trivial,Nat.zero_le _,fun f h=>(by right),Nat.zero_le _⟩
end cz
structure t8(σ0:List LO)(mx:Int)(rows:LV)(start:Int)(dd:Nat)(PP:eV)(r:Row)(rest:List Row)(place:Int)(es:List (Int×TE))(bl:List PF):Prop where
 next:∀fL bl' bk' vs ez σ' (env:cT),cz σ0 dd bk' (es++fL) bl' vs ez σ'→fL.length≤1→bN mx (r::rest) place bl=fL++bN mx rest (place+(9+(r.b.length:Int))) bl'→
  WK (some rows::oi start::oi mx::oo dd::oo bk'::(some (.int (place+(9+(r.b.length:Int)))))::xD) env→PP .next env σ'
 ret:∀fL bk' vs ez bl' σ' (env:cT),cz σ0 dd bk' (es++fL) bl' vs ez σ'→bN mx (r::rest) place bl=fL→PP (.ret (.obj dd)) env σ'
theorem kg(k f:Int):(cD k f).length≤4:=by
 show hH (length_filterMap_le _ _) ?_;unfold bL
 repeat' split
 all_goals decide
theorem Row.il(r:Row):r.names.length≤4:=by unfold Row.names;erw[(dD _).length_eq];show kg _ _
theorem Row.names9(r:Row)(h:r.k=9):decide (r.names=[bw])=r.names.contains bw:=by
 unfold Row.names cD;erw[h,show bL 9=[(4,bw)] from rfl]
 by_cases z:((r.f.fdiv 4).fmod 2==1)=true
 ·simp only[filterMap_cons,filterMap_nil,if_pos z];nofun
 ·simp only[filterMap_cons,filterMap_nil,if_neg z];nofun
def CI:List IS:=[(.ite (.kY [.cmp .NotEq (.var 4) (.lst []),.cn [.cmp .In (.var 7) (.tup [.li 1,.li 5]),.cmp .NotIn (.lit (.str (oS "END_HEADERS"))) (.var 14)]]) [.expr (.bA (oS "append") (.var 4) [.tup [.var 7,.var 9,.var 14,.var 12,.var 13]]),
 (.ite (.cn [.cmp .Gt (.call (.builtin "len") [.var 4]) (.li 1),.cmp .Eq (.var 14) (.lst [.lit (.str (oS "END_HEADERS"))])]) [.assign 15 (.item (.var 4) (.li 0)),
 (.expr (.bA (oS "append") (.var 3) [.tup [.var 5,.tup [.item (.var 15) (.li 0),.var 9,.call (.builtin "sorted") [.bin .Add (.item (.var 15) (.li 2)) (.lst [.lit (.str (oS "END_HEADERS"))])],.bA (oS "join") (.lit (.bytes [])) [.raw (jN (aB 42) [3,9,1,1] 0 [1,1,3,1])],.item (.var 15) (.li 4)]]])),
 (.assign 4 (.lst []))] [])] [.expr (.bA (oS "append") (.var 3) [.tup [.var 5,.tup [.var 7,.var 9,.var 14,.var 12,.var 13]]])])]
theorem bR.rV{bk dd:Nat}{bl:List PF}:∀{ez:List LV},bR σ bk dd (bl.map PF.raw) ez→ez.map (itemAt 3)=(bl.map (·.d)).map .bytes∧∀v∈ez,∃l,v= .tup l∧3<l.length:=by
 induction bl with
 |nil=>
  intro ez h
  cases ez with
  |nil=>show⟨rfl,fun v h=>by right⟩
  |cons=>show h.elim
 |cons f bl ih=>
  intro ez h
  cases ez with
  |nil=>show h.elim
  |cons v ez=>
   show aA (ih h.2) fun h1 h2=>?_;show aa h.1 ?_;rintro j rfl U;show⟨?_,fun w hw=>?_⟩
   ·(erw[map_cons,h1]);rfl
   ·rcases mem_cons.mp hw with rfl|hw
    ·show⟨_,rfl,by show Nat.le_add_right ..⟩
    ·show h2 w hw
theorem oP{n:Nat}{l:List PF}(h:∀f∈l,f.d.length≤n):((l.map (·.d)).map (·.length)).sum≤l.length*n:=by erw[map_map];show zi h
theorem zv{mx place:Int}{r:Row}(hb:¬ aK r.k r.az=true)(hf:r.bB mx []= oS ""):bN mx (r::rest) place []=if((r.k==1 ||r.k==5)&&!(r.names.contains bw))=true then bN mx rest (place+(9+r.b.length)) [r.pf]
    else(place+(9+(r.b.length:Int)),TE.fr r.k r.az r.names r.pf.d r.pf.m)::bN mx rest (place+(9+r.b.length)) []:=by
 show(?_:(if aK r.k r.az=true then _ else if r.bB mx []≠oS "" then _ else _)=_);erw[ax hb];show aD rfl (ax (not_not_intro hf))
theorem wO{mx place:Int}{r:Row}{a:PF}(hb:¬ aK r.k r.az=true)(hf:r.bB mx (a::t)= oS ""):bN mx (r::rest) place (a::t)=if r.names.contains bw=true then(place+(9+(r.b.length:Int)),TE.fr a.k r.az (bH (a.fl++[bw])) ((a::t++[r.pf]).map (·.d)).flatten a.m)::bN mx rest (place+(9+r.b.length)) []
    else bN mx rest (place+(9+r.b.length)) (a::t++[r.pf]):=by
 show(?_:(if aK r.k r.az=true then _ else if r.bB mx (a::t)≠oS "" then _ else _)=_);erw[ax hb];show aD rfl (ax (not_not_intro hf))
section
variable{dd bk nj:Nat}{es:List (Int×TE)}{bl:List PF}{vs ez:List LV}{mx start place:Int}{rows row fault:LV}{PP:eV}{r:Row}{rest:List Row}{lQ:Option LV}
theorem zw(G:Gd B)(hd:X.d≤280)(hn:X.hn=true)(aZ:X.sc=ai (aB 42))(C:t8 σ0 mx rows start dd PP r rest place es bl)(D:cz σ0 dd bk es bl vs ez σ)(nV:es.length<1000)(dG:r.Ok)(hb:¬ aK r.k r.az=true)(hf:r.bB mx bl= oS "")(qv:r.pf.d.length≤1000)(ej:σ[nj]? =some (.list (r.names.map .str)))(n1:nj≠bk)(n2:nj≠dd):
  XE B X cp CI [some rows,oi start,oi mx,oo dd,oo bk,some (.int (place+(9+(r.b.length:Int)))),some row,oi r.k,oi r.f,oi r.az,ob r.b,some fault,ob r.pf.d,oi r.pf.m,oo nj,lQ] σ PP:=by
 have nd:cp.Nodup:=by nofun
 have As:cY bl r=false:=by
  unfold Row.bB at hf
  split at hf
  ·show absurd hf (by nofun)
  ·rename_i z;replace z:=hf▸z
   cases h:cY bl r with
   |false=>rfl
   |true=>replace z:=h▸z;show absurd (by nofun) z
 have gr:∀{σ'},Ext σ σ'→nU σ' bk dd r.pf.raw (.tup [.int r.k,.int r.az,.obj nj,.bytes r.pf.d,.int r.pf.m]):=fun x=>⟨nj,rfl,x _ _ ej,n1,n2⟩;have x1:=Ext.app σ [.list []];have D1:=D.grow x1
 have e1:(σ++[LO.list []])[σ.length]? =some (.list []):=by show gA
 have M9:r.pf.d.length≤1000∧r.pf.fl.length≤9:=⟨qv,by have:=r.il;show(?_:r.names.length≤9);show nt⟩;show .o ?_;show af.mk (.CG nt D1.b e1 ?_)
 induction bl using List.casesOn with
 |nil=>
  have LM:ez=[]:=length_eq_zero_iff.mp D.t7;subst LM;have hq:=zv (rest:=rest) (place:=place) hb hf;show(?_:aw ..)
  have dy:([1,5]:List Int).contains r.k=(r.k==1 ||r.k==5):=by show(?_:(r.k==1 ||(r.k==5 ||false))=_);show aD rfl (Bool.or_false ..)
  show aw.f ?_;show(?_:aw ..)
  have putD:((r.k==1 ||r.k==5)&&!(r.names.contains bw))=false→∀{σ2},Ext σ σ2→XE B X cp [.expr (.bA (oS "append") (.var 3) [.tup [.var 5,.tup [.var 7,.var 9,.var 14,.var 12,.var 13]]])] [some rows,oi start,oi mx,oo dd,oo bk,some (.int (place+(9+(r.b.length:Int)))),some row,oi r.k,oi r.f,oi r.az,ob r.b,some fault,ob r.pf.d,oi r.pf.m,oo nj,lQ] σ2 (cx B X cp [] PP):=by
   intro hz σ2 x2;replace hq:=hz▸hq;rw[ax (by decide)]at hq;have D2:=D.grow x2;show .o ?_;show MethW.mk _ _ (.append D2.d) ?_;show af.mk (.append D2.d (by have:=D2.wD;show nt) ?_);show XE.o ?_
   conv=>whnf
   show C.next [(place+(9+(r.b.length:Int)),r.pf.raw)] [] bk _ _ _ _ (D2.due (gr x2) nV) (Nat.le_refl _) hq ⟨rfl,rfl,rfl,rfl,rfl,rfl,trivial⟩
  show aw.mk (fun c=>?_) (fun c=>?_)<;>(first|show(?_:af _)|show(?_:aw ..)|fail)
  ·show⟨.wF (l:=r.names) (x1 _ _ ej) ?_⟩;show(?_:aw ..);show aw.mk (fun c2=>?_) (fun c2=>?_)<;>show(?_:XE ..)
   ·replace c:=dy▸c;replace hq:=c▸hq;replace hq:=c2▸hq;rw[aJ (by decide)]at hq;show .o ?_;show MethW.mk _ _ (.append D1.b) ?_;show af.mk (.append D1.b (by decide) ?_);have D2:=D1.bF (gr x1) (by decide) M9;generalize (σ++[LO.list []]).set bk _=σ2 at D2⊢;show af.mk (.fP D2.b (by simp) ?_);show(?_:aw ..);show aw.f ?_;show(?_:aw ..)
    repeat(first|((with_reducible show .f ?_);show(?_:XE ..))|(show .o ?_;show(?_:XE ..))|(show .o ?_;conv=>whnf)|fail)
    show C.next [] [r.pf] bk _ _ _ _ (by erw[append_nil ..];show D2) (Nat.zero_le _) hq ⟨rfl,rfl,rfl,rfl,rfl,rfl,trivial⟩
   ·show putD (by(erw[show(!r.names.contains bw)=false from c2];show aD rfl (Bool.and_false ..))) x1
  ·show aw.f ?_;show putD (by(show bD ?_ dy;erw[c];show aD rfl (Bool.false_and ..))) x1
 |cons a t=>
  have hq:=wO (rest:=rest) (place:=place) hb hf;have As:(r.k !=9 ||r.az !=a.az||(a::t).length==64)=false:=As;simp only[Bool.or_eq_false_iff,bne_eq_false_iff_eq,beq_eq_false_iff_ne]at As;show aA As ?_;rintro⟨k9,hsid⟩ O5;have hl:=D1.zu
  obtain⟨v0,br,rfl⟩:∃v0 br,ez=v0::br:=by
   induction ez using List.casesOn with
   |nil=>have:=D.t7;simp at this
   |cons v0 br=>show⟨v0,br,rfl⟩
  show iP D.br.1 ?_;rintro ja rfl Na Nb O6;show(?_:aw ..);show aw.t ?_;show(?_:aw ..);show aw.t ?_;show XE.o ?_;show MethW.mk _ _ (.append D1.b) ?_;show(?_:af _);have Nc:=D1.t7;show⟨.append D1.b (by ac_rfl) ?_⟩;have D2:=D1.bF (gr x1) (by ac_rfl) M9
  have x2:∀(j:Nat) l,j≠bk→σ[j]? =some (.list l)→((σ++[LO.list []]).set bk (.list (.tup [.int a.k,.int a.az,.obj ja,.bytes a.d,.int a.m]::br++[.tup [.int r.k,.int r.az,.obj nj,.bytes r.pf.d,.int r.pf.m]])))[j]? =some (.list l):=fun j l n e=>by erw[getElem?_set_ne (Ne.symm n)];show x1 _ _ e
  have en:=x2 nj _ n1 ej;have ea:=x2 ja _ Nb Na;generalize (σ++[LO.list []]).set bk _=σ2 at D2 en ea⊢;show af.mk (.fP D2.b (by simp at*;ac_rfl) ?_);show(?_:aw ..);show aw.mk (fun c=>?_) (fun c=>absurd (of_decide_eq_false c) (by simp;try lia));show(?_:af _);have x3:=Ext.app σ2 [.list [.str (oS "END_HEADERS")]];show⟨.Em (l:=r.names) (m:=[bw]) nt (x3 _ _ en) (gA) ?_⟩;have D3:=D2.grow x3;erw[r.names9 k9];show(?_:aw ..);show aw.mk (fun c2=>?_) (fun c2=>?_)<;>show(?_:XE ..)
  ·replace hq:=c2▸hq;replace hq:=aJ rfl▸hq;show .o ?_;show af.mk (.list D3.b (by decide) (by decide) rfl ?_);show MethW.mk _ _ (.append D3.d) ?_;show(?_:af _);have CV:=D3.small a (.head _);have x4:=Ext.app (σ2++[LO.list [.str (oS "END_HEADERS")]]) [.list [.str (oS "END_HEADERS")]];have LN:=x4 _ _ (x3 _ _ ea)
   have IV:(σ2++[LO.list [.str (oS "END_HEADERS")]]++[.list [.str (oS "END_HEADERS")]])[(σ2++[LO.list [.str (oS "END_HEADERS")]]).length]? =some (.list [.str (oS "END_HEADERS")]):=by show gA
   have D4:=D3.grow x4;generalize σ2++[LO.list [.str (oS "END_HEADERS")]]=σ3 at D3 D4 LN IV⊢;generalize σ3.length=j4 at IV⊢;generalize σ3++[LO.list [.str (oS "END_HEADERS")]]=σ4 at D4 LN IV⊢;show⟨.Kb LN IV (by simp;ac_rfl) ?_⟩;show(?_:af _);have x5:=Ext.app σ4 [.list (a.fl.map .str++[.str (oS "END_HEADERS")])];show⟨.mM (l:=a.fl++[bw]) (by simp) (by simp;ac_rfl) ?_⟩;have x6:=x5.trans (Ext.app _ [.list ((bH (a.fl++[bw])).map .str)]);have D6:=D4.grow x6
   have e6:(σ4++[LO.list (a.fl.map .str++[.str (oS "END_HEADERS")])]++[.list ((bH (a.fl++[bw])).map .str)])[(σ4++[LO.list (a.fl.map .str++[.str (oS "END_HEADERS")])]).length]? =some (.list ((bH (a.fl++[bw])).map .str)):=by show gA
   have hj:(σ4++[LO.list (a.fl.map .str++[.str (oS "END_HEADERS")])]).length≠bk∧(σ4++[LO.list (a.fl.map .str++[.str (oS "END_HEADERS")])]).length≠dd:=by have b1:=(dU D4.d).1;have b2:=(dU D4.b).1;erw[length_append];show⟨by ac_rfl,by ac_rfl⟩
   generalize σ4++[LO.list (a.fl.map .str++[.str (oS "END_HEADERS")])]=σ5 at D6 e6 hj⊢;generalize σ5.length=j6 at e6 hj⊢;generalize σ5++[LO.list ((bH (a.fl++[bw])).map .str)]=σ6 at D6 e6⊢;show MethW.mk _ _ .join ?_;show af.mk ?_;show aA D6.br.rV fun O7 O8=>?_;have O9:=D6.t7;have Pa:=D6.zu;show .oO (n:=3) hn (by erw[aZ];left) (by erw[aZ];left) (by left) (by left) rfl D6.b (by ac_rfl) O8 (by decide) fun σ7 x7 e7=>?_;have D7:=D6.grow x7;show⟨.rU (ds:=(a::t++[r.pf]).map (·.d)) (by(erw[e7];show aD rfl O7)) (hH (oP fun f hf=>(D6.small f hf).1) (by ac_rfl)) ?_⟩;show af.mk (.append D7.d (by have:=D7.wD;show nt) ?_);show(?_:XE ..);have D8:=D7.due (p:=place+(9+(r.b.length:Int))) (t:=.fr a.k r.az (bH (a.fl++[bw])) ((a::t++[r.pf]).map (·.d)).flatten a.m) (u:=.tup [.int a.k,.int r.az,.obj j6,.bytes ((a::t++[r.pf]).map (·.d)).flatten,.int a.m]) ⟨j6,rfl,x7 _ _ e6,hj.1,hj.2⟩ nV
   repeat(first|(show .o ?_;show(?_:XE ..))|(show .o ?_;conv=>whnf)|fail)
   show C.next [_] [] _ _ _ _ _ D8.fresh (Nat.le_refl _) hq ⟨rfl,rfl,rfl,rfl,rfl,rfl,trivial⟩
  ·replace hq:=c2▸hq;rw[ax (by decide)]at hq
   repeat(first|(show .o ?_;show(?_:XE ..))|(show .o ?_;conv=>whnf)|fail)
   show C.next [] (a::t++[r.pf]) bk _ _ _ _ (by erw[append_nil ..];show D3) (Nat.zero_le _) hq ⟨rfl,rfl,rfl,rfl,rfl,rfl,trivial⟩
end
def qk:List IS:=(.ite (.cmp .NotEq (.var 11) (.lit (.str (oS "")))) [.expr (.bA (oS "append") (.var 3) [.tup [.var 5,.tup [.lit (.str (oS "fault")),.var 11]]]),
 (.ret (.var 3))] [])::CI
def zx:List IS:=(.ite (.cn [.cmp .Eq (.var 11) (.lit (.str (oS ""))),.cmp .NotEq (.var 4) (.lst [])]) [.ite (.kY [.cmp .NotEq (.var 7) (.li 9),.cmp .NotEq (.var 9) (.item (.item (.var 4) (.li 0)) (.li 1)),.cmp .Eq (.call (.builtin "len") [.var 4]) (.li 64)]) [.assign 11 (.lit (.str (oS "refused")))] []] [])::qk
def zy:List IS:=(.assign 14 (.ite (.cmp .In (.var 7) (.lit (.gw [(0,(.gw [(1,(.str (oS "END_STREAM"))),(8,(.str (oS "PADDED")))])),(1,(.gw [(1,(.str (oS "END_STREAM"))),(4,(.str (oS "END_HEADERS"))),(8,(.str (oS "PADDED"))),(32,(.str (oS "PRIORITY")))])),(5,(.gw [(4,(.str (oS "END_HEADERS"))),(8,(.str (oS "PADDED")))])),(9,(.gw [(4,(.str (oS "END_HEADERS")))]))]))) (.call (.builtin "sorted") [.raw (jN (aB 42) [3,6] 0 [1,1])]) (.lst [])))::zx
def CK:List IS:=(.ite (.cmp .Gt (.call (.builtin "len") [.var 10]) (.var 2)) [.assign 11 (.lit (.str (oS "large")))] [])::zy
def kh:List IS:=(.aug 5 (.bin .Add (.li 9) (.call (.builtin "len") [.var 10])))::(.unpack [11,12,13] (.call (.ref 1122) [.var 6]))::CK
def CL:List IS:=(.unpack [7,8,9,10] (.var 6))::
 (.assign 9 (.bin .Mod (.var 9) (.bin .Pow (.li 2) (.li 31))))::
 (.ite (.kY [.cn [.cmp .In (.var 7) (.tup [.li 0,.li 1,.li 2,.li 3,.li 5,.li 9]),.cmp .Eq (.var 9) (.li 0)],.cn [.cmp .In (.var 7) (.tup [.li 4,.li 6,.li 7]),.cmp .NotEq (.var 9) (.li 0)]]) [.expr (.bA (oS "append") (.var 3) [.tup [.bin .Add (.var 5) (.li 9),.tup [.lit (.str (oS "fault")),.lit (.str (oS "refused"))]]]),
 (.ret (.var 3))] [])::kh
section
variable{dd bk nj:Nat}{es:List (Int×TE)}{bl:List PF}{vs ez:List LV}{mx start place:Int}{rows row:LV}{PP:eV}{r:Row}{rest:List Row}{x6 x7 x8 x9 FE ve vf vg sE lQ:Option LV}
theorem Er(G:Gd B)(hd:X.d≤280)(hn:X.hn=true)(aZ:X.sc=ai (aB 42))(C:t8 σ0 mx rows start dd PP r rest place es bl)(D:cz σ0 dd bk es bl vs ez σ)(nV:es.length<1000)(dG:r.Ok)(hb:¬ aK r.k r.az=true)(qv:r.pf.d.length≤1000)(ej:σ[nj]? =some (.list (r.names.map .str)))(n1:nj≠bk)(n2:nj≠dd):
  XE B X cp qk [some rows,oi start,oi mx,oo dd,oo bk,some (.int (place+(9+(r.b.length:Int)))),some row,oi r.k,oi r.f,oi r.az,ob r.b,some (.str (r.bB mx bl)),ob r.pf.d,oi r.pf.m,oo nj,lQ] σ PP:=by
 have nd:cp.Nodup:=by nofun
 show .o ?_;show af.mk (.GS ?_);show(?_:aw ..);show aw.mk (fun c=>?_) (fun c=>?_)<;>show(?_:XE ..)
 ·have hf:r.bB mx bl≠oS "":=by simpa using c
  show .o ?_;show MethW.mk _ _ (.append D.d) ?_;show af.mk (.append D.d (by have:=D.wD;show nt) ?_)
  conv=>whnf
  show C.ret [(place+(9+(r.b.length:Int)),.fault (r.bB mx bl))] bk _ _ bl _ _ (D.due (t:=.fault (r.bB mx bl)) rfl nV) (by
   show(?_:(if aK r.k r.az=true then _ else if r.bB mx bl≠oS "" then _ else _)=_)
   (erw[ax hb];show aD rfl (aJ hf)))
 ·have hf:r.bB mx bl= oS "":=by simpa using c
  show .o ?_;show(?_:XE ..);show zw G hd hn aZ C D nV dG hb hf qv ej n1 n2
theorem GZ(G:Gd B)(hd:X.d≤280)(hn:X.hn=true)(aZ:X.sc=ai (aB 42))(C:t8 σ0 mx rows start dd PP r rest place es bl)(D:cz σ0 dd bk es bl vs ez σ)(nV:es.length<1000)(dG:r.Ok)(hb:¬ aK r.k r.az=true)(qv:r.pf.d.length≤1000)(ej:σ[nj]? =some (.list (r.names.map .str)))(n1:nj≠bk)(n2:nj≠dd):
  lO B X cp 60 .go PP zx [some rows,oi start,oi mx,oo dd,oo bk,some (.int (place+(9+(r.b.length:Int)))),some row,oi r.k,oi r.f,oi r.az,ob r.b,some (.str (r.fault mx)),ob r.pf.d,oi r.pf.m,oo nj,lQ] σ:=by
 have nd:cp.Nodup:=by nofun
 have vh:∀{F:Str} {σ2},r.bB mx bl=F→Ext σ σ2→XE B X cp qk [some rows,oi start,oi mx,oo dd,oo bk,some (.int (place+(9+(r.b.length:Int)))),some row,oi r.k,oi r.f,oi r.az,ob r.b,some (.str F),ob r.pf.d,oi r.pf.m,oo nj,lQ] σ2 PP:=fun e x=>by subst e;show Er G hd hn aZ C (D.grow x) nV dG hb qv (x _ _ ej) n1 n2
 have x1:=Ext.app σ [.list []];have D1:=D.grow x1;show af.mk (.eqStr ?_);show(?_:aw ..);show aw.mk (fun c=>?_) (fun c=>?_)<;>(first|show(?_:af _)|show(?_:aw ..)|fail)
 ·have hf:r.fault mx= oS "":=js c
  have h2:∀z:Bool,cY bl r=z→r.bB mx bl=if z=true then aP else oS "":=by rintro z rfl;unfold Row.bB;erw[hf];rfl
  erw[hf];show⟨.CG nt D1.b (gA) ?_⟩;show(?_:aw ..)
  induction bl using List.casesOn with
  |nil=>have LM:ez=[]:=length_eq_zero_iff.mp D.t7;subst LM;show aw.f ?_;show XE.o ?_;show(?_:XE ..);show vh (h2 false rfl) x1
  |cons a t=>
   obtain⟨v0,br,rfl⟩:∃v0 br,ez=v0::br:=by
    induction ez using List.casesOn with
    |nil=>have:=D.t7;simp at this
    |cons v0 br=>show⟨v0,br,rfl⟩
   show iP D.br.1 ?_;rintro ja rfl Na Nb O6;have M1:=D.t7;have O5:=D.zu
   have bad:∀{σ2},cY (a::t) r=true→Ext σ σ2→XE B X cp [.assign 11 (.lit (.str (oS "refused")))] [some rows,oi start,oi mx,oo dd,oo bk,some (.int (place+(9+(r.b.length:Int)))),some row,oi r.k,oi r.f,oi r.az,ob r.b,some (.str (oS "")),ob r.pf.d,oi r.pf.m,oo nj,lQ] σ2 (cx B X cp [] (cx B X cp qk PP)):=fun z x=>by show .o ?_;show XE.o ?_;show(?_:XE ..);show vh (h2 true z) x
   show aw.t ?_;show XE.o ?_;show(?_:aw ..);show aw.mk (fun c1=>?_) (fun c1=>?_)<;>(first|show(?_:af _)|show(?_:aw ..)|fail)
   ·show aw.t ?_;show bad (by show(?_:(r.k !=9 ||_||_)=true);erw[c1];rfl) x1
   show⟨.list D1.b (by decide) (by decide) rfl ?_⟩;show(?_:aw ..);show aw.mk (fun c2=>?_) (fun c2=>?_)<;>(first|show(?_:af _)|show(?_:aw ..)|fail)
   ·show aw.t ?_;show bad (by show(?_:(r.k !=9 ||r.az !=a.az||_)=true);erw[c1,c2];rfl) x1
   show⟨.fP D1.b (by ac_rfl) ?_⟩;show(?_:aw ..);show aw.mk (fun c3=>?_) (fun c3=>?_)<;>show(?_:XE ..)
   ·show bad (by
     show(?_:(r.k !=9 ||r.az !=a.az||(a::t).length==64)=true)
     have:(a::t).length=64:=by have:=eB c3;ac_rfl
     erw[this];simp) x1
   ·show .o ?_;show XE.o ?_;show(?_:XE ..);show vh (h2 false ?_) x1;show(?_:(r.k !=9 ||r.az !=a.az||(a::t).length==64)=false)
    have:((a::t).length==64)=false:=oW fun z=>by have:=beq_eq_false_iff_ne.mp c3;ac_rfl
    (erw[c1,c2,this]);rfl
 ·show aw.f ?_;show XE.o ?_;show(?_:XE ..);show vh ?_ (.refl _);unfold Row.bB;have:(r.fault mx== oS "")=false:=oW (of_decide_eq_false c);erw[this];rfl
end
theorem lW{m:Nat}{jo:Hint}{P:eV}{env:cT}(e:env=ae)(h:lO B X xs m jo P ir env σ):lO B X xs m jo P ir ae σ:=e▸h
section
variable{dd bk nj:Nat}{es:List (Int×TE)}{bl:List PF}{vs ez:List LV}{mx start place:Int}{rows row:LV}{PP:eV}{r:Row}{rest:List Row}{x6 x7 x8 x9 FE ve vf vg sE lQ:Option LV}
theorem G0(G:Gd B)(hd:X.d≤280)(hn:X.hn=true)(aZ:X.sc=ai (aB 42))(C:t8 σ0 mx rows start dd PP r rest place es bl)(D:cz σ0 dd bk es bl vs ez σ)(nV:es.length<1000)(dG:r.Ok)(hb:¬ aK r.k r.az=true)(qv:r.pf.d.length≤1000):
  XE B X cp zy [some rows,oi start,oi mx,oo dd,oo bk,some (.int (place+(9+(r.b.length:Int)))),some row,oi r.k,oi r.f,oi r.az,ob r.b,some (.str (r.fault mx)),ob r.pf.d,oi r.pf.m,sE,lQ] σ PP:=by
 have nd:cp.Nodup:=by nofun
 have C7:∀{nj:Nat} {σ2},Ext σ σ2→σ.length≤nj→σ2[nj]? =some (.list (r.names.map .str))→lO B X cp 60 .go PP zx [some rows,oi start,oi mx,oo dd,oo bk,some (.int (place+(9+(r.b.length:Int)))),some row,oi r.k,oi r.f,oi r.az,ob r.b,some (.str (r.fault mx)),ob r.pf.d,oi r.pf.m,oo nj,lQ] σ2:=fun{nj σ2} x hz e=>by have b1:=(dU D.d).1;have b2:=(dU D.b).1;show GZ G hd hn aZ C (D.grow x) nV dG hb qv e (by ac_rfl) (by ac_rfl)
 show .o ?_;show(?_:aw ..)
 have hl:(kQ.lookup r.k).isSome=(r.k==0 ||r.k==1 ||r.k==5 ||r.k==9):=by
  unfold kQ;simp only[lookup_cons,lookup_nil]
  repeat' split
  all_goals simp_all
 have Ie:(r.k==0 ||r.k==1 ||r.k==5 ||r.k==9)=false→r.names=[]:=fun z=>by simp only[Bool.or_eq_false_iff,beq_eq_false_iff_ne]at z;unfold Row.names cD bL;erw[ax z.1.1.1,ax z.1.1.2,ax z.1.2,ax z.2];rfl
 show aw.mk (fun c=>?_) (fun c=>?_)
 ·have c:(kQ.lookup r.k).isSome=true:=c;replace c:=hl▸c
  have hk:r.k=0∨r.k=1∨r.k=5∨r.k=9:=by simpa[or_assoc]using c
  show af.mk (t6 G aZ hn (k:=r.k) (f:=r.f) rfl rfl hk fun σ2 x e=>?_);show(?_:af _);have hz:=kg r.k r.f;show⟨.mM e (Nat.lt_of_le_of_lt ‹_› (by decide)) ?_⟩;show lW rfl (C7 (x.trans (.app _ _)) x.len (by simp;rfl))
 ·have c:(kQ.lookup r.k).isSome=false:=c;replace c:=hl▸c;show lW rfl (C7 (.app _ _) (Nat.le_refl _) (by erw[Ie c];simp))
theorem G2(G:Gd B)(hd:X.d≤280)(hn:X.hn=true)(aZ:X.sc=ai (aB 42))(C:t8 σ0 mx rows start dd PP r rest place es bl)(D:cz σ0 dd bk es bl vs ez σ)(nV:es.length<1000)(dG:r.Ok)(hb:¬ aK r.k r.az=true)(qv:r.pf.d.length≤1000):
  lO B X cp 60 .go PP CK [some rows,oi start,oi mx,oo dd,oo bk,some (.int (place+(9+(r.b.length:Int)))),some row,oi r.k,oi r.f,oi r.az,ob r.b,some (.str (bodyOf r.k r.f r.b).fault),ob r.pf.d,oi r.pf.m,sE,lQ] σ:=by
 have nd:cp.Nodup:=by nofun
 have fM:=dG.b
 have C8:∀{F:Str},r.fault mx=F→XE B X cp zy [some rows,oi start,oi mx,oo dd,oo bk,some (.int (place+(9+(r.b.length:Int)))),some row,oi r.k,oi r.f,oi r.az,ob r.b,some (.str F),ob r.pf.d,oi r.pf.m,sE,lQ] σ PP:=fun e=>by subst e;show G0 G hd hn aZ C D nV dG hb qv
 show af.mk (.aX nt ?_);show(?_:aw ..);show aw.mk (fun c=>?_) (fun c=>?_)<;>show(?_:XE ..)
 ·show .o ?_;show(?_:XE ..);show C8 (by unfold Row.fault;(show aD rfl (aJ (js c))))
 ·show .o ?_;show C8 (by unfold Row.fault;(show aD rfl (ax (of_decide_eq_false c))))
theorem G3(G:Gd B)(hd:X.d≤280)(hn:X.hn=true)(aZ:X.sc=ai (aB 42))(C:t8 σ0 mx rows start dd PP r rest place es bl)(D:cz σ0 dd bk es bl vs ez σ)(nV:es.length<1000)(dG:r.Ok)(hb:¬ aK r.k r.az=true):
  XE B X cp kh [some rows,oi start,oi mx,oo dd,oo bk,oi place,some (cX r.k r.f r.st r.b),oi r.k,oi r.f,oi r.az,ob r.b,ve,vf,vg,sE,lQ] σ PP:=by
 have nd:cp.Nodup:=by nofun
 have fM:=dG.b;show .o ?_;show af.mk (.aX nt ?_);show aY.mk hn ?_;show(?_:af _);show⟨wu G nt hn fM ?_⟩;show lW rfl (G2 G hd hn aZ C D nV dG hb (by have:=(oM r.k r.f r.b).2.2;show(?_:(bodyOf r.k r.f r.b).data.length≤1000);lia))
theorem G4(G:Gd B)(hd:X.d≤280)(hn:X.hn=true)(aZ:X.sc=ai (aB 42))(C:t8 σ0 mx rows start dd PP r rest place es bl)(D:cz σ0 dd bk es bl vs ez σ)(nV:es.length<1000)(dG:r.Ok):
  XE B X cp CL [some rows,oi start,oi mx,oo dd,oo bk,oi place,some (cX r.k r.f r.st r.b),x7,x8,x9,FE,ve,vf,vg,sE,lQ] σ PP:=by
 have nd:cp.Nodup:=by nofun
 have E6:(2:Int) ^ Int.toNat 31=2147483648:=rfl;have ok:¬ aK r.k r.az=true→XE B X cp kh [some rows,oi start,oi mx,oo dd,oo bk,oi place,some (cX r.k r.f r.st r.b),oi r.k,oi r.f,oi r.az,ob r.b,ve,vf,vg,sE,lQ] σ PP:=G3 G hd hn aZ C D nV dG
 have bad:aK r.k r.az=true→XE B X cp [.expr (.bA (oS "append") (.var 3) [.tup [.bin .Add (.var 5) (.li 9),.tup [.lit (.str (oS "fault")),.lit (.str (oS "refused"))]]]),.ret (.var 3)] [some rows,oi start,oi mx,oo dd,oo bk,oi place,some (cX r.k r.f r.st r.b),oi r.k,oi r.f,oi r.az,ob r.b,ve,vf,vg,sE,lQ] σ (cx B X cp kh PP):=fun hb=>by
  show .o ?_;show MethW.mk _ _ (.append D.d) ?_;show af.mk (.append D.d (by have:=D.wD;show nt) ?_)
  conv=>whnf
  show C.ret [(place+9,.fault aP)] bk _ _ bl _ _ (D.due (t:=.fault aP) rfl nV) (by
   show(?_:(if aK r.k r.az=true then _ else _)=_)
   (show aD rfl (aJ hb)))
 have go:aK r.k r.az=false→XE B X cp [] [some rows,oi start,oi mx,oo dd,oo bk,oi place,some (cX r.k r.f r.st r.b),oi r.k,oi r.f,oi r.az,ob r.b,ve,vf,vg,sE,lQ] σ (cx B X cp kh PP):=fun hb=>by show .o ?_;show ok (by erw[hb];decide)
 show .o ?_;show aY.mk hn ?_;show(?_:aY ..);show⟨by lia,?_⟩;show(?_:aY ..);erw[E6];show⟨by decide,?_⟩;show(?_:aw ..)
 have half:∀{z:Bool},([0,1,2,3,5,9].contains r.k&&r.az==0)=false→aw ([4,6,7].contains r.k) (aw (r.az !=0) (XE B X cp [.expr (.bA (oS "append") (.var 3) [.tup [.bin .Add (.var 5) (.li 9),.tup [.lit (.str (oS "fault")),.lit (.str (oS "refused"))]]]),.ret (.var 3)] [some rows,oi start,oi mx,oo dd,oo bk,oi place,some (cX r.k r.f r.st r.b),oi r.k,oi r.f,oi r.az,ob r.b,ve,vf,vg,sE,lQ] σ (cx B X cp kh PP))
   (XE B X cp [] [some rows,oi start,oi mx,oo dd,oo bk,oi place,some (cX r.k r.f r.st r.b),oi r.k,oi r.f,oi r.az,ob r.b,ve,vf,vg,sE,lQ] σ (cx B X cp kh PP)))
   (aw false (XE B X cp [.expr (.bA (oS "append") (.var 3) [.tup [.bin .Add (.var 5) (.li 9),.tup [.lit (.str (oS "fault")),.lit (.str (oS "refused"))]]]),.ret (.var 3)] [some rows,oi start,oi mx,oo dd,oo bk,oi place,some (cX r.k r.f r.st r.b),oi r.k,oi r.f,oi r.az,ob r.b,ve,vf,vg,sE,lQ] σ (cx B X cp kh PP))
   (XE B X cp [] [some rows,oi start,oi mx,oo dd,oo bk,oi place,some (cX r.k r.f r.st r.b),oi r.k,oi r.f,oi r.az,ob r.b,ve,vf,vg,sE,lQ] σ (cx B X cp kh PP))):=fun{_} h0=>by
  show aw.mk (fun c3=>?_) (fun c3=>?_)
  ·show aw.mk (fun c4=>bad ?_) (fun c4=>go ?_)
   ·unfold aK;erw[h0,c3,c4];rfl
   ·unfold aK;erw[h0,c3,c4];rfl
  ·show aw.f (go ?_);unfold aK;erw[h0,c3];rfl
 show aw.mk (fun c1=>?_) (fun c1=>?_)
 ·show(?_:aw ..);show aw.mk (fun c2=>?_) (fun c2=>?_)
  ·show(?_:aw ..);show aw.t (bad ?_);unfold aK;erw[c1];have c2:(r.az==0)=true:=c2;erw[c2];rfl
  ·show(?_:aw ..)
   show half (z:=true) (by
    have c2:(r.az==0)=false:=c2
    (erw[c1,c2]);rfl)
 ·show(?_:aw ..);show aw.f ?_;show half (z:=true) (by erw[c1];rfl)
end
theorem zA(G:Gd B)(hX:X.d≤270)(hn:X.hn=true){gu:Nat}{rows:List Row}{start mx:Int}(e:σ[gu]? =some (.list (rows.map fun r=>cX r.k r.f r.st r.b)))(dG:∀r∈rows,r.Ok)(hz:rows.length≤1000)(h:∀σ' dd bk vs,Ext σ σ'→σ.length≤dd→σ'[dd]? =some (.list vs)→bM σ' bk dd (bN mx rows start []) vs→P (.obj dd) σ'):aM B X env σ [.obj gu,.int start,.int mx] (fun vs=>PySem.call (.ref 1127) vs) P:=by
 show .fnX G (Dr G) nt rfl (JZ _) (e0:=(oo gu::oi start::oi mx::qC)) rfl ?_
 have nd:cp.Nodup:=by nofun
 generalize bZ:X.lL env (fdOf 42 (oS "_law_due") 1126)=X'
 have cR:X'.hn=true:=by show bD ?_ bZ;show hn
 have du:X'.d≤280:=by show bD ?_ bZ;show(?_:X.d+_≤280);lia
 have aZ:X'.sc=ai (aB 42):=by show bD ?_ bZ;rfl
 clear bZ;show .o ?_;show(?_:Bf ..)
 show⟨cR,rows.map (fun r=>cX r.k r.f r.st r.b),fun i ev σ1=>∃es bl bk vs ez place,ev=(oo gu::oi start::oi mx::oo σ.length::oo bk::oi place::xD)∧
  cz σ σ.length bk es bl vs ez σ1∧es.length≤i∧i≤rows.length∧bN mx rows start []=es++bN mx (rows.drop i) place bl,?_,?_,?_,?_⟩
 ·show⟨_,⟨[],[],_,_,_,start,rfl,cz.start,Nat.zero_le _,Nat.zero_le _,rfl⟩,rfl,rfl,rfl,rfl,by erw[length_append];rfl,rfl,trivial⟩
 ·rintro i ev σ1 zq;show Ji zq ?_;rintro es bl bk vs ez place rfl D U;show D.ext _ _ e
 ·rintro i v ev σ1 hi zq;show FQ zq ?_;rintro es bl bk vs ez place rfl D nV Pc hq;replace hi:=getElem?_map▸hi;show aa (Option.map_eq_some_iff.mp hi) ?_;rintro r hr rfl;show av (dU hr) ?_;rintro nG rfl;replace hq:=drop_eq_getElem_cons nG▸hq;show(?_:XE B X'.calm cp CL _ σ1 _);show G4 (rest:=rows.drop (i+1)) G du cR aZ ⟨fun fL bl' bk' vs ez σ' env D' h1 e' wk=>?_,fun fL bk' vs ez bl' σ' env D' e'=>?_⟩ D (by lia) (dG _ (getElem_mem nG))
  ·show cM _ ⟨es++fL,bl',bk',vs,ez,_,rfl,D',by erw[length_append];lia,nG,by(erw[hq,e'];show aD rfl (append_assoc ..))⟩ wk
  ·show h σ' _ bk' vs D'.ext (Nat.le_refl _) D'.d (by(erw[hq,e']);show D'.dr)
 ·rintro ev σ1 i hi zq;show FQ zq ?_;rintro es bl bk vs ez place rfl D nV Pc hq;rw[length_map]at hi;show .o ?_
  conv=>whnf
  show h σ1 _ bk vs D.ext (Nat.le_refl _) D.d ?_;erw[hq,drop_eq_nil_of_le hi];show(?_:bM _ _ _ (es++[]) _);erw[append_nil ..];show D.dr
noncomputable def intOf(v:LV):Int:=match v with
 | .int i=>i
 |_=>0
theorem iL{α β:Type}{f:α→Option β}{g:α→β}{l:List α}(h:∀x∈l,f x=some (g x)):l.filterMap f=l.map g:=by
 induction l with
 |nil=>rfl
 |cons a l ih=>erw[filterMap_cons,h a (.head _),map_cons];show aD rfl (ih fun x hx=>h x (.tail _ hx))
theorem wQ(G:Gd B)(hd:X.d≤300)(aZ:X.sc=ai (aB 40))(hn:X.hn=true){p:Int}{x7 x8 x9 FE ve vf vg sE lQ LP:Option LV}(h:∀σ2 ns,Ext σ σ2→ns.length≤5→cS ns→σ2[σ.length]? =some (.list (ns.map .int))→P (.obj σ.length) σ2):aS B X (envOf bu [some x0,some x1,some x2,some x3,some x4,some x5,oi p,x7,x8,x9,FE,ve,vf,vg,sE,lQ,LP]) σ (jN (aB 40) [3,5] 0 [1]) P:=by
 have Pd:bu.Nodup:=by nofun
 have hm:=fm (x:=p.fdiv 4) (k:=6) (by decide)
 have Cn:∀v,put (oS "i") v (cO [oS "part"] (envOf bu [some x0,some x1,some x2,some x3,some x4,some x5,oi p,x7,x8,x9,FE,ve,vf,vg,sE,lQ,LP]))=envOf [oS "part",oS "i"] [oi p,some v]:=by intro v;have e:(envOf bu [some x0,some x1,some x2,some x3,some x4,some x5,oi p,x7,x8,x9,FE,ve,vf,vg,sE,lQ,LP]).lookup (oS "part")=oi p:=rfl;unfold cO;erw[filterMap_cons,e];rfl
 have nd:[Str.ofString "part",oS "i"].Nodup:=by nofun
 have hz:(Builtin.Range.rangeSize 0 ((p.fdiv 4).fmod 6) 1).toNat=((p.fdiv 4).fmod 6).toNat:=by obtain⟨n,hn⟩:∃n:Nat,(p.fdiv 4).fmod 6=n:=⟨((p.fdiv 4).fmod 6).toNat,by omega⟩;erw[hn];show aD rfl qb
 show .cC hn (fs:=[oS "part"]) (kc (by erw[aZ];left)) (by erw[aZ];left) (by nofun) (fun U=>true) (fun v=>.int ((p*7+31*intOf v).fmod 256)) ?_;show tT G Pd 60 60 (a:=.call (.type "range") [.bin .Mod (.bin .FloorDiv (.var 6) (.li 4)) (.li 6)]) (by erw[aZ];left) ?_;show aY.mk (by decide) ?_;show aY.mk (by decide) ?_;show af.mk (.xH ?_);show(?_:Exists _);show⟨.lZ 0 ((p.fdiv 4).fmod 6) 1,rfl,?_,?_,fun U U=>trivial,fun i v σ2 hi e=>⟨rfl,.refl _⟩,fun i v σ2 hi U x3=>?_,fun σ2 x3 e=>h σ2 ((range ((p.fdiv 4).fmod 6).toNat).map fun(i:Nat)=>(p*7+31*(i:Int)).fmod 256) x3 ?_ ?_ ?_⟩
 ·obtain⟨n,hn⟩:∃n:Nat,(p.fdiv 4).fmod 6=n:=⟨((p.fdiv 4).fmod 6).toNat,by omega⟩;show(?_:Builtin.Range.small 0 _ 1=true);erw[hn];show uO (by omega)
 ·show(?_:(Builtin.Range.rangeSize 0 ((p.fdiv 4).fmod 6) 1).toNat≤_);erw[hz];omega
 ·erw[Cn ..];have hi:(if(i:Int)<Builtin.Range.rangeSize 0 ((p.fdiv 4).fmod 6) 1 then some (LV.int (0+i*1))else none)=some v:=hi
  split at hi
  ·injection hi with z;subst z
   show tT G nd 60 60 (a:=.bin .Mod (.bin .Add (.bin .Mult (.var 0) (.li 7)) (.bin .Mult (.li 31) (.var 1))) (.li 256)) (by show(?_:cC _ (bT _ X.sc) _ _ _=_);erw[aZ];left) ?_;show aY.mk (.inr (by decide)) ?_;show aY.mk (.inl (by decide)) ?_;show aY.mk (by decide) ?_;show(?_:And ..);show⟨rfl,.refl _⟩
  ·right
 ·simp;omega
 ·intro y hy;show aa (mem_map.mp hy) ?_;rintro i U rfl;show fm (by decide)
 ·erw[e]
  congr 2
  unfold Src.first;show(?_:map _ (filter _ (filterMap (bS 0 _ 1) (range (Builtin.Range.rangeSize 0 _ 1).toNat)))=_);erw[hz,filter_eq_self.mpr fun U U=>rfl,map_filterMap,List.map_map];show iL fun i hi=>?_;have hi:=mem_range.mp hi;unfold bS;erw[aJ (by omega)];show(?_:some (LV.int ((p*7+31*(0+(i:Int)*1)).fmod 256))=some (LV.int ((p*7+31*(i:Int)).fmod 256)));show aD rfl (show 0+(i:Int)*1=i by lia)
noncomputable def da(k:Int):Int:=if k=0 then 9 else if k=1 then 45 else if k=5 then 12 else if k=9 then 4 else 0
theorem rY(k:Int):mT.lookup k=if k=0 then oi 9 else if k=1 then oi 45 else if k=5 then oi 12 else if k=9 then oi 4 else none:=by
 unfold mT;simp only[lookup_cons,lookup_nil]
 by_cases h0:k=0
 ·subst h0;rfl
 by_cases h1:k=1
 ·subst h1;rfl
 by_cases h5:k=5
 ·subst h5;rfl
 by_cases h9:k=9
 ·subst h9;rfl
 erw[ax h0,ax h1,ax h5,ax h9,oW h0,oW h1,oW h5];show aD rfl (oW h9)
noncomputable def t9(kn:Int)(n:Nat):Bool:=(decide (Builtin.bitAnd (n:Int) (255-kn)≠0)||decide ((n:Int)≤kn))&&decide (0≤Builtin.bitAnd (n:Int) (255-kn))&&decide (Builtin.bitAnd (n:Int) (255-kn)≤255-kn)
theorem uW(k:Int):(range 256).all (t9 (da k))=true:=by
 have z:([9,45,12,4,0]:List Int).all (fun kn=>(range 256).all (t9 kn))=true:=by nofun
 show List.all_eq_true.mp z _ ?_;unfold da
 repeat' split
 all_goals simp
theorem Es{k f o:Int}(hf:0≤f∧f<256)(ho:0≤o∧o<256)(hz:(Builtin.bitAnd f (255-da k)==0)=true):0≤f+Builtin.bitAnd o (255-da k)∧f+Builtin.bitAnd o (255-da k)<256:=by
 have a1:=List.all_eq_true.mp (uW k) f.toNat (mem_range.mpr (by lia));have a2:=List.all_eq_true.mp (uW k) o.toNat (mem_range.mpr (by lia));unfold t9 at a1 a2;replace a1:=(show((f.toNat:Nat):Int)=f by lia)▸a1;replace a2:=(show((o.toNat:Nat):Int)=o by lia)▸a2;simp only[Bool.and_eq_true,Bool.or_eq_true,decide_eq_true_eq]at a1 a2;have:=eB hz
 rcases a1.1.1 with q|q
 ·show absurd this q
 ·omega
theorem zB(k:Int):Builtin.bitAnd 0 (255-da k)=0:=by
 have z:([9,45,12,4,0]:List Int).all (fun kn=>decide (Builtin.bitAnd 0 (255-kn)=0))=true:=by nofun
 show js (List.all_eq_true.mp z _ ?_);unfold da
 repeat' split
 all_goals simp
noncomputable def uX:List IS:=[.unpack [14,12,15,8] (.item (.var 1) (.li (-1))),
 (.assign 16 (.ite (.cmp .In (.var 14) (.call (.ref 1084) [])) (.item (.call (.ref 1084) []) (.var 14)) (.li 0))),
 (.raw (cW (aB 40) [3,12]))]
noncomputable def Row.val(r:Row):LV:=cX r.k r.f r.st r.b
section
variable{rl:Nat}{PP:eV}{L0:List Row}{r:Row}{nums bF cv:LV}{p oth:Int}
theorem oQ(G:Gd B)(hd:X.d≤280)(hn:X.hn=true)(aZ:X.sc=ai (aB 40))(x:Ext σ0 σ)(h0:σ0.length≤rl)(e:σ[rl]? =some (.list ((L0++[r]).map Row.val)))(hz:L0.length≤100000)(hf:0≤r.f∧r.f<256)(ho:0≤oth∧oth<256)(h:∀f' σ' ae,0≤f'→f'<256→(oth=0→f'=r.f)→Ext σ0 σ'→σ'[rl]? =some (.list ((L0++[Row.mk r.k f' r.st r.b]).map Row.val))→WK (some nums::oo rl::some bF::some cv::qC) ae→PP .next ae σ'):
  XE B X bu uX (some nums::oo rl::some bF::some cv::none::none::oi p::none::none::none::none::oi oth::di) σ PP:=by
 have nd:bu.Nodup:=by nofun
 have hlen:((L0++[r]).map Row.val).length=L0.length+1:=by simp
 show .of G nd 60 (.val (.int (da r.k))) ?_;show aY.mk hn ?_;show(?_:af _);show⟨.AJ e (by decide) (by ac_rfl) (by ac_rfl) (x:=r.val) ?_ ?_⟩
 ·erw[hlen,show((-1:Int)+((L0.length+1:Nat):Int)).toNat=L0.length by lia,map_append,getElem?_append_right (by simp)];simp
 conv=>whnf
 show⟨?_,?_⟩
 ·show af.mk (mU G nt ?_);show(?_:aw ..);show aw.mk (fun c=>?_) (fun c=>?_)
  ·show af.mk (mU G nt ?_);show af.mk (.gw (x:=.int (da r.k)) ?_ ⟨rfl,rfl⟩);have c:(mT.lookup r.k).isSome=true:=c;rw[rY]at c⊢;unfold da
   split at c
   ·rename_i z;erw[aJ z];show aD rfl (aJ z)
   split at c
   ·rename_i y z;erw[ax y,aJ z,ax y];show aD rfl (aJ z)
   split at c
   ·rename_i w y z;erw[ax w,ax y,aJ z,ax w,ax y];show aD rfl (aJ z)
   split at c
   ·rename_i u w y z;erw[ax u,ax w,ax y,aJ z,ax u,ax w,ax y];show aD rfl (aJ z)
   ·right
  ·have c:(mT.lookup r.k).isSome=false:=c;show⟨?_,rfl⟩;rw[rY]at c;unfold da
   split at c
   ·right
   split at c
   ·right
   split at c
   ·right
   split at c
   ·right
   ·rename_i u w y z;erw[ax u,ax w,ax y];show aD rfl (ax z)
 ·show XE.o ?_;show af.mk ?_
  have fin:∀{σ1:List LO} {f':Int},σ1=σ→0≤f'→f'<256→(oth=0→f'=r.f)→∃l,σ1[rl]? =some (.list l)∧l≠[]∧l.length≤1000000∧∃e2,Sub (envOf bu e2) (envOf bu [some nums,oo rl,some bF,some cv,none,none,oi p,none,ob r.b,none,none,oi oth,oi r.f,none,oi r.k,oi r.st,oi (da r.k)])∧
    cx B X bu [] PP .next e2 (σ1.set rl (.list (l.set (l.length-1) (.tup [.int r.k,.int f',.int r.st,.bytes r.b])))):=by
   intro σ1 f' e1 h1 h2 h3;subst e1;show⟨_,e,by simp,by ac_rfl,_,fun z w q=>q,?_⟩;show(?_:XE B X bu [] _ _ _);show .o ?_;show h f' _ _ h1 h2 h3 (x.dM h0) ?_ ⟨rfl,rfl,rfl,rfl,trivial⟩;erw[getElem?_set_self (dU e).1,hlen,map_append,map_append]
   congr 2
   erw[set_append_right _ _ (by simp)];simp[Row.val,cX]
  show .ph (id:=rl) rfl (by left) (by left) ?_;show tT G nd 60 60 (a:=.tup [.var 14,.bin .Add (.var 12) (.ite (.cn [.cmp .Eq (.bin .Mod (.var 6) (.li 2)) (.li 0),.cmp .Eq (.bin .BitAnd (.var 12) (.bin .Sub (.li 255) (.var 16))) (.li 0)]) (.bin .BitAnd (.var 11) (.bin .Sub (.li 255) (.var 16))) (.li 0)),.var 15,.var 8]) (by erw[aZ];left) ?_;show aY.mk (by decide) ?_;show(?_:aw ..);show aw.mk (fun c=>?_) (fun c=>?_)<;>show(?_:aw ..)
  ·show aw.mk (fun c2=>?_) (fun c2=>?_)
   ·have m:=Es (k:=r.k) hf ho c2;show fin rfl m.1 m.2 (fun z=>by subst z;erw[zB ..];lia)
   ·show fin rfl (by ac_rfl) (by ac_rfl) (fun U=>by lia)
  ·show aw.f ?_;show fin rfl (by lia) (by lia) (fun U=>by lia)
end
theorem pick(l:List Int):∀(k:Nat),k<l.length→∃x,(l.map LV.int)[k]? =oi x∧x∈l:=by
 induction l with
 |nil=>intro k h;right
 |cons a l ih=>
  intro k h
  cases k with
  |zero=>show⟨a,rfl,.head _⟩
  |succ k=>show aa (ih k (by simpa using h)) fun x e m=>?_;show⟨x,by simpa using e,.tail _ m⟩
theorem oR{l:List Int}{k:Int}(h0:0≤k)(h1:k<l.length):∃x,(l.map LV.int)[k.toNat]? =oi x∧x∈l:=pick l k.toNat (by omega)
theorem Row.ji{k f st:Int}{b:List Int}(hk:0≤k∧k<256)(hf:0≤f∧f<256)(hs:0≤st∧st<4294967296)(hb:b.length≤1000)(ho:cS b):(Row.mk k f st b).Ok:=⟨hk,hf,hs,hb,ho⟩
structure RowC(σ0:List LO)(rl:Nat)(nums:LV)(p:Int)(Ls:List Row)(cv:Bool)(bF:Int)(PP:eV):Prop where
 one:∀r hG nY σ' ae,r.Ok→0≤hG→hG<2147483648→0≤nY→nY<256→Ext σ0 σ'→σ'[rl]? =some (.list ((Ls++[r]).map Row.val))→
  WK (some nums::oo rl::oi hG::some (.bool cv)::none::none::oi p::none::none::none::none::oi nY::di) ae→PP .next ae σ'
 many:∀n st σ' ae,n≤70→0≤st→st<4294967296→Ext σ0 σ'→σ'[rl]? =some (.list ((Ls++Seg.rows (.many n st)).map Row.val))→
  WK (some nums::oo rl::oi bF::some (.bool true)::none::none::oi p::none::none::none::none::oi 0::di) ae→PP .next ae σ'
structure eQ(σ0:List LO)(rl:Nat)(Ls:List Row)(σ:List LO):Prop where
 ext:Ext σ0 σ
 ge:σ0.length≤rl
 at_:σ[rl]? =some (.list (Ls.map Row.val))
 sz:Ls.length≤10000
theorem eQ.grow{rl:Nat}(S:eQ σ0 rl Ls σ)(x:Ext σ σ'):eQ σ0 rl Ls σ':=⟨S.ext.trans x,S.ge,x _ _ S.at_,S.sz⟩
theorem eQ.put{rl:Nat}{Ls:List Row}(S:eQ σ0 rl Ls σ)(r:Row):Ext σ0 (σ.set rl (.list (Ls.map Row.val++[r.val])))∧(σ.set rl (.list (Ls.map Row.val++[r.val])))[rl]? =some (.list ((Ls++[r]).map Row.val)):=
 ⟨S.ext.dM S.ge,by erw[getElem?_set_self (dU S.at_).1];simp⟩
def zC:List IS:=[.unpack [12,8] (.call (.ref 1103) [.var 6,.var 9,.var 8]),
 (.expr (.bA (oS "append") (.var 1) [.tup [.li 0,.var 12,.bin .Add (.var 7) (.var 10),.var 8]]))]
def zD:List IS:=[.ite (.cn [.cmp .Eq (.bin .Mod (.var 6) (.li 7)) (.li 2),.cmp .NotEq (.bin .Mod (.var 6) (.li 11)) (.li 3)]) [.assign 8 (.bin .Add (.call (.type "bytes") [.lst [.li 128,.li 0,.li 0,.li 3,.bin .Mod (.var 6) (.li 256)]]) (.var 8))] [],
 (.unpack [12,8] (.call (.ref 1103) [.var 6,.bin .Add (.var 9) (.ite (.cmp .Eq (.var 5) (.li 1)) (.li 4) (.li 0)),.var 8])),
 (.expr (.bA (oS "append") (.var 1) [.tup [.li 1,.bin .Add (.var 12) (.ite (.cmp .Eq (.bin .Mod (.var 6) (.li 7)) (.li 2)) (.li 32) (.li 0)),.bin .Add (.var 7) (.var 10),.var 8]])),
 (.ite (.cmp .Eq (.var 5) (.li 2)) [.assign 2 (.var 7)] [])]
def zE:List IS:=[.expr (.bA (oS "append") (.var 1) [.tup [.li 9,.ite (.cmp .Eq (.var 5) (.li 4)) (.li 4) (.li 0),.bin .Add (.var 7) (.var 10),.var 8]]),
 (.ite (.cmp .Eq (.var 5) (.li 4)) [.assign 2 (.li 0)] [])]
section
variable{rl:Nat}{PP:eV}{Ls:List Row}{nums:LV}{cv:Bool}{bF deed p st en top oth:Int}{b:List Int}{dr:LV}
theorem BM(G:Gd B)(hd:X.d≤280)(hn:X.hn=true)(S:eQ σ0 rl Ls σ)(C:RowC σ0 rl nums p Ls cv bF PP)(hb:b.length≤5)(ho:cS b)(eO:0≤st∧st<2147483648)(bg:0≤top∧top≤2147483648)(jq:0≤en∧en<2)(dv:0≤bF∧bF<2147483648)(bI:0≤oth∧oth<256):
  XE B X bu zC (some nums::oo rl::oi bF::some (.bool cv)::some dr::oi deed::oi p::oi st::ob b::oi en::oi top::oi oth::di) σ PP:=by
 have nd:bu.Nodup:=by nofun
 show .o ?_;show aY.mk hn ?_;show(?_:af _);show⟨gW G nt hn nt ho fun f' b' σ' hx hf hl eN=>?_⟩;show av hx ?_;rintro ex rfl;have S1:=S.grow (.app _ ex);show MethW.mk _ _ (.append S1.at_) ?_;show af.mk (.append S1.at_ (by simp;have:=S.sz;show nt) ?_)
 conv=>whnf
 have Z:=S1.put ⟨0,f',st+top,b'⟩;show C.one ⟨0,f',st+top,b'⟩ bF oth _ _ (Row.ji (by decide) (by omega) (by ac_rfl) (by ac_rfl) eN) dv.1 dv.2 bI.1 bI.2 Z.1 Z.2 ⟨rfl,rfl,rfl,rfl,rfl,rfl,trivial⟩
theorem BN(G:Gd B)(hd:X.d≤280)(hn:X.hn=true)(S:eQ σ0 rl Ls σ)(C:RowC σ0 rl nums p Ls cv bF PP)(hb:b.length≤5)(ho:cS b)(eO:0≤st∧st<2147483648)(bg:0≤top∧top≤2147483648)(jq:0≤en∧en<2)(dv:0≤bF∧bF<2147483648)(bI:0≤oth∧oth<256):
  XE B X bu zE (some nums::oo rl::oi bF::some (.bool cv)::some dr::oi deed::oi p::oi st::ob b::oi en::oi top::oi oth::di) σ PP:=by
 have nd:bu.Nodup:=by nofun
 show .o ?_;show MethW.mk _ _ (.append S.at_) ?_;show(?_:aw ..);show aw.mk (fun c=>?_) (fun c=>?_)<;>show(?_:af _)
 ·show⟨.append S.at_ (by simp;have:=S.sz;show nt) ?_⟩;have Z:=S.put ⟨9,4,st+top,b⟩;show(?_:aw ..);show aw.mk (fun c2=>?_) (fun c2=>absurd (c.symm.trans c2) (by decide))
  repeat(first|(show .o ?_;show(?_:XE ..))|(show .o ?_;conv=>whnf)|fail)
  show C.one ⟨9,4,st+top,b⟩ 0 oth _ _ (Row.ji (by decide) (by decide) (by ac_rfl) nt ho) (by decide) (by decide) bI.1 bI.2 Z.1 Z.2 ⟨rfl,rfl,rfl,rfl,rfl,rfl,trivial⟩
 ·show⟨.append S.at_ (by simp;have:=S.sz;show nt) ?_⟩;have Z:=S.put ⟨9,0,st+top,b⟩;show(?_:aw ..);show aw.mk (fun c2=>absurd (c2.symm.trans c) (by decide)) (fun c2=>?_)
  repeat(first|(show .o ?_;show(?_:XE ..))|(show .o ?_;conv=>whnf)|fail)
  show C.one ⟨9,0,st+top,b⟩ bF oth _ _ (Row.ji (by decide) (by decide) (by ac_rfl) nt ho) dv.1 dv.2 bI.1 bI.2 Z.1 Z.2 ⟨rfl,rfl,rfl,rfl,rfl,rfl,trivial⟩
theorem BO(G:Gd B)(hd:X.d≤280)(hn:X.hn=true)(S:eQ σ0 rl Ls σ)(C:RowC σ0 rl nums p Ls cv bF PP)(hb:b.length≤5)(ho:cS b)(eO:0≤st∧st<2147483648)(bg:0≤top∧top≤2147483648)(jq:0≤en∧en<2)(dv:0≤bF∧bF<2147483648)(bI:0≤oth∧oth<256):
  XE B X bu zD (some nums::oo rl::oi bF::some (.bool cv)::some dr::oi deed::oi p::oi st::ob b::oi en::oi top::oi oth::di) σ PP:=by
 have nd:bu.Nodup:=by nofun
 have m7:=fm (x:=p) (k:=256) (by decide);show .of G nd 60 (.join fun e σ1=>∃b1,e=(some nums::oo rl::oi bF::some (.bool cv)::some dr::oi deed::oi p::oi st::ob b1::oi en::oi top::oi oth::di)∧eQ σ0 rl Ls σ1∧b1.length≤10∧cS b1) ?_
 conv=>whnf
 show⟨?_,?_⟩
 ·show(?_:aY ..)
  have qt:XE B X bu [] (some nums::oo rl::oi bF::some (.bool cv)::some dr::oi deed::oi p::oi st::ob b::oi en::oi top::oi oth::di) σ (iE (fun e σ1=>∃b1,e=(some nums::oo rl::oi bF::some (.bool cv)::some dr::oi deed::oi p::oi st::ob b1::oi en::oi top::oi oth::di)∧eQ σ0 rl Ls σ1∧b1.length≤10∧cS b1) PP):=by show .o ?_;show(?_:Exists _);show⟨_,⟨b,rfl,S,by show nt,ho⟩,rfl,rfl,rfl,rfl,rfl,rfl,rfl,rfl,rfl,rfl,rfl,rfl,trivial⟩
  show⟨by decide,?_⟩;show(?_:aw ..);show aw.mk (fun c=>?_) (fun c=>?_)<;>(first|show(?_:aw ..)|show(?_:aY ..)|fail)
  ·show⟨by decide,?_⟩;show(?_:aw ..);show aw.mk (fun c2=>?_) (fun c2=>qt);show XE.o ?_;show aY.mk (by decide) ?_;show af.mk (.dP hn ?_);show aY.mk (by intro n hn;simp at hn;omega) ?_;show aY.mk (by simp;lia) ?_;show(?_:Exists _);show⟨_,⟨_,rfl,S.grow (.app _ _),by simp;assumption,fun x hx=>?_⟩,rfl,rfl,rfl,rfl,rfl,rfl,rfl,rfl,rfl,rfl,rfl,rfl,trivial⟩;simp only[cons_append,nil_append,mem_cons]at hx
   rcases hx with rfl|rfl|rfl|rfl|rfl|hx
   ·decide
   ·decide
   ·decide
   ·decide
   ·show m7
   ·show ho x hx
  ·show aw.f ?_;show qt
 ·rintro e σ1 zq;show iP zq ?_;clear zq;rintro b1 rfl S1 fM kU
  have rest:∀{a:Int},0≤a→a≤5→aM B X (envOf bu (some nums::oo rl::oi bF::some (.bool cv)::some dr::oi deed::oi p::oi st::ob b1::oi en::oi top::oi oth::di)) σ1 [.int p,.int a,.bytes b1] (fun vs=>PySem.call (.ref 1103) vs) fun v σ2=>∃f' b',v= .tup [.int f',.bytes b']∧0≤f'∧f'≤13∧b'.length≤20∧cS b'∧eQ σ0 rl Ls σ2:=fun{a} h0 h5=>
   gW G nt hn nt kU fun f' b' σ' hx hf hl eN=>by show av hx ?_;clear hx;rintro ex rfl;show I6 f' b' rfl (by ac_rfl) (by ac_rfl) (by ac_rfl) eN (S1.grow (.app _ ex))
  show .o ?_;show aY.mk hn ?_;show(?_:aw ..);show aw.mk (fun c=>?_) (fun c=>?_)
  ·have c:deed=1:=eB c;subst c;show af.mk ((rest (by lia) (by lia)).mono fun v σ2 q=>?_);show AE q ?_;clear q;rintro f' b' rfl f0 f1 hl eN S2;show MethW.mk _ _ (.append S2.at_) ?_;show aY.mk (by decide) ?_;show(?_:aw ..);show aw.mk (fun c3=>?_) (fun c3=>?_)<;>show(?_:af _)
   ·show⟨.append S2.at_ (by simp;have:=S2.sz;show nt) ?_⟩;have Z:=S2.put ⟨1,f'+32,st+top,b'⟩;show(?_:aw ..);show aw.f ?_
    repeat(first|(show .o ?_;show(?_:XE ..))|(show .o ?_;conv=>whnf)|fail)
    show C.one ⟨1,f'+32,st+top,b'⟩ bF oth _ _ (Row.ji (by decide) (by lia) (by ac_rfl) nt eN) dv.1 dv.2 bI.1 bI.2 Z.1 Z.2 ⟨rfl,rfl,rfl,rfl,rfl,rfl,trivial⟩
   ·show⟨.append S2.at_ (by simp;have:=S2.sz;show nt) ?_⟩;have Z:=S2.put ⟨1,f'+0,st+top,b'⟩;show(?_:aw ..);show aw.f ?_
    repeat(first|(show .o ?_;show(?_:XE ..))|(show .o ?_;conv=>whnf)|fail)
    show C.one ⟨1,f'+0,st+top,b'⟩ bF oth _ _ (Row.ji (by decide) (by lia) (by ac_rfl) nt eN) dv.1 dv.2 bI.1 bI.2 Z.1 Z.2 ⟨rfl,rfl,rfl,rfl,rfl,rfl,trivial⟩
  ·show af.mk ((rest (by lia) (by lia)).mono fun v σ2 q=>?_);show AE q ?_;clear q;rintro f' b' rfl f0 f1 hl eN S2;show MethW.mk _ _ (.append S2.at_) ?_;show aY.mk (by decide) ?_;show(?_:aw ..)
   have tail:∀{f2:Int},0≤f2→f2<256→∀{σ3},σ3=σ2.set rl (.list (Ls.map Row.val++[(Row.mk 1 f2 (st+top) b').val]))→aw (deed==2) (XE B X bu [.assign 2 (.var 7)] (some nums::oo rl::oi bF::some (.bool cv)::some dr::oi deed::oi p::oi st::ob b'::oi en::oi top::oi oth::oi f'::sJ) σ3 (cx B X bu [] PP))
     (XE B X bu [] (some nums::oo rl::oi bF::some (.bool cv)::some dr::oi deed::oi p::oi st::ob b'::oi en::oi top::oi oth::oi f'::sJ) σ3 (cx B X bu [] PP)):=by
    intro f2 h0 h1 σ3 e3;subst e3;have Z:=S2.put ⟨1,f2,st+top,b'⟩;show aw.mk (fun c2=>?_) (fun c2=>?_)
    ·repeat(first|(show .o ?_;show(?_:XE ..))|(show .o ?_;conv=>whnf)|fail)
     show C.one ⟨1,f2,st+top,b'⟩ st oth _ _ (Row.ji (by decide) (by lia) (by ac_rfl) nt eN) eO.1 eO.2 bI.1 bI.2 Z.1 Z.2 ⟨rfl,rfl,rfl,rfl,rfl,rfl,trivial⟩
    ·repeat(first|(show .o ?_;show(?_:XE ..))|(show .o ?_;conv=>whnf)|fail)
     show C.one ⟨1,f2,st+top,b'⟩ bF oth _ _ (Row.ji (by decide) (by lia) (by ac_rfl) nt eN) dv.1 dv.2 bI.1 bI.2 Z.1 Z.2 ⟨rfl,rfl,rfl,rfl,rfl,rfl,trivial⟩
   show aw.mk (fun c3=>?_) (fun c3=>?_)<;>show(?_:af _)
   ·show⟨.append S2.at_ (by simp;have:=S2.sz;show nt) ?_⟩;show(?_:aw ..);show tail (f2:=f'+32) (by lia) (by lia) rfl
   ·show⟨.append S2.at_ (by simp;have:=S2.sz;show nt) ?_⟩;show(?_:aw ..);show tail (f2:=f'+0) (by lia) (by lia) rfl
end
def ua:List IS:=[.assign 13 (.bA (oS "to_bytes") (.item (.lit (.kq [.int 2,.int 4,.int 2147483650,.int 65538,.int 0,.int 3,.int 2147483648,.int 16777222])) (.bin .Mod (.bin .FloorDiv (.var 6) (.li 4)) (.li 8))) [.li 4,.lit (.str (oS "big"))]),
 (.unpack [12,8] (.call (.ref 1103) [.var 6,.bin .Mult (.li 4) (.var 9),.ite (.cmp .Eq (.bin .Mod (.var 6) (.li 7)) (.li 6)) (.slice (.var 13) none (some (.bin .Mod (.var 6) (.li 4)))) (.bin .Add (.var 13) (.var 8))])),
 (.expr (.bA (oS "append") (.var 1) [.tup [.li 5,.var 12,.bin .Add (.var 7) (.var 10),.var 8]])),
 (.ite (.cmp .Eq (.var 9) (.li 0)) [.assign 2 (.var 7)] [])]
def zF:List IS:=[.ite (.cn [.cmp .Eq (.var 5) (.li 6),.cmp .Eq (.bin .Mod (.var 6) (.li 6)) (.li 5)]) [.assign 7 (.li 0)] [],
 (.expr (.bA (oS "append") (.var 1) [.tup [.ite (.cmp .Eq (.var 5) (.li 6)) (.li 8) (.li 3),.li 0,.bin .Add (.var 7) (.var 10),.ite (.cmp .NotEq (.bin .Mod (.var 6) (.li 8)) (.li 7)) (.bA (oS "to_bytes") (.bin .Mod (.bin .Mult (.var 6) (.li 3)) (.bin .Pow (.li 2) (.li 32))) [.li 4,.lit (.str (oS "big"))]) (.var 8)]]))]
def zG:List IS:=[.assign 14 (.item (.lst [.li 4,.li 6,.li 7,.li 10,.li 255,.li 2]) (.bin .Mod (.var 6) (.li 6))),
 (.ite (.kY [.cmp .In (.var 14) (.tup [.li 4,.li 6,.li 7]),.cn [.cmp .NotEq (.var 14) (.li 2),.cmp .Eq (.bin .Mod (.bin .FloorDiv (.var 6) (.li 6)) (.li 3)) (.li 0)]]) [.assign 7 (.li 0)] []),
 (.expr (.bA (oS "append") (.var 1) [.tup [.var 14,.li 0,.bin .Add (.var 7) (.var 10),.var 8]]))]
def zH:List IS:=[.assign 14 (.item (.lst [.li 0,.li 1,.li 9,.li 3,.li 5,.li 2,.li 4,.li 7,.li 6]) (.bin .Mod (.var 6) (.li 9))),
 (.expr (.bA (oS "append") (.var 1) [.tup [.var 14,.li 4,.ite (.cmp .In (.var 14) (.tup [.li 4,.li 6,.li 7])) (.li 1) (.var 10),.call (.type "bytes") [.li 4]]]))]
def uY:List IS:=[.assign 3 (.lit (.bool true)),
 (.expr (.bA (oS "extend") (.var 1) [.call (.ref 1110) [.bin .Add (.li 62) (.bin .Mod (.bin .FloorDiv (.var 6) (.li 6)) (.li 4)),.var 7]])),
 (.assign 11 (.li 0))]
def uZ:List IS:=[.expr (.bA (oS "append") (.var 1) [.tup [.li 0,.var 9,.var 7,.call (.type "bytes") [.ite (.cmp .Eq (.bin .Mod (.var 6) (.li 5)) (.li 4)) (.li 300) (.bin .Add (.li 20) (.bin .Mod (.var 6) (.li 6)))]]])]
section
variable{rl:Nat}{PP:eV}{Ls:List Row}{nums:LV}{cv:Bool}{bF deed p st en top oth:Int}{b:List Int}{dr:LV}
theorem cS.zeros(n:Nat):cS (replicate n 0):=fun x hx=>by obtain rfl:=(mem_replicate.mp hx).2;decide
theorem cS.app{a:List Int}(ha:cS a)(hb:cS b):cS (a++b):=fun x hx=>(mem_append.mp hx).elim (ha x) (hb x)
theorem jk:∀(k:Nat) (x:Int),cS (KTBy.little k x)
 |0,x=>fun y hy=>by right
 |k+1,x=>fun y hy=>by
  rcases mem_cons.mp hy with rfl|hy
  ·show⟨Int.emod_nonneg _ (by decide),Int.emod_lt_of_pos _ (by decide)⟩
  ·show jk k _ y hy
theorem BP(G:Gd B)(hd:X.d≤280)(hn:X.hn=true)(S:eQ σ0 rl Ls σ)(C:RowC σ0 rl nums p Ls cv bF PP)(hb:b.length≤5)(ho:cS b)(eO:0≤st∧st<2147483648)(bg:0≤top∧top≤2147483648)(jq:0≤en∧en<2)(dv:0≤bF∧bF<2147483648)(bI:0≤oth∧oth<256):
  XE B X bu ua (some nums::oo rl::oi bF::some (.bool cv)::some dr::oi deed::oi p::oi st::ob b::oi en::oi top::oi oth::di) σ PP:=by
 have nd:bu.Nodup:=by nofun
 have m8:=fm (x:=p.fdiv 4) (k:=8) (by decide);show aa (oR (l:=[2,4,2147483650,65538,0,3,2147483648,16777222]) m8.1 (m8.2)) fun y hy my=>?_
 have Fh:0≤y∧y<4294967296:=by
  have z:([2,4,2147483650,65538,0,3,2147483648,16777222]:List Int).all (fun y=>decide (0≤y∧y<4294967296))=true:=by nofun
  show js (List.all_eq_true.mp z y my)
 show .o ?_;show aY.mk (by decide) ?_;show aY.mk (by decide) ?_;show af.mk (.kq m8.1 (by omega) hy ?_);show MethW.mk _ _ .toBytes ?_;show af.mk (.toBytes (k:=4) (B':=4294967296) (by decide) (by decide) (by lia) (by lia) ?_);have FF:cS (KTBy.little 4 y).reverse:=fun x hx=>jk 4 y x (mem_reverse.mp hx)
 have LQ:(KTBy.little 4 y).reverse.length=4:=by rfl
 generalize (KTBy.little 4 y).reverse=ld at FF LQ;show aY.mk hn ?_;show(?_:aY ..);show⟨.inl (by decide),?_⟩;show aY.mk (by decide) ?_;show(?_:aw ..)
 have tail:∀{b1:List Int},b1.length≤10→cS b1→af (aM B X (envOf bu (some nums::oo rl::oi bF::some (.bool cv)::some dr::oi deed::oi p::oi st::ob b::oi en::oi top::oi oth::none::ob ld::nK)) σ [.int p,.int (4*en),.bytes b1] (fun vs=>PySem.call (.ref 1103) vs) fun v σ2=>yb B (envOf bu (some nums::oo rl::oi bF::some (.bool cv)::some dr::oi deed::oi p::oi st::ob b::oi en::oi top::oi oth::none::ob ld::nK)) σ2 false (fun v σ1=>match v with
   | .tup l=>pE (some nums::some (.obj rl)::some (.int bF)::some (.bool cv)::some dr::some (.int deed)::some (.int p)::some (.int st)::some (.bytes b)::some (.int en)::some (.int top)::some (.int oth)::none::some (.bytes ld)::nK) [12,8] l fun ae=>lO B X bu 60 .go PP (ua.drop 2) ae σ1
   |_=>False) v):=fun{b1} fM kU=>by
  show⟨gW G nt hn nt kU fun f' b' σ' hx hf hl eN=>?_⟩;show av hx ?_;rintro ex rfl;have S1:=S.grow (.app _ ex);show MethW.mk _ _ (.append S1.at_) ?_;show af.mk (.append S1.at_ (by simp;have:=S1.sz;show nt) ?_);have Z:=S1.put ⟨5,f',st+top,b'⟩;show(?_:aw ..);show aw.mk (fun c2=>?_) (fun c2=>?_)
  ·repeat(first|(show .o ?_;show(?_:XE ..))|(show .o ?_;conv=>whnf)|fail)
   show C.one ⟨5,f',st+top,b'⟩ st oth _ _ (Row.ji (by decide) (by ac_rfl) (by ac_rfl) (by ac_rfl) eN) eO.1 eO.2 bI.1 bI.2 Z.1 Z.2 ⟨rfl,rfl,rfl,rfl,rfl,rfl,trivial⟩
  ·repeat(first|(show .o ?_;show(?_:XE ..))|(show .o ?_;conv=>whnf)|fail)
   show C.one ⟨5,f',st+top,b'⟩ bF oth _ _ (Row.ji (by decide) (by ac_rfl) (by ac_rfl) (by ac_rfl) eN) dv.1 dv.2 bI.1 bI.2 Z.1 Z.2 ⟨rfl,rfl,rfl,rfl,rfl,rfl,trivial⟩
 show aw.mk (fun c=>?_) (fun c=>?_)<;>show(?_:aY ..)
 ·show⟨by decide,?_⟩;show aY.mk (by lia) ?_;show tail (by have:=cB ld none (some (p.fmod 4));ac_rfl) (FF.cut _ _)
 ·show⟨by ac_rfl,?_⟩;show tail (by erw[length_append];ac_rfl) (FF.app ho)
theorem G5:(2:Int) ^ Int.toNat 32=4294967296:=rfl
theorem NB(y:Int):cS (KTBy.little 4 y).reverse∧(KTBy.little 4 y).reverse.length=4:=⟨fun x hx=>jk 4 y x (mem_reverse.mp hx),by rfl⟩
theorem BQ{env:cT}{n:Nat}{x:IE}{c:Bool}{i1 i2:Int}{K:List LV→List LO→Prop}(ht:∀Q:kr,Q (.bool c) σ→dV B X xs env n true t σ Q)(hx:∀Q:kr,Q (.int i1) σ→dV B X xs env n false x σ Q)(hy:∀Q:kr,Q (.int i2) σ→dV B X xs env n false y σ Q)(h:Cy (dV B X xs env (n+1) false) r σ fun as σ1=>if Nat.ble (as.length+1) 1000=true then K [.tup (.int (if c=true then i1 else i2)::as)] σ1 else False):Cy (dV B X xs env (n+2) false) [.tup (.ite t x y::r)] σ K:=by
 show ht _ ⟨fun e=>hx _ ?_,fun e=>hy _ ?_⟩
 ·subst e;show h
 ·subst e;show h
theorem BR(G:Gd B)(hd:X.d≤280)(hn:X.hn=true)(S:eQ σ0 rl Ls σ)(C:RowC σ0 rl nums p Ls cv bF PP)(hb:b.length≤5)(ho:cS b)(eO:0≤st∧st<2147483648)(bg:0≤top∧top≤2147483648)(jq:0≤en∧en<2)(dv:0≤bF∧bF<2147483648)(bI:0≤oth∧oth<256):
  XE B X bu zF (some nums::oo rl::oi bF::some (.bool cv)::some dr::oi deed::oi p::oi st::ob b::oi en::oi top::oi oth::di) σ PP:=by
 have nd:bu.Nodup:=by nofun
 have PR:=fm (x:=p*3) (k:=4294967296) (by decide);show .of G nd 60 (.join fun e σ1=>∃fw:Int,(0≤fw∧fw<2147483648)∧e=(some nums::oo rl::oi bF::some (.bool cv)::some dr::oi deed::oi p::oi fw::ob b::oi en::oi top::oi oth::di)∧σ1=σ) ?_
 conv=>whnf
 show⟨?_,?_⟩
 ·have qt:∀fw:Int,(0≤fw∧fw<2147483648)→iE (fun e σ1=>∃fw:Int,(0≤fw∧fw<2147483648)∧e=(some nums::oo rl::oi bF::some (.bool cv)::some dr::oi deed::oi p::oi fw::ob b::oi en::oi top::oi oth::di)∧σ1=σ) PP .next (some nums::oo rl::oi bF::some (.bool cv)::some dr::oi deed::oi p::oi fw::ob b::oi en::oi top::oi oth::di) σ:=fun fw h1=>
   ⟨_,⟨fw,h1,rfl,rfl⟩,rfl,rfl,rfl,rfl,rfl,rfl,rfl,rfl,rfl,rfl,rfl,rfl,trivial⟩
  show(?_:aw ..);show aw.mk (fun c=>?_) (fun c=>?_)<;>(first|show(?_:aw ..)|show(?_:aY ..)|fail)
  ·show⟨by decide,?_⟩;show(?_:aw ..);show aw.mk (fun c2=>?_) (fun c2=>?_)<;>show(?_:XE ..)
   ·show .o ?_;show qt 0 (by decide)
   ·show .o ?_;show qt st eO
  ·show aw.f ?_;show .o ?_;show qt st eO
 ·rintro e σ1 zq;show bJ zq ?_;clear zq;rintro fw LR rfl rfl
  have fin:∀{k:Int} {b1:List Int},(k=8∨k=3)→b1.length≤5→cS b1→PP .next (some nums::oo rl::oi bF::some (.bool cv)::some dr::oi deed::oi p::oi fw::ob b::oi en::oi top::oi oth::di) (σ1.set rl (.list (Ls.map Row.val++[(Row.mk k 0 (fw+top) b1).val]))):=fun{k b1} hk h1 kU=>by have Z:=S.put ⟨k,0,fw+top,b1⟩;show C.one ⟨k,0,fw+top,b1⟩ bF oth _ _ (Row.ji (by lia) (by decide) (by ac_rfl) nt kU) dv.1 dv.2 bI.1 bI.2 Z.1 Z.2 ⟨rfl,rfl,rfl,rfl,rfl,rfl,trivial⟩
  show aA (NB ((p*3).fmod 4294967296)) ?_;rintro FF LQ;show .o ?_;show MethW.mk _ _ (.append S.at_) ?_;show BQ (n:=57) (c:=deed==6) (i1:=8) (i2:=3) (fun U h=>h) (fun U h=>h) (fun U h=>h) ?_
  have hk:(if(deed==6)=true then(8:Int)else 3)=8∨(if(deed==6)=true then(8:Int)else 3)=3:=by split<;>simp
  generalize (if(deed==6)=true then(8:Int)else 3)=k at hk⊢;show aY.mk (by decide) ?_;show(?_:aw ..);show aw.mk (fun c2=>?_) (fun c2=>?_)<;>(first|show(?_:af _)|show(?_:aY ..)|fail)
  ·show⟨.inr (by decide),?_⟩;show aY.mk (by decide) ?_;show(?_:aY ..);erw[G5];show⟨by decide,?_⟩;show MethW.mk _ _ .toBytes ?_;show af.mk (.toBytes (k:=4) (B':=4294967296) (by decide) (by decide) (by omega) (by omega) ?_);generalize (KTBy.little 4 ((p*3).fmod 4294967296)).reverse=ld at FF LQ⊢;show af.mk (.append S.at_ (by simp;have:=S.sz;show nt) ?_)
   conv=>whnf
   show fin hk (by lia) FF
  ·show⟨.append S.at_ (by simp;have:=S.sz;show nt) ?_⟩
   conv=>whnf
   show fin hk hb ho
end
section
variable{rl:Nat}{PP:eV}{Ls:List Row}{nums:LV}{cv:Bool}{bF deed p st en top oth:Int}{b:List Int}{dr:LV}
theorem BS(G:Gd B)(hd:X.d≤280)(hn:X.hn=true)(S:eQ σ0 rl Ls σ)(C:RowC σ0 rl nums p Ls cv bF PP)(hb:b.length≤5)(ho:cS b)(eO:0≤st∧st<2147483648)(bg:0≤top∧top≤2147483648)(jq:0≤en∧en<2)(dv:0≤bF∧bF<2147483648)(bI:0≤oth∧oth<256):
  XE B X bu zG (some nums::oo rl::oi bF::some (.bool cv)::some dr::oi deed::oi p::oi st::ob b::oi en::oi top::oi oth::di) σ PP:=by
 have nd:bu.Nodup:=by nofun
 have m6:=fm (x:=p) (k:=6) (by decide);show aa (oR (l:=[4,6,7,10,255,2]) m6.1 (m6.2)) ?_;rintro y hy my
 have Fh:0≤y∧y<256:=by
  have z:([4,6,7,10,255,2]:List Int).all (fun y=>decide (0≤y∧y<256))=true:=by nofun
  show js (List.all_eq_true.mp z y my)
 have S1:=S.grow (.app σ [.list ([4,6,7,10,255,2].map .int)])
 have e1:(σ++[LO.list ([4,6,7,10,255,2].map .int)])[σ.length]? =some (.list ([4,6,7,10,255,2].map .int)):=by show gA
 generalize FC:σ++[LO.list ([4,6,7,10,255,2].map .int)]=σ1 at S1 e1;show .of G nd 60 (.join fun e σ2=>∃fw:Int,(0≤fw∧fw<2147483648)∧e=[some nums,oo rl,oi bF,some (.bool cv),some dr,oi deed,oi p,oi fw,ob b,oi en,oi top,oi oth,none,none,oi y,none,none]∧σ2=σ1) ?_;show aY.mk (by decide) ?_;show af.mk (.list (FC▸e1) m6.1 (by omega) hy ?_)
 conv=>whnf
 have qt:∀fw:Int,(0≤fw∧fw<2147483648)→iE (fun e σ2=>∃fw:Int,(0≤fw∧fw<2147483648)∧e=[some nums,oo rl,oi bF,some (.bool cv),some dr,oi deed,oi p,oi fw,ob b,oi en,oi top,oi oth,none,none,oi y,none,none]∧σ2=σ1) PP .next [some nums,oo rl,oi bF,some (.bool cv),some dr,oi deed,oi p,oi fw,ob b,oi en,oi top,oi oth,none,none,oi y,none,none] (σ++[LO.list ([4,6,7,10,255,2].map .int)]):=fun fw h1=>
  ⟨_,⟨fw,h1,rfl,FC⟩,rfl,rfl,rfl,rfl,rfl,rfl,rfl,rfl,rfl,rfl,rfl,rfl,rfl,trivial⟩
 show⟨?_,?_⟩
 ·have zero:XE B X bu [.assign 7 (.li 0)] [some nums,oo rl,oi bF,some (.bool cv),some dr,oi deed,oi p,oi st,ob b,oi en,oi top,oi oth,none,none,oi y,none,none] (σ++[LO.list ([4,6,7,10,255,2].map .int)]) (iE (fun e σ2=>∃fw:Int,(0≤fw∧fw<2147483648)∧e=[some nums,oo rl,oi bF,some (.bool cv),some dr,oi deed,oi p,oi fw,ob b,oi en,oi top,oi oth,none,none,oi y,none,none]∧σ2=σ1) PP):=by show .o ?_;show qt 0 (by decide)
  have none:XE B X bu [] [some nums,oo rl,oi bF,some (.bool cv),some dr,oi deed,oi p,oi st,ob b,oi en,oi top,oi oth,none,none,oi y,none,none] (σ++[LO.list ([4,6,7,10,255,2].map .int)]) (iE (fun e σ2=>∃fw:Int,(0≤fw∧fw<2147483648)∧e=[some nums,oo rl,oi bF,some (.bool cv),some dr,oi deed,oi p,oi fw,ob b,oi en,oi top,oi oth,none,none,oi y,none,none]∧σ2=σ1) PP):=by show .o ?_;show qt st eO
  show(?_:aw ..);show aw.mk (fun c=>?_) (fun c=>?_)<;>show(?_:aw ..)
  ·show aw.t zero
  ·show aw.mk (fun c2=>?_) (fun c2=>?_)<;>(first|show(?_:aw ..)|show(?_:aY ..)|fail)
   ·show⟨by decide,?_⟩;show aY.mk (by decide) ?_;show(?_:aw ..);show aw.mk (fun U=>zero) (fun U=>none)
   ·show aw.f none
 ·rintro e σ2 zq;show bJ zq ?_;clear zq;rintro fw LR rfl rfl;show .o ?_;show MethW.mk _ _ (.append S1.at_) ?_;show af.mk (.append S1.at_ (by simp;have:=S.sz;show nt) ?_);have Z:=S1.put ⟨y,0,fw+top,b⟩
  conv=>whnf
  show C.one ⟨y,0,fw+top,b⟩ bF oth _ _ (Row.ji Fh (by decide) (by ac_rfl) nt ho) dv.1 dv.2 bI.1 bI.2 Z.1 Z.2 ⟨rfl,rfl,rfl,rfl,rfl,rfl,trivial⟩
theorem BU(G:Gd B)(hd:X.d≤280)(hn:X.hn=true)(S:eQ σ0 rl Ls σ)(C:RowC σ0 rl nums p Ls cv bF PP)(hb:b.length≤5)(ho:cS b)(eO:0≤st∧st<2147483648)(bg:0≤top∧top≤2147483648)(jq:0≤en∧en<2)(dv:0≤bF∧bF<2147483648)(bI:0≤oth∧oth<256):
  XE B X bu zH (some nums::oo rl::oi bF::some (.bool cv)::some dr::oi deed::oi p::oi st::ob b::oi en::oi top::oi oth::di) σ PP:=by
 have nd:bu.Nodup:=by nofun
 have m9:=fm (x:=p) (k:=9) (by decide);show aa (oR (l:=[0,1,9,3,5,2,4,7,6]) m9.1 (m9.2)) fun y hy my=>?_
 have Fh:0≤y∧y<256:=by
  have z:([0,1,9,3,5,2,4,7,6]:List Int).all (fun y=>decide (0≤y∧y<256))=true:=by nofun
  show js (List.all_eq_true.mp z y my)
 have S1:=S.grow (.app σ [.list ([0,1,9,3,5,2,4,7,6].map .int)]);show .o ?_;show aY.mk (by decide) ?_;show af.mk (.list (l:=[0,1,9,3,5,2,4,7,6].map .int) (gA) m9.1 (by omega) hy ?_);show MethW.mk _ _ (.append S1.at_) ?_
 have fin:∀{w:Int},(0≤w∧w≤2147483648)→PP .next [some nums,oo rl,oi bF,some (.bool cv),some dr,oi deed,oi p,oi st,ob b,oi en,oi top,oi oth,none,none,oi y,none,none] ((σ++[LO.list ([0,1,9,3,5,2,4,7,6].map .int)]).set rl (.list (Ls.map Row.val++[(Row.mk y 4 w (replicate 4 0)).val]))):=fun{w} hw=>by have Z:=S1.put ⟨y,4,w,replicate 4 0⟩;show C.one ⟨y,4,w,replicate 4 0⟩ bF oth _ _ (Row.ji Fh (by decide) (by lia) (by decide) (.zeros 4)) dv.1 dv.2 bI.1 bI.2 Z.1 Z.2 ⟨rfl,rfl,rfl,rfl,rfl,rfl,trivial⟩
 show(?_:aw ..);show aw.mk (fun c=>?_) (fun c=>?_)<;>show(?_:af _)
 ·show⟨.zeros (by decide) (by decide) ?_⟩;show af.mk (.append S1.at_ (by simp;have:=S.sz;show nt) ?_)
  conv=>whnf
  show fin (by decide)
 ·show⟨.zeros (by decide) (by decide) ?_⟩;show af.mk (.append S1.at_ (by simp;have:=S.sz;show nt) ?_)
  conv=>whnf
  show fin bg
theorem zI(G:Gd B)(hd:X.d≤280)(hn:X.hn=true)(S:eQ σ0 rl Ls σ)(C:RowC σ0 rl nums p Ls cv bF PP)(hb:b.length≤5)(ho:cS b)(eO:0≤st∧st<2147483648)(bg:0≤top∧top≤2147483648)(jq:0≤en∧en<2)(dv:0≤bF∧bF<2147483648)(bI:0≤oth∧oth<256):
  XE B X bu uZ (some nums::oo rl::oi bF::some (.bool cv)::some dr::oi deed::oi p::oi st::ob b::oi en::oi top::oi oth::di) σ PP:=by
 have nd:bu.Nodup:=by nofun
 have m6:=fm (x:=p) (k:=6) (by decide);show .o ?_;show MethW.mk _ _ (.append S.at_) ?_;show(?_:aY ..)
 have fin:∀{n:Int},0≤n∧n≤300→PP .next (some nums::oo rl::oi bF::some (.bool cv)::some dr::oi deed::oi p::oi st::ob b::oi en::oi top::oi oth::di) (σ.set rl (.list (Ls.map Row.val++[(Row.mk 0 en st (replicate n.toNat 0)).val]))):=fun{n} h0=>by have Z:=S.put ⟨0,en,st,replicate n.toNat 0⟩;show C.one ⟨0,en,st,replicate n.toNat 0⟩ bF oth _ _ (Row.ji (by decide) (by lia) (by lia) (by erw[length_replicate];lia) (.zeros _)) dv.1 dv.2 bI.1 bI.2 Z.1 Z.2 ⟨rfl,rfl,rfl,rfl,rfl,rfl,trivial⟩
 show⟨by decide,?_⟩;show(?_:aw ..);show aw.mk (fun c=>?_) (fun c=>?_)<;>(first|show(?_:af _)|show(?_:aY ..)|fail)
 ·show⟨.zeros (by decide) (by decide) ?_⟩;show af.mk (.append S.at_ (by simp;have:=S.sz;show nt) ?_)
  conv=>whnf
  show fin (n:=300) (by decide)
 ·show⟨by decide,?_⟩;show af.mk (.zeros (by lia) (by lia) ?_);show af.mk (.append S.at_ (by simp;have:=S.sz;show nt) ?_)
  conv=>whnf
  show fin (n:=20+p.fmod 6) (by lia)
theorem zJ(n:Nat)(st:Int):dR n st n=(Seg.rows (.many n st)).map Row.val:=by erw[map_cons,List.map_map];rfl
theorem zK(G:Gd B)(hd:X.d≤280)(hn:X.hn=true)(S:eQ σ0 rl Ls σ)(C:RowC σ0 rl nums p Ls cv bF PP)(eO:0≤st∧st<2147483648):
  XE B X bu uY (some nums::oo rl::oi bF::some (.bool cv)::some dr::oi deed::oi p::oi st::ob b::oi en::oi top::oi oth::di) σ PP:=by
 have nd:bu.Nodup:=by nofun
 obtain⟨n,hn4⟩:∃n:Nat,62+(p.fdiv 6).fmod 4=n:=⟨(62+(p.fdiv 6).fmod 4).toNat,by lia⟩;show .o ?_;show MethW.mk _ _ (.extend S.at_) ?_;show aY.mk (by decide) ?_;show aY.mk (by decide) ?_;show(?_:af _);erw[hn4];show⟨wt G nt hn (by lia) fun ex=>?_⟩;have x1:Ext σ (σ++[LO.list (dR n st n)]++ex):=(Ext.app _ _).trans (.app _ _);have S1:=S.grow x1
 have e1:(σ++[LO.list (dR n st n)]++ex)[σ.length]? =some (.list (dR n st n)):=by show gB
 have hl:(dR n st n).length=n+1:=by simp[dR]
 show af.mk (.extend S1.at_ e1 (by simp;have:=S.sz;show nt) (by lia) ?_)
 conv=>whnf
 show C.many n st _ _ (by ac_rfl) eO.1 (by lia) (S1.ext.dM S1.ge) ?_ ⟨rfl,rfl,rfl,rfl,rfl,rfl,trivial⟩;erw[getElem?_set_self (dU S1.at_).1,map_append];show aD rfl (zJ ..)
end
def u4:List IS:=[.ite (.cn [.cmp .Eq (.var 5) (.li 10),.cmp .Eq (.bin .Mod (.var 6) (.li 6)) (.li 1),.not (.var 3),.cmp .Eq (.var 2) (.li 0)]) uY uZ]
def Et:List IS:=[.ite (.cmp .Eq (.var 5) (.li 9)) zH u4]
def Eu:List IS:=[.ite (.cmp .Eq (.var 5) (.li 8)) zG Et]
def Ew:List IS:=[.ite (.kY [.cmp .Eq (.var 5) (.li 6),.cmp .Eq (.var 5) (.li 7)]) zF Eu]
def Ex:List IS:=[.ite (.cmp .Eq (.var 5) (.li 5)) ua Ew]
def Ey:List IS:=[.ite (.kY [.cmp .Eq (.var 5) (.li 3),.cmp .Eq (.var 5) (.li 4)]) zE Ex]
def zL:List IS:=[.ite (.kY [.cmp .Eq (.var 5) (.li 1),.cmp .Eq (.var 5) (.li 2)]) zD Ey]
def nc:List IS:=.assign 8 (.call (.type "bytes") [.raw (jN (aB 40) [3,5] 0 [1])])::
 .assign 9 (.bin .Mod (.bin .FloorDiv (.var 6) (.li 2)) (.li 2))::
 .assign 10 (.bin .Mult (.bin .Pow (.li 2) (.li 31)) (.bin .Mod (.bin .FloorDiv (.var 6) (.li 9)) (.li 2)))::
 .assign 11 (.bin .Mod (.bin .FloorDiv (.var 6) (.li 11)) (.li 256))::
 .ite (.cmp .Eq (.var 5) (.li 0)) zC zL::uX
def ql:List IS:=.ite (.cn [.cmp .Eq (.var 2) (.li 0),.kY [.cmp .Eq (.var 5) (.li 3),.cmp .Eq (.var 5) (.li 4)],.cmp .NotEq (.bin .Mod (.var 6) (.li 3)) (.li 0)]) [.assign 5 (.li 1)] []::nc
def zM:List IS:=.assign 5 (.bin .Mod (.var 4) (.li 12))::
 .assign 6 (.bin .FloorDiv (.var 4) (.li 12))::
 .assign 7 (.item (.lst [.li 1,.li 3,.bin .Sub (.bin .Pow (.li 2) (.li 31)) (.li 1),.li 5]) (.bin .Mod (.var 6) (.li 4)))::
 .ite (.cn [.cmp .NotEq (.var 2) (.li 0),.cmp .NotEq (.bin .Mod (.var 6) (.li 7)) (.li 1)]) [.assign 5 (.bin .Add (.li 3) (.bin .Mod (.var 5) (.li 2))),.assign 7 (.var 2)] []::ql
theorem CM:(2:Int) ^ Int.toNat 31=2147483648:=rfl
def G6(σ0:List LO)(rl:Nat)(nums:LV)(p:Int)(Ls:List Row)(cv:Bool)(bF:Int)(e:cT)(σ':List LO):Prop:=
 (∃r hG nY,r.Ok∧(0≤hG∧hG<2147483648)∧(0≤nY∧nY<256)∧Ext σ0 σ'∧σ'[rl]? =some (.list ((Ls++[r]).map Row.val))∧
  e=(some nums::oo rl::oi hG::some (.bool cv)::none::none::oi p::none::none::none::none::oi nY::di))∨
 (∃n st,n≤70∧(0≤st∧st<4294967296)∧Ext σ0 σ'∧σ'[rl]? =some (.list ((Ls++Seg.rows (.many n st)).map Row.val))∧
  e=(some nums::oo rl::oi bF::some (.bool true)::none::none::oi p::none::none::none::none::oi 0::di))
theorem wR{n:Nat}{st:Int}(hn:n≤70)(hs:0≤st∧st<4294967296):(∀r∈Seg.rows (.many n st),r.Ok)∧∃L r,Seg.rows (.many n st)=L++[r]:=by
 show⟨fun r hr=>?_,?_⟩
 ·rcases mem_cons.mp hr with rfl|hr
  ·show Row.ji (by decide) (by decide) hs (Nat.le_of_ble_eq_true rfl) fun x hx=>by obtain rfl:=mem_singleton.mp hx;decide
  ·show aa (mem_map.mp hr) ?_;rintro i hi rfl;have hi:=mem_range.mp hi
   show Row.ji (by decide) ?_ hs (Nat.le_of_ble_eq_true rfl) fun x hx=>by obtain rfl:=mem_singleton.mp hx;ac_rfl
   split<;>decide
 ·induction n using Nat.casesAuxOn with
  |zero=>show⟨[],_,rfl⟩
  |succ n=>show⟨⟨1,0,st,[104]⟩::(range n).map (fa (n+1) st),fa (n+1) st n,by
    show(?_:_::(range (n+1)).map _=_)
    (erw[range_succ,map_append]);rfl⟩
section
variable{rl:Nat}{PP:eV}{Ls:List Row}{nums:LV}{cv:Bool}{bF deed p st en top oth:Int}{b:List Int}{dr:LV}
theorem RowC.oT(G:Gd B)(C:RowC σ0 rl nums p Ls cv bF PP):RowC σ0 rl nums p Ls cv bF (cx B X bu [] PP):=by
 have nd:bu.Nodup:=by nofun
 show⟨fun r b o s e h1 h2 h3 h4 h5 h6 h7 h8=>.of G nd 60 .go (C.one r b o s e h1 h2 h3 h4 h5 h6 h7 h8),fun n st s e h1 h2 h3 h4 h5 h6=>.of G nd 60 .go (C.many n st s e h1 h2 h3 h4 h5 h6)⟩
end
structure ft(B:Base)(X:Sx)(ir:List IS):Prop where
 go:∀{σ0 σ:List LO} {rl:Nat} {PP:eV} {Ls:List Row} {nums:LV} {cv:Bool} {bF p st en top oth:Int} {b:List Int} (deed:Int) (dr:LV) (S:eQ σ0 rl Ls σ) (C:RowC σ0 rl nums p Ls cv bF PP) (hb:b.length≤5) (ho:cS b) (eO:0≤st∧st<2147483648) (bg:0≤top∧top≤2147483648) (jq:0≤en∧en<2) (dv:0≤bF∧bF<2147483648) (bI:0≤oth∧oth<256),
  XE B X bu ir (some nums::oo rl::oi bF::some (.bool cv)::some dr::oi deed::oi p::oi st::ob b::oi en::oi top::oi oth::di) σ PP
section
variable{rl:Nat}{PP:eV}{Ls:List Row}{nums:LV}{cv:Bool}{bF deed p st en top oth:Int}{b:List Int}{dr:LV}
theorem zN(G:Gd B)(hd:X.d≤280)(hn:X.hn=true):ft B X u4 where
 go {_ _ _ _ _ _ _ _ _ _ en top oth b} deed dr S C hb ho eO bg jq dv bI:=by
  have nd:bu.Nodup:=by nofun
  have y:=zK (deed:=deed) (dr:=dr) (b:=b) (en:=en) (top:=top) (oth:=oth) G hd hn S (C.oT (X:=X) G) eO;have n:=zI (deed:=deed) (dr:=dr) G hd hn S (C.oT (X:=X) G) hb ho eO bg jq dv bI;show .o ?_;show(?_:aw ..);show aw.mk (fun c=>?_) (fun c=>?_)<;>(first|show(?_:aw ..)|show(?_:aY ..)|fail)
  ·show⟨by decide,?_⟩;show(?_:aw ..);show aw.mk (fun c=>?_) (fun c=>?_)<;>show(?_:aw ..)
   ·show aw.mk (fun c=>?_) (fun c=>?_)<;>show(?_:aw ..)
    ·show aw.mk (fun U=>y) (fun U=>n)
    ·show aw.f n
   ·show aw.f n
  ·show aw.f n
theorem ft.eq(G:Gd B){k:Int}{x:List IS}(hx:ft B X x)(hy:ft B X y):ft B X [.ite (.cmp .Eq (.var 5) (.li k)) x y] where
 go deed dr S C hb ho eO bg jq dv bI:=by
  have nd:bu.Nodup:=by nofun
  have b:=hx.go deed dr S (C.oT (X:=X) G) hb ho eO bg jq dv bI;have d:=hy.go deed dr S (C.oT (X:=X) G) hb ho eO bg jq dv bI;show .o ?_;show(?_:aw ..);show aw.mk (fun U=>b) (fun U=>d)
theorem ft.eq2(G:Gd B){k j:Int}{x:List IS}(hx:ft B X x)(hy:ft B X y):ft B X [.ite (.kY [.cmp .Eq (.var 5) (.li k),.cmp .Eq (.var 5) (.li j)]) x y] where
 go deed dr S C hb ho eO bg jq dv bI:=by
  have nd:bu.Nodup:=by nofun
  have b:=hx.go deed dr S (C.oT (X:=X) G) hb ho eO bg jq dv bI;have d:=hy.go deed dr S (C.oT (X:=X) G) hb ho eO bg jq dv bI;show .o ?_;show(?_:aw ..);show aw.mk (fun c=>?_) (fun c=>?_)<;>show(?_:aw ..)
  ·show aw.t b
  ·show aw.mk (fun U=>b) (fun U=>d)
theorem BV(G:Gd B)(hd:X.d≤280)(hn:X.hn=true):ft B X zL:=
 .eq2 G ⟨fun deed dr S C hb ho eO bg jq dv bI=>BO G hd hn S C hb ho eO bg jq dv bI⟩ (.eq2 G ⟨fun deed dr S C hb ho eO bg jq dv bI=>BN G hd hn S C hb ho eO bg jq dv bI⟩ (.eq G ⟨fun deed dr S C hb ho eO bg jq dv bI=>BP G hd hn S C hb ho eO bg jq dv bI⟩
  (.eq2 G ⟨fun deed dr S C hb ho eO bg jq dv bI=>BR G hd hn S C hb ho eO bg jq dv bI⟩ (.eq G ⟨fun deed dr S C hb ho eO bg jq dv bI=>BS G hd hn S C hb ho eO bg jq dv bI⟩ (.eq G ⟨fun deed dr S C hb ho eO bg jq dv bI=>BU G hd hn S C hb ho eO bg jq dv bI⟩ (zN G hd hn))))))
structure zO(σ0:List LO)(rl:Nat)(nums:LV)(Ls:List Row)(PP:eV):Prop where
 go:∀(sg:Seg) hG Fi σ' ae,(∀r∈sg.rows,r.Ok)→sg.rows.length≤71→0≤hG→hG<2147483648→Ext σ0 σ'→σ'[rl]? =some (.list ((Ls++sg.rows).map Row.val))→
  WK (some nums::oo rl::oi hG::some (.bool Fi)::qC) ae→PP .next ae σ'
theorem BW(G:Gd B)(hd:X.d≤280)(hn:X.hn=true)(aZ:X.sc=ai (aB 40))(S:eQ σ0 rl Ls σ)(C:zO σ0 rl nums Ls PP)(eO:0≤st∧st<2147483648)(dv:0≤bF∧bF<2147483648):
  XE B X bu nc (some nums::oo rl::oi bF::some (.bool cv)::some dr::oi deed::oi p::oi st::qB) σ PP:=by
 have nd:bu.Nodup:=by nofun
 have m2:=fm (x:=p.fdiv 2) (k:=2) (by decide);have Nd:=fm (x:=p.fdiv 11) (k:=256) (by decide);show .of G nd 60 (.join (G6 σ0 rl nums p Ls cv bF)) ?_;show af.mk (wQ G nt aZ hn fun σ2 ns x2 hl ho e2=>?_);show af.mk (.bytesOf hn e2 ho nt ?_);have S2:=S.grow x2;show aY.mk (by decide) ?_;show aY.mk (by decide) ?_;show aY.mk (by decide) ?_;show(?_:aY ..);erw[CM];show⟨by decide,?_⟩;show aY.mk (by decide) ?_;show aY.mk (.inl (by decide)) ?_
 have bg:0≤2147483648*(p.fdiv 9).fmod 2∧2147483648*(p.fdiv 9).fmod 2≤2147483648:=by lia
 generalize 2147483648*(p.fdiv 9).fmod 2=top at bg⊢;show aY.mk (by decide) ?_;show aY.mk (by decide) ?_
 conv=>whnf
 have CJ:RowC σ0 rl nums p Ls cv bF (iE (G6 σ0 rl nums p Ls cv bF) PP):=
  ⟨fun r hG nY σ' ae h1 h2 h3 h4 h5 h6 h7 h8=>⟨_,.inl ⟨r,hG,nY,h1,⟨h2,h3⟩,⟨h4,h5⟩,h6,h7,rfl⟩,h8⟩,fun n st σ' ae h1 h2 h3 h4 h5 h6=>⟨_,.inr ⟨n,st,h1,⟨h2,h3⟩,h4,h5,rfl⟩,h6⟩⟩
 show⟨aw.mk (fun U=>BM G hd hn S2 CJ hl ho eO bg m2 dv Nd) (fun U=>(BV G hd hn).go deed dr S2 CJ hl ho eO bg m2 dv Nd),?_⟩;rintro e σ3 (⟨r,hG,nY,hr,hb',eN,x3,e3,rfl⟩|⟨n,Fz,cR,LS,x3,e3,rfl⟩)
 ·show oQ G hd hn aZ x3 S2.ge e3 (by have:=S2.sz;show nt) hr.f eN fun f' σ4 ae h0 h1 U x4 e4 wk=>?_;show C.go (.one ⟨r.k,f',r.st,r.b⟩) hG cv σ4 ae (fun q hq=>?_) (Nat.le_of_ble_eq_true rfl) hb'.1 hb'.2 x4 e4 wk;obtain rfl:=mem_singleton.mp hq;show⟨hr.k,⟨h0,h1⟩,hr.st,hr.b,hr.o⟩
 ·show aA (wR cR LS) fun dG hZ=>?_;show fJ hZ fun L r hL=>?_
  have hz:(Seg.rows (.many n Fz)).length≤71:=by show(?_:(_::(range n).map _).length≤71);erw[length_cons,length_map ..,length_range];show Nat.succ_le_succ ‹_›
  have hr:=dG r (by erw[hL];simp)
  have Fu:L.length≤71:=by(replace hz:=hL▸hz;replace hz:=length_append▸hz);show Nat.le_of_lt ‹_›
  replace e3:=hL▸e3;rw[←append_assoc]at e3;show oQ G hd hn aZ x3 S2.ge e3 (by erw[length_append];have:=S2.sz;ac_rfl) hr.f (by decide) fun f' σ4 ae h0 h1 he x4 e4 wk=>?_;obtain rfl:=he rfl;show C.go (.many n Fz) bF true σ4 ae dG hz dv.1 dv.2 x4 ?_ wk;erw[e4,hL];show bD rfl (append_assoc ..)
end
section
variable{rl:Nat}{PP:eV}{Ls:List Row}{nums:LV}{cv:Bool}{bF deed p st d:Int}{dr:LV}
theorem BX(G:Gd B)(hd:X.d≤280)(hn:X.hn=true)(aZ:X.sc=ai (aB 40))(S:eQ σ0 rl Ls σ)(C:zO σ0 rl nums Ls PP)(eO:0≤st∧st<2147483648)(dv:0≤bF∧bF<2147483648):
  XE B X bu ql (some nums::oo rl::oi bF::some (.bool cv)::some dr::oi deed::oi p::oi st::qB) σ PP:=by
 have nd:bu.Nodup:=by nofun
 have go:∀e:Int,cx B X bu nc PP .next (some nums::oo rl::oi bF::some (.bool cv)::some dr::oi e::oi p::oi st::qB) σ:=fun e=>BW G hd hn aZ S C eO dv;have one:XE B X bu [.assign 5 (.li 1)] (some nums::oo rl::oi bF::some (.bool cv)::some dr::oi deed::oi p::oi st::qB) σ (cx B X bu nc PP):=.of G nd 60 .go (go 1);have same:XE B X bu [] (some nums::oo rl::oi bF::some (.bool cv)::some dr::oi deed::oi p::oi st::qB) σ (cx B X bu nc PP):=.of G nd 60 .go (go deed);show .o ?_;show(?_:aw ..);show aw.mk (fun c=>?_) (fun c=>?_)<;>show(?_:aw ..)
 ·show aw.mk (fun c=>?_) (fun c=>?_)<;>show(?_:aw ..)
  ·show aw.t ?_;show aY.mk (by decide) ?_;show(?_:aw ..);show aw.mk (fun U=>one) (fun U=>same)
  ·show aw.mk (fun _=>?_) (fun _=>?_)<;>(first|show(?_:aw ..)|show(?_:aY ..)|fail)
   ·show⟨by decide,?_⟩;show(?_:aw ..);show aw.mk (fun U=>one) (fun U=>same)
   ·show aw.f same
 ·show aw.f same
theorem BY(G:Gd B)(hd:X.d≤280)(hn:X.hn=true)(aZ:X.sc=ai (aB 40))(S:eQ σ0 rl Ls σ)(C:zO σ0 rl nums Ls PP)(dv:0≤bF∧bF<2147483648):
  XE B X bu zM (some nums::oo rl::oi bF::some (.bool cv)::oi d::ug) σ PP:=by
 have nd:bu.Nodup:=by nofun
 have m4:=fm (x:=d.fdiv 12) (k:=4) (by decide);show aa (oR (l:=[1,3,2147483648-1,5]) m4.1 (m4.2)) fun st hy my=>?_
 have eO:0≤st∧st<2147483648:=by
  have z:([1,3,2147483648-1,5]:List Int).all (fun y=>decide (0≤y∧y<2147483648))=true:=by nofun
  show js (List.all_eq_true.mp z st my)
 have S1:=S.grow (.app σ [.list ([1,3,2147483648-1,5].map .int)])
 have e1:(σ++[LO.list ([1,3,2147483648-1,5].map .int)])[σ.length]? =some (.list ([1,3,2147483648-1,5].map .int)):=by show gA
 have go:∀e st:Int,0≤st∧st<2147483648→cx B X bu ql PP .next (some nums::oo rl::oi bF::some (.bool cv)::oi d::oi e::oi (d.fdiv 12)::oi st::qB) (σ++[LO.list ([1,3,2147483648-1,5].map .int)]):=fun e st h=>BX G hd hn aZ S1 C h dv;show .o ?_;show aY.mk (by decide) ?_;show aY.mk (by decide) ?_;show aY.mk (by lia) ?_;show(?_:aY ..);erw[CM];show⟨by decide,?_⟩;show af.mk (.list e1 m4.1 (by lia) hy ?_);show(?_:aw ..);have same:XE B X bu [] (some nums::oo rl::oi bF::some (.bool cv)::oi d::oi (d.fmod 12)::oi (d.fdiv 12)::oi st::qB) (σ++[LO.list ([1,3,2147483648-1,5].map .int)]) (cx B X bu ql PP):=.of G nd 60 .go (go _ st eO);show aw.mk (fun c=>?_) (fun c=>?_)<;>(first|show(?_:aw ..)|show(?_:aY ..)|fail)
 ·show⟨by decide,?_⟩;show(?_:aw ..);show aw.mk (fun c=>?_) (fun c=>same);show .o ?_;show aY.mk (by decide) ?_;show go _ bF dv
 ·show aw.f same
end
theorem u5{l:List Seg}(h:∀s∈l,s.rows.length≤71):(aI l).length≤l.length*71:=by
 unfold aI
 induction l with
 |nil=>simp
 |cons a l ih=>have:=ih fun s hs=>h s (.tail _ hs);have:=h a (.head _);simp only[map_cons,flatten_cons,length_append,length_cons,Nat.add_mul]at*;lia
theorem rZ(l:List Seg)(s:Seg):aI (l++[s])=aI l++s.rows:=by unfold aI;simp
theorem wU(G:Gd B)(hX:X.d≤270)(hn:X.hn=true){E9:Nat}{ns:List Int}(e:σ[E9]? =some (.list (ns.map .int)))(hz:ns.length≤12)(h:∀σ' rl (sg:List Seg),Ext σ σ'→sg.length=ns.length→(∀r∈aI sg,r.Ok)→(aI sg).length≤852→σ'[rl]? =some (.list ((aI sg).map Row.val))→P (.obj rl) σ'):aM B X env σ [.obj E9] (fun vs=>PySem.call (.ref 1115) vs) P:=by
 show .fnX G (AR G) nt rfl (JV _) (e0:=(oo E9::Cr)) rfl ?_
 have nd:bu.Nodup:=by nofun
 generalize bZ:X.lL env (fdOf 40 (oS "_law_rows") 1114)=X'
 have cR:X'.hn=true:=by show bD ?_ bZ;show hn
 have du:X'.d≤280:=by show bD ?_ bZ;show(?_:X.d+_≤280);lia
 have aZ:X'.sc=ai (aB 40):=by show bD ?_ bZ;rfl
 clear bZ;show .o ?_;show(?_:Bf ..)
 show⟨cR,ns.map .int,fun i ev σ1=>∃(sg:List Seg) (bF:Int) (cv:Bool),ev=(oo E9::oo σ.length::oi bF::some (.bool cv)::qC)∧
  (0≤bF∧bF<2147483648)∧sg.length=i∧i≤ns.length∧(∀r∈aI sg,r.Ok)∧(∀s∈sg,s.rows.length≤71)∧eQ σ σ.length (aI sg) σ1,?_,?_,?_,?_⟩
 ·show⟨_,⟨[],0,false,rfl,by decide,rfl,Nat.zero_le _,fun r hr=>(by right),fun r hr=>(by right),.app _ _,Nat.le_refl _,by show gA,Nat.zero_le _⟩,rfl,rfl,rfl,rfl,trivial⟩
 ·rintro i ev σ1 zq;show xA zq ?_;rintro sg bF cv rfl hb hi Nf dG Cd S;show S.ext _ _ e
 ·rintro i v ev σ1 hi zq;show xA zq ?_;rintro sg bF cv rfl hb rfl Nf dG Cd S;replace hi:=getElem?_map▸hi;show aa (Option.map_eq_some_iff.mp hi) ?_;rintro d hd rfl;show av (dU hd) ?_;rintro nG rfl;show(?_:XE B X'.calm bu zM _ σ1 _);show BY G du cR aZ S ⟨fun s hG Fi σ' ae h1 h2 h3 h4 h5 h6 wk=>?_⟩ hb
  have LU:∀r∈aI (sg++[s]),r.Ok:=fun r hr=>by rw[rZ]at hr;show(mem_append.mp hr).elim (dG r) (h1 r)
  have Ig:∀q∈sg++[s],q.rows.length≤71:=fun q hq=>(mem_append.mp hq).elim (Cd q) fun hq=>by obtain rfl:=mem_singleton.mp hq;show h2
  have hl:=u5 Ig;show⟨_,⟨sg++[s],hG,Fi,rfl,⟨h3,h4⟩,by show gF,nG,LU,Ig,h5,Nat.le_refl _,by erw[rZ ..];show h6,?_⟩,wk⟩;replace hl:=length_append▸hl;replace hl:=length_singleton▸hl;lia
 ·rintro ev σ1 i hi zq;show xA zq ?_;rintro sg bF cv rfl hb rfl Nf dG Cd S;rw[length_map]at hi;show .o ?_
  conv=>whnf
  have hl:=u5 Cd;show h σ1 _ sg S.ext (by lia) dG (by lia) S.at_
def qm(A:Around)(s:Shared)(ρ:Cells)(a b:LV):Prop:=∀x y,Rep s.heap ρ a x→Rep s.heap ρ b y→SeqAt.EqAt A s x y true
theorem qm.int{i:Int}:qm A s ρ (.int i) (.int i):=fun x y r q=>by show av r ?_;rintro t rfl;show av q ?_;rintro u rfl;have:=SeqAt.EqAt.int_int (A:=A) (s:=s) i t i u;rw[beq_self_eq_true]at this;assumption
theorem qm.str:qm A s ρ (.str i) (.str i):=fun x y r q=>by show av r ?_;rintro t rfl;show av q ?_;rintro u rfl;have:=SeqAt.EqAt.str_str (A:=A) (s:=s) i t i u;rw[beq_self_eq_true]at this;assumption
theorem qm.bytes{l:List Int}:qm A s ρ (.bytes l) (.bytes l):=fun x y r q=>by
 show cj r ?_;rintro b t rfl e;show cj q ?_;rintro c u rfl e2;have Pe:=oH (e.trans e2.symm);intro prog w E Q h;unfold eqBool;show eT ?_;show wpAny_ite_split (fun U=>V (wpAny_rule (aG h))) fun U=>V (W.eq_bytes (wpAny_truthy_bool (b:=b.toList==c.toList) ?_))
 (erw[Pe,beq_self_eq_true ..]);show h
theorem all_true(n:Nat):(range n).all (fun U=>true)=true:=by simp
theorem qm.tup{m:List LV}(hl:l.length=m.length)(hu:A.units<cLine)(he:∀j (h1:j<l.length) (h2:j<m.length),qm A.in1 s ρ l[j] m[j]):qm A s ρ (.tup l) (.tup m):=fun x y r q=>by
 show bY r ?_;rintro a vs rfl U ha ra;show bY q ?_;rintro b ws rfl U hb rb;have l1:=ra.length;have l2:=rb.length
 by_cases w3:a=b
 ·subst w3;show .same _
 have:=SeqAt.RcAt.tuples (e:=fun U=>true) ha hb hu fun j j1 j2=>by simp only[List.size_toArray]at j1 j2;simp only[getElem_toArray];show he j (by ac_rfl) (by ac_rfl) _ _ (ra.idx _ j1) (rb.idx _ j2)
 rw[all_true]at this;replace this:=List.size_toArray▸this;replace this:=List.size_toArray▸this;replace this:=l1▸this;replace this:=l2▸this;replace this:=hl▸this;rw[beq_self_eq_true]at this;show .of_refs w3 this
theorem qm.G7{a b:Nat}{m:List LV}(S:St B C ρ env σ s.heap)(e:σ[a]? =some (.list l))(e2:σ[b]? =some (.list m))(hl:l.length=m.length)(hu:A.units<cLine)(he:∀j (h1:j<l.length) (h2:j<m.length),qm A.in1 s ρ l[j] m[j]){x:Value}(r:Rep s.heap ρ (.obj a) x)(q:Rep s.heap ρ (.obj b) y):∃c d,x= .ref c∧y= .ref d∧SeqAt.RcAt A s x y true:=by
 show cN (S.list r e) ?_;rintro c vs U rfl U ha ra;show cN (S.list q e2) ?_;rintro d ws U rfl U hb rb;have l1:=ra.length;have l2:=rb.length;show xy _ _ rfl rfl ?_
 have:=SeqAt.RcAt.lists (e:=fun U=>true) ha.isList hb.isList (by simp only[List.size_toArray];ac_rfl) hu fun j j1 j2=>by simp only[List.size_toArray]at j1 j2;simp only[getElem_toArray];show he j (by ac_rfl) (by ac_rfl) _ _ (ra.idx _ j1) (rb.idx _ j2)
 rw[all_true]at this;assumption
theorem qm.obj{a b:Nat}{m:List LV}(S:St B C ρ env σ s.heap)(e:σ[a]? =some (.list l))(e2:σ[b]? =some (.list m))(hl:l.length=m.length)(hu:A.units<cLine)(he:∀j (h1:j<l.length) (h2:j<m.length),qm A.in1 s ρ l[j] m[j]):qm A s ρ (.obj a) (.obj b):=fun x y r q=>by
 show bb (qm.G7 S e e2 hl hu he r q) ?_;rintro c d rfl rfl h
 by_cases w3:c=d
 ·subst w3;show .same _
 show .of_refs w3 h
theorem Fo{P:Nat→Prop}(h0:P 0)(h1:P 1)(r:∀j,P (j+2)):∀j,P j
 |0=>h0
 |1=>h1
 |j+2=>r j
theorem NC{P:Nat→Prop}(h0:P 0)(h1:P 1)(h2:P 2)(h3:P 3)(h4:P 4)(r:∀j,P (j+5)):∀j,P j:=
 Fo h0 h1 (Fo h2 h3 fun j=>j.casesAuxOn h4 r)
theorem qm.told{h1 t1 h2 t2:Nat}{v w:LV}(S:St B C ρ env σ s.heap)(hu:A.units+1<cLine)(a:nU σ h1 t1 t v)(b:nU σ h2 t2 t w):qm A s ρ v w:=by
 induction t using TE.casesOn with
 |fault x=>obtain rfl:=show v=_ from a;obtain rfl:=show w=_ from b;show .tup rfl (Nat.le_of_lt ‹_›) (Fo (fun U U=>.str) (fun U U=>.str) fun j h1=>absurd h1 (Nat.not_lt.mpr (Nat.le_add_left 2 j)))
 |fr k az names d m=>show bJ a ?_;rintro j1 rfl e1 U;show bJ b ?_;rintro j2 rfl e2 U;show .tup rfl (Nat.le_of_lt ‹_›) (NC (fun U U=>.int) (fun U U=>.int) (fun U U=>?_) (fun U U=>.bytes) (fun U U=>.int) fun j h1=>absurd h1 (Nat.not_lt.mpr (Nat.le_add_left 5 j)));show .obj S e1 e2 rfl (by show(?_:A.units+1<cLine);show hu) fun j h1 h2=>?_;erw[getElem_map ..];show .str
theorem aM.Ez(hd:X.d≤300){a b h1 t1 h2 t2:Nat}{vs:List LV}(e:σ[a]? =some (.list vs))(e2:σ[b]? =some (.list ws))(q1:bR σ h1 t1 ts vs)(q2:bR σ h2 t2 ts ws)(h:P (.bool true) σ):aM B X env σ [.obj a,.obj b] (bK (compareOp .Eq)) P:=.two fun C O hX ρ s E Q vx vy S rx ry q=>by
 have hu:C.A.units+2<cLine:=by have:=O.units;have:=hX.d;unfold cLine;ac_rfl
 have l1:=q1.length;have l2:=q2.length;show bb (qm.G7 (A:=C.A) S e e2 (by ac_rfl) (by lia) (fun j j1 j2=>qm.told S (by show(?_:C.A.units+1+1<cLine);assumption) (q1.at (by ac_rfl) j1) (q2.at (by ac_rfl) j2)) rx ry) ?_;rintro c d rfl rfl hr;show hr _ _ _ _ (q _ _ _ ρ s h (.rr rfl rfl rfl) S rfl)
noncomputable def dn:List Int:=[80,82,73,32,42,32,72,84,84,80,47,50,46,48,13,10,13,10,83,77,13,10,13,10]
def ix(sv:Bool):List Int:=if sv then dn else[]
noncomputable def lG:List Int:=[1,0,9,0,0,0,0,0,1,0,0,0,0,0,0,0,0,0]
theorem wV(mx:Int)(n:Nat):bG mx (lG.take n)= .stop:=by
 have hl:(lG.take n).length≤18:=by erw[length_take];show Nat.min_le_right _ _
 unfold bG
 by_cases h:(lG.take n).length<9
 ·show aD rfl (aJ h)
 erw[ax h]
 have hn:9≤n:=by replace h:=length_take▸h;lia
 have e:(lG.take n).take 9=[1,0,9,0,0,0,0,0,1]:=by(erw[take_take,Nat.min_eq_left hn]);rfl
 erw[e]
 have h1:aK (([1,0,9,0,0,0,0,0,1]:List Int).getD 3 0) (strOf [1,0,9,0,0,0,0,0,1])=false:=by nofun
 have h2:lenOf [1,0,9,0,0,0,0,0,1]=65545:=by nofun
 erw[h1,h2,ax (by decide)];show aD rfl (aJ (by lia))
theorem zP(mx:Int)(n:Nat):bG mx (([]:List Int).take n)= .stop:=by erw[take_nil];rfl
noncomputable def EA:LV→LV
 | .tup [.int k,.int f,.int st,.bytes b]=>.bytes (octets k f st b)
 |v=>v
theorem r9{rows:List Row}(dG:∀r∈rows,r.Ok):((rows.map Row.oct).map (·.length)).sum≤rows.length*1009:=by
 have:=zi (f:=length) (n:=1009) (l:=rows.map Row.oct) fun x hx=>by show aa (mem_map.mp hx) ?_;rintro r hr rfl;have:=(dG r hr).b;erw[lV ..];show Nat.add_le_add_left ‹_› _
 rw[length_map]at this;assumption
theorem BZ{r:Row}(h:r.Ok):cS r.oct:=by
 have:=h.st;have:=h.b;intro x hx;rw[qf]at hx
 rcases mem_append.mp hx with hx|hx
 ·simp only[mem_cons,not_mem_nil,or_false]at hx;have h1:=h.k;have h2:=h.f
  rcases hx with rfl|rfl|rfl|rfl|rfl|rfl|rfl|rfl|rfl<;>(first|assumption|lia)
 ·show h.o x hx
theorem zR{rows:List Row}(dG:∀r∈rows,r.Ok){tail:List Int}(ht:cS tail):cS (cq rows tail):=fun x hx=>by
 rcases mem_append.mp hx with hx|hx
 ·show aa (mem_flatten.mp hx) fun l hl hx=>?_;show aa (mem_map.mp hl) ?_;rintro r hr rfl;show BZ (dG r hr) x hx
 ·show ht x hx
def nh(k:Nat):List IS:=(Bi.take 12).drop k
structure LawC(σ0:List LO)(PP:eV):Prop where
 go:∀(mx:Int) (sv:Bool) (O:List Int) (due:List (Int×TE)) (dd bk:Nat) (vs:List LV) (step:Int) (σ':List LO) (env:cT),0≤mx∧mx≤16384→cP mx due O 0 (ix sv) [] [] [] [] due→cS O→O.length≤1000000→1≤step∧step≤1000000→Ext σ0 σ'→
  σ'[dd]? =some (.list vs)→bM σ' bk dd due vs→WK (none::none::none::ob O::oi mx::some (.bool sv)::none::oo dd::none::none::oi step::di) env→PP .next env σ'
section
variable{PP:eV}{mx h:Int}{sv:Bool}{O:List Int}{due:List (Int×TE)}{dd bk:Nat}{vs:List LV}{v0 v2 v6:LV}
theorem zS(G:Gd B)(hd:X.d≤290)(hn:X.hn=true)(aZ:X.sc=ai (aB 45)){gu:Nat}{rows:List Row}(he:env.lookup (oS "rows")=oo gu)(el:σ[gu]? =some (.list (rows.map Row.val)))(dG:∀r∈rows,r.Ok)(hz:rows.length≤1000)(h:∀σ2,Ext σ σ2→σ2[σ.length]? =some (.list ((rows.map Row.oct).map .bytes))→P (.obj σ.length) σ2):aS B X env σ (jN (aB 45) [2] 0 [1]) P:=by
 have nd:[Str.ofString "row"].Nodup:=by nofun
 show .cC hn (fs:=[]) (kc (by erw[aZ];left)) (by erw[aZ];left) (by simp) (fun U=>true) EA ?_;show .var he ⟨.list gu (rows.map Row.val),rfl,trivial,by show(?_:(rows.map Row.val).length≤_);erw[length_map ..];show nt,fun σ2 x2=>x2 _ _ el,fun i v σ2 hi e=>⟨rfl,.refl _⟩,fun i v σ2 hi U x3=>?_,fun σ2 x3 e=>h σ2 x3 ?_⟩
 ·have hi:(rows.map Row.val)[i]? =some v:=hi;show aa (mem_map.mp (mem_of_getElem? hi)) ?_;rintro r hr rfl;have ok:=dG r hr;have hb:=ok.b;show(?_:aS B _ (envOf [oS "row"] [some r.val]) _ _ _);show tT G nd 60 60 (a:=.call (.ref 1096) [.var 0]) (by show(?_:cC _ (bT _ X.sc) _ _ _=_);erw[aZ];left) ?_;show af.mk (rS G (by show(?_:X.d≤300);show nt) (by show hn) ok.k ok.f ok.st (by show Nat.lt_of_le_of_lt ‹_› (by decide)) ⟨rfl,.app _ _⟩)
 ·erw[e]
  congr 2
  unfold Src.first
  have e1:(range (Src.list gu (rows.map Row.val)).top).filterMap (Src.list gu (rows.map Row.val)).items=rows.map Row.val:=by
   show(?_:filterMap (fun i=>(rows.map Row.val)[i]?) (range (rows.map Row.val).length)=_);have:=ip Row.val rows
   simpa using this
  erw[e1,filter_eq_self.mpr fun U U=>rfl,List.map_map,List.map_map];rfl
theorem zT(G:Gd B)(hn:X.hn=true)(C:LawC σ0 PP)(nX:0≤mx∧mx≤16384)(hI:cP mx due O 0 (ix sv) [] [] [] [] due)(ho:cS O)(hz:O.length≤1000000)(x:Ext σ0 σ)(e:σ[dd]? =some (.list vs))(D:bM σ bk dd due vs):
  XE B X b9 (nh 10) (some v0::oi h::some v2::ob O::oi mx::some (.bool sv)::some v6::oo dd::xC) σ PP:=by
 have nd:b9.Nodup:=by nofun
 have m8:=fm (x:=h.fdiv 7) (k:=8) (by decide);show aa (oR (l:=[1,2,3,5,8,9,13,1000]) m8.1 (m8.2)) fun y hy my=>?_
 have Fh:1≤y∧y≤1000:=by
  have z:([1,2,3,5,8,9,13,1000]:List Int).all (fun y=>decide (1≤y∧y≤1000))=true:=by nofun
  show js (List.all_eq_true.mp z y my)
 show .o ?_;show aY.mk (by decide) ?_;show aY.mk (by decide) ?_;show af.mk (.list (l:=[1,2,3,5,8,9,13,1000].map .int) (gA) m8.1 (by omega) hy ?_);show af.mk (.aX nt ?_);show aY.mk (by decide) ?_;show af.mk (.max2 hn ?_)
 have hs:1≤(if(O.length:Int).fdiv 60+1>y then(O.length:Int).fdiv 60+1 else y)∧(if(O.length:Int).fdiv 60+1>y then(O.length:Int).fdiv 60+1 else y)≤1000000:=by
  have:(O.length:Int).fdiv 60=O.length/60:=Int.fdiv_eq_ediv_of_nonneg _ (by decide)
  split<;>ac_rfl
 generalize (if(O.length:Int).fdiv 60+1>y then(O.length:Int).fdiv 60+1 else y)=st at hs⊢
 conv=>whnf
 have x1:=Ext.app σ [.list ([1,2,3,5,8,9,13,1000].map .int)];show C.go mx sv O due dd bk vs st _ _ nX hI ho hz hs (x.trans x1) (x1 _ _ e) (D.mono (fun j l U U e=>x1 _ _ e) (.inl rfl)) ⟨rfl,rfl,rfl,rfl,rfl,trivial⟩
end
theorem XE.wk{xs:List Str}{P:eV}(nd:xs.Nodup)(k:WK e0 e)(h:XE B X xs ir e0 σ P):XE B X xs ir e σ P:=⟨fun n ast hc=>.weak (WK.sub nd k) (h.run n ast hc)⟩
theorem B0:∀p:Nat,p<24→(0≤Builtin.bitXor (dn.getD p 0) 1∧Builtin.bitXor (dn.getD p 0) 1<256)∧dn[p]?≠some (Builtin.bitXor (dn.getD p 0) 1):=fun p hp=>by
 have z:(range 24).all (fun p=>decide ((0≤Builtin.bitXor (dn.getD p 0) 1∧Builtin.bitXor (dn.getD p 0) 1<256)∧dn[p]?≠some (Builtin.bitXor (dn.getD p 0) 1)))=true:=by nofun
 show js (List.all_eq_true.mp z p (mem_range.mpr hp))
theorem qn:cS dn:=fun x hx=>by
 have z:dn.all (fun x=>decide (0≤x∧x<256))=true:=by nofun
 show js (List.all_eq_true.mp z x hx)
theorem zU:cS lG:=fun x hx=>by
 have z:lG.all (fun x=>decide (0≤x∧x<256))=true:=by nofun
 show js (List.all_eq_true.mp z x hx)
theorem cS.nil:cS []:=fun x hx=>by right
structure iy(σ:List LO)(gu:Nat)(sg:List Seg)(tail:List Int):Prop where
 at_:σ[gu]? =some (.list ((aI sg).map Row.val))
 ok:∀r∈aI sg,r.Ok
 n:(aI sg).length≤852
 sg:sg.length≤12
 t:tail=[]∨tail=lG
namespace iy
variable{gu:Nat}{sg:List Seg}{tail:List Int}
theorem grow(R:iy σ gu sg tail)(x:Ext σ σ'):iy σ' gu sg tail:=⟨x _ _ R.at_,R.ok,R.n,R.sg,R.t⟩
theorem stop(R:iy σ gu sg tail)(mx:Int)(n:Nat):bG mx (tail.take n)= .stop:=by
 rcases R.t with rfl|rfl
 ·show zP mx n
 ·show wV mx n
theorem Kh(R:iy σ gu sg tail):tail.length≤18:=by
 rcases R.t with rfl|rfl
 ·show Nat.zero_le _
 ·decide
theorem Ki(R:iy σ gu sg tail):cS tail:=by
 rcases R.t with rfl|rfl
 ·show .nil
 ·show zU
theorem len(R:iy σ gu sg tail):(cq (aI sg) tail).length≤859686:=by have h1:(map length ((aI sg).map Row.oct)).sum≤_:=r9 R.ok;have h2:=R.Kh;have h3:=R.n;unfold cq;erw[length_append,length_flatten];ac_rfl
theorem oct(R:iy σ gu sg tail):cS (cq (aI sg) tail):=zR R.ok R.Ki
theorem start(R:iy σ gu sg tail)(mx:Int)(pre:List Int):cP mx (bN mx (aI sg) pre.length []) (pre++cq (aI sg) tail) 0 pre [] [] [] [] (bN mx (aI sg) pre.length []):=
 .start R.ok (R.stop mx) (by have:=mX (mx:=mx) sg pre.length [];have:=R.sg;ac_rfl)
end iy
section
variable{PP:eV}{mx h:Int}{sv:Bool}{d0 gu:Nat}{sg:List Seg}{tail:List Int}{v0 v6:LV}{x8 x9:Option LV}
theorem CN(G:Gd B)(hd:X.d≤260)(hn:X.hn=true)(C:LawC σ0 PP)(nX:0≤mx∧mx≤16384)(R:iy σ gu sg tail)(x:Ext σ0 σ)(e:σ[d0]? =some (.list [])):
  XE B X b9 (nh 9) (some v0::oi h::oo gu::(some (.bytes (ix sv++cq (aI sg) tail)))::oi mx::some (.bool sv)::some (.int (ix sv).length)::oo d0::x8::x9::Dh) σ PP:=by
 have nd:b9.Nodup:=by nofun
 have x1:=Ext.app σ [.list []]
 have hl:(ix sv).length≤24:=by cases sv<;>decide
 have wZ:cS (ix sv):=by cases sv;show .nil;show qn
 show .o ?_;show af.mk (.CF nt (l:=[]) (x1 _ _ e) (gA) ?_);show(?_:aw ..);show aw.t ?_;show .o ?_;show(?_:af _);have R1:=R.grow x1;show⟨zA G nt hn R1.at_ R1.ok (by have:=R1.n;show nt) fun σ' dd bk vs x2 MJ ed D=>?_⟩;show .wk nd (e0:=(some v0::oi h::oo gu::(some (.bytes (ix sv++cq (aI sg) tail)))::oi mx::some (.bool sv)::some (.int (ix sv).length)::oo dd::xC)) ⟨rfl,rfl,rfl,rfl,rfl,rfl,rfl,rfl,trivial⟩ ?_;show zT G hn C nX (R1.start mx (ix sv)) (wZ.app R1.oct) (by erw[length_append];have:=R1.len;ac_rfl) ((x.trans x1).trans x2) ed D
theorem EB(G:Gd B)(hd:X.d≤260)(hn:X.hn=true)(C:LawC σ0 PP)(nX:0≤mx∧mx≤16384)(R:iy σ gu sg tail)(x:Ext σ0 σ){p:Nat}{y:Int}(hp:p<24)(hy:0≤y∧y<256)(jn:dn[p]?≠some y)(e:σ[d0]? =some (.list [.tup [.int ((p:Int)+1),.tup [.str (oS "fault"),.str (oS "refused")]]])):
  XE B X b9 (nh 9) (some v0::oi h::oo gu::(some (.bytes (dn.take p++[y]++dn.drop (p+1)++cq (aI sg) tail)))::oi mx::some (.bool true)::some v6::oo d0::x8::x9::Dh) σ PP:=by
 have nd:b9.Nodup:=by nofun
 have x1:=Ext.app σ [.list []];show .o ?_;show af.mk (.CF nt (x1 _ _ e) (gA) ?_);show(?_:aw ..);show aw.f ?_;show .o ?_;show .wk nd (e0:=(some v0::oi h::oo gu::(some (.bytes (dn.take p++[y]++dn.drop (p+1)++cq (aI sg) tail)))::oi mx::some (.bool true)::some v6::oo d0::xC)) ⟨rfl,rfl,rfl,rfl,rfl,rfl,rfl,rfl,trivial⟩ ?_
 have ho:cS (dn.take p++[y]++dn.drop (p+1)):=fun z hz=>by
  rcases mem_append.mp hz with hz|hz
  ·rcases mem_append.mp hz with hz|hz
   ·show qn z (mem_of_mem_take hz)
   ·obtain rfl:=mem_singleton.mp hz;show hy
  ·show qn z (mem_of_mem_drop hz)
 have hl:dn.length=24:=rfl
 show zT (sv:=true) (bk:=0) (due:=[((p:Int)+1,.fault aP)]) G hn C nX (.odd (pre0:=dn) (rest:=cq (aI sg) tail) (p:=p) (x:=y) rfl hp jn rfl rfl (Nat.zero_le _) rfl rfl rfl) (ho.app R.oct)
  (by simp only[length_append,length_take,length_drop,length_singleton];have:=R.len;ac_rfl) (x.trans x1) (x1 _ _ e) ⟨⟨_,rfl,rfl⟩,trivial⟩
end
section
variable{PP:eV}{mx h:Int}{sv:Bool}{d0 gu:Nat}{sg:List Seg}{tail:List Int}{v0 v6:LV}{x8 x9:Option LV}
theorem G8(G:Gd B)(hd:X.d≤260)(hn:X.hn=true)(C:LawC σ0 PP)(nX:0≤mx∧mx≤16384)(R:iy σ gu sg tail)(x:Ext σ0 σ)(e:σ[d0]? =some (.list [])):
  lO B X b9 60 .go PP (nh 8) (some v0::oi h::oo gu::some (.bytes (cq (aI sg) tail))::oi mx::some (.bool sv)::oi 0::oo d0::xC) σ:=by
 have nd:b9.Nodup:=by nofun
 have hO:=R.len;obtain⟨p,hp⟩:∃p:Nat,(h.fdiv 90).fmod (([80,82,73,32,42,32,72,84,84,80,47,50,46,48,13,10,13,10,83,77,13,10,13,10]:List Int).length:Int)=p:=⟨_,(Int.toNat_of_nonneg (fm (x:=h.fdiv 90) (k:=((dn.length:Nat):Int)) (by decide)).1).symm⟩
 have Ih:p<24:=by have:(h.fdiv 90).fmod (([80,82,73,32,42,32,72,84,84,80,47,50,46,48,13,10,13,10,83,77,13,10,13,10]:List Int).length:Int)<24:=(fm (x:=h.fdiv 90) (k:=((dn.length:Nat):Int)) (by decide)).2;omega
 show aA (B0 p Ih) fun Ng MG=>?_;show(?_:aw ..);show aw.mk (fun c=>?_) (fun c=>?_)
 ·have c:sv=true:=c;subst c;show .o ?_;show af.mk (.aX (by decide) ?_);show aY.mk (by decide) ?_;show aY.mk (by decide) ?_;show(?_:aw ..);show aw.mk (fun c=>?_) (fun c=>?_)
  ·show .o ?_;show aY.mk (by decide) ?_;show aY.mk (by decide) ?_;erw[hp];show aY.mk (by decide) ?_;show af.mk (.bytes (by decide) (Int.natCast_nonneg _) (by show(?_:(p:Int)<24);show Int.ofNat_lt.mpr ‹_›) fun U U=>?_);erw[show Int.toNat (p:Int)=p from Int.toNat_natCast p,j8 (l:=[80,82,73,32,42,32,72,84,84,80,47,50,46,48,13,10,13,10,83,77,13,10,13,10]) (n:=p) (by show(?_:p≤24);show Nat.le_of_lt ‹_›)];show af.mk (.dP hn ?_);show aY.mk (fun n m=>by obtain rfl:=mem_singleton.mp m;show Ng) ?_;show(?_:aY ..)
   have l1:(dn.take p).length=p:=by erw[length_take];show Nat.min_eq_left (by show(?_:p≤24);show Nat.le_of_lt ‹_›)
   show⟨by show(?_:(dn.take p).length+1≤_);lia,?_⟩;show aY.mk (by decide) ?_;erw[show(p:Int)+1=((p+1:Nat):Int) from rfl,mn (l:=[80,82,73,32,42,32,72,84,84,80,47,50,46,48,13,10,13,10,83,77,13,10,13,10]) (n:=p+1) (by show(?_:p+1≤24);assumption)];show aY.mk (by show(?_:(dn.take p++[_]).length+(dn.drop (p+1)).length≤_);erw[length_append,length_drop,l1,length_singleton];show(?_:p+1+(24-(p+1))≤_);lia) ?_;show XE.o ?_;show aY.mk (by show(?_:(dn.take p++[_]++dn.drop (p+1)).length+_≤_);erw[length_append,length_append,length_drop,l1,length_singleton];show(?_:p+1+(24-(p+1))+_≤_);ac_rfl) ?_;have x1:Ext σ (σ++[.list [.int (Builtin.bitXor (dn.getD p 0) 1)]]++[.list [.tup [.int ((p:Int)+1),.tup [.str (oS "fault"),.str (oS "refused")]]]]):=(Ext.app _ _).trans (.app _ _);show EB G hd hn C nX (R.grow x1) (x.trans x1) Ih Ng MG (gA)
  ·show .o ?_;show .o ?_;show aY.mk (by show(?_:24+_≤_);ac_rfl) ?_;show CN (sv:=true) G hd hn C nX R x e
 ·have c:sv=false:=c;subst c;show .o ?_;show CN (sv:=false) G hd hn C nX R x e
end
section
variable{PP:eV}{mx h:Int}{sv:Bool}{d0 gu:Nat}{sg:List Seg}{tail:List Int}{v0 v6:LV}{x8 x9:Option LV}
theorem CO(G:Gd B)(hd:X.d≤260)(hn:X.hn=true)(C:LawC σ0 PP)(R:iy σ gu sg tail)(x:Ext σ0 σ):
  XE B X b9 (nh 4) (some v0::oi h::oo gu::some (.bytes (cq (aI sg) tail))::ug) σ PP:=by
 have nd:b9.Nodup:=by nofun
 have m6:=fm (x:=h) (k:=6) (by decide);show aa (oR (l:=[16384,64,16384,9,24,5]) m6.1 (m6.2)) fun y hy my=>?_
 have Fh:0≤y∧y≤16384:=by
  have z:([16384,64,16384,9,24,5]:List Int).all (fun y=>decide (0≤y∧y≤16384))=true:=by nofun
  show js (List.all_eq_true.mp z y my)
 show .o ?_;show aY.mk (by decide) ?_;show af.mk (.list (l:=[16384,64,16384,9,24,5].map .int) (gA) m6.1 (by omega) hy ?_);have x1:=Ext.app σ [.list ([16384,64,16384,9,24,5].map .int)];show aY.mk (by decide) ?_;show aY.mk (by decide) ?_;have x2:=x1.trans (.app _ [.list []]);show G8 G hd hn C Fh (R.grow x2) (x.trans x2) (gA)
theorem G9(G:Gd B)(hd:X.d≤260)(hn:X.hn=true)(C:LawC σ0 PP)(R:iy σ gu sg [])(x:Ext σ0 σ):
  lO B X b9 60 .go PP (nh 3) (some v0::oi h::oo gu::some (.bytes (cq (aI sg) []))::ug) σ:=by
 have nd:b9.Nodup:=by nofun
 have hO:=R.len;show aY.mk (by decide) ?_;show aY.mk (by decide) ?_;show(?_:aw ..);show aw.mk (fun c=>?_) (fun c=>?_)
 ·show .o ?_;show af.mk (.dP hn ?_);show aY.mk (by decide) ?_;show aY.mk (by show(?_:(cq (aI sg) []).length+9≤_);lia) ?_;show af.mk (.zeros (by decide) (by decide) ?_);show aY.mk (by show(?_:(cq (aI sg) []++[1,0,9,0,0,0,0,0,1]).length+9≤_);erw[length_append];show(?_:_+9+9≤_);ac_rfl) ?_;have x1:=Ext.app σ [.list [.int 1,.int 0,.int 9,.int 0,.int 0,.int 0,.int 0,.int 0,.int 1]]
  have e:cq (aI sg) []++[1,0,9,0,0,0,0,0,1]++replicate (Int.toNat 9) 0=cq (aI sg) lG:=by unfold cq;erw[append_nil ..,append_assoc ..];rfl
  erw[e];show CO G hd hn C ⟨x1 _ _ R.at_,R.ok,R.n,R.sg,.inr rfl⟩ (x.trans x1)
 ·show .o ?_;show CO G hd hn C R x
theorem B1{env:cT}{n:Nat}{v:LV}{k:cT→Prop}(h:Nat.blt n env.length=true)(q:k (env.set n (some v))):lN env n v k:=by unfold lN;erw[h];show q
theorem B2{f:Int→LV}{l:List Int}{a b:Option Int}:bE (l.map f) a b=(bE l a b).map f:=by unfold bE;erw[length_map ..];show bD ?_ map_drop;show bD rfl map_take
theorem Ha(G:Gd B)(hd:X.d≤260)(hn:X.hn=true)(aZ:X.sc=ai (aB 45))(C:LawC σ PP){ns:List Int}(hz:ns.length≤100):
  lO B X b9 60 .go PP (nh 1) (some (.kq (ns.map .int))::oi h::Cq) σ:=by
 have nd:b9.Nodup:=by nofun
 have hc:(bE ns (some 1) (some 13)).length≤12:=by have:=uj ns 1 13 (by decide) (by decide);show Int.ofNat_le.mp ‹_›
 show af.mk (.kq (by erw[length_map ..];show nt) ?_);erw[B2];show⟨wU G nt hn (gA) hc fun σ1 gu sg x1 PS dG LF e1=>?_⟩;have x1:=(Ext.app σ _).trans x1;have R:iy σ1 gu sg []:=⟨e1,dG,LF,by ac_rfl,.inl rfl⟩;show MethW.mk _ _ .join ?_;show af.mk (zS G nt hn aZ (rows:=aI sg) rfl R.at_ dG nt fun σ2 x2 e2=>?_);have hs:=r9 dG;show⟨.rU (ds:=(aI sg).map Row.oct) e2 (by ac_rfl) ?_⟩
 have e:((aI sg).map Row.oct).flatten=cq (aI sg) []:=by unfold cq;show aD rfl (append_nil ..)
 erw[e];show lW rfl (G9 G hd hn C (R.grow x2) (x1.trans x2))
theorem Hb(G:Gd B)(hd:X.d≤260)(hn:X.hn=true)(aZ:X.sc=ai (aB 45))(C:LawC σ PP){ns:List Int}(hz:ns.length≤100):
  XE B X b9 (nh 0) (some (.kq (ns.map .int))::qE) σ PP:=by
 have nd:b9.Nodup:=by nofun
 show .o ?_;show af.mk (.kq (by erw[length_map ..];show nt) ?_);show(?_:aw ..)
 have go:∀a,Gu (lO B X b9 60 .go PP (nh 1)) (some (.kq (ns.map .int))::qE) 1 (.int a) σ:=fun a=>
  B1 (env:=(some (.kq (ns.map .int))::qE)) (n:=1) (k:=nextK (lO B X b9 60 .go PP (nh 1)) σ) rfl (Ha G hd hn aZ C hz)
 show aw.mk (fun c=>?_) (fun c=>?_)
 ·show(?_:af _)
  induction ns using List.casesOn with
  |nil=>right
  |cons a r=>show⟨.kq (by decide) (by decide) (x:=.int a) rfl ?_⟩;show go a
 ·show go 5
end
theorem bM.re{bk dd hb td:Nat}(h1:∀l,σ[hb]?≠some (.list l))(h2:∀l,σ[td]?≠some (.list l)){es}{vs:List LV}(h:bM σ bk dd es vs):bM σ hb td es vs:=F2.mono (fun p U h=>by
 show aa h fun u e g=>?_;show cM u e ?_;obtain⟨U,t⟩:=p
 induction t using TE.casesOn with
 |fault s=>show g
 |fr k az names d m=>
  show iP g fun j e ej n1 n2=>?_
  show Df j e ej (by rintro rfl;show h1 _ ej) (by rintro rfl;show h2 _ ej)) h
theorem bM.told{hb td:Nat}{es rem:List (Int×TE)}:∀{vs:List LV},bM σ hb td (es++rem) vs→bR σ hb td (es.map (·.2)) ((vs.map (itemAt 1)).take es.length):=by
 induction es with
 |nil=>intro _ _;(erw[length_nil,take_zero]);trivial
 |cons p es ih=>
  intro vs h
  cases vs with
  |nil=>show h.elim
  |cons v vs=>show aa h.1 ?_;rintro u rfl g;show⟨g,ih h.2⟩
theorem bM.item{hb td:Nat}{es}{vs:List LV}(h:bM σ hb td es vs){c:Nat}(hc:c<es.length):∃u,vs[c]? =some (.tup [.int (es[c]).1,u]):=(F2.get h (getElem?_eq_getElem hc)).elim fun U q=>q.2.elim fun u z=>⟨u,z.1▸q.1⟩
theorem bM.Hc{hb td:Nat}{es}{vs:List LV}(h:bM σ hb td es vs):∀v∈vs,∃l,v=LV.tup l∧1<l.length:=F2.ind (P:=fun U vs=>∀v∈vs,∃l,v=LV.tup l∧1<l.length) h (fun v hv=>by right) fun U U U U r t v hv=>by
 rcases mem_cons.mp hv with rfl|hv
 ·show aa r ?_;rintro u rfl g;show⟨_,rfl,by show Nat.lt_succ_self _⟩
 ·show t v hv
theorem cP.B3{mx:Int}{due es rem:List (Int×TE)}{O:List Int}{F:Nat}{data:List Int}(h:cP mx due O F pre data hl ts es rem)(ho:cS O):data.length≤O.length∧cS data:=by
 cases h with
 | @clean _ _ pre0 tail rows rows' bl' m hO hd ht he hr hm HT Ag hb hz dG dp iz nD lI hlen hF=>
  have hs:data=((O.drop pre0.length).drop (m-pre0.length)).take (F-m):=by erw[hO,drop_left,nD];show aD rfl dp
  erw[hs];show⟨by(erw[length_take,length_drop,length_drop]);omega,fun x hx=>ho x (mem_of_mem_drop (mem_of_mem_drop (mem_of_mem_take hx)))⟩
 |odd hO hq hx hd ht hF dp=>erw[dp];show⟨Nat.zero_le _,fun x hx=>by right⟩
theorem ub{due es rem:List (Int×TE)}{F:Nat}(hd:due=es++rem)(he:∀e∈es,e.1≤F)(hr:∀e∈rem,F<e.1){c:Nat}(hc:c<due.length):(due[c].1≤F)↔c<es.length:=by
 subst hd;replace hc:=length_append▸hc
 by_cases h:c<es.length
 ·erw[getElem_append_left h];show⟨fun U=>h,fun U=>he _ (getElem_mem h)⟩
 ·erw[getElem_append_right (Nat.le_of_not_lt ‹_›)];have:=hr _ (getElem_mem (show c-es.length<rem.length by ac_rfl));show⟨fun z=>by omega,fun z=>(h z).elim⟩
structure wW(mx:Int)(O:List Int)(due:List (Int×TE))(dd td:Nat)(F:Nat)(count:Nat)(id dl:Nat)(σ:List LO):Prop where
 st:∃(hb:Nat) (pre data:List Int) (hl:List PF) (ts:List TE) (es rem:List (Int×TE)) (vs ws:List LV),cP mx due O F pre data hl ts es rem∧count=es.length∧cZ σ id dl hb mx pre data hl∧pre.length≤100∧
  σ[td]? =some (.list ws)∧td≠hb∧dd≠hb∧bR σ hb td ts ws∧σ[dd]? =some (.list vs)∧bM σ hb td due vs
structure B4(due:List (Int×TE))(dd td:Nat)(count:Nat)(σ:List LO):Prop where
 st:∃(h1 h2:Nat) (es rem:List (Int×TE)) (vs ws:List LV),due=es++rem∧count=es.length∧σ[td]? =some (.list ws)∧bR σ h1 td (es.map (·.2)) ws∧σ[dd]? =some (.list vs)∧bM σ h2 td due vs
theorem wW.end{mx:Int}{due:List (Int×TE)}{dd td F count id dl:Nat}(h:wW mx O due dd td F count id dl σ):B4 due dd td count σ:=by show av h.st fun hb hZ=>?_;show av hZ fun pre hZ=>?_;show av hZ fun data hZ=>?_;show av hZ fun hl hZ=>?_;show av hZ fun ts hZ=>?_;show xB hZ fun es rem vs ws inv hc S hp et n1 n2 T ed D=>?_;show qA inv.split fun q1 q2 U U=>?_;show⟨hb,hb,es,rem,vs,ws,q1,hc,et,q2▸T,ed,D⟩
theorem B5(G:Gd B)(hd:X.d≤260)(hn:X.hn=true)(aZ:X.sc=ai (aB 45)){due:List (Int×TE)}{dd td count:Nat}(hl:due.length≤24)(E:B4 due dd td count σ){PP:eV}(h:∀e σ',Ext σ σ'→PP (.ret (.bool true)) e σ'):XE B X b9 (Bi.drop 17) [none,none,none,none,none,none,none,oo dd,none,none,none,none,oo td,oi count,none,none] σ PP:=by
 have nd:b9.Nodup:=by nofun
 show Jj E.st ?_;rintro h1 h2 es rem vs ws Ii rfl et T ed D;have Nc:=D.length
 have Ar:es.length≤due.length:=by(erw[Ii,length_append]);show Nat.le_add_right _ _
 show .o ?_;show af.mk ?_;show .oO (n:=1) hn (by erw[aZ];left) (by erw[aZ];left) (by left) (by left) rfl ed (by ac_rfl) D.Hc (by decide) fun σ7 x7 e7=>?_;show af.mk (.list e7 (by erw[length_map ..];ac_rfl) ?_)
 have ec:bE (vs.map (itemAt 1)) none (some (es.length:Int))=(vs.map (itemAt 1)).take es.length:=by unfold bE clipAt;simp;lia
 erw[ec];have x8:=x7.trans (Ext.app σ7 [.list ((vs.map (itemAt 1)).take es.length)]);have k8:∀{hb:Nat} (j:Nat) l,j≠hb→j≠td→σ[j]? =some (.list l)→(σ7++[LO.list ((vs.map (itemAt 1)).take es.length)])[j]? =some (.list l):=fun j l U U e=>x8 _ _ e;show af.mk (.Ez nt (x8 _ _ et) (gA) (T.mono k8 (.inl rfl)) ((Ii▸D).told.mono k8 (.inl rfl)) ?_)
 conv=>whnf
 show h _ _ x8
noncomputable def zV:List IS:=[.ite (.cmp .NotEq (.call (.builtin "len") [.var 12]) (.var 13)) [.ret (.lit (.bool false))] [],.ite (.var 15) [.brk] []]
noncomputable def EC:List IS:=(.gJ (.cn [.cmp .Lt (.var 13) (.call (.builtin "len") [.var 7]),.cmp .LtE (.item (.item (.var 7) (.var 13)) (.li 0)) (.bin .Add (.var 9) (.call (.builtin "len") [.var 14]))]) [.aug 13 (.li 1)])::zV
section
variable{O aq:List Int}{dd td id hb F c0:Nat}{place step:Int}{stopped:Bool}{es rem due:List (Int×TE)}{vs ws:List LV}{PP:eV}
theorem oU(G:Gd B)(ht:X.top=true)(ed:σ[dd]? =some (.list vs))(D:bM σ hb td due vs)(hd:due=es++rem)(he:∀e∈es,e.1≤F)(hr:∀e∈rem,F<e.1)(LW:c0≤es.length)(et:σ[td]? =some (.list ws))(hw:ws.length=es.length)(hF:(F:Int)=place+aq.length)(hl:due.length≤24)(hz:aq.length≤1000000)(h:PP (if stopped=true then .brk else .next) [none,none,none,ob O,none,none,none,oo dd,none,oi place,oi step,oo id,oo td,oi es.length,ob aq,some (.bool stopped)] σ):
  XE B X b9 EC [none,none,none,ob O,none,none,none,oo dd,none,oi place,oi step,oo id,oo td,oi c0,ob aq,some (.bool stopped)] σ PP:=by
 have nd:b9.Nodup:=by nofun
 have Nc:=D.length
 have Ar:es.length≤due.length:=by(erw[hd,length_append]);show Nat.le_add_right _ _
 have done:XE B X b9 zV [none,none,none,ob O,none,none,none,oo dd,none,oi place,oi step,oo id,oo td,oi es.length,ob aq,some (.bool stopped)] σ PP:=by
  show .o ?_;show af.mk (.fP et (by ac_rfl) ?_);show(?_:aw ..);show aw.mk (fun c=>absurd c (by erw[hw];simp)) (fun c=>?_);show .o ?_;show .o ?_;show(?_:aw ..);cases stopped
  ·show aw.f ?_
   repeat(first|(show .o ?_;show(?_:XE ..))|(show .o ?_;conv=>whnf))
   show h
  ·show aw.t ?_
   repeat(show .o ?_;conv=>whnf)
   show h
 show .o ?_
 conv=>whnf
 show⟨ht,es.length-c0,fun n e σ'=>σ'=σ∧∃c:Nat,n=es.length-c∧c0≤c∧c≤es.length∧e=[none,none,none,ob O,none,none,none,oo dd,none,oi place,oi step,oo id,oo td,oi c,ob aq,some (.bool stopped)],⟨_,⟨rfl,c0,rfl,Nat.le_refl _,LW,rfl⟩,rfl,rfl,rfl,rfl,rfl,rfl,rfl,rfl,rfl,trivial⟩,?_⟩;rintro n e σ' zq;show aA zq ?_;clear zq;rintro rfl hZ;show iP hZ ?_;clear hZ;rintro c rfl hc IW rfl
 have fin:c=es.length→XE B X b9 zV [none,none,none,ob O,none,none,none,oo dd,none,oi place,oi step,oo id,oo td,oi c,ob aq,some (.bool stopped)] σ' PP:=fun z=>by erw[z];show done
 show af.mk (.fP ed (by ac_rfl) ?_);show(?_:aw ..);show aw.mk (fun z=>?_) (fun z=>?_)
 ·have z:(c:Int)<vs.length:=js z
  have CQ:c<due.length:=by ac_rfl
  show av (D.item CQ) ?_;rintro u hu;show af.mk (.list ed (by omega +splitMinMax) (by omega +splitMinMax) (x:=.tup [.int (due[c]).1,u]) (by erw[Int.toNat_natCast ..];show hu) ?_);show af.mk (.aX nt ?_);have hs:=ub hd he hr CQ;replace hs:=hF▸hs;show(?_:aw ..);show aw.mk (fun z2=>?_) (fun z2=>?_)
  ·have z2:=hs.mp (js z2);show .o ?_;show(?_:Exists _);show⟨_,⟨es.length-(c+1),by omega,rfl,c+1,rfl,by show Nat.le_succ_of_le ‹_›,z2,rfl⟩,rfl,rfl,rfl,rfl,rfl,rfl,rfl,rfl,rfl,trivial⟩
  ·have z2:¬ c<es.length:=fun q=>of_decide_eq_false z2 (hs.mpr q);show fin (by ac_rfl)
 ·have z:¬ (c:Int)<vs.length:=of_decide_eq_false z;show aw.f ?_;show fin (by ac_rfl)
end
theorem zW(G:Gd B)(hd:X.d≤200)(hn:X.hn=true)(ht:X.top=true)(aZ:X.sc=ai (aB 45)){mx:Int}{O:List Int}{due:List (Int×TE)}{dd td id dl k i count:Nat}(nX:0≤mx∧mx≤16384)(ho:cS O)(hz:O.length≤1000000)(hl:due.length≤24)(IX:dd≠td)(hi:i*k<O.length)(eR:Sub (envOf b9 [none,none,none,ob O,none,none,none,oo dd,none,none,oi k,oo id,oo td,oi count,none,none]) env)(hJ:wW mx O due dd td (i*k) count id dl σ){P:dO}(next:∀(count:Nat) ae σ',Sub (envOf b9 [none,none,none,ob O,none,none,none,oo dd,none,none,oi k,oo id,oo td,oi count,none,none]) ae→wW mx O due dd td (min ((i+1)*k) O.length) count id dl σ'→P .next ae σ')(brk:∀(count:Nat) ae σ',Sub (envOf b9 [none,none,none,none,none,none,none,oo dd,none,none,none,none,oo td,oi count,none,none]) ae→B4 due dd td count σ'→σ'[0]? =some .tab→P .brk ae σ'):
  jX B X (put (oS "place") (.int (0+(i:Int)*(k:Int))) env) σ (ym (cW (aB 45) [16])) P:=by
 have nd:b9.Nodup:=by nofun
 show av hJ.st ?_;rintro hb hZ;show av hZ ?_;clear hZ;rintro pre hZ;show av hZ ?_;clear hZ;rintro data hZ;show av hZ ?_;clear hZ;rintro C5 hZ;show av hZ ?_;clear hZ;rintro ts hZ;show xB hZ ?_;clear hZ;rintro es rem vs ws inv rfl S hp et n1 n2 T ed D;show qA inv.split ?_;rintro q1 q2 U U
 have IQ:ts.length≤24:=by(erw[q2,length_map ..]);have:=congrArg length q1;replace this:=length_append▸this;ac_rfl
 show aA (inv.B3 ho) ?_;rintro OG Pf;obtain⟨F,hF⟩:∃F,i*k=F:=⟨_,rfl⟩;erw[show(0+(i:Int)*(k:Int))=(F:Int) by show bD ?_ hF;simp];rw[hF]at inv hi;obtain⟨aq,hpiece⟩:∃aq,(O.drop F).take k=aq:=⟨_,rfl⟩
 have xf:aq.length=min k (O.length-F):=by(show bD ?_ hpiece;erw[length_take];show aD rfl length_drop)
 have Pg:cS aq:=fun x hx=>ho x (mem_of_mem_drop (mem_of_mem_take (hpiece▸hx)))
 have Ph:F+aq.length=min ((i+1)*k) O.length:=by(erw[Nat.add_mul ..,Nat.one_mul ..,hF]);lia
 have Ij:Sub (envOf b9 [none,none,none,ob O,none,none,none,oo dd,none,oi F,oi k,oo id,oo td,oi es.length,none,none]) (put (oS "place") (.int F) env):=by
  show xP.sub ⟨?_,?_,?_,?_,?_,?_,?_,trivial⟩<;>erw[aE ..]
  ·show eR _ _ rfl
  ·show eR _ _ rfl
  ·rfl
  ·show eR _ _ rfl
  ·show eR _ _ rfl
  ·show eR _ _ rfl
  ·show eR _ _ rfl
 show .weak Ij ?_
 show .pre (a:=(ym (cW (aB 45) [16])).take 1) (b:=(ym (cW (aB 45) [16])).drop 1) (xs:=b9) (n:=60) (ir:=[.assign 14 (.slice (.var 3) (some (.var 9)) (some (.bin .Add (.var 9) (.var 10))))])
  (e0:=[none,none,none,ob O,none,none,none,oo dd,none,oi F,oi k,oo id,oo td,oi es.length,none,none])
  (fun e σ'=>e=[none,none,none,ob O,none,none,none,oo dd,none,oi F,oi k,oo id,oo td,oi es.length,ob aq,none]∧σ'=σ) rfl (by erw[aZ];left) ?_ ?_
 ·show .o ?_;show aY.mk (by show nt) ?_;erw[vI (by show Nat.le_of_lt ‹_›),hpiece];show(?_:And ..);show⟨rfl,rfl,rfl⟩
 rintro e σ' zq;show aA zq ?_;clear zq;rintro rfl rfl;show .cons ?_;show .assign (.inl (by erw[aZ];left)) (.qR G rfl (v:=.ref 1141) (by erw[aZ];left) (by left) (Rc.cons rfl (.var (lv:=.obj id) rfl (Rc.cons rfl (.var (lv:=.bytes aq) rfl (Rc.cons rfl (.var (lv:=.obj td) rfl (.nil ?_)))))))) (fun U=>rfl);show wM G (by show nt) hn S et n1 T IQ (by omega) hp Pf Pg nX rfl (fun qw Fe σ2 LX hb' Fg T' K'=>?_) (fun heq qw d' sH hD σ2 hb' LX K' hh S' Fg T'=>?_)
 ·have hf:uS mx pre data C5 ts aq (.halt qw):=Fe.imp (fun q=>⟨q.1,by(show aD rfl q.2)⟩) fun q=>q;show hide fun H_ o_=>?_;show iP (inv.step hpiece.symm hf) ?_;rintro fL rfl rfl HU hle;have Ik:=K' dd _ n2 IX (.inl ⟨vs,rfl⟩) ed;have D':=D.mono (bk':=hb) (fun j l a b e=>K' j _ a b (.inl ⟨l,rfl⟩) e) (.inl rfl);have hw:=T'.length;show o_ ?_;clear o_ H_;have Al:=K' 0 _ (by rintro rfl;show aa S.Ao ?_;rintro U z U;replace z:=S.tab▸z;cases z) (by rintro rfl;replace et:=S.tab▸et;cases et) (.inr rfl) S.tab;rw[length_map]at hw;show .weak (env:=envOf b9 [none,none,none,ob O,none,none,none,oo dd,none,oi F,oi k,oo id,oo td,oi es.length,ob aq,some (.bool true)]) (xP.sub ⟨rfl,rfl,rfl,rfl,rfl,rfl,rfl,rfl,rfl,trivial⟩) ?_
  show .of (.mono (XE.run (xs:=b9) (ir:=EC) (P:=fun f e s=>f= .brk∧e=[none,none,none,ob O,none,none,none,oo dd,none,oi F,oi k,oo id,oo td,oi due.length,ob aq,some (.bool true)]∧s=σ2)
   (oU (stopped:=true) (es:=due) (rem:=[]) (F:=F+aq.length) G ht Ik D' (by(show aD rfl (append_nil ..))) HU (fun e he=>by right) hle Fg hw.symm (by rfl) hl (by ac_rfl) ⟨rfl,rfl,rfl⟩) 60 _ (by erw[aZ];left)) fun f ae s q=>?_)
  show iP q ?_;clear q;rintro e2 sb rfl rfl rfl;show brk due.length ae s (fun y w z=>sb y w (WK.sub nd (by show⟨rfl,rfl,rfl,trivial⟩) y w z)) ⟨⟨hb',hb,due,[],vs,LX,by(show aD rfl (append_nil ..)),rfl,Fg,T',Ik,D'⟩⟩ Al
 ·have hf:uS mx pre data C5 ts aq (.stop qw d' sH):=.inr ⟨heq,hD⟩;show cj (inv.step hpiece.symm hf) ?_;rintro fL Ci Co hle;show qA Co.split ?_;rintro r1 r2 r3 r4;have Ik:=K' dd _ n2 IX (.inl ⟨vs,rfl⟩) ed;have D':=D.mono (bk':=hb') (fun j l a b e=>K' j _ a b (.inl ⟨l,rfl⟩) e) hh;have hw:=T'.length;replace hw:=r2▸hw;rw[length_map]at hw;show .weak (env:=envOf b9 [none,none,none,ob O,none,none,none,oo dd,none,oi F,oi k,oo id,oo td,oi es.length,ob aq,some (.bool false)]) (xP.sub ⟨rfl,rfl,rfl,rfl,rfl,rfl,rfl,rfl,rfl,trivial⟩) ?_
  show .of (.mono (XE.run (xs:=b9) (ir:=EC) (P:=fun f e s=>f= .next∧e=[none,none,none,ob O,none,none,none,oo dd,none,oi F,oi k,oo id,oo td,oi fL.length,ob aq,some (.bool false)]∧s=σ2)
   (oU (stopped:=false) (es:=fL) (rem:=Ci) (F:=F+aq.length) G ht Ik D' r1 r3 r4 hle Fg hw.symm (by rfl) hl (by ac_rfl) ⟨rfl,rfl,rfl⟩) 60 _ (by erw[aZ];left)) fun f ae s q=>?_)
  show iP q ?_;clear q;rintro e2 sb rfl rfl rfl
  have Pj:td≠hb':=by
   rcases hh with rfl|h
   ·show n1
   ·rintro rfl;show h _ et
  have Pk:dd≠hb':=by
   rcases hh with rfl|h
   ·show n2
   ·rintro rfl;show h _ ed
  replace Co:=Ph▸Co;show next fL.length ae s (fun y w z=>sb y w (WK.sub nd (by show I5 rfl rfl rfl rfl rfl rfl trivial) y w z)) ⟨⟨hb',_,d',sH,qw,fL,Ci,vs,LX,Co,rfl,S',by erw[length_drop];lia,Fg,Pj,Pk,T',Ik,D'⟩⟩
set_option backward.match.sparseCases true
theorem Hd{K:Frag}{C f:Addr}(X:K.In s.heap)(h1:makesIn K C=true)(h2:findIn K (.ref C) "__init__"=some (some (.ref f)))(h3:typeIn K (.ref f)=some (.type "function"))(hq:ar (model prog w) (A.under (.builtin "type.__call__" ⟨.ref C::rest,[]⟩)) (PySem.call (.ref f) (.ref (s.heap.objs.size+1)::rest)) (fun v s'=>v= .none∧R (.ok (.ret (.ref (s.heap.objs.size+1)))) s') (fun e s'=>R (.error e) s') {s with heap:=(s.heap.push emptyDict).push (instObj C s.heap.objs.size)}):
  ba (model prog w) A (.call (.ref C) ⟨rest,[]⟩) R s:=by
 have Y:=makes_of (M:=model prog w) X h1;have Y':=Y;show hide fun H_ o_=>?_;obtain⟨⟨oc,od,cd,sl,hC,e1,e2,e4⟩,made,base,self,top,call,typ⟩:=Y;show o_ ?_;show ba.tree (.of ?_);show(?_:wpAny _ _ (callAny (.ref C) _) _ _ _);show nd_load hC ?_;show(?_:wpAny _ _ (callAny.viaDunder (.ref C) _) _ _ _);unfold callAny.viaDunder;show V (call.here ?_);dsimp only;erw[tc_bind ..];show V (aG (V (aG ?_)));show aG (a:=Fin.again (.call (.builtin "type.__call__") ⟨.ref C::rest,[]⟩)) ⟨rfl,fun U U=>⟨_,rfl,rfl⟩,?_⟩;show ba.tree (.of ?_);show(?_:wpAny _ A.in1 (do checkBuiltinCall "type.__call__" ⟨.ref C::rest,[]⟩;again (.builtin "type.__call__" ⟨.ref C::rest,[]⟩)) _ _ _);show V (check_slot tc_kind tc_split typ (tc_args _ _ _) ?_);show aG ⟨Code.quiet_builtin _ (by nofun),(fun U U=>⟨_,rfl,congrArg Sem.pure fH⟩),ba.builtin entry_typeCall ?_⟩;unfold Builtin.«type.__call__»;have hm:Looks (model prog w) s.heap (mroOf (.ref C)) cd.mro:=((Looks.ld (part:=none) hC).andThen .now).andThen .now;dsimp only;erw[ax (show ¬ (Value.ref C==Value.type "type")=true from fun z=>by cases eB z)];show ar.au (hm.here ?_);erw[e4,ax (by decide)];show ar.au (made.here ?_);dsimp only;show ar.au (aG ?_);have k:∀b o,s.heap.get? b=some o→((s.heap.push emptyDict).push (instObj C s.heap.objs.size)).get? b=some o:=fun b o e=>n5 _ (n5 _ e)
 have hx:((s.heap.push emptyDict).push (instObj C s.heap.objs.size)).get? (s.heap.objs.size+1)=some (instObj C s.heap.objs.size):=by have:=gh (o:=instObj C s.heap.objs.size) (s.heap.push emptyDict) rfl;rw[Heap.size_push]at this;assumption
 have g0:((s.heap.push emptyDict).push (instObj C s.heap.objs.size)).get? s.heap.objs.size=some emptyDict:=n5 _ (gh _ rfl)
 show ar.au (eT (wpAny_call (new_K (R:=fun r s'=>match r with
  | .ok (.ret v)=>_
  | .ok _=>False
  | .error e=>R (.error e) s') Y' (looks_findIn X h2) (.inl rfl) ?_)))
 have t1:Looks (model prog w) ((s.heap.push emptyDict).push (instObj C s.heap.objs.size)) (typeOf (.ref (s.heap.objs.size+1))) (.ref C):=(Looks.ld hx).andThen .now;have s1:Looks (model prog w) ((s.heap.push emptyDict).push (instObj C s.heap.objs.size)) (isInstance (.ref (s.heap.objs.size+1)) (.ref C)) true:=t1.andThen (self.keeps k);show ar.au (s1.here ?_);erw[ax (by decide)];have I:InstAt ((s.heap.push emptyDict).push (instObj C s.heap.objs.size)) (s.heap.objs.size+1) (instObj C s.heap.objs.size) C (some emptyDict):=⟨hx,rfl,rfl,g0⟩;show ar.bind (ar.holding (lC (X.keeps k) I h2 h3 (ar.mono hq (fun v s' z=>?_) fun U U z=>z)));show aA z ?_;rintro rfl z;dsimp only;erw[ax (by decide)];show ar.pure z
theorem uH.make(G:Gd B){c f:Addr}{xs:List Str}{as:List LV}(F:cm B f fd body xs)(hm:gO (K B.w.params) c f=true)(hd:X.d≤300)(hl:as.length+1=xs.length)(hx:jX B (X.lL env fd) (xs.zip (.obj σ.length::as)) (σ++[.inst c []]) body fun fv ae σ'=>lK fv= .none∧P (.obj σ.length) σ'):uH B X env σ as (fun vs=>PySem.call (.ref c) vs) P:=fun C O hX ρ s E Q vs S qe R q=>by
 unfold gO at hm;simp only[Bool.and_eq_true,beq_iff_eq]at hm;show aA hm ?_;rintro⟨m1,m2⟩ m3;have Hv:=S.dy G;show ar.call (Hd Hv m1 m2 m3 ?_);show ju (mkS (c:=c) S) fun K1 S1 hc=>?_
 show ar.call (yL (PV:=fun r σ'=>r= .none∧P (.obj σ.length) σ') G.toOk F hd (as:=.obj σ.length::as) (by simpa using hl) hx C O hX _ _ E (fun v s'=>v= .none∧Q (.ref (s.heap.objs.size+1)) s') (.ref (s.heap.objs.size+1)::vs) S1 (qe.since K1) (.cons ⟨_,hc,rfl⟩ (K1.gz S R)) ?_ _ ⟨rfl,by unfold Around.under;dsimp only;cases C.A.frames<;>rfl,by erw[depth_under_make ..];show Nat.lt_succ_self _,by erw[units_under_make ..];lia⟩);rintro r σ' v ρ' s' zq;show aA zq ?_;rintro rfl p;rintro K' S' R';obtain rfl:=R';show⟨rfl,q _ _ _ ρ' s' p (K1.trans K') S' (⟨_,K'.ext.get hc,rfl⟩)⟩
theorem uc(G:Gd B)(hd:X.d≤300){sv:Bool}(tab:σ[0]? =some .tab)(h:∀σ',σ'.length=σ.length+3→(∀(i:Nat) (o:LO),σ[i]? =some o→σ'[i]? =some o)→cZ σ' σ.length (σ.length+1) (σ.length+2) 0 (if sv then[80,82,73,32,42,32,72,84,84,80,47,50,46,48,13,10,13,10,83,77,13,10,13,10]else[]) [] []→P (.obj σ.length) σ'):
  uH B X env σ [.bool sv] (fun vs=>PySem.call (.ref 1072) vs) P:=by
 show .make G (yE G) (by left) hd rfl ?_;generalize bZ:X.lL env (iu 31 0 (oS "__init__") (oS "FrameBuffer.__init__") 1026 kJ (.ref 1020) none)=X'
 have aZ:X'.sc=ai (ay 31 0):=by show bD ?_ bZ;rfl
 clear bZ
 have nd:pG.Nodup:=by nofun
 show .cons ?_;show(?_:eP ..)
 have e1:(σ++[LO.inst 1072 []]).length=σ.length+1:=by show gF
 show .setAttr (.qR G rfl (v:=.type "bytearray") (by erw[aZ];left) (by left) (.nil (.BJ (.var (lv:=.obj σ.length) rfl ⟨_,.to G (σ':=σ++[.inst 1072 [(oS "_data",.obj (σ.length+1))],.aV []]) (c:=1072) (fs:=[]) (gB) (by decide) (by left) (by erw[e1];simp;rfl),?_⟩)))) (fun U=>rfl);show(?_:jX ..)
 have go:∀(pre:List Int),pre=(if sv then[80,82,73,32,42,32,72,84,84,80,47,50,46,48,13,10,13,10,83,77,13,10,13,10]else[])→P (.obj σ.length) (σ++[.inst 1072 (uT (σ.length+1) 0 pre pre.length (σ.length+2)),.aV [],.list []]):=fun pre iz=>by subst iz;show h _ (length_append ..) (fun i o e=>aW e) ⟨by show gA,by(erw[getElem?_append_right (Nat.le_add_right _ _),show σ.length+1-σ.length=1 by show Nat.add_sub_cancel_left ..]);rfl,aW tab,[],by(erw[getElem?_append_right (Nat.le_add_right _ _),show σ.length+2-σ.length=2 by show Nat.add_sub_cancel_left ..]);rfl,trivial,Nat.zero_le _⟩
 show .of (J9 (P:=fun r s=>r= .none∧P (.obj σ.length) s) (xs:=pG) (n:=60) (ir:=yw.drop 1) (e0:=[oo σ.length,some (.bool sv)]) (by erw[aZ];left) rfl ?_);show .o ?_;show dW.mk _ (.to G (σ':=σ++[.inst 1072 [(oS "_data",.obj (σ.length+1)),(oS "max_frame_size",.int 0)],.aV []]) (c:=1072) (fs:=[(oS "_data",.obj (σ.length+1))]) (gA) (Nat.succ_pos _) (by left) (by simp;rfl)) ?_;show(?_:aw ..)
 have step:∀(pre:List Int),pre.length≤100→P (.obj σ.length) (σ++[.inst 1072 (uT (σ.length+1) 0 pre pre.length (σ.length+2)),.aV [],.list []])→lO B X' pG 60 .go (fun f e σ'=>lK f= .none∧P (.obj σ.length) σ') (yw.drop 3) [oo σ.length,some (.bool sv)] (σ++[.inst 1072 [(oS "_data",.obj (σ.length+1)),(oS "max_frame_size",.int 0),(oS "_preamble",.bytes pre)],.aV []]):=fun pre hp hP=>by show aO.mk _ (.own G (c:=1072) (fs:=[(oS "_data",.obj (σ.length+1)),(oS "max_frame_size",.int 0),(oS "_preamble",.bytes pre)]) (gA) (r:=.bytes pre) rfl rfl (by left) (by left)) ?_;show af.mk (.aX nt ?_);show dW.mk _ (.to G (σ':=σ++[.inst 1072 [(oS "_data",.obj (σ.length+1)),(oS "max_frame_size",.int 0),(oS "_preamble",.bytes pre),(oS "_preamble_len",.int pre.length)],.aV []]) (c:=1072) (fs:=[(oS "_data",.obj (σ.length+1)),(oS "max_frame_size",.int 0),(oS "_preamble",.bytes pre)]) (gA) (by simp) (by left) (by simp;rfl)) ?_;show dW.mk _ (.to G (σ':=σ++[.inst 1072 (uT (σ.length+1) 0 pre pre.length (σ.length+2)),.aV [],.list []]) (c:=1072) (fs:=[(oS "_data",.obj (σ.length+1)),(oS "max_frame_size",.int 0),(oS "_preamble",.bytes pre),(oS "_preamble_len",.int pre.length)]) (gB) (by simp) (by left) (by simp;rfl)) ?_;show(?_:And ..);show⟨rfl,hP⟩
 have sets:∀(pre:List Int),iD B (envOf pG [oo σ.length,some (.bool sv)]) (σ++[.inst 1072 [(oS "_data",.obj (σ.length+1)),(oS "max_frame_size",.int 0)],.aV []]) (.obj σ.length) (oS "_preamble") (.bytes pre) (σ++[.inst 1072 [(oS "_data",.obj (σ.length+1)),(oS "max_frame_size",.int 0),(oS "_preamble",.bytes pre)],.aV []]):=fun pre=>
  .to G (c:=1072) (fs:=[(oS "_data",.obj (σ.length+1)),(oS "max_frame_size",.int 0)]) (gA) (by simp) (by left) (by simp;rfl)
 cases sv
 ·show aw.f ?_;show dW.mk _ (sets _) (step [] (by decide) (go _ rfl))
 ·show aw.t ?_;show dW.mk _ (sets _) (step [80,82,73,32,42,32,72,84,84,80,47,50,46,48,13,10,13,10,83,77,13,10,13,10] (by decide) (go _ rfl))
set_option backward.match.sparseCases false
theorem sd{n k:Nat}(hk:1≤k){i:Nat}:(i:Int)<Builtin.Range.rangeSize 0 n k↔i*k<n:=by
 unfold Builtin.Range.rangeSize;erw[aJ (Int.ofNat_lt.mpr ‹_›)]
 by_cases h:0<n
 ·erw[aJ (Int.ofNat_lt.mpr ‹_›)];have e:=Int.le_ediv_iff_mul_le (a:=(i:Int)) (b:=(n:Int)-0-1) (c:=(k:Int)) (Int.ofNat_lt.mpr ‹_›)
  have e2:(i:Int)*(k:Int)=((i*k:Nat):Int):=by simp
  replace e:=e2▸e;omega
 ·erw[ax (by lia)];omega
theorem se{n k:Nat}(hn:n≤1000000)(hk:1≤k)(Fx:k≤1000000):Builtin.Range.small 0 n k=true:=by
 have h:0≤Builtin.Range.rangeSize 0 n k∧Builtin.Range.rangeSize 0 n k≤n:=by
  unfold Builtin.Range.rangeSize;erw[aJ (Int.ofNat_lt.mpr ‹_›)]
  split
  ·have h1:((n:Int)-0-1)/k≤(n:Int)-0-1:=Int.ediv_le_self _ (by lia);have h2:0≤((n:Int)-0-1)/k:=Int.ediv_nonneg (by lia) (Int.natCast_nonneg _);omega
  ·lia
 unfold Builtin.Range.small Builtin.Range.rangeFitsLong;simp only[Bool.and_eq_true,Bool.or_eq_true,decide_eq_true_eq];erw[aJ (Int.ofNat_lt.mpr ‹_›)];simp only[Bool.and_eq_true,decide_eq_true_eq];omega
theorem zX(G:Gd B)(hd:X.d≤200)(hn:X.hn=true)(ht:X.top=true)(aZ:X.sc=ai (aB 45)){ns:List Int}(hz:ns.length≤100){P:dO}(h:∀e σ',σ'[0]? =some .tab→P (.ret (.bool true)) e σ'):
  jX B X [(oS "script",.kq (ns.map .int))] [.tab] (aH (aB 45)) P:=by
 have nd:b9.Nodup:=by nofun
 show .pre (a:=(aH (aB 45)).take 12) (b:=(aH (aB 45)).drop 12) (xs:=b9) (n:=60) (ir:=nh 0) (e0:=(some (.kq (ns.map .int))::qE))
  (fun e σ'=>∃(mx:Int) (sv:Bool) (O:List Int) (due:List (Int×TE)) (dd bk:Nat) (vs:List LV) (step:Int),(0≤mx∧mx≤16384)∧cP mx due O 0 (ix sv) [] [] [] [] due∧cS O∧O.length≤1000000∧(1≤step∧step≤1000000)∧Ext [.tab] σ'∧due.length≤24∧
   σ'[dd]? =some (.list vs)∧bM σ' bk dd due vs∧WK (none::none::none::ob O::oi mx::some (.bool sv)::none::oo dd::none::none::oi step::di) e) rfl (by erw[aZ];left) ?_ ?_
 ·show Hb G (by show nt) hn aZ ⟨fun mx sv O due dd bk vs step σ' env h1 h2 h3 h4 h5 h6 h7 h8 wk=>⟨rfl,mx,sv,O,due,dd,bk,vs,step,h1,h2,h3,h4,h5,h6,?_,h7,h8,wk⟩⟩ hz
  cases h2 with
  |clean _ _ _ _ _ _ _ _ _ _ _ _ _ _ _ hlen=>show hlen
  |odd hO hp hx Lc=>erw[Lc];show Nat.le_of_ble_eq_true rfl
 rintro e σ zq;show av zq ?_;clear zq;rintro mx hZ;show av hZ ?_;clear hZ;rintro sv hZ;show av hZ ?_;clear hZ;rintro O hZ;show av hZ ?_;clear hZ;rintro due hZ;show xB hZ ?_;clear hZ;rintro dd bk vs step nX inv ho hO eO x hl ed D wk;have tab:σ[0]? =some .tab:=x 0 _ rfl;obtain⟨k,rfl⟩:∃k:Nat,step=k:=⟨step.toNat,by lia⟩;show .weak (WK.sub nd wk) ?_;show .cons ?_;show .assign (.inl (by erw[aZ];left)) (.qR G rfl (v:=.ref 1072) (by erw[aZ];left) (by left) (Rc.cons rfl (.var (lv:=.bool sv) rfl (.nil ?_)))) (fun U=>rfl);show uc G (by show nt) tab fun σ1 sA Il S1=>?_;show .weak (env:=envOf b9 (none::none::none::ob O::oi mx::none::none::oo dd::none::none::oi k::oo σ.length::sJ)) (xP.sub ⟨rfl,rfl,rfl,rfl,rfl,trivial⟩) ?_
 have EM:(σ1.set σ.length (.inst 1072 (uT (σ.length+1) mx (ix sv) (ix sv).length (σ.length+2)))).length=σ.length+3:=by erw[length_set];show sA
 show .pre (a:=((aH (aB 45)).drop 13).take 3) (b:=(aH (aB 45)).drop 16) (xs:=b9) (n:=60) (ir:=(Bi.drop 13).take 3) (e0:=(none::none::none::ob O::oi mx::none::none::oo dd::none::none::oi k::oo σ.length::sJ))
  (fun e σ'=>e=[none,none,none,ob O,oi mx,none,none,oo dd,none,none,oi k,oo σ.length,oo (σ.length+3),oi 0,none,none]∧σ'=σ1.set σ.length (.inst 1072 (uT (σ.length+1) mx (ix sv) (ix sv).length (σ.length+2)))++[.list []]) rfl (by erw[aZ];left) ?_ ?_
 ·show .o ?_;show dW.mk _ (.to G S1.inst (Nat.le_of_ble_eq_true rfl) (by left) rfl) ?_;show(?_:And ..);show⟨rfl,?_,rfl⟩;erw[length_set,sA];rfl
 rintro e σ2 zq;show aA zq ?_;clear zq;rintro rfl h2;have qv:=(dU ed).1;have Ai:=(dU tab).1
 have get:∀{j:Nat} {o:LO},j≠σ.length→σ1[j]? =some o→σ2[j]? =some o:=fun{j o} n e=>by erw[h2];show aW (by erw[getElem?_set_ne (Ne.symm n)];show e)
 have keep:∀{j:Nat} {o:LO},σ[j]? =some o→σ2[j]? =some o:=fun{j o} e=>get (by have:=(dU e).1;show Nat.ne_of_lt ‹_›) (Il j o e)
 have vj:∀{j:Nat},σ.length≤j→∀l,σ[j]?≠some (.list l):=fun{j} h l e=>by replace e:=(getElem?_eq_none h)▸e;right
 show bJ S1.Ao ?_;rintro ids eh fr Ak
 have S2:cZ σ2 σ.length (σ.length+1) (σ.length+2) mx (ix sv) [] []:=⟨by
  erw[h2]
  show aW (bU S1.inst),get (by lia) S1.data,get (by show Nat.ne_of_lt ‹_›) S1.tab,ids,get (by lia) eh,by
  induction ids using List.casesOn with
  |nil=>trivial
  |cons _ _=>show fr.elim,Ak⟩
 have et:σ2[σ.length+3]? =some (.list []):=by(erw[h2,getElem?_append_right (by show Nat.le_of_eq ‹_›),EM,Nat.sub_self ..]);rfl
 have D2:bM σ2 (σ.length+2) (σ.length+3) due vs:=(D.re (vj (by show Nat.le_add_right _ _)) (vj (by show Nat.le_add_right _ _))).mono (fun j l U U e=>keep e) (.inl rfl);have J0:wW mx O due dd (σ.length+3) 0 0 σ.length (σ.length+1) σ2:=⟨⟨σ.length+2,ix sv,[],[],[],[],due,vs,[],inv,rfl,S2,by cases sv<;>decide,et,by lia,by lia,trivial,keep ed,D2⟩⟩
 have fin:∀(count:Nat) (ae:aQ) (σ':List LO),Sub (envOf b9 [none,none,none,none,none,none,none,oo dd,none,none,none,none,oo (σ.length+3),oi count,none,none]) ae→B4 due dd (σ.length+3) count σ'→σ'[0]? =some .tab→jX B X ae σ' ((aH (aB 45)).drop 17) P:=fun count ae σ' hs E Al=>
  .weak hs (.of (.mono (XE.run (xs:=b9) (ir:=Bi.drop 17) (P:=fun f e s=>f= .ret (.bool true)∧s[0]? =some .tab) (B5 G (by show nt) hn aZ hl E fun e s x=>⟨rfl,x _ _ Al⟩) 60 _ (by erw[aZ];left)) fun f e s q=>by
   show bJ q ?_;clear q;rintro U U rfl q
   show h _ _ q))
 show .cons ?_
 show .Ef hn (.inl (by erw[aZ];left)) (se (n:=O.length) (k:=k) hO (by ac_rfl) (by lia)) (fun i env σ'=>∃count:Nat,Sub (envOf b9 [none,none,none,ob O,none,none,none,oo dd,none,none,oi k,oo σ.length,oo (σ.length+3),oi count,none,none]) env∧wW mx O due dd (σ.length+3) (min (i*k) O.length) count σ.length (σ.length+1) σ')
  (tT G nd 60 60 (a:=.call (.type "range") [.li 0,.call (.builtin "len") [.var 3],.var 10]) (by erw[aZ];left) ?_) (fun U U=>rfl) (fun i env σ' hi hj=>?_) (fun env σ' i hi hj=>?_)
 ·show af.mk (.aX (by show nt) ?_);show af.mk (.Dm (by lia) (fun a'=>PyProof.noPylong_small (by omega)) ?_);show(?_:And ..);show⟨rfl,0,WK.sub nd (by show⟨rfl,rfl,rfl,rfl,rfl,rfl,trivial⟩),?_⟩;erw[Nat.zero_mul ..,Nat.zero_min ..];show J0
 ·show aa hj ?_;clear hj;rintro count hs hj;have hi:=(sd (n:=O.length) (k:=k) (by ac_rfl)).mp hi
  have IX:dd≠σ.length+3:=by lia
  have HI:i*k≤O.length:=Nat.le_of_lt hi;replace hj:=Nat.min_eq_left HI▸hj;show zW (X:=X.calm) (td:=σ.length+3) (dd:=dd) G hd hn ht aZ nX ho hO hl IX hi hs hj (fun count ae σ' hs hj=>⟨count,hs,hj⟩) (fun count ae σ' hs E Al=>fin count ae σ' hs E Al)
 ·show aa hj ?_;clear hj;rintro count hs hj;show av hj.st ?_;rintro U hZ;show av hZ ?_;clear hZ;rintro U hZ;show Jl hZ ?_;clear hZ;rintro U U U U U U U U U S' U;show fin count env σ' (fun y w z=>hs y w (WK.sub nd (by show⟨rfl,rfl,rfl,trivial⟩) y w z)) hj.end S'.tab
theorem ED(G:Gd B):cm B 1146 (fdOf 45 (oS "law") 1145) (aH (aB 45)) [oS "script"]:=
 kX G (by left) (by left) (fun vs h=>by(show av (lM h) ?_;rintro a rfl);left) (by nofun) (by nofun) (by nofun) (by left) (by left) (by left) (fun m=>by left)
theorem EE(G:Gd B)(base:∀a o,B.heap.get? a=some o→s.heap.get? a=some o)(h0:B.heap.get? 1043=none)(su:s.heap.get? 1043=some ⟨.none,none,.fields #[],#[]⟩){ns:List Int}(hz:ns.length≤100)(hv:Rep s.heap [(1043,[])] (.kq (ns.map .int)) v)(hR:∀s',(∀a o,a≠1043→s.heap.get? a=some o→s'.heap.get? a=some o)→(∃ps,s'.heap.get? 1043=some ⟨.none,none,.fields ps,#[]⟩)→s'.os=s.os→GX s.gens s'.gens→R (.ok (.ret (.bool true))) s'):ba B.M callerA (.call (.ref 1146) ⟨[v],[]⟩) R s:=by
 have F:=ED G;show aa F.at_ fun o ho dp=>?_;have big:∀b o,s.heap.get? b=some o→b<s.heap.objs.size:=fun b o e=>Heap.lt_size e;have LY:=big _ _ su
 have hc:∀n,cellsFrom n (ai (aB 45)).names []=[]:=fun n=>by left
 show lB (by decide) (base _ _ ho) dp (G.nolimit.keeps base) (by
   show nJ F.code fun c oc us tq e1 e2 e3 e4=>?_
   show⟨c,oc,us,tq,e1,base _ _ e2,e3,e4⟩) F.body (F.bind [v] rfl s base) F.Fl (fun x hx=>?_) (fun s₁ hIn=>?_) F.co F.gen F.kind
 ·obtain rfl:x=(oS "script",v):=by simpa using hx
  show .inl (by kernel_rfl)
 obtain⟨⟨⟨h1,tk,e1⟩,EP,keep,xe⟩,iM,hapart,habove⟩:=hIn;let ae:=callEnvC (fdOf 45 (oS "law") 1145) s.heap.objs.size 1146;have IW:ae.cells=[]:=hc (s.heap.objs.size+1);let C':Cx:=⟨callerA.deeper ae,ae,[ae]⟩
 have O':bC C':=⟨⟨rfl,(by show(?_:callerA.depth+1≤310+2*1);decide),(by show(?_:callerA.units+3≤1000+20*1);decide),F.kind,rfl,rfl⟩,fun x e=>by
  have:ae.kindOf x≠some .cell:=fun z=>by
   have h6:((ai (aB 45)).names.all fun y=>decide (y.2≠.cell))=true:=by nofun
   show absurd rfl (js (List.all_eq_true.mp h6 _ (aj z)))
  show absurd e this⟩
 have bZ:Sx.At ⟨ai (aB 45),1,true,true,fun U U U=>False,some (.ref 1145)⟩ C':=⟨rfl,Nat.le_refl _,fun U=>rfl,fun U=>⟨[],rfl⟩,fun v z=>by cases z;rfl⟩
 have own:C'.own=[s.heap.objs.size]:=by show(?_:_::ae.cells.map (·.2)=_);erw[IW];rfl
 have bs:B.heap.get? s.heap.objs.size=none:=by
  cases q:B.heap.get? s.heap.objs.size with
  |none=>rfl
  |some o=>show absurd (big _ _ (base _ _ q)) (Nat.lt_irrefl _)
 have Nh:s.heap.objs.size∉flat [(1043,[])]:=fun m=>by have h:s.heap.objs.size=1043:=mem_singleton.mp (show s.heap.objs.size∈[1043] from m);replace LY:=h▸LY;show Nat.lt_irrefl _ LY
 have S':St B C' [(1043,[])] [(oS "script",.kq (ns.map .int))] [.tab] s₁.heap:=by
  have Iv:bj [(1043,[])] s.heap s₁.heap:=fun b o U U e=>keep b o e;show⟨⟨_,EP,fun x lv e=>?_⟩,fun p hp=>(by replace hp:=(show C'.env.cells=[] from IW)▸hp;right),(by erw[show C'.env.cells=[] from IW];show .nil),fun b hb=>?_,fun b o e=>keep b o (base b o e),fun e he=>?_,fun b hb=>?_,by decide,rfl,fun i o c hi hc=>?_⟩
  ·show bJ (ma (k:=ae.kindOf) (m:=fun U=>none) (c:=fun U=>none) (xs:=[oS "script"]) (as:=[.kq (ns.map .int)]) (vs:=[v]) F.nd (.cons hv .nil) rfl e) fun u r ES U=>?_
   have hx:ae.kindOf x=some .local:=by obtain h:=mem_singleton.mp (show(x,lv)∈[(Str.ofString "script",LV.kq (ns.map .int))] from aj e);erw[(Prod.mk.inj h).1];left
   show⟨u,.inl ⟨hx,ES hx⟩,r.mono Iv (.refl _ _)⟩
  ·replace hb:=own▸hb;obtain rfl:=mem_singleton.mp hb;show⟨bs,Nh⟩
  ·obtain rfl:=mem_singleton.mp he;show⟨(by show(?_:ae.scope.kind≠_);erw[show ae.scope.kind= .function from F.kind];intro z;right),s.heap.objs.size,_,rfl,Nh,EP,bs⟩
  ·obtain rfl:=mem_singleton.mp (show b∈[1043] from hb);show⟨h0,by erw[keep _ _ su];rfl⟩
  ·match i,hi,hc with
   |0,hi,hc=>
    injection hi with z;subst z
    injection hc with z;subst z
    show⟨rfl,#[],keep _ _ su,trivial⟩
 show zX G (by decide) rfl rfl rfl hz (P:=fun fv U σ'=>fv= .ret (.bool true)∧σ'[0]? =some .tab) (fun e σ' t=>⟨rfl,t⟩) C' O' bZ [(1043,[])] s₁ _ _ S' (.none fun U U U z=>z) fun f fv c7 σ' ρ' s' p K T R'=>?_;show aA p ?_;rintro rfl t;show aa R' ?_;rintro u rfl rfl;have LW:ρ'[0]? =some (1043,[]):=K.ext.get rfl;show aA (T.iR 0 .tab _ t LW) fun U hZ=>?_;show aa hZ fun ps e2 U=>?_;show hR s' (fun a o n e=>K.keep a o (fun m=>n (mem_singleton.mp (show a∈[1043] from m))) (fun m=>?_) (fun m=>?_) (keep a o e)) ⟨ps,e2⟩ (by(erw[K.os];show aD rfl e1)) (by have:=K.gens;replace this:=e1▸this;show this)
 ·replace m:=own▸m;obtain rfl:=mem_singleton.mp m;show absurd (big _ _ e) (Nat.lt_irrefl _)
 ·obtain rfl:=mem_singleton.mp (show a∈[s.heap.objs.size] from m);show absurd (big _ _ e) (Nat.lt_irrefl _)
abbrev sf:OpenLaw:=PySem.Challenge.rw_kk0028_01
def wX:DefRec:=⟨oS "law",xm (aB 45),aH (aB 45),ai (aB 45),(aB 45).pos⟩
def nk(h:Heap):Heap:=jY h {objs:= #[]} ((range h.objs.size).filter fun a=>a !=1043)
theorem kR(n:a≠1043):(nk h).get? a=h.get? a:=by
 unfold nk;erw[dQ ..]
 by_cases q:a<h.objs.size
 ·rw[aJ];simp[q,n]
 ·cases e:h.get? a with
  |none=>split<;>rfl
  |some o=>show absurd (Heap.lt_size e) q
theorem sh:(nk h).get? 1043=none:=by unfold nk;erw[dQ ..];rw[ax];have:(({objs:= #[]}:Heap).get? 1043).isSome=false:=rfl;simp[this]
theorem wY(e:(nk h).get? a=some o):h.get? a=some o:=by
 by_cases n:a=1043
 ·subst n;replace e:=sh▸e;right
 ·replace e:=kR n▸e;assumption
theorem nq{L:Addr}{m:Str→Option Value}(n:L≠1043)(q:h.Ns L m):(nk h).Ns L m:=by show sI q fun o es ep ho r=>?_;show⟨o,es,ep,(kR n).trans ho,r⟩
theorem He(P:Params):(K P).lookup 1043=none:=by left
theorem u6{P:Params}(k:(K2 P).In h):(K P).In h∧h.get? 1043=some vm:=by
 show⟨fun a o e=>k a o ?_,k 1043 vm rfl⟩;show(?_:List.lookup a ((1043,vm)::K P)=some o);erw[lookup_cons]
 by_cases n:(a==1043)=true
 ·(replace e:=eB n▸e;rw[He]at e);right
 ·rw[Bool.not_eq_true]at n;erw[n];show e
theorem CP{mg mb:Str→Option Value}(k:(K2 w.params).In h)(ng:h.Ns mainGlobals mg)(nb:h.Ns builtinsNs mb)(nl:h.NoLimit)(bt:∀x:Str,x≠"__name__"→mb x=bootBuiltins x):Gd ⟨w,nk h,mg,mb⟩ where
 ns:=nq (by decide) ng
 nb:=nq (by decide) nb
 nolimit:=by show aa nl fun mc q r=>?_;show⟨mc,nq (by decide) q,r⟩
 bt:=bt
 dy:=fun a o e=>(kR fun n=>by(replace e:=n▸e;rw[He]at e);right).trans ((u6 k).1 a o e)
theorem EF(P:Params):((K P).lookup 1047).all (fun o=>o.cls== .type "code"&&(match o.data with| .fields vs=>vs[11]? ==some (.ref 1043)|_=>false))=true:=by left
theorem B6(P:Params):((K P).lookup 1047).isSome=true:=by left
theorem B7{P:Params}(k:(K P).In h):isCodeTable h 1043:=by
 have a:=EF P;show av (iA (B6 P)) fun o e=>?_;replace a:=e▸a;have a:(o.cls== .type "code"&&(match o.data with| .fields vs=>vs[11]? ==some (.ref 1043)|_=>false))=true:=a;rw[Bool.and_eq_true]at a;show aA a fun a1 a2=>?_
 split at a2
 ·rename_i vs hd;show⟨1047,o,vs,k _ _ e,eB a1,hd,eB a2⟩
 ·right
theorem nu{R:WRecords}{xs:List WData}(h:WShape.hasItems R xs .int=true):∃ns:List Int,xs=ns.map .int:=by
 induction xs with
 |nil=>show⟨[],rfl⟩
 |cons x r ih=>simp only[WShape.hasItems,Bool.and_eq_true]at h;show av (hasW_int h.1) ?_;rintro i rfl;show av (ih h.2) ?_;rintro ns rfl;show⟨i::ns,rfl⟩
theorem ints_rep{R:WRecords}{cl:Str→Option Addr}{ns:List Int}:∀{vs:List Value} {as:List Addr},ReadsAllW R cl h vs (ns.map .int) as→bz h ρ (ns.map .int) vs:=by
 induction ns with
 |nil=>intro vs as r;(show aA (readsAllW_nil_inv r) ?_;rintro rfl U);show .nil
 |cons i ns ih=>intro vs as r;show nJ (readsAllW_cons_inv r) ?_;rintro v dX Pl Pm rfl rfl r1 r2;show aa (readsW_int_inv r1) ?_;rintro t rfl U;show .cons ⟨t,rfl⟩ (ih r2)
theorem ud{cl:Str→Option Addr}{args:List WData}{as:List Addr}(hp:sf.row.claim.pre args=true)(hr:ReadsAllW sf.row.records cl h vals args as)(ht:h.get? 1043=some vm):
  ∃(ns:List Int) (v:Value),vals=[v]∧ns.length≤100∧Rep h [(1043,[])] (.kq (ns.map .int)) v:=by
 show aA (pre_splitW (r:=sf.row.toRowW) hp) fun h1 h2=>?_;show bb (hasAllW_cons h1) ?_;rintro d r rfl h3 h4;obtain rfl:=hasAllW_nil h4;show aa (hasW_list h3) ?_;rintro xs rfl h5;show av (nu h5) ?_;rintro ns rfl;show nJ (readsAllW_cons_inv hr) ?_;rintro v dX Pl Pm rfl rfl r1 r2;show aA (readsAllW_nil_inv r2) ?_;rintro rfl U;show iQ (readsW_list_inv r1) ?_;rintro a vs PT rfl hl r3 U;show⟨ns,_,rfl,?_,a,vs.toList,rfl,fun m=>?_,by(erw[Array.toArray_toList];assumption),ints_rep r3⟩
 ·by_cases q:ns.length≤63
  ·show nt
  ·exfalso
   have z:WTm.holds [] (.and (.not (.lt (.lit (.int 63)) (.len (.arg 0)))) (.lit (.bool true))) {args:=[.list (ns.map .int)]}=true:=h2
   have q:less? (.int 63) (.int (ns.length:Int))=some true:=by show(?_:some (decide ((63:Int)<(ns.length:Int)))=some true);show aD rfl (decide_eq_true (by lia))
   simp[WTm.holds,WTm.value,q]at z
 ·obtain rfl:=mem_singleton.mp (show a∈[1043] from m);show bJ hl fun o ho hc U=>?_;replace ho:=ht▸ho
  injection ho with z;subst z
  right
structure EG(s₁:Shared)(r:Result)(s':Shared):Prop where
 val:r= .ok (.ret (.bool true))
 old:∀b o,s₁.heap.get? b=some o→asItWas s₁.heap s'.heap b o
 cls:∀b o,s₁.heap.get? b=some o→o.cls≠.none→s'.heap.get? b=some o
 os:s'.os=s₁.os
 gens:AllBare s'.gens
theorem law_code{s₁:Shared}{mg mb:Str→Option Value}(k:(K2 w.params).In s₁.heap)(ng:s₁.heap.Ns mainGlobals mg)(nb:s₁.heap.Ns builtinsNs mb)(nl:s₁.heap.NoLimit)(bt:∀x:Str,x≠"__name__"→mb x=bootBuiltins x)(hg:AllBare s₁.gens){ns:List Int}(hz:ns.length≤100)(hv:Rep s₁.heap [(1043,[])] (.kq (ns.map .int)) v):ba (model PySem.Challenge.pw_kk0028_01 w) callerA (.call (.ref 1146) ⟨[v],[]⟩) (EG s₁) s₁:=by
 have G:=CP k ng nb nl bt;have ht:=(u6 k).2;show EE G (fun a o e=>wY e) sh ht hz hv fun s' keep tab Pn KR=>⟨rfl,fun b o e=>?_,fun b o e hc=>keep b o (fun z=>?_) e,Pn,KR.bare hg⟩
 ·by_cases n:b=1043
  ·subst n;replace e:=ht▸e
   injection e with z;subst z
   show av tab fun ps e2=>?_;show .inr (.inl ⟨B7 (u6 k).1,rfl,#[],ps,rfl,by erw[e2];simp[vm]⟩)
  ·show .inl (keep b o n e)
 ·subst z;replace e:=ht▸e
  injection e with z;subst z
  show hc rfl
theorem EH{mg:Str→Option Value}(ng:s.heap.Ns mainGlobals mg)(hf:mg (oS "law")=some (.ref 1146))(h:ba (model PySem.Challenge.pw_kk0028_01 w) callerA (.call (.ref 1146) ⟨[v],[]⟩) R s)(hR:∀r s',R r s'→r= .ok (.ret (.bool true))):
  ar (model PySem.Challenge.pw_kk0028_01 w) callerA (callStub (oS "law") [v]).cur (fun fin s'=>∃f,fin=Fin.done f∧R (.ok f) s') (fun e s'=>R (.error e) s') s:=by
 show(?_:ar _ _ (do match←nsGet mainNs (oS "law")with
   |some f=>do ret (←PySem.call f [v])
   |none=>unsupported "claim.caller:no-such-global") _ _ _)
 show ar.au (wpAny_nsGet ng ?_);erw[hf];show ar.bind (ar.call (ba.mono h fun r s' q=>?_));have e:=hR r s' q;subst e;show ar.pure ⟨_,rfl,q⟩
theorem EI(LZ:s.asleep)(h:ar (model PySem.Challenge.pw_kk0028_01 w) callerA (callStub (oS "law") [v]).cur (fun fin s'=>∃f,fin=Fin.done f∧R (.ok f) s') (fun e s'=>R (.error e) s') s)(hR:∀r s',R r s'→leftWithCleanup s'.gens=false):
  ∃n r s' lX,schedN (denote table) PySem.Challenge.pw_kk0028_01 w n (.single s (callStub (oS "law") [v]))= .halted (outcomeOf r) s'∧runN (denote table) PySem.Challenge.pw_kk0028_01 w n s (callStub (oS "law") [v])= .halted (outcomeOf r) s'∧s'.forget=lX.forget∧R r lX:=by
 show nJ (wp_halts_full (M:=model PySem.Challenge.pw_kk0028_01 w) (c:=.builtin "claim.caller" {}) (t:=(callStub (oS "law") [v]).cur) (R:=R) (p:=default) LZ
  (Sem.wp_mono _ _ _ (fun fin p' s' q=>by
   show aa q ?_;rintro f rfl q
   show⟨q,hR _ _ q⟩) (fun e p' s' q=>⟨q,hR _ _ q⟩) default s (h ⟨.builtin "claim.caller" {},none,none,[],none⟩ default caller_in (fun U U=>⟨_,rfl,rfl⟩) fun x m=>by right))) ?_;rintro n r s1 s2 a b c d
 show⟨n,r,s2,s1,a,b,c,d⟩
theorem Hf:defOf nZ sf.row.name=some (wX,[]):=by left
theorem ND:sf.row.prog.theDef sf.row.name=some (wX.params,wX.body,wX.scope):=by left
theorem NF:kwWritten? wX.params.kwonlyargs wX.params.kw_defaults=some []:=by left
theorem u7:chainsOk nZ=true:=by nofun
theorem EJ:opensWell sf.row.prog=true:=by nofun
theorem EK:frees sf.row.toRowW=true:=by nofun
theorem Ka:sf.row.prog.bare:=⟨rfl,rfl,rfl,rfl,rfl,by nofun⟩
theorem Me:sf.row.toRowW.promised:=⟨[.list [.int 3]],by nofun,by nofun⟩
theorem EL(P:Params):nsIn (K P) mainGlobals (oS "law")=some (some (.ref 1146)):=by left
theorem Hg(args:List WData):sf.row.claim.post args (.bool true) args=true:=by show(?_:(WShape.has [] (.bool true) .bool&&WTm.holds [] (.eq .res (.lit (.bool true))) {args:=args,res:=some (.bool true),after:=args})=true);left
theorem law_row(L5:sf.row.wellSaid=true):sf.row.Holds:=by
 show⟨L5,Me,⟨Ka,EJ,rfl⟩,Me.witness,fun w=>⟨(qz.behind (XP:=fun U U=>True) (fun U U=>trivial) u7 w).1,fun s' LS=>?_⟩⟩;show av ((qz.behind (XP:=fun U U=>True) (fun U U=>trivial) u7 w).2 s' LS) fun s₀ hZ=>?_;show aA hZ fun hf hZ=>?_;show aA hZ fun Po hZ=>?_;show Jd hZ fun s hT hz vk hg G y=>?_;have vk:s.gens= #[]:=Array.eq_empty_of_size_eq_zero (beq_iff_eq.mp vk);have k:(K2 w.params).In s.heap:=HK.of w s y;show⟨s₀,hf,Po,s,hT,fun n hn=>?_,fun x hx=>(not_mem_nil (show x∈[] from hx)).elim,fun x hx=>(not_mem_nil (show x∈[] from hx)).elim,fun args iz L7 ord L8=>?_⟩
 ·obtain rfl:=mem_singleton.mp (show n∈[sf.row.name] from hn);show pinned_of_view hg G Hf ND NF
 show av (iA (layAllW_isSome (P:=w.params) (ord:=ord) G.has args sf.row.args s (pre_splitW (r:=sf.row.toRowW) iz).1)) ?_;rintro⟨vs,s₁⟩ hlaid;have keeps:=layAllW_keeps _ _ _ hlaid;have z7:=layAllW_rest _ _ _ hlaid;show bJ (reads_layAllW L8 _ _ _ hlaid L7 s₁.heap fun U U e=>e) fun as Ni U hold=>?_;have k1:(K2 w.params).In s₁.heap:=fun a o e=>keeps _ _ (k a o e);have G1:=G.keeps (fun U U U U U=>trivial) keeps;have g1:s₁.gens= #[]:=z7.1.trans vk;show bb (ud iz Ni (u6 k1).2) ?_;rintro ns v rfl hn hv;have Pp:=CP k1 G1.T.g G1.T.b G1.T.nolimit G1.T.builtins;have code:=law_code k1 G1.T.g G1.T.b G1.T.nolimit G1.T.builtins (by erw[g1];show fun x h=>by simp at h) hn hv;show nJ (EI (Shared.asleep_of_life z7.2.2.2 hz) (EH G1.T.g (Pp.g (EL _)) code fun r s' q=>q.val) fun r s' q=>leftWithCleanup_false_of_bare q.gens) fun m r s2 s3 Fj L9 Pq hE=>?_;show xw (Shared.forget_eq Pq) fun eh U U eo U=>?_;show xw (frees_parts EK) fun Im hu ha Pr U=>?_;obtain rfl:=hE.val;show⟨[v],s₁,hlaid,m,_,s2,Fj,.inl ⟨.bool true,rfl,fun U=>rfl,⟨.bool true,args,[],as,.bool true,?_,Hg args,fun U=>⟨.nil,fun a h=>(nomatch h),fun a h=>(nomatch h)⟩,fun U U=>ident_freeW hu ha Pr _ _⟩,fun i hi=>(by have hi:sf.row.same=some i:=hi;replace hi:=Im▸hi;show nomatch hi),fun b o hb U U U=>?_,fun i hi=>(not_mem_nil (show i∈[] from hi)).elim⟩,fun U i x hx=>(by replace hx:=vk▸hx;simp at hx),fun z=>(nomatch z),?_,Shared.rest_eq ?_⟩
 ·show Ni.keepsK fun b o e hc=>by erw[eh];show hE.cls b o e hc
 ·erw[eh];show hE.old b o hb
 ·show congrArg Life.seen ((runN_life _ _ _ L9).trans z7.2.2.2)
 ·(erw[eo,hE.os]);show z7.2.2.1
end MineL
namespace MineH
abbrev lw:OpenLaw:=PySem.Challenge.rw_kk0028_01
theorem l1:sreFenced lw.row.prog.main=true:=by kernel_rfl
theorem l2:((moduleNames lw.row.prog.main.body).isEmpty||lookedIntoSs (moduleNames lw.row.prog.main.body) lw.row.prog.main.body)=true:=by kernel_rfl
theorem l3:namesResolve lw.row.prog=true:=by kernel_rfl
theorem l4:(lw.row.prog.boundNames.all (fun n=>!worldNames.contains n))=true:=by kernel_rfl
theorem l5:noRoadLSs {strict:=!(importedModules lw.row.prog.main.body).all cThrough.contains,foot:=none,bare:=(["vars","dir","locals"]:List Str).filter (readsOut lw.row.prog lw.row.prog.main.body)} lw.row.prog.main.body=true:=by kernel_rfl
theorem l6:(namesMeet lw.row.prog lw.row.prog.main.body fun U n=>attrL n)=true:=by kernel_rfl
theorem said0:lw.wellSaid=true:=by
 unfold OpenLaw.wellSaid OpenRow.wellSaid OpenRow.partSaid looksOpen
 repeat' with_reducible apply look_both
 ·with_reducible exact l1
 ·with_reducible exact l2
 ·with_reducible exact l3
 ·with_reducible exact l4
 ·with_reducible exact l5
 ·with_reducible exact l6
 all_goals kernel_rfl
end MineH
end
theorem PySem.Challenge.cw_kk0028_01_holds : PySem.Challenge.rw_kk0028_01.Holds :=
  holds_law MineH.said0 fun h => MineL.law_row h
