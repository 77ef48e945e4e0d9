/- H0, HP -/
import Derived.Test.YtpekidjfbinekaaGreatDoorA14
set_option maxRecDepth 100000
set_option maxHeartbeats 60000000
set_option linter.all false
namespace Go.Proofs.YtpekidjfbinekaaGreatDoor
open Go.RowKit Uni
def beginsAt (n:Nat):Code->Bool
 |.region i _ _=>i==n
 |.seq a _=>beginsAt n a
 |_=>false
def findSw (n:Nat):Code->Code
 |.seq a b=>if beginsAt n a then .seq a b else findSw n b
 |c=>c
noncomputable def yN:Code:=findSw 104 (Tryz.f132.body.getD .skip)
structure Sw (E:GEnv) (w:World) (U bm:Nat) (hd:Nat->Addr) (s:St) (depth:Int) (m:Uni.Mode) (o:Int) (vx vy:Value) (a:Act) (w1:World):Prop where
 size:a.tmps.size=1016
 t1:a.tmps[1]?=some vx
 t2:a.tmps[2]?=some vy
 t3: ∃z,a.tmps[3]?=some (.int .u64 z)/\yR m z
 t4:a.tmps[4]?=some (.pointer none)
 t5:a.tmps[5]?=some (.pointer (some ⟨w.heap.size,0,none⟩))
 t42:a.tmps[42]?=some (.int .u64 o)
 ds:a.defers= [{target:= .fn (.func 161) #[.pointer (some ⟨w.heap.size,0,none⟩)],args:= #[]}]
 mode:yR (Uni.inner m) o
 nb: ¬E.A w.heap.size
 fa:Fr E.A w w1
 bx:w1.heap[w.heap.size]?=some (.cells #[.pointer (some ⟨U,0,none⟩)] 173 (0,0))
 hn:NRep w1 E U bm hd s (depth + 1)
 he:EnvOk w1 E
def fr (u:Nat->Value):Array Value:= #[u 0,u 1,u 2,u 3,u 4,u 5,u 6,u 7,u 8,u 9,u 10,u 11,u 12,u 13,u 14,u 15,u 16,u 17,u 18,u 19,u 20,u 21,u 22,u 23,u 24,u 25,u 26,u 27,u 28,u 29,u 30,u 31,u 32,u 33,u 34,u 35,u 36,u 37,u 38,u 39,u 40,u 41,u 42,u 43,u 44,u 45,u 46,u 47,u 48,u 49,u 50,u 51,u 52,u 53,u 54,u 55,u 56,u 57,u 58,u 59,u 60,u 61,u 62,u 63,u 64,u 65,u 66,u 67,u 68,u 69,u 70,u 71,u 72,u 73,u 74,u 75,u 76,u 77,u 78,u 79,u 80,u 81,u 82,u 83,u 84,u 85,u 86,u 87,u 88,u 89,u 90,u 91,u 92,u 93,u 94,u 95,u 96,u 97,u 98,u 99,u 100,u 101,u 102,u 103,u 104,u 105,u 106,u 107,u 108,u 109,u 110,u 111,u 112,u 113,u 114,u 115,u 116,u 117,u 118,u 119,u 120,u 121,u 122,u 123,u 124,u 125,u 126,u 127,u 128,u 129,u 130,u 131,u 132,u 133,u 134,u 135,u 136,u 137,u 138,u 139,u 140,u 141,u 142,u 143,u 144,u 145,u 146,u 147,u 148,u 149,u 150,u 151,u 152,u 153,u 154,u 155,u 156,u 157,u 158,u 159,u 160,u 161,u 162,u 163,u 164,u 165,u 166,u 167,u 168,u 169,u 170,u 171,u 172,u 173,u 174,u 175,u 176,u 177,u 178,u 179,u 180,u 181,u 182,u 183,u 184,u 185,u 186,u 187,u 188,u 189,u 190,u 191,u 192,u 193,u 194,u 195,u 196,u 197,u 198,u 199,u 200,u 201,u 202,u 203,u 204,u 205,u 206,u 207,u 208,u 209,u 210,u 211,u 212,u 213,u 214,u 215,u 216,u 217,u 218,u 219,u 220,u 221,u 222,u 223,u 224,u 225,u 226,u 227,u 228,u 229,u 230,u 231,u 232,u 233,u 234,u 235,u 236,u 237,u 238,u 239,u 240,u 241,u 242,u 243,u 244,u 245,u 246,u 247,u 248,u 249,u 250,u 251,u 252,u 253,u 254,u 255,u 256,u 257,u 258,u 259,u 260,u 261,u 262,u 263,u 264,u 265,u 266,u 267,u 268,u 269,u 270,u 271,u 272,u 273,u 274,u 275,u 276,u 277,u 278,u 279,u 280,u 281,u 282,u 283,u 284,u 285,u 286,u 287,u 288,u 289,u 290,u 291,u 292,u 293,u 294,u 295,u 296,u 297,u 298,u 299,u 300,u 301,u 302,u 303,u 304,u 305,u 306,u 307,u 308,u 309,u 310,u 311,u 312,u 313,u 314,u 315,u 316,u 317,u 318,u 319,u 320,u 321,u 322,u 323,u 324,u 325,u 326,u 327,u 328,u 329,u 330,u 331,u 332,u 333,u 334,u 335,u 336,u 337,u 338,u 339,u 340,u 341,u 342,u 343,u 344,u 345,u 346,u 347,u 348,u 349,u 350,u 351,u 352,u 353,u 354,u 355,u 356,u 357,u 358,u 359,u 360,u 361,u 362,u 363,u 364,u 365,u 366,u 367,u 368,u 369,u 370,u 371,u 372,u 373,u 374,u 375,u 376,u 377,u 378,u 379,u 380,u 381,u 382,u 383,u 384,u 385,u 386,u 387,u 388,u 389,u 390,u 391,u 392,u 393,u 394,u 395,u 396,u 397,u 398,u 399,u 400,u 401,u 402,u 403,u 404,u 405,u 406,u 407,u 408,u 409,u 410,u 411,u 412,u 413,u 414,u 415,u 416,u 417,u 418,u 419,u 420,u 421,u 422,u 423,u 424,u 425,u 426,u 427,u 428,u 429,u 430,u 431,u 432,u 433,u 434,u 435,u 436,u 437,u 438,u 439,u 440,u 441,u 442,u 443,u 444,u 445,u 446,u 447,u 448,u 449,u 450,u 451,u 452,u 453,u 454,u 455,u 456,u 457,u 458,u 459,u 460,u 461,u 462,u 463,u 464,u 465,u 466,u 467,u 468,u 469,u 470,u 471,u 472,u 473,u 474,u 475,u 476,u 477,u 478,u 479,u 480,u 481,u 482,u 483,u 484,u 485,u 486,u 487,u 488,u 489,u 490,u 491,u 492,u 493,u 494,u 495,u 496,u 497,u 498,u 499,u 500,u 501,u 502,u 503,u 504,u 505,u 506,u 507,u 508,u 509,u 510,u 511,u 512,u 513,u 514,u 515,u 516,u 517,u 518,u 519,u 520,u 521,u 522,u 523,u 524,u 525,u 526,u 527,u 528,u 529,u 530,u 531,u 532,u 533,u 534,u 535,u 536,u 537,u 538,u 539,u 540,u 541,u 542,u 543,u 544,u 545,u 546,u 547,u 548,u 549,u 550,u 551,u 552,u 553,u 554,u 555,u 556,u 557,u 558,u 559,u 560,u 561,u 562,u 563,u 564,u 565,u 566,u 567,u 568,u 569,u 570,u 571,u 572,u 573,u 574,u 575,u 576,u 577,u 578,u 579,u 580,u 581,u 582,u 583,u 584,u 585,u 586,u 587,u 588,u 589,u 590,u 591,u 592,u 593,u 594,u 595,u 596,u 597,u 598,u 599,u 600,u 601,u 602,u 603,u 604,u 605,u 606,u 607,u 608,u 609,u 610,u 611,u 612,u 613,u 614,u 615,u 616,u 617,u 618,u 619,u 620,u 621,u 622,u 623,u 624,u 625,u 626,u 627,u 628,u 629,u 630,u 631,u 632,u 633,u 634,u 635,u 636,u 637,u 638,u 639,u 640,u 641,u 642,u 643,u 644,u 645,u 646,u 647,u 648,u 649,u 650,u 651,u 652,u 653,u 654,u 655,u 656,u 657,u 658,u 659,u 660,u 661,u 662,u 663,u 664,u 665,u 666,u 667,u 668,u 669,u 670,u 671,u 672,u 673,u 674,u 675,u 676,u 677,u 678,u 679,u 680,u 681,u 682,u 683,u 684,u 685,u 686,u 687,u 688,u 689,u 690,u 691,u 692,u 693,u 694,u 695,u 696,u 697,u 698,u 699,u 700,u 701,u 702,u 703,u 704,u 705,u 706,u 707,u 708,u 709,u 710,u 711,u 712,u 713,u 714,u 715,u 716,u 717,u 718,u 719,u 720,u 721,u 722,u 723,u 724,u 725,u 726,u 727,u 728,u 729,u 730,u 731,u 732,u 733,u 734,u 735,u 736,u 737,u 738,u 739,u 740,u 741,u 742,u 743,u 744,u 745,u 746,u 747,u 748,u 749,u 750,u 751,u 752,u 753,u 754,u 755,u 756,u 757,u 758,u 759,u 760,u 761,u 762,u 763,u 764,u 765,u 766,u 767,u 768,u 769,u 770,u 771,u 772,u 773,u 774,u 775,u 776,u 777,u 778,u 779,u 780,u 781,u 782,u 783,u 784,u 785,u 786,u 787,u 788,u 789,u 790,u 791,u 792,u 793,u 794,u 795,u 796,u 797,u 798,u 799,u 800,u 801,u 802,u 803,u 804,u 805,u 806,u 807,u 808,u 809,u 810,u 811,u 812,u 813,u 814,u 815,u 816,u 817,u 818,u 819,u 820,u 821,u 822,u 823,u 824,u 825,u 826,u 827,u 828,u 829,u 830,u 831,u 832,u 833,u 834,u 835,u 836,u 837,u 838,u 839,u 840,u 841,u 842,u 843,u 844,u 845,u 846,u 847,u 848,u 849,u 850,u 851,u 852,u 853,u 854,u 855,u 856,u 857,u 858,u 859,u 860,u 861,u 862,u 863,u 864,u 865,u 866,u 867,u 868,u 869,u 870,u 871,u 872,u 873,u 874,u 875,u 876,u 877,u 878,u 879,u 880,u 881,u 882,u 883,u 884,u 885,u 886,u 887,u 888,u 889,u 890,u 891,u 892,u 893,u 894,u 895,u 896,u 897,u 898,u 899,u 900,u 901,u 902,u 903,u 904,u 905,u 906,u 907,u 908,u 909,u 910,u 911,u 912,u 913,u 914,u 915,u 916,u 917,u 918,u 919,u 920,u 921,u 922,u 923,u 924,u 925,u 926,u 927,u 928,u 929,u 930,u 931,u 932,u 933,u 934,u 935,u 936,u 937,u 938,u 939,u 940,u 941,u 942,u 943,u 944,u 945,u 946,u 947,u 948,u 949,u 950,u 951,u 952,u 953,u 954,u 955,u 956,u 957,u 958,u 959,u 960,u 961,u 962,u 963,u 964,u 965,u 966,u 967,u 968,u 969,u 970,u 971,u 972,u 973,u 974,u 975,u 976,u 977,u 978,u 979,u 980,u 981,u 982,u 983,u 984,u 985,u 986,u 987,u 988,u 989,u 990,u 991,u 992,u 993,u 994,u 995,u 996,u 997,u 998,u 999,u 1000,u 1001,u 1002,u 1003,u 1004,u 1005,u 1006,u 1007,u 1008,u 1009,u 1010,u 1011,u 1012,u 1013,u 1014,u 1015]
theorem fr_eq (u:Nat->Value):fr u=((List.range 1016).map u).toArray:=by kernel_rfl
theorem relit (t:Array Value)(h:t.size=1016): ∃u,t=fr u/\ ∀i v,t[i]?=some v->u i=v:=by
 refine ⟨fun i=>t.getD i undef,?_,fun i v hv=>by simp [hv]⟩;rw [fr_eq];refine Array.ext (by simp [h]) fun i h1 h2=> ?_
 simp [h1]
theorem wp_eq {P:Program}{c c':Code}{Q:Exit->Act->World->Prop}{a:Act}{w:World}(h:c=c')(hw:c'.wp P Q a w):c.wp P Q a w:=by rw [h];exact hw
theorem wp_abs {P:Program}{c:Code}{Q:Exit->Act->World->Prop}{a:Act}{w:World}(h: ∀A,A=a->c.wp P Q A w):c.wp P Q a w:=h a rfl
theorem zN {t:Array Value}{i:Nat}{v:Value}(h:t[i]?=some v): ∃h:i < t.size,t[i]=v:=Array.getElem?_eq_some_iff.1 h
theorem wX {t:Array Value}{i:Nat}{v:Value}(h:i < t.size):(t.setIfInBounds i v)[i]?=some v:=by simp [h]
theorem wG {t:Array Value}{i j:Nat}{v:Value}(h:i≠j):(t.setIfInBounds i v)[j]?=t[j]?:=by simp [h]
theorem door {E:GEnv}{w w1:World}{U bm:Nat}{hd:Nat->Addr}{s:St}{depth:Int}{r:Option St}{tmps:Array Value}(h0:0<=depth)(h1:depth<=50)(h10:tmps[10]?=some (.bool r.isSome))(FA:Fr E.A w w1)
 (BX:w1.heap[w.heap.size]?=some (.cells #[.pointer (some ⟨U,0,none⟩)] 173 (0,0))) (HN:NRep w1 E U bm hd s (depth + 1)) (hs: ∀s1,r=some s1->s=s1):
 Leaves Tryz.prog Tryz.f132 tmps (xM w E U bm depth r) [{target:= .fn (.func 161) #[.pointer (some ⟨w.heap.size,0,none⟩)],args:= #[]}] .returning w1:=by
 refine leaves_cons (f:=161) (args:= #[.pointer (some ⟨w.heap.size,0,none⟩)]) (by simp) (by simp [go_sem]) ?_;refine (wF _ U _ _ _ _ .returning _ BX HN.u (by omega) (by omega)).mono ?_;rintro e u' w'' ⟨rfl,rfl,rfl⟩;refine ⟨_,results_tmp rfl _ _ _,?_⟩;refine ⟨by rw [Array.getD_eq_getD_getElem?,h10];rfl,FA.setCell (.inl HN.AU) _,_,_,by have h:=HN.setDepth (depth + 1 - 1);rw [show depth + 1 - 1=depth by omega] at h ⊢;exact h,hs⟩
def SlotsAt:List (Nat × Value)->Array Value->Prop
 |[],_=>True
 |(i,v)::l,t=>t[i]?=some v/\SlotsAt l t
def SeqRel (E:GEnv)(w:World)(U bm:Nat)(depth:Int)(R:Nat->St->Prop)(j:Nat)(wr:World):Prop:=
 ∃(s':St) (hd':Nat->Addr),Fr E.A w wr/\NRep wr E U bm hd' s' (depth + 1)/\wr.heap[w.heap.size]?=some (.cells #[.pointer (some ⟨U,0,none⟩)] 173 (0,0))/\EnvOk wr E/\R j s'
structure Round (n ix:Nat) (sl:List (Nat × Value)) (ds:List Deferred) (I:Nat->World->Prop) (j:Nat) (a:Act) (w:World):Prop where
 size:a.tmps.size=1016
 ds:a.defers=ds
 ix:a.tmps[ix]?=some (.int .i64 (j + 1:Nat))
 sl:SlotsAt sl a.tmps
 le:j + 1<=n
 inv:I (j + 1) w
theorem wp_loopJ {P:Program}{c:Code}{Q:Exit->Act->World->Prop}{t:Array Value}{ds:List Deferred}{w:World}(n:Nat)(ix:Nat)(sl:List (Nat × Value))(I:Nat->World->Prop)
 (hs:t.size=1016) (hx:t[ix]?=some (.int .i64 (0:Nat))) (hl:SlotsAt sl t) (h0:I 0 w)
 (round: ∀(j:Nat) (t:Array Value) (w:World),j<=n->t.size=1016->t[ix]?=some (.int .i64 j)->SlotsAt sl t->I j w->
  c.wp P (Exit.then (Round n ix sl ds I j) Q) ⟨t,ds⟩ w):
 (Code.loop c).wp P Q ⟨t,ds⟩ w:=by
 refine wp_loop (fun a w=> ∃j:Nat,j<=n/\a.tmps.size=1016/\a.defers=ds/\a.tmps[ix]?=some (.int .i64 j)/\SlotsAt sl a.tmps/\I j w) (fun a _=>n - (intOf (a.tmps.getD ix undef)).toNat) ⟨0,Nat.zero_le _,hs,rfl,hx,hl,h0⟩ ?_;rintro ⟨t',ds'⟩ w' ⟨j,hj,h1,h2,h3,h4,h5⟩;dsimp only at h1 h2 h3 h4;subst h2;refine Code.wp_mono (fun e a w q=> ?_) (round j t' w' hj h1 h3 h4 h5)
 cases e with
 |normal=>
  obtain ⟨k1,k2,k3,k4,k5,k6⟩:=q;refine ⟨⟨j + 1,k5,k1,k2,k3,k4,k6⟩,?_⟩;dsimp only;rw [Array.getD_eq_getD_getElem?,Array.getD_eq_getD_getElem?,k3,h3];simp only [Option.getD_some,intOf];omega
 |_=>exact q
section
variable {P:Program}{ops:Array Oper}{Q:Exit->Act->World->Prop}{S:World->Prop}{T:Nat->Bool}{pl:List (Nat × Bool)}{t:Array Value}{ds:List Deferred}{w:World}{i j d dj:Nat}{o oj:Oper}{b:Bool}
theorem wanted_none (hg:o.guard=none):Region.wanted o (yielded ops t)=true:=by simp [Region.wanted,hg]
theorem wanted_yes (hg:o.guard=some (j,b))(hj:ops[j]?=some oj)(hd:oj.dst=some dj)(hv:t[dj]?=some (.bool b)):Region.wanted o (yielded ops t)=true:=by
 simp [Region.wanted,hg,yielded,hj,hd,hv]
theorem wanted_no (hg:o.guard=some (j,b))(hj:ops[j]?=some oj)(hd:oj.dst=some dj)(hv:t[dj]?=some (.bool (!b))):Region.wanted o (yielded ops t)=false:=by
 simp [Region.wanted,hg,yielded,hj,hd,hv]
structure PG (P:Program) (ops:Array Oper) (Q:Exit->Act->World->Prop) (S:World->Prop) (T:Nat->Bool) (pl:List (Nat × Bool)) (t:Array Value) (ds:List Deferred) (w:World):Prop where
 get:planG P ops Q S T pl ⟨t,ds⟩ w
theorem wp_pg {id:Nat}{l:List Oper}(S:World->Prop)(pl:List (Nat × Bool))(late:List Nat)(hm:P.follows .mixedOrders=true)
 (hs:Region.noSelect l.toArray=true) (hB:planB l.toArray pl (Array.replicate l.toArray.size false)=true) (hL:lateB l.toArray pl late=true) (hn:pl.length<=l.toArray.size)
 (h:PG P l.toArray (NoPanic Q) S (fun i=> !late.contains i) pl t ds w.drew):(Code.region id l.toArray true).wp P Q ⟨t,ds⟩ w:=zG S pl late hm hs hB hL hn h.get
theorem wV (h:Q .normal ⟨t,ds⟩ w):PG P ops (NoPanic Q) S T [] t ds w:=⟨zO (NoPanic.normal h)⟩
theorem fl (v:Value)(ho:ops[i]?=some o)(hw:Region.wanted o (yielded ops t)=true)(hd:o.dst=some d)(hS:S w)(h1: ∀w',S w'->(execOp (Act.mk t ds).eval o).run P w'= .ok (.value v) w')
 (h:PG P ops Q S T pl (t.setIfInBounds d v) ds w):PG P ops Q S T ((i,true)::pl) t ds w:=by
 refine ⟨zH v ho hS (fun w' hw'=> ?_) ?_⟩
 ·rw [if_pos hw];exact h1 w' hw'
 ·rw [hd];exact h.get
theorem fn (ho:ops[i]?=some o)(hw:Region.wanted o (yielded ops t)=false)(hd:o.dst=some d)(hS:S w)
 (h:PG P ops Q S T pl (t.setIfInBounds d undef) ds w):PG P ops Q S T ((i,true)::pl) t ds w:=by
 refine ⟨zH undef ho hS (fun w' hw'=> ?_) ?_⟩
 ·rw [if_neg (by rw [hw];simp)]
 ·rw [hd];exact h.get
theorem sv (v:Value)(ho:ops[i]?=some o)(hw:Region.wanted o (yielded ops t)=true)(hd:o.dst=some d)(h1:(execOp (Act.mk t ds).eval o).run P w= .ok (.value v) w)(hT:T i=true->S w)
 (h:PG P ops Q S T pl (t.setIfInBounds d v) ds w):PG P ops Q S T ((i,false)::pl) t ds w:=by
 refine ⟨zB ho ?_⟩;unfold wpList;rw [if_pos hw];refine .inl ?_;unfold Oper.wp;rw [h1,Oper.upon_value,hd];exact ⟨hT,h.get⟩
theorem sn (ho:ops[i]?=some o)(hw:Region.wanted o (yielded ops t)=false)(hd:o.dst=some d)(hT:T i=true->S w)
 (h:PG P ops Q S T pl (t.setIfInBounds d undef) ds w):PG P ops Q S T ((i,false)::pl) t ds w:=by
 refine ⟨zB ho ?_⟩;unfold wpList;rw [if_neg (by rw [hw];simp),hd];exact ⟨hT,h.get⟩
theorem sc (f:FuncId)(args:Array Value)(ho:ops[i]?=some o)(hw:Region.wanted o (yielded ops t)=true)(hd:o.dst=some d)(h1:(execOp (Act.mk t ds).eval o).run P w= .ok (.enter f args) w)
 (h:Calls P f args w fun e w'=> ∃v,e= .returned v/\(T i=true->S w')/\PG P ops Q S T pl (t.setIfInBounds d v) ds w'):PG P ops Q S T ((i,false)::pl) t ds w:=by
 refine ⟨zB ho ?_⟩;unfold wpList;rw [if_pos hw];refine .inl ?_;unfold Oper.wp;rw [h1,Oper.upon_enter];refine h.mono ?_;rintro e w' ⟨v,rfl,h2,h3⟩;dsimp only;rw [hd];exact ⟨h2,h3.get⟩
theorem wO (hs:t.size=1016)(h: ∀u,(∀i v,t[i]?=some v->u i=v)->Q .normal ⟨fr u,ds⟩ w):PG P ops (NoPanic Q) S T [] t ds w:=by
 obtain ⟨u,e,hu⟩:=relit t hs;refine wV ?_;rw [e];exact h u hu
theorem nt0 {x0:Oper}{l:List Oper}:(x0::l).toArray[0]?=some x0:=rfl
theorem ntS {x:Oper}{l:List Oper}{n:Nat}{o:Oper}(h:l.toArray[n]?=some o):(x::l).toArray[n + 1]?=some o:=by simpa using h
theorem fd {M:Nat->Prop}{w:World}:Fr M w w.drew:=(Fr.refl _ _).drew
theorem gl {v:Value}(hS:S w)(h:PG P ops Q S T pl (t.setIfInBounds d v) ds w)(ho:ops[i]?=some o:=by with_reducible repeat (first | exact nt0 | apply ntS))
 (hw:Region.wanted o (yielded ops t)=true:=by first | exact wanted_none rfl | exact wanted_yes rfl (by with_reducible repeat (first | exact nt0 | apply ntS)) rfl (by go_simp)) (hd:o.dst=some d:=by rfl)
 (h1: ∀w',S w'->(execOp (Act.mk t ds).eval o).run P w'= .ok (.value v) w':=by intro w' hS;clear hS;go_simp;rfl):PG P ops Q S T ((i,true)::pl) t ds w:=fl v ho hw hd hS h1 h
theorem gn (hS:S w)(h:PG P ops Q S T pl (t.setIfInBounds d undef) ds w)(ho:ops[i]?=some o:=by with_reducible repeat (first | exact nt0 | apply ntS))
 (hw:Region.wanted o (yielded ops t)=false:=by exact wanted_no rfl (by with_reducible repeat (first | exact nt0 | apply ntS)) rfl (by go_simp)) (hd:o.dst=some d:=by rfl):PG P ops Q S T ((i,true)::pl) t ds w:=fn ho hw hd hS h
theorem gv {v:Value}(hT:T i=true->S w)(h:PG P ops Q S T pl (t.setIfInBounds d v) ds w)(ho:ops[i]?=some o:=by with_reducible repeat (first | exact nt0 | apply ntS))
 (hw:Region.wanted o (yielded ops t)=true:=by first | exact wanted_none rfl | exact wanted_yes rfl (by with_reducible repeat (first | exact nt0 | apply ntS)) rfl (by go_simp)) (hd:o.dst=some d:=by rfl)
 (h1:(execOp (Act.mk t ds).eval o).run P w= .ok (.value v) w:=by go_simp;rfl):PG P ops Q S T ((i,false)::pl) t ds w:=sv v ho hw hd h1 hT h
theorem gu (hT:T i=true->S w)(h:PG P ops Q S T pl (t.setIfInBounds d undef) ds w)(ho:ops[i]?=some o:=by with_reducible repeat (first | exact nt0 | apply ntS))
 (hw:Region.wanted o (yielded ops t)=false:=by exact wanted_no rfl (by with_reducible repeat (first | exact nt0 | apply ntS)) rfl (by go_simp)) (hd:o.dst=some d:=by rfl):PG P ops Q S T ((i,false)::pl) t ds w:=sn ho hw hd hT h
theorem gc (f:FuncId){args:Array Value}(h:Calls P f args w fun e w'=> ∃v,e= .returned v/\(T i=true->S w')/\PG P ops Q S T pl (t.setIfInBounds d v) ds w')(ho:ops[i]?=some o:=by with_reducible repeat (first | exact nt0 | apply ntS))
 (hw:Region.wanted o (yielded ops t)=true:=by first | exact wanted_none rfl | exact wanted_yes rfl (by with_reducible repeat (first | exact nt0 | apply ntS)) rfl (by go_simp)) (hd:o.dst=some d:=by rfl)
 (h1:(execOp (Act.mk t ds).eval o).run P w= .ok (.enter f args) w:=by go_simp;rfl):PG P ops Q S T ((i,false)::pl) t ds w:=sc f args ho hw hd h1 h
end
theorem pre_all:
 (∀ {E:GEnv} (tx ty:TypeId) (px py:Value) (m:Uni.Mode) (z:Int) (w:World) (U bm:Nat) (hd:Nat->Addr) (s:St) (depth:Int) (R:Ending->World->Prop) (hdk:depth + 1<=50) (h0:0<=depth) (hm:yR m z) (hE:EnvOk w E) (hN:NRep w E U bm hd s depth) (hxm:m= .exact) (hx95: ¬tx=95) (hy95: ¬ty=95) (hx283: ¬tx=283) (hy283: ¬ty=283) (hx106: ¬tx=106) (hy106:ty=106) (hpy: ∃ay,py= .pointer (some ay)) (hea: ∀w',Fr E.A w w'->(binOp .eql 103 (.iface tx px) (.iface ty py)).run Tryz.prog w'= .ok (.bool false) w') (hne: ∀w',Fr E.A w w'->(binOp .neq 103 (.iface tx px) (.iface ty py)).run Tryz.prog w'= .ok (.bool true) w') (hsw: ∀(a:Act) (w1:World) (o:Int),Sw E w U bm hd s depth m o (.iface tx px) (.iface ty py) a w1->Code.wp Tryz.prog yN (bodyPostD Tryz.prog Tryz.f132 R) a w1),
  Calls Tryz.prog 132 #[.pointer (some ⟨U,0,none⟩),.iface tx px,.iface ty py,.int .u64 z,.pointer none] w R)/\
 (∀ {E:GEnv} (tx ty:TypeId) (px py:Value) (m:Uni.Mode) (z:Int) (w:World) (U bm:Nat) (hd:Nat->Addr) (s:St) (depth:Int) (R:Ending->World->Prop) (hdk:depth + 1<=50) (h0:0<=depth) (hm:yR m z) (hE:EnvOk w E) (hN:NRep w E U bm hd s depth) (hxm:m= .exact) (hx95: ¬tx=95) (hy95: ¬ty=95) (hx283: ¬tx=283) (hy283: ¬ty=283) (hx106: ¬tx=106) (hy106:ty=106) (hpy: ∃ay,py= .pointer (some ay)) (hea: ∀w',Fr E.A w w'->(binOp .eql 103 (.iface ty py) (.iface tx px)).run Tryz.prog w'= .ok (.bool false) w') (hne: ∀w',Fr E.A w w'->(binOp .neq 103 (.iface tx px) (.iface ty py)).run Tryz.prog w'= .ok (.bool true) w') (hsw: ∀(a:Act) (w1:World) (o:Int),Sw E w U bm hd s depth m o (.iface tx px) (.iface ty py) a w1->Code.wp Tryz.prog yN (bodyPostD Tryz.prog Tryz.f132 R) a w1),
  Calls Tryz.prog 132 #[.pointer (some ⟨U,0,none⟩),.iface ty py,.iface tx px,.int .u64 z,.pointer none] w R)/\
 (∀ {E:GEnv} (tx ty:TypeId) (px py:Value) (m:Uni.Mode) (z:Int) (w:World) (U bm:Nat) (hd:Nat->Addr) (s:St) (depth:Int) (R:Ending->World->Prop) (hdk:depth + 1<=50) (h0:0<=depth) (hm:yR m z) (hE:EnvOk w E) (hN:NRep w E U bm hd s depth) (hxm:m= .exact) (hx95: ¬tx=95) (hy95: ¬ty=95) (hx283: ¬tx=283) (hy283: ¬ty=283) (hx106:tx=106) (hy106:ty=106) (hpy: ∃ay,py= .pointer (some ay)) (hpx: ∃ax,px= .pointer (some ax)) (hea: ∀w',Fr E.A w w'->(binOp .eql 103 (.iface ty py) (.iface tx px)).run Tryz.prog w'= .ok (.bool false) w') (hne: ∀w',Fr E.A w w'->(binOp .neq 103 (.iface tx px) (.iface ty py)).run Tryz.prog w'= .ok (.bool true) w') (hsw: ∀(a:Act) (w1:World) (o:Int),Sw E w U bm hd s depth m o (.iface tx px) (.iface ty py) a w1->Code.wp Tryz.prog yN (bodyPostD Tryz.prog Tryz.f132 R) a w1),
  Calls Tryz.prog 132 #[.pointer (some ⟨U,0,none⟩),.iface ty py,.iface tx px,.int .u64 z,.pointer none] w R)/\
 (∀ {E:GEnv} (tx ty:TypeId) (px py:Value) (m:Uni.Mode) (z:Int) (w:World) (U bm:Nat) (hd:Nat->Addr) (s:St) (depth:Int) (R:Ending->World->Prop) (hdk:depth + 1<=50) (h0:0<=depth) (hm:yR m z) (hE:EnvOk w E) (hN:NRep w E U bm hd s depth) (hxm:m≠ .exact) (hx95: ¬tx=95) (hy95: ¬ty=95) (hx283: ¬tx=283) (hy283: ¬ty=283) (hx106:tx=106) (hy106:ty=106) (hpy: ∃ay,py= .pointer (some ay)) (hpx: ∃ax,px= .pointer (some ax)) (hea: ∀w',Fr E.A w w'->(binOp .eql 103 (.iface ty py) (.iface tx px)).run Tryz.prog w'= .ok (.bool false) w') (hne: ∀w',Fr E.A w w'->(binOp .neq 103 (.iface tx px) (.iface ty py)).run Tryz.prog w'= .ok (.bool true) w') (hsw: ∀(a:Act) (w1:World) (o:Int),Sw E w U bm hd s depth m o (.iface tx px) (.iface ty py) a w1->Code.wp Tryz.prog yN (bodyPostD Tryz.prog Tryz.f132 R) a w1),
  Calls Tryz.prog 132 #[.pointer (some ⟨U,0,none⟩),.iface ty py,.iface tx px,.int .u64 z,.pointer none] w R)/\
 (∀ {E:GEnv} (tx ty:TypeId) (px py:Value) (m:Uni.Mode) (z:Int) (w:World) (U bm:Nat) (hd:Nat->Addr) (s:St) (depth:Int) (R:Ending->World->Prop) (hdk:depth + 1<=50) (h0:0<=depth) (hm:yR m z) (hE:EnvOk w E) (hN:NRep w E U bm hd s depth) (hxm:m= .exact) (hx95: ¬tx=95) (hy95: ¬ty=95) (hx283: ¬tx=283) (hy283: ¬ty=283) (hx106: ¬tx=106) (hy106: ¬ty=106) (hea: ∀w',Fr E.A w w'->(binOp .eql 103 (.iface tx px) (.iface ty py)).run Tryz.prog w'= .ok (.bool false) w') (hne: ∀w',Fr E.A w w'->(binOp .neq 103 (.iface tx px) (.iface ty py)).run Tryz.prog w'= .ok (.bool true) w') (hsw: ∀(a:Act) (w1:World) (o:Int),Sw E w U bm hd s depth m o (.iface tx px) (.iface ty py) a w1->Code.wp Tryz.prog yN (bodyPostD Tryz.prog Tryz.f132 R) a w1),
  Calls Tryz.prog 132 #[.pointer (some ⟨U,0,none⟩),.iface tx px,.iface ty py,.int .u64 z,.pointer none] w R)/\
 (∀ {E:GEnv} (tx ty:TypeId) (px py:Value) (m:Uni.Mode) (z:Int) (w:World) (U bm:Nat) (hd:Nat->Addr) (s:St) (depth:Int) (R:Ending->World->Prop) (hdk:depth + 1<=50) (h0:0<=depth) (hm:yR m z) (hE:EnvOk w E) (hN:NRep w E U bm hd s depth) (hxm:m≠ .exact) (hx95: ¬tx=95) (hy95: ¬ty=95) (hx283: ¬tx=283) (hy283: ¬ty=283) (hx106: ¬tx=106) (hy106: ¬ty=106) (hea: ∀w',Fr E.A w w'->(binOp .eql 103 (.iface tx px) (.iface ty py)).run Tryz.prog w'= .ok (.bool false) w') (hne: ∀w',Fr E.A w w'->(binOp .neq 103 (.iface tx px) (.iface ty py)).run Tryz.prog w'= .ok (.bool true) w') (hsw: ∀(a:Act) (w1:World) (o:Int),Sw E w U bm hd s depth m o (.iface tx px) (.iface ty py) a w1->Code.wp Tryz.prog yN (bodyPostD Tryz.prog Tryz.f132 R) a w1),
  Calls Tryz.prog 132 #[.pointer (some ⟨U,0,none⟩),.iface tx px,.iface ty py,.int .u64 z,.pointer none] w R)/\
 (∀ {E:GEnv} (tx ty:TypeId) (px py:Value) (m:Uni.Mode) (z:Int) (w:World) (U bm:Nat) (hd:Nat->Addr) (s:St) (depth:Int) (R:Ending->World->Prop) (hdk:depth + 1<=50) (h0:0<=depth) (hm:yR m z) (hE:EnvOk w E) (hN:NRep w E U bm hd s depth) (hxm:m≠ .exact) (hx95: ¬tx=95) (hy95: ¬ty=95) (hx283: ¬tx=283) (hy283: ¬ty=283) (hx106: ¬tx=106) (hy106: ¬ty=106) (an:Nat) (c0 c1 c2 c3 c4 c5 c9 c10:Value) (hnA: ¬E.A an) (hnb:w.heap[an]?=some (.cells #[c0,c1,c2,c3,c4,c5,.int .u32 15,.iface ty py,.iface ty py,c9,c10] 171 (0,0))) (hea: ∀w',Fr E.A w w'->(binOp .eql 103 (.iface tx px) (.iface 106 (.pointer (some ⟨an,0,none⟩)))).run Tryz.prog w'= .ok (.bool false) w') (heq: ∀w',Fr E.A w w'->(binOp .eql 103 (.iface tx px) (.iface ty py)).run Tryz.prog w'= .ok (.bool false) w') (hne: ∀w',Fr E.A w w'->(binOp .neq 103 (.iface tx px) (.iface ty py)).run Tryz.prog w'= .ok (.bool true) w') (hsw: ∀(a:Act) (w1:World) (o:Int),Sw E w U bm hd s depth m o (.iface tx px) (.iface ty py) a w1->Code.wp Tryz.prog yN (bodyPostD Tryz.prog Tryz.f132 R) a w1),
  Calls Tryz.prog 132 #[.pointer (some ⟨U,0,none⟩),.iface tx px,.iface 106 (.pointer (some ⟨an,0,none⟩)),.int .u64 z,.pointer none] w R)/\
 (∀ {E:GEnv} (tx ty:TypeId) (px py:Value) (m:Uni.Mode) (z:Int) (w:World) (U bm:Nat) (hd:Nat->Addr) (s:St) (depth:Int) (R:Ending->World->Prop) (hdk:depth + 1<=50) (h0:0<=depth) (hm:yR m z) (hE:EnvOk w E) (hN:NRep w E U bm hd s depth) (hxm:m≠ .exact) (hx95: ¬tx=95) (hy95: ¬ty=95) (hx283: ¬tx=283) (hy283: ¬ty=283) (hx106: ¬tx=106) (hy106: ¬ty=106) (an:Nat) (c0 c1 c2 c3 c4 c5 c9 c10:Value) (hnA: ¬E.A an) (hnb:w.heap[an]?=some (.cells #[c0,c1,c2,c3,c4,c5,.int .u32 15,.iface ty py,.iface ty py,c9,c10] 171 (0,0))) (hea: ∀w',Fr E.A w w'->(binOp .eql 103 (.iface 106 (.pointer (some ⟨an,0,none⟩))) (.iface tx px)).run Tryz.prog w'= .ok (.bool false) w') (heq: ∀w',Fr E.A w w'->(binOp .eql 103 (.iface tx px) (.iface ty py)).run Tryz.prog w'= .ok (.bool false) w') (hne: ∀w',Fr E.A w w'->(binOp .neq 103 (.iface tx px) (.iface ty py)).run Tryz.prog w'= .ok (.bool true) w') (hsw: ∀(a:Act) (w1:World) (o:Int),Sw E w U bm hd s depth m o (.iface tx px) (.iface ty py) a w1->Code.wp Tryz.prog yN (bodyPostD Tryz.prog Tryz.f132 R) a w1),
  Calls Tryz.prog 132 #[.pointer (some ⟨U,0,none⟩),.iface 106 (.pointer (some ⟨an,0,none⟩)),.iface tx px,.int .u64 z,.pointer none] w R):=by
 refine ⟨@fun E tx ty px py m z w U bm hd s depth R hdk h0 hm hE hN hxm hx95 hy95 hx283 hy283 hx106 hy106 hpy hea hne hsw=>have tg:Fin 1:=0;?_,@fun E tx ty px py m z w U bm hd s depth R hdk h0 hm hE hN hxm hx95 hy95 hx283 hy283 hx106 hy106 hpy hea hne hsw=>have tg:Fin 2:=0;?_,@fun E tx ty px py m z w U bm hd s depth R hdk h0 hm hE hN hxm hx95 hy95 hx283 hy283 hx106 hy106 hpy hpx hea hne hsw=>have tg:Fin 3:=0;?_,@fun E tx ty px py m z w U bm hd s depth R hdk h0 hm hE hN hxm hx95 hy95 hx283 hy283 hx106 hy106 hpy hpx hea hne hsw=>have tg:Fin 4:=0;?_,@fun E tx ty px py m z w U bm hd s depth R hdk h0 hm hE hN hxm hx95 hy95 hx283 hy283 hx106 hy106 hea hne hsw=>have tg:Fin 5:=0;?_,@fun E tx ty px py m z w U bm hd s depth R hdk h0 hm hE hN hxm hx95 hy95 hx283 hy283 hx106 hy106 hea hne hsw=>have tg:Fin 6:=0;?_,@fun E tx ty px py m z w U bm hd s depth R hdk h0 hm hE hN hxm hx95 hy95 hx283 hy283 hx106 hy106 an c0 c1 c2 c3 c4 c5 c9 c10 hnA hnb hea heq hne hsw=>have tg:Fin 7:=0;?_,@fun E tx ty px py m z w U bm hd s depth R hdk h0 hm hE hN hxm hx95 hy95 hx283 hy283 hx106 hy106 an c0 c1 c2 c3 c4 c5 c9 c10 hnA hnb hea heq hne hsw=>have tg:Fin 8:=0;?_⟩
 all_goals
  first
  |first | rename Fin 1=>tg | rename Fin 2=>tg
   obtain ⟨ay,rfl⟩:=hpy;subst hy106
  |first | rename Fin 3=>tg | rename Fin 4=>tg
   obtain ⟨ay,rfl⟩:=hpy;obtain ⟨ax,rfl⟩:=hpx;subst hy106;subst hx106
  |skip
  have HEA:=hid hea;have HNE:=hid hne;have HSW:=hid hsw
  first
  |rename Fin 3=>tg
   have HLIT:=hid (show decide (106≠106/\106≠95)=false by simp);have HTP:=hid (show decide (106=95)=false by decide);have hand:=and2_ex hm hxm
  |rename Fin 4=>tg
   have HLIT:=hid (show decide (106≠106/\106≠95)=false by simp);have HTP:=hid (show decide (106=95)=false by decide);have hand:=and2_in hm hxm
  |rename Fin 5=>tg
   have HLIT:=hid (show decide (tx≠106/\tx≠95)=true by simp [hx106,hx95]);have HTP:=hid (show decide (ty=95)=false by simp [hy95]);have hand:=and2_ex hm hxm
  |rename Fin 6=>tg
   have HLIT:=hid (show decide (tx≠106/\tx≠95)=true by simp [hx106,hx95]);have HTP:=hid (show decide (ty=95)=false by simp [hy95]);have hand:=and2_in hm hxm
  |first | rename Fin 1=>tg | rename Fin 2=>tg
   have HLIT:=hid (show decide (tx≠106/\tx≠95)=true by simp [hx106,hx95]);have HTP:=hid (show decide (106=95)=false by decide);have hand:=and2_ex hm hxm
  |have HEQ:=hid heq;have HNA:=hid hnA;have HNB:=hid hnb;clear heq hnA hnb
   have HLIT:=hid (show decide (tx≠106/\tx≠95)=true by simp [hx106,hx95]);have HTP:=hid (show decide (ty=95)=false by simp [hy95]);have hand:=and2_in hm hxm
  clear hea hne hsw hxm;have A106:=zD p106;have hmf: ∀(fn:Fn) (first cap:Array Value) (w:World),(Instr.makeFunc fn first cap).run Tryz.prog w= .ok (.func fn first cap) w:=fun _ _ _ _=>rfl
  have hnot: ∀(x:Bool) (w:World),(Op.unary .not (.bool x)).run Tryz.prog w= .ok (.bool (!x)) w:=fun _ _=>rfl
  have hN1:=hN.enter (.cells #[.pointer (some ⟨U,0,none⟩)] 173);have FA1:Fr E.A w ((w.setCell ⟨U,2,none⟩ (.int .i64 (depth + 1))).alloc (.cells #[.pointer (some ⟨U,0,none⟩)] 173)):=((Fr.refl E.A w).setCell (p:=⟨U,2,none⟩) (.inl hN.AU) _).alloc _;have SC:(w.setCell ⟨U,2,none⟩ (.int .i64 (depth + 1))).heap.size=w.heap.size:=by simp [World.setCell]
  have BX1:((w.setCell ⟨U,2,none⟩ (.int .i64 (depth + 1))).alloc (.cells #[.pointer (some ⟨U,0,none⟩)] 173)).heap[w.heap.size]?=some (.cells #[.pointer (some ⟨U,0,none⟩)] 173 (0,0)):=by have h:=heap_alloc_new (w.setCell ⟨U,2,none⟩ (.int .i64 (depth + 1))) (.cells #[.pointer (some ⟨U,0,none⟩)] 173);rw [SC] at h;exact h
  have hE1:=hE.keep FA1;have qu:=zA hN.u;have fu:=zC hN.u;have szu:=bl (qu 0);dsimp only at szu;have hnn: ∀(w:World),(binOp .neq 106 (.pointer none) (.pointer none)).run Tryz.prog w= .ok (.bool false) w:=fun w=>rfl
  have hnq: ∀(a:Addr) (w:World),(binOp .neq 106 (.pointer (some a)) (.pointer none)).run Tryz.prog w= .ok (.bool true) w:=fun a w=>rfl
  have hno: ∀(w:World),(binOp .neq 95 (.pointer none) (.pointer none)).run Tryz.prog w= .ok (.bool false) w:=fun w=>rfl
  have NB:=hid (fun h=>Nat.lt_irrefl _ (hE.below w.heap.size h): ¬E.A w.heap.size);have hea:=HEA.out _ FA1;have HN1:=hid hN1;have FA:=hid FA1;have BX:=hid BX1;have HE:=hid hE1;have HM:=hid hm;clear hN1 FA1 BX1 hE hE1 hN SC;go_enter_defers Tryz.func132,Tryz.ntmps132;go_wp2_with fail
  generalize ((w.setCell ⟨U,2,none⟩ (.int .i64 (depth + 1))).alloc (.cells #[.pointer (some ⟨U,0,none⟩)] 173))=WX at HN1 FA BX HE hea ⊢;clear qu fu szu;have qu:=zA HN1.out.u;have fu:=zC HN1.out.u;have szu:=bl (qu 0);have qb:=zA BX.out;have szb:=bl (qb 0);dsimp only at szu szb;refine (zM _ _ _ (by first | decide | assumption)).mono ?_;rintro e w1 ⟨rfl,rfl⟩;go_wp2_with fail
  refine (zM _ _ _ (by first | decide | assumption)).mono ?_;rintro e w1 ⟨rfl,rfl⟩;go_wp2_with fail
  refine (yI _ _ _ (by first | decide | assumption)).mono ?_;rintro e w1 ⟨rfl,rfl⟩;go_wp2_with fail
  first
  |first | rename Fin 1=>tg | rename Fin 5=>tg | rename Fin 6=>tg | rename Fin 7=>tg
   refine (yH _ _ (by first | decide | assumption) (by first | decide | assumption)).mono ?_;rintro e w1 ⟨rfl,rfl⟩;go_wp2_with fail
  |skip
  refine (yI _ _ _ (by first | decide | assumption)).mono ?_;rintro e w1 ⟨rfl,rfl⟩;go_wp2_with fail
  first
  |rename Fin 3=>tg
   have BO1:=hid (fun (n:Nat)=>yH (U:=U) (w:=w1.drewN n) 106 (.pointer (some ax)) (by first | decide | assumption) (by first | decide | assumption));have BO2:=hid (fun (n:Nat)=>yH (U:=U) (w:=w1.drewN n) 106 (.pointer (some ay)) (by first | decide | assumption) (by first | decide | assumption))
  |rename Fin 4=>tg
   refine (isTypeLit_any _ _ _ (by first | decide | assumption)).mono ?_;rintro e w1 ⟨rfl,rfl⟩;have hlit:=HLIT.out;rw [hlit];clear hlit;go_wp2_with fail
   have BO1:=hid (fun (n:Nat)=>yH (U:=U) (w:=w1.drewN n) 106 (.pointer (some ax)) (by first | decide | assumption) (by first | decide | assumption));have BO2:=hid (fun (n:Nat)=>yH (U:=U) (w:=w1.drewN n) 106 (.pointer (some ay)) (by first | decide | assumption) (by first | decide | assumption))
  |first | rename Fin 1=>tg | rename Fin 2=>tg
   have BO1:=hid (fun (n:Nat)=>yH (U:=U) (w:=w1.drewN n) tx px (by first | decide | assumption) (by first | decide | assumption));have BO2:=hid (fun (n:Nat)=>yH (U:=U) (w:=w1.drewN n) 106 (.pointer (some ay)) (by first | decide | assumption) (by first | decide | assumption))
  |first | rename Fin 5=>tg | rename Fin 6=>tg
   have BO1:=hid (fun (n:Nat)=>yH (U:=U) (w:=w1.drewN n) tx px (by first | decide | assumption) (by first | decide | assumption));have BO2:=hid (fun (n:Nat)=>yH (U:=U) (w:=w1.drewN n) ty py (by first | decide | assumption) (by first | decide | assumption))
  |refine (isTypeLit_any _ _ _ (by first | decide | assumption)).mono ?_
   rintro e w1 ⟨rfl,rfl⟩;have hlit:=HLIT.out;rw [hlit];clear hlit;go_wp2_with fail
   refine (underlying_go an _ _ _ _ _ _ _ _ _ _ _ (FA.out.heap HNA.out HNB.out)).mono ?_;rintro e w1 ⟨rfl,rfl⟩;go_wp2_with fail
   refine (wN _ _ _ (by first | decide | assumption)).mono ?_;rintro e w1 ⟨rfl,rfl⟩;have htp:=HTP.out;rw [htp];clear htp;go_wp2_with fail
   refine (wS _).mono ?_;rintro e w1 ⟨rfl,rfl⟩;have heq:=HEQ.out _ FA.out;go_wp2_with fail
   refine (zM _ _ _ (by first | decide | assumption)).mono ?_;rintro e w1 ⟨rfl,rfl⟩;go_wp2_with fail
   refine (zM _ _ _ (by first | decide | assumption)).mono ?_;rintro e w1 ⟨rfl,rfl⟩;go_wp2_with fail
   have BO1:=hid (fun (n:Nat)=>yH (U:=U) (w:=w1.drewN n) tx px (by first | decide | assumption) (by first | decide | assumption));have BO2:=hid (fun (n:Nat)=>yH (U:=U) (w:=w1.drewN n) ty py (by first | decide | assumption) (by first | decide | assumption))
  go_quiet (first | (go_at_call 162;with_reducible exact Calls.quiet_of_same (BO1.out _)) | (go_at_call 162;with_reducible exact Calls.quiet_of_same (BO2.out _)));have FJ1:=hid ((Fr.refl (fun _=>False) w1).drawn nq);have FA2:=hid (FA.out.trans FJ1.out.sub);have BX2:=hid (FJ1.out.heap id BX.out);have HN2:=hid (HN1.out.keep FJ1.out);have HE2:=hid (HE.out.keep FJ1.out.sub);generalize w1.drewN nq=w2 at FJ1 FA2 BX2 HN2 HE2 ⊢
  first
  |first | rename Fin 7=>tg | rename Fin 8=>tg
   clear BO1 BO2 qu fu szu qb szb FA BX HN1 HE hea FJ1 heq
  |clear BO1 BO2 qu fu szu qb szb FA BX HN1 HE hea FJ1
  have qb:=zA BX2.out;have szb:=bl (qb 0);have qu:=zA HN2.out.u;have szu:=bl (qu 0);dsimp only at szb szu;have hnq2:=HNE.out _ FA2.out;go_wp2_with fail
  refine (zM _ _ _ (by first | decide | assumption)).mono ?_;rintro e w1 ⟨rfl,rfl⟩;go_wp2_with fail
  refine (zM _ _ _ (by first | decide | assumption)).mono ?_;rintro e w1 ⟨rfl,rfl⟩;go_wp2_with fail
  refine (wS _).mono ?_;rintro e w1 ⟨rfl,rfl⟩;go_wp2_with fail
  refine (wN _ _ _ (by first | decide | assumption)).mono ?_;rintro e w1 ⟨rfl,rfl⟩;have htp:=HTP.out;rw [htp];clear htp;obtain ⟨o,hem⟩:=HM.out.em;rcases hem with ⟨hb1,ho,hz⟩ | ⟨hb1,hb2,hz⟩
  ·subst ho
   have HZ:=hid hz;clear hz;go_wp2_with fail
   refine (zM _ _ _ (by first | decide | assumption)).mono ?_;rintro e w1 ⟨rfl,rfl⟩;go_wp2_with fail
   refine (zM _ _ _ (by first | decide | assumption)).mono ?_;rintro e w1 ⟨rfl,rfl⟩;dsimp only
   repeat (first | exact HSW.out _ _ _ ⟨rfl,rfl,rfl,⟨_,rfl,HM.out⟩,rfl,rfl,rfl,rfl,HZ.out,NB.out,FA2.out,BX2.out,HN2.out,HE2.out⟩ | go_step)
  ·have HZ:=hid hz;clear hz
   go_wp2_with fail
   refine (zM _ _ _ (by first | decide | assumption)).mono ?_;rintro e w1 ⟨rfl,rfl⟩;go_wp2_with fail
   refine (zM _ _ _ (by first | decide | assumption)).mono ?_;rintro e w1 ⟨rfl,rfl⟩;dsimp only
   repeat (first | exact HSW.out _ _ _ ⟨rfl,rfl,rfl,⟨_,rfl,HM.out⟩,rfl,rfl,rfl,rfl,HZ.out,NB.out,FA2.out,BX2.out,HN2.out,HE2.out⟩ | go_step)
end Go.Proofs.YtpekidjfbinekaaGreatDoor
