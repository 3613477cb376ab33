/- DeleteRangeReuse: a scope in a scope, the parts of its code, its frames. -/
import Derived.ScopeJumps
import Derived.WalkMore
import Derived.Laws.CopyRow
import Derived.Test.YtnohimhihombmaaA13
namespace Go.Proofs.Ytnohimhihombmaa
set_option linter.unusedSimpArgs false
set_option linter.unusedVariables false
set_option maxRecDepth 100000
set_option maxHeartbeats 40000000
section
open Go.RowKit
section
variable {P:Program} {a:Act} {w:World} {Q:Exit→Act→World→Prop}
theorem kgF {x y:Code} (M:Act→World→Prop) (h:x.wp P (Exit.then M Q) a w) (h2:∀a w,M a w→y.wp P Q a w):(Code.seq x y).wp P Q a w:=by
 refine wp_seq (wp_mono h fun e a w he=>?_)
 cases e with
 | normal=>exact h2 a w he
 | _=>exact he
theorem wp_seq_mid2 {x y z:Code} (M:Act→World→Prop) (h:x.wp P (Exit.then (y.wp P (Exit.then M Q)) Q) a w) (h2:∀a w,M a w→z.wp P Q a w):(Code.seq x (Code.seq y z)).wp P Q a w:=by
 refine wp_seq (wp_mono h fun e a w he=>?_)
 cases e with
 | normal=>exact kgF M he h2
 | _=>exact he
end
theorem arr_lit (A:Array Value) (n:Nat) (h:A.size=n):A=((List.range n).map fun i=>(A[i]?).getD undef).toArray:=by
 refine Array.ext_getElem? fun i=>?_
 simp only [List.getElem?_toArray,List.getElem?_map]
 by_cases hi:i < n
 ·rw [List.getElem?_range hi]
  show A[i]?=some ((A[i]?).getD undef)
  rw [Array.getElem?_eq_getElem (by omega)]
  rfl
 ·rw [List.getElem?_eq_none (by simp;omega),Array.getElem?_eq_none (by omega)];rfl
end
section
open Go.RowKit
def jumpO (l l0:Nat) (J:Act→World→Prop) (Q:Exit→Act→World→Prop):Exit→Act→World→Prop
 | .goto l',a,w=>(l'=l∧J a w)∨(l'=l0∧Q (.goto l0) a w)
 | e,a,w=>Q e a w
section
variable {P:Program} {a:Act} {w:World} {Q:Exit→Act→World→Prop}
theorem wp_scope_out {c rest:Code} (l l0:Nat) (J:Act→World→Prop) (μ:Act→World→Nat) (hf:findLabel c l=some rest) (hf0:findLabel c l0=none)
  (first:c.wp P (jumpO l l0 J Q) a w)
  (pass:∀a w,J a w→rest.wp P (jumpO l l0 (fun a' w'=>J a' w'∧μ a' w' < μ a w) Q) a w):(Code.scope c).wp P Q a w:=by
 intro b k cs
 have hg:gotoIn l (.inScope c::k)=some (.code rest::.inScope c::k):=by simp [gotoIn,hf]
 have hg0:gotoIn l0 (.inScope c::k)=gotoIn l0 k:=by simp [gotoIn,hf0]
 have key:∀n a w,μ a w=n→J a w→∃e a' w',Q e a' w'∧Arrives P (lone (b.at a (.code rest::.inScope c::k)) cs w) b k cs e a' w':=by
  intro n
  induction n using Nat.strongRecOn with
  | _ n ih =>
   intro a w hn hJ
   obtain ⟨e,a₁,w₁,hq,harr⟩:=pass a w hJ b (.inScope c::k) cs
   cases e with
   | normal=>exact ⟨.normal,a₁,w₁,hq,Steps.trans harr (.one step_inScope)⟩
   | exit id=>exact ⟨.exit id,a₁,w₁,hq,fun k' hk=>harr k' (by simp [exitTo,hk])⟩
   | goto l' =>
    rcases hq with ⟨rfl,hJ',hlt⟩ | ⟨rfl,hq⟩
    ·obtain ⟨e₂,a₂,w₂,hq₂,harr₂⟩:=ih _ (by omega) a₁ w₁ rfl hJ'
     exact ⟨e₂,a₂,w₂,hq₂,.of_steps (harr _ hg) harr₂⟩
    ·exact ⟨_,a₁,w₁,hq,fun k' hk=>harr k' (by rw [hg0];exact hk)⟩
   | ret=>exact ⟨_,a₁,w₁,hq,harr⟩
   | panic ch=>exact ⟨_,a₁,w₁,hq,harr⟩
   | outgrown=>exact ⟨_,a₁,w₁,hq,harr⟩
 obtain ⟨e,a₁,w₁,hq,harr⟩:=first b (.inScope c::k) cs
 cases e with
 | normal=>exact ⟨.normal,a₁,w₁,hq,.head step_scope (Steps.trans harr (.one step_inScope))⟩
 | exit id=>exact ⟨.exit id,a₁,w₁,hq,fun k' hk=>.head step_scope (harr k' (by simp [exitTo,hk]))⟩
 | goto l' =>
  rcases hq with ⟨rfl,hJ'⟩ | ⟨rfl,hq⟩
  ·obtain ⟨e₂,a₂,w₂,hq₂,harr₂⟩:=key _ a₁ w₁ rfl hJ'
   exact ⟨e₂,a₂,w₂,hq₂,.of_steps (.head step_scope (harr _ hg)) harr₂⟩
  ·exact ⟨_,a₁,w₁,hq,fun k' hk=>.head step_scope (harr k' (by rw [hg0];exact hk))⟩
 | ret=>exact ⟨_,a₁,w₁,hq,.of_steps (.one step_scope) harr⟩
 | panic ch=>exact ⟨_,a₁,w₁,hq,.of_steps (.one step_scope) harr⟩
 | outgrown=>exact ⟨_,a₁,w₁,hq,.of_steps (.one step_scope) harr⟩
theorem wp_scope_labO {c1 rest:Code} (l l0:Nat) (J:Act→World→Prop) (μ:Act→World→Nat) (hf:findLabel (c1.seq ((Code.label l).seq rest)) l=some (.seq .skip rest)) (hf0:findLabel (c1.seq ((Code.label l).seq rest)) l0=none)
  (h1:c1.wp P (fun e a w=>e=.normal∧J a w) a w)
  (pass:∀a w,J a w→rest.wp P (jumpO l l0 (fun a' w'=>J a' w'∧μ a' w' < μ a w) Q) a w):(Code.scope (c1.seq ((Code.label l).seq rest))).wp P Q a w:=by
 have hj:∀a w,J a w→rest.wp P (jumpO l l0 J Q) a w:=fun a w hJ=>by
  refine wp_mono (pass a w hJ) fun e a' w' he=>?_
  cases e with
  | goto l'=>exact he.imp (fun h=>⟨h.1,h.2.1⟩) id
  | _=>exact he
 refine wp_scope_out l l0 J μ hf hf0 ?_ ?_
 ·refine wp_seq (wp_mono h1 ?_)
  rintro e a' w' ⟨rfl,hJ⟩
  refine wp_seq (wp_label ?_)
  exact hj a' w' hJ
 ·intro a' w' hJ
  refine wp_seq (wp_skip ?_)
  exact pass a' w' hJ
theorem wp_scope_lab2 {c rest:Code} (l:Nat) (J:Act→World→Prop) (μ:Act→World→Nat) (hf:findLabel c l=some (.seq .skip rest))
  (pass:∀a w,J a w→rest.wp P (Exit.jump l (fun a' w'=>J a' w'∧μ a' w' < μ a w) Q) a w)
  (first:(∀a w,J a w→rest.wp P (Exit.jump l J Q) a w)→c.wp P (Exit.jump l J Q) a w):(Code.scope c).wp P Q a w:=by
 have hj:∀a w,J a w→rest.wp P (Exit.jump l J Q) a w:=fun a w hJ=>by
  refine wp_mono (pass a w hJ) fun e a' w' he=>?_
  cases e with
  | goto l'=>exact ⟨he.1,he.2.1⟩
  | _=>exact he
 refine wp_scope_jumps l J μ hf (first hj) ?_
 intro a' w' hJ
 refine wp_seq (wp_skip ?_)
 exact pass a' w' hJ
end
def cL:Code→Code
 | .seq a _=>a
 | c=>c
def cR:Code→Code
 | .seq _ b=>b
 | c=>c
def cT:Code→Code
 | .cond _ a _=>a
 | c=>c
def cE:Code→Code
 | .cond _ _ a=>a
 | c=>c
def cI:Code→Code
 | .block _ a=>a
 | .loop a=>a
 | .scope a=>a
 | c=>c
def drB (f:Func):Code:=f.body.getD .skip
def drScope (f:Func):Code:=cI (cR (drB f))
def drRest (f:Func):Code:=cR (cR (cR (cR (cR (cR (cR (cR (cR (cR (cR (drScope f)))))))))))
def drBody (f:Func):Code:=cI (cI (cI (cI (cR (cR (cR (drRest f)))))))
def drNext (f:Func):Code:=cR (cR (drBody f))
def drBr (f:Func):Code:=cT (cR (cL (drNext f)))
def drTest (f:Func):Code:=cL (cL (drBr f))
def drPair (f:Func):Code:=cT (cR (cL (drBr f)))
def drFound (f:Func):Code:=cT (cR (cL (cR (drBr f))))
def drDown (f:Func):Code:=cR (cR (drBr f))
def drLeaf (f:Func):Code:=cR (drNext f)
def drBulk (f:Func):Code:=cT (cR (cL (cR (drLeaf f))))
def drLoop (f:Func):Code:=cL (cR (cR (drLeaf f)))
def drUp (f:Func):Code:=cR (cR (cR (drLeaf f)))
def kdJ (f:Nat→Value):Array Value:=#[f 0,f 1,f 2,f 3,f 4,f 5,f 6,f 7,f 8,f 9,f 10,f 11,f 12,f 13,f 14,f 15,f 16,f 17,f 18,f 19,f 20,f 21,f 22,f 23,f 24,f 25,f 26,f 27,f 28,f 29,f 30,f 31,f 32,f 33,f 34,f 35,f 36,f 37,f 38,f 39,f 40,f 41,f 42,f 43,f 44,f 45,f 46,f 47,f 48,f 49,f 50,f 51,f 52,f 53,f 54,f 55,f 56,f 57,f 58,f 59,f 60,f 61,f 62,f 63,f 64,f 65,f 66,f 67,f 68,f 69,f 70,f 71,f 72,f 73,f 74,f 75,f 76,f 77,f 78,f 79,f 80,f 81,f 82,f 83,f 84,f 85,f 86,f 87,f 88,f 89,f 90,f 91,f 92,f 93,f 94,f 95,f 96,f 97,f 98,f 99,f 100,f 101,f 102,f 103,f 104,f 105,f 106,f 107,f 108,f 109,f 110,f 111,f 112,f 113,f 114,f 115,f 116,f 117,f 118,f 119,f 120,f 121,f 122,f 123,f 124,f 125,f 126,f 127,f 128,f 129,f 130,f 131,f 132,f 133,f 134,f 135,f 136,f 137,f 138,f 139,f 140,f 141,f 142,f 143,f 144,f 145,f 146,f 147,f 148,f 149,f 150,f 151,f 152,f 153,f 154,f 155,f 156,f 157,f 158,f 159,f 160,f 161,f 162,f 163,f 164,f 165,f 166,f 167,f 168,f 169,f 170,f 171,f 172,f 173,f 174,f 175,f 176,f 177,f 178,f 179,f 180,f 181,f 182,f 183,f 184,f 185,f 186,f 187,f 188,f 189,f 190,f 191,f 192,f 193,f 194,f 195,f 196,f 197,f 198,f 199,f 200,f 201,f 202,f 203,f 204,f 205,f 206,f 207,f 208,f 209,f 210,f 211,f 212,f 213,f 214,f 215,f 216,f 217,f 218,f 219,f 220,f 221,f 222,f 223,f 224,f 225,f 226,f 227,f 228,f 229,f 230,f 231,f 232,f 233,f 234,f 235,f 236,f 237,f 238,f 239,f 240,f 241,f 242,f 243,f 244,f 245,f 246,f 247,f 248,f 249,f 250,f 251,f 252,f 253,f 254,f 255,f 256,f 257,f 258,f 259,f 260,f 261,f 262,f 263,f 264,f 265,f 266,f 267,f 268,f 269,f 270,f 271,f 272,f 273,f 274,f 275,f 276,f 277,f 278,f 279,f 280,f 281,f 282,f 283,f 284,f 285,f 286,f 287,f 288,f 289,f 290,f 291,f 292,f 293,f 294,f 295,f 296,f 297,f 298,f 299,f 300,f 301,f 302,f 303,f 304,f 305,f 306,f 307,f 308,f 309,f 310,f 311,f 312,f 313,f 314,f 315,f 316,f 317,f 318,f 319,f 320,f 321,f 322,f 323,f 324,f 325,f 326,f 327,f 328,f 329,f 330,f 331,f 332,f 333,f 334,f 335,f 336,f 337,f 338,f 339,f 340,f 341,f 342,f 343,f 344,f 345,f 346,f 347,f 348,f 349,f 350,f 351,f 352,f 353,f 354,f 355,f 356,f 357,f 358,f 359,f 360,f 361,f 362,f 363,f 364,f 365,f 366,f 367,f 368,f 369,f 370,f 371,f 372,f 373,f 374,f 375,f 376,f 377,f 378,f 379,f 380,f 381,f 382,f 383,f 384,f 385,f 386,f 387,f 388,f 389,f 390,f 391,f 392,f 393,f 394,f 395,f 396,f 397,f 398,f 399,f 400,f 401,f 402,f 403,f 404,f 405,f 406,f 407,f 408,f 409,f 410,f 411,f 412,f 413,f 414,f 415,f 416,f 417,f 418,f 419,f 420,f 421,f 422,f 423,f 424,f 425,f 426,f 427,f 428,f 429,f 430,f 431,f 432,f 433,f 434,f 435,f 436,f 437,f 438,f 439,f 440,f 441,f 442,f 443,f 444,f 445,f 446,f 447,f 448,f 449,f 450,f 451,f 452,f 453,f 454,f 455,f 456,f 457,f 458,f 459,f 460,f 461,f 462,f 463,f 464,f 465,f 466,f 467,f 468,f 469,f 470,f 471,f 472,f 473,f 474,f 475,f 476,f 477,f 478,f 479,f 480,f 481,f 482,f 483,f 484,f 485,f 486,f 487,f 488,f 489,f 490,f 491,f 492,f 493,f 494,f 495,f 496,f 497,f 498,f 499,f 500,f 501,f 502,f 503,f 504,f 505,f 506,f 507,f 508,f 509,f 510,f 511,f 512,f 513,f 514,f 515,f 516,f 517,f 518,f 519,f 520,f 521,f 522,f 523,f 524,f 525,f 526,f 527,f 528,f 529,f 530,f 531,f 532,f 533,f 534,f 535,f 536,f 537,f 538,f 539,f 540,f 541,f 542,f 543,f 544,f 545,f 546,f 547,f 548,f 549,f 550,f 551,f 552,f 553,f 554,f 555,f 556,f 557,f 558,f 559,f 560,f 561,f 562,f 563,f 564,f 565,f 566,f 567,f 568,f 569,f 570,f 571,f 572,f 573,f 574,f 575,f 576,f 577,f 578,f 579,f 580,f 581,f 582,f 583,f 584,f 585,f 586,f 587,f 588,f 589,f 590,f 591,f 592,f 593,f 594,f 595,f 596,f 597,f 598,f 599,f 600,f 601,f 602,f 603,f 604,f 605,f 606,f 607,f 608,f 609,f 610,f 611,f 612,f 613,f 614,f 615,f 616,f 617,f 618,f 619,f 620,f 621,f 622,f 623,f 624,f 625,f 626,f 627,f 628,f 629,f 630,f 631,f 632,f 633,f 634,f 635,f 636,f 637,f 638,f 639,f 640,f 641,f 642,f 643,f 644,f 645,f 646,f 647,f 648,f 649,f 650,f 651,f 652,f 653,f 654,f 655,f 656]
theorem range657 (f:Nat→Value):((List.range 657).map f).toArray=kdJ f:=by rfl
theorem frame657 (A:Array Value) (h:A.size=657):∃f:Nat→Value,A=kdJ f:=⟨fun i=>(A[i]?).getD undef,(arr_lit A 657 h).trans (range657 _)⟩
end
end Go.Proofs.Ytnohimhihombmaa
