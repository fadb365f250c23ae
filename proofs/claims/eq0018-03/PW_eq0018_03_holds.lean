import PyProof.Rows.All
import Wide.All
import OpenK.AllK
import Wide.FinOn
import PyProof.Rows.GenRows
import PyProof.CallStr
import PyProof.Rows.Range3
import PyProof.FString4
import PyProof.FString5
import PyProof.Rows.FStr
import PyProof.Rows.SortRev
import PyProof.EnumMake
import PyProof.Draws
import PyProof.ListMulRoad
import PyProof.TupleCall
import PyProof.Rows.SortWalk
import PyProof.SliceMore
import PyProof.DictCompW
import PyProof.DictDisplay
import PyProof.SetRoads
import PyProof.ConsumeS
import PyProof.Rows.SetFrom
import Lean
import PySem.Challenge.RW_eq0018_03
set_option Elab.async false
section
open PySem PySem.W PyProof.Rows
set_option Elab.async false
set_option maxRecDepth 100000
set_option maxHeartbeats 8000000
namespace Mine
/-- the head is proved behind the walk: here the written part of the heap alone is laid -/
theorem later {r : OpenRow} (hw : r.toRowW.promised) (hc : r.Holds) : r.Holds := hc
local macro_rules | `(tactic| o_head ($f $k $a $e)) => `(tactic| refine later ?hw ?hc)
open_top hd for PySem.Challenge.rw_eq0018_03
end Mine
end
section
open PySem PySem.W PyProof.Rows Builtin
set_option Elab.async false
set_option maxRecDepth 100000
set_option maxHeartbeats 8000000
set_option autoImplicit false
namespace Mine
def head.tw10172395084087279453 : Unit := ()
def head.tw10221513558411930407 : Unit := ()
def head.tw10341965536747712878 : Unit := ()
def head.tw10573561805867645650 : Unit := ()
def head.tw11060586695869742759 : Unit := ()
def head.tw11062844159666043395 : Unit := ()
def head.tw1113026022037541615 : Unit := ()
def head.tw1120683029170811851 : Unit := ()
def head.tw11572813720805307406 : Unit := ()
def head.tw12144605746681571689 : Unit := ()
def head.tw12596594776246401625 : Unit := ()
def head.tw12721383412243605504 : Unit := ()
def head.tw12824857690660426397 : Unit := ()
def head.tw13056518562183201667 : Unit := ()
def head.tw13375042616024017712 : Unit := ()
def head.tw13390592898632580015 : Unit := ()
def head.tw13757985540688938387 : Unit := ()
def head.tw14818060551437736151 : Unit := ()
def head.tw15377570718067525505 : Unit := ()
def head.tw15938323815607600166 : Unit := ()
def head.tw16134631096216332965 : Unit := ()
def head.tw164875907932680196 : Unit := ()
def head.tw17203196910622656194 : Unit := ()
def head.tw17425878245638884374 : Unit := ()
def head.tw17871959236147969034 : Unit := ()
def head.tw18388891672070397326 : Unit := ()
def head.tw2346233315218137286 : Unit := ()
def head.tw3306014811536218513 : Unit := ()
def head.tw4090538686069576298 : Unit := ()
def head.tw4548117842300790854 : Unit := ()
def head.tw4998416003083415832 : Unit := ()
def head.tw5747429230200960747 : Unit := ()
def head.tw6665376523877112928 : Unit := ()
def head.tw6957451863341949609 : Unit := ()
def head.tw7509922882478873975 : Unit := ()
def head.tw7536645888790732370 : Unit := ()
def head.tw7656656064613846209 : Unit := ()
def head.tw7776034092063851801 : Unit := ()
def head.tw8680809818842733261 : Unit := ()
def head.tw8812403067679244497 : Unit := ()
def head.tw8921995901638575715 : Unit := ()
def head.tw9276144551764123601 : Unit := ()
def head.tw9318632058080528944 : Unit := ()
def head.tw9744433000704399080 : Unit := ()
/-- what the walk of the law must show -/
def WalkP : Prop := ∀ (w : World) (s₁ : Shared) (mg mb : Str → Option Value), (hd.heap_39 w.params).In s₁.heap → s₁.heap.get? 448 = some (tabObj #[]) → s₁.heap.get? 793 = some (tabObj #[]) → s₁.heap.NoLimit → s₁.heap.Ns mainGlobals mg → s₁.heap.Ns builtinsNs mb →
    (∀ x : Str, x ≠ "__name__" → mb x = bootBuiltins x) → (∃ bm ob, BMod s₁.heap mainGlobals mg bm ob) → s₁.gens = #[] → ∀ (a : Addr), mg (Str.ofString "law") = some (.ref a) →
    ∀ (l : Addr) (vs : List Value) (xs : List Int), s₁.heap.IsList l vs.toArray → IntsAre vs xs → xs.length ≤ 63 →
      wpAny (model PySem.Challenge.rw_eq0018_03.prog w) callerA (PySem.call (.ref a) [.ref l]) (fun v s' => v = .bool true ∧ OldK s₁.heap s'.heap ∧ s'.os = s₁.os ∧ AllBare s'.gens) (fun _ _ => False) s₁
set_option Elab.async true in
theorem head (walk : WalkP) : PySem.Challenge.rw_eq0018_03.Holds := by
  refine' (fun {T : Prop} (hc : T) (k : PySem.Challenge.rw_eq0018_03.Holds) => k) ?hc ?mn
  case mn =>
    w_on
    o_law
    o_head (PySem.W.kmHook hd.heap_39 [2, 3, 32, 34, 35, 37, 38, 46, 48, 49, 51, 52, 53, 54, 55, 56, 57, 60, 61, 63, 64, 69, 70, 78, 80, 81, 83, 84, 85, 87, 88, 90, 91, 92, 94, 95, 97, 98, 99, 101, 102, 104, 105, 106, 108, 109, 111, 112, 113, 115, 116, 118, 119, 120, 122, 123, 125, 126, 127, 129, 130, 132, 133, 134, 136, 137, 139, 140, 141, 142, 143, 144, 145, 155, 157, 158, 160, 161, 162, 163, 164, 165, 166, 168, 169, 171, 172, 173, 175, 176, 178, 179, 180, 181, 183, 184, 186, 187, 188, 190, 191, 193, 194, 195, 197, 198, 200, 201, 202, 203, 205, 206, 208, 209, 210, 211, 212, 213, 214, 217, 224, 226, 227, 229, 230, 231, 233, 234, 236, 237, 238, 240, 241, 243, 244, 245, 247, 248, 250, 251, 252, 254, 255, 257, 258, 259, 261, 262, 264, 265, 266, 268, 269, 271, 272, 273, 274, 275, 278, 285, 287, 288, 290, 291, 292, 294, 295, 297, 298, 299, 301, 302, 304, 305, 306, 308, 309, 311, 312, 313, 315, 316, 318, 319, 320, 322, 323, 325, 326, 327, 329, 330, 332, 333, 334, 335, 336, 339, 346, 348, 349, 351, 352, 353, 356, 357, 358, 360, 361, 363, 364, 365, 367, 368, 370, 371, 372, 374, 375, 377, 378, 379, 381, 382, 384, 385, 386, 388, 389, 391, 392, 393, 395, 396, 398, 399, 400, 402, 403, 405, 406, 407, 409, 410, 412, 413, 414, 416, 417, 419, 420, 421, 423, 424, 426, 427, 428, 429, 430, 433, 440, 442, 443, 445, 446, 447, 450, 451, 452, 454, 455, 457, 458, 459, 461, 462, 464, 465, 466, 469, 470, 471, 473, 474, 476, 477, 478, 480, 481, 483, 484, 485, 487, 488, 490, 491, 492, 494, 495, 497, 498, 499, 501, 502, 504, 505, 506, 508, 509, 511, 512, 513, 514, 515, 518, 525, 527, 528, 530, 531, 532, 534, 535, 537, 538, 539, 540, 541, 542, 544, 545, 547, 548, 549, 551, 552, 554, 555, 556, 557, 558, 559, 561, 562, 564, 565, 566, 568, 569, 571, 572, 573, 575, 576, 578, 579, 580, 583, 584, 585, 587, 588, 590, 591, 592, 594, 595, 597, 598, 599, 601, 602, 604, 605, 606, 608, 609, 611, 612, 613, 615, 616, 618, 619, 620, 622, 623, 625, 626, 627, 629, 630, 632, 633, 634, 636, 637, 639, 640, 641, 642, 643, 646, 653, 655, 656, 658, 659, 660, 661, 662, 663, 666, 667, 668, 670, 671, 673, 674, 675, 677, 678, 680, 681, 682, 684, 685, 687, 688, 689, 691, 692, 694, 695, 696, 698, 699, 701, 702, 703, 705, 706, 708, 709, 710, 712, 713, 715, 716, 717, 718, 719, 722, 729, 731, 732, 734, 735, 736, 738, 739, 741, 742, 743, 745, 746, 748, 749, 750, 752, 753, 755, 756, 757, 759, 760, 762, 763, 764, 766, 767, 769, 770, 771, 773, 774, 776, 777, 778, 780, 781, 783, 784, 785, 787, 788, 790, 791, 792, 794, 795, 797, 798, 799, 801, 802, 804, 805, 806, 809, 810, 811, 813, 814, 816, 817, 818, 819, 820, 823, 830, 831, 833, 834, 836, 837, 838, 839, 841, 842, 844, 845, 846, 847, 848, 849, 852, 853, 854, 856, 857, 859, 860, 861, 863, 864, 866, 867, 868, 870, 871, 873, 874, 875, 877, 878, 880, 881, 882, 884, 885, 887, 888, 889, 890, 891, 894, 897, 898, 899, 901, 902, 904, 905, 906, 908, 909, 911, 912, 913, 915, 916, 918, 919, 920, 921, 923, 924, 926, 927, 928, 930, 931, 933, 934, 935, 937, 938, 940, 941, 942, 944, 945, 947, 948, 949, 951, 952, 954, 955, 956, 959, 960] (fun _ => by kernel_rfl) [448, 793])
    case hw => w_witness2
  intro w s₀ s₁ mg mb G Y a o pm cd doc dV kV ha hdat hrec hdf hmg hgens args vals as hpre hlay hrd hwl hlo
  clear hdat
  have hin := km_in_of Y
  have htab := km_tabs_of Y
  wrow_args hpre hlay hrd hwl hlo
  rename IntsAre _ _ => hI
  rename Heap.IsList _ _ _ => hL
  rename ¬ _ => hc
  refine wpAny_mono (walk w s₁ mg mb hin (htab 448 (by simp)) (htab 793 (by simp)) G.T.nolimit G.T.g G.T.b G.T.builtins (let ⟨bm, ob, M⟩ := bmod_of_top G.T; ⟨bm, ob, M⟩) hgens a hmg _ _ _ hL hI (by omega)) (fun v s' q => ?_) fun _ _ q => False.elim q
  obtain ⟨rfl, q1, q2, q3⟩ := q
  exact ⟨.inl ⟨_, _, [], rfl, raisesW_false (by wrow_none_raised), .bool true, by wrow_post, unshared_nil⟩, q1, q2, q3⟩
end Mine
#print axioms Mine.head
end
section
open PySem PySem.W PyProof.Rows
set_option Elab.async false
set_option maxRecDepth 100000
set_option autoImplicit false
set_option linter.unusedVariables false
namespace Mine
/-- no run takes a token back -/
theorem runs_toks {M : Model} {Γ : Ctx} {p : Pos} {t : Sem Fin} {fs : List Frame} {s s' : Shared} {e : End} (h : Runs M Γ p t fs s e s') : s.toks ≤ s'.toks := by
  induction h with
  | fresh _ ih => exact Nat.le_trans (Nat.le_succ _) ih
  | call _ _ ih1 ih2 => exact Nat.le_trans ih1 ih2
  | resumeFresh _ _ _ _ ih1 ih2 => exact Nat.le_trans ih1 ih2
  | resumeSuspended _ _ _ _ ih1 ih2 => exact Nat.le_trans ih1 ih2
  | segRet _ _ ih1 ih2 => exact Nat.le_trans ih1 ih2
  | segGen _ _ ih1 ih2 => exact Nat.le_trans ih1 ih2
  | segSuspGen _ _ _ _ ih1 ih2 => exact Nat.le_trans ih1 ih2
  | _ => first | exact Nat.le_refl _ | assumption
theorem wakes_toks {M : Model} {Γ : Ctx} {p : Pos} {g : Nat} {r : Resume} {s s' : Shared} {res : GenResult} (h : Wakes M Γ p g r s res s') : s.toks ≤ s'.toks := by
  unfold Wakes at h
  split at h
  · exact h.elim
  · split at h
    · obtain ⟨e, s1, h1, _, _, rfl⟩ := h
      have := runs_toks h1; exact this
    · obtain ⟨_, rfl⟩ := h; exact Nat.le_refl _
    · obtain ⟨_, rfl⟩ := h; exact Nat.le_refl _
  · obtain ⟨e, s1, h1, _, _, rfl⟩ := h
    have := runs_toks h1; exact this
  · obtain ⟨_, rfl⟩ := h; exact Nat.le_refl _
  · obtain ⟨_, rfl⟩ := h; exact Nat.le_refl _
theorem wp_toks {α : Type} {M : Model} {Γ : Ctx} (t : Sem α) : ∀ {Q : α → Pos → Shared → Prop} {E : Value → Pos → Shared → Prop} {p : Pos} {s : Shared}, Sem.wp M Γ t Q E p s → Sem.wp M Γ t (fun a p' s' => s.toks ≤ s'.toks ∧ Q a p' s') (fun a p' s' => s.toks ≤ s'.toks ∧ E a p' s') p s := by
  induction t with
  | pure a => intro Q E p s h; exact ⟨Nat.le_refl _, h⟩
  | raise a => intro Q E p s h; exact ⟨Nat.le_refl _, h⟩
  | unsupported a => intro Q E p s h; exact h
  | finish a => intro Q E p s h; exact h
  | rule a k ih => intro Q E p s h; exact ih _ h
  | «at» a k ih => intro Q E p s h; exact ih _ h
  | load a b k ih => intro Q E p s h; obtain ⟨o, h1, h2⟩ := h; exact ⟨o, h1, ih _ h2⟩
  | update a b f k ih => intro Q E p s h; exact ⟨h.1, ih _ h.2⟩
  | loadIfAlive a k ih => intro Q E p s h; exact ih _ h
  | point a k ih => intro Q E p s h; exact ih _ h
  | register a k ih => intro Q E p s h; exact h
  | alloc o k ih => intro Q E p s h; exact ih _ h
  | fresh k ih =>
    intro Q E p s h
    exact Sem.wp_mono M Γ _ (fun a p' s' q => ⟨Nat.le_trans (Nat.le_succ _) q.1, q.2⟩) (fun a p' s' q => ⟨Nat.le_trans (Nat.le_succ _) q.1, q.2⟩) p _ (ih _ h)
  | ask k ih => intro Q E p s h; exact ih _ h
  | choose src n k ih => intro Q E p s h; exact ⟨h.1, ih _ h.2⟩
  | os q l k ih => intro Q E p s h; exact ih _ h
  | call c h g l k ih =>
    intro Q E p s hh
    obtain ⟨r, s1, h1, h2⟩ := hh
    have h3 := runs_toks h1
    exact ⟨r, s1, h1, Sem.wp_mono M Γ _ (fun a p' s' q => ⟨Nat.le_trans h3 q.1, q.2⟩) (fun a p' s' q => ⟨Nat.le_trans h3 q.1, q.2⟩) p _ (ih _ h2)⟩
  | handled a k ih => intro Q E p s h; exact ih _ h
  | genState g k ih => intro Q E p s h; obtain ⟨o, h1, h2⟩ := h; exact ⟨o, h1, ih _ h2⟩
  | newGen c k ih => intro Q E p s h; exact ih _ h
  | resume g r l k ih =>
    intro Q E p s h
    obtain ⟨r, s1, h1, h2⟩ := h
    have h3 := wakes_toks h1
    exact ⟨r, s1, h1, Sem.wp_mono M Γ _ (fun a p' s' q => ⟨Nat.le_trans h3 q.1, q.2⟩) (fun a p' s' q => ⟨Nat.le_trans h3 q.1, q.2⟩) p _ (ih _ h2)⟩
  | stack k ih => intro Q E p s h; exact ih _ h
  | thread k ih => intro Q E p s h; exact ih _ h
  | _ => intro Q E p s h; exact h.elim
theorem wpAny_toks {α : Type} {M : Model} {A : Around} {t : Sem α} {Q : α → Shared → Prop} {E : Value → Shared → Prop} {s : Shared} (h : wpAny M A t Q E s) : wpAny M A t (fun a s' => s.toks ≤ s'.toks ∧ Q a s') (fun a s' => s.toks ≤ s'.toks ∧ E a s') s :=
  fun Γ p hΓ => wp_toks t (h Γ p hΓ)
theorem wpAny_tk {α : Type} {M : Model} {A : Around} {t : Sem α} {Q : α → Shared → Prop} {E : Value → Shared → Prop} {s : Shared} (h : wpAny M A t (fun a s' => s.toks ≤ s'.toks → Q a s') (fun a s' => s.toks ≤ s'.toks → E a s') s) : wpAny M A t Q E s :=
  wpAny_mono (wpAny_toks h) (fun _ _ q => q.2 q.1) fun _ _ q => q.2 q.1
theorem codeAny_toks {M : Model} {A : Around} {c : Code} {R : Result → Shared → Prop} {s : Shared} (h : codeAny M A c R s) : codeAny M A c (fun r s' => s.toks ≤ s'.toks ∧ R r s') s :=
  fun Γ p h1 h2 => let ⟨r, s', h3, h4⟩ := h Γ p h1 h2; ⟨r, s', h3, runs_toks h3, h4⟩
theorem codeAny_tk {M : Model} {A : Around} {c : Code} {R : Result → Shared → Prop} {s : Shared} (h : codeAny M A c (fun r s' => s.toks ≤ s'.toks → R r s') s) : codeAny M A c R s :=
  fun Γ p h1 h2 => let ⟨r, s', h3, h4⟩ := h Γ p h1 h2; ⟨r, s', h3, h4 (runs_toks h3)⟩
end Mine
end
section
open PySem PySem.W PyProof.Rows
set_option Elab.async false
set_option maxRecDepth 100000
set_option autoImplicit false
set_option linter.unusedVariables false
namespace Mine

/-- objects as this layer sees them -/
inductive AO where
  | ns (cls : String) (m : List (Str × Value))
  | fs (m : List (Str × Value))
  | cell (v : Option Value)
  | lst (vs : List Value)
  | tup (vs : List Value)
  | dct (kvs : List (Str × Value)) (ep : Nat)
  | inst (C d : Addr)
  | raw (o : Obj)
  | pr (P : Obj → Prop)

abbrev AH := Addr → Option AO
def AH.set (σ : AH) (a : Addr) (o : AO) : AH := fun b => if b = a then some o else σ b
theorem AH.set_self {σ : AH} {a : Addr} {o : AO} : (σ.set a o) a = some o := if_pos rfl
theorem AH.set_ne {σ : AH} {a b : Addr} {o : AO} (h : b ≠ a) : (σ.set a o) b = σ b := if_neg h
theorem AH.set_new {σ : AH} {a b : Addr} {o x : AO} (ha : σ a = none) (hb : σ b = some x) : (σ.set a o) b = some x := by
  rw [AH.set_ne (fun e => by rw [e, ha] at hb; cases hb)]; exact hb

/-- all that a run stands on: the program, the world, the heap at the law's start, the written part -/
structure Cx where
  prog : Program
  w : World
  h₁ : Heap
  K : Frag
  mg : Str → Option Value
  mb : Str → Option Value
  kin : K.In h₁
  kcls : ∀ a o, K.lookup a = some o → o.cls ≠ .type "frame" ∧ (o.cls = .none → ∃ es n, o.data = .dict es n)
  lim : h₁.NoLimit
  g : h₁.Ns mainGlobals mg
  b : h₁.Ns builtinsNs mb
  bu : ∀ x : Str, x ≠ "__name__" → mb x = bootBuiltins x
  lo : Nat

variable (C : Cx)

/-- the dict of an object: its entries are these names with these values, in this order -/
inductive FsAre : List DictEntry → List (Str × Value) → Prop
  | nil : FsAre [] []
  | cons {e es x v m} : (∃ t, e.key = .str x t) → e.val = v → FsAre es m → FsAre (e :: es) ((x, v) :: m)

def Mt (h : Heap) (a : Addr) : AO → Prop
  | .ns cls m => ∃ o es n, h.get? a = some o ∧ o.cls = .type cls ∧ o.data = .dict es n ∧ StrKeys es ∧ (∀ x, nsFind es x = m.lookup x)
  | .fs m => ∃ es n, h.get? a = some (dictOf es n) ∧ FsAre es m
  | .cell v => ∃ o, h.get? a = some o ∧ o.cls = .type "cell" ∧ o.data = .cell v
  | .lst vs => ∃ n, h.get? a = some { cls := .type "list", data := .seq vs.toArray n }
  | .tup vs => ∃ n, h.get? a = some { cls := .type "tuple", data := .seq vs.toArray n }
  | .dct kvs ep => h.DictAt (strKind C.prog C.w) a kvs ep ∧ (a == sysModules) = false
  | .inst K d => h.get? a = some ⟨.ref K, some d, .plain, #[]⟩
  | .raw o => h.get? a = some o
  | .pr P => ∃ o, h.get? a = some o ∧ P o ∧ o.cls ≠ .type "frame" ∧ o.cls ≠ .none

def tbl (vs : Array Value) : Obj := { cls := .none, data := .fields vs }

/-- the table of a code object, grown -/
def Grown (b : Addr) (o : Obj) (h : Heap) : Prop :=
  ∃ c ps more, C.h₁.TableAt c b ps ∧ o = tbl ps ∧ h.get? b = some (tbl (ps ++ more)) ∧ TriplesOk (ps ++ more).toList

structure Good (σ : AH) (h : Heap) : Prop where
  base : ∀ b o, C.h₁.get? b = some o → σ b = none ∧ (h.get? b = some o ∨ Grown C b o h)
  at_ : ∀ a o, σ a = some o → Mt C h a o

/-- what may become of an object that σ does not show -/
def Lk (o o' : Obj) : Prop :=
  o' = o ∨ (o.cls = .type "frame" ∧ o'.cls = o.cls ∧ o'.dict = o.dict ∧ o'.data = o.data) ∨ (∃ vs more, o = tbl vs ∧ o' = tbl (vs ++ more) ∧ (TriplesOk vs.toList → TriplesOk (vs ++ more).toList))

theorem Lk.refl (o : Obj) : Lk o o := .inl rfl
theorem Lk.trans {a b c : Obj} (x : Lk a b) (y : Lk b c) : Lk a c := by
  rcases x with rfl | ⟨x1, x2, x3, x4⟩ | ⟨vs, more, rfl, rfl, ht⟩
  · exact y
  · rcases y with rfl | ⟨y1, y2, y3, y4⟩ | ⟨vs, more, rfl, rfl, _⟩
    · exact .inr (.inl ⟨x1, x2, x3, x4⟩)
    · exact .inr (.inl ⟨x1, y2.trans x2, y3.trans x3, y4.trans x4⟩)
    · rw [x1] at x2; cases x2
  · rcases y with rfl | ⟨y1, _⟩ | ⟨vs', more', h1, rfl, ht'⟩
    · exact .inr (.inr ⟨vs, more, rfl, rfl, ht⟩)
    · cases y1
    · have : vs ++ more = vs' := by
        have := congrArg Obj.data h1
        simp only [tbl] at this
        injection this
      subst this
      exact .inr (.inr ⟨vs, more ++ more', rfl, by rw [Array.append_assoc], fun t => by
        have := ht' (ht t); rwa [Array.append_assoc] at this⟩)

structure Step (σ : AH) (h : Heap) (σ' : AH) (h' : Heap) : Prop where
  like : ∀ b o, σ b = none → h.get? b = some o → σ' b = none ∧ ∃ o', h'.get? b = some o' ∧ Lk o o'
  ns : ∀ a c m, σ a = some (.ns c m) → ∃ m', σ' a = some (.ns c m')

theorem Step.refl (σ : AH) (h : Heap) : Step σ h σ h := ⟨fun _ o e e' => ⟨e, o, e', .refl o⟩, fun _ _ m e => ⟨m, e⟩⟩
theorem Step.trans {σ σ' σ'' : AH} {h h' h'' : Heap} (x : Step σ h σ' h') (y : Step σ' h' σ'' h'') : Step σ h σ'' h'' :=
  ⟨fun b o e e' => by
    obtain ⟨a1, o', a2, a3⟩ := x.like b o e e'
    obtain ⟨b1, o'', b2, b3⟩ := y.like b o' a1 a2
    exact ⟨b1, o'', b2, a3.trans b3⟩, fun a c m e => by
    obtain ⟨m', e'⟩ := x.ns a c m e
    exact y.ns a c m' e'⟩

structure Ext (s s' : Shared) : Prop where
  os : s'.os = s.os
  drawn : s'.drawn = s.drawn
  old : ∀ (i : Nat) (x : GenState), s.gens[i]? = some x → s'.gens[i]? = some x
  bare : ∀ (i : Nat) (x : GenState), s'.gens[i]? = some x → s.gens[i]? = some x ∨ x.bare = true
theorem Ext.refl (s : Shared) : Ext s s := ⟨rfl, rfl, fun _ _ e => e, fun _ _ e => .inl e⟩
theorem Ext.trans {a b c : Shared} (x : Ext a b) (y : Ext b c) : Ext a c :=
  ⟨y.os.trans x.os, y.drawn.trans x.drawn, fun i z e => y.old i z (x.old i z e), fun i z e => by
    rcases y.bare i z e with h | h
    · exact x.bare i z h
    · exact .inr h⟩
theorem Ext.same {s : Shared} {h : Heap} {tk : Nat} : Ext s { s with heap := h, toks := tk } := ⟨rfl, rfl, fun _ _ e => e, fun _ _ e => .inl e⟩

def FrameOk (σ : AH) (h : Heap) (env : Env) : Prop := env.scope.kind = .function ∧ ∃ L, env.frame = some L ∧ C.h₁.get? L = none ∧ ((∃ m, σ L = some (.ns "frame" m)) ∨ (σ L = none ∧ ∃ o es n, h.get? L = some o ∧ o.cls = .type "frame" ∧ o.data = .dict es n))

structure Room (b : Nat) (A : Around) (σ : AH) (h : Heap) : Prop where
  hd : A.handled = none
  depth : A.depth + b < 900
  units : A.units + 16 * b < 9000
  frames : ∃ l, A.frames = some l ∧ ∀ env ∈ l, FrameOk C σ h env

variable {C}
theorem Room.next {b : Nat} {A : Around} {σ σ' : AH} {h h' : Heap} (r : Room C b A σ h) (y : Step σ h σ' h') : Room C b A σ' h' :=
  ⟨r.hd, r.depth, r.units, let ⟨l, e, f⟩ := r.frames; ⟨l, e, fun env he => by
    obtain ⟨k, L, h1, hn, h2⟩ := f env he
    refine ⟨k, L, h1, hn, ?_⟩
    rcases h2 with ⟨m, h2⟩ | ⟨h2, o, es, n, h3, h4, h5⟩
    · obtain ⟨m', e'⟩ := y.ns _ _ _ h2; exact .inl ⟨m', e'⟩
    · obtain ⟨z1, o', z2, z3⟩ := y.like L o h2 h3
      refine .inr ⟨z1, o', es, n, z2, ?_⟩
      rcases z3 with rfl | ⟨z4, z5, z6, z7⟩ | ⟨vs, more, rfl, rfl, _⟩
      · exact ⟨h4, h5⟩
      · exact ⟨z5.trans h4, z7.trans h5⟩
      · cases h4⟩⟩
theorem Room.lim {b : Nat} {A : Around} {σ : AH} {h : Heap} (r : Room C b A σ h) : A.depth < recursionLimit := Nat.lt_of_le_of_lt (Nat.le_trans (Nat.le_add_right _ _) (Nat.le_of_lt r.depth)) (by decide)
theorem Room.cl {b : Nat} {A : Around} {σ : AH} {h : Heap} (r : Room C b A σ h) : A.units < cLine := Nat.lt_of_le_of_lt (Nat.le_trans (Nat.le_add_right _ _) (Nat.le_of_lt r.units)) (by decide)

variable (C)
structure Ok (b : Nat) (A : Around) (σ : AH) (s : Shared) : Prop where
  good : Good C σ s.heap
  room : Room C b A σ s.heap
  tk : C.lo ≤ s.toks

structure After (σ : AH) (s : Shared) (σ' : AH) (s' : Shared) : Prop where
  good : Good C σ' s'.heap
  step : Step σ s.heap σ' s'.heap
  ext : Ext s s'
  tk : s.toks ≤ s'.toks
variable {C}
theorem After.refl {σ : AH} {s : Shared} (g : Good C σ s.heap) : After C σ s σ s := ⟨g, .refl _ _, .refl _, Nat.le_refl _⟩
theorem After.trans {σ σ' σ'' : AH} {s s' s'' : Shared} (x : After C σ s σ' s') (y : After C σ' s' σ'' s'') : After C σ s σ'' s'' := ⟨y.good, x.step.trans y.step, x.ext.trans y.ext, Nat.le_trans x.tk y.tk⟩
theorem Ok.next {b : Nat} {A : Around} {σ σ' : AH} {s s' : Shared} (o : Ok C b A σ s) (y : After C σ s σ' s') : Ok C b A σ' s' := ⟨y.good, o.room.next y.step, Nat.le_trans o.tk y.tk⟩
theorem After.toks {σ : AH} {s : Shared} (g : Good C σ s.heap) (t : Nat) (ht : s.toks ≤ t := by first | exact Nat.le_refl _ | exact Nat.le_add_right _ _ | (simp only [Nat.add_assoc]; exact Nat.le_add_right _ _) | assumption | omega) : After C σ s σ { s with toks := t } := ⟨g, .refl _ _, ⟨rfl, rfl, fun _ _ e => e, fun _ _ e => .inl e⟩, ht⟩

variable (C)
def W (b : Nat) {α : Type} (t : Sem α) (σ : AH) (Q : α → AH → Prop) (X : Value → AH → Prop) : Prop :=
  ∀ (A : Around) (s : Shared) (P : α → Shared → Prop) (E : Value → Shared → Prop), Ok C b A σ s →
    (∀ a σ' s', After C σ s σ' s' → Q a σ' → P a s') → (∀ e σ' s', After C σ s σ' s' → X e σ' → E e s') → wpAny (model C.prog C.w) A t P E s

variable {C} {α β : Type} {b : Nat} {σ : AH} {X : Value → AH → Prop}

theorem W.pure_ {a : α} {Q : α → AH → Prop} (h : Q a σ) : W C b (pure a) σ Q X := fun _ _ _ _ o p _ => wpAny_pure (p a σ _ (.refl o.good) h)
theorem W.bind_ {m : Sem α} {f : α → Sem β} {Q : β → AH → Prop} (h : W C b m σ (fun a σ' => W C b (f a) σ' Q X) X) : W C b (m >>= f) σ Q X :=
  fun A s P E o p x => wpAny_bind (h A s _ _ o (fun a σ' s' y q => q A s' P E (o.next y) (fun a σ'' s'' z => p a σ'' s'' (y.trans z)) fun e σ'' s'' z => x e σ'' s'' (y.trans z)) x)
theorem W.mono {t : Sem α} {Q Q' : α → AH → Prop} {X' : Value → AH → Prop} (h : W C b t σ Q X) (hq : ∀ a σ', Q a σ' → Q' a σ') (hx : ∀ e σ', X e σ' → X' e σ') : W C b t σ Q' X' :=
  fun A s P E o p x => h A s P E o (fun a σ' s' y q => p a σ' s' y (hq _ _ q)) fun e σ' s' y q => x e σ' s' y (hx _ _ q)
theorem W.hold {t : Sem α} {vs : List Value} {Q : α → AH → Prop} (h : W C b t σ Q X) : W C b (holding vs t) σ Q X := fun A s P E o p x => wpAny_holding (h A s P E o p x)
theorem W.standAt_ {pos : Pos} {Q : Unit → AH → Prop} (h : Q () σ) : W C b (standAt pos) σ Q X := fun _ _ _ _ o p _ => wpAny_standAt (p _ _ _ (.refl o.good) h)
theorem W.rule_ {tag : String} {Q : Unit → AH → Prop} (h : Q () σ) : W C b (rule tag) σ Q X := fun _ _ _ _ o p _ => wpAny_rule (p _ _ _ (.refl o.good) h)
theorem W.point_ {Q : Unit → AH → Prop} (h : Q () σ) : W C b point σ Q X := fun _ _ _ _ o p _ => wpAny_point (p _ _ _ (.refl o.good) h)
theorem W.mkInt_ {i : Int} {Q : Value → AH → Prop} (h : ∀ t, Q (.int i t) σ) : W C b (mkInt i) σ Q X := fun _ s _ _ o p _ => wpAny_mkInt (p _ _ _ (.toks o.good _) (h _))
theorem W.mkText_ {i : Str} {Q : Value → AH → Prop} (h : ∀ t, Q (.str i t) σ) : W C b (mkText i) σ Q X := fun _ s _ _ o p _ => wpAny_mkText (p _ _ _ (.toks o.good _) (h _))
theorem W.release_go {vs keep : List Value} {Q : Unit → AH → Prop} (h : Q () σ) : W C b (release.go keep vs) σ Q X := by
  induction vs with
  | nil => exact W.pure_ h
  | cons v vs ih =>
    cases vs with
    | nil => exact W.pure_ h
    | cons v' r => exact W.bind_ (W.hold (W.point_ ih))
theorem W.release_ {vs keep : List Value} {Q : Unit → AH → Prop} (h : Q () σ) : W C b (release vs keep) σ Q X := W.release_go h
theorem W.operate_ {vs : List Value} {m : Sem Value} {Q : Value → AH → Prop} (h : W C b m σ Q X) : W C b (operate vs m) σ Q X :=
  W.bind_ (W.mono (W.hold h) (fun _ _ q => W.bind_ (W.release_ (W.pure_ q))) fun _ _ x => x)
/-- a smaller view at the end -/
theorem W.more {b' : Nat} {t : Sem α} {Q : α → AH → Prop} (h : W C b t σ Q X) (hb : b ≤ b') : W C b' t σ Q X :=
  fun A s P E o p x => h A s P E ⟨o.good, ⟨o.room.hd, by have := o.room.depth; omega, by have := o.room.units; omega, o.room.frames⟩, o.tk⟩ p x

/-- allocation -/
theorem Good.fresh {σ : AH} {h : Heap} (g : Good C σ h) : σ h.objs.size = none := by
  cases e : σ h.objs.size with
  | none => rfl
  | some o =>
    have m := g.at_ _ _ e
    exfalso
    have : ∃ o', h.get? h.objs.size = some o' := by
      cases o with
      | ns c m' => obtain ⟨o, _, _, e, _⟩ := m; exact ⟨o, e⟩
      | fs m' => obtain ⟨_, _, e, _⟩ := m; exact ⟨_, e⟩
      | cell v => obtain ⟨o, e, _⟩ := m; exact ⟨o, e⟩
      | lst vs => obtain ⟨n, e⟩ := m; exact ⟨_, e⟩
      | tup vs => obtain ⟨n, e⟩ := m; exact ⟨_, e⟩
      | dct kvs ep => obtain ⟨⟨o, _, e, _⟩, _⟩ := m; exact ⟨o, e⟩
      | inst K d => exact ⟨_, m⟩
      | raw o => exact ⟨o, m⟩
      | pr P => obtain ⟨o, e, _⟩ := m; exact ⟨o, e⟩
    obtain ⟨o', e'⟩ := this
    exact Nat.lt_irrefl _ (Heap.lt_size e')

theorem Mt.keeps {h h' : Heap} {a : Addr} {o : AO} (m : Mt C h a o) (k : ∀ x, h.get? a = some x → h'.get? a = some x) : Mt C h' a o := by
  cases o with
  | ns c m' => obtain ⟨o, es, n, e, r⟩ := m; exact ⟨o, es, n, k _ e, r⟩
  | fs m' => obtain ⟨es, n, e, r⟩ := m; exact ⟨es, n, k _ e, r⟩
  | cell v => obtain ⟨o, e, r⟩ := m; exact ⟨o, k _ e, r⟩
  | lst vs => obtain ⟨n, e⟩ := m; exact ⟨n, k _ e⟩
  | tup vs => obtain ⟨n, e⟩ := m; exact ⟨n, k _ e⟩
  | dct kvs ep => obtain ⟨⟨o, es, e, r⟩, z⟩ := m; exact ⟨⟨o, es, k _ e, r⟩, z⟩
  | inst K d => exact k _ m
  | raw o => exact k _ m
  | pr P => obtain ⟨o, e, r⟩ := m; exact ⟨o, k _ e, r⟩

theorem Grown.keeps {b : Addr} {o : Obj} {h h' : Heap} (x : Grown C b o h) (k : ∀ o, h.get? b = some o → h'.get? b = some o) : Grown C b o h' := by
  obtain ⟨c, ps, more, a1, a2, a3, a4⟩ := x
  exact ⟨c, ps, more, a1, a2, k _ a3, a4⟩

theorem Good.keeps {σ : AH} {h h' : Heap} (g : Good C σ h) (k : ∀ b o, h.get? b = some o → h'.get? b = some o) : Good C σ h' :=
  ⟨fun b o e => ⟨(g.base b o e).1, (g.base b o e).2.imp (k _ _) fun x => x.keeps (k _)⟩, fun a o e => (g.at_ a o e).keeps (k a)⟩
theorem Step.keeps {σ : AH} {h h' : Heap} (k : ∀ b o, h.get? b = some o → h'.get? b = some o) : Step σ h σ h' :=
  ⟨fun b o e e' => ⟨e, o, k _ _ e', .refl o⟩, fun _ _ m e => ⟨m, e⟩⟩
/-- only new things outside σ -/
theorem After.keeps {σ : AH} {s : Shared} {h' : Heap} {t : Nat} (g : Good C σ s.heap) (k : ∀ b o, s.heap.get? b = some o → h'.get? b = some o) (ht : s.toks ≤ t := by first | exact Nat.le_refl _ | exact Nat.le_add_right _ _ | (simp only [Nat.add_assoc]; exact Nat.le_add_right _ _) | assumption | omega) : After C σ s σ { s with heap := h', toks := t } :=
  ⟨g.keeps k, .keeps k, .same, ht⟩

theorem Good.base_lt {σ : AH} {h : Heap} (g : Good C σ h) {b : Addr} {o : Obj} (e : C.h₁.get? b = some o) : b < h.objs.size := by
  rcases (g.base b o e).2 with x | ⟨c, ps, more, _, _, x, _⟩ <;> exact Heap.lt_size x

/-- a new thing enters σ -/
theorem After.add {σ : AH} {s : Shared} {h' : Heap} {t : Nat} {a : Addr} {o : AO} (g : Good C σ s.heap) (k : ∀ b o, s.heap.get? b = some o → h'.get? b = some o)
    (ha : s.heap.objs.size ≤ a) (m : Mt C h' a o) (ht : s.toks ≤ t := by first | exact Nat.le_refl _ | exact Nat.le_add_right _ _ | (simp only [Nat.add_assoc]; exact Nat.le_add_right _ _) | assumption | omega) : After C σ s (σ.set a o) { s with heap := h', toks := t } ∧ σ a = none := by
  have hn : σ a = none := by
    cases e : σ a with
    | none => rfl
    | some o' =>
      have mm := g.at_ _ _ e
      exfalso
      have : ∃ o', s.heap.get? a = some o' := by
        cases o' with
        | ns c m' => obtain ⟨o, _, _, e, _⟩ := mm; exact ⟨o, e⟩
        | fs m' => obtain ⟨_, _, e, _⟩ := mm; exact ⟨_, e⟩
        | cell v => obtain ⟨o, e, _⟩ := mm; exact ⟨o, e⟩
        | lst vs => obtain ⟨n, e⟩ := mm; exact ⟨_, e⟩
        | tup vs => obtain ⟨n, e⟩ := mm; exact ⟨_, e⟩
        | dct kvs ep => obtain ⟨⟨o, _, e, _⟩, _⟩ := mm; exact ⟨o, e⟩
        | inst K d => exact ⟨_, mm⟩
        | raw o => exact ⟨o, mm⟩
        | pr P => obtain ⟨o, e, _⟩ := mm; exact ⟨o, e⟩
      obtain ⟨o', e'⟩ := this
      exact Nat.lt_irrefl _ (Nat.lt_of_lt_of_le (Heap.lt_size e') ha)
  refine ⟨⟨⟨fun b x e => ?_, fun c x e => ?_⟩, ⟨fun b x e e' => ?_, fun c cl m' e => ?_⟩, .same, ht⟩, hn⟩
  · have z := (g.keeps k).base b x e
    refine ⟨?_, z.2⟩
    rw [AH.set_ne]; exact z.1
    exact Nat.ne_of_lt (Nat.lt_of_lt_of_le (g.base_lt e) ha)
  · by_cases hc : c = a
    · subst hc; rw [AH.set_self] at e; cases e; exact m
    · rw [AH.set_ne hc] at e; exact (g.at_ c x e).keeps (k c)
  · refine ⟨?_, x, k _ _ e', .refl x⟩
    rw [AH.set_ne]; exact e
    exact Nat.ne_of_lt (Nat.lt_of_lt_of_le (Heap.lt_size e') ha)
  · refine ⟨m', ?_⟩
    rw [AH.set_new hn e]

/-- a thing that σ shows is changed -/
theorem After.upd {σ : AH} {s : Shared} {h' : Heap} {t : Nat} {a : Addr} {o o' : AO} (g : Good C σ s.heap) (ho : σ a = some o) (k : ∀ b, b ≠ a → h'.get? b = s.heap.get? b)
    (m : Mt C h' a o') (hns : ∀ c m, o = .ns c m → ∃ m', o' = .ns c m') (ht : s.toks ≤ t := by first | exact Nat.le_refl _ | exact Nat.le_add_right _ _ | (simp only [Nat.add_assoc]; exact Nat.le_add_right _ _) | assumption | omega) : After C σ s (σ.set a o') { s with heap := h', toks := t } := by
  have hb : ∀ b x, C.h₁.get? b = some x → b ≠ a := fun b x e q => by have := (g.base b x e).1; rw [q, ho] at this; cases this
  refine ⟨⟨fun b x e => ?_, fun c x e => ?_⟩, ⟨fun b x e e' => ?_, fun c cl m' e => ?_⟩, .same, ht⟩
  · have z := g.base b x e
    rw [AH.set_ne (hb b x e)]
    exact ⟨z.1, z.2.imp (fun q => (k b (hb b x e)).trans q) fun q => q.keeps fun o q => (k b (hb b x e)).trans q⟩
  · by_cases hc : c = a
    · subst hc; rw [AH.set_self] at e; cases e; exact m
    · rw [AH.set_ne hc] at e; exact (g.at_ c x e).keeps fun y q => (k c hc).trans q
  · have hba : b ≠ a := fun q => by rw [q, ho] at e; cases e
    refine ⟨by rw [AH.set_ne hba]; exact e, x, (k b hba).trans e', .refl x⟩
  · by_cases hc : c = a
    · subst hc
      rw [ho] at e; cases e
      obtain ⟨m'', rfl⟩ := hns _ _ rfl
      exact ⟨m'', AH.set_self⟩
    · exact ⟨m', by rw [AH.set_ne hc]; exact e⟩
theorem After.upd' {σ : AH} {s : Shared} {h' : Heap} {t : Nat} {a : Addr} {o o' : AO} (g : Good C σ s.heap) (ho : σ a = some o) (hs : Heap.SameBut a s.heap h')
    (m : Mt C h' a o') (hns : ∀ c m, o = .ns c m → ∃ m', o' = .ns c m') (ht : s.toks ≤ t := by first | exact Nat.le_refl _ | exact Nat.le_add_right _ _ | (simp only [Nat.add_assoc]; exact Nat.le_add_right _ _) | assumption | omega) : After C σ s (σ.set a o') { s with heap := h', toks := t } := .upd g ho hs.2 m hns ht

/-- the view is cut back to a smaller one that still shows every old namespace and nothing old less -/
theorem After.cut {σ σ' σ'' : AH} {s s' : Shared} (y : After C σ s σ' s') (hsub : ∀ a o, σ'' a = some o → σ' a = some o) (hns : ∀ a c m, σ a = some (.ns c m) → σ'' a = σ' a) : After C σ s σ'' s' := by
  refine ⟨⟨fun b o e => ⟨?_, (y.good.base b o e).2⟩, fun a o e => y.good.at_ a o (hsub a o e)⟩, ⟨fun b o e e' => ?_, fun a c m e => ?_⟩, y.ext, y.tk⟩
  · cases q : σ'' b with
    | none => rfl
    | some x => have := hsub _ _ q; rw [(y.good.base b o e).1] at this; cases this
  · obtain ⟨z1, z2⟩ := y.step.like b o e e'
    refine ⟨?_, z2⟩
    cases q : σ'' b with
    | none => rfl
    | some x => have := hsub _ _ q; rw [z1] at this; cases this
  · obtain ⟨m', e'⟩ := y.step.ns a c m e
    exact ⟨m', (hns a c m e).trans e'⟩

theorem W.alloc_obj {o : Obj} {ao : AO} {Q : Addr → AH → Prop} (hm : ∀ h : Heap, ∀ a, h.get? a = some o → Mt C h a ao) (hf : o.isFreed = false) (h : ∀ a, σ a = none → Q a (σ.set a ao)) : W C b (alloc o) σ Q X := by
  intro A s P E ok p x
  refine wpAny_alloc ?_
  have z := After.add (t := s.toks) ok.good (h' := s.heap.push o) (a := s.heap.objs.size) (o := ao) (fun b o' e => Heap.get?_push_of_some _ e) (Nat.le_refl _) (hm _ _ (Heap.get?_push_size _ hf))
  exact p _ _ _ z.1 (h _ z.2)
end Mine
end
section
open PySem PySem.W PyProof.Rows
set_option Elab.async false
set_option maxRecDepth 100000
set_option autoImplicit false
set_option linter.unusedVariables false
namespace Mine
variable {C : Cx} {α β : Type} {b : Nat} {σ : AH} {X : Value → AH → Prop}

theorem Good.kin {h : Heap} (g : Good C σ h) : C.K.In h := fun a o e => by
  rcases (g.base a o (C.kin a o e)).2 with x | ⟨c, ps, more, _, rfl, _⟩
  · exact x
  · obtain ⟨es, n, hd⟩ := (C.kcls a _ e).2 rfl
    cases hd
theorem Ns.of_good {h : Heap} {a : Addr} {m : Str → Option Value} (g : Good C σ h) (x : C.h₁.Ns a m) : h.Ns a m := by
  obtain ⟨o, es, ep, ho, hd, r⟩ := x
  rcases (g.base a o ho).2 with x | ⟨c, ps, more, _, rfl, _⟩
  · exact ⟨o, es, ep, x, hd, r⟩
  · cases hd
theorem Good.lim {h : Heap} (g : Good C σ h) : h.NoLimit := let ⟨mc, x, y⟩ := C.lim; ⟨mc, Ns.of_good g x, y⟩
theorem Good.notBase {h : Heap} (g : Good C σ h) {a : Addr} {o : AO} (e : σ a = some o) : C.h₁.get? a = none := by
  cases q : C.h₁.get? a with
  | none => rfl
  | some x => have := (g.base a x q).1; rw [e] at this; cases this

/-! names -/
theorem Mt.toNs {h : Heap} {a : Addr} {cls : String} {m : List (Str × Value)} (x : Mt C h a (.ns cls m)) : h.Ns a (fun y => m.lookup y) :=
  let ⟨o, es, n, e, _, hd, hk, hl⟩ := x; ⟨o, es, n, e, hd, hk, hl⟩

theorem W.loadLocal {env : Env} {x : Str} {cls : String} {m : List (Str × Value)} {v : Value} {Q : Value → AH → Prop} (hL : σ env.locals = some (.ns cls m)) (hv : m.lookup x = some v) (h : Q v σ)
    (hk : env.scope.kind = .function := by rfl) (hl : env.kindOf x = some .local := by rfl) : W C b (loadName env x) σ Q X :=
  fun A s P E o p _ => wpAny_loadName_local hk hl (o.good.at_ _ _ hL).toNs hv (p _ _ _ (.refl o.good) h)
theorem W.loadCell {env : Env} {x : Str} {c : Addr} {v : Value} {Q : Value → AH → Prop} (hc : env.cells.lookup x = some c) (hv : σ c = some (.cell (some v))) (h : Q v σ)
    (hk : env.scope.kind = .function := by rfl) (hl : env.kindOf x = some .cell := by rfl) : W C b (loadName env x) σ Q X :=
  fun A s P E o p _ => wpAny_loadName_cell hk hl hc (let ⟨o', e, _, d⟩ := o.good.at_ _ _ hv; ⟨o', e, d⟩) (p _ _ _ (.refl o.good) h)
theorem W.loadFree {env : Env} {x : Str} {c : Addr} {v : Value} {Q : Value → AH → Prop} (hc : env.cells.lookup x = some c) (hv : σ c = some (.cell (some v))) (h : Q v σ)
    (hk : env.scope.kind = .function := by rfl) (hl : env.kindOf x = some .free := by rfl) (hn : (x == ("__classdict__" : Str)) = false := by decide) : W C b (loadName env x) σ Q X :=
  fun A s P E o p _ => wpAny_loadName_free hk hl hc (let ⟨o', e, _, d⟩ := o.good.at_ _ _ hv; ⟨o', e, d⟩) (p _ _ _ (.refl o.good) h) hn

theorem wpAny_loadName_glob {M : Model} {A : Around} {E : Value → Shared → Prop} {s : Shared} {env : Env} {x : Str} {Q : Value → Shared → Prop} (hk : env.scope.kind = .function) (hx : env.kindOf x = some .globalImplicit)
    (h : wpAny M A (loadGlobal env x) Q E s) : wpAny M A (loadName env x) Q E s := by
  unfold loadName
  simp only [Env.blockKind, hk, hx, ScopeKind.isAnnotationScope, Bool.false_and, Bool.false_eq_true, if_false]
  exact h
theorem W.loadGlob {env : Env} {x : Str} {v : Value} {Q : Value → AH → Prop} (hv : C.mg x = some v) (h : Q v σ) (hg : env.globals = mainGlobals := by rfl)
    (hk : env.scope.kind = .function := by rfl) (hl : env.kindOf x = some .globalImplicit := by rfl) : W C b (loadName env x) σ Q X :=
  fun A s P E o p _ => wpAny_loadName_glob hk hl (Calls.loadGlobal_global (hg ▸ Ns.of_good o.good C.g) hv (p _ _ _ (.refl o.good) h))
theorem W.loadBuiltin {env : Env} {x : Str} {v : Value} {Q : Value → AH → Prop} (hm : C.mg x = none) (hv : bootBuiltins x = some v) (h : Q v σ) (hg : env.globals = mainGlobals := by rfl) (hb : env.builtins = builtinsNs := by rfl)
    (hn : x ≠ "__name__" := by decide) (hk : env.scope.kind = .function := by rfl) (hl : env.kindOf x = some .globalImplicit := by rfl) : W C b (loadName env x) σ Q X :=
  fun A s P E o p _ => wpAny_loadName_glob hk hl (Calls.loadGlobal_builtin (hg ▸ Ns.of_good o.good C.g) hm (hb ▸ Ns.of_good o.good C.b) ((C.bu x hn).trans hv) (p _ _ _ (.refl o.good) h))

def putA (m : List (Str × Value)) (x : Str) (v : Value) : List (Str × Value) := (x, v) :: m

theorem Obj.putName_cls (name : Str) (h : Int) (key v : Value) (o : Obj) : (Obj.putName name h key v o).cls = o.cls := by
  rw [Obj.putName_eq]
  obtain ⟨c, d, dt, sl⟩ := o
  cases dt <;> try rfl
  simp only [Obj.putNameByArray]
  split <;> rfl

/-- a store into a namespace: as the library's, its class told besides -/
theorem wpAny_nsSet_cls {M : Model} {A : Around} {E : Value → Shared → Prop} {s : Shared} {a : Addr} {o : Obj} {m : Str → Option Value} (ho : s.heap.get? a = some o) (hn : s.heap.Ns a m) (name : Str) (v : Value) {Q : Unit → Shared → Prop}
    (hQ : ∀ h', h'.Ns a (fun x => if x = name then some v else m x) → Heap.SameBut a s.heap h' → (∃ o', h'.get? a = some o' ∧ o'.cls = o.cls) → Q () { s with heap := h', toks := s.toks + 1 }) : wpAny M A (nsSet a name v) Q E s := by
  obtain ⟨o₂, es, ep, ho₂, hd, hk, hm⟩ := hn
  rw [ho] at ho₂; cases ho₂
  unfold nsSet
  refine wpAny_bind (wpAny_bind (wpAny_askSetting (wpAny_pure (wpAny_bind (wpAny_mkText (wpAny_bind (wpAny_loadPart ho ?_)))))))
  have hany : es.any (·.refKey) = false := by
    rw [Array.any_eq_false']; intro e he; obtain ⟨n, t, h⟩ := hk e he; simp [DictEntry.refKey, h]
  simp only [hd, aRefKeyMayBeTheName_eq, aRefKeyMayBeTheNameByArray, hany, Bool.and_false, Bool.false_eq_true, if_false]
  refine wpAny_updatePart ho ?_
  have hz : (Obj.putName name (M.w.params.strHash name.cps |> fun _ => if name.cps.isEmpty = true then 0 else reduceHash (M.w.params.strHash name.cps)) (.str name s.toks) v o).isFreed = false := by
    rw [Obj.putName_eq]
    obtain ⟨c, d, dt, sl⟩ := o
    subst hd
    simp only [Obj.putNameByArray]
    split <;> rfl
  refine hQ _ ?_ (Heap.SameBut.update ..) ⟨_, Heap.get?_update_self _ ho hz, Obj.putName_cls ..⟩
  obtain ⟨c, d, dt, sl⟩ := o
  subst hd
  cases hi : es.findIdx? (·.key.isStr name) with
  | some i =>
    refine ⟨_, _, ep, Heap.get?_update_self _ ho hz, by simp only [Obj.putName_eq, Obj.putNameByArray, hi]; rfl, hk.modify _ _, fun x => ?_⟩
    show _ = if x = name then some v else m x
    rw [← hm]; exact findBy_modify (fun n v => v.isStr n) Value.isStr_inj es name x v i hi
  | none =>
    refine ⟨_, _, ep + 1, Heap.get?_update_self _ ho hz, by simp only [Obj.putName_eq, Obj.putNameByArray, hi]; rfl, hk.push _ _ _ _, fun x => ?_⟩
    show _ = if x = name then some v else m x
    rw [← hm]
    exact findBy_push (fun n v => v.isStr n) es name x _ _ v (fun y => by
      show (name == y) = decide (y = name)
      by_cases h : y = name
      · subst h; simp
      · have : ¬ name = y := fun e => h e.symm
        simp [h, this]) hi

theorem lookup_putA (m : List (Str × Value)) (x : Str) (v : Value) (y : Str) : (putA m x v).lookup y = if y = x then some v else m.lookup y := by
  unfold putA
  rw [List.lookup_cons]
  by_cases h : y = x
  · subst h; simp
  · have : (y == x) = false := beq_eq_false_iff_ne.mpr h
    rw [this, if_neg h]

theorem W.nsSet_ {a : Addr} {cls : String} {m : List (Str × Value)} {x : Str} {v : Value} {Q : Unit → AH → Prop} (hL : σ a = some (.ns cls m)) (h : Q () (σ.set a (.ns cls (putA m x v)))) : W C b (nsSet a x v) σ Q X := by
  intro A s P E o p _
  have z := o.good.at_ _ _ hL
  obtain ⟨ob, es, n, e, hc, hd, hk, hl⟩ := id z
  refine wpAny_nsSet_cls e z.toNs x v fun h' hn hs hcl => p _ _ _ (.upd' o.good hL hs ?_ ?_) h
  · obtain ⟨o', es', n', e', hd', hk', hl'⟩ := hn
    obtain ⟨o'', e'', hc''⟩ := hcl
    rw [e'] at e''; cases e''
    exact ⟨o', es', n', e', hc''.trans hc, hd', hk', fun y => by rw [hl', lookup_putA]⟩
  · intro c m' e; cases e; exact ⟨_, rfl⟩

theorem W.storeLocal {env : Env} {x : Str} {cls : String} {m : List (Str × Value)} {v : Value} {Q : Unit → AH → Prop} (hL : σ env.locals = some (.ns cls m)) (h : Q () (σ.set env.locals (.ns cls (putA m x v))))
    (hl : env.kindOf x = some .local := by rfl) (hp : (env.scope.kind == .class || (env.scope.kind == .module && env.locals != env.globals)) = false := by rfl) : W C b (storeName env x v) σ Q X := by
  rw [storeName_local hl hp]; exact W.nsSet_ hL h

theorem W.storeCell {env : Env} {x : Str} {c : Addr} {v₀ : Option Value} {v : Value} {Q : Unit → AH → Prop} (hc : env.cells.lookup x = some c) (hv : σ c = some (.cell v₀)) (h : Q () (σ.set c (.cell (some v))))
    (hk : env.scope.kind = .function := by rfl) (hl : env.kindOf x = some .cell := by rfl) : W C b (storeName env x v) σ Q X := by
  intro A s P E o p _
  obtain ⟨oc, e, hcl, hd⟩ := o.good.at_ _ _ hv
  unfold storeName
  simp only [hl, hk]
  refine wpAny_bind (wpAny_cellOf hc ?_)
  unfold cellSet
  refine wpAny_bind (wpAny_load e ?_)
  rw [hd]
  refine wpAny_update e (p _ _ _ (.upd' (o' := .cell (some v)) o.good hv (Heap.SameBut.update ..) ⟨_, Heap.get?_update_self _ e rfl, hcl, rfl⟩ ?_) h)
  intro c m' e; cases e

/-! things made -/
theorem W.newList_ {vs : List Value} {Q : Value → AH → Prop} (h : ∀ a, σ a = none → Q (.ref a) (σ.set a (.lst vs))) (hz : vs.length ≤ sizeLine := by size_fits) : W C b (newList vs) σ Q X := by
  intro A s P E o p _
  refine wpAny_newObj_type ?_ (by show vs.toArray.size ≤ sizeLine; rw [List.size_toArray]; exact hz)
  have z := After.add (t := s.toks) o.good (a := s.heap.objs.size) (o := .lst vs) (fun b o' e => Heap.get?_push_of_some _ e) (Nat.le_refl _) ⟨0, Heap.get?_push_size _ rfl⟩
  exact p _ _ _ z.1 (h _ z.2)
theorem W.newTuple_ {vs : List Value} {Q : Value → AH → Prop} (h : ∀ a, σ a = none → Q (.ref a) (σ.set a (.tup vs))) (hz : vs.length ≤ sizeLine := by size_fits) : W C b (newTuple vs) σ Q X := by
  intro A s P E o p _
  refine wpAny_newObj_type ?_ (by show vs.toArray.size ≤ sizeLine; rw [List.size_toArray]; exact hz)
  have z := After.add (t := s.toks) o.good (a := s.heap.objs.size) (o := .tup vs) (fun b o' e => Heap.get?_push_of_some _ e) (Nat.le_refl _) ⟨0, Heap.get?_push_size _ rfl⟩
  exact p _ _ _ z.1 (h _ z.2)
end Mine
end
section
open PySem PySem.W PyProof.Rows
set_option Elab.async false
set_option maxRecDepth 100000
set_option autoImplicit false
set_option linter.unusedVariables false
namespace Mine
variable {C : Cx} {α β : Type} {b : Nat} {σ : AH} {X : Value → AH → Prop}

def noX : Value → AH → Prop := fun _ _ => False

/-- a code, run: no exception comes out -/
def WK (C : Cx) (b : Nat) (c : Code) (σ : AH) (Q : Flow → AH → Prop) : Prop :=
  ∀ (A : Around) (s : Shared) (R : Result → Shared → Prop), Ok C b A σ s → (∀ f σ' s', After C σ s σ' s' → Q f σ' → R (.ok f) s') → codeAny (model C.prog C.w) A c R s

def isRet (Q : Value → AH → Prop) (f : Flow) (σ : AH) : Prop := ∃ v, f = .ret v ∧ Q v σ

theorem WK.mono {c : Code} {Q Q' : Flow → AH → Prop} (h : WK C b c σ Q) (hq : ∀ f σ', Q f σ' → Q' f σ') : WK C b c σ Q' := fun A s R o r => h A s R o fun f σ' s' y q => r f σ' s' y (hq _ _ q)
theorem WK.more {b' : Nat} {c : Code} {Q : Flow → AH → Prop} (h : WK C b c σ Q) (hb : b ≤ b') : WK C b' c σ Q :=
  fun A s R o r => h A s R ⟨o.good, ⟨o.room.hd, by have := o.room.depth; omega, by have := o.room.units; omega, o.room.frames⟩, o.tk⟩ r

/-- a call of f -/
abbrev WCall (C : Cx) (b : Nat) (f : Value) (args : List Value) (kw : List (Str × Value)) (σ : AH) (Q : Value → AH → Prop) : Prop := WK C b (.call f ⟨args, kw⟩) σ (isRet Q)

theorem W.runValue_ {c : Code} {Q : Value → AH → Prop} (h : WK C b c σ (isRet Q)) : W C b (runValue c) σ Q X := fun A s P E o p _ =>
  wpAny_runValue (h A s _ o fun f σ' s' y q => by obtain ⟨v, rfl, q⟩ := q; exact p v σ' s' y q)
theorem W.call_ {f : Value} {args : List Value} {kw : List (Str × Value)} {Q : Value → AH → Prop} (h : WCall C b f args kw σ Q) : W C b (call f args kw) σ Q X := W.runValue_ h
theorem W.keep_ {vs : List Value} {t : Sem α} {Q : α → AH → Prop} (h : W C b t σ Q X) : W C b (t.keep vs) σ Q X := fun A s P E o p x => Calls.wpAny_keep (h A s P E o p x)

theorem Ok.in1 {A : Around} {s : Shared} (o : Ok C (b + 1) A σ s) : Ok C b A.in1 σ s :=
  ⟨o.good, ⟨o.room.hd, by have := o.room.depth; show A.depth + b < 900; omega, by have := o.room.units; show A.units + 1 + 16 * b < 9000; omega, o.room.frames⟩, o.tk⟩
theorem Ok.same_in1 {A : Around} {s : Shared} (o : Ok C (b + 1) A σ s) : Ok C b A σ s :=
  ⟨o.good, ⟨o.room.hd, by have := o.room.depth; omega, by have := o.room.units; omega, o.room.frames⟩, o.tk⟩
theorem Ok.deeper {A : Around} {s : Shared} {env : Env} {L : Addr} {m : List (Str × Value)} (o : Ok C (b + 1) A σ s) (hk : env.scope.kind = .function) (hf : env.frame = some L) (hL : σ L = some (.ns "frame" m)) : Ok C b (A.deeper env) σ s :=
  ⟨o.good, ⟨o.room.hd, by have := o.room.depth; show A.depth + 1 + b < 900; omega, by have := o.room.units; show A.units + 3 + 16 * b < 9000; omega,
    let ⟨l, e, f⟩ := o.room.frames; ⟨env :: l, by simp only [Around.deeper, e, Option.map_some], fun env' he => by
      rcases List.mem_cons.mp he with rfl | he
      · exact ⟨hk, L, hf, o.good.notBase hL, .inl ⟨m, hL⟩⟩
      · exact f _ he⟩⟩, o.tk⟩

/-- a tree run in the context of a code that is no frame -/
theorem wpAny_of_in1' {M : Model} {A : Around} {t : Sem α} {Q : α → Shared → Prop} {E : Value → Shared → Prop} {s : Shared} (h : wpAny M A.in1 t Q E s) : wpAny M A t Q E s := wpAny_of_in1 h

/-! a def's frame -/
def cellNames (names : List (Str × NameKind)) : List Str := (names.filter (·.2 == .cell)).map (·.1)
def WithCells (binds : List (Str × Value)) : List Str → AH → List (Str × Addr) → (AH → List (Str × Addr) → Prop) → Prop
  | [], σ, acc, P => P σ acc
  | n :: r, σ, acc, P => ∀ c, σ c = none → WithCells binds r (σ.set c (.cell (binds.reverse.lookup n))) ((n, c) :: acc) P
def localBinds (names : List (Str × NameKind)) (binds : List (Str × Value)) : List (Str × Value) := (binds.filter fun x => names.lookup x.1 == some NameKind.local).reverse

end Mine
namespace Mine
variable {C : Cx} {α β : Type} {b : Nat} {σ : AH} {X : Value → AH → Prop}

def Fst (σ : AH) (cls : String) (L : Addr) (cs : List (Str × Addr)) (m : List (Str × Value)) (g : Str → Option Value) : AH :=
  fun a => if a = L then some (.ns cls m) else match cs.find? (fun p => p.2 == a) with | some p => some (.cell (g p.1)) | none => σ a

structure CsOk (σ : AH) (L : Addr) (cs : List (Str × Addr)) : Prop where
  hL : σ L = none
  new : ∀ p ∈ cs, σ p.2 = none ∧ p.2 ≠ L
  apart : cs.Pairwise fun p q => p.2 ≠ q.2

theorem Fst.L {σ : AH} {cls : String} {L : Addr} {cs : List (Str × Addr)} {m : List (Str × Value)} {g : Str → Option Value} : Fst σ cls L cs m g L = some (.ns cls m) := if_pos rfl
theorem Fst.none_iff {σ : AH} {cls : String} {L : Addr} {cs : List (Str × Addr)} {m : List (Str × Value)} {g : Str → Option Value} {c : Addr} (h : Fst σ cls L cs m g c = none) : c ≠ L ∧ (∀ p ∈ cs, p.2 ≠ c) ∧ σ c = none := by
  unfold Fst at h
  by_cases e : c = L
  · rw [if_pos e] at h; cases h
  · rw [if_neg e] at h
    cases q : cs.find? (fun p => p.2 == c) with
    | some p => rw [q] at h; cases h
    | none =>
      rw [q] at h
      exact ⟨e, fun p hp he => by have := List.find?_eq_none.mp q p hp; simp [he] at this, h⟩
theorem find_cs {cs : List (Str × Addr)} (hp : cs.Pairwise fun p q => p.2 ≠ q.2) {n : Str} {c : Addr} (h : (n, c) ∈ cs) : cs.find? (fun p => p.2 == c) = some (n, c) := by
  induction cs with
  | nil => cases h
  | cons p r ih =>
    obtain ⟨h1, h2⟩ := List.pairwise_cons.mp hp
    rcases List.mem_cons.mp h with rfl | h
    · simp
    · rw [List.find?_cons_of_neg (by simp; exact h1 _ h), ih h2 h]
theorem Fst.cell {σ : AH} {cls : String} {L : Addr} {cs : List (Str × Addr)} {m : List (Str × Value)} {g : Str → Option Value} (k : CsOk σ L cs) {n : Str} {c : Addr} (h : (n, c) ∈ cs) : Fst σ cls L cs m g c = some (.cell (g n)) := by
  unfold Fst
  rw [if_neg (k.new _ h).2, find_cs k.apart h]

theorem Fst.addCell {σ : AH} {cls : String} {L : Addr} {cs : List (Str × Addr)} {m : List (Str × Value)} {g : Str → Option Value} {n : Str} {c : Addr} (k : CsOk σ L cs) (hc : Fst σ cls L cs m g c = none) :
    (Fst σ cls L cs m g).set c (.cell (g n)) = Fst σ cls L ((n, c) :: cs) m g ∧ CsOk σ L ((n, c) :: cs) := by
  obtain ⟨h1, h2, h3⟩ := Fst.none_iff hc
  refine ⟨?_, k.hL, fun p hp => ?_, List.pairwise_cons.mpr ⟨fun p hp e => h2 p hp e.symm, k.apart⟩⟩
  · funext a
    unfold AH.set
    by_cases e : a = c
    · subst e
      rw [if_pos rfl]
      unfold Fst
      rw [if_neg h1]
      simp
    · rw [if_neg e]
      unfold Fst
      by_cases e' : a = L
      · rw [if_pos e', if_pos e']
      · rw [if_neg e', if_neg e', List.find?_cons_of_neg (by simp; exact fun q => e q.symm)]
  · rcases List.mem_cons.mp hp with rfl | hp
    · exact ⟨h3, h1⟩
    · exact k.new p hp

theorem Fst.setL {σ : AH} {cls : String} {L : Addr} {cs : List (Str × Addr)} {m m' : List (Str × Value)} {g : Str → Option Value} : (Fst σ cls L cs m g).set L (.ns cls m') = Fst σ cls L cs m' g := by
  funext a
  unfold AH.set Fst
  by_cases e : a = L
  · rw [if_pos e, if_pos e]
  · rw [if_neg e, if_neg e]; simp only [e, if_false]

theorem Fst.setC {σ : AH} {cls : String} {L : Addr} {cs : List (Str × Addr)} {m : List (Str × Value)} {g : Str → Option Value} (k : CsOk σ L cs) (hn : (cs.map (·.1)).Nodup) {n : Str} {c : Addr} (h : (n, c) ∈ cs) {v : Value} :
    (Fst σ cls L cs m g).set c (.cell (some v)) = Fst σ cls L cs m (fun x => if x = n then some v else g x) := by
  funext a
  unfold AH.set
  by_cases e : a = c
  · subst e
    rw [if_pos rfl, Fst.cell k h]; simp
  · rw [if_neg e]
    unfold Fst
    by_cases e' : a = L
    · rw [if_pos e', if_pos e']
    · rw [if_neg e', if_neg e']
      cases q : cs.find? (fun p => p.2 == a) with
      | none => rfl
      | some p =>
        have hp := List.mem_of_find?_eq_some q
        have ha : p.2 = a := by have := List.find?_some q; simpa using this
        have : p.1 ≠ n := fun en => by
          have : p = (n, c) := by
            obtain ⟨p1, p2⟩ := p
            have en' : p1 = n := en
            subst en'
            have : ∀ {l : List (Str × Addr)}, (l.map (·.1)).Nodup → ∀ {x : Str} {u v : Addr}, (x, u) ∈ l → (x, v) ∈ l → u = v := by
              intro l
              induction l with
              | nil => intro _ _ _ _ h; cases h
              | cons z r ih =>
                intro hd x u v hu hv
                rw [List.map_cons, List.nodup_cons] at hd
                rcases List.mem_cons.mp hu with e1 | hu <;> rcases List.mem_cons.mp hv with e2 | hv
                · rw [← e1] at e2; exact (Prod.mk.inj e2).2.symm
                · exact absurd (by rw [← e1]; exact List.mem_map_of_mem (f := (·.1)) hv) hd.1
                · exact absurd (by rw [← e2]; exact List.mem_map_of_mem (f := (·.1)) hu) hd.1
                · exact ih hd.2 hu hv
            rw [this hn hp h]
          rw [this] at ha; exact e ha.symm
        simp [this]

/-- the cells are laid -/
theorem W.layCells {cls : String} {L : Addr} {closure : List (Str × Addr)} {m : List (Str × Value)} (f : Str × NameKind → List (Str × Addr) → Sem (ForInStep (List (Str × Addr))))
    (hf : ∀ name kind cells, f (name, kind) cells = if kind == .cell then (do let a ← alloc { cls := .type "cell", data := .cell none }; pure (.yield ((name, a) :: cells))) else pure (.yield cells)) :
    ∀ (names : List (Str × NameKind)) (cs : List (Str × Addr)) (Q : List (Str × Addr) → AH → Prop), CsOk σ L cs →
      (∀ cs', CsOk σ L cs' → cs'.map (·.1) = (cellNames names).reverse ++ cs.map (·.1) → Q (cs' ++ closure) (Fst σ cls L cs' m fun _ => none)) →
      W C b (forIn names (cs ++ closure) f) (Fst σ cls L cs m fun _ => none) Q X
  | [], cs, Q, k, h => by rw [List.forIn_nil]; exact W.pure_ (h cs k rfl)
  | (name, kind) :: r, cs, Q, k, h => by
    rw [List.forIn_cons, hf]
    cases hk : kind == NameKind.cell with
    | true =>
      rw [if_pos rfl]
      refine W.bind_ (W.bind_ (W.alloc_obj (ao := .cell none) (fun h a e => ⟨_, e, rfl, rfl⟩) rfl fun c hc => W.pure_ ?_))
      obtain ⟨e, k'⟩ := Fst.addCell (n := name) k hc
      rw [e]
      refine W.layCells f hf r ((name, c) :: cs) Q k' fun cs' k'' hn => h cs' k'' ?_
      rw [hn]; simp [cellNames, hk]
    | false =>
      rw [if_neg (by decide)]
      refine W.bind_ (W.pure_ ?_)
      refine W.layCells f hf r cs Q k fun cs' k'' hn => h cs' k'' ?_
      rw [hn]; simp [cellNames, hk]

theorem lookup_app {cs cl : List (Str × Addr)} {n : Str} (h : n ∈ cs.map (·.1)) : ∃ c, (cs ++ cl).lookup n = some c ∧ (n, c) ∈ cs := by
  induction cs with
  | nil => cases h
  | cons p r ih =>
    obtain ⟨x, c⟩ := p
    rw [List.cons_append, List.lookup_cons]
    by_cases e : n = x
    · subst e; exact ⟨c, by simp, .head _⟩
    · have : (n == x) = false := beq_eq_false_iff_ne.mpr e
      rw [this]
      rcases List.mem_cons.mp h with h | h
      · exact absurd h e
      · obtain ⟨c', h1, h2⟩ := ih h; exact ⟨c', h1, .tail _ h2⟩

/-- the parameters are stored -/
theorem W.bindParams {cls : String} {env : Env} {cs closure : List (Str × Addr)} (hk : env.scope.kind = .function) (hcs : env.cells = cs ++ closure) (k : CsOk σ env.locals cs) (hn : (cs.map (·.1)).Nodup)
    (f : Str × Value → PUnit → Sem (ForInStep PUnit)) (hf : ∀ n v u, f (n, v) u = (do storeName env n v; pure (.yield ⟨⟩))) :
    ∀ (binds : List (Str × Value)) (m : List (Str × Value)) (g : Str → Option Value) (Q : PUnit → AH → Prop),
      (∀ x ∈ binds, env.kindOf x.1 = some .local ∨ (env.kindOf x.1 = some .cell ∧ x.1 ∈ cs.map (·.1))) →
      (Q ⟨⟩ (Fst σ cls env.locals cs ((binds.filter fun x => env.kindOf x.1 == some NameKind.local).reverse ++ m) (fun n => match binds.reverse.lookup n with | some v => if env.kindOf n == some NameKind.local then g n else some v | none => g n))) →
      W C b (forIn binds ⟨⟩ f) (Fst σ cls env.locals cs m g) Q X
  | [], m, g, Q, _, h => by rw [List.forIn_nil]; exact W.pure_ h
  | (n, v) :: r, m, g, Q, hkind, h => by
    rw [List.forIn_cons, hf]
    have hr : ∀ y ∈ r, env.kindOf y.1 = some .local ∨ (env.kindOf y.1 = some .cell ∧ y.1 ∈ cs.map (·.1)) := fun y hy => hkind y (List.mem_cons_of_mem _ hy)
    have look : ∀ x, ((n, v) :: r).reverse.lookup x = match r.reverse.lookup x with | some w => some w | none => if x = n then some v else none := by
      intro x
      rw [List.reverse_cons]
      have : ∀ l : List (Str × Value), (l ++ [(n, v)]).lookup x = match l.lookup x with | some w => some w | none => if x = n then some v else none := by
        intro l
        induction l with
        | nil =>
          by_cases e : x = n
          · subst e; simp
          · have : (x == n) = false := beq_eq_false_iff_ne.mpr e
            simp [List.lookup_cons, this, e]
        | cons p l ih =>
          obtain ⟨y, w⟩ := p
          rw [List.cons_append, List.lookup_cons, List.lookup_cons]
          cases x == y <;> simp [ih]
      exact this _
    rcases hkind (n, v) (List.mem_cons_self) with hl | ⟨hl, hc⟩
    · refine W.bind_ (W.bind_ (W.storeLocal (cls := cls) (m := m) Fst.L (W.pure_ ?_) hl (by rw [hk]; rfl)))
      rw [Fst.setL]
      refine W.bindParams hk hcs k hn f hf r (putA m n v) g Q hr ?_
      have e1 : (((n, v) :: r).filter fun x => env.kindOf x.1 == some NameKind.local).reverse ++ m = (r.filter fun x => env.kindOf x.1 == some NameKind.local).reverse ++ putA m n v := by
        have : (env.kindOf n == some NameKind.local) = true := beq_iff_eq.mpr hl
        simp [putA, this]
      have e2 : (fun x => match ((n, v) :: r).reverse.lookup x with | some w => if env.kindOf x == some NameKind.local then g x else some w | none => g x) = fun x => match r.reverse.lookup x with | some w => if env.kindOf x == some NameKind.local then g x else some w | none => g x := by
        funext x
        rw [look]
        cases r.reverse.lookup x with
        | some w => rfl
        | none =>
          by_cases e : x = n
          · subst e; simp [hl]
          · simp [e]
      rw [e1, e2] at h
      exact h
    · have hnl : (env.kindOf n == some NameKind.local) = false := by rw [hl]; decide
      obtain ⟨c, hlk, hmem⟩ := lookup_app (cl := closure) hc
      refine W.bind_ (W.bind_ (W.storeCell (c := c) (v₀ := g n) (by rw [hcs]; exact hlk) (Fst.cell k hmem) (W.pure_ ?_) hk hl))
      rw [Fst.setC k hn hmem]
      refine W.bindParams hk hcs k hn f hf r m _ Q hr ?_
      have e1 : (((n, v) :: r).filter fun x => env.kindOf x.1 == some NameKind.local).reverse ++ m = (r.filter fun x => env.kindOf x.1 == some NameKind.local).reverse ++ m := by
        simp [hnl]
      have e2 : (fun x => match ((n, v) :: r).reverse.lookup x with | some w => if env.kindOf x == some NameKind.local then g x else some w | none => g x) = fun x => match r.reverse.lookup x with | some w => if env.kindOf x == some NameKind.local then (if x = n then some v else g x) else some w | none => if x = n then some v else g x := by
        funext x
        rw [look]
        cases r.reverse.lookup x with
        | some w =>
          by_cases e : x = n
          · subst e; simp [hnl]
          · simp [e]
        | none =>
          by_cases e : x = n
          · subst e; simp [hnl]
          · simp [e]
      rw [e1, e2] at h
      exact h
end Mine

namespace Mine
variable {C : Cx} {α β : Type} {b : Nat} {σ : AH} {X : Value → AH → Prop}

/-- what the parameters make of the view -/
theorem withCells_end {cls : String} {L : Addr} {closure : List (Str × Addr)} {binds : List (Str × Value)} {m : List (Str × Value)} {P : AH → List (Str × Addr) → Prop} {g : Str → Option Value} :
    ∀ (ns : List Str) (cs₀ new : List (Str × Addr)), (∀ n ∈ ns, g n = binds.reverse.lookup n) → CsOk σ L (new ++ cs₀) → new.map (·.1) = ns.reverse → WithCells binds ns (Fst σ cls L cs₀ m g) (cs₀ ++ closure) P →
      P (Fst σ cls L (new ++ cs₀) m g) (new ++ cs₀ ++ closure)
  | [], cs₀, new, _, _, hn, h => by
    have : new = [] := by simpa using hn
    subst this
    exact h
  | n :: r, cs₀, new, hg, k, hn, h => by
    have hl : ∃ new' c, new = new' ++ [(n, c)] := by
      rw [List.reverse_cons] at hn
      have hne : new ≠ [] := by rintro rfl; simp at hn
      refine ⟨new.dropLast, (new.getLast hne).2, ?_⟩
      have e := List.dropLast_concat_getLast hne
      rw [← e] at hn
      simp only [List.map_append, List.map_cons, List.map_nil] at hn
      have := (List.append_inj' hn rfl).2
      have e2 : (new.getLast hne).1 = n := by simpa using this
      rw [← e2]
      exact e.symm
    obtain ⟨new', c, rfl⟩ := hl
    have hn' : new'.map (·.1) = r.reverse := by
      rw [List.reverse_cons, List.map_append] at hn
      exact (List.append_inj' hn rfl).1
    have kc := k.new (n, c) (by simp)
    have k₀ : CsOk σ L cs₀ := ⟨k.hL, fun p hp => k.new p (List.mem_append_right _ hp), (List.pairwise_append.mp k.apart).2.1⟩
    have hfree : Fst σ cls L cs₀ m g c = none := by
      unfold Fst
      rw [if_neg kc.2]
      have : cs₀.find? (fun p => p.2 == c) = none := List.find?_eq_none.mpr fun p hp => by
        have := (List.pairwise_append.mp k.apart).2.2 (n, c) (by simp) p hp
        simp; exact fun e => this e.symm
      rw [this]; exact kc.1
    have h' := h c hfree
    rw [← hg n (.head _), (Fst.addCell k₀ hfree).1] at h'
    have := withCells_end r ((n, c) :: cs₀) new' (fun x hx => hg x (.tail _ hx)) (by simpa using k) hn' h'
    simpa using this

/-- the frame of a call -/
theorem W.newEnv_ {scope : Scope} {globals : Addr} {closure : List (Str × Addr)} {binds : List (Str × Value)} {qual : Str} {func : Option Addr} {code : Value} {around : Option Env} {builtins : Addr} {Q : Env → AH → Prop}
    (hk : scope.kind = .function) (hn : (cellNames scope.names).Nodup)
    (hkind : ∀ x ∈ binds, scope.names.lookup x.1 = some .local ∨ (scope.names.lookup x.1 = some .cell ∧ x.1 ∈ cellNames scope.names))
    (hcl : ∀ n ∈ cellNames scope.names, scope.names.lookup n = some .cell)
    (h : ∀ L, σ L = none → WithCells binds (cellNames scope.names) (σ.set L (.ns (if around.isSome then "dict" else "frame") (localBinds scope.names binds))) closure (fun σ' cells => σ' L = some (.ns (if around.isSome then "dict" else "frame") (localBinds scope.names binds)) → Q (newEnv scope L globals cells qual func code around builtins) σ')) :
    W C b (newFunctionEnv scope globals closure binds qual func code around builtins) σ Q X := by
  unfold newFunctionEnv
  refine W.bind_ (W.alloc_obj (ao := .ns (if around.isSome then "dict" else "frame") []) (fun h a e => ⟨_, _, _, e, rfl, rfl, fun e he => by simp at he, fun x => rfl⟩) rfl fun L hL => ?_)
  have e0 : σ.set L (.ns (if around.isSome then "dict" else "frame") []) = Fst σ (if around.isSome then "dict" else "frame") L [] [] fun _ => none := by
    funext a; unfold AH.set Fst; simp
  rw [e0]
  refine W.bind_ (W.layCells (cs := []) (closure := closure) _ (fun name kind cells => by cases hkc : kind == NameKind.cell <;> simp [hkc]) _ _ ⟨hL, fun _ hp => (nomatch hp), List.Pairwise.nil⟩ fun cs k hcs => ?_)
  have hcs' : cs.map (·.1) = (cellNames scope.names).reverse := by simpa using hcs
  have henv : (newEnv scope L globals (cs ++ closure) qual func code around builtins).scope = scope ∧ (newEnv scope L globals (cs ++ closure) qual func code around builtins).locals = L ∧ (newEnv scope L globals (cs ++ closure) qual func code around builtins).cells = cs ++ closure := by
    unfold newEnv; cases around <;> exact ⟨rfl, rfl, rfl⟩
  have hkd : ∀ x, (newEnv scope L globals (cs ++ closure) qual func code around builtins).kindOf x = scope.names.lookup x := fun x => by unfold Env.kindOf; rw [henv.1]
  have body : W C b (forIn binds (⟨⟩ : PUnit) (fun x _ => match x with | (name, v) => do storeName (newEnv scope L globals (cs ++ closure) qual func code around builtins) name v; pure (ForInStep.yield PUnit.unit)) >>= fun _ => pure (newEnv scope L globals (cs ++ closure) qual func code around builtins))
      (Fst σ (if around.isSome then "dict" else "frame") L cs [] fun _ => none) Q X := by
    refine W.bind_ ?_
    have hL' := henv.2.1
    have := W.bindParams (C := C) (b := b) (X := X) (σ := σ) (cls := if around.isSome then "dict" else "frame") (env := newEnv scope L globals (cs ++ closure) qual func code around builtins) (cs := cs) (closure := closure)
      (by rw [henv.1]; exact hk) henv.2.2 (by rw [hL']; exact k) (by rw [hcs']; exact (List.reverse_perm _).nodup_iff.mpr hn) (fun x _ => match x with | (name, v) => do storeName (newEnv scope L globals (cs ++ closure) qual func code around builtins) name v; pure (ForInStep.yield PUnit.unit)) (fun _ _ _ => rfl)
      binds [] (fun _ => none) (fun _ σ' => W C b (pure (newEnv scope L globals (cs ++ closure) qual func code around builtins)) σ' Q X)
      (fun x hx => by
        rw [hkd]
        rcases hkind x hx with h | ⟨h, h'⟩
        · exact .inl h
        · exact .inr ⟨h, by rw [hcs']; exact List.mem_reverse.mpr h'⟩) ?_
    · rw [hL'] at this; exact this
    · rw [hL']
      refine W.pure_ ?_
      have z := h L hL
      have e1 : σ.set L (.ns (if around.isSome then "dict" else "frame") (localBinds scope.names binds)) = Fst σ (if around.isSome then "dict" else "frame") L [] (localBinds scope.names binds) (fun n => binds.reverse.lookup n) := by
        funext a; unfold AH.set Fst; simp
      rw [e1] at z
      have z' := withCells_end (cellNames scope.names) [] cs (fun _ _ => rfl) (by simpa using k) hcs' z Fst.L
      have e2 : (binds.filter fun x => (newEnv scope L globals (cs ++ closure) qual func code around builtins).kindOf x.1 == some NameKind.local).reverse ++ [] = localBinds scope.names binds := by
        unfold localBinds
        simp only [hkd, List.append_nil]
      rw [e2]
      have e3 : Fst σ (if around.isSome then "dict" else "frame") L cs (localBinds scope.names binds) (fun n => match binds.reverse.lookup n with | some v => if (newEnv scope L globals (cs ++ closure) qual func code around builtins).kindOf n == some NameKind.local then none else some v | none => none) =
          Fst σ (if around.isSome then "dict" else "frame") L cs (localBinds scope.names binds) (fun n => binds.reverse.lookup n) := by
        funext a
        unfold Fst
        split
        · rfl
        · split
          · rename_i p hp
            have hm := List.mem_of_find?_eq_some hp
            have hc : scope.names.lookup p.1 = some .cell := hcl _ (by
              have : p.1 ∈ cs.map (·.1) := List.mem_map_of_mem hm
              rw [hcs'] at this; exact List.mem_reverse.mp this)
            dsimp only
            rw [hkd, hc]
            cases binds.reverse.lookup p.1 <;> rfl
          · rfl
      rw [e3]
      simpa using z'
  cases around with
  | none => exact body
  | some o => exact body
end Mine

namespace Mine
variable {C : Cx} {α β : Type} {b : Nat} {σ : AH} {X : Value → AH → Prop}

def retOf : Flow → Value
  | .ret v => v
  | _ => .none

theorem WK.func_body {env : Env} {body : List Stmt} {L : Addr} {m : List (Str × Value)} {Q : Value → AH → Prop} (hk : env.scope.kind = .function) (hf : env.frame = some L) (hL : σ L = some (.ns "frame" m))
    (h : W C b (execs body env) σ (fun fl σ' => Q (retOf fl) σ') noX) : WK C (b + 1) (.func body env) σ (isRet Q) := by
  intro A s R o r
  refine codeAny_func ?_
  refine h _ s _ _ (o.deeper hk hf hL) (fun fl σ' s' y q => ?_) fun e σ' s' y q => q.elim
  cases fl <;> exact r _ σ' s' y ⟨_, rfl, q⟩

def kindsOk (names : List (Str × NameKind)) (binds : List (Str × Value)) : Bool := binds.all fun x => match names.lookup x.1 with | some .local => true | some .cell => (cellNames names).contains x.1 | _ => false
def namesOk (names : List (Str × NameKind)) : Bool := decide (cellNames names).Nodup && (cellNames names).all fun n => names.lookup n == some .cell
theorem kindsOk_of {names : List (Str × NameKind)} {binds : List (Str × Value)} (h : kindsOk names binds = true) : ∀ x ∈ binds, names.lookup x.1 = some .local ∨ (names.lookup x.1 = some .cell ∧ x.1 ∈ cellNames names) := by
  intro x hx
  have := List.all_eq_true.mp h x hx
  split at this
  · rename_i e; exact .inl e
  · rename_i e; exact .inr ⟨e, by simpa using this⟩
  · cases this

theorem WK.func {f : Addr} {oc : Value} {od : Option Addr} {osl : Array (Option Value)} {fd : FuncData} {body : List Stmt} {args : Args} {Q : Value → AH → Prop} (ho : C.K.lookup f = some ⟨oc, od, .func fd, osl⟩)
    (h : W C b (bindArgs fd args) σ (fun binds σ₁ => kindsOk fd.scope.names binds = true ∧ ∀ L, σ₁ L = none → WithCells binds (cellNames fd.scope.names) (σ₁.set L (.ns "frame" (localBinds fd.scope.names binds))) [] (fun σ₂ cells =>
      σ₂ L = some (.ns "frame" (localBinds fd.scope.names binds)) →
      W C b (execs body (newEnv fd.scope L fd.globals cells (fd.qualname ++ ".<locals>.") (some f) fd.code none fd.builtins)) σ₂ (fun fl σ' => Q (retOf fl) σ') noX)) noX)
    (hcode : codeIn C.K fd.code fd.qualname = true)
    (hbody : fd.body = .stmts body := by rfl) (hcl : fd.closure = [] := by rfl)
    (hco : fd.scope.isCoroutine = false := by rfl) (hgen : fd.scope.isGenerator = false := by rfl) (hk : fd.scope.kind = .function := by rfl) (hn : namesOk fd.scope.names = true := by rfl) :
    WK C (b + 2) (.call (.ref f) args) σ (isRet Q) := by
  intro A s R o r
  have o1 : Ok C b A.in1 σ s := ⟨o.good, ⟨o.room.hd, by have := o.room.depth; show A.depth + b < 900; omega, by have := o.room.units; show A.units + 1 + 16 * b < 9000; omega, o.room.frames⟩, o.tk⟩
  refine codeAny_call_function o.room.lim (o.good.kin _ _ ho) rfl hco hgen hbody (codeRec_of o.good.kin hcode) ?_
  refine h A.in1 s _ _ o1 (fun binds σ₁ s₁ y q => ?_) fun e σ' s' y q => q.elim
  rw [hcl]
  obtain ⟨n1, n2⟩ := Bool.and_eq_true_iff.mp hn
  have z : W C b (newFunctionEnv fd.scope fd.globals [] binds (fd.qualname ++ ".<locals>.") (some f) fd.code none fd.builtins) σ₁ (fun env σ₂ => WK C (b + 1) (.func body env) σ₂ (isRet Q)) noX := by
    refine W.newEnv_ hk (of_decide_eq_true n1) (kindsOk_of q.1) (fun n hn => beq_iff_eq.mp (List.all_eq_true.mp n2 n hn)) fun L hL => ?_
    have w := q.2 L hL
    have conv : ∀ (ns : List Str) (τ : AH) (acc : List (Str × Addr)) {P P' : AH → List (Str × Addr) → Prop}, (∀ a c, P a c → P' a c) → WithCells binds ns τ acc P → WithCells binds ns τ acc P' := by
      intro ns
      induction ns with
      | nil => intro τ acc P P' h h'; exact h _ _ h'
      | cons n r ih => intro τ acc P P' h h' c hc; exact ih _ _ h (h' c hc)
    refine conv _ _ _ (fun τ cells hw hLL => ?_) w
    exact WK.func_body (L := L) (m := localBinds fd.scope.names binds) hk rfl hLL (hw hLL)
  refine z A.in1 s₁ _ _ (o1.next y) (fun env σ₂ s₂ y₂ q₂ => ⟨y₂.good.lim, ?_⟩) fun e σ' s' y q => q.elim
  have yy := y.trans y₂
  exact q₂ A s₂ R ⟨yy.good, ⟨o.room.hd, by have := o.room.depth; omega, by have := o.room.units; omega, (o.room.next yy.step).frames⟩, Nat.le_trans o.tk yy.tk⟩ fun fl σ' s' y₃ q₃ => r fl σ' s' (yy.trans y₃) q₃

/-! the parameters -/
theorem W.bind_eq {fd : FuncData} {args : Args} {binds : List (Str × Value)} {Q : List (Str × Value) → AH → Prop} (e : bindArgs fd args = pure binds) (h : Q binds σ) : W C b (bindArgs fd args) σ Q X := e ▸ W.pure_ h
theorem W.seqItemsK {T : Addr} {o : Obj} {items : Array Value} {n : Nat} {Q : Option (Array Value) → AH → Prop} (ho : C.K.lookup T = some o) (hs : o.data = .seq items n) (h : Q (some items) σ) : W C b (seqItems? (.ref T)) σ Q X :=
  fun A s P E ok p _ => wpAny_seqItems (ok.good.kin _ _ ho) hs (p _ _ _ (.refl ok.good) h)
theorem W.bind_dflt {fd : FuncData} {args : Args} {binds : List (Str × Value)} {T : Addr} {o : Obj} {items : Array Value} {n : Nat} {k : Option (Array Value) → Sem (List (Str × Value))} {Q : List (Str × Value) → AH → Prop}
    (ho : C.K.lookup T = some o) (hs : o.data = .seq items n) (h₁ : bindArgs fd args = seqItems? (.ref T) >>= k) (h₂ : k (some items) = pure binds) (h : Q binds σ) : W C b (bindArgs fd args) σ Q X := by
  rw [h₁]
  exact W.bind_ (W.seqItemsK ho hs (by rw [h₂]; exact W.pure_ h))
theorem W.bind_star {fd : FuncData} {args : Args} {binds : List (Str × Value)} {x : Str} {rest : List Value} {Q : List (Str × Value) → AH → Prop}
    (h₁ : bindArgs fd args = newTuple rest >>= fun t => pure (binds ++ [(x, t)])) (h : ∀ a, σ a = none → Q (binds ++ [(x, .ref a)]) (σ.set a (.tup rest))) (hz : rest.length ≤ sizeLine := by size_fits) : W C b (bindArgs fd args) σ Q X := by
  rw [h₁]
  exact W.bind_ (W.newTuple_ (fun a ha => W.pure_ (h a ha)) hz)
end Mine
end
section
open PySem PySem.W PyProof.Rows Builtin
set_option Elab.async false
set_option maxRecDepth 100000
set_option autoImplicit false
set_option linter.unusedVariables false
namespace Mine
variable {C : Cx} {α β : Type} {b : Nat} {σ : AH} {X : Value → AH → Prop}

theorem FsAre.strs {es : List DictEntry} {m : List (Str × Value)} (f : FsAre es m) : es.any (·.refKey) = false := by
  induction f with
  | nil => rfl
  | cons hk _ _ ih => obtain ⟨t, hk⟩ := hk; rw [List.any_cons, ih]; simp [DictEntry.refKey, hk]
theorem FsAre.find {es : List DictEntry} {m : List (Str × Value)} (f : FsAre es m) (x : Str) : (es.find? (·.key.isStr x)).map (·.val) = m.lookup x := by
  induction f with
  | nil => rfl
  | @cons e es y v m hk hv _ ih =>
    obtain ⟨t, hk⟩ := hk
    rw [List.find?_cons, List.lookup_cons]
    have : e.key.isStr x = (y == x) := by rw [hk]; rfl
    rw [this]
    by_cases h : x = y
    · subst h; simp [hv]
    · have h1 : (y == x) = false := beq_eq_false_iff_ne.mpr fun q => h q.symm
      have h2 : (x == y) = false := beq_eq_false_iff_ne.mpr h
      rw [h1, h2]; exact ih
theorem FsAre.getL {es : List DictEntry} {m : List (Str × Value)} (f : FsAre es m) (x : Str) : W.getL x es = some (m.lookup x) := by
  unfold W.getL
  rw [← f.find x]
  cases q : es.find? (·.key.isStr x) with
  | some e => rfl
  | none => rw [f.strs]; rfl
/-- the names in order, one stored -/
def putF (x : Str) (v : Value) : List (Str × Value) → List (Str × Value)
  | [] => [(x, v)]
  | p :: r => if p.1 = x then (x, v) :: r else p :: putF x v r
theorem FsAre.put {es : List DictEntry} {m : List (Str × Value)} (f : FsAre es m) (x : Str) (h : Int) (t : Tok) (v : Value) : FsAre (putL x h (.str x t) v es) (putF x v m) := by
  induction f with
  | nil => exact .cons ⟨t, rfl⟩ rfl .nil
  | @cons e es y u m hk hv r ih =>
    obtain ⟨tk, hk⟩ := hk
    unfold putL putF
    have : e.key.isStr x = (y == x) := by rw [hk]; rfl
    rw [this]
    by_cases q : y = x
    · subst q
      rw [if_pos (by simp), if_pos rfl]
      exact .cons ⟨tk, hk⟩ rfl r
    · rw [if_neg (by simpa using q), if_neg q]
      exact .cons ⟨tk, hk⟩ hv ih
theorem FsAre.len {es : List DictEntry} {m : List (Str × Value)} (f : FsAre es m) : es.length = m.length := by
  induction f with
  | nil => rfl
  | cons _ _ _ ih => simp [ih]

theorem Good.inst {h : Heap} (g : Good C σ h) {a Cl d : Addr} {m : List (Str × Value)} (ha : σ a = some (.inst Cl d)) (hd : σ d = some (.fs m)) : ∃ es n, FsAre es m ∧ h.get? d = some (dictOf es n) ∧ W.InstAt h a ⟨.ref Cl, some d, .plain, #[]⟩ Cl (some (dictOf es n)) := by
  obtain ⟨es, n, e, f⟩ := g.at_ _ _ hd
  exact ⟨es, n, f, e, ⟨g.at_ _ _ ha, rfl, rfl, e⟩⟩

/-! reading an attribute -/
def ownOk (K : Frag) (Cl : Addr) (x : Str) : Bool := findIn K (.ref Cl) "__getattribute__" == some (some (.builtin "object.__getattribute__")) && hasDictIn K Cl && findIn K (.ref Cl) x == some none
theorem W.getOwn {a Cl d : Addr} {m : List (Str × Value)} {x : Str} {v : Value} {ex : Bool} {Q : Value → AH → Prop} (ha : σ a = some (.inst Cl d)) (hd : σ d = some (.fs m)) (hx : m.lookup x = some v) (hv : handedIn v = true)
    (hk : ownOk C.K Cl x = true) (h : Q v σ) : W C b (getAttr (.ref a) x ex) σ Q X := by
  intro A s P E o p _
  obtain ⟨es, n, f, e, I⟩ := o.good.inst ha hd
  simp only [ownOk, Bool.and_eq_true, beq_iff_eq] at hk
  obtain ⟨⟨k1, k2⟩, k3⟩ := hk
  exact get_value o.good.kin I k1 (findObj_own k2 k3 rfl (by rw [lookIn_dict, f.getL, hx])) hv (p _ _ _ (.toks o.good _) h)

def clsValOk (K : Frag) (Cl : Addr) (x : Str) (v : Value) : Bool := findIn K (.ref Cl) "__getattribute__" == some (some (.builtin "object.__getattribute__")) && findIn K (.ref Cl) "__getattr__" == some none && hasDictIn K Cl && findIn K (.ref Cl) x == some (some v)
def propOk (K : Frag) (Cl : Addr) (x : Str) (fget : Addr) : Bool := findIn K (.ref Cl) "__getattribute__" == some (some (.builtin "object.__getattribute__")) && findIn K (.ref Cl) "__getattr__" == some none && hasDictIn K Cl &&
  (match findIn K (.ref Cl) x with
    | some (some (.ref p)) => specialIn K (.ref p) "__get__" == some (some (.builtin "property.__get__")) && takesIn K (.ref p) == some true && (match recIn K p "property" with | some (.ref f :: _) => f == fget | _ => false)
    | _ => false)

theorem Ok.less {A : Around} {s : Shared} {b' : Nat} (o : Ok C b' A σ s) (h : b ≤ b') : Ok C b A σ s :=
  ⟨o.good, ⟨o.room.hd, by have := o.room.depth; omega, by have := o.room.units; omega, o.room.frames⟩, o.tk⟩

theorem W.getProp {a Cl d fget : Addr} {m : List (Str × Value)} {x : Str} {ex : Bool} {Q : Value → AH → Prop} (ha : σ a = some (.inst Cl d)) (hd : σ d = some (.fs m)) (hk : propOk C.K Cl x fget = true)
    (h : WCall C b (.ref fget) [.ref a] [] σ (fun v σ' => handedIn v = true ∧ Q v σ')) : W C (b + 2) (getAttr (.ref a) x ex) σ Q X := by
  intro A s P E o p _
  obtain ⟨es, n, f, e, I⟩ := o.good.inst ha hd
  simp only [propOk, Bool.and_eq_true, beq_iff_eq] at hk
  obtain ⟨⟨⟨k1, k2⟩, k3⟩, k4⟩ := hk
  split at k4
  · rename_i pp k5
    simp only [Bool.and_eq_true, beq_iff_eq] at k4
    obtain ⟨⟨k6, k7⟩, k8⟩ := k4
    split at k8
    · rename_i fg rest k9
      have := of_decide_eq_true k8
      subst this
      have o2 : Ok C b A.in1 σ { s with toks := s.toks + 1 } := ⟨o.good, ⟨o.room.hd, by have := o.room.depth; show A.depth + b < 900; omega, by have := o.room.units; show A.units + 1 + 16 * b < 9000; omega, o.room.frames⟩, Nat.le_trans o.tk (Nat.le_succ _)⟩
      refine get_bind o.good.kin I k1 (findObj_data (by obtain ⟨cd, hc, _⟩ := any_some k3; rw [hc]; rfl) k5 k6 k7) k2 (wpAny_call (prop_get (s := { s with toks := s.toks + 1 }) o.good.kin k9 ?_))
      refine h _ _ _ o2 fun fl σ' s' y q => ?_
      obtain ⟨v, rfl, hv, q⟩ := q
      show wpAny _ _ (handedOut v) _ _ _
      rw [handedOut_of hv]
      exact wpAny_pure (p _ _ _ ((After.toks o.good _).trans y) q)
    · cases k8
  · cases k4

/-! a method of an object -/
def methOk (K : Frag) (Cl : Addr) (x : Str) (f : Addr) : Bool := findIn K (.ref Cl) "__getattribute__" == some (some (.builtin "object.__getattribute__")) && findIn K (.ref Cl) "__getattr__" == some none && findIn K (.ref Cl) x == some (some (.ref f)) && typeIn K (.ref f) == some (.type "function")
theorem W.methInst {a Cl d f : Addr} {m : List (Str × Value)} {x : Str} {pl : Sem Bool} {Q : Value × List Value → AH → Prop} (ha : σ a = some (.inst Cl d)) (hd : σ d = some (.fs m)) (hx : m.lookup x = none)
    (hk : methOk C.K Cl x f = true) (h : Q (.ref f, [.ref a]) σ) : W C b (getMethod (.ref a) x pl) σ Q X := by
  intro A s P E o p _
  obtain ⟨es, n, fa, e, I⟩ := o.good.inst ha hd
  simp only [methOk, Bool.and_eq_true, beq_iff_eq] at hk
  obtain ⟨⟨⟨k1, k2⟩, k3⟩, k4⟩ := hk
  exact method_fn o.good.kin I k1 k2 k3 k4 (by show (lookIn x (dictOf es n)).map _ = _; rw [lookIn_dict, fa.getL, hx]; rfl) (p _ _ _ (.refl o.good) h)

/-! storing an attribute -/
def setOk (K : Frag) (Cl : Addr) (x : Str) : Bool := findIn K (.ref Cl) "__setattr__" == some (some (.builtin "object.__setattr__")) && plainOver K Cl && takerIn K Cl x == some none && (clsIn K Cl).any (·.hasDict)
theorem W.setOwn {a Cl d : Addr} {m : List (Str × Value)} {x : Str} {v : Value} {Q : Unit → AH → Prop} (ha : σ a = some (.inst Cl d)) (hd : σ d = some (.fs m)) (hk : setOk C.K Cl x = true) (hz : m.length ≤ 100)
    (h : Q () (σ.set d (.fs (putF x v m)))) : W C b (setAttr (.ref a) x v) σ Q X := by
  intro A s P E o p _
  obtain ⟨es, n, f, e, I⟩ := o.good.inst ha hd
  simp only [setOk, Bool.and_eq_true, beq_iff_eq] at hk
  obtain ⟨⟨⟨k1, k2⟩, k3⟩, k4⟩ := hk
  refine set_plain o.good.kin I k1 ?_
  have I' : W.InstAt ({ s with toks := s.toks + 1 } : Shared).heap a ⟨.ref Cl, some d, .plain, #[]⟩ Cl (some (dictOf es n)) := I
  refine osa_open (s := { s with toks := s.toks + 1 }) o.good.kin I' k2 k3 fun bb => ?_
  obtain ⟨cd, hc, hd'⟩ := any_some k4
  refine wpAny_bind (wpAny_pure (wpAny_bind (wpAny_bind (wpAny_loadPart I.at_ (wpAny_bind ((looks_clsIn (M := model C.prog C.w) o.good.kin hc).at ?_))))))
  rw [hd']
  refine wpAny_pure (a := some d) (wpAny_bind (wpAny_pure (wpAny_bind ?_)))
  unfold nsSet
  refine wpAny_bind (wpAny_bind (wpAny_askSetting (wpAny_pure (wpAny_bind (wpAny_mkText (wpAny_bind (wpAny_loadPart e ?_)))))))
  dsimp only [dictOf]
  have cc : (!es.toArray.any (·.key.isStr x) && es.toArray.any (·.refKey)) = false := by
    have : es.toArray.any (·.refKey) = false := by rw [← Array.any_toList]; exact f.strs
    rw [this, Bool.and_false]
  rw [aRefKeyMayBeTheName_at, cc]
  refine wpAny_updatePart e ?_
  have e' : Obj.putName x (PyData.keyHash C.w.params x) (.str x (s.toks + 1)) v (dictOf es n) = dictOf (putL x (PyData.keyHash C.w.params x) (.str x (s.toks + 1)) v es) (putN x es n) := putName_dict _ _ _ _ _ _
  have D' : (s.heap.update d (Obj.putName x (PyData.keyHash C.w.params x) (.str x (s.toks + 1)) v)).get? d = some (dictOf (putL x (PyData.keyHash C.w.params x) (.str x (s.toks + 1)) v es) (putN x es n)) := by
    rw [Heap.get?_update_self _ e (by rw [e']; rfl), e']
  have f' := f.put x (PyData.keyHash C.w.params x) (s.toks + 1) v
  have hl : (putF x v m).length ≤ 101 := by
    have : ∀ m : List (Str × Value), (putF x v m).length ≤ m.length + 1 := by
      intro m
      induction m with
      | nil => simp [putF]
      | cons q r ih => unfold putF; split <;> simp; omega
    have := this m; omega
  refine wpAny_bind (wpAny_lookBehind D' (by exact pastItsLine_dict (by rw [List.size_toArray, sizeLine_eq, f'.len]; omega)) ?_)
  refine wpAny_pure (p _ _ _ ?_ h)
  refine After.upd' (s := s) (t := s.toks + 1 + 1) (o' := .fs (putF x v m)) o.good hd (Heap.SameBut.update ..) ⟨_, _, D', f'⟩ ?_
  intro c m' q; cases q

/-! an object made -/
theorem under_make {A : Around} {a : Addr} {rest : List Value} {kw : List (Str × Value)} {s : Shared} (o : Ok C (b + 1) A σ s) : Ok C b (A.under (.builtin "type.__call__" ⟨.ref a :: rest, kw⟩)) σ s := by
  have hw : (Code.builtin "type.__call__" ⟨.ref a :: rest, kw⟩).weight = 1 := by
    show (if (Code.builtin "type.__call__" ⟨.ref a :: rest, kw⟩).isFrame then 1 else 0) + 1 + (if (Code.builtin "type.__call__" ⟨.ref a :: rest, kw⟩).isGuard then 1 else 0) + (if (Code.builtin "type.__call__" ⟨.ref a :: rest, kw⟩).isCaller then claimMargin else 0) = 1
    have h1 : (Code.builtin "type.__call__" ⟨.ref a :: rest, kw⟩).isGuard = false := by show guardIds.contains "type.__call__" = false; decide +kernel
    rw [h1]; rfl
  have hu : (Code.builtin "type.__call__" ⟨.ref a :: rest, kw⟩).cUnits = 1 := rfl
  refine ⟨o.good, ⟨o.room.hd, ?_, ?_, ?_⟩, o.tk⟩
  · have := o.room.depth; simp only [Around.under, hw]; omega
  · have := o.room.units; simp only [Around.under, hu]; omega
  · exact o.room.frames

theorem WK.make {Cl fI : Addr} {rest : List Value} {kw : List (Str × Value)} {Q : Value → AH → Prop} (hm : makesIn C.K Cl = true) (hi : findIn C.K (.ref Cl) "__init__" = some (some (.ref fI))) (hf : typeIn C.K (.ref fI) = some (.type "function"))
    (h : ∀ x d, σ d = none → (σ.set d (.fs [])) x = none → WCall C b (.ref fI) (.ref x :: rest) kw ((σ.set d (.fs [])).set x (.inst Cl d)) (fun v σ' => v = .none ∧ Q (.ref x) σ')) : WCall C (b + 1) (.ref Cl) rest kw σ Q := by
  intro A s R o r
  obtain ⟨hh, g, d, t, os⟩ := s
  refine make_core (makes_of o.good.kin hm) (looks_findIn o.good.kin hi) (fun self => bind_fn o.good.kin self hf) (.inl rfl) ?_
  obtain ⟨y1, n1⟩ := After.add (t := t) (s := ⟨hh, g, d, t, os⟩) (h' := hh.push emptyDict) (a := hh.objs.size) (o := .fs []) o.good (fun b o' e => Heap.get?_push_of_some _ e) (Nat.le_refl _) ⟨[], 0, Heap.get?_push_size _ rfl, .nil⟩
  obtain ⟨y2, n2⟩ := After.add (t := t) (s := ⟨hh.push emptyDict, g, d, t, os⟩) (h' := (hh.push emptyDict).push (instObj Cl hh.objs.size)) (a := hh.objs.size + 1) (o := .inst Cl hh.objs.size) y1.good (fun b o' e => Heap.get?_push_of_some _ e) (by show (hh.push emptyDict).objs.size ≤ _; rw [Heap.size_push]; exact Nat.le_refl _)
    (by have := Heap.get?_push_size (hh.push emptyDict) (o := instObj Cl hh.objs.size) rfl; rw [Heap.size_push] at this; exact this)
  have y := y1.trans y2
  refine h _ _ n1 n2 _ _ _ ((under_make o).next y) fun fl σ' s' z q => ?_
  obtain ⟨v, rfl, rfl, q⟩ := q
  exact ⟨rfl, r _ σ' s' (y.trans z) ⟨_, rfl, q⟩⟩

theorem WK.make0 {Cl : Addr} {Q : Value → AH → Prop} (hm : makesIn C.K Cl = true) (hi : findIn C.K (.ref Cl) "__init__" = some (some (.builtin "object.__init__")))
    (h : ∀ x d, σ d = none → (σ.set d (.fs [])) x = none → Q (.ref x) ((σ.set d (.fs [])).set x (.inst Cl d))) : WCall C b (.ref Cl) [] [] σ Q := by
  intro A s R o r
  obtain ⟨hh, g, d, t, os⟩ := s
  have Y := makes_of (M := model C.prog C.w) o.good.kin hm
  obtain ⟨y1, n1⟩ := After.add (t := t) (s := ⟨hh, g, d, t, os⟩) (h' := hh.push emptyDict) (a := hh.objs.size) (o := .fs []) o.good (fun b o' e => Heap.get?_push_of_some _ e) (Nat.le_refl _) ⟨[], 0, Heap.get?_push_size _ rfl, .nil⟩
  have hx : ((hh.push emptyDict).push (instObj Cl hh.objs.size)).get? (hh.objs.size + 1) = some (instObj Cl hh.objs.size) := by have := Heap.get?_push_size (hh.push emptyDict) (o := instObj Cl hh.objs.size) rfl; rw [Heap.size_push] at this; exact this
  obtain ⟨y2, n2⟩ := After.add (t := t) (s := ⟨hh.push emptyDict, g, d, t, os⟩) (h' := (hh.push emptyDict).push (instObj Cl hh.objs.size)) (a := hh.objs.size + 1) (o := .inst Cl hh.objs.size) y1.good (fun b o' e => Heap.get?_push_of_some _ e) (by show (hh.push emptyDict).objs.size ≤ _; rw [Heap.size_push]; exact Nat.le_refl _) hx
  have y := y1.trans y2
  refine make_core Y (looks_findIn o.good.kin hi) (fun self => Looks.of_pure (oi_bind self)) (.inr ⟨rfl, rfl⟩) ?_
  have t1 : Looks (model C.prog C.w) ((hh.push emptyDict).push (instObj Cl hh.objs.size)) (typeOf (.ref (hh.objs.size + 1))) (.ref Cl) := (Looks.ld hx).andThen .now
  have t2 : Looks (model C.prog C.w) ((hh.push emptyDict).push (instObj Cl hh.objs.size)) (isInstance (.ref (hh.objs.size + 1)) (.type "object")) true := t1.andThen (Y.top.keeps fun b o e => Heap.get?_push_of_some _ (Heap.get?_push_of_some _ e))
  refine codeAny_call_builtin oi_plain entry_oi (@check_slot (model C.prog C.w) _ _ _ "object.__init__" "object" "__init__" (.ref (hh.objs.size + 1)) [] [] _ oi_kind oi_split t2 (oi_args (.ref (hh.objs.size + 1))) ?_)
  rw [oi_run]
  exact wpAny_pure (And.intro rfl (r _ _ _ y ⟨_, rfl, h _ _ n1 n2⟩))
end Mine
end
section
open PySem PySem.W PyProof.Rows Builtin
set_option Elab.async false
set_option maxRecDepth 100000
set_option autoImplicit false
set_option linter.unusedVariables false
namespace Mine
variable {C : Cx} {α β : Type} {b : Nat} {σ : AH} {X : Value → AH → Prop}

/-! the frame rule: a thing that the rest does not see -/
def AO.still : AO → Prop
  | .ns _ _ => False
  | .raw o => o.cls ≠ .type "frame" ∧ o.cls ≠ .none
  | _ => True

theorem Lk.eq_of {o o' : Obj} (h : Lk o o') (h1 : o.cls ≠ .type "frame") (h2 : o.cls ≠ .none) : o' = o := by
  rcases h with h | ⟨h, _⟩ | ⟨vs, more, h, _⟩
  · exact h
  · exact absurd h h1
  · subst h; exact absurd rfl h2

theorem Mt.obj {h : Heap} {a : Addr} {o : AO} (m : Mt C h a o) (hs : o.still) : ∃ ob, h.get? a = some ob ∧ ob.cls ≠ .type "frame" ∧ ob.cls ≠ .none := by
  cases o with
  | ns c m' => exact hs.elim
  | fs m' => obtain ⟨es, n, e, r⟩ := m; exact ⟨_, e, by simp, by simp⟩
  | cell v => obtain ⟨o, e, r, _⟩ := m; exact ⟨o, e, by rw [r]; simp, by rw [r]; simp⟩
  | lst vs => obtain ⟨n, e⟩ := m; exact ⟨_, e, by simp, by simp⟩
  | tup vs => obtain ⟨n, e⟩ := m; exact ⟨_, e, by simp, by simp⟩
  | dct kvs ep => obtain ⟨⟨o, es, e, r, _⟩, _⟩ := m; exact ⟨o, e, by rw [r.1]; simp, by rw [r.1]; simp⟩
  | inst K d => exact ⟨_, m, by simp, by simp⟩
  | raw o => exact ⟨o, m, hs.1, hs.2⟩
  | pr P => obtain ⟨o, e, _, h1, h2⟩ := m; exact ⟨o, e, h1, h2⟩

def AO.fr : AO → Prop
  | .raw o => o.cls ≠ .type "frame" ∧ o.cls ≠ .none
  | _ => True
theorem AO.still.fr {o : AO} (h : o.still) : o.fr := by cases o <;> first | exact h | trivial
theorem Mt.under {h h' : Heap} {a : Addr} {o : AO} (m : Mt C h a o) (hs : o.fr) (lk : ∀ ob, h.get? a = some ob → ∃ o', h'.get? a = some o' ∧ Lk ob o') : Mt C h' a o := by
  by_cases q : o.still
  · obtain ⟨ob, e, h1, h2⟩ := m.obj q
    obtain ⟨o', e', l⟩ := lk ob e
    have := l.eq_of h1 h2
    subst this
    exact m.keeps fun x q => by rw [e] at q; cases q; exact e'
  · cases o with
    | ns c m' =>
      obtain ⟨ob, es, n, e, hc, hd, r⟩ := m
      obtain ⟨o', e', l⟩ := lk ob e
      rcases l with rfl | ⟨z4, z5, z6, z7⟩ | ⟨vs, more, rfl, rfl, _⟩
      · exact ⟨_, es, n, e', hc, hd, r⟩
      · exact ⟨_, es, n, e', z5.trans hc, z7.trans hd, r⟩
      · cases hc
    | raw o => exact absurd hs q
    | _ => exact absurd trivial q
theorem After.frame {σ σ' : AH} {s s' : Shared} {I : Addr} {o : AO} (hI : σ I = none) (g : Good C (σ.set I o) s.heap) (hs : o.fr) (y : After C σ s σ' s') : After C (σ.set I o) s (σ'.set I o) s' ∧ σ' I = none := by
  have m := g.at_ I o AH.set_self
  have hex : ∃ ob, s.heap.get? I = some ob := by
    cases o with
    | ns c m' => obtain ⟨o, _, _, e, _⟩ := m; exact ⟨o, e⟩
    | fs m' => obtain ⟨_, _, e, _⟩ := m; exact ⟨_, e⟩
    | cell v => obtain ⟨o, e, _⟩ := m; exact ⟨o, e⟩
    | lst vs => obtain ⟨n, e⟩ := m; exact ⟨_, e⟩
    | tup vs => obtain ⟨n, e⟩ := m; exact ⟨_, e⟩
    | dct kvs ep => obtain ⟨⟨o, _, e, _⟩, _⟩ := m; exact ⟨o, e⟩
    | inst K d => exact ⟨_, m⟩
    | raw o => exact ⟨o, m⟩
    | pr P => obtain ⟨o, e, _⟩ := m; exact ⟨o, e⟩
  obtain ⟨ob, e⟩ := hex
  obtain ⟨n', o', e', lk⟩ := y.step.like I ob hI e
  have m' : Mt C s'.heap I o := m.under hs fun ob' q => by rw [e] at q; cases q; exact ⟨o', e', lk⟩
  have hb : ∀ b x, C.h₁.get? b = some x → b ≠ I := fun b x q hq => by have := (g.base b x q).1; rw [hq, AH.set_self] at this; cases this
  refine ⟨⟨⟨fun b x q => ⟨by rw [AH.set_ne (hb b x q)]; exact (y.good.base b x q).1, (y.good.base b x q).2⟩, fun a x q => ?_⟩, ⟨fun b x q q' => ?_, fun a c m q => ?_⟩, y.ext, y.tk⟩, n'⟩
  · by_cases ha : a = I
    · subst ha; rw [AH.set_self] at q; cases q; exact m'
    · rw [AH.set_ne ha] at q; exact y.good.at_ a x q
  · have hbI : b ≠ I := fun z => by rw [z, AH.set_self] at q; cases q
    rw [AH.set_ne hbI] at q
    obtain ⟨z1, z2⟩ := y.step.like b x q q'
    exact ⟨by rw [AH.set_ne hbI]; exact z1, z2⟩
  · by_cases ha : a = I
    · subst ha; rw [AH.set_self] at q; cases q; exact ⟨_, AH.set_self⟩
    · rw [AH.set_ne ha] at q
      obtain ⟨m', q'⟩ := y.step.ns a c m q
      exact ⟨m', by rw [AH.set_ne ha]; exact q'⟩
theorem Ok.drop {A : Around} {s : Shared} {I : Addr} {o : AO} (hI : σ I = none) (k : Ok C b A (σ.set I o) s) : Ok C b A σ s := by
  refine ⟨⟨fun b x q => ⟨?_, (k.good.base b x q).2⟩, fun a x q => k.good.at_ a x (AH.set_new hI q)⟩, ⟨k.room.hd, k.room.depth, k.room.units, ?_⟩, k.tk⟩
  · cases z : σ b with
    | none => rfl
    | some y => have := (k.good.base b x q).1; rw [AH.set_new hI z] at this; cases this
  · obtain ⟨l, e, f⟩ := k.room.frames
    refine ⟨l, e, fun env he => ?_⟩
    obtain ⟨h1, L, h2, hn, h3⟩ := f env he
    refine ⟨h1, L, h2, hn, ?_⟩
    by_cases hL : L = I
    · subst hL
      rcases h3 with ⟨m, h3⟩ | ⟨h3, _⟩
      · have := k.good.at_ _ _ h3
        obtain ⟨ob, es, n, e, hc, hd, _⟩ := this
        exact .inr ⟨hI, ob, es, n, e, hc, hd⟩
      · rw [AH.set_self] at h3; cases h3
    · rwa [AH.set_ne hL] at h3
theorem W.frame' {t : Sem α} {I : Addr} {o : AO} {Q : α → AH → Prop} (hI : σ I = none) (hs : o.fr) (h : W C b t σ (fun a σ' => σ' I = none → Q a (σ'.set I o)) noX) : W C b t (σ.set I o) Q X := by
  intro A s P E k p x
  refine h A s P E (k.drop hI) (fun a σ' s' y q => ?_) fun e σ' s' y q => q.elim
  obtain ⟨z, n⟩ := After.frame hI k.good hs y
  exact p a _ s' z (q n)
theorem WK.frame' {c : Code} {I : Addr} {o : AO} {Q : Flow → AH → Prop} (hI : σ I = none) (hs : o.fr) (h : WK C b c σ (fun a σ' => σ' I = none → Q a (σ'.set I o))) : WK C b c (σ.set I o) Q := by
  intro A s R k r
  refine h A s R (k.drop hI) (fun a σ' s' y q => ?_)
  obtain ⟨z, n⟩ := After.frame hI k.good hs y
  exact r a _ s' z (q n)
theorem W.frame {t : Sem α} {I : Addr} {o : AO} {Q : α → AH → Prop} (hI : σ I = none) (hs : o.still) (h : W C b t σ (fun a σ' => σ' I = none → Q a (σ'.set I o)) noX) : W C b t (σ.set I o) Q X := W.frame' hI hs.fr h
theorem WK.frame {c : Code} {I : Addr} {o : AO} {Q : Flow → AH → Prop} (hI : σ I = none) (hs : o.still) (h : WK C b c σ (fun a σ' => σ' I = none → Q a (σ'.set I o))) : WK C b c (σ.set I o) Q := WK.frame' hI hs.fr h

/-! a smaller view at the end -/
structure Cut (σ₀ big small : AH) : Prop where
  sub : ∀ a o, small a = some o → big a = some o
  ns : ∀ a c m, σ₀ a = some (.ns c m) → small a = big a
theorem Cut.refl (σ₀ σ : AH) : Cut σ₀ σ σ := ⟨fun _ _ e => e, fun _ _ _ _ => rfl⟩
theorem Cut.drop {σ₀ σ : AH} {I : Addr} {o : AO} (h0 : σ₀ I = none) (hI : σ I = none) : Cut σ₀ (σ.set I o) σ :=
  ⟨fun a x e => AH.set_new hI e, fun a c m e => (AH.set_ne fun q => by rw [q, h0] at e; cases e).symm⟩
theorem Cut.trans {σ₀ a b c : AH} (x : Cut σ₀ a b) (y : Cut σ₀ b c) : Cut σ₀ a c := ⟨fun i o e => x.sub i o (y.sub i o e), fun i k m e => (y.ns i k m e).trans (x.ns i k m e)⟩
theorem W.cut {t : Sem α} {Q : α → AH → Prop} (h : W C b t σ (fun a big => ∃ small, Cut σ big small ∧ Q a small) X) : W C b t σ Q X :=
  fun A s P E k p x => h A s P E k (fun a big s' y q => let ⟨small, c, q⟩ := q; p a small s' (y.cut c.sub c.ns) q) x
theorem WK.cut {c : Code} {Q : Flow → AH → Prop} (h : WK C b c σ (fun a big => ∃ small, Cut σ big small ∧ Q a small)) : WK C b c σ Q :=
  fun A s R k r => h A s R k fun a big s' y q => let ⟨small, c, q⟩ := q; r a small s' (y.cut c.sub c.ns) q

/-! syntax: expressions -/
theorem W.isPure {t : Sem α} {a : α} {Q : α → AH → Prop} (e : t = pure a) (h : Q a σ) : W C b t σ Q X := e ▸ W.pure_ h
section
variable {env : Env}
theorem W.eName {x : Str} {pos : Pos} {Q : Value → AH → Prop} (h : W C b (loadName env x) σ Q X) (hd : (x == ("__debug__" : Str)) = false := by decide) : W C b (eval (.Name x pos) env) σ Q X := by
  rw [eval_Name env x pos hd]; exact W.bind_ (W.standAt_ h)
theorem W.eInt {i : Int} {k : Nat} {pos : Pos} {Q : Value → AH → Prop} (h : ∀ t, Q (.int i t) σ) : W C b (eval (.Constant (.int i) k pos) env) σ Q X := W.mkInt_ h
theorem W.eStr {i : Str} {k : Nat} {pos : Pos} {Q : Value → AH → Prop} (h : ∀ t, Q (.str i t) σ) : W C b (eval (.Constant (.str i) k pos) env) σ Q X := W.mkText_ h
theorem W.eBool {i : Bool} {k : Nat} {pos : Pos} {Q : Value → AH → Prop} (h : Q (.bool i) σ) : W C b (eval (.Constant (.bool i) k pos) env) σ Q X := W.pure_ h
theorem W.eNone {k : Nat} {pos : Pos} {Q : Value → AH → Prop} (h : Q .none σ) : W C b (eval (.Constant .none k pos) env) σ Q X := W.pure_ h

def isSuper : Expr → Bool
  | .Call (.Name nm _) [] [] _ => nm == ("super" : Str)
  | _ => false
theorem W.attrBase {o : Expr} {attr : Str} {whole : Sem Value} {Q : Value → AH → Prop} (h : W C b whole σ Q X) (hs : isSuper o = false := by rfl) : W C b (attributeBase o attr env whole) σ Q X := by
  unfold attributeBase
  split
  · rename_i id p pos
    have : (id != ("super" : Str)) = true := by
      have : (id == ("super" : Str)) = false := hs
      simp [bne, this]
    simp only [this, Bool.true_or, if_true]
    exact h
  · exact h
theorem W.letTemp {base : Expr} {o r : Value} {Q : Unit → AH → Prop} (h : Q () σ) : W C b (letTemporaryGo base o r) σ Q X := fun A s P E k p _ => wpAny_letTemporaryGo (p _ _ _ (.refl k.good) h)
theorem W.eAttr {o : Expr} {x : Str} {pos : Pos} {Q : Value → AH → Prop} (h : W C b (eval o env) σ (fun v σ₁ => W C b (getAttr v x true) σ₁ Q X) X) (hs : isSuper o = false := by rfl) : W C b (eval (.Attribute o x pos) env) σ Q X := by
  rw [arm_eval_Attribute]
  exact W.bind_ (W.attrBase (W.mono h (fun v σ₁ q => W.bind_ (W.standAt_ (W.bind_ (W.hold (W.mono q (fun r σ₂ q => W.bind_ (W.letTemp (W.pure_ q))) fun _ _ x => x))))) fun _ _ x => x) hs)
theorem W.eBin {l r : Expr} {op : Operator} {pos : Pos} {Q : Value → AH → Prop} (h : W C b (eval l env) σ (fun u σ₁ => W C b (eval r env) σ₁ (fun v σ₂ => W C b (binaryOp op u v) σ₂ Q X) X) X) : W C b (eval (.BinOp l op r pos) env) σ Q X := by
  rw [arm_eval_BinOp]
  exact W.bind_ (W.mono h (fun u σ₁ q => W.bind_ (W.hold (W.mono q (fun v σ₂ q => W.bind_ (W.standAt_ (W.operate_ q))) fun _ _ x => x))) fun _ _ x => x)
theorem W.eUn {e : Expr} {op : UnaryOp} {pos : Pos} {Q : Value → AH → Prop} (h : W C b (eval e env) σ (fun u σ₁ => W C b (unaryOp op u) σ₁ Q X) X) : W C b (eval (.UnaryOp op e pos) env) σ Q X := by
  rw [arm_eval_UnaryOp]
  exact W.bind_ (W.mono h (fun u σ₁ q => W.bind_ (W.standAt_ (W.hold q))) fun _ _ x => x)
theorem W.ite_ {c : Bool} {x y : Sem α} {Q : α → AH → Prop} (h : W C b (if c then x else y) σ Q X) : W C b (if c = true then x else y) σ Q X := h
theorem W.eIf {test body orelse : Expr} {pos : Pos} {Q : Value → AH → Prop} (h : W C b (isTrue test env (eval test env)) σ (fun c σ₁ => (c = true → W C b (eval body env) σ₁ Q X) ∧ (c = false → W C b (eval orelse env) σ₁ Q X)) X) : W C b (eval (.IfExp test body orelse pos) env) σ Q X := by
  rw [arm_eval_IfExp]
  refine W.bind_ (W.mono h (fun c σ₁ q => ?_) fun _ _ x => x)
  cases c with
  | true => exact q.1 rfl
  | false => exact q.2 rfl
theorem W.eCmp {l r : Expr} {op : CmpOp} {pos : Pos} {Q : Value → AH → Prop} (h : W C b (eval l env) σ (fun u σ₁ => W C b (eval r env) σ₁ (fun v σ₂ => W C b (compareOp op u v) σ₂ Q X) X) X) (hm : behindInMarks op r = false := by rfl) :
    W C b (eval (.Compare l [op] [r] pos) env) σ Q X := by
  rw [arm_eval_Compare]
  refine W.bind_ (W.mono h (fun u σ₁ q => ?_) fun _ _ x => x)
  show W C b (compareChain pos u [op] [markedBehindIn op r (eval r env)]) σ₁ Q X
  rw [markedBehindIn_of_false hm]
  exact W.bind_ (W.hold (W.mono q (fun v σ₂ q => W.bind_ (W.standAt_ (W.operate_ q))) fun _ _ x => x))

/-! truth -/
theorem W.testCompare1 {l r : Expr} {op : CmpOp} {pos : Pos} {whole : Sem Value} {Q : Bool → AH → Prop} (h : W C b (eval l env) σ (fun u σ₁ => W C b (eval r env) σ₁ (fun v σ₂ => W C b (compareOp op u v) σ₂ (fun c σ₃ => W C b (truthy c) σ₃ Q X) X) X) X) (hm : behindInMarks op r = false := by rfl) :
    W C b (isTrue (.Compare l [op] [r] pos) env whole) σ Q X := by
  rw [arm_isTrue_Compare]
  refine W.bind_ (W.mono h (fun u σ₁ q => ?_) fun _ _ x => x)
  show W C b (testChain pos u [op] [markedBehindIn op r (eval r env)]) σ₁ Q X
  rw [markedBehindIn_of_false hm]
  exact W.bind_ (W.hold (W.mono q (fun v σ₂ q => W.bind_ (W.standAt_ (W.bind_ (W.operate_ (W.mono q (fun c σ₃ q => W.hold q) fun _ _ x => x))))) fun _ _ x => x))
theorem W.testCompare2 {l r r' : Expr} {op op' : CmpOp} {pos : Pos} {whole : Sem Value} {Q : Bool → AH → Prop}
    (h : W C b (eval l env) σ (fun u σ₁ => W C b (eval r env) σ₁ (fun v σ₂ => W C b (compareOp op u v) σ₂ (fun c σ₃ => W C b (truthy c) σ₃ (fun t σ₄ => (t = true → W C b (eval r' env) σ₄ (fun v' σ₅ => W C b (compareOp op' v v') σ₅ (fun c' σ₆ => W C b (truthy c') σ₆ Q X) X) X) ∧ (t = false → Q false σ₄)) X) X) X) X)
    (hm : behindInMarks op' r' = false := by rfl) :
    W C b (isTrue (.Compare l [op, op'] [r, r'] pos) env whole) σ Q X := by
  rw [arm_isTrue_Compare]
  refine W.bind_ (W.mono h (fun u σ₁ q => ?_) fun _ _ x => x)
  show W C b (testChain pos u [op, op'] [eval r env, markedBehindIn op' r' (eval r' env)]) σ₁ Q X
  rw [markedBehindIn_of_false hm]
  unfold testChain
  refine W.bind_ (W.hold (W.mono q (fun v σ₂ q => W.bind_ (W.standAt_ (W.bind_ (W.hold (W.mono q (fun c σ₃ q => W.bind_ (W.release_ (W.bind_ (W.hold (W.mono q (fun t σ₄ q => ?_) fun _ _ x => x))))) fun _ _ x => x))))) fun _ _ x => x))
  cases t with
  | true => exact W.bind_ (W.hold (W.mono (q.1 rfl) (fun v σ₂ q => W.bind_ (W.standAt_ (W.bind_ (W.operate_ (W.mono q (fun c σ₃ q => W.hold q) fun _ _ x => x))))) fun _ _ x => x))
  | false => exact W.pure_ (q.2 rfl)
theorem W.testNot {e : Expr} {pos : Pos} {whole : Sem Value} {Q : Bool → AH → Prop} (h : W C b (isTrue e env (eval e env)) σ (fun c σ₁ => Q (!c) σ₁) X) : W C b (isTrue (.UnaryOp .Not e pos) env whole) σ Q X := by
  rw [arm_isTrue_UnaryOp]
  exact W.bind_ (W.mono h (fun c σ₁ q => W.pure_ q) fun _ _ x => x)
theorem W.testBool {op : BoolOp} {vs : List Expr} {pos : Pos} {whole : Sem Value} {Q : Bool → AH → Prop} (h : W C b (allTrue op vs env) σ Q X) : W C b (isTrue (.BoolOp op vs pos) env whole) σ Q X := by
  rw [arm_isTrue_BoolOp]; exact h
theorem W.all_nil {op : BoolOp} {Q : Bool → AH → Prop} (h : Q (op == .And) σ) : W C b (allTrue op [] env) σ Q X := by rw [arm_allTrue_nil]; exact W.pure_ h
theorem W.and_cons {e : Expr} {r : List Expr} {Q : Bool → AH → Prop} (h : W C b (isTrue e env (eval e env)) σ (fun c σ₁ => (c = false → Q false σ₁) ∧ (c = true → W C b (allTrue .And r env) σ₁ Q X)) X) : W C b (allTrue .And (e :: r) env) σ Q X := by
  rw [arm_allTrue_cons]
  refine W.bind_ (W.mono h (fun c σ₁ q => ?_) fun _ _ x => x)
  cases c with
  | false => exact W.pure_ (q.1 rfl)
  | true => exact q.2 rfl
theorem W.or_cons {e : Expr} {r : List Expr} {Q : Bool → AH → Prop} (h : W C b (isTrue e env (eval e env)) σ (fun c σ₁ => (c = true → Q true σ₁) ∧ (c = false → W C b (allTrue .Or r env) σ₁ Q X)) X) : W C b (allTrue .Or (e :: r) env) σ Q X := by
  rw [arm_allTrue_cons]
  refine W.bind_ (W.mono h (fun c σ₁ q => ?_) fun _ _ x => x)
  cases c with
  | true => exact W.pure_ (q.1 rfl)
  | false => exact q.2 rfl
def plainTest : Expr → Bool
  | .UnaryOp .Not _ _ | .BoolOp .. | .IfExp .. | .Compare .. => false
  | _ => true
theorem W.testValue {e : Expr} {Q : Bool → AH → Prop} (h : W C b (eval e env) σ (fun v σ₁ => W C b (truthy v) σ₁ Q X) X) (hp : plainTest e = true := by rfl) : W C b (isTrue e env (eval e env)) σ Q X := by
  have : isTrue e env (eval e env) = (do let v ← eval e env; standAt e.pos; holding [v] (truthy v)) := by
    cases e <;> first | rfl | (rename_i op _ _; cases op <;> first | rfl | cases hp) | cases hp
  rw [this]
  exact W.bind_ (W.mono h (fun v σ₁ q => W.bind_ (W.standAt_ (W.hold q))) fun _ _ x => x)

/-! and, or as values -/
theorem W.boolOp1 {op : BoolOp} {pos : Pos} {x : Sem Value} {Q : Value → AH → Prop} (h : W C b x σ Q X) : W C b (boolOp pos op [x]) σ Q X := h
theorem W.boolAnd {pos : Pos} {x y : Sem Value} {r : List (Sem Value)} {Q : Value → AH → Prop} (h : W C b x σ (fun v σ₁ => W C b (truthy v) σ₁ (fun c σ₂ => (c = false → Q v σ₂) ∧ (c = true → W C b (boolOp pos .And (y :: r)) σ₂ Q X)) X) X) : W C b (boolOp pos .And (x :: y :: r)) σ Q X := by
  unfold boolOp
  refine W.bind_ (W.mono h (fun v σ₁ q => W.bind_ (W.standAt_ (W.bind_ (W.hold (W.mono q (fun c σ₂ q => ?_) fun _ _ x => x))))) fun _ _ x => x)
  cases c with
  | false => exact W.pure_ (q.1 rfl)
  | true => exact q.2 rfl
theorem W.boolOr {pos : Pos} {x y : Sem Value} {r : List (Sem Value)} {Q : Value → AH → Prop} (h : W C b x σ (fun v σ₁ => W C b (truthy v) σ₁ (fun c σ₂ => (c = true → Q v σ₂) ∧ (c = false → W C b (boolOp pos .Or (y :: r)) σ₂ Q X)) X) X) : W C b (boolOp pos .Or (x :: y :: r)) σ Q X := by
  unfold boolOp
  refine W.bind_ (W.mono h (fun v σ₁ q => W.bind_ (W.standAt_ (W.bind_ (W.hold (W.mono q (fun c σ₂ q => ?_) fun _ _ x => x))))) fun _ _ x => x)
  cases c with
  | true => exact W.pure_ (q.1 rfl)
  | false => exact q.2 rfl
theorem W.eBoolOp {op : BoolOp} {es : List Expr} {pos : Pos} {Q : Value → AH → Prop} (h : W C b (boolOp pos op (evalEach es env)) σ Q X) : W C b (eval (.BoolOp op es pos) env) σ Q X := h

/-! displays and arguments -/
def isStarred : Expr → Bool
  | .Starred .. => true
  | _ => false
theorem starEach_cons {e : Expr} {r : List Expr} (h : isStarred e = false) : starEach (e :: r) env = (false, eval e env) :: starEach r env := by cases e <;> first | rfl | cases h
theorem W.args_nil {pos : Pos} {Q : List Value → AH → Prop} (h : Q [] σ) : W C b (spliced (backTo pos (starEach [] env))) σ Q X := W.pure_ h
theorem W.args_cons {pos : Pos} {e : Expr} {r : List Expr} {Q : List Value → AH → Prop} (h : W C b (eval e env) σ (fun v σ₁ => W C b (spliced (backTo pos (starEach r env))) σ₁ (fun vs σ₂ => Q (v :: vs) σ₂) X) X) (hs : isStarred e = false := by rfl) :
    W C b (spliced (backTo pos (starEach (e :: r) env))) σ Q X := by
  rw [starEach_cons hs]
  show W C b (spliced ((false, eval e env) :: backTo pos (starEach r env))) σ Q X
  rw [spliced]
  refine W.bind_ (W.mono h (fun v σ₁ q => ?_) fun _ _ x => x)
  simp only [Bool.false_eq_true, if_false]
  exact W.bind_ (W.pure_ (W.bind_ (W.hold (W.mono q (fun vs σ₂ q => W.pure_ q) fun _ _ x => x))))
theorem W.eList {es : List Expr} {pos : Pos} {Q : Value → AH → Prop} (h : W C b (spliced (backTo pos (starEach es env))) σ (fun vs σ₁ => W C b (newList vs) σ₁ Q X) X) : W C b (eval (.List es pos) env) σ Q X := by
  rw [arm_eval_List]; exact W.bind_ (W.standAt_ (W.bind_ h))
theorem W.eTuple {es : List Expr} {k : Nat} {pos : Pos} {Q : Value → AH → Prop} (h : W C b (spliced (backTo pos (starEach es env))) σ (fun vs σ₁ => W C b (newTuple vs) σ₁ Q X) X) : W C b (eval (.Tuple es k pos) env) σ Q X := by
  rw [arm_eval_Tuple]; exact W.bind_ (W.standAt_ (W.bind_ h))

theorem W.kws_nil {pos : Pos} {Q : List Value → AH → Prop} (h : Q [] σ) : W C b (evalAll ((backToKw pos (keywordEach [] env)).map (·.2))) σ Q X := W.pure_ h
theorem W.kws_cons {pos : Pos} {n : Option Str} {e : Expr} {p : Pos} {r : List Keyword} {Q : List Value → AH → Prop} (h : W C b (eval e env) σ (fun v σ₁ => W C b (evalAll ((backToKw pos (keywordEach r env)).map (·.2))) σ₁ (fun vs σ₂ => Q (v :: vs) σ₂) X) X) :
    W C b (evalAll ((backToKw pos (keywordEach (⟨n, e, p⟩ :: r) env)).map (·.2))) σ Q X := by
  show W C b (evalAll ((do let v ← eval e env; standAt pos; pure v) :: (backToKw pos (keywordEach r env)).map (·.2))) σ Q X
  rw [evalAll]
  exact W.bind_ (W.bind_ (W.mono h (fun v σ₁ q => W.bind_ (W.standAt_ (W.pure_ (W.bind_ (W.hold (W.mono q (fun vs σ₂ q => W.pure_ q) fun _ _ x => x)))))) fun _ _ x => x))

def loneStar : List (Bool × Sem Value) → Bool
  | [(true, _)] => true
  | _ => false
theorem W.evalArgs_ {f : Value} {args : List (Bool × Sem Value)} {kws : List (Option Str × Sem Value)} {Q : Args → AH → Prop}
    (h : W C b (spliced args) σ (fun vs σ₁ => W C b (evalAll (kws.map (·.2))) σ₁ (fun ks σ₂ => Q ⟨vs, (kws.filterMap (·.1)).zip ks⟩ σ₂) X) X) (hl : loneStar args = false := by rfl) (hall : kws.all (·.1.isSome) = true := by rfl) :
    W C b (evalArgs f true args kws) σ Q X := by
  unfold evalArgs
  have rest : ∀ (vs : List Value) (σ₁ : AH), W C b (evalAll (kws.map (·.2))) σ₁ (fun ks σ₂ => Q ⟨vs, (kws.filterMap (·.1)).zip ks⟩ σ₂) X →
      W C b (holding (vs ++ (Option.none : Option Value).toList) (do
        if kws.all (·.1.isSome) then
          let kw := (kws.filterMap (·.1)).zip (← evalAll (kws.map (·.2)))
          return ⟨← pure vs, kw⟩
        let d ← mergedKeywords f kws
        let pos ← pure vs
        return ⟨pos, ← holding (.ref d :: pos) (keywordsIn f d)⟩)) σ₁ Q X := by
    intro vs σ₁ q
    refine W.hold ?_
    rw [hall]
    exact W.bind_ (W.mono q (fun ks σ₂ q => W.bind_ (W.pure_ (W.pure_ q))) fun _ _ x => x)
  have main : W C b (spliced args >>= fun vs => holding (vs ++ (Option.none : Option Value).toList) (do
        if kws.all (·.1.isSome) then
          let kw := (kws.filterMap (·.1)).zip (← evalAll (kws.map (·.2)))
          return ⟨← pure vs, kw⟩
        let d ← mergedKeywords f kws
        let pos ← pure vs
        return ⟨pos, ← holding (.ref d :: pos) (keywordsIn f d)⟩)) σ Q X := W.bind_ (W.mono h (fun vs σ₁ q => rest vs σ₁ q) fun _ _ x => x)
  match args, hl, main with
  | [], _, main => exact main
  | [(false, x)], _, main => exact main
  | (true, x) :: a' :: r, _, main => exact main
  | (false, x) :: a' :: r, _, main => exact main
end
end Mine
end
section
open PySem PySem.W PyProof.Rows Builtin
set_option Elab.async false
set_option maxRecDepth 100000
set_option autoImplicit false
set_option linter.unusedVariables false
namespace Mine
variable {C : Cx} {α β : Type} {b : Nat} {σ : AH} {X : Value → AH → Prop}

def Kp (C : Cx) (f : Value) (σ : AH) : Prop := ∀ (b : Nat) (Q : Keeper → AH → Prop) (X : Value → AH → Prop), (∀ k, Q k σ) → W C b (keeperOf f) σ Q X
theorem W.looks {t : Sem α} {r : α} {Q : α → AH → Prop} (hl : ∀ h, Good C σ h → Looks (model C.prog C.w) h t r) (h : Q r σ) : W C b t σ Q X := fun A s P E o p _ => (hl _ o.good).here (p _ _ _ (.refl o.good) h)
theorem Kp.k {f : Value} (h : keepIn C.K f = true) : Kp C f σ := fun b Q X q A s P E o p _ => by
  obtain ⟨k, _, l⟩ := looks_keep (M := model C.prog C.w) h o.good.kin
  exact l.here (p _ _ _ (.refl o.good) (q k))
theorem Kp.builtin {i : String} : Kp C (.builtin i) σ := fun b Q X q => W.pure_ (q _)
theorem Kp.type {i : String} : Kp C (.type i) σ := fun b Q X q => W.pure_ (q _)
theorem W.load_ {a : Addr} {o : Obj} {Q : Obj → AH → Prop} (ha : σ a = some (.raw o)) (h : Q o σ) : W C b (load a) σ Q X := fun A s P E k p _ => wpAny_load (k.good.at_ _ _ ha) (p _ _ _ (.refl k.good) h)
theorem W.loadK {a : Addr} {o : Obj} {Q : Obj → AH → Prop} (ha : C.K.lookup a = some o) (h : Q o σ) : W C b (load a) σ Q X := fun A s P E k p _ => wpAny_load (k.good.kin _ _ ha) (p _ _ _ (.refl k.good) h)
theorem Kp.meth {q f : Addr} {self : Value} (hq : σ q = some (.raw (methodObj (.ref f) self))) (hf : fnIn C.K f = true) : Kp C (.ref q) σ := fun b Q X h => by
  unfold fnIn at hf
  split at hf
  · rename_i e
    unfold keeperOf
    exact W.bind_ (W.load_ hq (W.bind_ (W.loadK e (W.pure_ (h _)))))
  · cases hf

theorem W.callWith_ {pos : Pos} {f : Value} {first : List Value} {args : List (Bool × Sem Value)} {kws : List (Option Str × Sem Value)} {Q : Value → AH → Prop}
    (h : W C b (evalArgs f true args kws) σ (fun a σ₁ => Kp C f σ₁ ∧ W C b (call f (first ++ a.pos) a.kw) σ₁ Q X) X) : W C b (callWith pos f first args kws) σ Q X := by
  unfold callWith
  refine W.bind_ (W.hold (W.mono h (fun a σ₁ q => W.bind_ (W.standAt_ ?_)) fun _ _ x => x))
  obtain ⟨k, q⟩ := q
  have tail : ∀ {t : Sem Value}, W C b t σ₁ Q X → W C b (t >>= fun r => holding [r] point >>= fun _ => pure r) σ₁ Q X :=
    fun ht => W.bind_ (W.mono ht (fun r s₂ hr => W.bind_ (W.hold (W.point_ (W.pure_ hr)))) fun _ _ x => x)
  have q' : W C b (call f (first ++ a.pos) a.kw) σ₁ Q X := q
  have marked (mk : Value) : W C b (callMarked mk f (first ++ a.pos) a.kw) σ₁ Q X := W.keep_ q'
  refine W.bind_ (m := keeperOf f) (k b _ _ fun kk => ?_)
  cases (args.any (·.1) || kws.any (·.1.isNone)) <;> cases kk <;> dsimp only <;>
    first
    | exact tail q'
    | exact tail (marked _)
    | exact tail (W.operate_ q')
    | (split <;> first | exact tail q' | exact tail (marked _))

section
variable {env : Env}
def plainCallee : Expr → Bool
  | .Attribute .. => false
  | _ => true
theorem W.eCall {func : Expr} {args : List Expr} {kws : List Keyword} {pos : Pos} {Q : Value → AH → Prop}
    (h : W C b (eval func env) σ (fun f σ₁ => W C b (evalArgs f true (backTo pos (starEach args env)) (backToKw pos (keywordEach kws env))) σ₁ (fun a σ₂ => Kp C f σ₂ ∧ W C b (call f ([] ++ a.pos) a.kw) σ₂ Q X) X) X) (hp : plainCallee func = true := by rfl) :
    W C b (eval (.Call func args kws pos) env) σ Q X := by
  have : eval (.Call func args kws pos) env = (do callWith pos (← eval func env) [] (backTo pos (starEach args env)) (backToKw pos (keywordEach kws env))) := by
    cases func <;> first | rfl | cases hp
  rw [this]
  exact W.bind_ (W.mono h (fun f σ₁ q => W.callWith_ q) fun _ _ x => x)
theorem W.eMethod {o : Expr} {name : Str} {apos : Pos} {args : List Expr} {kws : List Keyword} {pos : Pos} {Q : Value → AH → Prop}
    (h : W C b (eval o env) σ (fun ov σ₁ => W C b (calleeOf (methodCallForm (args.length + kws.length) (backTo pos (starEach args env)) (backToKw pos (keywordEach kws env))) o env ov name) σ₁ (fun ff σ₂ =>
      W C b (evalArgs ff.1 true (backTo pos (starEach args env)) (backToKw pos (keywordEach kws env))) σ₂ (fun a σ₃ => Kp C ff.1 σ₃ ∧ W C b (call ff.1 (ff.2 ++ a.pos) a.kw) σ₃ Q X) X) X) X)
    (hs : isSuper o = false := by rfl) (hl : apos.endLine = pos.line := by rfl) :
    W C b (eval (.Call (.Attribute o name apos) args kws pos) env) σ Q X := by
  rw [arm_eval_Call]
  refine W.bind_ (W.attrBase (W.mono h (fun ov σ₁ q => W.bind_ (W.standAt_ ?_)) fun _ _ x => x) hs)
  unfold methodCall
  refine W.bind_ (W.hold (W.mono q (fun ff σ₂ q => ?_) fun _ _ x => x))
  obtain ⟨f, first⟩ := ff
  refine W.bind_ (m := methodCallPos _ o env apos pos) ?_
  unfold methodCallPos
  have : (apos.endLine == pos.line) = true := beq_iff_eq.mpr hl
  rw [this, Bool.or_true, if_pos rfl]
  exact W.pure_ (W.callWith_ q)
theorem W.callee {o : Expr} {ov : Value} {name : Str} {few : Bool} {Q : Value × List Value → AH → Prop} (hf : few = true) (h : W C b (getMethod ov name (do return (← importBound o env).getD true)) σ Q X) : W C b (calleeOf few o env ov name) σ Q X := by
  subst hf
  unfold calleeOf
  rw [if_pos rfl]
  exact h

/-! statements -/
theorem W.execs_nil {Q : Flow → AH → Prop} (h : Q .next σ) : W C b (execs [] env) σ Q X := W.pure_ h
def thenRest (C : Cx) (b : Nat) (rest : List Stmt) (env : Env) (Q : Flow → AH → Prop) (X : Value → AH → Prop) (f : Flow) (σ : AH) : Prop := match f with
  | .next => W C b (execs rest env) σ Q X
  | f => Q f σ
theorem W.execs_cons {st : Stmt} {rest : List Stmt} {Q : Flow → AH → Prop} (h : W C b (exec st env) σ (thenRest C b rest env Q X) X) : W C b (execs (st :: rest) env) σ Q X := by
  rw [PySem.execs_cons]
  refine W.bind_ (W.mono h (fun f σ₁ q => ?_) fun _ _ x => x)
  cases f with
  | next => exact q
  | _ => exact W.pure_ q
theorem W.sReturn {e : Expr} {pos : Pos} {Q : Flow → AH → Prop} (h : W C b (eval e env) σ (fun v σ₁ => Q (.ret v) σ₁) X) : W C b (exec (.Return (some e) pos) env) σ Q X := by
  rw [exec_Return_some]; exact W.bind_ (W.standAt_ (W.bind_ (W.mono h (fun v σ₁ q => W.pure_ q) fun _ _ x => x)))
theorem W.sIf {test : Expr} {body orelse : List Stmt} {pos : Pos} {Q : Flow → AH → Prop} (h : W C b (isTrue test env (eval test env)) σ (fun c σ₁ => (c = true → W C b (execs body env) σ₁ Q X) ∧ (c = false → W C b (execs orelse env) σ₁ Q X)) X) : W C b (exec (.If test body orelse pos) env) σ Q X := by
  rw [exec_If]
  refine W.bind_ (W.standAt_ (W.bind_ (W.mono h (fun c σ₁ q => ?_) fun _ _ x => x)))
  cases c with
  | true => exact q.1 rfl
  | false => exact q.2 rfl
theorem W.drop {e : Expr} {pos : Pos} {v : Value} {Q : Flow → AH → Prop} (h : Q .next σ) : W C b (dropValue e pos v) σ Q X := fun A s P E k p _ => wpAny_dropValue (p _ _ _ (.refl k.good) h)
theorem W.sExpr {e : Expr} {pos : Pos} {Q : Flow → AH → Prop} (h : W C b (eval e env) σ (fun v σ₁ => Q .next σ₁) X) (hi : interactive env = false := by rfl) (hs : swapsWith e none pos.line env = pure false := by rfl) : W C b (exec (.Expr e pos) env) σ Q X := by
  have : exec (.Expr e pos) env = (do
    standAt pos
    if interactive env then printExpr (eval e env)
    else if ← swapsWith e none pos.line env then do evalThenUse e env fun _ => point; pure .next
    else do dropValue e pos (← eval e env)) := rfl
  rw [this, hi, hs]
  exact W.bind_ (W.standAt_ (W.bind_ (W.pure_ (W.bind_ (W.mono h (fun v σ₁ q => W.drop q) fun _ _ x => x)))))
theorem W.sContinue {pos : Pos} {Q : Flow → AH → Prop} (h : Q .cont σ) : W C b (exec (.Continue pos) env) σ Q X := W.bind_ (W.standAt_ (W.pure_ h))

theorem W.bindName_ {x : Str} {v : Value} {Q : Unit → AH → Prop} (h : W C b (storeName env x v) σ Q X) : W C b (bindName env x v) σ Q X := by
  unfold bindName
  exact W.bind_ (W.hold (W.point_ (W.bind_ (W.mono h (fun _ _ q => W.point_ q) fun _ _ x => x))))
theorem W.aName {x : Str} {pos : Pos} {v : Value} {Q : Unit → AH → Prop} (h : W C b (storeName env x v) σ Q X) : W C b (assign (.Name x pos) env v) σ Q X := by
  rw [PySem.assign_Name]; exact W.bind_ (W.standAt_ (W.bindName_ h))
theorem W.aAttr {o : Expr} {x : Str} {pos : Pos} {v : Value} {Q : Unit → AH → Prop} (h : W C b (eval o env) σ (fun ov σ₁ => W C b (setAttr ov x v) σ₁ Q X) X) : W C b (assign (.Attribute o x pos) env v) σ Q X := by
  show W C b (do
    let ov ← holding [v] (eval o env)
    standAt pos.atName
    holding [v, ov] (setAttr ov x v)
    release [v, ov] []) σ Q X
  exact W.bind_ (W.hold (W.mono h (fun ov σ₁ q => W.bind_ (W.standAt_ (W.bind_ (W.hold (W.mono q (fun _ _ q => W.release_ q) fun _ _ x => x))))) fun _ _ x => x))
theorem assignEach_cons {t : Expr} {r : List Expr} (h : isStarred t = false) : assignEach (t :: r) env = (false, assign t env) :: assignEach r env := by cases t <;> first | rfl | cases h
def relOf (i : Expr) (iv v ov : Value) : List Value := match i with
  | .Slice _ _ none _ => [iv, v, ov]
  | _ => [v, ov, iv]
def plainIndex : Expr → Bool
  | .Slice .. => false
  | _ => true
theorem W.aItem {o i : Expr} {pos : Pos} {v : Value} {Q : Unit → AH → Prop} (h : W C b (eval o env) σ (fun ov σ₁ => W C b (eval i env) σ₁ (fun iv σ₂ => W C b (setItem ov iv v) σ₂ Q X) X) X) : W C b (assign (.Subscript o i pos) env v) σ Q X := by
  show W C b (do
    let ov ← holding [v] (eval o env)
    let iv ← holding [v, ov] (eval i env)
    standAt pos
    holding [v, ov, iv] (setItem ov iv v)
    release (relOf i iv v ov) []) σ Q X
  exact W.bind_ (W.hold (W.mono h (fun ov σ₁ q => W.bind_ (W.hold (W.mono q (fun iv σ₂ q => W.bind_ (W.standAt_ (W.bind_ (W.hold (W.mono q (fun _ _ q => W.release_ q) fun _ _ x => x))))) fun _ _ x => x))) fun _ _ x => x))

theorem W.sAssign {t value : Expr} {pos : Pos} {Q : Flow → AH → Prop} (h : W C b (eval value env) σ (fun v σ₁ => W C b (assign t env v) σ₁ (fun _ σ₂ => Q .next σ₂) X) X)
    (hs : swapsWith value (some t) pos.line env = pure false := by rfl) (ht : isStarred t = false := by rfl) (hw : swappedStores [t] value env = pure none := by rfl) : W C b (exec (.Assign [t] value pos) env) σ Q X := by
  have e : exec (.Assign [t] value pos) env = (do
    standAt pos
    if ← swapsWith value (some t) pos.line env then do
      evalThenUse value env fun v => assignAll v ((assignEach [t] env).map (·.2))
      pure .next
    else do
      let v ← eval value env
      assignStores env v (← swappedStores [t] value env) ((assignEach [t] env).map (·.2))) := rfl
  have e2 : (assignEach [t] env).map (·.2) = [assign t env] := by cases t <;> first | rfl | cases ht
  rw [e, hs, hw, e2]
  exact W.bind_ (W.standAt_ (W.bind_ (W.pure_ (W.bind_ (W.mono h (fun v σ₁ q => W.bind_ (W.pure_ (W.bind_ (W.mono q (fun _ _ q => W.pure_ q) fun _ _ x => x)))) fun _ _ x => x)))))
/-- two targets in a row -/
theorem W.sAssign2 {t t' value : Expr} {pos : Pos} {Q : Flow → AH → Prop} (h : W C b (eval value env) σ (fun v σ₁ => W C b (assign t env v) σ₁ (fun _ σ₂ => W C b (assign t' env v) σ₂ (fun _ σ₃ => Q .next σ₃) X) X) X)
    (ht : isStarred t = false := by rfl) (ht' : isStarred t' = false := by rfl) (e4 : swappedStores [t, t'] value env = pure none := by rfl) : W C b (exec (.Assign [t, t'] value pos) env) σ Q X := by
  have e : exec (.Assign [t, t'] value pos) env = (do
    standAt pos
    if ← swapsWithSole [t, t'] value pos.line env then do
      evalThenUse value env fun v => assignAll v ((assignEach [t, t'] env).map (·.2))
      pure .next
    else do
      let v ← eval value env
      assignStores env v (← swappedStores [t, t'] value env) ((assignEach [t, t'] env).map (·.2))) := rfl
  have e2 : (assignEach [t, t'] env).map (·.2) = [assign t env, assign t' env] := by rw [assignEach_cons ht, assignEach_cons ht']; rfl
  have e3 : swapsWithSole [t, t'] value pos.line env = pure false := rfl
  rw [e, e3, e4, e2]
  refine W.bind_ (W.standAt_ (W.bind_ (W.pure_ (W.bind_ (W.mono h (fun v σ₁ q => W.bind_ (W.pure_ (W.bind_ ?_))) fun _ _ x => x)))))
  exact W.bind_ (W.hold (W.mono q (fun _ _ q => W.mono q (fun _ _ q => W.pure_ q) fun _ _ x => x) fun _ _ x => x))
theorem W.sAugName {x : Str} {npos pos : Pos} {op : Operator} {value : Expr} {Q : Flow → AH → Prop} (h : W C b (loadName env x) σ (fun old σ₁ => W C b (eval value env) σ₁ (fun v σ₂ => W C b (inplaceOp op old v) σ₂ (fun new σ₃ => W C b (storeName env x new) σ₃ (fun _ σ₄ => Q .next σ₄) X) X) X) X) :
    W C b (exec (.AugAssign (.Name x npos) op value pos) env) σ Q X := by
  rw [exec_AugAssign_Name]
  exact W.bind_ (W.standAt_ (W.bind_ (W.mono h (fun old σ₁ q => W.bind_ (W.hold (W.mono q (fun v σ₂ q => W.bind_ (W.standAt_ (W.bind_ (W.operate_ (W.mono q (fun new σ₃ q => W.bind_ (W.standAt_ (W.bind_ (W.bindName_ (W.mono q (fun _ _ q => W.pure_ q) fun _ _ x => x))))) fun _ _ x => x))))) fun _ _ x => x))) fun _ _ x => x)))
theorem W.sAugItem {o i : Expr} {spos pos : Pos} {op : Operator} {value : Expr} {Q : Flow → AH → Prop}
    (h : W C b (eval o env) σ (fun ov σ₁ => W C b (eval i env) σ₁ (fun iv σ₂ => W C b (getItem ov iv) σ₂ (fun old σ₃ => W C b (eval value env) σ₃ (fun v σ₄ => W C b (inplaceOp op old v) σ₄ (fun new σ₅ => W C b (setItem ov iv new) σ₅ (fun _ σ₆ => Q .next σ₆) X) X) X) X) X) X)
    (hi : plainIndex i = true := by rfl) : W C b (exec (.AugAssign (.Subscript o i spos) op value pos) env) σ Q X := by
  have e : exec (.AugAssign (.Subscript o i spos) op value pos) env = (do
    standAt pos
    let ov ← eval o env
    let iv ← holding [ov] (eval i env)
    let new ← holding [ov, iv] do
      standAt spos
      let old ← getItem ov iv
      let v ← holding [old] (eval value env)
      standAt pos
      operate [old, v] (inplaceOp op old v)
    standAt spos
    augStore i ov iv new) := rfl
  rw [e]
  refine W.bind_ (W.standAt_ (W.bind_ (W.mono h (fun ov σ₁ q => W.bind_ (W.hold (W.mono q (fun iv σ₂ q => W.bind_ (W.hold (W.bind_ (W.standAt_ (W.bind_ (W.mono q (fun old σ₃ q => W.bind_ (W.hold (W.mono q (fun v σ₄ q => W.bind_ (W.standAt_ (W.operate_ (W.mono q (fun new σ₅ q => W.bind_ (W.standAt_ ?_)) fun _ _ x => x)))) fun _ _ x => x))) fun _ _ x => x)))))) fun _ _ x => x))) fun _ _ x => x)))
  have : augStore i ov iv new = (do
    holding [new, ov, iv] (setItem ov iv new)
    release [new, ov, iv] []
    pure .next) := by cases i <;> first | rfl | cases hi
  rw [this]
  exact W.bind_ (W.hold (W.mono q (fun _ _ q => W.bind_ (W.release_ (W.pure_ q))) fun _ _ x => x))

/-! loops -/
theorem W.runOwn_ {c : Code} {Q : Flow → AH → Prop} (h : WK C b c σ Q) : W C b (runOwn c env) σ Q X := fun A s P E k p _ => by
  refine wpAny_runOwn (h := none) ?_
  have : A.mark none = A := rfl
  rw [this]
  exact h A s _ k fun f σ' s' y q => p f σ' s' y q
theorem W.sWhile {test : Expr} {body orelse : List Stmt} {pos : Pos} {Q : Flow → AH → Prop} (h : WK C b (.whileLoop test body orelse env) σ Q) : W C b (exec (.While test body orelse pos) env) σ Q X := by
  rw [exec_While]; exact W.bind_ (W.standAt_ (W.runOwn_ h))

theorem codeAny_plainCode {prog : Program} {w : World} {A : Around} {c : Code} {R : Result → Shared → Prop} {s : Shared} (hw : c.weight = 0) (hu : c.cUnits = 0) (hg : c.guards = [])
    (h : wpAny (model prog w) A (denote table c) (fun fin s' => match fin with | .done f => R (.ok f) s' | .again c' => c'.quiet = true ∧ codeAny (model prog w) A c' R s') (fun e s' => R (.error e) s') s) : codeAny (model prog w) A c R s := by
  refine codeAny_of_tree ?_
  rw [Around.under_of_weight hw hu]
  exact h

theorem WK.turn {c : Code} {t : Sem Fin} {F : Value → Sem Unit} {Q : Flow → AH → Prop} (hd : denote table c = t.onRaise F) (hw : c.weight = 0) (hu : c.cUnits = 0)
    (h : W C b t σ (fun fin σ₁ => match fin with | .done f => Q f σ₁ | .again c' => c'.quiet = true ∧ WK C b c' σ₁ Q) noX) : WK C b c σ Q := by
  intro A s R k r
  refine codeAny_plainCode hw hu (by unfold Code.guards; split <;> first | rfl | (rename_i q; unfold Code.weight at hw; rw [q] at hw; simp at hw)) ?_
  rw [hd]
  refine wpAny_onRaise (h A s _ _ k (fun fin σ₁ s₁ y q => ?_) fun e σ' s' y q => q.elim)
  cases fin with
  | done f => exact r f σ₁ s₁ y q
  | again c' => exact ⟨q.1, q.2 A s₁ R (k.next y) fun f σ₂ s₂ y₂ q₂ => r f σ₂ s₂ (y.trans y₂) q₂⟩

/-- one turn of a while -/
theorem WK.while_ {test : Expr} {body orelse : List Stmt} {Q : Flow → AH → Prop}
    (h : W C b (isTrue test env (eval test env)) σ (fun c σ₁ => (c = true → W C b (execs body env) σ₁ (fun f σ₂ => match f with | .next | .cont => WK C b (.whileLoop test body orelse env) σ₂ Q | .brk => Q .next σ₂ | .ret v => Q (.ret v) σ₂) noX) ∧
      (c = false → W C b (execs orelse env) σ₁ Q noX)) noX) : WK C b (.whileLoop test body orelse env) σ Q := by
  refine WK.turn (t := whileTurn test body orelse env) rfl rfl rfl ?_
  unfold whileTurn
  refine W.bind_ (W.mono h (fun c σ₁ q => ?_) fun _ _ x => x)
  cases c with
  | true =>
    refine W.bind_ (W.mono (q.1 rfl) (fun f σ₂ q => ?_) fun _ _ x => x)
    cases f with
    | next => exact W.pure_ ⟨rfl, q⟩
    | cont => exact W.pure_ ⟨rfl, q⟩
    | brk => exact W.pure_ q
    | ret v => exact W.pure_ q
  | false => exact W.bind_ (W.mono (q.2 rfl) (fun f σ₂ q => W.pure_ q) fun _ _ x => x)
theorem WK.block_ {body : List Stmt} {Q : Flow → AH → Prop} (h : W C b (execs body env) σ Q noX) : WK C b (.block body env) σ Q := by
  intro A s R k r
  refine codeAny_plainCode rfl rfl rfl ?_
  show wpAny _ A (do return Fin.done (← (execs body env).onRaise (fun x => do noteFrame x env; theTreesLotGoes x))) _ _ s
  exact wpAny_bind (wpAny_onRaise (h A s _ _ k (fun f σ₁ s₁ y q => wpAny_pure (r f σ₁ s₁ y q)) fun e σ' s' y q => q.elim))
/-- one turn of a for -/
theorem WK.for_ {target : Expr} {it : Value} {body orelse : List Stmt} {Q : Flow → AH → Prop}
    (h : W C b (pyNext it) σ (fun r σ₁ => match r with
      | none => W C b (execs orelse env) σ₁ Q noX
      | some v => W C b (letOwnedTupleGo target it v) σ₁ (fun _ σ₂ => W C b (assign target env v) σ₂ (fun _ σ₃ => W C b (execs body env) σ₃ (fun f σ₄ => match f with | .next | .cont => WK C b (.forLoop target it body orelse env) σ₄ Q | .brk => Q .next σ₄ | .ret v => Q (.ret v) σ₄) noX) noX) noX) noX) : WK C b (.forLoop target it body orelse env) σ Q := by
  refine WK.turn (t := forTurn target it body orelse env) rfl rfl rfl ?_
  unfold forTurn
  have hr : W C b ((pyNext it).onRaise (fun _ => standAt { target.pos with line := 0 })) σ (fun r σ₁ => match r with
      | none => W C b (execs orelse env) σ₁ Q noX
      | some v => W C b (letOwnedTupleGo target it v) σ₁ (fun _ σ₂ => W C b (assign target env v) σ₂ (fun _ σ₃ => W C b (execs body env) σ₃ (fun f σ₄ => match f with | .next | .cont => WK C b (.forLoop target it body orelse env) σ₄ Q | .brk => Q .next σ₄ | .ret v => Q (.ret v) σ₄) noX) noX) noX) noX :=
    fun A s P E k p x => wpAny_onRaise (h A s P _ k p fun e σ' s' y q => q.elim)
  refine W.bind_ (W.standAt_ (W.bind_ (W.mono hr (fun r σ₁ q => ?_) fun _ _ x => x)))
  cases r with
  | none => exact W.pure_ ⟨rfl, WK.block_ q⟩
  | some v =>
    refine W.bind_ (W.mono q (fun _ σ₂ q => W.bind_ (W.mono q (fun _ σ₃ q => W.bind_ (W.mono q (fun f σ₄ q => ?_) fun _ _ x => x)) fun _ _ x => x)) fun _ _ x => x)
    cases f with
    | next => exact W.pure_ ⟨rfl, q⟩
    | cont => exact W.pure_ ⟨rfl, q⟩
    | brk => exact W.pure_ q
    | ret v => exact W.pure_ q
theorem W.sFor {target iter : Expr} {body orelse : List Stmt} {pos : Pos} {Q : Flow → AH → Prop} (h : W C b (eval iter env) σ (fun x σ₁ => W C b (pyIter x) σ₁ (fun it σ₂ => WK C b (.forLoop target it body orelse env) σ₂ Q) X) X)
    (hs : ∀ x, foldedSetIterable iter env x = pure x := by intro _; rfl) : W C b (exec (.For target iter body orelse pos) env) σ Q X := by
  rw [exec_For]
  refine W.bind_ (W.standAt_ (W.bind_ (W.mono h (fun x σ₁ q => ?_) fun _ _ x => x)))
  rw [hs]
  exact W.bind_ (W.pure_ (W.bind_ (W.standAt_ (W.bind_ (W.hold (W.mono q (fun it σ₂ q => W.runOwn_ q) fun _ _ x => x))))))
end
end Mine
end
section
open PySem PySem.W PyProof.Rows Builtin
set_option Elab.async false
set_option maxRecDepth 100000
set_option autoImplicit false
set_option linter.unusedVariables false
namespace Mine
variable {C : Cx} {α β : Type} {b : Nat} {σ : AH} {X : Value → AH → Prop}

/-! ints and truth -/
section
variable {i j : Int} {t u : Tok}
theorem W.addInt {Q : Value → AH → Prop} (h : ∀ t, Q (.int (i + j) t) σ) : W C b (binaryOp .Add (.int i t) (.int j u)) σ Q X := fun A s P E o p _ => PyProof.Rows.add_int (p _ _ _ (.toks o.good _) (h _))
theorem W.iaddInt {Q : Value → AH → Prop} (h : ∀ t, Q (.int (i + j) t) σ) : W C b (inplaceOp .Add (.int i t) (.int j u)) σ Q X := fun A s P E o p _ => PyProof.Rows.iadd_int (p _ _ _ (.toks o.good _) (h _))
theorem W.subInt {Q : Value → AH → Prop} (h : ∀ t, Q (.int (i - j) t) σ) : W C b (binaryOp .Sub (.int i t) (.int j u)) σ Q X := fun A s P E o p _ => PyProof.Rows.sub_int (p _ _ _ (.toks o.good _) (h _))
theorem W.modInt {Q : Value → AH → Prop} (hj : j ≠ 0) (h : ∀ t, Q (.int (i.fmod j) t) σ) : W C b (binaryOp .Mod (.int i t) (.int j u)) σ Q X := fun A s P E o p _ => PyProof.Rows.mod_int hj (p _ _ _ (.toks o.good _) (h _))
theorem W.negInt {Q : Value → AH → Prop} (h : ∀ t, Q (.int (-i) t) σ) : W C b (unaryOp .USub (.int i t)) σ Q X := fun A s P E o p _ => PyProof.Rows.neg_int (p _ _ _ (.toks o.good _) (h _))
theorem W.ltInt {Q : Value → AH → Prop} (h : Q (.bool (decide (i < j))) σ) : W C b (compareOp .Lt (.int i t) (.int j u)) σ Q X := fun A s P E o p _ => PyProof.Rows.lt_int (p _ _ _ (.refl o.good) h)
theorem W.gtInt {Q : Value → AH → Prop} (h : Q (.bool (decide (j < i))) σ) : W C b (compareOp .Gt (.int i t) (.int j u)) σ Q X := fun A s P E o p _ => PyProof.Rows.gt_int (p _ _ _ (.refl o.good) h)
theorem W.leInt {Q : Value → AH → Prop} (h : Q (.bool (decide (i ≤ j))) σ) : W C b (compareOp .LtE (.int i t) (.int j u)) σ Q X := fun A s P E o p _ => PyProof.Rows.le_int (p _ _ _ (.refl o.good) h)
theorem W.eqInt {Q : Value → AH → Prop} (h : Q (.bool (i == j)) σ) : W C b (compareOp .Eq (.int i t) (.int j u)) σ Q X := fun A s P E o p _ => PyProof.Rows.eq_int (p _ _ _ (.refl o.good) h)
theorem W.neInt {Q : Value → AH → Prop} (h : Q (.bool (i != j)) σ) : W C b (compareOp .NotEq (.int i t) (.int j u)) σ Q X := fun A s P E o p _ => PyProof.Rows.ne_int (p _ _ _ (.refl o.good) h)
theorem W.trBool {c : Bool} {Q : Bool → AH → Prop} (h : Q c σ) : W C b (truthy (.bool c)) σ Q X := fun A s P E o p _ => wpAny_truthy_bool (p _ _ _ (.refl o.good) h)
theorem W.trInt {Q : Bool → AH → Prop} (h : Q (i != 0) σ) : W C b (truthy (.int i t)) σ Q X := fun A s P E o p _ => PyProof.Rows.truthy_int (p _ _ _ (.refl o.good) h)
theorem W.trNone {Q : Bool → AH → Prop} (h : Q false σ) : W C b (truthy .none) σ Q X := fun A s P E o p _ => PyProof.Rows.truthy_none (p _ _ _ (.refl o.good) h)
end
def plainTruth (K : Frag) (Cl : Addr) : Bool := findIn K (.ref Cl) "__bool__" == some none && findIn K (.ref Cl) "__len__" == some none
theorem W.trInst {a Cl d : Addr} {m : List (Str × Value)} {Q : Bool → AH → Prop} (ha : σ a = some (.inst Cl d)) (hd : σ d = some (.fs m)) (hk : plainTruth C.K Cl = true) (h : Q true σ) : W C b (truthy (.ref a)) σ Q X := by
  intro A s P E o p _
  obtain ⟨es, n, f, e, I⟩ := o.good.inst ha hd
  simp only [plainTruth, Bool.and_eq_true, beq_iff_eq] at hk
  unfold truthy
  refine wpAny_bind (m := callSpecial? (.ref a) (Str.ofString "__bool__")) (wpAny_bind (wpAny_bind (I.type.here ((looks_findIn o.good.kin hk.1).here (wpAny_pure ?_)))))
  refine wpAny_bind (wpAny_bind (I.type.here ((looks_findIn o.good.kin hk.2).here ?_)))
  exact wpAny_pure (p _ _ _ (.refl o.good) h)
theorem W.notOp {v : Value} {Q : Value → AH → Prop} (h : W C b (truthy v) σ (fun c σ₁ => Q (.bool (!c)) σ₁) X) : W C b (unaryOp .Not v) σ Q X := fun A s P E o p x => PyProof.Rows.not_of (h A s _ _ o (fun c σ' s' y q => p _ _ _ y q) x)

/-! the kinds of things -/
theorem Good.plainList {h : Heap} (g : Good C σ h) {a : Addr} {vs : List Value} (e : σ a = some (.lst vs)) : h.PlainList a vs.toArray := g.at_ _ _ e
theorem Good.isList {h : Heap} (g : Good C σ h) {a : Addr} {vs : List Value} (e : σ a = some (.lst vs)) : h.IsList a vs.toArray := (g.plainList e).isList
theorem Good.isTuple {h : Heap} (g : Good C σ h) {a : Addr} {vs : List Value} (e : σ a = some (.tup vs)) : h.IsTuple a vs.toArray := let ⟨n, x⟩ := g.at_ _ _ e; ⟨_, x, rfl, n, rfl⟩
theorem Good.tList {s : Shared} (g : Good C σ s.heap) {a : Addr} {vs : List Value} (e : σ a = some (.lst vs)) : s.TypeIs (.ref a) "list" := let ⟨n, x⟩ := g.at_ _ _ e; ⟨_, x, rfl⟩
theorem Good.tTuple {s : Shared} (g : Good C σ s.heap) {a : Addr} {vs : List Value} (e : σ a = some (.tup vs)) : s.TypeIs (.ref a) "tuple" := let ⟨n, x⟩ := g.at_ _ _ e; ⟨_, x, rfl⟩
theorem Good.tDict {s : Shared} (g : Good C σ s.heap) {a : Addr} {kvs : List (Str × Value)} {ep : Nat} (e : σ a = some (.dct kvs ep)) : s.TypeIs (.ref a) "dict" := let ⟨⟨o, _, x, hx, _⟩, _⟩ := g.at_ _ _ e; ⟨_, x, hx.1⟩

/-- what a value's built-in type is -/
inductive Ty (σ : AH) : Value → String → Prop
  | none : Ty σ .none "NoneType"
  | bool {c} : Ty σ (.bool c) "bool"
  | int {i t} : Ty σ (.int i t) "int"
  | str {x t} : Ty σ (.str x t) "str"
  | lst {a vs} : σ a = some (.lst vs) → Ty σ (.ref a) "list"
  | tup {a vs} : σ a = some (.tup vs) → Ty σ (.ref a) "tuple"
  | dct {a kvs ep} : σ a = some (.dct kvs ep) → Ty σ (.ref a) "dict"
  | raw {a o T} : σ a = some (.raw o) → o.cls = .type T → Ty σ (.ref a) T
  | pr {a P T} : σ a = some (.pr P) → (∀ o, P o → o.cls = .type T) → Ty σ (.ref a) T
theorem Ty.is {s : Shared} {v : Value} {T : String} (g : Good C σ s.heap) (t : Ty σ v T) : s.TypeIs v T := by
  cases t with
  | none => rfl
  | bool => rfl
  | int => rfl
  | str => rfl
  | lst e => exact g.tList e
  | tup e => exact g.tTuple e
  | dct e => exact g.tDict e
  | raw e h => exact ⟨_, g.at_ _ _ e, h⟩
  | pr e h => obtain ⟨o, e', hp, _⟩ := g.at_ _ _ e; exact ⟨_, e', h _ hp⟩

/-! a built-in's method -/
theorem WK.meets {T : String} {name : Str} {id : String} {B : Builtin} {self : Value} {rest : List Value} {Q : Value → AH → Prop} (slot : Slot T name id) (hT : Ty σ self T) (entry : entryFor table id = some B) (args : argsOk id ⟨self :: rest, []⟩)
    (h : ∀ (A : Around) (s : Shared) (R : Result → Shared → Prop), Ok C b A σ s → (∀ v σ' s', After C σ s σ' s' → Q v σ' → R (.ok (.ret v)) s') → ∃ S, Meets (B ⟨self :: rest, []⟩) S ∧ S A R s) : WCall C b (.builtin id) (self :: rest) [] σ Q := by
  intro A s R o r
  obtain ⟨S, g, hS⟩ := h A s R o fun v σ' s' y q => r _ σ' s' y ⟨v, rfl, q⟩
  exact codeAny_call_builtin slot.plain entry (slot.check _ _ _ _ _ _ _ _ (hT.is o.good) args (g C.prog C.w A R s hS))
def noOwnDict (σ : AH) (v : Value) : Prop := ∀ a, v = .ref a → (∃ vs, σ a = some (.lst vs)) ∨ (∃ vs, σ a = some (.tup vs)) ∨ (∃ vs ep, σ a = some (.dct vs ep)) ∨ ∃ o, σ a = some (.raw o) ∧ o.dict = none
theorem noOwnDict.lst {a : Addr} {vs : List Value} (h : σ a = some (.lst vs)) : noOwnDict σ (.ref a) := fun b e => by cases e; exact .inl ⟨_, h⟩
theorem noOwnDict.tup {a : Addr} {vs : List Value} (h : σ a = some (.tup vs)) : noOwnDict σ (.ref a) := fun b e => by cases e; exact .inr (.inl ⟨_, h⟩)
theorem noOwnDict.dct {a : Addr} {vs : List (Str × Value)} {ep : Nat} (h : σ a = some (.dct vs ep)) : noOwnDict σ (.ref a) := fun b e => by cases e; exact .inr (.inr (.inl ⟨_, _, h⟩))
theorem noOwnDict.str {x : Str} {t : Tok} : noOwnDict σ (.str x t) := fun b e => by cases e
theorem noOwnDict.is {h : Heap} {v : Value} (g : Good C σ h) (n : noOwnDict σ v) : ∀ a, v = .ref a → ∃ o, h.get? a = some o ∧ o.dict = none := by
  intro a e
  rcases n a e with ⟨vs, q⟩ | ⟨vs, q⟩ | ⟨vs, ep, q⟩ | ⟨o, q, hd⟩
  · obtain ⟨n, x⟩ := g.at_ _ _ q; exact ⟨_, x, rfl⟩
  · obtain ⟨n, x⟩ := g.at_ _ _ q; exact ⟨_, x, rfl⟩
  · obtain ⟨⟨o, _, x, hx, _⟩, _⟩ := g.at_ _ _ q; exact ⟨_, x, hx.2.1⟩
  · exact ⟨_, g.at_ _ _ q, hd⟩
theorem W.methB {v : Value} {T : String} {name : Str} {id : String} {pl : Sem Bool} {Q : Value × List Value → AH → Prop} (hT : Ty σ v T) (pa : PlainAttrs T) (slot : Slot T name id) (hty : typeOf (.builtin id) = pure (.type "method_descriptor")) (hn : noOwnDict σ v)
    (h : Q (.builtin id, [v]) σ) : W C b (getMethod v name pl) σ Q X :=
  fun A s P E o p _ => getMethod_builtin (hT.is o.good) pa slot hty (fun a e => hn.is o.good a e) (p _ _ _ (.refl o.good) h)

/-! lists -/
theorem lst_upd {s : Shared} {A : Addr} {vs : List Value} {f : Array Value → Array Value} {ws : List Value} {t : Nat} (g : Good C σ s.heap) (e : σ A = some (.lst vs)) (hf : f vs.toArray = ws.toArray) (ht : s.toks ≤ t := by first | exact Nat.le_refl _ | exact Nat.le_add_right _ _ | (simp only [Nat.add_assoc]; exact Nat.le_add_right _ _) | assumption | omega) :
    After C σ s (σ.set A (.lst ws)) { s with heap := s.heap.update A (Obj.mapSeq f), toks := t } := by
  obtain ⟨n, x⟩ := g.at_ _ _ e
  refine .upd' g e (Heap.SameBut.update ..) ?_ (fun c m q => by cases q) ht
  have z : Obj.mapSeq f { cls := .type "list", data := .seq vs.toArray n } = { cls := .type "list", data := .seq ws.toArray (if ws.toArray.size == vs.toArray.size then n else n + 1) } := by
    simp only [Obj.mapSeq, hf]
  exact ⟨_, by rw [Heap.get?_update_self _ x (by rw [z]; rfl), z]⟩
theorem WK.append {l : Addr} {vs : List Value} {x : Value} {Q : Value → AH → Prop} (hl : σ l = some (.lst vs)) (hz : vs.length ≤ 10000) (h : Q .none (σ.set l (.lst (vs ++ [x])))) : WCall C b (.builtin "list.append") [.ref l, x] [] σ Q := by
  refine WK.meets PySem.F.slot_list_append (.lst hl) PySem.F.entry_list_append (PySem.F.args_list_append_2 _ _) fun A s R o r => ?_
  obtain ⟨n, e⟩ := o.good.at_ _ _ hl
  exact ⟨_, AutoListH.list_append_list_val_0 l vs.toArray n x (by rw [List.size_toArray, sizeLine_eq]; omega), e, r _ _ _ (lst_upd o.good hl (by simp)) h⟩
theorem WK.popLast {l : Addr} {vs : List Value} {x : Value} {Q : Value → AH → Prop} (hl : σ l = some (.lst (vs ++ [x]))) (hz : vs.length ≤ 10000) (h : Q x (σ.set l (.lst vs))) : WCall C b (.builtin "list.pop") [.ref l] [] σ Q := by
  refine WK.meets PySem.F.slot_list_pop (.lst hl) PySem.F.entry_list_pop (PySem.F.args_list_pop_1 _) fun A s R o r => ?_
  obtain ⟨n, e⟩ := o.good.at_ _ _ hl
  refine ⟨_, MeetsSeq.list_pop_last l (vs ++ [x]).toArray n x (by simp) (by rw [List.size_toArray, sizeLine_eq]; simp; omega), e, r _ _ _ (lst_upd o.good hl ?_) h⟩
  apply Array.ext'
  have : (vs ++ [x]).eraseIdx vs.length = vs := by rw [List.eraseIdx_append_of_length_le (Nat.le_refl _)]; simp
  simpa using this
theorem WK.extendList {l m : Addr} {vs us : List Value} {Q : Value → AH → Prop} (hl : σ l = some (.lst vs)) (hm : σ m = some (.lst us)) (hz : vs.length + us.length ≤ 10000) (h : Q .none (σ.set l (.lst (vs ++ us)))) : WCall C b (.builtin "list.extend") [.ref l, .ref m] [] σ Q := by
  refine WK.meets PySem.F.slot_list_extend (.lst hl) PySem.F.entry_list_extend (PySem.F.args_list_extend_2 _ _) fun A s R o r => ?_
  obtain ⟨n, e⟩ := o.good.at_ _ _ hl
  obtain ⟨n', e'⟩ := o.good.at_ _ _ hm
  have hs : vs.toArray.size + us.toArray.size ≤ 10000 := by simp only [List.size_toArray]; exact hz
  refine ⟨_, AutoSeq1.list_extend_list_list_0 l vs.toArray n m us.toArray n' ?_ (by rw [sizeLine_eq]; omega) (by rw [sizeLine_eq]; omega), e, e', r _ _ _ (lst_upd o.good hl (by simp)) h⟩
  have : Builtin.List.listTooLong (vs.toArray.size + us.toArray.size) = false := by unfold Builtin.List.listTooLong; simp only [decide_eq_false_iff_not]; rw [sizeLine_eq]; omega
  rw [this, Bool.and_false]; decide
theorem WK.reverse_ {l : Addr} {vs : List Value} {Q : Value → AH → Prop} (hl : σ l = some (.lst vs)) (hz : vs.length ≤ 10000) (h : Q .none (σ.set l (.lst vs.reverse))) : WCall C b (.builtin "list.reverse") [.ref l] [] σ Q := by
  refine WK.meets PySem.F.slot_list_reverse (.lst hl) PySem.F.entry_list_reverse (PySem.F.args_list_reverse_1 _) fun A s R o r => ?_
  obtain ⟨n, e⟩ := o.good.at_ _ _ hl
  exact ⟨_, AutoSeq1.list_reverse_list_0 l vs.toArray n (by rw [List.size_toArray, sizeLine_eq]; omega), e, r _ _ _ (lst_upd o.good hl (by simp)) h⟩

/-! items -/
theorem W.itemList {l : Addr} {vs : List Value} {k : Int} {t : Tok} {x : Value} {Q : Value → AH → Prop} (hl : σ l = some (.lst vs)) (h0 : 0 ≤ k) (hfit : k < 2 ^ 63) (hx : vs[k.toNat]? = some x) (h : Q x σ) : W C b (getItem (.ref l) (.int k t)) σ Q X :=
  fun A s P E o p _ => wpAny_getItem_list (o.good.isList hl) h0 hfit (by simpa using hx) (p _ _ _ (.refl o.good) h)
theorem W.itemListNeg {l : Addr} {vs : List Value} {k : Int} {t : Tok} {x : Value} {Q : Value → AH → Prop} (hl : σ l = some (.lst vs)) (h0 : k < 0) (h1 : -(vs.length : Int) ≤ k) (hfit : -(2 ^ 63) ≤ k) (hx : vs[(k + vs.length).toNat]? = some x) (h : Q x σ) : W C b (getItem (.ref l) (.int k t)) σ Q X :=
  fun A s P E o p _ => wpAny_getItem_list_neg (o.good.isList hl) h0 (by simpa using h1) hfit (by simpa using hx) (p _ _ _ (.refl o.good) h)
end Mine
end
section
open PySem PySem.W PyProof.Rows Builtin
set_option Elab.async false
set_option maxRecDepth 100000
set_option autoImplicit false
set_option linter.unusedVariables false
namespace Mine
variable {C : Cx} {α β : Type} {b : Nat} {σ : AH} {X : Value → AH → Prop}

def AH.drop (σ : AH) (a : Addr) : AH := fun c => if c = a then none else σ c
theorem AH.drop_self {σ : AH} {a : Addr} : σ.drop a a = none := if_pos rfl
theorem AH.drop_ne {σ : AH} {a c : Addr} (h : c ≠ a) : σ.drop a c = σ c := if_neg h
theorem AH.drop_set {σ : AH} {a : Addr} {o : AO} (h : σ a = none) : (σ.set a o).drop a = σ := by
  funext c
  by_cases e : c = a
  · subst e; rw [AH.drop_self, h]
  · rw [AH.drop_ne e, AH.set_ne e]
theorem AH.set_set {σ : AH} {a : Addr} {o o' : AO} : (σ.set a o).set a o' = σ.set a o' := by
  funext c
  by_cases e : c = a
  · subst e; rw [AH.set_self, AH.set_self]
  · rw [AH.set_ne e, AH.set_ne e, AH.set_ne e]
theorem AH.set_comm {σ : AH} {a c : Addr} {o o' : AO} (h : a ≠ c) : (σ.set a o).set c o' = (σ.set c o').set a o := by
  funext d
  by_cases e : d = c
  · subst e; rw [AH.set_self, AH.set_ne (Ne.symm h), AH.set_self]
  · rw [AH.set_ne e]
    by_cases e' : d = a
    · subst e'; rw [AH.set_self, AH.set_self]
    · rw [AH.set_ne e', AH.set_ne e', AH.set_ne e]

structure Cut2 (big small : AH) : Prop where
  sub : ∀ a o, small a = some o → big a = some o
  ns : ∀ a c m, big a = some (.ns c m) → small a = big a
theorem Cut2.refl (σ : AH) : Cut2 σ σ := ⟨fun _ _ e => e, fun _ _ _ _ => rfl⟩
theorem Cut2.trans {a b c : AH} (x : Cut2 a b) (y : Cut2 b c) : Cut2 a c := ⟨fun i o e => x.sub i o (y.sub i o e), fun i k m e => by have := x.ns i k m e; rw [← this]; exact y.ns i k m (this.trans e)⟩
def notNs : Option AO → Prop
  | some (.ns _ _) => False
  | _ => True
theorem Cut2.drop {I : Addr} (h : notNs (σ I)) : Cut2 σ (σ.drop I) :=
  ⟨fun a o e => by
    by_cases q : a = I
    · subst q; rw [AH.drop_self] at e; cases e
    · rwa [AH.drop_ne q] at e, fun a c m e => AH.drop_ne fun q => by subst q; rw [e] at h; exact h.elim⟩
theorem Cut2.set {I : Addr} {o : AO} (hI : σ I = none) (hs : o.still) : Cut2 (σ.set I o) σ := by
  have : notNs ((σ.set I o) I) := by rw [AH.set_self]; cases o <;> first | exact hs.elim | trivial
  have := Cut2.drop this
  rwa [AH.drop_set hI] at this
theorem After.cut2 {σ' σ'' : AH} {s s' : Shared} (y : After C σ s σ' s') (c : Cut2 σ' σ'') : After C σ s σ'' s' :=
  y.cut c.sub fun a k m e => let ⟨m', e'⟩ := y.step.ns a k m e; c.ns a k m' e'
theorem W.cut2 {t : Sem α} {Q : α → AH → Prop} (h : W C b t σ (fun a big => ∃ small, Cut2 big small ∧ Q a small) X) : W C b t σ Q X :=
  fun A s P E k p x => h A s P E k (fun a big s' y q => let ⟨small, c, q⟩ := q; p a small s' (y.cut2 c) q) x
theorem WK.cut2 {c : Code} {Q : Flow → AH → Prop} (h : WK C b c σ (fun a big => ∃ small, Cut2 big small ∧ Q a small)) : WK C b c σ Q :=
  fun A s R k r => h A s R k fun a big s' y q => let ⟨small, c, q⟩ := q; r a small s' (y.cut2 c) q

/-- an object is lost from view -/
theorem After.lose {s : Shared} {h' : Heap} {t : Nat} {I : Addr} {o : AO} (g : Good C σ s.heap) (ho : σ I = some o) (hs : o.still) (k : Heap.ExtBut I s.heap h') (ht : s.toks ≤ t := by first | exact Nat.le_refl _ | exact Nat.le_add_right _ _ | (simp only [Nat.add_assoc]; exact Nat.le_add_right _ _) | assumption | omega) : After C σ s (σ.drop I) { s with heap := h', toks := t } := by
  have hb : ∀ b x, C.h₁.get? b = some x → b ≠ I := fun b x q hq => by have := (g.base b x q).1; rw [hq, ho] at this; cases this
  refine ⟨⟨fun b x q => ?_, fun a x q => ?_⟩, ⟨fun b x q q' => ?_, fun a c m q => ?_⟩, .same, ht⟩
  · rw [AH.drop_ne (hb b x q)]
    exact ⟨(g.base b x q).1, (g.base b x q).2.imp (fun z => k _ _ (hb b x q) z) fun z => z.keeps fun o z => k _ _ (hb b x q) z⟩
  · by_cases ha : a = I
    · subst ha; rw [AH.drop_self] at q; cases q
    · rw [AH.drop_ne ha] at q; exact (g.at_ a x q).keeps fun y z => k _ _ ha z
  · have hbI : b ≠ I := fun z => by rw [z, ho] at q; cases q
    exact ⟨by rw [AH.drop_ne hbI]; exact q, x, k _ _ hbI q', .refl x⟩
  · have ha : a ≠ I := fun z => by subst z; rw [q] at ho; cases ho; exact hs.elim
    exact ⟨m, by rw [AH.drop_ne ha]; exact q⟩

/-! what a loop walks over -/
def one (C : Cx) (b : Nat) (target : Expr) (env : Env) (v : Value) (σ : AH) (Q : AH → Prop) : Prop := W C b (assign target env v) σ (fun _ σ' => Q σ') noX
structure Src (C : Cx) (b : Nat) (it : Value) (target : Expr) (env : Env) (ι : Type) (st : ι → AH → (AH → Prop) → Prop) (need : AH → Prop) (n : Nat) (item : Nat → ι → Prop) (at_ : Nat → AH → AH → Prop) : Prop where
  frame : ∀ (γ : Type) (b' : Nat) i small big (t : Sem γ) (Q : γ → AH → Prop), at_ i small big → W C b' t small Q noX → W C b' t big (fun a big' => ∃ small', at_ i small' big' ∧ Q a small') noX
  cut : ∀ i small big, at_ i small big → Cut2 big small
  next : ∀ i small big (Q : AH → Prop), i < n → at_ i small big → need small → (∀ x, item i x → st x small Q) →
    W C b (pyNext it) big (fun r σ₁ => ∃ v, r = some v ∧ W C b (letOwnedTupleGo target it v) σ₁ (fun _ σ₂ => W C b (assign target env v) σ₂ (fun _ σ₃ => ∃ σ', at_ (i + 1) σ' σ₃ ∧ Q σ') noX) noX) noX
  stFrame : ∀ x σ (Q : AH → Prop) I o, σ I = none → o.still → st x σ (fun σ' => σ' I = none → Q (σ'.set I o)) → st x (σ.set I o) Q
  needSet : ∀ (σ : AH) a o, need σ → σ a = none → need (σ.set a o)
  grow : ∀ i (small big : AH) a o, at_ i small big → big a = none → at_ i (small.set a o) (big.set a o) ∧ small a = none
  self_ : ∀ i (small big : AH) (Q : Value → AH → Prop), at_ i small big → Q it big → W C b (pyIter it) big Q noX
  stMono : ∀ x σ (Q Q' : AH → Prop), (∀ σ', Q σ' → Q' σ') → st x σ Q → st x σ Q'
  done : ∀ small big (Q : AH → Prop), at_ n small big → need small → Q small → W C b (pyNext it) big (fun r σ₁ => r = none ∧ Q σ₁) noX

def tests (env : Env) (ifs : List Expr) : Sem Bool := forIn ifs true fun c r => if r = true then do let ok ← isTrue c env (eval c env); pure (ForInStep.yield ok) else pure (ForInStep.yield r)
theorem one.frame {target : Expr} {env : Env} {v : Value} {I : Addr} {o : AO} {Q : AH → Prop} (hI : σ I = none) (hs : o.still) (h : one C b target env v σ (fun σ' => σ' I = none → Q (σ'.set I o))) : one C b target env v (σ.set I o) Q :=
  W.frame hI hs h
theorem Src.single {I : Addr} {target : Expr} {env : Env} {need : AH → Prop} {n : Nat} {item : Nat → Value → Prop} {o : Nat → AO} (still : ∀ i, (o i).still)
    (nx : ∀ i (small : AH) (Q : Option Value → AH → Prop), i < n → small I = none → need small → (∀ v, item i v → Q (some v) (small.set I (o (i + 1)))) → W C b (pyNext (.ref I)) (small.set I (o i)) Q noX)
    (dn : ∀ (small : AH) (Q : Option Value → AH → Prop), small I = none → need small → Q none small → W C b (pyNext (.ref I)) (small.set I (o n)) Q noX)
    (ns : ∀ (σ : AH) a o, need σ → σ a = none → need (σ.set a o))
    (sf : ∀ i (small : AH) (Q : Value → AH → Prop), small I = none → Q (.ref I) (small.set I (o i)) → W C b (pyIter (.ref I)) (small.set I (o i)) Q noX)
    (lo : ∀ i (small : AH) v (Q : Unit → AH → Prop), small I = none → Q () (small.set I (o i)) → W C b (letOwnedTupleGo target (.ref I) v) (small.set I (o i)) Q noX) :
    Src C b (.ref I) target env Value (one C b target env) need n item (fun i (small big : AH) => small I = none ∧ big = small.set I (o i)) where
  frame := fun γ b' i small big t Q ⟨hI, e⟩ h => by
    subst e
    exact W.frame hI (still i) (W.mono h (fun a σ' q n => ⟨σ', ⟨n, rfl⟩, q⟩) fun _ _ x => x)
  cut := fun i small big ⟨hI, e⟩ => e ▸ .set hI (still i)
  stFrame := fun x σ Q I o h1 h2 h3 => one.frame h1 h2 h3
  needSet := ns
  grow := fun i small big a o' ⟨hI, e⟩ ha => by
    subst e
    have h1 : a ≠ I := fun q => by subst q; rw [AH.set_self] at ha; cases ha
    have h2 : small a = none := by rw [AH.set_ne h1] at ha; exact ha
    exact ⟨⟨by rw [AH.set_ne (Ne.symm h1)]; exact hI, AH.set_comm (Ne.symm h1)⟩, h2⟩
  self_ := fun i small big Q ⟨hI, e⟩ h => by subst e; exact sf i small Q hI h
  stMono := fun x σ Q Q' h1 h2 => W.mono h2 (fun _ σ' q => h1 σ' q) fun _ _ x => x
  next := fun i small big Q hi ⟨hI, e⟩ hn h => by
    subst e
    refine nx i small _ hi hI hn fun v hv => ⟨v, rfl, lo _ _ v _ hI ?_⟩
    refine W.frame hI (still _) (W.mono (h v hv) (fun a σ' q n => ⟨σ', ⟨n, rfl⟩, q⟩) fun _ _ x => x)
  done := fun small big Q ⟨hI, e⟩ hn h => by
    subst e
    exact dn small _ hI hn ⟨rfl, h⟩

def listIt (l : Addr) (i : Nat) : AO := .pr fun o => o.cls = .type "list_iterator" ∧ o.data = .fields #[.ref l, .int i 0]
def tupIt (l : Addr) (i : Nat) : AO := .pr fun o => o.cls = .type "tuple_iterator" ∧ o.data = .fields #[.ref l, .int i 0]
theorem Good.listIter {h : Heap} (g : Good C σ h) {I l : Addr} {i : Nat} (e : σ I = some (listIt l i)) : h.IsListIter I l i := let ⟨o, e, p, _⟩ := g.at_ _ _ e; ⟨o, e, p⟩
theorem Good.tupIter {h : Heap} (g : Good C σ h) {I l : Addr} {i : Nat} (e : σ I = some (tupIt l i)) : h.IsTupleIter I l i := let ⟨o, e, p, _⟩ := g.at_ _ _ e; ⟨o, e, p⟩
theorem Mt.listIter {h : Heap} {I l : Addr} {i : Nat} (x : h.IsListIter I l i) : Mt C h I (listIt l i) := let ⟨o, e, p⟩ := x; ⟨o, e, p, by rw [p.1]; simp, by rw [p.1]; simp⟩
theorem Mt.tupIter {h : Heap} {I l : Addr} {i : Nat} (x : h.IsTupleIter I l i) : Mt C h I (tupIt l i) := let ⟨o, e, p⟩ := x; ⟨o, e, p, by rw [p.1]; simp, by rw [p.1]; simp⟩

def goodTarget : Expr → Bool
  | .Tuple .. => true
  | .Name .. => true
  | _ => false

theorem letOwned_skip {target : Expr} {I : Addr} {v : Value} {o : Obj} {P : Unit → Shared → Prop} {E : Value → Shared → Prop} {A : Around} {s : Shared} (ht : goodTarget target = true) (ho : s.heap.get? I = some o)
    (hc : ∀ n, o.cls = .type n → ["enumerate", "zip", "dict_itemiterator", "dict_reverseitemiterator", "odict_iterator", "itertools.zip_longest", "itertools.pairwise"].contains n = false) (hp : P () s) :
    wpAny (model C.prog C.w) A (letOwnedTupleGo target (.ref I) v) P E s := by
  cases target <;> try cases ht
  · exact wpAny_pure hp
  · unfold letOwnedTupleGo
    cases v with
    | ref a =>
      refine wpAny_bind (wpAny_load ho ?_)
      split
      · rename_i n vs e _
        rw [hc n e]
        exact wpAny_pure hp
      · exact wpAny_pure hp
    | _ => exact wpAny_pure hp

theorem Src.list {I l : Addr} {target : Expr} {env : Env} {vs : List Value} (ht : goodTarget target = true) :
    Src C b (.ref I) target env Value (one C b target env) (fun σ => σ l = some (.lst vs)) vs.length (fun i v => vs[i]? = some v) (fun i (small big : AH) => small I = none ∧ big = small.set I (listIt l i)) := by
  refine Src.single (fun i => trivial) ?_ ?_ (fun σ a o h1 h2 => AH.set_new h2 h1) (fun i small Q hI h A s P E o p x => wpAny_pyIter_listiter (o.good.listIter AH.set_self) (p _ _ _ (.refl o.good) h)) ?_
  · intro i small Q hi hI hn h A s P E o p x
    have hv : vs.toArray[i]? = some vs[i] := by simp [hi]
    refine wpAny_pyNext_list_item (o.good.listIter AH.set_self) (o.good.isList (AH.set_new hI hn)) hv fun h' hit hs => ?_
    have y := After.upd' (t := s.toks) o.good AH.set_self hs (Mt.listIter hit) (fun c m e => by cases e)
    rw [AH.set_set] at y
    exact p _ _ _ y (h _ (by simp [hi]))
  · intro small Q hI hn h A s P E o p x
    refine wpAny_pyNext_list_end o.room.hd (o.good.listIter AH.set_self) (o.good.isList (AH.set_new hI hn)) (by simp) fun h' hs => ?_
    have y := After.lose (t := s.toks) o.good AH.set_self (by trivial) hs
    rw [AH.drop_set hI] at y
    exact p _ _ _ y h
  · intro i small v Q hI h A s P E o p x
    obtain ⟨ob, e, hc, hd⟩ := o.good.listIter (I := I) (l := l) (i := i) AH.set_self
    exact letOwned_skip ht e (fun n hn => by rw [hc] at hn; cases hn; decide) (p _ _ _ (.refl o.good) h)
theorem Src.tup {I l : Addr} {target : Expr} {env : Env} {vs : List Value} (ht : goodTarget target = true) :
    Src C b (.ref I) target env Value (one C b target env) (fun σ => σ l = some (.tup vs)) vs.length (fun i v => vs[i]? = some v) (fun i (small big : AH) => small I = none ∧ big = small.set I (tupIt l i)) := by
  refine Src.single (fun i => trivial) ?_ ?_ (fun σ a o h1 h2 => AH.set_new h2 h1) (fun i small Q hI h A s P E o p x => wpAny_pyIter_tupleiter (o.good.tupIter AH.set_self) (p _ _ _ (.refl o.good) h)) ?_
  · intro i small Q hi hI hn h A s P E o p x
    have hv : vs.toArray[i]? = some vs[i] := by simp [hi]
    refine wpAny_pyNext_tuple_item (o.good.tupIter AH.set_self) (o.good.isTuple (AH.set_new hI hn)) hv fun h' hit hs => ?_
    have y := After.upd' (t := s.toks) o.good AH.set_self hs (Mt.tupIter hit) (fun c m e => by cases e)
    rw [AH.set_set] at y
    exact p _ _ _ y (h _ (by simp [hi]))
  · intro small Q hI hn h A s P E o p x
    refine wpAny_pyNext_tuple_end o.room.hd (o.good.tupIter AH.set_self) (o.good.isTuple (AH.set_new hI hn)) (by simp) fun h' hs => ?_
    have y := After.lose (t := s.toks) o.good AH.set_self (by trivial) hs
    rw [AH.drop_set hI] at y
    exact p _ _ _ y h
  · intro i small v Q hI h A s P E o p x
    obtain ⟨ob, e, hc, hd⟩ := o.good.tupIter (I := I) (l := l) (i := i) AH.set_self
    exact letOwned_skip ht e (fun n hn => by rw [hc] at hn; cases hn; decide) (p _ _ _ (.refl o.good) h)

/-! ranges -/
def rangeO (x y z : Int) : AO := .pr fun o => ∃ t u v, o = { cls := .type "range", dict := none, data := .fields #[.int x t, .int y u, .int z v], slots := #[] }
def rangeIt (x left step : Int) : AO := .raw { cls := .type "range_iterator", dict := none, data := .fields #[rawInt x, rawInt left, rawInt step], slots := #[] }
theorem Src.range {I : Addr} {target : Expr} {env : Env} {x step : Int} {n : Nat} (ht : goodTarget target = true) :
    Src C b (.ref I) target env Value (one C b target env) (fun σ => True) n (fun i v => ∃ t, v = .int (x + (i : Int) * step) t) (fun i (small big : AH) => small I = none ∧ big = small.set I (rangeIt (x + (i : Int) * step) ((n : Int) - i) step)) := by
  refine Src.single (o := fun i => rangeIt (x + (i : Int) * step) ((n : Int) - i) step) (fun i => ⟨by simp, by simp⟩) ?_ ?_ (fun _ _ _ _ _ => trivial) (fun i small Q hI h A s P E o p _ => wpAny_pyIter_rangeiter (o.good.at_ _ _ AH.set_self) (p _ _ _ (.refl o.good) h)) ?_
  · intro i small Q hi hI hn h A s P E o p _
    refine wpAny_pyNext_range_item (o.good.at_ _ _ AH.set_self) (by omega) fun h' hit hs => ?_
    have y := After.upd' (t := s.toks + 1) o.good AH.set_self hs (o' := rangeIt (x + ((i : Int) * step) + step) ((n : Int) - i - 1) step) hit (fun c m e => by cases e)
    rw [AH.set_set] at y
    have e1 : x + (i : Int) * step + step = x + ((i + 1 : Nat) : Int) * step := by rw [Int.natCast_add, Int.add_mul]; simp; omega
    have e2 : (n : Int) - i - 1 = (n : Int) - ((i + 1 : Nat) : Int) := by omega
    rw [e1, e2] at y
    exact p _ _ _ y (h _ ⟨_, rfl⟩)
  · intro small Q hI hn h A s P E o p _
    refine wpAny_pyNext_range_end o.room.hd (o.good.at_ _ _ AH.set_self) (by omega) fun h' hs => ?_
    have y := After.lose (t := s.toks) o.good AH.set_self ⟨by simp, by simp⟩ hs
    rw [AH.drop_set hI] at y
    exact p _ _ _ y h
  · intro i small v Q hI h A s P E o p _
    have e := o.good.at_ I _ AH.set_self
    exact letOwned_skip ht e (fun n hn => by cases hn; decide) (p _ _ _ (.refl o.good) h)

/-! keys of a dict -/
def keyIt (d : Addr) (i n ep : Nat) : AO := .pr fun o => o.cls = .type "dict_keyiterator" ∧ o.data = .fields #[.ref d, .int i 0, .int n 0, .int ep 0]
theorem Good.keyIter {h : Heap} (g : Good C σ h) {I d : Addr} {i n ep : Nat} (e : σ I = some (keyIt d i n ep)) : h.IsKeyIter I d i n ep := let ⟨o, e, p, _⟩ := g.at_ _ _ e; ⟨o, e, p⟩
theorem Mt.keyIter {h : Heap} {I d : Addr} {i n ep : Nat} (x : h.IsKeyIter I d i n ep) : Mt C h I (keyIt d i n ep) := let ⟨o, e, p⟩ := x; ⟨o, e, p, by rw [p.1]; simp, by rw [p.1]; simp⟩
theorem str_is {k : Str} {key : Value} (h : (strKind C.prog C.w).is k key = true) : ∃ t, key = .str k t := Value.isStrOf_shape h
end Mine
end
section
open PySem PySem.W PyProof.Rows Builtin
set_option Elab.async false
set_option maxRecDepth 100000
set_option autoImplicit false
set_option linter.unusedVariables false
namespace Mine
variable {C : Cx} {α β : Type} {b : Nat} {σ : AH} {X : Value → AH → Prop}

theorem Src.keys {I d : Addr} {ep : Nat} {target : Expr} {env : Env} {kvs : List (Str × Value)} (ht : goodTarget target = true) :
    Src C b (.ref I) target env Value (one C b target env) (fun σ => σ d = some (.dct kvs ep)) kvs.length (fun i x => ∃ k v t, kvs[i]? = some (k, v) ∧ x = .str k t) (fun i (small big : AH) => small I = none ∧ big = small.set I (keyIt d i kvs.length ep)) := by
  refine Src.single (o := fun i => keyIt d i kvs.length ep) (fun i => trivial) ?_ ?_ (fun σ a o h1 h2 => AH.set_new h2 h1) (fun i small Q hI h A s P E o p x => wpAny_pyIter_keyiter (o.good.keyIter AH.set_self) (p _ _ _ (.refl o.good) h)) ?_
  · intro i small Q hi hI hn h A s P E o p x
    have hv : kvs[i]? = some (kvs[i].1, kvs[i].2) := by simp [hi]
    refine wpAny_pyNext_dict_item (o.good.keyIter AH.set_self) (o.good.at_ _ _ (AH.set_new hI hn)).1 hv fun key h' hkey hit hs => ?_
    have y := After.upd' (t := s.toks) o.good AH.set_self hs (Mt.keyIter hit) (fun c m e => by cases e)
    rw [AH.set_set] at y
    obtain ⟨t, rfl⟩ := str_is hkey
    exact p _ _ _ y (h _ ⟨_, _, t, hv, rfl⟩)
  · intro small Q hI hn h A s P E o p x
    refine wpAny_pyNext_dict_end o.room.hd (o.good.keyIter AH.set_self) (o.good.at_ _ _ (AH.set_new hI hn)).1 (by simp) fun h' hs => ?_
    have y := After.lose (t := s.toks) o.good AH.set_self (by trivial) hs
    rw [AH.drop_set hI] at y
    exact p _ _ _ y h
  · intro i small v Q hI h A s P E o p x
    obtain ⟨ob, e, hc, hd⟩ := o.good.keyIter (I := I) (d := d) (i := i) AH.set_self
    exact letOwned_skip ht e (fun n hn => by rw [hc] at hn; cases hn; decide) (p _ _ _ (.refl o.good) h)

/-! a pair unpacked -/
theorem IsTup.of {h : Heap} (g : Good C σ h) {t : Addr} {vs : List Value} (e : σ t = some (.tup vs)) : IsTup h t vs.toArray := let ⟨n, x⟩ := g.at_ _ _ e; ⟨_, x, rfl, n, rfl⟩
theorem W.lower {t : Sem α} {P : α → Shared → Prop} {E : Value → Shared → Prop} {A : Around} {s : Shared} {Q : α → AH → Prop} (h : W C b t σ Q noX) (o : Ok C b A σ s) (p : ∀ a σ' s', After C σ s σ' s' → Q a σ' → P a s') : wpAny (model C.prog C.w) A t P E s :=
  h A s P E o p fun e σ' s' y q => q.elim
def two (C : Cx) (b : Nat) (env : Env) (x y : Str) (p : Value × Value) (σ : AH) (Q : AH → Prop) : Prop := W C b (bindName env x p.1) σ (fun _ σ' => W C b (bindName env y p.2) σ' (fun _ σ'' => Q σ'') noX) noX
theorem W.assignPair {env : Env} {x y : Str} {px py pos : Pos} {k : Nat} {t : Addr} {u v : Value} {Q : AH → Prop} (ht : σ t = some (.tup [u, v])) (h : two C b env x y (u, v) σ Q) :
    W C b (assign (.Tuple [.Name x px, .Name y py] k pos) env (.ref t)) σ (fun _ σ' => Q σ') noX := by
  intro A s P E o p _
  refine assign_Tuple_tuple o.room.hd (IsTup.of o.good ht) rfl rfl fun h' he => ?_
  have hk : ∀ b o, s.heap.get? b = some o → h'.get? b = some o := fun b o e => he b o (Nat.ne_of_lt (Heap.lt_size e)) e
  have ya := After.keeps (t := s.toks) o.good hk
  have o' := o.next ya
  have z : W C b (assignInOrder ((assignEach [.Name x px, .Name y py] env).map (·.2)) [u, v]) σ (fun _ σ' => Q σ') noX := by
    show W C b (do holding [v] (assign (.Name x px) env u); (do holding [] (assign (.Name y py) env v); assignInOrder [] [])) σ _ noX
    rw [PySem.assign_Name, PySem.assign_Name]
    exact W.bind_ (W.hold (W.bind_ (W.standAt_ (W.mono h (fun _ σ' q => W.bind_ (W.hold (W.bind_ (W.standAt_ (W.mono q (fun _ _ q => W.pure_ q) fun _ _ x => x))))) fun _ _ x => x))))
  exact z.lower o' fun a σ' s' y' q => p a σ' s' (ya.trans y') q
theorem two.frame {env : Env} {x y : Str} {p : Value × Value} {I : Addr} {o : AO} {Q : AH → Prop} (hI : σ I = none) (hs : o.still) (h : two C b env x y p σ (fun σ' => σ' I = none → Q (σ'.set I o))) : two C b env x y p (σ.set I o) Q :=
  W.frame hI hs (W.mono h (fun _ σ' q n => W.frame n hs (W.mono q (fun _ σ'' q => q) fun _ _ x => x)) fun _ _ x => x)

/-! enumerate over a list -/
def enumO (J : Addr) (i : Int) : AO := .pr fun o => ∃ old, o = { cls := .type "enumerate", dict := none, data := .fields #[.none, .bool false, .ref J, rawInt i, .none, old], slots := #[] }
def enumOut (J a : Addr) (i : Int) : AO := .pr fun o => ∃ old, o = { cls := .type "enumerate", dict := none, data := .fields #[rawInt a, .bool false, .ref J, rawInt i, .none, old], slots := #[] }
theorem After.upd2 {s : Shared} {h' : Heap} {t : Nat} {I J : Addr} {o o' oj oj' : AO} (g : Good C σ s.heap) (hI : σ I = some o) (hJ : σ J = some oj) (hne : I ≠ J)
    (k : ∀ b x, b ≠ I → b ≠ J → s.heap.get? b = some x → h'.get? b = some x) (m : Mt C h' I o') (mj : Mt C h' J oj') (n : o.still) (nj : oj.still) (ht : s.toks ≤ t := by first | exact Nat.le_refl _ | exact Nat.le_add_right _ _ | (simp only [Nat.add_assoc]; exact Nat.le_add_right _ _) | assumption | omega) : After C σ s ((σ.set I o').set J oj') { s with heap := h', toks := t } := by
  have hb : ∀ b x, C.h₁.get? b = some x → b ≠ I ∧ b ≠ J := fun b x e => ⟨fun q => (by have := (g.base b x e).1; rw [q, hI] at this; cases this), fun q => (by have := (g.base b x e).1; rw [q, hJ] at this; cases this)⟩
  have at' : ∀ b, b ≠ I → b ≠ J → ((σ.set I o').set J oj') b = σ b := fun b h1 h2 => by rw [AH.set_ne h2, AH.set_ne h1]
  refine ⟨⟨fun b x e => ?_, fun c x e => ?_⟩, ⟨fun b x e e' => ?_, fun a c m' e => ?_⟩, .same, ht⟩
  · obtain ⟨h1, h2⟩ := hb b x e
    rw [at' b h1 h2]
    exact ⟨(g.base b x e).1, (g.base b x e).2.imp (fun z => k _ _ h1 h2 z) fun z => z.keeps fun o z => k _ _ h1 h2 z⟩
  · by_cases h2 : c = J
    · subst h2; rw [AH.set_self] at e; cases e; exact mj
    · by_cases h1 : c = I
      · subst h1; rw [AH.set_ne h2, AH.set_self] at e; cases e; exact m
      · rw [at' c h1 h2] at e; exact (g.at_ c x e).keeps fun y z => k _ _ h1 h2 z
  · have h1 : b ≠ I := fun q => by rw [q, hI] at e; cases e
    have h2 : b ≠ J := fun q => by rw [q, hJ] at e; cases e
    exact ⟨by rw [at' b h1 h2]; exact e, x, k _ _ h1 h2 e', .refl x⟩
  · have h1 : a ≠ I := fun q => by rw [q, hI] at e; cases e; exact n.elim
    have h2 : a ≠ J := fun q => by rw [q, hJ] at e; cases e; exact nj.elim
    exact ⟨m', by rw [at' a h1 h2]; exact e⟩
theorem After.updE {s : Shared} {h' : Heap} {t : Nat} {I : Addr} {o o' : AO} (g : Good C σ s.heap) (hI : σ I = some o) (k : ∀ b x, b ≠ I → s.heap.get? b = some x → h'.get? b = some x) (m : Mt C h' I o') (n : o.still) (ht : s.toks ≤ t := by first | exact Nat.le_refl _ | exact Nat.le_add_right _ _ | (simp only [Nat.add_assoc]; exact Nat.le_add_right _ _) | assumption | omega) : After C σ s (σ.set I o') { s with heap := h', toks := t } := by
  have hb : ∀ b x, C.h₁.get? b = some x → b ≠ I := fun b x e q => by have := (g.base b x e).1; rw [q, hI] at this; cases this
  refine ⟨⟨fun b x e => ?_, fun c x e => ?_⟩, ⟨fun b x e e' => ?_, fun a c m' e => ?_⟩, .same, ht⟩
  · have h1 := hb b x e
    rw [AH.set_ne h1]
    exact ⟨(g.base b x e).1, (g.base b x e).2.imp (fun z => k _ _ h1 z) fun z => z.keeps fun o z => k _ _ h1 z⟩
  · by_cases h1 : c = I
    · subst h1; rw [AH.set_self] at e; cases e; exact m
    · rw [AH.set_ne h1] at e; exact (g.at_ c x e).keeps fun y z => k _ _ h1 z
  · have h1 : b ≠ I := fun q => by rw [q, hI] at e; cases e
    exact ⟨by rw [AH.set_ne h1]; exact e, x, k _ _ h1 e', .refl x⟩
  · have h1 : a ≠ I := fun q => by rw [q, hI] at e; cases e; exact n.elim
    exact ⟨m', by rw [AH.set_ne h1]; exact e⟩
theorem Good.shown_lt {h : Heap} (g : Good C σ h) {a : Addr} {o : AO} (e : σ a = some o) : a < h.objs.size := by
  have mm := g.at_ _ _ e
  have : ∃ o', h.get? a = some o' := by
    cases o with
    | ns c m' => obtain ⟨o, _, _, e, _⟩ := mm; exact ⟨o, e⟩
    | fs m' => obtain ⟨_, _, e, _⟩ := mm; exact ⟨_, e⟩
    | cell v => obtain ⟨o, e, _⟩ := mm; exact ⟨o, e⟩
    | lst vs => obtain ⟨n, e⟩ := mm; exact ⟨_, e⟩
    | tup vs => obtain ⟨n, e⟩ := mm; exact ⟨_, e⟩
    | dct kvs ep => obtain ⟨⟨o, _, e, _⟩, _⟩ := mm; exact ⟨o, e⟩
    | inst K d => exact ⟨_, mm⟩
    | raw o => exact ⟨o, mm⟩
    | pr P => obtain ⟨o, e, _⟩ := mm; exact ⟨o, e⟩
  obtain ⟨o', e'⟩ := this
  exact Heap.lt_size e'
/-- and a thing made on the way -/
theorem After.also {σ' : AH} {s s' : Shared} {T : Addr} {o : AO} (g : Good C σ s.heap) (y : After C σ s σ' s') (hT : s.heap.objs.size ≤ T) (m : Mt C s'.heap T o) : After C σ s (σ'.set T o) s' := by
  refine ⟨⟨fun b x e => ?_, fun c x e => ?_⟩, ⟨fun b x e e' => ?_, fun a c m' e => ?_⟩, y.ext, y.tk⟩
  · have := Nat.lt_of_lt_of_le (g.base_lt e) hT
    rw [AH.set_ne (Nat.ne_of_lt this)]; exact y.good.base b x e
  · by_cases h : c = T
    · subst h; rw [AH.set_self] at e; cases e; exact m
    · rw [AH.set_ne h] at e; exact y.good.at_ c x e
  · have := Nat.lt_of_lt_of_le (Heap.lt_size e') hT
    rw [AH.set_ne (Nat.ne_of_lt this)]; exact y.step.like b x e e'
  · have := Nat.lt_of_lt_of_le (g.shown_lt e) hT
    rw [AH.set_ne (Nat.ne_of_lt this)]; exact y.step.ns a c m' e

theorem Src.enum {I J l : Addr} {env : Env} {x y : Str} {px py pos : Pos} {k : Nat} {vs : List Value} (hne : I ≠ J) :
    Src C b (.ref I) (.Tuple [.Name x px, .Name y py] k pos) env (Value × Value) (two C b env x y) (fun σ => σ l = some (.lst vs)) vs.length (fun i p => ∃ t v, vs[i]? = some v ∧ p = (.int (i : Int) t, v))
      (fun i (small big : AH) => small I = none ∧ small J = none ∧ big = (small.set I (enumO J i)).set J (listIt l i)) where
  frame := fun γ b' i small big t Q ⟨hI, hJ, e⟩ h => by
    subst e
    have h1 : W C b' t (small.set I (enumO J i)) (fun a σ' => ∃ σ'', σ' = σ''.set I (enumO J i) ∧ σ'' I = none ∧ Q a σ'') noX := W.frame hI trivial (W.mono h (fun a σ' q n => ⟨σ', rfl, n, q⟩) fun _ _ x => x)
    refine W.frame (by rw [AH.set_ne (Ne.symm hne)]; exact hJ) trivial (W.mono h1 (fun a σ' ⟨σ'', e, n, q⟩ n2 => ?_) fun _ _ x => x)
    subst e
    refine ⟨σ'', ⟨n, ?_, rfl⟩, q⟩
    rwa [AH.set_ne (Ne.symm hne)] at n2
  stFrame := fun x σ Q I o h1 h2 h3 => two.frame h1 h2 h3
  needSet := fun σ a o h1 h2 => AH.set_new h2 h1
  grow := fun i small big a o' ⟨hI, hJ, e⟩ ha => by
    subst e
    have h0 : a ≠ J := fun q => by subst q; rw [AH.set_self] at ha; cases ha
    rw [AH.set_ne h0] at ha
    have h1 : a ≠ I := fun q => by subst q; rw [AH.set_self] at ha; cases ha
    have h2 : small a = none := by rw [AH.set_ne h1] at ha; exact ha
    exact ⟨⟨by rw [AH.set_ne (Ne.symm h1)]; exact hI, by rw [AH.set_ne (Ne.symm h0)]; exact hJ, by rw [AH.set_comm (Ne.symm h0), AH.set_comm (Ne.symm h1)]⟩, h2⟩
  self_ := fun i small big Q ⟨hI, hJ, e⟩ h => by
    subst e
    intro A s P E o p x
    obtain ⟨_, eI, ⟨old, rfl⟩, _, _⟩ := o.good.at_ I (enumO J i) (by rw [AH.set_ne hne, AH.set_self])
    exact wpAny_pyIter_enum eI (p _ _ _ (.refl o.good) h)
  stMono := fun x σ Q Q' h1 h2 => W.mono h2 (fun _ σ' q => W.mono q (fun _ σ'' q => h1 σ'' q) fun _ _ x => x) fun _ _ x => x
  cut := fun i small big ⟨hI, hJ, e⟩ => e ▸ Cut2.trans (.set (by rw [AH.set_ne (Ne.symm hne)]; exact hJ) trivial) (.set hI trivial)
  next := fun i small big Q hi ⟨hI, hJ, e⟩ hn h => by
    subst e
    have hv : vs.toArray[i]? = some vs[i] := by simp [hi]
    intro A s P E o p _
    have sI : ((small.set I (enumO J i)).set J (listIt l i)) I = some (enumO J i) := by rw [AH.set_ne hne, AH.set_self]
    have sJ : ((small.set I (enumO J i)).set J (listIt l i)) J = some (listIt l i) := AH.set_self
    have sl : ((small.set I (enumO J i)).set J (listIt l i)) l = some (.lst vs) := by
      rw [AH.set_ne, AH.set_ne]; exact hn
      · intro q; rw [q, hI] at hn; cases hn
      · intro q; rw [q, hJ] at hn; cases hn
    obtain ⟨_, eI, ⟨old, rfl⟩, _, _⟩ := o.good.at_ _ _ sI
    refine wpAny_pyNext_enum_item eI (o.good.listIter sJ) (o.good.isList sl) hv hne fun h' he hit ht hz hk => ?_
    have y1 := After.upd2 (t := s.toks + 1) o.good sI sJ hne hk (o' := enumOut J s.heap.objs.size ((i : Int) + 1)) ⟨_, he, ⟨_, rfl⟩, by simp, by simp⟩ (Mt.listIter hit) trivial trivial
    have e1 : ((((small.set I (enumO J i)).set J (listIt l i)).set I (enumOut J s.heap.objs.size ((i : Int) + 1))).set J (listIt l (i + 1))) = (small.set I (enumOut J s.heap.objs.size ((i : Int) + 1))).set J (listIt l (i + 1)) := by
      rw [AH.set_comm (Ne.symm hne), AH.set_set, AH.set_set]
    rw [e1] at y1
    have hT : s.heap.objs.size ≠ I ∧ s.heap.objs.size ≠ J ∧ small s.heap.objs.size = none := by
      have f := o.good.fresh
      have n1 : s.heap.objs.size ≠ I := fun q => by rw [q, sI] at f; cases f
      have n2 : s.heap.objs.size ≠ J := fun q => by rw [q, sJ] at f; cases f
      rw [AH.set_ne n2, AH.set_ne n1] at f
      exact ⟨n1, n2, f⟩
    have y2 := y1.also o.good (T := s.heap.objs.size) (o := .tup [.int i s.toks, vs[i]]) (Nat.le_refl _) ⟨0, ht⟩
    refine p _ _ _ y2 ⟨_, rfl, ?_⟩
    generalize s.heap.objs.size = T at *
    generalize s.toks = tk at *
    have hx := h (.int i tk, vs[i]) ⟨_, _, by simp [hi], rfl⟩
    clear ht y1 y2 hk hit he hz sl sJ sI
    obtain ⟨n1, n2, n3⟩ := hT
    intro A s P E o p _
    have sI' : (((small.set I (enumOut J T ((i : Int) + 1))).set J (listIt l (i + 1))).set T (.tup [.int i tk, vs[i]])) I = some (enumOut J T ((i : Int) + 1)) := by
      rw [AH.set_ne (Ne.symm n1), AH.set_ne hne, AH.set_self]
    obtain ⟨_, eI, ⟨old, rfl⟩, _, _⟩ := o.good.at_ _ _ sI'
    refine wpAny_letOwnedTupleGo_enum eI fun h' he hs => ?_
    have y3 := After.upd' (t := s.toks) (o' := enumO J ((i + 1 : Nat) : Int)) o.good sI' hs ⟨_, he, ⟨_, rfl⟩, by simp, by simp⟩ (fun c m e => by cases e)
    have e2 : ((((small.set I (enumOut J T ((i : Int) + 1))).set J (listIt l (i + 1))).set T (.tup [.int i tk, vs[i]])).set I (enumO J ((i + 1 : Nat) : Int))) = ((small.set I (enumO J ((i + 1 : Nat) : Int))).set J (listIt l (i + 1))).set T (.tup [.int i tk, vs[i]]) := by
      rw [AH.set_comm n1, AH.set_comm (Ne.symm hne), AH.set_set]
    rw [e2] at y3
    refine p _ _ _ y3 ?_
    refine W.cut2 (W.assignPair (u := .int i tk) (v := vs[i]) AH.set_self (two.frame ?_ trivial (two.frame ?_ trivial (two.frame hI trivial ?_))))
    · rw [AH.set_ne n2, AH.set_ne n1]; exact n3
    · rw [AH.set_ne (Ne.symm hne)]; exact hJ
    · refine W.mono hx (fun _ σ' q => W.mono q (fun _ σ'' q m1 m2 m3 => ?_) fun _ _ x => x) fun _ _ x => x
      refine ⟨_, .set m3 trivial, σ'', ⟨m1, ?_, rfl⟩, q⟩
      rwa [AH.set_ne (Ne.symm hne)] at m2
  done := fun small big Q ⟨hI, hJ, e⟩ hn h => by
    subst e
    refine W.cut2 ?_
    intro A s P E o p _
    have sI : ((small.set I (enumO J vs.length)).set J (listIt l vs.length)) I = some (enumO J vs.length) := by rw [AH.set_ne hne, AH.set_self]
    have sl : ((small.set I (enumO J vs.length)).set J (listIt l vs.length)) l = some (.lst vs) := by
      rw [AH.set_ne, AH.set_ne]; exact hn
      · intro q; rw [q, hI] at hn; cases hn
      · intro q; rw [q, hJ] at hn; cases hn
    obtain ⟨_, eI, ⟨old, rfl⟩, _, _⟩ := o.good.at_ _ _ sI
    refine wpAny_pyNext_enum_end o.room.hd eI (o.good.listIter AH.set_self) (o.good.isList sl) (by simp) fun h' hs => ?_
    have y := After.lose (t := s.toks) o.good AH.set_self (by trivial) hs
    rw [AH.drop_set (by rw [AH.set_ne (Ne.symm hne)]; exact hJ)] at y
    exact p _ _ _ y ⟨small, .set hI trivial, rfl, h⟩

/-! items of a dict -/
def itemIt (d : Addr) (i n ep : Nat) : AO := .pr fun o => ∃ ok ov, o = { cls := .type "dict_itemiterator", dict := none, data := .fields #[.none, .bool false, .ref d, .int i 0, .int n 0, .int ep 0, ok, ov], slots := #[] }
def itemOut (d a : Addr) (i n ep : Nat) : AO := .pr fun o => ∃ ok ov, o = { cls := .type "dict_itemiterator", dict := none, data := .fields #[rawInt a, .bool false, .ref d, .int i 0, .int n 0, .int ep 0, ok, ov], slots := #[] }
theorem entry_itemiter_iter : entryFor table "dict_itemiterator.__iter__" = some Builtin.«dict_keyiterator.__iter__» :=
  entryFor_alias (id' := "dict_keyiterator.__iter__") (by kernel_rfl) (by first | rfl | decide +kernel | (unfold String.splitOn; simp +decide [String.splitOnAux])) (by decide +kernel) (by kernel_rfl)
theorem Src.items {I d : Addr} {ep : Nat} {env : Env} {x y : Str} {px py pos : Pos} {k : Nat} {kvs : List (Str × Value)} :
    Src C b (.ref I) (.Tuple [.Name x px, .Name y py] k pos) env (Value × Value) (two C b env x y) (fun σ => σ d = some (.dct kvs ep)) kvs.length (fun i p => ∃ n t v, kvs[i]? = some (n, v) ∧ p = (.str n t, v))
      (fun i (small big : AH) => small I = none ∧ big = small.set I (itemIt d i kvs.length ep)) where
  frame := fun γ b' i small big t Q ⟨hI, e⟩ h => by
    subst e
    exact W.frame hI trivial (W.mono h (fun a σ' q n => ⟨σ', ⟨n, rfl⟩, q⟩) fun _ _ x => x)
  cut := fun i small big ⟨hI, e⟩ => e ▸ .set hI trivial
  stFrame := fun x σ Q I o h1 h2 h3 => two.frame h1 h2 h3
  needSet := fun σ a o h1 h2 => AH.set_new h2 h1
  grow := fun i small big a o' ⟨hI, e⟩ ha => by
    subst e
    have h1 : a ≠ I := fun q => by subst q; rw [AH.set_self] at ha; cases ha
    have h2 : small a = none := by rw [AH.set_ne h1] at ha; exact ha
    exact ⟨⟨by rw [AH.set_ne (Ne.symm h1)]; exact hI, AH.set_comm (Ne.symm h1)⟩, h2⟩
  self_ := fun i small big Q ⟨hI, e⟩ h => by
    subst e
    intro A s P E o p x
    obtain ⟨_, eI, ⟨ok, ov, rfl⟩, _, _⟩ := o.good.at_ I _ AH.set_self
    have hT : s.TypeIs (.ref I) "dict_itemiterator" := ⟨_, eI, rfl⟩
    refine wpAny_pyIter_slot hT F.slot_dict_itemiterator_iter (wpAny_call_entry F.slot_dict_itemiterator_iter hT entry_itemiter_iter ?_ (F.args_dict_itemiterator_iter_1 _))
    show wpAny _ _ (ret (.ref I)) _ _ s
    exact wpAny_pure ⟨_, rfl, "dict_itemiterator", _, hT, F.slot_dict_itemiterator_next.lookup, p _ _ _ (.refl o.good) h⟩
  stMono := fun x σ Q Q' h1 h2 => W.mono h2 (fun _ σ' q => W.mono q (fun _ σ'' q => h1 σ'' q) fun _ _ x => x) fun _ _ x => x
  next := fun i small big Q hi ⟨hI, e⟩ hn h => by
    subst e
    have hv : kvs[i]? = some (kvs[i].1, kvs[i].2) := by simp [hi]
    intro A s P E o p _
    have sI : (small.set I (itemIt d i kvs.length ep)) I = some (itemIt d i kvs.length ep) := AH.set_self
    obtain ⟨_, eI, ⟨ok, ov, rfl⟩, _, _⟩ := o.good.at_ _ _ sI
    refine wpAny_pyNext_items_item eI (o.good.at_ _ _ (AH.set_new hI hn)).1 hv fun key h' hkey he ht hz hk => ?_
    obtain ⟨t, rfl⟩ := str_is hkey
    have y1 := After.updE (t := s.toks) (o' := itemOut d s.heap.objs.size (i + 1) kvs.length ep) o.good sI hk ⟨_, he, ⟨_, _, rfl⟩, by simp, by simp⟩ trivial
    rw [AH.set_set] at y1
    have hT : s.heap.objs.size ≠ I ∧ small s.heap.objs.size = none := by
      have f := o.good.fresh
      have n1 : s.heap.objs.size ≠ I := fun q => by rw [q, sI] at f; cases f
      rw [AH.set_ne n1] at f
      exact ⟨n1, f⟩
    have y2 := y1.also o.good (T := s.heap.objs.size) (o := .tup [.str kvs[i].1 t, kvs[i].2]) (Nat.le_refl _) ⟨0, ht⟩
    refine p _ _ _ y2 ⟨_, rfl, ?_⟩
    generalize s.heap.objs.size = T at *
    have hx := h (.str kvs[i].1 t, kvs[i].2) ⟨_, _, _, hv, rfl⟩
    clear ht y1 y2 hk he hz sI
    obtain ⟨n1, n3⟩ := hT
    intro A s P E o p _
    have sI' : ((small.set I (itemOut d T (i + 1) kvs.length ep)).set T (.tup [.str kvs[i].1 t, kvs[i].2])) I = some (itemOut d T (i + 1) kvs.length ep) := by
      rw [AH.set_ne (Ne.symm n1), AH.set_self]
    obtain ⟨_, eI, ⟨ok', ov', rfl⟩, _, _⟩ := o.good.at_ _ _ sI'
    refine wpAny_letOwnedTupleGo_items eI fun h' he hs => ?_
    have y3 := After.upd' (t := s.toks) (o' := itemIt d (i + 1) kvs.length ep) o.good sI' hs ⟨_, he, ⟨_, _, rfl⟩, by simp, by simp⟩ (fun c m e => by cases e)
    rw [AH.set_comm n1, AH.set_set] at y3
    refine p _ _ _ y3 ?_
    refine W.cut2 (W.assignPair (u := .str kvs[i].1 t) (v := kvs[i].2) AH.set_self (two.frame ?_ trivial (two.frame hI trivial ?_)))
    · rw [AH.set_ne n1]; exact n3
    · refine W.mono hx (fun _ σ' q => W.mono q (fun _ σ'' q m1 m3 => ?_) fun _ _ x => x) fun _ _ x => x
      exact ⟨_, .set m3 trivial, σ'', ⟨m1, rfl⟩, q⟩
  done := fun small big Q ⟨hI, e⟩ hn h => by
    subst e
    intro A s P E o p _
    obtain ⟨_, eI, ⟨ok, ov, rfl⟩, _, _⟩ := o.good.at_ I _ AH.set_self
    refine wpAny_pyNext_items_end o.room.hd eI (o.good.at_ _ _ (AH.set_new hI hn)).1 (by simp) fun h' hs => ?_
    have y := After.lose (t := s.toks) o.good AH.set_self (by trivial) hs
    rw [AH.drop_set hI] at y
    exact p _ _ _ y ⟨rfl, h⟩
end Mine
end
section
open PySem PySem.W PyProof.Rows Builtin
set_option Elab.async false
set_option maxRecDepth 100000
set_option autoImplicit false
set_option linter.unusedVariables false
namespace Mine
variable {C : Cx} {α β : Type} {b : Nat} {σ : AH} {X : Value → AH → Prop}

/-! iterators made -/
theorem W.pushed {t : Sem α} {o : Obj} {ao : AO} {f : Addr → α} {Q : α → AH → Prop} (ht : ∀ (A : Around) (s : Shared) (P : α → Shared → Prop) (E : Value → Shared → Prop), Ok C b A σ s → (∀ tk, s.toks ≤ tk → P (f s.heap.objs.size) { s with heap := s.heap.push o, toks := tk }) → wpAny (model C.prog C.w) A t P E s)
    (hm : ∀ (h : Heap) (a : Addr), h.get? a = some o → Mt C h a ao) (hf : o.isFreed = false) (h : ∀ a, σ a = none → Q (f a) (σ.set a ao)) : W C b t σ Q X := by
  intro A s P E ok p x
  refine ht A s P E ok fun tk htk => ?_
  have z := After.add (t := tk) ok.good (h' := s.heap.push o) (a := s.heap.objs.size) (o := ao) (fun b o' e => Heap.get?_push_of_some _ e) (Nat.le_refl _) (hm _ _ (Heap.get?_push_size _ hf))
  exact p _ _ _ z.1 (h _ z.2)
theorem W.iterList {l : Addr} {vs : List Value} {Q : Value → AH → Prop} (hl : σ l = some (.lst vs)) (h : ∀ I, σ I = none → Q (.ref I) (σ.set I (listIt l 0))) : W C b (pyIter (.ref l)) σ Q X :=
  W.pushed (f := .ref) (fun A s P E o p => wpAny_pyIter_list (o.good.isList hl) (p s.toks (Nat.le_refl _))) (fun h a e => Mt.listIter ⟨_, e, rfl, rfl⟩) rfl h
theorem W.iterTup {l : Addr} {vs : List Value} {Q : Value → AH → Prop} (hl : σ l = some (.tup vs)) (h : ∀ I, σ I = none → Q (.ref I) (σ.set I (tupIt l 0))) : W C b (pyIter (.ref l)) σ Q X :=
  W.pushed (f := .ref) (fun A s P E o p => wpAny_pyIter_tuple (o.good.isTuple hl) (p s.toks (Nat.le_refl _))) (fun h a e => Mt.tupIter ⟨_, e, rfl, rfl⟩) rfl h
theorem W.iterKeys {d : Addr} {kvs : List (Str × Value)} {ep : Nat} {Q : Value → AH → Prop} (hd : σ d = some (.dct kvs ep)) (h : ∀ I, σ I = none → Q (.ref I) (σ.set I (keyIt d 0 kvs.length ep))) : W C b (pyIter (.ref d)) σ Q X :=
  W.pushed (f := .ref) (fun A s P E o p => wpAny_pyIter_dict (o.good.at_ _ _ hd).2 (o.good.at_ _ _ hd).1 (p s.toks (Nat.le_refl _))) (fun h a e => Mt.keyIter ⟨_, e, rfl, rfl⟩) rfl h
theorem W.iterRange {r : Addr} {x y z : Int} {Q : Value → AH → Prop} (hr : σ r = some (rangeO x y z)) (hs : Builtin.Range.small x y z = true) (h : ∀ I, σ I = none → Q (.ref I) (σ.set I (rangeIt x (Builtin.Range.rangeSize x y z) z))) : W C b (pyIter (.ref r)) σ Q X :=
  W.pushed (f := .ref) (ao := rangeIt x (Builtin.Range.rangeSize x y z) z) (fun A s P E o p => let ⟨_, e, ⟨t, u, v, q⟩, _⟩ := o.good.at_ _ _ hr; wpAny_pyIter_range (q ▸ e) hs (p s.toks (Nat.le_refl _))) (fun h a e => e) rfl h
theorem W.callRange1 {n : Int} {t : Tok} {Q : Value → AH → Prop} (h : ∀ r, σ r = none → Q (.ref r) (σ.set r (rangeO 0 n 1))) : W C b (call (.type "range") [.int n t]) σ Q X := by
  intro A s P E o p x
  refine call_range_1 ?_
  have z := After.add (t := s.toks + 1 + 1) o.good (h' := s.heap.push { cls := .type "range", data := .fields #[.int 0 s.toks, .int n t, .int 1 (s.toks + 1)] }) (a := s.heap.objs.size) (o := rangeO 0 n 1) (fun b o' e => Heap.get?_push_of_some _ e) (Nat.le_refl _)
    ⟨_, Heap.get?_push_size _ rfl, ⟨_, _, _, rfl⟩, by simp, by simp⟩
  exact p _ _ _ z.1 (h _ z.2)
theorem W.callRange2 {m n : Int} {t u : Tok} {Q : Value → AH → Prop} (h : ∀ r, σ r = none → Q (.ref r) (σ.set r (rangeO m n 1))) : W C b (call (.type "range") [.int m u, .int n t]) σ Q X := by
  intro A s P E o p x
  refine call_range_2 ?_
  have z := After.add (t := s.toks + 1) o.good (h' := s.heap.push { cls := .type "range", data := .fields #[.int m u, .int n t, .int 1 s.toks] }) (a := s.heap.objs.size) (o := rangeO m n 1) (fun b o' e => Heap.get?_push_of_some _ e) (Nat.le_refl _)
    ⟨_, Heap.get?_push_size _ rfl, ⟨_, _, _, rfl⟩, by simp, by simp⟩
  exact p _ _ _ z.1 (h _ z.2)
/-- enumerate of a list -/
theorem W.callEnum {l : Addr} {vs : List Value} {Q : Value → AH → Prop} (hl : σ l = some (.lst vs)) (h : ∀ I J, I ≠ J → σ I = none → σ J = none → Q (.ref I) ((σ.set I (enumO J 0)).set J (listIt l 0))) : W C b (call (.type "enumerate") [.ref l]) σ Q X := by
  intro A s P E o p x
  refine call_enumerate_list (o.good.isList hl) fun h' he hit hz hk => ?_
  have y0 := After.keeps (t := s.toks) o.good hk
  have hJ : σ s.heap.objs.size = none := o.good.fresh
  have hI : σ (s.heap.objs.size + 1) = none := by
    cases e : σ (s.heap.objs.size + 1) with
    | none => rfl
    | some z => exact absurd (o.good.shown_lt e) (Nat.not_lt.mpr (Nat.le_succ _))
  have y1 := y0.also o.good (T := s.heap.objs.size + 1) (o := enumO s.heap.objs.size 0) (Nat.le_succ _) ⟨_, he, ⟨_, rfl⟩, by simp, by simp⟩
  have y2 := y1.also o.good (T := s.heap.objs.size) (o := listIt l 0) (Nat.le_refl _) (Mt.listIter hit)
  exact p _ _ _ y2 (h _ _ (Nat.succ_ne_self _) hI hJ)
theorem W.iterEnum {I J : Addr} {i : Int} {Q : Value → AH → Prop} (hI : σ I = some (enumO J i)) (h : Q (.ref I) σ) : W C b (pyIter (.ref I)) σ Q X := fun A s P E o p x => by
  obtain ⟨_, e, ⟨old, rfl⟩, _⟩ := o.good.at_ _ _ hI
  exact wpAny_pyIter_enum e (p _ _ _ (.refl o.good) h)
def itemsV (d : Addr) : AO := .pr fun o => o.cls = .type "dict_items" ∧ o.data = .fields #[.ref d]
theorem W.iterItems {v d : Addr} {kvs : List (Str × Value)} {ep : Nat} {Q : Value → AH → Prop} (hv : σ v = some (itemsV d)) (hd : σ d = some (.dct kvs ep)) (h : ∀ I, σ I = none → Q (.ref I) (σ.set I (itemIt d 0 kvs.length ep))) : W C b (pyIter (.ref v)) σ Q X :=
  W.pushed (f := .ref) (ao := itemIt d 0 kvs.length ep) (fun A s P E o p => let ⟨_, e, q, _⟩ := o.good.at_ _ _ hv; wpAny_pyIter_items ⟨_, e, q⟩ (o.good.at_ _ _ hd).1 (p s.toks (Nat.le_refl _))) (fun h a e => ⟨_, e, ⟨_, _, rfl⟩, by simp, by simp⟩) rfl h

/-! a for over a source -/
section
variable {env : Env}
theorem WK.forSrc {it : Value} {target : Expr} {body : List Stmt} {ι : Type} {st : ι → AH → (AH → Prop) → Prop} {need : AH → Prop} {n : Nat} {item : Nat → ι → Prop} {at_ : Nat → AH → AH → Prop} (S : Src C b it target env ι st need n item at_)
    (Inv : Nat → AH → Prop) {Q : Flow → AH → Prop} (hneed : ∀ i σ, Inv i σ → need σ)
    (step : ∀ i σ x, i < n → Inv i σ → item i x → st x σ (fun σ' => W C b (execs body env) σ' (fun f σ'' => match f with | .next | .cont => Inv (i + 1) σ'' | .brk => Q .next σ'' | .ret v => Q (.ret v) σ'') noX))
    (fin : ∀ σ, Inv n σ → Q .next σ) : ∀ (k i : Nat) (small big : AH), i + k = n → at_ i small big → Inv i small → WK C b (.forLoop target it body [] env) big Q
  | 0, i, small, big, hk, ha, hi => by
    have : i = n := by omega
    subst this
    refine WK.for_ (W.mono (S.done small big (fun σ' => Q .next σ') ha (hneed _ _ hi) (fin _ hi)) (fun r σ₁ q => ?_) fun _ _ x => x)
    obtain ⟨rfl, q⟩ := q
    exact W.execs_nil q
  | k + 1, i, small, big, hk, ha, hi => by
    refine WK.for_ (W.mono (S.next i small big _ (by omega) ha (hneed _ _ hi) fun x hx => step i small x (by omega) hi hx) (fun r σ₁ q => ?_) fun _ _ x => x)
    obtain ⟨v, rfl, q⟩ := q
    refine W.mono q (fun _ σ₂ q => W.mono q (fun _ σ₃ q => ?_) fun _ _ x => x) fun _ _ x => x
    obtain ⟨σ', ha', q⟩ := q
    refine W.cut2 (W.mono (S.frame _ b _ _ _ _ _ ha' q) (fun f big' q => ?_) fun _ _ x => x)
    obtain ⟨small', ha'', q⟩ := q
    cases f with
    | next => exact ⟨big', .refl _, WK.forSrc S Inv hneed step fin k (i + 1) small' big' (by omega) ha'' q⟩
    | cont => exact ⟨big', .refl _, WK.forSrc S Inv hneed step fin k (i + 1) small' big' (by omega) ha'' q⟩
    | brk => exact ⟨small', S.cut _ _ _ ha'', q⟩
    | ret v => exact ⟨small', S.cut _ _ _ ha'', q⟩

/-! comprehensions -/
theorem WK.compStart {e : Expr} {g : Comprehension} {gs : List Comprehension} {depth : Nat} {it acc : Value} {Q : Flow → AH → Prop} (hcl : (clausesOf e)[depth]? = some g) (hg : g.is_async = 0) (hf : (Code.compStart e depth it acc env).isFrame = false)
    (hw : (Code.compStart e depth it acc env).weight = 0) (hu : (Code.compStart e depth it acc env).cUnits = 0) (hq : ∀ it', (Code.compLoop e depth it' acc env).quiet = true)
    (h0 : WK C b (.compLoop e depth it acc env) σ Q) (h : W C b (pyIter it) σ (fun it' σ' => WK C b (.compLoop e depth it' acc env) σ' Q) noX) : WK C b (.compStart e depth it acc env) σ Q := by
  refine WK.turn (F := fun x => do noteFrame x env; standAt theWindowsPlace) (t := PySem.compStart e depth it acc env) ?_ hw hu ?_
  · show (if (Code.compStart e depth it acc env).isFrame then _ else _) = _
    rw [hf]; rfl
  · unfold PySem.compStart
    rw [hcl]
    have : (Option.elim (some g) false fun x => x.is_async != 0) = false := by show (g.is_async != 0) = false; rw [hg]; rfl
    rw [this]
    intro A s P E k p x
    refine wpAny_bind (wpAny_askSetting (wpAny_ite ?_))
    split
    · exact wpAny_bind (wpAny_pure (wpAny_pure (p (.again _) _ _ (.refl k.good) ⟨hq _, h0⟩)))
    · refine wpAny_bind (wpAny_rule ?_)
      show wpAny _ _ (standAt g.iter.pos >>= fun _ => _) _ _ s
      exact wpAny_bind (wpAny_standAt (wpAny_bind (h A s _ _ k (fun it' σ' s' y q => wpAny_pure (p (.again _) _ _ y ⟨hq _, q⟩)) fun e σ' s' y q => q.elim)))

/-- one turn of a list comprehension -/
theorem WK.listTurn {elt : Expr} {gens : List Comprehension} {scope : Scope} {pos : Pos} {depth : Nat} {g : Comprehension} {it acc : Value} {Q : Flow → AH → Prop} (hg : gens[depth]? = some g) (ha : g.is_async = 0)
    (h : W C b (pyNext it) σ (fun r σ₁ => match r with
      | none => Q .next σ₁
      | some v => W C b (letOwnedTupleGo g.target it v) σ₁ (fun _ σ₂ => W C b (assign g.target env v) σ₂ (fun _ σ₃ =>
          W C b (tests env g.ifs) σ₃ (fun ok σ₄ =>
            (ok = false → WK C b (.compLoop (.ListComp elt gens scope pos) depth it acc env) σ₄ Q) ∧
            (ok = true → match gens[depth + 1]? with
                | some g' => W C b (eval g'.iter env) σ₄ (fun x σ₅ => (∀ x, foldedSetIterable g'.iter env x = pure x) ∧ g'.is_async = 0 ∧ W C b (pyIter x) σ₅ (fun it' σ₆ => W C b (runOwn (.compStart (.ListComp elt gens scope pos) (depth + 1) it' acc env) env) σ₆ (fun _ σ₇ => WK C b (.compLoop (.ListComp elt gens scope pos) depth it acc env) σ₇ Q) noX) noX) noX
                | none => W C b (eval elt env) σ₄ (fun v σ₅ => W C b (call (.builtin "list.append") [acc, v]) σ₅ (fun _ σ₆ => WK C b (.compLoop (.ListComp elt gens scope pos) depth it acc env) σ₆ Q) noX) noX)) noX) noX) noX) noX) :
    WK C b (.compLoop (.ListComp elt gens scope pos) depth it acc env) σ Q := by
  refine WK.turn (F := fun x => do noteFrame x env; theTreesLotGoes x) (t := compTurn (.ListComp elt gens scope pos) depth it acc env) (by cases depth <;> rfl) (by cases depth <;> rfl) (by cases depth <;> rfl) ?_
  unfold compTurn
  dsimp only
  rw [hg]
  dsimp only
  have h1 : (g.is_async != 0) = false := by rw [ha]; rfl
  rw [h1]
  simp only [Bool.false_eq_true, if_false]
  refine W.bind_ (W.standAt_ (W.bind_ (W.mono h (fun r σ₁ q => ?_) fun _ _ x => x)))
  cases r with
  | none => exact W.pure_ q
  | some v =>
    refine W.bind_ (W.mono q (fun _ σ₂ q => W.bind_ (W.mono q (fun _ σ₃ q => W.bind_ (W.mono q (fun ok σ₄ q => ?_) fun _ _ x => x)) fun _ _ x => x)) fun _ _ x => x)
    cases ok with
    | false => exact W.pure_ ⟨by cases depth <;> rfl, q.1 rfl⟩
    | true =>
      have q2 := q.2 rfl
      cases hd : gens[depth + 1]? with
      | none =>
        rw [hd] at q2
        dsimp only at q2 ⊢
        exact W.bind_ (W.bind_ (W.mono q2 (fun v σ₅ q => W.bind_ (W.mono q (fun _ σ₆ q => W.pure_ (W.pure_ ⟨by cases depth <;> rfl, q⟩)) fun _ _ x => x)) fun _ _ x => x))
      | some g' =>
        rw [hd] at q2
        dsimp only at q2 ⊢
        refine W.bind_ (W.mono q2 (fun x σ₅ q => ?_) fun _ _ x => x)
        obtain ⟨e1, e2, q⟩ := q
        have h2 : (g'.is_async != 0) = false := by rw [e2]; rfl
        rw [h2]
        simp only [Bool.false_eq_true, if_false]
        rw [e1]
        refine W.bind_ (W.standAt_ (W.bind_ (W.pure_ (W.bind_ (W.hold (W.mono q (fun it' σ₆ q => ?_) fun _ _ x => x))))))
        exact W.bind_ (W.mono q (fun _ σ₇ q => W.pure_ ⟨by cases depth <;> rfl, q⟩) fun _ _ x => x)
end
end Mine
end
section
open PySem PySem.W PyProof.Rows Builtin
set_option Elab.async false
set_option maxRecDepth 100000
set_option autoImplicit false
set_option linter.unusedVariables false
namespace Mine
variable {C : Cx} {α β : Type} {b : Nat} {σ : AH} {X : Value → AH → Prop}

theorem After.loseNew {σ' : AH} {s s' : Shared} {h' : Heap} {L : Addr} {o : AO} (y : After C σ s σ' s') (hL : ∀ c m, σ L ≠ some (.ns c m)) (h4 : σ' L = some o) (k : Heap.ExtBut L s'.heap h') : After C σ s (σ'.drop L) { s' with heap := h' } := by
  have hb : ∀ b x, C.h₁.get? b = some x → b ≠ L := fun b x q hq => by have := (y.good.base b x q).1; rw [hq, h4] at this; cases this
  refine ⟨⟨fun b x q => ?_, fun a x q => ?_⟩, ⟨fun b x q q' => ?_, fun a c m q => ?_⟩, ⟨y.ext.os, y.ext.drawn, y.ext.old, y.ext.bare⟩, y.tk⟩
  · rw [AH.drop_ne (hb b x q)]
    exact ⟨(y.good.base b x q).1, (y.good.base b x q).2.imp (fun z => k _ _ (hb b x q) z) fun z => z.keeps fun o z => k _ _ (hb b x q) z⟩
  · by_cases ha : a = L
    · subst ha; rw [AH.drop_self] at q; cases q
    · rw [AH.drop_ne ha] at q; exact (y.good.at_ a x q).keeps fun y z => k _ _ ha z
  · obtain ⟨z1, o', z2, z3⟩ := y.step.like b x q q'
    have hbL : b ≠ L := fun z => by rw [z, h4] at z1; cases z1
    exact ⟨by rw [AH.drop_ne hbL]; exact z1, o', k _ _ hbL z2, z3⟩
  · obtain ⟨m', z⟩ := y.step.ns a c m q
    have haL : a ≠ L := fun z => hL c m (z ▸ q)
    exact ⟨m', by rw [AH.drop_ne haL]; exact z⟩

section
variable {env : Env}
theorem W.comp_ {e : Expr} {scope : Scope} {pos : Pos} {newAcc first : Sem Value} {g : Comprehension} {gs : List Comprehension} {cl : List (Str × Addr)} {use : Option (Value → Sem Unit)} {Q : Value → AH → Prop}
    (hcl : clausesOf e = g :: gs) (hs : ∀ x, foldedSetIterable g.iter env x = pure x) (hclos : closureFor scope env = pure cl) (hkind : scope.kind = .function)
    (hnames : ∀ x ∈ scope.names, x.2 = .local → scope.names.lookup x.1 = some .local) (hcell : cellNames scope.names = [])
    (h : W C b first σ (fun x σ₁ => W C b (pyIter x) σ₁ (fun it σ₂ => W C b newAcc σ₂ (fun acc σ₃ => ∀ L, σ₃ L = none →
      WK C b (.compStart e 0 it acc (compEnvC scope cl L env)) (σ₃.set L (.ns "dict" [])) (fun _ σ₄ => match use with | none => Q acc (σ₄.drop L) | some u => W C b (u acc) σ₄ (fun _ σ₅ => Q .none (σ₅.drop L)) noX)) noX) noX) noX) :
    W C b (comprehension e scope env pos newAcc false first use) σ Q X := by
  intro A s P E o p _
  refine wpAny_comprehension_free hcl hs hclos hkind hnames ?_
  refine h A s _ _ o (fun x σ₁ s₁ y₁ q => ?_) fun e σ' s' y q => q.elim
  refine q A s₁ _ _ (o.next y₁) (fun it σ₂ s₂ y₂ q => ?_) fun e σ' s' y q => q.elim
  refine q A s₂ _ _ ((o.next y₁).next y₂) (fun acc σ₃ s₃ y₃ q => ?_) fun e σ' s' y q => q.elim
  have o₃ := ((o.next y₁).next y₂).next y₃
  have y0 := (y₁.trans y₂).trans y₃
  have z : W C b (newFunctionEnv scope env.globals cl [] env.qual none .none (some env)) σ₃ (fun cenv σ₄ => ∃ L, σ₃ L = none ∧ σ₄ = σ₃.set L (.ns "dict" []) ∧ cenv.locals = L ∧ { cenv with scope := relabel scope env } = compEnvC scope cl L env) noX := by
    refine W.newEnv_ hkind (by rw [hcell]; exact List.nodup_nil) (fun _ hx => by cases hx) (fun n hn => by rw [hcell] at hn; cases hn) fun L hL => ?_
    rw [hcell]
    intro _
    exact ⟨L, hL, rfl, rfl, rfl⟩
  refine z A s₃ _ _ o₃ (fun cenv σ₄ s₄ y₄ q₄ => ?_) fun e σ' s' y q => q.elim
  obtain ⟨L, hL, rfl, rfl, e3⟩ := q₄
  have y04 := y0.trans y₄
  have hL0 : ∀ c m, σ cenv.locals ≠ some (.ns c m) := fun c m e => by
    obtain ⟨m', e'⟩ := y0.step.ns _ _ _ e
    rw [hL] at e'; cases e'
  rw [e3]
  refine q cenv.locals hL A s₄ _ (o₃.next y₄) fun f σ₅ s₅ y₅ q₅ => ?_
  obtain ⟨m', hm'⟩ := y₅.step.ns _ _ _ (AH.set_self (σ := σ₃) (a := cenv.locals) (o := .ns "dict" []))
  have y05 := y04.trans y₅
  cases use with
  | none =>
    exact ⟨_, (y₅.good.at_ _ _ hm').toNs, fun h' hs => p _ _ _ (y05.loseNew hL0 hm' hs.extBut) q₅⟩
  | some u =>
    refine q₅ A s₅ _ _ ((o₃.next y₄).next y₅) (fun _ σ₆ s₆ y₆ q₆ => ?_) fun e σ' s' y q => q.elim
    obtain ⟨m'', hm''⟩ := y₆.step.ns _ _ _ hm'
    exact ⟨_, (y₆.good.at_ _ _ hm'').toNs, fun h' hs => p _ _ _ ((y05.trans y₆).loseNew hL0 hm'' hs.extBut) q₆⟩

/-- the last clause of a list comprehension, over a source -/
theorem WK.listSrc {elt target iter : Expr} {ifs : List Expr} {gens : List Comprehension} {scope : Scope} {pos : Pos} {depth : Nat} {it : Value} {D : Addr} {ι : Type} {st : ι → AH → (AH → Prop) → Prop} {need : AH → Prop} {n : Nat} {item : Nat → ι → Prop} {at_ : Nat → AH → AH → Prop}
    (S : Src C b it target env ι st need n item at_) (hg : gens[depth]? = some ⟨target, iter, ifs, 0⟩) (hg' : gens[depth + 1]? = none) (Inv : Nat → List Value → AH → Prop) {Q : Flow → AH → Prop}
    (hneed : ∀ i ys σ, Inv i ys σ → σ D = none → need (σ.set D (.lst ys))) (hlen : ∀ i ys σ, Inv i ys σ → ys.length ≤ 10000)
    (step : ∀ i ys σ x, i < n → Inv i ys σ → item i x → σ D = none → st x σ (fun σ₁ =>
      W C b (tests env ifs) σ₁ (fun ok σ₂ => (ok = false → Inv (i + 1) ys σ₂) ∧ (ok = true → W C b (eval elt env) σ₂ (fun v σ₃ => Inv (i + 1) (ys ++ [v]) σ₃) noX)) noX))
    (fin : ∀ ys σ, Inv n ys σ → σ D = none → Q .next (σ.set D (.lst ys))) : ∀ (k i : Nat) (ys : List Value) (small big : AH), i + k = n → small D = none → at_ i (small.set D (.lst ys)) big → Inv i ys small →
      WK C b (.compLoop (.ListComp elt gens scope pos) depth it (.ref D) env) big Q
  | 0, i, ys, small, big, hk, hD, ha, hi => by
    have : i = n := by omega
    subst this
    refine WK.listTurn hg rfl (W.mono (S.done _ big (fun σ' => Q .next σ') ha (hneed _ _ _ hi hD) (fin _ _ hi hD)) (fun r σ₁ q => ?_) fun _ _ x => x)
    obtain ⟨rfl, q⟩ := q
    exact q
  | k + 1, i, ys, small, big, hk, hD, ha, hi => by
    have nx := S.next i _ big (fun σ' => ∃ σ₁, σ' = σ₁.set D (.lst ys) ∧ σ₁ D = none ∧ W C b (tests env ifs) σ₁ (fun ok σ₂ => (ok = false → Inv (i + 1) ys σ₂) ∧ (ok = true → W C b (eval elt env) σ₂ (fun v σ₃ => Inv (i + 1) (ys ++ [v]) σ₃) noX)) noX)
      (by omega) ha (hneed _ _ _ hi hD) fun x hx => S.stFrame x small _ D (.lst ys) hD trivial (S.stMono _ _ _ _ (fun σ' q n => ⟨σ', rfl, n, q⟩) (step i ys small x (by omega) hi hx hD))
    refine WK.listTurn hg rfl (W.mono nx (fun r σ₁ q => ?_) fun _ _ x => x)
    obtain ⟨v, rfl, q⟩ := q
    refine W.mono q (fun _ σ₂ q => W.mono q (fun _ σ₃ q => ?_) fun _ _ x => x) fun _ _ x => x
    obtain ⟨σ', ha', σ₁, rfl, hD1, q⟩ := q
    have q1 : W C b (tests env ifs) (σ₁.set D (.lst ys)) (fun ok σ₂ => ∃ σ₂', σ₂ = σ₂'.set D (.lst ys) ∧ σ₂' D = none ∧ (ok = false → Inv (i + 1) ys σ₂') ∧ (ok = true → W C b (eval elt env) σ₂' (fun v σ₃ => Inv (i + 1) (ys ++ [v]) σ₃) noX)) noX :=
      W.frame hD1 trivial (W.mono q (fun ok σ₂ q n => ⟨σ₂, rfl, n, q⟩) fun _ _ x => x)
    refine W.mono (S.frame _ b _ _ _ _ _ ha' q1) (fun ok big' q => ?_) fun _ _ x => x
    obtain ⟨_, ha2, σ₂, rfl, hD2, q1, q2⟩ := q
    refine ⟨fun hok => WK.listSrc S hg hg' Inv hneed hlen step fin k (i + 1) ys σ₂ big' (by omega) hD2 ha2 (q1 hok), fun hok => ?_⟩
    rw [hg']
    dsimp only
    have q3 : W C b (eval elt env) (σ₂.set D (.lst ys)) (fun v σ₃ => ∃ σ₃', σ₃ = σ₃'.set D (.lst ys) ∧ σ₃' D = none ∧ Inv (i + 1) (ys ++ [v]) σ₃') noX :=
      W.frame hD2 trivial (W.mono (q2 hok) (fun v σ₃ q n => ⟨σ₃, rfl, n, q⟩) fun _ _ x => x)
    refine W.mono (S.frame _ b _ _ _ _ _ ha2 q3) (fun v big3 q => ?_) fun _ _ x => x
    obtain ⟨_, ha3, σ₃, rfl, hD3, q⟩ := q
    have hl := hlen _ _ _ q
    have q4 : W C b (call (.builtin "list.append") [.ref D, v]) (σ₃.set D (.lst ys)) (fun _ σ₄ => σ₄ = σ₃.set D (.lst (ys ++ [v]))) noX := by
      refine W.call_ (WK.append AH.set_self (by rw [List.length_append] at hl; omega) ?_)
      rw [AH.set_set]
    refine W.mono (S.frame _ b _ _ _ _ _ ha3 q4) (fun _ big4 q5 => ?_) fun _ _ x => x
    obtain ⟨_, ha4, rfl⟩ := q5
    exact WK.listSrc S hg hg' Inv hneed hlen step fin k (i + 1) _ σ₃ big4 (by omega) hD3 ha4 q
end
end Mine
end
section
open PySem PySem.W PyProof.Rows Builtin
set_option Elab.async false
set_option maxRecDepth 100000
set_option autoImplicit false
set_option linter.unusedVariables false
namespace Mine
variable {C : Cx} {α β : Type} {b : Nat} {σ : AH} {X : Value → AH → Prop}

/-! subscripts -/
def GI (T : String) : Prop := ∃ id, typeLookup (.type T) "__getitem__" = pure (some (.builtin id))
theorem GI.list : GI "list" := ⟨_, slot_list_getitem.lookup⟩
theorem GI.dict : GI "dict" := ⟨_, slot_dict_getitem.lookup⟩
theorem GI.tuple : GI "tuple" := ⟨_, F.slot_tuple_getitem.lookup⟩
theorem GI.str : GI "str" := ⟨_, F.slot_str_getitem.lookup⟩
theorem GI.range : GI "range" := ⟨_, F.slot_range_getitem.lookup⟩
theorem W.getInPy {v : Value} {T : String} {Q : Bool → AH → Prop} (hT : Ty σ v T) (gi : GI T) (h : Q false σ) : W C b (getitemInPython v) σ Q X := by
  intro A s P E o p x
  obtain ⟨id, hl⟩ := gi
  rw [getitemInPython_of_ne (hT.is o.good).not_modules]
  exact wpAny_bind (wpAny_specialOf (hT.is o.good) hl (wpAny_pure (p _ _ _ (.refl o.good) h)))
theorem W.subscripted_ {e : Expr} {o i : Value} {Q : Value → AH → Prop} (h : W C b (getItem o i) σ Q X) : W C b (subscripted e false o i) σ Q X := by
  unfold subscripted
  split
  · exact W.operate_ h
  · rename_i h2; cases h2
  · exact W.operate_ h
section
variable {env : Env}
theorem W.eSub {value slice : Expr} {pos : Pos} {Q : Value → AH → Prop}
    (h : W C b (eval value env) σ (fun o σ₁ => W C b (eval slice env) σ₁ (fun i σ₂ => ∃ T, Ty σ₂ o T ∧ GI T ∧ W C b (getItem o i) σ₂ Q X) X) X) : W C b (eval (.Subscript value slice pos) env) σ Q X := by
  rw [arm_eval_Subscript]
  refine W.bind_ (W.mono h (fun o σ₁ q => W.bind_ (W.hold (W.mono q (fun i σ₂ q => W.bind_ (W.standAt_ ?_)) fun _ _ x => x))) fun _ _ x => x)
  obtain ⟨T, hT, gi, q⟩ := q
  refine W.bind_ (W.getInPy hT gi (W.bind_ (W.mono (W.subscripted_ q) (fun r σ₃ q => W.bind_ ?_) fun _ _ x => x)))
  exact fun A s P E k p x => wpAny_letTemporaryGo (p _ _ _ (.refl k.good) (W.pure_ q))
/-- the value of a part of a slice -/
theorem W.vnNone {Q : Value → AH → Prop} (h : Q .none σ) : W C b (valueOrNone (evalOpt none env)) σ Q X := W.pure_ h
theorem W.vnSome {e : Expr} {Q : Value → AH → Prop} (h : W C b (eval e env) σ Q X) : W C b (valueOrNone (evalOpt (some e) env)) σ Q X := h
def sliceO (l u st : Value) : AO := .pr fun o => o.cls = .type "slice" ∧ o.data = .fields #[l, u, st]
theorem W.eSlice {lo up st : Option Expr} {pos : Pos} {Q : Value → AH → Prop}
    (h : W C b (valueOrNone (evalOpt lo env)) σ (fun l σ₁ => W C b (valueOrNone (evalOpt up env)) σ₁ (fun u σ₂ => W C b (valueOrNone (evalOpt st env)) σ₂ (fun s σ₃ => ∀ a, σ₃ a = none → Q (.ref a) (σ₃.set a (sliceO l u s))) X) X) X) : W C b (eval (.Slice lo up st pos) env) σ Q X := by
  rw [arm_eval_Slice]
  refine W.bind_ (W.mono h (fun l σ₁ q => W.bind_ (W.hold (W.mono q (fun u σ₂ q => W.bind_ (W.hold (W.mono q (fun s σ₃ q => ?_) fun _ _ x => x))) fun _ _ x => x))) fun _ _ x => x)
  intro A s' P E o p x
  refine wpAny_newObj_type ?_ (by size_fits)
  have z := After.add (t := s'.toks) o.good (a := s'.heap.objs.size) (o := sliceO l u s) (fun b o' e => Heap.get?_push_of_some _ e) (Nat.le_refl _) ⟨{ cls := .type "slice", data := .fields #[l, u, s] }, Heap.get?_push_size _ rfl, ⟨rfl, rfl⟩, by simp, by simp⟩
  exact p _ _ _ z.1 (q _ z.2)
end
theorem W.pick {l sl : Addr} {xs : List Value} {vl vu vs : Value} {lo hi st : Option Int} {Q : Value → AH → Prop} (hl : σ l = some (.lst xs)) (hs : σ sl = some (sliceO vl vu vs)) (pl : IsPart vl lo) (pu : IsPart vu hi) (ps : IsPart vs st) (h0 : st ≠ some 0)
    (h : ∀ a, σ a = none → Q (.ref a) (σ.set a (.lst (slicePick xs.toArray lo hi st).toList))) (hz : xs.length ≤ 10000) : W C b (getItem (.ref l) (.ref sl)) σ Q X := by
  intro A s P E o p x
  obtain ⟨_, e, q, _⟩ := o.good.at_ _ _ hs
  refine wpAny_getItem_list_slice (o.good.isList hl) ⟨_, e, q⟩ pl pu ps h0 ?_ (by rw [List.size_toArray, sizeLine_eq]; omega)
  have z := After.add (t := s.toks) o.good (a := s.heap.objs.size) (o := .lst (slicePick xs.toArray lo hi st).toList) (fun b o' e => Heap.get?_push_of_some _ e) (Nat.le_refl _) ⟨0, by rw [Array.toArray_toList]; exact Heap.get?_push_size _ rfl⟩
  exact p _ _ _ z.1 (h _ z.2)
theorem W.itemTup {t : Addr} {vs : List Value} {k : Int} {u : Tok} {x : Value} {Q : Value → AH → Prop} (ht : σ t = some (.tup vs)) (h0 : 0 ≤ k) (hfit : k < 2 ^ 63) (hx : vs[k.toNat]? = some x) (h : Q x σ) : W C b (getItem (.ref t) (.int k u)) σ Q X := by
  intro A s P E o p _
  obtain ⟨n, e⟩ := o.good.at_ _ _ ht
  refine PySem.P.getItem_tuple (k := k.toNat) (y := x) e (by omega) hfit ?_ (by simpa using hx) (p _ _ _ (.refl o.good) h)
  have hl : k.toNat < vs.length := by
    rcases Nat.lt_or_ge k.toNat vs.length with h | h
    · exact h
    · rw [List.getElem?_eq_none h] at hx; cases hx
  unfold seqIndex?
  simp only [List.size_toArray]
  split <;> split <;> first | omega | rfl | simp_all <;> omega
theorem W.lenList {l : Addr} {vs : List Value} {Q : Value → AH → Prop} (hl : σ l = some (.lst vs)) (hz : vs.length ≤ 10000) (h : ∀ t, Q (.int vs.length t) σ) : W C b (call (.builtin "len") [.ref l]) σ Q X :=
  fun A s P E o p _ => PySem.Calls.call_len_list (o.good.isList hl) (by rw [List.size_toArray]; omega) (p _ _ _ (.toks o.good _) (by rw [List.size_toArray]; exact h _))
theorem setTail {l : Addr} {items : Array Value} {n j : Nat} {v : Value} {A : Around} {s : Shared} {P : Fin → Shared → Prop} {E : Value → Shared → Prop} (e : s.heap.get? l = some { cls := .type "list", data := .seq items n })
    (h : P (.done (.ret .none)) { s with heap := s.heap.update l (Obj.mapSeq (·.setIfInBounds j v)) }) : wpAny (model C.prog C.w) A (setSeqItemAt l j v >>= fun _ => ret .none) P E s :=
  wpAny_bind (wpAny_setSeqItemAt (hd := rfl) e (wpAny_pure h))
theorem W.setList {l : Addr} {vs : List Value} {k : Int} {t : Tok} {v : Value} {Q : Unit → AH → Prop} (hl : σ l = some (.lst vs)) (h0 : 0 ≤ k) (hfit : k < 2 ^ 63) (hn : k < vs.length) (h : Q () (σ.set l (.lst (vs.set k.toNat v)))) : W C b (setItem (.ref l) (.int k t) v) σ Q X := by
  intro A s P E o p _
  obtain ⟨ne, ho⟩ := o.good.at_ _ _ hl
  have hL := o.good.isList hl
  have fin := p () _ _ (lst_upd (f := (·.setIfInBounds k.toNat v)) (t := s.toks) o.good hl (by simp)) h
  unfold setItem
  try with_reducible refine wpAny_holding ?_
  first | refine wpAny_bind (wpAny_pure ?_) | skip
  refine wpAny_bind (wpAny_sequenceKey hL.typeIs (by decide) ?_)
  refine wpAny_bind (wpAny_callSpecial?_slot (name := Str.ofString "__setitem__") hL.typeIs slot_list_setitem
    (wpAny_call_entry slot_list_setitem hL.typeIs entry_list_setitem ?_ (args_list_setitem _ _ _)))
  show wpAny _ _ (Builtin.List.listSubscript? (.int k t) >>= _) _ _ s
  refine wpAny_bind (wpAny_listSubscript_int (fitsIndex_of h0 hfit) ?_)
  clear hfit
  obtain ⟨j, rfl⟩ := Int.eq_ofNat_of_zero_le h0
  have hj : j < vs.toArray.size := by simp only [List.size_toArray]; omega
  have hx' : vs.toArray[j]? = some vs.toArray[j] := Array.getElem?_eq_getElem hj
  show wpAny _ _ ((seqItemAt l j >>= fun r => pure (r.map (j, ·))) >>= _) _ _ s
  refine wpAny_bind (wpAny_bind (wpAny_seqItemAt ho rfl (wpAny_pure ?_)))
  rw [hx']
  show wpAny _ _ (setSeqItemAt l j v >>= _) _ _ s
  refine wpAny_bind (wpAny_setSeqItemAt ho rfl ?_)
  first
    | exact wpAny_bind (wpAny_pure (wpAny_pure ⟨.none, rfl, wpAny_pure fin⟩))
    | exact wpAny_pure ⟨.none, rfl, wpAny_pure fin⟩
theorem W.setListNeg {l : Addr} {vs : List Value} {k : Int} {t : Tok} {v : Value} {Q : Unit → AH → Prop} (hl : σ l = some (.lst vs)) (h0 : k < 0) (h1 : -(vs.length : Int) ≤ k) (hfit : -(2 ^ 63) ≤ k) (h : Q () (σ.set l (.lst (vs.set (k + vs.length).toNat v)))) : W C b (setItem (.ref l) (.int k t) v) σ Q X := by
  intro A s P E o p _
  obtain ⟨ne, ho⟩ := o.good.at_ _ _ hl
  have hL := o.good.isList hl
  have fin := p () _ _ (lst_upd (f := (·.setIfInBounds (k + vs.length).toNat v)) (t := s.toks) o.good hl (by simp)) h
  unfold setItem
  try with_reducible refine wpAny_holding ?_
  first | refine wpAny_bind (wpAny_pure ?_) | skip
  refine wpAny_bind (wpAny_sequenceKey hL.typeIs (by decide) ?_)
  refine wpAny_bind (wpAny_callSpecial?_slot (name := Str.ofString "__setitem__") hL.typeIs slot_list_setitem
    (wpAny_call_entry slot_list_setitem hL.typeIs entry_list_setitem ?_ (args_list_setitem _ _ _)))
  show wpAny _ _ (Builtin.List.listSubscript? (.int k t) >>= _) _ _ s
  refine wpAny_bind (wpAny_listSubscript_int (fitsIndex_neg h0 hfit) ?_)
  clear hfit
  have hidx := seqIndex_neg h0 (n := vs.toArray.size) (by simp only [List.size_toArray]; exact h1)
  obtain ⟨x, hx⟩ : ∃ x, vs.toArray[(k + vs.toArray.size).toNat]? = some x := by
    have : (k + vs.toArray.size).toNat < vs.toArray.size := by simp only [List.size_toArray]; omega
    exact ⟨_, Array.getElem?_eq_getElem this⟩
  have hjj : (k + vs.length).toNat = (k + vs.toArray.size).toNat := by simp only [List.size_toArray]
  rw [hjj] at fin
  obtain ⟨j, rfl⟩ : ∃ j : Nat, k = Int.negSucc j := by
    cases k with
    | ofNat n => exact absurd h0 (Int.not_lt.mpr (Int.natCast_nonneg n))
    | negSucc n => exact ⟨n, rfl⟩
  show wpAny _ _ ((Builtin.List.listItems (.ref l) >>= fun xs => pure ((seqIndex? (Int.negSucc j) xs.size).bind fun i => xs[i]?.map (i, ·))) >>= _) _ _ s
  refine wpAny_bind (wpAny_bind ?_)
  show wpAny _ _ (seqItems? (.ref l) >>= _) _ _ s
  refine wpAny_bind (wpAny_seqItems ho rfl (wpAny_pure (wpAny_pure ?_)))
  rw [hidx]
  simp only [Option.bind_some, hx, Option.map_some]
  show wpAny _ _ (setSeqItemAt l _ v >>= _) _ _ s
  refine wpAny_bind (wpAny_setSeqItemAt ho rfl ?_)
  first
    | exact wpAny_bind (wpAny_pure (wpAny_pure ⟨.none, rfl, wpAny_pure fin⟩))
    | exact wpAny_pure ⟨.none, rfl, wpAny_pure fin⟩
theorem W.addList {l m : Addr} {vs us : List Value} {Q : Value → AH → Prop} (hl : σ l = some (.lst vs)) (hm : σ m = some (.lst us)) (hz : vs.length + us.length ≤ 10000) (h : ∀ a, σ a = none → Q (.ref a) (σ.set a (.lst (vs ++ us)))) : W C b (binaryOp .Add (.ref l) (.ref m)) σ Q X := by
  intro A s P E o p _
  obtain ⟨n, e⟩ := o.good.at_ _ _ hl
  obtain ⟨n', e'⟩ := o.good.at_ _ _ hm
  refine PySem.P.add_list e e' ?_ (by simp only [List.size_toArray]; rw [sizeLine_eq]; omega)
  have z := After.add (t := s.toks) o.good (a := s.heap.objs.size) (o := .lst (vs ++ us)) (fun b o' e => Heap.get?_push_of_some _ e) (Nat.le_refl _) ⟨0, by rw [← List.append_toArray]; exact Heap.get?_push_size _ rfl⟩
  exact p _ _ _ z.1 (h _ z.2)
theorem W.trList {l : Addr} {vs : List Value} {Q : Bool → AH → Prop} (hl : σ l = some (.lst vs)) (hz : vs.length ≤ 10000) (h : Q (!vs.isEmpty) σ) : W C b (truthy (.ref l)) σ Q X :=
  fun A s P E o p _ => wpAny_truthy_list (o.good.isList hl) (by rw [List.size_toArray]; omega) (p _ _ _ (.toks o.good _) (by simpa using h))

/-! is -/
theorem W.isNone {v : Value} {Q : Value → AH → Prop} (h : Q (.bool (v == .none)) σ) : W C b (compareOp .Is v .none) σ Q X := fun A s P E o p _ => PyProof.Rows.is_none_gen (p _ _ _ (.refl o.good) h)
theorem W.isNotNone {v : Value} {Q : Value → AH → Prop} (h : Q (.bool (!(v == .none))) σ) : W C b (compareOp .IsNot v .none) σ Q X := fun A s P E o p _ => PyProof.Rows.isnot_none_gen (p _ _ _ (.refl o.good) h)

/-! isinstance -/
/-- what isinstance asks of a class -/
def instOk (K : Frag) (Cl : Addr) : Bool := plainGet K Cl "__class__" && hasDictIn K Cl && findIn K (.ref Cl) "__class__" == some (some (.builtin "object.__class__")) && specialIn K (.builtin "object.__class__") "__get__" == some (some (.builtin "getset_descriptor.__get__")) &&
  takesIn K (.builtin "object.__class__") == some true && mroIn K Cl (.type "object") == some true
inductive KX (C : Cx) (σ : AH) : Value → Value → Prop
  | none : KX C σ .none (.type "NoneType")
  | bool {c} : KX C σ (.bool c) (.type "bool")
  | int {i t} : KX C σ (.int i t) (.type "int")
  | str {x t} : KX C σ (.str x t) (.type "str")
  | lst {a vs} : σ a = some (.lst vs) → KX C σ (.ref a) (.type "list")
  | tup {a vs} : σ a = some (.tup vs) → KX C σ (.ref a) (.type "tuple")
  | dct {a kvs ep} : σ a = some (.dct kvs ep) → KX C σ (.ref a) (.type "dict")
  | inst {a d m} {Cl : Addr} : σ a = some (.inst Cl d) → σ d = some (.fs m) → instOk C.K Cl = true → KX C σ (.ref a) (.ref Cl)
theorem KX.use {x t : Value} {h : Heap} (k : KX C σ x t) (g : Good C σ h) : ∃ H : Heap → Prop, KitX C.K x t H ∧ H h ∧ x ≠ .builtin "__main__.__loader__#opaque" := by
  cases k with
  | none => exact ⟨_, kitx_none, trivial, by simp⟩
  | bool => exact ⟨_, kitx_bool, trivial, by simp⟩
  | int => exact ⟨_, kitx_int, trivial, by simp⟩
  | str => exact ⟨_, kitx_str, trivial, by simp⟩
  | lst e => exact ⟨_, kitx_list, (let ⟨n, x⟩ := g.at_ _ _ e; ⟨_, x, rfl⟩), by simp⟩
  | tup e => exact ⟨_, kitx_tuple, (let ⟨n, x⟩ := g.at_ _ _ e; ⟨_, x, rfl⟩), by simp⟩
  | dct e => exact ⟨_, kitx_dict, (let ⟨⟨o, _, x, hx, _⟩, _⟩ := g.at_ _ _ e; ⟨_, x, hx.1⟩), by simp⟩
  | inst ha hd hk =>
    simp only [instOk, Bool.and_eq_true, beq_iff_eq] at hk
    obtain ⟨⟨⟨⟨⟨k1, k2⟩, k3⟩, k4⟩, k5⟩, k6⟩ := hk
    obtain ⟨es, n, f, e, I⟩ := g.inst ha hd
    exact ⟨_, kitx_own k1 k2 k3 k4 k5 k6, I, by simp⟩
theorem W.isInst {x t c : Value} {r : Bool} {Q : Value → AH → Prop} (k : KX C σ x t) (e : kitOne C.K t c = some r) (h : Q (.bool r) σ) : W C b (call (.builtin "isinstance") [x, c]) σ Q X := by
  intro A s P E o p _
  obtain ⟨H, Z, hH, ne⟩ := k.use o.good
  exact wpAny_tk (kia_one Z o.good.kin hH e ne fun tk htk => p _ _ _ (.toks o.good _ htk) h)
theorem W.isInstT {x t : Value} {tp : Addr} {cs : List Value} {r : Bool} {Q : Value → AH → Prop} (k : KX C σ x t) (ht : σ tp = some (.tup cs)) (e : kitAny C.K t cs = some r) (h : Q (.bool r) σ) : W C b (call (.builtin "isinstance") [x, .ref tp]) σ Q X := by
  intro A s P E o p _
  obtain ⟨H, Z, hH, ne⟩ := k.use o.good
  obtain ⟨n, hn⟩ := o.good.at_ _ _ ht
  exact wpAny_tk (kia_tup Z o.good.kin hH hn e ne fun tk htk => p _ _ _ (.toks o.good _ htk) h)
end Mine
end
section
open PySem PySem.W PyProof.Rows Builtin
set_option Elab.async false
set_option maxRecDepth 100000
set_option autoImplicit false
set_option linter.unusedVariables false
namespace Mine
variable {C : Cx} {α β : Type} {b : Nat} {σ : AH} {X : Value → AH → Prop}

def fEnv (scope : Scope) (L : Addr) (cells : List (Str × Addr)) (qual : Str) (f : Addr) (code : Value) : Env :=
  { scope, locals := L, globals := mainGlobals, cells, qual, func := some f, code, frame := some L, builtins := builtinsNs }

theorem withCells_mono {binds : List (Str × Value)} : ∀ (ns : List Str) (τ : AH) (acc : List (Str × Addr)) {P P' : AH → List (Str × Addr) → Prop}, (∀ a c, P a c → P' a c) → WithCells binds ns τ acc P → WithCells binds ns τ acc P' := by
  intro ns
  induction ns with
  | nil => intro τ acc P P' h h'; exact h _ _ h'
  | cons n r ih => intro τ acc P P' h h' c hc; exact ih _ _ h (h' c hc)

theorem WK.fn {f : Addr} {oc : Value} {od : Option Addr} {osl : Array (Option Value)} {fd : FuncData} {body : List Stmt} {scope : Scope} {args : Args} {Q : Value → AH → Prop} (ho : C.K.lookup f = some ⟨oc, od, .func fd, osl⟩)
    (hcode : codeIn C.K fd.code fd.qualname = true) (hbody : fd.body = .stmts body) (hsc : fd.scope = scope)
    (h : W C b (bindArgs fd args) σ (fun binds σ₁ => kindsOk scope.names binds = true ∧ ∀ L, σ₁ L = none → WithCells binds (cellNames scope.names) (σ₁.set L (.ns "frame" (localBinds scope.names binds))) [] (fun σ₂ cells =>
      W C b (execs body (fEnv scope L cells (fd.qualname ++ ".<locals>.") f fd.code)) σ₂ (fun fl σ' => Q (retOf fl) (σ'.drop L)) noX)) noX)
    (hgl : fd.globals = mainGlobals := by rfl) (hbi : fd.builtins = builtinsNs := by rfl) (hcl : fd.closure = [] := by rfl)
    (hco : fd.scope.isCoroutine = false := by rfl) (hgen : fd.scope.isGenerator = false := by rfl) (hk : fd.scope.kind = .function := by rfl) (hn : namesOk fd.scope.names = true := by rfl) :
    WK C (b + 2) (.call (.ref f) args) σ (isRet Q) := by
  subst hsc
  refine WK.cut (WK.mono (WK.func (Q := fun v σ' => ∃ L, (∀ c m, σ L ≠ some (.ns c m)) ∧ Q v (σ'.drop L)) ho ?_ hcode hbody hcl hco hgen hk hn) fun fl σ' q => ?_)
  · intro A s P E o p x
    refine h A s P E o (fun binds σ₁ s₁ y q => p _ _ _ y ⟨q.1, fun L hL => withCells_mono _ _ _ (fun τ cells q hLL => ?_) (q.2 L hL)⟩) x
    have : newEnv fd.scope L fd.globals cells (fd.qualname ++ ".<locals>.") (some f) fd.code none fd.builtins = fEnv fd.scope L cells (fd.qualname ++ ".<locals>.") f fd.code := by
      unfold newEnv fEnv; rw [hgl, hbi]
    rw [this]
    refine W.mono q (fun fl σ' q => ⟨L, fun c m e => ?_, q⟩) fun _ _ x => x
    obtain ⟨m', e'⟩ := y.step.ns _ _ _ e
    rw [hL] at e'; cases e'
  · obtain ⟨v, rfl, L, hL, q⟩ := q
    refine ⟨σ'.drop L, ⟨fun a o e => ?_, fun a c m e => ?_⟩, v, rfl, q⟩
    · by_cases h : a = L
      · subst h; rw [AH.drop_self] at e; cases e
      · rwa [AH.drop_ne h] at e
    · exact AH.drop_ne fun h => hL c m (h ▸ e)

/-! what is shown stays shown -/
def Sub (σ σ' : AH) : Prop := ∀ a o, σ a = some o → σ' a = some o
theorem Sub.refl (σ : AH) : Sub σ σ := fun _ _ e => e
theorem Sub.trans {a b c : AH} (x : Sub a b) (y : Sub b c) : Sub a c := fun i o e => y i o (x i o e)
theorem Sub.set {a : Addr} {o : AO} (h : σ a = none) : Sub σ (σ.set a o) := fun _ _ e => AH.set_new h e
theorem Sub.drop {σ' : AH} {L : Addr} (x : Sub σ σ') (h : σ L = none) : Sub σ (σ'.drop L) := fun a o e => by
  rw [AH.drop_ne fun q => by rw [q, h] at e; cases e]; exact x a o e
theorem Sub.none {σ' : AH} {a : Addr} (x : Sub σ σ') (h : σ' a = Option.none) : σ a = Option.none := by
  cases e : σ a with
  | none => rfl
  | some o => rw [x a o e] at h; cases h
def isNs : AO → Bool
  | .ns _ _ => true
  | _ => false
/-- a namespace stored leaves all else -/
theorem AH.setNs {L a : Addr} {c : String} {m m' : List (Str × Value)} {o : AO} (hL : σ L = some (.ns c m)) (ha : σ a = some o) (ho : isNs o = false := by rfl) : (σ.set L (.ns c m')) a = some o := by
  rw [AH.set_ne]; exact ha
  rintro rfl
  rw [hL] at ha; cases ha; cases ho
theorem AH.dropNs {L a : Addr} {c : String} {m : List (Str × Value)} {o : AO} (hL : σ L = some (.ns c m)) (ha : σ a = some o) (ho : isNs o = false := by rfl) : (σ.drop L) a = some o := by
  rw [AH.drop_ne]; exact ha
  rintro rfl
  rw [hL] at ha; cases ha; cases ho
/-- all that is no namespace stays -/
def Keep (L : Addr) (σ σ' : AH) : Prop := ∀ a o, a ≠ L → σ a = some o → σ' a = some o
theorem Keep.refl (L : Addr) (σ : AH) : Keep L σ σ := fun _ _ _ e => e
theorem Keep.sub {L : Addr} {σ' : AH} (x : Sub σ σ') : Keep L σ σ' := fun a o _ e => x a o e
theorem Keep.trans {L : Addr} {a b c : AH} (x : Keep L a b) (y : Keep L b c) : Keep L a c := fun i o h e => y i o h (x i o h e)
theorem Keep.set {L : Addr} {o : AO} : Keep L σ (σ.set L o) := fun a o' h e => by rw [AH.set_ne h]; exact e
theorem Keep.new {L a : Addr} {o : AO} (h : σ a = none) : Keep L σ (σ.set a o) := .sub (.set h)
theorem Keep.get {L a : Addr} {c : String} {m : List (Str × Value)} {o : AO} {σ' : AH} (k : Keep L σ σ') (hL : σ L = some (.ns c m)) (ha : σ a = some o) (ho : isNs o = false := by rfl) : σ' a = some o :=
  k a o (fun q => by subst q; rw [hL] at ha; cases ha; cases ho) ha
/-- the end of a def: what was shown before is shown -/
theorem Keep.end {L : Addr} {σ₀ σ₁ : AH} {o : AO} (k : Keep L (σ₀.set L o) σ₁) (h : σ₀ L = none) : Sub σ₀ (σ₁.drop L) := fun a x e => by
  have : a ≠ L := fun q => by rw [q, h] at e; cases e
  rw [AH.drop_ne this]
  exact k a x this (by rw [AH.set_ne this]; exact e)
end Mine
end
section
open PySem PySem.W PyProof.Rows Builtin
set_option Elab.async false
set_option maxRecDepth 100000
set_option autoImplicit false
set_option linter.unusedVariables false
namespace Mine
variable {C : Cx} {α β : Type} {b : Nat} {σ H : AH} {X : Value → AH → Prop} {L : Addr} {m : List (Str × Value)} {cl : String}

/-- a tree that does not look at the frame -/
theorem W.op {t : Sem α} {o : AO} {Q : α → AH → Prop} (hL : H L = none) (h : W C b t H (fun v H' => H' L = none → Q v (H'.set L o)) noX) (ho : o.fr := by trivial) : W C b t (H.set L o) Q X := W.frame' hL ho h
theorem W.lLocal {env : Env} {x : Str} {v : Value} {Q : Value → AH → Prop} (hv : m.lookup x = some v) (h : Q v (H.set L (.ns cl m))) (hl : env.locals = L := by rfl) (hk : env.scope.kind = .function := by rfl) (hx : env.kindOf x = some .local := by rfl) : W C b (loadName env x) (H.set L (.ns cl m)) Q X :=
  W.loadLocal (by rw [hl]; exact AH.set_self) hv h hk hx
theorem W.lStore {env : Env} {x : Str} {v : Value} {Q : Unit → AH → Prop} (h : Q () (H.set L (.ns cl ((x, v) :: m)))) (hl : env.locals = L := by rfl) (hx : env.kindOf x = some .local := by rfl) (hp : (env.scope.kind == .class || (env.scope.kind == .module && env.locals != env.globals)) = false := by rfl) :
    W C b (storeName env x v) (H.set L (.ns cl m)) Q X :=
  W.storeLocal (by rw [hl]; exact AH.set_self) (by rw [hl, AH.set_set]; exact h) hx hp
theorem W.glob {env : Env} {x : Str} {v : Value} {Q : Value → AH → Prop} (e : nsIn C.K mainGlobals x = some (some v)) (h : Q v σ) (hg : env.globals = mainGlobals := by rfl)
    (hk : env.scope.kind = .function := by rfl) (hl : env.kindOf x = some .globalImplicit := by rfl) : W C b (loadName env x) σ Q X :=
  fun A s P E o p y => W.loadGlob (C := C) (b := b) (mg_of C.kin C.g e) h hg hk hl A s P E o p y
theorem mg_none {K : Frag} {h : Heap} {mg : Str → Option Value} {n : Str} (X : K.In h) (G : h.Ns mainGlobals mg) (e : nsIn K mainGlobals n = some none) : mg n = none := by
  obtain ⟨o, es, ep, ho, hd, _, hf⟩ := G
  unfold nsIn at e
  split at e
  · rename_i c d es' n' sl q
    have := X _ _ q
    rw [ho] at this
    cases this
    cases hd
    split at e
    · cases e
    · rename_i he
      rw [← hf]
      unfold nsFind findBy
      rw [← Array.find?_toList, he]
      rfl
  · cases e
theorem W.builtin {env : Env} {x : Str} {v : Value} {Q : Value → AH → Prop} (e : nsIn C.K mainGlobals x = some none) (hv : bootBuiltins x = some v) (h : Q v σ) (hg : env.globals = mainGlobals := by rfl) (hb : env.builtins = builtinsNs := by rfl)
    (hn : x ≠ "__name__" := by decide) (hk : env.scope.kind = .function := by rfl) (hl : env.kindOf x = some .globalImplicit := by rfl) : W C b (loadName env x) σ Q X :=
  fun A s P E o p y => W.loadBuiltin (C := C) (b := b) (mg_none C.kin C.g e) hv h hg hb hn hk hl A s P E o p y

def Done (L : Addr) (Q : Value → AH → Prop) (fl : Flow) (σ' : AH) : Prop := ∃ m' H', σ' = AH.set H' L (.ns "frame" m') ∧ H' L = none ∧ Q (retOf fl) H'
theorem Done.ret {Q : Value → AH → Prop} {v : Value} (hL : H L = none) (h : Q v H) : Done L Q (.ret v) (H.set L (.ns "frame" m)) := ⟨m, H, rfl, hL, h⟩
theorem Done.next {Q : Value → AH → Prop} (hL : H L = none) (h : Q .none H) : Done L Q .next (H.set L (.ns "frame" m)) := ⟨m, H, rfl, hL, h⟩
/-- a call of a def without cells -/
theorem WK.fn0 {f : Addr} {oc : Value} {od : Option Addr} {osl : Array (Option Value)} {fd : FuncData} {body : List Stmt} {scope : Scope} {args : Args} {binds mm : List (Str × Value)} {qn : Str} {cd : Value} {Q : Value → AH → Prop} (ho : C.K.lookup f = some ⟨oc, od, .func fd, osl⟩)
    (hcode : codeIn C.K fd.code fd.qualname = true) (hbody : fd.body = .stmts body) (hsc : fd.scope = scope) (hqn : fd.qualname = qn) (hcd : fd.code = cd) (hb : bindArgs fd args = pure binds) (hm : localBinds scope.names binds = mm) (hc : cellNames scope.names = []) (hk : kindsOk scope.names binds = true)
    (h : ∀ L, H L = none → W C b (execs body (fEnv scope L [] (qn ++ ".<locals>.") f cd)) (H.set L (.ns "frame" mm)) (Done L Q) noX)
    (hgl : fd.globals = mainGlobals := by rfl) (hbi : fd.builtins = builtinsNs := by rfl) (hcl : fd.closure = [] := by rfl)
    (hco : fd.scope.isCoroutine = false := by rfl) (hgen : fd.scope.isGenerator = false := by rfl) (hk' : fd.scope.kind = .function := by rfl) (hn : namesOk fd.scope.names = true := by rfl) : WK C (b + 2) (.call (.ref f) args) H (isRet Q) := by
  subst hqn hcd
  refine WK.fn ho hcode hbody hsc (W.bind_eq hb ⟨hk, fun L hL => ?_⟩) hgl hbi hcl hco hgen hk' hn
  rw [hc, hm]
  refine W.mono (h L hL) (fun fl σ' q => ?_) fun _ _ x => x
  obtain ⟨m', H', rfl, hn', q⟩ := q
  rw [AH.drop_set hn']
  exact q
/-- with defaults in a tuple -/
theorem WK.fnD {f : Addr} {oc : Value} {od : Option Addr} {osl : Array (Option Value)} {fd : FuncData} {body : List Stmt} {scope : Scope} {args : Args} {binds mm : List (Str × Value)} {qn : Str} {cd : Value} {T : Addr} {o : Obj} {items : Array Value} {n : Nat} {k : Option (Array Value) → Sem (List (Str × Value))} {Q : Value → AH → Prop} (ho : C.K.lookup f = some ⟨oc, od, .func fd, osl⟩)
    (hcode : codeIn C.K fd.code fd.qualname = true) (hbody : fd.body = .stmts body) (hsc : fd.scope = scope) (hqn : fd.qualname = qn) (hcd : fd.code = cd) (hT : C.K.lookup T = some o) (hs : o.data = .seq items n) (h₁ : bindArgs fd args = seqItems? (.ref T) >>= k) (h₂ : k (some items) = pure binds) (hm : localBinds scope.names binds = mm) (hc : cellNames scope.names = []) (hk : kindsOk scope.names binds = true)
    (h : ∀ L, H L = none → W C b (execs body (fEnv scope L [] (qn ++ ".<locals>.") f cd)) (H.set L (.ns "frame" mm)) (Done L Q) noX)
    (hgl : fd.globals = mainGlobals := by rfl) (hbi : fd.builtins = builtinsNs := by rfl) (hcl : fd.closure = [] := by rfl)
    (hco : fd.scope.isCoroutine = false := by rfl) (hgen : fd.scope.isGenerator = false := by rfl) (hk' : fd.scope.kind = .function := by rfl) (hn : namesOk fd.scope.names = true := by rfl) : WK C (b + 2) (.call (.ref f) args) H (isRet Q) := by
  subst hqn hcd
  refine WK.fn ho hcode hbody hsc (W.bind_dflt hT hs h₁ h₂ ⟨hk, fun L hL => ?_⟩) hgl hbi hcl hco hgen hk' hn
  rw [hc, hm]
  refine W.mono (h L hL) (fun fl σ' q => ?_) fun _ _ x => x
  obtain ⟨m', H', rfl, hn', q⟩ := q
  rw [AH.drop_set hn']
  exact q
end Mine
namespace Mine
variable {C : Cx} {α β : Type} {b : Nat} {σ H : AH} {X : Value → AH → Prop} {L : Addr} {m : List (Str × Value)} {cl : String}
theorem W.lCell {env : Env} {x : Str} {c : Addr} {v : Value} {Q : Value → AH → Prop} (hc : env.cells.lookup x = some c) (hv : σ c = some (.cell (some v))) (h : Q v σ) (hk : env.scope.kind = .function) (hl : env.kindOf x = some .cell) : W C b (loadName env x) σ Q X := W.loadCell hc hv h hk hl
theorem W.lFree {env : Env} {x : Str} {c : Addr} {v : Value} {Q : Value → AH → Prop} (hc : env.cells.lookup x = some c) (hv : σ c = some (.cell (some v))) (h : Q v σ) (hk : env.scope.kind = .function) (hl : env.kindOf x = some .free) (hn : (x == ("__classdict__" : Str)) = false) : W C b (loadName env x) σ Q X := W.loadFree hc hv h hk hl hn
/-- a call whose contract does not speak of the frame -/
theorem W.callOp {f : Value} {args : List Value} {kw : List (Str × Value)} {P Q : Value → AH → Prop} {b' : Nat} {o : AO} (h : WCall C b' f args kw H P) (hb : b' ≤ b) (hL : H L = none) (k : ∀ v H', P v H' → H' L = none → Q v (H'.set L o)) (ho : o.fr := by trivial) : W C b (call f args kw) (H.set L o) Q X :=
  W.op hL (W.call_ (WK.mono (WK.more h hb) fun f H' q => let ⟨v, e, q⟩ := q; ⟨v, e, k v H' q⟩)) ho
theorem sub_cut {H' : AH} {a : Addr} {o : AO} (h : H a = none) (x : Sub (H.set a o) H') : Sub H H' := fun i y e => x i y (AH.set_new h e)
end Mine
end
section
open PySem PySem.W PyProof.Rows Builtin
set_option Elab.async false
set_option maxRecDepth 100000
set_option autoImplicit false
set_option linter.unusedVariables false
namespace Mine
variable {C : Cx} {α β : Type} {b : Nat} {σ H : AH} {X : Value → AH → Prop} {L : Addr} {m : List (Str × Value)} {cl : String}

theorem thenNext {rest : List Stmt} {env : Env} {Q : Flow → AH → Prop} (h : W C b (execs rest env) σ Q X) : thenRest C b rest env Q X .next σ := h
theorem thenRet {rest : List Stmt} {env : Env} {Q : Flow → AH → Prop} {v : Value} (h : Q (.ret v) σ) : thenRest C b rest env Q X (.ret v) σ := h
theorem thenCont {rest : List Stmt} {env : Env} {Q : Flow → AH → Prop} (h : Q .cont σ) : thenRest C b rest env Q X .cont σ := h
theorem ifT {c : Bool} {A B : Prop} (e : c = true) (h : A) : (c = true → A) ∧ (c = false → B) := ⟨fun _ => h, fun q => by rw [e] at q; cases q⟩
theorem ifF {c : Bool} {A B : Prop} (e : c = false) (h : B) : (c = true → A) ∧ (c = false → B) := ⟨fun q => (by rw [e] at q; cases q), fun _ => h⟩
theorem ifT' {c : Bool} {A B : Prop} (e : c = true) (h : A) : (c = false → B) ∧ (c = true → A) := ⟨fun q => (by rw [e] at q; cases q), fun _ => h⟩
theorem ifF' {c : Bool} {A B : Prop} (e : c = false) (h : B) : (c = false → B) ∧ (c = true → A) := ⟨fun _ => h, fun q => by rw [e] at q; cases q⟩

theorem subLst {l : Addr} {vs : List Value} {i : Value} {Q : Value → AH → Prop} (hl : σ l = some (.lst vs)) (h : W C b (getItem (.ref l) i) σ Q X) : ∃ T, Ty σ (.ref l) T ∧ GI T ∧ W C b (getItem (.ref l) i) σ Q X := ⟨_, .lst hl, .list, h⟩
theorem subTup {l : Addr} {vs : List Value} {i : Value} {Q : Value → AH → Prop} (hl : σ l = some (.tup vs)) (h : W C b (getItem (.ref l) i) σ Q X) : ∃ T, Ty σ (.ref l) T ∧ GI T ∧ W C b (getItem (.ref l) i) σ Q X := ⟨_, .tup hl, .tuple, h⟩
theorem subDct {l : Addr} {vs : List (Str × Value)} {ep : Nat} {i : Value} {Q : Value → AH → Prop} (hl : σ l = some (.dct vs ep)) (h : W C b (getItem (.ref l) i) σ Q X) : ∃ T, Ty σ (.ref l) T ∧ GI T ∧ W C b (getItem (.ref l) i) σ Q X := ⟨_, .dct hl, .dict, h⟩
theorem subStr {x : Str} {t : Tok} {i : Value} {Q : Value → AH → Prop} (h : W C b (getItem (.str x t) i) σ Q X) : ∃ T, Ty σ (.str x t) T ∧ GI T ∧ W C b (getItem (.str x t) i) σ Q X := ⟨_, .str, .str, h⟩
theorem subRng {l : Addr} {x y z : Int} {i : Value} {Q : Value → AH → Prop} (hl : σ l = some (rangeO x y z)) (h : W C b (getItem (.ref l) i) σ Q X) : ∃ T, Ty σ (.ref l) T ∧ GI T ∧ W C b (getItem (.ref l) i) σ Q X := ⟨_, .pr hl (fun o ⟨_, _, _, e⟩ => by rw [e]), .range, h⟩

theorem kpB {i : String} {vs : List Value} {kw : List (Str × Value)} {Q : Value → AH → Prop} (h : W C b (call (.builtin i) vs kw) σ Q X) : Kp C (.builtin i) σ ∧ W C b (call (.builtin i) vs kw) σ Q X := ⟨Kp.builtin, h⟩
theorem kpT {i : String} {vs : List Value} {kw : List (Str × Value)} {Q : Value → AH → Prop} (h : W C b (call (.type i) vs kw) σ Q X) : Kp C (.type i) σ ∧ W C b (call (.type i) vs kw) σ Q X := ⟨Kp.type, h⟩
theorem kpK {f : Value} {vs : List Value} {kw : List (Str × Value)} {Q : Value → AH → Prop} (hk : keepIn C.K f = true) (h : W C b (call f vs kw) σ Q X) : Kp C f σ ∧ W C b (call f vs kw) σ Q X := ⟨Kp.k hk, h⟩

section
variable {env : Env}
def anyStar : List Expr → Bool
  | [] => false
  | e :: r => isStarred e || anyStar r
theorem loneStar_of : ∀ {args : List Expr} {pos : Pos}, anyStar args = false → loneStar (backTo pos (starEach args env)) = false
  | [], pos, _ => rfl
  | e :: r, pos, h => by
    unfold anyStar at h
    rw [Bool.or_eq_false_iff] at h
    rw [starEach_cons h.1]
    cases r <;> rfl
theorem W.eCall0 {func : Expr} {args : List Expr} {pos : Pos} {Q : Value → AH → Prop} (hp : plainCallee func = true) (hs : anyStar args = false)
    (h : W C b (eval func env) σ (fun f σ₁ => W C b (spliced (backTo pos (starEach args env))) σ₁ (fun vs σ₂ => Kp C f σ₂ ∧ W C b (call f vs []) σ₂ Q X) X) X) : W C b (eval (.Call func args [] pos) env) σ Q X :=
  W.eCall (W.mono h (fun f σ₁ q => W.evalArgs_ (W.mono q (fun vs σ₂ q => W.kws_nil q) fun _ _ x => x) (loneStar_of hs) rfl) fun _ _ x => x) hp
theorem W.eMethod0 {o : Expr} {name : Str} {apos : Pos} {args : List Expr} {pos : Pos} {Q : Value → AH → Prop} (hs : isSuper o = false) (hl : apos.endLine = pos.line) (hst : anyStar args = false)
    (h : W C b (eval o env) σ (fun ov σ₁ => W C b (calleeOf (methodCallForm (args.length + 0) (backTo pos (starEach args env)) []) o env ov name) σ₁ (fun ff σ₂ =>
      W C b (spliced (backTo pos (starEach args env))) σ₂ (fun vs σ₃ => Kp C ff.1 σ₃ ∧ W C b (call ff.1 (ff.2 ++ vs) []) σ₃ Q X) X) X) X) : W C b (eval (.Call (.Attribute o name apos) args [] pos) env) σ Q X :=
  W.eMethod (W.mono h (fun ov σ₁ q => W.mono q (fun ff σ₂ q => W.evalArgs_ (W.mono q (fun vs σ₃ q => W.kws_nil q) fun _ _ x => x) (loneStar_of hst) rfl) fun _ _ x => x) fun _ _ x => x) hs hl
/-- with keywords -/
def kwNames : List Keyword → List Str
  | [] => []
  | ⟨some n, _, _⟩ :: r => n :: kwNames r
  | ⟨none, _, _⟩ :: r => kwNames r
def kwAll : List Keyword → Bool
  | [] => true
  | ⟨some _, _, _⟩ :: r => kwAll r
  | ⟨none, _, _⟩ :: _ => false
theorem kwNames_of : ∀ {kws : List Keyword} {pos : Pos}, kwAll kws = true → (backToKw pos (keywordEach kws env)).filterMap (·.1) = kwNames kws ∧ (backToKw pos (keywordEach kws env)).all (·.1.isSome) = true
  | [], pos, _ => ⟨rfl, rfl⟩
  | ⟨some n, e, p⟩ :: r, pos, h => by
    obtain ⟨h1, h2⟩ := kwNames_of (kws := r) (pos := pos) h
    refine ⟨?_, ?_⟩
    · show n :: (backToKw pos (keywordEach r env)).filterMap (·.1) = n :: kwNames r
      rw [h1]
    · show (true && (backToKw pos (keywordEach r env)).all (·.1.isSome)) = true
      rw [h2]; rfl
  | ⟨none, e, p⟩ :: r, pos, h => by cases h
theorem W.eCallK {func : Expr} {args : List Expr} {kws : List Keyword} {pos : Pos} {Q : Value → AH → Prop} (hp : plainCallee func = true) (hs : anyStar args = false) (hk : kwAll kws = true)
    (h : W C b (eval func env) σ (fun f σ₁ => W C b (spliced (backTo pos (starEach args env))) σ₁ (fun vs σ₂ => W C b (evalAll ((backToKw pos (keywordEach kws env)).map (·.2))) σ₂ (fun ks σ₃ => Kp C f σ₃ ∧ W C b (call f vs ((kwNames kws).zip ks)) σ₃ Q X) X) X) X) : W C b (eval (.Call func args kws pos) env) σ Q X :=
  W.eCall (W.mono h (fun f σ₁ q => W.evalArgs_ (W.mono q (fun vs σ₂ q => W.mono q (fun ks σ₃ q => by rw [(kwNames_of hk).1]; exact q) fun _ _ x => x) fun _ _ x => x) (loneStar_of hs) (kwNames_of hk).2) fun _ _ x => x) hp
theorem W.eMethodK {o : Expr} {name : Str} {apos : Pos} {args : List Expr} {kws : List Keyword} {pos : Pos} {Q : Value → AH → Prop} (hs : isSuper o = false) (hl : apos.endLine = pos.line) (hst : anyStar args = false) (hk : kwAll kws = true)
    (h : W C b (eval o env) σ (fun ov σ₁ => W C b (calleeOf (methodCallForm (args.length + kws.length) (backTo pos (starEach args env)) (backToKw pos (keywordEach kws env))) o env ov name) σ₁ (fun ff σ₂ =>
      W C b (spliced (backTo pos (starEach args env))) σ₂ (fun vs σ₃ => W C b (evalAll ((backToKw pos (keywordEach kws env)).map (·.2))) σ₃ (fun ks σ₄ => Kp C ff.1 σ₄ ∧ W C b (call ff.1 (ff.2 ++ vs) ((kwNames kws).zip ks)) σ₄ Q X) X) X) X) X) : W C b (eval (.Call (.Attribute o name apos) args kws pos) env) σ Q X :=
  W.eMethod (W.mono h (fun ov σ₁ q => W.mono q (fun ff σ₂ q => W.evalArgs_ (W.mono q (fun vs σ₃ q => W.mono q (fun ks σ₄ q => by rw [(kwNames_of hk).1]; exact q) fun _ _ x => x) fun _ _ x => x) (loneStar_of hst) (kwNames_of hk).2) fun _ _ x => x) fun _ _ x => x) hs hl
/-- a function of a module, plainly called -/
theorem W.callFn {f : Value} {args : List Value} {P Q : Value → AH → Prop} {b' : Nat} {o : AO} (hkp : keepIn C.K f = true) (h : WCall C b' f args [] H P) (hb : b' ≤ b) (hL : H L = none) (k : ∀ v H', P v H' → H' L = none → Q v (H'.set L o)) (ho : o.fr) : Kp C f (H.set L o) ∧ W C b (call f args []) (H.set L o) Q X :=
  ⟨Kp.k hkp, W.callOp h hb hL k ho⟩
end

theorem W.globK {K : Frag} {env : Env} {x : Str} {v : Value} {Q : Value → AH → Prop} (hK : C.K = K) (e : nsIn K mainGlobals x = some (some v)) (h : Q v σ) (hg : env.globals = mainGlobals) (hk : env.scope.kind = .function) (hl : env.kindOf x = some .globalImplicit) : W C b (loadName env x) σ Q X := W.glob (by rw [hK]; exact e) h hg hk hl
theorem W.builtinK {K : Frag} {env : Env} {x : Str} {v : Value} {Q : Value → AH → Prop} (hK : C.K = K) (e : nsIn K mainGlobals x = some none) (hv : bootBuiltins x = some v) (h : Q v σ) (hg : env.globals = mainGlobals) (hb : env.builtins = builtinsNs) (hn : x ≠ "__name__") (hk : env.scope.kind = .function) (hl : env.kindOf x = some .globalImplicit) : W C b (loadName env x) σ Q X := W.builtin (by rw [hK]; exact e) hv h hg hb hn hk hl
theorem kpK' {K : Frag} {f : Value} {vs : List Value} {kw : List (Str × Value)} {Q : Value → AH → Prop} (hK : C.K = K) (hk : keepIn K f = true) (h : W C b (call f vs kw) σ Q X) : Kp C f σ ∧ W C b (call f vs kw) σ Q X := ⟨Kp.k (by rw [hK]; exact hk), h⟩
end Mine
namespace Mine
variable {C : Cx} {α β : Type} {b : Nat} {σ H : AH} {X : Value → AH → Prop} {L : Addr} {m : List (Str × Value)} {cl : String}
theorem AH.none_set {a l : Addr} {o o' : AO} (h : (σ.set a o) l = none) : (σ.set a o') l = none := by
  by_cases e : l = a
  · subst e; rw [AH.set_self] at h; cases h
  · rw [AH.set_ne e] at h ⊢; exact h
theorem AH.none_ne {a l : Addr} {o : AO} (h : (σ.set a o) l = none) : l ≠ a := fun e => by subst e; rw [AH.set_self] at h; cases h
theorem AH.none_in {a l : Addr} {o : AO} (h : (σ.set a o) l = none) : σ l = none := by rw [AH.set_ne (AH.none_ne h)] at h; exact h
/-- self within its own __init__ -/
theorem W.setSelf {Cl d x : Addr} {n : Str} {v : Value} {Q : Unit → AH → Prop} (hd : H d = none) (hx : (H.set d (.fs m)) x = none) (hk : setOk C.K Cl n = true) (hz : m.length ≤ 100)
    (h : (H.set d (.fs (putF n v m))) x = none → Q () ((H.set d (.fs (putF n v m))).set x (.inst Cl d))) : W C b (setAttr (.ref x) n v) ((H.set d (.fs m)).set x (.inst Cl d)) Q X := by
  have hdx : d ≠ x := Ne.symm (AH.none_ne hx)
  refine W.setOwn AH.set_self (AH.set_new hx AH.set_self) hk hz ?_
  rw [AH.set_comm (Ne.symm hdx), AH.set_set]
  exact h (AH.none_set hx)
def ObjAt (σ : AH) (a Cl : Addr) (m : List (Str × Value)) : Prop := ∃ d, σ a = some (.inst Cl d) ∧ σ d = some (.fs m)
theorem ObjAt.sub {σ σ' : AH} {a Cl : Addr} (h : ObjAt σ a Cl m) (s : Sub σ σ') : ObjAt σ' a Cl m := let ⟨d, h1, h2⟩ := h; ⟨d, s _ _ h1, s _ _ h2⟩
theorem W.getObj {a Cl : Addr} {x : Str} {v : Value} {ex : Bool} {Q : Value → AH → Prop} (ha : ObjAt σ a Cl m) (hx : m.lookup x = some v) (hv : handedIn v = true) (hk : ownOk C.K Cl x = true) (h : Q v σ) : W C b (getAttr (.ref a) x ex) σ Q X :=
  let ⟨d, h1, h2⟩ := ha; W.getOwn h1 h2 hx hv hk h
end Mine
namespace Mine
variable {C : Cx} {α β : Type} {b : Nat} {σ H : AH} {X : Value → AH → Prop} {L : Addr} {m : List (Str × Value)} {cl : String}
theorem W.setSelfK {K : Frag} {Cl d x : Addr} {n : Str} {v : Value} {Q : Unit → AH → Prop} (hK : C.K = K) (hd : H d = none) (hx : (H.set d (.fs m)) x = none) (hL : ((H.set d (.fs m)).set x (.inst Cl d)) L = none) (hk : setOk K Cl n = true) (hz : m.length ≤ 100) {o : AO}
    (h : (H.set d (.fs (putF n v m))) x = none → ((H.set d (.fs (putF n v m))).set x (.inst Cl d)) L = none → Q () (((H.set d (.fs (putF n v m))).set x (.inst Cl d)).set L o)) (ho : o.fr) : W C b (setAttr (.ref x) n v) (((H.set d (.fs m)).set x (.inst Cl d)).set L o) Q X :=
  W.op hL (W.setSelf hd hx (by rw [hK]; exact hk) hz fun h1 h2 => h h1 h2) ho
section
variable {env : Env}
theorem W.eOr2 {e1 e2 : Expr} {pos : Pos} {Q : Value → AH → Prop} (h : W C b (eval e1 env) σ (fun v σ₁ => W C b (truthy v) σ₁ (fun c σ₂ => (c = true → Q v σ₂) ∧ (c = false → W C b (eval e2 env) σ₂ Q X)) X) X) : W C b (eval (.BoolOp .Or [e1, e2] pos) env) σ Q X :=
  W.eBoolOp (W.boolOr (W.mono h (fun v σ₁ q => W.mono q (fun c σ₂ q => ⟨q.1, fun hc => W.boolOp1 (q.2 hc)⟩) fun _ _ x => x) fun _ _ x => x))
theorem W.eAnd2 {e1 e2 : Expr} {pos : Pos} {Q : Value → AH → Prop} (h : W C b (eval e1 env) σ (fun v σ₁ => W C b (truthy v) σ₁ (fun c σ₂ => (c = true → W C b (eval e2 env) σ₂ Q X) ∧ (c = false → Q v σ₂)) X) X) : W C b (eval (.BoolOp .And [e1, e2] pos) env) σ Q X :=
  W.eBoolOp (W.boolAnd (W.mono h (fun v σ₁ q => W.mono q (fun c σ₂ q => ⟨q.2, fun hc => W.boolOp1 (q.1 hc)⟩) fun _ _ x => x) fun _ _ x => x))
theorem W.eAnd3 {e1 e2 e3 : Expr} {pos : Pos} {Q : Value → AH → Prop} (h : W C b (eval e1 env) σ (fun v σ₁ => W C b (truthy v) σ₁ (fun c σ₂ => (c = true → W C b (eval e2 env) σ₂ (fun v' σ₃ => W C b (truthy v') σ₃ (fun c' σ₄ => (c' = true → W C b (eval e3 env) σ₄ Q X) ∧ (c' = false → Q v' σ₄)) X) X) ∧ (c = false → Q v σ₂)) X) X) : W C b (eval (.BoolOp .And [e1, e2, e3] pos) env) σ Q X :=
  W.eBoolOp (W.boolAnd (W.mono h (fun v σ₁ q => W.mono q (fun c σ₂ q => ⟨q.2, fun hc => W.boolAnd (W.mono (q.1 hc) (fun v' σ₃ q => W.mono q (fun c' σ₄ q => ⟨q.2, fun hc => W.boolOp1 (q.1 hc)⟩) fun _ _ x => x) fun _ _ x => x)⟩) fun _ _ x => x) fun _ _ x => x))
end
theorem W.notOp' {v : Value} {Q : Value → AH → Prop} (h : W C b (truthy v) σ (fun c σ₁ => Q (.bool (!c)) σ₁) X) : W C b (unaryOp .Not v) σ Q X := W.notOp h
theorem W.trObj {K : Frag} {a Cl : Addr} {Q : Bool → AH → Prop} (hK : C.K = K) (ha : ObjAt σ a Cl m) (hk : plainTruth K Cl = true) (h : Q true σ) : W C b (truthy (.ref a)) σ Q X :=
  let ⟨d, h1, h2⟩ := ha; W.trInst h1 h2 (by rw [hK]; exact hk) h
theorem W.isInstO {K : Frag} {a Cl : Addr} {c : Value} {r : Bool} {Q : Value → AH → Prop} (hK : C.K = K) (ha : ObjAt σ a Cl m) (hk : instOk K Cl = true) (e : kitOne K (.ref Cl) c = some r) (h : Q (.bool r) σ) : W C b (call (.builtin "isinstance") [.ref a, c]) σ Q X :=
  let ⟨d, h1, h2⟩ := ha; W.isInst (.inst h1 h2 (by rw [hK]; exact hk)) (by rw [hK]; exact e) h
theorem W.isInstV {K : Frag} {x t c : Value} {r : Bool} {Q : Value → AH → Prop} (hK : C.K = K) (k : KX C σ x t) (e : kitOne K t c = some r) (h : Q (.bool r) σ) : W C b (call (.builtin "isinstance") [x, c]) σ Q X := W.isInst k (by rw [hK]; exact e) h
theorem ObjAt.set {a Cl x : Addr} {o : AO} (h : ObjAt σ a Cl m) (hx : σ x = none) : ObjAt (σ.set x o) a Cl m := h.sub (.set hx)
end Mine
namespace Mine
variable {C : Cx} {α β : Type} {b : Nat} {σ H : AH} {X : Value → AH → Prop} {L : Addr} {m : List (Str × Value)} {cl : String}
theorem under3 {T d x : Addr} {f i t : AO} (hd : H d = none) (hx : (H.set d f) x = none) (hT : ((H.set d f).set x i) T = none) : ((H.set d f).set x i).set T t = ((H.set T t).set d f).set x i ∧ (H.set T t) d = none ∧ ((H.set T t).set d f) x = none ∧ H T = none := by
  have h1 : T ≠ x := AH.none_ne hT
  have h2 : T ≠ d := AH.none_ne (AH.none_in hT)
  have h3 : x ≠ d := AH.none_ne hx
  have h4 : H T = none := AH.none_in (AH.none_in hT)
  have h5 : H x = none := AH.none_in hx
  refine ⟨?_, ?_, ?_, h4⟩
  · rw [AH.set_comm (Ne.symm h1), AH.set_comm (Ne.symm h2)]
  · rw [AH.set_ne (Ne.symm h2)]; exact hd
  · rw [AH.set_ne h3, AH.set_ne (Ne.symm h1)]; exact h5
/-- an __init__ that takes any number of values -/
theorem WK.initS {f : Addr} {oc : Value} {od : Option Addr} {osl : Array (Option Value)} {fd : FuncData} {body : List Stmt} {scope : Scope} {args : Args} {binds mm : List (Str × Value)} {qn xn : Str} {cd : Value} {x d Cl : Addr} {rest : List Value} {Q : Value → AH → Prop} (hd : H d = none) (hx : (H.set d (.fs [])) x = none) (ho : C.K.lookup f = some ⟨oc, od, .func fd, osl⟩)
    (hcode : codeIn C.K fd.code fd.qualname = true) (hbody : fd.body = .stmts body) (hsc : fd.scope = scope) (hqn : fd.qualname = qn) (hcd : fd.code = cd) (hb : bindArgs fd args = newTuple rest >>= fun t => pure (binds ++ [(xn, t)])) (hz : rest.length ≤ sizeLine) (hm : ∀ T, localBinds scope.names (binds ++ [(xn, .ref T)]) = (xn, .ref T) :: mm) (hc : cellNames scope.names = []) (hk : ∀ T, kindsOk scope.names (binds ++ [(xn, .ref T)]) = true)
    (h : ∀ T L, H T = none → (H.set T (.tup rest)) d = none → ((H.set T (.tup rest)).set d (.fs [])) x = none → (((H.set T (.tup rest)).set d (.fs [])).set x (.inst Cl d)) L = none → W C b (execs body (fEnv scope L [] (qn ++ ".<locals>.") f cd)) ((((H.set T (.tup rest)).set d (.fs [])).set x (.inst Cl d)).set L (.ns "frame" ((xn, .ref T) :: mm))) (Done L Q) noX)
    (hgl : fd.globals = mainGlobals := by rfl) (hbi : fd.builtins = builtinsNs := by rfl) (hcl : fd.closure = [] := by rfl)
    (hco : fd.scope.isCoroutine = false := by rfl) (hgen : fd.scope.isGenerator = false := by rfl) (hk' : fd.scope.kind = .function := by rfl) (hn : namesOk fd.scope.names = true := by rfl) : WK C (b + 2) (.call (.ref f) args) ((H.set d (.fs [])).set x (.inst Cl d)) (isRet Q) := by
  subst hqn hcd
  refine WK.fn ho hcode hbody hsc (W.bind_star hb (fun T hT => ⟨hk T, fun L hL => ?_⟩) hz) hgl hbi hcl hco hgen hk' hn
  rw [hc, hm T]
  obtain ⟨e, h1, h2, h3⟩ := under3 (t := .tup rest) hd hx hT
  rw [e] at hL ⊢
  refine W.mono (h T L h3 h1 h2 hL) (fun fl σ' q => ?_) fun _ _ x => x
  obtain ⟨m', H', rfl, hn', q⟩ := q
  rw [AH.drop_set hn']
  exact q
/-- a def that takes any number of values behind its own -/
theorem WK.fnS {f : Addr} {oc : Value} {od : Option Addr} {osl : Array (Option Value)} {fd : FuncData} {body : List Stmt} {scope : Scope} {args : Args} {binds mm : List (Str × Value)} {qn xn : Str} {cd : Value} {rest : List Value} {Q : Value → AH → Prop} (ho : C.K.lookup f = some ⟨oc, od, .func fd, osl⟩)
    (hcode : codeIn C.K fd.code fd.qualname = true) (hbody : fd.body = .stmts body) (hsc : fd.scope = scope) (hqn : fd.qualname = qn) (hcd : fd.code = cd) (hb : bindArgs fd args = newTuple rest >>= fun t => pure (binds ++ [(xn, t)])) (hz : rest.length ≤ sizeLine) (hm : ∀ T, localBinds scope.names (binds ++ [(xn, .ref T)]) = (xn, .ref T) :: mm) (hc : cellNames scope.names = []) (hk : ∀ T, kindsOk scope.names (binds ++ [(xn, .ref T)]) = true)
    (h : ∀ T L, H T = none → (H.set T (.tup rest)) L = none → W C b (execs body (fEnv scope L [] (qn ++ ".<locals>.") f cd)) ((H.set T (.tup rest)).set L (.ns "frame" ((xn, .ref T) :: mm))) (Done L Q) noX)
    (hgl : fd.globals = mainGlobals := by rfl) (hbi : fd.builtins = builtinsNs := by rfl) (hcl : fd.closure = [] := by rfl)
    (hco : fd.scope.isCoroutine = false := by rfl) (hgen : fd.scope.isGenerator = false := by rfl) (hk' : fd.scope.kind = .function := by rfl) (hn : namesOk fd.scope.names = true := by rfl) : WK C (b + 2) (.call (.ref f) args) H (isRet Q) := by
  subst hqn hcd
  refine WK.fn ho hcode hbody hsc (W.bind_star hb (fun T hT => ⟨hk T, fun L hL => ?_⟩) hz) hgl hbi hcl hco hgen hk' hn
  rw [hc, hm T]
  refine W.mono (h T L hT hL) (fun fl σ' q => ?_) fun _ _ x => x
  obtain ⟨m', H', rfl, hn', q⟩ := q
  rw [AH.drop_set hn']
  exact q
def TupAt (σ : AH) (v : Value) (vs : List Value) : Prop := ∃ T, v = .ref T ∧ σ T = some (.tup vs)
theorem TupAt.sub {σ σ' : AH} {v : Value} {vs : List Value} (h : TupAt σ v vs) (s : Sub σ σ') : TupAt σ' v vs := let ⟨T, h1, h2⟩ := h; ⟨T, h1, s _ _ h2⟩
end Mine
end
section
open PySem PySem.W PyProof.Rows Builtin
set_option Elab.async false
set_option maxRecDepth 100000
set_option autoImplicit false
set_option linter.unusedVariables false
namespace Mine
variable {C : Cx} {α β : Type} {b : Nat} {σ H : AH} {X : Value → AH → Prop} {L : Addr} {m : List (Str × Value)} {cl : String}

/-- a class's method that takes the class -/
def cmOk (K : Frag) (Cl : Addr) (x : Str) (f : Addr) : Bool := readsIn K Cl (.type "type") && specialIn K (.ref Cl) "__getattribute__" == some (some (.builtin "type.__getattribute__")) &&
  (match findIn K (.ref Cl) x with
    | some (some (.ref p)) => (match recIn K p "classmethod" with | some (.ref f' :: _) => f' == f | _ => false)
    | _ => false)
theorem W.getCM {Cl f p : Addr} {x : Str} {rest : List Value} {ex : Bool} {Q : Value → AH → Prop} (hr : readsIn C.K Cl (.type "type") = true) (hf : findCls C.K (.ref Cl) (.type "type") x = some (.get (.builtin "classmethod.__get__") (.ref p) .none (.ref Cl))) (hp : recIn C.K p "classmethod" = some (.ref f :: rest))
    (h : ∀ q, σ q = none → Q (.ref q) (σ.set q (.raw (methodObj (.ref f) (.ref Cl))))) : W C b (getAttr (.ref Cl) x ex) σ Q X := by
  intro A s P E o p' y
  refine cls_bind o.good.kin hr hf ?_
  refine wpAny_call (cm_get (s := { s with toks := s.toks + 1 }) o.good.kin hp ?_)
  show wpAny _ _ (handedOut _) _ _ _
  rw [handedOut_of rfl]
  refine wpAny_pure ?_
  have z := After.add (t := s.toks + 1) o.good (h' := s.heap.push (methodObj (.ref f) (.ref Cl))) (a := s.heap.objs.size) (o := .raw (methodObj (.ref f) (.ref Cl))) (fun b o' e => Heap.get?_push_of_some _ e) (Nat.le_refl _) (Heap.get?_push_size _ rfl)
  exact p' _ _ _ z.1 (h _ z.2)
theorem W.methCls {Cl : Addr} {x : Str} {pl : Sem Bool} {Q : Value × List Value → AH → Prop} (hg : specialIn C.K (.ref Cl) "__getattribute__" = some (some (.builtin "type.__getattribute__"))) (h : W C b (getAttr (.ref Cl) x) σ (fun v σ' => Q (v, []) σ') X) : W C b (getMethod (.ref Cl) x pl) σ Q X :=
  fun A s P E o p y => method_cls o.good.kin hg (h A s _ _ o (fun v σ' s' yy q => p (v, []) σ' s' yy q) y)
/-- a bound method is called -/
theorem WK.bound {q : Addr} {f self : Value} {args : List Value} {kw : List (Str × Value)} {Q : Flow → AH → Prop} (hq : σ q = some (.raw (methodObj f self))) (h : WK C b (.call f ⟨self :: args, kw⟩) σ Q) : WK C b (.call (.ref q) ⟨args, kw⟩) σ Q :=
  fun A s R o r => method_call (o.good.at_ _ _ hq) (h A s R o r)
theorem W.methCM {K : Frag} {Cl f p : Addr} {x : Str} {rest : List Value} {pl : Sem Bool} {Q : Value × List Value → AH → Prop} (hK : C.K = K) (hr : readsIn K Cl (.type "type") = true) (hg : specialIn K (.ref Cl) "__getattribute__" = some (some (.builtin "type.__getattribute__"))) (hf : findCls K (.ref Cl) (.type "type") x = some (.get (.builtin "classmethod.__get__") (.ref p) .none (.ref Cl))) (hp : recIn K p "classmethod" = some (.ref f :: rest))
    (h : ∀ q, σ q = none → Q (.ref q, []) (σ.set q (.raw (methodObj (.ref f) (.ref Cl))))) : W C b (getMethod (.ref Cl) x pl) σ Q X := by
  subst hK
  exact W.methCls hg (W.getCM hr hf hp h)

/-! a static method through an object -/
def smOk (K : Frag) (Cl : Addr) (x : Str) (p f : Addr) : Bool := findIn K (.ref Cl) "__getattribute__" == some (some (.builtin "object.__getattribute__")) && findIn K (.ref Cl) "__getattr__" == some none && findIn K (.ref Cl) x == some (some (.ref p)) &&
  typeIn K (.ref p) == some (.type "staticmethod") && hasDictIn K Cl && specialIn K (.ref p) "__get__" == some (some (.builtin "staticmethod.__get__")) && takesIn K (.ref p) == some false && (match recIn K p "staticmethod" with | some (.ref f' :: _) => f' == f | _ => false) && !copiedNames.contains x
theorem W.methSM {a Cl p f : Addr} {x : Str} {pl : Sem Bool} {Q : Value × List Value → AH → Prop} (ha : ObjAt σ a Cl m) (hx : m.lookup x = none) (hk : smOk C.K Cl x p f = true) (h : Q (.ref f, []) σ) : W C (b + 1) (getMethod (.ref a) x pl) σ Q X := by
  obtain ⟨d, ha, hd⟩ := ha
  intro A s P E o p' y
  obtain ⟨es, n, fa, e, I⟩ := o.good.inst ha hd
  simp only [smOk, Bool.and_eq_true, beq_iff_eq, Bool.not_eq_true'] at hk
  obtain ⟨⟨⟨⟨⟨⟨⟨⟨k1, k2⟩, k3⟩, k4⟩, k5⟩, k6⟩, k7⟩, k8⟩, k9⟩ := hk
  split at k8
  · rename_i fg rest k10
    have := of_decide_eq_true k8
    subst this
    refine method_usual o.good.kin I k1 k2 k3 (by simp [k4]) ?_
    have fo : findObj C.K Cl (some (dictOf es n)) x = some (.bind (.builtin "staticmethod.__get__") (.ref p)) := by
      obtain ⟨cd, hc, hd'⟩ := any_some k5
      unfold findObj
      rw [hc, Option.bind_some, k3, Option.bind_some]
      have ho : W.ownOf cd (some (dictOf es n)) x = some none := by unfold W.ownOf; rw [if_pos hd']; show lookIn x (dictOf es n) = _; rw [lookIn_dict, fa.getL, hx]
      simp only [k6, Option.bind_some, k7, ho, k9, Bool.false_and, Bool.false_eq_true, if_false]
    refine get_bind o.good.kin I k1 fo k2 (wpAny_call (sm_get (s := { s with toks := s.toks + 1 }) o.good.kin k10 ?_))
    show wpAny _ _ (handedOut _) _ _ _
    rw [handedOut_of rfl]
    exact wpAny_pure (p' _ _ _ (.toks o.good _) h)
  · cases k8

/-! f(*t) -/
section
variable {env : Env}
theorem W.iterable {T id : String} {v : Value} {Q : Bool → AH → Prop} (hT : Ty σ v T) (hl : typeLookup (.type T) "__iter__" = pure (some (.builtin id))) (h : Q false σ) : W C b (notIterableAtAll v) σ Q X := by
  intro A s P E o p x
  unfold notIterableAtAll
  exact wpAny_bind (wpAny_specialOf (hT.is o.good) hl (wpAny_pure (p _ _ _ (.refl o.good) h)))
theorem W.collectTup {t : Addr} {vs : List Value} {Q : List Value → AH → Prop} (ht : σ t = some (.tup vs)) (hz : vs.length ≤ 10000) (h : Q vs σ) : W C b (collect (.ref t)) σ Q X := by
  intro A s P E o p x
  obtain ⟨n, e⟩ := o.good.at_ _ _ ht
  refine wpAny_collect_seq t (.inr rfl) e rfl rfl (fun h' hk => ?_) (by rw [List.size_toArray, sizeLine_eq]; omega)
  exact p _ _ _ (After.keeps (t := s.toks) o.good hk) h
theorem W.argsLone {f : Value} {e : Expr} {p pos : Pos} {Q : Args → AH → Prop} (h : W C b (eval e env) σ (fun v σ₁ => ∃ t vs, v = .ref t ∧ σ₁ t = some (.tup vs) ∧ vs.length ≤ 10000 ∧ Q ⟨vs, []⟩ σ₁) X) :
    W C b (evalArgs f true (backTo pos (starEach [.Starred e p] env)) []) σ Q X := by
  show W C b (evalArgs f true [(true, do let v ← eval e env; standAt pos; pure v)] []) σ Q X
  unfold evalArgs
  refine W.bind_ (W.bind_ (W.mono h (fun v σ₁ q => W.bind_ (W.standAt_ (W.pure_ (W.bind_ (W.pure_ ?_))))) fun _ _ x => x))
  obtain ⟨t, vs, rfl, ht, hz, q⟩ := q
  dsimp only
  refine W.hold ?_
  show W C b ((do
      let kw := ([] : List (Option Str × Sem Value)).filterMap (·.1) |>.zip (← evalAll [])
      let r ← (do
        if ← notIterableAtAll (.ref t) then
          rule "call.star.not-iterable"
          raiseError "TypeError" s!"{← functionStr f} argument after * must be an iterable, not {← typeNameOf (.ref t)}"
        holding (kw.map (·.2)) (collect (.ref t)))
      return ⟨r, kw⟩) : Sem Args) σ₁ Q X
  refine W.bind_ (W.pure_ (W.bind_ (W.bind_ (W.iterable (.tup ht) F.slot_tuple_iter.lookup ?_))))
  simp only [Bool.false_eq_true, if_false]
  refine W.hold (W.collectTup ht hz ?_)
  exact W.pure_ q
theorem W.eCallStar {func e : Expr} {p pos : Pos} {Q : Value → AH → Prop} (hp : plainCallee func = true)
    (h : W C b (eval func env) σ (fun f σ₁ => W C b (eval e env) σ₁ (fun v σ₂ => ∃ t vs, v = .ref t ∧ σ₂ t = some (.tup vs) ∧ vs.length ≤ 10000 ∧ Kp C f σ₂ ∧ W C b (call f vs []) σ₂ Q X) X) X) : W C b (eval (.Call func [.Starred e p] [] pos) env) σ Q X :=
  W.eCall (W.mono h (fun f σ₁ q => W.argsLone q) fun _ _ x => x) hp
end
theorem W.inTupStr {t : Addr} {vs : List Value} {ys : List Str} {x : Str} {u : Tok} {Q : Value → AH → Prop} (ht : σ t = some (.tup vs)) (hv : StrsAre vs ys) (h : Q (.bool (ys.any (· == x))) σ) : W C b (compareOp .In (.str x u) (.ref t)) σ Q X :=
  fun A s P E o p y => in_tuple_strs (IsTup.of o.good ht) (by simpa using hv) (p _ _ _ (.refl o.good) h)
end Mine
namespace Mine
variable {C : Cx} {α β : Type} {b : Nat} {σ H : AH} {X : Value → AH → Prop} {L : Addr} {m : List (Str × Value)} {cl : String}
/-- a value of a document, and its kind -/
def DocV (C : Cx) (σ : AH) (v : Value) (T : String) : Prop := KX C σ v (.type T) ∧ T ∈ ["NoneType", "bool", "int", "str", "list", "dict"]
theorem KX.sub {σ σ' : AH} {v t : Value} (h : KX C σ v t) (s : Sub σ σ') : KX C σ' v t := by
  cases h with
  | none => exact .none
  | bool => exact .bool
  | int => exact .int
  | str => exact .str
  | lst e => exact .lst (s _ _ e)
  | tup e => exact .tup (s _ _ e)
  | dct e => exact .dct (s _ _ e)
  | inst e e' k => exact .inst (s _ _ e) (s _ _ e') k
theorem DocV.sub {σ σ' : AH} {v : Value} {T : String} (h : DocV C σ v T) (s : Sub σ σ') : DocV C σ' v T := ⟨h.1.sub s, h.2⟩
theorem DocV.set {σ : AH} {v : Value} {T : String} {a : Addr} {o : AO} (h : DocV C σ v T) (ha : σ a = none) : DocV C (σ.set a o) v T := h.sub (.set ha)
/-- a property's getter, called -/
theorem W.prop {K : Frag} {a Cl fget : Addr} {x : Str} {ex : Bool} {P Q : Value → AH → Prop} {b' : Nat} {o : AO} (hK : C.K = K) (ha : ObjAt H a Cl m) (hk : propOk K Cl x fget = true) (h : WCall C b' (.ref fget) [.ref a] [] H P) (hb : b' + 2 ≤ b) (hL : H L = none) (hh : ∀ v H', P v H' → handedIn v = true) (k : ∀ v H', P v H' → H' L = none → Q v (H'.set L o)) (ho : o.fr) : W C b (getAttr (.ref a) x ex) (H.set L o) Q X := by
  obtain ⟨d, h1, h2⟩ := ha
  refine W.op hL (W.more (W.getProp h1 h2 (by rw [hK]; exact hk) (WK.mono h fun f H' q => ?_)) hb) ho
  obtain ⟨v, rfl, q⟩ := q
  exact ⟨v, rfl, hh v H' q, fun n => k v H' q n⟩
theorem W.methO {K : Frag} {a Cl f : Addr} {x : Str} {pl : Sem Bool} {Q : Value × List Value → AH → Prop} (hK : C.K = K) (ha : ObjAt σ a Cl m) (hx : m.lookup x = none) (hk : methOk K Cl x f = true) (h : Q (.ref f, [.ref a]) σ) : W C b (getMethod (.ref a) x pl) σ Q X :=
  let ⟨d, h1, h2⟩ := ha; W.methInst h1 h2 hx (by rw [hK]; exact hk) h
theorem W.getO {K : Frag} {a Cl : Addr} {x : Str} {v : Value} {ex : Bool} {Q : Value → AH → Prop} (hK : C.K = K) (ha : ObjAt σ a Cl m) (hx : m.lookup x = some v) (hv : handedIn v = true) (hk : ownOk K Cl x = true) (h : Q v σ) : W C b (getAttr (.ref a) x ex) σ Q X := W.getObj ha hx hv (by rw [hK]; exact hk) h
end Mine
namespace Mine
variable {C : Cx} {α β : Type} {b : Nat} {σ H : AH} {X : Value → AH → Prop} {L : Addr} {m : List (Str × Value)} {cl : String}
theorem W.callOp3 {f : Value} {args : List Value} {kw : List (Str × Value)} {P Q : Value → AH → Prop} {b' : Nat} {d x : Addr} {od ox o : AO} (h : WCall C b' f args kw H P) (hb : b' ≤ b) (hd : H d = none) (hx : (H.set d od) x = none) (hL : ((H.set d od).set x ox) L = none)
    (k : ∀ v H', P v H' → H' d = none → (H'.set d od) x = none → ((H'.set d od).set x ox) L = none → Q v (((H'.set d od).set x ox).set L o)) (hod : od.fr) (hox : ox.fr) (ho : o.fr) : W C b (call f args kw) (((H.set d od).set x ox).set L o) Q X :=
  W.op hL (W.op hx (W.callOp h hb hd (fun v H' p n1 n2 n3 => k v H' p n1 n2 n3) hod) hox) ho
end Mine
end
section
open PySem PySem.W PyProof.Rows Builtin
set_option Elab.async false
set_option maxRecDepth 100000
set_option autoImplicit false
set_option linter.unusedVariables false
namespace Mine
variable {C : Cx} {α β : Type} {b : Nat} {σ H : AH} {X : Value → AH → Prop} {L : Addr} {m : List (Str × Value)} {cl : String}

/-- a call of a def, one of its parameters in a cell -/
theorem WK.fnC {f : Addr} {oc : Value} {od : Option Addr} {osl : Array (Option Value)} {fd : FuncData} {body : List Stmt} {scope : Scope} {args : Args} {binds mm : List (Str × Value)} {qn x : Str} {cd v : Value} {Q : Value → AH → Prop} (ho : C.K.lookup f = some ⟨oc, od, .func fd, osl⟩)
    (hcode : codeIn C.K fd.code fd.qualname = true) (hbody : fd.body = .stmts body) (hsc : fd.scope = scope) (hqn : fd.qualname = qn) (hcd : fd.code = cd) (hb : bindArgs fd args = pure binds) (hm : localBinds scope.names binds = mm) (hc : cellNames scope.names = [x]) (hv : binds.reverse.lookup x = some v) (hk : kindsOk scope.names binds = true)
    (h : ∀ c L, H c = none → (H.set c (.cell (some v))) L = none → W C b (execs body (fEnv scope L [(x, c)] (qn ++ ".<locals>.") f cd)) ((H.set c (.cell (some v))).set L (.ns "frame" mm)) (Done L Q) noX)
    (hgl : fd.globals = mainGlobals := by rfl) (hbi : fd.builtins = builtinsNs := by rfl) (hcl : fd.closure = [] := by rfl)
    (hco : fd.scope.isCoroutine = false := by rfl) (hgen : fd.scope.isGenerator = false := by rfl) (hk' : fd.scope.kind = .function := by rfl) (hn : namesOk fd.scope.names = true := by rfl) : WK C (b + 2) (.call (.ref f) args) H (isRet Q) := by
  subst hqn hcd
  refine WK.fn ho hcode hbody hsc (W.bind_eq hb ⟨hk, fun L hL => ?_⟩) hgl hbi hcl hco hgen hk' hn
  rw [hc, hm]
  intro c hc'
  rw [hv]
  have h1 : c ≠ L := AH.none_ne hc'
  have h2 : H c = none := AH.none_in hc'
  rw [AH.set_comm (Ne.symm h1)]
  refine W.mono (h c L h2 (by rw [AH.set_ne (Ne.symm h1)]; exact hL)) (fun fl σ' q => ?_) fun _ _ x => x
  obtain ⟨m', H', rfl, hn', q⟩ := q
  rw [AH.drop_set hn']
  exact q

section
variable {env : Env}
/-- where a list comprehension with one clause begins its walk -/
def CompAt (C : Cx) (b : Nat) (elt target : Expr) (ifs : List Expr) (scope : Scope) (cs : List (Str × Addr)) (env : Env) (F : Value → AH → Prop) (it : Value) (H₂ : AH) : Prop :=
  ∃ (ι : Type) (st : Addr → ι → AH → (AH → Prop) → Prop) (need : AH → Prop) (n : Nat) (item : Nat → ι → Prop) (at_ : Nat → AH → AH → Prop) (H₀ : AH) (Inv : Nat → List Value → AH → Prop),
    (∀ L', Src C b it target (compEnvC scope cs L' env) ι (st L') need n item at_) ∧ at_ 0 H₀ H₂ ∧ Inv 0 [] H₀ ∧ (∀ i ys H, Inv i ys H → need H ∧ ys.length ≤ 10000) ∧
    (∀ L' i ys H m x, i < n → Inv i ys H → H L' = none → item i x → st L' x (H.set L' (.ns "dict" m)) (fun σ₁ => W C b (tests (compEnvC scope cs L' env) ifs) σ₁ (fun ok σ₂ =>
      (ok = false → ∃ H' m', σ₂ = AH.set H' L' (.ns "dict" m') ∧ H' L' = none ∧ Inv (i + 1) ys H') ∧ (ok = true → W C b (eval elt (compEnvC scope cs L' env)) σ₂ (fun v σ₃ => ∃ H' m', σ₃ = AH.set H' L' (.ns "dict" m') ∧ H' L' = none ∧ Inv (i + 1) (ys ++ [v]) H') noX)) noX)) ∧
    (∀ D ys H, Inv n ys H → H D = none → F (.ref D) (H.set D (.lst ys)))

theorem CompAt.run {elt target iter : Expr} {ifs : List Expr} {scope : Scope} {cs : List (Str × Addr)} {pos : Pos} {F : Value → AH → Prop} {it : Value} {H₂ : AH} {D L' : Addr} (h : CompAt C b elt target ifs scope cs env F it H₂) (hD : H₂ D = none) (hL : (H₂.set D (.lst [])) L' = none) :
    WK C b (.compStart (.ListComp elt [⟨target, iter, ifs, 0⟩] scope pos) 0 it (.ref D) (compEnvC scope cs L' env)) ((H₂.set D (.lst [])).set L' (.ns "dict" [])) (fun _ σ₄ => ∃ H₄ m', σ₄ = AH.set H₄ L' (.ns "dict" m') ∧ H₄ L' = none ∧ F (.ref D) H₄) := by
  obtain ⟨ι, st, need, n, item, at_, H₀, Inv, S, ha, h0, hneed, step, fin⟩ := h
  have hLD : L' ≠ D := AH.none_ne hL
  have hL2 : H₂ L' = none := AH.none_in hL
  obtain ⟨a1, n1⟩ := (S L').grow 0 H₀ H₂ L' (.ns "dict" []) ha hL2
  have hD1 : (H₂.set L' (.ns "dict" [])) D = none := by rw [AH.set_ne (Ne.symm hLD)]; exact hD
  obtain ⟨a2, n2⟩ := (S L').grow 0 _ _ D (.lst []) a1 hD1
  have e : (H₂.set D (.lst [])).set L' (.ns "dict" []) = (H₂.set L' (.ns "dict" [])).set D (.lst []) := AH.set_comm (Ne.symm hLD)
  rw [e]
  have main : WK C b (.compLoop (.ListComp elt [⟨target, iter, ifs, 0⟩] scope pos) 0 it (.ref D) (compEnvC scope cs L' env)) ((H₂.set L' (.ns "dict" [])).set D (.lst [])) (fun _ σ₄ => ∃ H₄ m', σ₄ = AH.set H₄ L' (.ns "dict" m') ∧ H₄ L' = none ∧ F (.ref D) H₄) := by
    refine WK.listSrc (S L') (depth := 0) (gens := [⟨target, iter, ifs, 0⟩]) rfl rfl (fun i ys σ => ∃ H m, σ = AH.set H L' (.ns "dict" m) ∧ H L' = none ∧ Inv i ys H) (fun i ys σ q hDn => ?_) (fun i ys σ q => ?_) (fun i ys σ x hi q hx hDn => ?_) (fun ys σ q hDn => ?_) n 0 [] _ _ (by omega) n2 a2 ⟨H₀, [], rfl, n1, h0⟩
    · obtain ⟨H, m, rfl, hn, q⟩ := q
      exact (S L').needSet _ _ _ ((S L').needSet _ _ _ (hneed _ _ _ q).1 hn) hDn
    · obtain ⟨H, m, rfl, hn, q⟩ := q
      exact (hneed _ _ _ q).2
    · obtain ⟨H, m, rfl, hn, q⟩ := q
      refine (S L').stMono _ _ _ _ (fun σ₁ q => ?_) (step L' i ys H m x hi q hn hx)
      exact W.mono q (fun ok σ₂ q => ⟨q.1, q.2⟩) fun _ _ x => x
    · obtain ⟨H, m, rfl, hn, q⟩ := q
      have h1 : D ≠ L' := AH.none_ne hDn
      exact ⟨H.set D (.lst ys), m, AH.set_comm (Ne.symm h1), by rw [AH.set_ne (Ne.symm h1)]; exact hn, fin D ys H q (AH.none_in hDn)⟩
  exact WK.compStart (g := ⟨target, iter, ifs, 0⟩) (gs := []) rfl rfl rfl rfl rfl (fun _ => rfl) main ((S L').self_ 0 _ _ _ a2 main)

/-- [elt for target in iter if ..] -/
theorem W.eComp {elt target iter : Expr} {ifs : List Expr} {scope : Scope} {pos : Pos} {cs : List (Str × Addr)} {Q : Value → AH → Prop} (hs : ∀ x, foldedSetIterable iter env x = pure x) (hclos : closureFor scope env = pure cs) (hkind : scope.kind = .function)
    (hnames : ∀ x ∈ scope.names, x.2 = .local → scope.names.lookup x.1 = some .local) (hcell : cellNames scope.names = [])
    (h : W C b (eval iter env) σ (fun x σ₁ => ∃ H₁ L o₁, σ₁ = AH.set H₁ L o₁ ∧ o₁.fr ∧ H₁ L = none ∧ W C b (pyIter x) H₁ (CompAt C b elt target ifs scope cs env (fun v H' => H' L = none → Q v (H'.set L o₁))) noX) noX) :
    W C b (eval (.ListComp elt [⟨target, iter, ifs, 0⟩] scope pos) env) σ Q X := by
  rw [eval_ListComp]
  refine W.comp_ (e := .ListComp elt [⟨target, iter, ifs, 0⟩] scope pos) (g := ⟨target, iter, ifs, 0⟩) (gs := []) rfl hs hclos hkind hnames hcell (W.mono h (fun x σ₁ q => ?_) fun _ _ x => x)
  obtain ⟨H₁, L, o₁, rfl, hf, hL, q⟩ := q
  refine W.op hL (W.mono q (fun it H₂ q hL2 => ?_) fun _ _ x => x) hf
  refine W.op hL2 (W.newList_ (hz := Nat.zero_le _) fun D hD hL3 => ?_) hf
  intro L' hL'
  have h1 : L' ≠ L := AH.none_ne hL'
  have h2 : (H₂.set D (.lst [])) L' = none := AH.none_in hL'
  rw [AH.set_comm (Ne.symm h1)]
  refine WK.frame' (by rw [AH.set_ne (Ne.symm h1)]; exact hL3) hf (WK.mono (q.run hD h2) (fun _ σ₄ q n => ?_))
  obtain ⟨H₄, m', rfl, n2, q⟩ := q
  rw [AH.set_comm h1, AH.drop_set (by rw [AH.set_ne h1]; exact n2)]
  exact q (AH.none_in n)
/-- y = [elt for target in iter if ..] -/
theorem W.sAssignComp {elt target iter : Expr} {ifs : List Expr} {scope : Scope} {pos spos ypos : Pos} {y : Str} {cs : List (Str × Addr)} {Q : Flow → AH → Prop} (hsw : swapsWith (.ListComp elt [⟨target, iter, ifs, 0⟩] scope pos) (some (.Name y ypos)) spos.line env = pure true)
    (hs : ∀ x, foldedSetIterable iter env x = pure x) (hclos : closureFor scope env = pure cs) (hkind : scope.kind = .function)
    (hnames : ∀ x ∈ scope.names, x.2 = .local → scope.names.lookup x.1 = some .local) (hcell : cellNames scope.names = []) (hy : env.kindOf y = some .local) (hp : (env.scope.kind == .class || (env.scope.kind == .module && env.locals != env.globals)) = false)
    (h : W C b (eval iter env) σ (fun x σ₁ => ∃ H₁ cl₁ m₁, σ₁ = AH.set H₁ env.locals (.ns cl₁ m₁) ∧ H₁ env.locals = none ∧ W C b (pyIter x) H₁ (CompAt C b elt target ifs scope cs env (fun v H' => H' env.locals = none → Q .next (H'.set env.locals (.ns cl₁ ((y, v) :: m₁))))) noX) noX) :
    W C b (exec (.Assign [.Name y ypos] (.ListComp elt [⟨target, iter, ifs, 0⟩] scope pos) spos) env) σ Q X := by
  rw [exec_Assign_Name_used _ _ _ _ hsw]
  refine W.bind_ (W.standAt_ (W.bind_ ?_))
  show W C b (do let _ ← comprehension (.ListComp elt [⟨target, iter, ifs, 0⟩] scope pos) scope env (firstIterPos [⟨target, iter, ifs, 0⟩] pos) (newList []) (firstAsync [⟨target, iter, ifs, 0⟩]) (firstIter [⟨target, iter, ifs, 0⟩] env) (some (assign (.Name y ypos) env))) σ _ X
  refine W.bind_ (W.mono (Q := fun _ σ' => Q .next σ') ?_ (fun _ σ' q => W.pure_ (W.pure_ q)) fun _ _ x => x)
  refine W.comp_ (e := .ListComp elt [⟨target, iter, ifs, 0⟩] scope pos) (g := ⟨target, iter, ifs, 0⟩) (gs := []) rfl hs hclos hkind hnames hcell (W.mono h (fun x σ₁ q => ?_) fun _ _ x => x)
  obtain ⟨H₁, cl₁, m₁, rfl, hL, q⟩ := q
  refine W.op hL (W.mono q (fun it H₂ q hL2 => ?_) fun _ _ x => x) trivial
  refine W.op hL2 (W.newList_ (hz := Nat.zero_le _) fun D hD hL3 => ?_) trivial
  intro L' hL'
  have h1 : L' ≠ env.locals := AH.none_ne hL'
  have h2 : (H₂.set D (.lst [])) L' = none := AH.none_in hL'
  rw [AH.set_comm (Ne.symm h1)]
  refine WK.frame' (by rw [AH.set_ne (Ne.symm h1)]; exact hL3) trivial (WK.mono (q.run hD h2) (fun _ σ₄ q n => ?_))
  obtain ⟨H₄, m', rfl, n2, q⟩ := q
  refine W.aName (W.lStore (hl := rfl) (hx := hy) (hp := hp) ?_)
  rw [AH.set_comm h1, AH.drop_set (by rw [AH.set_ne h1]; exact n2)]
  exact q (AH.none_in n)

/-! the walks -/
theorem CompAt.enum {elt : Expr} {x y : Str} {px py tp : Pos} {k : Nat} {ifs : List Expr} {scope : Scope} {cs : List (Str × Addr)} {F : Value → AH → Prop} {I J l : Addr} {vs : List Value} {H₀ : AH} (hne : I ≠ J) (hI : H₀ I = none) (hJ : H₀ J = none) (Inv : Nat → List Value → AH → Prop) (h0 : Inv 0 [] H₀)
    (hneed : ∀ i ys H, Inv i ys H → H l = some (.lst vs) ∧ ys.length ≤ 10000)
    (step : ∀ L' i ys H m t v, vs[i]? = some v → Inv i ys H → H L' = none → two C b (compEnvC scope cs L' env) x y (.int (i : Int) t, v) (H.set L' (.ns "dict" m)) (fun σ₁ => W C b (tests (compEnvC scope cs L' env) ifs) σ₁ (fun ok σ₂ =>
      (ok = false → ∃ H' m', σ₂ = AH.set H' L' (.ns "dict" m') ∧ H' L' = none ∧ Inv (i + 1) ys H') ∧ (ok = true → W C b (eval elt (compEnvC scope cs L' env)) σ₂ (fun v σ₃ => ∃ H' m', σ₃ = AH.set H' L' (.ns "dict" m') ∧ H' L' = none ∧ Inv (i + 1) (ys ++ [v]) H') noX)) noX))
    (fin : ∀ D ys H, Inv vs.length ys H → H D = none → F (.ref D) (H.set D (.lst ys))) : CompAt C b elt (.Tuple [.Name x px, .Name y py] k tp) ifs scope cs env F (.ref I) ((H₀.set I (enumO J 0)).set J (listIt l 0)) :=
  ⟨_, _, _, _, _, _, H₀, Inv, fun L' => Src.enum hne, ⟨hI, hJ, rfl⟩, h0, hneed, fun L' i ys H m p hi q hn ⟨t, v, hv, e⟩ => by subst e; exact step L' i ys H m t v hv q hn, fin⟩
theorem CompAt.items {elt : Expr} {x y : Str} {px py tp : Pos} {k : Nat} {ifs : List Expr} {scope : Scope} {cs : List (Str × Addr)} {F : Value → AH → Prop} {I d : Addr} {kvs : List (Str × Value)} {ep : Nat} {H₀ : AH} (hI : H₀ I = none) (Inv : Nat → List Value → AH → Prop) (h0 : Inv 0 [] H₀)
    (hneed : ∀ i ys H, Inv i ys H → H d = some (.dct kvs ep) ∧ ys.length ≤ 10000)
    (step : ∀ L' i ys H m n t v, kvs[i]? = some (n, v) → Inv i ys H → H L' = none → two C b (compEnvC scope cs L' env) x y (.str n t, v) (H.set L' (.ns "dict" m)) (fun σ₁ => W C b (tests (compEnvC scope cs L' env) ifs) σ₁ (fun ok σ₂ =>
      (ok = false → ∃ H' m', σ₂ = AH.set H' L' (.ns "dict" m') ∧ H' L' = none ∧ Inv (i + 1) ys H') ∧ (ok = true → W C b (eval elt (compEnvC scope cs L' env)) σ₂ (fun v σ₃ => ∃ H' m', σ₃ = AH.set H' L' (.ns "dict" m') ∧ H' L' = none ∧ Inv (i + 1) (ys ++ [v]) H') noX)) noX))
    (fin : ∀ D ys H, Inv kvs.length ys H → H D = none → F (.ref D) (H.set D (.lst ys))) : CompAt C b elt (.Tuple [.Name x px, .Name y py] k tp) ifs scope cs env F (.ref I) (H₀.set I (itemIt d 0 kvs.length ep)) :=
  ⟨_, _, _, _, _, _, H₀, Inv, fun L' => Src.items, ⟨hI, rfl⟩, h0, hneed, fun L' i ys H m p hi q hn ⟨n, t, v, hv, e⟩ => by subst e; exact step L' i ys H m n t v hv q hn, fin⟩
theorem CompAt.single {elt target : Expr} {ifs : List Expr} {scope : Scope} {cs : List (Str × Addr)} {F : Value → AH → Prop} {it : Value} {need : AH → Prop} {n : Nat} {item : Nat → Value → Prop} {at_ : Nat → AH → AH → Prop} {H₀ H₂ : AH} (S : ∀ L', Src C b it target (compEnvC scope cs L' env) Value (one C b target (compEnvC scope cs L' env)) need n item at_) (ha : at_ 0 H₀ H₂) (Inv : Nat → List Value → AH → Prop) (h0 : Inv 0 [] H₀)
    (hneed : ∀ i ys H, Inv i ys H → need H ∧ ys.length ≤ 10000)
    (step : ∀ L' i ys H m v, i < n → item i v → Inv i ys H → H L' = none → W C b (assign target (compEnvC scope cs L' env) v) (H.set L' (.ns "dict" m)) (fun _ σ₁ => W C b (tests (compEnvC scope cs L' env) ifs) σ₁ (fun ok σ₂ =>
      (ok = false → ∃ H' m', σ₂ = AH.set H' L' (.ns "dict" m') ∧ H' L' = none ∧ Inv (i + 1) ys H') ∧ (ok = true → W C b (eval elt (compEnvC scope cs L' env)) σ₂ (fun v σ₃ => ∃ H' m', σ₃ = AH.set H' L' (.ns "dict" m') ∧ H' L' = none ∧ Inv (i + 1) (ys ++ [v]) H') noX)) noX) noX)
    (fin : ∀ D ys H, Inv n ys H → H D = none → F (.ref D) (H.set D (.lst ys))) : CompAt C b elt target ifs scope cs env F it H₂ :=
  ⟨_, _, _, _, _, _, H₀, Inv, S, ha, h0, hneed, fun L' i ys H m v hi q hn hv => step L' i ys H m v hi hv q hn, fin⟩
theorem W.tests_nil {Q : Bool → AH → Prop} (h : Q true σ) : W C b (tests env []) σ Q X := W.pure_ h
theorem W.tests_one {e : Expr} {Q : Bool → AH → Prop} (h : W C b (isTrue e env (eval e env)) σ Q X) : W C b (tests env [e]) σ Q X := by
  unfold tests
  rw [List.forIn_cons]
  simp only [if_true]
  refine W.bind_ (W.bind_ (W.mono h (fun ok σ' q => W.pure_ ?_) fun _ _ x => x))
  dsimp only
  rw [List.forIn_nil]
  exact W.pure_ q
end
end Mine
namespace Mine
variable {C : Cx} {α β : Type} {b : Nat} {σ H : AH} {X : Value → AH → Prop} {L : Addr} {m : List (Str × Value)} {cl : String}
theorem twoI {env : Env} {x y : Str} {u v : Value} {Q : AH → Prop} (h : W C b (bindName env x u) σ (fun _ σ' => W C b (bindName env y v) σ' (fun _ σ'' => Q σ'') noX) noX) : two C b env x y (u, v) σ Q := h
theorem oneI {env : Env} {t : Expr} {v : Value} {Q : AH → Prop} (h : W C b (assign t env v) σ (fun _ σ' => Q σ') noX) : one C b t env v σ Q := h
end Mine
namespace Mine
theorem sub_get {σ σ' : AH} {a : Addr} {o : AO} (h : Sub σ σ') (e : σ a = some o) : σ' a = some o := h _ _ e
end Mine
end
section
open PySem PySem.W PyProof.Rows Builtin
set_option Elab.async false
set_option maxRecDepth 100000
set_option autoImplicit false
set_option linter.unusedVariables false
namespace Mine
variable {C : Cx} {α β : Type} {b : Nat} {σ H : AH} {X : Value → AH → Prop} {L : Addr} {m : List (Str × Value)} {cl : String}
theorem W.cStore {env : Env} {x : Str} {c : Addr} {v : Value} {v₀ : Option Value} {o : AO} {Q : Unit → AH → Prop} (hc : env.cells.lookup x = some c) (hv : H c = some (.cell v₀)) (hL : H L = none) (hk : env.scope.kind = .function) (hl : env.kindOf x = some .cell)
    (h : (H.set c (.cell (some v))) L = none → Q () ((H.set c (.cell (some v))).set L o)) : W C b (storeName env x v) (H.set L o) Q X := by
  have hcL : c ≠ L := fun e => by subst e; rw [hL] at hv; cases hv
  refine W.storeCell hc (by rw [AH.set_ne hcL]; exact hv) ?_ hk hl
  rw [AH.set_comm (Ne.symm hcL)]
  exact h (by rw [AH.set_ne (Ne.symm hcL)]; exact hL)
theorem subSetC {H₀ H' : AH} {c : Addr} {o : AO} (h : Sub H₀ H') (hc : H₀ c = none) : Sub H₀ (H'.set c o) := fun a x e => by
  rw [AH.set_ne (fun q => by rw [q, hc] at e; cases e)]; exact h a x e
end Mine
namespace Mine
variable {C : Cx} {σ σ' H : AH} {m : List (Str × Value)}
def AO.isCell : AO → Bool
  | .cell _ => true
  | _ => false
def KeepC (σ σ' : AH) : Prop := ∀ a o, σ a = some o → o.isCell = false → σ' a = some o
theorem KeepC.set {c : Addr} {v : Option Value} {o : AO} (h : σ c = some (.cell v)) : KeepC σ (σ.set c o) := fun a o' e n => by
  rw [AH.set_ne]; exact e
  rintro rfl
  rw [h] at e; cases e; cases n
theorem ObjAt.kc {a Cl : Addr} (h : ObjAt σ a Cl m) (k : KeepC σ σ') : ObjAt σ' a Cl m := let ⟨d, h1, h2⟩ := h; ⟨d, k _ _ h1 rfl, k _ _ h2 rfl⟩
theorem TupAt.kc {v : Value} {vs : List Value} (h : TupAt σ v vs) (k : KeepC σ σ') : TupAt σ' v vs := let ⟨T, h1, h2⟩ := h; ⟨T, h1, k _ _ h2 rfl⟩
theorem KX.kc {v t : Value} (h : KX C σ v t) (s : KeepC σ σ') : KX C σ' v t := by
  cases h with
  | none => exact .none
  | bool => exact .bool
  | int => exact .int
  | str => exact .str
  | lst e => exact .lst (s _ _ e rfl)
  | tup e => exact .tup (s _ _ e rfl)
  | dct e => exact .dct (s _ _ e rfl)
  | inst e e' k => exact .inst (s _ _ e rfl) (s _ _ e' rfl) k
theorem DocV.kc {v : Value} {T : String} (h : DocV C σ v T) (k : KeepC σ σ') : DocV C σ' v T := ⟨h.1.kc k, h.2⟩
theorem DocV.lst {l : Addr} {vs : List Value} (h : σ l = some (.lst vs)) : DocV C σ (.ref l) "list" := ⟨.lst h, by simp⟩
theorem DocV.dct {l : Addr} {vs : List (Str × Value)} {ep : Nat} (h : σ l = some (.dct vs ep)) : DocV C σ (.ref l) "dict" := ⟨.dct h, by simp⟩
end Mine
namespace Mine
variable {C : Cx} {α β : Type} {b : Nat} {σ H : AH} {X : Value → AH → Prop} {L : Addr} {m : List (Str × Value)} {cl : String}
theorem WK.meetsIn {T : String} {name : Str} {id : String} {B : Builtin} {self : Value} {rest : List Value} {Q : Value → AH → Prop} (slot : Slot T name id) (hT : Ty σ self T) (entry : entryFor table id = some B) (args : argsOk id ⟨self :: rest, []⟩)
    (h : ∀ (A : Around) (s : Shared) (R : Result → Shared → Prop), Ok C b A σ s → (∀ v σ' s', After C σ s σ' s' → Q v σ' → R (.ok (.ret v)) s') → ∃ S, MeetsIn C.prog C.w (B ⟨self :: rest, []⟩) S ∧ S A R s) : WCall C b (.builtin id) (self :: rest) [] σ Q := by
  intro A s R o r
  obtain ⟨S, g, hS⟩ := h A s R o fun v σ' s' y q => r _ σ' s' y ⟨v, rfl, q⟩
  exact codeAny_call_builtin slot.plain entry (slot.check _ _ _ _ _ _ _ _ (hT.is o.good) args (g A R s hS))
theorem W.dictItems {d : Addr} {kvs : List (Str × Value)} {ep : Nat} {Q : Value → AH → Prop} (hd : σ d = some (.dct kvs ep)) (h : ∀ v, σ v = none → Q (.ref v) (σ.set v (itemsV d))) : W C b (call (.builtin "dict.items") [.ref d] []) σ Q X := by
  refine W.call_ (WK.meetsIn F.slot_dict_items (.dct hd) F.entry_dict_items (F.args_dict_items_1 _) fun A s R o r => ?_)
  have hm := o.good.at_ _ _ hd
  refine ⟨_, meets_dict_items (strKind C.prog C.w) d hm.2, ⟨kvs, hm.1.dictOf⟩, ?_⟩
  have z := After.add (t := s.toks) o.good (a := s.heap.objs.size) (o := itemsV d) (fun b o' e => Heap.get?_push_of_some _ e) (Nat.le_refl _) ⟨{ cls := .type "dict_items", data := .fields #[.ref d] }, Heap.get?_push_size _ rfl, ⟨rfl, rfl⟩, by simp, by simp⟩
  exact r _ _ _ z.1 (h _ z.2)
theorem mItems {d : Addr} {kvs : List (Str × Value)} {ep : Nat} {pl : Sem Bool} {Q : Value × List Value → AH → Prop} (hd : σ d = some (.dct kvs ep)) (h : Q (.builtin "dict.items", [.ref d]) σ) : W C b (getMethod (.ref d) (Str.ofString "items") pl) σ Q X :=
  W.methB (.dct hd) F.plainAttrs_dict F.slot_dict_items F.type_dict_items (noOwnDict.dct hd) h
theorem mAppend {d : Addr} {vs : List Value} {pl : Sem Bool} {Q : Value × List Value → AH → Prop} (hd : σ d = some (.lst vs)) (h : Q (.builtin "list.append", [.ref d]) σ) : W C b (getMethod (.ref d) (Str.ofString "append") pl) σ Q X :=
  W.methB (.lst hd) F.plainAttrs_list F.slot_list_append F.type_list_append (noOwnDict.lst hd) h
theorem mPop {d : Addr} {vs : List Value} {pl : Sem Bool} {Q : Value × List Value → AH → Prop} (hd : σ d = some (.lst vs)) (h : Q (.builtin "list.pop", [.ref d]) σ) : W C b (getMethod (.ref d) (Str.ofString "pop") pl) σ Q X :=
  W.methB (.lst hd) F.plainAttrs_list F.slot_list_pop F.type_list_pop (noOwnDict.lst hd) h
theorem mExtend {d : Addr} {vs : List Value} {pl : Sem Bool} {Q : Value × List Value → AH → Prop} (hd : σ d = some (.lst vs)) (h : Q (.builtin "list.extend", [.ref d]) σ) : W C b (getMethod (.ref d) (Str.ofString "extend") pl) σ Q X :=
  W.methB (.lst hd) F.plainAttrs_list F.slot_list_extend F.type_list_extend (noOwnDict.lst hd) h
theorem mReverse {d : Addr} {vs : List Value} {pl : Sem Bool} {Q : Value × List Value → AH → Prop} (hd : σ d = some (.lst vs)) (h : Q (.builtin "list.reverse", [.ref d]) σ) : W C b (getMethod (.ref d) (Str.ofString "reverse") pl) σ Q X :=
  W.methB (.lst hd) F.plainAttrs_list F.slot_list_reverse F.type_list_reverse (noOwnDict.lst hd) h
end Mine
namespace Mine
theorem lookHere {x : Str} {v : Value} {m : List (Str × Value)} : List.lookup x ((x, v) :: m) = some v := by simp
theorem lookThere {x y : Str} {v w : Value} {m : List (Str × Value)} (h : (x == y) = false) (r : List.lookup x m = some w) : List.lookup x ((y, v) :: m) = some w := by
  rw [List.lookup_cons, h]; exact r
end Mine
end
section
open PySem PySem.W PyProof.Rows Builtin
set_option Elab.async false
set_option maxRecDepth 100000
set_option autoImplicit false
set_option linter.unusedVariables false
namespace Mine
variable {C : Cx} {σ σ' : AH}

/-- a document -/
inductive Doc where
  | num (i : Int)
  | txt (x : Str)
  | tru
  | nil
  | row (n : Nat) (kid : Nat → Doc)
  | fld (n : Nat) (key : Nat → Str) (kid : Nat → Doc)

/-- this value is this document -/
inductive DocAt (σ : AH) : Value → Doc → Prop
  | num {i t} : DocAt σ (.int i t) (.num i)
  | txt {x t} : DocAt σ (.str x t) (.txt x)
  | tru : DocAt σ (.bool true) .tru
  | nil : DocAt σ .none .nil
  | row {l vs n kid} : σ l = some (.lst vs) → vs.length = n → (∀ i v, vs[i]? = some v → DocAt σ v (kid i)) → DocAt σ (.ref l) (.row n kid)
  | fld {l kvs ep n key kid} : σ l = some (.dct kvs ep) → kvs.length = n → (∀ (i : Nat) (k : Str) (v : Value), kvs[i]? = some (k, v) → k = key i) → (∀ (i : Nat) (k : Str) (v : Value), kvs[i]? = some (k, v) → DocAt σ v (kid i)) → DocAt σ (.ref l) (.fld n key kid)
theorem DocAt.sub {v : Value} {d : Doc} (h : DocAt σ v d) (k : Sub σ σ') : DocAt σ' v d := by
  induction h with
  | num => exact .num
  | txt => exact .txt
  | tru => exact .tru
  | nil => exact .nil
  | row h1 h2 _ ih => exact .row (k _ _ h1) h2 ih
  | fld h1 h2 h3 _ ih => exact .fld (k _ _ h1) h2 h3 ih

def Doc.kind : Doc → String
  | .num _ => "int"
  | .txt _ => "str"
  | .tru => "bool"
  | .nil => "NoneType"
  | .row _ _ => "list"
  | .fld _ _ _ => "dict"
theorem DocAt.docV {v : Value} {d : Doc} (h : DocAt σ v d) : DocV C σ v d.kind := by
  cases h with
  | num => exact ⟨.int, by simp [Doc.kind]⟩
  | txt => exact ⟨.str, by simp [Doc.kind]⟩
  | tru => exact ⟨.bool, by simp [Doc.kind]⟩
  | nil => exact ⟨.none, by simp [Doc.kind]⟩
  | row h1 _ _ => exact .lst h1
  | fld h1 _ _ _ => exact .dct h1

/-- no deeper than this, no node wider than three, no name twice -/
inductive Fit : Nat → Doc → Prop
  | num {m i} : Fit m (.num i)
  | txt {m x} : Fit m (.txt x)
  | tru {m} : Fit m .tru
  | nil {m} : Fit m .nil
  | row {m n kid} : n ≤ 3 → (∀ i, i < n → Fit m (kid i)) → Fit (m + 1) (.row n kid)
  | fld {m n key kid} : n ≤ 3 → (∀ i j, i < n → j < n → key i = key j → i = j) → (∀ i, i < n → Fit m (kid i)) → Fit (m + 1) (.fld n key kid)
theorem Fit.up {m m' : Nat} {d : Doc} (h : Fit m d) (k : m ≤ m') : Fit m' d := by
  induction h generalizing m' with
  | num => exact .num
  | txt => exact .txt
  | tru => exact .tru
  | nil => exact .nil
  | row h1 h2 ih => obtain ⟨q, rfl⟩ : ∃ q, m' = q + 1 := ⟨m' - 1, by omega⟩; exact .row h1 fun i hi => ih i hi (by omega)
  | fld h1 h2 h3 ih => obtain ⟨q, rfl⟩ : ∃ q, m' = q + 1 := ⟨m' - 1, by omega⟩; exact .fld h1 h2 fun i hi => ih i hi (by omega)

/-- what stands at these places -/
def Doc.sub : Doc → List Nat → Option Doc
  | d, [] => some d
  | .row n kid, i :: ps => if i < n then (kid i).sub ps else none
  | .fld n _ kid, i :: ps => if i < n then (kid i).sub ps else none
  | _, _ :: _ => none
theorem Doc.sub_app {d d' : Doc} {ps qs : List Nat} (h : d.sub ps = some d') : d.sub (ps ++ qs) = d'.sub qs := by
  induction ps generalizing d with
  | nil => simp only [Doc.sub] at h; cases h; rfl
  | cons i ps ih =>
    cases d with
    | row n kid =>
      simp only [Doc.sub, List.cons_append] at h ⊢
      by_cases hi : i < n
      · rw [if_pos hi] at h ⊢; exact ih h
      · rw [if_neg hi] at h; cases h
    | fld n key kid =>
      simp only [Doc.sub, List.cons_append] at h ⊢
      by_cases hi : i < n
      · rw [if_pos hi] at h ⊢; exact ih h
      · rw [if_neg hi] at h; cases h
    | _ => simp [Doc.sub] at h
theorem Fit.sub {m : Nat} {d d' : Doc} {ps : List Nat} (h : Fit m d) (e : d.sub ps = some d') : ∃ q, q + ps.length = m ∧ Fit q d' ∨ (d' = d ∧ ps = []) := by
  induction ps generalizing m d with
  | nil => simp only [Doc.sub] at e; cases e; exact ⟨m, .inr ⟨rfl, rfl⟩⟩
  | cons i ps ih =>
    cases h with
    | @row m n kid h1 h2 =>
      simp only [Doc.sub] at e
      by_cases hi : i < n
      · rw [if_pos hi] at e
        obtain ⟨q, h⟩ := ih (h2 i hi) e
        rcases h with ⟨h3, h4⟩ | ⟨h3, h4⟩
        · exact ⟨q, .inl ⟨by simp; omega, h4⟩⟩
        · subst h3 h4; exact ⟨m, .inl ⟨by simp, h2 i hi⟩⟩
      · rw [if_neg hi] at e; cases e
    | @fld m n key kid h1 hk h2 =>
      simp only [Doc.sub] at e
      by_cases hi : i < n
      · rw [if_pos hi] at e
        obtain ⟨q, h⟩ := ih (h2 i hi) e
        rcases h with ⟨h3, h4⟩ | ⟨h3, h4⟩
        · exact ⟨q, .inl ⟨by simp; omega, h4⟩⟩
        · subst h3 h4; exact ⟨m, .inl ⟨by simp, h2 i hi⟩⟩
      · rw [if_neg hi] at e; cases e
    | _ => simp [Doc.sub] at e
theorem Fit.at_ {m : Nat} {d d' : Doc} {ps : List Nat} (h : Fit m d) (e : d.sub ps = some d') : ps.length ≤ m ∧ Fit (m - ps.length) d' := by
  obtain ⟨q, h⟩ := h.sub e
  rcases h with ⟨h1, h2⟩ | ⟨rfl, rfl⟩
  · exact ⟨by omega, by rw [show m - ps.length = q by omega]; exact h2⟩
  · simpa using h

/-- how many things a document is -/
def Doc.size : Doc → Nat
  | .row n kid => 1 + ((List.range n).map fun i => (kid i).size).sum
  | .fld n _ kid => 1 + ((List.range n).map fun i => (kid i).size).sum
  | _ => 1
/-- the places of all things below, level within level -/
def Doc.all : Doc → List (List Nat)
  | .row n kid => ((List.range n).map fun i => [i]) ++ (List.range n).flatMap fun i => (kid i).all.map (i :: ·)
  | .fld n _ kid => ((List.range n).map fun i => [i]) ++ (List.range n).flatMap fun i => (kid i).all.map (i :: ·)
  | _ => []
/-- how many things stand in it -/
def Doc.width : Doc → Nat
  | .row n _ => n
  | .fld n _ _ => n
  | _ => 0
def Doc.kids : Doc → Nat → Doc
  | .row _ kid => kid
  | .fld _ _ kid => kid
  | d => fun _ => d
theorem Doc.all_eq (d : Doc) : d.all = ((List.range d.width).map fun i => [i]) ++ (List.range d.width).flatMap fun i => (d.kids i).all.map (i :: ·) := by
  cases d <;> rfl
theorem Doc.size_eq (d : Doc) : d.size = 1 + ((List.range d.width).map fun i => (d.kids i).size).sum := by
  cases d <;> rfl
theorem Doc.sub_one {d : Doc} {i : Nat} (h : i < d.width) : d.sub [i] = some (d.kids i) := by
  cases d <;> simp_all [Doc.width, Doc.sub, Doc.kids]
theorem Fit.width {m : Nat} {d : Doc} (h : Fit m d) : d.width ≤ 3 := by
  cases h <;> simp [Doc.width] <;> assumption
theorem Fit.kid {m : Nat} {d : Doc} (h : Fit m d) {i : Nat} (hi : i < d.width) : 0 < m ∧ Fit (m - 1) (d.kids i) := by
  cases h with
  | row h1 h2 => exact ⟨by omega, h2 i hi⟩
  | fld h1 h2 h3 => exact ⟨by omega, h3 i hi⟩
  | _ => simp [Doc.width] at hi
def bound : Nat → Nat
  | 0 => 1
  | m + 1 => 1 + 3 * bound m
theorem sum_le {f : Nat → Nat} {n B : Nat} (h : ∀ i, i < n → f i ≤ B) : ((List.range n).map f).sum ≤ n * B := by
  induction n with
  | zero => simp
  | succ n ih =>
    rw [List.range_succ, List.map_append, List.sum_append]
    have := ih fun i hi => h i (by omega)
    have h9 := h n (by omega)
    simp only [List.map_cons, List.map_nil, List.sum_cons, List.sum_nil]
    rw [Nat.succ_mul]; omega
theorem Fit.size_le {m : Nat} {d : Doc} (h : Fit m d) : d.size ≤ bound m := by
  induction m generalizing d with
  | zero =>
    rw [Doc.size_eq]
    have : d.width = 0 := by
      rcases Nat.eq_zero_or_pos d.width with q | q
      · exact q
      · have := (h.kid q).1; omega
    rw [this]; simp [bound]
  | succ m ih =>
    rw [Doc.size_eq]
    have h1 := sum_le (f := fun i => (d.kids i).size) (n := d.width) (B := bound m) fun i hi => ih (by simpa using (h.kid hi).2)
    have h2 := h.width
    have : d.width * bound m ≤ 3 * bound m := Nat.mul_le_mul_right _ h2
    show _ ≤ 1 + 3 * bound m
    omega

/-- the value that stands for a step at a place -/
def Doc.stepV (d : Doc) (i : Nat) (v : Value) : Prop := match d with
  | .row _ _ => ∃ t, v = .int (i : Int) t
  | .fld _ key _ => ∃ t, v = .str (key i) t
  | _ => False
/-- the values that stand for an address -/
inductive AddrV : Doc → List Nat → List Value → Prop
  | nil {d} : AddrV d [] []
  | cons {d i v ps vs} : i < d.width → d.stepV i v → AddrV (d.kids i) ps vs → AddrV d (i :: ps) (v :: vs)
theorem AddrV.len {d : Doc} {ps : List Nat} {vs : List Value} (h : AddrV d ps vs) : vs.length = ps.length := by
  induction h with
  | nil => rfl
  | cons _ _ _ ih => simp [ih]
theorem AddrV.sub {d : Doc} {ps : List Nat} {vs : List Value} (h : AddrV d ps vs) : ∃ d', d.sub ps = some d' := by
  induction h with
  | nil => exact ⟨_, by simp [Doc.sub]; rfl⟩
  | @cons d i v ps vs h1 h2 h3 ih =>
    obtain ⟨d', e⟩ := ih
    exact ⟨d', by rw [show i :: ps = [i] ++ ps from rfl, Doc.sub_app (Doc.sub_one h1)]; exact e⟩
theorem AddrV.snoc {d d' : Doc} {ps : List Nat} {vs : List Value} {i : Nat} {v : Value} (h : AddrV d ps vs) (e : d.sub ps = some d') (hi : i < d'.width) (hv : d'.stepV i v) : AddrV d (ps ++ [i]) (vs ++ [v]) := by
  induction h with
  | nil => simp only [Doc.sub] at e; cases e; exact .cons hi hv .nil
  | @cons d j u ps vs h1 h2 h3 ih =>
    rw [show j :: ps = [j] ++ ps from rfl, Doc.sub_app (Doc.sub_one h1)] at e
    exact .cons h1 h2 (ih e)

/-- laid at a place -/
def Doc.laid : Doc → List Nat → Doc → Doc
  | _, [], x => x
  | .row n kid, i :: ps, x => .row n fun j => if j = i then (kid j).laid ps x else kid j
  | .fld n key kid, i :: ps, x => .fld n key fun j => if j = i then (kid j).laid ps x else kid j
  | d, _ :: _, _ => d
end Mine
end
section
set_option autoImplicit false
set_option linter.unusedVariables false
namespace Mine
/-- a document's places, itself first, level by level downwards -/
def Doc.pre : Doc → List (List Nat)
  | .row n kid => [] :: (List.range n).flatMap fun i => (kid i).pre.map (i :: ·)
  | .fld n _ kid => [] :: (List.range n).flatMap fun i => (kid i).pre.map (i :: ·)
  | _ => [[]]
theorem Doc.pre_eq (d : Doc) : d.pre = [] :: (List.range d.width).flatMap fun i => (d.kids i).pre.map (i :: ·) := by
  cases d <;> simp [Doc.pre, Doc.width, Doc.kids]
def Doc.preFrom (d : Doc) (ps : List Nat) : List (List Nat) := match d.sub ps with
  | some d' => d'.pre.map (ps ++ ·)
  | none => []
theorem Doc.preFrom_eq {d d' : Doc} {ps : List Nat} (h : d.sub ps = some d') : d.preFrom ps = ps :: (List.range d'.width).flatMap fun i => d.preFrom (ps ++ [i]) := by
  unfold Doc.preFrom
  rw [h]
  dsimp only
  rw [Doc.pre_eq, List.map_cons, List.append_nil, List.map_flatMap]
  congr 1
  have : ∀ i, i < d'.width → List.map (fun x => ps ++ x) (List.map (fun x => i :: x) (d'.kids i).pre) = (match d.sub (ps ++ [i]) with | some d' => d'.pre.map ((ps ++ [i]) ++ ·) | none => []) := by
    intro i hi
    rw [Doc.sub_app h, Doc.sub_one hi]
    dsimp only
    rw [List.map_map]
    congr 1
    funext x
    simp
  have gen : ∀ l : List Nat, (∀ i ∈ l, i < d'.width) → l.flatMap (fun i => List.map (fun x => ps ++ x) (List.map (fun x => i :: x) (d'.kids i).pre)) = l.flatMap (fun i => match d.sub (ps ++ [i]) with | some d' => d'.pre.map ((ps ++ [i]) ++ ·) | none => []) := by
    intro l hl
    induction l with
    | nil => rfl
    | cons i l ih =>
      rw [List.flatMap_cons, List.flatMap_cons, this i (hl i (List.mem_cons_self)), ih fun j hj => hl j (List.mem_cons_of_mem _ hj)]
  exact gen _ fun i hi => by simpa using hi
theorem Doc.pre_len (d : Doc) : d.pre.length = d.size := by
  induction d with
  | row n kid ih =>
    rw [Doc.pre_eq, Doc.size_eq, List.length_cons, List.length_flatMap]
    simp only [List.length_map]
    have : (fun i => ((Doc.row n kid).kids i).pre.length) = fun i => ((Doc.row n kid).kids i).size := funext fun i => ih i
    rw [this]; omega
  | fld n key kid ih =>
    rw [Doc.pre_eq, Doc.size_eq, List.length_cons, List.length_flatMap]
    simp only [List.length_map]
    have : (fun i => ((Doc.fld n key kid).kids i).pre.length) = fun i => ((Doc.fld n key kid).kids i).size := funext fun i => ih i
    rw [this]; omega
  | _ => rfl
/-- what stands one step below a place -/
def Doc.places (d : Doc) (ps : List Nat) : List (List Nat) := match d.sub ps with
  | some d' => (List.range d'.width).map fun i => ps ++ [i]
  | none => []
/-- all things below: what stands below each place, in the order of the places -/
theorem Doc.all_pre (d : Doc) : d.pre.flatMap (fun ps => d.places ps) = d.all := by
  have key : ∀ (d : Doc) (d0 : Doc) (qs : List Nat), d0.sub qs = some d → (d.pre.map (qs ++ ·)).flatMap (fun ps => d0.places ps) = d.all.map (qs ++ ·) := by
    have main : ∀ (d : Doc) (hkid : ∀ i, i < d.width → ∀ (d0 : Doc) (qs : List Nat), d0.sub qs = some (d.kids i) → ((d.kids i).pre.map (qs ++ ·)).flatMap (fun ps => d0.places ps) = (d.kids i).all.map (qs ++ ·)), ∀ (d0 : Doc) (qs : List Nat), d0.sub qs = some d → (d.pre.map (qs ++ ·)).flatMap (fun ps => d0.places ps) = d.all.map (qs ++ ·) := by
      intro d hkid d0 qs h
      rw [Doc.pre_eq, Doc.all_eq, List.map_cons, List.flatMap_cons, List.append_nil, List.map_append, List.map_map, List.map_flatMap, List.map_flatMap]
      congr 1
      · unfold Doc.places; rw [h]; rfl
      · have gen : ∀ l : List Nat, (∀ i ∈ l, i < d.width) → (l.flatMap fun i => List.map (fun x => qs ++ x) (List.map (fun x => i :: x) (d.kids i).pre)).flatMap (fun ps => d0.places ps) = l.flatMap fun i => List.map (fun x => qs ++ x) (List.map (fun x => i :: x) (d.kids i).all) := by
          intro l hl
          induction l with
          | nil => rfl
          | cons i l ih =>
            rw [List.flatMap_cons, List.flatMap_cons, List.flatMap_append, ih fun j hj => hl j (List.mem_cons_of_mem _ hj)]
            congr 1
            have hi := hl i (List.mem_cons_self)
            have := hkid i hi d0 (qs ++ [i]) (by rw [Doc.sub_app h, Doc.sub_one hi])
            rw [List.map_map, List.map_map]
            have e : ((fun x => qs ++ x) ∘ fun x => i :: x) = fun x => (qs ++ [i]) ++ x := by funext x; simp
            rw [e]; exact this
        exact gen _ fun i hi => by simpa using hi
    intro d
    induction d with
    | row n kid ih => exact main _ fun i hi => ih i
    | fld n key kid ih => exact main _ fun i hi => ih i
    | _ => exact main _ fun i hi => by simp [Doc.width] at hi
  have := key d d [] (by simp [Doc.sub])
  simpa using this
end Mine
end
section
open PySem PySem.W PyProof.Rows Builtin
set_option Elab.async false
set_option maxRecDepth 100000
set_option autoImplicit false
set_option linter.unusedVariables false
namespace Mine
variable {C : Cx} {α β : Type} {b : Nat} {σ H : AH} {X : Value → AH → Prop} {L : Addr} {m : List (Str × Value)} {cl : String}

theorem isSeq_iadd : isSeqSlot (some (.builtin "list.__iadd__")) = true := by decide +kernel
theorem W.iaddList {l r : Addr} {vs us : List Value} {Q : Value → AH → Prop} (hl : σ l = some (.lst vs)) (hr : σ r = some (.lst us)) (hz : vs.length + us.length ≤ 10000) (h : Q (.ref l) (σ.set l (.lst (vs ++ us)))) : W C b (inplaceOp .Add (.ref l) (.ref r)) σ Q X := by
  intro A s P E o p _
  obtain ⟨n, e⟩ := o.good.at_ _ _ hl
  obtain ⟨n', e'⟩ := o.good.at_ _ _ hr
  have ha : s.TypeIs (.ref l) "list" := ⟨_, e, rfl⟩
  have hb : s.TypeIs (.ref r) "list" := ⟨_, e', rfl⟩
  unfold inplaceOp
  refine wpAny_holding ?_
  have hfi : fillsInplaceSlot (.type "list") "add" (Operator.Add == .Add) = pure false := by
    unfold fillsInplaceSlot
    show (typeLookup (.type "list") (dunderI "add") >>= fun fi => pure (fi.isSome && !isSeqSlot fi)) = pure false
    rw [F.slot_list_iadd.lookup]
    show (pure (true && !isSeqSlot (some (.builtin "list.__iadd__"))) : Sem Bool) = pure false
    rw [isSeq_iadd]; rfl
  refine wpAny_bind (wpAny_typeOf ha (wpAny_bind (wpAny_of_eq hfi ?_)))
  show wpAny _ A (if false = true then _ else _) _ E s
  rw [if_neg Bool.false_ne_true]
  refine wpAny_bind (wpAny_binaryOp1_none (nm := "add") ha hb PySem.noFill_list_add ?_)
  refine wpAny_bind (wpAny_of_eq (PySem.seqSlot_of F.slot_list_iadd.lookup isSeq_iadd) ?_)
  have hs : vs.toArray.size + us.toArray.size ≤ 10000 := by simp only [List.size_toArray]; exact hz
  refine wpAny_bind (wpAny_rule (call_meets F.slot_list_iadd ha F.entry_list_iadd (F.args_list_iadd_2 _ _) (AutoSeq1.list___iadd___list_list_0 l vs.toArray n r us.toArray n' ?_ (by rw [sizeLine_eq]; omega) (by rw [sizeLine_eq]; omega)) ⟨e, e', ?_⟩))
  · have : Builtin.List.listTooLong (vs.toArray.size + us.toArray.size) = false := by unfold Builtin.List.listTooLong; simp only [decide_eq_false_iff_not]; rw [sizeLine_eq]; omega
    rw [this, Bool.and_false]; decide
  · exact p _ _ _ (lst_upd o.good hl (by simp)) h

/-! what a change of one kind of things keeps -/
def KeepBy (bad : AO → Bool) (σ σ' : AH) : Prop := ∀ a o, σ a = some o → bad o = false → σ' a = some o
def AO.isLst : AO → Bool
  | .lst _ => true
  | _ => false
theorem KeepBy.set {bad : AO → Bool} {c : Addr} {o₀ o : AO} (h : σ c = some o₀) (h0 : bad o₀ = true) : KeepBy bad σ (σ.set c o) := fun a o' e n => by
  rw [AH.set_ne]; exact e
  rintro rfl
  rw [h] at e; cases e; rw [h0] at n; cases n
theorem ObjAt.kl {σ' : AH} {a Cl : Addr} (h : ObjAt σ a Cl m) (k : KeepBy AO.isLst σ σ') : ObjAt σ' a Cl m := let ⟨d, h1, h2⟩ := h; ⟨d, k _ _ h1 rfl, k _ _ h2 rfl⟩
theorem TupAt.kl {σ' : AH} {v : Value} {vs : List Value} (h : TupAt σ v vs) (k : KeepBy AO.isLst σ σ') : TupAt σ' v vs := let ⟨T, h1, h2⟩ := h; ⟨T, h1, k _ _ h2 rfl⟩
end Mine
end
section
open PySem PySem.W PyProof.Rows Builtin
set_option Elab.async false
set_option maxRecDepth 100000
set_option maxHeartbeats 4000000
set_option autoImplicit false
set_option linter.unusedVariables false
namespace Mine
variable {C : Cx} {α β : Type} {b : Nat} {σ H : AH} {X : Value → AH → Prop} {L : Addr} {m : List (Str × Value)} {cl : String}
def cutLo (i k n : Int) : Int := (Builtin.Slice.sliceAdjust (some i) none k n).1
def cutHi (i k n : Int) : Int := (Builtin.Slice.sliceAdjust (some i) none k n).2
theorem meets_range_slice (r sl : Addr) (n i k : Int) (t u v x z : Tok) (hk : ¬ (k == 0) = true) (hlo : ¬ (0 + cutLo i k (Builtin.Range.rangeSize 0 n 1) * 1).natAbs.log2 ≥ bitsLine) (hhi : ¬ (0 + cutHi i k (Builtin.Range.rangeSize 0 n 1) * 1).natAbs.log2 ≥ bitsLine) (hkk : ¬ (1 * k).natAbs.log2 ≥ bitsLine)
    (hp : Builtin.divisionGoesByPylong ((cutHi i k (Builtin.Range.rangeSize 0 n 1) - cutLo i k (Builtin.Range.rangeSize 0 n 1)) * 1) (1 * k) = false) (oo : Obj) (hoc : oo.cls = .type "slice") (hod : oo.data = .fields #[.int i x, .none, .int k z]) :
    Meets (Builtin.«range.__getitem__» ⟨[.ref r, .ref sl], []⟩) (fun _ R s => s.heap.get? r = some { cls := .type "range", dict := none, data := .fields #[.int 0 t, .int n u, .int 1 v], slots := #[] } ∧ s.heap.get? sl = some oo ∧
      R (.ok (.ret (.ref s.heap.objs.size))) { s with heap := s.heap.push { cls := .type "range", data := .fields #[.int (0 + cutLo i k (Builtin.Range.rangeSize 0 n 1) * 1) s.toks, .int (0 + cutHi i k (Builtin.Range.rangeSize 0 n 1) * 1) (s.toks + 1), .int (1 * k) (s.toks + 1 + 1)] }, toks := s.toks + 1 + 1 + 1 }) :=
  .of_wp fun prog w A R s h => by
    obtain ⟨hp', g, d, tk, os⟩ := s
    obtain ⟨hl, hs, h⟩ := h
    have hTs : (Shared.mk hp' g d tk os).TypeIs (.ref sl) "slice" := ⟨_, hs, hoc⟩
    obtain ⟨oc, od, odt, osl⟩ := oo
    dsimp only at hoc hod
    subst hoc hod
    have f1 := PySem.int_index
    wp_walk using (wpAny_roomForPylong (Or.inl hp))
    have hpp : ¬ (Builtin.divisionGoesByPylong (((Builtin.Slice.sliceAdjust (some i) none ((some k).getD 1) (Builtin.Range.rangeSize 0 n 1)).snd - (Builtin.Slice.sliceAdjust (some i) none ((some k).getD 1) (Builtin.Range.rangeSize 0 n 1)).fst) * 1) (1 * (some k).getD 1) = true) := by
      show ¬ (Builtin.divisionGoesByPylong ((cutHi i k (Builtin.Range.rangeSize 0 n 1) - cutLo i k (Builtin.Range.rangeSize 0 n 1)) * 1) (1 * k) = true)
      rw [hp]; decide
    rw [if_neg hpp]
    have g1 : ¬ (0 + (Builtin.Slice.sliceAdjust (some i) none ((some k).getD 1) (Builtin.Range.rangeSize 0 n 1)).fst * 1).natAbs.log2 ≥ bitsLine := hlo
    have g2 : ¬ (0 + (Builtin.Slice.sliceAdjust (some i) none ((some k).getD 1) (Builtin.Range.rangeSize 0 n 1)).snd * 1).natAbs.log2 ≥ bitsLine := hhi
    have g3 : ¬ (1 * (some k).getD 1).natAbs.log2 ≥ bitsLine := hkk
    refine wpAny_pure ?_
    unfold mkIntGrown
    rw [if_neg g1, if_neg g2, if_neg g3]
    refine wpAny_bind (wpAny_mkInt (wpAny_bind (wpAny_mkInt (wpAny_bind (wpAny_mkInt (wpAny_bind (wpAny_newObj_type ?_ (by size_fits))))))))
    exact wpAny_pure ⟨_, rfl, h⟩
end Mine
end
section
open PySem PySem.W PyProof.Rows Builtin
set_option Elab.async false
set_option maxRecDepth 100000
set_option autoImplicit false
set_option linter.unusedVariables false
namespace Mine
variable {C : Cx} {α β : Type} {b : Nat} {σ H : AH} {X : Value → AH → Prop} {L : Addr} {m : List (Str × Value)} {cl : String}
theorem cut_bounds {i k n : Int} (hi : -100 ≤ i ∧ i ≤ 100) (hn : 0 ≤ n ∧ n ≤ 100) : (-1 ≤ cutLo i k n ∧ cutLo i k n ≤ 100) ∧ (-1 ≤ cutHi i k n ∧ cutHi i k n ≤ 100) := by
  unfold cutLo cutHi Builtin.Slice.sliceAdjust
  dsimp only
  by_cases hk : k < 0
  · simp only [hk, if_true]
    refine ⟨⟨?_, ?_⟩, by omega, by omega⟩
    all_goals (split <;> omega)
  · simp only [hk, if_false]
    refine ⟨⟨?_, ?_⟩, by omega, by omega⟩
    all_goals (split <;> omega)
theorem small_bits {x : Int} (h : -1000 ≤ x ∧ x ≤ 1000) : ¬ x.natAbs.log2 ≥ bitsLine := by
  have h1 : x.natAbs ≤ 1000 := by omega
  have h2 : x.natAbs.log2 < 10 := by
    by_cases h0 : x.natAbs = 0
    · rw [h0]; decide
    · exact (Nat.log2_lt h0).mpr (by omega)
  have h3 : 10 ≤ bitsLine := by decide +kernel
  omega
theorem size_zero {n : Int} (h : 0 ≤ n) : Builtin.Range.rangeSize 0 n 1 = n := by
  rw [rangeSize_one]; split <;> omega
/-- a part of a range from 0 -/
theorem W.rangeCut {r sl : Addr} {n i k : Int} {x z : Tok} {Q : Value → AH → Prop} (hr : σ r = some (rangeO 0 n 1)) (hs : σ sl = some (sliceO (.int i x) .none (.int k z))) (hn : 0 ≤ n ∧ n ≤ 100) (hi : -100 ≤ i ∧ i ≤ 100) (hk : -100 ≤ k ∧ k ≤ 100) (hk0 : k ≠ 0)
    (h : ∀ a, σ a = none → Q (.ref a) (σ.set a (rangeO (cutLo i k n) (cutHi i k n) k))) : W C b (getItem (.ref r) (.ref sl)) σ Q X := by
  intro A s P E o p _
  obtain ⟨_, e, ⟨t, u, v, rfl⟩, _⟩ := o.good.at_ _ _ hr
  obtain ⟨oo, e', ⟨hoc, hod⟩, _⟩ := o.good.at_ _ _ hs
  have hb := cut_bounds (k := k) hi hn
  have hT : s.TypeIs (.ref r) "range" := ⟨_, e, rfl⟩
  have hsz := size_zero hn.1
  refine PySem.getItem_meets hT (by decide) F.slot_range_getitem F.entry_range_getitem (F.args_range_getitem_2 _ _) (meets_range_slice r sl n i k t u v x z (by simpa using hk0) (small_bits (by rw [hsz]; omega)) (small_bits (by rw [hsz]; omega)) (small_bits (by omega)) (PyProof.noPylong_small (by omega)) oo hoc hod) ⟨e, e', ?_⟩
  · rw [hsz]
    have e1 : 0 + cutLo i k n * 1 = cutLo i k n := by omega
    have e2 : 0 + cutHi i k n * 1 = cutHi i k n := by omega
    have e3 : 1 * k = k := by omega
    rw [e1, e2, e3]
    have zz := After.add (t := s.toks + 1 + 1 + 1) o.good (h' := s.heap.push { cls := .type "range", data := .fields #[.int (cutLo i k n) s.toks, .int (cutHi i k n) (s.toks + 1), .int k (s.toks + 1 + 1)] }) (a := s.heap.objs.size) (o := rangeO (cutLo i k n) (cutHi i k n) k) (fun b o' e => Heap.get?_push_of_some _ e) (Nat.le_refl _)
      ⟨_, Heap.get?_push_size _ rfl, ⟨_, _, _, rfl⟩, by simp, by simp⟩
    first
      | exact ⟨_, rfl, p _ _ _ zz.1 (h _ zz.2)⟩
      | exact p _ _ _ zz.1 (h _ zz.2)
end Mine
end
section
open PySem PySem.W PyProof.Rows Builtin
set_option Elab.async false
set_option maxRecDepth 100000
set_option autoImplicit false
set_option linter.unusedVariables false
namespace Mine
variable {C : Cx} {α β : Type} {b : Nat} {σ H : AH} {X : Value → AH → Prop} {L : Addr} {m : List (Str × Value)} {cl : String}
section
variable {env : Env}
/-- a try whose suite does not raise -/
theorem W.sTryOk {body orelse : List Stmt} {h₀ : ExceptHandler} {hs : List ExceptHandler} {pos : Pos} {Q : Flow → AH → Prop} (h : W C b (execs body env) σ (fun f σ₁ => match f with | .next => W C b (execs orelse env) σ₁ Q noX | f => Q f σ₁) noX) : W C b (exec (.Try body (h₀ :: hs) orelse [] pos) env) σ Q X := by
  intro A s P E o p x
  refine wpAny_Try_except (h A s _ _ o (fun f σ₁ s₁ y q => ?_) fun e σ' s' y q => q.elim)
  cases f with
  | next => exact q A s₁ _ _ (o.next y) (fun f' σ₂ s₂ y₂ q₂ => p _ _ _ (y.trans y₂) q₂) fun e σ' s' y q => q.elim
  | _ => exact p _ _ _ y q
end
theorem W.isSelf {a : Addr} {Q : Value → AH → Prop} (h : Q (.bool true) σ) : W C b (compareOp .Is (.ref a) (.ref a)) σ Q X := fun A s P E o p _ => by
  show wpAny _ A (do return .bool (← isSame (.ref a) (.ref a))) P E s
  unfold isSame
  simp only [beq_self_eq_true, if_true]
  exact wpAny_bind (wpAny_pure (wpAny_pure (p _ _ _ (.refl o.good) h)))
/-- a thing of a document is no thing of the text -/
theorem W.isText {v : Value} {T : String} {a : Addr} {ob : Obj} {Q : Value → AH → Prop} (hv : DocV C σ v T) (ha : C.K.lookup a = some ob) (h : Q (.bool false) σ) : W C b (compareOp .Is v (.ref a)) σ Q X := fun A s P E o p y => by
  have fin := p _ _ _ (.refl o.good) h
  show wpAny _ A (do return .bool (← isSame v (.ref a))) P E s
  obtain ⟨h1, h2⟩ := hv
  have key : ∀ (l : Addr) (ol : Obj), C.h₁.get? l = none → s.heap.get? l = some ol → ol.cls ≠ .type "tuple" → wpAny (model C.prog C.w) A (do return .bool (← isSame (.ref l) (.ref a))) P E s := by
    intro l ol hn hl hc
    have hne : (l == a) = false := beq_eq_false_iff_ne.mpr fun e => by subst e; rw [C.kin _ _ ha] at hn; cases hn
    unfold isSame
    simp only [hne, Bool.false_eq_true, if_false]
    refine wpAny_bind (wpAny_bind (wpAny_load hl (wpAny_bind (wpAny_load (o.good.kin _ _ ha) ?_))))
    split
    · rename_i e1 _ _ _; exact absurd e1 hc
    · exact wpAny_pure (wpAny_pure fin)
  cases h1 with
  | none => exact wpAny_bind (wpAny_pure (wpAny_pure fin))
  | bool => exact wpAny_bind (wpAny_pure (wpAny_pure fin))
  | int => exact wpAny_bind (wpAny_pure (wpAny_pure fin))
  | str => exact wpAny_bind (wpAny_pure (wpAny_pure fin))
  | lst e => obtain ⟨n, hl⟩ := o.good.at_ _ _ e; exact key _ _ (o.good.notBase e) hl (by simp)
  | tup e => simp at h2
  | dct e => obtain ⟨⟨ol, _, hl, hc, _⟩, _⟩ := o.good.at_ _ _ e; exact key _ _ (o.good.notBase e) hl (by rw [hc.1]; simp)
theorem mGet {d : Addr} {kvs : List (Str × Value)} {ep : Nat} {pl : Sem Bool} {Q : Value × List Value → AH → Prop} (hd : σ d = some (.dct kvs ep)) (h : Q (.builtin "dict.get", [.ref d]) σ) : W C b (getMethod (.ref d) (Str.ofString "get") pl) σ Q X :=
  W.methB (.dct hd) F.plainAttrs_dict F.slot_dict_get F.type_dict_get (noOwnDict.dct hd) h
theorem W.dictGet2 {d : Addr} {kvs : List (Str × Value)} {ep : Nat} {k : Str} {t : Tok} {dv : Value} {Q : Value → AH → Prop} (hd : σ d = some (.dct kvs ep)) (h : Q ((valueAt kvs k).getD dv) σ) : W C b (call (.builtin "dict.get") [.ref d, .str k t, dv] []) σ Q X := by
  refine W.call_ (WK.meetsIn F.slot_dict_get (.dct hd) F.entry_dict_get (F.args_dict_get_3 _ _ _) fun A s R o r => ?_)
  have hm := o.good.at_ _ _ hd
  refine ⟨_, meets_dict_get_default (strKind C.prog C.w) d (strKind_is C.prog C.w k t) hm.2 dv, _, hm.1.dictOf.mapOf, ?_⟩
  exact r _ _ _ (.toks o.good _) h
end Mine
end
section
open PySem PySem.W PyProof.Rows Builtin
set_option Elab.async false
set_option maxRecDepth 100000
set_option autoImplicit false
set_option linter.unusedVariables false
namespace Mine
variable {C : Cx} {α β : Type} {b : Nat} {σ H : AH} {X : Value → AH → Prop} {L : Addr} {m : List (Str × Value)} {cl : String}
/-- a call of a def, three of its parameters in cells -/
theorem WK.fnC3 {f : Addr} {oc : Value} {od : Option Addr} {osl : Array (Option Value)} {fd : FuncData} {body : List Stmt} {scope : Scope} {args : Args} {binds mm : List (Str × Value)} {qn x y z : Str} {cd u v w : Value} {Q : Value → AH → Prop} (ho : C.K.lookup f = some ⟨oc, od, .func fd, osl⟩)
    (hcode : codeIn C.K fd.code fd.qualname = true) (hbody : fd.body = .stmts body) (hsc : fd.scope = scope) (hqn : fd.qualname = qn) (hcd : fd.code = cd) (hb : bindArgs fd args = pure binds) (hm : localBinds scope.names binds = mm) (hc : cellNames scope.names = [x, y, z]) (hu : binds.reverse.lookup x = some u) (hv : binds.reverse.lookup y = some v) (hw : binds.reverse.lookup z = some w) (hk : kindsOk scope.names binds = true)
    (h : ∀ c1 c2 c3 L, H c1 = none → (H.set c1 (.cell (some u))) c2 = none → ((H.set c1 (.cell (some u))).set c2 (.cell (some v))) c3 = none → (((H.set c1 (.cell (some u))).set c2 (.cell (some v))).set c3 (.cell (some w))) L = none →
      W C b (execs body (fEnv scope L [(z, c3), (y, c2), (x, c1)] (qn ++ ".<locals>.") f cd)) ((((H.set c1 (.cell (some u))).set c2 (.cell (some v))).set c3 (.cell (some w))).set L (.ns "frame" mm)) (Done L Q) noX)
    (hgl : fd.globals = mainGlobals := by rfl) (hbi : fd.builtins = builtinsNs := by rfl) (hcl : fd.closure = [] := by rfl)
    (hco : fd.scope.isCoroutine = false := by rfl) (hgen : fd.scope.isGenerator = false := by rfl) (hk' : fd.scope.kind = .function := by rfl) (hn : namesOk fd.scope.names = true := by rfl) : WK C (b + 2) (.call (.ref f) args) H (isRet Q) := by
  subst hqn hcd
  refine WK.fn ho hcode hbody hsc (W.bind_eq hb ⟨hk, fun L hL => ?_⟩) hgl hbi hcl hco hgen hk' hn
  rw [hc, hm]
  intro c1 h1 c2 h2 c3 h3
  rw [hu] at h2 h3 ⊢
  rw [hv] at h3 ⊢
  rw [hw]
  have n3 : c3 ≠ L := AH.none_ne (AH.none_in (AH.none_in h3))
  have n2 : c2 ≠ L := AH.none_ne (AH.none_in h2)
  have n1 : c1 ≠ L := AH.none_ne h1
  rw [AH.set_comm (Ne.symm n1)] at h2 h3 ⊢
  rw [AH.set_comm (Ne.symm n2)] at h3 ⊢
  rw [AH.set_comm (Ne.symm n3)]
  have e1 := AH.none_in h1
  rw [AH.set_ne n2] at h2
  rw [AH.set_ne n3] at h3
  refine W.mono (h c1 c2 c3 L e1 h2 h3 (by rw [AH.set_ne (Ne.symm n3), AH.set_ne (Ne.symm n2), AH.set_ne (Ne.symm n1)]; exact hL)) (fun fl σ' q => ?_) fun _ _ x => x
  obtain ⟨m', H', rfl, hn', q⟩ := q
  rw [AH.drop_set hn']
  exact q
end Mine
end
section
open PySem PySem.W PyProof.Rows Builtin
set_option Elab.async false
set_option maxRecDepth 100000
set_option autoImplicit false
set_option linter.unusedVariables false
namespace Mine
variable {C : Cx} {α β : Type} {b : Nat} {σ H : AH} {X : Value → AH → Prop} {L : Addr} {m : List (Str × Value)} {cl : String}
theorem take_snoc' {α : Type} {l : List α} {i : Nat} {x : α} (h : l[i]? = some x) : l.take (i + 1) = l.take i ++ [x] := by
  rw [List.take_add_one, h]; rfl
section
variable {env : Env}
/-- the inner clause: each thing of a list is taken as it is -/
theorem WK.innerAll {y : Str} {py py' : Pos} {iter2 : Expr} {g1 : Comprehension} {scope : Scope} {pos : Pos} {it : Value} {D l L' I : Addr} {ys zs : List Value} {H' : AH} {env : Env} {Q : Flow → AH → Prop} (hloc : env.locals = L') (hkf : env.scope.kind = .function) (hky : env.kindOf y = some .local) (hyd : (y == ("__debug__" : Str)) = false) (hp : (env.scope.kind == .class || (env.scope.kind == .module && env.locals != env.globals)) = false)
    (hl : H' l = some (.lst zs)) (hn : H' L' = none) (hlen : ys.length + zs.length ≤ 10000) (hD : ∀ m, (H'.set L' (.ns "dict" m)) D = none) (m0 : List (Str × Value)) (hI : ((H'.set L' (.ns "dict" m0)).set D (.lst ys)) I = none)
    (fin : ∀ m, Q .next ((H'.set L' (.ns "dict" m)).set D (.lst (ys ++ zs)))) :
    WK C b (.compLoop (.ListComp (.Name y py') [g1, ⟨.Name y py, iter2, [], 0⟩] scope pos) 1 (.ref I) (.ref D) env) (((H'.set L' (.ns "dict" m0)).set D (.lst ys)).set I (listIt l 0)) Q := by
  refine WK.listSrc (Src.list (vs := zs) (l := l) rfl) (depth := 1) (gens := [g1, ⟨.Name y py, iter2, [], 0⟩]) rfl rfl (fun j ws σ => ∃ m, σ = AH.set H' L' (.ns "dict" m) ∧ j ≤ zs.length ∧ ws = ys ++ zs.take j) (fun j ws σ q hDn => ?_) (fun j ws σ q => ?_) (fun j ws σ v hj q hv hDn => ?_) (fun ws σ q hDn => ?_) zs.length 0 ys _ _ (by omega) (hD m0) ⟨hI, rfl⟩ ⟨m0, rfl, Nat.zero_le _, by simp⟩
  · obtain ⟨m, rfl, _⟩ := q
    exact AH.set_new hDn (AH.set_new hn hl)
  · obtain ⟨m, rfl, hj, rfl⟩ := q
    rw [List.length_append, List.length_take]; omega
  · obtain ⟨m, rfl, hj', rfl⟩ := q
    refine oneI (W.aName (W.lStore (hl := hloc) (hx := hky) (hp := hp) (W.tests_nil ⟨fun h => (by cases h), fun _ => W.eName (W.lLocal lookHere ⟨_, rfl, hj, by rw [take_snoc' hv, List.append_assoc]⟩ (hl := hloc) (hk := hkf) (hx := hky)) hyd⟩)))
  · obtain ⟨m, rfl, hj, rfl⟩ := q
    rw [List.take_length]; exact fin m

theorem WK.outerAll {t1 iter1 iter2 : Expr} {y : Str} {py py' : Pos} {scope : Scope} {pos : Pos} {it : Value} {D L' : Addr} {env : Env} {ι : Type} {st : ι → AH → (AH → Prop) → Prop} {need : AH → Prop} {n : Nat} {item : Nat → ι → Prop} {at_ : Nat → AH → AH → Prop} {Q : Flow → AH → Prop}
    (S : Src C b it t1 env ι st need n item at_) (hloc : env.locals = L') (hkf : env.scope.kind = .function) (hky : env.kindOf y = some .local) (hyd : (y == ("__debug__" : Str)) = false) (hp : (env.scope.kind == .class || (env.scope.kind == .module && env.locals != env.globals)) = false) (hfs : ∀ x, foldedSetIterable iter2 env x = pure x)
    (Inv : Nat → List Value → AH → Prop) (hneed : ∀ i ys H, Inv i ys H → need H)
    (step : ∀ i ys H m x, i < n → Inv i ys H → H L' = none → item i x → st x (H.set L' (.ns "dict" m)) (fun σ₁ => W C b (eval iter2 env) σ₁ (fun xv σ₂ => ∃ H' m' l zs, xv = .ref l ∧ σ₂ = AH.set H' L' (.ns "dict" m') ∧ H' L' = none ∧ H' l = some (.lst zs) ∧ ys.length + zs.length ≤ 10000 ∧ Inv (i + 1) (ys ++ zs) H') noX))
    (fin : ∀ ys H m, Inv n ys H → H L' = none → (H.set L' (.ns "dict" m)) D = none → Q .next ((H.set L' (.ns "dict" m)).set D (.lst ys))) : ∀ (k i : Nat) (ys : List Value) (H : AH) (m : List (Str × Value)) (big : AH), i + k = n → H L' = none → (H.set L' (.ns "dict" m)) D = none → at_ i ((H.set L' (.ns "dict" m)).set D (.lst ys)) big → Inv i ys H →
      WK C b (.compLoop (.ListComp (.Name y py') [⟨t1, iter1, [], 0⟩, ⟨.Name y py, iter2, [], 0⟩] scope pos) 0 it (.ref D) env) big Q
  | 0, i, ys, H, m, big, hk, hL, hD, ha, hi => by
    have : i = n := by omega
    subst this
    refine WK.listTurn (g := ⟨t1, iter1, [], 0⟩) rfl rfl (W.mono (S.done _ big (fun σ' => Q .next σ') ha (S.needSet _ _ _ (S.needSet _ _ _ (hneed _ _ _ hi) hL) hD) (fin _ _ _ hi hL hD)) (fun r σ₁ q => ?_) fun _ _ x => x)
    obtain ⟨rfl, q⟩ := q
    exact q
  | k + 1, i, ys, H, m, big, hk, hL, hD, ha, hi => by
    have nx := S.next i _ big (fun σ' => ∃ σ₁, σ' = σ₁.set D (.lst ys) ∧ σ₁ D = none ∧ W C b (eval iter2 env) σ₁ (fun xv σ₂ => ∃ H' m' l zs, xv = .ref l ∧ σ₂ = AH.set H' L' (.ns "dict" m') ∧ H' L' = none ∧ H' l = some (.lst zs) ∧ ys.length + zs.length ≤ 10000 ∧ Inv (i + 1) (ys ++ zs) H') noX)
      (by omega) ha (S.needSet _ _ _ (S.needSet _ _ _ (hneed _ _ _ hi) hL) hD) fun x hx => S.stFrame x _ _ D (.lst ys) hD trivial (S.stMono _ _ _ _ (fun σ' q n => ⟨σ', rfl, n, q⟩) (step i ys H m x (by omega) hi hL hx))
    refine WK.listTurn (g := ⟨t1, iter1, [], 0⟩) rfl rfl (W.mono nx (fun r σ₁ q => ?_) fun _ _ x => x)
    obtain ⟨v, rfl, q⟩ := q
    refine W.mono q (fun _ σ₂ q => W.mono q (fun _ σ₃ q => ?_) fun _ _ x => x) fun _ _ x => x
    obtain ⟨σ', ha', σ₁, rfl, hD1, q⟩ := q
    refine W.tests_nil ⟨fun h => (by cases h), fun _ => ?_⟩
    have q1 : W C b (eval iter2 env) (σ₁.set D (.lst ys)) (fun xv σ₂ => ∃ H' m' l zs, xv = .ref l ∧ σ₂ = (AH.set H' L' (.ns "dict" m')).set D (.lst ys) ∧ (AH.set H' L' (.ns "dict" m')) D = none ∧ H' L' = none ∧ H' l = some (.lst zs) ∧ ys.length + zs.length ≤ 10000 ∧ Inv (i + 1) (ys ++ zs) H') noX :=
      W.frame hD1 trivial (W.mono q (fun xv σ₂ ⟨H', m', l, zs, e1, e2, e3, e4, e5, e6⟩ n => by subst e2; exact ⟨H', m', l, zs, e1, rfl, n, e3, e4, e5, e6⟩) fun _ _ x => x)
    have eg : ([⟨t1, iter1, [], 0⟩, ⟨.Name y py, iter2, [], 0⟩] : List Comprehension)[0 + 1]? = some ⟨.Name y py, iter2, [], 0⟩ := rfl
    rw [eg]
    dsimp only
    refine W.mono (S.frame _ b _ _ _ _ _ ha' q1) (fun xv big2 q => ⟨hfs, rfl, ?_⟩) fun _ _ x => x
    obtain ⟨_, ha2, H', m', l, zs, rfl, rfl, hD2, hL2, hl2, hz2, hi2⟩ := q
    have q2 : W C b (pyIter (.ref l)) ((AH.set H' L' (.ns "dict" m')).set D (.lst ys)) (fun it' σ' => ∃ I, it' = .ref I ∧ ((AH.set H' L' (.ns "dict" m')).set D (.lst ys)) I = none ∧ σ' = ((AH.set H' L' (.ns "dict" m')).set D (.lst ys)).set I (listIt l 0)) noX :=
      W.iterList (AH.set_new hD2 (AH.set_new hL2 hl2)) fun I hI => ⟨I, rfl, hI, rfl⟩
    refine W.mono (S.frame _ b _ _ _ _ _ ha2 q2) (fun it' big3 q => ?_) fun _ _ x => x
    obtain ⟨_, ha3, I, rfl, hI, rfl⟩ := q
    have hDn : ∀ m, (H'.set L' (.ns "dict" m)) D = none := fun m => AH.none_set hD2
    have inner := WK.innerAll (C := C) (b := b) (y := y) (py := py) (py' := py') (iter2 := iter2) (g1 := ⟨t1, iter1, [], 0⟩) (scope := scope) (pos := pos) (it := it) (l := l) (ys := ys) (env := env) (Q := fun _ σ' => ∃ m'', σ' = (AH.set H' L' (.ns "dict" m'')).set D (.lst (ys ++ zs))) hloc hkf hky hyd hp hl2 hL2 hz2 hDn m' hI (fun m => ⟨m, rfl⟩)
    have q3 : W C b (runOwn (.compStart (.ListComp (.Name y py') [⟨t1, iter1, [], 0⟩, ⟨.Name y py, iter2, [], 0⟩] scope pos) 1 (.ref I) (.ref D) env) env) (((AH.set H' L' (.ns "dict" m')).set D (.lst ys)).set I (listIt l 0)) (fun _ σ' => ∃ m'', σ' = (AH.set H' L' (.ns "dict" m'')).set D (.lst (ys ++ zs))) noX := by
      refine W.runOwn_ (WK.compStart (g := ⟨.Name y py, iter2, [], 0⟩) (gs := []) rfl rfl rfl rfl rfl (fun _ => rfl) inner ?_)
      intro A s P E o p x
      exact wpAny_pyIter_listiter (o.good.listIter AH.set_self) (p _ _ _ (.refl o.good) inner)
    refine W.mono (S.frame _ b _ _ _ _ _ ha3 q3) (fun _ big4 q => ?_) fun _ _ x => x
    obtain ⟨_, ha4, m'', rfl⟩ := q
    exact WK.outerAll S hloc hkf hky hyd hp hfs Inv hneed step fin k (i + 1) _ H' m'' big4 (by omega) hL2 (hDn m'') ha4 hi2
end
end Mine
namespace Mine
variable {C : Cx} {α β : Type} {b : Nat} {σ H : AH} {X : Value → AH → Prop} {L : Addr} {m : List (Str × Value)} {cl : String}
section
variable {env : Env}
/-- where [y for t1 in .. for y in iter2] begins its walk -/
def Comp2At (C : Cx) (b : Nat) (t1 iter2 : Expr) (scope : Scope) (cs : List (Str × Addr)) (env : Env) (F : Value → AH → Prop) (it : Value) (H₂ : AH) : Prop :=
  ∃ (ι : Type) (st : Addr → ι → AH → (AH → Prop) → Prop) (need : AH → Prop) (n : Nat) (item : Nat → ι → Prop) (at_ : Nat → AH → AH → Prop) (H₀ : AH) (Inv : Nat → List Value → AH → Prop),
    (∀ L', Src C b it t1 (compEnvC scope cs L' env) ι (st L') need n item at_) ∧ at_ 0 H₀ H₂ ∧ Inv 0 [] H₀ ∧ (∀ i ys H, Inv i ys H → need H) ∧
    (∀ L' i ys H m x, i < n → Inv i ys H → H L' = none → item i x → st L' x (H.set L' (.ns "dict" m)) (fun σ₁ => W C b (eval iter2 (compEnvC scope cs L' env)) σ₁ (fun xv σ₂ => ∃ H' m' l zs, xv = .ref l ∧ σ₂ = AH.set H' L' (.ns "dict" m') ∧ H' L' = none ∧ H' l = some (.lst zs) ∧ ys.length + zs.length ≤ 10000 ∧ Inv (i + 1) (ys ++ zs) H') noX)) ∧
    (∀ D ys H, Inv n ys H → H D = none → F (.ref D) (H.set D (.lst ys)))
theorem Comp2At.run {t1 iter1 iter2 : Expr} {y : Str} {py py' : Pos} {scope : Scope} {cs : List (Str × Addr)} {pos : Pos} {F : Value → AH → Prop} {it : Value} {H₂ : AH} {D L' : Addr} (h : Comp2At C b t1 iter2 scope cs env F it H₂) (hkind : scope.kind = .function) (hky : (compEnvC scope cs L' env).kindOf y = some .local) (hyd : (y == ("__debug__" : Str)) = false) (hfs : ∀ x, foldedSetIterable iter2 (compEnvC scope cs L' env) x = pure x) (hD : H₂ D = none) (hL : (H₂.set D (.lst [])) L' = none) :
    WK C b (.compStart (.ListComp (.Name y py') [⟨t1, iter1, [], 0⟩, ⟨.Name y py, iter2, [], 0⟩] scope pos) 0 it (.ref D) (compEnvC scope cs L' env)) ((H₂.set D (.lst [])).set L' (.ns "dict" [])) (fun _ σ₄ => ∃ H₄ m', σ₄ = AH.set H₄ L' (.ns "dict" m') ∧ H₄ L' = none ∧ F (.ref D) H₄) := by
  obtain ⟨ι, st, need, n, item, at_, H₀, Inv, S, ha, h0, hneed, step, fin⟩ := h
  have hLD : L' ≠ D := AH.none_ne hL
  have hL2 : H₂ L' = none := AH.none_in hL
  obtain ⟨a1, n1⟩ := (S L').grow 0 H₀ H₂ L' (.ns "dict" []) ha hL2
  have hD1 : (H₂.set L' (.ns "dict" [])) D = none := by rw [AH.set_ne (Ne.symm hLD)]; exact hD
  obtain ⟨a2, n2⟩ := (S L').grow 0 _ _ D (.lst []) a1 hD1
  rw [show (H₂.set D (.lst [])).set L' (.ns "dict" []) = (H₂.set L' (.ns "dict" [])).set D (.lst []) from AH.set_comm (Ne.symm hLD)]
  have main := WK.outerAll (C := C) (b := b) (t1 := t1) (iter1 := iter1) (iter2 := iter2) (y := y) (py := py) (py' := py') (scope := scope) (pos := pos) (it := it) (D := D) (L' := L') (env := compEnvC scope cs L' env) (Q := fun _ σ₄ => ∃ H₄ m', σ₄ = AH.set H₄ L' (.ns "dict" m') ∧ H₄ L' = none ∧ F (.ref D) H₄)
    (S L') rfl hkind hky hyd (by simp [compEnvC, relabel, hkind]) hfs Inv hneed (step L') (fun ys H m q hn hDn => ?_) n 0 [] H₀ [] _ (by omega) n1 n2 a2 h0
  · exact WK.compStart (g := ⟨t1, iter1, [], 0⟩) (gs := [⟨.Name y py, iter2, [], 0⟩]) rfl rfl rfl rfl rfl (fun _ => rfl) main ((S L').self_ 0 _ _ _ a2 main)
  · have h1 : D ≠ L' := AH.none_ne hDn
    exact ⟨H.set D (.lst ys), m, AH.set_comm (Ne.symm h1), by rw [AH.set_ne (Ne.symm h1)]; exact hn, fin D ys H q (AH.none_in hDn)⟩
theorem W.eComp2 {t1 iter1 iter2 : Expr} {y : Str} {py py' : Pos} {scope : Scope} {pos : Pos} {cs : List (Str × Addr)} {Q : Value → AH → Prop} (hs : ∀ x, foldedSetIterable iter1 env x = pure x) (hclos : closureFor scope env = pure cs) (hkind : scope.kind = .function)
    (hnames : ∀ x ∈ scope.names, x.2 = .local → scope.names.lookup x.1 = some .local) (hcell : cellNames scope.names = []) (hky : ∀ L', (compEnvC scope cs L' env).kindOf y = some .local) (hyd : (y == ("__debug__" : Str)) = false) (hfs : ∀ L' x, foldedSetIterable iter2 (compEnvC scope cs L' env) x = pure x)
    (h : W C b (eval iter1 env) σ (fun x σ₁ => ∃ H₁ L o₁, σ₁ = AH.set H₁ L o₁ ∧ o₁.fr ∧ H₁ L = none ∧ W C b (pyIter x) H₁ (Comp2At C b t1 iter2 scope cs env (fun v H' => H' L = none → Q v (H'.set L o₁))) noX) noX) :
    W C b (eval (.ListComp (.Name y py') [⟨t1, iter1, [], 0⟩, ⟨.Name y py, iter2, [], 0⟩] scope pos) env) σ Q X := by
  rw [eval_ListComp]
  refine W.comp_ (e := .ListComp (.Name y py') [⟨t1, iter1, [], 0⟩, ⟨.Name y py, iter2, [], 0⟩] scope pos) (g := ⟨t1, iter1, [], 0⟩) (gs := [⟨.Name y py, iter2, [], 0⟩]) rfl hs hclos hkind hnames hcell (W.mono h (fun x σ₁ q => ?_) fun _ _ x => x)
  obtain ⟨H₁, L, o₁, rfl, hf, hL, q⟩ := q
  refine W.op hL (W.mono q (fun it H₂ q hL2 => ?_) fun _ _ x => x) hf
  refine W.op hL2 (W.newList_ (hz := Nat.zero_le _) fun D hD hL3 => ?_) hf
  intro L' hL'
  have h1 : L' ≠ L := AH.none_ne hL'
  have h2 : (H₂.set D (.lst [])) L' = none := AH.none_in hL'
  rw [AH.set_comm (Ne.symm h1)]
  refine WK.frame' (by rw [AH.set_ne (Ne.symm h1)]; exact hL3) hf (WK.mono (q.run hkind (hky L') hyd (hfs L') hD h2) (fun _ σ₄ q n => ?_))
  obtain ⟨H₄, m', rfl, n2, q⟩ := q
  rw [AH.set_comm h1, AH.drop_set (by rw [AH.set_ne h1]; exact n2)]
  exact q (AH.none_in n)
end
end Mine
end
section
open PySem PySem.W PyProof.Rows Builtin
set_option Elab.async false
set_option maxRecDepth 100000
set_option autoImplicit false
set_option linter.unusedVariables false
namespace Mine
variable {C : Cx} {b : Nat} {σ H : AH} {X : Value → AH → Prop}

theorem lst_eq {a : Addr} {o : AO} (h : σ a = some o) : σ.set a o = σ := by
  funext c; unfold AH.set; by_cases e : c = a
  · subst e; rw [if_pos rfl, h]
  · rw [if_neg e]

theorem W.updLst {S : Addr} {f : Array Value → Array Value} {vs ws : List Value} {Q : Unit → AH → Prop} (hS : σ S = some (.lst vs)) (hf : f vs.toArray = ws.toArray) (hz : vs.length ≤ 9900) (hw : ws.length ≤ 9900) (h : Q () (σ.set S (.lst ws))) : W C b (Builtin.List.listUpdate (.ref S) f) σ Q X := by
  intro A s P E o p _
  obtain ⟨n, e⟩ := o.good.at_ _ _ hS
  show wpAny _ A (updateSeq S f) _ _ _
  exact wpAny_updateSeq e rfl (p _ _ _ (lst_upd o.good hS hf) h) (by rw [List.size_toArray, sizeLine_eq]; omega) (by rw [hf, List.size_toArray, sizeLine_eq]; omega)

/-- the loop that takes what an iterator gives into a list -/
theorem WK.extLoop {S : Addr} {it res : Value} {n : Nat} {Q : Value → AH → Prop} (at_ : Nat → List Value → AH → Prop) (fin : List Value → AH → Prop)
    (next : ∀ i ys σ, i < n → at_ i ys σ → W C b (pyNext it) σ (fun r σ₁ => ∃ v, r = some v ∧ σ₁ S = some (.lst ys) ∧ ys.length ≤ 9000 ∧ at_ (i + 1) (ys ++ [v]) (σ₁.set S (.lst (ys ++ [v])))) noX)
    (done : ∀ ys σ, at_ n ys σ → W C b (pyNext it) σ (fun r σ₁ => r = none ∧ fin ys σ₁) noX) (hQ : ∀ ys σ, fin ys σ → Q res σ) :
    ∀ (k i : Nat) (ys : List Value) (σ : AH), i + k = n → at_ i ys σ → WK C (b + 1) (.builtin "list.extend.loop" ⟨[.ref S, it, res], []⟩) σ (isRet Q) := by
  intro k
  induction k with
  | zero =>
    intro i ys σ hk ha A s R o r
    have hi : i = n := by omega
    subst hi
    refine codeAny_builtin F.entry_extend_loop ?_
    rw [Around.under_plainId F.plain_extend_loop _]
    show wpAny _ A.in1 (pyNext it >>= _) _ _ s
    refine wpAny_bind (done ys σ ha _ _ _ _ o.in1 (fun r' σ₁ s₁ y q => ?_) fun _ _ _ _ q => q.elim)
    obtain ⟨rfl, q⟩ := q
    exact wpAny_pure (r _ σ₁ s₁ y ⟨_, rfl, hQ _ _ q⟩)
  | succ k ih =>
    intro i ys σ hk ha A s R o r
    refine codeAny_builtin F.entry_extend_loop ?_
    rw [Around.under_plainId F.plain_extend_loop _]
    show wpAny _ A.in1 (pyNext it >>= _) _ _ s
    refine wpAny_bind (next i ys σ (by omega) ha _ _ _ _ o.in1 (fun r' σ₁ s₁ y q => ?_) fun _ _ _ _ q => q.elim)
    obtain ⟨v, rfl, hS, hl, q⟩ := q
    show wpAny _ A.in1 (Builtin.List.listUpdate (.ref S) (·.push v) >>= _) _ _ _
    refine wpAny_bind ((W.updLst (ws := ys ++ [v]) (Q := fun _ σ' => σ' = σ₁.set S (.lst (ys ++ [v]))) (X := noX) hS (by simp) (by omega) (by simp; omega) rfl) _ _ _ _ (o.in1.next y) (fun _ σ₂ s₂ y₂ q₂ => ?_) fun _ _ _ _ q => q.elim)
    subst q₂
    exact wpAny_pure ⟨plainId_quiet F.plain_extend_loop _, ih (i + 1) _ _ (by omega) q A s₂ R (o.next (y.trans y₂)) fun f σ' s' y' q' => r f σ' s' ((y.trans y₂).trans y') q'⟩

/-- taking up what can be walked over -/
theorem W.extendWith {S : Addr} {x res : Value} {T : String} {ys : List Value} {Q : Flow → AH → Prop} (hS : σ S = some (.lst ys)) (hz : ys.length ≤ 9000) (hT : Ty σ x T) (n1 : (Value.type T == Value.type "list") = false) (n2 : (Value.type T == Value.type "tuple") = false) (n3 : Builtin.List.listSameRef (.ref S) x = false)
    (h : W C b (pyIter x) σ (fun it σ₁ => σ₁ S = some (.lst ys) ∧ W C b (Builtin.List.listLengthHint x) σ₁ (fun _ σ₂ => σ₂ = σ₁) noX ∧ WK C (b + 1) (.builtin "list.extend.loop" ⟨[.ref S, it, res], []⟩) σ₁ Q) noX) :
    W C b (Builtin.List.listExtendWith (.ref S) x res) σ (fun fin σ₁ => match fin with | .done f => False | .again c' => c'.quiet = true ∧ WK C (b + 1) c' σ₁ Q) noX := by
  intro A s P E o p _
  unfold Builtin.List.listExtendWith
  refine wpAny_bind (wpAny_typeOf (hT.is o.good) ?_)
  simp only [n1, n2, n3, Bool.or_false, Bool.false_eq_true, if_false]
  refine wpAny_bind (h A s _ _ o (fun it σ₁ s₁ y₁ q => ?_) fun _ _ _ _ q => q.elim)
  obtain ⟨hS₁, hh, hl⟩ := q
  refine wpAny_bind (wpAny_holding (hh A s₁ _ _ (o.next y₁) (fun room σ₂ s₂ y₂ q => ?_) fun _ _ _ _ q => q.elim))
  subst q
  have fin : ∀ s₃, After C σ₂ s₂ σ₂ s₃ → P (.again (.builtin "list.extend.loop" ⟨[.ref S, it, res], []⟩)) s₃ := fun s₃ y₃ => p _ _ _ ((y₁.trans y₂).trans y₃) ⟨plainId_quiet F.plain_extend_loop _, hl⟩
  have touch : W C b (Builtin.List.listTouch (.ref S)) σ₂ (fun _ σ' => σ' = σ₂) noX := by
    unfold Builtin.List.listTouch
    refine W.bind_ (W.updLst (ws := ys ++ [.none]) hS₁ (by simp) (by omega) (by simp; omega) (W.updLst (ws := ys) AH.set_self (by simp) (by simp; omega) (by omega) ?_))
    rw [AH.set_set, lst_eq hS₁]
  split
  · refine wpAny_bind (wpAny_rule (wpAny_bind (touch A s₂ _ _ ((o.next y₁).next y₂) (fun _ σ' s₃ y₃ q => ?_) fun _ _ _ _ q => q.elim)))
    subst q
    exact wpAny_pure (fin _ y₃)
  · exact wpAny_pure (fin _ (.refl y₂.good))

/-- list(x) -/
theorem W.listOf {x : Value} {T : String} {Q : Value → AH → Prop} (hT : Ty σ x T) (n1 : (Value.type T == Value.type "list") = false) (n2 : (Value.type T == Value.type "tuple") = false)
    (h : ∀ S, σ S = none → Builtin.List.listSameRef (.ref S) x = false ∧ W C b (pyIter x) (σ.set S (.lst [])) (fun it σ₁ => σ₁ S = some (.lst []) ∧ W C b (Builtin.List.listLengthHint x) σ₁ (fun _ σ₂ => σ₂ = σ₁) noX ∧ WK C (b + 1) (.builtin "list.extend.loop" ⟨[.ref S, it, .none], []⟩) σ₁ (isRet fun v σ' => v = .none ∧ Q (.ref S) σ')) noX) : W C (b + 2) (call (.type "list") [x]) σ Q X := by
  intro A s P E o p _
  refine callType_codes (Q₁ := fun obj s₁ => obj = .ref s.heap.objs.size ∧ s₁ = { s with heap := s.heap.push { cls := .type "list", data := .seq #[] } }) F.called_list (F.typeCall_list_1 _) F.entry_list_init (code_list_new _ ⟨rfl, rfl⟩) fun obj s₁ h₁ => ?_
  obtain ⟨rfl, rfl⟩ := h₁
  have hS : (s.heap.push { cls := .type "list", data := .seq #[] }).get? s.heap.objs.size = some { cls := .type "list", data := .seq #[] } := Heap.get?_push_size _ rfl
  obtain ⟨y₁, hn⟩ := After.add (t := s.toks) o.good (a := s.heap.objs.size) (o := .lst []) (fun b o' e => Heap.get?_push_of_some { cls := .type "list", data := .seq #[] } e) (Nat.le_refl _) ⟨_, hS⟩
  obtain ⟨n3, hq⟩ := h _ hn
  refine ⟨⟨_, hS, rfl⟩, F.args_list_init_2 _ _, ?_⟩
  show wpAny _ A.in1.in1 (do let old ← Builtin.List.listItems (.ref s.heap.objs.size); Builtin.List.listUpdate (.ref s.heap.objs.size) (fun _ => #[]); letGo old.toList.reverse; Builtin.List.listExtendWith (.ref s.heap.objs.size) x .none) _ _ _
  refine wpAny_bind ?_
  unfold Builtin.List.listItems
  refine wpAny_bind (wpAny_seqItems hS rfl (wpAny_pure ?_))
  show wpAny _ A.in1.in1 (updateSeq s.heap.objs.size (fun _ => #[]) >>= fun _ => letGo (#[] : Array Value).toList.reverse >>= fun _ => Builtin.List.listExtendWith (.ref s.heap.objs.size) x .none) _ _ _
  refine wpAny_bind (wpAny_updateSeq hS rfl ?_)
  refine wpAny_bind (wpAny_letGo ?_)
  have y₂ := lst_upd (t := s.toks) (f := fun _ => (#[] : Array Value)) (ws := []) y₁.good AH.set_self (by simp)
  rw [AH.set_set] at y₂
  have y := y₁.trans y₂
  have o₂ := (o.next y)
  have oo : Ok C b A.in1.in1 _ _ := Ok.in1 (Ok.in1 o₂)
  have T2 : Ty (σ.set s.heap.objs.size (.lst [])) x T := by
    cases hT with
    | none => exact .none
    | bool => exact .bool
    | int => exact .int
    | str => exact .str
    | lst e => exact .lst (AH.set_new hn e)
    | tup e => exact .tup (AH.set_new hn e)
    | dct e => exact .dct (AH.set_new hn e)
    | raw e h => exact .raw (AH.set_new hn e) h
    | pr e h => exact .pr (AH.set_new hn e) h
  refine (W.extendWith AH.set_self (by simp) T2 n1 n2 n3 hq) A.in1.in1 _ _ _ oo (fun fin σ₁ s₁ y₃ q => ?_) fun _ _ _ _ q => q.elim
  cases fin with
  | done f => exact q.elim
  | again c' =>
    obtain ⟨q1, q2⟩ := q
    refine ⟨q1, q2 A.in1 s₁ _ ((Ok.in1 o₂).next y₃) fun f σ' s' y' q' => ?_⟩
    obtain ⟨v, rfl, rfl, q'⟩ := q'
    exact ⟨rfl, p _ σ' s' ((y.trans y₃).trans y') q'⟩
end Mine
end
section
open PySem PySem.W PyProof.Rows Builtin
set_option Elab.async false
set_option maxRecDepth 100000
set_option autoImplicit false
set_option linter.unusedVariables false
namespace Mine
section
variable {prog : Program} {w : World} {A : Around} {E : Value → Shared → Prop} {s : Shared}
def itemObj (f0 : Value) (f1 : Bool) (d : Addr) (i n ep : Nat) (ok ov : Value) : Obj := { cls := .type "dict_itemiterator", dict := none, data := .fields #[f0, .bool f1, .ref d, .int i 0, .int n 0, .int ep 0, ok, ov], slots := #[] }

theorem wpAny_loadIfAlive' {M : Model} {a : Addr} {o : Obj} {Q : Option Obj → Shared → Prop} (ho : s.heap.get? a = some o) (h : Q (some o) s) : wpAny M A (loadIfAlive a) Q E s := fun _ _ _ => by
  show Q (s.heap.get? a) s
  rw [ho]; exact h

theorem next_out {it d a : Addr} {i ep : Nat} {kvs : List (Str × Value)} {f1 : Bool} {k : Str} {v ok ov : Value} {oa : Obj} {Q : Option Value → Shared → Prop} (hit : s.heap.get? it = some (itemObj (rawInt a) f1 d i kvs.length ep ok ov)) (ha : s.heap.get? a = some oa) (hne : a ≠ it)
    (hm : s.heap.DictAt (strKind prog w) d kvs ep) (hx : kvs[i]? = some (k, v))
    (hQ : ∀ t h', h'.get? it = some (itemObj (rawInt a) true d (i + 1) kvs.length ep ok ov) →
      h'.get? s.heap.objs.size = some { cls := .type "tuple", data := .seq #[.str k t, v] } → h'.objs.size = s.heap.objs.size + 1 →
      (∀ b o, b ≠ it → s.heap.get? b = some o → h'.get? b = some o) → Q (some (.ref s.heap.objs.size)) { s with heap := h' }) :
    wpAny (model prog w) A (pyNext (.ref it)) Q E s := by
  obtain ⟨hp, g, dr, tk, os⟩ := s
  obtain ⟨od, es, hod, hcd, hdd, hk, hpr, hn⟩ := id hm
  have hT : Shared.TypeIs ⟨hp, g, dr, tk, os⟩ (.ref it) "dict_itemiterator" := ⟨_, hit, rfl⟩
  unfold pyNext
  refine wpAny_bind (wpAny_attempt (wpAny_callSpecial?_slot (name := Str.ofString "__next__") hT F.slot_dict_itemiterator_next
    (wpAny_call_entry F.slot_dict_itemiterator_next hT F.entry_dict_itemiterator_next ?_ (F.args_dict_itemiterator_next_1 _))))
  refine wpAny_bind (wpAny_pure ?_)
  refine wpAny_bind ?_
  refine wpAny_bind ?_
  first | refine wpAny_bind (wpAny_typeNameOfWhole_itemiter hT (wpAny_pure ?_)) | refine wpAny_bind (wpAny_typeNameOf_itemiter hT (wpAny_pure ?_))
  refine wpAny_bind (wpAny_fieldsOf hit rfl ?_)
  have hown : Builtin.Dict_items.ownsTuple "dict_itemiterator" = true := by decide
  simp only [hown, if_true]
  show wpAny _ _ (if (Value.ref d == Value.none) = true then _ else _) _ _ _
  rw [if_neg (show ¬ ((Value.ref d == Value.none) = true) from Bool.false_ne_true)]
  refine wpAny_bind (wpAny_pure ?_)
  refine wpAny_bind (wpAny_dictEntries hod hdd ?_)
  have hsz : es.size = kvs.length := by rw [← hpr.length]; simp
  rw [if_neg (by rw [hsz]; simp)]
  refine wpAny_bind (wpAny_pure ?_)
  refine wpAny_bind (wpAny_dictEpoch hod hdd ?_)
  rw [if_neg (by simp)]
  refine wpAny_pure ?_
  have hlt : i < kvs.length := by
    rcases Nat.lt_or_ge i kvs.length with h | h
    · exact h
    · simp [List.getElem?_eq_none h] at hx
  have hlt' : i < es.size := by rw [hsz]; exact hlt
  obtain ⟨hkey, hval⟩ := hpr.get? (e := es[i]) (by simp [hlt']) hx
  obtain ⟨tt, hkey⟩ : ∃ t, es[i].key = .str k t := Value.isStrOf_shape hkey
  simp only [show ¬ ((i : Int) < 0) from by omega, if_false, Int.toNat_natCast, Array.getElem?_eq_getElem hlt']
  refine wpAny_bind ?_
  first | refine wpAny_bind (wpAny_typeNameOfWhole_itemiter hT (wpAny_pure ?_)) | refine wpAny_bind (wpAny_typeNameOf_itemiter hT (wpAny_pure ?_))
  refine wpAny_bind (wpAny_isOneOf_itemiter hT ?_)
  show wpAny _ _ (setField (.ref it) 3 (rawInt ((i : Int) + 1)) >>= _) _ _ ⟨hp, g, dr, tk, os⟩
  refine wpAny_bind (wpAny_setField_rec hit (by simp) fun h₁ he₁ hs₁ => ?_)
  replace hs₁ : Heap.SameBut it hp h₁ := hs₁
  replace he₁ : h₁.get? it = some (itemObj (rawInt a) f1 d (i + 1) kvs.length ep ok ov) := by
    have e : ((i + 1 : Nat) : Int) = (i : Int) + 1 := by omega
    unfold itemObj; rw [e]; simpa [rawInt] using he₁
  have hT₁ : Shared.TypeIs ⟨h₁, g, dr, tk, os⟩ (.ref it) "dict_itemiterator" := ⟨_, he₁, rfl⟩
  refine wpAny_bind (wpAny_holding ?_)
  refine wpAny_bind (wpAny_isOneOf_itemiter hT₁ ?_)
  refine wpAny_bind (wpAny_isOneOf_itemiter hT₁ ?_)
  show wpAny _ _ (Builtin.Dict_items.pairFromOwner (.ref it) 6 es[i].key es[i].val) _ _ ⟨h₁, g, dr, tk, os⟩
  unfold Builtin.Dict_items.pairFromOwner
  refine wpAny_bind (wpAny_newTuple ?_)
  have he₂ : (h₁.push { cls := .type "tuple", data := .seq #[es[i].key, es[i].val] }).get? it = some (itemObj (rawInt a) f1 d (i + 1) kvs.length ep ok ov) := Heap.get?_push_of_some _ he₁
  have ha₂ : (h₁.push { cls := .type "tuple", data := .seq #[es[i].key, es[i].val] }).get? a = some oa := Heap.get?_push_of_some _ (hs₁.extBut _ _ hne ha)
  generalize hh₂ : h₁.push { cls := .type "tuple", data := .seq #[es[i].key, es[i].val] } = h₂ at he₂ ha₂
  have hz₁ : h₁.objs.size = hp.objs.size := hs₁.1
  have hil : it < hp.objs.size := Heap.lt_size hit
  have ht₂ : h₂.get? hp.objs.size = some { cls := .type "tuple", data := .seq #[es[i].key, es[i].val] } := by rw [← hh₂, ← hz₁]; exact Heap.get?_push_size _ rfl
  have hz₂ : h₂.objs.size = hp.objs.size + 1 := by rw [← hh₂, Heap.size_push, hz₁]
  have hk₂ : ∀ b o, b ≠ it → hp.get? b = some o → h₂.get? b = some o := fun b o hb e => by rw [← hh₂]; exact Heap.get?_push_of_some _ (hs₁.extBut b o hb e)
  show wpAny _ _ (Builtin.Dict_items.ownedTupleIsFree (.ref it) >>= _) _ _ ⟨h₂, g, dr, tk, os⟩
  rw [hz₁]
  clear hh₂ he₁ hs₁ hT₁ hz₁ h₁
  refine wpAny_bind ?_
  unfold Builtin.Dict_items.ownedTupleIsFree
  refine wpAny_bind (wpAny_field he₂ rfl (x := rawInt a) rfl ?_)
  show wpAny _ _ (loadIfAlive ((a : Int).toNat) >>= _) _ _ _
  rw [Int.toNat_natCast]
  refine wpAny_bind (wpAny_loadIfAlive' ha₂ ?_)
  rw [if_neg (by simp)]
  refine wpAny_bind (wpAny_field he₂ rfl (x := .bool f1) rfl ?_)
  rw [hkey] at ht₂
  cases f1 with
  | true =>
    rw [if_neg (by decide)]
    refine wpAny_pure ?_
    simp only [Bool.false_eq_true, if_false]
    refine wpAny_pure (wpAny_pure ⟨_, rfl, wpAny_pure (hQ tt h₂ he₂ (hval ▸ ht₂) hz₂ hk₂)⟩)
  | false =>
    rw [if_pos (by decide)]
    refine wpAny_bind (wpAny_setField_rec he₂ (by simp) fun h₃ he₃ hs₃ => wpAny_pure ?_)
    replace hs₃ : Heap.SameBut it h₂ h₃ := hs₃
    simp only [Bool.false_eq_true, if_false]
    refine wpAny_pure (wpAny_pure ⟨_, rfl, wpAny_pure (hQ tt h₃ he₃ ?_ ?_ ?_)⟩)
    · rw [← hval]; exact hs₃.extBut _ _ (Nat.ne_of_gt hil) ht₂
    · exact hs₃.1.trans hz₂
    · exact fun b o hb e => hs₃.extBut b o hb (hk₂ b o hb e)

theorem end_any {it d : Addr} {i ep : Nat} {kvs : List (Str × Value)} {f0 : Value} {f1 : Bool} {ok ov : Value} {Q : Option Value → Shared → Prop} (hh : A.handled = none) (hit : s.heap.get? it = some (itemObj f0 f1 d i kvs.length ep ok ov))
    (hm : s.heap.DictAt (strKind prog w) d kvs ep) (hx : kvs[i]? = none)
    (hQ : ∀ h', Heap.ExtBut it s.heap h' → Q none { s with heap := h' }) : wpAny (model prog w) A (pyNext (.ref it)) Q E s := by
  obtain ⟨od, es, hod, hcd, hdd, hk, hpr, hn⟩ := id hm
  have hT : s.TypeIs (.ref it) "dict_itemiterator" := ⟨_, hit, rfl⟩
  unfold pyNext
  refine wpAny_bind (wpAny_attempt (wpAny_callSpecial?_slot (name := Str.ofString "__next__") hT F.slot_dict_itemiterator_next
    (wpAny_call_entry F.slot_dict_itemiterator_next hT F.entry_dict_itemiterator_next ?_ (F.args_dict_itemiterator_next_1 _))))
  refine wpAny_bind (wpAny_pure ?_)
  refine wpAny_bind ?_
  refine wpAny_bind ?_
  first | refine wpAny_bind (wpAny_typeNameOfWhole_itemiter hT (wpAny_pure ?_)) | refine wpAny_bind (wpAny_typeNameOf_itemiter hT (wpAny_pure ?_))
  refine wpAny_bind (wpAny_fieldsOf hit rfl ?_)
  have hown : Builtin.Dict_items.ownsTuple "dict_itemiterator" = true := by decide
  simp only [hown, if_true]
  show wpAny _ _ (if (Value.ref d == Value.none) = true then _ else _) _ _ s
  rw [if_neg (show ¬ ((Value.ref d == Value.none) = true) from Bool.false_ne_true)]
  refine wpAny_bind (wpAny_pure ?_)
  refine wpAny_bind (wpAny_dictEntries hod hdd ?_)
  have hsz : es.size = kvs.length := by rw [← hpr.length]; simp
  rw [if_neg (by rw [hsz]; simp)]
  refine wpAny_bind (wpAny_pure ?_)
  refine wpAny_bind (wpAny_dictEpoch hod hdd ?_)
  rw [if_neg (by simp)]
  refine wpAny_pure ?_
  have hge : es.size ≤ i := by rw [hsz]; simpa using hx
  simp only [show ¬ ((i : Int) < 0) from by omega, if_false, Int.toNat_natCast, Array.getElem?_eq_none hge]
  refine wpAny_bind ?_
  first | refine wpAny_bind (wpAny_typeNameOfWhole_itemiter hT (wpAny_pure ?_)) | refine wpAny_bind (wpAny_typeNameOf_itemiter hT (wpAny_pure ?_))
  show wpAny _ _ (setField (.ref it) 2 .none >>= _) _ _ s
  refine wpAny_bind (wpAny_setField hit rfl (by simp) ?_)
  show wpAny _ _ (newExc (.type "StopIteration") [] >>= _) _ _ _
  refine wpAny_bind ?_
  simp only [newExc, newTuple]
  refine wpAny_bind (wpAny_newObj_type ?_ (by size_fits))
  refine wpAny_bind (m := firstArgMember _ _) (wpAny_of_eq (a := Value.none) (by first | rfl | (simp only [firstArgMember]; rfl)) ?_)
  refine wpAny_newObj_type ?_ (by size_fits)
  simp only [raiseNew]
  refine wpAny_bind (wpAny_handled ?_)
  rw [show A.in1.handled = none from hh]
  refine wpAny_bind (wpAny_pure (wpAny_throw ?_))
  refine wpAny_bind (wpAny_isInstance (T := "StopIteration") (b := true) ⟨_, Heap.get?_push_size _ rfl, rfl⟩ isSubtype_stop ?_)
  exact wpAny_pure (hQ _ (((Heap.SameBut.update ..).extBut.push _).push _))
end

variable {C : Cx} {b : Nat} {σ H : AH} {X : Value → AH → Prop}
theorem W.hintSilent {v : Value} {T : String} {Q : Bool → AH → Prop} (hT : Ty σ v T) (hc : T = "dict" ∨ T = "dict_items") (h : Q false σ) : W C b (Builtin.List.listLengthHint v) σ Q X := by
  intro A s P E o p _
  have hty := hT.is o.good
  have fin := p _ _ _ (.refl o.good) h
  unfold Builtin.List.listLengthHint
  rcases hc with rfl | rfl
  · refine wpAny_bind (wpAny_specialOf hty F.slot_dict_len.lookup ?_)
    generalize hid : ("dict.__len__" : String) = id0
    wp_delta
    rw [show splitId id0 = some ("dict", "__len__") from by subst hid; decide +kernel]
    subst hid
    refine wpAny_bind (wpAny_isInstance (T := "dict") (b := true) hty (by rw [isSubtype_type]; kernel_rfl) ?_)
    refine wpAny_ite_split (fun hab => absurd hab (by decide)) (fun _ => ?_)
    refine wpAny_ite_split (fun _ => ?_) (fun hab => absurd (by decide +kernel) hab)
    exact wpAny_bind (wpAny_typeOf hty (wpAny_pure fin))
  · refine wpAny_bind (wpAny_specialOf hty F.slot_dict_items_len.lookup ?_)
    generalize hid : ("dict_items.__len__" : String) = id0
    wp_delta
    rw [show splitId id0 = some ("dict_items", "__len__") from by subst hid; decide +kernel]
    subst hid
    refine wpAny_bind (wpAny_isInstance (T := "dict_items") (b := true) hty (by rw [isSubtype_type]; kernel_rfl) ?_)
    refine wpAny_ite_split (fun hab => absurd hab (by decide)) (fun _ => ?_)
    refine wpAny_ite_split (fun _ => ?_) (fun hab => absurd (by decide +kernel) hab)
    exact wpAny_bind (wpAny_typeOf hty (wpAny_pure fin))
end Mine
end
section
open PySem PySem.W PyProof.Rows Builtin
set_option Elab.async false
set_option maxRecDepth 100000
set_option autoImplicit false
set_option linter.unusedVariables false
namespace Mine
variable {C : Cx} {b : Nat} {σ H : AH} {X : Value → AH → Prop}

def itemAny (d : Addr) (i n ep : Nat) (τ : AH) (o : AO) : Prop := o = itemIt d i n ep ∨ ∃ a vs, τ a = some (.tup vs) ∧ o = .pr fun ob => ∃ f1 ok ov, ob = itemObj (rawInt a) f1 d i n ep ok ov

/-- list(d.items()) -/
theorem W.listItems {v d : Addr} {kvs : List (Str × Value)} {ep : Nat} {Q : Value → AH → Prop} (hv : σ v = some (itemsV d)) (hd : σ d = some (.dct kvs ep)) (hz : kvs.length ≤ 100)
    (h : ∀ S H' ys, Sub σ H' → σ S = none → H' S = some (.lst ys) → ys.length = kvs.length → (∀ (j : Nat) k w, kvs[j]? = some (k, w) → ∃ (T : Addr) (t : Tok), ys[j]? = some (Value.ref T) ∧ H' T = some (.tup [.str k t, w])) → Q (.ref S) H') : W C (b + 2) (call (.type "list") [.ref v]) σ Q X := by
  refine W.listOf (T := "dict_items") (.pr hv fun o ho => ho.1) (by decide) (by decide) fun S hS => ?_
  have hvS : v ≠ S := fun e => by rw [e, hS] at hv; cases hv
  have hdS : d ≠ S := fun e => by rw [e, hS] at hd; cases hd
  refine ⟨by simp [Builtin.List.listSameRef, Ne.symm hvS], W.iterItems (AH.set_new hS hv) (AH.set_new hS hd) fun I hI => ?_⟩
  have hIS : I ≠ S := AH.none_ne hI
  have hI0 : σ I = none := AH.none_in hI
  refine ⟨AH.set_new hI AH.set_self, W.hintSilent (.pr (AH.set_new hI (AH.set_new hS hv)) fun o ho => ho.1) (.inr rfl) rfl, ?_⟩
  refine WK.extLoop (n := kvs.length) (fun i ys τ => Sub σ τ ∧ τ S = some (.lst ys) ∧ ys.length = i ∧ i ≤ kvs.length ∧ (∃ o, τ I = some o ∧ itemAny d i kvs.length ep τ o) ∧ ∀ (j : Nat) k w, j < i → kvs[j]? = some (k, w) → ∃ (T : Addr) (t : Tok), ys[j]? = some (Value.ref T) ∧ τ T = some (.tup [.str k t, w]))
    (fun ys τ => Sub σ τ ∧ τ S = some (.lst ys) ∧ ys.length = kvs.length ∧ ∀ (j : Nat) k w, kvs[j]? = some (k, w) → ∃ (T : Addr) (t : Tok), ys[j]? = some (Value.ref T) ∧ τ T = some (.tup [.str k t, w]))
    (fun i ys τ hi q => ?_) (fun ys τ q => ?_) (fun ys τ q => ⟨rfl, h S τ ys q.1 hS q.2.1 q.2.2.1 q.2.2.2⟩) kvs.length 0 [] _ (by omega) ⟨(Sub.set hS).trans (Sub.set hI), AH.set_new hI AH.set_self, rfl, Nat.zero_le _, ⟨_, AH.set_self, .inl rfl⟩, fun j k w hj => absurd hj (Nat.not_lt_zero _)⟩
  · obtain ⟨hs, hSy, hyl, _, ⟨o, hIo, hany⟩, hget⟩ := q
    have hv' : kvs[i]? = some (kvs[i].1, kvs[i].2) := by simp [hi]
    have hdt := hs _ _ hd
    intro A s P E k p _
    -- both kinds of state give the next
    have key : ∀ h' o' t, (∀ x q, x ≠ I → s.heap.get? x = some q → h'.get? x = some q) → Mt C h' I o' → o'.still → h'.get? s.heap.objs.size = some { cls := .type "tuple", data := .seq #[.str kvs[i].1 t, kvs[i].2] } →
        (∀ τ', τ' s.heap.objs.size = some (.tup [.str kvs[i].1 t, kvs[i].2]) → (∀ a vs, τ a = some (.tup vs) → τ' a = some (.tup vs)) → itemAny d (i + 1) kvs.length ep τ' o') → P (some (.ref s.heap.objs.size)) { s with heap := h' } := by
      intro h' o' t hk' mI st ht hany'
      have y1 := After.updE (t := s.toks) (o' := o') k.good hIo hk' mI (by rcases hany with rfl | ⟨_, _, _, rfl⟩ <;> trivial)
      have y2 := y1.also k.good (T := s.heap.objs.size) (o := .tup [.str kvs[i].1 t, kvs[i].2]) (Nat.le_refl _) ⟨0, ht⟩
      have hTn : τ s.heap.objs.size = none := k.good.fresh
      refine p _ _ _ y2 ⟨_, rfl, ?_, by omega, ?_⟩
      · have nTS : S ≠ s.heap.objs.size := fun e => by rw [← e, hSy] at hTn; cases hTn
        rw [AH.set_ne nTS, AH.set_ne (Ne.symm hIS)]; exact hSy
      have nT : ∀ a vs, τ a = some (.tup vs) → a ≠ I ∧ a ≠ S ∧ a ≠ s.heap.objs.size := by
        intro a vs e
        refine ⟨fun z => ?_, fun z => ?_, fun z => ?_⟩
        · rw [z, hIo] at e
          rcases hany with rfl | ⟨_, _, _, rfl⟩ <;> cases e
        · rw [z, hSy] at e; cases e
        · rw [z, hTn] at e; cases e
      have nSz : s.heap.objs.size ≠ S := fun e => by rw [e, hSy] at hTn; cases hTn
      have nIz : I ≠ s.heap.objs.size := fun e => by rw [← e, hIo] at hTn; cases hTn
      have kp : ∀ a vs, τ a = some (.tup vs) → ((((τ.set I o').set s.heap.objs.size (.tup [.str kvs[i].1 t, kvs[i].2])).set S (.lst (ys ++ [.ref s.heap.objs.size]))) a) = some (.tup vs) := fun a vs e => by
        obtain ⟨n1, n2, n3⟩ := nT a vs e
        rw [AH.set_ne n2, AH.set_ne n3, AH.set_ne n1]; exact e
      have hT2 : (((τ.set I o').set s.heap.objs.size (.tup [.str kvs[i].1 t, kvs[i].2])).set S (.lst (ys ++ [.ref s.heap.objs.size]))) s.heap.objs.size = some (.tup [.str kvs[i].1 t, kvs[i].2]) := by rw [AH.set_ne nSz]; exact AH.set_self
      refine ⟨?_, AH.set_self, by simp [hyl], hi, ⟨o', by rw [AH.set_ne hIS, AH.set_ne nIz]; exact AH.set_self, hany' _ hT2 kp⟩, fun j k' w hj hkw => ?_⟩
      · have : σ s.heap.objs.size = none := by
          cases e : σ s.heap.objs.size with
          | none => rfl
          | some z => rw [hs _ _ e] at hTn; cases hTn
        exact subSetC (subSetC (subSetC hs hI0) this) hS
      · rcases Nat.lt_or_ge j i with hji | hji
        · obtain ⟨T, t', e1, e2⟩ := hget j k' w hji hkw
          exact ⟨T, t', by rw [List.getElem?_append_left (by omega)]; exact e1, kp _ _ e2⟩
        · have : j = i := by omega
          subst this
          rw [hv'] at hkw; cases hkw
          exact ⟨_, t, by rw [List.getElem?_append_right (by omega), hyl]; simp, hT2⟩
    rcases hany with rfl | ⟨a, vs, hat, rfl⟩
    · obtain ⟨_, eI, ⟨ok, ov, rfl⟩, _, _⟩ := k.good.at_ _ _ hIo
      refine wpAny_pyNext_items_item eI (k.good.at_ _ _ hdt).1 hv' fun kk h' hkey he ht hz' hk' => ?_
      obtain ⟨t, rfl⟩ := str_is hkey
      exact key h' (.pr fun ob => ∃ f1 ok ov, ob = itemObj (rawInt s.heap.objs.size) f1 d (i + 1) kvs.length ep ok ov) t hk' ⟨_, he, ⟨false, _, _, rfl⟩, by simp, by simp⟩ trivial ht fun τ' e1 e2 => .inr ⟨_, _, e1, rfl⟩
    · obtain ⟨_, eI, ⟨f1, ok, ov, rfl⟩, _, _⟩ := k.good.at_ _ _ hIo
      obtain ⟨na, ea⟩ := k.good.at_ _ _ hat
      have hne : a ≠ I := fun e => by rw [e, hIo] at hat; cases hat
      refine next_out eI ea hne (k.good.at_ _ _ hdt).1 hv' fun t h' he ht hz' hk' => ?_
      exact key h' (.pr fun ob => ∃ f1 ok ov, ob = itemObj (rawInt a) f1 d (i + 1) kvs.length ep ok ov) t hk' ⟨_, he, ⟨true, _, _, rfl⟩, by simp [itemObj], by simp [itemObj]⟩ trivial ht fun τ' e1 e2 => .inr ⟨_, _, e2 _ _ hat, rfl⟩
  · obtain ⟨hs, hSy, hyl, _, ⟨o, hIo, hany⟩, hget⟩ := q
    intro A s P E k p _
    have hdt := hs _ _ hd
    have fin : ∀ h', Heap.ExtBut I s.heap h' → o.still → P none { s with heap := h' } := by
      intro h' hx st
      have y := After.lose (t := s.toks) k.good hIo st hx
      refine p _ _ _ y ⟨rfl, hs.drop hI0, by rw [AH.drop_ne (Ne.symm hIS)]; exact hSy, hyl, fun j k' w hkw => ?_⟩
      have hj : j < kvs.length := by
        rcases Nat.lt_or_ge j kvs.length with q | q
        · exact q
        · rw [List.getElem?_eq_none q] at hkw; cases hkw
      obtain ⟨T, t, e1, e2⟩ := hget j k' w hj hkw
      refine ⟨T, t, e1, ?_⟩
      rw [AH.drop_ne (fun z => by rw [z, hIo] at e2; rcases hany with rfl | ⟨_, _, _, rfl⟩ <;> cases e2)]; exact e2
    rcases hany with rfl | ⟨a, vs, hat, rfl⟩
    · obtain ⟨_, eI, ⟨ok, ov, rfl⟩, _, _⟩ := k.good.at_ _ _ hIo
      exact end_any k.room.hd eI (k.good.at_ _ _ hdt).1 (by simp) fun h' hx => fin h' hx trivial
    · obtain ⟨_, eI, ⟨f1, ok, ov, rfl⟩, _, _⟩ := k.good.at_ _ _ hIo
      exact end_any k.room.hd eI (k.good.at_ _ _ hdt).1 (by simp) fun h' hx => fin h' hx trivial

/-- list(d) -/
theorem W.listKeys {d : Addr} {kvs : List (Str × Value)} {ep : Nat} {Q : Value → AH → Prop} (hd : σ d = some (.dct kvs ep)) (hz : kvs.length ≤ 100)
    (h : ∀ S H' ys, Sub σ H' → σ S = none → H' S = some (.lst ys) → ys.length = kvs.length → (∀ (j : Nat) k w, kvs[j]? = some (k, w) → ∃ t : Tok, ys[j]? = some (Value.str k t)) → Q (.ref S) H') : W C (b + 2) (call (.type "list") [.ref d]) σ Q X := by
  refine W.listOf (T := "dict") (.dct hd) (by decide) (by decide) fun S hS => ?_
  have hdS : d ≠ S := fun e => by rw [e, hS] at hd; cases hd
  refine ⟨by simp [Builtin.List.listSameRef, Ne.symm hdS], W.iterKeys (AH.set_new hS hd) fun I hI => ?_⟩
  have hIS : I ≠ S := AH.none_ne hI
  have hI0 : σ I = none := AH.none_in hI
  refine ⟨AH.set_new hI AH.set_self, W.hintSilent (.dct (AH.set_new hI (AH.set_new hS hd))) (.inl rfl) rfl, ?_⟩
  refine WK.extLoop (n := kvs.length) (fun i ys τ => Sub σ τ ∧ τ S = some (.lst ys) ∧ ys.length = i ∧ i ≤ kvs.length ∧ τ I = some (keyIt d i kvs.length ep) ∧ ∀ (j : Nat) k w, j < i → kvs[j]? = some (k, w) → ∃ t : Tok, ys[j]? = some (Value.str k t))
    (fun ys τ => Sub σ τ ∧ τ S = some (.lst ys) ∧ ys.length = kvs.length ∧ ∀ (j : Nat) k w, kvs[j]? = some (k, w) → ∃ t : Tok, ys[j]? = some (Value.str k t))
    (fun i ys τ hi q => ?_) (fun ys τ q => ?_) (fun ys τ q => ⟨rfl, h S τ ys q.1 hS q.2.1 q.2.2.1 q.2.2.2⟩) kvs.length 0 [] _ (by omega) ⟨(Sub.set hS).trans (Sub.set hI), AH.set_new hI AH.set_self, rfl, Nat.zero_le _, AH.set_self, fun j k w hj => absurd hj (Nat.not_lt_zero _)⟩
  · obtain ⟨hs, hSy, hyl, _, hIo, hget⟩ := q
    have hv' : kvs[i]? = some (kvs[i].1, kvs[i].2) := by simp [hi]
    intro A s P E k p _
    refine wpAny_pyNext_dict_item (k.good.keyIter hIo) (k.good.at_ _ _ (hs _ _ hd)).1 hv' fun key h' hkey hit hs' => ?_
    obtain ⟨t, rfl⟩ := str_is hkey
    have y := After.upd' (t := s.toks) k.good hIo hs' (Mt.keyIter hit) (fun c m e => by cases e)
    refine p _ _ _ y ⟨_, rfl, by rw [AH.set_ne (Ne.symm hIS)]; exact hSy, by omega, subSetC (subSetC hs hI0) hS, AH.set_self, by simp [hyl], hi, by rw [AH.set_ne hIS]; exact AH.set_self, fun j k' w hj hkw => ?_⟩
    rcases Nat.lt_or_ge j i with hji | hji
    · obtain ⟨t', e1⟩ := hget j k' w hji hkw
      exact ⟨t', by rw [List.getElem?_append_left (by omega)]; exact e1⟩
    · have : j = i := by omega
      subst this
      rw [hv'] at hkw; cases hkw
      exact ⟨t, by rw [List.getElem?_append_right (by omega), hyl]; simp⟩
  · obtain ⟨hs, hSy, hyl, _, hIo, hget⟩ := q
    intro A s P E k p _
    refine wpAny_pyNext_dict_end k.room.hd (k.good.keyIter hIo) (k.good.at_ _ _ (hs _ _ hd)).1 (by simp) fun h' hx => ?_
    have y := After.lose (t := s.toks) k.good hIo trivial hx
    refine p _ _ _ y ⟨rfl, hs.drop hI0, by rw [AH.drop_ne (Ne.symm hIS)]; exact hSy, hyl, fun j k' w hkw => hget j k' w ?_ hkw⟩
    rcases Nat.lt_or_ge j kvs.length with q | q
    · exact q
    · rw [List.getElem?_eq_none q] at hkw; cases hkw
end Mine
end
section
open PySem PySem.W PyProof.Rows Builtin
set_option Elab.async false
set_option maxRecDepth 100000
set_option autoImplicit false
set_option linter.unusedVariables false
namespace Mine
variable {C : Cx} {b : Nat} {σ : AH}

/-- what has become of a state, all but the generator g -/
structure AfterG (C : Cx) (g : Nat) (σ : AH) (s : Shared) (σ' : AH) (s' : Shared) : Prop where
  good : Good C σ' s'.heap
  step : Step σ s.heap σ' s'.heap
  os : s'.os = s.os
  drawn : s'.drawn = s.drawn
  old : ∀ (i : Nat) (x : GenState), i ≠ g → s.gens[i]? = some x → s'.gens[i]? = some x
  bare : ∀ (i : Nat) (x : GenState), i ≠ g → s'.gens[i]? = some x → s.gens[i]? = some x ∨ x.bare = true
  tk : s.toks ≤ s'.toks
  lo : C.lo ≤ s.toks

theorem AfterG.refl {g : Nat} {s : Shared} (h : Good C σ s.heap) (hlo : C.lo ≤ s.toks) : AfterG C g σ s σ s := ⟨h, .refl _ _, rfl, rfl, fun _ _ _ e => e, fun _ _ _ e => .inl e, Nat.le_refl _, hlo⟩
theorem AfterG.next {g : Nat} {σ' σ'' : AH} {s s' s'' : Shared} (x : AfterG C g σ s σ' s') (y : After C σ' s' σ'' s'') : AfterG C g σ s σ'' s'' :=
  ⟨y.good, x.step.trans y.step, y.ext.os.trans x.os, y.ext.drawn.trans x.drawn, fun i z n e => y.ext.old i z (x.old i z n e), fun i z n e => by
    rcases y.ext.bare i z e with h | h
    · exact x.bare i z n h
    · exact .inr h, Nat.le_trans x.tk y.tk, x.lo⟩
theorem setGen_other {s : Shared} {g i : Nat} {x : GenState} (h : i ≠ g) : (s.setGen g x).gens[i]? = s.gens[i]? := (GenOnly.setGen s g x).2 i h
theorem AfterG.set {g : Nat} {σ' : AH} {s s' : Shared} (x : AfterG C g σ s σ' s') (y : GenState) : AfterG C g σ s σ' (s'.setGen g y) :=
  ⟨x.good, x.step, x.os, x.drawn, fun i z n e => by rw [setGen_other n]; exact x.old i z n e, fun i z n e => x.bare i z n (by rw [setGen_other n] at e; exact e), x.tk, x.lo⟩
/-- a generator's call never shows the object of the generator -/
theorem AfterG.isGen {g : Nat} {σ' : AH} {s s' : Shared} {a : Addr} (x : AfterG C g σ s σ' s') (ha : σ a = none) (h : s.heap.IsGen a g) : σ' a = none ∧ s'.heap.IsGen a g := by
  obtain ⟨o, nm, qn, ho, hc, r⟩ := h
  obtain ⟨z, o', h1, h2⟩ := x.step.like a o ha ho
  refine ⟨z, o', nm, qn, h1, ?_⟩
  rcases h2 with rfl | ⟨h2, _⟩ | ⟨vs, more, rfl, _⟩
  · exact ⟨hc, r⟩
  · rw [hc] at h2; exact absurd h2 (by simp)
  · cases hc

def genLoop (elt target iter : Expr) (ifs : List Expr) (scope : Scope) (pos : Pos) (it : Value) (cenv : Env) : Code := .compLoop (.GeneratorExp elt [⟨target, iter, ifs, 0⟩] scope pos) 0 it .none cenv

theorem Ok.over {A : Around} {s : Shared} {elt target iter : Expr} {ifs : List Expr} {scope : Scope} {pos : Pos} {it : Value} {cenv : Env} {GL : Addr} {m : List (Str × Value)} (o : Ok C (b + 1) A σ s) (hk : cenv.scope.kind = .function) (hf : cenv.frame = some GL) (hL : σ GL = some (.ns "frame" m)) (c : Code)
    (hc : c = .compLoop (.GeneratorExp elt [⟨target, iter, ifs, 0⟩] scope pos) 0 it .none cenv ∨ c = .compStart (.GeneratorExp elt [⟨target, iter, ifs, 0⟩] scope pos) 0 it .none cenv) : Ok C b (A.over c []) σ s := by
  have e1 : (A.over c []).handled = A.handled := rfl
  have e2 : (A.over c []).depth = A.depth + 1 := by rcases hc with rfl | rfl <;> rfl
  have e3 : (A.over c []).units = A.units + 3 := by rcases hc with rfl | rfl <;> rfl
  have e4 : (A.over c []).frames = A.frames.map (cenv :: ·) := by
    rcases hc with rfl | rfl
    · show pushEnvs [cenv] (pushEnvs [] A.frames) = _
      rw [pushEnvs_eq, pushEnvs_eq]; cases A.frames <;> rfl
    · show pushEnvs [cenv] (pushEnvs [] A.frames) = _
      rw [pushEnvs_eq, pushEnvs_eq]; cases A.frames <;> rfl
  refine ⟨o.good, ⟨by rw [e1]; exact o.room.hd, by rw [e2]; have := o.room.depth; omega, by rw [e3]; have := o.room.units; omega, ?_⟩, o.tk⟩
  obtain ⟨l, e, f⟩ := o.room.frames
  refine ⟨cenv :: l, by rw [e4, e]; rfl, fun env he => ?_⟩
  rcases List.mem_cons.mp he with rfl | he
  · exact ⟨hk, GL, hf, o.good.notBase hL, .inl ⟨m, hL⟩⟩
  · exact f _ he

theorem compTurn_genT (elt target iter : Expr) (ifs : List Expr) (scope : Scope) (pos : Pos) (it acc : Value) (env : Env) :
    compTurn (.GeneratorExp elt [⟨target, iter, ifs, 0⟩] scope pos) 0 it acc env = (do
      standAt iter.pos
      match ← pyNext it with
      | none => pure (.done .next)
      | some v =>
        letOwnedTupleGo target it v
        assign target env v
        let ok ← tests env ifs
        if ok then
          (do let v ← eval elt env; standAt elt.pos; let _ ← yieldOut env v)
        again (.compLoop (.GeneratorExp elt [⟨target, iter, ifs, 0⟩] scope pos) 0 it acc env)) := by
  rw [compTurn_gen]; rfl

section
variable {elt target iter : Expr} {ifs : List Expr} {scope : Scope} {pos : Pos} {it : Value} {cenv : Env} {GL D : Addr} {g n₀ : Nat} {σi : AH} {si : Shared} {at_ : Nat → List Value → AH → Prop} {fin : List Value → AH → Prop}

/-- how a generator's turns go, seen from its consumer, whose list D takes what comes -/
structure Turns (C : Cx) (b : Nat) (elt target : Expr) (ifs : List Expr) (it : Value) (cenv : Env) (GL D : Addr) (n₀ : Nat) (at_ : Nat → List Value → AH → Prop) (fin : List Value → AH → Prop) : Prop where
  kind : cenv.scope.kind = .function
  co : cenv.scope.isCoroutine = false
  frame : cenv.frame = some GL
  shown : ∀ i ys σ, at_ i ys σ → (∃ m, σ GL = some (.ns "frame" m)) ∧ σ D = some (.lst ys) ∧ ys.length ≤ 9000
  self_ : ∀ i ys σ, at_ i ys σ → W C b (pyIter it) σ (fun v σ' => v = it ∧ at_ i ys σ') noX
  turn : ∀ i ys σ, i ≤ n₀ → at_ i ys σ → W C b (pyNext it) σ (fun r σ₁ => match r with
    | none => fin ys σ₁ ∧ (∃ m, σ₁ GL = some (.ns "frame" m))
    | some v => i < n₀ ∧ W C b (letOwnedTupleGo target it v) σ₁ (fun _ σ₂ => W C b (assign target cenv v) σ₂ (fun _ σ₃ => W C b (tests cenv ifs) σ₃ (fun ok σ₄ =>
        (ok = false → at_ (i + 1) ys σ₄) ∧ (ok = true → W C b (eval elt cenv) σ₄ (fun y σ₅ => σ₅ D = some (.lst ys) ∧ at_ (i + 1) (ys ++ [y]) (σ₅.set D (.lst (ys ++ [y])))) noX)) noX) noX) noX) noX

def GR (C : Cx) (g : Nat) (σi : AH) (si : Shared) (fin : List Value → AH → Prop) : Nat → Shared → Shared → Prop := fun _ _ s₁ => ∃ σ ys, AfterG C g σi si σ s₁ ∧ s₁.gens[g]? = some .running ∧ fin ys σ
def GY (C : Cx) (g : Nat) (σi : AH) (si : Shared) (D : Addr) (n₀ : Nat) (at_ : Nat → List Value → AH → Prop) : Protocol := fun m _ v s kap => ∃ σ i ys, AfterG C g σi si σ s ∧ s.gens[g]? = some .running ∧ σ D = some (.lst ys) ∧ ys.length ≤ 9000 ∧
  at_ (i + 1) (ys ++ [v]) (σ.set D (.lst (ys ++ [v]))) ∧ i < n₀ ∧ n₀ - (i + 1) ≤ m ∧ ∀ σ'' s'', AfterG C g σi si σ'' s'' → s''.gens[g]? = some .running → at_ (i + 1) (ys ++ [v]) σ'' → kap (.send .none) s''

theorem Room.afterG {A : Around} {σ' : AH} {s' : Shared} (r : Room C b A σi si.heap) (y : AfterG C g σi si σ' s') : Ok C b A σ' s' := ⟨y.good, r.next y.step, Nat.le_trans y.lo y.tk⟩

theorem After.gens {σ σ' : AH} {s s' : Shared} {x : GenState} (y : After C σ s σ' s') (h : s.gens[g]? = some x) : s'.gens[g]? = some x := y.ext.old _ _ h

theorem seg_gen {A : Around} (T : Turns C b elt target ifs it cenv GL D n₀ at_ fin) (hr : Room C (b + 1) A σi si.heap) :
    ∀ (k i m : Nat) (ys : List Value) (σ : AH) (s₀ s : Shared), i + k = n₀ → k ≤ m → AfterG C g σi si σ s → s.gens[g]? = some .running → at_ i ys σ →
      Seg (model C.prog C.w) A (fun n s₀ r s₁ => r = .ok .next ∧ GR C g σi si fin n s₀ s₁) (GY C g σi si D n₀ at_) m s₀ (genLoop elt target iter ifs scope pos it cenv)
        ((model C.prog C.w).den (genLoop elt target iter ifs scope pos it cenv)) [] s := by
  intro k
  induction k with
  | zero =>
    intro i m ys σ s₀ s hk hm y hg ha
    obtain ⟨⟨mm, hGL⟩, hD, hlen⟩ := T.shown _ _ _ ha
    have o : Ok C b (A.over (genLoop elt target iter ifs scope pos it cenv) []) σ s := Ok.over (hr.afterG y) T.kind T.frame hGL _ (.inl rfl)
    show Seg _ A _ _ _ s₀ _ ((compTurn (.GeneratorExp elt [⟨target, iter, ifs, 0⟩] scope pos) 0 it .none cenv).onRaise (leaving cenv)) [] s
    rw [compTurn_genT, Sem.onRaise_eq_wrap]
    refine seg_bind_wrap (wpAny_standAt ?_)
    refine seg_bind_wrap (T.turn i ys σ (by omega) ha _ _ _ _ o (fun r σ₁ s₁ y₁ q => ?_) fun _ _ _ _ q => q.elim)
    cases r with
    | none => exact seg_end (.ok .next) ⟨rfl, σ₁, ys, y.next y₁, y₁.gens hg, q.1⟩
    | some v => exact absurd q.1 (by omega)
  | succ k ih =>
    intro i m ys σ s₀ s hk hm y hg ha
    obtain ⟨⟨mm, hGL⟩, hD, hlen⟩ := T.shown _ _ _ ha
    have o : Ok C b (A.over (genLoop elt target iter ifs scope pos it cenv) []) σ s := Ok.over (hr.afterG y) T.kind T.frame hGL _ (.inl rfl)
    show Seg _ A _ _ _ s₀ _ ((compTurn (.GeneratorExp elt [⟨target, iter, ifs, 0⟩] scope pos) 0 it .none cenv).onRaise (leaving cenv)) [] s
    rw [compTurn_genT, Sem.onRaise_eq_wrap]
    refine seg_bind_wrap (wpAny_standAt ?_)
    refine seg_bind_wrap (T.turn i ys σ (by omega) ha _ _ _ _ o (fun r σ₁ s₁ y₁ q => ?_) fun _ _ _ _ q => q.elim)
    cases r with
    | none => exact seg_end (.ok .next) ⟨rfl, σ₁, ys, y.next y₁, y₁.gens hg, q.1⟩
    | some v =>
      obtain ⟨hi, q⟩ := q
      have o₁ := o.next y₁
      refine seg_bind_wrap (q _ _ _ _ o₁ (fun _ σ₂ s₂ y₂ q => ?_) fun _ _ _ _ q => q.elim)
      have o₂ := o₁.next y₂
      refine seg_bind_wrap (q _ _ _ _ o₂ (fun _ σ₃ s₃ y₃ q => ?_) fun _ _ _ _ q => q.elim)
      have o₃ := o₂.next y₃
      refine seg_bind_wrap (q _ _ _ _ o₃ (fun ok σ₄ s₄ y₄ q => ?_) fun _ _ _ _ q => q.elim)
      have o₄ := o₃.next y₄
      have yy := ((y₁.trans y₂).trans y₃).trans y₄
      cases ok with
      | false =>
        simp only [Bool.false_eq_true, if_false]
        exact seg_again rfl (ih (i + 1) m ys σ₄ s₀ s₄ (by omega) (by omega) (y.next yy) (yy.gens hg) (q.1 rfl))
      | true =>
        obtain ⟨m', rfl⟩ : ∃ m', m = m' + 1 := ⟨m - 1, by omega⟩
        simp only [if_true]
        have hy : ∀ v, yieldOut cenv v = yieldValue v := fun v => by simp only [yieldOut, T.co, Bool.false_eq_true, if_false]
        simp only [hy]
        rw [Sem.bind_eq_wrap', Sem.bind_eq_wrap', Sem.wrap_wrap, Sem.wrap_wrap]
        refine seg_wrap (q.2 rfl _ _ _ _ o₄ (fun z σ₅ s₅ y₅ q => ?_) fun _ _ _ _ q => q.elim)
        have y5 := yy.trans y₅
        refine seg_at (seg_yield rfl rfl rfl ⟨σ₅, i, ys, y.next y5, y5.gens hg, q.1, hlen, q.2, hi, by omega, fun σ'' s'' y'' hg'' ha'' => ?_⟩)
        exact seg_again rfl (ih (i + 1) m' _ σ'' s'' s'' (by omega) (by omega) y'' hg'' ha'')

theorem seg_genBegin {A : Around} (T : Turns C b elt target ifs it cenv GL D n₀ at_ fin) (hr : Room C (b + 1) A σi si.heap) (ys : List Value) (σ : AH) (s₀ s : Shared) (y : AfterG C g σi si σ s) (hg : s.gens[g]? = some .running) (ha : at_ 0 ys σ) :
    Seg (model C.prog C.w) A (fun n s₀ r s₁ => r = .ok .next ∧ GR C g σi si fin n s₀ s₁) (GY C g σi si D n₀ at_) n₀ s₀ (.compStart (.GeneratorExp elt [⟨target, iter, ifs, 0⟩] scope pos) 0 it .none cenv)
        ((model C.prog C.w).den (.compStart (.GeneratorExp elt [⟨target, iter, ifs, 0⟩] scope pos) 0 it .none cenv)) [] s := by
  obtain ⟨⟨mm, hGL⟩, hD, hlen⟩ := T.shown _ _ _ ha
  have o : Ok C b (A.over (.compStart (.GeneratorExp elt [⟨target, iter, ifs, 0⟩] scope pos) 0 it .none cenv) []) σ s := Ok.over (hr.afterG y) T.kind T.frame hGL _ (.inr rfl)
  show Seg _ A _ _ _ s₀ _ ((compStart (.GeneratorExp elt [⟨target, iter, ifs, 0⟩] scope pos) 0 it .none cenv).onRaise (leaving cenv)) [] s
  unfold compStart
  rw [Sem.onRaise_eq_wrap]
  show Seg _ A _ _ _ s₀ _ ((ask >>= _).wrap _ _ _ _) [] s
  refine seg_bind_wrap (wpAny_askSetting ?_)
  split
  · exact seg_again rfl (seg_gen T hr n₀ 0 n₀ ys σ s₀ s (by omega) (by omega) y hg ha)
  · refine seg_bind_wrap (wpAny_rule ?_)
    show Seg _ A _ _ _ s₀ _ ((standAt iter.pos >>= _).wrap _ _ _ _) [] s
    refine seg_bind_wrap (wpAny_standAt (seg_bind_wrap (T.self_ 0 ys σ ha _ _ _ _ o (fun v σ₁ s₁ y₁ q => ?_) fun _ _ _ _ q => q.elim)))
    obtain ⟨rfl, ha₁⟩ := q
    exact seg_again rfl (seg_gen T hr n₀ 0 n₀ ys σ₁ s₀ s₁ (by omega) (by omega) (y.next y₁) (y₁.gens hg) ha₁)
end
end Mine
end
section
open PySem PySem.W PyProof.Rows Builtin
set_option Elab.async false
set_option maxRecDepth 100000
set_option autoImplicit false
set_option linter.unusedVariables false
namespace Mine
variable {C : Cx} {b : Nat} {σ : AH}
section
variable {elt target iter : Expr} {ifs : List Expr} {scope : Scope} {pos : Pos} {it : Value} {cenv : Env} {GL D a : Addr} {g n₀ : Nat} {σi : AH} {si : Shared} {at_ : Nat → List Value → AH → Prop} {fin : List Value → AH → Prop}

theorem gen_extendLoop {A : Around} {res : Value} {R : Result → Shared → Prop} (hr : Room C 1 A σi si.heap) (ha : σi a = none) (hg : si.heap.IsGen a g)
    (hD : ∀ i ys σ, at_ i ys σ → σ D = some (.lst ys) ∧ ys.length ≤ 9000)
    (hR : ∀ σ s ys, AfterG C g σi si σ s → s.gens[g]? = some .finished → fin ys σ → R (.ok (.ret res)) s) :
    ∀ (k i : Nat) (ys : List Value) (σ : AH) (s : Shared) (gs : GenState), n₀ - i ≤ k → AfterG C g σi si σ s → s.gens[g]? = some gs → at_ i ys σ →
      (∀ σ'' s'', AfterG C g σi si σ'' s'' → s''.gens[g]? = some .running → at_ i ys σ'' → gs.Goes (model C.prog C.w) A.in1.in1 (fun n s₀ r s₁ => r = .ok .next ∧ GR C g σi si fin n s₀ s₁) (GY C g σi si D n₀ at_) k (.send .none) s'') →
      codeAny (model C.prog C.w) A (.builtin "list.extend.loop" ⟨[.ref D, .ref a, res], []⟩) R s := by
  intro k
  induction k with
  | zero =>
    intro i ys σ s gs hk y hgs hat hgo
    refine codeAny_builtin F.entry_extend_loop ?_
    rw [Around.under_plainId F.plain_extend_loop _]
    show wpAny _ A.in1 (pyNext (.ref a) >>= _) _ _ s
    have rm := hr.next y.step
    refine wpAny_bind (wpAny_pyNext_genexpQ (P := GR C g σi si fin) (Y := GY C g σi si D n₀ at_) (n := 0) rm.hd y.good.lim rm.lim (y.isGen ha hg).2 hgs (hgo σ _ (y.set _) (setGen_self hgs) hat) (fun v s₁ gs' hb hv => ?_) (fun s₁ hp h' hk' => ?_))
    · obtain ⟨σ₁, j, zs, y₁, g₁, d₁, l₁, a₁, hj, hm, kap⟩ := hv
      exact (kap _ _ ((y₁.next (lst_upd (t := s₁.toks) (f := fun x => x.push v) y₁.good d₁ (by simp)))) g₁ a₁).elim
    · obtain ⟨σ₁, zs, y₁, g₁, f₁⟩ := hp
      refine wpAny_pure (hR σ₁ _ zs ?_ (setGen_self g₁) f₁)
      exact (y₁.next (After.keeps (t := s₁.toks) y₁.good hk')).set .finished
  | succ k ih =>
    intro i ys σ s gs hk y hgs hat hgo
    refine codeAny_builtin F.entry_extend_loop ?_
    rw [Around.under_plainId F.plain_extend_loop _]
    show wpAny _ A.in1 (pyNext (.ref a) >>= _) _ _ s
    have rm := hr.next y.step
    refine wpAny_bind (wpAny_pyNext_genexpQ (P := GR C g σi si fin) (Y := GY C g σi si D n₀ at_) (n := k + 1) rm.hd y.good.lim rm.lim (y.isGen ha hg).2 hgs (hgo σ _ (y.set _) (setGen_self hgs) hat) (fun v s₁ gs' hb hv => ?_) (fun s₁ hp h' hk' => ?_))
    · obtain ⟨σ₁, j, zs, y₁, g₁, d₁, l₁, a₁, hj, hm, kap⟩ := hv
      obtain ⟨n, e⟩ := y₁.good.at_ _ _ d₁
      show wpAny _ A.in1 (updateSeq D (·.push v) >>= _) _ _ _
      refine wpAny_bind (wpAny_updateSeq (s := s₁.setGen g gs') (a := D) (f := fun x => x.push v) e rfl ?_ (by rw [List.size_toArray, sizeLine_eq]; omega) (by rw [Array.size_push, List.size_toArray, sizeLine_eq]; omega))
      have y₂ := (y₁.next (lst_upd (t := s₁.toks) (f := fun x => x.push v) y₁.good d₁ (ws := zs ++ [v]) (by simp))).set gs'
      exact wpAny_pure ⟨plainId_quiet F.plain_extend_loop _, ih (j + 1) _ _ _ gs' (by simp at hm; omega) y₂ (setGen_self g₁) a₁ fun σ'' s'' y'' g'' a'' => kap σ'' s'' y'' g'' a''⟩
    · obtain ⟨σ₁, zs, y₁, g₁, f₁⟩ := hp
      refine wpAny_pure (hR σ₁ _ zs ?_ (setGen_self g₁) f₁)
      exact (y₁.next (After.keeps (t := s₁.toks) y₁.good hk')).set .finished
end
end Mine
end
section
open PySem PySem.W PyProof.Rows Builtin
set_option Elab.async false
set_option maxRecDepth 100000
set_option autoImplicit false
set_option linter.unusedVariables false
namespace Mine
variable {C : Cx} {b : Nat} {σ : AH}

/-- what a generator expression of the code object c wants -/
structure Gens (C : Cx) (c P : Addr) : Prop where
  bm : ∃ bm ob, BMod C.h₁ mainGlobals C.mg bm ob
  tab : ∃ ps, C.h₁.IsCode c P ps ∧ C.h₁.TableAt c P ps

theorem Gens.at_ {c P : Addr} (G : Gens C c P) {h : Heap} (g : Good C σ h) : ∃ ps, h.IsCode c P ps ∧ h.TableAt c P ps := by
  obtain ⟨ps, ic, ta⟩ := G.tab
  obtain ⟨o, vs, file, tf, flags, tg, inF, text, tt, op, ho, hd, h11, h2, h7, h9, h10, hop, hpd, htr, hne⟩ := ic
  obtain ⟨⟨oc, vc, hoc, hcc, hdc, h11c⟩, htP⟩ := ta
  have e1 : oc = o := Option.some.inj (hoc.symm.trans ho)
  subst e1
  have e2 : op = tbl ps := Option.some.inj (hop.symm.trans htP)
  subst e2
  have k1 : h.get? c = some oc := by
    rcases (g.base c _ ho).2 with x | ⟨_, _, _, _, rfl, _⟩
    · exact x
    · cases hcc
  have k2 : ∃ ps', h.get? P = some (tbl ps') ∧ TriplesOk ps'.toList := by
    rcases (g.base P _ hop).2 with x | ⟨_, ps2, more, _, e, x, t⟩
    · exact ⟨ps, x, htr⟩
    · exact ⟨_, x, t⟩
  obtain ⟨ps', k2, k3⟩ := k2
  exact ⟨ps', ⟨oc, vs, file, tf, flags, tg, inF, text, tt, _, k1, hd, h11, h2, h7, h9, h10, k2, rfl, k3, hne⟩, ⟨oc, vc, k1, hcc, hdc, h11c⟩, k2⟩

/-- the table of a code object grows -/
theorem After.table {c P : Addr} (G : Gens C c P) {s : Shared} {h' : Heap} {t : Nat} {ps more : Array Value} (g : Good C σ s.heap) (t0 : s.heap.TableAt c P ps) (k : Heap.ExtBut P s.heap h') (i' : h'.IsCode c P (ps ++ more)) (t1 : h'.TableAt c P (ps ++ more))
    (ht : s.toks ≤ t := by first | exact Nat.le_refl _ | exact Nat.le_add_right _ _ | (simp only [Nat.add_assoc]; exact Nat.le_add_right _ _) | assumption | omega) : After C σ s σ { s with heap := h', toks := t } := by
  obtain ⟨ps0, ic0, ta0⟩ := G.tab
  have hP0 : C.h₁.get? P = some (tbl ps0) := ta0.2
  have hσP : σ P = none := (g.base P _ hP0).1
  have htr : TriplesOk (ps ++ more).toList := by
    obtain ⟨o, vs, file, tf, flags, tg, inF, text, tt, op, ho, hd, h11, h2, h7, h9, h10, hop, hpd, htr, hne⟩ := i'
    exact htr
  have hgrow : Grown C P (tbl ps0) h' := by
    have : ∃ m0, ps = ps0 ++ m0 := by
      rcases (g.base P _ hP0).2 with x | ⟨c2, ps2, m2, ta2, e, x, _⟩
      · have : s.heap.get? P = some (tbl ps) := t0.2
        rw [x] at this
        have := congrArg Obj.data (Option.some.inj this)
        simp only [tbl] at this
        injection this with this
        exact ⟨#[], by simp [this]⟩
      · have h1 : s.heap.get? P = some (tbl ps) := t0.2
        rw [x] at h1
        have := congrArg Obj.data (Option.some.inj h1)
        simp only [tbl] at this
        injection this with this
        have e' := congrArg Obj.data e
        simp only [tbl] at e'
        injection e' with e'
        exact ⟨m2, by rw [e', this]⟩
    obtain ⟨m0, rfl⟩ := this
    exact ⟨c, ps0, m0 ++ more, ta0, rfl, by rw [← Array.append_assoc]; exact t1.2, by rw [← Array.append_assoc]; exact htr⟩
  refine ⟨⟨fun x o e => ⟨(g.base x o e).1, ?_⟩, fun a o e => ?_⟩, ⟨fun x o e e' => ⟨e, ?_⟩, fun _ _ m e => ⟨m, e⟩⟩, .same, ht⟩
  · by_cases hx : x = P
    · subst hx
      rw [hP0] at e; cases e
      exact .inr hgrow
    · exact (g.base x o e).2.imp (fun q => k _ _ hx q) fun q => q.keeps fun o q => k _ _ hx q
  · have ha : a ≠ P := fun q => by rw [q, hσP] at e; cases e
    exact (g.at_ a o e).keeps fun y q => k _ _ ha q
  · by_cases hx : x = P
    · subst hx
      have e2 : s.heap.get? x = some (tbl ps) := t0.2
      rw [e2] at e'; cases e'
      exact ⟨_, t1.2, .inr (.inr ⟨ps, more, rfl, rfl, fun _ => htr⟩)⟩
    · exact ⟨o, k _ _ hx e', .refl o⟩

theorem wpAny_evalArgs1 {M : Model} {A : Around} {E : Value → Shared → Prop} {s : Shared} {f : Value} {t : Sem Value} {Q : Args → Shared → Prop} (h : wpAny M A t (fun v s' => Q ⟨[v], []⟩ s') E s) : wpAny M A (evalArgs f true [(false, t)] []) Q E s := by
  unfold evalArgs
  show wpAny M A (spliced [(false, t)] >>= _) Q E s
  refine wpAny_bind ?_
  rw [spliced]
  refine wpAny_bind (wpAny_mono h (fun v s₁ q => ?_) fun _ _ e => e)
  simp only [Bool.false_eq_true, if_false]
  refine wpAny_bind (wpAny_pure (wpAny_bind (wpAny_holding (wpAny_pure (wpAny_pure ?_)))))
  refine wpAny_bind (wpAny_pure ?_)
  refine wpAny_holding ?_
  exact wpAny_bind (wpAny_pure (wpAny_bind (wpAny_pure (wpAny_pure q))))

theorem AH.set_eq {a : Addr} {o : AO} (h : σ a = some o) : σ.set a o = σ := by
  funext c
  unfold AH.set
  by_cases e : c = a
  · subst e; rw [if_pos rfl, h]
  · rw [if_neg e]

theorem Room.in1 {A : Around} {h : Heap} (r : Room C (b + 1) A σ h) : Room C b A.in1 σ h := ⟨r.hd, by have := r.depth; show A.depth + b < 900; omega, by have := r.units; show A.units + 1 + 16 * b < 9000; omega, r.frames⟩

section
variable {elt target iter : Expr} {ifs : List Expr} {scope : Scope} {pos : Pos} {it : Value} {cenv : Env} {GL D a : Addr} {g n₀ : Nat} {σi : AH} {si : Shared} {at_ : Nat → List Value → AH → Prop} {fin : List Value → AH → Prop}
theorem gen_extend {A : Around} {R : Result → Shared → Prop} {ys0 : List Value} (T : Turns C b elt target ifs it cenv GL D n₀ at_ fin) (hr : Room C (b + 1) A.in1.in1 σi si.heap) (hr1 : Room C 1 A σi si.heap) (ha : σi a = none) (hg : si.heap.IsGen a g)
    (hgs : si.gens[g]? = some (.fresh (.compStart (.GeneratorExp elt [⟨target, iter, ifs, 0⟩] scope pos) 0 it .none cenv))) (hgood : Good C σi si.heap) (hlo : C.lo ≤ si.toks) (hat : at_ 0 ys0 σi)
    (hR : ∀ σ s ys, AfterG C g σi si σ s → s.gens[g]? = some .finished → fin ys σ → R (.ok (.ret .none)) s) : codeAny (model C.prog C.w) A (.call (.builtin "list.extend") ⟨[.ref D, .ref a], []⟩) R si := by
  have hD := (T.shown _ _ _ hat).2
  have hDa : D ≠ a := fun e => by rw [e, ha] at hD; cases hD.1
  refine codeAny_call_builtin F.slot_list_extend.plain F.entry_list_extend (F.slot_list_extend.check _ _ _ _ _ _ _ _ ((Ty.lst hD.1).is hgood) (F.args_list_extend_2 _ _) ?_)
  show wpAny _ A.in1 (Builtin.List.listExtendWith (.ref D) (.ref a) .none) _ _ si
  unfold Builtin.List.listExtendWith
  refine wpAny_bind (wpAny_typeOf hg.typeIs ?_)
  have h1 : Builtin.List.listSameRef (.ref D) (.ref a) = false := by simp [Builtin.List.listSameRef, hDa]
  have h2 : (Value.type "generator" == Value.type "list") = false := by decide
  have h3 : (Value.type "generator" == Value.type "tuple") = false := by decide
  simp only [h1, h2, h3, Bool.or_false, Bool.false_eq_true, if_false]
  refine wpAny_bind (wpAny_pyIter_gen hg ?_)
  refine wpAny_bind (wpAny_holding ?_)
  unfold Builtin.List.listLengthHint
  refine wpAny_bind (wpAny_specialOf hg.typeIs F.gen_no_len ?_)
  show wpAny _ A.in1 (specialOf (Value.ref a) (Str.ofString "__length_hint__") >>= _) _ _ _
  refine wpAny_bind (wpAny_specialOf hg.typeIs F.gen_no_hint ?_)
  refine wpAny_pure ?_
  show wpAny _ A.in1 (rule "list.extend.makes-room" >>= fun _ => Builtin.List.listTouch (.ref D) >>= fun _ =>
    again (.builtin "list.extend.loop" ⟨[.ref D, .ref a, .none], []⟩)) _ _ _
  refine wpAny_bind (wpAny_rule ?_)
  refine wpAny_bind ?_
  show wpAny _ A.in1 (updateSeq D (·.push .none) >>= fun _ => updateSeq D (·.pop)) _ _ _
  obtain ⟨n, e⟩ := hgood.at_ _ _ hD.1
  have y1 := lst_upd (t := si.toks) (f := fun x => x.push Value.none) (ws := ys0 ++ [.none]) hgood hD.1 (by simp)
  obtain ⟨n1, e1⟩ := y1.good.at_ _ _ AH.set_self
  refine wpAny_bind (wpAny_updateSeq e rfl ?_ (by rw [List.size_toArray, sizeLine_eq]; omega) (by rw [Array.size_push, List.size_toArray, sizeLine_eq]; omega))
  refine wpAny_updateSeq e1 rfl ?_ (by rw [List.size_toArray, sizeLine_eq]; simp; omega) (by rw [Array.size_pop, List.size_toArray, sizeLine_eq]; simp; omega)
  have y2 := lst_upd (t := si.toks) (f := fun x => x.pop) (ws := ys0) y1.good AH.set_self (by simp)
  rw [AH.set_set, AH.set_eq hD.1] at y2
  have y0 : AfterG C g σi si σi _ := (AfterG.refl hgood hlo).next (y1.trans y2)
  refine wpAny_pure ⟨plainId_quiet F.plain_extend_loop _, gen_extendLoop (n₀ := n₀) hr1 ha hg (fun i ys σ h => (T.shown i ys σ h).2) hR n₀ 0 ys0 σi _ _ (by omega) y0 hgs hat fun σ'' s'' y'' g'' a'' => ⟨rfl, seg_genBegin T hr ys0 σ'' s'' s'' y'' g'' a''⟩⟩
end

theorem After.genEnd {σ₄ σ' : AH} {s s₄ s' : Shared} {x : GenState} {h' : Heap} {t : Nat} (y : After C σ s σ₄ s₄) (hk : ∀ x o, s₄.heap.get? x = some o → h'.get? x = some o) (y' : AfterG C s₄.gens.size σ₄ { s₄ with gens := s₄.gens.push x, toks := t, heap := h' } σ' s') (g' : s'.gens[s₄.gens.size]? = some .finished) (ht : s₄.toks ≤ t := by first | exact Nat.le_refl _ | exact Nat.le_add_right _ _ | (simp only [Nat.add_assoc]; exact Nat.le_add_right _ _) | assumption | omega) : After C σ s σ' s' := by
  refine ⟨y'.good, y.step.trans ((Step.keeps hk).trans y'.step), ⟨y'.os.trans y.ext.os, y'.drawn.trans y.ext.drawn, fun i z e => ?_, fun i z e => ?_⟩, Nat.le_trans (Nat.le_trans y.tk ht) y'.tk⟩
  · have e4 := y.ext.old i z e
    have hi : i < s₄.gens.size := by
      rcases Nat.lt_or_ge i s₄.gens.size with h | h
      · exact h
      · rw [Array.getElem?_eq_none h] at e4; cases e4
    exact y'.old i z (Nat.ne_of_lt hi) (by rw [Array.getElem?_push_lt hi]; rw [Array.getElem?_eq_getElem hi] at e4; exact e4)
  · by_cases hi : i = s₄.gens.size
    · subst hi
      rw [g'] at e; cases e
      exact .inr rfl
    · rcases y'.bare i z hi e with h | h
      · have h' : (s₄.gens.push x)[i]? = some z := h
        rw [Array.getElem?_push, if_neg hi] at h'
        exact y.ext.bare i z h'
      · exact .inr h
section
variable {elt target iter : Expr} {ifs : List Expr} {scope : Scope} {gpos pos : Pos} {env : Env}
/-- D.extend(generator expression) -/
theorem W.extendGen {D c P : Addr} {ys0 : List Value} {cl : List (Str × Addr)} {X : Value → AH → Prop} {Q : Value → AH → Prop} (G : Gens C c P) (hcode : env.code = .ref c) (hgl : env.globals = mainGlobals)
    (hco : scope.isCoroutine = false) (hclos : closureFor scope env = pure cl) (hcell : cellNames scope.names = []) (h0 : scope.names.lookup (".0" : Str) = some NameKind.local) (hkind : scope.kind = .function) (hs : ∀ x, genFold iter env x = pure x)
    (h : W C (b + 3) (eval iter env) σ (fun xv σ₁ => W C (b + 3) (pyIter xv) σ₁ (fun it σ₂ => ∀ GL code, σ₂ GL = none → ∃ n₀ at_ fin, Turns C b elt target ifs it (genEnv scope cl GL code builtinsNs env) GL D n₀ at_ fin ∧
      at_ 0 ys0 (σ₂.set GL (.ns "frame" [((".0" : Str), it)])) ∧ ∀ ys σ', fin ys σ' → ∃ H m, σ' = AH.set H GL (.ns "frame" m) ∧ H GL = none ∧ Q .none H) noX) noX) :
    W C (b + 3) (callWith pos (.builtin "list.extend") [.ref D] [(false, eval (.GeneratorExp elt [⟨target, iter, ifs, 0⟩] scope gpos) env)] []) σ Q X := by
  intro A s P' E o p _
  unfold callWith
  refine wpAny_bind (wpAny_holding (wpAny_evalArgs1 ?_))
  rw [eval_GeneratorExp1 _ _ _ _ _ _ _ hco, hclos]
  refine wpAny_bind (h A s _ _ o (fun xv σ₁ s₁ y₁ q => ?_) fun _ _ _ _ q => q.elim)
  refine wpAny_bind (wpAny_standAt ?_)
  refine wpAny_bind (wpAny_of_eq (hs xv) ?_)
  refine wpAny_bind (wpAny_holding (q A s₁ _ _ (o.next y₁) (fun it σ₂ s₂ y₂ q => ?_) fun _ _ _ _ q => q.elim))
  refine wpAny_bind (wpAny_enterFrame y₂.good.lim o.room.lim ?_)
  refine wpAny_bind (wpAny_pure ?_)
  obtain ⟨ps, ic, ta⟩ := G.at_ y₂.good
  have code_ : ∀ (Q' : Value → Shared → Prop), (∀ code s₃, After C σ₂ s₂ σ₂ s₃ → Q' code s₃) → wpAny (model C.prog C.w) A (genexprCode env gpos (env.qual ++ "<genexpr>") scope) Q' E s₂ := by
    intro Q' hQ'
    refine wpAny_tk ?_
    cases hnf : codeAmong gpos ps.toList with
    | some cv => exact wpAny_genexprCode_hit hcode ic hnf fun _ => hQ' _ _ (.refl y₂.good)
    | none => exact wpAny_genexprCodeX hcode ic ta hnf fun c' h' tk hx hge hlt hic hrec hta _ htk => hQ' _ _ (After.table G y₂.good ta hx hic hta htk)
  refine wpAny_bind (code_ _ fun code s₃ y₃ => ?_)
  have y03 := (y₁.trans y₂).trans y₃
  have bm_ : ∀ (Q' : Addr → Shared → Prop), Q' builtinsNs s₃ → wpAny (model C.prog C.w) A (builtinsFor env.globals env.builtins) Q' E s₃ := by
    intro Q' hQ'
    obtain ⟨bm, ob, B⟩ := G.bm
    have hob : s₃.heap.get? bm = some ob := by
      rcases (y₃.good.base bm _ B.obj).2 with x | ⟨_, _, _, _, rfl, _⟩
      · exact x
      · cases B.cls
    exact wpAny_builtinsFor (hgl ▸ Ns.of_good y₃.good B.ns) B.name B.ne hob B.cls B.dict B.data hQ'
  refine wpAny_bind (bm_ _ ?_)
  have hlb : localBinds scope.names [((".0" : Str), it)] = [((".0" : Str), it)] := by unfold localBinds; simp [h0]
  have env_ : W C (b + 3) (newFunctionEnv scope env.globals cl [((".0" : Str), it)] (env.qual ++ "<genexpr>.") none code none builtinsNs) σ₂ (fun cenv σ' => ∃ GL, σ₂ GL = none ∧ cenv = genEnv scope cl GL code builtinsNs env ∧ σ' = σ₂.set GL (.ns "frame" [((".0" : Str), it)])) noX := by
    refine W.newEnv_ hkind (by rw [hcell]; exact List.nodup_nil) (fun x hx => ?_) (fun n hn => by rw [hcell] at hn; cases hn) fun L hL => ?_
    · rcases List.mem_cons.mp hx with rfl | hx
      · exact .inl h0
      · cases hx
    · rw [hcell, hlb]
      intro _
      exact ⟨L, hL, rfl, rfl⟩
  refine wpAny_bind (env_ A s₃ _ _ ((o.next (y₁.trans y₂)).next y₃) (fun cenv σ₄ s₄ y₄ q₄ => ?_) fun _ _ _ _ q => q.elim)
  obtain ⟨GL, hGL, rfl, rfl⟩ := q₄
  have y04 := y03.trans y₄
  obtain ⟨n₀, at_, fin, T, hat, hfin⟩ := q GL code hGL
  simp only [newGenerator, newFields]
  refine wpAny_bind (wpAny_newGen (wpAny_bind (wpAny_mkText (wpAny_bind (wpAny_mkText (wpAny_newObj_type ?_ (by size_fits)))))))
  refine wpAny_bind (wpAny_standAt ?_)
  have hne : ∀ x o, s₄.heap.get? x = some o → (s₄.heap.push { cls := .type "generator", data := .fields #[.int s₄.gens.size 0, .str "<genexpr>" s₄.toks, .str (env.qual ++ "<genexpr>") (s₄.toks + 1)] }).get? x = some o := fun x o e => Heap.get?_push_of_some _ e
  have hgood := y₄.good.keeps hne
  have hroom := (o.next y04).room.next (Step.keeps (σ := σ₂.set GL (.ns "frame" [((".0" : Str), it)])) hne)
  have run : wpAny (model C.prog C.w) A (call (.builtin "list.extend") [.ref D, .ref s₄.heap.objs.size] []) P' E { s₄ with gens := s₄.gens.push (.fresh (.compStart (.GeneratorExp elt [⟨target, iter, ifs, 0⟩] scope gpos) 0 it .none (genEnv scope cl GL code builtinsNs env))), toks := s₄.toks + 1 + 1, heap := s₄.heap.push { cls := .type "generator", data := .fields #[.int s₄.gens.size 0, .str "<genexpr>" s₄.toks, .str (env.qual ++ "<genexpr>") (s₄.toks + 1)] } } := by
    refine wpAny_runValue (gen_extend T (Room.in1 (Room.in1 hroom)) ⟨hroom.hd, by have := hroom.depth; omega, by have := hroom.units; omega, hroom.frames⟩ y₄.good.fresh ⟨_, _, _, Heap.get?_push_size _ rfl, rfl, rfl, rfl⟩ (Array.getElem?_push_size ..) hgood (Nat.le_trans (o.next y04).tk (by show s₄.toks ≤ s₄.toks + 1 + 1; omega)) hat fun σ' s' ys y' g' f' => ?_)
    obtain ⟨H, m, rfl, hH, hq⟩ := hfin _ _ f'
    have z := After.genEnd y04 hne y' g'
    refine p _ H _ (z.cut (fun a o e => ?_) fun a c m e => ?_) hq
    · rw [AH.set_ne (fun e' => by rw [e', hH] at e; cases e)]; exact e
    · rw [AH.set_ne (fun e' => ?_)]
      obtain ⟨m', e2⟩ := y03.step.ns _ _ _ e
      rw [e', hGL] at e2; cases e2
  show wpAny _ A (call (.builtin "list.extend") [.ref D, .ref s₄.heap.objs.size] [] >>= fun r => holding [r] point >>= fun _ => pure r) _ _ _
  exact wpAny_bind (wpAny_mono run (fun r s q => wpAny_bind (wpAny_holding (wpAny_point (wpAny_pure q)))) fun _ _ e => e)
end
end Mine
end
section
open PySem PySem.W PyProof.Rows Builtin
set_option Elab.async false
set_option maxRecDepth 100000
set_option autoImplicit false
set_option linter.unusedVariables false
namespace Mine
variable {C : Cx} {b : Nat} {σ : AH}
theorem AH.put {a : Addr} {o : AO} (h : σ a = some o) : σ = (σ.drop a).set a o := by
  funext c
  unfold AH.set AH.drop
  by_cases e : c = a
  · subst e; rw [if_pos rfl, h]
  · rw [if_neg e, if_neg e]

/-- the turns of a generator over a source -/
theorem Turns.ofSrc {elt target : Expr} {ifs : List Expr} {it : Value} {cenv : Env} {GL D : Addr} {ι : Type} {st : ι → AH → (AH → Prop) → Prop} {need : AH → Prop} {n : Nat} {item : Nat → ι → Prop} {atS : Nat → AH → AH → Prop}
    (S : Src C b it target cenv ι st need n item atS) (hk : cenv.scope.kind = .function) (hco : cenv.scope.isCoroutine = false) (hf : cenv.frame = some GL)
    (hset : ∀ i small big o ys, atS i small big → small D = some (.lst ys) → atS i (small.set D o) (big.set D o)) (J : Nat → List Value → AH → Prop)
    (hJ : ∀ i ys K m, J i ys K → K GL = none → K D = some (.lst ys) ∧ ys.length ≤ 9000 ∧ need (K.set GL (.ns "frame" m)))
    (step : ∀ i ys K m x, i < n → J i ys K → K GL = none → item i x → st x (K.set GL (.ns "frame" m)) (fun σ₁ => W C b (tests cenv ifs) σ₁ (fun ok σ₂ =>
      (ok = false → ∃ K' m', σ₂ = AH.set K' GL (.ns "frame" m') ∧ K' GL = none ∧ J (i + 1) ys K') ∧
      (ok = true → W C b (eval elt cenv) σ₂ (fun y σ₃ => ∃ K' m', σ₃ = AH.set K' GL (.ns "frame" m') ∧ K' GL = none ∧ K' D = some (.lst ys) ∧ J (i + 1) (ys ++ [y]) (K'.set D (.lst (ys ++ [y])))) noX)) noX)) :
    Turns C b elt target ifs it cenv GL D n (fun i ys big => ∃ K m, atS i (AH.set K GL (.ns "frame" m)) big ∧ K GL = none ∧ J i ys K) (fun ys σ' => ∃ K m, σ' = AH.set K GL (.ns "frame" m) ∧ K GL = none ∧ J n ys K) where
  kind := hk
  co := hco
  frame := hf
  shown := fun i ys big h => by
    obtain ⟨K, m, h1, h2, h3⟩ := h
    have c := S.cut _ _ _ h1
    obtain ⟨k1, k2, k3⟩ := hJ _ _ _ m h3 h2
    refine ⟨⟨m, c.sub _ _ AH.set_self⟩, c.sub _ _ ?_, k2⟩
    rw [AH.set_ne (fun e => by rw [e, h2] at k1; cases k1)]; exact k1
  self_ := fun i ys big h => by
    obtain ⟨K, m, h1, h2, h3⟩ := h
    exact S.self_ _ _ _ _ h1 ⟨rfl, K, m, h1, h2, h3⟩
  turn := fun i ys big hi h => by
    obtain ⟨K, m, h1, h2, h3⟩ := h
    obtain ⟨k1, k2, k3⟩ := hJ _ _ _ m h3 h2
    rcases Nat.lt_or_eq_of_le hi with hlt | rfl
    · refine W.mono (S.next i _ big _ hlt h1 k3 fun x hx => step i ys K m x hlt h3 h2 hx) (fun r σ₁ q => ?_) fun _ _ x => x
      obtain ⟨v, rfl, q⟩ := q
      refine ⟨hlt, W.mono q (fun _ σ₂ q => W.mono q (fun _ σ₃ q => ?_) fun _ _ x => x) fun _ _ x => x⟩
      obtain ⟨σ', a', q⟩ := q
      refine W.mono (S.frame _ b _ _ _ _ _ a' q) (fun ok big' q => ?_) fun _ _ x => x
      obtain ⟨small', a2, q1, q2⟩ := q
      refine ⟨fun e => ?_, fun e => ?_⟩
      · obtain ⟨K', m', rfl, n1, j1⟩ := q1 e
        exact ⟨K', m', a2, n1, j1⟩
      · refine W.mono (S.frame _ b _ _ _ _ _ a2 (q2 e)) (fun y big3 q => ?_) fun _ _ x => x
        obtain ⟨small3, a3, K', m', rfl, n1, d1, j1⟩ := q
        have hne : D ≠ GL := fun e => by rw [e, n1] at d1; cases d1
        have dd : (AH.set K' GL (.ns "frame" m')) D = some (.lst ys) := by rw [AH.set_ne hne]; exact d1
        refine ⟨(S.cut _ _ _ a3).sub _ _ dd, K'.set D (.lst (ys ++ [y])), m', ?_, by rw [AH.set_ne (Ne.symm hne)]; exact n1, j1⟩
        rw [AH.set_comm hne]
        exact hset _ _ _ _ _ a3 dd
    · refine W.mono (S.done _ big (fun σ' => ∃ K m, σ' = AH.set K GL (.ns "frame" m) ∧ K GL = none ∧ J i ys K) h1 k3 ⟨K, m, rfl, h2, h3⟩) (fun r σ₁ q => ?_) fun _ _ x => x
      obtain ⟨rfl, q⟩ := q
      obtain ⟨K', m', rfl, q⟩ := q
      exact ⟨⟨K', m', rfl, q⟩, m', AH.set_self⟩
end Mine
end
section
open PySem PySem.W PyProof.Rows Builtin
set_option Elab.async false
set_option maxRecDepth 100000
set_option autoImplicit false
set_option linter.unusedVariables false
namespace Mine
variable {C : Cx} {b : Nat} {σ H K : AH} {X : Value → AH → Prop}

/-- a view with a cell and two lists beside the rest -/
def G4 (K : AH) (cc M S : Addr) (c : Value) (ms st : List Value) : AH := ((K.set cc (.cell (some c))).set M (.lst ms)).set S (.lst st)
structure Ap (K : AH) (cc M S L : Addr) : Prop where
  n1 : K cc = none
  n2 : K M = none
  n3 : K S = none
  n4 : K L = none
  d12 : cc ≠ M
  d13 : cc ≠ S
  d23 : M ≠ S
  d14 : cc ≠ L
  d24 : M ≠ L
  d34 : S ≠ L
variable {cc M S L : Addr} {c : Value} {ms st : List Value}
theorem G4.atC (h : Ap K cc M S L) : (G4 K cc M S c ms st) cc = some (.cell (some c)) := by unfold G4; rw [AH.set_ne h.d13, AH.set_ne h.d12, AH.set_self]
theorem G4.atM (h : Ap K cc M S L) : (G4 K cc M S c ms st) M = some (.lst ms) := by unfold G4; rw [AH.set_ne h.d23, AH.set_self]
theorem G4.atS : (G4 K cc M S c ms st) S = some (.lst st) := AH.set_self
theorem G4.noL (h : Ap K cc M S L) : (G4 K cc M S c ms st) L = none := by unfold G4; rw [AH.set_ne (Ne.symm h.d34), AH.set_ne (Ne.symm h.d24), AH.set_ne (Ne.symm h.d14)]; exact h.n4
theorem G4.sub (h : Ap K cc M S L) : Sub K (G4 K cc M S c ms st) := fun a o e => by
  unfold G4
  rw [AH.set_ne (fun z => by rw [z, h.n3] at e; cases e), AH.set_ne (fun z => by rw [z, h.n2] at e; cases e), AH.set_ne (fun z => by rw [z, h.n1] at e; cases e)]; exact e
theorem G4.setS {st' : List Value} : (G4 K cc M S c ms st).set S (.lst st') = G4 K cc M S c ms st' := by unfold G4; rw [AH.set_set]
theorem G4.setM {ms' : List Value} (h : Ap K cc M S L) : (G4 K cc M S c ms st).set M (.lst ms') = G4 K cc M S c ms' st := by unfold G4; rw [AH.set_comm (Ne.symm h.d23), AH.set_set]
theorem G4.setC {c' : Value} (h : Ap K cc M S L) : (G4 K cc M S c ms st).set cc (.cell (some c')) = G4 K cc M S c' ms st := by unfold G4; rw [AH.set_comm (Ne.symm h.d13), AH.set_comm (Ne.symm h.d12), AH.set_set]
theorem Ap.grow {K' : AH} (h : Ap K cc M S L) (n1 : K' cc = none) (n2 : K' M = none) (n3 : K' S = none) (n4 : K' L = none) : Ap K' cc M S L := ⟨n1, n2, n3, n4, h.d12, h.d13, h.d23, h.d14, h.d24, h.d34⟩
/-- a call whose contract does not speak of the four -/
theorem W.op4 {α : Type} {t : Sem α} {o : AO} {Q : α → AH → Prop} (h : Ap K cc M S L) (w : W C b t K (fun v K' => Ap K' cc M S L → Q v ((G4 K' cc M S c ms st).set L o)) noX) (ho : o.fr) : W C b t ((G4 K cc M S c ms st).set L o) Q X := by
  refine W.op (G4.noL h) ?_ ho
  unfold G4
  refine W.op (by rw [AH.set_ne (Ne.symm h.d23), AH.set_ne (Ne.symm h.d13)]; exact h.n3) (W.op (by rw [AH.set_ne (Ne.symm h.d12)]; exact h.n2) (W.op h.n1 (W.mono w (fun v K' q e1 e2 e3 e4 => ?_) fun _ _ x => x)))
  have e2' := AH.none_in e2
  have e3' := AH.none_in (AH.none_in e3)
  have e4' := AH.none_in (AH.none_in (AH.none_in e4))
  exact q (h.grow e1 e2' e3' e4')
/-- the four are told apart again -/
theorem G4.regroup {H' : AH} (h : Ap K cc M S L) (hs : Sub (G4 K cc M S c ms st) H') (hL : H' L = none) :
    ∃ K', H' = G4 K' cc M S c ms st ∧ Ap K' cc M S L ∧ Sub K K' ∧ (∀ a o, H' a = some o → o.isLst = false → o.isCell = false → K' a = some o) ∧ (∀ a o, K' a = some o → H' a = some o) := by
  have e1 := hs _ _ (G4.atC h)
  have e2 := hs _ _ (G4.atM h)
  have e3 := hs _ _ G4.atS
  refine ⟨((H'.drop S).drop M).drop cc, ?_, h.grow AH.drop_self ?_ ?_ ?_, fun a o e => ?_, fun a o e q1 q2 => ?_, fun a o e => ?_⟩
  · unfold G4
    rw [← AH.put (a := cc) (by rw [AH.drop_ne h.d12, AH.drop_ne h.d13]; exact e1), ← AH.put (a := M) (by rw [AH.drop_ne h.d23]; exact e2), ← AH.put e3]
  · rw [AH.drop_ne (Ne.symm h.d12)]; exact AH.drop_self
  · rw [AH.drop_ne (Ne.symm h.d13), AH.drop_ne (Ne.symm h.d23)]; exact AH.drop_self
  · rw [AH.drop_ne (Ne.symm h.d14), AH.drop_ne (Ne.symm h.d24), AH.drop_ne (Ne.symm h.d34)]; exact hL
  · rw [AH.drop_ne (fun z => by rw [z, h.n1] at e; cases e), AH.drop_ne (fun z => by rw [z, h.n2] at e; cases e), AH.drop_ne (fun z => by rw [z, h.n3] at e; cases e)]
    exact hs _ _ (G4.sub h _ _ e)
  · rw [AH.drop_ne (fun z => by rw [z, e1] at e; cases e; cases q2), AH.drop_ne (fun z => by rw [z, e2] at e; cases e; cases q1), AH.drop_ne (fun z => by rw [z, e3] at e; cases e; cases q1)]
    exact e
  · unfold AH.drop at e
    by_cases z1 : a = cc
    · rw [if_pos z1] at e; cases e
    · rw [if_neg z1] at e
      by_cases z2 : a = M
      · rw [if_pos z2] at e; cases e
      · rw [if_neg z2] at e
        by_cases z3 : a = S
        · rw [if_pos z3] at e; cases e
        · rw [if_neg z3] at e; exact e

/-- o.name(generator expression) -/
theorem W.eMethodGen {env : Env} {o elt target iter : Expr} {name : Str} {apos gpos pos : Pos} {ifs : List Expr} {scope : Scope} {Q : Value → AH → Prop} (hs : isSuper o = false) (hl : apos.endLine = pos.line)
    (h : W C b (eval o env) σ (fun ov σ₁ => W C b (calleeOf (methodCallForm 1 [(false, eval (.GeneratorExp elt [⟨target, iter, ifs, 0⟩] scope gpos) env)] []) o env ov name) σ₁ (fun ff σ₂ =>
      ∀ cpos, W C b (callWith cpos ff.1 ff.2 [(false, eval (.GeneratorExp elt [⟨target, iter, ifs, 0⟩] scope gpos) env)] []) σ₂ Q X) X) X) :
    W C b (eval (.Call (.Attribute o name apos) [.GeneratorExp elt [⟨target, iter, ifs, 0⟩] scope gpos] [] pos) env) σ Q X := by
  rw [arm_eval_Call]
  refine W.bind_ (W.attrBase (W.mono h (fun ov σ₁ q => W.bind_ (W.standAt_ ?_)) fun _ _ x => x) hs)
  unfold methodCall
  refine W.bind_ (W.hold (W.mono q (fun ff σ₂ q => ?_) fun _ _ x => x))
  obtain ⟨f, first⟩ := ff
  refine W.bind_ (m := methodCallPos _ o env apos pos) ?_
  unfold methodCallPos
  have : (apos.endLine == pos.line) = true := beq_iff_eq.mpr hl
  rw [this, Bool.or_true, if_pos rfl]
  exact W.pure_ (q _)
end Mine
end
section
open PySem PySem.W PyProof.Rows Builtin
set_option Elab.async false
set_option maxRecDepth 100000
set_option autoImplicit false
set_option linter.unusedVariables false
namespace Mine
variable {C : Cx} {b : Nat} {σ H : AH} {X : Value → AH → Prop}
/-- a def of the class that is called by a special name -/
def specOk (K : Frag) (Cl : Addr) (x : Str) (f : Addr) : Bool := findIn K (.ref Cl) x == some (some (.ref f)) && typeIn K (.ref f) == some (.type "function")
theorem W.special {a Cl d f : Addr} {m : List (Str × Value)} {x : Str} {args : List Value} {Q : Option Value → AH → Prop} (ha : σ a = some (.inst Cl d)) (hd : σ d = some (.fs m)) (hk : specOk C.K Cl x f = true)
    (h : W C b (call (.ref f) (.ref a :: args)) σ (fun v σ' => Q (some v) σ') X) : W C b (callSpecial? (.ref a) x args []) σ Q X := by
  intro A s P E o p xx
  obtain ⟨es, n, fa, e, I⟩ := o.good.inst ha hd
  simp only [specOk, Bool.and_eq_true, beq_iff_eq] at hk
  unfold callSpecial?
  refine wpAny_bind (wpAny_bind (I.type.here ((looks_findIn o.good.kin hk.1).here ?_)))
  show wpAny _ A (holding _ (bindSpecial (.ref f) (.ref a) >>= _)) _ _ _
  refine wpAny_holding (wpAny_bind ?_)
  unfold bindSpecial
  refine wpAny_bind ((looks_typeIn o.good.kin hk.2).here ?_)
  rw [if_pos (by decide)]
  refine wpAny_pure ?_
  exact wpAny_bind (h A s _ _ o (fun v σ' s' y q => wpAny_pure (p _ _ _ y q)) xx)
/-- strOf an object whose class has a def __str__ -/
theorem W.strOf_ {a Cl d f : Addr} {m : List (Str × Value)} {Q : Value → AH → Prop} (ha : σ a = some (.inst Cl d)) (hd : σ d = some (.fs m)) (hk : specOk C.K Cl (Str.ofString "__str__") f = true)
    (h : W C b (call (.ref f) [.ref a]) σ (fun v σ' => ∃ x t, v = .str x t ∧ Q v σ') X) : W C b (Builtin.Str.strOf (.ref a)) σ Q X := by
  intro A s P E o p xx
  have hu := o.room.units
  have h9 : cLine = 9900 := rfl
  unfold Builtin.Str.strOf
  show wpAny _ A (cRoomFor "str" [.ref a] >>= _) _ _ _
  refine wpAny_bind (wpAny_cRoomFor (by omega) ?_)
  refine wpAny_bind (W.special (Q := fun r σ' => ∃ x t, r = some (.str x t) ∧ Q (.str x t) σ') ha hd hk (W.mono h (fun v σ' q => ?_) fun _ _ x => x) A s _ _ o (fun r σ' s' y q => ?_) xx)
  · obtain ⟨x, t, rfl, q⟩ := q
    exact ⟨x, t, rfl, q⟩
  · obtain ⟨x, t, rfl, q⟩ := q
    exact wpAny_bind (wpAny_pure (wpAny_pure (p _ _ _ y q)))
/-- str(x) of an object -/
theorem W.strObj {a Cl d f : Addr} {m : List (Str × Value)} {Q : Value → AH → Prop} (ha : σ a = some (.inst Cl d)) (hd : σ d = some (.fs m)) (hk : specOk C.K Cl (Str.ofString "__str__") f = true)
    (h : W C b (call (.ref f) [.ref a]) σ (fun v σ' => ∃ x t, v = .str x t ∧ Q v σ') X) : W C (b + 4) (call (.type "str") [.ref a]) σ Q X := by
  intro A s P E o p xx
  refine callType_newIn (S := fun A' R s' => wpAny (model C.prog C.w) A'.in1 (Builtin.Str.strOf (.ref a)) (fun r s'' => R (.ok (.ret r)) s'') (fun e s'' => R (.error e) s'') s') F.called_str (by decide) (F.typeCall_str_1 _) (F.newCall_str_1 _) (fun obj => F.args_object_init_2 obj _) F.entry_str_new
    (MeetsIn.of_wp fun A' R s' h' => ?_) ?_
  · rw [str_new_tree]
    refine wpAny_bind (wpAny_pure ?_)
    refine wpAny_bind (wpAny_of_eq isSubtype_str_str ?_)
    exact wpAny_bind (wpAny_mono h' (fun r s' h' => wpAny_pure ⟨_, rfl, h'⟩) fun _ _ e => e)
  · have o1 : Ok C b A.in1.in1 σ s := ⟨o.good, ⟨o.room.hd, by have := o.room.depth; show A.depth + b < 900; omega, by have := o.room.units; show A.units + 1 + 1 + 16 * b < 9000; omega, o.room.frames⟩, o.tk⟩
    refine W.strOf_ (Q := fun v σ' => (∃ x t, v = .str x t) ∧ Q v σ') ha hd hk (W.mono h (fun v σ' q => let ⟨x, t, e, q⟩ := q; ⟨x, t, e, ⟨x, t, e⟩, q⟩) fun _ _ x => x) A.in1.in1 s _ _ o1 (fun v σ' s' y q => ?_) fun e σ' s' y q => xx e σ' s' y q
    obtain ⟨⟨x, t, rfl⟩, q⟩ := q
    exact ⟨typeIs_str _ _ _, p _ _ _ y q⟩
end Mine
end
section
open PySem PySem.W PyProof.Rows Builtin
set_option Elab.async false
set_option maxRecDepth 100000
set_option autoImplicit false
set_option linter.unusedVariables false
namespace Mine
variable {C : Cx} {b : Nat} {σ H : AH} {X : Value → AH → Prop}
theorem check_meth {M : Model} {A : Around} {E : Value → Shared → Prop} {s : Shared} {i owner n : String} {self : Value} {rest : List Value} {kw : List (Str × Value)} {Q : Unit → Shared → Prop}
    (hk : builtinKind i = some .method) (hs : splitId i = some (owner, n)) (hi : Looks M s.heap (isInstance self (.type owner)) true) (ha : argsOk i ⟨self :: rest, kw⟩) (q : Q () s) :
    wpAny M A (checkBuiltinCall i ⟨self :: rest, kw⟩) Q E s := by
  simp only [checkBuiltinCall, hk, hs]
  refine wpAny_bind (hi.here ?_)
  simp only [Bool.not_true, Bool.false_eq_true, if_false]
  cases hsig : Manifest.signature? i with
  | none => exact wpAny_pure q
  | some sig =>
    have := ha
    simp only [argsOk, hsig] at this
    simp only [this]
    exact wpAny_pure q
/-- pyStrObj of an object whose class has a def __str__ -/
theorem W.pyStrObj_ {a Cl d f : Addr} {m : List (Str × Value)} {Q : Value → AH → Prop} (ha : σ a = some (.inst Cl d)) (hd : σ d = some (.fs m)) (hk : specOk C.K Cl (Str.ofString "__str__") f = true)
    (h : W C b (call (.ref f) [.ref a]) σ (fun v σ' => ∃ x t, v = .str x t ∧ Q v σ') X) : W C b (pyStrObj (.ref a)) σ Q X := by
  intro A s P E o p xx
  have hu := o.room.units
  have h9 : cLine = 9900 := rfl
  unfold pyStrObj
  show wpAny _ A (cRoomFor "str" [.ref a] >>= _) _ _ _
  refine wpAny_bind (wpAny_cRoomFor (by omega) ?_)
  refine wpAny_bind (W.special (Q := fun r σ' => ∃ x t, r = some (.str x t) ∧ Q (.str x t) σ') ha hd hk (W.mono h (fun v σ' q => ?_) fun _ _ x => x) A s _ _ o (fun r σ' s' y q => ?_) xx)
  · obtain ⟨x, t, rfl, q⟩ := q
    exact ⟨x, t, rfl, q⟩
  · obtain ⟨x, t, rfl, q⟩ := q
    refine wpAny_bind (wpAny_isInstance (T := "str") (b := true) (typeIs_str _ _ _) isSubtype_str_str ?_)
    rw [if_pos rfl]
    exact wpAny_pure (p _ _ _ y q)
end Mine
end
section
open PySem PySem.W PyProof.Rows Builtin
set_option Elab.async false
set_option maxRecDepth 100000
set_option autoImplicit false
set_option linter.unusedVariables false
namespace Mine
variable {C : Cx} {b : Nat} {σ H : AH} {X : Value → AH → Prop}
/-- a built-in, walked in this layer -/
theorem WK.builtinG {T : String} {name : Str} {id : String} {B : Builtin} {self : Value} {rest : List Value} {Q : Value → AH → Prop} (slot : Slot T name id) (hT : ∀ s : Shared, Good C σ s.heap → s.TypeIs self T) (entry : entryFor table id = some B) (args : argsOk id ⟨self :: rest, []⟩)
    (h : W C b (B ⟨self :: rest, []⟩) σ (fun fin σ' => ∃ v, fin = .done (.ret v) ∧ Q v σ') noX) : WCall C (b + 1) (.builtin id) (self :: rest) [] σ Q := by
  intro A s R o r
  refine codeAny_call_builtin slot.plain entry (slot.check _ _ _ _ _ _ _ _ (hT _ o.good) args ?_)
  refine h A.in1 s _ _ o.in1 (fun fin σ' s' y q => ?_) fun e σ' s' y q => q.elim
  obtain ⟨v, rfl, q⟩ := q
  exact r _ _ _ y ⟨v, rfl, q⟩
theorem typeIs_K {a : Addr} {o : Obj} {T : String} (h : C.K.lookup a = some o) (hc : o.cls = .type T) (s : Shared) (g : Good C σ s.heap) : s.TypeIs (.ref a) T := ⟨o, g.kin _ _ h, hc⟩
section
theorem slot_rematch : Slot "re.Pattern" "match" "re.Pattern.match" :=
  .of (owner := "re.Pattern") (n := "match") (by rw [typeLookup_type, builtinLookup_eq_fast]; kernel_rfl) (by decide +kernel) (by decide +kernel) (by decide +kernel)
    (by first | exact .inl (by decide +kernel) | exact .inr (by decide +kernel)) (by rw [isSubtype_type]; kernel_rfl)
theorem type_rematch : typeOf (.builtin "re.Pattern.match") = pure (.type "method_descriptor") := by show builtinType _ = _; rw [builtinType_eq_fast]; kernel_rfl
theorem entry_rematch : entryFor table "re.Pattern.match" = some Builtin.«re.Pattern.match» := entryFor_of_tree (by kernel_rfl)
theorem args_rematch (a b : Value) : argsOk "re.Pattern.match" ⟨[a, b], []⟩ := by unfold argsOk; kernel_rfl
theorem plainAttrs_re : PlainAttrs "re.Pattern" :=
  ⟨⟨"object.__getattribute__", by rw [typeLookup_type, builtinLookup_eq_fast]; kernel_rfl, by decide +kernel⟩, by rw [typeLookup_type, builtinLookup_eq_fast]; kernel_rfl⟩
end
/-- a method of a built-in type, of a written object -/
theorem W.methK {a : Addr} {o : Obj} {T : String} {name : Str} {id : String} {pl : Sem Bool} {Q : Value × List Value → AH → Prop} (ho : C.K.lookup a = some o) (hc : o.cls = .type T) (hdn : o.dict = none) (pa : PlainAttrs T) (slot : Slot T name id) (hty : typeOf (.builtin id) = pure (.type "method_descriptor"))
    (h : Q (.builtin id, [.ref a]) σ) : W C b (getMethod (.ref a) name pl) σ Q X :=
  fun A s P E k p _ => getMethod_builtin (typeIs_K ho hc s k.good) pa slot hty (fun a' e => by cases e; exact ⟨o, k.good.kin _ _ ho, hdn⟩) (p _ _ _ (.refl k.good) h)

/-! the machine of patterns -/
def drv : Nat → Sre.M → Option Sre.M
  | 0, _ => none
  | k + 1, m => if (m.runFor Re.reTurnSteps).outcome.isSome then some (m.runFor Re.reTurnSteps) else drv k (m.runFor Re.reTurnSteps)
theorem W.reDrive_ {Q : Sre.M → AH → Prop} : ∀ (k r : Nat) (m m' : Sre.M), drv k m = some m' → Q m' σ → W C b (Re.reDrive (r + k) m) σ Q X
  | 0, r, m, m', h, q => by cases h
  | k + 1, r, m, m', h, q => by
    show W C b (Re.reDrive ((r + k) + 1) m) σ Q X
    unfold Re.reDrive
    unfold drv at h
    dsimp only
    by_cases hm : (m.runFor Re.reTurnSteps).outcome.isSome = true
    · rw [if_pos hm] at h ⊢
      cases h
      exact W.pure_ q
    · rw [if_neg hm] at h ⊢
      exact W.bind_ (W.rule_ (W.reDrive_ k r _ m' h q))
theorem W.forRules {f : Nat → PUnit → Sem (ForInStep PUnit)} {Q : PUnit → AH → Prop} (hf : ∀ i Q', Q' (ForInStep.yield ⟨⟩) σ → W C b (f i ⟨⟩) σ Q' X) (h : Q ⟨⟩ σ) : ∀ (l : List Nat), W C b (forIn l PUnit.unit f) σ Q X
  | [] => by rw [List.forIn_nil]; exact W.pure_ h
  | i :: l => by rw [List.forIn_cons]; exact W.bind_ (hf i _ (W.forRules hf h l))
def reEnd (m : Sre.M) : Option (Option Sre.M) := match m.outcome with
  | some .matched => some (some m)
  | some .failed => some none
  | _ => none
theorem W.reRun {m : Sre.M} {r : Option Sre.M} {k : Nat} {Q : Option Sre.M → AH → Prop} (hk : k ≤ 1000) (h : (drv k m).bind reEnd = some r) (q : Q r σ) : W C b (Re.reRunToEnd m) σ Q X := by
  unfold Re.reRunToEnd
  cases hd : drv k m with
  | none => rw [hd] at h; cases h
  | some m' =>
    rw [hd] at h
    refine W.bind_ ?_
    have e : (2 ^ 64 : Nat) = (2 ^ 64 - k) + k := by omega
    rw [e]
    refine W.reDrive_ k _ m m' hd ?_
    refine W.bind_ (W.forRules (fun i Q' q' => ?_) ?_ _)
    · split
      · exact W.bind_ (W.rule_ (W.pure_ q'))
      · exact W.pure_ q'
    · simp only [Option.bind, reEnd] at h
      split at h
      · rename_i e'; rw [e']; cases h; exact W.pure_ q
      · rename_i e'; rw [e']; cases h; exact W.pure_ q
      · cases h
end Mine
end
section
open PySem PySem.W PyProof.Rows Builtin
set_option Elab.async false
set_option maxRecDepth 100000
set_option autoImplicit false
set_option linter.unusedVariables false
namespace Mine
variable {C : Cx} {b : Nat} {σ H : AH} {X : Value → AH → Prop}
theorem W.fieldsOfK {a : Addr} {o : Obj} {vs : Array Value} {Q : Array Value → AH → Prop} (ho : C.K.lookup a = some o) (hd : o.data = .fields vs) (h : Q vs σ) : W C b (PySem.fieldsOf (.ref a)) σ Q X := by
  unfold PySem.fieldsOf
  refine W.bind_ (W.loadK ho ?_)
  rw [hd]
  exact W.pure_ h
/-- what the machine says of a text: found, or not -/
def reSays (code : Array Nat) (x : Str) : Option (Option Sre.M) := (drv 40 (Sre.forMatch code x.cps 0 (min (0 : Int).toNat x.cps.size) (min (2 ^ 63 - 1 : Int).toNat x.cps.size) false false)).bind reEnd
def matchO : AO := .pr fun o => o.cls = .type "re.Match"
theorem W.reNewMatch_ {pat s : Value} {pos lim : Nat} {m : Sre.M} {Q : Value → AH → Prop} (h : ∀ T vs a, σ T = none → (σ.set T (.tup vs)) a = none → Q (.ref a) ((σ.set T (.tup vs)).set a matchO)) : W C b (Re.reNewMatch pat s 0 pos lim m) σ Q X := by
  unfold Re.reNewMatch
  simp only [List.range_zero, List.flatMap_nil, List.any_nil, Bool.false_eq_true, if_false]
  try refine W.bind_ (W.pure_ ?_)
  refine W.bind_ (W.newTuple_ (fun T hT => ?_) (by simp [sizeLine_eq]))
  refine W.pushed (f := .ref) (ao := matchO) (o := { cls := .type "re.Match", dict := none, data := .fields #[s, pat, rawInt pos, rawInt lim, rawInt m.lastindex, .ref T] }) (fun A s' P E o p => ?_) (fun h a e => ⟨_, e, rfl, by simp, by simp⟩) rfl (fun a ha => h T _ a hT ha)
  unfold newFields
  exact wpAny_newObj_type (p s'.toks (Nat.le_refl _))
theorem W.reMatch {P Tc : Addr} {o oc : Obj} {items : Array Value} {n : Nat} {p f g : Value} {x : Str} {t : Tok} {r : Option Sre.M} {u w : Tok} {Q : Value → AH → Prop} (ho : C.K.lookup P = some o) (hcls : o.cls = .type "re.Pattern") (hf : o.data = .fields #[p, f, .int 0 u, .none, .none, .ref Tc, .int 0 w]) (hoc : C.K.lookup Tc = some oc) (hoi : oc.data = .seq items n)
    (hr : reSays ((items.map Re.reRawOf).map (·.toNat)) x = some r) (h0 : r = none → Q .none σ) (h1 : r ≠ none → ∀ T vs a, σ T = none → (σ.set T (.tup vs)) a = none → Q (.ref a) ((σ.set T (.tup vs)).set a matchO)) : WCall C (b + 1) (.builtin "re.Pattern.match") [.ref P, .str x t] [] σ Q := by
  refine WK.builtinG slot_rematch (typeIs_K ho hcls) entry_rematch (args_rematch _ _) ?_
  unfold Builtin.«re.Pattern.match»
  refine W.bind_ ?_
  unfold Re.reTarget
  dsimp only
  refine W.bind_ ?_
  have e : Re.reNamed "re.Pattern.match" "match" ["string", "pos", "endpos"] 1 [.str x t] [] = pure [some (.str x t), none, none] := by first | rfl | kernel_rfl
  rw [e]
  refine W.pure_ ?_
  dsimp only
  refine W.bind_ (W.pure_ (W.bind_ (W.pure_ (W.bind_ (W.fieldsOfK ho hf (W.bind_ ?_))))))
  have e2 : Re.reTextOf (.str x t) = pure (x.cps, 0) := by first | rfl | kernel_rfl
  rw [e2]
  refine W.pure_ ?_
  dsimp only
  rw [if_neg (by simp), if_neg (by simp [Re.reRawNat])]
  unfold Re.reNoCollectionInside
  rw [if_neg (by decide)]
  refine W.bind_ (W.pure_ (W.bind_ ?_))
  show W C b (Re.reRawItems (.ref Tc)) _ _ _
  unfold Re.reRawItems
  refine W.bind_ (W.seqItemsK hoc hoi (W.pure_ ?_))
  refine W.pure_ ?_
  dsimp only
  unfold Re.reAnswer
  refine W.bind_ (W.reRun (k := 40) (by omega) hr ?_)
  cases r with
  | none => exact W.pure_ ⟨_, rfl, h0 rfl⟩
  | some m => exact W.bind_ (W.reNewMatch_ fun T vs a hT ha => W.pure_ ⟨_, rfl, h1 (by simp) T vs a hT ha⟩)
end Mine
end
section
open PySem PySem.W PyProof.Rows Builtin
set_option Elab.async false
set_option maxRecDepth 100000
set_option autoImplicit false
set_option linter.unusedVariables false
namespace Mine
variable {C : Cx} {b : Nat} {σ H : AH} {X : Value → AH → Prop} {env : Env}
/-! what a match counts as -/
theorem W.trMatch {a : Addr} {Q : Bool → AH → Prop} (ha : σ a = some matchO) (h : Q true σ) : W C b (truthy (.ref a)) σ Q X := by
  intro A s P E o p _
  obtain ⟨ob, e, hc, _⟩ := o.good.at_ _ _ ha
  have hT : s.TypeIs (.ref a) "re.Match" := ⟨ob, e, hc⟩
  unfold truthy
  refine wpAny_bind (m := callSpecial? (.ref a) (Str.ofString "__bool__")) ?_
  unfold callSpecial?
  refine wpAny_bind (wpAny_specialOf (r := none) hT (by rw [typeLookup_type, builtinLookup_eq_fast]; kernel_rfl) (wpAny_pure ?_))
  refine wpAny_bind (wpAny_specialOf (r := none) hT (by rw [typeLookup_type, builtinLookup_eq_fast]; kernel_rfl) ?_)
  exact wpAny_pure (p _ _ _ (.refl o.good) h)
/-! texts in braces -/
theorem fmt_body {M : Model} {A : Around} {s : Shared} {self : Value} {u : Tok} {P : Fin → Shared → Prop} {E : Value → Shared → Prop} (h : wpAny M A (do ret (← pyStrObj self)) P E s) : wpAny M A (Builtin.«object.__format__» ⟨[self, .str Str.empty u], []⟩) P E s := by
  show wpAny _ _ (do let _shown ← typeNameOf (.str Str.empty u); (do ret (← pyStrObj self))) _ _ _
  exact wpAny_bind (wpAny_typeNameOf (T := "str") (typeIs_str _ _ _) (by decide) fun _ => h)
theorem kind_fmt : builtinKind "object.__format__" = some .method := by decide +kernel
theorem split_fmt : splitId "object.__format__" = some ("object", "__format__") := by decide +kernel
theorem call_fmt {prog : Program} {w : World} {A : Around} {s : Shared} {self : Value} {u : Tok} {P : Value → Shared → Prop} {E : Value → Shared → Prop} (sub : Looks (model prog w) s.heap (isInstance self (.type "object")) true)
    (h : wpAny (model prog w) A.in1 (do ret (← pyStrObj self)) (fun fin s' => ∃ v, fin = .done (.ret v) ∧ P v s') E s) : wpAny (model prog w) A (call (.builtin "object.__format__") [self, .str Str.empty u]) P E s := by
  have hb : wpAny (model prog w) A.in1 (Builtin.«object.__format__» ⟨[self, .str Str.empty u], []⟩) (fun fin s' => match fin with | .done f => (match f with | .ret v => P v s' | _ => False) | .again c' => False) E s := fmt_body (wpAny_mono h (fun fin s' q => by obtain ⟨v, rfl, q⟩ := q; exact q) fun _ _ x => x)
  have ha : argsOk "object.__format__" ⟨[self, .str Str.empty u], []⟩ := PySem.F.args_object_format_2 _ _
  refine wpAny_call ?_
  refine codeAny_call_builtin PySem.F.slot_object_format.plain PySem.F.entry_object_format ?_
  refine check_meth (i := "object.__format__") (owner := "object") (n := "__format__") (self := self) (rest := [.str Str.empty u]) (kw := []) kind_fmt split_fmt sub ha ?_
  refine wpAny_mono hb (fun fin s' q => ?_) fun _ _ x => x
  cases fin with
  | again c' => exact q.elim
  | done f =>
    cases f with
    | ret v => exact q
    | _ => exact q.elim
/-- what an f-string asks of a class -/
def fmtOk (K : Frag) (Cl : Addr) : Bool := findIn K (.ref Cl) (Str.ofString "__format__") == some (some (.builtin "object.__format__")) && mroIn K Cl (.type "object") == some true
/-- an object in an f-string -/
theorem W.fmtObj {a Cl d f : Addr} {m : List (Str × Value)} {Q : Value → AH → Prop} (ha : σ a = some (.inst Cl d)) (hd : σ d = some (.fs m)) (hk : specOk C.K Cl (Str.ofString "__str__") f = true) (hf : fmtOk C.K Cl = true)
    (h : W C b (call (.ref f) [.ref a]) σ (fun v σ' => ∃ x t, v = .str x t ∧ Q v σ') X) : W C (b + 2) (formatField (.ref a) Str.empty) σ Q X := by
  intro A s P E o p xx
  simp only [fmtOk, Bool.and_eq_true, beq_iff_eq] at hf
  obtain ⟨es, n, fa, e, I⟩ := o.good.inst ha hd
  show wpAny _ A (holding [.ref a] (pyFormat (.ref a) Str.empty)) _ _ _
  refine wpAny_holding ?_
  unfold pyFormat
  refine wpAny_bind (wpAny_mkStr ?_)
  have y0 : After C σ s σ { s with toks := s.toks + 1 } := .toks o.good _
  have o0 := o.next y0
  obtain ⟨es, n, fa, e, I0⟩ := o0.good.inst ha hd
  refine wpAny_bind (m := callSpecial? (.ref a) (Str.ofString "__format__") [.str Str.empty s.toks]) ?_
  unfold callSpecial?
  refine wpAny_bind (wpAny_bind (I0.type.here ((looks_findIn o0.good.kin hf.1).here ?_)))
  show wpAny _ A (holding _ (bindSpecial (.builtin "object.__format__") (.ref a) >>= _)) _ _ _
  refine wpAny_holding (wpAny_bind (wpAny_of_eq (PySem.F.slot_object_format.bind (.ref a)) ?_))
  have o1 : Ok C b A.in1 σ { s with toks := s.toks + 1 } := ⟨o0.good, ⟨o0.room.hd, by have := o0.room.depth; show A.depth + b < 900; omega, by have := o0.room.units; show A.units + 1 + 16 * b < 9000; omega, o0.room.frames⟩, o0.tk⟩
  have sub : Looks (model C.prog C.w) ({ s with toks := s.toks + 1 } : Shared).heap (isInstance (.ref a) (.type "object")) true := I0.type.andThen (looks_mroIn o0.good.kin hf.2)
  refine wpAny_bind (call_fmt sub (wpAny_bind ?_))
  refine W.pyStrObj_ (Q := fun v σ' => (∃ x t, v = .str x t) ∧ Q v σ') ha hd hk (W.mono h (fun v σ' q => ?_) fun _ _ x => x) A.in1 _ _ _ o1 (fun v σ' s' y q => ?_) fun e σ' s' y q => xx e σ' s' (y0.trans y) q
  · obtain ⟨x, t, rfl, q⟩ := q
    exact ⟨x, t, rfl, ⟨x, t, rfl⟩, q⟩
  · obtain ⟨⟨x, t, rfl⟩, q⟩ := q
    refine wpAny_pure ⟨_, rfl, wpAny_pure ?_⟩
    dsimp only
    refine wpAny_bind (wpAny_isInstance (T := "str") (b := true) (typeIs_str _ _ _) isSubtype_str_str ?_)
    rw [if_pos rfl]
    exact wpAny_pure (p _ _ _ (y0.trans y) q)
theorem W.fmtStr {x : Str} {t : Tok} {Q : Value → AH → Prop} (hx : x.length ≤ sizeLine) (h : ∀ t', Q (.str x t') σ) : W C b (formatField (.str x t) Str.empty) σ Q X := by
  intro A s P E o p _
  show wpAny _ _ (do rule "fstring.same-str"; habitSame "fstring-hands-on-the-str" (.str x t)) _ _ _
  refine wpAny_bind (wpAny_rule ?_)
  unfold habitSame
  refine wpAny_bind (wpAny_askSetting ?_)
  show wpAny _ A (if (!((model C.prog C.w).w.params.followText "fstring-hands-on-the-str")) = true then pure (.str x t) else mkStr x) _ _ s
  cases (model C.prog C.w).w.params.followText "fstring-hands-on-the-str"
  · exact wpAny_pure (p _ _ _ (.refl o.good) (h _))
  · exact wpAny_mkStr (p _ _ _ (.toks o.good _) (h _)) hx
theorem W.reprStr {x : Str} {t : Tok} {Q : Value → AH → Prop} (hx : (reprText x).length ≤ sizeLine) (h : ∀ t', Q (.str (reprText x) t') σ) : W C b (pyReprObj (.str x t)) σ Q X :=
  fun A s P E o p _ => PySem.pyReprObj_str (p _ _ _ (.toks o.good _) (h _)) hx
theorem W.eFmt {value : Expr} {pos : Pos} {Q : Value → AH → Prop} (h : W C b (eval value env) σ (fun v σ₁ => W C b (formatField v Str.empty) σ₁ Q X) X) : W C b (eval (.FormattedValue value (-1) none pos) env) σ Q X := by
  show W C b (do let v ← eval value env; standAt pos; formatted pos (← holding [v] (converted (-1) v)) none) _ _ _
  refine W.bind_ (W.mono h (fun v σ₁ q => W.bind_ (W.standAt_ ?_)) fun _ _ x => x)
  show W C b (do let v' ← holding [v] (pure v); formatField v' Str.empty) _ _ _
  exact W.bind_ (W.hold (W.pure_ q))
theorem W.eFmtR {value : Expr} {pos : Pos} {Q : Value → AH → Prop} (h : W C b (eval value env) σ (fun v σ₁ => W C b (pyReprObj v) σ₁ (fun r σ₂ => W C b (formatField r Str.empty) σ₂ Q X) X) X) : W C b (eval (.FormattedValue value 114 none pos) env) σ Q X := by
  show W C b (do let v ← eval value env; standAt pos; formatted pos (← holding [v] (converted 114 v)) none) _ _ _
  refine W.bind_ (W.mono h (fun v σ₁ q => W.bind_ (W.standAt_ ?_)) fun _ _ x => x)
  show W C b (do let v' ← holding [v] (pyReprObj v); formatField v' Str.empty) _ _ _
  exact W.bind_ (W.hold q)
theorem W.join1 {v : Expr} {pos : Pos} {Q : Value → AH → Prop} (h : W C b (eval v env) σ Q X) : W C b (eval (.JoinedStr [v] pos) env) σ Q X := h
theorem W.joinN {v₁ v₂ : Expr} {rest : List Expr} {pos : Pos} {Q : Value → AH → Prop} (h : W C b (joinParts Str.empty (evalEach (v₁ :: v₂ :: rest) env)) σ Q X) : W C b (eval (.JoinedStr (v₁ :: v₂ :: rest) pos) env) σ Q X := h
theorem W.joinNil {out : Str} {Q : Value → AH → Prop} (hz : out.length ≤ sizeLine) (h : ∀ t, Q (.str out t) σ) : W C b (joinParts out (evalEach [] env)) σ Q X :=
  fun A s P E o p _ => wpAny_mkStr (p _ _ _ (.toks o.good _) (h _)) hz
theorem W.joinCons {out : Str} {e : Expr} {es : List Expr} {Q : Value → AH → Prop} (h : W C b (eval e env) σ (fun v σ₁ => ∃ y t, v = .str y t ∧ (out ++ y).length ≤ sizeLine ∧ W C b (joinParts (out ++ y) (evalEach es env)) σ₁ Q X) X) : W C b (joinParts out (evalEach (e :: es) env)) σ Q X := by
  show W C b (joinParts out (eval e env :: evalEach es env)) _ _ _
  rw [joinParts]
  refine W.bind_ (W.mono h (fun v σ₁ q => ?_) fun _ _ x => x)
  obtain ⟨y, t, rfl, hz, q⟩ := q
  have hz' : ¬ (out.length + y.length > sizeLine) := by rw [← strLen_append]; exact Nat.not_lt.mpr hz
  refine W.bind_ (W.pure_ ?_)
  show W C b (if out.length + y.length > sizeLine then _ else _) _ _ _
  rw [if_neg hz']
  first | exact q | exact W.bind_ (W.pure_ q)
end Mine
end
section
open PySem PySem.W PyProof.Rows Builtin
set_option Elab.async false
set_option maxRecDepth 100000
set_option autoImplicit false
set_option linter.unusedVariables false
namespace Mine
variable {C : Cx} {b : Nat} {σ : AH}
/-- a generator made and not yet asked -/
structure Held (C : Cx) (b : Nat) where
  A : Around
  σ0 : AH
  s0 : Shared
  ok : Ok C b A σ0 s0
  σi : AH
  si : Shared
  g : Nat
  a : Addr
  gs : GenState
  GL : Addr
  lo : C.lo ≤ si.toks
  room : Room C b A σi si.heap
  ha : σi a = none
  hg : si.heap.IsGen a g
  hGL : ∀ c m, σ0 GL ≠ some (.ns c m)
  back : ∀ σ' s', AfterG C g σi si σ' s' → s'.gens[g]? = some .finished → After C σ0 s0 σ' s'
/-- a step while the generator is held, that ends with the generator gone -/
def WP (B : Held C b) {α : Type} (t : Sem α) (σ : AH) (Q : α → AH → Prop) : Prop := ∀ (s : Shared) (P : α → Shared → Prop) (E : Value → Shared → Prop), AfterG C B.g B.σi B.si σ s → s.gens[B.g]? = some B.gs →
  (∀ v σ' s', After C B.σ0 B.s0 σ' s' → Q v σ' → P v s') → wpAny (model C.prog C.w) B.A t P E s
section
variable {B : Held C b} {α β : Type}
theorem WP.step {m : Sem α} {f : α → Sem β} {Q : β → AH → Prop} (h : W C b m σ (fun v σ' => WP B (f v) σ' Q) noX) : WP B (m >>= f) σ Q := fun s P E y hg p =>
  wpAny_bind (h B.A s _ _ (Room.afterG B.room y) (fun v σ' s' z q => q s' P E (y.next z) (z.gens hg) p) fun _ _ _ _ q => q.elim)
theorem WP.bind {m : Sem α} {f : α → Sem β} {Q : β → AH → Prop} (h : WP B m σ (fun v σ' => W C b (f v) σ' Q noX)) : WP B (m >>= f) σ Q := fun s P E y hg p =>
  wpAny_bind (h s _ E y hg fun v σ' s' z q => q B.A s' P E (B.ok.next z) (fun v' σ'' s'' z' q' => p v' σ'' s'' (z.trans z') q') fun _ _ _ _ q => q.elim)
theorem WP.hold {t : Sem α} {vs : List Value} {Q : α → AH → Prop} (h : WP B t σ Q) : WP B (holding vs t) σ Q := fun s P E y hg p => wpAny_holding (h s P E y hg p)
theorem WP.mono {t : Sem α} {Q Q' : α → AH → Prop} (h : WP B t σ Q) (hq : ∀ a σ', Q a σ' → Q' a σ') : WP B t σ Q' := fun s P E y hg p => h s P E y hg fun v σ' s' z q => p v σ' s' z (hq _ _ q)
end
/-- a list of ints, sorted from the top -/
theorem W.sortRev {l : Addr} {vs : List Value} {ns : List Int} {X : Value → AH → Prop} {Q : Value → AH → Prop} (hl : σ l = some (.lst vs)) (hI : IntsAre vs ns) (h64 : vs.length < 64)
    (h : ∀ (out : List Value) (ns' : List Int), IntsAre out ns' → ns'.Perm ns → Ordered true ns' → Q .none (σ.set l (.lst out))) : W C b (call (.builtin "list.sort") [.ref l] [(Str.ofString "reverse", .bool true)]) σ Q X := by
  intro A s P E o p _
  obtain ⟨n, e⟩ := o.good.at_ _ _ hl
  refine wpAny_call_entry_kw slot_list_sort ⟨_, e, rfl⟩ entry_list_sort (list_sort_tree_rev e hI h64 fun out ns' a1 a2 a3 => ⟨_, rfl, ?_⟩) (args_list_sort_rev _ _)
  have y1 := lst_upd (t := s.toks) (f := fun _ => #[]) (ws := []) o.good hl rfl
  have y2 := After.keeps (t := s.toks) (h' := ((s.heap.update l (Obj.mapSeq fun _ => #[])).push (seqObj "tuple" vs.toArray 0)).push (seqObj "list" #[] 0)) y1.good (fun b o e => Heap.get?_push_of_some _ (Heap.get?_push_of_some _ e))
  have y3 := lst_upd (t := s.toks) (f := fun _ => out) (ws := out.toList) y2.good AH.set_self (by simp)
  have y := (y1.trans y2).trans y3
  rw [AH.set_set] at y
  exact p _ _ _ y (h out.toList ns' a1 a2 a3)
section
variable {elt target iter : Expr} {ifs : List Expr} {scope : Scope} {gpos pos : Pos} {it : Value} {cenv : Env} {D : Addr} {n₀ : Nat} {at_ : Nat → List Value → AH → Prop} {fin : List Value → AH → Prop}
/-- what is collected from a held generator -/
theorem WP.collect {B : Held C (b + 4)} {Q : List Value → AH → Prop} (hgs : B.gs = .fresh (.compStart (.GeneratorExp elt [⟨target, iter, ifs, 0⟩] scope pos) 0 it .none cenv))
    (h : ∀ D, σ D = none → D ≠ B.GL → ∃ n₀ at_ fin, Turns C b elt target ifs it cenv B.GL D n₀ at_ fin ∧ at_ 0 [] (σ.set D (.lst [])) ∧ ∀ ys σ', fin ys σ' → ∃ K m, σ' = AH.set K B.GL (.ns "frame" m) ∧ K B.GL = none ∧ K D = some (.lst ys) ∧ Q ys K)
    (A : Around) (hA : A = B.A.in1) (s : Shared) (P : List Value → Shared → Prop) (E : Value → Shared → Prop) (y : AfterG C B.g B.σi B.si σ s) (hG : s.gens[B.g]? = some B.gs) (p : ∀ v σ' s', After C B.σ0 B.s0 σ' s' → Q v σ' → P v s') (hGL : ∃ m, σ B.GL = some (.ns "frame" m)) : wpAny (model C.prog C.w) A (collect (.ref B.a)) P E s := by
  subst hA
  have hr2 : Room C (b + 2) B.A.in1.in1 B.σi B.si.heap := (Room.in1 (Room.in1 B.room))
  unfold PySem.collect
  refine wpAny_bind (wpAny_runValue (codeAny_builtin F.entry_proto_collect ?_))
  rw [Around.under_plainId F.plain_proto_collect _]
  show wpAny _ B.A.in1.in1 (newList [] >>= fun l => again (.builtin "list.__iadd__" ⟨[l, .ref B.a], []⟩)) _ _ s
  refine wpAny_bind (wpAny_newObj_type ?_)
  have hne : ∀ x o, s.heap.get? x = some o → (s.heap.push { cls := .type "list", data := .seq ([] : List Value).toArray }).get? x = some o := fun x o e => Heap.get?_push_of_some _ e
  have z := After.add (t := s.toks) y.good (a := s.heap.objs.size) (o := .lst []) hne (Nat.le_refl _) ⟨0, Heap.get?_push_size _ rfl⟩
  have y1 := y.next z.1
  have hDa : s.heap.objs.size ≠ B.a := fun e => by
    obtain ⟨o, _, _, e', _⟩ := (y.isGen B.ha B.hg).2
    rw [← e] at e'
    exact absurd (Heap.lt_size e') (Nat.lt_irrefl _)
  have hDG : s.heap.objs.size ≠ B.GL := fun e => by rw [← e, z.2] at hGL; cases hGL.choose_spec
  obtain ⟨n₀, at_, fin, T, hat, hfin⟩ := h _ z.2 hDG
  obtain ⟨ha1, hg1⟩ := y1.isGen B.ha B.hg
  refine wpAny_pure ⟨plainId_quiet F.plain_list_iadd _, codeAny_builtin F.entry_list_iadd ?_⟩
  rw [Around.under_plainId F.plain_list_iadd _]
  show wpAny _ B.A.in1.in1 (Builtin.List.listExtendWith (.ref s.heap.objs.size) (.ref B.a) (.ref s.heap.objs.size)) _ _ _
  unfold Builtin.List.listExtendWith
  refine wpAny_bind (wpAny_typeOf hg1.typeIs ?_)
  have h1 : Builtin.List.listSameRef (.ref s.heap.objs.size) (.ref B.a) = false := by simp [Builtin.List.listSameRef, hDa]
  have h2 : (Value.type "generator" == Value.type "list") = false := by decide
  have h3 : (Value.type "generator" == Value.type "tuple") = false := by decide
  simp only [h1, h2, h3, Bool.or_false, Bool.false_eq_true, if_false]
  refine wpAny_bind (wpAny_pyIter_gen hg1 ?_)
  refine wpAny_bind (wpAny_holding ?_)
  unfold Builtin.List.listLengthHint
  refine wpAny_bind (wpAny_specialOf hg1.typeIs F.gen_no_len ?_)
  show wpAny _ B.A.in1.in1 (specialOf (Value.ref B.a) (Str.ofString "__length_hint__") >>= _) _ _ _
  refine wpAny_bind (wpAny_specialOf hg1.typeIs F.gen_no_hint ?_)
  refine wpAny_pure ?_
  show wpAny _ B.A.in1.in1 (rule "list.extend.makes-room" >>= fun _ => Builtin.List.listTouch (.ref s.heap.objs.size) >>= fun _ =>
    again (.builtin "list.extend.loop" ⟨[.ref s.heap.objs.size, .ref B.a, .ref s.heap.objs.size], []⟩)) _ _ _
  refine wpAny_bind (wpAny_rule ?_)
  refine wpAny_bind ?_
  show wpAny _ B.A.in1.in1 (updateSeq s.heap.objs.size (·.push .none) >>= fun _ => updateSeq s.heap.objs.size (·.pop)) _ _ _
  obtain ⟨n, e⟩ := y1.good.at_ _ _ (AH.set_self (σ := σ) (a := s.heap.objs.size) (o := .lst []))
  have u1 := lst_upd (t := s.toks) (f := fun x => x.push Value.none) (ws := [.none]) y1.good AH.set_self (by simp)
  obtain ⟨n1, e1⟩ := u1.good.at_ _ _ AH.set_self
  refine wpAny_bind (wpAny_updateSeq e rfl ?_ (by size_fits) (by size_fits))
  refine wpAny_updateSeq e1 rfl ?_ (by size_fits) (by size_fits)
  have u2 := lst_upd (t := s.toks) (f := fun x => x.pop) (ws := []) u1.good AH.set_self (by simp)
  have u3 := u1.trans u2
  rw [AH.set_set, AH.set_set] at u3
  have y2 := y1.next u3
  refine wpAny_pure ⟨plainId_quiet F.plain_extend_loop _, gen_extendLoop (n₀ := n₀) (A := B.A.in1) (σi := B.σi) (si := B.si) (at_ := at_) (fin := fin) ⟨hr2.hd, by have := B.room.depth; show B.A.depth + 1 < 900; omega, by have := B.room.units; show B.A.units + 1 + 16 * 1 < 9000; omega, hr2.frames⟩ B.ha B.hg (fun i ys σ h => (T.shown i ys σ h).2) (fun σ' s' ys y' g' f' => ?_) n₀ 0 [] _ _ B.gs (by omega) y2 ?_ hat fun σ'' s'' y'' g'' a'' => ?_⟩
  · obtain ⟨K, m, rfl, k1, k2, q⟩ := hfin _ _ f'
    have zb := B.back _ _ y' g'
    have zc : After C B.σ0 B.s0 K s' := zb.cut (fun a o e => by
      rw [AH.set_ne (fun e' => by rw [e', k1] at e; cases e)]; exact e) fun a c m e => by
      rw [AH.set_ne (fun e' => B.hGL _ _ (e' ▸ e))]
    obtain ⟨n, e⟩ := zc.good.at_ _ _ k2
    refine wpAny_bind (wpAny_load e ?_)
    exact wpAny_pure (p _ K _ zc (by rw [List.toList_toArray]; exact q))
  · exact hG
  · rw [hgs]
    exact ⟨rfl, seg_genBegin T (Room.in1 hr2) [] σ'' s'' s'' y'' g'' a''⟩
/-- sorted of a held generator -/
theorem WP.sorted {B : Held C (b + 4)} {Q : Value → AH → Prop} (hgs : B.gs = .fresh (.compStart (.GeneratorExp elt [⟨target, iter, ifs, 0⟩] scope pos) 0 it .none cenv)) (hGL : ∃ m, σ B.GL = some (.ns "frame" m))
    (h : ∀ D, σ D = none → D ≠ B.GL → ∃ n₀ at_ fin, Turns C b elt target ifs it cenv B.GL D n₀ at_ fin ∧ at_ 0 [] (σ.set D (.lst [])) ∧ ∀ ys σ', fin ys σ' → ∃ K m, σ' = AH.set K B.GL (.ns "frame" m) ∧ K B.GL = none ∧ K D = some (.lst ys) ∧
      ∃ ns, IntsAre ys ns ∧ ys.length < 64 ∧ ∀ D2 out ns', K D2 = none → IntsAre out ns' → ns'.Perm ns → Ordered true ns' → Q (.ref D2) (K.set D2 (.lst out))) :
    WP B (call (.builtin "sorted") [.ref B.a] [(Str.ofString "reverse", .bool true)]) σ Q := by
  intro s P E y hG p
  refine call_function_entry_kw kind_sorted plain_sorted entry_sorted (args_sorted_rev _ _) ?_
  unfold Builtin.«sorted»
  refine wpAny_bind (m := checkCount "sorted" 1 1 _) (wpAny_pure ?_)
  refine wpAny_bind (WP.collect (Q := fun ys K => ∃ ns, IntsAre ys ns ∧ ys.length < 64 ∧ ∀ D2 out ns', K D2 = none → IntsAre out ns' → ns'.Perm ns → Ordered true ns' → Q (.ref D2) (K.set D2 (.lst out))) hgs h _ rfl s _ _ y hG (fun ys K s' z q => ?_) hGL)
  obtain ⟨ns, hI, h64, q⟩ := q
  have w : W C (b + 3) (newList ys >>= fun l => holding [l] (call (.builtin "list.sort") [l] [(Str.ofString "reverse", .bool true)]) >>= fun _ => (Pure.pure l : Sem Value)) K Q noX := by
    refine W.bind_ (W.newList_ (fun a ha => ?_) (by rw [sizeLine_eq]; omega))
    refine W.bind_ (W.hold (W.sortRev AH.set_self hI h64 fun out ns' a1 a2 a3 => W.pure_ ?_))
    rw [AH.set_set]
    exact q a out ns' ha a1 a2 a3
  have e : (newList ys >>= fun l => holding [l] (call (.builtin "list.sort") [l] [(Str.ofString "reverse", .bool true)]) >>= fun _ => (ret l : Sem Fin)) = ((newList ys >>= fun l => holding [l] (call (.builtin "list.sort") [l] [(Str.ofString "reverse", .bool true)]) >>= fun _ => (Pure.pure l : Sem Value)) >>= fun v => (ret v : Sem Fin)) := by simp only [bind_assoc, pure_bind]
  show wpAny _ _ (newList ys >>= fun l => holding [l] (call (.builtin "list.sort") [l] [(Str.ofString "reverse", .bool true)]) >>= fun _ => (ret l : Sem Fin)) _ _ _
  rw [e]
  refine wpAny_bind (w B.A.in1 s' _ _ ⟨z.good, Room.in1 (B.ok.room.next z.step), Nat.le_trans B.ok.tk z.tk⟩ (fun v σ' s'' z' q' => ?_) fun _ _ _ _ q => q.elim)
  exact wpAny_pure ⟨v, rfl, p v σ' s'' (z.trans z') q'⟩
end
end Mine
end
section
open PySem PySem.W PyProof.Rows Builtin
set_option Elab.async false
set_option maxRecDepth 100000
set_option autoImplicit false
set_option linter.unusedVariables false
namespace Mine
variable {C : Cx} {b : Nat} {σ H : AH}
section
variable {elt target iter : Expr} {ifs : List Expr} {scope : Scope} {gpos pos : Pos} {env : Env}
/-- a built-in called with a generator expression alone -/
theorem W.callGenB {id : String} {first : List Value} {c P : Addr} {cl : List (Str × Addr)} {X : Value → AH → Prop} {Q : Value → AH → Prop} (G : Gens C c P) (hcode : env.code = .ref c) (hgl : env.globals = mainGlobals)
    (hco : scope.isCoroutine = false) (hclos : closureFor scope env = pure cl) (hcell : cellNames scope.names = []) (h0 : scope.names.lookup (".0" : Str) = some NameKind.local) (hkind : scope.kind = .function) (hs : ∀ x, genFold iter env x = pure x)
    (h : W C (b + 3) (eval iter env) σ (fun xv σ₁ => W C (b + 3) (pyIter xv) σ₁ (fun it σ₂ => ∀ GL code, σ₂ GL = none → ∀ B : Held C (b + 3), B.GL = GL → B.gs = .fresh (.compStart (.GeneratorExp elt [⟨target, iter, ifs, 0⟩] scope gpos) 0 it .none (genEnv scope cl GL code builtinsNs env)) →
      WP B (call (.builtin id) (first ++ [.ref B.a]) []) (σ₂.set GL (.ns "frame" [((".0" : Str), it)])) Q) noX) noX) :
    W C (b + 3) (callWith pos (.builtin id) first [(false, eval (.GeneratorExp elt [⟨target, iter, ifs, 0⟩] scope gpos) env)] []) σ Q X := by
  intro A s p₀ E o p _
  unfold callWith
  refine wpAny_bind (wpAny_holding (wpAny_evalArgs1 ?_))
  rw [eval_GeneratorExp1 _ _ _ _ _ _ _ hco, hclos]
  refine wpAny_bind (h A s _ _ o (fun xv σ₁ s₁ y₁ q => ?_) fun _ _ _ _ q => q.elim)
  refine wpAny_bind (wpAny_standAt ?_)
  refine wpAny_bind (wpAny_of_eq (hs xv) ?_)
  refine wpAny_bind (wpAny_holding (q A s₁ _ _ (o.next y₁) (fun it σ₂ s₂ y₂ q => ?_) fun _ _ _ _ q => q.elim))
  refine wpAny_bind (wpAny_enterFrame y₂.good.lim o.room.lim ?_)
  refine wpAny_bind (wpAny_pure ?_)
  obtain ⟨ps, ic, ta⟩ := G.at_ y₂.good
  have code_ : ∀ (Q' : Value → Shared → Prop), (∀ code s₃, After C σ₂ s₂ σ₂ s₃ → Q' code s₃) → wpAny (model C.prog C.w) A (genexprCode env gpos (env.qual ++ "<genexpr>") scope) Q' E s₂ := by
    intro Q' hQ'
    refine wpAny_tk ?_
    cases hnf : codeAmong gpos ps.toList with
    | some cv => exact wpAny_genexprCode_hit hcode ic hnf fun _ => hQ' _ _ (.refl y₂.good)
    | none => exact wpAny_genexprCodeX hcode ic ta hnf fun c' h' tk hx hge hlt hic hrec hta _ htk => hQ' _ _ (After.table G y₂.good ta hx hic hta htk)
  refine wpAny_bind (code_ _ fun code s₃ y₃ => ?_)
  have y03 := (y₁.trans y₂).trans y₃
  have bm_ : ∀ (Q' : Addr → Shared → Prop), Q' builtinsNs s₃ → wpAny (model C.prog C.w) A (builtinsFor env.globals env.builtins) Q' E s₃ := by
    intro Q' hQ'
    obtain ⟨bm, ob, B⟩ := G.bm
    have hob : s₃.heap.get? bm = some ob := by
      rcases (y₃.good.base bm _ B.obj).2 with x | ⟨_, _, _, _, rfl, _⟩
      · exact x
      · cases B.cls
    exact wpAny_builtinsFor (hgl ▸ Ns.of_good y₃.good B.ns) B.name B.ne hob B.cls B.dict B.data hQ'
  refine wpAny_bind (bm_ _ ?_)
  have hlb : localBinds scope.names [((".0" : Str), it)] = [((".0" : Str), it)] := by unfold localBinds; simp [h0]
  have env_ : W C (b + 3) (newFunctionEnv scope env.globals cl [((".0" : Str), it)] (env.qual ++ "<genexpr>.") none code none builtinsNs) σ₂ (fun cenv σ' => ∃ GL, σ₂ GL = none ∧ cenv = genEnv scope cl GL code builtinsNs env ∧ σ' = σ₂.set GL (.ns "frame" [((".0" : Str), it)])) noX := by
    refine W.newEnv_ hkind (by rw [hcell]; exact List.nodup_nil) (fun x hx => ?_) (fun n hn => by rw [hcell] at hn; cases hn) fun L hL => ?_
    · rcases List.mem_cons.mp hx with rfl | hx
      · exact .inl h0
      · cases hx
    · rw [hcell, hlb]
      intro _
      exact ⟨L, hL, rfl, rfl⟩
  refine wpAny_bind (env_ A s₃ _ _ ((o.next (y₁.trans y₂)).next y₃) (fun cenv σ₄ s₄ y₄ q₄ => ?_) fun _ _ _ _ q => q.elim)
  obtain ⟨GL, hGL, rfl, rfl⟩ := q₄
  have y04 := y03.trans y₄
  simp only [newGenerator, newFields]
  refine wpAny_bind (wpAny_newGen (wpAny_bind (wpAny_mkText (wpAny_bind (wpAny_mkText (wpAny_newObj_type ?_ (by size_fits)))))))
  refine wpAny_bind (wpAny_standAt ?_)
  have hne : ∀ x o, s₄.heap.get? x = some o → (s₄.heap.push { cls := .type "generator", data := .fields #[.int s₄.gens.size 0, .str "<genexpr>" s₄.toks, .str (env.qual ++ "<genexpr>") (s₄.toks + 1)] }).get? x = some o := fun x o e => Heap.get?_push_of_some _ e
  have hgood := y₄.good.keeps hne
  have hroom := (o.next y04).room.next (Step.keeps (σ := σ₂.set GL (.ns "frame" [((".0" : Str), it)])) hne)
  let s₅ : Shared := { s₄ with gens := s₄.gens.push (.fresh (.compStart (.GeneratorExp elt [⟨target, iter, ifs, 0⟩] scope gpos) 0 it .none (genEnv scope cl GL code builtinsNs env))), toks := s₄.toks + 1 + 1, heap := s₄.heap.push { cls := .type "generator", data := .fields #[.int s₄.gens.size 0, .str "<genexpr>" s₄.toks, .str (env.qual ++ "<genexpr>") (s₄.toks + 1)] } }
  have hlo : C.lo ≤ s₅.toks := Nat.le_trans (o.next y04).tk (by show s₄.toks ≤ s₄.toks + 1 + 1; omega)
  have hGL' : ∀ c m, σ GL ≠ some (.ns c m) := fun c m e => by
    obtain ⟨m', e2⟩ := y03.step.ns _ _ _ e
    rw [hGL] at e2; cases e2
  let B : Held C (b + 3) := { A := A, σ0 := σ, s0 := s, ok := o, σi := σ₂.set GL (.ns "frame" [((".0" : Str), it)]), si := s₅, g := s₄.gens.size, a := s₄.heap.objs.size, gs := .fresh (.compStart (.GeneratorExp elt [⟨target, iter, ifs, 0⟩] scope gpos) 0 it .none (genEnv scope cl GL code builtinsNs env)), GL := GL, lo := hlo, room := hroom, ha := y₄.good.fresh, hg := ⟨_, _, _, Heap.get?_push_size _ rfl, rfl, rfl, rfl⟩, hGL := hGL', back := fun σ' s' y' g' => After.genEnd y04 hne y' g' }
  have run := q GL code hGL B rfl rfl s₅ (fun v s' => p₀ v s') E ((AfterG.refl hgood hlo)) (Array.getElem?_push_size ..) (fun v σ' s' z q' => p _ _ _ z q')
  show wpAny _ A (call (.builtin id) (first ++ [.ref s₄.heap.objs.size]) [] >>= fun r => holding [r] point >>= fun _ => pure r) _ _ _
  exact wpAny_bind (wpAny_mono run (fun r s q => wpAny_bind (wpAny_holding (wpAny_point (wpAny_pure q)))) fun _ _ e => e)
end
end Mine
end
section
open PySem PySem.W PyProof.Rows Builtin
set_option Elab.async false
set_option maxRecDepth 100000
set_option autoImplicit false
set_option linter.unusedVariables false
namespace Mine
section
open PySem.SeqAt PySem.MeetsSeq PySem.MeetsSeq2 PySem.MeetsSeq3 PySem.SeqRoads2
variable {prog : Program} {w : World} {A : Around} {s : Shared} {v y : Value}
/-- a run finds these two equal and changes nothing -/
def EqC (prog : Program) (w : World) (A : Around) (s : Shared) (v y : Value) : Prop := ∀ (E : Value → Shared → Prop) (Q : Bool → Shared → Prop), Q true s → wpAny (model prog w) A (eqBool v y) Q E s
def RcC (prog : Program) (w : World) (A : Around) (s : Shared) (v y : Value) : Prop := ∀ (E : Value → Shared → Prop) (Q : Value → Shared → Prop), Q (.bool true) s → wpAny (model prog w) A (richCompare .Eq v y) Q E s
theorem EqC.of (h : EqAt A s v y true) : EqC prog w A s v y := fun E Q hq => h prog w E Q hq
theorem EqC.same : EqC prog w A s v v := .of (EqAt.same v)
theorem EqC.refs {l b : Addr} (h : l ≠ b → RcC prog w A s (.ref l) (.ref b)) : EqC prog w A s (.ref l) (.ref b) := by
  by_cases e : l = b
  · subst e; exact .same
  intro E Q hq
  unfold eqBool
  refine wpAny_holding ?_
  refine wpAny_ite_split (fun hab => absurd (by have := eq_of_beq hab; injection this) e) (fun _ => ?_)
  exact wpAny_bind (h e E _ (wpAny_truthy_bool hq))
theorem eqLoopC {l b : Addr} {xs ys : Array Value} {n n2 : Nat} (hsz : xs.size = ys.size) (k : Nat) :
    ∀ (i : Nat) (A : Around) (R : Result → Shared → Prop) (s : Shared), xs.size - i = k → s.heap.get? l = some { cls := .type "list", data := .seq xs n } → s.heap.get? b = some { cls := .type "list", data := .seq ys n2 } →
      (∀ j (h1 : j < xs.size) (h2 : j < ys.size), EqC prog w A.in1 s xs[j] ys[j]) → R (.ok (.ret (.bool true))) s →
      wpAny (model prog w) A.in1 (Builtin.«list.__eq__.loop» ⟨[.ref l, .ref b, rawInt i, rawInt 2], []⟩) (fun fin s' => match fin with | .done f => R (.ok f) s' | .again c' => c'.quiet = true ∧ codeAny (model prog w) A c' R s') (fun e s' => R (.error e) s') s := by
  induction k with
  | zero =>
    intro i A R s hk hl hb he h
    obtain ⟨hp, g, d, tk, os⟩ := s
    wp_walk using AutoSeq1.wpAny_loadPart' hl, AutoSeq1.wpAny_loadPart' hb
    have hi1 : xs[((i : Nat) : Int).toNat]? = none := by simp; omega
    have hi2 : ys[((i : Nat) : Int).toNat]? = none := by simp; omega
    rw [hi1, hi2]
    wp_walk using AutoSeq1.wpAny_loadPart' hl, AutoSeq1.wpAny_loadPart' hb
    show R (.ok (.ret (.bool (xs.size == ys.size)))) _
    rw [hsz]
    simpa using h
  | succ k ih =>
    intro i A R s hk hl hb he h
    obtain ⟨hp, g, d, tk, os⟩ := s
    wp_walk using AutoSeq1.wpAny_loadPart' hl, AutoSeq1.wpAny_loadPart' hb
    have hlt : i < xs.size := by omega
    have hlt2 : i < ys.size := by omega
    have hi1 : xs[((i : Nat) : Int).toNat]? = some xs[i] := by simp [hlt]
    have hi2 : ys[((i : Nat) : Int).toNat]? = some ys[i] := by simp [hlt2]
    have hc : ((i : Int) + 1) = ((i + 1 : Nat) : Int) := by push_cast; rfl
    rw [hi1, hi2]
    refine wpAny_bind (he i hlt hlt2 _ _ ?_)
    wp_walk
    rw [hc]
    exact ⟨plainId_quiet plain_eq_loop _, codeAny_builtin entry_eq_loop (by
      rw [Around.under_plainId plain_eq_loop _]
      exact ih (i + 1) A R _ (by omega) hl hb he h)⟩
theorem RcC.lists {l b : Addr} {xs ys : Array Value} {n n2 : Nat} (hl : s.heap.get? l = some { cls := .type "list", data := .seq xs n }) (hb : s.heap.get? b = some { cls := .type "list", data := .seq ys n2 }) (hsz : xs.size = ys.size) (hu : A.units < cLine)
    (he : ∀ j (h1 : j < xs.size) (h2 : j < ys.size), EqC prog w A.in1 s xs[j] ys[j]) : RcC prog w A s (.ref l) (.ref b) := by
  intro E Q h
  refine wpAny_richCompare_same_room (op := .Eq) (T := "list") ⟨_, hl, rfl⟩ ⟨_, hb, rfl⟩ F.slot_list_eq ?_ hu
  refine wpAny_call (codeAny_call_builtin F.slot_list_eq.plain F.entry_list_eq (F.slot_list_eq.check _ _ _ _ _ _ _ _ ⟨_, hl, rfl⟩ (F.args_list_eq_2 _ _) ?_))
  obtain ⟨hp, g, d, tk, os⟩ := s
  have f3 := AutoSeq1.sub_list_list
  have hne : ¬ (xs.size != ys.size) = true := by simp [hsz]
  wp_walk using AutoSeq1.wpAny_loadPart' hl, AutoSeq1.wpAny_loadPart' hb
  exact ⟨plainId_quiet plain_eq_loop _, codeAny_builtin entry_eq_loop (by
    rw [Around.under_plainId plain_eq_loop _]
    exact eqLoopC hsz _ 0 A (wants (fun v s' => v ≠ .notImplemented ∧ Q v s') E) _ rfl hl hb he (show Value.bool true ≠ Value.notImplemented ∧ Q (.bool true) _ from ⟨(fun x => nomatch x), h⟩))⟩
end
section
variable {prog : Program} {w : World} {A : Around} {s : Shared} {E : Value → Shared → Prop} {K : Type} [DecidableEq K] {knd : KeyKind prog w K}
/-- two dicts of the same pairs -/
theorem samePairsC {nm : String} {a b : Addr} {ka kb : List (K × Value)} {Q : Bool → Shared → Prop} (ha : (a == sysModules) = false) (hb : (b == sysModules) = false)
    (da : s.heap.DictOf knd a ka) (db : s.heap.DictOf knd b kb) (hlen : ka.length = kb.length) (hits : ∀ (i : Nat) k v, ka[i]? = some (k, v) → ∃ y, valueAt kb k = some y ∧ EqC prog w A s v y) (h : Q true s) :
    wpAny (model prog w) A (Builtin.Dict.samePairs nm a b) Q E s := by
  obtain ⟨oa, es, ep, hoa, _, hda, hka, hpa, _⟩ := da
  obtain ⟨ob, es', ep', hob, _, hdb, hkb, hpb, _⟩ := db
  have hla : ka.length = es.size := by rw [← hpa.length]; exact Array.length_toList
  have hlb : kb.length = es'.size := by rw [← hpb.length]; exact Array.length_toList
  have hfind : ∀ k, findBy knd.is es' k = valueAt kb k := fun k => by
    rw [← hpb.find k]
    clear hlb hpb hkb hdb hob
    obtain ⟨l⟩ := es'
    simp [findBy]
  have hsz : es.size = es'.size := by rw [← hla, ← hlb]; exact hlen
  unfold Builtin.Dict.samePairs Builtin.Dict.showsAll
  rw [if_neg (show ¬ (a == sysModules) = true by rw [ha]; exact Bool.false_ne_true), if_neg (show ¬ (b == sysModules) = true by rw [hb]; exact Bool.false_ne_true)]
  refine wpAny_bind (wpAny_pure (wpAny_bind (wpAny_pure (wpAny_bind (wpAny_dictEntries hoa hda ?_)))))
  dsimp only
  refine wpAny_bind (wpAny_dictEntries hob hdb ?_)
  rw [if_neg (by rw [hsz]; simp)]
  refine wpAny_bind (wpAny_dictEpoch hoa hda (wpAny_bind ?_))
  rw [Std.Legacy.Range.forIn_eq_forIn_range']
  simp only [Std.Legacy.Range.size, Nat.sub_zero, Nat.add_sub_cancel, Nat.div_one]
  refine wpAny_forIn_list _ (fun rest q s' => s' = s ∧ q = (none, ()) ∧ ∃ i, rest = List.range' i (es.size - i) ∧ i ≤ es.size) _ ?_ ?_ _ _ ⟨rfl, rfl, 0, by simp, Nat.zero_le _⟩
  · rintro x rest q s' ⟨rfl, rfl, i, hr, hi⟩
    have hlt : i < es.size := by
      rcases Nat.lt_or_ge i es.size with z | z
      · exact z
      · rw [Nat.sub_eq_zero_of_le z] at hr; simp at hr
    obtain ⟨rfl, hrest⟩ : x = i ∧ rest = List.range' (i + 1) (es.size - (i + 1)) := by
      rw [show es.size - i = (es.size - (i + 1)) + 1 by omega, List.range'_succ] at hr
      injection hr with h1 h2
      exact ⟨h1, h2⟩
    refine wpAny_bind (wpAny_dictEntries hoa hda ?_)
    rw [Array.getElem?_eq_getElem hlt]
    have hlt' : x < ka.length := by rw [hla]; exact hlt
    obtain ⟨k, v, hkv⟩ : ∃ k v, ka[x]? = some (k, v) := ⟨_, _, List.getElem?_eq_getElem hlt'⟩
    obtain ⟨hkey, hval⟩ := hpa.get? (i := x) (e := es[x]) (k := k) (v := v) (by rw [Array.getElem?_toList]; exact Array.getElem?_eq_getElem hlt) hkv
    obtain ⟨k', hk', hh⟩ := hka es[x] (Array.getElem_mem hlt)
    have ekk : k' = k := knd.inj _ _ _ hk' hkey
    rw [ekk] at hh
    obtain ⟨y, hy, he⟩ := hits x k v hkv
    show wpAny _ _ (holding [es[x].key, es[x].val] _ >>= _) _ _ _
    rw [hh]
    refine wpAny_bind (wpAny_holding (wpAny_bind (wpAny_dictFind_of hkey hob hdb hkb ?_)))
    cases hj : es'.findIdx? fun e => knd.is k e.key with
    | none =>
      have hn : valueAt kb k = none := by rw [← hfind k, findBy_of_findIdx?, hj]
      rw [hn] at hy; cases hy
    | some j =>
      obtain ⟨hjlt, _, _⟩ := Array.findIdx?_eq_some_iff_getElem.mp hj
      have hv' : valueAt kb k = some es'[j].val := by
        rw [← hfind k, findBy_of_findIdx?, hj]
        simp [Array.getElem?_eq_getElem hjlt]
      refine wpAny_bind (wpAny_dictEntries hob hdb ?_)
      rw [Array.getElem?_eq_getElem hjlt]
      have ey : es'[j].val = y := Option.some.inj (hv'.symm.trans hy)
      rw [← ey, ← hval] at he
      refine wpAny_holding (he _ _ ?_)
      show wpAny _ _ (if (!true) = true then _ else _) _ _ _
      rw [if_neg (by decide)]
      refine wpAny_bind (wpAny_dictEpoch hoa hda ?_)
      rw [if_neg (by simp)]
      exact wpAny_pure ⟨rfl, rfl, x + 1, hrest, hlt⟩
  · rintro q s' ⟨rfl, rfl, _⟩
    exact wpAny_pure h
theorem RcC.dicts {a b : Addr} {ka kb : List (K × Value)} (ha : (a == sysModules) = false) (hb : (b == sysModules) = false)
    (da : s.heap.DictOf knd a ka) (db : s.heap.DictOf knd b kb) (hu : A.units < cLine) (hlen : ka.length = kb.length) (hits : ∀ (i : Nat) k v, ka[i]? = some (k, v) → ∃ y, valueAt kb k = some y ∧ EqC prog w A.in1 s v y) : RcC prog w A s (.ref a) (.ref b) := by
  intro E Q h
  refine wpAny_richCompare_same_room (op := .Eq) da.typeIs db.typeIs PySem.F.slot_dict_eq (wpAny_call_entry PySem.F.slot_dict_eq da.typeIs PySem.F.entry_dict_eq ?_ (PySem.F.args_dict_eq_2 _ _)) hu
  show wpAny _ _ (Builtin.Dict.dictSlotArgs "__eq__" ⟨[.ref a, .ref b], []⟩ >>= _) _ _ s
  refine wpAny_bind ?_
  unfold Builtin.Dict.dictSlotArgs
  refine wpAny_bind (wpAny_notOrdered_dict da.typeIs ?_)
  show wpAny _ _ (pure (Value.ref a, Value.ref b)) _ _ s
  refine wpAny_pure (wpAny_bind (wpAny_isInstance (T := "dict") db.typeIs PySem.F.sub_dict_dict ?_))
  simp only [Bool.not_true, Bool.false_eq_true, if_false]
  refine wpAny_bind (wpAny_pure (wpAny_bind (wpAny_pure (wpAny_bind (samePairsC ha hb da db hlen hits (wpAny_pure ⟨_, rfl, ?_, ?_⟩))))))
  · exact fun x => nomatch x
  · simpa using h
end
/-- two values of one document are equal -/
theorem DocAt.eq {C : Cx} {σ : AH} {d : Doc} {v : Value} (h1 : DocAt σ v d) : ∀ {m : Nat} {y : Value} (A : Around) (s : Shared), Good C σ s.heap → Fit m d → DocAt σ y d → A.units + m < cLine → EqC C.prog C.w A s v y := by
  induction h1 with
  | @num i t =>
    intro m y A s g hf h2 hu
    cases h2
    exact .of (by have := PySem.SeqAt.EqAt.int_int (A := A) (s := s) i t i (by assumption); rwa [beq_self_eq_true] at this)
  | @txt x t =>
    intro m y A s g hf h2 hu
    cases h2
    exact .of (by have := PySem.SeqAt.EqAt.str_str (A := A) (s := s) x t x (by assumption); rwa [beq_self_eq_true] at this)
  | tru => intro m y A s g hf h2 hu; cases h2; exact .same
  | nil => intro m y A s g hf h2 hu; cases h2; exact .same
  | @row l vs n kid e1 e2 e3 ih =>
    intro m y A s g hf h2 hu
    cases h2 with
    | @row l' vs' _ _ f1 f2 f3 =>
    refine .refs fun _ => ?_
    obtain ⟨n1, g1⟩ := g.at_ _ _ e1
    obtain ⟨n2, g2⟩ := g.at_ _ _ f1
    cases hf with
    | @row m n kid k1 k2 =>
    refine RcC.lists g1 g2 (by simp [e2, f2]) (by omega) fun j j1 j2 => ?_
    simp only [List.size_toArray] at j1 j2
    simp only [List.getElem_toArray]
    have ej := List.getElem?_eq_getElem j1
    have fj := List.getElem?_eq_getElem j2
    exact ih j _ ej A.in1 s g (k2 j (by omega)) (f3 _ _ fj) (by show A.units + 1 + m < _; omega)
  | @fld l kvs ep n key kid e1 e2 e3 e4 ih =>
    intro m y A s g hf h2 hu
    cases h2 with
    | @fld l' kvs' ep' _ _ _ f1 f2 f3 f4 =>
    refine .refs fun _ => ?_
    obtain ⟨g1, u1⟩ := g.at_ _ _ e1
    obtain ⟨g2, u2⟩ := g.at_ _ _ f1
    cases hf with
    | @fld m n key kid k1 k2 k3 =>
    refine RcC.dicts u1 u2 g1.dictOf g2.dictOf (by omega) (by omega) fun i k v e => ?_
    have hi : i < kvs.length := (List.getElem?_eq_some_iff.mp e).1
    have hi' : i < kvs'.length := by omega
    have e' : kvs'[i]? = some (kvs'[i].1, kvs'[i].2) := by simp [hi']
    have hk : k = key i := e3 _ _ _ e
    have hk' : kvs'[i].1 = key i := f3 _ _ _ e'
    have hn : (kvs'.map (·.1)).Nodup := by
      refine List.pairwise_iff_getElem.mpr fun i j hi hj hij e => ?_
      simp at hi hj e
      have a1 := f3 i kvs'[i].1 kvs'[i].2 (by simp [hi])
      have a2 := f3 j kvs'[j].1 kvs'[j].2 (by simp [hj])
      have := k2 i j (by omega) (by omega) (by rw [← a1, ← a2, e])
      omega
    refine ⟨kvs'[i].2, ?_, ih i _ _ e A.in1 s g (k3 i (by omega)) (f4 _ _ _ e') (by show A.units + 1 + m < _; omega)⟩
    rw [hk, ← hk']
    exact valueAt_of_get hn e'
end Mine
end
section
open PySem PySem.W PyProof.Rows Builtin
set_option Elab.async false
set_option maxRecDepth 100000
set_option autoImplicit false
set_option linter.unusedVariables false
namespace Mine
variable {C : Cx} {b : Nat} {σ : AH} {X : Value → AH → Prop} {Q : Value → AH → Prop}
/-- two dicts that are one document are equal -/
theorem W.eqDoc {m n : Nat} {key : Nat → Str} {kid : Nat → Doc} {v y : Value} (h1 : DocAt σ v (.fld n key kid)) (h2 : DocAt σ y (.fld n key kid)) (hf : Fit m (.fld n key kid)) (hm : m ≤ 100) (h : Q (.bool true) σ) : W C b (compareOp .Eq v y) σ Q X := by
  intro A s P E o p _
  have hu := o.room.units
  have h9 : cLine = 9900 := rfl
  cases h1 with
  | @fld l kvs ep _ _ _ e1 e2 e3 e4 =>
  cases h2 with
  | @fld l' kvs' ep' _ _ _ f1 f2 f3 f4 =>
  obtain ⟨g1, u1⟩ := o.good.at_ _ _ e1
  obtain ⟨g2, u2⟩ := o.good.at_ _ _ f1
  cases hf with
  | @fld m n key kid k1 k2 k3 =>
  refine RcC.dicts u1 u2 g1.dictOf g2.dictOf (by omega) (by omega) (fun i k v e => ?_) E (fun v s' => P v s') (p _ _ _ (.refl o.good) h)
  have hi : i < kvs.length := (List.getElem?_eq_some_iff.mp e).1
  have hi' : i < kvs'.length := by omega
  have e' : kvs'[i]? = some (kvs'[i].1, kvs'[i].2) := by simp [hi']
  have hk : k = key i := e3 _ _ _ e
  have hk' : kvs'[i].1 = key i := f3 _ _ _ e'
  have hn : (kvs'.map (·.1)).Nodup := by
    refine List.pairwise_iff_getElem.mpr fun i j hi hj hij e => ?_
    simp at hi hj e
    have a1 := f3 i kvs'[i].1 kvs'[i].2 (by simp [hi])
    have a2 := f3 j kvs'[j].1 kvs'[j].2 (by simp [hj])
    have := k2 i j (by omega) (by omega) (by rw [← a1, ← a2, e])
    omega
  refine ⟨kvs'[i].2, ?_, (e4 _ _ _ e).eq A.in1 s o.good (k3 i (by omega)) (f4 _ _ _ e') (by show A.units + 1 + m < _; omega)⟩
  rw [hk, ← hk']
  exact valueAt_of_get hn e'
theorem W.eqStr {x y : Str} {t u : Tok} (h : Q (.bool (x == y)) σ) : W C b (compareOp .Eq (.str x t) (.str y u)) σ Q X := fun A s P E o p _ =>
  PySem.SeqAt.RcAt.str_str x t y u C.prog C.w E (fun v s' => P v s') (p _ _ _ (.refl o.good) h)

section
open PySem.SeqAt
theorem AddrV.eqAt {A : Around} {s : Shared} {d : Doc} {ps : List Nat} {vs ws : List Value} (x : AddrV d ps vs) (y : AddrV d ps ws) : ∀ (j : Nat) (h1 : j < vs.length) (h2 : j < ws.length), EqAt A s vs[j] ws[j] true := by
  induction x generalizing ws with
  | nil => intro j h1; exact absurd h1 (Nat.not_lt_zero _)
  | @cons d i v ps vs h1 h2 h3 ih =>
    cases y with
    | @cons _ _ v' _ vs' k1 k2 k3 =>
    intro j j1 j2
    cases j with
    | succ j => exact ih k3 j (Nat.lt_of_succ_lt_succ j1) (Nat.lt_of_succ_lt_succ j2)
    | zero =>
      cases d with
      | row n kid =>
        obtain ⟨t, rfl⟩ := h2
        obtain ⟨t', rfl⟩ := k2
        have := EqAt.int_int (A := A) (s := s) i t i t'
        rwa [beq_self_eq_true] at this
      | fld n key kid =>
        obtain ⟨t, rfl⟩ := h2
        obtain ⟨t', rfl⟩ := k2
        have := EqAt.str_str (A := A) (s := s) (key i) t (key i) t'
        rwa [beq_self_eq_true] at this
      | _ => simp [Doc.width] at h1
theorem all_true (n : Nat) : ((List.range n).all fun _ => true) = true := by simp
/-- two lists of one address -/
theorem AddrV.listEq {A : Around} {s : Shared} {d : Doc} {ps : List Nat} {vs ws : List Value} {a e : Addr} (g : Good C σ s.heap) (ha : σ a = some (.lst vs)) (he : σ e = some (.lst ws)) (x : AddrV d ps vs) (y : AddrV d ps ws) (hu : A.units < cLine) : EqAt A s (.ref a) (.ref e) true := by
  by_cases hne : a = e
  · subst hne; exact EqAt.same _
  have := RcAt.lists (A := A) (e := fun _ => true) (g.isList ha) (g.isList he) (by simp [x.len, y.len]) hu fun j h1 h2 => by
    simp only [List.getElem_toArray]
    exact x.eqAt y j (by simpa using h1) (by simpa using h2)
  rw [all_true] at this
  exact EqAt.of_refs hne this
/-- is an address empty -/
theorem W.eqEmpty {d : Doc} {ps : List Nat} {vs : List Value} {A0 E0 : Addr} (hA : σ A0 = some (.lst vs)) (ha : AddrV d ps vs) (hE : σ E0 = some (.lst [])) (h : Q (.bool (ps == [])) σ) : W C b (compareOp .Eq (.ref A0) (.ref E0)) σ Q X := by
  intro A s P E o p _
  have hu := o.room.units
  have h9 : cLine = 9900 := rfl
  cases ha with
  | nil =>
    have := RcAt.lists (A := A) (e := fun _ => true) (o.good.isList hA) (o.good.isList hE) rfl (by omega) fun j h1 h2 => absurd h1 (Nat.not_lt_zero _)
    rw [all_true] at this
    exact this C.prog C.w E (fun v s' => P v s') (p _ _ _ (.refl o.good) h)
  | cons h1 h2 h3 =>
    exact RcAt.lists_lengths (A := A) (o.good.isList hA) (o.good.isList hE) (by simp) (by omega) C.prog C.w E (fun v s' => P v s') (p _ _ _ (.refl o.good) h)
theorem W.eqNoneEmpty {vs : List Value} {E0 : Addr} (hE : σ E0 = some (.lst vs)) (h : Q (.bool false) σ) : W C b (compareOp .Eq .none (.ref E0)) σ Q X := by
  intro A s P E o p _
  have hu := o.room.units
  have h9 : cLine = 9900 := rfl
  exact RcAt.none_list (o.good.isList hE) (by omega) C.prog C.w E (fun v s' => P v s') (p _ _ _ (.refl o.good) h)
/-- two lists of one address are no other -/
theorem W.neAddr {d : Doc} {ps : List Nat} {vs ws : List Value} {A0 E0 : Addr} (hA : σ A0 = some (.lst vs)) (ha : AddrV d ps vs) (hE : σ E0 = some (.lst ws)) (he : AddrV d ps ws) (h : Q (.bool false) σ) : W C b (compareOp .NotEq (.ref A0) (.ref E0)) σ Q X := by
  intro A s P E o p _
  have hu := o.room.units
  have h9 : cLine = 9900 := rfl
  have := RcNeAt.lists (A := A) (e := fun _ => true) (o.good.isList hA) (o.good.isList hE) (by simp [ha.len, he.len]) (by omega) fun j h1 h2 => by
    simp only [List.getElem_toArray]
    exact ha.eqAt he j (by simpa using h1) (by simpa using h2)
  rw [all_true] at this
  exact this C.prog C.w E (fun v s' => P v s') (p _ _ _ (.refl o.good) h)
/-- two lists of the same addresses are no other -/
theorem W.neRows {n : Nat} {rs qs : List Value} {A0 E0 : Addr} (hA : σ A0 = some (.lst rs)) (hE : σ E0 = some (.lst qs)) (h1 : rs.length = n) (h2 : qs.length = n) (hr : ∀ (j : Nat), j < n → ∃ a e vs ws d ps, rs[j]? = some (.ref a) ∧ qs[j]? = some (.ref e) ∧ σ a = some (.lst vs) ∧ σ e = some (.lst ws) ∧ AddrV d ps vs ∧ AddrV d ps ws) (h : Q (.bool false) σ) : W C b (compareOp .NotEq (.ref A0) (.ref E0)) σ Q X := by
  intro A s P E o p _
  have hu := o.room.units
  have h9 : cLine = 9900 := rfl
  have := RcNeAt.lists (A := A) (e := fun _ => true) (o.good.isList hA) (o.good.isList hE) (by simp [h1, h2]) (by omega) fun j j1 j2 => by
    simp only [List.size_toArray] at j1 j2
    simp only [List.getElem_toArray]
    obtain ⟨a, e, vs, ws, d, ps, e1, e2, e3, e4, e5, e6⟩ := hr j (by omega)
    rw [List.getElem?_eq_getElem j1] at e1
    rw [List.getElem?_eq_getElem j2] at e2
    rw [Option.some.inj e1, Option.some.inj e2]
    exact AddrV.listEq o.good e3 e4 e5 e6 (by show A.units + 1 < _; omega)
  rw [all_true] at this
  exact this C.prog C.w E (fun v s' => P v s') (p _ _ _ (.refl o.good) h)
end
end Mine
end
section
open PySem PySem.W PyProof.Rows Builtin
set_option Elab.async false
set_option maxRecDepth 100000
set_option autoImplicit false
set_option linter.unusedVariables false
namespace Mine
variable {C : Cx} {b : Nat} {σ H : AH} {X : Value → AH → Prop}
section
variable {elt target iter : Expr} {ifs : List Expr} {scope : Scope} {gpos pos : Pos} {it : Value} {cenv : Env} {D : Addr} {n₀ : Nat} {at_ : Nat → List Value → AH → Prop} {fin : List Value → AH → Prop}
/-- texts out of a held generator, joined -/
theorem WP.joinGen {B : Held C (b + 4)} {x : Str} {t : Tok} {Q : Value → AH → Prop} (hgs : B.gs = .fresh (.compStart (.GeneratorExp elt [⟨target, iter, ifs, 0⟩] scope pos) 0 it .none cenv)) (hGL : ∃ m, σ B.GL = some (.ns "frame" m))
    (h : ∀ D, σ D = none → D ≠ B.GL → ∃ n₀ at_ fin, Turns C b elt target ifs it cenv B.GL D n₀ at_ fin ∧ at_ 0 [] (σ.set D (.lst [])) ∧ ∀ ys σ', fin ys σ' → ∃ K m, σ' = AH.set K B.GL (.ns "frame" m) ∧ K B.GL = none ∧ K D = some (.lst ys) ∧
      ∃ ts, StrsAre ys ts ∧ (ts.map (·.length)).sum + ts.length * x.length ≤ 16777216 ∧ ∀ t', Q (.str (Txt.join x ts) t') K) :
    WP B (call (.builtin "str.join") [.str x t, .ref B.a]) σ Q := by
  intro s P E y hG p
  have hT : s.TypeIs (.ref B.a) "generator" := (y.isGen B.ha B.hg).2.typeIs
  refine wpAny_call (codeAny_call_builtin F.slot_str_join.plain F.entry_str_join (F.slot_str_join.check _ _ _ _ _ _ _ _ (typeIs_str _ _ _) (F.args_str_join_2 _ _) ?_))
  rw [join_tree_other]
  refine wpAny_bind (wpAny_typeOf hT ?_)
  show wpAny _ B.A.in1 ((pyIter (.ref B.a)).tryCatch _ >>= fun it => PySem.collect it >>= fun items => joinTail x items) _ _ s
  refine wpAny_bind (wpAny_tryCatch (wpAny_pyIter_gen (y.isGen B.ha B.hg).2 ?_))
  refine wpAny_bind (WP.collect (Q := fun ys K => ∃ ts, StrsAre ys ts ∧ (ts.map (·.length)).sum + ts.length * x.length ≤ 16777216 ∧ ∀ t', Q (.str (Txt.join x ts) t') K) hgs h _ rfl s _ _ y hG (fun ys K s' z q => ?_) hGL)
  obtain ⟨ts, hS, hz, q⟩ := q
  obtain ⟨l, rfl, rfl⟩ := strsAre_values hS
  have hok := joinOk_of hz
  unfold JoinOk at hok
  rw [Bool.not_eq_true'] at hok
  have g : Gives (joinTail x (strValues l)) (joinMade x l) := by
    have g0 := gives_joinTail x l hok
    cases l with
    | nil => exact g0
    | cons p r => cases r with
      | nil => exact g0
      | cons q r' => exact g0
  have post : (joinMade x l).post P s' := by
    cases l with
    | nil => exact ⟨joinFit_length hok, p _ _ _ (z.trans (.toks z.good _)) (q _)⟩
    | cons a r => cases r with
      | nil => exact p _ _ _ z (q _)
      | cons c r' => exact ⟨joinFit_length hok, p _ _ _ (z.trans (.toks z.good _)) (q _)⟩
  exact g C.prog C.w B.A (fun r s'' => match r with | .ok (.ret v) => P v s'' | .ok _ => False | .error e => E e s'') s' post
end
theorem W.joinList {l : Addr} {x : Str} {t : Tok} {vs : List Value} {ts : List Str} {Q : Value → AH → Prop} (hl : σ l = some (.lst vs)) (hs : StrsAre vs ts) (hz : (ts.map (·.length)).sum + ts.length * x.length ≤ 16777216) (h : ∀ t', Q (.str (Txt.join x ts) t') σ) : W C b (call (.builtin "str.join") [.str x t, .ref l]) σ Q X := by
  intro A s P E o p _
  exact wpAny_tk (join_list (o.good.isList hl) (by simpa using hs) hz fun t' k htk => p _ _ _ (.toks o.good _ htk) (h t'))
/-- "[%s]" % text -/
theorem W.boxed {y : Str} {t u : Tok} {Q : Value → AH → Prop} (hy : y.length ≤ 1000000) (h : ∀ t', Q (.str (Str.ofString "[" ++ y ++ Str.ofString "]") t') σ) : W C b (binaryOp .Mod (.str (Str.ofString "[%s]") t) (.str y u)) σ Q X := by
  intro A s P E o p _
  refine wpAny_tk ?_
  refine' KPc.mod_str ?f hy ?m ?_
  case f => kpc_eq
  case m => kpc_run_s
  intro t' k htk
  refine p _ _ _ (.toks o.good _ htk) ?_
  exact h t'
theorem W.strInt {i : Int} {t : Tok} {Q : Value → AH → Prop} (hi : i.natAbs.log2 < 1920) (h : ∀ t', Q (.str (Str.ofString (toString i)) t') σ) : W C b (call (.type "str") [.int i t]) σ Q X :=
  fun A s P E o p _ => PySem.P.str_of_int hi (p _ _ _ (.toks o.good _) (h _))
theorem W.strStr {x : Str} {t : Tok} {Q : Value → AH → Prop} (h : Q (.str x t) σ) : W C b (call (.type "str") [.str x t]) σ Q X :=
  fun A s P E o p _ => PySem.P.str_of_str (p _ _ _ (.refl o.good) h)
theorem W.starts {x y : Str} {t u : Tok} {Q : Value → AH → Prop} (h : Q (.bool (Txt.startswith x y)) σ) : W C b (call (.builtin "str.startswith") [.str x t, .str y u]) σ Q X :=
  fun A s P E o p _ => SC.startswith (p _ _ _ (.refl o.good) h)
theorem W.ends {x y : Str} {t u : Tok} {Q : Value → AH → Prop} (h : Q (.bool (Txt.endswith x y)) σ) : W C b (call (.builtin "str.endswith") [.str x t, .str y u]) σ Q X :=
  fun A s P E o p _ => SC.endswith (p _ _ _ (.refl o.good) h)
theorem mStarts {x : Str} {t : Tok} {pl : Sem Bool} {Q : Value × List Value → AH → Prop} (h : Q (.builtin "str.startswith", [.str x t]) σ) : W C b (getMethod (.str x t) (Str.ofString "startswith") pl) σ Q X :=
  W.methB (T := "str") (name := Str.ofString "startswith") (id := "str.startswith") Ty.str F.plainAttrs_str F.slot_str_startswith F.type_str_startswith noOwnDict.str h
theorem mEnds {x : Str} {t : Tok} {pl : Sem Bool} {Q : Value × List Value → AH → Prop} (h : Q (.builtin "str.endswith", [.str x t]) σ) : W C b (getMethod (.str x t) (Str.ofString "endswith") pl) σ Q X :=
  W.methB (T := "str") (name := Str.ofString "endswith") (id := "str.endswith") Ty.str F.plainAttrs_str F.slot_str_endswith F.type_str_endswith noOwnDict.str h
theorem mJoin {x : Str} {t : Tok} {pl : Sem Bool} {Q : Value × List Value → AH → Prop} (h : Q (.builtin "str.join", [.str x t]) σ) : W C b (getMethod (.str x t) (Str.ofString "join") pl) σ Q X :=
  W.methB .str F.plainAttrs_str F.slot_str_join F.type_str_join noOwnDict.str h
theorem W.neStr {x y : Str} {t u : Tok} {Q : Value → AH → Prop} (h : Q (.bool (x != y)) σ) : W C b (compareOp .NotEq (.str x t) (.str y u)) σ Q X :=
  fun A s P E o p _ => ne_str (p _ _ _ (.refl o.good) h)
theorem W.eqStrL {x y : Str} {t u : Tok} {Q : Value → AH → Prop} (h : Q (.bool (x == y)) σ) : W C b (compareOp .Eq (.str x t) (.str y u)) σ Q X :=
  fun A s P E o p _ => eq_str (p _ _ _ (.refl o.good) h)
theorem W.neBool {x y : Bool} {Q : Value → AH → Prop} (h : Q (.bool (x != y)) σ) : W C b (compareOp .NotEq (.bool x) (.bool y)) σ Q X :=
  fun A s P E o p _ => ne_bool (p _ _ _ (.refl o.good) h)
theorem W.eqBool {x y : Bool} {Q : Value → AH → Prop} (h : Q (.bool (x == y)) σ) : W C b (compareOp .Eq (.bool x) (.bool y)) σ Q X :=
  fun A s P E o p _ => eq_bool (p _ _ _ (.refl o.good) h)
theorem W.eqIntNone {i : Int} {t : Tok} {Q : Value → AH → Prop} (h : Q (.bool false) σ) : W C b (compareOp .Eq (.int i t) .none) σ Q X :=
  fun A s P E o p _ => EqNone.eq_int_none (p _ _ _ (.refl o.good) h)
theorem W.eqNoneInt {i : Int} {t : Tok} {Q : Value → AH → Prop} (h : Q (.bool false) σ) : W C b (compareOp .Eq .none (.int i t)) σ Q X :=
  fun A s P E o p _ => EqNone.eq_none_int (p _ _ _ (.refl o.good) h)
theorem W.eqNoneNone {Q : Value → AH → Prop} (h : Q (.bool true) σ) : W C b (compareOp .Eq .none .none) σ Q X :=
  fun A s P E o p _ => EqNone.eq_none_none (p _ _ _ (.refl o.good) h)
end Mine
end
section
/-! the plain law of texts: pieces set behind one another with a mark between them are told apart, when the mark never stands outside of quotes in a piece -/
set_option autoImplicit false
set_option linter.unusedVariables false
namespace Mine
/-- outside, in single quotes, in double quotes, after a backslash in either -/
inductive Q5 where
  | out | one | two | esc1 | esc2
deriving DecidableEq
def Q5.go : Q5 → Nat → Q5
  | .out, c => if c = 39 then .one else if c = 34 then .two else .out
  | .one, c => if c = 39 then .out else if c = 92 then .esc1 else .one
  | .two, c => if c = 34 then .out else if c = 92 then .esc2 else .two
  | .esc1, _ => .one
  | .esc2, _ => .two
/-- cut at the mark, outside of quotes -/
def cutAt (m : Nat) : Q5 → List Nat → List Nat → List (List Nat)
  | _, acc, [] => [acc.reverse]
  | q, acc, c :: cs => if q = .out ∧ c = m then acc.reverse :: cutAt m .out [] cs else cutAt m (q.go c) (c :: acc) cs
/-- read from here, a piece ends outside, and the mark never stands outside in it -/
def shut (m : Nat) : Q5 → List Nat → Bool
  | q, [] => q = .out
  | q, c :: cs => !(decide (q = .out) && decide (c = m)) && shut m (q.go c) cs
def glue (m : Nat) : List (List Nat) → List Nat
  | [] => []
  | [p] => p
  | p :: q :: r => p ++ m :: glue m (q :: r)
theorem cut_piece {m : Nat} : ∀ (p : List Nat) (q : Q5) (acc rest : List Nat), shut m q p = true → cutAt m q acc (p ++ rest) = cutAt m .out (p.reverse ++ acc) rest
  | [], q, acc, rest, h => by
    have : q = .out := by simpa [shut] using h
    subst this; rfl
  | c :: cs, q, acc, rest, h => by
    simp only [shut, Bool.and_eq_true, Bool.not_eq_true', Bool.and_eq_false_iff, decide_eq_false_iff_not] at h
    have hn : ¬ (q = .out ∧ c = m) := fun ⟨a, b⟩ => by rcases h.1 with x | x <;> contradiction
    rw [List.cons_append, cutAt, if_neg hn, cut_piece cs (q.go c) (c :: acc) rest h.2]
    simp
theorem cut_glue {m : Nat} (hm : Q5.out.go m = .out) : ∀ {ps : List (List Nat)}, ps ≠ [] → (∀ p ∈ ps, shut m .out p = true) → cutAt m .out [] (glue m ps) = ps
  | [], h, _ => absurd rfl h
  | [p], _, h => by
    have := cut_piece p .out [] [] (h p (List.mem_singleton.mpr rfl))
    rw [List.append_nil] at this
    rw [glue, this]; simp [cutAt]
  | p :: q :: r, _, h => by
    have e := cut_piece p .out [] (m :: glue m (q :: r)) (h p (List.mem_cons_self ..))
    rw [glue, e, cutAt, if_pos ⟨rfl, rfl⟩, cut_glue hm (by simp) fun x hx => h x (List.mem_cons_of_mem _ hx)]
    simp
theorem glue_inj {m : Nat} (hm : Q5.out.go m = .out) {ps qs : List (List Nat)} (h1 : ps ≠ []) (h2 : qs ≠ []) (g1 : ∀ p ∈ ps, shut m .out p = true) (g2 : ∀ p ∈ qs, shut m .out p = true) (h : glue m ps = glue m qs) : ps = qs := by
  rw [← cut_glue hm h1 g1, h, cut_glue hm h2 g2]
end Mine
end
section
set_option autoImplicit false
set_option linter.unusedVariables false
set_option maxRecDepth 100000
namespace Mine
def cps (s : String) : List Nat := s.toList.map Char.toNat
/-- how the 23 names are shown -/
def shown : List (List Nat) := ["a", "b", "'a.b'", "\"'\"", "\"a'b\"", "'\"'", "'[0]'", "''", "' a'", "'0'", "@a", "'a,b'", "'`this`'", "a-b", "'$'", "'[?a]'", "'..'", "'é'", "'a\\\\'", "'[1:]'", "\"0'.'0\"", "\"0','0\"", "ab"].map cps
def nameT (i : Nat) : List Nat := shown.getD i []
/-- a step of a path of law 03 -/
inductive St where
  | name (i : Nat)
  | names (i j : Nat)
  | place (k : Int)
  | slice (a b c : Option Int)
  | any
deriving DecidableEq
def numT : Int → List Nat
  | .ofNat n => cps (toString n)
  | .negSucc n => 45 :: cps (toString (n + 1))
def optT : Option Int → List Nat
  | none => []
  | some k => numT k
def sliceT : Option Int → Option Int → Option Int → List Nat
  | a, b, none => optT a ++ 58 :: optT b
  | a, b, some c => optT a ++ 58 :: (optT b ++ 58 :: numT c)
def St.text : St → List Nat
  | .name i => nameT i
  | .names i j => nameT i ++ 44 :: nameT j
  | .place k => 91 :: (numT k ++ [93])
  | .slice a b c => 91 :: (sliceT a b c ++ [93])
  | .any => [42]
def parts : List (Option Int) := [none, some (-1), some 0, some 1, some 2]
def St.fine : St → Prop
  | .name i => i < 23
  | .names i j => i < 23 ∧ j < 23
  | .place k => k ∈ [(-2 : Int), -1, 0, 1]
  | .slice a b c => a ∈ parts ∧ b ∈ parts ∧ c ∈ parts
  | .any => True
theorem name_shut : ∀ i, i < 23 → shut 46 .out (nameT i) = true ∧ shut 44 .out (nameT i) = true ∧ (nameT i).head? ≠ some 91 ∧ (nameT i).head? ≠ some 42 ∧ nameT i ≠ [] := by decide +kernel
theorem name_inj : ∀ i, i < 23 → ∀ j, j < 23 → nameT i = nameT j → i = j := by decide +kernel
/-- the bracketed ones -/
def boxes : List St := ([-2, -1, 0, 1].map fun k => St.place k) ++ parts.flatMap fun a => parts.flatMap fun b => parts.map fun c => St.slice a b c
theorem boxes_all : boxes.all (fun s => boxes.all fun t => s == t || s.text != t.text) = true := by decide +kernel
theorem boxes_shut : boxes.all (fun s => shut 46 .out s.text && s.text.head? == some 91) = true := by decide +kernel
theorem shut_app {m : Nat} : ∀ {p r : List Nat} {q : Q5}, shut m q p = true → shut m q (p ++ r) = shut m .out r
  | [], r, q, h => by
    have : q = .out := by simpa [shut] using h
    subst this; rfl
  | c :: cs, r, q, h => by
    simp only [shut, Bool.and_eq_true] at h
    rw [List.cons_append, shut, h.1, Bool.true_and, shut_app h.2]
theorem St.box {s : St} (h : s.fine) : (∃ i, i < 23 ∧ s = .name i) ∨ (∃ i j, i < 23 ∧ j < 23 ∧ s = .names i j) ∨ s ∈ boxes ∨ s = .any := by
  cases s with
  | name i => exact .inl ⟨i, h, rfl⟩
  | names i j => exact .inr (.inl ⟨i, j, h.1, h.2, rfl⟩)
  | place k =>
    refine .inr (.inr (.inl (List.mem_append_left _ (List.mem_map.mpr ⟨k, h, rfl⟩))))
  | slice a b c => exact .inr (.inr (.inl (List.mem_append_right _ (List.mem_flatMap.mpr ⟨a, h.1, List.mem_flatMap.mpr ⟨b, h.2.1, List.mem_map.mpr ⟨c, h.2.2, rfl⟩⟩⟩))))
  | any => exact .inr (.inr (.inr rfl))
theorem St.text_shut {s : St} (h : s.fine) : shut 46 .out s.text = true := by
  rcases s.box h with ⟨i, hi, rfl⟩ | ⟨i, j, hi, hj, rfl⟩ | hb | rfl
  · exact (name_shut i hi).1
  · show shut 46 .out (nameT i ++ 44 :: nameT j) = true
    rw [shut_app (name_shut i hi).1]
    show (!(decide (Q5.out = .out) && decide (44 = 46)) && shut 46 (Q5.out.go 44) (nameT j)) = true
    exact (name_shut j hj).1
  · have := List.all_eq_true.mp boxes_shut s hb
    rw [Bool.and_eq_true] at this; exact this.1
  · rfl
theorem box_head {s : St} (hb : s ∈ boxes) : s.text.head? = some 91 := by
  have := List.all_eq_true.mp boxes_shut s hb
  rw [Bool.and_eq_true] at this; exact eq_of_beq this.2
theorem names_cut {i j : Nat} (hi : i < 23) (hj : j < 23) : cutAt 44 .out [] (nameT i ++ 44 :: nameT j) = [nameT i, nameT j] :=
  cut_glue (m := 44) rfl (ps := [nameT i, nameT j]) (by simp) (by intro p hp; simp at hp; rcases hp with rfl | rfl; exact (name_shut i hi).2.1; exact (name_shut j hj).2.1)
theorem name_cut {i : Nat} (hi : i < 23) : cutAt 44 .out [] (nameT i) = [nameT i] :=
  cut_glue (m := 44) rfl (ps := [nameT i]) (by simp) (by intro p hp; simp at hp; subst hp; exact (name_shut i hi).2.1)
theorem names_head {i : Nat} {r : List Nat} (hi : i < 23) : (nameT i ++ r).head? ≠ some 91 ∧ (nameT i ++ r).head? ≠ some 42 := by
  obtain ⟨_, _, h1, h2, h3⟩ := name_shut i hi
  cases e : nameT i with
  | nil => exact absurd e h3
  | cons c cs => rw [e] at h1 h2; exact ⟨h1, h2⟩
/-- steps of one text are one -/
theorem St.text_inj {s t : St} (hs : s.fine) (ht : t.fine) (h : s.text = t.text) : s = t := by
  have hh := congrArg List.head? h
  have hc := congrArg (cutAt 44 .out []) h
  rcases s.box hs with ⟨i, hi, rfl⟩ | ⟨i, j, hi, hj, rfl⟩ | hb | rfl <;> rcases t.box ht with ⟨i', hi', rfl⟩ | ⟨i', j', hi', hj', rfl⟩ | hb' | rfl
  · rw [name_inj i hi i' hi' h]
  · rw [show (St.name i).text = nameT i from rfl, show (St.names i' j').text = nameT i' ++ 44 :: nameT j' from rfl, name_cut hi, names_cut hi' hj'] at hc
    simp at hc
  · rw [box_head hb'] at hh; exact absurd hh (name_shut i hi).2.2.1
  · exact absurd hh (name_shut i hi).2.2.2.1
  · rw [show (St.name i').text = nameT i' from rfl, show (St.names i j).text = nameT i ++ 44 :: nameT j from rfl, name_cut hi', names_cut hi hj] at hc
    simp at hc
  · rw [show (St.names i' j').text = nameT i' ++ 44 :: nameT j' from rfl, show (St.names i j).text = nameT i ++ 44 :: nameT j from rfl, names_cut hi' hj', names_cut hi hj] at hc
    simp at hc
    rw [name_inj i hi i' hi' hc.1, name_inj j hj j' hj' hc.2]
  · rw [box_head hb'] at hh; exact absurd hh (names_head (r := 44 :: nameT j) hi).1
  · exact absurd hh (names_head (r := 44 :: nameT j) hi).2
  · rw [box_head hb] at hh; exact absurd hh.symm (name_shut i' hi').2.2.1
  · rw [box_head hb] at hh; exact absurd hh.symm (names_head (r := 44 :: nameT j') hi').1
  · have := List.all_eq_true.mp (List.all_eq_true.mp boxes_all s hb) t hb'
    rw [Bool.or_eq_true] at this
    rcases this with h' | h'
    · exact eq_of_beq h'
    · rw [h] at h'; simp at h'
  · rw [box_head hb] at hh; cases hh
  · exact absurd hh.symm (name_shut i' hi').2.2.2.1
  · exact absurd hh.symm (names_head (r := 44 :: nameT j') hi').2
  · rw [box_head hb'] at hh; cases hh
  · rfl
/-- the text of a path -/
def pathT (ss : List St) : List Nat := glue 46 (ss.map St.text)
theorem pathT_inj {ss ts : List St} (h1 : ss ≠ []) (h2 : ts ≠ []) (f1 : ∀ s ∈ ss, s.fine) (f2 : ∀ s ∈ ts, s.fine) (h : pathT ss = pathT ts) : ss = ts := by
  have := glue_inj (m := 46) rfl (by simpa using h1) (by simpa using h2) (fun p hp => by obtain ⟨s, hs, rfl⟩ := List.mem_map.mp hp; exact s.text_shut (f1 s hs)) (fun p hp => by obtain ⟨s, hs, rfl⟩ := List.mem_map.mp hp; exact s.text_shut (f2 s hs)) h
  clear h h1 h2
  induction ss generalizing ts with
  | nil => cases ts with
    | nil => rfl
    | cons t ts => simp at this
  | cons s ss ih =>
    cases ts with
    | nil => simp at this
    | cons t ts =>
      simp only [List.map_cons, List.cons.injEq] at this
      rw [St.text_inj (f1 s (List.mem_cons_self ..)) (f2 t (List.mem_cons_self ..)) this.1, ih (fun s hs => f1 s (List.mem_cons_of_mem _ hs)) (fun s hs => f2 s (List.mem_cons_of_mem _ hs)) this.2]
end Mine
end
section
open PySem PySem.W PyProof.Rows Builtin
set_option Elab.async false
set_option maxRecDepth 100000
set_option autoImplicit false
set_option linter.unusedVariables false
namespace Mine
/-! the 23 names of law 03 as the model has them -/
def txt (l : List Nat) : Str := ⟨l.toArray⟩
theorem txt_app (a b : List Nat) : txt a ++ txt b = txt (a ++ b) := by
  have e : (txt a ++ txt b).cps = (txt (a ++ b)).cps := by rw [PySem.Str.cps_append]; simp [txt]
  exact congrArg PySem.Str.mk e
theorem txt_len (a : List Nat) : (txt a).length = a.length := by simp [txt, PySem.Str.length]
theorem txt_inj {a b : List Nat} (h : txt a = txt b) : a = b := by
  have := congrArg PySem.Str.cps h
  simpa [txt] using this
def rawNames : List (List Nat) := ["a", "b", "a.b", "'", "a'b", "\"", "[0]", "", " a", "0", "@a", "a,b", "`this`", "a-b", "$", "[?a]", "..", "é", "a\\", "[1:]", "0'.'0", "0','0", "ab"].map cps
def rawN (i : Nat) : List Nat := rawNames.getD i []
/-- the machine's words for the pattern of plain names -/
def plainCode : Array Nat := #[14, 4, 0, 1, 4294967295, 6, 0, 24, 6, 0, 1, 16, 64, 1, 13, 11, 9, 0, 0, 2281701374, 134217726, 0, 0, 0, 0, 0, 24, 16, 0, 4294967295, 13, 11, 9, 0, 67051520, 2281701375, 134217726, 0, 0, 0, 0, 0, 1, 6, 5, 1]
def isPlain (i : Nat) : Bool := [0, 1, 10, 13, 22].contains i
theorem says_all : (List.range 23).all (fun i => (reSays plainCode (txt (rawN i))).map Option.isSome == some (isPlain i)) = true := by decide +kernel
theorem shown_all : (List.range 23).all (fun i => if isPlain i then rawN i == nameT i else (reprText (txt (rawN i))).cps.toList == nameT i) = true := by decide +kernel
theorem raw_inj : (List.range 23).all (fun i => (List.range 23).all fun j => i == j || rawN i != rawN j) = true := by decide +kernel
theorem raw_star : (List.range 23).all (fun i => rawN i != [42]) = true := by decide +kernel
theorem raw_len : (List.range 23).all (fun i => decide ((rawN i).length ≤ 20) && decide ((nameT i).length ≤ 20)) = true := by decide +kernel
end Mine
end
section
open PySem PySem.W PyProof.Rows Builtin
set_option Elab.async false
set_option maxRecDepth 100000
set_option autoImplicit false
set_option linter.unusedVariables false
namespace Mine
variable {C : Cx} {b : Nat} {σ H : AH} {X : Value → AH → Prop}
/-- the second's class is the first's, or not below it -/
def sideOk (K : Frag) (Cl Cl' : Addr) : Bool := Cl == Cl' || mroIn K Cl' (.ref Cl) == some false
theorem wp_side {α : Type} {M : Model} {A : Around} {s : Shared} {P : α → Shared → Prop} {E : Value → Shared → Prop} {c : Bool} {t : Sem Bool} {k : Bool → Sem α} (h1 : c = true → Looks M s.heap t false) (h : wpAny M A (k false) P E s) : wpAny M A (if c = true then (t >>= fun r => k r) else (pure false >>= fun r => k r)) P E s := by
  refine wpAny_ite ?_
  cases hc : c with
  | true => simp only [if_true]; exact wpAny_bind ((h1 hc).here h)
  | false => simp only [Bool.false_eq_true, if_false]; exact wpAny_bind (wpAny_pure h)
/-- == of two objects, by the first one's def __eq__ -/
theorem W.eqInst {a c Cl d Cl' d' f : Addr} {m m' : List (Str × Value)} {Q : Value → AH → Prop} (ha : σ a = some (.inst Cl d)) (hd : σ d = some (.fs m)) (hc : σ c = some (.inst Cl' d')) (hd' : σ d' = some (.fs m')) (hk : specOk C.K Cl (Str.ofString "__eq__") f = true) (hs : sideOk C.K Cl Cl' = true)
    (h : W C b (call (.ref f) [.ref a, .ref c]) σ (fun v σ' => ∃ x, v = .bool x ∧ Q v σ') X) : W C b (compareOp .Eq (.ref a) (.ref c)) σ Q X := by
  intro A s P E o p xx
  have hu := o.room.units
  have h9 : cLine = 9900 := rfl
  obtain ⟨es, n, fa, e, I⟩ := o.good.inst ha hd
  obtain ⟨es', n', fa', e', I'⟩ := o.good.inst hc hd'
  simp only [specOk, Bool.and_eq_true, beq_iff_eq] at hk
  show wpAny _ A (richCompare .Eq (.ref a) (.ref c)) _ _ _
  unfold richCompare
  refine wpAny_holding (wpAny_bind (wpAny_cRoomFor (by omega) ?_))
  show wpAny _ A (typeOf (.ref a) >>= fun ta => typeOf (.ref c) >>= fun tb => _) _ _ _
  refine wpAny_bind (I.type.here (wpAny_bind (I'.type.here ?_)))
  dsimp only
  refine wp_side (fun hne => ?_) ?_
  · simp only [sideOk, Bool.or_eq_true, beq_iff_eq] at hs
    rcases hs with rfl | hs
    · simp at hne
    · exact looks_mroIn o.good.kin hs
  simp only [Bool.false_eq_true, if_false]
  refine wpAny_bind (m := tryCompare (.ref a) (Str.ofString "__eq__") (.ref c)) ?_
  unfold tryCompare
  refine wpAny_bind (m := callSpecialIfBound? (.ref a) (Str.ofString "__eq__") [.ref c]) ?_
  unfold callSpecialIfBound?
  refine wpAny_holding (wpAny_bind ?_)
  unfold bindSpecialIfBound?
  refine wpAny_bind (m := specialOf (.ref a) (Str.ofString "__eq__")) (wpAny_bind (I.type.here ((looks_findIn o.good.kin hk.1).here ?_)))
  dsimp only
  refine wpAny_bind (wpAny_askSetting ?_)
  have hbind : ∀ Q' E', Q' (some (.ref f, [.ref a])) s → wpAny (model C.prog C.w) A (do return some (← bindSpecial (.ref f) (.ref a))) Q' E' s := by
    intro Q' E' hq
    refine wpAny_bind ?_
    unfold bindSpecial
    refine wpAny_bind ((looks_typeIn o.good.kin hk.2).here ?_)
    rw [if_pos (by decide)]
    exact wpAny_pure (wpAny_pure hq)
  have hgo : ∀ Q', Q' (some (.ref f, [.ref a])) s → wpAny (model C.prog C.w) A (if (model C.prog C.w).w.params.followText "special-get-raises" = true then (do return some (← bindSpecial (.ref f) (.ref a))) else ((do return some (← bindSpecial (.ref f) (.ref a)) : Sem (Option (Value × List Value))).tryCatch fun _ => do rule "special.get-raises-dropped"; pure none)) Q' E s := by
    intro Q' hq
    refine wpAny_ite ?_
    split
    · exact hbind _ _ hq
    · exact wpAny_tryCatch (hbind _ _ hq)
  refine hgo _ ?_
  dsimp only
  refine wpAny_bind (h A s _ _ o (fun v σ' s' y q => ?_) xx)
  obtain ⟨x, rfl, q⟩ := q
  refine wpAny_pure ?_
  dsimp only
  refine wpAny_pure ?_
  dsimp only
  exact wpAny_pure (p _ _ _ y q)
end Mine
end
section
open PySem PySem.W PyProof.Rows Builtin
set_option Elab.async false
set_option maxRecDepth 100000
set_option autoImplicit false
set_option linter.unusedVariables false
namespace Mine
variable {C : Cx} {α β : Type} {b : Nat} {σ H : AH} {X : Value → AH → Prop}
section
variable {prog : Program} {w : World} {A : Around} {E : Value → Shared → Prop} {s : Shared}
theorem nextOf_tuple_item {it t : Addr} {i : Nat} {items : Array Value} {x : Value} {Q : Value → Shared → Prop} (hit : s.heap.IsTupleIter it t i) (ht : s.heap.IsTuple t items) (hx : items[i]? = some x)
    (hQ : ∀ h', h'.IsTupleIter it t (i + 1) → Heap.SameBut it s.heap h' → Q x { s with heap := h' }) : wpAny (model prog w) A (Builtin.SmallTypes.nextOf (.ref it)) Q E s := by
  obtain ⟨o, ho, hc, hd⟩ := id hit
  obtain ⟨ol, hol, _, nl, hdl⟩ := ht
  unfold Builtin.SmallTypes.nextOf
  refine wpAny_bind (wpAny_callSpecial?_slot (name := Str.ofString "__next__") hit.typeIs F.slot_tuple_iterator_next
    (wpAny_call_entry F.slot_tuple_iterator_next hit.typeIs F.entry_tuple_iterator_next ?_ (F.args_tuple_iterator_next_1 _)))
  show wpAny _ _ (field (.ref it) 0 >>= _) _ _ s
  refine wpAny_bind (wpAny_field ho hd (x := .ref t) rfl ?_)
  show wpAny _ _ (if (Value.ref t == Value.none) = true then _ else _) _ _ s
  rw [if_neg (show ¬ ((Value.ref t == Value.none) = true) from Bool.false_ne_true)]
  show wpAny _ _ (field (.ref it) 1 >>= _) _ _ s
  refine wpAny_bind (wpAny_field ho hd (x := .int i 0) rfl ?_)
  show wpAny _ _ (seqItems? (.ref t) >>= _) _ _ s
  refine wpAny_bind (wpAny_seqItems hol hdl ?_)
  simp only [Int.toNat_natCast, hx]
  refine wpAny_bind (wpAny_setField ho hd (by simp) (wpAny_pure ⟨x, rfl, wpAny_pure (hQ _ ?_ (Heap.SameBut.update ..))⟩))
  exact ⟨_, Heap.get?_update_self _ ho (Obj.isFreed_of_fields (Obj.data_mapFields hd _)), (Obj.cls_mapFields ..).trans hc, by
    rw [Obj.data_mapFields hd]; simp [rawInt]⟩
theorem nextOf_tuple_end {it t : Addr} {i : Nat} {items : Array Value} {Q : Value → Shared → Prop} (hh : A.handled = none) (hit : s.heap.IsTupleIter it t i) (ht : s.heap.IsTuple t items) (hx : items[i]? = none)
    (hE : ∀ h' e, Heap.ExtBut it s.heap h' → (∃ o, h'.get? e = some o ∧ o.cls = .type "StopIteration") → E (.ref e) { s with heap := h' }) : wpAny (model prog w) A (Builtin.SmallTypes.nextOf (.ref it)) Q E s := by
  obtain ⟨o, ho, hc, hd⟩ := id hit
  obtain ⟨ol, hol, _, nl, hdl⟩ := ht
  unfold Builtin.SmallTypes.nextOf
  refine wpAny_bind (wpAny_callSpecial?_slot (name := Str.ofString "__next__") hit.typeIs F.slot_tuple_iterator_next
    (wpAny_call_entry F.slot_tuple_iterator_next hit.typeIs F.entry_tuple_iterator_next ?_ (F.args_tuple_iterator_next_1 _)))
  show wpAny _ _ (field (.ref it) 0 >>= _) _ _ s
  refine wpAny_bind (wpAny_field ho hd (x := .ref t) rfl ?_)
  show wpAny _ _ (if (Value.ref t == Value.none) = true then _ else _) _ _ s
  rw [if_neg (show ¬ ((Value.ref t == Value.none) = true) from Bool.false_ne_true)]
  show wpAny _ _ (field (.ref it) 1 >>= _) _ _ s
  refine wpAny_bind (wpAny_field ho hd (x := .int i 0) rfl ?_)
  show wpAny _ _ (seqItems? (.ref t) >>= _) _ _ s
  refine wpAny_bind (wpAny_seqItems hol hdl ?_)
  simp only [Int.toNat_natCast, hx]
  refine wpAny_bind (wpAny_rule (wpAny_bind (wpAny_setField ho hd (by simp) ?_)))
  show wpAny _ _ (newExc (.type "StopIteration") [] >>= _) _ _ _
  refine wpAny_bind ?_
  simp only [newExc, newTuple]
  refine wpAny_bind (wpAny_newObj_type ?_ (by size_fits))
  refine wpAny_bind (m := firstArgMember _ _) (wpAny_of_eq (a := Value.none) (by first | rfl | (simp only [firstArgMember]; rfl)) ?_)
  refine wpAny_newObj_type ?_ (by size_fits)
  simp only [raiseNew]
  refine wpAny_bind (wpAny_handled ?_)
  first | rw [show A.in1.handled = none from hh] | rw [hh]
  refine wpAny_bind (wpAny_pure (wpAny_throw ?_))
  exact hE _ _ (((Heap.SameBut.update ..).extBut.push _).push _) ⟨_, Heap.get?_push_size _ rfl, rfl⟩
end
theorem Draws.tuple {prog : Program} {w : World} {A : Around} (hh : A.handled = none) (it l : Addr) (hne : l ≠ it) (items : Array Value) :
    Draws prog w A it [it, l] items.size (fun i v => items[i]? = some v) (fun i h => h.IsTupleIter it l i ∧ h.IsTuple l items) where
  live := fun _ _ st => let ⟨o, ho, _⟩ := st.1; ⟨o, ho⟩
  frame := fun _ _ _ st hk => ⟨let ⟨o, ho, r⟩ := st.1; ⟨o, hk it (by simp) o ho, r⟩, let ⟨o, ho, r⟩ := st.2; ⟨o, hk l (by simp) o ho, r⟩⟩
  item := fun i s Q E hi st hQ => by
    refine nextOf_tuple_item st.1 st.2 (x := items[i]) (by simp [hi]) fun h' hit' hs' => ?_
    exact hQ _ h' s.toks (by simp [hi]) ⟨hit', st.2.extBut hs'.extBut hne⟩ hs'
  done := fun s Q E st hE => nextOf_tuple_end hh st.1 st.2 (by simp) hE
section
variable {prog : Program} {w : World} {A : Around} {E : Value → Shared → Prop} {s : Shared}
theorem enumT_item {e it l : Addr} {i : Nat} {items : Array Value} {x old : Value} {Q : Option Value → Shared → Prop} (hh : A.handled = none)
    (he : IsEnum s.heap e it i old) (hit : s.heap.IsTupleIter it l i) (hl : s.heap.IsTuple l items) (hx : items[i]? = some x) (hne : e ≠ it) (hel : e ≠ l) (hli : l ≠ it)
    (hQ : ∀ h' tk, s.toks ≤ tk + 1 → IsEnumOut h' e it ((i : Int) + 1) x s.heap.objs.size → h'.IsTupleIter it l (i + 1) →
      h'.get? s.heap.objs.size = some { cls := .type "tuple", data := .seq #[.int i tk, x] } → h'.objs.size = s.heap.objs.size + 1 →
      (∀ b o, b ≠ e → b ≠ it → s.heap.get? b = some o → h'.get? b = some o) → Q (some (.ref s.heap.objs.size)) { s with heap := h', toks := tk + 1 }) :
    wpAny (model prog w) A (pyNext (.ref e)) Q E s := by
  refine wpAny_tk (wpAny_pyNext_enum_itemD (Draws.tuple (A := A.in1) hh it l hli items) he ⟨hit, hl⟩ (Array.getElem?_eq_some_iff.mp hx).1 hne (by simp [hne, hel]) fun y h' tk hy a b' c d k htk => ?_)
  have : y = x := Option.some.inj (hy.symm.trans hx)
  subst this
  exact hQ h' tk htk a b'.1 c d k
theorem enumT_end {e it l : Addr} {i : Nat} {items : Array Value} {old : Value} {Q : Option Value → Shared → Prop} (hh : A.handled = none)
    (he : IsEnum s.heap e it i old) (hit : s.heap.IsTupleIter it l i) (hl : s.heap.IsTuple l items) (hx : i = items.size) (hli : l ≠ it)
    (hQ : ∀ h', Heap.ExtBut it s.heap h' → Q none { s with heap := h' }) : wpAny (model prog w) A (pyNext (.ref e)) Q E s := by
  subst hx
  exact wpAny_pyNext_enum_endD (Draws.tuple (A := A.in1) hh it l hli items) he ⟨hit, hl⟩ hQ
end
theorem Src.enumT {I J l : Addr} {env : Env} {x y : Str} {px py pos : Pos} {k : Nat} {vs : List Value} (hne : I ≠ J) :
    Src C b (.ref I) (.Tuple [.Name x px, .Name y py] k pos) env (Value × Value) (two C b env x y) (fun σ => σ l = some (.tup vs)) vs.length (fun i p => ∃ t v, vs[i]? = some v ∧ p = (.int (i : Int) t, v))
      (fun i (small big : AH) => small I = none ∧ small J = none ∧ big = (small.set I (enumO J i)).set J (tupIt l i)) where
  frame := fun γ b' i small big t Q ⟨hI, hJ, e⟩ h => by
    subst e
    have h1 : W C b' t (small.set I (enumO J i)) (fun a σ' => ∃ σ'', σ' = σ''.set I (enumO J i) ∧ σ'' I = none ∧ Q a σ'') noX := W.frame hI trivial (W.mono h (fun a σ' q n => ⟨σ', rfl, n, q⟩) fun _ _ x => x)
    refine W.frame (by rw [AH.set_ne (Ne.symm hne)]; exact hJ) trivial (W.mono h1 (fun a σ' ⟨σ'', e, n, q⟩ n2 => ?_) fun _ _ x => x)
    subst e
    refine ⟨σ'', ⟨n, ?_, rfl⟩, q⟩
    rwa [AH.set_ne (Ne.symm hne)] at n2
  stFrame := fun x σ Q I o h1 h2 h3 => two.frame h1 h2 h3
  needSet := fun σ a o h1 h2 => AH.set_new h2 h1
  grow := fun i small big a o' ⟨hI, hJ, e⟩ ha => by
    subst e
    have h0 : a ≠ J := fun q => by subst q; rw [AH.set_self] at ha; cases ha
    rw [AH.set_ne h0] at ha
    have h1 : a ≠ I := fun q => by subst q; rw [AH.set_self] at ha; cases ha
    have h2 : small a = none := by rw [AH.set_ne h1] at ha; exact ha
    exact ⟨⟨by rw [AH.set_ne (Ne.symm h1)]; exact hI, by rw [AH.set_ne (Ne.symm h0)]; exact hJ, by rw [AH.set_comm (Ne.symm h0), AH.set_comm (Ne.symm h1)]⟩, h2⟩
  self_ := fun i small big Q ⟨hI, hJ, e⟩ h => by
    subst e
    intro A s P E o p x
    obtain ⟨_, eI, ⟨old, rfl⟩, _, _⟩ := o.good.at_ I (enumO J i) (by rw [AH.set_ne hne, AH.set_self])
    exact wpAny_pyIter_enum eI (p _ _ _ (.refl o.good) h)
  stMono := fun x σ Q Q' h1 h2 => W.mono h2 (fun _ σ' q => W.mono q (fun _ σ'' q => h1 σ'' q) fun _ _ x => x) fun _ _ x => x
  cut := fun i small big ⟨hI, hJ, e⟩ => e ▸ Cut2.trans (.set (by rw [AH.set_ne (Ne.symm hne)]; exact hJ) trivial) (.set hI trivial)
  next := fun i small big Q hi ⟨hI, hJ, e⟩ hn h => by
    subst e
    have hv : vs.toArray[i]? = some vs[i] := by simp [hi]
    intro A s P E o p _
    have sI : ((small.set I (enumO J i)).set J (tupIt l i)) I = some (enumO J i) := by rw [AH.set_ne hne, AH.set_self]
    have sJ : ((small.set I (enumO J i)).set J (tupIt l i)) J = some (tupIt l i) := AH.set_self
    have sl : ((small.set I (enumO J i)).set J (tupIt l i)) l = some (.tup vs) := by
      rw [AH.set_ne, AH.set_ne]; exact hn
      · intro q; rw [q, hI] at hn; cases hn
      · intro q; rw [q, hJ] at hn; cases hn
    have hIl : I ≠ l := fun q => by rw [q, hn] at hI; cases hI
    have hJl : l ≠ J := fun q => by rw [q, hJ] at hn; cases hn
    obtain ⟨_, eI, ⟨old, rfl⟩, _, _⟩ := o.good.at_ _ _ sI
    refine enumT_item o.room.hd eI (o.good.tupIter sJ) (o.good.isTuple sl) hv hne hIl hJl fun h' tk htk he hit ht hz hk => ?_
    have y1 := After.upd2 (t := tk + 1) o.good sI sJ hne hk (o' := enumOut J s.heap.objs.size ((i : Int) + 1)) ⟨_, he, ⟨_, rfl⟩, by simp, by simp⟩ (Mt.tupIter hit) trivial trivial
    have e1 : ((((small.set I (enumO J i)).set J (tupIt l i)).set I (enumOut J s.heap.objs.size ((i : Int) + 1))).set J (tupIt l (i + 1))) = (small.set I (enumOut J s.heap.objs.size ((i : Int) + 1))).set J (tupIt l (i + 1)) := by
      rw [AH.set_comm (Ne.symm hne), AH.set_set, AH.set_set]
    rw [e1] at y1
    have hT : s.heap.objs.size ≠ I ∧ s.heap.objs.size ≠ J ∧ small s.heap.objs.size = none := by
      have f := o.good.fresh
      have n1 : s.heap.objs.size ≠ I := fun q => by rw [q, sI] at f; cases f
      have n2 : s.heap.objs.size ≠ J := fun q => by rw [q, sJ] at f; cases f
      rw [AH.set_ne n2, AH.set_ne n1] at f
      exact ⟨n1, n2, f⟩
    have y2 := y1.also o.good (T := s.heap.objs.size) (o := .tup [.int i tk, vs[i]]) (Nat.le_refl _) ⟨0, ht⟩
    refine p _ _ _ y2 ⟨_, rfl, ?_⟩
    generalize s.heap.objs.size = T at *
    have hx := h (.int i tk, vs[i]) ⟨_, _, by simp [hi], rfl⟩
    clear ht y1 y2 hk hit he hz sl sJ sI htk
    obtain ⟨n1, n2, n3⟩ := hT
    intro A s P E o p _
    have sI' : (((small.set I (enumOut J T ((i : Int) + 1))).set J (tupIt l (i + 1))).set T (.tup [.int i tk, vs[i]])) I = some (enumOut J T ((i : Int) + 1)) := by
      rw [AH.set_ne (Ne.symm n1), AH.set_ne hne, AH.set_self]
    obtain ⟨_, eI, ⟨old, rfl⟩, _, _⟩ := o.good.at_ _ _ sI'
    refine wpAny_letOwnedTupleGo_enum eI fun h' he hs => ?_
    have y3 := After.upd' (t := s.toks) (o' := enumO J ((i + 1 : Nat) : Int)) o.good sI' hs ⟨_, he, ⟨_, rfl⟩, by simp, by simp⟩ (fun c m e => by cases e)
    have e2 : ((((small.set I (enumOut J T ((i : Int) + 1))).set J (tupIt l (i + 1))).set T (.tup [.int i tk, vs[i]])).set I (enumO J ((i + 1 : Nat) : Int))) = ((small.set I (enumO J ((i + 1 : Nat) : Int))).set J (tupIt l (i + 1))).set T (.tup [.int i tk, vs[i]]) := by
      rw [AH.set_comm n1, AH.set_comm (Ne.symm hne), AH.set_set]
    rw [e2] at y3
    refine p _ _ _ y3 ?_
    refine W.cut2 (W.assignPair (u := .int i tk) (v := vs[i]) AH.set_self (two.frame ?_ trivial (two.frame ?_ trivial (two.frame hI trivial ?_))))
    · rw [AH.set_ne n2, AH.set_ne n1]; exact n3
    · rw [AH.set_ne (Ne.symm hne)]; exact hJ
    · refine W.mono hx (fun _ σ' q => W.mono q (fun _ σ'' q m1 m2 m3 => ?_) fun _ _ x => x) fun _ _ x => x
      refine ⟨_, .set m3 trivial, σ'', ⟨m1, ?_, rfl⟩, q⟩
      rwa [AH.set_ne (Ne.symm hne)] at m2
  done := fun small big Q ⟨hI, hJ, e⟩ hn h => by
    subst e
    refine W.cut2 ?_
    intro A s P E o p _
    have sI : ((small.set I (enumO J vs.length)).set J (tupIt l vs.length)) I = some (enumO J vs.length) := by rw [AH.set_ne hne, AH.set_self]
    have sl : ((small.set I (enumO J vs.length)).set J (tupIt l vs.length)) l = some (.tup vs) := by
      rw [AH.set_ne, AH.set_ne]; exact hn
      · intro q; rw [q, hI] at hn; cases hn
      · intro q; rw [q, hJ] at hn; cases hn
    have hIl : I ≠ l := fun q => by rw [q, hn] at hI; cases hI
    have hJl : l ≠ J := fun q => by rw [q, hJ] at hn; cases hn
    obtain ⟨_, eI, ⟨old, rfl⟩, _, _⟩ := o.good.at_ _ _ sI
    refine enumT_end o.room.hd eI (o.good.tupIter AH.set_self) (o.good.isTuple sl) (by simp) hJl fun h' hs => ?_
    have y := After.lose (t := s.toks) o.good AH.set_self (by trivial) hs
    rw [AH.drop_set (by rw [AH.set_ne (Ne.symm hne)]; exact hJ)] at y
    exact p _ _ _ y ⟨small, .set hI trivial, rfl, h⟩

theorem meets_enumerate_newT (l : Addr) (items : Array Value) (n : Nat) (dct : Option Addr) (sl : Array (Option Value)) :
    Meets (Builtin.«enumerate.__new__» ⟨[.type "enumerate", .ref l], []⟩) (fun _ R s => s.heap.get? l = some { cls := .type "tuple", dict := dct, data := .seq items n, slots := sl } ∧
      R (.ok (.ret (.ref (s.heap.push { cls := .type "tuple_iterator", data := .fields #[.ref l, .int 0 0] }).objs.size)))
        { s with heap := (s.heap.push { cls := .type "tuple_iterator", data := .fields #[.ref l, .int 0 0] }).push { cls := .type "enumerate", data := .fields #[.none, .bool false, .ref s.heap.objs.size, rawInt 0, .none, .none] } }) :=
  .of_wp fun prog w A R s h => by
    obtain ⟨hp, g, d, tk, os⟩ := s; obtain ⟨hl, h⟩ := h
    have hsub := sub_enumerate
    have hL : Heap.IsTuple (Shared.heap ⟨hp, g, d, tk, os⟩) l items := ⟨_, hl, rfl, n, rfl⟩
    wp_walk using AutoSeq1.wpAny_loadPart' hl
    refine wpAny_stack_any fun st => wpAny_pure ?_
    split
    · rename_i c _ _ _ _ _
      cases (c == Value.type "enumerate")
      · wp_walk using AutoSeq1.wpAny_loadPart' hl, wpAny_pyIter_tuple hL
        exact ⟨_, rfl, h⟩
      · wp_walk using AutoSeq1.wpAny_loadPart' hl, wpAny_pyIter_tuple hL
        exact ⟨_, rfl, h⟩
    · wp_walk using AutoSeq1.wpAny_loadPart' hl, wpAny_pyIter_tuple hL
      exact ⟨_, rfl, h⟩
theorem call_enumerate_tuple {prog : Program} {w : World} {A : Around} {E : Value → Shared → Prop} {s : Shared} {l : Addr} {items : Array Value} {Q : Value → Shared → Prop} (hL : s.heap.IsTuple l items)
    (h : ∀ h', IsEnum h' (s.heap.objs.size + 1) s.heap.objs.size 0 .none → h'.IsTupleIter s.heap.objs.size l 0 → h'.objs.size = s.heap.objs.size + 2 →
      (∀ b o, s.heap.get? b = some o → h'.get? b = some o) → Q (.ref (s.heap.objs.size + 1)) { s with heap := h' }) :
    wpAny (model prog w) A (call (.type "enumerate") [.ref l]) Q E s := by
  obtain ⟨⟨c, dct, dt, sl⟩, hl, hc, n, hd⟩ := hL
  replace hc : c = .type "tuple" := hc
  replace hd : dt = .seq items n := hd
  subst hc hd
  refine callType_new F.called_enumerate (by decide) (F.typeCall_enumerate_1 _) (F.newCall_enumerate_1 _) (fun obj => F.args_object_init_2 obj _) F.entry_enumerate_new
    (meets_enumerate_newT l items n dct sl) ⟨hl, ?_⟩
  have hz : (s.heap.push { cls := .type "tuple_iterator", data := .fields #[.ref l, .int 0 0] }).objs.size = s.heap.objs.size + 1 := Heap.size_push ..
  show _ ∧ _
  rw [hz]
  have he : IsEnum ((s.heap.push { cls := .type "tuple_iterator", data := .fields #[.ref l, .int 0 0] }).push
      { cls := .type "enumerate", data := .fields #[.none, .bool false, .ref s.heap.objs.size, rawInt 0, .none, .none] }) (s.heap.objs.size + 1) s.heap.objs.size 0 .none := by
    have := Heap.get?_push_size (s.heap.push { cls := .type "tuple_iterator", data := .fields #[.ref l, .int 0 0] })
      (o := { cls := .type "enumerate", data := .fields #[.none, .bool false, .ref s.heap.objs.size, rawInt 0, .none, .none] }) rfl
    rw [hz] at this; exact this
  refine ⟨⟨_, he, rfl⟩, h _ he ⟨_, Heap.get?_push_of_some _ (Heap.get?_push_size _ rfl), rfl, rfl⟩ (by rw [Heap.size_push, hz]) fun b o x => Heap.get?_push_of_some _ (Heap.get?_push_of_some _ x)⟩
theorem W.callEnumT {l : Addr} {vs : List Value} {Q : Value → AH → Prop} (hl : σ l = some (.tup vs)) (h : ∀ I J, I ≠ J → σ I = none → σ J = none → Q (.ref I) ((σ.set I (enumO J 0)).set J (tupIt l 0))) : W C b (call (.type "enumerate") [.ref l]) σ Q X := by
  intro A s P E o p x
  refine call_enumerate_tuple (o.good.isTuple hl) fun h' he hit hz hk => ?_
  have y0 := After.keeps (t := s.toks) o.good hk
  have hJ : σ s.heap.objs.size = none := o.good.fresh
  have hI : σ (s.heap.objs.size + 1) = none := by
    cases e : σ (s.heap.objs.size + 1) with
    | none => rfl
    | some z => exact absurd (o.good.shown_lt e) (Nat.not_lt.mpr (Nat.le_succ _))
  have y1 := y0.also o.good (T := s.heap.objs.size + 1) (o := enumO s.heap.objs.size 0) (Nat.le_succ _) ⟨_, he, ⟨_, rfl⟩, by simp, by simp⟩
  have y2 := y1.also o.good (T := s.heap.objs.size) (o := tupIt l 0) (Nat.le_refl _) (Mt.tupIter hit)
  exact p _ _ _ y2 (h _ _ (Nat.succ_ne_self _) hI hJ)
/-- a list of one thing, times a number -/
theorem W.mulOne {l : Addr} {v : Value} {x : Int} {u : Tok} {Q : Value → AH → Prop} (hl : σ l = some (.lst [v])) (hx : -100 ≤ x ∧ x ≤ 100) (h : ∀ a, σ a = none → Q (.ref a) (σ.set a (.lst (List.replicate x.toNat v)))) : W C b (binaryOp .Mult (.ref l) (.int x u)) σ Q X := by
  intro A s P E o p _
  obtain ⟨k, hl'⟩ := o.good.at_ _ _ hl
  have e : (List.foldl (fun x1 x2 => x1 ++ x2) #[] (List.replicate (if ([v] : List Value).toArray.isEmpty = true then 0 else x.toNat) ([v] : List Value).toArray)) = (List.replicate x.toNat v).toArray := by
    rw [if_neg (by simp)]
    generalize x.toNat = n
    have key : ∀ (n : Nat) (acc : Array Value), List.foldl (fun x1 x2 => x1 ++ x2) acc (List.replicate n ([v] : List Value).toArray) = acc ++ (List.replicate n v).toArray := by
      intro n
      induction n with
      | zero => intro acc; simp
      | succ n ih => intro acc; rw [List.replicate_succ, List.foldl_cons, ih, List.replicate_succ]; apply Array.ext'; simp
    rw [key]; simp
  have z := After.add (t := s.toks) o.good (a := s.heap.objs.size) (o := .lst (List.replicate x.toNat v)) (h' := s.heap.push { cls := .type "list", data := .seq (List.replicate x.toNat v).toArray }) (fun b o' e => Heap.get?_push_of_some _ e) (Nat.le_refl _) ⟨0, Heap.get?_push_size _ rfl⟩
  have hlo : -(2 ^ 63 : Int) ≤ x := by omega
  have hhi : x < 2 ^ 63 := by omega
  have hsz : ([v] : List Value).toArray.size * x.toNat ≤ 2 ^ 24 := by simp; omega
  refine wpAny_binaryOp_repeat_ref (T := "list") (U := "int") (by decide) ⟨_, hl', rfl⟩ (fun s' => typeIs_int s' x u) noFill_list_mul F.fills_int_mul F.slot_int_rmul repeat_list F.slot_int_index.lookup
    (call_meets F.slot_int_rmul (typeIs_int s x u) F.entry_int_rmul (F.args_int_rmul_2 _ _) (int___rmul___int_list x u l _ k)
      ⟨hl', rfl, ⟨_, hl', rfl⟩, call_meets F.slot_list_mul ⟨_, hl', rfl⟩ F.entry_list_mul (F.args_list_mul_2 _ _)
        (AutoListH.list___mul___list_int_3 l _ k x u (by simp [Builtin.List.listFitsIndex]; omega) (by omega) (by simp [Builtin.List.listTooLong, sizeLine]; omega))
        ⟨hl', ?_⟩⟩)
  rw [e]
  exact p _ _ _ z.1 (h _ z.2)
end Mine
end
section
open PySem PySem.W PyProof.Rows Builtin
set_option Elab.async false
set_option maxRecDepth 100000
set_option autoImplicit false
set_option linter.unusedVariables false
namespace Mine
theorem glue_app (m : Nat) : ∀ (ps qs : List (List Nat)), ps ≠ [] → qs ≠ [] → glue m (ps ++ qs) = glue m ps ++ m :: glue m qs
  | [], _, h, _ => absurd rfl h
  | [p], [], _, h => absurd rfl h
  | [p], q :: r, _, _ => rfl
  | p :: q :: r, qs, _, h => by
    have := glue_app m (q :: r) qs (by simp) h
    rw [List.cons_append, List.cons_append, glue, ← List.cons_append, this, glue]
    simp
theorem pathT_app {ss ts : List St} (h1 : ss ≠ []) (h2 : ts ≠ []) : pathT (ss ++ ts) = pathT ss ++ 46 :: pathT ts := by
  unfold pathT
  rw [List.map_append, glue_app 46 _ _ (by simpa using h1) (by simpa using h2)]
theorem box_two : boxes.all (fun s => s.text.take 2 != [91, 63] && decide (2 ≤ s.text.length) && decide (s.text.length ≤ 50)) = true := by decide +kernel
theorem raw_len2 {i : Nat} (hi : i < 23) : (nameT i).length ≤ 20 := by
  have h2 := List.all_eq_true.mp raw_len i (List.mem_range.mpr hi)
  simp only [Bool.and_eq_true, decide_eq_true_eq] at h2
  exact h2.2
theorem St.len {s : St} (h : s.fine) : s.text.length ≤ 50 := by
  rcases s.box h with ⟨i, hi, rfl⟩ | ⟨i, j, hi, hj, rfl⟩ | hb | rfl
  · have := raw_len2 hi; show (nameT i).length ≤ 50; omega
  · have := raw_len2 hi; have := raw_len2 hj
    show (nameT i ++ 44 :: nameT j).length ≤ 50
    rw [List.length_append, List.length_cons]; omega
  · have := List.all_eq_true.mp box_two s hb
    simp only [Bool.and_eq_true, decide_eq_true_eq] at this
    exact this.2
  · decide
theorem pathT_len : ∀ {ss : List St}, (∀ s ∈ ss, s.fine) → (pathT ss).length ≤ 60 * ss.length
  | [], _ => by simp [pathT, glue]
  | [s], h => by have := (s.len (h s (by simp))); simp [pathT, glue]; omega
  | s :: t :: r, h => by
    have h1 := s.len (h s (by simp))
    have h2 := pathT_len (ss := t :: r) fun x hx => h x (List.mem_cons_of_mem _ hx)
    have e : pathT (s :: t :: r) = s.text ++ 46 :: pathT (t :: r) := rfl
    rw [e, List.length_append, List.length_cons, List.length_cons]
    omega
theorem St.two {s : St} (h : s.fine) (r : List Nat) : (s.text ++ r).take 2 ≠ [91, 63] := by
  rcases s.box h with ⟨i, hi, rfl⟩ | ⟨i, j, hi, hj, rfl⟩ | hb | rfl
  · have := (names_head (r := r) hi).1
    intro e
    apply this
    show (nameT i ++ r).head? = some 91
    cases hl : (nameT i ++ r) with
    | nil => rw [show (St.name i).text = nameT i from rfl, hl] at e; simp at e
    | cons x y => rw [show (St.name i).text = nameT i from rfl, hl] at e; simp at e; simp [e.1]
  · have := (names_head (r := 44 :: nameT j ++ r) hi).1
    intro e
    apply this
    have e2 : (St.names i j).text ++ r = nameT i ++ (44 :: nameT j ++ r) := by show (nameT i ++ 44 :: nameT j) ++ r = _; simp
    rw [e2] at e
    cases hl : (nameT i ++ (44 :: nameT j ++ r)) with
    | nil => rw [hl] at e; simp at e
    | cons x y => rw [hl] at e; simp at e; simp [e.1]
  · have := List.all_eq_true.mp box_two s hb
    simp only [Bool.and_eq_true, decide_eq_true_eq] at this
    rw [List.take_append_of_le_length this.1.2]
    simpa using this.1.1
  · intro e; simp [St.text] at e
theorem pathT_two {ss : List St} (h0 : ss ≠ []) (h : ∀ s ∈ ss, s.fine) : (pathT ss).take 2 ≠ [91, 63] := by
  match ss, h0 with
  | [s], _ => have := (s.two (h s (by simp)) []); simpa [pathT, glue] using this
  | s :: t :: r, _ => exact s.two (h s (by simp)) (46 :: pathT (t :: r))
theorem starts_not {y : List Nat} (h : y.take 2 ≠ [91, 63]) : Txt.startswith (txt y) (Str.ofString "[?") = false := by
  unfold Txt.startswith
  rw [show Str.ofString "[?" = txt [91, 63] by decide +kernel]
  have : Str.subAt (txt y) (txt [91, 63]) 0 = false := by
    unfold Str.subAt
    rw [beq_eq_false_iff_ne]
    intro e
    apply h
    have := congrArg Array.toList e
    simpa [txt, PySem.Str.length] using this
  rw [this, Bool.and_false]
theorem ends_suffix (x y : List Nat) : Txt.endswith (txt (x ++ y)) (txt y) = true := by
  unfold Txt.endswith
  rw [Bool.and_eq_true]
  refine ⟨by rw [txt_len, txt_len, List.length_append]; simp, ?_⟩
  unfold Str.subAt
  rw [beq_iff_eq]
  apply Array.ext'
  simp [txt, PySem.Str.length]
end Mine
end
section
open PySem PySem.W PyProof.Rows Builtin
set_option Elab.async false
set_option maxRecDepth 100000
set_option autoImplicit false
set_option linter.unusedVariables false
namespace Mine
open PySem.SeqAt
variable {C : Cx} {b : Nat} {σ H : AH} {X : Value → AH → Prop} {env : Env}
inductive At1 where
  | no
  | num (k : Int)
  | txt (x : Str)
deriving DecidableEq
def At1.eq : At1 → At1 → Bool
  | .no, .no => true
  | .num a, .num c => a == c
  | .txt x, .txt y => x == y
  | _, _ => false
theorem At1.eq_iff {a c : At1} : a.eq c = true ↔ a = c := by
  cases a <;> cases c <;> simp [At1.eq]
inductive AtV : Value → At1 → Prop
  | no : AtV .none .no
  | num {k t} : AtV (.int k t) (.num k)
  | txt {x t} : AtV (.str x t) (.txt x)
theorem AtV.eqAt {A : Around} {s : Shared} {v w : Value} {a c : At1} (h1 : AtV v a) (h2 : AtV w c) : EqAt A s v w (decide (a = c)) := by
  have key : EqAt A s v w (a.eq c) := by
    cases h1 <;> cases h2
    · exact EqAt.same _
    · exact EqAt.none_int _ _
    · exact EqAt.none_str _ _
    · exact EqAt.int_none _ _
    · exact EqAt.int_int _ _ _ _
    · exact EqAt.int_str _ _ _ _
    · exact EqAt.str_none _ _
    · exact EqAt.str_int _ _ _ _
    · exact EqAt.str_str _ _ _ _
  have e : decide (a = c) = a.eq c := by
    cases h : a.eq c with
    | true => exact decide_eq_true (At1.eq_iff.mp h)
    | false => exact decide_eq_false fun e => by rw [At1.eq_iff.mpr e] at h; cases h
  rw [e]; exact key
theorem AtV.fn {v : Value} {a c : At1} (h1 : AtV v a) (h2 : AtV v c) : a = c := by cases h1 <;> cases h2 <;> rfl
inductive AtVs : List Value → List At1 → Prop
  | nil : AtVs [] []
  | cons {v a vs as} : AtV v a → AtVs vs as → AtVs (v :: vs) (a :: as)
theorem AtVs.len {vs : List Value} {as : List At1} (h : AtVs vs as) : vs.length = as.length := by
  induction h with
  | nil => rfl
  | cons _ _ ih => simp [ih]
theorem AtVs.get {vs : List Value} {as : List At1} (h : AtVs vs as) : ∀ (j : Nat) (hj : j < vs.length) (hj' : j < as.length), AtV vs[j] as[j] := by
  induction h with
  | nil => intro j hj; simp at hj
  | cons h1 _ ih =>
    intro j hj hj'
    cases j with
    | zero => exact h1
    | succ j => exact ih j (by simpa using hj) (by simpa using hj')
theorem AtVs.fn {vs : List Value} {as cs : List At1} (h1 : AtVs vs as) (h2 : AtVs vs cs) : as = cs := by
  induction h1 generalizing cs with
  | nil => cases h2; rfl
  | cons k1 _ ih => cases h2 with | cons k2 k3 => rw [k1.fn k2, ih k3]
theorem all_eq {α : Type} [DecidableEq α] (d : α) (as cs : List α) : ((List.range (min as.length cs.length)).all (fun j => decide (as.getD j d = cs.getD j d)) && as.length == cs.length) = decide (as = cs) := by
  cases hl : as.length == cs.length with
  | false =>
    rw [Bool.and_false]
    symm
    exact decide_eq_false fun e => by subst e; simp at hl
  | true =>
    have hl' : as.length = cs.length := by simpa using hl
    rw [Bool.and_true]
    cases ha : (List.range (min as.length cs.length)).all (fun j => decide (as.getD j d = cs.getD j d)) with
    | true =>
      symm
      refine decide_eq_true (List.ext_getElem hl' fun j h1 h2 => ?_)
      have := List.all_eq_true.mp ha j (List.mem_range.mpr (by omega))
      have := of_decide_eq_true this
      simpa [List.getD_eq_getElem?_getD, h1, h2] using this
    | false =>
      symm
      refine decide_eq_false fun e => ?_
      subst e
      simp at ha
theorem AtVs.rc {A : Around} {s : Shared} {vs ws : List Value} {as cs : List At1} {a c : Addr} (ha : s.heap.IsTuple a vs.toArray) (hc : s.heap.IsTuple c ws.toArray) (h1 : AtVs vs as) (h2 : AtVs ws cs) (hu : A.units < cLine) : RcAt A s (.ref a) (.ref c) (decide (as = cs)) := by
  have := RcAt.tuples (A := A) (e := fun j => decide (as.getD j .no = cs.getD j .no)) ha hc hu fun j j1 j2 => by
    simp only [List.size_toArray] at j1 j2
    simp only [List.getElem_toArray]
    have k1 : j < as.length := by rw [← h1.len]; exact j1
    have k2 : j < cs.length := by rw [← h2.len]; exact j2
    have := (h1.get j j1 k1).eqAt (A := A.in1) (s := s) (h2.get j j2 k2)
    simpa [List.getD_eq_getElem?_getD, k1, k2] using this
  simp only [List.size_toArray, h1.len, h2.len] at this
  rw [all_eq] at this
  exact this
theorem AtVs.eqAt {A : Around} {s : Shared} {vs ws : List Value} {as cs : List At1} {a c : Addr} (g : Good C σ s.heap) (ha : σ a = some (.tup vs)) (hc : σ c = some (.tup ws)) (h1 : AtVs vs as) (h2 : AtVs ws cs) (hu : A.units < cLine) : EqAt A s (.ref a) (.ref c) (decide (as = cs)) := by
  by_cases hne : a = c
  · subst hne
    rw [ha] at hc; cases hc
    rw [h1.fn h2, decide_eq_true rfl]
    exact EqAt.same _
  · exact EqAt.of_refs hne (AtVs.rc (g.isTuple ha) (g.isTuple hc) h1 h2 hu)
/-- == of two tuples of atoms -/
theorem W.eqTups {a c : Addr} {vs ws : List Value} {as cs : List At1} {Q : Value → AH → Prop} (ha : σ a = some (.tup vs)) (hc : σ c = some (.tup ws)) (h1 : AtVs vs as) (h2 : AtVs ws cs) (h : Q (.bool (decide (as = cs))) σ) : W C b (compareOp .Eq (.ref a) (.ref c)) σ Q X := by
  intro A s P E o p _
  have hu := o.room.units
  have h9 : cLine = 9900 := rfl
  exact AtVs.rc (A := A) (o.good.isTuple ha) (o.good.isTuple hc) h1 h2 (by omega) C.prog C.w E (fun v s' => P v s') (p _ _ _ (.refl o.good) h)
/-- == of two lists of one number -/
theorem W.eqNum {a c : Addr} {i j : Int} {t u : Tok} {Q : Value → AH → Prop} (ha : σ a = some (.lst [.int i t])) (hc : σ c = some (.lst [.int j u])) (h : Q (.bool (i == j)) σ) : W C b (compareOp .Eq (.ref a) (.ref c)) σ Q X := by
  intro A s P E o p _
  have hu := o.room.units
  have h9 : cLine = 9900 := rfl
  have := RcAt.lists (A := A) (e := fun _ => i == j) (o.good.isList ha) (o.good.isList hc) rfl (by omega) fun n h1 h2 => by
    have : n = 0 := by simp at h1; omega
    subst this
    exact EqAt.int_int _ _ _ _
  have e : (List.range ([Value.int i t].toArray).size).all (fun _ => i == j) = (i == j) := by simp
  rw [e] at this
  exact this C.prog C.w E (fun v s' => P v s') (p _ _ _ (.refl o.good) h)
/-- a row: a list of tuples of atoms -/
def RowAt (σ : AH) (v : Value) (ass : List (List At1)) : Prop := ∃ l vs, v = .ref l ∧ σ l = some (.lst vs) ∧ vs.length = ass.length ∧ ∀ (j : Nat) u as, vs[j]? = some u → ass[j]? = some as → ∃ T ws, u = .ref T ∧ σ T = some (.tup ws) ∧ AtVs ws as
theorem RowAt.sub {σ σ' : AH} {v : Value} {ass : List (List At1)} (h : RowAt σ v ass) (k : Sub σ σ') : RowAt σ' v ass := by
  obtain ⟨l, vs, e, h1, h2, h3⟩ := h
  exact ⟨l, vs, e, k _ _ h1, h2, fun j u as e1 e2 => let ⟨T, ws, q1, q2, q3⟩ := h3 j u as e1 e2; ⟨T, ws, q1, k _ _ q2, q3⟩⟩
/-- == of two rows -/
theorem W.eqRows {v w : Value} {ass bss : List (List At1)} {Q : Value → AH → Prop} (h1 : RowAt σ v ass) (h2 : RowAt σ w bss) (h : Q (.bool (decide (ass = bss))) σ) : W C b (compareOp .Eq v w) σ Q X := by
  intro A s P E o p _
  have hu := o.room.units
  have h9 : cLine = 9900 := rfl
  obtain ⟨l, vs, rfl, a1, a2, a3⟩ := h1
  obtain ⟨m, ws, rfl, b1, b2, b3⟩ := h2
  by_cases hl : ass.length = bss.length
  · have := RcAt.lists (A := A) (e := fun j => decide (ass.getD j [] = bss.getD j [])) (o.good.isList a1) (o.good.isList b1) (by simp [a2, b2, hl]) (by omega) fun j j1 j2 => by
      simp only [List.size_toArray] at j1 j2
      simp only [List.getElem_toArray]
      have k1 : j < ass.length := by omega
      have k2 : j < bss.length := by omega
      obtain ⟨T, us, e1, e2, e3⟩ := a3 j vs[j] ass[j] (by simp) (by simp)
      obtain ⟨T', us', f1, f2, f3⟩ := b3 j ws[j] bss[j] (by simp) (by simp)
      rw [e1, f1]
      have := AtVs.eqAt (A := A.in1) (s := s) o.good e2 f2 e3 f3 (by show A.units + 1 < _; omega)
      simpa [List.getD_eq_getElem?_getD, k1, k2] using this
    have e := all_eq [] ass bss
    rw [← hl, beq_self_eq_true, Bool.and_true, Nat.min_self] at e
    rw [List.size_toArray, a2, e] at this
    exact this C.prog C.w E (fun v s' => P v s') (p _ _ _ (.refl o.good) h)
  · have := RcAt.lists_lengths (A := A) (o.good.isList a1) (o.good.isList b1) (by simp [a2, b2, hl]) (by omega)
    rw [decide_eq_false fun e => hl (by rw [e])] at h
    exact this C.prog C.w E (fun v s' => P v s') (p _ _ _ (.refl o.good) h)
theorem W.tupSame {t : Addr} {vs : List Value} {Q : Value → AH → Prop} (ht : σ t = some (.tup vs)) (h : Q (.ref t) σ) : W C b (call (.type "tuple") [.ref t]) σ Q X :=
  fun A s P E o p _ => call_tuple_same (o.good.isTuple ht) (p _ _ _ (.refl o.good) h)
theorem W.sort1 {l : Addr} {i : Int} {t : Tok} {Q : Value → AH → Prop} (hl : σ l = some (.lst [.int i t])) (h : ∀ t', Q .none (σ.set l (.lst [.int i t']))) : W C b (call (.builtin "list.sort") [.ref l] []) σ Q X := by
  intro A s P E o p _
  obtain ⟨n, e⟩ := o.good.at_ _ _ hl
  have hI : IntsAre [Value.int i t] [i] := .cons _ _ .nil
  refine wpAny_call_entry slot_list_sort ⟨_, e, rfl⟩ entry_list_sort (list_sort_tree e hI (by simp) fun out ns' a1 a2 a3 => ⟨_, rfl, ?_⟩) (args_list_sort _)
  have y1 := lst_upd (t := s.toks) (f := fun _ => #[]) (ws := []) o.good hl rfl
  have y2 := After.keeps (t := s.toks) (h' := ((s.heap.update l (Obj.mapSeq fun _ => #[])).push (seqObj "tuple" [Value.int i t].toArray 0)).push (seqObj "list" #[] 0)) y1.good (fun b o e => Heap.get?_push_of_some _ (Heap.get?_push_of_some _ e))
  have y3 := lst_upd (t := s.toks) (f := fun _ => out) (ws := out.toList) y2.good AH.set_self (by simp)
  have y := (y1.trans y2).trans y3
  rw [AH.set_set] at y
  have hn : ns' = [i] := List.perm_singleton.mp a2
  subst hn
  have ho : ∃ t', out.toList = [.int i t'] := by
    generalize out.toList = os at a1
    cases a1 with
    | cons _ t' h => cases h; exact ⟨t', rfl⟩
  obtain ⟨t', ho⟩ := ho
  rw [ho] at y
  exact p _ _ _ y (h t')
theorem W.sorted1 {t : Addr} {i : Int} {u : Tok} {Q : Value → AH → Prop} (ht : σ t = some (.tup [.int i u])) (h : ∀ D t', σ D = none → Q (.ref D) (σ.set D (.lst [.int i t']))) : W C (b + 1) (call (.builtin "sorted") [.ref t] []) σ Q X := by
  intro A s P E o p _
  refine PySem.Calls.call_function_entry kind_sorted plain_sorted entry_sorted (by unfold argsOk; kernel_rfl) ?_
  unfold Builtin.«sorted»
  refine wpAny_bind (m := checkCount "sorted" 1 1 _) (wpAny_pure ?_)
  have w : W C b (PySem.collect (.ref t) >>= fun ys => newList ys >>= fun l => holding [l] (call (.builtin "list.sort") [l] []) >>= fun _ => (Pure.pure l : Sem Value)) σ Q noX := by
    refine W.bind_ (W.collectTup ht (by simp) (W.bind_ (W.newList_ (fun a ha => ?_) (by simp [sizeLine_eq]))))
    refine W.bind_ (W.hold (W.sort1 AH.set_self fun t' => W.pure_ ?_))
    rw [AH.set_set]
    exact h a t' ha
  have e : (PySem.collect (.ref t) >>= fun ys => newList ys >>= fun l => holding [l] (call (.builtin "list.sort") [l] []) >>= fun _ => (ret l : Sem Fin)) = ((PySem.collect (.ref t) >>= fun ys => newList ys >>= fun l => holding [l] (call (.builtin "list.sort") [l] []) >>= fun _ => (Pure.pure l : Sem Value)) >>= fun v => (ret v : Sem Fin)) := by simp only [bind_assoc, pure_bind]
  show wpAny _ _ (PySem.collect (.ref t) >>= fun ys => newList ys >>= fun l => holding [l] (call (.builtin "list.sort") [l] []) >>= fun _ => (ret l : Sem Fin)) _ _ _
  rw [e]
  refine wpAny_bind (w A.in1 s _ _ o.in1 (fun v σ' s'' z' q' => ?_) fun _ _ _ _ q => q.elim)
  exact wpAny_pure ⟨v, rfl, p v σ' s'' z' q'⟩
theorem W.boolAnds {pos : Pos} {e : Expr} {x : Expr} {r : List Expr} {Q : Value → AH → Prop} (h : W C b (eval e env) σ (fun v σ₁ => W C b (truthy v) σ₁ (fun c σ₂ => (c = true → W C b (boolOp pos .And (evalEach (x :: r) env)) σ₂ Q X) ∧ (c = false → Q v σ₂)) X) X) : W C b (boolOp pos .And (evalEach (e :: x :: r) env)) σ Q X :=
  W.boolAnd (W.mono h (fun v σ₁ q => W.mono q (fun c σ₂ q => ⟨q.2, q.1⟩) fun _ _ x => x) fun _ _ x => x)
theorem W.boolLast {pos : Pos} {e : Expr} {Q : Value → AH → Prop} (h : W C b (eval e env) σ Q X) : W C b (boolOp pos .And (evalEach [e] env)) σ Q X := W.boolOp1 h
end Mine
end
section
open PySem PySem.W PyProof.Rows Builtin
set_option Elab.async false
set_option maxRecDepth 100000
set_option autoImplicit false
set_option linter.unusedVariables false
namespace Mine
variable {C : Cx} {b : Nat} {σ H : AH} {X : Value → AH → Prop}
theorem Good.over {h : Heap} (g : Good C σ h) {a : Addr} (ha : h.objs.size ≤ a) : (a == sysModules) = false := by
  obtain ⟨o, es, ep, ho, _⟩ := Ns.of_good g C.g
  have := Heap.lt_size ho
  have h3 : mainGlobals = 3 := rfl
  have h1 : sysModules = 1 := rfl
  rw [beq_eq_false_iff_ne]
  intro e
  rw [h3] at this; rw [e, h1] at ha
  exact absurd (Nat.lt_of_lt_of_le this ha) (by decide)
theorem W.newDict_ {Q : Value → AH → Prop} (h : ∀ a, σ a = none → Q (.ref a) (σ.set a (.dct [] 0))) : W C b (newDict) σ Q X := by
  intro A s P E o p _
  unfold newDict
  refine wpAny_newObj_type ?_ (by size_fits)
  have hg : (s.heap.push { cls := .type "dict", data := .dict #[] }).get? s.heap.objs.size = some { cls := .type "dict", data := .dict #[] } := Heap.get?_push_size _ rfl
  obtain ⟨o', es, ep, e1, e2, e3, r⟩ := Heap.DictOf.new (knd := strKind C.prog C.w) s.heap
  have z := After.add (t := s.toks) o.good (a := s.heap.objs.size) (o := .dct [] 0) (fun b o' e => Heap.get?_push_of_some _ e) (Nat.le_refl _) ⟨⟨o', es, e1, e2, by rw [hg] at e1; cases e1; cases e3; rfl, r⟩, o.good.over (Nat.le_refl _)⟩
  exact p _ _ _ z.1 (h _ z.2)
theorem After.dct {s : Shared} {h' : Heap} {t : Nat} {d : Addr} {kvs kvs' : List (Str × Value)} {ep : Nat} (g : Good C σ s.heap) (hd : σ d = some (.dct kvs ep)) (hm : h'.DictOf (strKind C.prog C.w) d kvs') (hs : Heap.SameBut d s.heap h') (ht : s.toks ≤ t := by first | exact Nat.le_refl _ | exact Nat.le_add_right _ _ | (simp only [Nat.add_assoc]; exact Nat.le_add_right _ _) | assumption | omega) : ∃ ep', After C σ s (σ.set d (.dct kvs' ep')) { s with heap := h', toks := t } := by
  obtain ⟨o, es, ep', r⟩ := hm
  exact ⟨ep', .upd' g hd hs ⟨⟨o, es, r⟩, (g.at_ _ _ hd).2⟩ (fun c m e => by cases e)⟩
theorem W.dictSet_ {d : Addr} {kvs : List (Str × Value)} {ep : Nat} {k : Str} {t : Tok} {v : Value} {Q : Unit → AH → Prop} (hd : σ d = some (.dct kvs ep)) (hz : kvs.length ≤ 1000) (h : ∀ ep', Q () (σ.set d (.dct (stored kvs k v) ep'))) : W C b (dictSet d (.str k t) v) σ Q X := by
  intro A s P E o p _
  refine wpAny_dictSet_pairs (strKind_is C.prog C.w k t) (o.good.at_ _ _ hd).1.dictOf (fun h' hm hs => ?_) (by rw [sizeLine_eq]; omega)
  obtain ⟨ep', y⟩ := After.dct (t := s.toks + 1) o.good hd hm hs
  exact p _ _ _ y (h ep')
theorem W.setItemDct {d : Addr} {kvs : List (Str × Value)} {ep : Nat} {k : Str} {t : Tok} {v : Value} {Q : Unit → AH → Prop} (hd : σ d = some (.dct kvs ep)) (hz : kvs.length ≤ 1000) (h : ∀ ep', Q () (σ.set d (.dct (stored kvs k v) ep'))) : W C b (setItem (.ref d) (.str k t) v) σ Q X := by
  intro A s P E o p _
  refine wpAny_setItem_pairs (strKind_is C.prog C.w k t) (o.good.at_ _ _ hd).1.dictOf (fun h' hm hs => ?_) (by rw [sizeLine_eq]; omega)
  obtain ⟨ep', y⟩ := After.dct (t := s.toks + 1) o.good hd hm hs
  exact p _ _ _ y (h ep')

section
variable {env : Env}
/-- one turn of a dict comprehension -/
theorem WK.dictTurn {kx vx target iter : Expr} {ifs : List Expr} {scope : Scope} {pos : Pos} {it : Value} {D : Addr} {Q : Flow → AH → Prop}
    (h : W C b (pyNext it) σ (fun r σ₁ => match r with
      | none => Q .next σ₁
      | some v => W C b (letOwnedTupleGo target it v) σ₁ (fun _ σ₂ => W C b (assign target env v) σ₂ (fun _ σ₃ =>
          W C b (tests env ifs) σ₃ (fun ok σ₄ =>
            (ok = false → WK C b (.compLoop (.DictComp kx vx [⟨target, iter, ifs, 0⟩] scope pos) 0 it (.ref D) env) σ₄ Q) ∧
            (ok = true → W C b (eval kx env) σ₄ (fun kv σ₅ => W C b (eval vx env) σ₅ (fun vv σ₆ => W C b (dictSet D kv vv) σ₆ (fun _ σ₇ => WK C b (.compLoop (.DictComp kx vx [⟨target, iter, ifs, 0⟩] scope pos) 0 it (.ref D) env) σ₇ Q) noX) noX) noX)) noX) noX) noX) noX) :
    WK C b (.compLoop (.DictComp kx vx [⟨target, iter, ifs, 0⟩] scope pos) 0 it (.ref D) env) σ Q := by
  refine WK.turn (F := fun x => do noteFrame x env; theTreesLotGoes x) (t := compTurn (.DictComp kx vx [⟨target, iter, ifs, 0⟩] scope pos) 0 it (.ref D) env) rfl rfl rfl ?_
  rw [compTurn_dict]
  refine W.bind_ (W.standAt_ (W.bind_ (W.mono h (fun r σ₁ q => ?_) fun _ _ x => x)))
  cases r with
  | none => exact W.pure_ q
  | some v =>
    refine W.bind_ (W.mono q (fun _ σ₂ q => W.bind_ (W.mono q (fun _ σ₃ q => W.bind_ (W.mono q (fun ok σ₄ q => ?_) fun _ _ x => x)) fun _ _ x => x)) fun _ _ x => x)
    cases ok with
    | false => exact W.pure_ ⟨rfl, q.1 rfl⟩
    | true => exact W.bind_ (W.bind_ (W.mono (q.2 rfl) (fun kv σ₅ q => W.bind_ (W.hold (W.mono q (fun vv σ₆ q => W.bind_ (W.standAt_ (W.hold (W.mono q (fun _ σ₇ q => W.pure_ ⟨rfl, q⟩) fun _ _ x => x)))) fun _ _ x => x))) fun _ _ x => x))

/-- a dict comprehension over a source -/
theorem WK.dictSrc {kx vx target iter : Expr} {ifs : List Expr} {scope : Scope} {pos : Pos} {it : Value} {D : Addr} {ι : Type} {st : ι → AH → (AH → Prop) → Prop} {need : AH → Prop} {n : Nat} {item : Nat → ι → Prop} {at_ : Nat → AH → AH → Prop}
    (S : Src C b it target env ι st need n item at_) (Inv : Nat → List (Str × Value) → AH → Prop) {Q : Flow → AH → Prop}
    (hneed : ∀ i ys ep σ, Inv i ys σ → σ D = none → need (σ.set D (.dct ys ep))) (hlen : ∀ i ys σ, Inv i ys σ → ys.length ≤ 1000)
    (step : ∀ i ys σ x, i < n → Inv i ys σ → item i x → σ D = none → st x σ (fun σ₁ =>
      W C b (tests env ifs) σ₁ (fun ok σ₂ => (ok = false → Inv (i + 1) ys σ₂) ∧ (ok = true → W C b (eval kx env) σ₂ (fun kv σ₃ => ∃ k t, kv = .str k t ∧ W C b (eval vx env) σ₃ (fun v σ₄ => Inv (i + 1) (stored ys k v) σ₄) noX) noX)) noX))
    (fin : ∀ ys ep σ, Inv n ys σ → σ D = none → Q .next (σ.set D (.dct ys ep))) : ∀ (k i : Nat) (ys : List (Str × Value)) (ep : Nat) (small big : AH), i + k = n → small D = none → at_ i (small.set D (.dct ys ep)) big → Inv i ys small →
      WK C b (.compLoop (.DictComp kx vx [⟨target, iter, ifs, 0⟩] scope pos) 0 it (.ref D) env) big Q
  | 0, i, ys, ep, small, big, hk, hD, ha, hi => by
    have : i = n := by omega
    subst this
    refine WK.dictTurn (W.mono (S.done _ big (fun σ' => Q .next σ') ha (hneed _ _ _ _ hi hD) (fin _ _ _ hi hD)) (fun r σ₁ q => ?_) fun _ _ x => x)
    obtain ⟨rfl, q⟩ := q
    exact q
  | k + 1, i, ys, ep, small, big, hk, hD, ha, hi => by
    have nx := S.next i _ big (fun σ' => ∃ σ₁, σ' = σ₁.set D (.dct ys ep) ∧ σ₁ D = none ∧ W C b (tests env ifs) σ₁ (fun ok σ₂ => (ok = false → Inv (i + 1) ys σ₂) ∧ (ok = true → W C b (eval kx env) σ₂ (fun kv σ₃ => ∃ k t, kv = .str k t ∧ W C b (eval vx env) σ₃ (fun v σ₄ => Inv (i + 1) (stored ys k v) σ₄) noX) noX)) noX)
      (by omega) ha (hneed _ _ _ _ hi hD) fun x hx => S.stFrame x small _ D (.dct ys ep) hD trivial (S.stMono _ _ _ _ (fun σ' q n => ⟨σ', rfl, n, q⟩) (step i ys small x (by omega) hi hx hD))
    refine WK.dictTurn (W.mono nx (fun r σ₁ q => ?_) fun _ _ x => x)
    obtain ⟨v, rfl, q⟩ := q
    refine W.mono q (fun _ σ₂ q => W.mono q (fun _ σ₃ q => ?_) fun _ _ x => x) fun _ _ x => x
    obtain ⟨σ', ha', σ₁, rfl, hD1, q⟩ := q
    have q1 : W C b (tests env ifs) (σ₁.set D (.dct ys ep)) (fun ok σ₂ => ∃ σ₂', σ₂ = σ₂'.set D (.dct ys ep) ∧ σ₂' D = none ∧ (ok = false → Inv (i + 1) ys σ₂') ∧ (ok = true → W C b (eval kx env) σ₂' (fun kv σ₃ => ∃ k t, kv = .str k t ∧ W C b (eval vx env) σ₃ (fun v σ₄ => Inv (i + 1) (stored ys k v) σ₄) noX) noX)) noX :=
      W.frame hD1 trivial (W.mono q (fun ok σ₂ q n => ⟨σ₂, rfl, n, q⟩) fun _ _ x => x)
    refine W.mono (S.frame _ b _ _ _ _ _ ha' q1) (fun ok big' q => ?_) fun _ _ x => x
    obtain ⟨_, ha2, σ₂, rfl, hD2, q1, q2⟩ := q
    refine ⟨fun hok => WK.dictSrc S Inv hneed hlen step fin k (i + 1) ys ep σ₂ big' (by omega) hD2 ha2 (q1 hok), fun hok => ?_⟩
    have q3 : W C b (eval kx env) (σ₂.set D (.dct ys ep)) (fun kv σ₃ => ∃ σ₃', σ₃ = σ₃'.set D (.dct ys ep) ∧ σ₃' D = none ∧ ∃ k t, kv = .str k t ∧ W C b (eval vx env) σ₃' (fun v σ₄ => Inv (i + 1) (stored ys k v) σ₄) noX) noX :=
      W.frame hD2 trivial (W.mono (q2 hok) (fun v σ₃ q n => ⟨σ₃, rfl, n, q⟩) fun _ _ x => x)
    refine W.mono (S.frame _ b _ _ _ _ _ ha2 q3) (fun kv big3 q => ?_) fun _ _ x => x
    obtain ⟨_, ha3, σ₃, rfl, hD3, kk, tt, rfl, q⟩ := q
    have q4 : W C b (eval vx env) (σ₃.set D (.dct ys ep)) (fun v σ₄ => ∃ σ₄', σ₄ = σ₄'.set D (.dct ys ep) ∧ σ₄' D = none ∧ Inv (i + 1) (stored ys kk v) σ₄') noX :=
      W.frame hD3 trivial (W.mono q (fun v σ₄ q n => ⟨σ₄, rfl, n, q⟩) fun _ _ x => x)
    refine W.mono (S.frame _ b _ _ _ _ _ ha3 q4) (fun v big4 q => ?_) fun _ _ x => x
    obtain ⟨_, ha4, σ₄, rfl, hD4, q⟩ := q
    have q5 : W C b (dictSet D (.str kk tt) v) (σ₄.set D (.dct ys ep)) (fun _ σ₅ => ∃ ep', σ₅ = σ₄.set D (.dct (stored ys kk v) ep')) noX := by
      refine W.dictSet_ AH.set_self (hlen _ _ _ hi) fun ep' => ⟨ep', ?_⟩
      rw [AH.set_set]
    refine W.mono (S.frame _ b _ _ _ _ _ ha4 q5) (fun _ big5 q5 => ?_) fun _ _ x => x
    obtain ⟨_, ha5, ep', rfl⟩ := q5
    exact WK.dictSrc S Inv hneed hlen step fin k (i + 1) _ ep' σ₄ big5 (by omega) hD4 ha5 q

/-- where a dict comprehension with one clause begins its walk -/
def DCompAt (C : Cx) (b : Nat) (kx vx target : Expr) (ifs : List Expr) (scope : Scope) (cs : List (Str × Addr)) (env : Env) (F : Value → AH → Prop) (it : Value) (H₂ : AH) : Prop :=
  ∃ (ι : Type) (st : Addr → ι → AH → (AH → Prop) → Prop) (need : AH → Prop) (n : Nat) (item : Nat → ι → Prop) (at_ : Nat → AH → AH → Prop) (H₀ : AH) (Inv : Nat → List (Str × Value) → AH → Prop),
    (∀ L', Src C b it target (compEnvC scope cs L' env) ι (st L') need n item at_) ∧ at_ 0 H₀ H₂ ∧ Inv 0 [] H₀ ∧ (∀ i ys H, Inv i ys H → need H ∧ ys.length ≤ 1000) ∧
    (∀ L' i ys H m x, i < n → Inv i ys H → H L' = none → item i x → st L' x (H.set L' (.ns "dict" m)) (fun σ₁ => W C b (tests (compEnvC scope cs L' env) ifs) σ₁ (fun ok σ₂ =>
      (ok = false → ∃ H' m', σ₂ = AH.set H' L' (.ns "dict" m') ∧ H' L' = none ∧ Inv (i + 1) ys H') ∧ (ok = true → W C b (eval kx (compEnvC scope cs L' env)) σ₂ (fun kv σ₃ => ∃ k t, kv = .str k t ∧ W C b (eval vx (compEnvC scope cs L' env)) σ₃ (fun v σ₄ => ∃ H' m', σ₄ = AH.set H' L' (.ns "dict" m') ∧ H' L' = none ∧ Inv (i + 1) (stored ys k v) H') noX) noX)) noX)) ∧
    (∀ D ys ep H, Inv n ys H → H D = none → F (.ref D) (H.set D (.dct ys ep)))

theorem DCompAt.run {kx vx target iter : Expr} {ifs : List Expr} {scope : Scope} {cs : List (Str × Addr)} {pos : Pos} {F : Value → AH → Prop} {it : Value} {H₂ : AH} {D L' : Addr} (h : DCompAt C b kx vx target ifs scope cs env F it H₂) (hD : H₂ D = none) (hL : (H₂.set D (.dct [] 0)) L' = none) :
    WK C b (.compStart (.DictComp kx vx [⟨target, iter, ifs, 0⟩] scope pos) 0 it (.ref D) (compEnvC scope cs L' env)) ((H₂.set D (.dct [] 0)).set L' (.ns "dict" [])) (fun _ σ₄ => ∃ H₄ m', σ₄ = AH.set H₄ L' (.ns "dict" m') ∧ H₄ L' = none ∧ F (.ref D) H₄) := by
  obtain ⟨ι, st, need, n, item, at_, H₀, Inv, S, ha, h0, hneed, step, fin⟩ := h
  have hLD : L' ≠ D := AH.none_ne hL
  have hL2 : H₂ L' = none := AH.none_in hL
  obtain ⟨a1, n1⟩ := (S L').grow 0 H₀ H₂ L' (.ns "dict" []) ha hL2
  have hD1 : (H₂.set L' (.ns "dict" [])) D = none := by rw [AH.set_ne (Ne.symm hLD)]; exact hD
  obtain ⟨a2, n2⟩ := (S L').grow 0 _ _ D (.dct [] 0) a1 hD1
  have e : (H₂.set D (.dct [] 0)).set L' (.ns "dict" []) = (H₂.set L' (.ns "dict" [])).set D (.dct [] 0) := AH.set_comm (Ne.symm hLD)
  rw [e]
  have main : WK C b (.compLoop (.DictComp kx vx [⟨target, iter, ifs, 0⟩] scope pos) 0 it (.ref D) (compEnvC scope cs L' env)) ((H₂.set L' (.ns "dict" [])).set D (.dct [] 0)) (fun _ σ₄ => ∃ H₄ m', σ₄ = AH.set H₄ L' (.ns "dict" m') ∧ H₄ L' = none ∧ F (.ref D) H₄) := by
    refine WK.dictSrc (S L') (fun i ys σ => ∃ H m, σ = AH.set H L' (.ns "dict" m) ∧ H L' = none ∧ Inv i ys H) (fun i ys ep σ q hDn => ?_) (fun i ys σ q => ?_) (fun i ys σ x hi q hx hDn => ?_) (fun ys ep σ q hDn => ?_) n 0 [] 0 _ _ (by omega) n2 a2 ⟨H₀, [], rfl, n1, h0⟩
    · obtain ⟨H, m, rfl, hn, q⟩ := q
      exact (S L').needSet _ _ _ ((S L').needSet _ _ _ (hneed _ _ _ q).1 hn) hDn
    · obtain ⟨H, m, rfl, hn, q⟩ := q
      exact (hneed _ _ _ q).2
    · obtain ⟨H, m, rfl, hn, q⟩ := q
      refine (S L').stMono _ _ _ _ (fun σ₁ q => ?_) (step L' i ys H m x hi q hn hx)
      exact W.mono q (fun ok σ₂ q => ⟨q.1, q.2⟩) fun _ _ x => x
    · obtain ⟨H, m, rfl, hn, q⟩ := q
      have h1 : D ≠ L' := AH.none_ne hDn
      exact ⟨H.set D (.dct ys ep), m, AH.set_comm (Ne.symm h1), by rw [AH.set_ne (Ne.symm h1)]; exact hn, fin D ys ep H q (AH.none_in hDn)⟩
  refine WK.compStart (g := ⟨target, iter, ifs, 0⟩) (gs := []) rfl rfl rfl rfl rfl (fun _ => rfl) main ?_
  exact (S L').self_ 0 _ _ _ a2 main
/-- {kx: vx for target in iter if ..} -/
theorem W.eDictComp {kx vx target iter : Expr} {ifs : List Expr} {scope : Scope} {pos : Pos} {cs : List (Str × Addr)} {Q : Value → AH → Prop} (hs : ∀ x, foldedSetIterable iter env x = pure x) (hclos : closureFor scope env = pure cs) (hkind : scope.kind = .function)
    (hnames : ∀ x ∈ scope.names, x.2 = .local → scope.names.lookup x.1 = some .local) (hcell : cellNames scope.names = [])
    (h : W C b (eval iter env) σ (fun x σ₁ => ∃ H₁ L o₁, σ₁ = AH.set H₁ L o₁ ∧ o₁.fr ∧ H₁ L = none ∧ W C b (pyIter x) H₁ (DCompAt C b kx vx target ifs scope cs env (fun v H' => H' L = none → Q v (H'.set L o₁))) noX) noX) :
    W C b (eval (.DictComp kx vx [⟨target, iter, ifs, 0⟩] scope pos) env) σ Q X := by
  rw [arm_eval_DictComp]
  refine W.comp_ (e := .DictComp kx vx [⟨target, iter, ifs, 0⟩] scope pos) (g := ⟨target, iter, ifs, 0⟩) (gs := []) rfl hs hclos hkind hnames hcell (W.mono h (fun x σ₁ q => ?_) fun _ _ x => x)
  obtain ⟨H₁, L, o₁, rfl, hf, hL, q⟩ := q
  refine W.op hL (W.mono q (fun it H₂ q hL2 => ?_) fun _ _ x => x) hf
  refine W.op hL2 (W.newDict_ fun D hD hL3 => ?_) hf
  intro L' hL'
  have h1 : L' ≠ L := AH.none_ne hL'
  have h2 : (H₂.set D (.dct [] 0)) L' = none := AH.none_in hL'
  rw [AH.set_comm (Ne.symm h1)]
  refine WK.frame' (by rw [AH.set_ne (Ne.symm h1)]; exact hL3) hf (WK.mono (q.run hD h2) (fun _ σ₄ q n => ?_))
  obtain ⟨H₄, m', rfl, n2, q⟩ := q
  rw [AH.set_comm h1, AH.drop_set (by rw [AH.set_ne h1]; exact n2)]
  exact q (AH.none_in n)
theorem DCompAt.single {kx vx target : Expr} {ifs : List Expr} {scope : Scope} {cs : List (Str × Addr)} {F : Value → AH → Prop} {it : Value} {need : AH → Prop} {n : Nat} {item : Nat → Value → Prop} {at_ : Nat → AH → AH → Prop} {H₀ H₂ : AH} (S : ∀ L', Src C b it target (compEnvC scope cs L' env) Value (one C b target (compEnvC scope cs L' env)) need n item at_) (ha : at_ 0 H₀ H₂) (Inv : Nat → List (Str × Value) → AH → Prop) (h0 : Inv 0 [] H₀)
    (hneed : ∀ i ys H, Inv i ys H → need H ∧ ys.length ≤ 1000)
    (step : ∀ L' i ys H m v, i < n → item i v → Inv i ys H → H L' = none → W C b (assign target (compEnvC scope cs L' env) v) (H.set L' (.ns "dict" m)) (fun _ σ₁ => W C b (tests (compEnvC scope cs L' env) ifs) σ₁ (fun ok σ₂ =>
      (ok = false → ∃ H' m', σ₂ = AH.set H' L' (.ns "dict" m') ∧ H' L' = none ∧ Inv (i + 1) ys H') ∧ (ok = true → W C b (eval kx (compEnvC scope cs L' env)) σ₂ (fun kv σ₃ => ∃ k t, kv = .str k t ∧ W C b (eval vx (compEnvC scope cs L' env)) σ₃ (fun v σ₄ => ∃ H' m', σ₄ = AH.set H' L' (.ns "dict" m') ∧ H' L' = none ∧ Inv (i + 1) (stored ys k v) H') noX) noX)) noX) noX)
    (fin : ∀ D ys ep H, Inv n ys H → H D = none → F (.ref D) (H.set D (.dct ys ep))) : DCompAt C b kx vx target ifs scope cs env F it H₂ :=
  ⟨Value, fun L' => one C b target (compEnvC scope cs L' env), need, n, item, at_, H₀, Inv, S, ha, h0, hneed, fun L' i ys H m x hi hinv hL hx => step L' i ys H m x hi hx hinv hL, fin⟩
end
end Mine
end
section
open PySem PySem.W PyProof.Rows Builtin
set_option Elab.async false
set_option maxRecDepth 100000
set_option autoImplicit false
set_option linter.unusedVariables false
namespace Mine
variable {C : Cx} {α β : Type} {b : Nat} {σ H K : AH} {X : Value → AH → Prop}
/-- a view with three things beside the rest -/
def FR (c1 c2 c3 : Addr) (o1 o2 o3 : AO) (K : AH) : AH := ((K.set c1 o1).set c2 o2).set c3 o3
structure Fre (c1 c2 c3 : Addr) (K : AH) : Prop where
  n1 : K c1 = none
  n2 : K c2 = none
  n3 : K c3 = none
  d12 : c1 ≠ c2
  d13 : c1 ≠ c3
  d23 : c2 ≠ c3
section
variable {c1 c2 c3 : Addr} {o1 o2 o3 : AO}
theorem FR.at1 (h : Fre c1 c2 c3 K) : FR c1 c2 c3 o1 o2 o3 K c1 = some o1 := by unfold FR; rw [AH.set_ne h.d13, AH.set_ne h.d12, AH.set_self]
theorem FR.at2 (h : Fre c1 c2 c3 K) : FR c1 c2 c3 o1 o2 o3 K c2 = some o2 := by unfold FR; rw [AH.set_ne h.d23, AH.set_self]
theorem FR.at3 : FR c1 c2 c3 o1 o2 o3 K c3 = some o3 := AH.set_self
theorem FR.sub (h : Fre c1 c2 c3 K) : Sub K (FR c1 c2 c3 o1 o2 o3 K) := fun a o e => by
  unfold FR
  rw [AH.set_ne (fun q => by rw [q, h.n3] at e; cases e), AH.set_ne (fun q => by rw [q, h.n2] at e; cases e), AH.set_ne (fun q => by rw [q, h.n1] at e; cases e)]; exact e
theorem FR.none {a : Addr} (h : FR c1 c2 c3 o1 o2 o3 K a = none) : K a = Option.none ∧ a ≠ c1 ∧ a ≠ c2 ∧ a ≠ c3 := by
  unfold FR at h
  exact ⟨AH.none_in (AH.none_in (AH.none_in h)), AH.none_ne (AH.none_in (AH.none_in h)), AH.none_ne (AH.none_in h), AH.none_ne h⟩
theorem FR.isNone {a : Addr} (h : K a = Option.none) (h1 : a ≠ c1) (h2 : a ≠ c2) (h3 : a ≠ c3) : FR c1 c2 c3 o1 o2 o3 K a = Option.none := by
  unfold FR; rw [AH.set_ne h3, AH.set_ne h2, AH.set_ne h1]; exact h
theorem FR.new {a : Addr} {o : AO} (h : FR c1 c2 c3 o1 o2 o3 K a = Option.none) : (FR c1 c2 c3 o1 o2 o3 K).set a o = FR c1 c2 c3 o1 o2 o3 (K.set a o) := by
  obtain ⟨_, h1, h2, h3⟩ := FR.none h
  unfold FR
  rw [AH.set_comm h3.symm, AH.set_comm h2.symm, AH.set_comm h1.symm]
theorem Fre.new {a : Addr} {o : AO} (h : Fre c1 c2 c3 K) (ha : FR c1 c2 c3 o1 o2 o3 K a = none) : Fre c1 c2 c3 (K.set a o) := by
  obtain ⟨_, h1, h2, h3⟩ := FR.none ha
  exact ⟨by rw [AH.set_ne h1.symm]; exact h.n1, by rw [AH.set_ne h2.symm]; exact h.n2, by rw [AH.set_ne h3.symm]; exact h.n3, h.d12, h.d13, h.d23⟩
theorem Fre.upd {a : Addr} {o o' : AO} (h : Fre c1 c2 c3 (K.set a o)) : Fre c1 c2 c3 (K.set a o') := ⟨AH.none_set h.n1, AH.none_set h.n2, AH.none_set h.n3, h.d12, h.d13, h.d23⟩
theorem Fre.inn {a : Addr} {o : AO} (h : Fre c1 c2 c3 (K.set a o)) : Fre c1 c2 c3 K := ⟨AH.none_in h.n1, AH.none_in h.n2, AH.none_in h.n3, h.d12, h.d13, h.d23⟩
theorem FR.upd {a : Addr} {o : AO} {v : AO} (h : Fre c1 c2 c3 K) (hv : K a = some v) : (FR c1 c2 c3 o1 o2 o3 K).set a o = FR c1 c2 c3 o1 o2 o3 (K.set a o) := by
  have g1 : a ≠ c1 := fun e => by have := h.n1; rw [← e, hv] at this; cases this
  have g2 : a ≠ c2 := fun e => by have := h.n2; rw [← e, hv] at this; cases this
  have g3 : a ≠ c3 := fun e => by have := h.n3; rw [← e, hv] at this; cases this
  unfold FR
  rw [AH.set_comm g3.symm, AH.set_comm g2.symm, AH.set_comm g1.symm]
theorem FR.set1 {o : AO} (h : Fre c1 c2 c3 K) : (FR c1 c2 c3 o1 o2 o3 K).set c1 o = FR c1 c2 c3 o o2 o3 K := by
  unfold FR; rw [AH.set_comm h.d13.symm, AH.set_comm h.d12.symm, AH.set_set]
theorem FR.set2 {o : AO} (h : Fre c1 c2 c3 K) : (FR c1 c2 c3 o1 o2 o3 K).set c2 o = FR c1 c2 c3 o1 o o3 K := by
  unfold FR; rw [AH.set_comm h.d23.symm, AH.set_set]
theorem FR.set3 {o : AO} : (FR c1 c2 c3 o1 o2 o3 K).set c3 o = FR c1 c2 c3 o1 o2 o K := by
  unfold FR; rw [AH.set_set]
/-- what does not touch the three -/
theorem W.opF {t : Sem α} {Q : α → AH → Prop} (h : Fre c1 c2 c3 K) (f1 : o1.fr) (f2 : o2.fr) (f3 : o3.fr) (w : W C b t K (fun v K' => Fre c1 c2 c3 K' → Q v (FR c1 c2 c3 o1 o2 o3 K')) noX) : W C b t (FR c1 c2 c3 o1 o2 o3 K) Q X := by
  have e1 := h.n1
  have e2 : (K.set c1 o1) c2 = none := by rw [AH.set_ne h.d12.symm]; exact h.n2
  have e3 : ((K.set c1 o1).set c2 o2) c3 = none := by rw [AH.set_ne h.d23.symm, AH.set_ne h.d13.symm]; exact h.n3
  refine W.op e3 (W.op e2 (W.op e1 (W.mono w (fun v K' q m1 m2 m3 => ?_) fun _ _ x => x) f1) f2) f3
  exact q ⟨m1, AH.none_in m2, AH.none_in (AH.none_in m3), h.d12, h.d13, h.d23⟩
end
/-- a call of a def, one of its names in a cell and three more, all empty -/
theorem WK.fnC4o {f : Addr} {oc : Value} {od : Option Addr} {osl : Array (Option Value)} {fd : FuncData} {body : List Stmt} {scope : Scope} {args : Args} {binds mm : List (Str × Value)} {qn x y z u : Str} {cd : Value} {Q : Value → AH → Prop} (ho : C.K.lookup f = some ⟨oc, od, .func fd, osl⟩)
    (hcode : codeIn C.K fd.code fd.qualname = true) (hbody : fd.body = .stmts body) (hsc : fd.scope = scope) (hqn : fd.qualname = qn) (hcd : fd.code = cd) (hb : bindArgs fd args = pure binds) (hm : localBinds scope.names binds = mm) (hc : cellNames scope.names = [x, y, z, u]) (h1 : binds.reverse.lookup x = none) (h2 : binds.reverse.lookup y = none) (h3 : binds.reverse.lookup z = none) (h4 : binds.reverse.lookup u = none) (hk : kindsOk scope.names binds = true)
    (h : ∀ c c1 c2 c3 L, H c = none → Fre c1 c2 c3 (H.set c (.cell none)) → (FR c1 c2 c3 (.cell none) (.cell none) (.cell none) (H.set c (.cell none))) L = none →
      W C b (execs body (fEnv scope L [(u, c3), (z, c2), (y, c1), (x, c)] (qn ++ ".<locals>.") f cd)) ((FR c1 c2 c3 (.cell none) (.cell none) (.cell none) (H.set c (.cell none))).set L (.ns "frame" mm)) (Done L Q) noX)
    (hgl : fd.globals = mainGlobals := by rfl) (hbi : fd.builtins = builtinsNs := by rfl) (hcl : fd.closure = [] := by rfl)
    (hco : fd.scope.isCoroutine = false := by rfl) (hgen : fd.scope.isGenerator = false := by rfl) (hk' : fd.scope.kind = .function := by rfl) (hn : namesOk fd.scope.names = true := by rfl) : WK C (b + 2) (.call (.ref f) args) H (isRet Q) := by
  subst hqn hcd
  refine WK.fn ho hcode hbody hsc (W.bind_eq hb ⟨hk, fun L hL => ?_⟩) hgl hbi hcl hco hgen hk' hn
  rw [hc, hm]
  intro c e0 c1 e1 c2 e2 c3 e3
  rw [h1] at e1 e2 e3 ⊢
  rw [h2] at e2 e3 ⊢
  rw [h3] at e3 ⊢
  rw [h4]
  have n0 : c ≠ L := AH.none_ne e0
  have n1 : c1 ≠ L := AH.none_ne (AH.none_in e1)
  have n2 : c2 ≠ L := AH.none_ne (AH.none_in (AH.none_in e2))
  have n3 : c3 ≠ L := AH.none_ne (AH.none_in (AH.none_in (AH.none_in e3)))
  have d32 : c3 ≠ c2 := AH.none_ne e3
  have d31 : c3 ≠ c1 := AH.none_ne (AH.none_in e3)
  have d30 : c3 ≠ c := AH.none_ne (AH.none_in (AH.none_in e3))
  have d21 : c2 ≠ c1 := AH.none_ne e2
  have d20 : c2 ≠ c := AH.none_ne (AH.none_in e2)
  have d10 : c1 ≠ c := AH.none_ne e1
  have g0 : H c = none := AH.none_in e0
  have g1 : H c1 = none := AH.none_in (AH.none_in e1)
  have g2 : H c2 = none := AH.none_in (AH.none_in (AH.none_in e2))
  have g3 : H c3 = none := AH.none_in (AH.none_in (AH.none_in (AH.none_in e3)))
  have hv : ((((((H.set L (.ns "frame" mm)).set c (.cell none)).set c1 (.cell none)).set c2 (.cell none)).set c3 (.cell none))) = (FR c1 c2 c3 (.cell none) (.cell none) (.cell none) (H.set c (.cell none))).set L (.ns "frame" mm) := by
    unfold FR
    rw [AH.set_comm (Ne.symm n0), AH.set_comm (Ne.symm n1), AH.set_comm (Ne.symm n2), AH.set_comm (Ne.symm n3)]
  rw [hv]
  have hF : Fre c1 c2 c3 (H.set c (.cell none)) := ⟨by rw [AH.set_ne d10]; exact g1, by rw [AH.set_ne d20]; exact g2, by rw [AH.set_ne d30]; exact g3, d21.symm, d31.symm, d32.symm⟩
  refine W.mono (h c c1 c2 c3 L g0 hF (FR.isNone (by rw [AH.set_ne (Ne.symm n0)]; exact hL) (Ne.symm n1) (Ne.symm n2) (Ne.symm n3))) (fun fl σ' q => ?_) fun _ _ x => x
  obtain ⟨m', H', rfl, hn', q⟩ := q
  rw [AH.drop_set hn']
  exact q
end Mine
end
section
open PySem PySem.W PyProof.Rows Builtin
set_option Elab.async false
set_option maxRecDepth 100000
set_option autoImplicit false
set_option linter.unusedVariables false
namespace Mine
variable {C : Cx} {σ σ' H : AH}
/-- this stands at these places in a value -/
inductive AtPl (σ : AH) : Value → List Nat → Value → Prop
  | here {v} : AtPl σ v [] v
  | row {l : Addr} {vs : List Value} {i : Nat} {w : Value} {rs : List Nat} {u : Value} : σ l = some (.lst vs) → vs[i]? = some w → AtPl σ w rs u → AtPl σ (.ref l) (i :: rs) u
  | fld {l : Addr} {kvs : List (Str × Value)} {ep i : Nat} {k : Str} {w : Value} {rs : List Nat} {u : Value} : σ l = some (.dct kvs ep) → kvs[i]? = some (k, w) → AtPl σ w rs u → AtPl σ (.ref l) (i :: rs) u
theorem AtPl.sub {v u : Value} {rs : List Nat} (h : AtPl σ v rs u) (k : Sub σ σ') : AtPl σ' v rs u := by
  induction h with
  | here => exact .here
  | row h1 h2 _ ih => exact .row (k _ _ h1) h2 ih
  | fld h1 h2 _ ih => exact .fld (k _ _ h1) h2 ih
theorem AtPl.back {v u : Value} {rs : List Nat} {d : Doc} (hd : DocAt σ v d) (k : Sub σ σ') (h : AtPl σ' v rs u) : AtPl σ v rs u := by
  induction h generalizing d with
  | here => exact .here
  | row h1 h2 _ ih =>
    cases hd with
    | row e1 e2 e3 => have := k _ _ e1; rw [h1] at this; cases this; exact .row e1 h2 (ih (e3 _ _ h2))
    | fld e1 e2 e3 e4 => have := k _ _ e1; rw [h1] at this; cases this
  | fld h1 h2 _ ih =>
    cases hd with
    | row e1 e2 e3 => have := k _ _ e1; rw [h1] at this; cases this
    | fld e1 e2 e3 e4 => have := k _ _ e1; rw [h1] at this; cases this; exact .fld e1 h2 (ih (e4 _ _ _ h2))
theorem AtPl.doc {v u : Value} {rs : List Nat} {d : Doc} (h : AtPl σ v rs u) (hd : DocAt σ v d) : ∃ d', d.sub rs = some d' ∧ DocAt σ u d' := by
  induction h generalizing d with
  | here => exact ⟨d, by simp [Doc.sub], hd⟩
  | @row l vs i w rs u h1 h2 _ ih =>
    cases hd with
    | fld e1 e2 e3 e4 => rw [h1] at e1; cases e1
    | row e1 e2 e3 =>
      rw [h1] at e1; cases e1
      obtain ⟨d', f1, f2⟩ := ih (e3 _ _ h2)
      have hi : i < vs.length := (List.getElem?_eq_some_iff.mp h2).1
      exact ⟨d', by simp only [Doc.sub]; rw [if_pos (by omega)]; exact f1, f2⟩
  | @fld l kvs ep i k w rs u h1 h2 _ ih =>
    cases hd with
    | row e1 e2 e3 => rw [h1] at e1; cases e1
    | fld e1 e2 e3 e4 =>
      rw [h1] at e1; cases e1
      obtain ⟨d', f1, f2⟩ := ih (e4 _ _ _ h2)
      have hi : i < kvs.length := (List.getElem?_eq_some_iff.mp h2).1
      exact ⟨d', by simp only [Doc.sub]; rw [if_pos (by omega)]; exact f1, f2⟩
theorem DocAt.shown {a : Addr} {d : Doc} (h : DocAt σ (.ref a) d) : ∃ o, σ a = some o := by
  cases h with
  | row e1 _ _ => exact ⟨_, e1⟩
  | fld e1 _ _ _ => exact ⟨_, e1⟩

/-- a document made since H, nothing in it twice -/
structure NewDoc (H σ : AH) (v : Value) (d : Doc) : Prop where
  doc : DocAt σ v d
  uniq : ∀ rs qs a, AtPl σ v rs (.ref a) → AtPl σ v qs (.ref a) → rs = qs
  new : ∀ rs a, AtPl σ v rs (.ref a) → H a = none
theorem NewDoc.sub {v : Value} {d : Doc} (h : NewDoc H σ v d) (k : Sub σ σ') : NewDoc H σ' v d :=
  ⟨h.doc.sub k, fun rs qs a e1 e2 => h.uniq rs qs a (e1.back h.doc k) (e2.back h.doc k), fun rs a e => h.new rs a (e.back h.doc k)⟩
theorem NewDoc.base {H0 : AH} {v : Value} {d : Doc} (h : NewDoc H σ v d) (k : Sub H0 H) : NewDoc H0 σ v d := ⟨h.doc, h.uniq, fun rs a e => k.none (h.new rs a e)⟩
theorem NewDoc.leaf {v : Value} {d : Doc} (h : DocAt σ v d) (hv : ∀ a, v ≠ .ref a) : NewDoc H σ v d := by
  have key : ∀ rs a, ¬ AtPl σ v rs (.ref a) := by
    intro rs a e
    generalize eu : Value.ref a = u at e
    cases e with
    | here => exact hv a eu.symm
    | row => exact hv _ rfl
    | fld => exact hv _ rfl
  exact ⟨h, fun rs qs a e => (key _ _ e).elim, fun rs a e => (key _ _ e).elim⟩
/-- documents made since H, nothing in them twice -/
structure NewDocs (H σ : AH) (vs : List Value) (ds : List Doc) : Prop where
  len : vs.length = ds.length
  each : ∀ (i : Nat) v d, vs[i]? = some v → ds[i]? = some d → NewDoc H σ v d
  apart : ∀ (i j : Nat) v w rs qs a, vs[i]? = some v → vs[j]? = some w → AtPl σ v rs (.ref a) → AtPl σ w qs (.ref a) → i = j
theorem NewDocs.nil : NewDocs H σ [] [] := ⟨rfl, fun i v d e => by simp at e, fun i j v w rs qs a e => by simp at e⟩
theorem NewDocs.doc {vs : List Value} {ds : List Doc} (h : NewDocs H σ vs ds) {i : Nat} {v : Value} (e : vs[i]? = some v) : ∃ d, ds[i]? = some d ∧ NewDoc H σ v d := by
  have hi : i < ds.length := by rw [← h.len]; exact (List.getElem?_eq_some_iff.mp e).1
  exact ⟨ds[i], List.getElem?_eq_getElem hi, h.each i v _ e (List.getElem?_eq_getElem hi)⟩
theorem NewDocs.sub {vs : List Value} {ds : List Doc} (h : NewDocs H σ vs ds) (k : Sub σ σ') : NewDocs H σ' vs ds := by
  refine ⟨h.len, fun i v d e1 e2 => (h.each i v d e1 e2).sub k, fun i j v w rs qs a e1 e2 e3 e4 => ?_⟩
  obtain ⟨d1, _, n1⟩ := h.doc e1
  obtain ⟨d2, _, n2⟩ := h.doc e2
  exact h.apart i j v w rs qs a e1 e2 (e3.back n1.doc k) (e4.back n2.doc k)
theorem NewDocs.snoc {vs : List Value} {ds : List Doc} {v : Value} {d : Doc} (h : NewDocs H σ vs ds) (k : Sub σ σ') (k0 : Sub H σ) (n : NewDoc σ σ' v d) : NewDocs H σ' (vs ++ [v]) (ds ++ [d]) := by
  have hs := h.sub k
  have cross : ∀ (i : Nat) w rs qs a, vs[i]? = some w → AtPl σ' w rs (.ref a) → AtPl σ' v qs (.ref a) → False := by
    intro i w rs qs a e1 e2 e3
    obtain ⟨d1, _, n1⟩ := h.doc e1
    obtain ⟨d', _, f⟩ := (e2.back n1.doc k).doc n1.doc
    obtain ⟨o, ho⟩ := f.shown
    rw [n.new _ _ e3] at ho; cases ho
  refine ⟨by simp [h.len], fun i w d' e1 e2 => ?_, fun i j w u rs qs a e1 e2 e3 e4 => ?_⟩
  · rcases Nat.lt_or_ge i vs.length with hi | hi
    · rw [List.getElem?_append_left hi] at e1
      rw [List.getElem?_append_left (by rw [← h.len]; exact hi)] at e2
      exact hs.each i w d' e1 e2
    · rw [List.getElem?_append_right hi] at e1
      rw [List.getElem?_append_right (by rw [← h.len]; exact hi), ← h.len] at e2
      have : i - vs.length = 0 := by
        rcases Nat.eq_zero_or_pos (i - vs.length) with q | q
        · exact q
        · rw [List.getElem?_eq_none (by simp; omega)] at e1; cases e1
      rw [this] at e1 e2
      simp at e1 e2
      subst e1 e2
      exact n.base k0
  · rcases Nat.lt_or_ge i vs.length with hi | hi <;> rcases Nat.lt_or_ge j vs.length with hj | hj
    · rw [List.getElem?_append_left hi] at e1
      rw [List.getElem?_append_left hj] at e2
      exact hs.apart i j w u rs qs a e1 e2 e3 e4
    · rw [List.getElem?_append_left hi] at e1
      rw [List.getElem?_append_right hj] at e2
      have := List.mem_of_getElem? e2
      simp at this; subst this
      exact (cross i w rs qs a e1 e3 e4).elim
    · rw [List.getElem?_append_right hi] at e1
      rw [List.getElem?_append_left hj] at e2
      have := List.mem_of_getElem? e1
      simp at this; subst this
      exact (cross j u qs rs a e2 e4 e3).elim
    · have hi' := (List.getElem?_eq_some_iff.mp e1).1
      have hj' := (List.getElem?_eq_some_iff.mp e2).1
      simp at hi' hj'; omega
theorem NewDocs.row {vs : List Value} {ds : List Doc} {D : Addr} (h : NewDocs H σ vs ds) (k : Sub H σ) (hD : σ D = none) : NewDoc H (σ.set D (.lst vs)) (.ref D) (.row vs.length fun i => ds.getD i .nil) := by
  have ks : Sub σ (σ.set D (.lst vs)) := Sub.set hD
  have hs := h.sub ks
  have shown : ∀ (i : Nat) w rs a, vs[i]? = some w → AtPl (σ.set D (.lst vs)) w rs (.ref a) → a ≠ D := by
    intro i w rs a e1 e2 e
    obtain ⟨d1, _, n1⟩ := h.doc e1
    obtain ⟨d', _, f⟩ := (e2.back n1.doc ks).doc n1.doc
    obtain ⟨o, ho⟩ := f.shown
    rw [e, hD] at ho; cases ho
  have inv : ∀ rs a, AtPl (σ.set D (.lst vs)) (.ref D) rs (.ref a) → (rs = [] ∧ a = D) ∨ ∃ i w rs', rs = i :: rs' ∧ vs[i]? = some w ∧ AtPl (σ.set D (.lst vs)) w rs' (.ref a) := by
    intro rs a e
    generalize eu : Value.ref a = u at e
    cases e with
    | here => cases eu; exact .inl ⟨rfl, rfl⟩
    | row h1 h2 h3 => rw [AH.set_self] at h1; cases h1; subst eu; exact .inr ⟨_, _, _, rfl, h2, h3⟩
    | fld h1 h2 h3 => rw [AH.set_self] at h1; cases h1
  refine ⟨.row AH.set_self rfl fun i v e => ?_, fun rs qs a e1 e2 => ?_, fun rs a e => ?_⟩
  · obtain ⟨d, e1, n⟩ := hs.doc e
    have : ds.getD i .nil = d := by rw [List.getD_eq_getElem?_getD, e1]; rfl
    rw [this]; exact n.doc
  · rcases inv _ _ e1 with ⟨rfl, rfl⟩ | ⟨i, w, rs', rfl, f1, f2⟩ <;> rcases inv _ _ e2 with ⟨rfl, h0⟩ | ⟨j, u, qs', rfl, g1, g2⟩
    · rfl
    · exact (shown _ _ _ _ g1 g2 rfl).elim
    · exact (shown _ _ _ _ f1 f2 h0).elim
    · have := hs.apart i j w u rs' qs' a f1 g1 f2 g2
      subst this
      rw [f1] at g1; cases g1
      obtain ⟨d, _, n⟩ := hs.doc f1
      rw [n.uniq _ _ _ f2 g2]
  · rcases inv _ _ e with ⟨rfl, rfl⟩ | ⟨i, w, rs', rfl, f1, f2⟩
    · exact k.none hD
    · obtain ⟨d, _, n⟩ := hs.doc f1
      exact n.new _ _ f2
theorem NewDocs.fld {kvs : List (Str × Value)} {ds : List Doc} {D : Addr} {ep : Nat} {key : Nat → Str} (h : NewDocs H σ (kvs.map (·.2)) ds) (k : Sub H σ) (hD : σ D = none) (hk : ∀ (i : Nat) k v, kvs[i]? = some (k, v) → k = key i) : NewDoc H (σ.set D (.dct kvs ep)) (.ref D) (.fld kvs.length key fun i => ds.getD i .nil) := by
  have ks : Sub σ (σ.set D (.dct kvs ep)) := Sub.set hD
  have hs := h.sub ks
  have at2 : ∀ (i : Nat) k v, kvs[i]? = some (k, v) → (kvs.map (·.2))[i]? = some v := fun i k v e => by rw [List.getElem?_map, e]; rfl
  have shown : ∀ (i : Nat) w rs a, (kvs.map (·.2))[i]? = some w → AtPl (σ.set D (.dct kvs ep)) w rs (.ref a) → a ≠ D := by
    intro i w rs a e1 e2 e
    obtain ⟨d1, _, n1⟩ := h.doc e1
    obtain ⟨d', _, f⟩ := (e2.back n1.doc ks).doc n1.doc
    obtain ⟨o, ho⟩ := f.shown
    rw [e, hD] at ho; cases ho
  have inv : ∀ rs a, AtPl (σ.set D (.dct kvs ep)) (.ref D) rs (.ref a) → (rs = [] ∧ a = D) ∨ ∃ i w rs', rs = i :: rs' ∧ (kvs.map (·.2))[i]? = some w ∧ AtPl (σ.set D (.dct kvs ep)) w rs' (.ref a) := by
    intro rs a e
    generalize eu : Value.ref a = u at e
    cases e with
    | here => cases eu; exact .inl ⟨rfl, rfl⟩
    | row h1 h2 h3 => rw [AH.set_self] at h1; cases h1
    | fld h1 h2 h3 => rw [AH.set_self] at h1; cases h1; subst eu; exact .inr ⟨_, _, _, rfl, at2 _ _ _ h2, h3⟩
  refine ⟨.fld AH.set_self rfl hk fun i k v e => ?_, fun rs qs a e1 e2 => ?_, fun rs a e => ?_⟩
  · obtain ⟨d, e1, n⟩ := hs.doc (at2 _ _ _ e)
    have : ds.getD i .nil = d := by rw [List.getD_eq_getElem?_getD, e1]; rfl
    rw [this]; exact n.doc
  · rcases inv _ _ e1 with ⟨rfl, rfl⟩ | ⟨i, w, rs', rfl, f1, f2⟩ <;> rcases inv _ _ e2 with ⟨rfl, h0⟩ | ⟨j, u, qs', rfl, g1, g2⟩
    · rfl
    · exact (shown _ _ _ _ g1 g2 rfl).elim
    · exact (shown _ _ _ _ f1 f2 h0).elim
    · have := hs.apart i j w u rs' qs' a f1 g1 f2 g2
      subst this
      rw [f1] at g1; cases g1
      obtain ⟨d, _, n⟩ := hs.doc f1
      rw [n.uniq _ _ _ f2 g2]
  · rcases inv _ _ e with ⟨rfl, rfl⟩ | ⟨i, w, rs', rfl, f1, f2⟩
    · exact k.none hD
    · obtain ⟨d, _, n⟩ := hs.doc f1
      exact n.new _ _ f2
end Mine
end
section
open PySem PySem.W PyProof.Rows Builtin
set_option Elab.async false
set_option maxRecDepth 100000
set_option autoImplicit false
set_option linter.unusedVariables false
namespace Mine
variable {C : Cx} {b : Nat} {σ σ' H : AH} {X : Value → AH → Prop} {env : Env}
theorem W.eIntT {i : Int} {k : Nat} {pos : Pos} {Q : Value → AH → Prop} (h : ∀ t, C.lo ≤ t → Q (.int i t) σ) : W C b (eval (.Constant (.int i) k pos) env) σ Q X := fun _ s _ _ o p _ => wpAny_mkInt (p _ _ _ (.toks o.good _) (h _ o.tk))
theorem W.eStrT {i : Str} {k : Nat} {pos : Pos} {Q : Value → AH → Prop} (h : ∀ t, C.lo ≤ t → Q (.str i t) σ) : W C b (eval (.Constant (.str i) k pos) env) σ Q X := fun _ s _ _ o p _ => wpAny_mkText (p _ _ _ (.toks o.good _) (h _ o.tk))
theorem W.modIntT {i j : Int} {t u : Tok} {Q : Value → AH → Prop} (hj : j ≠ 0) (h : ∀ t, C.lo ≤ t → Q (.int (i.fmod j) t) σ) : W C b (binaryOp .Mod (.int i t) (.int j u)) σ Q X := fun A s P E o p _ => PyProof.Rows.mod_int hj (p _ _ _ (.toks o.good _) (h _ o.tk))
/-- a value whose token is of this run -/
def TkV (C : Cx) : Value → Prop
  | .int _ t => C.lo ≤ t
  | .str _ t => C.lo ≤ t
  | _ => True
/-- all in it is of this run -/
def Tks (C : Cx) (σ : AH) (v : Value) : Prop := ∀ rs u, AtPl σ v rs u → TkV C u
theorem Tks.sub {v : Value} {d : Doc} (h : Tks C σ v) (hd : DocAt σ v d) (k : Sub σ σ') : Tks C σ' v := fun rs u e => h rs u (e.back hd k)
theorem Tks.leaf {v : Value} (h : TkV C v) (hv : ∀ a, v ≠ .ref a) : Tks C σ v := by
  intro rs u e
  cases e with
  | here => exact h
  | row => exact absurd rfl (hv _)
  | fld => exact absurd rfl (hv _)
theorem Tks.row {l : Addr} {vs : List Value} (hl : σ l = some (.lst vs)) (h : ∀ (i : Nat) v, vs[i]? = some v → Tks C σ v) : Tks C σ (.ref l) := by
  intro rs u e
  generalize er : Value.ref l = r at e
  cases e with
  | here => subst er; trivial
  | row h1 h2 h3 => cases er; rw [hl] at h1; cases h1; exact h _ _ h2 _ _ h3
  | fld h1 h2 h3 => cases er; rw [hl] at h1; cases h1
theorem Tks.fld {l : Addr} {kvs : List (Str × Value)} {ep : Nat} (hl : σ l = some (.dct kvs ep)) (h : ∀ (i : Nat) k v, kvs[i]? = some (k, v) → Tks C σ v) : Tks C σ (.ref l) := by
  intro rs u e
  generalize er : Value.ref l = r at e
  cases e with
  | here => subst er; trivial
  | row h1 h2 h3 => cases er; rw [hl] at h1; cases h1
  | fld h1 h2 h3 => cases er; rw [hl] at h1; cases h1; exact h _ _ _ h2 _ _ h3
/-- all of these are of this run -/
def TksAll (C : Cx) (σ : AH) (vs : List Value) : Prop := ∀ (i : Nat) v, vs[i]? = some v → Tks C σ v
theorem TksAll.nil : TksAll C σ [] := fun i v e => by simp at e
theorem TksAll.snoc {vs : List Value} {ds : List Doc} {v : Value} (h : TksAll C σ vs) (hd : NewDocs H σ vs ds) (k : Sub σ σ') (hv : Tks C σ' v) : TksAll C σ' (vs ++ [v]) := by
  intro i u e
  rcases Nat.lt_or_ge i vs.length with hi | hi
  · rw [List.getElem?_append_left hi] at e
    obtain ⟨d, _, n⟩ := hd.doc e
    exact (h i u e).sub n.doc k
  · rw [List.getElem?_append_right hi] at e
    have := List.mem_of_getElem? e
    simp at this; subst this; exact hv
theorem TksAll.row {vs : List Value} {ds : List Doc} {D : Addr} (h : TksAll C σ vs) (hd : NewDocs H σ vs ds) (hD : σ D = none) : Tks C (σ.set D (.lst vs)) (.ref D) :=
  Tks.row AH.set_self fun i v e => let ⟨d, _, n⟩ := hd.doc e; (h i v e).sub n.doc (Sub.set hD)
theorem TksAll.fld {kvs : List (Str × Value)} {ds : List Doc} {D : Addr} {ep : Nat} (h : TksAll C σ (kvs.map (·.2))) (hd : NewDocs H σ (kvs.map (·.2)) ds) (hD : σ D = none) : Tks C (σ.set D (.dct kvs ep)) (.ref D) :=
  Tks.fld AH.set_self fun i k v e => by
    have e' : (kvs.map (·.2))[i]? = some v := by rw [List.getElem?_map, e]; rfl
    obtain ⟨d, _, n⟩ := hd.doc e'
    exact (h i v e').sub n.doc (Sub.set hD)
/-- a thing of a document is itself -/
theorem W.isNotItself {v : Value} {d : Doc} {Q : Value → AH → Prop} (hd : DocAt σ v d) (ht : TkV C v) (hlo : 1 ≤ C.lo) (h : Q (.bool false) σ) : W C b (compareOp .IsNot v v) σ Q X := by
  intro A s P E o p _
  have fin := p _ _ _ (.refl o.good) h
  show wpAny _ A (do return .bool (!(← isSame v v))) P E s
  cases hd with
  | @num i t =>
    have h0 : (t == 0) = false := by
      rw [beq_eq_false_iff_ne]; intro e; subst e
      have : C.lo ≤ 0 := ht
      omega
    refine wpAny_bind ?_
    show wpAny _ A (if (i == i && smallInt i) = true then isSame.cachedInt t t else isSame.created (i == i) t t) _ _ _
    refine wpAny_ite_split (fun _ => ?_) (fun _ => ?_)
    · unfold isSame.cachedInt
      rw [h0]
      exact wpAny_bind (wpAny_rule (wpAny_pure (wpAny_pure fin)))
    · unfold isSame.created
      rw [h0]
      simp only [Bool.or_self, Bool.false_eq_true, if_false, beq_self_eq_true, if_true]
      exact wpAny_pure (wpAny_pure fin)
  | @txt x t =>
    have h0 : (t == 0) = false := by
      rw [beq_eq_false_iff_ne]; intro e; subst e
      have : C.lo ≤ 0 := ht
      omega
    refine wpAny_bind ?_
    show wpAny _ A (isSame.created (x == x) t t) _ _ _
    unfold isSame.created
    rw [h0]
    simp only [Bool.or_self, Bool.false_eq_true, if_false, beq_self_eq_true, if_true]
    exact wpAny_pure (wpAny_pure fin)
  | tru => exact wpAny_bind (wpAny_pure (wpAny_pure fin))
  | nil => exact wpAny_bind (wpAny_pure (wpAny_pure fin))
  | row => exact wpAny_bind (wpAny_isSame_ref_self (wpAny_pure fin))
  | fld => exact wpAny_bind (wpAny_isSame_ref_self (wpAny_pure fin))
end Mine
end
section
open PySem PySem.W PyProof.Rows Builtin
set_option Elab.async false
set_option maxRecDepth 100000
set_option autoImplicit false
set_option linter.unusedVariables false
namespace Mine
variable {C : Cx} {b : Nat} {σ σ' H : AH} {n : Nat}
abbrev Cx.raise (C : Cx) (n : Nat) : Cx := { C with lo := n }
theorem Good.raise {h : Heap} (g : Good C σ h) : Good (C.raise n) σ h := ⟨g.base, g.at_⟩
theorem Good.lower {h : Heap} (g : Good (C.raise n) σ h) : Good C σ h := ⟨g.base, g.at_⟩
theorem After.lower {s s' : Shared} (y : After (C.raise n) σ s σ' s') : After C σ s σ' s' := ⟨y.good.lower, y.step, y.ext, y.tk⟩
theorem Room.raise {A : Around} {h : Heap} (r : Room C b A σ h) : Room (C.raise n) b A σ h := ⟨r.hd, r.depth, r.units, r.frames⟩
theorem Ok.raise {A : Around} {s : Shared} (o : Ok C b A σ s) (h : n ≤ s.toks) : Ok (C.raise n) b A σ s := ⟨o.good.raise, o.room.raise, h⟩
end Mine
end
section
open PySem PySem.W PyProof.Rows Builtin
set_option Elab.async false
set_option maxRecDepth 100000
set_option autoImplicit false
set_option linter.unusedVariables false
namespace Mine
/-- a tree that draws a token whenever it ends -/
def Draws {α : Type} (t : Sem α) : Prop := ∀ (M : Model) (Γ : Ctx) (Q : α → Pos → Shared → Prop) (E : Value → Pos → Shared → Prop) (p : Pos) (s : Shared), Sem.wp M Γ t Q E p s → Sem.wp M Γ t (fun a p' s' => s.toks < s'.toks ∧ Q a p' s') E p s
theorem Draws.right {α β : Type} {m : Sem α} {f : α → Sem β} (h : ∀ a, Draws (f a)) : Draws (m >>= f) := by
  intro M Γ Q E p s w
  rw [Sem.wp_bind'] at w ⊢
  refine Sem.wp_mono M Γ m (fun a p' s' q => ?_) (fun _ _ _ q => q.2) p s (wp_toks m w)
  exact Sem.wp_mono M Γ _ (fun a p' s' q' => ⟨Nat.lt_of_le_of_lt q.1 q'.1, q'.2⟩) (fun _ _ _ x => x) _ _ (h a M Γ Q E p' s' q.2)
theorem Draws.left {α β : Type} {m : Sem α} {f : α → Sem β} (h : Draws m) : Draws (m >>= f) := by
  intro M Γ Q E p s w
  rw [Sem.wp_bind'] at w ⊢
  refine Sem.wp_mono M Γ m (fun a p' s' q => ?_) (fun _ _ _ q => q) p s (h M Γ _ E p s w)
  exact Sem.wp_mono M Γ _ (fun a p' s' q' => ⟨Nat.lt_of_lt_of_le q.1 q'.1, q'.2⟩) (fun _ _ _ x => x.2) _ _ (wp_toks _ q.2)
theorem Draws.mkText {x : Str} : Draws (mkText x) := fun M Γ Q E p s w => ⟨Nat.lt_succ_self _, w⟩
theorem Draws.nsSet {a : Addr} {x : Str} {v : Value} : Draws (nsSet a x v) := by
  unfold PySem.nsSet
  exact Draws.right fun h => Draws.left Draws.mkText
theorem Draws.any {α : Type} {t : Sem α} (h : Draws t) {M : Model} {A : Around} {Q : α → Shared → Prop} {E : Value → Shared → Prop} {s : Shared} (w : wpAny M A t Q E s) : wpAny M A t (fun a s' => s.toks < s'.toks ∧ Q a s') E s := fun Γ p hΓ => h M Γ _ _ p s (w Γ p hΓ)
theorem Draws.storeLocal {env : Env} {x : Str} {v : Value} (hk : env.scope.kind = .function) (hl : env.kindOf x = some .local) : Draws (storeName env x v) := by
  unfold storeName
  rw [hl]
  have h1 : (env.scope.kind == ScopeKind.class || env.scope.kind == ScopeKind.module && env.locals != env.globals) = false := by rw [hk]; rfl
  simp only [h1]
  exact Draws.nsSet
/-- a frame with one local in it -/
theorem Draws.env1 {scope : Scope} {globals : Addr} {closure : List (Str × Addr)} {x : Str} {v : Value} {qual : Str} {func : Option Addr} {code : Value} {builtins : Addr} (hk : scope.kind = .function) (hl : scope.names.lookup x = some .local) : Draws (newFunctionEnv scope globals closure [(x, v)] qual func code none builtins) := by
  unfold newFunctionEnv
  refine Draws.right fun L => Draws.right fun cells => ?_
  dsimp only
  rw [List.forIn_cons]
  refine Draws.left (Draws.left (Draws.left (Draws.storeLocal hk hl)))
end Mine
end
section
open PySem PySem.W PyProof.Rows Builtin
set_option Elab.async false
set_option maxRecDepth 100000
set_option autoImplicit false
set_option linter.unusedVariables false
namespace Mine
variable {C : Cx} {b : Nat} {σ : AH}

theorem After.frameSlots {s : Shared} {h' : Heap} {L : Addr} {o o' : Obj} (g : Good C σ s.heap) (hb : C.h₁.get? L = none) (ho : s.heap.get? L = some o) (hc : o.cls = .type "frame") (ho' : h'.get? L = some o') (h1 : o'.cls = o.cls) (h2 : o'.dict = o.dict) (h3 : o'.data = o.data)
    (k : ∀ b, b ≠ L → h'.get? b = s.heap.get? b) (hσ : (∃ m, σ L = some (.ns "frame" m)) ∨ σ L = none) : After C σ s σ { s with heap := h' } := by
  refine ⟨⟨fun x q e => ⟨(g.base x q e).1, ?_⟩, fun a q e => ?_⟩, ⟨fun x q e e' => ⟨e, ?_⟩, fun _ _ m e => ⟨m, e⟩⟩, .same, Nat.le_refl _⟩
  · have hx : x ≠ L := fun z => by rw [z, hb] at e; cases e
    exact (g.base x q e).2.imp (fun z => (k _ hx).trans z) fun z => z.keeps fun _ z => (k _ hx).trans z
  · by_cases ha : a = L
    · subst ha
      rcases hσ with ⟨m, hm⟩ | hm
      · rw [hm] at e; cases e
        obtain ⟨ob, es, n, e1, e2, e3, e4⟩ := g.at_ _ _ hm
        rw [ho] at e1; cases e1
        exact ⟨o', es, n, ho', h1.trans e2, h3.trans e3, e4⟩
      · rw [hm] at e; cases e
    · exact (g.at_ a q e).keeps fun y z => (k _ ha).trans z
  · by_cases hx : x = L
    · subst hx
      rw [ho] at e'; cases e'
      exact ⟨o', ho', .inr (.inl ⟨hc, h1, h2, h3⟩)⟩
    · exact ⟨q, (k _ hx).trans e', .refl q⟩

theorem FrameOk.obj {h : Heap} {env : Env} (f : FrameOk C σ h env) (g : Good C σ h) : ∃ L o es n, env.frame = some L ∧ C.h₁.get? L = none ∧ h.get? L = some o ∧ o.cls = .type "frame" ∧ o.data = .dict es n ∧ ((∃ m, σ L = some (.ns "frame" m)) ∨ σ L = none) := by
  obtain ⟨_, L, e, hn, h2⟩ := f
  rcases h2 with ⟨m, h2⟩ | ⟨h2, o, es, n, h3, h4, h5⟩
  · obtain ⟨o, es, n, e1, e2, e3, _⟩ := g.at_ _ _ h2
    exact ⟨L, o, es, n, e, hn, e1, e2, e3, .inl ⟨m, h2⟩⟩
  · exact ⟨L, o, es, n, e, hn, h3, h4, h5, .inr h2⟩
theorem FrameOk.next {σ' : AH} {h h' : Heap} {env : Env} (f : FrameOk C σ h env) (y : Step σ h σ' h') : FrameOk C σ' h' env := by
  have r : Room C 0 ⟨none, 0, some [env], none, 0⟩ σ h := ⟨rfl, (by show 0 + 0 < 900; omega), (by show 0 + 16 * 0 < 9000; omega), [env], rfl, fun e he => by rcases List.mem_cons.mp he with rfl | he; exact f; cases he⟩
  obtain ⟨l, e, q⟩ := (r.next y).frames
  cases e
  exact q env (List.mem_cons_self)

theorem ready {M : Model} {A : Around} {E : Value → Shared → Prop} {Q : Unit → Shared → Prop} : ∀ (l : List Env) (s : Shared), Good C σ s.heap → (∀ env ∈ l, FrameOk C σ s.heap env) → (∀ s', After C σ s σ s' → Q () s') → wpAny M A (readyFrames l) Q E s
  | [], s, g, _, h => wpAny_pure (h s (.refl g))
  | env :: r, s, g, f, h => by
    have f0 := f env (List.mem_cons_self)
    obtain ⟨L, o, es, n, e1, hn, e2, e3, e4, e5⟩ := f0.obj g
    simp only [readyFrames, e1]
    refine wpAny_bind (wpAny_load e2 ?_)
    by_cases hr : ((o.slots.getD 3 none).isSome) = true
    · rw [if_pos hr]; exact wpAny_pure (h s (.refl g))
    · rw [if_neg hr]
      refine wpAny_bind (wpAny_of_eq (a := false) (by simp [behindIsImport, f0.1]) ?_)
      have kb : ∀ {P : Value → Shared → Prop}, (∀ v, P v s) → wpAny M A (keptBack env false r) P E s := by
        intro P hP
        cases r with
        | nil => exact wpAny_keptBack_nil hP
        | cons c r => simp only [keptBack]; exact wpAny_pure (hP _)
      refine wpAny_bind (kb fun v => ?_)
      refine wpAny_bind (wpAny_update e2 ?_)
      have hget := Heap.get?_update_self (h := s.heap) (fun o => ({ o with slots := #[some env.code, some (.ref env.globals), o.slots.getD 2 none, some v, o.slots.getD 4 none, env.func.map Value.ref, some (.ref env.builtins)] ++ (env.cells.map fun c => some (.ref c.2)).toArray } : Obj)) e2 (by obtain ⟨c, d, dt, sl⟩ := o; simp only at e4; subst e4; rfl)
      have y := After.frameSlots (s := s) g hn e2 e3 hget rfl rfl rfl (fun b hb => Heap.get?_update_other _ _ (Ne.symm hb)) e5
      exact ready r _ y.good (fun env' he => (f env' (List.mem_cons_of_mem _ he)).next y.step) fun s' y' => h s' (y.trans y')

def excO (T : String) (tb : Value) : AO := .pr fun o => o.cls = .type T ∧ ∃ vs, o.data = .fields vs ∧ vs[1]? = some tb
def tbO : AO := .pr fun o => o.cls = .type "traceback" ∧ ∃ vs, o.data = .fields vs ∧ 3 < vs.size

theorem Mt.exc {h : Heap} {a : Addr} {T : String} {tb : Value} {o : Obj} {vs : Array Value} (hT : T ≠ "frame") (e : h.get? a = some o) (h1 : o.cls = .type T) (h2 : o.data = .fields vs) (h3 : vs[1]? = some tb) : Mt C h a (excO T tb) :=
  ⟨o, e, ⟨h1, vs, h2, h3⟩, by rw [h1]; intro q; exact hT (Value.type.inj q), by rw [h1]; simp⟩

/-- the frame is noted in the exception -/
theorem noted {M : Model} {A : Around} {E : Value → Shared → Prop} {s : Shared} {env : Env} {l : List Env} {e L : Addr} {T : String} {Q : Unit → Shared → Prop} (hT : T ≠ "frame") (g : Good C σ s.heap) (hfr : A.frames = some (env :: l)) (hf : env.frame = some L) (fs : ∀ env' ∈ env :: l, FrameOk C σ s.heap env') (he : σ e = some (excO T .none))
    (h : ∀ tb s', σ tb = none → After C σ s ((σ.set tb tbO).set e (excO T (.ref tb))) s' → Q () s') : wpAny M A (noteFrame (.ref e) env) Q E s := by
  obtain ⟨oe, he', ⟨hc, vs, hd, h1⟩, _⟩ := g.at_ _ _ he
  unfold noteFrame
  simp only [hf]
  refine wpAny_bind (wpAny_field he' hd h1 ?_)
  rw [if_neg (by decide)]
  unfold PySem.frameOf
  refine wpAny_bind (wpAny_bind (wpAny_frameEnvs hfr ?_))
  have hdw : ((env :: l).dropWhile fun x => x.frame != env.frame) = env :: l := by simp [List.dropWhile]
  rw [hdw]
  unfold frameObject
  refine wpAny_bind (wpAny_bind (ready _ s g fs fun s₁ y₁ => wpAny_pure ?_))
  rw [hf]
  refine wpAny_pure ?_
  refine wpAny_bind (wpAny_entryPlaceOf fun pl hpl => ?_)
  unfold EntryCells.newEntry newFields
  refine wpAny_bind (wpAny_newObj_type ?_ (hpl.sizeOk5 _ _ _ _ _))
  obtain ⟨y₂, hn⟩ := After.add (t := s₁.toks) (a := s₁.heap.objs.size) (o := tbO) y₁.good (fun b o' e => Heap.get?_push_of_some { cls := .type "traceback", dict := none, data := .fields ([Value.none, .ref L, .none, rawInt L, .none] ++ (if pl.isEmpty then List.replicate 6 Value.none else pl)).toArray } e) (Nat.le_refl _)
    ⟨_, Heap.get?_push_size _ rfl, ⟨rfl, _, rfl, by simp⟩, by simp, by simp⟩
  have he2 : (σ.set s₁.heap.objs.size tbO) e = some (excO T .none) := AH.set_new hn he
  obtain ⟨oe2, e2, ⟨hc2, vs2, hd2, h12⟩, _⟩ := y₂.good.at_ _ _ he2
  have hsz : 1 < vs2.size := (Array.getElem?_eq_some_iff.mp h12).1
  refine wpAny_setField e2 hd2 hsz ?_
  have hd3 := Obj.data_mapFields hd2 (·.setIfInBounds 1 (Value.ref s₁.heap.objs.size))
  have hget := Heap.get?_update_self (h := s₁.heap.push { cls := .type "traceback", dict := none, data := .fields ([Value.none, .ref L, .none, rawInt L, .none] ++ (if pl.isEmpty then List.replicate 6 Value.none else pl)).toArray }) (Obj.mapFields (·.setIfInBounds 1 (Value.ref s₁.heap.objs.size))) e2 (Obj.isFreed_of_fields hd3)
  have hcls : (Obj.mapFields (·.setIfInBounds 1 (Value.ref s₁.heap.objs.size)) oe2).cls = .type T := by
    obtain ⟨c, d, dt, sl⟩ := oe2; simp only at hd2 hc2; subst hd2 hc2; rfl
  have y₃ := After.upd (t := s₁.toks) (o' := excO T (.ref s₁.heap.objs.size)) y₂.good he2 (fun b hb => Heap.get?_update_other _ _ (Ne.symm hb)) (Mt.exc hT hget hcls hd3 (by simp [Array.getElem?_setIfInBounds, hsz])) (fun c m q => by cases q)
  exact h _ _ hn ((y₁.trans y₂).trans y₃)
end Mine
end
section
open PySem PySem.W PyProof.Rows Builtin
set_option Elab.async false
set_option maxRecDepth 100000
set_option autoImplicit false
set_option linter.unusedVariables false
namespace Mine
variable {C : Cx} {b : Nat} {σ : AH}
section
variable {prog : Program} {w : World} {A : Around} {E : Value → Shared → Prop} {s : Shared} {name : Str} {Q : Value → Shared → Prop}
/-- a built-in's value that lacks a name -/
theorem lacks_gen {v : Value} {T id : String} (slot : Slot T (Str.ofString "__getattribute__") id) (hng : typeLookup (.type T) (Str.ofString "__getattr__") = pure none) (hT : ∀ tk, (⟨s.heap, s.gens, s.drawn, tk, s.os⟩ : Shared).TypeIs v T)
    (hcall : ∀ (u tk : Tok) (P : Value → Shared → Prop) (E : Value → Shared → Prop), (∀ h' tk' e, Heap.NewAttrErr s.heap h' e v name → E (.ref e) { s with heap := h', toks := tk' }) → wpAny (model prog w) A (call (.builtin id) [v, .str name u]) P E { s with toks := tk })
    (h : ∀ h' tk e, Heap.NewExcOf s.heap h' e "AttributeError" → E (.ref e) { s with heap := h', toks := tk }) :
    wpAny (model prog w) A (getAttr v name false) Q E s := by
  have f1 := sub_AttributeError
  unfold getAttr getAttrBy
  refine wpAny_bind (wpAny_mkText (wpAny_holding (wpAny_bind (wpAny_typeOf (hT _) (wpAny_bind (wpAny_of_eq slot.lookup ?_))))))
  show wpAny _ _ (getAttrByItsOwn _ _ _ _ _ _) _ _ _
  unfold getAttrByItsOwn
  refine wpAny_bind (wpAny_of_eq (a := none) rfl (wpAny_bind (wpAny_attempt (wpAny_holding ?_))))
  show wpAny _ _ (boundAndCalled _ _ _) _ _ _
  unfold boundAndCalled
  refine wpAny_bind (wpAny_of_eq (slot.bind v) ?_)
  refine hcall _ _ _ _ fun h' tk' e hx => ?_
  have hx' := hx.of
  obtain ⟨t', u', he⟩ := hx.there
  show wpAny _ _ (getattributeRaised _ _ _ _ _ _ _) _ _ _
  unfold getattributeRaised
  refine wpAny_bind (wpAny_isInstance (T := "AttributeError") (b := true) ⟨_, he, rfl⟩ f1 ?_)
  rw [if_pos rfl]
  refine wpAny_bind (wpAny_of_eq hng ?_)
  unfold hookOrError
  dsimp only
  unfold attributeErrorLeaves
  simp only [Bool.not_true, Bool.false_eq_true, if_false]
  refine wpAny_bind ?_
  unfold noteAttr
  refine wpAny_bind ?_
  unfold lacksNameAndObj
  refine wpAny_bind (wpAny_isInstance (T := "AttributeError") (b := true) ⟨_, he, rfl⟩ f1 ?_)
  rw [if_neg (by decide)]
  refine wpAny_bind (wpAny_load he ?_)
  refine wpAny_pure ?_
  rw [if_neg (by decide)]
  refine wpAny_pure (wpAny_throw ?_)
  exact h _ _ _ hx'
theorem lacks_int {n : Int} {t : Tok} (hmiss : typeLookup (.type "int") name = pure none) (hA : A.handled = none) (h : ∀ h' tk e, Heap.NewExcOf s.heap h' e "AttributeError" → E (.ref e) { s with heap := h', toks := tk }) (hsz : name.length + 100 ≤ sizeLine) :
    wpAny (model prog w) A (getAttr (.int n t) name false) Q E s :=
  lacks_gen F.slot_int_getattribute am_int_getattr_none (fun _ => rfl) (fun u tk P E' h' => call_meets F.slot_int_getattribute rfl am_entry_int_getattribute (F.args_int_getattribute_2 _ _) (meets_getattribute_miss_int n t name _ hmiss hsz) ⟨hA, h'⟩) h
theorem lacks_bool {c : Bool} (hmiss : typeLookup (.type "bool") name = pure none) (hA : A.handled = none) (h : ∀ h' tk e, Heap.NewExcOf s.heap h' e "AttributeError" → E (.ref e) { s with heap := h', toks := tk }) (hsz : name.length + 100 ≤ sizeLine) :
    wpAny (model prog w) A (getAttr (.bool c) name false) Q E s :=
  lacks_gen F.slot_bool_getattribute am_bool_getattr_none (fun _ => rfl) (fun u tk P E' h' => call_meets F.slot_bool_getattribute rfl am_entry_int_getattribute (F.args_int_getattribute_2 _ _) (meets_getattribute_miss_bool c name _ hmiss hsz) ⟨hA, h'⟩) h
theorem lacks_str {x : Str} {t : Tok} (hmiss : typeLookup (.type "str") name = pure none) (hA : A.handled = none) (h : ∀ h' tk e, Heap.NewExcOf s.heap h' e "AttributeError" → E (.ref e) { s with heap := h', toks := tk }) (hsz : name.length + 100 ≤ sizeLine) :
    wpAny (model prog w) A (getAttr (.str x t) name false) Q E s :=
  lacks_gen F.slot_str_getattribute am_str_getattr_none (fun _ => rfl) (fun u tk P E' h' => call_meets F.slot_str_getattribute rfl F.entry_object_getattribute (F.args_object_getattribute_2 _ _) (meets_getattribute_miss_str x t name _ hmiss hsz) ⟨hA, h'⟩) h
theorem lacks_none (hmiss : typeLookup (.type "NoneType") name = pure none) (hA : A.handled = none) (h : ∀ h' tk e, Heap.NewExcOf s.heap h' e "AttributeError" → E (.ref e) { s with heap := h', toks := tk }) (hsz : name.length + 100 ≤ sizeLine) :
    wpAny (model prog w) A (getAttr .none name false) Q E s :=
  lacks_gen F.slot_NoneType_getattribute am_none_getattr_none (fun _ => rfl) (fun u tk P E' h' => call_meets F.slot_NoneType_getattribute rfl F.entry_object_getattribute (F.args_object_getattribute_2 _ _) (meets_getattribute_miss_none name _ hmiss hsz) ⟨hA, h'⟩) h
theorem lacks_list {a : Addr} {xs : Array Value} {k : Nat} (hx : s.heap.get? a = some { cls := .type "list", data := .seq xs k }) (hmiss : typeLookup (.type "list") name = pure none) (hname : (["__module__", "__name__", "__qualname__", "__doc__", "__annotations__"] : List Str).contains name = false) (hA : A.handled = none)
    (h : ∀ h' tk e, Heap.NewExcOf s.heap h' e "AttributeError" → E (.ref e) { s with heap := h', toks := tk }) (hsz : name.length + 100 ≤ sizeLine) :
    wpAny (model prog w) A (getAttr (.ref a) name false) Q E s :=
  lacks_gen F.slot_list_getattribute am_list_getattr_none (fun _ => ⟨_, hx, rfl⟩) (fun u tk P E' h' => call_meets F.slot_list_getattribute ⟨_, hx, rfl⟩ am_entry_list_getattribute (F.args_list_getattribute_2 _ _) (meets_getattribute_miss_list a xs k _ name _ hmiss hname hsz) ⟨hx, hA, h'⟩) h
end
end Mine
end
section
open PySem PySem.W PyProof.Rows Builtin
set_option Elab.async false
set_option maxRecDepth 100000
set_option autoImplicit false
set_option linter.unusedVariables false
namespace Mine
variable {C : Cx} {b : Nat} {σ H : AH} {X : Value → AH → Prop} {α : Type} {env : Env}

theorem Mt.there {h : Heap} {a : Addr} {o : AO} (m : Mt C h a o) : ∃ ob, h.get? a = some ob := by
  cases o with
  | ns c m' => obtain ⟨o, _, _, e, _⟩ := m; exact ⟨o, e⟩
  | fs m' => obtain ⟨_, _, e, _⟩ := m; exact ⟨_, e⟩
  | cell v => obtain ⟨o, e, _⟩ := m; exact ⟨o, e⟩
  | lst vs => obtain ⟨n, e⟩ := m; exact ⟨_, e⟩
  | tup vs => obtain ⟨n, e⟩ := m; exact ⟨_, e⟩
  | dct kvs ep => obtain ⟨⟨o, _, e, _⟩, _⟩ := m; exact ⟨o, e⟩
  | inst K d => exact ⟨_, m⟩
  | raw o => exact ⟨o, m⟩
  | pr P => obtain ⟨o, e, _⟩ := m; exact ⟨o, e⟩
/-- a thing at a free place enters σ -/
theorem After.add' {s : Shared} {h' : Heap} {t : Nat} {a : Addr} {o : AO} (g : Good C σ s.heap) (k : ∀ b o, s.heap.get? b = some o → h'.get? b = some o)
    (ha : s.heap.get? a = none) (m : Mt C h' a o) (ht : s.toks ≤ t := by first | exact Nat.le_refl _ | exact Nat.le_add_right _ _ | (simp only [Nat.add_assoc]; exact Nat.le_add_right _ _) | assumption | omega) : After C σ s (σ.set a o) { s with heap := h', toks := t } ∧ σ a = none := by
  have hn : σ a = none := by
    cases e : σ a with
    | none => rfl
    | some o' => obtain ⟨ob, q⟩ := (g.at_ _ _ e).there; rw [ha] at q; cases q
  have hb : ∀ x q, C.h₁.get? x = some q → x ≠ a := fun x q e z => by
    rcases (g.base x q e).2 with w | ⟨_, _, _, _, _, w, _⟩ <;> (rw [z, ha] at w; cases w)
  refine ⟨⟨⟨fun x q e => ?_, fun c x e => ?_⟩, ⟨fun x q e e' => ?_, fun c cl m' e => ?_⟩, .same, ht⟩, hn⟩
  · have z := (g.keeps k).base x q e
    refine ⟨?_, z.2⟩
    rw [AH.set_ne (hb x q e)]; exact z.1
  · by_cases hc : c = a
    · subst hc; rw [AH.set_self] at e; cases e; exact m
    · rw [AH.set_ne hc] at e; exact (g.at_ c x e).keeps (k c)
  · refine ⟨?_, q, k _ _ e', .refl q⟩
    rw [AH.set_ne (fun z => by rw [z, ha] at e'; cases e')]; exact e
  · refine ⟨m', ?_⟩
    rw [AH.set_new hn e]

/-- a value of a document that is no dict lacks this name -/
theorem W.getMissing {v : Value} {T : String} {name : Str} {pl : Sem Bool} {Q : Value × List Value → AH → Prop} (hv : DocV C σ v T) (hT : (T == "dict") = false)
    (hm : ∀ T' ∈ ["NoneType", "bool", "int", "str", "list"], typeLookup (.type T') name = pure none) (hname : (["__module__", "__name__", "__qualname__", "__doc__", "__annotations__"] : List Str).contains name = false) (hsz : name.length + 100 ≤ sizeLine)
    (h : ∀ a, σ a = none → X (.ref a) (σ.set a (excO "AttributeError" .none))) : W C b (getMethod v name pl) σ Q X := by
  intro A s P0 E0 o p x
  refine wpAny_tk ?_
  obtain ⟨P, hP⟩ : ∃ P : Value × List Value → Shared → Prop, P = fun a s' => s.toks ≤ s'.toks → P0 a s' := ⟨_, rfl⟩
  obtain ⟨E, hE⟩ : ∃ E : Value → Shared → Prop, E = fun a s' => s.toks ≤ s'.toks → E0 a s' := ⟨_, rfl⟩
  rw [← hP, ← hE]
  have fin : ∀ h' tk e, Heap.NewExcOf s.heap h' e "AttributeError" → E (.ref e) { s with heap := h', toks := tk } := by
    intro h' tk e hx
    rw [hE]
    intro htk
    obtain ⟨ob, vs, h1, h2, h3, h4⟩ := hx.there
    have y := After.add' (t := tk) o.good hx.keeps hx.new (Mt.exc (C := C) (by decide) h1 h2 h3 h4)
    exact x _ _ _ y.1 (h _ y.2)
  have usual : ∀ {T' : String} (pa : PlainAttrs T') (hT' : s.TypeIs v T') (hmm : typeLookup (.type T') name = pure none) (hga : wpAny (model C.prog C.w) A (getAttr v name false) (fun w s' => P (w, []) s') E s), wpAny (model C.prog C.w) A (getMethod v name pl) P E s := by
    intro T' pa hT' hmm hga
    obtain ⟨g, hg, hcan⟩ := pa.ga
    unfold getMethod
    refine wpAny_bind (wpAny_specialOf hT' hg ?_)
    show wpAny _ A (if (Manifest.canonical g != "object.__getattribute__") = true then _ else _) P E s
    rw [hcan, if_neg Bool.false_ne_true]
    refine wpAny_bind (wpAny_specialOf hT' pa.noGetattr ?_)
    refine wpAny_bind (wpAny_specialOf hT' hmm ?_)
    exact wpAny_bind (wpAny_mono hga (fun w s' q => wpAny_pure q) fun _ _ e => e)
  have hA := o.room.hd
  obtain ⟨k, hT2⟩ := hv
  cases k with
  | none => exact usual F.plainAttrs_NoneType rfl (hm _ (by simp)) (lacks_none (hm _ (by simp)) hA fin hsz)
  | bool => exact usual F.plainAttrs_bool rfl (hm _ (by simp)) (lacks_bool (hm _ (by simp)) hA fin hsz)
  | int => exact usual F.plainAttrs_int rfl (hm _ (by simp)) (lacks_int (hm _ (by simp)) hA fin hsz)
  | str => exact usual F.plainAttrs_str rfl (hm _ (by simp)) (lacks_str (hm _ (by simp)) hA fin hsz)
  | lst e =>
    obtain ⟨n, hx⟩ := o.good.at_ _ _ e
    exact usual F.plainAttrs_list ⟨_, hx, rfl⟩ (hm _ (by simp)) (lacks_list hx (hm _ (by simp)) hname hA fin hsz)
  | tup e => simp at hT2
  | dct e => simp at hT

/-! a tree that runs in its own def's frame -/
def WE (C : Cx) (b : Nat) (env : Env) {α : Type} (t : Sem α) (σ : AH) (Q : α → AH → Prop) (X : Value → AH → Prop) : Prop :=
  ∀ (A : Around) (s : Shared) (P : α → Shared → Prop) (E : Value → Shared → Prop) (l : List Env), Ok C b A σ s → A.frames = some (env :: l) → (∀ env' ∈ env :: l, FrameOk C σ s.heap env') →
    (∀ a σ' s', After C σ s σ' s' → Q a σ' → P a s') → (∀ e σ' s', After C σ s σ' s' → X e σ' → E e s') → wpAny (model C.prog C.w) A t P E s
theorem WE.execs_cons {st : Stmt} {rest : List Stmt} {Q : Flow → AH → Prop} (h : WE C b env (exec st env) σ (thenRest C b rest env Q X) X) : WE C b env (execs (st :: rest) env) σ Q X := by
  intro A s P E l o hl hf p x
  rw [PySem.execs_cons]
  refine wpAny_bind (h A s _ _ l o hl hf (fun f σ₁ s₁ y q => ?_) x)
  cases f with
  | next => exact q A s₁ P E (o.next y) (fun a σ' s' z q' => p a σ' s' (y.trans z) q') fun e σ' s' z q' => x e σ' s' (y.trans z) q'
  | _ => exact wpAny_pure (p _ _ _ y q)

/-- a call of a def without cells that catches -/
theorem WK.fn0E {f : Addr} {oc : Value} {od : Option Addr} {osl : Array (Option Value)} {fd : FuncData} {body : List Stmt} {scope : Scope} {args : Args} {binds mm : List (Str × Value)} {qn : Str} {cd : Value} {Q : Value → AH → Prop} (ho : C.K.lookup f = some ⟨oc, od, .func fd, osl⟩)
    (hcode : codeIn C.K fd.code fd.qualname = true) (hbody : fd.body = .stmts body) (hsc : fd.scope = scope) (hqn : fd.qualname = qn) (hcd : fd.code = cd) (hb : bindArgs fd args = pure binds) (hm : localBinds scope.names binds = mm) (hc : cellNames scope.names = []) (hk : kindsOk scope.names binds = true)
    (h : ∀ L, H L = none → WE C b (fEnv scope L [] (qn ++ ".<locals>.") f cd) (execs body (fEnv scope L [] (qn ++ ".<locals>.") f cd)) (H.set L (.ns "frame" mm)) (Done L Q) noX)
    (hgl : fd.globals = mainGlobals := by rfl) (hbi : fd.builtins = builtinsNs := by rfl) (hcl : fd.closure = [] := by rfl)
    (hco : fd.scope.isCoroutine = false := by rfl) (hgen : fd.scope.isGenerator = false := by rfl) (hk' : fd.scope.kind = .function := by rfl) (hn : namesOk fd.scope.names = true := by rfl) : WK C (b + 2) (.call (.ref f) args) H (isRet Q) := by
  subst hsc hqn hcd
  intro A s R o r
  have o1 : Ok C b A.in1 H s := ⟨o.good, ⟨o.room.hd, by have := o.room.depth; show A.depth + b < 900; omega, by have := o.room.units; show A.units + 1 + 16 * b < 9000; omega, o.room.frames⟩, o.tk⟩
  refine codeAny_call_function o.room.lim (o.good.kin _ _ ho) rfl hco hgen hbody (codeRec_of o.good.kin hcode) ?_
  rw [hb]
  refine wpAny_pure ?_
  rw [hcl]
  obtain ⟨n1, n2⟩ := Bool.and_eq_true_iff.mp hn
  have z : W C b (newFunctionEnv fd.scope fd.globals [] binds (fd.qualname ++ ".<locals>.") (some f) fd.code none fd.builtins) H (fun env σ₂ => ∃ L, H L = none ∧ env = fEnv fd.scope L [] (fd.qualname ++ ".<locals>.") f fd.code ∧ σ₂ = H.set L (.ns "frame" mm)) noX := by
    refine W.newEnv_ hk' (of_decide_eq_true n1) (kindsOk_of hk) (fun n hn => beq_iff_eq.mp (List.all_eq_true.mp n2 n hn)) fun L hL => ?_
    rw [hc, hm]
    intro _
    exact ⟨L, hL, by unfold newEnv fEnv; rw [hgl, hbi], rfl⟩
  refine z A.in1 s _ _ o1 (fun env σ₂ s₂ y₂ q₂ => ⟨y₂.good.lim, ?_⟩) fun e σ' s' y q => q.elim
  obtain ⟨L, hL, rfl, rfl⟩ := q₂
  have o2 : Ok C (b + 1) A (H.set L (.ns "frame" mm)) s₂ := ⟨y₂.good, ⟨o.room.hd, by have := o.room.depth; omega, by have := o.room.units; omega, (o.room.next y₂.step).frames⟩, Nat.le_trans o.tk y₂.tk⟩
  refine codeAny_func ?_
  have o3 := o2.deeper (env := fEnv fd.scope L [] (fd.qualname ++ ".<locals>.") f fd.code) (L := L) hk' rfl AH.set_self
  obtain ⟨l, e1, e2⟩ := o2.room.frames
  have e3 : (A.deeper (fEnv fd.scope L [] (fd.qualname ++ ".<locals>.") f fd.code)).frames = some (fEnv fd.scope L [] (fd.qualname ++ ".<locals>.") f fd.code :: l) := by simp only [Around.deeper, e1, Option.map_some]
  obtain ⟨l', e1', e2'⟩ := o3.room.frames
  rw [e3] at e1'
  cases e1'
  refine h L hL _ s₂ _ _ l o3 e3 e2' (fun fl σ' s' y q => ?_) fun e σ' s' y q => q.elim
  obtain ⟨m', H', rfl, hn', q⟩ := q
  have yy := (y₂.trans y).cut (σ'' := H') (fun a o e => by rw [AH.set_ne (fun z => by rw [z, hn'] at e; cases e)]; exact e) (fun a c m e => by rw [AH.set_ne (fun z => by rw [z, hL] at e; cases e)])
  cases fl <;> exact r _ _ s' yy ⟨_, rfl, q⟩
end Mine
end
section
open PySem PySem.W PyProof.Rows Builtin
set_option Elab.async false
set_option maxRecDepth 100000
set_option autoImplicit false
set_option linter.unusedVariables false
namespace Mine
variable {C : Cx} {b : Nat} {H : AH}
/-- a call of a def of one local: from its body on there is a token behind us -/
theorem WK.fnLo {f : Addr} {oc : Value} {od : Option Addr} {osl : Array (Option Value)} {fd : FuncData} {body : List Stmt} {scope : Scope} {args : Args} {x : Str} {u : Value} {mm : List (Str × Value)} {qn : Str} {cd : Value} {Q : Value → Prop} (ho : C.K.lookup f = some ⟨oc, od, .func fd, osl⟩)
    (hcode : codeIn C.K fd.code fd.qualname = true) (hbody : fd.body = .stmts body) (hsc : fd.scope = scope) (hqn : fd.qualname = qn) (hcd : fd.code = cd) (hb : bindArgs fd args = pure [(x, u)]) (hloc : scope.names.lookup x = some .local) (hm : localBinds scope.names [(x, u)] = mm) (hc : cellNames scope.names = []) (hk : kindsOk scope.names [(x, u)] = true)
    (h : ∀ L, H L = none → W (C.raise 1) b (execs body (fEnv scope L [] (qn ++ ".<locals>.") f cd)) (H.set L (.ns "frame" mm)) (Done L fun v _ => Q v) noX)
    (hgl : fd.globals = mainGlobals := by rfl) (hbi : fd.builtins = builtinsNs := by rfl) (hcl : fd.closure = [] := by rfl)
    (hco : fd.scope.isCoroutine = false := by rfl) (hgen : fd.scope.isGenerator = false := by rfl) (hk' : fd.scope.kind = .function := by rfl) (hn : namesOk fd.scope.names = true := by rfl) : WK C (b + 2) (.call (.ref f) args) H (isRet fun v _ => Q v) := by
  subst hsc hqn hcd
  intro A s R o r
  have o1 : Ok C b A.in1 H s := ⟨o.good, ⟨o.room.hd, by have := o.room.depth; show A.depth + b < 900; omega, by have := o.room.units; show A.units + 1 + 16 * b < 9000; omega, o.room.frames⟩, o.tk⟩
  refine codeAny_call_function o.room.lim (o.good.kin _ _ ho) rfl hco hgen hbody (codeRec_of o.good.kin hcode) ?_
  rw [hb]
  refine wpAny_pure ?_
  rw [hcl]
  obtain ⟨n1, n2⟩ := Bool.and_eq_true_iff.mp hn
  have z : W C b (newFunctionEnv fd.scope fd.globals [] [(x, u)] (fd.qualname ++ ".<locals>.") (some f) fd.code none fd.builtins) H (fun env σ₂ => ∃ L, H L = none ∧ env = fEnv fd.scope L [] (fd.qualname ++ ".<locals>.") f fd.code ∧ σ₂ = H.set L (.ns "frame" mm)) noX := by
    refine W.newEnv_ hk' (of_decide_eq_true n1) (kindsOk_of hk) (fun n hn => beq_iff_eq.mp (List.all_eq_true.mp n2 n hn)) fun L hL => ?_
    rw [hc, hm]
    intro _
    exact ⟨L, hL, by unfold newEnv fEnv; rw [hgl, hbi], rfl⟩
  refine wpAny_mono (Draws.any (Draws.env1 hk' hloc) (z A.in1 s (fun env s₂ => ∃ σ₂, After C H s σ₂ s₂ ∧ ∃ L, H L = none ∧ env = fEnv fd.scope L [] (fd.qualname ++ ".<locals>.") f fd.code ∧ σ₂ = H.set L (.ns "frame" mm)) (fun _ _ => False) o1 (fun env σ₂ s₂ y q => ⟨σ₂, y, q⟩) fun e σ' s' y q => q.elim)) (fun env s₂ q => ?_) fun _ _ q => q.elim
  obtain ⟨q0, σ₂, y₂, L, hL, rfl, rfl⟩ := q
  refine ⟨y₂.good.lim, ?_⟩
  have o2 : Ok C (b + 1) A (H.set L (.ns "frame" mm)) s₂ := ⟨y₂.good, ⟨o.room.hd, by have := o.room.depth; omega, by have := o.room.units; omega, (o.room.next y₂.step).frames⟩, Nat.le_trans o.tk y₂.tk⟩
  refine WK.func_body (C := C.raise 1) (L := L) (m := mm) (Q := fun v _ => Q v) hk' rfl AH.set_self (W.mono (h L hL) (fun fl σ' q => ?_) fun _ _ x => x) A s₂ R (o2.raise (by omega)) (fun f' σ' s' y3 q3 => r f' σ' s' (y₂.trans y3.lower) q3)
  obtain ⟨m', H', rfl, hn', q⟩ := q
  exact q
end Mine
end
section
open PySem PySem.W PyProof.Rows Builtin
set_option Elab.async false
set_option maxRecDepth 100000
set_option autoImplicit false
set_option linter.unusedVariables false
namespace Mine
variable {C : Cx} {b : Nat} {σ : AH} {X : Value → AH → Prop} {env : Env}
/-- a list of the start -/
theorem Good.baseList {h : Heap} (g : Good C σ h) {S : Addr} {vs : Array Value} (hb : C.h₁.IsList S vs) : h.IsList S vs := by
  obtain ⟨o, ho, hc, n, hd⟩ := hb
  rcases (g.base _ _ ho).2 with x | ⟨c, ps, more, _, rfl, _, _⟩
  · exact ⟨o, x, hc, n, hd⟩
  · cases hc
theorem W.eSubBase {value slice : Expr} {pos : Pos} {S : Addr} {vs : Array Value} {Q : Value → AH → Prop} (hb : C.h₁.IsList S vs)
    (h : W C b (eval value env) σ (fun o σ₁ => W C b (eval slice env) σ₁ (fun i σ₂ => o = .ref S ∧ W C b (getItem o i) σ₂ Q X) X) X) : W C b (eval (.Subscript value slice pos) env) σ Q X := by
  rw [arm_eval_Subscript]
  refine W.bind_ (W.mono h (fun o σ₁ q => W.bind_ (W.hold (W.mono q (fun i σ₂ q => W.bind_ (W.standAt_ ?_)) fun _ _ x => x))) fun _ _ x => x)
  obtain ⟨rfl, q⟩ := q
  have gi : W C b (getitemInPython (.ref S)) σ₂ (fun r σ₃ => r = false ∧ σ₃ = σ₂) X := by
    intro A s P E o p x
    obtain ⟨id, hl⟩ := GI.list
    have hT : s.TypeIs (.ref S) "list" := let ⟨o', ho', hc', _⟩ := o.good.baseList hb; ⟨o', ho', hc'⟩
    rw [getitemInPython_of_ne hT.not_modules]
    exact wpAny_bind (wpAny_specialOf hT hl (wpAny_pure (p _ _ _ (.refl o.good) ⟨rfl, rfl⟩)))
  refine W.bind_ (W.mono gi (fun r σ₃ e => ?_) fun _ _ x => x)
  obtain ⟨rfl, rfl⟩ := e
  refine W.bind_ (W.mono (W.subscripted_ q) (fun r σ₃ q => W.bind_ ?_) fun _ _ x => x)
  exact fun A s P E k p x => wpAny_letTemporaryGo (p _ _ _ (.refl k.good) (W.pure_ q))
theorem W.pickBase {S sl : Addr} {xs : Array Value} {vl vu vs : Value} {lo hi st : Option Int} {Q : Value → AH → Prop} (hb : C.h₁.IsList S xs) (hs : σ sl = some (sliceO vl vu vs)) (pl : IsPart vl lo) (pu : IsPart vu hi) (ps : IsPart vs st) (h0 : st ≠ some 0)
    (h : ∀ a, σ a = none → Q (.ref a) (σ.set a (.lst (slicePick xs lo hi st).toList))) (hz : xs.size ≤ 10000) : W C b (getItem (.ref S) (.ref sl)) σ Q X := by
  intro A s P E o p x
  obtain ⟨_, e, q, _⟩ := o.good.at_ _ _ hs
  refine wpAny_getItem_list_slice (o.good.baseList hb) ⟨_, e, q⟩ pl pu ps h0 ?_ (by rw [sizeLine_eq]; omega)
  have z := After.add (t := s.toks) o.good (a := s.heap.objs.size) (o := .lst (slicePick xs lo hi st).toList) (fun b o' e => Heap.get?_push_of_some _ e) (Nat.le_refl _) ⟨0, by rw [Array.toArray_toList]; exact Heap.get?_push_size _ rfl⟩
  exact p _ _ _ z.1 (h _ z.2)
end Mine
end
section
open PySem PySem.W PyProof.Rows Builtin
set_option Elab.async false
set_option maxRecDepth 100000
set_option autoImplicit false
set_option linter.unusedVariables false
namespace Mine
variable {C : Cx} {b : Nat}
theorem Good.start : Good C (fun _ => none) C.h₁ := ⟨fun b o e => ⟨rfl, .inl e⟩, fun a o e => by cases e⟩
theorem Good.oldK {σ : AH} {h : Heap} (g : Good C σ h) : OldK C.h₁ h := by
  refine ⟨fun b o e => ?_, fun b o e => ?_⟩
  · rcases (g.base b o e).2 with x | ⟨c, ps, more, t, rfl, x, _⟩
    · exact .inl x
    · exact .inr (.inl ⟨t.isCodeTable, rfl, ps, more, rfl, x⟩)
  · rcases (g.base b o e).2 with x | ⟨c, ps, more, t, rfl, x, _⟩
    · exact ⟨_, x⟩
    · exact ⟨_, x⟩
/-- a law that gives True has ended well -/
theorem finish_true {f : Value} {vs : List Value} {s₁ : Shared}
    (hC : C.h₁ = s₁.heap) (hgens : s₁.gens = #[]) (hlo : C.lo ≤ s₁.toks) (hb : b ≤ 500) (h : WCall C b f vs [] (fun _ => none) (fun r _ => r = .bool true)) :
    wpAny (model C.prog C.w) callerA (PySem.call f vs) (fun v s' => v = .bool true ∧ OldK s₁.heap s'.heap ∧ s'.os = s₁.os ∧ AllBare s'.gens) (fun _ _ => False) s₁ := by
  refine wpAny_call (h callerA s₁ _ ⟨hC ▸ Good.start, ⟨rfl, by show 1 + claimMargin + b < 900; unfold claimMargin; omega, by show 4 + 16 * b < 9000; omega, ⟨[], rfl, fun _ q => by cases q⟩⟩, hlo⟩ fun fl σ' s' y q => ?_)
  obtain ⟨v, rfl, rfl⟩ := q
  refine ⟨rfl, ?_, y.ext.os, fun z hz => ?_⟩
  · have := y.good.oldK
    rwa [hC] at this
  · obtain ⟨i, hi, rfl⟩ := Array.mem_iff_getElem.mp hz
    have e := Array.getElem?_eq_getElem hi
    rcases y.ext.bare i _ e with h | h
    · rw [hgens] at h; simp at h
    · exact h
theorem intsAre_of {vs : List Value} {xs : List Int} (h : IntsAre vs xs) : vs.length = xs.length ∧ ∀ (i : Nat) (n : Int), xs[i]? = some n → ∃ t, vs[i]? = some (Value.int n t) := by
  induction h with
  | nil => exact ⟨rfl, fun i n e => by simp at e⟩
  | cons x t r ih =>
    refine ⟨by simp [ih.1], fun i n e => ?_⟩
    cases i with
    | zero => simp at e; subst e; exact ⟨_, rfl⟩
    | succ j => simpa using ih.2 j n (by simpa using e)
end Mine
end
section
open PySem PySem.W PyProof.Rows Builtin
set_option Elab.async false
set_option maxRecDepth 100000
set_option autoImplicit false
set_option linter.unusedVariables false
namespace Mine
variable {C : Cx} {b : Nat} {σ H : AH} {X : Value → AH → Prop} {env : Env}
theorem W.allocDict {Q : Addr → AH → Prop} (h : ∀ a, σ a = none → Q a (σ.set a (.dct [] 0))) : W C b (alloc { cls := .type "dict", data := .dict #[] }) σ Q X := by
  intro A s P E o p _
  refine wpAny_alloc ?_
  have hg : (s.heap.push { cls := .type "dict", data := .dict #[] }).get? s.heap.objs.size = some { cls := .type "dict", data := .dict #[] } := Heap.get?_push_size _ rfl
  obtain ⟨o', es, ep, e1, e2, e3, r⟩ := Heap.DictOf.new (knd := strKind C.prog C.w) s.heap
  have z := After.add (t := s.toks) o.good (a := s.heap.objs.size) (o := .dct [] 0) (fun b o' e => Heap.get?_push_of_some _ e) (Nat.le_refl _) ⟨⟨o', es, e1, e2, by rw [hg] at e1; cases e1; cases e3; rfl, r⟩, o.good.over (Nat.le_refl _)⟩
  exact p _ _ _ z.1 (h _ z.2)
/-- {k1: v1, k2: v2} -/
theorem W.eDict2 {k1 k2 v1 v2 : Expr} {pos : Pos} {Q : Value → AH → Prop} (h : ∀ D, σ D = none → W C b (eval k1 env) (σ.set D (.dct [] 0)) (fun kv1 σ₁ => W C b (eval v1 env) σ₁ (fun vv1 σ₂ => W C b (eval k2 env) σ₂ (fun kv2 σ₃ => W C b (eval v2 env) σ₃ (fun vv2 σ₄ =>
      ∃ x1 t1 x2 t2, kv1 = .str x1 t1 ∧ kv2 = .str x2 t2 ∧ σ₄ D = some (.dct [] 0) ∧ ∀ ep, Q (.ref D) (σ₄.set D (.dct (stored (stored [] x1 vv1) x2 vv2) ep))) X) X) X) X) : W C b (eval (.Dict [some k1, some k2] [v1, v2] pos) env) σ Q X := by
  rw [arm_eval_Dict]
  have e : (evalEachOpt [some k1, some k2] env).zip ((evalEach [v1, v2] env).map fun v => do let x ← v; standAt pos; pure x) = [(eval k1 env, do let x ← eval v1 env; standAt pos; pure x), (eval k2 env, do let x ← eval v2 env; standAt pos; pure x)].map fun p => (some p.1, p.2) := rfl
  rw [e, dictDisplay_pairs _ (by simp) (by simp)]
  refine W.bind_ (W.standAt_ (W.bind_ ?_))
  unfold subDict
  refine W.bind_ (W.allocDict fun D hD => W.bind_ (W.hold ?_))
  rw [if_pos (by simp)]
  unfold evalPairs evalPairs evalPairs
  refine W.bind_ (W.bind_ (W.mono (h D hD) (fun kv1 σ₁ q => ?_) fun _ _ x => x))
  refine W.bind_ (W.hold (W.bind_ (W.mono q (fun vv1 σ₂ q => ?_) fun _ _ x => x)))
  refine W.bind_ (W.standAt_ (W.pure_ (W.bind_ (W.hold (W.bind_ (W.mono q (fun kv2 σ₃ q => ?_) fun _ _ x => x))))))
  refine W.bind_ (W.hold (W.bind_ (W.mono q (fun vv2 σ₄ q => ?_) fun _ _ x => x)))
  refine W.bind_ (W.standAt_ (W.pure_ (W.bind_ (W.hold (W.pure_ (W.pure_ (W.pure_ ?_)))))))
  obtain ⟨x1, t1, x2, t2, rfl, rfl, hD4, q⟩ := q
  refine W.hold ?_
  rw [List.forIn_cons]
  refine W.bind_ (W.bind_ ?_)
  dsimp only
  refine W.bind_ (W.dictSet_ hD4 (by simp) fun ep => W.pure_ ?_)
  dsimp only
  rw [List.forIn_cons]
  refine W.bind_ ?_
  dsimp only
  refine W.bind_ (W.dictSet_ AH.set_self (by simp [stored]) fun ep' => W.pure_ ?_)
  dsimp only
  rw [List.forIn_nil, AH.set_set]
  exact W.pure_ (W.pure_ (W.pure_ (W.pure_ (q ep'))))
end Mine
end
section
open PySem PySem.W PyProof.Rows Builtin
set_option Elab.async false
set_option maxRecDepth 100000
set_option autoImplicit false
set_option linter.unusedVariables false
namespace Mine
variable {C : Cx} {b : Nat} {σ H : AH} {X : Value → AH → Prop} {env : Env}
/-- {} -/
theorem W.eDict0 {pos : Pos} {Q : Value → AH → Prop} (h : ∀ D, σ D = none → Q (.ref D) (σ.set D (.dct [] 0))) : W C b (eval (.Dict [] [] pos) env) σ Q X := by
  rw [arm_eval_Dict]
  have e : (evalEachOpt [] env).zip ((evalEach [] env).map fun v => do let x ← v; standAt pos; pure x) = [] := rfl
  rw [e]
  unfold dictDisplay
  refine W.bind_ (W.standAt_ (W.bind_ ?_))
  dsimp only
  rw [List.forIn_nil]
  refine W.pure_ (W.bind_ ?_)
  dsimp only [List.isEmpty_nil]
  rw [if_pos rfl]
  refine W.pure_ ?_
  dsimp only
  exact W.newDict_ h
/-- y = {kx: vx for target in iter if ..} -/
theorem W.sAssignDict {kx vx target iter : Expr} {ifs : List Expr} {scope : Scope} {pos spos ypos : Pos} {y : Str} {cs : List (Str × Addr)} {Q : Flow → AH → Prop} (hsw : swapsWith (.DictComp kx vx [⟨target, iter, ifs, 0⟩] scope pos) (some (.Name y ypos)) spos.line env = pure true)
    (hs : ∀ x, foldedSetIterable iter env x = pure x) (hclos : closureFor scope env = pure cs) (hkind : scope.kind = .function)
    (hnames : ∀ x ∈ scope.names, x.2 = .local → scope.names.lookup x.1 = some .local) (hcell : cellNames scope.names = []) (hy : env.kindOf y = some .local) (hp : (env.scope.kind == .class || (env.scope.kind == .module && env.locals != env.globals)) = false)
    (h : W C b (eval iter env) σ (fun x σ₁ => ∃ H₁ cl₁ m₁, σ₁ = AH.set H₁ env.locals (.ns cl₁ m₁) ∧ H₁ env.locals = none ∧ W C b (pyIter x) H₁ (DCompAt C b kx vx target ifs scope cs env (fun v H' => H' env.locals = none → Q .next (H'.set env.locals (.ns cl₁ ((y, v) :: m₁))))) noX) noX) :
    W C b (exec (.Assign [.Name y ypos] (.DictComp kx vx [⟨target, iter, ifs, 0⟩] scope pos) spos) env) σ Q X := by
  rw [exec_Assign_Name_used _ _ _ _ hsw]
  refine W.bind_ (W.standAt_ (W.bind_ ?_))
  show W C b (do let _ ← comprehension (.DictComp kx vx [⟨target, iter, ifs, 0⟩] scope pos) scope env (firstIterPos [⟨target, iter, ifs, 0⟩] pos) newDict (firstAsync [⟨target, iter, ifs, 0⟩]) (firstIter [⟨target, iter, ifs, 0⟩] env) (some (assign (.Name y ypos) env))) σ _ X
  refine W.bind_ (W.mono (Q := fun _ σ' => Q .next σ') ?_ (fun _ σ' q => W.pure_ (W.pure_ q)) fun _ _ x => x)
  refine W.comp_ (e := .DictComp kx vx [⟨target, iter, ifs, 0⟩] scope pos) (g := ⟨target, iter, ifs, 0⟩) (gs := []) rfl hs hclos hkind hnames hcell (W.mono h (fun x σ₁ q => ?_) fun _ _ x => x)
  obtain ⟨H₁, cl₁, m₁, rfl, hL, q⟩ := q
  refine W.op hL (W.mono q (fun it H₂ q hL2 => ?_) fun _ _ x => x) trivial
  refine W.op hL2 (W.newDict_ fun D hD hL3 => ?_) trivial
  intro L' hL'
  have h1 : L' ≠ env.locals := AH.none_ne hL'
  have h2 : (H₂.set D (.dct [] 0)) L' = none := AH.none_in hL'
  rw [AH.set_comm (Ne.symm h1)]
  refine WK.frame' (by rw [AH.set_ne (Ne.symm h1)]; exact hL3) trivial (WK.mono (q.run hD h2) (fun _ σ₄ q n => ?_))
  obtain ⟨H₄, m', rfl, n2, q⟩ := q
  refine W.aName (W.lStore (hl := rfl) (hx := hy) (hp := hp) ?_)
  rw [AH.set_comm h1, AH.drop_set (by rw [AH.set_ne h1]; exact n2)]
  exact q (AH.none_in n)
/-- what is put away under names -/
structure KV (ok : Str → Prop) (R : Value → Prop) (kvs : List (Str × Value)) : Prop where
  nodup : (kvs.map (·.1)).Nodup
  each : ∀ p ∈ kvs, ok p.1 ∧ R p.2
theorem KV.nil {ok : Str → Prop} {R : Value → Prop} : KV ok R [] := ⟨List.nodup_nil, by simp⟩
theorem KV.mono {ok : Str → Prop} {R R' : Value → Prop} {kvs : List (Str × Value)} (h : KV ok R kvs) (k : ∀ v, R v → R' v) : KV ok R' kvs := ⟨h.nodup, fun p hp => ⟨(h.each p hp).1, k _ (h.each p hp).2⟩⟩
theorem KV.stored {ok : Str → Prop} {R : Value → Prop} {kvs : List (Str × Value)} {k : Str} {v : Value} (h : KV ok R kvs) (hk : ok k) (hv : R v) : KV ok R (stored kvs k v) ∧ (stored kvs k v).length ≤ kvs.length + 1 := by
  unfold PySem.stored
  by_cases c : (kvs.any fun kv => decide (kv.fst = k)) = true
  · rw [if_pos c]
    refine ⟨⟨?_, fun p hp => ?_⟩, by simp⟩
    · rw [List.map_map]
      have : ((fun x : Str × Value => x.1) ∘ fun kv : Str × Value => if kv.fst = k then (kv.fst, v) else kv) = (fun x : Str × Value => x.1) := by
        funext kv
        simp only [Function.comp]
        split <;> rfl
      rw [this]; exact h.nodup
    · obtain ⟨q, hq, e⟩ := List.mem_map.mp hp
      split at e
      · subst e; exact ⟨(h.each q hq).1, hv⟩
      · subst e; exact h.each q hq
  · rw [if_neg c]
    refine ⟨⟨?_, fun p hp => ?_⟩, by simp⟩
    · rw [List.map_append, List.nodup_append]
      refine ⟨h.nodup, by simp, fun x hx y hy e => c ?_⟩
      simp at hy
      subst hy e
      obtain ⟨q, hq, e⟩ := List.mem_map.mp hx
      exact List.any_eq_true.mpr ⟨q, hq, by simpa using e⟩
    · rcases List.mem_append.mp hp with q | q
      · exact h.each p q
      · simp at q; subst q; exact ⟨hk, hv⟩
/-- all keys are so -/
def Doc.named (ok : Str → Prop) : Doc → Prop
  | .row n kid => n ≤ 2 ∧ ∀ i, i < n → (kid i).named ok
  | .fld n key kid => ∀ i, i < n → ok (key i) ∧ (kid i).named ok
  | _ => True
theorem KV.doc {ok : Str → Prop} {m : Nat} {D : Addr} {ep : Nat} {kvs : List (Str × Value)} (hD : σ D = some (.dct kvs ep)) (h : KV ok (fun v => ∃ d, DocAt σ v d ∧ Fit m d ∧ d.named ok) kvs) (hz : kvs.length ≤ 3) : ∃ d, DocAt σ (.ref D) d ∧ Fit (m + 1) d ∧ d.named ok := by
  have hx : ∀ i, ∃ d, ∀ (hi : i < kvs.length), DocAt σ kvs[i].2 d ∧ Fit m d ∧ d.named ok := by
    intro i
    by_cases hi : i < kvs.length
    · obtain ⟨d, hd⟩ := (h.each _ (List.getElem_mem hi)).2
      exact ⟨d, fun _ => hd⟩
    · exact ⟨.nil, fun h => absurd h hi⟩
  have hc : ∃ kid : Nat → Doc, ∀ i (hi : i < kvs.length), DocAt σ kvs[i].2 (kid i) ∧ Fit m (kid i) ∧ (kid i).named ok := ⟨fun i => (hx i).choose, fun i => (hx i).choose_spec⟩
  obtain ⟨kid, hkid⟩ := hc
  refine ⟨.fld kvs.length (fun i => ((kvs[i]?).getD (Str.empty, .none)).1) kid, .fld hD rfl (fun i k v e => by rw [e]; rfl) (fun i k v e => ?_), .fld hz (fun i j hi hj e => ?_) (fun i hi => (hkid i hi).2.1), fun i hi => ⟨?_, (hkid i hi).2.2⟩⟩
  · have hi := (List.getElem?_eq_some_iff.mp e).1
    have := (hkid i hi).1
    rw [(List.getElem?_eq_some_iff.mp e).2] at this
    exact this
  · rw [List.getElem?_eq_getElem hi, List.getElem?_eq_getElem hj] at e
    simp only [Option.getD_some] at e
    have hp := List.pairwise_iff_getElem.mp h.nodup
    rcases Nat.lt_trichotomy i j with q | q | q
    · exact absurd (by rw [List.getElem_map, List.getElem_map]; exact e) (hp i j (by simpa using hi) (by simpa using hj) q)
    · exact q
    · exact absurd (by rw [List.getElem_map, List.getElem_map]; exact e.symm) (hp j i (by simpa using hj) (by simpa using hi) q)
  · show ok ((kvs[i]?).getD (Str.empty, .none)).1
    rw [List.getElem?_eq_getElem hi]; exact (h.each _ (List.getElem_mem hi)).1
theorem AH.drop_back {a : Addr} {o : AO} (h : σ a = some o) : (σ.drop a).set a o = σ := by
  funext c
  by_cases e : c = a
  · subst e; rw [AH.set_self, h]
  · rw [AH.set_ne e, AH.drop_ne e]
/-- two things that change beside the rest -/
def N2 (K : AH) (a c : Addr) (o p : AO) : AH := (K.set c p).set a o
structure Two (K : AH) (a c : Addr) : Prop where
  n1 : K a = none
  n2 : K c = none
  d : a ≠ c
section
variable {K : AH} {a c : Addr} {o p : AO}
theorem N2.comm (h : Two K a c) : N2 K a c o p = (K.set a o).set c p := AH.set_comm h.d.symm
theorem N2.at1 : N2 K a c o p a = some o := AH.set_self
theorem N2.at2 (h : Two K a c) : N2 K a c o p c = some p := by unfold N2; rw [AH.set_ne h.d.symm, AH.set_self]
theorem N2.in1 (h : Two K a c) : (K.set c p) a = none := by rw [AH.set_ne h.d]; exact h.n1
theorem N2.sub (h : Two K a c) : Sub K (N2 K a c o p) := fun x y e => by
  unfold N2
  rw [AH.set_ne (fun q => by rw [q, h.n1] at e; cases e), AH.set_ne (fun q => by rw [q, h.n2] at e; cases e)]; exact e
theorem N2.none {x : Addr} (h : N2 K a c o p x = none) : K x = Option.none ∧ x ≠ a ∧ x ≠ c := by
  unfold N2 at h
  exact ⟨AH.none_in (AH.none_in h), AH.none_ne h, AH.none_ne (AH.none_in h)⟩
theorem N2.isNone {x : Addr} (h : K x = Option.none) (h1 : x ≠ a) (h2 : x ≠ c) : N2 K a c o p x = Option.none := by
  unfold N2; rw [AH.set_ne h1, AH.set_ne h2]; exact h
theorem N2.new {x : Addr} {y : AO} (h : N2 K a c o p x = Option.none) : (N2 K a c o p).set x y = N2 (K.set x y) a c o p := by
  obtain ⟨_, h1, h2⟩ := N2.none h
  unfold N2
  rw [AH.set_comm h1.symm, AH.set_comm h2.symm]
theorem Two.new {x : Addr} {y : AO} (h : Two K a c) (hx : N2 K a c o p x = none) : Two (K.set x y) a c := by
  obtain ⟨_, h1, h2⟩ := N2.none hx
  exact ⟨by rw [AH.set_ne h1.symm]; exact h.n1, by rw [AH.set_ne h2.symm]; exact h.n2, h.d⟩
theorem N2.upd2 {p' : AO} (h : Two K a c) : (N2 K a c o p).set c p' = N2 K a c o p' := by
  unfold N2; rw [AH.set_comm h.d, AH.set_set]
end
end Mine
end
section
open PySem PySem.W PyProof.Rows Builtin
set_option Elab.async false
set_option maxRecDepth 100000
set_option autoImplicit false
set_option linter.unusedVariables false
namespace Mine
variable {C : Cx} {σ σ' H : AH}
/-- a list without the places that r tells -/
def thinFrom {α : Type} (r : Nat → Bool) : Nat → List α → List α
  | _, [] => []
  | k, x :: xs => if r k then thinFrom r (k + 1) xs else x :: thinFrom r (k + 1) xs
def thin {α : Type} (r : Nat → Bool) (l : List α) : List α := thinFrom r 0 l
/-- the places that stay -/
def stay (r : Nat → Bool) (n : Nat) : List Nat := (List.range n).filter fun j => !r j
theorem thinFrom_append {α : Type} {r : Nat → Bool} {xs ys : List α} {k : Nat} : thinFrom r k (xs ++ ys) = thinFrom r k xs ++ thinFrom r (k + xs.length) ys := by
  induction xs generalizing k with
  | nil => simp [thinFrom]
  | cons x xs ih =>
    have e : k + (x :: xs).length = k + 1 + xs.length := by simp; omega
    by_cases h : r k
    · simp only [List.cons_append, thinFrom, h, if_true]; rw [ih, e]
    · simp only [List.cons_append, thinFrom, h]; rw [ih, e]; rfl
theorem thin_snoc {α : Type} {r : Nat → Bool} {xs : List α} {x : α} : thin r (xs ++ [x]) = if r xs.length then thin r xs else thin r xs ++ [x] := by
  unfold thin
  rw [thinFrom_append]
  by_cases h : r xs.length <;> simp [thinFrom, h]
theorem stay_succ {r : Nat → Bool} {n : Nat} : stay r (n + 1) = if r n then stay r n else stay r n ++ [n] := by
  unfold stay
  rw [List.range_succ, List.filter_append]
  by_cases h : r n <;> simp [h]
theorem thin_stay {α : Type} {r : Nat → Bool} {l : List α} : (thin r l).length = (stay r l.length).length ∧ ∀ i k : Nat, (stay r l.length)[i]? = some k → (thin r l)[i]? = l[k]? := by
  have key : ∀ (n : Nat), n ≤ l.length → (thin r (l.take n)).length = (stay r n).length ∧ ∀ i k : Nat, (stay r n)[i]? = some k → (thin r (l.take n))[i]? = l[k]? := by
    intro n
    induction n with
    | zero => intro _; exact ⟨by simp [thin, thinFrom, stay], fun i k e => by simp [stay] at e⟩
    | succ n ih =>
      intro hn
      obtain ⟨h1, h2⟩ := ih (by omega)
      have hl : n < l.length := by omega
      have e1 : l.take (n + 1) = l.take n ++ [l[n]] := by rw [List.take_add_one, List.getElem?_eq_getElem hl]; rfl
      rw [e1, thin_snoc, stay_succ]
      have e2 : (l.take n).length = n := by simp; omega
      rw [e2]
      by_cases h : r n
      · simp only [h, if_true]; exact ⟨h1, h2⟩
      · simp only [h, Bool.false_eq_true, if_false]
        refine ⟨by simp [h1], fun i k e => ?_⟩
        rcases Nat.lt_or_ge i (stay r n).length with hi | hi
        · rw [List.getElem?_append_left hi] at e
          rw [List.getElem?_append_left (by omega)]
          exact h2 i k e
        · rw [List.getElem?_append_right hi] at e
          rw [List.getElem?_append_right (by omega), h1]
          have : i - (stay r n).length = 0 := by
            rcases Nat.eq_zero_or_pos (i - (stay r n).length) with q | q
            · exact q
            · rw [List.getElem?_eq_none (by simp; omega)] at e; cases e
          rw [this] at e ⊢
          simp at e; subst e
          simp [List.getElem?_eq_getElem hl]
  have := key l.length (Nat.le_refl _)
  rwa [List.take_length] at this
theorem stay_lt {r : Nat → Bool} {n i k : Nat} (h : (stay r n)[i]? = some k) : k < n ∧ r k = false := by
  have := List.mem_of_getElem? h
  unfold stay at this
  rw [List.mem_filter] at this
  exact ⟨List.mem_range.mp this.1, by simpa using this.2⟩
theorem stay_inj {r : Nat → Bool} {n i j k : Nat} (h1 : (stay r n)[i]? = some k) (h2 : (stay r n)[j]? = some k) : i = j := by
  have hn : (stay r n).Pairwise (· ≠ ·) := List.Pairwise.filter _ List.nodup_range
  obtain ⟨a1, a2⟩ := List.getElem?_eq_some_iff.mp h1
  obtain ⟨b1, b2⟩ := List.getElem?_eq_some_iff.mp h2
  have := List.pairwise_iff_getElem.mp hn
  rcases Nat.lt_trichotomy i j with q | q | q
  · exact absurd (a2.trans b2.symm) (this i j a1 b1 q)
  · exact q
  · exact absurd (b2.trans a2.symm) (this j i b1 a1 q)
theorem stay_all {n : Nat} : stay (fun _ => false) n = List.range n := by
  unfold stay; simp
theorem stay_len {r : Nat → Bool} {n : Nat} : (stay r n).length ≤ n := by
  unfold stay; exact Nat.le_trans (List.length_filter_le _ _) (by simp)

/-- a document without the places that P tells -/
def Doc.cut : Doc → (List Nat → Bool) → Doc
  | .row n kid, P => .row (stay (fun j => P [j]) n).length fun i => (kid ((stay (fun j => P [j]) n).getD i 0)).cut fun ps => P ((stay (fun j => P [j]) n).getD i 0 :: ps)
  | .fld n key kid, P => .fld (stay (fun j => P [j]) n).length (fun i => key ((stay (fun j => P [j]) n).getD i 0)) fun i => (kid ((stay (fun j => P [j]) n).getD i 0)).cut fun ps => P ((stay (fun j => P [j]) n).getD i 0 :: ps)
  | d, _ => d
theorem getD_of {l : List Nat} {i k : Nat} (h : l[i]? = some k) : l.getD i 0 = k := by rw [List.getD_eq_getElem?_getD, h]; rfl
/-- an object without these places -/
def Thinned (o : AO) (x : Option AO) (r : Nat → Bool) : Prop :=
  (∃ vs, o = .lst vs ∧ x = some (.lst (thin r vs))) ∨ (∃ kvs ep ep', o = .dct kvs ep ∧ x = some (.dct (thin r kvs) ep'))
/-- nothing on the way is taken out -/
def Alive (P : List Nat → Bool) (ps : List Nat) : Prop := ∀ qs rs, ps = qs ++ rs → qs ≠ [] → P qs = false
theorem Alive.nil {P : List Nat → Bool} : Alive P [] := fun qs rs e h => by
  cases qs with
  | nil => exact absurd rfl h
  | cons q qs => cases e
theorem Alive.cons {P : List Nat → Bool} {j : Nat} {ps : List Nat} (h1 : P [j] = false) (h2 : Alive (fun qs => P (j :: qs)) ps) : Alive P (j :: ps) := by
  intro qs rs e h
  cases qs with
  | nil => exact absurd rfl h
  | cons q qs =>
    simp at e
    obtain ⟨rfl, e⟩ := e
    cases qs with
    | nil => exact h1
    | cons q qs => exact h2 _ rs e (by simp)
/-- the heap after all is taken out shows the document without it -/
theorem cut_of {u : Value} {d : Doc} (hd : DocAt σ u d) : ∀ (P : List Nat → Bool), (∀ ps a o, AtPl σ u ps (.ref a) → σ a = some o → Alive P ps → Thinned o (σ' a) (fun j => P (ps ++ [j]))) → DocAt σ' u (d.cut P) := by
  induction hd with
  | num => intro P h; exact .num
  | txt => intro P h; exact .txt
  | tru => intro P h; exact .tru
  | nil => intro P h; exact .nil
  | @row l vs n kid h1 h2 h3 ih =>
    intro P h
    have ht := h [] l _ .here h1 .nil
    rcases ht with ⟨vs', e, ht⟩ | ⟨_, _, _, e, _⟩
    · cases e
      change σ' l = some (.lst (thin (fun j => P [j]) vs)) at ht
      obtain ⟨t1, t2⟩ := thin_stay (r := fun j => P [j]) (l := vs)
      rw [h2] at t1 t2
      refine .row ht t1 fun i v e => ?_
      have hi : i < (stay (fun j => P [j]) n).length := by rw [← t1]; exact (List.getElem?_eq_some_iff.mp e).1
      have es := List.getElem?_eq_getElem hi
      generalize (stay (fun j => P [j]) n)[i] = k at es
      have ek := t2 i k es
      rw [e] at ek
      rw [getD_of es]
      refine ih k v ek.symm _ fun ps a o ha ho hal => ?_
      exact h (k :: ps) a o (.row h1 ek.symm ha) ho (.cons (stay_lt es).2 hal)
    · cases e
  | @fld l kvs ep n key kid h1 h2 h3 h4 ih =>
    intro P h
    have ht := h [] l _ .here h1 .nil
    rcases ht with ⟨_, e, _⟩ | ⟨kvs', ep1, ep2, e, ht⟩
    · cases e
    · cases e
      change σ' l = some (.dct (thin (fun j => P [j]) kvs) ep2) at ht
      obtain ⟨t1, t2⟩ := thin_stay (r := fun j => P [j]) (l := kvs)
      rw [h2] at t1 t2
      have key' : ∀ (i : Nat) k v, (thin (fun j => P [j]) kvs)[i]? = some (k, v) → ∃ j, (stay (fun j => P [j]) n)[i]? = some j ∧ kvs[j]? = some (k, v) := by
        intro i k v e
        have hi : i < (stay (fun j => P [j]) n).length := by rw [← t1]; exact (List.getElem?_eq_some_iff.mp e).1
        have es := List.getElem?_eq_getElem hi
        exact ⟨_, es, by rw [← t2 i _ es]; exact e⟩
      refine .fld ht t1 (fun i k v e => ?_) fun i k v e => ?_
      · obtain ⟨j, es, ej⟩ := key' i k v e
        rw [getD_of es]; exact h3 _ _ _ ej
      · obtain ⟨j, es, ej⟩ := key' i k v e
        rw [getD_of es]
        refine ih j k v ej _ fun ps a o ha ho hal => ?_
        exact h (j :: ps) a o (.fld h1 ej ha) ho (.cons (stay_lt es).2 hal)
theorem thin_none {α : Type} {l : List α} : thin (fun _ => false) l = l := by
  unfold thin
  have : ∀ k, thinFrom (fun _ => false) k l = l := by
    induction l with
    | nil => intro k; rfl
    | cons x xs ih => intro k; simp [thinFrom, ih]
  exact this 0
theorem thinFrom_congr {α : Type} {r r' : Nat → Bool} {l : List α} {k : Nat} (h : ∀ j, k ≤ j → j < k + l.length → r j = r' j) : thinFrom r k l = thinFrom r' k l := by
  induction l generalizing k with
  | nil => rfl
  | cons x xs ih =>
    unfold thinFrom
    rw [h k (Nat.le_refl _) (by simp), ih fun j h1 h2 => h j (by omega) (by simp; omega)]
theorem thin_congr {α : Type} {r r' : Nat → Bool} {l : List α} (h : ∀ j, j < l.length → r j = r' j) : thin r l = thin r' l := thinFrom_congr fun j _ h2 => h j (by omega)
theorem Fit.cut {m : Nat} {d : Doc} (h : Fit m d) : ∀ P, Fit m (d.cut P) := by
  induction h with
  | num => intro P; exact .num
  | txt => intro P; exact .txt
  | tru => intro P; exact .tru
  | nil => intro P; exact .nil
  | @row m n kid h1 h2 ih =>
    intro P
    refine .row (Nat.le_trans stay_len h1) fun i hi => ?_
    have es := List.getElem?_eq_getElem hi
    rw [getD_of es]
    exact ih _ (stay_lt es).1 _
  | @fld m n key kid h1 h2 h3 ih =>
    intro P
    refine .fld (Nat.le_trans stay_len h1) (fun i j hi hj e => ?_) fun i hi => ?_
    · have es := List.getElem?_eq_getElem hi
      have ej := List.getElem?_eq_getElem hj
      rw [getD_of es, getD_of ej] at e
      have := h2 _ _ (stay_lt es).1 (stay_lt ej).1 e
      rw [this] at es
      exact stay_inj es ej
    · have es := List.getElem?_eq_getElem hi
      rw [getD_of es]
      exact ih _ (stay_lt es).1 _
/-- nothing taken out -/
theorem uncut {v : Value} {d : Doc} : ∀ {σ : AH}, DocAt σ v (d.cut fun _ => false) → DocAt σ v d := by
  induction d generalizing v with
  | num i => intro σ h; exact h
  | txt i => intro σ h; exact h
  | tru => intro σ h; exact h
  | nil => intro σ h; exact h
  | row n kid ih =>
    intro σ h
    unfold Doc.cut at h
    rw [stay_all] at h
    cases h with
    | row h1 h2 h3 =>
      rw [List.length_range] at h2
      refine .row h1 h2 fun i v e => ih i ?_
      have hi : i < n := by rw [← h2]; exact (List.getElem?_eq_some_iff.mp e).1
      have := h3 i v e
      dsimp only at this
      rwa [getD_of (List.getElem?_range hi)] at this
  | fld n key kid ih =>
    intro σ h
    unfold Doc.cut at h
    rw [stay_all] at h
    cases h with
    | fld h1 h2 h3 h4 =>
      rw [List.length_range] at h2
      have lt : ∀ (i : Nat) k v, _ → i < n := fun i k v (e : _ = some (k, v)) => by rw [← h2]; exact (List.getElem?_eq_some_iff.mp e).1
      refine .fld h1 h2 (fun i k v e => ?_) fun i k v e => ih i ?_
      · have := h3 i k v e
        dsimp only at this
        rwa [getD_of (List.getElem?_range (lt i k v e))] at this
      · have := h4 i k v e
        dsimp only at this
        rwa [getD_of (List.getElem?_range (lt i k v e))] at this
end Mine
end
section
open PySem PySem.W PyProof.Rows Builtin
set_option Elab.async false
set_option maxRecDepth 100000
set_option autoImplicit false
set_option linter.unusedVariables false
namespace Mine
section
set_option maxHeartbeats 2000000
def boundGet (a : Addr) : Obj := { cls := .type "builtin_function_or_method", data := .fields #[.builtin "dict.get", .ref a] }
theorem slot_mdget : Slot "method_descriptor" "__get__" "method_descriptor.__get__" :=
  .of (owner := "method_descriptor") (n := "__get__") (by rw [typeLookup_type, builtinLookup_eq_fast]; kernel_rfl) (by decide +kernel) (by decide +kernel) (by decide +kernel)
    (by first | exact .inl (by decide +kernel) | exact .inr (by decide +kernel)) (by rw [isSubtype_type]; kernel_rfl)
theorem entry_mdget : entryFor table "method_descriptor.__get__" = some Builtin.«method_descriptor.__get__» := entryFor_of_tree (by kernel_rfl)
theorem args_mdget (a b c : Value) : argsOk "method_descriptor.__get__" ⟨[a, b, c], []⟩ := by unfold argsOk; kernel_rfl
theorem type_dget : typeOf (.builtin "dict.get") = pure (.type "method_descriptor") := by show builtinType _ = _; rw [builtinType_eq_fast]; kernel_rfl
theorem owner_dget : (kfb_private% "ownerAndName") "dict.get" = ("dict", "get") := by first | decide +kernel | kernel_rfl
theorem run_mdget {M : Model} {A : Around} {E : Value → Shared → Prop} {s : Shared} {a : Addr} {P : Fin → Shared → Prop} (hT : s.TypeIs (.ref a) "dict") (h : P (.done (.ret (.ref s.heap.objs.size))) { s with heap := s.heap.push (boundGet a) }) :
    wpAny M A (Builtin.«method_descriptor.__get__» ⟨[.builtin "dict.get", .ref a, .type "dict"], []⟩) P E s := by
  unfold Builtin.«method_descriptor.__get__»
  refine wpAny_bind (wpAny_of_eq (a := (.builtin "dict.get", some (.ref a), some (.type "dict"))) (by first | rfl | kernel_rfl) ?_)
  dsimp only
  rw [if_neg (show ¬ (Manifest.toldItsClass.contains "dict.get") = true by decide +kernel)]
  repeat (any_goals (first | assumption | exact hT | wp_step))
  rw [show ".".intercalate ("dict.get".cutAt '.').dropLast = "dict" by decide +kernel]
  refine wpAny_of_eq (a := true) F.sub_dict_dict ?_
  rw [if_neg (by decide)]
  refine wpAny_pure (wpAny_bind ?_)
  unfold newFields
  exact wpAny_newObj_type (wpAny_pure h)
theorem hasattr_get {prog : Program} {w : World} {A : Around} {E : Value → Shared → Prop} {s : Shared} {a : Addr} {es : Array DictEntry} {k : Nat} {sl : Array (Option Value)} {u : Tok} {Q : Fin → Shared → Prop}
    (hx : s.heap.get? a = some { cls := .type "dict", dict := none, data := .dict es k, slots := sl })
    (h : Q (.done (.ret (.bool true))) { s with heap := s.heap.push (boundGet a) }) : wpAny (model prog w) A (Builtin.«hasattr» ⟨[.ref a, .str (Str.ofString "get") u], []⟩) Q E s := by
  obtain ⟨hp, g, d, tk, os⟩ := s
  have hT : ∀ tk', (⟨hp, g, d, tk', os⟩ : Shared).TypeIs (.ref a) "dict" := fun _ => ⟨_, hx, rfl⟩
  have hT0 := hT tk
  have f3 := F.slot_dict_getattribute.lookup
  have f4 := F.slot_dict_getattribute.bind (.ref a)
  have f5 := F.slot_dict_get.lookup
  have f6 : isSubtype (.type "dict") (.type "module") = pure false := by rw [isSubtype_type]; kernel_rfl
  have f7 : typeLookup (.type "method_descriptor") (Str.ofString "__get__") = pure (some (.builtin "method_descriptor.__get__")) := slot_mdget.lookup
  have f8 : typeLookup (.type "method_descriptor") (Str.ofString "__set__") = pure none := by rw [typeLookup_type, builtinLookup_eq_fast]; kernel_rfl
  have f9 : typeLookup (.type "method_descriptor") (Str.ofString "__delete__") = pure none := by rw [typeLookup_type, builtinLookup_eq_fast]; kernel_rfl
  have fk : builtinKind "dict.get" = some Manifest.AttrKind.method := by kernel_rfl
  unfold Builtin.«hasattr»
  repeat (any_goals (first | assumption | exact hT _ | wp_step))
  show codeAny _ _ (.call (.builtin "dict.__getattribute__") ⟨[.ref a, .str (Str.ofString "get") u], []⟩) _ _
  refine codeAny_call_builtin F.slot_dict_getattribute.plain am_entry_dict_getattribute (F.slot_dict_getattribute.check _ _ _ _ _ _ _ _ (hT _) (F.args_dict_getattribute_2 _ _) ?_)
  unfold Builtin.«object.__getattribute__»
  repeat (any_goals (first | assumption | exact hT _ | wp_step))
  rw [fk]
  dsimp only
  repeat (any_goals (first | assumption | exact hT _ | wp_step))
  rw [fk]
  dsimp only
  repeat (any_goals (first | assumption | exact hT _ | wp_step))
  rw [fk]
  dsimp only
  repeat (any_goals (first | assumption | exact hT _ | wp_step))
  refine codeAny_call_builtin slot_mdget.plain entry_mdget (slot_mdget.check _ _ _ _ _ _ _ _ type_dget (args_mdget _ _ _) (run_mdget hT0 ?_))
  show wpAny _ _ (ret _) _ _ _
  refine wpAny_pure ?_
  show wpAny _ _ (handedOut _) _ _ _
  unfold handedOut
  repeat (any_goals (first | assumption | wp_step))
end
end Mine
end
section
open PySem PySem.W PyProof.Rows Builtin
set_option Elab.async false
set_option maxRecDepth 100000
set_option autoImplicit false
set_option linter.unusedVariables false
namespace Mine
variable {C : Cx} {b : Nat} {σ H : AH} {X : Value → AH → Prop}
/-! taking out of a list and of a dict -/
theorem W.delList {l : Addr} {vs : List Value} {k : Int} {t : Tok} {Q : Unit → AH → Prop} (hl : σ l = some (.lst vs)) (h0 : 0 ≤ k) (hn : k < vs.length) (hz : vs.length ≤ 10000) (h : Q () (σ.set l (.lst (vs.eraseIdx k.toNat)))) : W C b (delItem (.ref l) (.int k t)) σ Q X := by
  intro A s P E o p _
  obtain ⟨ne, ho⟩ := o.good.at_ _ _ hl
  have hidx : seqIndex? k vs.toArray.size = some k.toNat := by
    unfold seqIndex?
    simp only [List.size_toArray]
    have e : (if k < 0 then k + (vs.length : Int) else k) = k := if_neg (by omega)
    have : (decide (0 ≤ k) && decide (k < (vs.length : Int))) = true := by simp only [Bool.and_eq_true, decide_eq_true_eq]; exact ⟨h0, hn⟩
    rw [e, if_pos this]
  have hfit : Builtin.List.listFitsIndex k = true := by
    unfold Builtin.List.listFitsIndex
    simp only [Bool.and_eq_true, decide_eq_true_eq]; omega
  refine PySem.P.delItem_list (n := ne) ho hfit hidx ?_ (by rw [List.size_toArray, sizeLine_eq]; omega)
  exact p () _ _ (lst_upd (f := fun xs => xs.eraseIdxIfInBounds k.toNat) (t := s.toks) o.good hl (by simp)) h
theorem W.delDct {d : Addr} {kvs : List (Str × Value)} {ep : Nat} {k : Str} {t : Tok} {Q : Unit → AH → Prop} (hd : σ d = some (.dct kvs ep)) (hk : (valueAt kvs k).isSome = true) (hz : kvs.length ≤ 1000) (h : ∀ ep', Q () (σ.set d (.dct (without kvs k) ep'))) : W C b (delItem (.ref d) (.str k t)) σ Q X := by
  intro A s P E o p _
  have hm := (o.good.at_ _ _ hd).1.dictOf
  refine wpAny_delItem_slot hm.typeIs (by decide) F.slot_dict_delitem ?_
  refine call_meetsIn F.slot_dict_delitem hm.typeIs F.entry_dict_delitem (F.args_dict_delitem_2 _ _) (meets_dict_delitem_pairs (strKind C.prog C.w) d (strKind_is C.prog C.w k t)) ⟨kvs, hm, by rw [sizeLine_eq]; omega, hk, fun h' hm' hs' => ?_⟩
  obtain ⟨ep', y⟩ := After.dct (t := s.toks + 1) o.good hd hm' hs'
  exact p _ _ _ y (h ep')
theorem W.popDct {d : Addr} {kvs : List (Str × Value)} {ep : Nat} {k : Str} {t : Tok} {v : Value} {Q : Value → AH → Prop} (hd : σ d = some (.dct kvs ep)) (hk : valueAt kvs k = some v) (hz : kvs.length ≤ 1000) (h : ∀ ep', Q v (σ.set d (.dct (without kvs k) ep'))) : W C b (call (.builtin "dict.pop") [.ref d, .str k t]) σ Q X := by
  intro A s P E o p _
  have hm := (o.good.at_ _ _ hd).1.dictOf
  refine call_meetsIn F.slot_dict_pop hm.typeIs F.entry_dict_pop (F.args_dict_pop_2 _ _) (meets_dict_pop_there (strKind C.prog C.w) d (strKind_is C.prog C.w k t) [] (.inl rfl) rfl) ⟨kvs, v, hm, by rw [sizeLine_eq]; omega, hk, fun h' hm' hs' => ?_⟩
  obtain ⟨ep', y⟩ := After.dct (t := s.toks + 1) o.good hd hm' hs'
  exact p _ _ _ y (h ep')
theorem mPopD {d : Addr} {kvs : List (Str × Value)} {ep : Nat} {pl : Sem Bool} {Q : Value × List Value → AH → Prop} (hd : σ d = some (.dct kvs ep)) (h : Q (.builtin "dict.pop", [.ref d]) σ) : W C b (getMethod (.ref d) (Str.ofString "pop") pl) σ Q X :=
  W.methB (.dct hd) F.plainAttrs_dict F.slot_dict_pop F.type_dict_pop (noOwnDict.dct hd) h
section
variable {env : Env}
/-- del x[i] -/
theorem W.sDel {o i : Expr} {pos pos' : Pos} {Q : Flow → AH → Prop}
    (h : W C b (eval o env) σ (fun ov σ₁ => W C b (eval i env) σ₁ (fun iv σ₂ => W C b (delItem ov iv) σ₂ (fun _ σ₃ => Q .next σ₃) X) X) X) : W C b (exec (.Delete [.Subscript o i pos] pos') env) σ Q X := by
  rw [arm_exec_Delete]
  refine W.bind_ (W.standAt_ (W.bind_ ?_))
  rw [arm_deleteEach_cons]
  refine W.bind_ ?_
  rw [arm_delete_Subscript]
  refine W.bind_ (W.mono h (fun ov σ₁ q => W.bind_ (W.hold (W.mono q (fun iv σ₂ q => W.bind_ (W.standAt_ (W.bind_ (W.hold (W.mono q (fun _ σ₃ q => W.release_ ?_) fun _ _ x => x))))) fun _ _ x => x))) fun _ _ x => x)
  rw [arm_deleteEach_nil]
  exact W.pure_ (W.pure_ q)
end
end Mine
end
section
open PySem PySem.W PyProof.Rows Builtin
set_option Elab.async false
set_option maxRecDepth 100000
set_option autoImplicit false
set_option linter.unusedVariables false
namespace Mine
variable {C : Cx} {b : Nat} {σ H : AH} {X : Value → AH → Prop}
/-! a set of ints -/
def setP (C : Cx) (S : Int → Bool) (n : Nat) : Obj → Prop := fun o => ∃ es ep t, o.ExactSet ∧ o.data = .set es ep t ∧ ElemsOf (intKind C.prog C.w) es.toList ∧ (∀ k, S k = true ↔ ∃ e ∈ es.toList, (intKind C.prog C.w).is k e.2 = true)
    ∧ es.size < scanBound ∧ t.fits es.size = true ∧ es.size = n
abbrev setO (C : Cx) (S : Int → Bool) (n : Nat) : AO := .pr (setP C S n)
theorem Good.setOf {h : Heap} (g : Good C σ h) {a : Addr} {S : Int → Bool} {n : Nat} (e : σ a = some (setO C S n)) : h.SetOf (intKind C.prog C.w) a S n := by
  obtain ⟨o, ho, ⟨es, ep, t, r⟩, _⟩ := g.at_ _ _ e
  exact ⟨o, es, ep, t, ho, r⟩
theorem setMt {h : Heap} {a : Addr} {S : Int → Bool} {n : Nat} (x : h.SetOf (intKind C.prog C.w) a S n) : Mt C h a (setO C S n) := by
  obtain ⟨o, es, ep, t, ho, r⟩ := x
  exact ⟨o, ho, ⟨es, ep, t, r⟩, by rw [r.1.1]; simp, by rw [r.1.1]; simp⟩
theorem W.newSet_ {Q : Value → AH → Prop} (h : ∀ a, σ a = none → Q (.ref a) (σ.set a (setO C (fun _ => false) 0))) : W C b (newSet (.type "set")) σ Q X := by
  intro A s P E o p _
  refine wpAny_newSet_of (knd := intKind C.prog C.w) fun led hS => ?_
  have z := After.add (t := s.toks) o.good (a := s.heap.objs.size) (o := setO C (fun _ => false) 0) (fun b o' e => Heap.get?_push_of_some _ e) (Nat.le_refl _) (setMt hS)
  exact p _ _ _ z.1 (h _ z.2)
theorem intIs (k : Int) (t : Tok) : (intKind C.prog C.w).is k (.int k t) = true := intKind_is C.prog C.w k t
theorem W.setAdd_ {d : Addr} {S : Int → Bool} {n : Nat} {k : Int} {t : Tok} {Q : Value → AH → Prop} (hd : σ d = some (setO C S n)) (hz : n + 1 < scanBound) (h : Q .none (σ.set d (setO C (fun k' => S k' || decide (k' = k)) (if S k then n else n + 1)))) : W C b (call (.builtin "set.add") [.ref d, .int k t]) σ Q X := by
  intro A s P E o p _
  refine call_set_add (intIs k t) rfl (o.good.setOf hd) hz fun h' hs hS => ?_
  exact p _ _ _ (.upd' (t := s.toks + 1) o.good hd hs (setMt hS) (fun c m e => by cases e)) h
theorem W.notInSet {d : Addr} {S : Int → Bool} {n : Nat} {k : Int} {t : Tok} {Q : Value → AH → Prop} (hd : σ d = some (setO C S n)) (h : Q (.bool (!S k)) σ) : W C b (compareOp .NotIn (.int k t) (.ref d)) σ Q X := by
  intro A s P E o p _
  exact wpAny_notInSet_of (intIs k t) rfl (o.good.setOf hd) (p _ _ _ (.toks o.good (s.toks + 1)) h)
theorem compTurn_set (elt target iter : Expr) (ifs : List Expr) (scope : Scope) (pos : Pos) (it : Value) (D : Addr) (env : Env) :
    compTurn (.SetComp elt [⟨target, iter, ifs, 0⟩] scope pos) 0 it (.ref D) env = (do
      standAt iter.pos
      match ← pyNext it with
      | none => pure (.done .next)
      | some v =>
        letOwnedTupleGo target it v
        assign target env v
        let mut ok := true
        for c in ifs do
          if ok then ok ← isTrue c env (eval c env)
        if ok then
          (do
            let v ← eval elt env
            standAt elt.pos
            let _ ← call (.builtin "set.add") [.ref D, v])
        again (.compLoop (.SetComp elt [⟨target, iter, ifs, 0⟩] scope pos) 0 it (.ref D) env)) := by rfl
section
variable {env : Env}
/-- one turn of a set comprehension -/
theorem WK.setTurn {elt target iter : Expr} {ifs : List Expr} {scope : Scope} {pos : Pos} {it : Value} {D : Addr} {Q : Flow → AH → Prop}
    (h : W C b (pyNext it) σ (fun r σ₁ => match r with
      | none => Q .next σ₁
      | some v => W C b (letOwnedTupleGo target it v) σ₁ (fun _ σ₂ => W C b (assign target env v) σ₂ (fun _ σ₃ =>
          W C b (tests env ifs) σ₃ (fun ok σ₄ =>
            (ok = false → WK C b (.compLoop (.SetComp elt [⟨target, iter, ifs, 0⟩] scope pos) 0 it (.ref D) env) σ₄ Q) ∧
            (ok = true → W C b (eval elt env) σ₄ (fun vv σ₆ => W C b (call (.builtin "set.add") [.ref D, vv]) σ₆ (fun _ σ₇ => WK C b (.compLoop (.SetComp elt [⟨target, iter, ifs, 0⟩] scope pos) 0 it (.ref D) env) σ₇ Q) noX) noX)) noX) noX) noX) noX) :
    WK C b (.compLoop (.SetComp elt [⟨target, iter, ifs, 0⟩] scope pos) 0 it (.ref D) env) σ Q := by
  refine WK.turn (F := fun x => do noteFrame x env; theTreesLotGoes x) (t := compTurn (.SetComp elt [⟨target, iter, ifs, 0⟩] scope pos) 0 it (.ref D) env) rfl rfl rfl ?_
  rw [compTurn_set]
  refine W.bind_ (W.standAt_ (W.bind_ (W.mono h (fun r σ₁ q => ?_) fun _ _ x => x)))
  cases r with
  | none => exact W.pure_ q
  | some v =>
    refine W.bind_ (W.mono q (fun _ σ₂ q => W.bind_ (W.mono q (fun _ σ₃ q => W.bind_ (W.mono q (fun ok σ₄ q => ?_) fun _ _ x => x)) fun _ _ x => x)) fun _ _ x => x)
    cases ok with
    | false => exact W.pure_ ⟨rfl, q.1 rfl⟩
    | true => exact W.bind_ (W.bind_ (W.mono (q.2 rfl) (fun vv σ₆ q => W.bind_ (W.standAt_ (W.bind_ (W.mono q (fun _ σ₇ q => W.pure_ (W.pure_ ⟨rfl, q⟩)) fun _ _ x => x)))) fun _ _ x => x))

/-- a set comprehension over a source: what it holds are the ks -/
theorem WK.setSrc {elt target iter : Expr} {ifs : List Expr} {scope : Scope} {pos : Pos} {it : Value} {D : Addr} {ι : Type} {st : ι → AH → (AH → Prop) → Prop} {need : AH → Prop} {n : Nat} {item : Nat → ι → Prop} {at_ : Nat → AH → AH → Prop}
    (S : Src C b it target env ι st need n item at_) (Inv : Nat → (Int → Bool) → Nat → AH → Prop) {Q : Flow → AH → Prop}
    (hneed : ∀ i ys c σ, Inv i ys c σ → σ D = none → need (σ.set D (setO C ys c))) (hlen : ∀ i ys c σ, Inv i ys c σ → c + 1 < scanBound)
    (step : ∀ i ys c σ x, i < n → Inv i ys c σ → item i x → σ D = none → st x σ (fun σ₁ =>
      W C b (tests env ifs) σ₁ (fun ok σ₂ => (ok = false → Inv (i + 1) ys c σ₂) ∧ (ok = true → W C b (eval elt env) σ₂ (fun v σ₃ => ∃ k t, v = .int k t ∧ Inv (i + 1) (fun k' => ys k' || decide (k' = k)) (if ys k then c else c + 1) σ₃) noX)) noX))
    (fin : ∀ ys c σ, Inv n ys c σ → σ D = none → Q .next (σ.set D (setO C ys c))) : ∀ (k i : Nat) (ys : Int → Bool) (c : Nat) (small big : AH), i + k = n → small D = none → at_ i (small.set D (setO C ys c)) big → Inv i ys c small →
      WK C b (.compLoop (.SetComp elt [⟨target, iter, ifs, 0⟩] scope pos) 0 it (.ref D) env) big Q
  | 0, i, ys, c, small, big, hk, hD, ha, hi => by
    have : i = n := by omega
    subst this
    refine WK.setTurn (W.mono (S.done _ big (fun σ' => Q .next σ') ha (hneed _ _ _ _ hi hD) (fin _ _ _ hi hD)) (fun r σ₁ q => ?_) fun _ _ x => x)
    obtain ⟨rfl, q⟩ := q
    exact q
  | k + 1, i, ys, c, small, big, hk, hD, ha, hi => by
    have nx := S.next i _ big (fun σ' => ∃ σ₁, σ' = σ₁.set D (setO C ys c) ∧ σ₁ D = none ∧ W C b (tests env ifs) σ₁ (fun ok σ₂ => (ok = false → Inv (i + 1) ys c σ₂) ∧ (ok = true → W C b (eval elt env) σ₂ (fun v σ₃ => ∃ k t, v = .int k t ∧ Inv (i + 1) (fun k' => ys k' || decide (k' = k)) (if ys k then c else c + 1) σ₃) noX)) noX)
      (by omega) ha (hneed _ _ _ _ hi hD) fun x hx => S.stFrame x small _ D (setO C ys c) hD trivial (S.stMono _ _ _ _ (fun σ' q n => ⟨σ', rfl, n, q⟩) (step i ys c small x (by omega) hi hx hD))
    refine WK.setTurn (W.mono nx (fun r σ₁ q => ?_) fun _ _ x => x)
    obtain ⟨v, rfl, q⟩ := q
    refine W.mono q (fun _ σ₂ q => W.mono q (fun _ σ₃ q => ?_) fun _ _ x => x) fun _ _ x => x
    obtain ⟨σ', ha', σ₁, rfl, hD1, q⟩ := q
    have q1 : W C b (tests env ifs) (σ₁.set D (setO C ys c)) (fun ok σ₂ => ∃ σ₂', σ₂ = σ₂'.set D (setO C ys c) ∧ σ₂' D = none ∧ (ok = false → Inv (i + 1) ys c σ₂') ∧ (ok = true → W C b (eval elt env) σ₂' (fun v σ₃ => ∃ k t, v = .int k t ∧ Inv (i + 1) (fun k' => ys k' || decide (k' = k)) (if ys k then c else c + 1) σ₃) noX)) noX :=
      W.frame hD1 trivial (W.mono q (fun ok σ₂ q n => ⟨σ₂, rfl, n, q⟩) fun _ _ x => x)
    refine W.mono (S.frame _ b _ _ _ _ _ ha' q1) (fun ok big' q => ?_) fun _ _ x => x
    obtain ⟨_, ha2, σ₂, rfl, hD2, q1, q2⟩ := q
    refine ⟨fun hok => WK.setSrc S Inv hneed hlen step fin k (i + 1) ys c σ₂ big' (by omega) hD2 ha2 (q1 hok), fun hok => ?_⟩
    have q4 : W C b (eval elt env) (σ₂.set D (setO C ys c)) (fun v σ₄ => ∃ σ₄', σ₄ = σ₄'.set D (setO C ys c) ∧ σ₄' D = none ∧ ∃ k t, v = .int k t ∧ Inv (i + 1) (fun k' => ys k' || decide (k' = k)) (if ys k then c else c + 1) σ₄') noX :=
      W.frame hD2 trivial (W.mono (q2 hok) (fun v σ₄ q n => ⟨σ₄, rfl, n, q⟩) fun _ _ x => x)
    refine W.mono (S.frame _ b _ _ _ _ _ ha2 q4) (fun v big4 q => ?_) fun _ _ x => x
    obtain ⟨_, ha4, σ₄, rfl, hD4, kk, tt, rfl, q⟩ := q
    have q5 : W C b (call (.builtin "set.add") [.ref D, .int kk tt]) (σ₄.set D (setO C ys c)) (fun _ σ₅ => σ₅ = σ₄.set D (setO C (fun k' => ys k' || decide (k' = kk)) (if ys kk then c else c + 1))) noX := by
      refine W.setAdd_ AH.set_self (hlen _ _ _ _ hi) ?_
      rw [AH.set_set]
    refine W.mono (S.frame _ b _ _ _ _ _ ha4 q5) (fun _ big5 q5 => ?_) fun _ _ x => x
    obtain ⟨_, ha5, rfl⟩ := q5
    exact WK.setSrc S Inv hneed hlen step fin k (i + 1) _ _ σ₄ big5 (by omega) hD4 ha5 q
/-- where a set comprehension with one clause begins its walk -/
def SCompAt (C : Cx) (b : Nat) (elt target : Expr) (ifs : List Expr) (scope : Scope) (cs : List (Str × Addr)) (env : Env) (F : Value → AH → Prop) (it : Value) (H₂ : AH) : Prop :=
  ∃ (ι : Type) (st : Addr → ι → AH → (AH → Prop) → Prop) (need : AH → Prop) (n : Nat) (item : Nat → ι → Prop) (at_ : Nat → AH → AH → Prop) (H₀ : AH) (Inv : Nat → (Int → Bool) → Nat → AH → Prop),
    (∀ L', Src C b it target (compEnvC scope cs L' env) ι (st L') need n item at_) ∧ at_ 0 H₀ H₂ ∧ Inv 0 (fun _ => false) 0 H₀ ∧ (∀ i ys c H, Inv i ys c H → need H ∧ c + 1 < scanBound) ∧
    (∀ L' i ys c H m x, i < n → Inv i ys c H → H L' = none → item i x → st L' x (H.set L' (.ns "dict" m)) (fun σ₁ => W C b (tests (compEnvC scope cs L' env) ifs) σ₁ (fun ok σ₂ =>
      (ok = false → ∃ H' m', σ₂ = AH.set H' L' (.ns "dict" m') ∧ H' L' = none ∧ Inv (i + 1) ys c H') ∧ (ok = true → W C b (eval elt (compEnvC scope cs L' env)) σ₂ (fun v σ₄ => ∃ k t, v = .int k t ∧ ∃ H' m', σ₄ = AH.set H' L' (.ns "dict" m') ∧ H' L' = none ∧ Inv (i + 1) (fun k' => ys k' || decide (k' = k)) (if ys k then c else c + 1) H') noX)) noX)) ∧
    (∀ D ys c H, Inv n ys c H → H D = none → F (.ref D) (H.set D (setO C ys c)))
theorem SCompAt.run {elt target iter : Expr} {ifs : List Expr} {scope : Scope} {cs : List (Str × Addr)} {pos : Pos} {F : Value → AH → Prop} {it : Value} {H₂ : AH} {D L' : Addr} (h : SCompAt C b elt target ifs scope cs env F it H₂) (hD : H₂ D = none) (hL : (H₂.set D (setO C (fun _ => false) 0)) L' = none) :
    WK C b (.compStart (.SetComp elt [⟨target, iter, ifs, 0⟩] scope pos) 0 it (.ref D) (compEnvC scope cs L' env)) ((H₂.set D (setO C (fun _ => false) 0)).set L' (.ns "dict" [])) (fun _ σ₄ => ∃ H₄ m', σ₄ = AH.set H₄ L' (.ns "dict" m') ∧ H₄ L' = none ∧ F (.ref D) H₄) := by
  obtain ⟨ι, st, need, n, item, at_, H₀, Inv, S, ha, h0, hneed, step, fin⟩ := h
  have hLD : L' ≠ D := AH.none_ne hL
  have hL2 : H₂ L' = none := AH.none_in hL
  obtain ⟨a1, n1⟩ := (S L').grow 0 H₀ H₂ L' (.ns "dict" []) ha hL2
  have hD1 : (H₂.set L' (.ns "dict" [])) D = none := by rw [AH.set_ne (Ne.symm hLD)]; exact hD
  obtain ⟨a2, n2⟩ := (S L').grow 0 _ _ D (setO C (fun _ => false) 0) a1 hD1
  have e : (H₂.set D (setO C (fun _ => false) 0)).set L' (.ns "dict" []) = (H₂.set L' (.ns "dict" [])).set D (setO C (fun _ => false) 0) := AH.set_comm (Ne.symm hLD)
  rw [e]
  have main : WK C b (.compLoop (.SetComp elt [⟨target, iter, ifs, 0⟩] scope pos) 0 it (.ref D) (compEnvC scope cs L' env)) ((H₂.set L' (.ns "dict" [])).set D (setO C (fun _ => false) 0)) (fun _ σ₄ => ∃ H₄ m', σ₄ = AH.set H₄ L' (.ns "dict" m') ∧ H₄ L' = none ∧ F (.ref D) H₄) := by
    refine WK.setSrc (S L') (fun i ys c σ => ∃ H m, σ = AH.set H L' (.ns "dict" m) ∧ H L' = none ∧ Inv i ys c H) (fun i ys ep σ q hDn => ?_) (fun i ys c σ q => ?_) (fun i ys c σ x hi q hx hDn => ?_) (fun ys ep σ q hDn => ?_) n 0 (fun _ => false) 0 _ _ (by omega) n2 a2 ⟨H₀, [], rfl, n1, h0⟩
    · obtain ⟨H, m, rfl, hn, q⟩ := q
      exact (S L').needSet _ _ _ ((S L').needSet _ _ _ (hneed _ _ _ _ q).1 hn) hDn
    · obtain ⟨H, m, rfl, hn, q⟩ := q
      exact (hneed _ _ _ _ q).2
    · obtain ⟨H, m, rfl, hn, q⟩ := q
      refine (S L').stMono _ _ _ _ (fun σ₁ q => ?_) (step L' i ys c H m x hi q hn hx)
      exact W.mono q (fun ok σ₂ q => ⟨q.1, q.2⟩) fun _ _ x => x
    · obtain ⟨H, m, rfl, hn, q⟩ := q
      have h1 : D ≠ L' := AH.none_ne hDn
      exact ⟨H.set D (setO C ys ep), m, AH.set_comm (Ne.symm h1), by rw [AH.set_ne (Ne.symm h1)]; exact hn, fin D ys ep H q (AH.none_in hDn)⟩
  refine WK.compStart (g := ⟨target, iter, ifs, 0⟩) (gs := []) rfl rfl rfl rfl rfl (fun _ => rfl) main ?_
  exact (S L').self_ 0 _ _ _ a2 main
/-- {elt for target in iter if ..} -/
theorem W.eSetComp {elt target iter : Expr} {ifs : List Expr} {scope : Scope} {pos : Pos} {cs : List (Str × Addr)} {Q : Value → AH → Prop} (hs : ∀ x, foldedSetIterable iter env x = pure x) (hclos : closureFor scope env = pure cs) (hkind : scope.kind = .function)
    (hnames : ∀ x ∈ scope.names, x.2 = .local → scope.names.lookup x.1 = some .local) (hcell : cellNames scope.names = [])
    (h : W C b (eval iter env) σ (fun x σ₁ => ∃ H₁ L o₁, σ₁ = AH.set H₁ L o₁ ∧ o₁.fr ∧ H₁ L = none ∧ W C b (pyIter x) H₁ (SCompAt C b elt target ifs scope cs env (fun v H' => H' L = none → Q v (H'.set L o₁))) noX) noX) :
    W C b (eval (.SetComp elt [⟨target, iter, ifs, 0⟩] scope pos) env) σ Q X := by
  rw [arm_eval_SetComp]
  refine W.comp_ (e := .SetComp elt [⟨target, iter, ifs, 0⟩] scope pos) (g := ⟨target, iter, ifs, 0⟩) (gs := []) rfl hs hclos hkind hnames hcell (W.mono h (fun x σ₁ q => ?_) fun _ _ x => x)
  obtain ⟨H₁, L, o₁, rfl, hf, hL, q⟩ := q
  refine W.op hL (W.mono q (fun it H₂ q hL2 => ?_) fun _ _ x => x) hf
  refine W.op hL2 (W.newSet_ fun D hD hL3 => ?_) hf
  intro L' hL'
  have h1 : L' ≠ L := AH.none_ne hL'
  have h2 : (H₂.set D (setO C (fun _ => false) 0)) L' = none := AH.none_in hL'
  rw [AH.set_comm (Ne.symm h1)]
  refine WK.frame' (by rw [AH.set_ne (Ne.symm h1)]; exact hL3) hf (WK.mono (q.run hD h2) (fun _ σ₄ q n => ?_))
  obtain ⟨H₄, m', rfl, n2, q⟩ := q
  rw [AH.set_comm h1, AH.drop_set (by rw [AH.set_ne h1]; exact n2)]
  exact q (AH.none_in n)
theorem SCompAt.single {elt target : Expr} {ifs : List Expr} {scope : Scope} {cs : List (Str × Addr)} {F : Value → AH → Prop} {it : Value} {need : AH → Prop} {n : Nat} {item : Nat → Value → Prop} {at_ : Nat → AH → AH → Prop} {H₀ H₂ : AH} (S : ∀ L', Src C b it target (compEnvC scope cs L' env) Value (one C b target (compEnvC scope cs L' env)) need n item at_) (ha : at_ 0 H₀ H₂) (Inv : Nat → (Int → Bool) → Nat → AH → Prop) (h0 : Inv 0 (fun _ => false) 0 H₀)
    (hneed : ∀ i ys c H, Inv i ys c H → need H ∧ c + 1 < scanBound)
    (step : ∀ L' i ys c H m v, i < n → item i v → Inv i ys c H → H L' = none → W C b (assign target (compEnvC scope cs L' env) v) (H.set L' (.ns "dict" m)) (fun _ σ₁ => W C b (tests (compEnvC scope cs L' env) ifs) σ₁ (fun ok σ₂ =>
      (ok = false → ∃ H' m', σ₂ = AH.set H' L' (.ns "dict" m') ∧ H' L' = none ∧ Inv (i + 1) ys c H') ∧ (ok = true → W C b (eval elt (compEnvC scope cs L' env)) σ₂ (fun v σ₄ => ∃ k t, v = .int k t ∧ ∃ H' m', σ₄ = AH.set H' L' (.ns "dict" m') ∧ H' L' = none ∧ Inv (i + 1) (fun k' => ys k' || decide (k' = k)) (if ys k then c else c + 1) H') noX)) noX) noX)
    (fin : ∀ D ys c H, Inv n ys c H → H D = none → F (.ref D) (H.set D (setO C ys c))) : SCompAt C b elt target ifs scope cs env F it H₂ :=
  ⟨Value, fun L' => one C b target (compEnvC scope cs L' env), need, n, item, at_, H₀, Inv, S, ha, h0, hneed, fun L' i ys c H m x hi hinv hL hx => step L' i ys c H m x hi hx hinv hL, fin⟩
end
end Mine
end
section
open PySem PySem.W PyProof.Rows Builtin
set_option Elab.async false
set_option maxRecDepth 100000
set_option autoImplicit false
set_option linter.unusedVariables false
namespace Mine
variable {C : Cx} {b : Nat} {σ H : AH} {X : Value → AH → Prop}
theorem WK.anyLoop {I l : Addr} {vs : List Value} {Q : Value → AH → Prop} (h0 : σ I = none) (hl : σ l = some (.lst vs)) (hv : ∀ v ∈ vs, v = .bool false) (hQ : Q (.bool false) σ) :
    ∀ (k i : Nat), i + k = vs.length → WK C (b + 1) (.builtin "any.loop" ⟨[.ref I], []⟩) (σ.set I (listIt l i)) (isRet Q) := by
  intro k
  induction k with
  | zero =>
    intro i hk A s R o r
    have hi : i = vs.length := by omega
    subst hi
    refine codeAny_builtin F.entry_any_loop ?_
    rw [Around.under_plainId F.plain_any_loop _]
    show wpAny _ A.in1 (pyNext (.ref I) >>= _) _ _ s
    refine wpAny_bind (wpAny_pyNext_list_end o.in1.room.hd (o.good.listIter AH.set_self) (o.good.isList (AH.set_new h0 hl)) (by simp) fun h' hs => ?_)
    have y := After.lose (t := s.toks) o.good AH.set_self (by trivial) hs
    rw [AH.drop_set h0] at y
    exact wpAny_bind (wpAny_rule (wpAny_pure (r _ _ _ y ⟨_, rfl, hQ⟩)))
  | succ k ih =>
    intro i hk A s R o r
    have hlt : i < vs.length := by omega
    have hvi : vs.toArray[i]? = some vs[i] := by simp [hlt]
    refine codeAny_builtin F.entry_any_loop ?_
    rw [Around.under_plainId F.plain_any_loop _]
    show wpAny _ A.in1 (pyNext (.ref I) >>= _) _ _ s
    refine wpAny_bind (wpAny_pyNext_list_item (o.good.listIter AH.set_self) (o.good.isList (AH.set_new h0 hl)) hvi fun h' hit hs => ?_)
    have y := After.upd' (t := s.toks) o.good AH.set_self hs (Mt.listIter hit) (fun c m e => by cases e)
    rw [AH.set_set] at y
    rw [hv _ (List.getElem_mem hlt)]
    refine wpAny_bind (wpAny_holding (show wpAny _ _ (truthy (.bool false)) _ _ _ from wpAny_pure ?_))
    refine wpAny_bind (wpAny_letGo ?_)
    simp only [Bool.false_eq_true, if_false]
    exact wpAny_pure ⟨plainId_quiet F.plain_any_loop _, ih (i + 1) (by omega) A _ R (o.next y) fun f σ' s' y' q' => r f σ' s' (y.trans y') q'⟩
/-- any of a list of no -/
theorem W.anyNo {l : Addr} {vs : List Value} {Q : Value → AH → Prop} (hl : σ l = some (.lst vs)) (hv : ∀ v ∈ vs, v = .bool false) (h : Q (.bool false) σ) : W C (b + 2) (call (.builtin "any") [.ref l]) σ Q X := by
  intro A s P E o p _
  refine call_function_tree F.kind_any F.plain_any F.entry_any (F.args_any1 _) ?_
  unfold Builtin.«any»
  refine wpAny_bind (m := oneArg "any" _) (wpAny_pure ?_)
  have w1 : W C (b + 1) (pyIter (.ref l)) σ (fun it σ₁ => ∃ I, it = .ref I ∧ σ I = none ∧ σ₁ = σ.set I (listIt l 0)) noX := W.iterList hl fun I hI => ⟨I, rfl, hI, rfl⟩
  have o1 : Ok C (b + 1) A.in1 σ s := ⟨o.good, ⟨o.room.hd, by have := o.room.depth; show A.depth + (b + 1) < 900; omega, by have := o.room.units; show A.units + 1 + 16 * (b + 1) < 9000; omega, o.room.frames⟩, o.tk⟩
  refine wpAny_bind (w1 A.in1 s _ _ o1 (fun it σ₁ s₁ y q => ?_) fun _ _ _ _ q => q.elim)
  obtain ⟨I, rfl, hI, rfl⟩ := q
  refine wpAny_pure ⟨plainId_quiet F.plain_any_loop _, ?_⟩
  refine WK.anyLoop (C := C) (b := b) (Q := fun v σ' => v = .bool false ∧ σ' = σ) hI hl hv ⟨rfl, rfl⟩ vs.length 0 (by omega) _ s₁ _ ⟨y.good, ?_, Nat.le_trans o.tk y.tk⟩ fun f σ' s' y' q => ?_
  · have r := (o1.room.next y.step)
    exact ⟨r.hd, by have := o.room.depth; omega, by have := o.room.units; omega, r.frames⟩
  · obtain ⟨v, rfl, rfl, rfl⟩ := q
    exact p _ _ _ (y.trans y') h
/-- is an object one of these classes -/
theorem W.isInstTO {K : Frag} {a Cl tp : Addr} {m : List (Str × Value)} {cs : List Value} {r : Bool} {Q : Value → AH → Prop} (hK : C.K = K) (ha : ObjAt σ a Cl m) (hk : instOk K Cl = true) (ht : σ tp = some (.tup cs)) (e : kitAny K (.ref Cl) cs = some r) (h : Q (.bool r) σ) : W C b (call (.builtin "isinstance") [.ref a, .ref tp]) σ Q X :=
  let ⟨d, h1, h2⟩ := ha; W.isInstT (.inst h1 h2 (by rw [hK]; exact hk)) ht (by rw [hK]; exact e) h
end Mine
end
section
open PySem PySem.W PyProof.Rows Builtin
set_option Elab.async false
set_option maxRecDepth 100000
set_option autoImplicit false
set_option linter.unusedVariables false
namespace Mine
variable {C : Cx} {b : Nat} {σ H : AH} {X : Value → AH → Prop}
def setObj (led : Bool) : Obj := { cls := Value.type "set", data := Data.set #[] 0 (SetTable.fresh 0 0 led) }
/-- set(list): up to the walk -/
theorem call_set_go {prog : Program} {w : World} {A : Around} {E : Value → Shared → Prop} {s : Shared} {l : Addr} {items : Array Value} {Q : Value → Shared → Prop} (hl : s.heap.IsList l items)
    (h : ∀ led, wpAny (model prog w) A.in1.in1 (do
        let it ← pyIter (.ref l)
        let _ ← runValue (Code.builtin "set.update.loop" { pos := [.ref s.heap.objs.size, it] })
        pure ()) (fun _ s' => Q (.ref s.heap.objs.size) s') E { heap := s.heap.push (setObj led), gens := s.gens, drawn := s.drawn, toks := s.toks, os := s.os }) :
    wpAny (model prog w) A (call (.type "set") [.ref l]) Q E s := by
  obtain ⟨c, tl, hmro⟩ := F.called_set.mro
  refine wpAny_call (codeAny_of_tree ?_)
  refine wpAny_pure ⟨Code.quiet_builtin _ (by decide +kernel), codeAny_builtin F.entry_type_call ?_⟩
  rw [Around.under_plain (weight_type_call_type _ _ _) rfl]
  unfold Builtin.«type.__call__»
  dsimp only
  refine wpAny_ite_false (by simp [F.called_set.notType]) ?_
  refine wpAny_ite_false (by simpa using F.called_set.canCreate) ?_
  refine wpAny_bind (wpAny_of_eq (F.typeCall_set_1 _) ?_)
  refine wpAny_bind (wpAny_of_eq hmro ?_)
  refine wpAny_ite_false rfl ?_
  refine wpAny_bind (wpAny_of_eq F.called_set.made ?_)
  dsimp only
  refine wpAny_bind (wpAny_pure (wpAny_bind (wpAny_holding (wpAny_call (codeAny_mono (code_set_new_1 (.ref l) fun led => ?_) fun r s q => q)))))
  have hT : Shared.TypeIs { heap := s.heap.push (setObj led), gens := s.gens, drawn := s.drawn, toks := s.toks, os := s.os } (.ref s.heap.objs.size) "set" := ⟨_, Heap.get?_push_size _ rfl, rfl⟩
  refine wpAny_bind (wpAny_isInstance hT F.called_set.sub ?_)
  refine wpAny_ite_false rfl ?_
  refine wpAny_bind (wpAny_holding ?_)
  unfold callSpecial?
  refine wpAny_bind (wpAny_specialOf hT F.called_set.init.lookup ?_)
  dsimp only
  refine wpAny_holding (wpAny_bind (wpAny_of_eq (F.called_set.init.bind _) ?_))
  dsimp only
  refine wpAny_bind (wpAny_call (codeAny_call_builtin F.called_set.init.plain F.entry_set_init ?_))
  refine check_set_init_1 hT ?_
  unfold Builtin.«set.__init__»
  refine wpAny_bind ?_
  unfold noKeywords
  refine wpAny_ite_true rfl (wpAny_pure ?_)
  dsimp only [List.cons_append, List.nil_append]
  refine wpAny_bind ?_
  unfold typeNameOfCut
  refine wpAny_bind ?_
  unfold shownTypeOf
  refine wpAny_bind (wpAny_typeOf hT ?_)
  dsimp only
  refine wpAny_ite_false rfl (wpAny_pure ?_)
  unfold typeNameCut
  dsimp only
  unfold typeName
  dsimp only
  refine wpAny_pure (wpAny_bind ?_)
  unfold checkCount
  dsimp only
  refine wpAny_ite_false rfl (wpAny_ite_false rfl (wpAny_ite_false rfl (wpAny_pure ?_)))
  refine wpAny_bind ?_
  unfold Frozenset.addrOf
  refine wpAny_pure ?_
  refine wpAny_bind ?_
  unfold setUsed setState
  refine wpAny_bind (wpAny_bind (wpAny_load (Heap.get?_push_size _ rfl) ?_))
  dsimp only [setObj]
  refine wpAny_ite_false rfl (wpAny_pure (wpAny_pure ?_))
  refine wpAny_ite_false rfl ?_
  refine wpAny_bind ?_
  unfold Frozenset.updateFrom Frozenset.isAnySet
  have hl' : Shared.TypeIs { heap := s.heap.push (setObj led), gens := s.gens, drawn := s.drawn, toks := s.toks, os := s.os } (.ref l) "list" := by
    obtain ⟨k, hk, hc, _⟩ := hl
    refine ⟨_, Heap.get?_push_of_some _ hk, hc⟩
  refine wpAny_bind ?_
  unfold orM
  refine wpAny_bind (wpAny_isInstance hl' F.sub_list_set ?_)
  simp only [toBool]
  refine wpAny_isInstance hl' F.sub_list_frozenset ?_
  refine wpAny_ite_false rfl ?_
  refine wpAny_bind (wpAny_typeOf hl' ?_)
  refine wpAny_ite_false rfl ?_
  refine wpAny_mono (h led) (fun _ s' q => ?_) fun _ _ x => x
  refine wpAny_pure (wpAny_pure (wpAny_ite_false rfl (wpAny_pure q)))
/-! a set of strings -/
def strSetP (C : Cx) (S : Str → Bool) (n : Nat) : Obj → Prop := fun o => ∃ es ep t, o.ExactSet ∧ o.data = .set es ep t ∧ ElemsOf (strKind C.prog C.w) es.toList ∧ (∀ k, S k = true ↔ ∃ e ∈ es.toList, (strKind C.prog C.w).is k e.2 = true)
    ∧ es.size < scanBound ∧ t.fits es.size = true ∧ es.size = n
abbrev strSetO (C : Cx) (S : Str → Bool) (n : Nat) : AO := .pr (strSetP C S n)
theorem Good.strSetOf {h : Heap} (g : Good C σ h) {a : Addr} {S : Str → Bool} {n : Nat} (e : σ a = some (strSetO C S n)) : h.SetOf (strKind C.prog C.w) a S n := by
  obtain ⟨o, ho, ⟨es, ep, t, r⟩, _⟩ := g.at_ _ _ e
  exact ⟨o, es, ep, t, ho, r⟩
theorem strSetMt {h : Heap} {a : Addr} {S : Str → Bool} {n : Nat} (x : h.SetOf (strKind C.prog C.w) a S n) : Mt C h a (strSetO C S n) := by
  obtain ⟨o, es, ep, t, ho, r⟩ := x
  exact ⟨o, ho, ⟨es, ep, t, r⟩, by rw [r.1.1]; simp, by rw [r.1.1]; simp⟩
def upTo (xs : List Str) (i : Nat) : Str → Bool := fun k => decide (k ∈ xs.take i)
theorem upTo_succ {xs : List Str} {i : Nat} (hi : i < xs.length) : (fun k' => upTo xs i k' || decide (k' = xs[i])) = upTo xs (i + 1) := by
  funext k
  unfold upTo
  rw [← Bool.decide_or, decide_eq_decide, List.take_succ_eq_append_getElem hi, List.mem_append, List.mem_singleton]
theorem upTo_not {xs : List Str} (h : xs.Nodup) {i : Nat} (hi : i < xs.length) : upTo xs i xs[i] = false := by
  unfold upTo
  rw [decide_eq_false_iff_not]
  intro hm
  obtain ⟨j, hj, e⟩ := List.getElem_of_mem hm
  rw [List.getElem_take] at e
  have hp := List.pairwise_iff_getElem.mp (List.nodup_iff_pairwise_ne.mp h)
  rw [List.length_take] at hj
  exact hp j i (by omega) hi (by omega) e
theorem WK.setLoop {I D l : Addr} {vs : List Value} {xs : List Str} {Q : Value → AH → Prop} (h0 : σ I = none) (hD : σ D = none) (hne : I ≠ D) (hl : σ l = some (.lst vs)) (hvl : vs.length = xs.length) (hv : ∀ (i : Nat) (hi : i < xs.length), ∃ t, vs[i]? = some (.str xs[i] t)) (hnd : xs.Nodup) (hz : xs.length + 1 < scanBound) (hQ : Q .none (σ.set D (strSetO C (upTo xs xs.length) xs.length))) :
    ∀ (k i : Nat), i + k = xs.length → WK C (b + 1) (.builtin "set.update.loop" ⟨[.ref D, .ref I], []⟩) ((σ.set D (strSetO C (upTo xs i) i)).set I (listIt l i)) (isRet Q) := by
  intro k
  induction k with
  | zero =>
    intro i hk A s R o r
    have hi : i = xs.length := by omega
    subst hi
    refine codeAny_builtin F.entry_set_update_loop ?_
    rw [Around.under_plainId F.plain_set_update_loop _]
    show wpAny _ A.in1 (pyNext (.ref I) >>= _) _ _ s
    have hI' : (σ.set D (strSetO C (upTo xs xs.length) xs.length)) I = none := by rw [AH.set_ne hne]; exact h0
    refine wpAny_bind (wpAny_pyNext_list_end o.in1.room.hd (o.good.listIter AH.set_self) (o.good.isList (AH.set_new hI' (AH.set_new hD hl))) (by simp [hvl]) fun h' hs => ?_)
    have y := After.lose (t := s.toks) o.good AH.set_self (by trivial) hs
    rw [AH.drop_set hI'] at y
    exact wpAny_pure (r _ _ _ y ⟨_, rfl, hQ⟩)
  | succ k ih =>
    intro i hk A s R o r
    have hlt : i < xs.length := by omega
    have hlt' : i < vs.length := by omega
    have hvi : vs.toArray[i]? = some vs[i] := by simp [hlt']
    refine codeAny_builtin F.entry_set_update_loop ?_
    rw [Around.under_plainId F.plain_set_update_loop _]
    show wpAny _ A.in1 (pyNext (.ref I) >>= _) _ _ s
    have hI' : (σ.set D (strSetO C (upTo xs i) i)) I = none := by rw [AH.set_ne hne]; exact h0
    refine wpAny_bind (wpAny_pyNext_list_item (o.good.listIter AH.set_self) (o.good.isList (AH.set_new hI' (AH.set_new hD hl))) hvi fun h' hit hs => ?_)
    have y := After.upd' (t := s.toks) o.good AH.set_self hs (Mt.listIter hit) (fun c m e => by cases e)
    rw [AH.set_set] at y
    obtain ⟨t, et⟩ : ∃ t, vs[i] = .str xs[i] t := by
      obtain ⟨t, e⟩ := hv i hlt
      exact ⟨t, (List.getElem?_eq_some_iff.mp e).2⟩
    rw [et]
    refine wpAny_bind (wpAny_holding ?_)
    unfold setAdd
    refine wpAny_holding (wpAny_bind ((strKind C.prog C.w).pyHash (k := xs[i]) (strKind_is C.prog C.w _ _) ?_))
    have hSD : ((σ.set D (strSetO C (upTo xs i) i)).set I (listIt l (i + 1))) D = some (strSetO C (upTo xs i) i) := by rw [AH.set_ne hne.symm]; exact AH.set_self
    refine wpAny_setAddHashed_of (strKind_is C.prog C.w _ _) rfl (y.good.strSetOf hSD) (by omega) fun h'' hs'' hS => ?_
    rw [upTo_succ hlt, upTo_not hnd hlt, if_neg (by simp)] at hS
    have y2 := (After.toks (C := C) y.good (s.toks + 1)).trans (After.upd' (t := s.toks + 1) y.good hSD hs'' (strSetMt hS) (fun c m e => by cases e))
    have y3 := y.trans y2
    have e9 : ((σ.set D (strSetO C (upTo xs i) i)).set I (listIt l (i + 1))).set D (strSetO C (upTo xs (i + 1)) (i + 1)) = (σ.set D (strSetO C (upTo xs (i + 1)) (i + 1))).set I (listIt l (i + 1)) := by rw [AH.set_comm hne, AH.set_set]
    rw [e9] at y3
    exact wpAny_pure ⟨plainId_quiet F.plain_set_update_loop _, ih (i + 1) (by omega) A _ R (o.next y3) fun f σ' s' y' q' => r f σ' s' (y3.trans y') q'⟩
/-- set(list) of strings that differ -/
theorem W.setOfStrs {l : Addr} {vs : List Value} {xs : List Str} {Q : Value → AH → Prop} (hl : σ l = some (.lst vs)) (hvl : vs.length = xs.length) (hv : ∀ (i : Nat) (hi : i < xs.length), ∃ t, vs[i]? = some (.str xs[i] t)) (hnd : xs.Nodup) (hz : xs.length + 1 < scanBound) (h : ∀ D, σ D = none → Q (.ref D) (σ.set D (strSetO C (upTo xs xs.length) xs.length))) : W C (b + 3) (call (.type "set") [.ref l]) σ Q X := by
  intro A s P E o p _
  refine call_set_go (o.good.isList hl) fun led => ?_
  have hS : Heap.SetOf (strKind C.prog C.w) (s.heap.push (setObj led)) s.heap.objs.size (fun _ => false) 0 := (setObjOf_fresh led).setOf (Heap.get?_push_size _ rfl) (show 0 < 4096 by omega)
  have z := After.add (t := s.toks) o.good (a := s.heap.objs.size) (o := strSetO C (upTo xs 0) 0) (h' := s.heap.push (setObj led)) (fun b o' e => Heap.get?_push_of_some _ e) (Nat.le_refl _) (strSetMt (by rw [show upTo xs 0 = fun _ => false by funext k; simp [upTo]]; exact hS))
  have y := z.1
  have hD : σ s.heap.objs.size = none := z.2
  generalize s.heap.objs.size = D at *
  have w1 : W C (b + 1) (pyIter (.ref l)) (σ.set D (strSetO C (upTo xs 0) 0)) (fun it σ₁ => ∃ I, it = .ref I ∧ (σ.set D (strSetO C (upTo xs 0) 0)) I = none ∧ σ₁ = (σ.set D (strSetO C (upTo xs 0) 0)).set I (listIt l 0)) noX := W.iterList (AH.set_new hD hl) fun I hI => ⟨I, rfl, hI, rfl⟩
  have r := o.room.next y.step
  have o1 : Ok C (b + 1) A.in1.in1 (σ.set D (strSetO C (upTo xs 0) 0)) _ := ⟨y.good, ⟨r.hd, by have := r.depth; show A.depth + (b + 1) < 900; omega, by have := r.units; show A.units + 1 + 1 + 16 * (b + 1) < 9000; omega, r.frames⟩, Nat.le_trans o.tk y.tk⟩
  refine wpAny_bind (w1 A.in1.in1 _ _ _ o1 (fun it σ₁ s₁ y1 q => ?_) fun _ _ _ _ q => q.elim)
  obtain ⟨I, rfl, hI, rfl⟩ := q
  refine wpAny_bind (wpAny_runValue ?_)
  refine WK.setLoop (C := C) (b := b) (Q := fun v σ' => v = .none ∧ σ' = σ.set D (strSetO C (upTo xs xs.length) xs.length)) (AH.none_in hI) hD (AH.none_ne hI) hl hvl hv hnd hz ⟨rfl, rfl⟩ xs.length 0 (by omega) _ s₁ _ (o1.next y1) fun f σ' s' y' q => ?_
  obtain ⟨v, rfl, rfl, rfl⟩ := q
  exact wpAny_pure (p _ _ _ (y.trans (y1.trans y')) (h D hD))
theorem W.lenStrSet {D : Addr} {S : Str → Bool} {n : Nat} {Q : Value → AH → Prop} (hD : σ D = some (strSetO C S n)) (h : ∀ t, Q (.int n t) σ) : W C b (call (.builtin "len") [.ref D]) σ Q X := by
  intro A s P E o p _
  obtain ⟨ob, es, ep, t, ho, h1, h2, _, _, h3, h4, h5⟩ := o.good.strSetOf hD
  exact call_len_set ho h1 h2 h4 (by have : scanBound = 4096 := rfl; omega) (p _ _ _ (.toks o.good _) (by rw [h5]; exact h _))
end Mine
end
section
open PySem PySem.W PyProof.Rows Builtin
set_option Elab.async false
set_option maxRecDepth 100000
set_option autoImplicit false
set_option linter.unusedVariables false
namespace Mine
variable {C : Cx} {b : Nat} {σ H : AH} {X : Value → AH → Prop}
theorem WK.allLoop {I l : Addr} {vs : List Value} {Q : Value → AH → Prop} (h0 : σ I = none) (hl : σ l = some (.lst vs)) (hv : ∀ v ∈ vs, v = .bool true) (hQ : Q (.bool true) σ) :
    ∀ (k i : Nat), i + k = vs.length → WK C (b + 1) (.builtin "all.loop" ⟨[.ref I], []⟩) (σ.set I (listIt l i)) (isRet Q) := by
  intro k
  induction k with
  | zero =>
    intro i hk A s R o r
    have hi : i = vs.length := by omega
    subst hi
    refine codeAny_builtin F.entry_all_loop ?_
    rw [Around.under_plainId F.plain_all_loop _]
    show wpAny _ A.in1 (pyNext (.ref I) >>= _) _ _ s
    refine wpAny_bind (wpAny_pyNext_list_end o.in1.room.hd (o.good.listIter AH.set_self) (o.good.isList (AH.set_new h0 hl)) (by simp) fun h' hs => ?_)
    have y := After.lose (t := s.toks) o.good AH.set_self (by trivial) hs
    rw [AH.drop_set h0] at y
    exact wpAny_bind (wpAny_rule (wpAny_pure (r _ _ _ y ⟨_, rfl, hQ⟩)))
  | succ k ih =>
    intro i hk A s R o r
    have hlt : i < vs.length := by omega
    have hvi : vs.toArray[i]? = some vs[i] := by simp [hlt]
    refine codeAny_builtin F.entry_all_loop ?_
    rw [Around.under_plainId F.plain_all_loop _]
    show wpAny _ A.in1 (pyNext (.ref I) >>= _) _ _ s
    refine wpAny_bind (wpAny_pyNext_list_item (o.good.listIter AH.set_self) (o.good.isList (AH.set_new h0 hl)) hvi fun h' hit hs => ?_)
    have y := After.upd' (t := s.toks) o.good AH.set_self hs (Mt.listIter hit) (fun c m e => by cases e)
    rw [AH.set_set] at y
    rw [hv _ (List.getElem_mem hlt)]
    refine wpAny_bind (wpAny_holding (show wpAny _ _ (truthy (.bool true)) _ _ _ from wpAny_pure ?_))
    refine wpAny_bind (wpAny_letGo ?_)
    simp only [if_true]
    exact wpAny_pure ⟨plainId_quiet F.plain_all_loop _, ih (i + 1) (by omega) A _ R (o.next y) fun f σ' s' y' q' => r f σ' s' (y.trans y') q'⟩
/-- all of a list of yes -/
theorem W.allYes {l : Addr} {vs : List Value} {Q : Value → AH → Prop} (hl : σ l = some (.lst vs)) (hv : ∀ v ∈ vs, v = .bool true) (h : Q (.bool true) σ) : W C (b + 2) (call (.builtin "all") [.ref l]) σ Q X := by
  intro A s P E o p _
  refine call_function_tree F.kind_all F.plain_all F.entry_all (F.args_all1 _) ?_
  unfold Builtin.«all»
  refine wpAny_bind (m := oneArg "all" _) (wpAny_pure ?_)
  have w1 : W C (b + 1) (pyIter (.ref l)) σ (fun it σ₁ => ∃ I, it = .ref I ∧ σ I = none ∧ σ₁ = σ.set I (listIt l 0)) noX := W.iterList hl fun I hI => ⟨I, rfl, hI, rfl⟩
  have o1 : Ok C (b + 1) A.in1 σ s := ⟨o.good, ⟨o.room.hd, by have := o.room.depth; show A.depth + (b + 1) < 900; omega, by have := o.room.units; show A.units + 1 + 16 * (b + 1) < 9000; omega, o.room.frames⟩, o.tk⟩
  refine wpAny_bind (w1 A.in1 s _ _ o1 (fun it σ₁ s₁ y q => ?_) fun _ _ _ _ q => q.elim)
  obtain ⟨I, rfl, hI, rfl⟩ := q
  refine wpAny_pure ⟨plainId_quiet F.plain_all_loop _, ?_⟩
  refine WK.allLoop (C := C) (b := b) (Q := fun v σ' => v = .bool true ∧ σ' = σ) hI hl hv ⟨rfl, rfl⟩ vs.length 0 (by omega) _ s₁ _ ⟨y.good, ?_, Nat.le_trans o.tk y.tk⟩ fun f σ' s' y' q => ?_
  · have r := (o1.room.next y.step)
    exact ⟨r.hd, by have := o.room.depth; omega, by have := o.room.units; omega, r.frames⟩
  · obtain ⟨v, rfl, rfl, rfl⟩ := q
    exact p _ _ _ (y.trans y') h
end Mine
end
section
open PySem PySem.W PyProof.Rows Builtin
set_option Elab.async false
set_option maxRecDepth 100000
set_option autoImplicit false
set_option linter.unusedVariables false
namespace Mine
variable {C : Cx} {b : Nat} {σ H : AH} {X : Value → AH → Prop}
/-- one turn of the inner clause tells no -/
def InnerNo (C : Cx) (b : Nat) (elt t2 : Expr) (env : Env) (L' : Addr) (n2 : Nat) (J : AH → List (Str × Value) → Prop) : Prop :=
  ∀ (j : Nat) (t : Tok) (H : AH) (m : List (Str × Value)), j < n2 → J H m → H L' = none → W C b (assign t2 env (.int (j : Int) t)) (H.set L' (.ns "dict" m)) (fun _ σ₁ => W C b (eval elt env) σ₁ (fun v σ₃ => ∃ H3 m3, v = .bool false ∧ σ₃ = AH.set H3 L' (.ns "dict" m3) ∧ H3 L' = none ∧ J H3 m3) noX) noX
theorem WK.innerNo {elt t1 t2 iter1 iter2 : Expr} {scope : Scope} {pos : Pos} {env : Env} {D L' I : Addr} {ys : List Value} {n2 : Nat} {J : AH → List (Str × Value) → Prop} {H' : AH} {m' : List (Str × Value)} {Q : Flow → AH → Prop} (ht2 : goodTarget t2 = true)
    (step : InnerNo C b elt t2 env L' n2 J) (hJ : J H' m') (hn : H' L' = none) (hlen : ys.length + n2 ≤ 10000) (hD : (H'.set L' (.ns "dict" m')) D = none) (hI : ((H'.set L' (.ns "dict" m')).set D (.lst ys)) I = none)
    (fin : ∀ H m, J H m → H L' = none → (H.set L' (.ns "dict" m)) D = none → Q .next ((H.set L' (.ns "dict" m)).set D (.lst (ys ++ List.replicate n2 (.bool false))))) :
    WK C b (.compLoop (.ListComp elt [⟨t1, iter1, [], 0⟩, ⟨t2, iter2, [], 0⟩] scope pos) 1 (.ref I) (.ref D) env) (((H'.set L' (.ns "dict" m')).set D (.lst ys)).set I (rangeIt 0 (n2 : Int) 1)) Q := by
  refine WK.listSrc (Src.range (x := 0) (step := 1) (n := n2) ht2) (depth := 1) (gens := [⟨t1, iter1, [], 0⟩, ⟨t2, iter2, [], 0⟩]) rfl rfl (fun j ws σ => ∃ H m, σ = AH.set H L' (.ns "dict" m) ∧ H L' = none ∧ J H m ∧ j ≤ n2 ∧ ws = ys ++ List.replicate j (.bool false)) (fun j ws σ q hDn => trivial) (fun j ws σ q => ?_) (fun j ws σ v hj q hv hDn => ?_) (fun ws σ q hDn => ?_) n2 0 ys _ _ (by omega) hD ⟨hI, by simp⟩ ⟨H', m', rfl, hn, hJ, Nat.zero_le _, by simp⟩
  · obtain ⟨H, m, rfl, _, _, hj, rfl⟩ := q
    rw [List.length_append, List.length_replicate]; omega
  · obtain ⟨H, m, rfl, h1, h2, hj', rfl⟩ := q
    obtain ⟨t, rfl⟩ := hv
    have e : (0 : Int) + (j : Int) * 1 = (j : Int) := by omega
    rw [e]
    refine W.mono (step j t H m hj h2 h1) (fun _ σ₁ q => W.tests_nil ⟨fun h => (by cases h), fun _ => W.mono q (fun v σ₃ q => ?_) fun _ _ x => x⟩) fun _ _ x => x
    obtain ⟨H3, m3, rfl, rfl, g1, g2⟩ := q
    exact ⟨H3, m3, rfl, g1, g2, hj, by rw [List.append_assoc, List.replicate_succ']⟩
  · obtain ⟨H, m, rfl, h1, h2, _, rfl⟩ := q
    exact fin H m h2 h1 hDn
theorem WK.outerNo {elt t1 t2 iter1 iter2 : Expr} {scope : Scope} {pos : Pos} {it : Value} {D L' : Addr} {env : Env} {ι : Type} {st : ι → AH → (AH → Prop) → Prop} {need : AH → Prop} {n : Nat} {item : Nat → ι → Prop} {at_ : Nat → AH → AH → Prop} {Q : Flow → AH → Prop} (ht2 : goodTarget t2 = true)
    (S : Src C b it t1 env ι st need n item at_) (hfs : ∀ x, foldedSetIterable iter2 env x = pure x)
    (Inv : Nat → List Value → AH → Prop) (hneed : ∀ i ys H, Inv i ys H → need H)
    (step : ∀ i ys H m x, i < n → Inv i ys H → H L' = none → item i x → st x (H.set L' (.ns "dict" m)) (fun σ₁ => W C b (eval iter2 env) σ₁ (fun xv σ₂ => ∃ (H' : AH) (m' : List (Str × Value)) (r : Addr) (n2 : Nat) (J : AH → List (Str × Value) → Prop), xv = .ref r ∧ σ₂ = AH.set H' L' (.ns "dict" m') ∧ H' L' = none ∧ H' r = some (rangeO 0 (n2 : Int) 1) ∧ n2 ≤ 1000 ∧ ys.length + n2 ≤ 10000 ∧ J H' m' ∧ InnerNo C b elt t2 env L' n2 J ∧ ∀ H m, J H m → Inv (i + 1) (ys ++ List.replicate n2 (.bool false)) H) noX))
    (fin : ∀ ys H m, Inv n ys H → H L' = none → (H.set L' (.ns "dict" m)) D = none → Q .next ((H.set L' (.ns "dict" m)).set D (.lst ys))) : ∀ (k i : Nat) (ys : List Value) (H : AH) (m : List (Str × Value)) (big : AH), i + k = n → H L' = none → (H.set L' (.ns "dict" m)) D = none → at_ i ((H.set L' (.ns "dict" m)).set D (.lst ys)) big → Inv i ys H →
      WK C b (.compLoop (.ListComp elt [⟨t1, iter1, [], 0⟩, ⟨t2, iter2, [], 0⟩] scope pos) 0 it (.ref D) env) big Q
  | 0, i, ys, H, m, big, hk, hL, hD, ha, hi => by
    have : i = n := by omega
    subst this
    refine WK.listTurn (g := ⟨t1, iter1, [], 0⟩) rfl rfl (W.mono (S.done _ big (fun σ' => Q .next σ') ha (S.needSet _ _ _ (S.needSet _ _ _ (hneed _ _ _ hi) hL) hD) (fin _ _ _ hi hL hD)) (fun r σ₁ q => ?_) fun _ _ x => x)
    obtain ⟨rfl, q⟩ := q
    exact q
  | k + 1, i, ys, H, m, big, hk, hL, hD, ha, hi => by
    have nx := S.next i _ big (fun σ' => ∃ σ₁, σ' = σ₁.set D (.lst ys) ∧ σ₁ D = none ∧ W C b (eval iter2 env) σ₁ (fun xv σ₂ => ∃ (H' : AH) (m' : List (Str × Value)) (r : Addr) (n2 : Nat) (J : AH → List (Str × Value) → Prop), xv = .ref r ∧ σ₂ = AH.set H' L' (.ns "dict" m') ∧ H' L' = none ∧ H' r = some (rangeO 0 (n2 : Int) 1) ∧ n2 ≤ 1000 ∧ ys.length + n2 ≤ 10000 ∧ J H' m' ∧ InnerNo C b elt t2 env L' n2 J ∧ ∀ H m, J H m → Inv (i + 1) (ys ++ List.replicate n2 (.bool false)) H) noX)
      (by omega) ha (S.needSet _ _ _ (S.needSet _ _ _ (hneed _ _ _ hi) hL) hD) fun x hx => S.stFrame x _ _ D (.lst ys) hD trivial (S.stMono _ _ _ _ (fun σ' q n => ⟨σ', rfl, n, q⟩) (step i ys H m x (by omega) hi hL hx))
    refine WK.listTurn (g := ⟨t1, iter1, [], 0⟩) rfl rfl (W.mono nx (fun r σ₁ q => ?_) fun _ _ x => x)
    obtain ⟨v, rfl, q⟩ := q
    refine W.mono q (fun _ σ₂ q => W.mono q (fun _ σ₃ q => ?_) fun _ _ x => x) fun _ _ x => x
    obtain ⟨σ', ha', σ₁, rfl, hD1, q⟩ := q
    refine W.tests_nil ⟨fun h => (by cases h), fun _ => ?_⟩
    have q1 : W C b (eval iter2 env) (σ₁.set D (.lst ys)) (fun xv σ₂ => ∃ (H' : AH) (m' : List (Str × Value)) (r : Addr) (n2 : Nat) (J : AH → List (Str × Value) → Prop), xv = .ref r ∧ σ₂ = (AH.set H' L' (.ns "dict" m')).set D (.lst ys) ∧ (AH.set H' L' (.ns "dict" m')) D = none ∧ H' L' = none ∧ H' r = some (rangeO 0 (n2 : Int) 1) ∧ n2 ≤ 1000 ∧ ys.length + n2 ≤ 10000 ∧ J H' m' ∧ InnerNo C b elt t2 env L' n2 J ∧ ∀ H m, J H m → Inv (i + 1) (ys ++ List.replicate n2 (.bool false)) H) noX :=
      W.frame hD1 trivial (W.mono q (fun xv σ₂ ⟨H', m', r, n2, J, e1, e2, e3, e4, e5, e6, e7, e8, e9⟩ n => by subst e2; exact ⟨H', m', r, n2, J, e1, rfl, n, e3, e4, e5, e6, e7, e8, e9⟩) fun _ _ x => x)
    have eg : ([⟨t1, iter1, [], 0⟩, ⟨t2, iter2, [], 0⟩] : List Comprehension)[0 + 1]? = some ⟨t2, iter2, [], 0⟩ := rfl
    rw [eg]
    dsimp only
    refine W.mono (S.frame _ b _ _ _ _ _ ha' q1) (fun xv big2 q => ⟨hfs, rfl, ?_⟩) fun _ _ x => x
    obtain ⟨_, ha2, H', m', r, n2, J, rfl, rfl, hD2, hL2, hr2, hz1, hz2, hJ2, hin, hi2⟩ := q
    have q2 : W C b (pyIter (.ref r)) ((AH.set H' L' (.ns "dict" m')).set D (.lst ys)) (fun it' σ' => ∃ I, it' = .ref I ∧ ((AH.set H' L' (.ns "dict" m')).set D (.lst ys)) I = none ∧ σ' = ((AH.set H' L' (.ns "dict" m')).set D (.lst ys)).set I (rangeIt 0 (n2 : Int) 1)) noX :=
      W.iterRange (AH.set_new hD2 (AH.set_new hL2 hr2)) (small_one (by omega) (by omega) (by omega) (by omega)) fun I hI => ⟨I, rfl, hI, by rw [show Builtin.Range.rangeSize 0 (n2 : Int) 1 = (n2 : Int) from size_zero (by omega)]⟩
    refine W.mono (S.frame _ b _ _ _ _ _ ha2 q2) (fun it' big3 q => ?_) fun _ _ x => x
    obtain ⟨_, ha3, I, rfl, hI, rfl⟩ := q
    have inner := WK.innerNo (C := C) (b := b) (elt := elt) (t1 := t1) (t2 := t2) (iter1 := iter1) (iter2 := iter2) (scope := scope) (pos := pos) (ys := ys) (env := env) (Q := fun _ σ' => ∃ H'' m'', σ' = (AH.set H'' L' (.ns "dict" m'')).set D (.lst (ys ++ List.replicate n2 (.bool false))) ∧ H'' L' = none ∧ (AH.set H'' L' (.ns "dict" m'')) D = none ∧ J H'' m'') ht2 hin hJ2 hL2 hz2 hD2 hI (fun H m e1 e2 e3 => ⟨H, m, rfl, e2, e3, e1⟩)
    have q3 : W C b (runOwn (.compStart (.ListComp elt [⟨t1, iter1, [], 0⟩, ⟨t2, iter2, [], 0⟩] scope pos) 1 (.ref I) (.ref D) env) env) (((AH.set H' L' (.ns "dict" m')).set D (.lst ys)).set I (rangeIt 0 (n2 : Int) 1)) (fun _ σ' => ∃ H'' m'', σ' = (AH.set H'' L' (.ns "dict" m'')).set D (.lst (ys ++ List.replicate n2 (.bool false))) ∧ H'' L' = none ∧ (AH.set H'' L' (.ns "dict" m'')) D = none ∧ J H'' m'') noX := by
      refine W.runOwn_ (WK.compStart (g := ⟨t2, iter2, [], 0⟩) (gs := []) rfl rfl rfl rfl rfl (fun _ => rfl) inner ?_)
      intro A s P E o p x
      exact wpAny_pyIter_rangeiter (o.good.at_ _ _ AH.set_self) (p _ _ _ (.refl o.good) inner)
    refine W.mono (S.frame _ b _ _ _ _ _ ha3 q3) (fun _ big4 q => ?_) fun _ _ x => x
    obtain ⟨_, ha4, H'', m'', rfl, e1, e2, e3⟩ := q
    exact WK.outerNo ht2 S hfs Inv hneed step fin k (i + 1) _ H'' m'' big4 (by omega) e1 e2 ha4 (hi2 H'' m'' e3)
section
variable {env : Env}
/-- [elt for t1 in range(n) for t2 in range(..)], where each tells no -/
theorem W.eCompNo {elt t1 t2 iter1 iter2 : Expr} {scope : Scope} {pos : Pos} {cs : List (Str × Addr)} {Q : Value → AH → Prop} (ht1 : goodTarget t1 = true) (ht2 : goodTarget t2 = true) (hs : ∀ x, foldedSetIterable iter1 env x = pure x) (hclos : closureFor scope env = pure cs) (hkind : scope.kind = .function)
    (hnames : ∀ x ∈ scope.names, x.2 = .local → scope.names.lookup x.1 = some .local) (hcell : cellNames scope.names = []) (hfs : ∀ L' x, foldedSetIterable iter2 (compEnvC scope cs L' env) x = pure x)
    (h : W C b (eval iter1 env) σ (fun x σ₁ => ∃ (H₁ : AH) (L : Addr) (o₁ : AO) (r : Addr) (n : Nat), x = .ref r ∧ σ₁ = AH.set H₁ L o₁ ∧ o₁.fr ∧ H₁ L = none ∧ H₁ r = some (rangeO 0 (n : Int) 1) ∧ n ≤ 1000 ∧ ∃ Inv : Nat → List Value → AH → Prop, Inv 0 [] H₁ ∧
      (∀ L' i ys H m t, i < n → Inv i ys H → H L' = none → W C b (assign t1 (compEnvC scope cs L' env) (.int (i : Int) t)) (H.set L' (.ns "dict" m)) (fun _ σ₁ => W C b (eval iter2 (compEnvC scope cs L' env)) σ₁ (fun xv σ₂ => ∃ (H' : AH) (m' : List (Str × Value)) (r : Addr) (n2 : Nat) (J : AH → List (Str × Value) → Prop), xv = .ref r ∧ σ₂ = AH.set H' L' (.ns "dict" m') ∧ H' L' = none ∧ H' r = some (rangeO 0 (n2 : Int) 1) ∧ n2 ≤ 1000 ∧ ys.length + n2 ≤ 10000 ∧ J H' m' ∧ InnerNo C b elt t2 (compEnvC scope cs L' env) L' n2 J ∧ ∀ H m, J H m → Inv (i + 1) (ys ++ List.replicate n2 (.bool false)) H) noX) noX) ∧
      (∀ D ys H, Inv n ys H → H D = none → (H.set D (.lst ys)) L = none → Q (.ref D) ((H.set D (.lst ys)).set L o₁))) noX) :
    W C b (eval (.ListComp elt [⟨t1, iter1, [], 0⟩, ⟨t2, iter2, [], 0⟩] scope pos) env) σ Q X := by
  rw [eval_ListComp]
  refine W.comp_ (e := .ListComp elt [⟨t1, iter1, [], 0⟩, ⟨t2, iter2, [], 0⟩] scope pos) (g := ⟨t1, iter1, [], 0⟩) (gs := [⟨t2, iter2, [], 0⟩]) rfl hs hclos hkind hnames hcell (W.mono h (fun x σ₁ q => ?_) fun _ _ x => x)
  obtain ⟨H₁, L, o₁, r, n, rfl, rfl, hf, hL, hr, hn, Inv, h0, step, fin⟩ := q
  refine W.op hL (W.iterRange hr (small_one (by omega) (by omega) (by omega) (by omega)) fun I hI hL2 => ?_) hf
  rw [show Builtin.Range.rangeSize 0 (n : Int) 1 = (n : Int) from size_zero (by omega)] at hL2 ⊢
  refine W.op hL2 (W.newList_ (hz := Nat.zero_le _) fun D hD hL3 => ?_) hf
  intro L' hL'
  have h1 : L' ≠ L := AH.none_ne hL'
  have h2 : ((H₁.set I (rangeIt 0 (n : Int) 1)).set D (.lst [])) L' = none := AH.none_in hL'
  rw [AH.set_comm (Ne.symm h1)]
  have hLD : L' ≠ D := AH.none_ne h2
  have hLI : L' ≠ I := AH.none_ne (AH.none_in h2)
  have hDI : D ≠ I := AH.none_ne hD
  have hL0 : H₁ L' = none := AH.none_in (AH.none_in h2)
  have hD0 : H₁ D = none := AH.none_in hD
  have hm := WK.outerNo (C := C) (b := b) (elt := elt) (t1 := t1) (t2 := t2) (iter1 := iter1) (iter2 := iter2) (scope := scope) (pos := pos) (it := .ref I) (D := D) (L' := L') (env := compEnvC scope cs L' env) (Q := fun _ σ₄ => ∃ H₄ ys m', σ₄ = AH.set (H₄.set D (.lst ys)) L' (.ns "dict" m') ∧ (H₄.set D (.lst ys)) L' = none ∧ H₄ D = none ∧ Inv n ys H₄)
    ht2 (Src.range (x := 0) (step := 1) (n := n) ht1) (hfs L') Inv (fun i ys H q => trivial) (fun i ys H m x hi q hLn hx => by
      obtain ⟨t, rfl⟩ := hx
      have e : (0 : Int) + (i : Int) * 1 = (i : Int) := by omega
      rw [e]
      exact step L' i ys H m t hi q hLn) (fun ys H m q hLn hDn => ⟨H, ys, m, AH.set_comm (Ne.symm (AH.none_ne hDn)), by rw [AH.set_ne (Ne.symm (AH.none_ne hDn))]; exact hLn, AH.none_in hDn, q⟩) n 0 [] H₁ [] (((H₁.set L' (.ns "dict" [])).set D (.lst [])).set I (rangeIt 0 (n : Int) 1)) (by omega) hL0 (by rw [AH.set_ne (Ne.symm hLD)]; exact hD0) ⟨by rw [AH.set_ne (Ne.symm hDI), AH.set_ne (Ne.symm hLI)]; exact hI, by simp⟩ h0
  have ev : ((H₁.set I (rangeIt 0 (n : Int) 1)).set D (.lst [])).set L' (.ns "dict" []) = ((H₁.set L' (.ns "dict" [])).set D (.lst [])).set I (rangeIt 0 (n : Int) 1) := by
    rw [AH.set_comm (Ne.symm hLD), AH.set_comm (Ne.symm hLI), AH.set_comm (Ne.symm hDI)]
  refine WK.frame' (by rw [AH.set_ne (Ne.symm h1)]; exact hL3) hf (WK.mono (Q := fun _ σ₄ => ∃ H₄ ys m', σ₄ = AH.set (H₄.set D (.lst ys)) L' (.ns "dict" m') ∧ (H₄.set D (.lst ys)) L' = none ∧ H₄ D = none ∧ Inv n ys H₄) ?_ (fun _ σ₄ q n => ?_))
  · rw [ev]
    refine WK.compStart (g := ⟨t1, iter1, [], 0⟩) (gs := [⟨t2, iter2, [], 0⟩]) rfl rfl rfl rfl rfl (fun _ => rfl) hm ?_
    intro A s P E o p x
    exact wpAny_pyIter_rangeiter (o.good.at_ _ _ AH.set_self) (p _ _ _ (.refl o.good) hm)
  · obtain ⟨H₄, ys, m', rfl, n2, n3, q⟩ := q
    rw [AH.set_comm h1, AH.drop_set (by rw [AH.set_ne h1]; exact n2)]
    exact fin D ys H₄ q n3 (AH.none_in n)
end
end Mine
end
open PySem PySem.W PyProof.Rows Builtin
set_option Elab.async false
set_option maxRecDepth 100000
set_option maxHeartbeats 8000000
set_option autoImplicit false
set_option linter.unusedVariables false
namespace Mine
theorem fillAll : PySem.Challenge.rw_eq0018_03 = PySem.Challenge.rw_eq0018_03 ∧ hd.heap_39 = hd.heap_39 := by k_fill; exact ⟨rfl, rfl⟩
-- look
local macro_rules | `(tactic| lcf_look) => `(tactic| first
  | with_reducible assumption
  | exact AH.set_self
  | refine AH.set_new (by with_reducible assumption) ?_; lcf_look
  | refine sub_get (by with_reducible assumption) ?_; lcf_look)
-- a name's value
local macro_rules | `(tactic| lcg_calm) => `(tactic| first
  | exact lookHere
  | with_reducible assumption
  | (refine' lookThere ?h1 ?h2; (case h1 => kernel_rfl); (case h2 => lcg_calm)))
-- one step of the syntax
local macro_rules | `(tactic| k_data) => `(tactic| first
  | (with_reducible show W _ _ (loadName _ _) _ _ _; first
      | (with_reducible refine' W.lLocal (hv := ?hv) (hl := ?a) (hk := ?b) (hx := ?c) ?_; (case c => kernel_rfl); (case b => kernel_rfl); (case a => kernel_rfl); (case hv => first | lcg_calm | with_unfolding_all rfl))
      | (with_reducible refine' W.globK (hK := by with_reducible assumption) (e := ?e) (hg := ?a) (hk := ?b) (hl := ?c) ?_; (case c => kernel_rfl); (case e => k_is); (case b => kernel_rfl); (case a => kernel_rfl))
      | (with_reducible refine' W.builtinK (hK := by with_reducible assumption) (e := ?e) (hv := ?hv) (hg := ?a) (hb := ?d) (hn := ?n) (hk := ?b) (hl := ?c) ?_; (case c => kernel_rfl); (case e => k_is); (case hv => boot_by_name); (case n => decide); (case d => kernel_rfl); (case b => kernel_rfl); (case a => kernel_rfl))
      | (with_reducible refine' W.lCell (hc := ?hc) (hv := ?hv) (hk := ?b) (hl := ?c) ?_; (case c => with_unfolding_all rfl); (case b => kernel_rfl); (case hc => with_unfolding_all rfl); (case hv => lcf_look))
      | (with_reducible refine' W.lFree (hc := ?hc) (hv := ?hv) (hk := ?b) (hl := ?c) (hn := by decide) ?_; (case c => kernel_rfl); (case b => kernel_rfl); (case hc => with_unfolding_all rfl); (case hv => lcf_look)))
  | (with_reducible show W _ _ (storeName _ _ _) _ _ _; first
      | (with_reducible refine W.cStore (hc := by with_unfolding_all rfl) (hv := by lcf_look) (hL := by with_reducible assumption) (hk := by kernel_rfl) (hl := by kernel_rfl) (fun _ => ?_))
      | with_reducible refine W.lStore (hl := by kernel_rfl) (hx := by kernel_rfl) (hp := by kernel_rfl) ?_)
  | (with_reducible show W _ _ (PySem.eval _ _) _ _ _; first
      | with_reducible refine W.eOr2 ?_
      | with_reducible refine W.eAnd2 ?_
      | with_reducible refine W.eAnd3 ?_
      | with_reducible refine W.eCallStar (hp := by kernel_rfl) ?_
      | with_reducible refine W.eMethod0 (hs := by kernel_rfl) (hl := by kernel_rfl) (hst := by kernel_rfl) ?_
      | with_reducible refine W.eCall0 (hp := by kernel_rfl) (hs := by kernel_rfl) ?_
      | with_reducible refine W.eMethodK (hs := by kernel_rfl) (hl := by kernel_rfl) (hst := by kernel_rfl) (hk := by kernel_rfl) ?_
      | with_reducible refine W.eCallK (hp := by kernel_rfl) (hs := by kernel_rfl) (hk := by kernel_rfl) ?_
      | with_reducible refine W.eName (hd := by kernel_rfl) ?_
      | with_reducible refine W.eInt fun _ => ?_
      | with_reducible refine W.eStr fun _ => ?_
      | with_reducible refine W.eBool ?_
      | with_reducible refine W.eNone ?_
      | with_reducible refine W.eAttr (hs := by kernel_rfl) ?_
      | with_reducible refine W.eBin ?_
      | with_reducible refine W.eUn ?_
      | with_reducible refine W.eIf ?_
      | with_reducible refine W.eCmp (hm := by kernel_rfl) ?_
      | with_reducible refine W.eSub ?_
      | with_reducible refine W.eList ?_
      | with_reducible refine W.eTuple ?_
      | with_reducible refine W.eSlice ?_)
  | (with_reducible show W _ _ (PySem.exec _ _) _ _ _; first
      | with_reducible refine W.sReturn ?_
      | with_reducible refine W.sIf ?_
      | with_reducible refine W.sAssign (hs := by with_unfolding_all rfl) (ht := by kernel_rfl) (hw := by kernel_rfl) ?_
      | with_reducible refine W.sExpr (hi := by kernel_rfl) (hs := by kernel_rfl) ?_
      | with_reducible refine W.sAugItem (hi := by kernel_rfl) ?_
      | with_reducible refine W.sAugName ?_
      | with_reducible refine W.sWhile ?_
      | with_reducible refine W.sContinue ?_)
  | (with_reducible show W _ _ (PySem.isTrue _ _ _) _ _ _; first
      | with_reducible refine W.testCompare1 (hm := by kernel_rfl) ?_
      | with_reducible refine W.testCompare2 (hm := by kernel_rfl) ?_
      | with_reducible refine W.testNot ?_
      | with_reducible refine W.testBool ?_
      | with_reducible refine W.testValue (hp := by kernel_rfl) ?_)
  | (with_reducible show W _ _ (setAttr _ _ _) _ _ _; (with_reducible refine' W.setSelfK (hK := by with_reducible assumption) (hd := by with_reducible assumption) (hx := by with_reducible assumption) (hL := by with_reducible assumption) (hk := ?hk) (hz := by with_unfolding_all exact Nat.le_of_ble_eq_true rfl) (ho := by with_unfolding_all exact trivial) (fun _ _ => ?_); (case hk => kernel_rfl)))
  | (with_reducible show W _ _ (unaryOp .Not _) _ _ _; with_reducible refine W.notOp' ?_)
  | (with_reducible show thenRest _ _ _ _ _ _ .next _; with_reducible refine thenNext ?_)
  | (with_reducible show thenRest _ _ _ _ _ _ (.ret _) _; with_reducible refine thenRet ?_)
  | (with_reducible show thenRest _ _ _ _ _ _ .cont _; with_reducible refine thenCont ?_)
  | (with_reducible show Done _ _ (.ret _) _; with_reducible refine Done.ret (by with_reducible assumption) ?_)
  | (with_reducible show Done _ _ .next _; with_reducible refine Done.next (by with_reducible assumption) ?_)
  | (with_reducible show two _ _ _ _ _ _ _ _; with_reducible refine twoI ?_)
  | (with_reducible show one _ _ _ _ _ _ _; with_reducible refine oneI ?_)
  | (with_reducible show W _ _ (tests _ []) _ _ _; with_reducible refine W.tests_nil ?_)
  | (with_reducible show W _ _ (tests _ [_]) _ _ _; with_reducible refine W.tests_one ?_)
  | (with_reducible show W _ _ (getMethod _ _ _) _ _ _; first
      | with_reducible refine mItems (hd := by lcf_look) ?_
      | with_reducible refine mAppend (hd := by lcf_look) ?_
      | with_reducible refine mPop (hd := by lcf_look) ?_
      | with_reducible refine mExtend (hd := by lcf_look) ?_
      | with_reducible refine mReverse (hd := by lcf_look) ?_)
  | (with_reducible show W _ _ (calleeOf _ _ _ _ _) _ _ _; with_reducible refine W.callee (hf := by kernel_rfl) ?_)
  | (with_reducible show W _ _ (compareOp .In _ _) _ _ _; with_reducible refine W.inTupStr (ht := by lcf_look) (hv := by first | exact StrsAre.nil | exact StrsAre.cons _ _ StrsAre.nil | exact StrsAre.cons _ _ (StrsAre.cons _ _ StrsAre.nil)) ?_)
  | (with_reducible show ∃ _, Ty _ _ _ ∧ _; first
      | with_reducible refine subLst (hl := by lcf_look) ?_
      | with_reducible refine subTup (hl := by lcf_look) ?_
      | with_reducible refine subDct (hl := by lcf_look) ?_
      | with_reducible refine subStr ?_)
  | (with_reducible show Kp _ (.builtin _) _ ∧ _; with_reducible refine kpB ?_)
  | (with_reducible show Kp _ (.type _) _ ∧ _; with_reducible refine kpT ?_)
  | (with_reducible show W _ _ (execs (_ :: _) _) _ _ _; with_reducible refine W.execs_cons ?_)
  | (with_reducible show W _ _ (execs [] _) _ _ _; with_reducible refine W.execs_nil ?_)
  | (with_reducible show W _ _ (assign (.Name _ _) _ _) _ _ _; with_reducible refine W.aName ?_)
  | (with_reducible show W _ _ (bindName _ _ _) _ _ _; with_reducible refine W.bindName_ ?_)
  | (with_reducible show W _ _ (assign (.Attribute _ _ _) _ _) _ _ _; with_reducible refine W.aAttr ?_)
  | (with_reducible show W _ _ (assign (.Subscript _ _ _) _ _) _ _ _; with_reducible refine W.aItem ?_)
  | (with_reducible show W _ _ (allTrue .And (_ :: _) _) _ _ _; with_reducible refine W.and_cons ?_)
  | (with_reducible show W _ _ (allTrue .Or (_ :: _) _) _ _ _; with_reducible refine W.or_cons ?_)
  | (with_reducible show W _ _ (allTrue _ [] _) _ _ _; with_reducible refine W.all_nil ?_)
  | (with_reducible show W _ _ (spliced _) _ _ _; first
      | with_reducible refine W.args_nil ?_
      | with_reducible refine W.args_cons (hs := by kernel_rfl) ?_)
  | (with_reducible show W _ _ (evalAll _) _ _ _; first
      | with_reducible refine W.kws_nil ?_
      | with_reducible refine W.kws_cons ?_)
  | (with_reducible show W _ _ (valueOrNone _) _ _ _; first
      | with_reducible refine W.vnNone ?_
      | with_reducible refine W.vnSome ?_)
  | (with_reducible show W _ _ (truthy (.bool _)) _ _ _; with_reducible refine W.trBool ?_)
  | (with_reducible show W _ _ (truthy (.int _ _)) _ _ _; with_reducible refine W.trInt ?_)
  | (with_reducible show W _ _ (truthy .none) _ _ _; with_reducible refine W.trNone ?_)
  | (with_reducible show W _ _ (binaryOp .Add (.int _ _) (.int _ _)) _ _ _; with_reducible refine W.addInt fun _ => ?_)
  | (with_reducible show W _ _ (inplaceOp .Add (.int _ _) (.int _ _)) _ _ _; with_reducible refine W.iaddInt fun _ => ?_)
  | (with_reducible show W _ _ (binaryOp .Sub (.int _ _) (.int _ _)) _ _ _; with_reducible refine W.subInt fun _ => ?_)
  | (with_reducible show W _ _ (unaryOp .USub (.int _ _)) _ _ _; with_reducible refine W.negInt fun _ => ?_)
  | (with_reducible show W _ _ (compareOp .Lt (.int _ _) (.int _ _)) _ _ _; with_reducible refine W.ltInt ?_)
  | (with_reducible show W _ _ (compareOp .Gt (.int _ _) (.int _ _)) _ _ _; with_reducible refine W.gtInt ?_)
  | (with_reducible show W _ _ (compareOp .LtE (.int _ _) (.int _ _)) _ _ _; with_reducible refine W.leInt ?_)
  | (with_reducible show W _ _ (compareOp .Eq (.int _ _) (.int _ _)) _ _ _; with_reducible refine W.eqInt ?_)
  | (with_reducible show W _ _ (compareOp .NotEq (.int _ _) (.int _ _)) _ _ _; with_reducible refine W.neInt ?_)
  | (with_reducible show W _ _ (compareOp .Is _ .none) _ _ _; with_reducible refine W.isNone ?_)
  | (with_reducible show W _ _ (compareOp .IsNot _ .none) _ _ _; with_reducible refine W.isNotNone ?_)
  | (with_reducible show W _ _ (getItem (.ref _) (.int _ _)) _ _ _; first
      | with_reducible refine W.itemList (hl := by lcf_look) (h0 := by decide) (hfit := by decide) (hx := by with_unfolding_all rfl) ?_
      | with_reducible refine W.itemTup (ht := by lcf_look) (h0 := by decide) (hfit := by decide) (hx := by with_unfolding_all rfl) ?_)
  | (with_reducible show W _ _ (call (.builtin "len") _ _) _ _ _; with_reducible refine W.lenList (hl := by lcf_look) (hz := by first | omega | decide) fun _ => ?_)
  | (with_reducible show W _ _ (newList _) _ _ _; (with_reducible refine W.op (ho := by with_unfolding_all exact trivial) (by with_reducible assumption) (W.newList_ (hz := by simp only [List.length_cons, List.length_nil, sizeLine_eq]; omega) fun _ _ _ => ?_)))
  | (with_reducible show W _ _ (newTuple _) _ _ _; (with_reducible refine W.op (ho := by with_unfolding_all exact trivial) (by with_reducible assumption) (W.newTuple_ (hz := by simp only [List.length_cons, List.length_nil, sizeLine_eq]; omega) fun _ _ _ => ?_)))
  | (with_reducible show (_ = true → _) ∧ (_ = false → _); first
      | with_reducible refine ifT (by with_unfolding_all first | decide | rfl) ?_
      | with_reducible refine ifF (by with_unfolding_all first | decide | rfl) ?_)
  | (with_reducible show (_ = false → _) ∧ (_ = true → _); first
      | with_reducible refine ifT' (by with_unfolding_all first | decide | rfl) ?_
      | with_reducible refine ifF' (by with_unfolding_all first | decide | rfl) ?_))
-- texts
local macro_rules | `(tactic| k_data) => `(tactic| first
  | (with_reducible show W _ _ (PySem.eval (Expr.JoinedStr [_] _) _) _ _ _; with_reducible refine W.join1 ?_)
  | (with_reducible show W _ _ (PySem.eval (Expr.JoinedStr (_ :: _ :: _) _) _) _ _ _; with_reducible refine W.joinN ?_)
  | (with_reducible show W _ _ (PySem.eval (Expr.FormattedValue _ (-1) none _) _) _ _ _; with_reducible refine W.eFmt ?_)
  | (with_reducible show W _ _ (PySem.eval (Expr.FormattedValue _ 114 none _) _) _ _ _; with_reducible refine W.eFmtR ?_)
  | (with_reducible show W _ _ (joinParts _ (evalEach (_ :: _) _)) _ _ _; with_reducible refine W.joinCons ?_)
  | (with_reducible show W _ _ (getMethod (.str _ _) _ _) _ _ _; first
      | with_reducible refine mStarts ?_
      | with_reducible refine mEnds ?_
      | with_reducible refine mJoin ?_)
  | (with_reducible show W _ _ (compareOp .Eq (.str _ _) (.str _ _)) _ _ _; with_reducible refine W.eqStr ?_)
  | (with_reducible show W _ _ (compareOp .NotEq (.str _ _) (.str _ _)) _ _ _; with_reducible refine W.neStr ?_)
  | (with_reducible show W _ _ (compareOp .NotEq (.bool _) (.bool _)) _ _ _; with_reducible refine W.neBool ?_)
  | (with_reducible show W _ _ (compareOp .Eq (.bool _) (.bool _)) _ _ _; with_reducible refine W.eqBool ?_))
section
variable {C : Cx} {b : Nat} {H : AH}

theorem make_this (hK : C.K = hd.heap_39 C.w.params) : WCall C b (.ref 336) [] [] H (fun r H' => ∃ a, r = .ref a ∧ Sub H H' ∧ ObjAt H' a 336 []) := by
  refine WK.make0 (by rw [hK]; kernel_rfl) (by rw [hK]; kernel_rfl) fun x d hd hx => ?_
  exact ⟨x, rfl, (Sub.set hd).trans (Sub.set hx), d, AH.set_self, AH.set_new hx AH.set_self⟩
theorem make_root (hK : C.K = hd.heap_39 C.w.params) : WCall C b (.ref 275) [] [] H (fun r H' => ∃ a, r = .ref a ∧ Sub H H' ∧ ObjAt H' a 275 []) := by
  refine WK.make0 (by rw [hK]; kernel_rfl) (by rw [hK]; kernel_rfl) fun x d hd hx => ?_
  exact ⟨x, rfl, (Sub.set hd).trans (Sub.set hx), d, AH.set_self, AH.set_new hx AH.set_self⟩

abbrev dm (v p c : Value) : List (Str × Value) := [(Str.ofString "_value", v), (Str.ofString "path", p), (Str.ofString "context", c)]
/-- an object that counts as true -/
def Plain (C : Cx) (σ : AH) (p : Value) : Prop := ∃ a Cl m, p = .ref a ∧ ObjAt σ a Cl m ∧ plainTruth C.K Cl = true
/-- what may be a context -/
def Ctx (σ : AH) (c : Value) : Prop := c = .none ∨ ∃ a m, c = .ref a ∧ ObjAt σ a 212 m

theorem init_datum {x d : Addr} {v p c : Value} {kw : List (Str × Value)} (hK : C.K = hd.heap_39 C.w.params) (hd' : H d = none) (hx : (H.set d (.fs [])) x = none) (hp : Plain C H p) (hc : Ctx H c)
    (hkw : kw = [(Str.ofString "path", p), (Str.ofString "context", c)] ∨ kw = [(Str.ofString "context", c), (Str.ofString "path", p)]) :
    WCall C (b + 12) (.ref 172) [.ref x, v] kw ((H.set d (.fs [])).set x (.inst 212 d)) (fun r σ' => r = .none ∧ ∃ H', σ' = (H'.set d (.fs (dm v p c))).set x (.inst 212 d) ∧ H' d = none ∧ (H'.set d (.fs (dm v p c))) x = none ∧ Sub H H') := by
  obtain ⟨pa, pC, pm, rfl, hpo, hpt⟩ := hp
  rcases hkw with rfl | rfl
  · refine WK.fnD (binds := [(Str.ofString "self", .ref x), (Str.ofString "value", v), (Str.ofString "path", .ref pa), (Str.ofString "context", c)])
      (mm := [(Str.ofString "context", c), (Str.ofString "path", .ref pa), (Str.ofString "value", v), (Str.ofString "self", .ref x)]) (T := 165) (by rw [hK]; k_is) (by rw [hK]; k_is) rfl (by dsimp only) (by dsimp only) (by dsimp only) (by rw [hK]; k_is) rfl rfl rfl rfl rfl rfl fun L hL => ?_
    repeat k_data
    refine W.trObj rfl (((hpo.set (by assumption)).set (by assumption)).set (by assumption)) hpt ?_
    repeat k_data
    rcases hc with rfl | ⟨ca, cm, rfl, hco⟩
    · repeat k_data
      exact ⟨rfl, H, rfl, hd', by assumption, .refl _⟩
    · repeat k_data
      refine W.isInstO hK (((hco.set (by assumption)).set (by assumption)).set (by assumption)) (r := true) (by kernel_rfl) (by kernel_rfl) ?_
      repeat k_data
      exact ⟨rfl, H, rfl, hd', by assumption, .refl _⟩
  · refine WK.fnD (binds := [(Str.ofString "self", .ref x), (Str.ofString "value", v), (Str.ofString "path", .ref pa), (Str.ofString "context", c)])
      (mm := [(Str.ofString "context", c), (Str.ofString "path", .ref pa), (Str.ofString "value", v), (Str.ofString "self", .ref x)]) (T := 165) (by rw [hK]; k_is) (by rw [hK]; k_is) rfl (by dsimp only) (by dsimp only) (by dsimp only) (by rw [hK]; k_is) rfl rfl rfl rfl rfl rfl fun L hL => ?_
    repeat k_data
    refine W.trObj rfl (((hpo.set (by assumption)).set (by assumption)).set (by assumption)) hpt ?_
    repeat k_data
    rcases hc with rfl | ⟨ca, cm, rfl, hco⟩
    · repeat k_data
      exact ⟨rfl, H, rfl, hd', by assumption, .refl _⟩
    · repeat k_data
      refine W.isInstO hK (((hco.set (by assumption)).set (by assumption)).set (by assumption)) (r := true) (by kernel_rfl) (by kernel_rfl) ?_
      repeat k_data
      exact ⟨rfl, H, rfl, hd', by assumption, .refl _⟩

theorem make_datum {v p c : Value} {kw : List (Str × Value)} (hK : C.K = hd.heap_39 C.w.params) (hp : Plain C H p) (hc : Ctx H c)
    (hkw : kw = [(Str.ofString "path", p), (Str.ofString "context", c)] ∨ kw = [(Str.ofString "context", c), (Str.ofString "path", p)]) :
    WCall C (b + 13) (.ref 212) [v] kw H (fun r H' => ∃ a, r = .ref a ∧ Sub H H' ∧ ObjAt H' a 212 (dm v p c)) := by
  refine WK.make (fI := 172) (by rw [hK]; kernel_rfl) (by rw [hK]; kernel_rfl) (by rw [hK]; kernel_rfl) fun x d hd' hx => ?_
  refine WK.mono (init_datum hK hd' hx hp hc hkw) fun f σ' q => ?_
  obtain ⟨v', rfl, rfl, H', rfl, h1, h2, h3⟩ := q
  exact ⟨_, rfl, rfl, x, rfl, (h3.trans (Sub.set h1)).trans (Sub.set h2), d, AH.set_self, AH.set_new h2 AH.set_self⟩
end
section
variable {C : Cx} {b : Nat} {H : AH}
/-- a path of places -/
def IndexAt (σ : AH) (a : Addr) (vs : List Value) : Prop := ∃ v, ObjAt σ a 820 [(Str.ofString "indices", v)] ∧ TupAt σ v vs
theorem IndexAt.sub {σ σ' : AH} {a : Addr} {vs : List Value} (h : IndexAt σ a vs) (s : Sub σ σ') : IndexAt σ' a vs := let ⟨v, h1, h2⟩ := h; ⟨v, h1.sub s, h2.sub s⟩
theorem make_index1 {u : Value} (hK : C.K = hd.heap_39 C.w.params) : WCall C (b + 5) (.ref 820) [u] [] H (fun r H' => ∃ a, r = .ref a ∧ Sub H H' ∧ IndexAt H' a [u]) := by
  refine WK.make (fI := 735) (by rw [hK]; kernel_rfl) (by rw [hK]; kernel_rfl) (by rw [hK]; kernel_rfl) fun x d hd' hx => ?_
  refine WK.initS (xn := Str.ofString "indices") (binds := [(Str.ofString "self", .ref x)]) (mm := [(Str.ofString "self", .ref x)]) (rest := [u]) hd' hx (by rw [hK]; k_is) (by rw [hK]; k_is) rfl (by dsimp only) (by dsimp only) (by dsimp only) rfl (by simp [sizeLine_eq]) (fun T => rfl) rfl (fun T => rfl) fun T L hT h1 h2 hL => ?_
  repeat k_data
  exact ⟨rfl, x, rfl, (((Sub.set hT).trans (Sub.set h1)).trans (Sub.set (by assumption))), .ref T, ⟨d, AH.set_self, AH.set_new (by assumption) AH.set_self⟩, T, rfl, AH.set_new (by assumption) (AH.set_new h1 AH.set_self)⟩
theorem make_index2 {u w : Value} (hK : C.K = hd.heap_39 C.w.params) : WCall C (b + 5) (.ref 820) [u, w] [] H (fun r H' => ∃ a, r = .ref a ∧ Sub H H' ∧ IndexAt H' a [u, w]) := by
  refine WK.make (fI := 735) (by rw [hK]; kernel_rfl) (by rw [hK]; kernel_rfl) (by rw [hK]; kernel_rfl) fun x d hd' hx => ?_
  refine WK.initS (xn := Str.ofString "indices") (binds := [(Str.ofString "self", .ref x)]) (mm := [(Str.ofString "self", .ref x)]) (rest := [u, w]) hd' hx (by rw [hK]; k_is) (by rw [hK]; k_is) rfl (by dsimp only) (by dsimp only) (by dsimp only) rfl (by simp [sizeLine_eq]) (fun T => rfl) rfl (fun T => rfl) fun T L hT h1 h2 hL => ?_
  repeat k_data
  exact ⟨rfl, x, rfl, (((Sub.set hT).trans (Sub.set h1)).trans (Sub.set (by assumption))), .ref T, ⟨d, AH.set_self, AH.set_new (by assumption) AH.set_self⟩, T, rfl, AH.set_new (by assumption) (AH.set_new h1 AH.set_self)⟩

/-- one behind the other, or below -/
theorem make_pair {Cl fI : Addr} {l r : Value} (h1 : makesIn C.K Cl = true) (h2 : findIn C.K (.ref Cl) "__init__" = some (some (.ref fI))) (h3 : typeIn C.K (.ref fI) = some (.type "function"))
    (hi : ∀ x d, H d = none → (H.set d (.fs [])) x = none → WCall C (b + 2) (.ref fI) [.ref x, l, r] [] ((H.set d (.fs [])).set x (.inst Cl d)) (fun v σ' => v = .none ∧ ∃ H', H' d = none ∧ (H'.set d (.fs [(Str.ofString "left", l), (Str.ofString "right", r)])) x = none ∧ Sub H H' ∧ σ' = (H'.set d (.fs [(Str.ofString "left", l), (Str.ofString "right", r)])).set x (.inst Cl d))) :
    WCall C (b + 3) (.ref Cl) [l, r] [] H (fun v H' => ∃ a, v = .ref a ∧ Sub H H' ∧ ObjAt H' a Cl [(Str.ofString "left", l), (Str.ofString "right", r)]) := by
  refine WK.make (fI := fI) h1 h2 h3 fun x d hd' hx => ?_
  refine WK.mono (hi x d hd' hx) fun f σ' q => ?_
  obtain ⟨v, rfl, rfl, H', e1, e2, e3, rfl⟩ := q
  exact ⟨_, rfl, rfl, x, rfl, (e3.trans (Sub.set e1)).trans (Sub.set e2), d, AH.set_self, AH.set_new e2 AH.set_self⟩
theorem make_child {l r : Value} (hK : C.K = hd.heap_39 C.w.params) : WCall C (b + 5) (.ref 430) [l, r] [] H (fun v H' => ∃ a, v = .ref a ∧ Sub H H' ∧ ObjAt H' a 430 [(Str.ofString "left", l), (Str.ofString "right", r)]) := by
  refine make_pair (fI := 352) (by rw [hK]; kernel_rfl) (by rw [hK]; kernel_rfl) (by rw [hK]; kernel_rfl) fun x d hd' hx => ?_
  refine WK.fn0 (binds := [(Str.ofString "self", .ref x), (Str.ofString "left", l), (Str.ofString "right", r)]) (mm := [(Str.ofString "right", r), (Str.ofString "left", l), (Str.ofString "self", .ref x)]) (by rw [hK]; k_is) (by rw [hK]; k_is) rfl (by dsimp only) (by dsimp only) (by dsimp only) rfl rfl rfl rfl fun L hL => ?_
  repeat k_data
  exact ⟨rfl, H, hd', by assumption, .refl _, rfl⟩
theorem make_desc {l r : Value} (hK : C.K = hd.heap_39 C.w.params) : WCall C (b + 5) (.ref 515) [l, r] [] H (fun v H' => ∃ a, v = .ref a ∧ Sub H H' ∧ ObjAt H' a 515 [(Str.ofString "left", l), (Str.ofString "right", r)]) := by
  refine make_pair (fI := 446) (by rw [hK]; kernel_rfl) (by rw [hK]; kernel_rfl) (by rw [hK]; kernel_rfl) fun x d hd' hx => ?_
  refine WK.fn0 (binds := [(Str.ofString "self", .ref x), (Str.ofString "left", l), (Str.ofString "right", r)]) (mm := [(Str.ofString "right", r), (Str.ofString "left", l), (Str.ofString "self", .ref x)]) (by rw [hK]; k_is) (by rw [hK]; k_is) rfl (by dsimp only) (by dsimp only) (by dsimp only) rfl rfl rfl rfl fun L hL => ?_
  repeat k_data
  exact ⟨rfl, H, hd', by assumption, .refl _, rfl⟩
theorem make_wild (hK : C.K = hd.heap_39 C.w.params) : WCall C b (.ref 719) [] [] H (fun r H' => ∃ a, r = .ref a ∧ Sub H H' ∧ ObjAt H' a 719 []) := by
  refine WK.make0 (by rw [hK]; kernel_rfl) (by rw [hK]; kernel_rfl) fun x d hd hx => ?_
  exact ⟨x, rfl, (Sub.set hd).trans (Sub.set hx), d, AH.set_self, AH.set_new hx AH.set_self⟩

theorem init_fields1 {x d : Addr} {u : Str} {t : Tok} (hK : C.K = hd.heap_39 C.w.params) (hd' : H d = none) (hx : (H.set d (.fs [])) x = none) :
    WCall C (b + 4) (.ref 531) [.ref x, .str u t] [] ((H.set d (.fs [])).set x (.inst 643 d)) (fun r σ' => r = .none ∧ ∃ H' T, σ' = (H'.set d (.fs [(Str.ofString "_deprecated_wildcard_use", .bool ([u].any (· == Str.ofString "*"))), (Str.ofString "fields", .ref T)])).set x (.inst 643 d) ∧ H' d = none ∧ (H'.set d (.fs [(Str.ofString "_deprecated_wildcard_use", .bool ([u].any (· == Str.ofString "*"))), (Str.ofString "fields", .ref T)])) x = none ∧ Sub H H' ∧ H' T = some (.tup [.str u t])) := by
  refine WK.initS (xn := Str.ofString "fields") (binds := [(Str.ofString "self", .ref x)]) (mm := [(Str.ofString "self", .ref x)]) (rest := [.str u t]) hd' hx (by rw [hK]; k_is) (by rw [hK]; k_is) rfl (by dsimp only) (by dsimp only) (by dsimp only) rfl (by simp [sizeLine_eq]) (fun T => rfl) rfl (fun T => rfl) fun T L hT h1 h2 hL => ?_
  repeat k_data
  exact ⟨rfl, _, T, rfl, h1, by assumption, Sub.set hT, AH.set_self⟩
end
section
variable {C : Cx} {b : Nat} {H : AH}
abbrev fm (dep : Bool) (T : Value) : List (Str × Value) := [(Str.ofString "_deprecated_wildcard_use", .bool dep), (Str.ofString "fields", T)]
def FieldsAt (σ : AH) (a : Addr) (vs : List Value) : Prop := ∃ v, ObjAt σ a 643 (fm false v) ∧ TupAt σ v vs
theorem FieldsAt.sub {σ σ' : AH} {a : Addr} {vs : List Value} (h : FieldsAt σ a vs) (s : Sub σ σ') : FieldsAt σ' a vs := let ⟨v, h1, h2⟩ := h; ⟨v, h1.sub s, h2.sub s⟩

theorem make_fields1x {u : Str} {t : Tok} (hK : C.K = hd.heap_39 C.w.params) : WCall C (b + 5) (.ref 643) [.str u t] [] H (fun r σ' => ∃ H' x d T, r = .ref x ∧ σ' = (H'.set d (.fs (fm ([u].any (· == Str.ofString "*")) (.ref T)))).set x (.inst 643 d) ∧ H' d = none ∧ (H'.set d (.fs (fm ([u].any (· == Str.ofString "*")) (.ref T)))) x = none ∧ Sub H H' ∧ H' T = some (.tup [.str u t])) := by
  refine WK.make (fI := 531) (by rw [hK]; kernel_rfl) (by rw [hK]; kernel_rfl) (by rw [hK]; kernel_rfl) fun x d hd' hx => ?_
  refine WK.mono (init_fields1 hK hd' hx) fun f σ' q => ?_
  obtain ⟨v, rfl, rfl, H', T, rfl, h1, h2, h3, h4⟩ := q
  exact ⟨_, rfl, rfl, H', x, d, T, rfl, rfl, h1, h2, h3, h4⟩

/-- the constructor without wildcards -/
theorem compliant {u : Str} {t : Tok} (hK : C.K = hd.heap_39 C.w.params) : WCall C (b + 7) (.ref 538) [.ref 643, .str u t] [] H (fun r H' => ∃ a, r = .ref a ∧ Sub H H' ∧ FieldsAt H' a [.str u t]) := by
  refine WK.fnS (xn := Str.ofString "fields") (binds := [(Str.ofString "cls", .ref 643)]) (mm := [(Str.ofString "cls", .ref 643)]) (rest := [.str u t]) (by rw [hK]; k_is) (by rw [hK]; k_is) rfl (by dsimp only) (by dsimp only) (by dsimp only) rfl (by simp [sizeLine_eq]) (fun T => rfl) rfl (fun T => rfl) fun T L hT hL => ?_
  repeat k_data
  refine ⟨T, _, rfl, by lcf_look, by simp, kpK' hK (by k_is) ?_⟩
  refine W.callOp (b' := b + 5) (make_fields1x hK) (by omega) hL fun v H' q hL' => ?_
  obtain ⟨H1, x, d, T', rfl, rfl, h1, h2, h3, h4⟩ := q
  repeat k_data
  exact ⟨x, rfl, (((Sub.set hT).trans h3).trans (Sub.set h1)).trans (Sub.set (by assumption)), .ref T', ⟨d, AH.set_self, AH.set_new (by assumption) AH.set_self⟩, T', rfl, AH.set_new (by assumption) (AH.set_new h1 h4)⟩

theorem init_fields2 {x d : Addr} {u w : Str} {t s : Tok} (hK : C.K = hd.heap_39 C.w.params) (hd' : H d = none) (hx : (H.set d (.fs [])) x = none) :
    WCall C (b + 4) (.ref 531) [.ref x, .str u t, .str w s] [] ((H.set d (.fs [])).set x (.inst 643 d)) (fun r σ' => r = .none ∧ ∃ H' T, σ' = (H'.set d (.fs (fm ([u, w].any (· == Str.ofString "*")) (.ref T)))).set x (.inst 643 d) ∧ H' d = none ∧ (H'.set d (.fs (fm ([u, w].any (· == Str.ofString "*")) (.ref T)))) x = none ∧ Sub H H' ∧ H' T = some (.tup [.str u t, .str w s])) := by
  refine WK.initS (xn := Str.ofString "fields") (binds := [(Str.ofString "self", .ref x)]) (mm := [(Str.ofString "self", .ref x)]) (rest := [.str u t, .str w s]) hd' hx (by rw [hK]; k_is) (by rw [hK]; k_is) rfl (by dsimp only) (by dsimp only) (by dsimp only) rfl (by simp [sizeLine_eq]) (fun T => rfl) rfl (fun T => rfl) fun T L hT h1 h2 hL => ?_
  repeat k_data
  exact ⟨rfl, _, T, rfl, h1, by assumption, Sub.set hT, AH.set_self⟩
theorem make_fields2 {u w : Str} {t s : Tok} (hu : ([u, w].any (· == Str.ofString "*")) = false) (hK : C.K = hd.heap_39 C.w.params) : WCall C (b + 5) (.ref 643) [.str u t, .str w s] [] H (fun r H' => ∃ a, r = .ref a ∧ Sub H H' ∧ FieldsAt H' a [.str u t, .str w s]) := by
  refine WK.make (fI := 531) (by rw [hK]; kernel_rfl) (by rw [hK]; kernel_rfl) (by rw [hK]; kernel_rfl) fun x d hd' hx => ?_
  refine WK.mono (init_fields2 hK hd' hx) fun f σ' q => ?_
  obtain ⟨v, rfl, rfl, H', T, rfl, h1, h2, h3, h4⟩ := q
  rw [hu] at h2
  rw [hu]
  exact ⟨_, rfl, rfl, x, rfl, (h3.trans (Sub.set h1)).trans (Sub.set h2), .ref T, ⟨d, AH.set_self, AH.set_new h2 AH.set_self⟩, T, rfl, AH.set_new h2 (AH.set_new h1 h4)⟩
end
section
variable {C : Cx} {b : Nat} {H : AH}
theorem getter_value {a : Addr} {v p c : Value} (hK : C.K = hd.heap_39 C.w.params) (ha : ObjAt H a 212 (dm v p c)) (hv : handedIn v = true) : WCall C (b + 2) (.ref 179) [.ref a] [] H (fun r H' => r = v ∧ H' = H) := by
  refine WK.fn0 (binds := [(Str.ofString "self", .ref a)]) (mm := [(Str.ofString "self", .ref a)]) (by rw [hK]; k_is) (by rw [hK]; k_is) rfl (by dsimp only) (by dsimp only) (by dsimp only) rfl rfl rfl rfl fun L hL => ?_
  repeat k_data
  refine W.getO hK (ha.set hL) rfl hv (by kernel_rfl) ?_
  repeat k_data
  exact ⟨rfl, rfl⟩
/-- x.value -/
theorem value_of {a L : Addr} {v p c : Value} {o : AO} {X : Value → AH → Prop} {ex : Bool} {Q : Value → AH → Prop} (hK : C.K = hd.heap_39 C.w.params) (ha : ObjAt H a 212 (dm v p c)) (hv : handedIn v = true) (hL : H L = none) (h : Q v (H.set L o)) (ho : o.fr) : W C (b + 4) (getAttr (.ref a) (Str.ofString "value") ex) (H.set L o) Q X :=
  W.prop (P := fun r H' => r = v ∧ H' = H) (b' := b + 2) (fget := 179) hK ha (by kernel_rfl) (getter_value hK ha hv) (Nat.le_refl _) hL (fun _ _ q => by rw [q.1]; exact hv) (fun v' H' q _ => by obtain ⟨rfl, rfl⟩ := q; exact h) ho

theorem kit_datum {P : Params} : ∀ T ∈ ["NoneType", "bool", "int", "str", "list", "dict"], kitOne (hd.heap_39 P) (.type T) (.ref 212) = some false := by
  intro T hT
  simp only [List.mem_cons, List.not_mem_nil, or_false] at hT
  rcases hT with rfl | rfl | rfl | rfl | rfl | rfl <;> kernel_rfl
theorem isDatum_no {v : Value} {T : String} {σ : AH} {X : Value → AH → Prop} {Q : Value → AH → Prop} (hK : C.K = hd.heap_39 C.w.params) (hv : DocV C σ v T) (h : Q (.bool false) σ) : W C b (call (.builtin "isinstance") [v, .ref 212]) σ Q X :=
  W.isInst hv.1 (by rw [hK]; exact kit_datum T hv.2) h
theorem isDatum_yes {a : Addr} {m : List (Str × Value)} {σ : AH} {X : Value → AH → Prop} {Q : Value → AH → Prop} (hK : C.K = hd.heap_39 C.w.params) (ha : ObjAt σ a 212 m) (h : Q (.bool true) σ) : W C b (call (.builtin "isinstance") [.ref a, .ref 212]) σ Q X :=
  W.isInstO hK ha (by kernel_rfl) (by kernel_rfl) h

theorem init_datum0 {x d : Addr} {v : Value} (hK : C.K = hd.heap_39 C.w.params) (hd' : H d = none) (hx : (H.set d (.fs [])) x = none) :
    WCall C (b + 12) (.ref 172) [.ref x, v] [] ((H.set d (.fs [])).set x (.inst 212 d)) (fun r σ' => r = .none ∧ ∃ H' p, σ' = (H'.set d (.fs (dm v (.ref p) .none))).set x (.inst 212 d) ∧ H' d = none ∧ (H'.set d (.fs (dm v (.ref p) .none))) x = none ∧ Sub H H' ∧ ObjAt H' p 336 []) := by
  refine WK.fnD (binds := [(Str.ofString "self", .ref x), (Str.ofString "value", v), (Str.ofString "path", .none), (Str.ofString "context", .none)])
      (mm := [(Str.ofString "context", .none), (Str.ofString "path", .none), (Str.ofString "value", v), (Str.ofString "self", .ref x)]) (T := 165) (by rw [hK]; k_is) (by rw [hK]; k_is) rfl (by dsimp only) (by dsimp only) (by dsimp only) (by rw [hK]; k_is) rfl rfl rfl rfl rfl rfl fun L hL => ?_
  repeat k_data
  refine kpK' hK (by k_is) ?_
  refine W.callOp3 (b' := b) (make_this hK) (by omega) (by assumption) (by assumption) (by assumption) (fun v' H' q n1 n2 n3 => ?_) trivial trivial trivial
  obtain ⟨p, rfl, hs, hp⟩ := q
  repeat k_data
  exact ⟨rfl, H', p, rfl, n1, by assumption, hs, hp⟩
theorem make_datum0 {v : Value} (hK : C.K = hd.heap_39 C.w.params) : WCall C (b + 13) (.ref 212) [v] [] H (fun r H' => ∃ a p, r = .ref a ∧ Sub H H' ∧ ObjAt H' a 212 (dm v (.ref p) .none) ∧ ObjAt H' p 336 []) := by
  refine WK.make (fI := 172) (by rw [hK]; kernel_rfl) (by rw [hK]; kernel_rfl) (by rw [hK]; kernel_rfl) fun x d hd' hx => ?_
  refine WK.mono (init_datum0 hK hd' hx) fun f σ' q => ?_
  obtain ⟨v', rfl, rfl, H', p, rfl, h1, h2, h3, h4⟩ := q
  exact ⟨_, rfl, rfl, x, p, rfl, (h3.trans (Sub.set h1)).trans (Sub.set h2), ⟨d, AH.set_self, AH.set_new h2 AH.set_self⟩, (h4.set h1).set h2⟩

/-- wrap: a datum stays, a value is made one -/
theorem wrap_datum {a : Addr} {m : List (Str × Value)} (hK : C.K = hd.heap_39 C.w.params) (ha : ObjAt H a 212 m) : WCall C (b + 20) (.ref 161) [.ref 212, .ref a] [] H (fun r H' => r = .ref a ∧ H' = H) := by
  refine WK.fn0 (binds := [(Str.ofString "cls", .ref 212), (Str.ofString "data", .ref a)]) (mm := [(Str.ofString "data", .ref a), (Str.ofString "cls", .ref 212)]) (by rw [hK]; k_is) (by rw [hK]; k_is) rfl (by dsimp only) (by dsimp only) (by dsimp only) rfl rfl rfl rfl fun L hL => ?_
  repeat k_data
  refine isDatum_yes hK (ha.set hL) ?_
  repeat k_data
  exact ⟨rfl, rfl⟩
theorem wrap_value {v : Value} {T : String} (hK : C.K = hd.heap_39 C.w.params) (hv : DocV C H v T) : WCall C (b + 20) (.ref 161) [.ref 212, v] [] H (fun r H' => ∃ a p, r = .ref a ∧ Sub H H' ∧ ObjAt H' a 212 (dm v (.ref p) .none) ∧ ObjAt H' p 336 []) := by
  refine WK.fn0 (binds := [(Str.ofString "cls", .ref 212), (Str.ofString "data", v)]) (mm := [(Str.ofString "data", v), (Str.ofString "cls", .ref 212)]) (by rw [hK]; k_is) (by rw [hK]; k_is) rfl (by dsimp only) (by dsimp only) (by dsimp only) rfl rfl rfl rfl fun L hL => ?_
  repeat k_data
  refine isDatum_no hK (hv.set hL) ?_
  repeat k_data
  refine kpK' hK (by k_is) (W.callOp (b' := b + 13) (make_datum0 hK) (by omega) hL (fun v' H' q hL' => ?_))
  repeat k_data
  exact q
/-- what stands for a datum before it is wrapped, and after -/
def IsD (C : Cx) (σ : AH) (x : Value) (v : Value) : Prop := (∃ a p c, x = .ref a ∧ ObjAt σ a 212 (dm v p c)) ∨ (x = v ∧ ∃ T, DocV C σ v T)
/-- DatumInContext.wrap(x), called -/
theorem wrap_call {x : Value} {L : Addr} {o : AO} {X : Value → AH → Prop} {pl : Sem Bool} {Q : Value × List Value → AH → Prop} (hK : C.K = hd.heap_39 C.w.params) (hL : H L = none) (ho : o.fr)
    (h : ∀ q, H q = none → (H.set q (.raw (methodObj (.ref 161) (.ref 212)))) L = none → Q (.ref q, []) ((H.set q (.raw (methodObj (.ref 161) (.ref 212)))).set L o)) : W C b (getMethod (.ref 212) (Str.ofString "wrap") pl) (H.set L o) Q X := by
  refine W.op hL (W.methCM (f := 161) hK (by kernel_rfl) (by kernel_rfl) (p := 163) (rest := [.bool false]) (by kernel_rfl) (by kernel_rfl) fun q hq hL' => h q hq hL') ho
theorem root_find {v : Value} {T : String} {r : Addr} (hK : C.K = hd.heap_39 C.w.params) (hv : DocV C H v T) : WCall C (b + 20) (.ref 230) [.ref r, v] [] H (fun r H' => ∃ l a p, r = .ref l ∧ Sub H H' ∧ H' l = some (.lst [.ref a]) ∧ ObjAt H' a 212 (dm v (.ref p) .none) ∧ ObjAt H' p 275 []) := by
  refine WK.fn0 (binds := [(Str.ofString "self", .ref r), (Str.ofString "data", v)]) (mm := [(Str.ofString "data", v), (Str.ofString "self", .ref r)]) (by rw [hK]; k_is) (by rw [hK]; k_is) rfl (by dsimp only) (by dsimp only) (by dsimp only) rfl rfl rfl rfl fun L hL => ?_
  repeat k_data
  refine isDatum_no hK (hv.set hL) ?_
  repeat k_data
  refine kpK' hK (by k_is) (W.callOp (b' := b) (make_root hK) (by omega) hL (fun v' H1 q hL1 => ?_))
  obtain ⟨p, rfl, hs1, hp⟩ := q
  repeat k_data
  refine kpK' hK (by k_is) (W.callOp (b' := b + 13) (make_datum (p := .ref p) (c := .none) hK ⟨p, 275, [], rfl, hp, by rw [hK]; kernel_rfl⟩ (.inl rfl) (.inl rfl)) (by omega) hL1 (fun v' H2 q hL2 => ?_))
  obtain ⟨a, rfl, hs2, ha⟩ := q
  repeat k_data
  exact ⟨_, a, p, rfl, (hs1.trans hs2).trans (Sub.set (by assumption)), AH.set_self, ha.set (by assumption), (hp.sub hs2).set (by assumption)⟩
end
section
variable {C : Cx} {b : Nat} {H : AH}
/-- a step from a thing to a thing in it -/
inductive Stp where
  | at_ (i : Int)
  | key (k : Str)
def StepAt (σ : AH) (p : Addr) : Stp → Prop
  | .at_ i => ∃ t, IndexAt σ p [.int i t]
  | .key k => ∃ t, FieldsAt σ p [.str k t]
theorem StepAt.sub {σ σ' : AH} {p : Addr} {s : Stp} (h : StepAt σ p s) (k : Sub σ σ') : StepAt σ' p s := by
  cases s with
  | at_ i => obtain ⟨t, h⟩ := h; exact ⟨t, h.sub k⟩
  | key n => obtain ⟨t, h⟩ := h; exact ⟨t, h.sub k⟩
/-- a datum of v, one step from the datum c -/
def Kid (σ : AH) (x : Addr) (v : Value) (s : Stp) (c : Addr) : Prop := ∃ p, ObjAt σ x 212 (dm v (.ref p) (.ref c)) ∧ StepAt σ p s
theorem Kid.sub {σ σ' : AH} {x c : Addr} {v : Value} {s : Stp} (h : Kid σ x v s c) (k : Sub σ σ') : Kid σ' x v s c := let ⟨p, h1, h2⟩ := h; ⟨p, h1.sub k, h2.sub k⟩
/-- these are data of these values, each one step from c -/
def Kids (σ : AH) (c : Addr) (l : List (Value × Stp)) (ys : List Value) : Prop := ys.length = l.length ∧ ∀ (i : Nat) v s, l[i]? = some (v, s) → ∃ x : Addr, ys[i]? = some (Value.ref x) ∧ Kid σ x v s c
theorem Kids.sub {σ σ' : AH} {c : Addr} {l : List (Value × Stp)} {ys : List Value} (h : Kids σ c l ys) (k : Sub σ σ') : Kids σ' c l ys := ⟨h.1, fun i v s e => let ⟨x, h1, h2⟩ := h.2 i v s e; ⟨x, h1, h2.sub k⟩⟩
theorem Kids.nil {σ : AH} {c : Addr} : Kids σ c [] [] := ⟨rfl, fun i v s e => by simp at e⟩
theorem Kids.snoc {σ : AH} {c x : Addr} {l : List (Value × Stp)} {ys : List Value} {v : Value} {s : Stp} (h : Kids σ c l ys) (k : Kid σ x v s c) : Kids σ c (l ++ [(v, s)]) (ys ++ [.ref x]) := by
  refine ⟨by simp [h.1], fun i v' s' e => ?_⟩
  rcases Nat.lt_or_ge i l.length with hi | hi
  · rw [List.getElem?_append_left hi] at e
    obtain ⟨x', h1, h2⟩ := h.2 i v' s' e
    exact ⟨x', by rw [List.getElem?_append_left (by rw [h.1]; exact hi)]; exact h1, h2⟩
  · have : i = l.length := by
      rcases Nat.lt_or_ge i (l.length + 1) with q | q
      · omega
      · rw [List.getElem?_eq_none (by simp; omega)] at e; cases e
    subst this
    simp at e
    obtain ⟨rfl, rfl⟩ := e
    exact ⟨x, by rw [← h.1]; simp, k⟩
def places (vs : List Value) : Nat → List (Value × Stp)
  | 0 => []
  | n + 1 => places vs n ++ (match vs[n]? with | some v => [(v, .at_ (n : Int))] | none => [])

theorem places_len {vs : List Value} : ∀ {n : Nat}, n ≤ vs.length → (places vs n).length = n
  | 0, _ => rfl
  | n + 1, h => by
    have : vs[n]? = some vs[n] := List.getElem?_eq_getElem (by omega)
    unfold places
    rw [this, List.length_append, places_len (by omega)]; rfl
theorem find_elems {a l : Addr} {vs : List Value} {p c : Value} (hK : C.K = hd.heap_39 C.w.params) (ha : ObjAt H a 212 (dm (.ref l) p c)) (hl : H l = some (.lst vs)) (hz : vs.length ≤ 100) :
    WCall C (b + 40) (.ref 898) [.ref a] [] H (fun r H' => ∃ D ys, r = .ref D ∧ Sub H H' ∧ H' D = some (.lst ys) ∧ Kids H' a (places vs vs.length) ys) := by
  refine WK.fnC (x := Str.ofString "datum") (v := .ref a) (binds := [(Str.ofString "datum", .ref a)]) (mm := []) (by rw [hK]; k_is) (by rw [hK]; k_is) rfl (by dsimp only) (by dsimp only) (by dsimp only) rfl rfl rfl rfl rfl fun cc L hc hL => ?_
  repeat k_data
  refine W.eComp (cs := [(Str.ofString "datum", cc)]) (by intro _; rfl) (by with_unfolding_all rfl) rfl (by decide) rfl ?_
  repeat k_data
  refine value_of hK (ha.set hc) rfl hL ?_ trivial
  repeat k_data
  refine W.op hL (W.callEnum (AH.set_new hc hl) fun I J hne hI hJ hL1 => ?_)
  refine ⟨_, L, _, rfl, trivial, hL1, W.iterEnum (by rw [AH.set_ne hne]; exact AH.set_self) ?_⟩
  refine CompAt.enum (vs := vs) hne hI hJ (fun i ys H' => Sub (H.set cc (.cell (some (.ref a)))) H' ∧ i ≤ vs.length ∧ Kids H' a (places vs i) ys) ⟨.refl _, Nat.zero_le _, Kids.nil⟩ (fun i ys H' q => ?_) (fun L' i ys H' m t v hv q hL' => ?_) (fun D ys H' q hD => ?_)
  · exact ⟨q.1 _ _ (AH.set_new hc hl), by rw [q.2.2.1, places_len q.2.1]; omega⟩
  · obtain ⟨hs, hi, hk⟩ := q
    have hcc : H' cc = some (.cell (some (.ref a))) := hs _ _ AH.set_self
    repeat k_data
    refine kpK' hK (by k_is) (W.callOp (b' := b + 5) (make_index1 hK) (by omega) hL' (fun v' H1 q hL1' => ?_))
    obtain ⟨pa, rfl, hs1, hp⟩ := q
    repeat k_data
    have hx : Sub (H.set cc (.cell (some (.ref a)))) H1 := hs.trans hs1
    obtain ⟨pv, hp1, hp2⟩ := hp
    refine kpK' hK (by k_is) (W.callOp (b' := b + 13) (make_datum (b := b) (v := v) (p := .ref pa) (c := .ref a) hK ⟨pa, 820, _, rfl, hp1, by rw [hK]; kernel_rfl⟩ (.inr ⟨a, _, rfl, (ha.set hc).sub hx⟩) (.inl rfl)) (by omega) hL1' (fun v' H2 q hL2' => ?_))
    obtain ⟨x, rfl, hs2, hx2⟩ := q
    have hi' : i < vs.length := by
      rcases Nat.lt_or_ge i vs.length with h | h
      · exact h
      · rw [List.getElem?_eq_none h] at hv; cases hv
    refine ⟨H2, _, rfl, hL2', hx.trans hs2, hi', ?_⟩
    have := (hk.sub (hs1.trans hs2)).snoc (x := x) (v := v) (s := .at_ (i : Int)) ⟨pa, hx2, t, _, hp1.sub hs2, hp2.sub hs2⟩
    unfold places
    rw [hv]
    exact this
  · intro hL2
    repeat k_data
    exact ⟨D, ys, rfl, (sub_cut hc q.1).trans (Sub.set hD), AH.set_self, q.2.2.sub (Sub.set hD)⟩
end
section
variable {C : Cx} {b : Nat} {H : AH}
/-- the datum that stands for x, whose value is v -/
def Base (σ : AH) (x v : Value) (c : Addr) : Prop := (x = .ref c ∧ ∃ p q, ObjAt σ c 212 (dm v p q)) ∨ (x = v ∧ ∃ p, ObjAt σ c 212 (dm v (.ref p) .none) ∧ ObjAt σ p 336 [])
theorem Base.sub {σ σ' : AH} {x v : Value} {c : Addr} (h : Base σ x v c) (s : Sub σ σ') : Base σ' x v c := by
  rcases h with ⟨e, p, q, h⟩ | ⟨e, p, h1, h2⟩
  · exact .inl ⟨e, p, q, h.sub s⟩
  · exact .inr ⟨e, p, h1.sub s, h2.sub s⟩
theorem Base.obj {σ : AH} {x v : Value} {c : Addr} (h : Base σ x v c) : ∃ p q, ObjAt σ c 212 (dm v p q) := by
  rcases h with ⟨e, p, q, h⟩ | ⟨e, p, h1, h2⟩
  · exact ⟨p, q, h⟩
  · exact ⟨_, _, h1⟩
def IsIn (C : Cx) (σ : AH) (x v : Value) : Prop := (∃ a p q, x = .ref a ∧ ObjAt σ a 212 (dm v p q)) ∨ (x = v ∧ ∃ T, DocV C σ v T)
theorem IsIn.sub {σ σ' : AH} {x v : Value} (h : IsIn C σ x v) (s : Sub σ σ') : IsIn C σ' x v := by
  rcases h with ⟨a, p, q, e, h⟩ | ⟨e, T, h⟩
  · exact .inl ⟨a, p, q, e, h.sub s⟩
  · exact .inr ⟨e, T, h.sub s⟩
theorem wrap_any {x v : Value} (hK : C.K = hd.heap_39 C.w.params) (hx : IsIn C H x v) : WCall C (b + 20) (.ref 161) [.ref 212, x] [] H (fun r H' => ∃ c, r = .ref c ∧ Sub H H' ∧ Base H' x v c) := by
  rcases hx with ⟨a, p, q, rfl, h⟩ | ⟨rfl, T, h⟩
  · refine WK.mono (wrap_datum hK h) fun f H' q => ?_
    obtain ⟨r, rfl, rfl, rfl⟩ := q
    exact ⟨_, rfl, a, rfl, .refl _, .inl ⟨rfl, _, _, h⟩⟩
  · refine WK.mono (wrap_value hK h) fun f H' q => ?_
    obtain ⟨r, rfl, a, p, rfl, hs, h1, h2⟩ := q
    exact ⟨_, rfl, a, rfl, hs, .inr ⟨rfl, p, h1, h2⟩⟩
/-- the call DatumInContext.wrap(x) from a body -/
theorem wrapped {x v : Value} {q L : Addr} {X : Value → AH → Prop} {o : AO} {Q : Value → AH → Prop} (hK : C.K = hd.heap_39 C.w.params) (hx : IsIn C H x v) (hq : H q = none) (hL : (H.set q (.raw (methodObj (.ref 161) (.ref 212)))) L = none) (ho : o.fr)
    (h : ∀ c H', Sub H H' → Base H' x v c → H' L = none → Q (.ref c) (H'.set L o)) : Kp C (.ref q) ((H.set q (.raw (methodObj (.ref 161) (.ref 212)))).set L o) ∧ W C (b + 20) (call (.ref q) [x] []) ((H.set q (.raw (methodObj (.ref 161) (.ref 212)))).set L o) Q X := by
  refine ⟨Kp.meth (f := 161) (self := .ref 212) (AH.set_new hL AH.set_self) (by rw [hK]; kernel_rfl), ?_⟩
  refine W.op hL (W.call_ (WK.bound AH.set_self (WK.mono (wrap_any hK (hx.sub (Sub.set hq))) fun f H' q' => ?_))) ho
  obtain ⟨r, rfl, c, rfl, hs, hb⟩ := q'
  exact ⟨_, rfl, fun hL' => h c H' ((Sub.set hq).trans hs) hb hL'⟩
theorem kit_seq {P : Params} : ∀ T ∈ ["NoneType", "bool", "int", "str", "list", "dict"], kitAny (hd.heap_39 P) (.type T) [.type "list", .type "tuple"] = some (T == "list") := by
  intro T hT
  simp only [List.mem_cons, List.not_mem_nil, or_false] at hT
  rcases hT with rfl | rfl | rfl | rfl | rfl | rfl <;> kernel_rfl
theorem kit_dict {P : Params} : ∀ T ∈ ["NoneType", "bool", "int", "str", "list", "dict"], kitOne (hd.heap_39 P) (.type T) (.type "dict") = some (T == "dict") := by
  intro T hT
  simp only [List.mem_cons, List.not_mem_nil, or_false] at hT
  rcases hT with rfl | rfl | rfl | rfl | rfl | rfl <;> kernel_rfl
theorem kit_list {P : Params} : ∀ T ∈ ["NoneType", "bool", "int", "str", "list", "dict"], kitOne (hd.heap_39 P) (.type T) (.type "list") = some (T == "list") := by
  intro T hT
  simp only [List.mem_cons, List.not_mem_nil, or_false] at hT
  rcases hT with rfl | rfl | rfl | rfl | rfl | rfl <;> kernel_rfl
theorem isSeq {v : Value} {T : String} {tp : Addr} {σ : AH} {X : Value → AH → Prop} {Q : Value → AH → Prop} (hK : C.K = hd.heap_39 C.w.params) (hv : DocV C σ v T) (ht : σ tp = some (.tup [.type "list", .type "tuple"])) (h : Q (.bool (T == "list")) σ) : W C b (call (.builtin "isinstance") [v, .ref tp]) σ Q X :=
  W.isInstT hv.1 ht (by rw [hK]; exact kit_seq T hv.2) h
theorem isDict {v : Value} {T : String} {σ : AH} {X : Value → AH → Prop} {Q : Value → AH → Prop} (hK : C.K = hd.heap_39 C.w.params) (hv : DocV C σ v T) (h : Q (.bool (T == "dict")) σ) : W C b (call (.builtin "isinstance") [v, .type "dict"]) σ Q X :=
  W.isInst hv.1 (by rw [hK]; exact kit_dict T hv.2) h
theorem isList {v : Value} {T : String} {σ : AH} {X : Value → AH → Prop} {Q : Value → AH → Prop} (hK : C.K = hd.heap_39 C.w.params) (hv : DocV C σ v T) (h : Q (.bool (T == "list")) σ) : W C b (call (.builtin "isinstance") [v, .type "list"]) σ Q X :=
  W.isInst hv.1 (by rw [hK]; exact kit_list T hv.2) h

theorem DocV.handed {σ : AH} {v : Value} {T : String} (h : DocV C σ v T) : handedIn v = true := by
  obtain ⟨h, _⟩ := h
  cases h <;> rfl

theorem Base.kc {σ σ' : AH} {x v : Value} {c : Addr} (h : Base σ x v c) (s : KeepC σ σ') : Base σ' x v c := by
  rcases h with ⟨e, p, q, h⟩ | ⟨e, p, h1, h2⟩
  · exact .inl ⟨e, p, q, h.kc s⟩
  · exact .inr ⟨e, p, h1.kc s, h2.kc s⟩
/-- Wildcard.find over a row -/
theorem wild_list {x : Value} {l s : Addr} {vs : List Value} (hK : C.K = hd.heap_39 C.w.params) (hx : IsIn C H x (.ref l)) (hl : H l = some (.lst vs)) (hz : vs.length ≤ 100) :
    WCall C (b + 60) (.ref 667) [.ref s, x] [] H (fun r H' => ∃ D ys c, r = .ref D ∧ Sub H H' ∧ H' D = some (.lst ys) ∧ Base H' x (.ref l) c ∧ Kids H' c (places vs vs.length) ys) := by
  refine WK.fnC (x := Str.ofString "datum") (v := x) (binds := [(Str.ofString "self", .ref s), (Str.ofString "datum", x)]) (mm := [(Str.ofString "self", .ref s)]) (by rw [hK]; k_is) (by rw [hK]; k_is) rfl (by dsimp only) (by dsimp only) (by dsimp only) rfl rfl rfl rfl rfl fun cc L hc hL => ?_
  repeat k_data
  refine wrap_call (x := .none) hK hL trivial fun q hq hL1 => ?_
  repeat k_data
  refine wrapped hK (hx.sub (Sub.set hc)) hq hL1 trivial fun c H1 hs hb hL2 => ?_
  have hs0 : Sub H H1 := (Sub.set hc).trans hs
  have hcc : H1 cc = some (.cell (some x)) := hs _ _ AH.set_self
  have hl1 : H1 l = some (.lst vs) := hs0 _ _ hl
  clear hs
  repeat k_data
  have hs2 : Sub H (H1.set cc (.cell (some (.ref c)))) := subSetC hs0 hc
  have hkc : KeepC H1 (H1.set cc (.cell (some (.ref c)))) := .set hcc
  replace hb := hb.kc hkc
  replace hl1 := hkc _ _ hl1 rfl
  have hcc2 : (H1.set cc (.cell (some (.ref c)))) cc = some (.cell (some (.ref c))) := AH.set_self
  clear hkc hcc hs0
  generalize H1.set cc (.cell (some (.ref c))) = H2 at *
  obtain ⟨p, q', hco⟩ := hb.obj
  refine value_of hK hco rfl (by assumption) ?_ trivial
  repeat k_data
  rename_i tp htp hL3
  refine isSeq hK (.lst (AH.set_new hL3 (AH.set_new htp hl1))) (AH.set_new hL3 AH.set_self) ?_
  repeat k_data
  have hs3 : Sub H2 (H2.set tp (.tup [.type "list", .type "tuple"])) := .set htp
  refine kpK' hK (by k_is) (W.callOp (b' := b + 40) (find_elems hK (hco.sub hs3) (hs3 _ _ hl1) hz) (by omega) hL3 (fun v' H4 q hL4 => ?_))
  obtain ⟨D, ys, rfl, hs4, hD, hk⟩ := q
  repeat k_data
  exact ⟨D, ys, c, rfl, (hs2.trans hs3).trans hs4, hD, hb.sub (hs3.trans hs4), hk⟩
end
section
variable {C : Cx} {b : Nat} {H : AH}
def fieldsOf : List (Str × Value) → List (Value × Stp)
  | [] => []
  | (k, v) :: r => (v, .key k) :: fieldsOf r
theorem fieldsOf_len : ∀ {l : List (Str × Value)}, (fieldsOf l).length = l.length
  | [] => rfl
  | (k, v) :: r => by simp [fieldsOf, fieldsOf_len]
theorem fieldsOf_app : ∀ {l r : List (Str × Value)}, fieldsOf (l ++ r) = fieldsOf l ++ fieldsOf r
  | [], r => rfl
  | (k, v) :: l, r => by simp [fieldsOf, fieldsOf_app]
theorem take_snoc {α : Type} {l : List α} {i : Nat} {x : α} (h : l[i]? = some x) : l.take (i + 1) = l.take i ++ [x] := by
  rw [List.take_add_one, h]; rfl
/-- Fields._compliant_constructor(k), called from a body -/
theorem compliant_get {x : Value} {L : Addr} {o : AO} {X : Value → AH → Prop} {pl : Sem Bool} {Q : Value × List Value → AH → Prop} (hK : C.K = hd.heap_39 C.w.params) (hL : H L = none) (ho : o.fr)
    (h : ∀ q, H q = none → (H.set q (.raw (methodObj (.ref 538) (.ref 643)))) L = none → Q (.ref q, []) ((H.set q (.raw (methodObj (.ref 538) (.ref 643)))).set L o)) : W C b (getMethod (.ref 643) (Str.ofString "_compliant_constructor") pl) (H.set L o) Q X := by
  refine W.op hL (W.methCM (f := 538) hK (by kernel_rfl) (by kernel_rfl) (p := 540) (rest := [.bool false]) (by kernel_rfl) (by kernel_rfl) fun q hq hL' => h q hq hL') ho
theorem complied {u : Str} {t : Tok} {q L : Addr} {X : Value → AH → Prop} {o : AO} {Q : Value → AH → Prop} (hK : C.K = hd.heap_39 C.w.params) (hq : H q = none) (hL : (H.set q (.raw (methodObj (.ref 538) (.ref 643)))) L = none) (ho : o.fr)
    (h : ∀ a H', Sub H H' → FieldsAt H' a [.str u t] → H' L = none → Q (.ref a) (H'.set L o)) : Kp C (.ref q) ((H.set q (.raw (methodObj (.ref 538) (.ref 643)))).set L o) ∧ W C (b + 7) (call (.ref q) [.str u t] []) ((H.set q (.raw (methodObj (.ref 538) (.ref 643)))).set L o) Q X := by
  refine ⟨Kp.meth (f := 538) (self := .ref 643) (AH.set_new hL AH.set_self) (by rw [hK]; kernel_rfl), ?_⟩
  refine W.op hL (W.call_ (WK.bound AH.set_self (WK.mono (compliant hK) fun f H' q' => ?_))) ho
  obtain ⟨r, rfl, c, rfl, hs, hb⟩ := q'
  exact ⟨_, rfl, fun hL' => h c H' ((Sub.set hq).trans hs) hb hL'⟩

/-- Wildcard.find over fields -/
theorem wild_dict {x : Value} {l s : Addr} {kvs : List (Str × Value)} {ep : Nat} (hK : C.K = hd.heap_39 C.w.params) (hx : IsIn C H x (.ref l)) (hl : H l = some (.dct kvs ep)) (hz : kvs.length ≤ 100) :
    WCall C (b + 60) (.ref 667) [.ref s, x] [] H (fun r H' => ∃ D ys c, r = .ref D ∧ Sub H H' ∧ H' D = some (.lst ys) ∧ Base H' x (.ref l) c ∧ Kids H' c (fieldsOf kvs) ys) := by
  refine WK.fnC (x := Str.ofString "datum") (v := x) (binds := [(Str.ofString "self", .ref s), (Str.ofString "datum", x)]) (mm := [(Str.ofString "self", .ref s)]) (by rw [hK]; k_is) (by rw [hK]; k_is) rfl (by dsimp only) (by dsimp only) (by dsimp only) rfl rfl rfl rfl rfl fun cc L hc hL => ?_
  repeat k_data
  refine wrap_call (x := .none) hK hL trivial fun q hq hL1 => ?_
  repeat k_data
  refine wrapped hK (hx.sub (Sub.set hc)) hq hL1 trivial fun c H1 hs hb hL2 => ?_
  have hs0 : Sub H H1 := (Sub.set hc).trans hs
  have hcc : H1 cc = some (.cell (some x)) := hs _ _ AH.set_self
  have hl1 : H1 l = some (.dct kvs ep) := hs0 _ _ hl
  clear hs
  repeat k_data
  have hs2 : Sub H (H1.set cc (.cell (some (.ref c)))) := subSetC hs0 hc
  have hkc : KeepC H1 (H1.set cc (.cell (some (.ref c)))) := .set hcc
  replace hb := hb.kc hkc
  replace hl1 := hkc _ _ hl1 rfl
  have hcc2 : (H1.set cc (.cell (some (.ref c)))) cc = some (.cell (some (.ref c))) := AH.set_self
  clear hkc hcc hs0
  generalize H1.set cc (.cell (some (.ref c))) = H2 at *
  obtain ⟨p, q', hco⟩ := hb.obj
  refine value_of hK hco rfl (by assumption) ?_ trivial
  repeat k_data
  rename_i tp htp hL3
  refine isSeq hK (.dct (AH.set_new hL3 (AH.set_new htp hl1))) (AH.set_new hL3 AH.set_self) ?_
  have hs3 : Sub H2 (H2.set tp (.tup [.type "list", .type "tuple"])) := .set htp
  replace hs2 := hs2.trans hs3
  replace hb := hb.sub hs3
  replace hl1 := hs3 _ _ hl1
  replace hcc2 := hs3 _ _ hcc2
  replace hco := hco.sub hs3
  clear hs3
  generalize H2.set tp (.tup [.type "list", .type "tuple"]) = H3 at *
  repeat k_data
  refine value_of hK hco rfl (by assumption) ?_ trivial
  repeat k_data
  refine isDict hK (.dct (AH.set_new hL3 hl1)) ?_
  repeat k_data
  refine W.eComp (cs := [(Str.ofString "datum", cc)]) (by intro _; rfl) (by with_unfolding_all rfl) rfl (by decide) rfl ?_
  repeat k_data
  refine value_of hK hco rfl (by assumption) ?_ trivial
  repeat k_data
  refine W.op hL3 (W.dictItems hl1 fun iv hiv hL4 => ?_)
  refine ⟨_, L, _, rfl, trivial, hL4, W.iterItems AH.set_self (AH.set_new hiv hl1) fun I hI => ?_⟩
  have hs4 : Sub H3 (H3.set iv (itemsV l)) := .set hiv
  replace hs2 := hs2.trans hs4
  replace hb := hb.sub hs4
  replace hl1 := hs4 _ _ hl1
  replace hcc2 := hs4 _ _ hcc2
  replace hco := hco.sub hs4
  clear hs4
  generalize H3.set iv (itemsV l) = H4 at *
  refine CompAt.items (kvs := kvs) (ep := ep) hI (fun i ys H' => Sub H4 H' ∧ i ≤ kvs.length ∧ Kids H' c (fieldsOf (kvs.take i)) ys) ⟨.refl _, Nat.zero_le _, Kids.nil⟩ (fun i ys H' q => ?_) (fun L' i ys H' m n t v hv q hL' => ?_) (fun D ys H' q hD => ?_)
  · exact ⟨q.1 _ _ hl1, by rw [q.2.2.1, fieldsOf_len, List.length_take]; omega⟩
  · obtain ⟨hs, hi, hk⟩ := q
    have hcc : H' cc = some (.cell (some (.ref c))) := hs _ _ hcc2
    repeat k_data
    refine compliant_get (x := .none) hK hL' trivial fun q hq hL1' => ?_
    repeat k_data
    refine complied hK hq hL1' trivial fun pa H5 hs5 hp hL5 => ?_
    have hcc5 : H5 cc = some (.cell (some (.ref c))) := hs5 _ _ hcc
    repeat k_data
    obtain ⟨pv, hp1, hp2⟩ := hp
    refine kpK' hK (by k_is) (W.callOp (b' := b + 13) (make_datum (p := .ref pa) (c := .ref c) hK ⟨pa, 643, _, rfl, hp1, by rw [hK]; kernel_rfl⟩ (.inr ⟨c, _, rfl, (hco.sub hs).sub hs5⟩) (.inl rfl)) (by omega) hL5 (fun v' H6 q hL6 => ?_))
    obtain ⟨x2, rfl, hs6, hx2⟩ := q
    have hi' : i < kvs.length := by
      rcases Nat.lt_or_ge i kvs.length with h | h
      · exact h
      · rw [List.getElem?_eq_none h] at hv; cases hv
    refine ⟨H6, _, rfl, hL6, (hs.trans hs5).trans hs6, hi', ?_⟩
    rw [take_snoc hv, fieldsOf_app]
    exact (hk.sub (hs5.trans hs6)).snoc (x := x2) (v := v) (s := .key n) ⟨pa, hx2, t, _, hp1.sub hs6, hp2.sub hs6⟩
  · intro hL2'
    repeat k_data
    rw [List.take_length] at q
    exact ⟨D, ys, c, rfl, (hs2.trans q.1).trans (Sub.set hD), AH.set_self, (hb.sub q.1).sub (Sub.set hD), q.2.2.sub (Sub.set hD)⟩

/-- Wildcard.find over what has nothing in it -/
theorem wild_leaf {x : Value} {s : Addr} {v : Value} {T : String} (hK : C.K = hd.heap_39 C.w.params) (hx : IsIn C H x v) (hl : DocV C H v T) (hT : (T == "list") = false) (hT' : (T == "dict") = false) :
    WCall C (b + 60) (.ref 667) [.ref s, x] [] H (fun r H' => ∃ D ys c, r = .ref D ∧ Sub H H' ∧ H' D = some (.lst ys) ∧ Base H' x v c ∧ ys = []) := by
  refine WK.fnC (x := Str.ofString "datum") (v := x) (binds := [(Str.ofString "self", .ref s), (Str.ofString "datum", x)]) (mm := [(Str.ofString "self", .ref s)]) (by rw [hK]; k_is) (by rw [hK]; k_is) rfl (by dsimp only) (by dsimp only) (by dsimp only) rfl rfl rfl rfl rfl fun cc L hc hL => ?_
  repeat k_data
  refine wrap_call (x := .none) hK hL trivial fun q hq hL1 => ?_
  repeat k_data
  refine wrapped hK (hx.sub (Sub.set hc)) hq hL1 trivial fun c H1 hs hb hL2 => ?_
  have hs0 : Sub H H1 := (Sub.set hc).trans hs
  have hcc : H1 cc = some (.cell (some x)) := hs _ _ AH.set_self
  have hl1 : DocV C H1 v T := hl.sub hs0
  clear hs
  repeat k_data
  have hs2 : Sub H (H1.set cc (.cell (some (.ref c)))) := subSetC hs0 hc
  have hkc : KeepC H1 (H1.set cc (.cell (some (.ref c)))) := .set hcc
  replace hb := hb.kc hkc
  replace hl1 := hl1.kc hkc
  have hcc2 : (H1.set cc (.cell (some (.ref c)))) cc = some (.cell (some (.ref c))) := AH.set_self
  clear hkc hcc hs0
  generalize H1.set cc (.cell (some (.ref c))) = H2 at *
  obtain ⟨p, q', hco⟩ := hb.obj
  refine value_of hK hco hl1.handed (by assumption) ?_ trivial
  repeat k_data
  rename_i tp htp hL3
  refine isSeq hK ((hl1.set htp).set hL3) (AH.set_new hL3 AH.set_self) ?_
  rw [hT]
  have hs3 : Sub H2 (H2.set tp (.tup [.type "list", .type "tuple"])) := .set htp
  replace hs2 := hs2.trans hs3
  replace hb := hb.sub hs3
  replace hl1 := hl1.sub hs3
  replace hcc2 := hs3 _ _ hcc2
  replace hco := hco.sub hs3
  clear hs3
  generalize H2.set tp (.tup [.type "list", .type "tuple"]) = H3 at *
  repeat k_data
  refine value_of hK hco hl1.handed (by assumption) ?_ trivial
  repeat k_data
  refine isDict hK (hl1.set hL3) ?_
  rw [hT']
  repeat k_data
  exact ⟨_, [], c, rfl, hs2.trans (Sub.set (by assumption)), AH.set_self, hb.sub (Sub.set (by assumption)), rfl⟩
end
section
variable {C : Cx} {b : Nat} {H : AH}
theorem IndexAt.kl {σ σ' : AH} {a : Addr} {vs : List Value} (h : IndexAt σ a vs) (k : KeepBy AO.isLst σ σ') : IndexAt σ' a vs := let ⟨v, h1, h2⟩ := h; ⟨v, h1.kl k, h2.kl k⟩
theorem FieldsAt.kl {σ σ' : AH} {a : Addr} {vs : List Value} (h : FieldsAt σ a vs) (k : KeepBy AO.isLst σ σ') : FieldsAt σ' a vs := let ⟨v, h1, h2⟩ := h; ⟨v, h1.kl k, h2.kl k⟩
theorem StepAt.kl {σ σ' : AH} {p : Addr} {s : Stp} (h : StepAt σ p s) (k : KeepBy AO.isLst σ σ') : StepAt σ' p s := by
  cases s with
  | at_ i => obtain ⟨t, h⟩ := h; exact ⟨t, h.kl k⟩
  | key n => obtain ⟨t, h⟩ := h; exact ⟨t, h.kl k⟩
theorem Kid.kl {σ σ' : AH} {x c : Addr} {v : Value} {s : Stp} (h : Kid σ x v s c) (k : KeepBy AO.isLst σ σ') : Kid σ' x v s c := let ⟨p, h1, h2⟩ := h; ⟨p, h1.kl k, h2.kl k⟩
theorem Kids.kl {σ σ' : AH} {c : Addr} {l : List (Value × Stp)} {ys : List Value} (h : Kids σ c l ys) (k : KeepBy AO.isLst σ σ') : Kids σ' c l ys := ⟨h.1, fun i v s e => let ⟨x, h1, h2⟩ := h.2 i v s e; ⟨x, h1, h2.kl k⟩⟩
theorem Base.kl {σ σ' : AH} {x v : Value} {c : Addr} (h : Base σ x v c) (s : KeepBy AO.isLst σ σ') : Base σ' x v c := by
  rcases h with ⟨e, p, q, h⟩ | ⟨e, p, h1, h2⟩
  · exact .inl ⟨e, p, q, h.kl s⟩
  · exact .inr ⟨e, p, h1.kl s, h2.kl s⟩
end
section
variable {C : Cx} {b : Nat} {H : AH}
/-- an object that finds by this def -/
def Finds (C : Cx) (σ : AH) (p f : Addr) : Prop := ∃ Cl m, ObjAt σ p Cl m ∧ m.lookup (Str.ofString "find") = none ∧ methOk C.K Cl (Str.ofString "find") f = true ∧ keepIn C.K (.ref f) = true
theorem Finds.sub {σ σ' : AH} {p f : Addr} (h : Finds C σ p f) (s : Sub σ σ') : Finds C σ' p f := let ⟨Cl, m, h1, h2⟩ := h; ⟨Cl, m, h1.sub s, h2⟩
theorem W.find_meth {σ : AH} {p f : Addr} {X : Value → AH → Prop} {pl : Sem Bool} {Q : Value × List Value → AH → Prop} (h : Finds C σ p f) (hq : Q (.ref f, [.ref p]) σ) : W C b (getMethod (.ref p) (Str.ofString "find") pl) σ Q X :=
  let ⟨Cl, m, h1, h2, h3, _⟩ := h; let ⟨d, e1, e2⟩ := h1; W.methInst e1 e2 h2 h3 hq
end
section
variable {C : Cx} {b : Nat} {H : AH}
/-- an object of a path that is neither the top nor this -/
def PObj (σ : AH) (p : Addr) : Prop := ∃ Cl m, ObjAt σ p Cl m ∧ (Cl = 820 ∨ Cl = 643 ∨ Cl = 430) ∧ m.lookup (Str.ofString "child") = none
theorem PObj.sub {σ σ' : AH} {p : Addr} (h : PObj σ p) (s : Sub σ σ') : PObj σ' p := let ⟨Cl, m, h1, h2⟩ := h; ⟨Cl, m, h1.sub s, h2⟩
theorem StepAt.pobj {σ : AH} {p : Addr} {s : Stp} (h : StepAt σ p s) : PObj σ p := by
  cases s with
  | at_ i => obtain ⟨t, v, h1, _⟩ := h; exact ⟨_, _, h1, .inl rfl, by rfl⟩
  | key k => obtain ⟨t, v, h1, _⟩ := h; exact ⟨_, _, h1, .inr (.inl rfl), by rfl⟩
theorem kit_top {P : Params} {Cl : Addr} (h : Cl = 820 ∨ Cl = 643 ∨ Cl = 430) : kitOne (hd.heap_39 P) (.ref Cl) (.ref 336) = some false ∧ kitOne (hd.heap_39 P) (.ref Cl) (.ref 275) = some false ∧ instOk (hd.heap_39 P) Cl = true ∧ methOk (hd.heap_39 P) Cl (Str.ofString "child") 133 = true := by
  rcases h with rfl | rfl | rfl <;> exact ⟨by kernel_rfl, by kernel_rfl, by kernel_rfl, by kernel_rfl⟩
theorem notThis {σ : AH} {p : Addr} {X : Value → AH → Prop} {Q : Value → AH → Prop} (hK : C.K = hd.heap_39 C.w.params) (hp : PObj σ p) (h : Q (.bool false) σ) : W C b (call (.builtin "isinstance") [.ref p, .ref 336]) σ Q X :=
  let ⟨Cl, m, h1, h2, _⟩ := hp; W.isInstO hK h1 (kit_top h2).2.2.1 (kit_top h2).1 h
theorem notRoot {σ : AH} {p : Addr} {X : Value → AH → Prop} {Q : Value → AH → Prop} (hK : C.K = hd.heap_39 C.w.params) (hp : PObj σ p) (h : Q (.bool false) σ) : W C b (call (.builtin "isinstance") [.ref p, .ref 275]) σ Q X :=
  let ⟨Cl, m, h1, h2, _⟩ := hp; W.isInstO hK h1 (kit_top h2).2.2.1 (kit_top h2).2.1 h
theorem child_meth {σ : AH} {p : Addr} {X : Value → AH → Prop} {pl : Sem Bool} {Q : Value × List Value → AH → Prop} (hK : C.K = hd.heap_39 C.w.params) (hp : PObj σ p) (h : Q (.ref 133, [.ref p]) σ) : W C b (getMethod (.ref p) (Str.ofString "child") pl) σ Q X :=
  let ⟨Cl, m, h1, h2, h3⟩ := hp; W.methO hK h1 h3 (kit_top h2).2.2.2 h
theorem child_of {p q : Addr} (hK : C.K = hd.heap_39 C.w.params) (hp : PObj H p) (hq : PObj H q) : WCall C (b + 12) (.ref 133) [.ref p, .ref q] [] H (fun r H' => ∃ a, r = .ref a ∧ Sub H H' ∧ ObjAt H' a 430 [(Str.ofString "left", .ref p), (Str.ofString "right", .ref q)]) := by
  refine WK.fn0 (b := b + 10) (binds := [(Str.ofString "self", .ref p), (Str.ofString "child", .ref q)]) (mm := [(Str.ofString "child", .ref q), (Str.ofString "self", .ref p)]) (by rw [hK]; k_is) (by rw [hK]; k_is) rfl (by dsimp only) (by dsimp only) (by dsimp only) rfl rfl rfl rfl fun L hL => ?_
  repeat k_data
  refine notThis hK (hp.sub (Sub.set hL)) ?_
  repeat k_data
  refine notRoot hK (hp.sub (Sub.set hL)) ?_
  repeat k_data
  refine notThis hK (hq.sub (Sub.set hL)) ?_
  repeat k_data
  refine notRoot hK (hq.sub (Sub.set hL)) ?_
  repeat k_data
  refine kpK' hK (by k_is) (W.callOp (b' := b + 5) (make_child hK) (by omega) hL (fun v' H1 q' hL1 => ?_))
  repeat k_data
  exact q'

/-- the path of these steps, bracketed from the left -/
inductive FullAt (σ : AH) : Addr → List Stp → Prop
  | one {p s} : StepAt σ p s → FullAt σ p [s]
  | more {a r p ss s} : FullAt σ r ss → StepAt σ p s → ObjAt σ a 430 [(Str.ofString "left", .ref r), (Str.ofString "right", .ref p)] → FullAt σ a (ss ++ [s])
theorem FullAt.sub {σ σ' : AH} {a : Addr} {ss : List Stp} (h : FullAt σ a ss) (k : Sub σ σ') : FullAt σ' a ss := by
  induction h with
  | one h => exact .one (h.sub k)
  | more _ h2 h3 ih => exact .more ih (h2.sub k) (h3.sub k)
theorem FullAt.pobj {σ : AH} {a : Addr} {ss : List Stp} (h : FullAt σ a ss) : PObj σ a := by
  cases h with
  | one h => exact h.pobj
  | more _ _ h => exact ⟨_, _, h, .inr (.inr rfl), by rfl⟩
/-- a datum this many steps below the datum c -/
inductive Chain (σ : AH) : Addr → Value → List Stp → Addr → Value → Prop
  | here {c v p q} : ObjAt σ c 212 (dm v p q) → Chain σ c v [] c v
  | step {x v s a w ss c v0} : Kid σ x v s a → Chain σ a w ss c v0 → Chain σ x v (ss ++ [s]) c v0
theorem Chain.sub {σ σ' : AH} {x c : Addr} {v v0 : Value} {ss : List Stp} (h : Chain σ x v ss c v0) (k : Sub σ σ') : Chain σ' x v ss c v0 := by
  induction h with
  | here h => exact .here (h.sub k)
  | step h1 _ ih => exact .step (h1.sub k) ih
end
section
variable {C : Cx} {b : Nat} {H : AH}
/-- the top: the document, or where one begins -/
def Top' (σ : AH) (p : Addr) : Prop := ObjAt σ p 336 [] ∨ ObjAt σ p 275 []
theorem Top'.sub {σ σ' : AH} {p : Addr} (h : Top' σ p) (s : Sub σ σ') : Top' σ' p := h.imp (fun x => x.sub s) fun x => x.sub s
theorem top_meth {σ : AH} {p : Addr} {X : Value → AH → Prop} {pl : Sem Bool} {Q : Value × List Value → AH → Prop} (hK : C.K = hd.heap_39 C.w.params) (hp : Top' σ p) (h : Q (.ref 133, [.ref p]) σ) : W C b (getMethod (.ref p) (Str.ofString "child") pl) σ Q X := by
  rcases hp with hp | hp
  · exact W.methO hK hp rfl (by kernel_rfl) h
  · exact W.methO hK hp rfl (by kernel_rfl) h
theorem child_top {p : Addr} {q : Value} (hK : C.K = hd.heap_39 C.w.params) (hp : Top' H p) : WCall C (b + 12) (.ref 133) [.ref p, q] [] H (fun r H' => r = q ∧ H' = H) := by
  refine WK.fn0 (b := b + 10) (binds := [(Str.ofString "self", .ref p), (Str.ofString "child", q)]) (mm := [(Str.ofString "child", q), (Str.ofString "self", .ref p)]) (by rw [hK]; k_is) (by rw [hK]; k_is) rfl (by dsimp only) (by dsimp only) (by dsimp only) rfl rfl rfl rfl fun L hL => ?_
  repeat k_data
  rcases hp with hp | hp
  · refine W.isInstO hK (hp.set hL) (r := true) (by kernel_rfl) (by kernel_rfl) ?_
    repeat k_data
    exact ⟨rfl, rfl⟩
  · refine W.isInstO hK (hp.set hL) (r := false) (by kernel_rfl) (by kernel_rfl) ?_
    repeat k_data
    refine W.isInstO hK (hp.set hL) (r := true) (by kernel_rfl) (by kernel_rfl) ?_
    repeat k_data
    exact ⟨rfl, rfl⟩
theorem full_base {c : Addr} {v p : Value} (hK : C.K = hd.heap_39 C.w.params) (hp : handedIn p = true) (hc : ObjAt H c 212 (dm v p .none)) : WCall C (b + 2) (.ref 201) [.ref c] [] H (fun r H' => r = p ∧ H' = H) := by
  refine WK.fn0 (binds := [(Str.ofString "self", .ref c)]) (mm := [(Str.ofString "self", .ref c)]) (by rw [hK]; k_is) (by rw [hK]; k_is) rfl (by dsimp only) (by dsimp only) (by dsimp only) rfl rfl rfl rfl fun L hL => ?_
  repeat k_data
  refine W.getO hK (hc.set hL) rfl rfl (by kernel_rfl) ?_
  repeat k_data
  refine W.getO hK (hc.set hL) rfl hp (by kernel_rfl) ?_
  repeat k_data
  exact ⟨rfl, rfl⟩
/-- full_path -/
theorem full_path {x c : Addr} {v v0 : Value} {ss : List Stp} {pb : Addr} (hK : C.K = hd.heap_39 C.w.params) (hch : Chain H x v ss c v0) (hne : ss ≠ []) (hbase : ObjAt H c 212 (dm v0 (.ref pb) .none)) (htop : Top' H pb) :
    WCall C (20 * ss.length + 20) (.ref 201) [.ref x] [] H (fun r H' => ∃ a, r = .ref a ∧ Sub H H' ∧ FullAt H' a ss) := by
  induction hch with
  | here h => exact absurd rfl hne
  | @step x v s a w ss c v0 hk hch ih =>
    obtain ⟨p, hx, hp⟩ := hk
    rw [List.length_append, List.length_singleton]
    refine WK.fn0 (b := 20 * (ss.length + 1) + 18) (binds := [(Str.ofString "self", .ref x)]) (mm := [(Str.ofString "self", .ref x)]) (by rw [hK]; k_is) (by rw [hK]; k_is) rfl (by dsimp only) (by dsimp only) (by dsimp only) rfl rfl rfl rfl fun L hL => ?_
    repeat k_data
    refine W.getO hK (hx.set hL) rfl rfl (by kernel_rfl) ?_
    repeat k_data
    refine W.getO hK (hx.set hL) rfl rfl (by kernel_rfl) ?_
    by_cases hss : ss = []
    · cases hch with
      | here h =>
        refine W.prop (P := fun r H' => r = .ref pb ∧ H' = H) (b' := 2) (fget := 201) hK hbase (by kernel_rfl) (full_base hK rfl hbase) (by omega) hL (fun _ _ q => by rw [q.1]; rfl) (fun v' H' q hL' => ?_) trivial
        obtain ⟨rfl, rfl⟩ := q
        repeat k_data
        refine top_meth hK (htop.sub (Sub.set hL)) ?_
        repeat k_data
        refine W.getO hK (hx.set hL) rfl rfl (by kernel_rfl) ?_
        repeat k_data
        refine kpK' hK (by k_is) (W.callOp (b' := 12) (child_top hK htop) (by omega) hL (fun v' H1 q' hL1 => ?_))
        obtain ⟨rfl, rfl⟩ := q'
        repeat k_data
        exact ⟨p, rfl, .refl _, .one hp⟩
      | step h1 h2 => simp at hss
    · have ha : ∃ q1 q2, ObjAt H a 212 (dm w q1 q2) := by
        cases hch with
        | here h => exact absurd rfl hss
        | step h1 h2 => obtain ⟨q, h, _⟩ := h1; exact ⟨_, _, h⟩
      obtain ⟨q1, q2, ha⟩ := ha
      refine W.prop (b' := 20 * ss.length + 20) (fget := 201) hK ha (by kernel_rfl) (ih hss hbase) (by omega) hL (fun _ _ q => by obtain ⟨a', rfl, _⟩ := q; rfl) (fun v' H' q hL' => ?_) trivial
      obtain ⟨r, rfl, hs1, hf⟩ := q
      repeat k_data
      refine child_meth hK (hf.pobj.sub (Sub.set hL')) ?_
      repeat k_data
      refine W.getO hK ((hx.sub hs1).set hL') rfl rfl (by kernel_rfl) ?_
      repeat k_data
      refine kpK' hK (by k_is) (W.callOp (b' := 12) (child_of hK hf.pobj (hp.sub hs1).pobj) (by omega) hL' (fun v' H1 q' hL1 => ?_))
      obtain ⟨a2, rfl, hs2, ha2⟩ := q'
      repeat k_data
      exact ⟨a2, rfl, hs1.trans hs2, .more (hf.sub hs2) ((hp.sub hs1).sub hs2) ha2⟩
end
section
variable {C : Cx} {b : Nat} {H : AH}
/-- a datum these steps below the top, each with the number of things in the row around (for places) -/
inductive Walk (σ : AH) : Addr → Value → List (Stp × Int) → Addr → Prop
  | here {c v p} : ObjAt σ c 212 (dm v p .none) → Walk σ c v [] c
  | key {x v k a w ss c n} : Kid σ x v (.key k) a → handedIn w = true → Walk σ a w ss c → Walk σ x v (ss ++ [(.key k, n)]) c
  | at_ {x v i a l vs ss c} : Kid σ x v (.at_ i) a → σ l = some (.lst vs) → 0 < vs.length → vs.length ≤ 100 → Walk σ a (.ref l) ss c → Walk σ x v (ss ++ [(.at_ i, (vs.length : Int))]) c
theorem Walk.sub {σ σ' : AH} {x c : Addr} {v : Value} {ss : List (Stp × Int)} (h : Walk σ x v ss c) (k : Sub σ σ') : Walk σ' x v ss c := by
  induction h with
  | here h => exact .here (h.sub k)
  | key h1 h2 _ ih => exact .key (h1.sub k) h2 ih
  | at_ h1 h2 h3 h4 _ ih => exact .at_ (h1.sub k) (k _ _ h2) h3 h4 ih
theorem Walk.obj {σ : AH} {x c : Addr} {v : Value} {ss : List (Stp × Int)} (h : Walk σ x v ss c) : ∃ p q, ObjAt σ x 212 (dm v p q) := by
  cases h with
  | here h => exact ⟨_, _, h⟩
  | key h1 => obtain ⟨p, h, _⟩ := h1; exact ⟨_, _, h⟩
  | at_ h1 => obtain ⟨p, h, _⟩ := h1; exact ⟨_, _, h⟩
/-- the value that stands for a step in an address -/
def StepV : Stp × Int → Value → Prop
  | (.key k, _), v => ∃ t, v = .str k t
  | (.at_ i, n), v => ∃ t, v = .int (i.fmod n) t
/-- these values stand for these steps, last first -/
inductive Rev : List (Stp × Int) → List Value → Prop
  | nil : Rev [] []
  | snoc {s v l vs} : StepV s v → Rev l vs → Rev (s :: l) (vs ++ [v])
end
section
variable {C : Cx} {b : Nat} {H : AH}
/-- what stands in a value, one step below it -/
inductive KidsOf (C : Cx) (σ : AH) : Value → String → List (Value × Stp) → Prop
  | lst {l vs} : σ l = some (.lst vs) → vs.length ≤ 100 → KidsOf C σ (.ref l) "list" (places vs vs.length)
  | dct {l kvs ep} : σ l = some (.dct kvs ep) → kvs.length ≤ 100 → KidsOf C σ (.ref l) "dict" (fieldsOf kvs)
  | leaf {v T} : DocV C σ v T → (T == "list") = false → (T == "dict") = false → KidsOf C σ v T []
theorem KidsOf.doc {σ : AH} {v : Value} {T : String} {L : List (Value × Stp)} (h : KidsOf C σ v T L) : DocV C σ v T := by
  cases h with
  | lst h _ => exact .lst h
  | dct h _ => exact .dct h
  | leaf h _ _ => exact h
theorem KidsOf.sub {σ σ' : AH} {v : Value} {T : String} {L : List (Value × Stp)} (h : KidsOf C σ v T L) (k : Sub σ σ') : KidsOf C σ' v T L := by
  cases h with
  | lst h h' => exact .lst (k _ _ h) h'
  | dct h h' => exact .dct (k _ _ h) h'
  | leaf h h1 h2 => exact .leaf (h.sub k) h1 h2
theorem KidsOf.len {σ : AH} {v : Value} {T : String} {L : List (Value × Stp)} (h : KidsOf C σ v T L) : L.length ≤ 100 := by
  cases h with
  | lst h h' => rw [places_len (Nat.le_refl _)]; exact h'
  | dct h h' => rw [fieldsOf_len]; exact h'
  | leaf h h1 h2 => simp
theorem IndexAt.any {σ σ' : AH} {a : Addr} {vs : List Value} (h : IndexAt σ a vs) (k : ∀ a o, σ a = some o → o.isLst = false → o.isCell = false → isNs o = false → σ' a = some o) : IndexAt σ' a vs := by
  obtain ⟨v, ⟨d, h1, h2⟩, T, rfl, h3⟩ := h
  exact ⟨_, ⟨d, k _ _ h1 rfl rfl rfl, k _ _ h2 rfl rfl rfl⟩, T, rfl, k _ _ h3 rfl rfl rfl⟩
theorem FieldsAt.any {σ σ' : AH} {a : Addr} {vs : List Value} (h : FieldsAt σ a vs) (k : ∀ a o, σ a = some o → o.isLst = false → o.isCell = false → isNs o = false → σ' a = some o) : FieldsAt σ' a vs := by
  obtain ⟨v, ⟨d, h1, h2⟩, T, rfl, h3⟩ := h
  exact ⟨_, ⟨d, k _ _ h1 rfl rfl rfl, k _ _ h2 rfl rfl rfl⟩, T, rfl, k _ _ h3 rfl rfl rfl⟩
theorem Kids.any {σ σ' : AH} {c : Addr} {l : List (Value × Stp)} {ys : List Value} (h : Kids σ c l ys) (k : ∀ a o, σ a = some o → o.isLst = false → o.isCell = false → isNs o = false → σ' a = some o) : Kids σ' c l ys :=
  ⟨h.1, fun i v s e => by
    obtain ⟨x, h1, p, ⟨d, e1, e2⟩, h3⟩ := h.2 i v s e
    refine ⟨x, h1, p, ⟨d, k _ _ e1 rfl rfl rfl, k _ _ e2 rfl rfl rfl⟩, ?_⟩
    cases s with
    | at_ i => obtain ⟨t, h⟩ := h3; exact ⟨t, h.any k⟩
    | key n => obtain ⟨t, h⟩ := h3; exact ⟨t, h.any k⟩⟩
theorem Kids.rev {σ : AH} {c : Addr} {l : List (Value × Stp)} {ys : List Value} (h : Kids σ c l ys) : Kids σ c l.reverse ys.reverse := by
  refine ⟨by simp [h.1], fun i v s e => ?_⟩
  have hi : i < l.length := by
    rcases Nat.lt_or_ge i l.length with q | q
    · exact q
    · rw [List.getElem?_eq_none (by simpa using q)] at e; cases e
  rw [List.getElem?_reverse hi] at e
  rw [List.getElem?_reverse (by rw [h.1]; exact hi), h.1]
  exact h.2 _ _ _ e
theorem fieldsOf_get {l : List (Str × Value)} {j : Nat} {k : Str} {w : Value} (h : l[j]? = some (k, w)) : (fieldsOf l)[j]? = some (w, .key k) := by
  induction l generalizing j with
  | nil => simp at h
  | cons p l ih =>
    obtain ⟨k', w'⟩ := p
    cases j with
    | zero => simp at h; obtain ⟨rfl, rfl⟩ := h; rfl
    | succ j => simp at h; exact ih h
theorem desc_find {x : Value} {s p q fp fq : Addr} (hK : C.K = hd.heap_39 C.w.params) (hG : Gens C 450 448) (hs : ObjAt H s 515 [(Str.ofString "left", .ref p), (Str.ofString "right", .ref q)]) (hp : Finds C H p fp) (hq : Finds C H q fq)
    (Inv : Nat → List Value → List Value → AH → Prop)
    (hl : WCall C (b + 100) (.ref fp) [.ref p, x] [] H (fun r H' => ∃ l us n, r = .ref l ∧ Sub H H' ∧ us.length ≤ 1000 ∧ H' l = some (.lst us) ∧ ∀ H2, Sub H' H2 → Inv n [] us.reverse H2))
    (hb : ∀ n ms st K, Inv n ms st K → ms.length ≤ 9000 ∧ st.length ≤ 8000)
    (hr : ∀ n ms st u K, Inv n ms (st ++ [u]) K → Sub H K → ∃ a v T pv cv n' L, n = n' + 1 ∧ u = .ref a ∧ ObjAt K a 212 (dm v pv cv) ∧ KidsOf C K v T L ∧
      WCall C (b + 100) (.ref fq) [.ref q, .ref a] [] K (fun r K' => ∃ l zs, r = .ref l ∧ Sub K K' ∧ K' l = some (.lst zs) ∧ ms.length + zs.length ≤ 9000 ∧ ∀ K3 ks, Sub K' K3 → Kids K3 a L ks → Inv n' (ms ++ zs) (st ++ ks.reverse) K3)) :
    WCall C (b + 120) (.ref 451) [.ref s, x] [] H (fun r H' => ∃ D ms n, r = .ref D ∧ Sub H H' ∧ H' D = some (.lst ms) ∧ ∃ K, Sub H K ∧ Sub K H' ∧ Inv n ms [] K) := by
  refine WK.fnC (b := b + 118) (x := Str.ofString "datum") (v := x) (binds := [(Str.ofString "self", .ref s), (Str.ofString "datum", x)]) (mm := [(Str.ofString "self", .ref s)]) (by rw [hK]; k_is) (by rw [hK]; k_is) rfl (by dsimp only) (by dsimp only) (by dsimp only) rfl rfl rfl rfl rfl fun cc L hc hL => ?_
  repeat k_data
  refine W.getO hK (((hs.set hc)).set hL) rfl rfl (by kernel_rfl) ?_
  repeat k_data
  refine W.find_meth ((hp.sub (Sub.set hc)).sub (Sub.set hL)) ?_
  repeat k_data
  refine kpK (let ⟨_, _, _, _, _, h⟩ := hp; h) (W.op hL (W.op hc (W.call_ (WK.more (WK.mono hl fun f H1 q' => ?_) (by omega))) trivial) trivial)
  obtain ⟨r, rfl, l, us, n, rfl, hs1, hul, hlu, hinv⟩ := q'
  refine ⟨_, rfl, fun hc1 hL1 => ?_⟩
  have ncL : cc ≠ L := fun e => by rw [← e, AH.set_self] at hL1; cases hL1
  have hlu' := AH.set_new (o := .cell (some x)) hc1 hlu
  repeat k_data
  refine isList hK (DocV.lst (AH.set_new hL1 hlu')) ?_
  repeat k_data
  rename_i M hM hL2 t1 t2
  intro sl hsl
  have slL : sl ≠ L := AH.none_ne hsl
  have hsl1 := AH.none_in hsl
  have slM : sl ≠ M := AH.none_ne hsl1
  have hsl2 := AH.none_in hsl1
  have slc : sl ≠ cc := AH.none_ne hsl2
  have hsl3 := AH.none_in hsl2
  rw [AH.set_comm slL.symm]
  have hL4 : (((H1.set cc (.cell (some x))).set M (.lst [])).set sl (sliceO .none .none (.int (-1) t2))) L = none := by rw [AH.set_ne (Ne.symm slL)]; exact hL2
  have hl4 : (((H1.set cc (.cell (some x))).set M (.lst [])).set sl (sliceO .none .none (.int (-1) t2))) l = some (.lst us) := AH.set_new hsl1 (AH.set_new hM hlu')
  refine subLst (l := l) (vs := us) (AH.set_new hL4 hl4) ?_
  refine W.op hL4 (W.pick (xs := us) (lo := none) (hi := none) (st := some (-1)) hl4 AH.set_self (by constructor) (by constructor) (by constructor) (by decide) (fun S hS hL5 => ?_) (by omega)) trivial
  rw [AH.set_comm (Ne.symm slM), AH.set_comm (Ne.symm slc)] at hS hL5 ⊢
  have hLM : L ≠ M := AH.none_ne hL2
  have hMc : M ≠ cc := AH.none_ne hM
  have hSM : S ≠ M := AH.none_ne hS
  have hS1 := AH.none_in hS
  have hSc : S ≠ cc := AH.none_ne hS1
  have hS2 := AH.none_in hS1
  have hLS : L ≠ S := AH.none_ne hL5
  have ap : Ap (H1.set sl (sliceO .none .none (.int (-1) t2))) cc M S L := ⟨by rw [AH.set_ne (Ne.symm slc)]; exact hc1, by rw [AH.set_ne (Ne.symm slM)]; exact AH.none_in hM, hS2, AH.none_in (AH.none_in (AH.none_in hL5)), hMc.symm, hSc.symm, hSM.symm, ncL, hLM.symm, hLS.symm⟩
  have hK0 : Sub H1 (H1.set sl (sliceO .none .none (.int (-1) t2))) := Sub.set hsl3
  have hrv : (slicePick us.toArray none none (some (-1))).toList = us.reverse := by simp [krv_pick]
  rw [hrv]
  have hinv0 := hinv _ hK0
  have hsK : Sub H (H1.set sl (sliceO .none .none (.int (-1) t2))) := hs1.trans hK0
  change W C _ _ ((G4 (H1.set sl (sliceO .none .none (.int (-1) t2))) cc M S x [] us.reverse).set L _) _ _
  generalize H1.set sl (sliceO .none .none (.int (-1) t2)) = K0 at *
  clear hsl hsl1 hsl2 hsl3 hL4 hl4 hS hL5 hS1 hS2 hL1 hL2 hM hlu hlu' hc1 hinv hs1 hK0 hLM hMc hSM hSc hLS slL slM slc hrv hL hul
  repeat k_data
  refine (?_ : ∀ (n : Nat) (ms st : List Value) (K : AH) (c : Value) (m : List (Str × Value)), Ap K cc M S L → Inv n ms st K → Sub H K → m.lookup (Str.ofString "stack") = some (.ref S) → m.lookup (Str.ofString "matches") = some (.ref M) → m.lookup (Str.ofString "self") = some (.ref s) →
    WK C (b + 118) _ ((G4 K cc M S c ms st).set L (.ns "frame" m)) (thenRest C (b + 118) _ _ (Done L fun r H' => ∃ D ms n, r = .ref D ∧ Sub H H' ∧ H' D = some (.lst ms) ∧ ∃ K, Sub H K ∧ Sub K H' ∧ Inv n ms [] K) noX)) n [] us.reverse K0 x _ ap hinv0 hsK rfl rfl rfl
  clear hinv0 hsK ap K0 n us
  intro n
  induction n using Nat.strongRecOn with
  | ind n ih =>
  intro ms st K c m ap hinv hsK hm1 hm2 hm3
  obtain ⟨hb1, hb2⟩ := hb _ _ _ _ hinv
  have hnL : (G4 K cc M S c ms st) L = none := G4.noL ap
  refine WK.while_ ?_
  repeat k_data
  refine W.trList (hl := AH.set_new hnL G4.atS) (by omega) ?_
  rcases (show st = [] ∨ ∃ st' u, st = st' ++ [u] by rcases st.eq_nil_or_concat with h | ⟨a, b, h⟩; exact .inl h; exact .inr ⟨a, b, by rw [h, List.concat_eq_append]⟩) with rfl | ⟨st', u, rfl⟩
  · repeat k_data
    exact ⟨M, ms, n, rfl, hsK.trans (G4.sub ap), G4.atM ap, K, hsK, G4.sub ap, hinv⟩
  rw [show (!(st' ++ [u]).isEmpty) = true by cases st' <;> rfl]
  obtain ⟨a, v, T, pv, cv, n', Lk, rfl, rfl, hobj, hkids, hcall⟩ := hr _ _ _ _ _ hinv hsK
  have hdv := hkids.doc
  have hklen := hkids.len
  have hSS : (G4 K cc M S c ms (st' ++ [.ref a])) S = some (.lst (st' ++ [.ref a])) := G4.atS
  refine ifT rfl ?_
  repeat k_data
  refine W.op hnL (W.call_ (WK.popLast hSS (by simp at hb2; omega) fun hnL1 => ?_)) trivial
  rw [G4.setS] at hnL1 ⊢
  have hcc : (G4 K cc M S c ms st') cc = some (.cell (some c)) := G4.atC ap
  repeat k_data
  rename_i hnL2
  rw [G4.setC ap] at hnL2 ⊢
  have hcc2 : (G4 K cc M S (.ref a) ms st') cc = some (.cell (some (.ref a))) := G4.atC ap
  have hMM : (G4 K cc M S (.ref a) ms st') M = some (.lst ms) := G4.atM ap
  repeat k_data
  refine W.getO hK ((((hs.sub hsK).sub (G4.sub ap)).set hnL2)) rfl rfl (by kernel_rfl) ?_
  repeat k_data
  refine W.find_meth (((hq.sub hsK).sub (G4.sub ap)).sub (Sub.set hnL2)) ?_
  repeat k_data
  refine kpK (let ⟨_, _, _, _, _, h⟩ := hq; h) (W.op4 ap (W.call_ (WK.more (WK.mono hcall fun f K1 q' => ?_) (by omega))) trivial)
  obtain ⟨r, rfl, l, zs, rfl, hs1, hlz, hlen, hinv1⟩ := q'
  refine ⟨_, rfl, fun ap1 => ?_⟩
  have hnL3 : (G4 K1 cc M S (.ref a) ms st') L = none := G4.noL ap1
  repeat k_data
  refine W.op hnL3 (W.call_ (WK.extendList (G4.atM ap1) (G4.sub ap1 _ _ hlz) (by omega) fun hnL4 => ?_)) trivial
  rw [G4.setM ap1] at hnL4 ⊢
  have hcc3 : (G4 K1 cc M S (.ref a) (ms ++ zs) st') cc = some (.cell (some (.ref a))) := G4.atC ap1
  repeat k_data
  refine value_of hK ((hobj.sub hs1).sub (G4.sub ap1)) hdv.handed hnL4 ?_ trivial
  repeat k_data
  refine isList hK (((hdv.sub hs1).sub (G4.sub ap1)).set hnL4) ?_
  replace hobj := hobj.sub hs1
  replace hdv := hdv.sub hs1
  replace hsK := hsK.trans hs1
  replace hkids := hkids.sub hs1
  clear hcc hcc2 hMM hSS hnL hnL1 hnL2 hnL3 hinv hcall
  cases hkids with
  | leaf h1 h2 h3 =>
    rw [h2]
    repeat k_data
    refine isDict hK ((hdv.sub (G4.sub ap1)).set hnL4) ?_
    rw [h3]
    repeat k_data
    exact ih n' (Nat.lt_succ_self _) (ms ++ zs) st' K1 (.ref a) _ ap1 (by simpa using hinv1 K1 [] (.refl _) Kids.nil) hsK hm1 hm2 hm3
  | @lst lv vs hvl hz =>
    repeat k_data
    refine W.sAssignComp (by with_unfolding_all rfl) (by intro _; rfl) (by with_unfolding_all rfl) rfl (by decide) rfl (by rfl) (by rfl) ?_
    repeat k_data
    have hvl' := G4.sub (c := .ref a) (ms := ms ++ zs) (st := st') ap1 _ _ hvl
    have hobj' := hobj.sub (G4.sub (c := .ref a) (ms := ms ++ zs) (st := st') ap1)
    refine W.op hnL4 (W.callEnum hvl' fun I J hne hI hJ hL5 => ?_)
    refine ⟨_, _, _, rfl, hL5, W.iterEnum (by rw [AH.set_ne hne]; exact AH.set_self) ?_⟩
    refine CompAt.enum (vs := vs) hne hI hJ (fun i ys H' => Sub (G4 K1 cc M S (.ref a) (ms ++ zs) st') H' ∧ i ≤ vs.length ∧ Kids H' a (places vs i) ys) ⟨.refl _, Nat.zero_le _, Kids.nil⟩ (fun i ys H' q => ?_) (fun L' i ys H' m' t v hv q hL' => ?_) (fun D ys H' q hD => ?_)
    · exact ⟨q.1 _ _ hvl', by rw [q.2.2.1, places_len q.2.1]; omega⟩
    · obtain ⟨hs', hi, hk⟩ := q
      have hcc9 : H' cc = some (.cell (some (.ref a))) := hs' _ _ hcc3
      repeat k_data
      refine kpK' hK (by k_is) (W.callOp (b' := b + 5) (make_index1 hK) (by omega) hL' (fun v' H2 q hL1' => ?_))
      obtain ⟨pa, rfl, hs2, hp2⟩ := q
      repeat k_data
      have hx : Sub (G4 K1 cc M S (.ref a) (ms ++ zs) st') H2 := hs'.trans hs2
      obtain ⟨pv2, hp3, hp4⟩ := hp2
      refine kpK' hK (by k_is) (W.callOp (b' := b + 13) (make_datum (b := b) (v := v) (p := .ref pa) (c := .ref a) hK ⟨pa, 820, _, rfl, hp3, by rw [hK]; kernel_rfl⟩ (.inr ⟨a, _, rfl, hobj'.sub hx⟩) (.inr rfl)) (by omega) hL1' (fun v' H3 q hL2' => ?_))
      obtain ⟨x2, rfl, hs3, hx2⟩ := q
      have hi' : i < vs.length := by
        rcases Nat.lt_or_ge i vs.length with h | h
        · exact h
        · rw [List.getElem?_eq_none h] at hv; cases hv
      refine ⟨H3, _, rfl, hL2', hx.trans hs3, hi', ?_⟩
      have := (hk.sub (hs2.trans hs3)).snoc (x := x2) (v := v) (s := .at_ (i : Int)) ⟨pa, hx2, t, _, hp3.sub hs3, hp4.sub hs3⟩
      unfold places
      rw [hv]
      exact this
    · intro hL6
      obtain ⟨hsG, _, hkd⟩ := q
      have hyl : ys.length ≤ 100 := by rw [hkd.1, places_len (Nat.le_refl _)]; exact hz
      repeat k_data
      refine W.op hL6 (W.call_ (WK.reverse_ AH.set_self (by omega) fun hL7 => ?_)) trivial
      rw [AH.set_set] at hL7 ⊢
      have hDS : S ≠ D := fun e => by rw [← e, hsG _ _ G4.atS] at hD; cases hD
      have hSD : (H'.set D (.lst ys.reverse)) S = some (.lst st') := by rw [AH.set_ne hDS]; exact hsG _ _ G4.atS
      have hDD : (H'.set D (.lst ys.reverse)) D = some (.lst ys.reverse) := AH.set_self
      repeat k_data
      refine W.op hL7 (W.call_ (WK.extendList hSD hDD (by simp at hb2 ⊢; omega) fun hL8 => ?_)) trivial
      have hsub2 : Sub (G4 K1 cc M S (.ref a) (ms ++ zs) (st' ++ ys.reverse)) ((H'.set D (.lst ys.reverse)).set S (.lst (st' ++ ys.reverse))) := by
        intro y o e
        by_cases e1 : y = S
        · subst e1; rw [G4.atS] at e; cases e; exact AH.set_self
        · rw [AH.set_ne e1]
          have e2 : (G4 K1 cc M S (.ref a) (ms ++ zs) st') y = some o := by
            unfold G4 at e ⊢; rw [AH.set_ne e1] at e ⊢; exact e
          exact AH.set_new hD (hsG _ _ e2)
      obtain ⟨K3, e3, ap3, hs13, hany, _⟩ := G4.regroup ap1 hsub2 hL8
      repeat k_data
      rw [e3]
      refine ih n' (Nat.lt_succ_self _) (ms ++ zs) _ K3 (.ref a) _ ap3 (hinv1 K3 ys hs13 ?_) (hsK.trans hs13) hm1 hm2 hm3
      refine hkd.any fun y o e q1 q2 q3 => hany y o ?_ q1 q2
      rw [AH.set_ne (fun z => by rw [z, hsG _ _ G4.atS] at e; cases e; cases q1)]
      exact AH.set_new hD e
  | @dct lv kvs ep hvl hz =>
    repeat k_data
    refine isDict hK ((hdv.sub (G4.sub ap1)).set hnL4) ?_
    k_data
    k_data
    k_data
    k_data
    have hvl' := G4.sub (c := .ref a) (ms := ms ++ zs) (st := st') ap1 _ _ hvl
    have hobj' := hobj.sub (G4.sub (c := .ref a) (ms := ms ++ zs) (st := st') ap1)
    have hSS : (G4 K1 cc M S (.ref a) (ms ++ zs) st') S = some (.lst st') := G4.atS
    refine W.eMethodGen (by kernel_rfl) (by kernel_rfl) ?_
    repeat k_data
    intro cpos
    refine W.extendGen (b := b + 115) (c := 450) (P := 448) (ys0 := st') (cl := [(Str.ofString "datum", cc)]) hG rfl rfl rfl (by with_unfolding_all rfl) rfl rfl rfl (by intro _; rfl) ?_
    repeat k_data
    refine W.op hnL4 (W.dictItems hvl' fun vw hvw hL5 => ?_) trivial
    repeat k_data
    refine W.op hL5 (W.listItems (AH.set_self) (AH.set_new hvw hvl') hz fun LS H2 ts hs2 hLS hLd hLn hts hL6 => ?_) trivial
    repeat k_data
    rename_i tk3 tk4
    intro sl2 hsl
    have slL : sl2 ≠ L := AH.none_ne hsl
    have hsl1 := AH.none_in hsl
    rw [AH.set_comm slL.symm]
    have hL7 : (H2.set sl2 (sliceO .none .none (.int (-1) tk4))) L = none := by rw [AH.set_ne (Ne.symm slL)]; exact hL6
    have hLd7 : (H2.set sl2 (sliceO .none .none (.int (-1) tk4))) LS = some (.lst ts) := AH.set_new hsl1 hLd
    refine subLst (l := LS) (vs := ts) (AH.set_new hL7 hLd7) ?_
    refine W.op hL7 (W.pick (xs := ts) (lo := none) (hi := none) (st := some (-1)) hLd7 AH.set_self (by constructor) (by constructor) (by constructor) (by decide) (fun R hR hL8 => ?_) (by omega)) trivial
    have hrv : (slicePick ts.toArray none none (some (-1))).toList = ts.reverse := by simp [krv_pick]
    rw [hrv] at hL8 ⊢
    have hsG : Sub (G4 K1 cc M S (.ref a) (ms ++ zs) st') ((H2.set sl2 (sliceO .none .none (.int (-1) tk4))).set R (.lst ts.reverse)) := (((Sub.set hvw).trans hs2).trans (Sub.set hsl1)).trans (Sub.set hR)
    have hRR : ((H2.set sl2 (sliceO .none .none (.int (-1) tk4))).set R (.lst ts.reverse)) R = some (.lst ts.reverse) := AH.set_self
    have hitem : ∀ i, i < ts.reverse.length → ∃ (T : Addr) (t : Tok) (k : Str) (w : Value), ts.reverse[i]? = some (.ref T) ∧ ((H2.set sl2 (sliceO .none .none (.int (-1) tk4))).set R (.lst ts.reverse)) T = some (.tup [.str k t, w]) ∧ (fieldsOf kvs).reverse[i]? = some (w, .key k) := by
      intro i hi
      have hi' : i < ts.length := by simpa using hi
      have hj : ts.length - 1 - i < kvs.length := by omega
      obtain ⟨k, w, hkw⟩ : ∃ k w, kvs[ts.length - 1 - i]? = some (k, w) := ⟨_, _, List.getElem?_eq_getElem hj⟩
      obtain ⟨T, t, e1, e2⟩ := hts _ _ _ hkw
      refine ⟨T, t, k, w, by rw [List.getElem?_reverse hi']; exact e1, AH.set_new hR (AH.set_new hsl1 e2), ?_⟩
      rw [List.getElem?_reverse (by rw [fieldsOf_len]; omega), fieldsOf_len, ← hLn]
      exact fieldsOf_get hkw
    have hRS : R ≠ S := fun e => by rw [e, AH.set_new hsl1 (hs2 _ _ (AH.set_new hvw hSS))] at hR; cases hR
    clear hL5 hL6 hL7 hLd7 hts hLd hLS hs2 hR hsl hsl1 hvw hrv
    generalize (H2.set sl2 (sliceO .none .none (.int (-1) tk4))).set R (.lst ts.reverse) = H5 at *
    refine W.iterList (AH.set_new hL8 hRR) fun I hI => ?_
    intro GL code hGL
    have hGI : GL ≠ I := AH.none_ne hGL
    have hGL1 := AH.none_in hGL
    have hGL2 : GL ≠ L := AH.none_ne hGL1
    have hGS : GL ≠ S := fun e => by rw [e, AH.set_new hL8 (hsG _ _ hSS)] at hGL1; cases hGL1
    have hLSne : L ≠ S := fun e => by rw [e, hsG _ _ hSS] at hL8; cases hL8
    have hnlen : ts.reverse.length = (fieldsOf kvs).length := by rw [List.length_reverse, fieldsOf_len, hLn]
    refine ⟨ts.reverse.length, _, _, Turns.ofSrc (Src.list (l := R) (vs := ts.reverse) rfl) rfl rfl rfl (fun i small big o ys h1 h2 => ?_)
      (fun i ys K => (∀ y o, y ≠ S → (H5.set L (.ns "frame" ((Str.ofString "value", .ref lv) :: m))) y = some o → K y = some o) ∧ K S = some (.lst ys) ∧ i ≤ ts.reverse.length ∧ ∃ zs', ys = st' ++ zs' ∧ Kids K a ((fieldsOf kvs).reverse.take i) zs')
      (fun i ys K m h1 h2 => ?_) (fun i ys K m x hi hJ hKG hx => ?_), ⟨_, [((".0" : Str), .ref I)], ⟨?_, ?_⟩, hGL1, fun y o hy e => e, AH.set_new hL8 (hsG _ _ hSS), Nat.zero_le _, [], by simp, Kids.nil⟩, fun ys σ' hf => ?_⟩
    · obtain ⟨e1, rfl⟩ := h1
      have : I ≠ S := fun e => by rw [e, h2] at e1; cases e1
      exact ⟨by rw [AH.set_ne this]; exact e1, AH.set_comm this⟩
    · obtain ⟨j1, j2, j3, zs', rfl, j5⟩ := h1
      have hzl : zs'.length ≤ 100 := by have := j5.1; rw [List.length_take, List.length_reverse, fieldsOf_len] at this; omega
      exact ⟨j2, by simp at hb2 ⊢; omega, AH.set_new h2 (j1 _ _ hRS (AH.set_new hL8 hRR))⟩
    · obtain ⟨j1, j2, j3, zs', rfl, j5⟩ := hJ
      obtain ⟨T, t, k, w, e1, e2, e3⟩ := hitem i hi
      rw [e1] at hx; cases hx
      have hTS : T ≠ S := fun e => by rw [e, hsG _ _ hSS] at e2; cases e2
      have hcS : cc ≠ S := ap1.d13
      have hKT := j1 _ _ hTS (AH.set_new hL8 e2)
      have hKc := j1 _ _ hcS (AH.set_new hL8 (hsG _ _ hcc3))
      refine oneI (W.assignPair (AH.set_new hKG hKT) ?_)
      repeat k_data
      refine compliant_get (x := .none) hK hKG trivial fun qm hqm hL1' => ?_
      repeat k_data
      refine complied hK hqm hL1' trivial fun pa H6 hs5 hpf hL9 => ?_
      have hcc5 : H6 cc = some (.cell (some (.ref a))) := hs5 _ _ hKc
      repeat k_data
      obtain ⟨pv2, hp3, hp4⟩ := hpf
      have hobK : ObjAt K a 212 (dm (.ref lv) pv cv) := by
        obtain ⟨d, o1, o2⟩ := hobj'
        have n1 : a ≠ S := fun e => by subst e; rw [hSS] at o1; cases o1
        have n2 : d ≠ S := fun e => by subst e; rw [hSS] at o2; cases o2
        exact ⟨d, j1 _ _ n1 (AH.set_new hL8 (hsG _ _ o1)), j1 _ _ n2 (AH.set_new hL8 (hsG _ _ o2))⟩
      refine kpK' hK (by k_is) (W.callOp (b' := b + 13) (make_datum (b := b) (v := w) (p := .ref pa) (c := .ref a) hK ⟨pa, 643, _, rfl, hp3, by rw [hK]; kernel_rfl⟩ (.inr ⟨a, _, rfl, hobK.sub hs5⟩) (.inr rfl)) (by omega) hL9 (fun v' H7 q hL10 => ?_))
      obtain ⟨x2, rfl, hs6, hx2⟩ := q
      have hsK7 := hs5.trans hs6
      refine ⟨H7, _, rfl, hL10, hsK7 _ _ j2, fun y o hy e => ?_, AH.set_self, hi, zs' ++ [.ref x2], by simp, ?_⟩
      · rw [AH.set_ne hy]; exact hsK7 _ _ (j1 y o hy e)
      · rw [take_snoc e3]
        refine Kids.kl ((j5.sub hsK7).snoc ⟨pa, hx2, t, _, hp3.sub hs6, hp4.sub hs6⟩) (.set (hsK7 _ _ j2) rfl)
    · rw [AH.set_ne (Ne.symm hGI)]; exact hI
    · exact AH.set_comm (Ne.symm hGI)
    · obtain ⟨K, mg, rfl, hKG, j1, j2, j3, zs', rfl, j5⟩ := hf
      rw [List.take_of_length_le (by rw [hnlen, List.length_reverse]; exact Nat.le_refl _)] at j5
      refine ⟨K, mg, rfl, hKG, ?_⟩
      have hKL := j1 L _ hLSne AH.set_self
      rw [AH.put hKL]
      have hKd : (K.drop L) L = none := AH.drop_self
      have hsub2 : Sub (G4 K1 cc M S (.ref a) (ms ++ zs) (st' ++ zs')) (K.drop L) := by
        intro y o e
        have hyL : y ≠ L := fun z => by rw [z, G4.noL ap1] at e; cases e
        rw [AH.drop_ne hyL]
        by_cases e1 : y = S
        · subst e1; rw [G4.atS] at e; cases e; exact j2
        · have e2 : (G4 K1 cc M S (.ref a) (ms ++ zs) st') y = some o := by
            unfold G4 at e ⊢; rw [AH.set_ne e1] at e ⊢; exact e
          exact j1 y o e1 (AH.set_new hL8 (hsG _ _ e2))
      obtain ⟨K3, e3, ap3, hs13, hany, _⟩ := G4.regroup ap1 hsub2 hKd
      repeat k_data
      rw [e3]
      have hkk : Kids K3 a (fieldsOf kvs) zs'.reverse := by
        have h9 := j5.rev
        rw [List.reverse_reverse] at h9
        refine h9.any fun y o e q1 q2 q3 => hany y o ?_ q1 q2
        rw [AH.drop_ne (fun z => by rw [z, hKL] at e; cases e; cases q3)]; exact e
      have h10 := hinv1 K3 zs'.reverse hs13 hkk
      rw [List.reverse_reverse] at h10
      exact ih n' (Nat.lt_succ_self _) (ms ++ zs) _ K3 (.ref a) _ ap3 h10 (hsK.trans hs13) hm1 hm2 hm3
end
section
variable {C : Cx} {b : Nat} {H : AH}
/-- from this value, one step: the thing and its place -/
inductive StepIn (σ : AH) : Value → Value → Stp → Nat → Prop
  | key {l : Addr} {kvs : List (Str × Value)} {ep j : Nat} {k : Str} {w : Value} : σ l = some (.dct kvs ep) → kvs[j]? = some (k, w) → StepIn σ (.ref l) w (.key k) j
  | at_ {l : Addr} {vs : List Value} {i : Int} {j : Nat} {w : Value} : σ l = some (.lst vs) → vs[j]? = some w → -(vs.length : Int) ≤ i → i < vs.length → (j : Int) = i.fmod vs.length → vs.length ≤ 100 → StepIn σ (.ref l) w (.at_ i) j
theorem StepIn.sub {σ σ' : AH} {v w : Value} {s : Stp} {j : Nat} (h : StepIn σ v w s j) (k : Sub σ σ') : StepIn σ' v w s j := by
  cases h with
  | key h1 h2 => exact .key (k _ _ h1) h2
  | at_ h1 h2 h3 h4 h5 h6 => exact .at_ (k _ _ h1) h2 h3 h4 h5 h6
/-- a datum of v, found in the document dv by these steps, at these places -/
inductive Loc (σ : AH) (dv : Value) : Addr → Value → List Stp → List Nat → Prop
  | top {c p} : ObjAt σ c 212 (dm dv (.ref p) .none) → Top' σ p → Loc σ dv c dv [] []
  | step {x v s a w ss ps j} : Kid σ x v s a → Loc σ dv a w ss ps → StepIn σ w v s j → Loc σ dv x v (ss ++ [s]) (ps ++ [j])
theorem Loc.sub {σ σ' : AH} {dv v : Value} {x : Addr} {ss : List Stp} {ps : List Nat} (h : Loc σ dv x v ss ps) (k : Sub σ σ') : Loc σ' dv x v ss ps := by
  induction h with
  | top h1 h2 => exact .top (h1.sub k) (h2.sub k)
  | step h1 _ h3 ih => exact .step (h1.sub k) ih (h3.sub k)
theorem Loc.obj {σ : AH} {dv v : Value} {x : Addr} {ss : List Stp} {ps : List Nat} (h : Loc σ dv x v ss ps) : ∃ p c, ObjAt σ x 212 (dm v p c) := by
  cases h with
  | top h1 h2 => exact ⟨_, _, h1⟩
  | step h1 _ h3 => obtain ⟨p, h, _⟩ := h1; exact ⟨_, _, h⟩
theorem Loc.len {σ : AH} {dv v : Value} {x : Addr} {ss : List Stp} {ps : List Nat} (h : Loc σ dv x v ss ps) : ss.length = ps.length := by
  induction h with
  | top => rfl
  | step _ _ _ ih => simp [ih]
/-- one step in a value that is a document -/
theorem StepIn.doc {σ : AH} {v w : Value} {s : Stp} {j : Nat} {d : Doc} (h : StepIn σ v w s j) (hd : DocAt σ v d) : j < d.width ∧ DocAt σ w (d.kids j) ∧ ∀ {n : Int}, (∀ l vs, v = .ref l → σ l = some (.lst vs) → n = vs.length) → ∀ u, StepV (s, n) u → d.stepV j u := by
  cases h with
  | @key l kvs ep j k w h1 h2 =>
    cases hd with
    | row e1 => rw [h1] at e1; cases e1
    | fld e1 e2 e3 e4 =>
      rw [h1] at e1; cases e1
      have hj : j < kvs.length := (List.getElem?_eq_some_iff.mp h2).1
      refine ⟨by rw [e2] at hj; exact hj, e4 _ _ _ h2, fun hn u hu => ?_⟩
      obtain ⟨t, rfl⟩ := hu
      exact ⟨t, by rw [e3 _ _ _ h2]⟩
  | @at_ l vs i j w h1 h2 h3 h4 h5 h6 =>
    cases hd with
    | fld e1 => rw [h1] at e1; cases e1
    | row e1 e2 e3 =>
      rw [h1] at e1; cases e1
      have hj : j < vs.length := (List.getElem?_eq_some_iff.mp h2).1
      refine ⟨by rw [e2] at hj; exact hj, e3 _ _ h2, fun hn u hu => ?_⟩
      obtain ⟨t, rfl⟩ := hu
      exact ⟨t, by rw [hn _ _ rfl h1, h5]⟩
theorem Loc.doc {σ : AH} {dv v : Value} {x : Addr} {ss : List Stp} {ps : List Nat} {d : Doc} (h : Loc σ dv x v ss ps) (hd : DocAt σ dv d) : ∃ d', d.sub ps = some d' ∧ DocAt σ v d' := by
  induction h with
  | top h1 h2 => exact ⟨d, by simp [Doc.sub], hd⟩
  | step h1 _ h3 ih =>
    obtain ⟨d', e1, e2⟩ := ih
    obtain ⟨f1, f2, _⟩ := h3.doc e2
    exact ⟨_, by rw [Doc.sub_app e1, Doc.sub_one f1], f2⟩
theorem Rev.snoc_inv {ss : List (Stp × Int)} {s : Stp × Int} {ws : List Value} (h : Rev (ss ++ [s]) ws) : ∃ v ws', ws = v :: ws' ∧ StepV s v ∧ Rev ss ws' := by
  induction ss generalizing ws with
  | nil =>
    cases h with
    | snoc h1 h2 => cases h2; exact ⟨_, [], rfl, h1, .nil⟩
  | cons s' ss ih =>
    cases h with
    | @snoc _ v _ vs h1 h2 =>
      obtain ⟨u, ws', rfl, h3, h4⟩ := ih h2
      exact ⟨u, ws' ++ [v], rfl, h3, .snoc h1 h4⟩
/-- what the address of a located datum is -/
theorem Loc.walk {σ : AH} {dv v : Value} {x : Addr} {ss : List Stp} {ps : List Nat} {d : Doc} (h : Loc σ dv x v ss ps) (hd : DocAt σ dv d) : ∃ ssn c, Walk σ x v ssn c ∧ ssn.length = ps.length ∧ ∀ ws, Rev ssn ws → AddrV d ps ws.reverse := by
  induction h with
  | top h1 h2 => exact ⟨[], _, .here h1, rfl, fun ws hw => by cases hw; exact .nil⟩
  | @step x v s a w ss ps j h1 h2 h3 ih =>
    obtain ⟨ssn, c, hw, hl, hr⟩ := ih
    obtain ⟨d', e1, e2⟩ := h2.doc hd
    obtain ⟨f1, f2, f3⟩ := h3.doc e2
    cases h3 with
    | @key l kvs ep j k w g1 g2 =>
      refine ⟨ssn ++ [(.key k, 0)], c, .key h1 rfl hw, by simp [hl], fun ws hws => ?_⟩
      obtain ⟨u, ws', rfl, h5, h6⟩ := hws.snoc_inv
      rw [List.reverse_cons]
      exact (hr ws' h6).snoc e1 f1 (f3 (n := 0) (fun l' vs e q => by cases e; rw [g1] at q; cases q) u h5)
    | @at_ l vs i j w g1 g2 g3 g4 g5 g6 =>
      have hj : j < vs.length := (List.getElem?_eq_some_iff.mp g2).1
      refine ⟨ssn ++ [(.at_ i, (vs.length : Int))], c, .at_ h1 g1 (by omega) g6 hw, by simp [hl], fun ws hws => ?_⟩
      obtain ⟨u, ws', rfl, h5, h6⟩ := hws.snoc_inv
      rw [List.reverse_cons]
      exact (hr ws' h6).snoc e1 f1 (f3 (n := (vs.length : Int)) (fun l' vs' e q => by cases e; rw [g1] at q; cases q; rfl) u h5)
theorem Loc.chain {σ : AH} {dv v : Value} {x : Addr} {ss : List Stp} {ps : List Nat} (h : Loc σ dv x v ss ps) : ∃ c p, Chain σ x v ss c dv ∧ ObjAt σ c 212 (dm dv (.ref p) .none) ∧ Top' σ p := by
  induction h with
  | top h1 h2 => exact ⟨_, _, .here h1, h1, h2⟩
  | step h1 _ h3 ih => obtain ⟨c, p, e1, e2, e3⟩ := ih; exact ⟨c, p, .step h1 e1, e2, e3⟩
/-- a datum or the document itself -/
def InLoc (C : Cx) (σ : AH) (dv x v : Value) (ss : List Stp) (ps : List Nat) : Prop := (∃ c, x = .ref c ∧ Loc σ dv c v ss ps) ∨ (x = dv ∧ v = dv ∧ ss = [] ∧ ps = [] ∧ ∃ T, DocV C σ dv T)
theorem InLoc.isIn {σ : AH} {dv x v : Value} {ss : List Stp} {ps : List Nat} (h : InLoc C σ dv x v ss ps) : IsIn C σ x v := by
  rcases h with ⟨c, rfl, h⟩ | ⟨rfl, rfl, _, _, h⟩
  · obtain ⟨p, q, h⟩ := h.obj; exact .inl ⟨c, p, q, rfl, h⟩
  · exact .inr ⟨rfl, h⟩
theorem InLoc.sub {σ σ' : AH} {dv x v : Value} {ss : List Stp} {ps : List Nat} (h : InLoc C σ dv x v ss ps) (k : Sub σ σ') : InLoc C σ' dv x v ss ps := by
  rcases h with ⟨c, rfl, h⟩ | ⟨rfl, rfl, h1, h2, T, h⟩
  · exact .inl ⟨c, rfl, h.sub k⟩
  · exact .inr ⟨rfl, rfl, h1, h2, T, h.sub k⟩
theorem docNot {σ : AH} {a Cl : Addr} {T : String} {m : List (Str × Value)} (h : DocV C σ (.ref a) T) (o : ObjAt σ a Cl m) : False := by
  obtain ⟨d, o1, _⟩ := o
  obtain ⟨h, _⟩ := h
  cases h with
  | lst e => rw [o1] at e; cases e
  | tup e => rw [o1] at e; cases e
  | dct e => rw [o1] at e; cases e
/-- the datum that stands for it is located -/
theorem InLoc.base {σ σ' : AH} {dv x v : Value} {ss : List Stp} {ps : List Nat} {c : Addr} {T : String} (h : InLoc C σ dv x v ss ps) (hv : DocV C σ v T) (k : Sub σ σ') (hb : Base σ' x v c) : Loc σ' dv c v ss ps := by
  rcases h with ⟨c', rfl, h⟩ | ⟨rfl, rfl, rfl, rfl, T', hT⟩
  · rcases hb with ⟨e, p, q, hb⟩ | ⟨e, p, h1, h2⟩
    · cases e; exact h.sub k
    · subst e
      obtain ⟨p', q', h'⟩ := h.obj
      exact (docNot hv h').elim
  · rcases hb with ⟨e, p, q, hb⟩ | ⟨e, p, h1, h2⟩
    · subst e
      exact (docNot (hv.sub k) hb).elim
    · exact .top h1 (.inl h2)
/-- these are located data of the document dv, all below the top, at these places -/
def Locs (σ : AH) (dv : Value) (ys : List Value) (pss : List (List Nat)) : Prop := ys.length = pss.length ∧ ∀ (i : Nat) ps, pss[i]? = some ps → ∃ (x : Addr) (v : Value) (ss : List Stp), ys[i]? = some (.ref x) ∧ Loc σ dv x v ss ps
theorem Locs.sub {σ σ' : AH} {dv : Value} {ys : List Value} {pss : List (List Nat)} (h : Locs σ dv ys pss) (k : Sub σ σ') : Locs σ' dv ys pss :=
  ⟨h.1, fun i ps e => let ⟨x, v, ss, e1, e2⟩ := h.2 i ps e; ⟨x, v, ss, e1, e2.sub k⟩⟩
theorem Locs.nil {σ : AH} {dv : Value} : Locs σ dv [] [] := ⟨rfl, fun i ps e => by simp at e⟩
theorem Locs.app {σ : AH} {dv : Value} {ys zs : List Value} {pss qss : List (List Nat)} (h : Locs σ dv ys pss) (h' : Locs σ dv zs qss) : Locs σ dv (ys ++ zs) (pss ++ qss) := by
  refine ⟨by simp [h.1, h'.1], fun i ps e => ?_⟩
  rcases Nat.lt_or_ge i pss.length with q | q
  · rw [List.getElem?_append_left q] at e
    obtain ⟨x, v, ss, e1, e2⟩ := h.2 i ps e
    exact ⟨x, v, ss, by rw [List.getElem?_append_left (by rw [h.1]; exact q)]; exact e1, e2⟩
  · rw [List.getElem?_append_right q] at e
    obtain ⟨x, v, ss, e1, e2⟩ := h'.2 _ ps e
    exact ⟨x, v, ss, by rw [List.getElem?_append_right (by rw [h.1]; exact q), h.1]; exact e1, e2⟩
/-- data one step from a located one -/
theorem Loc.kids {σ : AH} {dv v : Value} {c : Addr} {ss : List Stp} {ps : List Nat} {L : List (Value × Stp)} {js : List Nat} {ys : List Value} (h : Loc σ dv c v ss ps) (hk : Kids σ c L ys) (hj : js.length = L.length) (hs : ∀ (i j : Nat) w s, L[i]? = some (w, s) → js[i]? = some j → StepIn σ v w s j) :
    Locs σ dv ys (js.map fun j => ps ++ [j]) := by
  refine ⟨by simp [hk.1, hj], fun i qs e => ?_⟩
  rw [List.getElem?_map] at e
  cases ej : js[i]? with
  | none => rw [ej] at e; cases e
  | some j =>
    rw [ej] at e; cases e
    have hi : i < L.length := by rw [← hj]; exact (List.getElem?_eq_some_iff.mp ej).1
    obtain ⟨x, e1, e2⟩ := hk.2 i L[i].1 L[i].2 (by simp [hi])
    exact ⟨x, _, _, e1, .step e2 h (hs i j _ _ (by simp [hi]) ej)⟩
end
section
variable {C : Cx} {b : Nat} {H : AH}
theorem exists_js {σ : AH} {v : Value} : ∀ (L : List (Value × Stp)), (∀ w s, (w, s) ∈ L → ∃ j, StepIn σ v w s j) → ∃ js : List Nat, js.length = L.length ∧ ∀ (i j : Nat) w s, L[i]? = some (w, s) → js[i]? = some j → StepIn σ v w s j
  | [], _ => ⟨[], rfl, fun i j w s e => by simp at e⟩
  | (w, s) :: L, h => by
    obtain ⟨j, hj⟩ := h w s (List.mem_cons_self)
    obtain ⟨js, h1, h2⟩ := exists_js L fun w s hm => h w s (List.mem_cons_of_mem _ hm)
    refine ⟨j :: js, by simp [h1], fun i j' w' s' e e' => ?_⟩
    cases i with
    | zero => simp at e e'; obtain ⟨rfl, rfl⟩ := e; subst e'; exact hj
    | succ i => simp at e e'; exact h2 i j' w' s' e e'
theorem places_get {vs : List Value} {i n : Nat} (hi : i < n) (hn : n ≤ vs.length) : (places vs n)[i]? = some (vs[i], .at_ (i : Int)) := by
  induction n with
  | zero => omega
  | succ n ih =>
    have hv : vs[n]? = some vs[n] := List.getElem?_eq_getElem (by omega)
    unfold places
    rw [hv]
    rcases Nat.lt_or_ge i n with h | h
    · rw [List.getElem?_append_left (by rw [places_len (by omega)]; exact h)]
      exact ih h (by omega)
    · have : i = n := by omega
      subst this
      rw [List.getElem?_append_right (by rw [places_len (by omega)]; exact Nat.le_refl _), places_len (by omega)]
      simp
theorem fmod_small {i n : Int} (h0 : 0 ≤ i) (h1 : i < n) : i.fmod n = i := by rw [Int.fmod_eq_emod_of_nonneg _ (by omega), Int.emod_eq_of_lt h0 h1]
theorem fmod_neg' {i n : Int} (h0 : i < 0) (h1 : -n ≤ i) : i.fmod n = i + n := by
  rw [Int.fmod_eq_emod_of_nonneg _ (by omega), ← Int.add_emod_right, Int.emod_eq_of_lt (by omega) (by omega)]
theorem places_js {σ : AH} {l : Addr} {vs : List Value} (hl : σ l = some (.lst vs)) (hz : vs.length ≤ 100) (i j : Nat) (w : Value) (s : Stp) (h : (places vs vs.length)[i]? = some (w, s)) (hj : (List.range vs.length)[i]? = some j) : StepIn σ (.ref l) w s j := by
  obtain ⟨hi, e⟩ := List.getElem?_eq_some_iff.mp hj
  simp at hi e
  subst e
  rw [places_get hi (Nat.le_refl _)] at h
  cases h
  exact .at_ hl (List.getElem?_eq_getElem hi) (by omega) (by omega) (by rw [fmod_small (by omega) (by omega)]) hz
theorem fieldsOf_inv {l : List (Str × Value)} {j : Nat} {w : Value} {s : Stp} (h : (fieldsOf l)[j]? = some (w, s)) : ∃ k, s = .key k ∧ l[j]? = some (k, w) := by
  induction l generalizing j with
  | nil => simp [fieldsOf] at h
  | cons p l ih =>
    obtain ⟨k', w'⟩ := p
    cases j with
    | zero => simp [fieldsOf] at h; obtain ⟨rfl, rfl⟩ := h; exact ⟨k', rfl, rfl⟩
    | succ j => simp [fieldsOf] at h; obtain ⟨k, e1, e2⟩ := ih h; exact ⟨k, e1, by simpa using e2⟩
theorem fields_js {σ : AH} {l : Addr} {kvs : List (Str × Value)} {ep : Nat} (hl : σ l = some (.dct kvs ep)) (i j : Nat) (w : Value) (s : Stp) (h : (fieldsOf kvs)[i]? = some (w, s)) (hj : (List.range kvs.length)[i]? = some j) : StepIn σ (.ref l) w s j := by
  obtain ⟨hi, e⟩ := List.getElem?_eq_some_iff.mp hj
  simp at hi e
  subst e
  obtain ⟨k, rfl, e⟩ := fieldsOf_inv h
  exact .key hl e
/-- Wildcard.find of a located thing -/
theorem wild_find {x v dv : Value} {s : Addr} {ss : List Stp} {ps : List Nat} {d : Doc} (hK : C.K = hd.heap_39 C.w.params) (hx : InLoc C H dv x v ss ps) (hd : DocAt H v d) (hw : d.width ≤ 100) :
    WCall C (b + 60) (.ref 667) [.ref s, x] [] H (fun r H' => ∃ l ys, r = .ref l ∧ Sub H H' ∧ H' l = some (.lst ys) ∧ Locs H' dv ys ((List.range d.width).map fun j => ps ++ [j])) := by
  have hv : DocV C H v d.kind := hd.docV
  have leaf : (d.kind == "list") = false → (d.kind == "dict") = false → d.width = 0 → WCall C (b + 60) (.ref 667) [.ref s, x] [] H (fun r H' => ∃ l ys, r = .ref l ∧ Sub H H' ∧ H' l = some (.lst ys) ∧ Locs H' dv ys ((List.range d.width).map fun j => ps ++ [j])) := by
    intro h1 h2 h3
    refine WK.mono (wild_leaf hK hx.isIn hv h1 h2) fun f H' q => ?_
    obtain ⟨r, rfl, D, ys, c, rfl, hs, hD, hb, rfl⟩ := q
    exact ⟨_, rfl, D, [], rfl, hs, hD, by rw [h3]; exact Locs.nil⟩
  cases hd with
  | num => exact leaf (by simp [Doc.kind]) (by simp [Doc.kind]) rfl
  | txt => exact leaf (by simp [Doc.kind]) (by simp [Doc.kind]) rfl
  | tru => exact leaf (by simp [Doc.kind]) (by simp [Doc.kind]) rfl
  | nil => exact leaf (by simp [Doc.kind]) (by simp [Doc.kind]) rfl
  | @row l vs n kid e1 e2 e3 =>
    subst e2
    refine WK.mono (wild_list hK hx.isIn e1 hw) fun f H' q => ?_
    obtain ⟨r, rfl, D, ys, c, rfl, hs, hD, hb, hk⟩ := q
    exact ⟨_, rfl, D, ys, rfl, hs, hD, (hx.base hv hs hb).kids hk (by simp [places_len (Nat.le_refl _), Doc.width]) (places_js (hs _ _ e1) hw)⟩
  | @fld l kvs ep n key kid e1 e2 e3 e4 =>
    subst e2
    refine WK.mono (wild_dict hK hx.isIn e1 hw) fun f H' q => ?_
    obtain ⟨r, rfl, D, ys, c, rfl, hs, hD, hb, hk⟩ := q
    exact ⟨_, rfl, D, ys, rfl, hs, hD, (hx.base hv hs hb).kids hk (by simp [fieldsOf_len, Doc.width]) (fields_js (hs _ _ e1))⟩
end
section
variable {C : Cx} {b : Nat} {H : AH}
theorem DocAt.kidsOf {σ : AH} {v : Value} {d : Doc} (h : DocAt σ v d) (hw : d.width ≤ 100) : ∃ L, KidsOf C σ v d.kind L ∧ L.length = d.width ∧ ∀ σ', Sub σ σ' → ∀ (i j : Nat) w s, L[i]? = some (w, s) → (List.range d.width)[i]? = some j → StepIn σ' v w s j := by
  have leaf : (d.kind == "list") = false → (d.kind == "dict") = false → d.width = 0 → ∃ L, KidsOf C σ v d.kind L ∧ L.length = d.width ∧ ∀ σ', Sub σ σ' → ∀ (i j : Nat) w s, L[i]? = some (w, s) → (List.range d.width)[i]? = some j → StepIn σ' v w s j := by
    intro h1 h2 h3
    exact ⟨[], .leaf h.docV h1 h2, h3.symm, fun σ' _ i j w s e => by simp at e⟩
  cases h with
  | num => exact leaf (by simp [Doc.kind]) (by simp [Doc.kind]) rfl
  | txt => exact leaf (by simp [Doc.kind]) (by simp [Doc.kind]) rfl
  | tru => exact leaf (by simp [Doc.kind]) (by simp [Doc.kind]) rfl
  | nil => exact leaf (by simp [Doc.kind]) (by simp [Doc.kind]) rfl
  | @row l vs n kid e1 e2 e3 => subst e2; exact ⟨_, .lst e1 hw, places_len (Nat.le_refl _), fun σ' k => places_js (k _ _ e1) hw⟩
  | @fld l kvs ep n key kid e1 e2 e3 e4 => subst e2; exact ⟨_, .dct e1 hw, fieldsOf_len, fun σ' k => fields_js (k _ _ e1)⟩

inductive All2 {α β : Type} (R : α → β → Prop) : List α → List β → Prop
  | nil : All2 R [] []
  | snoc {as bs a b} : All2 R as bs → R a b → All2 R (as ++ [a]) (bs ++ [b])

theorem Locs.rev {σ : AH} {dv : Value} {ys : List Value} {pss : List (List Nat)} (h : Locs σ dv ys pss) : Locs σ dv ys.reverse pss.reverse := by
  refine ⟨by simp [h.1], fun i ps e => ?_⟩
  have hi : i < pss.length := by
    rcases Nat.lt_or_ge i pss.length with q | q
    · exact q
    · rw [List.getElem?_eq_none (by simpa using q)] at e; cases e
  rw [List.getElem?_reverse hi] at e
  rw [List.getElem?_reverse (by rw [h.1]; exact hi), h.1]
  exact h.2 _ _ e
theorem Locs.unsnoc {σ : AH} {dv u : Value} {ys : List Value} {pss : List (List Nat)} (h : Locs σ dv (ys ++ [u]) pss) : ∃ qss ps x v ss, pss = qss ++ [ps] ∧ u = .ref x ∧ Loc σ dv x v ss ps ∧ Locs σ dv ys qss := by
  rcases pss.eq_nil_or_concat with rfl | ⟨qss, ps, rfl⟩
  · have := h.1; simp at this
  · rw [List.concat_eq_append] at h ⊢
    have hl : ys.length = qss.length := by have := h.1; simpa using this
    obtain ⟨x, v, ss, e1, e2⟩ := h.2 qss.length ps (by simp)
    rw [← hl] at e1
    simp at e1
    refine ⟨qss, ps, x, v, ss, rfl, e1, e2, hl, fun i ps' e => ?_⟩
    have hi : i < qss.length := (List.getElem?_eq_some_iff.mp e).1
    obtain ⟨x', v', ss', e3, e4⟩ := h.2 i ps' (by rw [List.getElem?_append_left hi]; exact e)
    exact ⟨x', v', ss', by rw [List.getElem?_append_left (by omega)] at e3; exact e3, e4⟩
theorem Locs.valid {σ : AH} {dv : Value} {ys : List Value} {pss : List (List Nat)} {d : Doc} (h : Locs σ dv ys pss) (hd : DocAt σ dv d) : ∀ ps ∈ pss, ∃ d', d.sub ps = some d' := by
  intro ps hm
  obtain ⟨i, e⟩ := List.mem_iff_getElem?.mp hm
  obtain ⟨x, v, ss, e1, e2⟩ := h.2 i ps e
  obtain ⟨d', e3, _⟩ := e2.doc hd
  exact ⟨d', e3⟩
theorem preFrom_len {d d' : Doc} {m : Nat} {ps : List Nat} (hf : Fit m d) (hm : m ≤ 3) (h : d.sub ps = some d') : 1 ≤ (d.preFrom ps).length ∧ (d.preFrom ps).length ≤ 40 := by
  constructor
  · rw [Doc.preFrom_eq h]; simp
  · unfold Doc.preFrom
    rw [h]
    dsimp only
    rw [List.length_map, Doc.pre_len]
    have := ((hf.at_ h).2.up (show m - ps.length ≤ 3 by omega)).size_le
    exact this
theorem flat_len {d : Doc} {m : Nat} (hf : Fit m d) (hm : m ≤ 3) : ∀ {pss : List (List Nat)}, (∀ ps ∈ pss, ∃ d', d.sub ps = some d') → pss.length ≤ (pss.flatMap d.preFrom).length ∧ (pss.flatMap d.preFrom).length ≤ 40 * pss.length
  | [], _ => by simp
  | ps :: pss, h => by
    obtain ⟨d', e⟩ := h ps (List.mem_cons_self)
    have h1 := preFrom_len hf hm e
    have h2 := flat_len hf hm fun q hq => h q (List.mem_cons_of_mem _ hq)
    rw [List.flatMap_cons, List.length_append, List.length_cons]
    omega

/-- Descendants.find over a document: what the right finds at each place, the places in order -/
theorem desc_docs {x dv : Value} {s p q fp fq : Addr} {d : Doc} {m : Nat} (RL : List (List Nat) → Prop) (RP : List Nat → List (List Nat) → Prop) (hK : C.K = hd.heap_39 C.w.params) (hG : Gens C 450 448) (hs : ObjAt H s 515 [(Str.ofString "left", .ref p), (Str.ofString "right", .ref q)]) (hp : Finds C H p fp) (hq : Finds C H q fq)
    (hd : DocAt H dv d) (hfit : Fit m d) (hm : m ≤ 3)
    (hl : WCall C (b + 100) (.ref fp) [.ref p, x] [] H (fun r H' => ∃ l us pss, r = .ref l ∧ Sub H H' ∧ H' l = some (.lst us) ∧ Locs H' dv us pss ∧ pss.length ≤ 16 ∧ RL pss))
    (hr : ∀ K x v ss ps d', Sub H K → Loc K dv x v ss ps → d.sub ps = some d' → DocAt K v d' → d'.width ≤ 3 → WCall C (b + 100) (.ref fq) [.ref q, .ref x] [] K (fun r K' => ∃ l zs rs, r = .ref l ∧ Sub K K' ∧ K' l = some (.lst zs) ∧ Locs K' dv zs rs ∧ rs.length ≤ 4 ∧ RP ps rs)) :
    WCall C (b + 120) (.ref 451) [.ref s, x] [] H (fun r H' => ∃ D ms pss rs, r = .ref D ∧ Sub H H' ∧ H' D = some (.lst ms) ∧ Locs H' dv ms rs.flatten ∧ RL pss ∧ pss.length ≤ 16 ∧ All2 RP (pss.flatMap d.preFrom) rs ∧ rs.flatten.length ≤ 2560) := by
  refine WK.mono (desc_find (b := b) hK hG hs hp hq (fun n ms st K => Sub H K ∧ ∃ pss stp vis rs, RL pss ∧ pss.length ≤ 16 ∧ (∀ ps ∈ pss, ∃ d', d.sub ps = some d') ∧ Locs K dv st stp ∧ All2 RP vis rs ∧ Locs K dv ms rs.flatten ∧ vis ++ stp.reverse.flatMap d.preFrom = pss.flatMap d.preFrom ∧ n = (stp.reverse.flatMap d.preFrom).length ∧ rs.flatten.length ≤ 4 * vis.length)
    (WK.mono hl fun f H' q' => ?_) (fun n ms st K q' => ?_) (fun n ms st u K q' hsK => ?_)) fun f H' q' => ?_
  · obtain ⟨r, rfl, l, us, pss, rfl, h1, h2, h3, h4, h5⟩ := q'
    have hval := h3.valid (hd.sub h1)
    refine ⟨_, rfl, l, us, (pss.flatMap d.preFrom).length, rfl, h1, by rw [h3.1]; omega, h2, fun H2 k => ⟨h1.trans k, pss, pss.reverse, [], [], h5, h4, hval, (h3.sub k).rev, .nil, Locs.nil, by simp, by simp, by simp⟩⟩
  · obtain ⟨hsK, pss, stp, vis, rs, h1, h2, h3, h4, h5, h6, h7, h8, h9⟩ := q'
    have e1 := (flat_len hfit hm h3).2
    have e2 := (flat_len hfit hm (pss := stp.reverse) fun ps hps => h4.valid (hd.sub hsK) ps (by simpa using hps)).1
    have e3 := congrArg List.length h7
    rw [List.length_append] at e3
    rw [List.length_reverse] at e2
    exact ⟨by rw [h6.1]; omega, by rw [h4.1]; omega⟩
  · obtain ⟨_, pss, stp, vis, rs, h1, h2, h3, h4, h5, h6, h7, h8, h9⟩ := q'
    obtain ⟨stp, ps, x', v, ss, rfl, rfl, hloc, h4'⟩ := h4.unsnoc
    have hdK := hd.sub hsK
    obtain ⟨d', hsub, hdv⟩ := hloc.doc hdK
    have hw3 : d'.width ≤ 3 := (hfit.at_ hsub).2.width
    obtain ⟨pv, cv, hobj⟩ := hloc.obj
    obtain ⟨L, hko, hLl, hstep⟩ := hdv.kidsOf (C := C) (by omega)
    rw [List.reverse_append, List.flatMap_append, List.reverse_singleton, List.flatMap_singleton, Doc.preFrom_eq hsub, List.cons_append] at h7 h8
    refine ⟨x', v, d'.kind, pv, cv, n - 1, L, by rw [h8]; simp, rfl, hobj, hko, WK.mono (hr K x' v ss ps d' hsK hloc hsub hdv hw3) fun f K' q' => ?_⟩
    obtain ⟨r, rfl, l, zs, rs0, rfl, k1, k2, k3, k4, k5⟩ := q'
    have e1 := (flat_len hfit hm h3).2
    have e3 := congrArg List.length h7
    rw [List.length_append] at e3
    simp only [List.length_cons] at e3
    refine ⟨_, rfl, l, zs, rfl, k1, k2, by rw [h6.1, k3.1]; omega, fun K3 ks k hk => ⟨(hsK.trans k1).trans k, pss, stp ++ ((List.range d'.width).map fun i => ps ++ [i]).reverse, vis ++ [ps], rs ++ [rs0], h1, h2, h3, ?_, .snoc h5 k5, ?_, ?_, ?_, ?_⟩⟩
    · exact ((h4'.sub k1).sub k).app (((hloc.sub k1).sub k).kids hk (by simp [hLl]) (hstep K3 (k1.trans k))).rev
    · rw [List.flatten_append]
      simp only [List.flatten_cons, List.flatten_nil, List.append_nil]
      exact ((h6.sub k1).sub k).app (k3.sub k)
    · rw [← h7, List.reverse_append, List.reverse_reverse, List.flatMap_append, List.append_assoc, List.flatMap_map]
      simp
    · rw [h8, List.reverse_append, List.reverse_reverse, List.flatMap_append, List.flatMap_map]
      simp
    · rw [List.flatten_append, List.length_append, List.length_append]
      simp only [List.flatten_cons, List.flatten_nil, List.append_nil, List.length_cons, List.length_nil]
      omega
  · obtain ⟨r, rfl, D, ms, n, rfl, h0, hD, K, hsK, hKs, _, pss, stp, vis, rs, h1, h2, h3, h4, h5, h6, h7, h8, h9⟩ := q'
    have hst : stp = [] := List.eq_nil_of_length_eq_zero (by have := h4.1; simpa using this.symm)
    subst hst
    simp at h7
    have e1 := (flat_len hfit hm h3).2
    rw [h7] at h5 h9
    exact ⟨_, rfl, D, ms, pss, rs, rfl, h0, hD, h6.sub hKs, h1, h2, h5, by omega⟩
end
section
variable {C : Cx} {b : Nat} {H : AH}

def nextV (xs : List Int) (k : Int) (lim : Int) : Int := match xs[k.toNat]? with | some n => n.fmod lim | none => 0
def intsAre (xs : List Int) (vs : List Value) : Prop := vs.length = xs.length ∧ ∀ (i : Nat) (n : Int), xs[i]? = some n → ∃ t, vs[i]? = some (Value.int n t)

theorem law_next {S st : Addr} {vs : List Value} {xs : List Int} {k lim : Int} {t tl : Tok} (hK : C.K = hd.heap_39 C.w.params) (hst : H st = none) (hS : H S = some (.lst vs)) (hi : intsAre xs vs)
    (hk0 : 0 ≤ k) (hk1 : k < 1000) (hlim : 0 < lim) (hlen : xs.length ≤ 100) :
    WCall C (b + 2) (.ref 927) [.ref st, .int lim tl] [] (H.set st (.lst [.ref S, .int k t])) (fun v σ' => ∃ t1 t2, v = .int (nextV xs k lim) t1 ∧ σ' = H.set st (.lst [.ref S, .int (k+1) t2])) := by
  have hlen' : vs.length ≤ 100 := by rw [hi.1]; exact hlen
  refine WK.fn0 (binds := [((Str.ofString "state"), .ref st), (Str.ofString "limit", .int lim tl)]) (mm := [(Str.ofString "limit", .int lim tl), (Str.ofString "state", .ref st)]) (by rw [hK]; k_is) (by rw [hK]; k_is) rfl (by dsimp only) rfl rfl rfl rfl rfl rfl fun L hL => ?_
  repeat k_data
  refine W.op hL (W.setList AH.set_self (by decide) (by decide) (by simp) fun hL => ?_)
  rw [AH.set_set] at hL ⊢
  simp only [List.set, Int.toNat] at hL ⊢
  repeat k_data
  refine ⟨fun hc => ?_, fun hc => ?_⟩
  · repeat k_data
    have : nextV xs k lim = 0 := by
      have : xs.length ≤ k.toNat := by
        have := of_decide_eq_true hc
        rw [hi.1] at this; omega
      unfold nextV
      rw [List.getElem?_eq_none this]
    exact ⟨_, _, by rw [this], rfl⟩
  · repeat k_data
    have hc' := of_decide_eq_false hc
    rw [hi.1] at hc'
    have hk2 : k.toNat < xs.length := by omega
    obtain ⟨t5, ht5⟩ := hi.2 k.toNat _ (List.getElem?_eq_getElem hk2)
    refine W.itemList (hl := by lcf_look) (by omega) (by omega) (x := .int xs[k.toNat] t5) (by rw [show k + 1 - 1 = k by omega]; exact ht5) ?_
    repeat k_data
    refine W.modInt (by omega) fun _ => ?_
    repeat k_data
    have : nextV xs k lim = xs[k.toNat].fmod lim := by unfold nextV; rw [List.getElem?_eq_getElem hk2]
    exact ⟨_, _, by rw [this], rfl⟩
end
section
variable {C : Cx} {b : Nat} {H : AH}
theorem nextV_bd {xs : List Int} {k lim : Int} (h : 0 < lim) : 0 ≤ nextV xs k lim ∧ nextV xs k lim < lim := by
  unfold nextV
  split
  · exact ⟨Int.fmod_nonneg_of_pos _ h, Int.fmod_lt_of_pos _ h⟩
  · exact ⟨Int.le_refl _, h⟩
theorem Finds.of {σ : AH} {a Cl f : Addr} {m : List (Str × Value)} (hK : C.K = hd.heap_39 C.w.params) (ho : ObjAt σ a Cl m) (hm : m.lookup (Str.ofString "find") = none) (h1 : methOk (hd.heap_39 C.w.params) Cl (Str.ofString "find") f = true) (h2 : keepIn (hd.heap_39 C.w.params) (.ref f) = true) : Finds C σ a f := ⟨Cl, m, ho, hm, by rw [hK]; exact h1, by rw [hK]; exact h2⟩
theorem All2.mem {α β : Type} {R : α → β → Prop} {as : List α} {bs : List β} (h : All2 R as bs) : ∀ b ∈ bs, ∃ a ∈ as, R a b := by
  induction h with
  | nil => intro b hb; cases hb
  | snoc h1 h2 ih =>
    intro b hb
    rcases List.mem_append.mp hb with hb | hb
    · obtain ⟨a, ha, hr⟩ := ih b hb; exact ⟨a, List.mem_append_left _ ha, hr⟩
    · simp at hb; subst hb; exact ⟨_, List.mem_append_right _ (List.mem_singleton.mpr rfl), h2⟩
theorem All2.map {α β : Type} {f : α → List β} {as : List α} {bs : List (List β)} (h : All2 (fun a b => b = f a) as bs) : bs.flatten = as.flatMap f := by
  induction h with
  | nil => rfl
  | snoc h1 h2 ih => subst h2; simp [ih]
/-- everything below the top -/
theorem every_find {dv : Value} {s p q : Addr} {d : Doc} {m : Nat} (hK : C.K = hd.heap_39 C.w.params) (hG : Gens C 450 448) (hs : ObjAt H s 515 [(Str.ofString "left", .ref p), (Str.ofString "right", .ref q)]) (hp : ObjAt H p 275 []) (hq : ObjAt H q 719 []) (hd : DocAt H dv d) (hfit : Fit m d) (hm : m ≤ 3) :
    WCall C (b + 120) (.ref 451) [.ref s, dv] [] H (fun r H' => ∃ D ms, r = .ref D ∧ Sub H H' ∧ H' D = some (.lst ms) ∧ Locs H' dv ms d.all ∧ d.all.length ≤ 2560) := by
  have hdv : DocV C H dv d.kind := hd.docV
  refine WK.mono (desc_docs (b := b) (fp := 230) (fq := 667) (fun pss => pss = [[]]) (fun ps rs => rs = d.places ps) hK hG hs (Finds.of hK hp rfl (by kernel_rfl) (by kernel_rfl)) (Finds.of hK hq rfl (by kernel_rfl) (by kernel_rfl)) hd hfit hm
    (WK.more (WK.mono (root_find (b := b) hK hdv) fun f H1 q' => ?_) (by omega)) (fun K x v ss ps d' kk hloc hsub hdv' hw => WK.more (WK.mono (wild_find (b := b) (s := q) hK (.inl ⟨x, rfl, hloc⟩) hdv' (by omega)) fun f K' q' => ?_) (by omega))) fun f H2 q' => ?_
  · obtain ⟨r, rfl, l, a, p', rfl, h1, h2, h3, h4⟩ := q'
    refine ⟨_, rfl, l, [.ref a], [[]], rfl, h1, h2, ⟨rfl, fun i ps e => ?_⟩, by simp, rfl⟩
    cases i with
    | zero => simp at e; subst e; exact ⟨a, dv, [], rfl, .top h3 (.inr h4)⟩
    | succ i => simp at e
  · obtain ⟨r, rfl, l, ys, rfl, h1, h2, h3⟩ := q'
    exact ⟨_, rfl, l, ys, _, rfl, h1, h2, h3, by simp; omega, by unfold Doc.places; rw [hsub]⟩
  · obtain ⟨r, rfl, D, ms, pss, rs, rfl, h0, hD, h1, rfl, h2, h3, h4⟩ := q'
    have e : rs.flatten = d.all := by
      rw [h3.map, List.flatMap_singleton]
      unfold Doc.preFrom
      simp only [Doc.sub]
      rw [← Doc.all_pre]
      simp
    rw [e] at h1 h4
    exact ⟨_, rfl, D, ms, rfl, h0, hD, h1, h4⟩
end
section
variable {C : Cx} {b : Nat} {H : AH}
/-- a name as the model has it -/
abbrev nmS (i : Nat) : Str := txt (rawN i)
theorem plain_match {i : Nat} {t : Tok} (hK : C.K = hd.heap_39 C.w.params) (hi : i < 23) : WCall C (b + 1) (.builtin "re.Pattern.match") [.ref 70, .str (nmS i) t] [] H (fun v H' => (isPlain i = false ∧ v = .none ∧ H' = H) ∨ (isPlain i = true ∧ ∃ a, v = .ref a ∧ Sub H H' ∧ H' a = some matchO)) := by
  have h0 := List.all_eq_true.mp says_all i (List.mem_range.mpr hi)
  rw [beq_iff_eq] at h0
  cases hr : reSays plainCode (txt (rawN i)) with
  | none => rw [hr] at h0; cases h0
  | some r =>
    rw [hr] at h0
    have h1 : r.isSome = isPlain i := by simpa using h0
    refine' W.reMatch (x := nmS i) (r := r) (Tc := 69) (g := .none) (ho := ?ho) (hcls := ?hc) (hf := ?hf) (hoc := ?hoc) (hoi := ?hoi) (hr := ?hr) ?h0 ?h1
    case ho => rw [hK]; k_is
    case hoc => rw [hK]; k_is
    case hc => rfl
    case hf => rfl
    case hoi => rfl
    case hr => exact (congrArg (fun c => reSays c (nmS i)) (by kernel_rfl : _ = plainCode)).trans hr
    case h0 => intro e; subst e; exact .inl ⟨h1.symm, rfl, rfl⟩
    case h1 =>
      intro e T vs a hT ha
      refine .inr ⟨?_, a, rfl, (Sub.set hT).trans (Sub.set ha), AH.set_self⟩
      rw [← h1]
      cases r with
      | none => exact absurd rfl e
      | some m => rfl
end
section
variable {C : Cx} {b : Nat} {H : AH}
theorem raw_fact {i : Nat} (hi : i < 23) : rawN i ≠ [42] ∧ (rawN i).length ≤ 20 ∧ (nameT i).length ≤ 20 ∧ (isPlain i = true → rawN i = nameT i) ∧ (isPlain i = false → reprText (nmS i) = txt (nameT i)) := by
  have h1 := List.all_eq_true.mp raw_star i (List.mem_range.mpr hi)
  have h2 := List.all_eq_true.mp raw_len i (List.mem_range.mpr hi)
  have h3 := List.all_eq_true.mp shown_all i (List.mem_range.mpr hi)
  simp only [Bool.and_eq_true, decide_eq_true_eq] at h2
  refine ⟨by simpa using h1, h2.1, h2.2, fun e => ?_, fun e => ?_⟩
  · rw [e] at h3; simpa using h3
  · rw [e] at h3
    simp only [Bool.false_eq_true, if_false, beq_iff_eq] at h3
    show reprText (txt (rawN i)) = txt (nameT i)
    rw [← h3]; simp [txt]
theorem nm_star {i : Nat} (hi : i < 23) : (nmS i == Str.ofString "*") = false := by
  have h := (raw_fact hi).1
  rw [show Str.ofString "*" = txt [42] by decide +kernel]
  rw [beq_eq_false_iff_ne]
  exact fun e => h (txt_inj e)
/-- the texts of these names, so far -/
def nameTs (is : List Nat) : List Str := is.map fun i => txt (nameT i)
/-- these values are these names -/
def NamesAre (vs : List Value) (is : List Nat) : Prop := vs.length = is.length ∧ ∀ (j : Nat) v, vs[j]? = some v → ∃ i t, is[j]? = some i ∧ i < 23 ∧ v = .str (nmS i) t
theorem nameTs_sum : ∀ {is : List Nat}, (∀ i ∈ is, i < 23) → ((nameTs is).map (·.length)).sum ≤ 20 * is.length
  | [], _ => by simp [nameTs]
  | i :: is, h => by
    have h1 := nameTs_sum fun j hj => h j (List.mem_cons_of_mem _ hj)
    have h2 := (raw_fact (h i (List.mem_cons_self ..))).2.2.1
    simp only [nameTs, List.map_cons, List.sum_cons, List.length_cons, txt_len] at h1 ⊢
    omega
theorem fields_str {p : Addr} {vs : List Value} {is : List Nat} (hK : C.K = hd.heap_39 C.w.params) (hp : FieldsAt H p vs) (hv : NamesAre vs is) (hz : is.length ≤ 4) (h0 : is ≠ []) :
    WCall C (b + 30) (.ref 619) [.ref p] [] H (fun r H' => ∃ t, r = .str (Txt.join (Str.ofString ",") (nameTs is)) t ∧ Sub H H') := by
  obtain ⟨_, hp1, tA, rfl, htA⟩ := hp
  refine WK.fn0 (binds := [(Str.ofString "self", .ref p)]) (mm := [(Str.ofString "self", .ref p)]) (by rw [hK]; k_is) (by rw [hK]; k_is) rfl (by dsimp only) (by dsimp only) (by dsimp only) rfl rfl rfl rfl fun L hL => ?_
  repeat k_data
  rename_i R hR hL1
  refine W.sFor (hs := by intro _; rfl) ?_
  repeat k_data
  refine W.getO hK ((hp1.set hR).set hL1) rfl rfl (by kernel_rfl) ?_
  refine W.iterTup (AH.set_new hL1 (AH.set_new hR htA)) fun I hI => ?_
  refine WK.forSrc (Src.tup (vs := vs) (l := tA) rfl) (fun k σ => ∃ K m ws, σ = AH.set K L (.ns "frame" m) ∧ K L = none ∧ K R = some (.lst ws) ∧ Sub H K ∧ m.lookup (Str.ofString "self") = some (.ref p) ∧ m.lookup (Str.ofString "rendered_fields") = some (.ref R) ∧ StrsAre ws (nameTs (is.take k)) ∧ k ≤ is.length)
    (fun k σ q => ?_) (fun k σ v hk q hv' => ?_) (fun σ q => ?_) vs.length 0 _ _ (by omega) ⟨hI, rfl⟩ ⟨_, _, [], rfl, hL1, AH.set_self, Sub.set hR, rfl, rfl, by simp [nameTs]; exact .nil, Nat.zero_le _⟩
  · obtain ⟨K, m, ws, rfl, h1, h2, h3, _⟩ := q
    exact AH.set_new h1 (h3 _ _ htA)
  · obtain ⟨K, m, ws, rfl, h1, h2, h3, h4, h5, h6, h7⟩ := q
    obtain ⟨i, t, hi1, hi2, rfl⟩ := hv.2 _ _ hv'
    have hw : ws.length ≤ 4 := by rw [h6.length]; simp [nameTs]; omega
    have hfin : ∀ (K' : AH) (m' : List (Str × Value)) (t' : Tok), Sub K K' → (K'.set R (.lst (ws ++ [.str (txt (nameT i)) t']))) L = none → m'.lookup (Str.ofString "self") = some (.ref p) → m'.lookup (Str.ofString "rendered_fields") = some (.ref R) →
        ∃ K'' m ws', AH.set (K'.set R (.lst (ws ++ [.str (txt (nameT i)) t']))) L (.ns "frame" m') = AH.set K'' L (.ns "frame" m) ∧ K'' L = none ∧ K'' R = some (.lst ws') ∧ Sub H K'' ∧ m.lookup (Str.ofString "self") = some (.ref p) ∧ m.lookup (Str.ofString "rendered_fields") = some (.ref R) ∧ StrsAre ws' (nameTs (is.take (k + 1))) ∧ k + 1 ≤ is.length := by
      intro K' m' t' k1 k2 k3 k4
      refine ⟨_, m', _, rfl, k2, AH.set_self, subSetC (h3.trans k1) hR, k3, k4, ?_, ?_⟩
      · rw [take_snoc hi1, nameTs, List.map_append]
        exact StrsAre.append' h6 (.cons _ _ .nil)
      · have := (List.getElem?_eq_some_iff.mp hi1).1
        omega
    have happ : ∀ (K' : AH) (t' : Tok) (o : AO) (Q : Value → AH → Prop), o.fr → Sub K K' → K' L = none → ((K'.set R (.lst (ws ++ [.str (txt (nameT i)) t']))) L = none → Q .none ((K'.set R (.lst (ws ++ [.str (txt (nameT i)) t']))).set L o)) → W C (b + 28) (call (.builtin "list.append") [.ref R, .str (txt (nameT i)) t'] []) (K'.set L o) Q noX := by
      intro K' t' o Q ho k1 k2 k3
      exact W.op k2 (W.call_ (WK.append (k1 _ _ h2) (by omega) k3)) ho
    refine oneI ?_
    repeat k_data
    refine ifF' (nm_star hi2) ?_
    refine ⟨(fun e => nomatch e), fun _ => ?_⟩
    repeat k_data
    refine W.methK (T := "re.Pattern") (by rw [hK]; k_is) rfl rfl plainAttrs_re slot_rematch type_rematch ?_
    repeat k_data
    refine W.callOp (b' := b + 1) (plain_match hK hi2) (by omega) h1 (fun v' K1 q hL2 => ?_)
    rcases q with ⟨hpl, rfl, rfl⟩ | ⟨hpl, a, rfl, hs1, ha⟩
    · repeat k_data
      refine W.reprStr (by rw [(raw_fact hi2).2.2.2.2 hpl, txt_len, sizeLine_eq]; have := (raw_fact hi2).2.2.1; omega) fun t1 => ?_
      rw [(raw_fact hi2).2.2.2.2 hpl]
      refine W.fmtStr (by rw [txt_len, sizeLine_eq]; have := (raw_fact hi2).2.2.1; omega) fun t2 => ?_
      repeat k_data
      refine happ _ _ _ _ trivial (.refl _) h1 fun hL3 => ?_
      repeat k_data
      exact hfin _ _ _ (.refl _) hL3 h4 h5
    · refine W.trMatch (AH.set_new hL2 ha) ?_
      repeat k_data
      have e : nmS i = txt (nameT i) := congrArg txt ((raw_fact hi2).2.2.2.1 hpl)
      rw [e]
      refine happ _ _ _ _ trivial hs1 hL2 fun hL3 => ?_
      repeat k_data
      exact hfin _ _ _ hs1 hL3 h4 h5
  · obtain ⟨K, m, ws, rfl, h1, h2, h3, h4, h5, h6, h7⟩ := q
    repeat k_data
    rw [hv.1, List.take_length] at h6
    refine W.op h1 (W.joinList h2 h6 ?_ fun t' hL2 => ?_) trivial
    · have h := nameTs_sum (is := is) fun i hi => by
        obtain ⟨j, hj⟩ := List.mem_iff_getElem?.mp hi
        have hj' : j < vs.length := by rw [hv.1]; exact (List.getElem?_eq_some_iff.mp hj).1
        obtain ⟨i', t, e1, e2, _⟩ := hv.2 j vs[j] (by simp [hj'])
        rw [hj] at e1; cases e1; exact e2
      have e : (nameTs is).length = is.length := by simp [nameTs]
      rw [e, show (Str.ofString ",").length = 1 by decide +kernel]
      omega
    · repeat k_data
      exact ⟨_, rfl, h3⟩
end
section
variable {C : Cx} {b : Nat} {H : AH}
theorem int_small {k : Int} (h : -1000 ≤ k ∧ k ≤ 1000) : k.natAbs.log2 < 1920 := by
  have := Nat.log2_le_self k.natAbs
  omega
theorem place_text : ∀ k ∈ [(-2 : Int), -1, 0, 1], Str.ofString "[" ++ Str.ofString (toString k) ++ Str.ofString "]" = txt (St.place k).text ∧ (Str.ofString (toString k)).length ≤ 4 ∧ Txt.join (Str.ofString ",") [Str.ofString (toString k)] = Str.ofString (toString k) := by decide +kernel
theorem index_str {p : Addr} {k : Int} {t : Tok} (hK : C.K = hd.heap_39 C.w.params) (hG : Gens C 797 793) (hp : IndexAt H p [.int k t]) (hk : k ∈ [(-2 : Int), -1, 0, 1]) :
    WCall C (b + 40) (.ref 798) [.ref p] [] H (fun r H' => ∃ t, r = .str (txt (St.place k).text) t ∧ Sub H H') := by
  obtain ⟨_, hp1, tA, rfl, htA⟩ := hp
  refine WK.fn0 (b := b + 38) (binds := [(Str.ofString "self", .ref p)]) (mm := [(Str.ofString "self", .ref p)]) (by rw [hK]; k_is) (by rw [hK]; k_is) rfl (by dsimp only) (by dsimp only) (by dsimp only) rfl rfl rfl rfl fun L hL => ?_
  iterate 4 k_data
  refine W.eMethodGen (by kernel_rfl) (by kernel_rfl) ?_
  repeat k_data
  intro cpos
  refine W.callGenB (b := b + 35) (c := 797) (P := 793) (cl := []) hG rfl rfl rfl (by with_unfolding_all rfl) rfl rfl rfl (by intro _; rfl) ?_
  repeat k_data
  refine W.getO hK (hp1.set hL) rfl rfl (by kernel_rfl) ?_
  refine W.iterTup (AH.set_new hL htA) fun I hI => ?_
  intro GL code hGL B hB1 hB2
  subst hB1
  have hGI : B.GL ≠ I := AH.none_ne hGL
  have hGL1 := AH.none_in hGL
  have hH1 : Sub H (H.set L (.ns "frame" [(Str.ofString "self", .ref p)])) := Sub.set hL
  have hLL : (H.set L (.ns "frame" [(Str.ofString "self", .ref p)])) L = some (.ns "frame" [(Str.ofString "self", .ref p)]) := AH.set_self
  have htA1 := hH1 _ _ htA
  generalize H.set L (.ns "frame" [(Str.ofString "self", .ref p)]) = H1 at *
  refine WP.joinGen (b := b + 34) hB2 ⟨_, AH.set_self⟩ fun D hD hDG => ?_
  have hDI : D ≠ I := AH.none_ne (AH.none_in hD)
  have hD1 := AH.none_in (AH.none_in hD)
  refine ⟨1, _, _, Turns.ofSrc (Src.tup (l := tA) (vs := [.int k t]) rfl) rfl rfl rfl (fun i small big o ys h1 h2 => ?_)
      (fun i ys K => Sub H1 K ∧ K D = some (.lst ys) ∧ ys.length ≤ 1 ∧ (i = 0 → ys = []) ∧ (i = 1 → StrsAre ys [Str.ofString (toString k)]))
      (fun i ys K m h1 h2 => ?_) (fun i ys K m x hi hJ hKG hx => ?_), ⟨H1.set D (.lst []), [((".0" : Str), .ref I)], ⟨?_, ?_⟩, ?_, Sub.set hD1, AH.set_self, by simp, fun _ => rfl, fun e => by cases e⟩, fun ys σ' hf => ?_⟩
  · obtain ⟨e1, rfl⟩ := h1
    have : I ≠ D := fun e => by rw [e, h2] at e1; cases e1
    exact ⟨by rw [AH.set_ne this]; exact e1, AH.set_comm this⟩
  · exact ⟨h1.2.1, by omega, AH.set_new h2 (h1.1 _ _ htA1)⟩
  · obtain ⟨j1, j2, j3, j4, j5⟩ := hJ
    have hi0 : i = 0 := by simp at hi; omega
    subst hi0
    obtain rfl := j4 rfl
    have hx' : x = .int k t := by simpa using hx.symm
    subst hx'
    refine oneI ?_
    repeat k_data
    refine W.strInt (int_small (by simp at hk; omega)) fun t1 => ?_
    exact ⟨K, _, rfl, hKG, j2, subSetC j1 hD1, AH.set_self, by simp, (fun e => by cases e), fun _ => StrsAre.cons _ _ StrsAre.nil⟩
  · rw [AH.set_ne (Ne.symm hGI), AH.set_ne (Ne.symm hDI)]; exact hI
  · rw [AH.set_comm (Ne.symm hDG), AH.set_comm (Ne.symm hDI), AH.set_comm (Ne.symm hGI)]
  · rw [AH.set_ne hDG.symm]; exact hGL1
  · obtain ⟨K, mg, rfl, hKG, j1, j2, j3, j4, j5⟩ := hf
    refine ⟨K, mg, rfl, hKG, j2, _, j5 rfl, ?_, fun t1 => ?_⟩
    · have := (place_text k hk).2.1
      simp only [List.map_cons, List.map_nil, List.sum_cons, List.sum_nil, List.length_cons, List.length_nil]
      rw [show (Str.ofString ",").length = 1 by decide +kernel]
      omega
    · have hKL := j1 _ _ hLL
      rw [AH.put hKL]
      have hKd : (K.drop L) L = none := AH.drop_self
      rw [(place_text k hk).2.2]
      refine W.boxed (by have := (place_text k hk).2.1; omega) fun t2 => ?_
      · rw [(place_text k hk).1]
        repeat k_data
        exact ⟨_, rfl, (hH1.trans j1).drop hL⟩
end
section
variable {C : Cx} {b : Nat} {H : AH}
def OptV : Option Int → Value → Prop
  | none, v => v = .none
  | some k, v => ∃ t, v = .int k t
abbrev sm4 (dep : Bool) (x y z : Value) : List (Str × Value) := [(Str.ofString "_deprecated_wildcard_use", .bool dep), (Str.ofString "start", x), (Str.ofString "end", y), (Str.ofString "step", z)]
def SliceAt (σ : AH) (p : Addr) (x y z : Option Int) : Prop := ∃ vx vy vz, OptV x vx ∧ OptV y vy ∧ OptV z vz ∧ ObjAt σ p 891 (sm4 (x.isNone && y.isNone && z.isNone) vx vy vz)
theorem SliceAt.sub {σ σ' : AH} {p : Addr} {x y z : Option Int} (h : SliceAt σ p x y z) (s : Sub σ σ') : SliceAt σ' p x y z := let ⟨vx, vy, vz, h1, h2, h3, h4⟩ := h; ⟨vx, vy, vz, h1, h2, h3, h4.sub s⟩
def slAdd (els : List Str) (i : Nat) : Option Int → List Str
  | none => els
  | some k => els ++ List.replicate (i - els.length) (Str.ofString "") ++ [Str.ofString (toString k)]
def slAt (l : List (Option Int)) : Nat → List Str
  | 0 => []
  | k + 1 => slAdd (slAt l k) k (l.getD k none)
theorem slAt_len {l : List (Option Int)} : ∀ k, (slAt l k).length ≤ k
  | 0 => Nat.le_refl _
  | k + 1 => by
    have := slAt_len (l := l) k
    unfold slAt slAdd
    split
    · omega
    · simp; omega
def slEnd (e : List Str) : List Str := if e.length = 1 then e ++ [Str.ofString ""] else e
def slJoin (x y z : Option Int) : Str := Txt.join (Str.ofString ":") (slEnd (slAt [x, y, z] 3))
def slText (x y z : Option Int) : Str := Str.ofString "[" ++ (if (slJoin x y z).length = 0 then Str.ofString ":" else slJoin x y z) ++ Str.ofString "]"
theorem sl_all : parts.all (fun x => parts.all fun y => parts.all fun z => (slText x y z).cps.toList == (St.slice x y z).text && decide ((slText x y z).length ≤ 100) && decide (((slEnd (slAt [x, y, z] 3)).map (·.length)).sum ≤ 100) && decide ((slJoin x y z).length ≤ 100)) = true := by decide +kernel
theorem sl_fact {x y z : Option Int} (hx : x ∈ parts) (hy : y ∈ parts) (hz : z ∈ parts) : slText x y z = txt (St.slice x y z).text ∧ (slText x y z).length ≤ 100 ∧ ((slEnd (slAt [x, y, z] 3)).map (·.length)).sum ≤ 100 ∧ (slJoin x y z).length ≤ 100 := by
  have h := List.all_eq_true.mp (List.all_eq_true.mp (List.all_eq_true.mp sl_all x hx) y hy) z hz
  simp only [Bool.and_eq_true, decide_eq_true_eq, beq_iff_eq] at h
  refine ⟨?_, h.1.1.2, h.1.2, h.2⟩
  rw [← h.1.1.1]; simp [txt]
theorem OptV.small {x : Option Int} {v : Value} (h : OptV x v) (hx : x ∈ parts) : v = .none ∧ x = none ∨ ∃ k t, v = .int k t ∧ x = some k ∧ -100 ≤ k ∧ k ≤ 100 := by
  cases x with
  | none => exact .inl ⟨h, rfl⟩
  | some k =>
    obtain ⟨t, rfl⟩ := h
    refine .inr ⟨k, t, rfl, rfl, ?_⟩
    simp [parts] at hx
    omega
theorem OptV.handed {x : Option Int} {v : Value} (h : OptV x v) : handedIn v = true := by
  cases x with
  | none => cases h; rfl
  | some k => obtain ⟨t, rfl⟩ := h; rfl
theorem strs_repl {x : Str} {t : Tok} : ∀ n, StrsAre (List.replicate n (.str x t)) (List.replicate n x)
  | 0 => .nil
  | n + 1 => by rw [List.replicate_succ, List.replicate_succ]; exact .cons _ _ (strs_repl n)
theorem W.trStr {σ : AH} {X : Value → AH → Prop} {x : Str} {t : Tok} {Q : Bool → AH → Prop} (hx : x.length ≤ 1000) (h : Q (decide (x.length ≠ 0)) σ) : W C b (truthy (.str x t)) σ Q X := by
  intro A s P E o p _
  refine PySem.P.truthy_str (by omega) (p _ _ _ (.toks o.good _) ?_)
  have e : ((x.length : Int) != 0) = decide (x.length ≠ 0) := by
    by_cases h0 : x.length = 0
    · rw [h0]; rfl
    · have : (x.length : Int) ≠ 0 := by omega
      simp [h0]
  rw [e]; exact h
theorem slice_str {p : Addr} {x y z : Option Int} (hK : C.K = hd.heap_39 C.w.params) (hp : SliceAt H p x y z) (hx : x ∈ parts) (hy : y ∈ parts) (hz : z ∈ parts) :
    WCall C (b + 30) (.ref 874) [.ref p] [] H (fun r H' => ∃ t, r = .str (txt (St.slice x y z).text) t ∧ Sub H H') := by
  obtain ⟨vx, vy, vz, h1, h2, h3, hp⟩ := hp
  refine WK.fn0 (binds := [(Str.ofString "self", .ref p)]) (mm := [(Str.ofString "self", .ref p)]) (by rw [hK]; k_is) (by rw [hK]; k_is) rfl (by dsimp only) (by dsimp only) (by dsimp only) rfl rfl rfl rfl fun L hL => ?_
  repeat k_data
  rename_i R hR hL1
  refine W.sFor (hs := by intro _; rfl) ?_
  repeat k_data
  refine W.getO hK ((hp.set hR).set hL1) rfl h1.handed (by kernel_rfl) ?_
  repeat k_data
  refine W.getO hK ((hp.set hR).set hL1) rfl h2.handed (by kernel_rfl) ?_
  repeat k_data
  refine W.getO hK ((hp.set hR).set hL1) rfl h3.handed (by kernel_rfl) ?_
  repeat k_data
  rename_i T hT hL2
  refine W.op hL2 (W.callEnumT AH.set_self fun I J hne hI hJ hL3 => ?_) trivial
  have nLJ : L ≠ J := AH.none_ne hL3
  have nLI : L ≠ I := AH.none_ne (AH.none_in hL3)
  refine W.iterEnum (J := J) (i := 0) (by rw [AH.set_ne (Ne.symm nLI), AH.set_ne hne]; exact AH.set_self) ?_
  rw [AH.set_comm nLJ.symm, AH.set_comm nLI.symm]
  have hRT : R ≠ T := fun e => by rw [← e, AH.set_self] at hT; cases hT
  have hH1 : Sub H ((H.set R (.lst [])).set T (.tup [vx, vy, vz])) := (Sub.set hR).trans (Sub.set hT)
  have hRR : ((H.set R (.lst [])).set T (.tup [vx, vy, vz])) R = some (.lst []) := AH.set_new hT AH.set_self
  have hTT : ((H.set R (.lst [])).set T (.tup [vx, vy, vz])) T = some (.tup [vx, vy, vz]) := AH.set_self
  have hTH : H T = none := AH.none_in hT
  generalize (H.set R (.lst [])).set T (.tup [vx, vy, vz]) = H1 at *
  clear hT hL1
  have hitems : ∀ (k : Nat) v, [vx, vy, vz][k]? = some v → k < 3 ∧ (v = .none ∧ [x, y, z].getD k none = none ∨ ∃ j t, v = .int j t ∧ [x, y, z].getD k none = some j ∧ -100 ≤ j ∧ j ≤ 100) := by
    intro k v hv
    rcases k with _ | _ | _ | k
    · simp at hv; subst hv; exact ⟨by omega, (h1.small hx).imp (fun q => q) fun ⟨j, t, q1, q2, q3⟩ => ⟨j, t, q1, q2, q3⟩⟩
    · simp at hv; subst hv; exact ⟨by omega, (h2.small hy).imp (fun q => q) fun ⟨j, t, q1, q2, q3⟩ => ⟨j, t, q1, q2, q3⟩⟩
    · simp at hv; subst hv; exact ⟨by omega, (h3.small hz).imp (fun q => q) fun ⟨j, t, q1, q2, q3⟩ => ⟨j, t, q1, q2, q3⟩⟩
    · simp at hv
  refine WK.forSrc (Src.enumT (vs := [vx, vy, vz]) (l := T) hne) (fun k σ => ∃ K m ws, σ = AH.set K L (.ns "frame" m) ∧ K L = none ∧ K R = some (.lst ws) ∧ Sub H K ∧ K T = some (.tup [vx, vy, vz]) ∧ m.lookup (Str.ofString "elements") = some (.ref R) ∧ StrsAre ws (slAt [x, y, z] k) ∧ k ≤ 3)
    (fun k σ q => ?_) (fun k σ v hk q hv' => ?_) (fun σ q => ?_) [vx, vy, vz].length 0 _ _ (by omega) ⟨?_, ?_, rfl⟩ ⟨_, _, [], rfl, hL2, hRR, hH1, hTT, rfl, .nil, Nat.zero_le _⟩
  · obtain ⟨K, m, ws, rfl, k1, k2, k3, k4, _⟩ := q
    exact AH.set_new k1 k4
  · obtain ⟨K, m, ws, rfl, k1, k2, k3, k4, k5, k6, k7⟩ := q
    obtain ⟨tk, v', hv2, rfl⟩ := hv'
    obtain ⟨hk3, hcase⟩ := hitems k v' hv2
    have hlen : ws.length = (slAt [x, y, z] k).length := k6.length
    have hle := slAt_len (l := [x, y, z]) k
    refine twoI ?_
    repeat k_data
    rcases hcase with ⟨rfl, hc⟩ | ⟨j, tj, rfl, hc, hj⟩
    · repeat k_data
      refine ⟨K, _, ws, rfl, k1, k2, k3, k4, k5, ?_, by omega⟩
      unfold slAt; rw [hc]; exact k6
    · repeat k_data
      rename_i t5 E hE hLE t6 t8
      refine W.op hLE (W.mulOne AH.set_self (by omega) fun M hM hLM => ?_) trivial
      have hRM : ((K.set E (.lst [.str (Str.ofString "") t5])).set M (.lst (List.replicate ((k : Int) - ws.length).toNat (.str (Str.ofString "") t5)))) R = some (.lst ws) := AH.set_new hM (AH.set_new hE k2)
      have hMM : ((K.set E (.lst [.str (Str.ofString "") t5])).set M (.lst (List.replicate ((k : Int) - ws.length).toNat (.str (Str.ofString "") t5)))) M = some (.lst (List.replicate ((k : Int) - ws.length).toNat (.str (Str.ofString "") t5))) := AH.set_self
      have hs2 : Sub K ((K.set E (.lst [.str (Str.ofString "") t5])).set M (.lst (List.replicate ((k : Int) - ws.length).toNat (.str (Str.ofString "") t5)))) := (Sub.set hE).trans (Sub.set hM)
      generalize (K.set E (.lst [.str (Str.ofString "") t5])).set M (.lst (List.replicate ((k : Int) - ws.length).toNat (.str (Str.ofString "") t5))) = K2 at *
      repeat k_data
      refine W.op hLM (W.call_ (WK.extendList hRM hMM (by simp; omega) fun hL5 => ?_)) trivial
      have hR5 : (K2.set R (.lst (ws ++ List.replicate ((k : Int) - ws.length).toNat (.str (Str.ofString "") t5)))) R = some (.lst (ws ++ List.replicate ((k : Int) - ws.length).toNat (.str (Str.ofString "") t5))) := AH.set_self
      have hs5 : Sub H (K2.set R (.lst (ws ++ List.replicate ((k : Int) - ws.length).toNat (.str (Str.ofString "") t5)))) := subSetC (k3.trans hs2) hR
      have hT5 : (K2.set R (.lst (ws ++ List.replicate ((k : Int) - ws.length).toNat (.str (Str.ofString "") t5)))) T = some (.tup [vx, vy, vz]) := by rw [AH.set_ne hRT.symm]; exact hs2 _ _ k4
      generalize K2.set R (.lst (ws ++ List.replicate ((k : Int) - ws.length).toNat (.str (Str.ofString "") t5))) = K5 at *
      repeat k_data
      refine W.strInt (int_small (by omega)) fun t7 => ?_
      repeat k_data
      refine W.op hL5 (W.call_ (WK.append hR5 (by simp; omega) fun hL6 => ?_)) trivial
      repeat k_data
      refine ⟨_, _, _, rfl, hL6, AH.set_self, subSetC hs5 hR, by rw [AH.set_ne hRT.symm]; exact hT5, k5, ?_, by omega⟩
      unfold slAt slAdd
      rw [hc]
      refine StrsAre.append' (StrsAre.append' k6 ?_) (.cons _ _ .nil)
      rw [show ((k : Int) - ws.length).toNat = k - (slAt [x, y, z] k).length by omega]
      exact strs_repl _
  · obtain ⟨K, m, ws, rfl, k1, k2, k3, k4, k5, k6, k7⟩ := q
    have hlen : ws.length = (slAt [x, y, z] 3).length := k6.length
    have hle := slAt_len (l := [x, y, z]) 3
    have hsum := (sl_fact hx hy hz).2.2.1
    have hJ0 : (Txt.join (Str.ofString ":") (slEnd (slAt [x, y, z] 3))).length ≤ 100 := (sl_fact hx hy hz).2.2.2
    have l1 : (Str.ofString "[").length = 1 := by decide +kernel
    have l2 : (Str.ofString "]").length = 1 := by decide +kernel
    have hle3 : (slEnd (slAt [x, y, z] 3)).length ≤ 4 := by
      unfold slEnd; split
      · simp; omega
      · omega
    repeat k_data
    refine ⟨fun hc => ?_, fun hc => ?_⟩
    · have hc1 : (slAt [x, y, z] 3).length = 1 := by
        have : (ws.length : Int) = 1 := by simpa using hc
        omega
      repeat k_data
      rename_i t12
      refine W.op k1 (W.call_ (WK.append k2 (by omega) fun hL4 => ?_)) trivial
      have hS : StrsAre (ws ++ [.str (Str.ofString "") t12]) (slEnd (slAt [x, y, z] 3)) := by
        unfold slEnd; rw [if_pos hc1]; exact StrsAre.append' k6 (.cons _ _ .nil)
      have hR4 : (K.set R (.lst (ws ++ [.str (Str.ofString "") t12]))) R = some (.lst (ws ++ [.str (Str.ofString "") t12])) := AH.set_self
      have hs4 : Sub H (K.set R (.lst (ws ++ [.str (Str.ofString "") t12]))) := subSetC k3 hR
      generalize K.set R (.lst (ws ++ [.str (Str.ofString "") t12])) = K4 at *
      repeat k_data
      refine ⟨_, _, rfl, by rw [KPc.empty_app]; decide +kernel, ?_⟩
      repeat k_data
      refine W.op hL4 (W.joinList hR4 hS (by rw [show (Str.ofString ":").length = 1 by decide +kernel]; omega) fun t9 hL9 => ?_) trivial
      refine W.trStr (by omega) ?_
      refine ⟨fun hc9 => ?_, fun hc9 => ?_⟩
      · refine W.fmtStr (by rw [sizeLine_eq]; omega) fun t10 => ?_
        refine ⟨_, _, rfl, by rw [KPc.empty_app, strLen_append, l1, sizeLine_eq]; omega, ?_⟩
        repeat k_data
        refine ⟨_, _, rfl, by rw [KPc.empty_app, strLen_append, strLen_append, l1, l2, sizeLine_eq]; omega, ?_⟩
        refine W.joinNil (by rw [KPc.empty_app, strLen_append, strLen_append, l1, l2, sizeLine_eq]; omega) fun t11 => ?_
        repeat k_data
        refine ⟨t11, ?_, hs4⟩
        rw [KPc.empty_app, ← (sl_fact hx hy hz).1]; unfold slText; rw [if_neg (show ¬ (slJoin x y z).length = 0 from of_decide_eq_true hc9)]; rfl
      · repeat k_data
        refine W.fmtStr (by decide +kernel) fun t10 => ?_
        refine ⟨_, _, rfl, by decide +kernel, ?_⟩
        repeat k_data
        refine ⟨_, _, rfl, by decide +kernel, ?_⟩
        refine W.joinNil (by decide +kernel) fun t11 => ?_
        repeat k_data
        refine ⟨t11, ?_, hs4⟩
        rw [← (sl_fact hx hy hz).1]; unfold slText; rw [if_pos (show (slJoin x y z).length = 0 from Decidable.not_not.mp (of_decide_eq_false hc9)), KPc.empty_app]
    · have hc1 : ¬ (slAt [x, y, z] 3).length = 1 := by
        have : ¬ (ws.length : Int) = 1 := by simpa using hc
        omega
      have hS : StrsAre ws (slEnd (slAt [x, y, z] 3)) := by
        unfold slEnd; rw [if_neg hc1]; exact k6
      repeat k_data
      refine ⟨_, _, rfl, by rw [KPc.empty_app]; decide +kernel, ?_⟩
      repeat k_data
      refine W.op k1 (W.joinList k2 hS (by rw [show (Str.ofString ":").length = 1 by decide +kernel]; omega) fun t9 hL9 => ?_) trivial
      refine W.trStr (by omega) ?_
      refine ⟨fun hc9 => ?_, fun hc9 => ?_⟩
      · refine W.fmtStr (by rw [sizeLine_eq]; omega) fun t10 => ?_
        refine ⟨_, _, rfl, by rw [KPc.empty_app, strLen_append, l1, sizeLine_eq]; omega, ?_⟩
        repeat k_data
        refine ⟨_, _, rfl, by rw [KPc.empty_app, strLen_append, strLen_append, l1, l2, sizeLine_eq]; omega, ?_⟩
        refine W.joinNil (by rw [KPc.empty_app, strLen_append, strLen_append, l1, l2, sizeLine_eq]; omega) fun t11 => ?_
        repeat k_data
        refine ⟨t11, ?_, k3⟩
        rw [KPc.empty_app, ← (sl_fact hx hy hz).1]; unfold slText; rw [if_neg (show ¬ (slJoin x y z).length = 0 from of_decide_eq_true hc9)]; rfl
      · repeat k_data
        refine W.fmtStr (by decide +kernel) fun t10 => ?_
        refine ⟨_, _, rfl, by decide +kernel, ?_⟩
        repeat k_data
        refine ⟨_, _, rfl, by decide +kernel, ?_⟩
        refine W.joinNil (by decide +kernel) fun t11 => ?_
        repeat k_data
        refine ⟨t11, ?_, k3⟩
        rw [← (sl_fact hx hy hz).1]; unfold slText; rw [if_pos (show (slJoin x y z).length = 0 from Decidable.not_not.mp (of_decide_eq_false hc9)), KPc.empty_app]
  · rw [AH.set_ne nLI.symm]; exact hI
  · rw [AH.set_ne nLJ.symm]; exact hJ
end
section
variable {C : Cx} {b : Nat} {H : AH}
/-- an object with a def __str__ that tells this text, whenever asked -/
def Shows (C : Cx) (σ : AH) (p : Addr) (n : Nat) (l : List Nat) : Prop := ∃ Cl m f, ObjAt σ p Cl m ∧ specOk C.K Cl (Str.ofString "__str__") f = true ∧ fmtOk C.K Cl = true ∧ ∀ (b : Nat) (H' : AH), Sub σ H' → WCall C (b + n) (.ref f) [.ref p] [] H' (fun r H'' => ∃ t, r = .str (txt l) t ∧ Sub H' H'')
theorem Shows.sub {σ σ' : AH} {p : Addr} {n : Nat} {l : List Nat} (h : Shows C σ p n l) (s : Sub σ σ') : Shows C σ' p n l := let ⟨Cl, m, f, h1, h2, h3, h4⟩ := h; ⟨Cl, m, f, h1.sub s, h2, h3, fun b H' k => h4 b H' (s.trans k)⟩
theorem Shows.more {σ : AH} {p : Addr} {n n' : Nat} {l : List Nat} (h : Shows C σ p n l) (hn : n ≤ n') : Shows C σ p n' l := let ⟨Cl, m, f, h1, h2, h3, h4⟩ := h; ⟨Cl, m, f, h1, h2, h3, fun b H' k => WK.more (h4 (b + (n' - n)) H' k) (by omega)⟩
/-- str(p) in a body -/
theorem W.strShows {p L : Addr} {n : Nat} {l : List Nat} {o : AO} {X : Value → AH → Prop} {Q : Value → AH → Prop} (h : Shows C H p n l) (hn : n + 4 ≤ b) (hL : H L = none) (ho : o.fr) (q : ∀ t H', Sub H H' → H' L = none → Q (.str (txt l) t) (H'.set L o)) : W C b (call (.type "str") [.ref p]) (H.set L o) Q X := by
  obtain ⟨Cl, m, f, ⟨d, h1, h1'⟩, h2, h3, h4⟩ := h
  have e : b = (b - 4) + 4 := by omega
  rw [e]
  refine W.strObj (AH.set_new hL h1) (AH.set_new hL h1') h2 (W.callOp (b' := n) (P := fun r H'' => ∃ t, r = .str (txt l) t ∧ Sub H H'') ?_ (by omega) hL (fun v H' q' hL' => ?_) ho)
  · exact WK.more (h4 0 H (.refl _)) (by omega)
  · obtain ⟨t, rfl, hs⟩ := q'
    exact ⟨_, _, rfl, q t H' hs hL'⟩
/-- {p} in an f-string -/
theorem W.fmtShows {p L : Addr} {n : Nat} {l : List Nat} {o : AO} {X : Value → AH → Prop} {Q : Value → AH → Prop} (h : Shows C H p n l) (hn : n + 2 ≤ b) (hL : H L = none) (ho : o.fr) (q : ∀ t H', Sub H H' → H' L = none → Q (.str (txt l) t) (H'.set L o)) : W C b (formatField (.ref p) Str.empty) (H.set L o) Q X := by
  obtain ⟨Cl, m, f, ⟨d, h1, h1'⟩, h2, h3, h4⟩ := h
  have e : b = (b - 2) + 2 := by omega
  rw [e]
  refine W.fmtObj (AH.set_new hL h1) (AH.set_new hL h1') h2 h3 (W.callOp (b' := n) (P := fun r H'' => ∃ t, r = .str (txt l) t ∧ Sub H H'') ?_ (by omega) hL (fun v H' q' hL' => ?_) ho)
  · exact WK.more (h4 0 H (.refl _)) (by omega)
  · obtain ⟨t, rfl, hs⟩ := q'
    exact ⟨_, _, rfl, q t H' hs hL'⟩
/-- an object of this one step -/
def StAt (σ : AH) (p : Addr) : St → Prop
  | .name i => ∃ t, FieldsAt σ p [.str (nmS i) t]
  | .names i j => ∃ t u, FieldsAt σ p [.str (nmS i) t, .str (nmS j) u]
  | .place k => ∃ t, IndexAt σ p [.int k t]
  | .slice x y z => SliceAt σ p x y z
  | .any => ObjAt σ p 719 []
theorem StAt.sub {σ σ' : AH} {p : Addr} {s : St} (h : StAt σ p s) (k : Sub σ σ') : StAt σ' p s := by
  cases s with
  | name i => obtain ⟨t, h⟩ := h; exact ⟨t, h.sub k⟩
  | names i j => obtain ⟨t, u, h⟩ := h; exact ⟨t, u, h.sub k⟩
  | place n => obtain ⟨t, h⟩ := h; exact ⟨t, h.sub k⟩
  | slice x y z => exact SliceAt.sub h k
  | any => exact ObjAt.sub h k
theorem join1 {x : Str} {i : Nat} : Txt.join x (nameTs [i]) = txt (nameT i) := rfl
theorem join2 {i j : Nat} : Txt.join (Str.ofString ",") (nameTs [i, j]) = txt (nameT i ++ 44 :: nameT j) := by
  have e : Txt.join (Str.ofString ",") (nameTs [i, j]) = txt (nameT i) ++ Str.ofString "," ++ txt (nameT j) := by
    show Builtin.Str.glued (Str.ofString ",") [txt (nameT i), txt (nameT j)] = _
    rw [StrLaws.glued_eq_join]; rfl
  rw [e, show Str.ofString "," = txt [44] by decide +kernel, txt_app, txt_app]; simp
theorem wild_str {p : Addr} (hK : C.K = hd.heap_39 C.w.params) : WCall C (b + 30) (.ref 695) [.ref p] [] H (fun r H' => ∃ t, r = .str (txt [42]) t ∧ Sub H H') := by
  refine WK.fn0 (binds := [(Str.ofString "self", .ref p)]) (mm := [(Str.ofString "self", .ref p)]) (by rw [hK]; k_is) (by rw [hK]; k_is) rfl (by dsimp only) (by dsimp only) (by dsimp only) rfl rfl rfl rfl fun L hL => ?_
  repeat k_data
  rw [show Str.ofString "*" = txt [42] by decide +kernel]
  exact ⟨_, rfl, .refl _⟩
theorem StAt.shows {σ : AH} {p : Addr} {s : St} (hK : C.K = hd.heap_39 C.w.params) (hG : Gens C 797 793) (h : StAt σ p s) (hf : s.fine) : Shows C σ p 40 s.text := by
  cases s with
  | name i =>
    obtain ⟨t, h⟩ := h
    have h' := h
    obtain ⟨v, h1, h2⟩ := h'
    refine ⟨643, _, 619, h1, by rw [hK]; kernel_rfl, by rw [hK]; kernel_rfl, fun b H' k => WK.more (WK.mono (fields_str (b := b) (is := [i]) hK (h.sub k) ⟨rfl, fun j v hv => ?_⟩ (by simp) (by simp)) fun f H'' q => ?_) (by omega)⟩
    · cases j with
      | zero => simp at hv; subst hv; exact ⟨i, t, rfl, hf, rfl⟩
      | succ j => simp at hv
    · obtain ⟨r, rfl, t, rfl, hs⟩ := q
      exact ⟨_, rfl, t, rfl, hs⟩
  | names i j =>
    obtain ⟨t, u, h⟩ := h
    have h' := h
    obtain ⟨v, h1, h2⟩ := h'
    refine ⟨643, _, 619, h1, by rw [hK]; kernel_rfl, by rw [hK]; kernel_rfl, fun b H' k => WK.more (WK.mono (fields_str (b := b) (is := [i, j]) hK (h.sub k) ⟨rfl, fun n v hv => ?_⟩ (by simp) (by simp)) fun f H'' q => ?_) (by omega)⟩
    · rcases n with _ | _ | n
      · simp at hv; subst hv; exact ⟨i, t, rfl, hf.1, rfl⟩
      · simp at hv; subst hv; exact ⟨j, u, rfl, hf.2, rfl⟩
      · simp at hv
    · obtain ⟨r, rfl, t, rfl, hs⟩ := q
      exact ⟨_, rfl, t, by rw [join2]; rfl, hs⟩
  | place n =>
    obtain ⟨t, h⟩ := h
    have h' := h
    obtain ⟨v, h1, h2⟩ := h'
    exact ⟨820, _, 798, h1, by rw [hK]; kernel_rfl, by rw [hK]; kernel_rfl, fun b H' k => index_str hK hG (h.sub k) hf⟩
  | slice x y z =>
    have h' := h
    obtain ⟨vx, vy, vz, _, _, _, h1⟩ := h'
    exact ⟨891, _, 874, h1, by rw [hK]; kernel_rfl, by rw [hK]; kernel_rfl, fun b H' k => WK.more (slice_str (b := b) hK (SliceAt.sub h k) hf.1 hf.2.1 hf.2.2) (by omega)⟩
  | any => exact ⟨719, _, 695, h, by rw [hK]; kernel_rfl, by rw [hK]; kernel_rfl, fun b H' k => WK.more (wild_str (b := b) hK) (by omega)⟩
end
section
variable {C : Cx} {b : Nat} {H : AH}
/-- Child.__str__ -/
theorem child_str {a l r : Addr} {n : Nat} {x y : List Nat} (hK : C.K = hd.heap_39 C.w.params) (ha : ObjAt H a 430 [(Str.ofString "left", .ref l), (Str.ofString "right", .ref r)]) (hl : Shows C H l n x) (hr : Shows C H r n y) (hy : y.take 2 ≠ [91, 63]) (hx1 : x.length ≤ 1000) (hy1 : y.length ≤ 1000) :
    WCall C (b + (n + 10)) (.ref 413) [.ref a] [] H (fun v H' => ∃ t, v = .str (txt (x ++ 46 :: y)) t ∧ Sub H H') := by
  refine WK.fn0 (b := b + (n + 8)) (binds := [(Str.ofString "self", .ref a)]) (mm := [(Str.ofString "self", .ref a)]) (by rw [hK]; k_is) (by rw [hK]; k_is) rfl (by dsimp only) (by dsimp only) (by dsimp only) rfl rfl rfl rfl fun L hL => ?_
  repeat k_data
  refine W.getO hK (ha.set hL) rfl rfl (by kernel_rfl) ?_
  repeat k_data
  refine W.strShows hr (by omega) hL trivial fun t1 H1 hs1 hL1 => ?_
  repeat k_data
  refine W.starts ?_
  rw [starts_not hy]
  repeat k_data
  refine W.getO hK ((ha.sub hs1).set hL1) rfl rfl (by kernel_rfl) ?_
  refine W.fmtShows (hl.sub hs1) (by omega) hL1 trivial fun t2 H2 hs2 hL2 => ?_
  refine ⟨_, _, rfl, by rw [KPc.empty_app, txt_len, sizeLine_eq]; omega, ?_⟩
  repeat k_data
  refine ⟨_, _, rfl, by rw [KPc.empty_app, strLen_append, txt_len, show (Str.ofString ".").length = 1 by decide +kernel, sizeLine_eq]; omega, ?_⟩
  repeat k_data
  refine W.getO hK (((ha.sub hs1).sub hs2).set hL2) rfl rfl (by kernel_rfl) ?_
  refine W.fmtShows ((hr.sub hs1).sub hs2) (by omega) hL2 trivial fun t3 H3 hs3 hL3 => ?_
  refine ⟨_, _, rfl, by rw [KPc.empty_app, strLen_append, strLen_append, txt_len, txt_len, show (Str.ofString ".").length = 1 by decide +kernel, sizeLine_eq]; omega, ?_⟩
  refine W.joinNil (by rw [KPc.empty_app, strLen_append, strLen_append, txt_len, txt_len, show (Str.ofString ".").length = 1 by decide +kernel, sizeLine_eq]; omega) fun t4 => ?_
  repeat k_data
  have e : Str.empty ++ txt x ++ Str.ofString "." ++ txt y = txt (x ++ 46 :: y) := by
    rw [KPc.empty_app, show Str.ofString "." = txt [46] by decide +kernel, txt_app, txt_app]; simp
  rw [e]
  exact ⟨_, rfl, (hs1.trans hs2).trans hs3⟩
/-- a path of these steps, however it is bracketed -/
inductive PathAt (σ : AH) : Addr → List St → Prop
  | one {p s} : StAt σ p s → PathAt σ p [s]
  | two {a l r ss ts} : PathAt σ l ss → PathAt σ r ts → ObjAt σ a 430 [(Str.ofString "left", .ref l), (Str.ofString "right", .ref r)] → PathAt σ a (ss ++ ts)
theorem PathAt.sub {σ σ' : AH} {a : Addr} {ss : List St} (h : PathAt σ a ss) (k : Sub σ σ') : PathAt σ' a ss := by
  induction h with
  | one h => exact .one (h.sub k)
  | two _ _ h3 ih1 ih2 => exact .two ih1 ih2 (h3.sub k)
theorem PathAt.ne {σ : AH} {a : Addr} {ss : List St} (h : PathAt σ a ss) : ss ≠ [] := by
  induction h with
  | one h => simp
  | two _ _ _ ih1 ih2 => simp [ih1]
theorem PathAt.shows {σ : AH} {p : Addr} {ss : List St} (hK : C.K = hd.heap_39 C.w.params) (hG : Gens C 797 793) (h : PathAt σ p ss) (hf : ∀ s ∈ ss, s.fine) (hz : ss.length ≤ 10) : Shows C σ p (40 + 10 * ss.length) (pathT ss) := by
  induction h with
  | one h => exact (h.shows hK hG (hf _ (by simp))).more (by omega)
  | @two a l r ss ts h1 h2 h3 ih1 ih2 =>
    rw [List.length_append] at hz ⊢
    have n1 := h1.ne
    have n2 := h2.ne
    have e1 : 0 < ss.length := List.length_pos_iff.mpr n1
    have e2 : 0 < ts.length := List.length_pos_iff.mpr n2
    have f1 : ∀ s ∈ ss, s.fine := fun s hs => hf s (List.mem_append_left _ hs)
    have f2 : ∀ s ∈ ts, s.fine := fun s hs => hf s (List.mem_append_right _ hs)
    have l1 := pathT_len f1
    have l2 := pathT_len f2
    have s1 := (ih1 f1 (by omega)).more (n' := 30 + 10 * (ss.length + ts.length)) (by omega)
    have s2 := (ih2 f2 (by omega)).more (n' := 30 + 10 * (ss.length + ts.length)) (by omega)
    refine ⟨430, _, 413, h3, by rw [hK]; kernel_rfl, by rw [hK]; kernel_rfl, fun b H' k => WK.more (WK.mono (child_str (b := b) hK (h3.sub k) (s1.sub k) (s2.sub k) (pathT_two n2 f2) (by omega) (by omega)) fun f H'' q => ?_) (by omega)⟩
    obtain ⟨v, rfl, t, rfl, hs⟩ := q
    exact ⟨_, rfl, t, by rw [pathT_app n1 n2], hs⟩
end
section
variable {C : Cx} {b : Nat} {H : AH}
def five : List Addr := [820, 643, 891, 719, 430]
theorem kit5 {P : Params} : ∀ Cl ∈ five, ∀ X ∈ five, kitOne (hd.heap_39 P) (.ref Cl) (.ref X) = some (Cl == X) ∧ sideOk (hd.heap_39 P) Cl X = true ∧ instOk (hd.heap_39 P) Cl = true := by
  intro Cl h X h'
  simp only [five, List.mem_cons, List.not_mem_nil, or_false] at h h'
  rcases h with rfl | rfl | rfl | rfl | rfl <;> rcases h' with rfl | rfl | rfl | rfl | rfl <;> exact ⟨by kernel_rfl, by kernel_rfl, by kernel_rfl⟩
/-- isinstance(q, a class of paths) -/
theorem isFive {q Cl X' : Addr} {m : List (Str × Value)} {σ : AH} {X : Value → AH → Prop} {Q : Value → AH → Prop} (hK : C.K = hd.heap_39 C.w.params) (hq : ObjAt σ q Cl m) (h1 : Cl ∈ five) (h2 : X' ∈ five) (h : Q (.bool (Cl == X')) σ) : W C b (call (.builtin "isinstance") [.ref q, .ref X']) σ Q X :=
  W.isInstO hK hq (kit5 Cl h1 X' h2).2.2 (kit5 Cl h1 X' h2).1 h
theorem wild_eq {p q Cl : Addr} {m : List (Str × Value)} (hK : C.K = hd.heap_39 C.w.params) (hq : ObjAt H q Cl m) (h1 : Cl ∈ five) : WCall C (b + 10) (.ref 709) [.ref p, .ref q] [] H (fun r H' => r = .bool (Cl == 719) ∧ Sub H H') := by
  refine WK.fn0 (binds := [(Str.ofString "self", .ref p), (Str.ofString "other", .ref q)]) (mm := [(Str.ofString "other", .ref q), (Str.ofString "self", .ref p)]) (by rw [hK]; k_is) (by rw [hK]; k_is) rfl (by dsimp only) (by dsimp only) (by dsimp only) rfl rfl rfl rfl fun L hL => ?_
  repeat k_data
  refine isFive hK (hq.set hL) h1 (by simp [five]) ?_
  repeat k_data
  exact ⟨rfl, .refl _⟩
theorem index_miss {p q Cl : Addr} {m : List (Str × Value)} (hK : C.K = hd.heap_39 C.w.params) (hq : ObjAt H q Cl m) (h1 : Cl ∈ five) (h0 : (Cl == 820) = false) : WCall C (b + 10) (.ref 791) [.ref p, .ref q] [] H (fun r H' => r = .bool false ∧ Sub H H') := by
  refine WK.fn0 (binds := [(Str.ofString "self", .ref p), (Str.ofString "other", .ref q)]) (mm := [(Str.ofString "other", .ref q), (Str.ofString "self", .ref p)]) (by rw [hK]; k_is) (by rw [hK]; k_is) rfl (by dsimp only) (by dsimp only) (by dsimp only) rfl rfl rfl rfl fun L hL => ?_
  repeat k_data
  refine isFive hK (hq.set hL) h1 (by simp [five]) ?_
  rw [h0]
  repeat k_data
  exact ⟨rfl, .refl _⟩
theorem fields_miss {p q Cl : Addr} {m : List (Str × Value)} (hK : C.K = hd.heap_39 C.w.params) (hq : ObjAt H q Cl m) (h1 : Cl ∈ five) (h0 : (Cl == 643) = false) : WCall C (b + 10) (.ref 633) [.ref p, .ref q] [] H (fun r H' => r = .bool false ∧ Sub H H') := by
  refine WK.fn0 (binds := [(Str.ofString "self", .ref p), (Str.ofString "other", .ref q)]) (mm := [(Str.ofString "other", .ref q), (Str.ofString "self", .ref p)]) (by rw [hK]; k_is) (by rw [hK]; k_is) rfl (by dsimp only) (by dsimp only) (by dsimp only) rfl rfl rfl rfl fun L hL => ?_
  repeat k_data
  refine isFive hK (hq.set hL) h1 (by simp [five]) ?_
  rw [h0]
  repeat k_data
  exact ⟨rfl, .refl _⟩
theorem slice_miss {p q Cl : Addr} {m : List (Str × Value)} (hK : C.K = hd.heap_39 C.w.params) (hq : ObjAt H q Cl m) (h1 : Cl ∈ five) (h0 : (Cl == 891) = false) : WCall C (b + 10) (.ref 881) [.ref p, .ref q] [] H (fun r H' => r = .bool false ∧ Sub H H') := by
  refine WK.fn0 (binds := [(Str.ofString "self", .ref p), (Str.ofString "other", .ref q)]) (mm := [(Str.ofString "other", .ref q), (Str.ofString "self", .ref p)]) (by rw [hK]; k_is) (by rw [hK]; k_is) rfl (by dsimp only) (by dsimp only) (by dsimp only) rfl rfl rfl rfl fun L hL => ?_
  repeat k_data
  refine W.eBoolOp (W.boolAnds ?_)
  repeat k_data
  refine isFive hK (hq.set hL) h1 (by simp [five]) ?_
  rw [h0]
  repeat k_data
  exact ⟨rfl, .refl _⟩
theorem child_miss {p q Cl : Addr} {m : List (Str × Value)} (hK : C.K = hd.heap_39 C.w.params) (hq : ObjAt H q Cl m) (h1 : Cl ∈ five) (h0 : (Cl == 430) = false) : WCall C (b + 10) (.ref 406) [.ref p, .ref q] [] H (fun r H' => r = .bool false ∧ Sub H H') := by
  refine WK.fn0 (binds := [(Str.ofString "self", .ref p), (Str.ofString "other", .ref q)]) (mm := [(Str.ofString "other", .ref q), (Str.ofString "self", .ref p)]) (by rw [hK]; k_is) (by rw [hK]; k_is) rfl (by dsimp only) (by dsimp only) (by dsimp only) rfl rfl rfl rfl fun L hL => ?_
  repeat k_data
  refine isFive hK (hq.set hL) h1 (by simp [five]) ?_
  rw [h0]
  repeat k_data
  exact ⟨rfl, .refl _⟩
theorem index_eq {p q : Addr} {i j : Int} {t u : Tok} (hK : C.K = hd.heap_39 C.w.params) (hp : IndexAt H p [.int i t]) (hq : IndexAt H q [.int j u]) : WCall C (b + 20) (.ref 791) [.ref p, .ref q] [] H (fun r H' => r = .bool (i == j) ∧ Sub H H') := by
  obtain ⟨_, hp1, tp, rfl, htp⟩ := hp
  obtain ⟨_, hq1, tq, rfl, htq⟩ := hq
  refine WK.fn0 (binds := [(Str.ofString "self", .ref p), (Str.ofString "other", .ref q)]) (mm := [(Str.ofString "other", .ref q), (Str.ofString "self", .ref p)]) (by rw [hK]; k_is) (by rw [hK]; k_is) rfl (by dsimp only) (by dsimp only) (by dsimp only) rfl rfl rfl rfl fun L hL => ?_
  repeat k_data
  refine isFive hK (hq1.set hL) (by simp [five]) (by simp [five]) ?_
  repeat k_data
  refine W.getO hK (hp1.set hL) rfl rfl (by kernel_rfl) ?_
  repeat k_data
  refine W.op hL (W.sorted1 htp fun D1 t1 hD1 hL1 => ?_) trivial
  repeat k_data
  refine W.getO hK ((hq1.set hD1).set hL1) rfl rfl (by kernel_rfl) ?_
  repeat k_data
  refine W.op hL1 (W.sorted1 (AH.set_new hD1 htq) fun D2 t2 hD2 hL2 => ?_) trivial
  refine W.eqNum (i := i) (j := j) (AH.set_new hL2 (AH.set_new hD2 AH.set_self)) (AH.set_new hL2 AH.set_self) ?_
  repeat k_data
  exact ⟨rfl, (Sub.set hD1).trans (Sub.set hD2)⟩
theorem fields_eq {p q : Addr} {vs ws : List Value} {as cs : List At1} (hK : C.K = hd.heap_39 C.w.params) (hp : FieldsAt H p vs) (hq : FieldsAt H q ws) (h1 : AtVs vs as) (h2 : AtVs ws cs) : WCall C (b + 20) (.ref 633) [.ref p, .ref q] [] H (fun r H' => r = .bool (decide (as = cs)) ∧ Sub H H') := by
  obtain ⟨_, hp1, tp, rfl, htp⟩ := hp
  obtain ⟨_, hq1, tq, rfl, htq⟩ := hq
  refine WK.fn0 (binds := [(Str.ofString "self", .ref p), (Str.ofString "other", .ref q)]) (mm := [(Str.ofString "other", .ref q), (Str.ofString "self", .ref p)]) (by rw [hK]; k_is) (by rw [hK]; k_is) rfl (by dsimp only) (by dsimp only) (by dsimp only) rfl rfl rfl rfl fun L hL => ?_
  repeat k_data
  refine isFive hK (hq1.set hL) (by simp [five]) (by simp [five]) ?_
  repeat k_data
  refine W.getO hK (hp1.set hL) rfl rfl (by kernel_rfl) ?_
  repeat k_data
  refine W.tupSame (AH.set_new hL htp) ?_
  repeat k_data
  refine W.getO hK (hq1.set hL) rfl rfl (by kernel_rfl) ?_
  repeat k_data
  refine W.tupSame (AH.set_new hL htq) ?_
  refine W.eqTups (AH.set_new hL htp) (AH.set_new hL htq) h1 h2 ?_
  repeat k_data
  refine ⟨fun hc => ?_, fun hc => ?_⟩
  · repeat k_data
    refine W.getO hK (hp1.set hL) rfl rfl (by kernel_rfl) ?_
    repeat k_data
    refine W.getO hK (hq1.set hL) rfl rfl (by kernel_rfl) ?_
    repeat k_data
    rw [hc]
    exact ⟨rfl, .refl _⟩
  · repeat k_data
    rw [hc]
    exact ⟨rfl, .refl _⟩
end
section
variable {C : Cx} {b : Nat} {H : AH}
theorem W.eqOpt {σ : AH} {X : Value → AH → Prop} {x y : Option Int} {v w : Value} {Q : Value → AH → Prop} (h1 : OptV x v) (h2 : OptV y w) (h : Q (.bool (decide (x = y))) σ) : W C b (compareOp .Eq v w) σ Q X := by
  cases x with
  | none =>
    cases h1
    cases y with
    | none => cases h2; exact W.eqNoneNone h
    | some j => obtain ⟨t, rfl⟩ := h2; exact W.eqNoneInt h
  | some i =>
    obtain ⟨t, rfl⟩ := h1
    cases y with
    | none => cases h2; exact W.eqIntNone h
    | some j =>
      obtain ⟨u, rfl⟩ := h2
      refine W.eqInt ?_
      have e : (i == j) = decide (some i = some j) := by
        by_cases e : i = j
        · subst e; simp
        · simp [e]
      rw [e]; exact h
theorem slice_eq {p q : Addr} {x y z x' y' z' : Option Int} (hK : C.K = hd.heap_39 C.w.params) (hp : SliceAt H p x y z) (hq : SliceAt H q x' y' z') : WCall C (b + 20) (.ref 881) [.ref p, .ref q] [] H (fun r H' => r = .bool (decide (x = x' ∧ y = y' ∧ z = z')) ∧ Sub H H') := by
  obtain ⟨vx, vy, vz, h1, h2, h3, hp⟩ := hp
  obtain ⟨wx, wy, wz, g1, g2, g3, hq⟩ := hq
  refine WK.fn0 (binds := [(Str.ofString "self", .ref p), (Str.ofString "other", .ref q)]) (mm := [(Str.ofString "other", .ref q), (Str.ofString "self", .ref p)]) (by rw [hK]; k_is) (by rw [hK]; k_is) rfl (by dsimp only) (by dsimp only) (by dsimp only) rfl rfl rfl rfl fun L hL => ?_
  have no : ¬ (x = x' ∧ y = y' ∧ z = z') → decide (x = x' ∧ y = y' ∧ z = z') = false := fun h => decide_eq_false h
  repeat k_data
  refine W.eBoolOp (W.boolAnds ?_)
  repeat k_data
  refine isFive hK (hq.set hL) (by simp [five]) (by simp [five]) ?_
  repeat k_data
  refine W.boolAnds ?_
  repeat k_data
  refine W.getO hK (hq.set hL) rfl g1.handed (by kernel_rfl) ?_
  repeat k_data
  refine W.getO hK (hp.set hL) rfl h1.handed (by kernel_rfl) ?_
  refine W.eqOpt g1 h1 ?_
  repeat k_data
  refine ⟨fun hc => ?_, fun hc => ?_⟩
  · have e1 : x' = x := of_decide_eq_true hc
    refine W.boolAnds ?_
    repeat k_data
    refine W.getO hK (hp.set hL) rfl h2.handed (by kernel_rfl) ?_
    repeat k_data
    refine W.getO hK (hq.set hL) rfl g2.handed (by kernel_rfl) ?_
    refine W.eqOpt h2 g2 ?_
    repeat k_data
    refine ⟨fun hc => ?_, fun hc => ?_⟩
    · have e2 : y = y' := of_decide_eq_true hc
      refine W.boolAnds ?_
      repeat k_data
      refine W.getO hK (hq.set hL) rfl g3.handed (by kernel_rfl) ?_
      repeat k_data
      refine W.getO hK (hp.set hL) rfl h3.handed (by kernel_rfl) ?_
      refine W.eqOpt g3 h3 ?_
      repeat k_data
      refine ⟨fun hc => ?_, fun hc => ?_⟩
      · have e3 : z' = z := of_decide_eq_true hc
        refine W.boolLast ?_
        repeat k_data
        refine W.getO hK (hp.set hL) rfl rfl (by kernel_rfl) ?_
        repeat k_data
        refine W.getO hK (hq.set hL) rfl rfl (by kernel_rfl) ?_
        repeat k_data
        subst e1 e2 e3
        refine ⟨?_, .refl _⟩
        simp [retOf]
      · repeat k_data
        rw [hc, no fun e => of_decide_eq_false hc e.2.2.symm]
        exact ⟨rfl, .refl _⟩
    · repeat k_data
      rw [hc, no fun e => of_decide_eq_false hc e.2.1]
      exact ⟨rfl, .refl _⟩
  · repeat k_data
    rw [hc, no fun e => of_decide_eq_false hc e.1.symm]
    exact ⟨rfl, .refl _⟩
/-- == of these two objects gives this, whenever asked -/
def EqTo (C : Cx) (σ : AH) (p q : Addr) (n : Nat) (c : Bool) : Prop := ∃ Cl m f Cl' m', ObjAt σ p Cl m ∧ ObjAt σ q Cl' m' ∧ specOk C.K Cl (Str.ofString "__eq__") f = true ∧ sideOk C.K Cl Cl' = true ∧ ∀ (b : Nat) (H' : AH), Sub σ H' → WCall C (b + n) (.ref f) [.ref p, .ref q] [] H' (fun r H'' => r = .bool c ∧ Sub H' H'')
theorem EqTo.sub {σ σ' : AH} {p q : Addr} {n : Nat} {c : Bool} (h : EqTo C σ p q n c) (k : Sub σ σ') : EqTo C σ' p q n c := let ⟨Cl, m, f, Cl', m', h1, h2, h3, h4, h5⟩ := h; ⟨Cl, m, f, Cl', m', h1.sub k, h2.sub k, h3, h4, fun b H' k' => h5 b H' (k.trans k')⟩
theorem EqTo.more {σ : AH} {p q : Addr} {n n' : Nat} {c : Bool} (h : EqTo C σ p q n c) (hn : n ≤ n') : EqTo C σ p q n' c := let ⟨Cl, m, f, Cl', m', h1, h2, h3, h4, h5⟩ := h; ⟨Cl, m, f, Cl', m', h1, h2, h3, h4, fun b H' k => WK.more (h5 (b + (n' - n)) H' k) (by omega)⟩
/-- p == q in a body -/
theorem W.eqObjs {p q L : Addr} {n : Nat} {c : Bool} {o : AO} {X : Value → AH → Prop} {Q : Value → AH → Prop} (h : EqTo C H p q n c) (hn : n ≤ b) (hL : H L = none) (ho : o.fr) (k : ∀ H', Sub H H' → H' L = none → Q (.bool c) (H'.set L o)) : W C b (compareOp .Eq (.ref p) (.ref q)) (H.set L o) Q X := by
  obtain ⟨Cl, m, f, Cl', m', ⟨d, h1, h1'⟩, ⟨d', h2, h2'⟩, h3, h4, h5⟩ := h
  refine W.eqInst (AH.set_new hL h1) (AH.set_new hL h1') (AH.set_new hL h2) (AH.set_new hL h2') h3 h4 (W.callOp (b' := n) (P := fun r H'' => r = .bool c ∧ Sub H H'') ?_ hn hL (fun v H' q' hL' => ?_) ho)
  · exact WK.more (h5 0 H (.refl _)) (by omega)
  · obtain ⟨rfl, hs⟩ := q'
    exact ⟨c, rfl, k H' hs hL'⟩
theorem child_eq {p q l r l' r' : Addr} {n : Nat} {c1 c2 : Bool} (hK : C.K = hd.heap_39 C.w.params) (hp : ObjAt H p 430 [(Str.ofString "left", .ref l), (Str.ofString "right", .ref r)]) (hq : ObjAt H q 430 [(Str.ofString "left", .ref l'), (Str.ofString "right", .ref r')]) (h1 : EqTo C H l l' n c1) (h2 : EqTo C H r r' n c2) :
    WCall C (b + (n + 10)) (.ref 406) [.ref p, .ref q] [] H (fun v H' => v = .bool (c1 && c2) ∧ Sub H H') := by
  refine WK.fn0 (b := b + (n + 8)) (binds := [(Str.ofString "self", .ref p), (Str.ofString "other", .ref q)]) (mm := [(Str.ofString "other", .ref q), (Str.ofString "self", .ref p)]) (by rw [hK]; k_is) (by rw [hK]; k_is) rfl (by dsimp only) (by dsimp only) (by dsimp only) rfl rfl rfl rfl fun L hL => ?_
  repeat k_data
  refine isFive hK (hq.set hL) (by simp [five]) (by simp [five]) ?_
  repeat k_data
  refine W.getO hK (hp.set hL) rfl rfl (by kernel_rfl) ?_
  repeat k_data
  refine W.getO hK (hq.set hL) rfl rfl (by kernel_rfl) ?_
  refine W.eqObjs h1 (by omega) hL trivial fun H1 hs1 hL1 => ?_
  cases c1 with
  | false =>
    repeat k_data
    exact ⟨rfl, hs1⟩
  | true =>
    repeat k_data
    refine W.getO hK ((hp.sub hs1).set hL1) rfl rfl (by kernel_rfl) ?_
    repeat k_data
    refine W.getO hK ((hq.sub hs1).set hL1) rfl rfl (by kernel_rfl) ?_
    refine W.eqObjs (h2.sub hs1) (by omega) hL1 trivial fun H2 hs2 hL2 => ?_
    repeat k_data
    exact ⟨rfl, hs1.trans hs2⟩
end
section
variable {C : Cx} {b : Nat} {H : AH}
def St.cls : St → Addr
  | .name _ => 643
  | .names _ _ => 643
  | .place _ => 820
  | .slice _ _ _ => 891
  | .any => 719
theorem St.cls_five (s : St) : s.cls ∈ five ∧ s.cls ≠ 430 := by cases s <;> exact ⟨by simp [St.cls, five], by simp [St.cls]⟩
theorem StAt.obj {σ : AH} {p : Addr} {s : St} (h : StAt σ p s) : ∃ m, ObjAt σ p s.cls m := by
  cases s with
  | name i => obtain ⟨t, v, h, _⟩ := h; exact ⟨_, h⟩
  | names i j => obtain ⟨t, u, v, h, _⟩ := h; exact ⟨_, h⟩
  | place k => obtain ⟨t, v, h, _⟩ := h; exact ⟨_, h⟩
  | slice x y z => obtain ⟨vx, vy, vz, _, _, _, h⟩ := h; exact ⟨_, h⟩
  | any => exact ⟨_, h⟩
theorem nm_inj {i j : Nat} (hi : i < 23) (hj : j < 23) : nmS i = nmS j ↔ i = j := by
  constructor
  · intro h
    have e := txt_inj h
    have := List.all_eq_true.mp (List.all_eq_true.mp raw_inj i (List.mem_range.mpr hi)) j (List.mem_range.mpr hj)
    simp only [Bool.or_eq_true, beq_iff_eq, bne_iff_ne] at this
    rcases this with h | h
    · exact h
    · exact absurd e h
  · intro h; rw [h]
/-- the words of a fields object -/
def St.words : St → List At1
  | .name i => [.txt (nmS i)]
  | .names i j => [.txt (nmS i), .txt (nmS j)]
  | _ => []
/-- an object of a step is no other class's -/
theorem StAt.miss {σ : AH} {p q Cl : Addr} {m : List (Str × Value)} {s : St} (hK : C.K = hd.heap_39 C.w.params) (h : StAt σ p s) (hq : ObjAt σ q Cl m) (h1 : Cl ∈ five) (h0 : Cl ≠ s.cls) : EqTo C σ p q 20 false := by
  obtain ⟨mp, ho⟩ := h.obj
  have hs : sideOk C.K s.cls Cl = true := by rw [hK]; exact (kit5 _ s.cls_five.1 _ h1).2.1
  have h0' : (Cl == s.cls) = false := by simpa using h0
  cases s with
  | name i => exact ⟨_, _, 633, _, _, ho, hq, by rw [hK]; kernel_rfl, hs, fun b H' k => WK.more (WK.mono (fields_miss (b := b) hK (hq.sub k) h1 h0') fun f H'' q => q) (by omega)⟩
  | names i j => exact ⟨_, _, 633, _, _, ho, hq, by rw [hK]; kernel_rfl, hs, fun b H' k => WK.more (WK.mono (fields_miss (b := b) hK (hq.sub k) h1 h0') fun f H'' q => q) (by omega)⟩
  | place n => exact ⟨_, _, 791, _, _, ho, hq, by rw [hK]; kernel_rfl, hs, fun b H' k => WK.more (WK.mono (index_miss (b := b) hK (hq.sub k) h1 h0') fun f H'' q => q) (by omega)⟩
  | slice x y z => exact ⟨_, _, 881, _, _, ho, hq, by rw [hK]; kernel_rfl, hs, fun b H' k => WK.more (WK.mono (slice_miss (b := b) hK (hq.sub k) h1 h0') fun f H'' q => q) (by omega)⟩
  | any => exact ⟨_, _, 709, _, _, ho, hq, by rw [hK]; kernel_rfl, hs, fun b H' k => WK.more (WK.mono (wild_eq (b := b) hK (hq.sub k) h1) fun f H'' q => by
      obtain ⟨v, rfl, rfl, hs⟩ := q
      have e : (Cl == 719) = false := h0'
      exact ⟨_, rfl, by rw [e], hs⟩) (by omega)⟩
theorem StAt.words {σ : AH} {p : Addr} {s : St} (h : StAt σ p s) (hc : s.cls = 643) : ∃ vs, FieldsAt σ p vs ∧ AtVs vs s.words := by
  cases s with
  | name i => obtain ⟨t, h⟩ := h; exact ⟨_, h, .cons .txt .nil⟩
  | names i j => obtain ⟨t, u, h⟩ := h; exact ⟨_, h, .cons .txt (.cons .txt .nil)⟩
  | _ => simp [St.cls] at hc
theorem words_inj {s t : St} (hs : s.fine) (ht : t.fine) (h1 : s.cls = 643) (h2 : t.cls = 643) : s.words = t.words ↔ s = t := by
  cases s <;> simp [St.cls] at h1 <;> cases t <;> simp [St.cls] at h2 <;> simp only [St.words]
  · rename_i i j
    constructor
    · intro e; simp only [List.cons.injEq, At1.txt.injEq, and_true] at e; rw [(nm_inj hs ht).mp e]
    · intro e; cases e; rfl
  · constructor
    · intro e; simp at e
    · intro e; cases e
  · constructor
    · intro e; simp at e
    · intro e; cases e
  · constructor
    · intro e; simp only [List.cons.injEq, At1.txt.injEq, and_true] at e; rw [(nm_inj hs.1 ht.1).mp e.1, (nm_inj hs.2 ht.2).mp e.2]
    · intro e; cases e; rfl
/-- two objects of steps are equal if the steps are one -/
theorem StAt.eqTo {σ : AH} {p q : Addr} {s t : St} (hK : C.K = hd.heap_39 C.w.params) (h : StAt σ p s) (g : StAt σ q t) (hs : s.fine) (ht : t.fine) : EqTo C σ p q 20 (decide (s = t)) := by
  obtain ⟨mp, ho⟩ := h.obj
  obtain ⟨mq, go⟩ := g.obj
  by_cases hc : t.cls = s.cls
  · have hside : sideOk C.K s.cls t.cls = true := by rw [hK]; exact (kit5 _ s.cls_five.1 _ t.cls_five.1).2.1
    by_cases h6 : s.cls = 643
    · obtain ⟨vs, hf, hw⟩ := h.words h6
      obtain ⟨ws, gf, gw⟩ := g.words (hc.trans h6)
      have e : decide (s.words = t.words) = decide (s = t) := by rw [decide_eq_decide]; exact words_inj hs ht h6 (hc.trans h6)
      refine ⟨_, _, 633, _, _, ho, go, by rw [h6, hK]; kernel_rfl, hside, fun b H' k => WK.mono (fields_eq (b := b) hK (hf.sub k) (gf.sub k) hw gw) fun f H'' q => ?_⟩
      rw [e] at q; exact q
    · cases s with
      | name i => exact absurd rfl h6
      | names i j => exact absurd rfl h6
      | place n =>
        cases t with
        | place n' =>
          obtain ⟨t1, h⟩ := h
          obtain ⟨t2, g⟩ := g
          refine ⟨_, _, 791, _, _, ho, go, by rw [hK]; kernel_rfl, hside, fun b H' k => WK.mono (index_eq (b := b) hK (h.sub k) (g.sub k)) fun f H'' q => ?_⟩
          have e : (n == n') = decide (St.place n = St.place n') := by
            by_cases e : n = n'
            · subst e; simp
            · simp [e]
          rw [e] at q; exact q
        | _ => exact absurd hc (by simp [St.cls])
      | slice x y z =>
        cases t with
        | slice x' y' z' =>
          refine ⟨_, _, 881, _, _, ho, go, by rw [hK]; kernel_rfl, hside, fun b H' k => WK.mono (slice_eq (b := b) hK (SliceAt.sub h k) (SliceAt.sub g k)) fun f H'' q => ?_⟩
          have e : decide (x = x' ∧ y = y' ∧ z = z') = decide (St.slice x y z = St.slice x' y' z') := by rw [decide_eq_decide]; simp
          rw [e] at q; exact q
        | _ => exact absurd hc (by simp [St.cls])
      | any =>
        cases t with
        | any =>
          refine ⟨_, _, 709, _, _, ho, go, by rw [hK]; kernel_rfl, hside, fun b H' k => WK.more (WK.mono (wild_eq (b := b) hK (go.sub k) (by simp [five, St.cls])) fun f H'' q => q) (by omega)⟩
        | _ => exact absurd hc (by simp [St.cls])
  · rw [decide_eq_false fun e => hc (by rw [e])]
    exact h.miss hK go t.cls_five.1 hc
/-- a path of these steps, bracketed from the left -/
inductive LeftAt (σ : AH) : Addr → List St → Prop
  | one {p s} : StAt σ p s → LeftAt σ p [s]
  | more {a r p ss s} : LeftAt σ r ss → StAt σ p s → ObjAt σ a 430 [(Str.ofString "left", .ref r), (Str.ofString "right", .ref p)] → LeftAt σ a (ss ++ [s])
theorem LeftAt.sub {σ σ' : AH} {a : Addr} {ss : List St} (h : LeftAt σ a ss) (k : Sub σ σ') : LeftAt σ' a ss := by
  induction h with
  | one h => exact .one (h.sub k)
  | more _ h2 h3 ih => exact .more ih (h2.sub k) (h3.sub k)
theorem LeftAt.path {σ : AH} {a : Addr} {ss : List St} (h : LeftAt σ a ss) : PathAt σ a ss := by
  induction h with
  | one h => exact .one h
  | more _ h2 h3 ih => exact .two ih (.one h2) h3
theorem LeftAt.eqTo {σ : AH} {p : Addr} {ss : List St} (hK : C.K = hd.heap_39 C.w.params) (h : LeftAt σ p ss) : ∀ {q : Addr} {ts : List St}, LeftAt σ q ts → (∀ s ∈ ss, s.fine) → (∀ s ∈ ts, s.fine) → EqTo C σ p q (20 + 10 * ss.length) (decide (ss = ts)) := by
  induction h with
  | @one p s h =>
    intro q ts g hs ht
    cases g with
    | @one _ t g =>
      have e : decide ([s] = [t]) = decide (s = t) := by rw [decide_eq_decide]; simp
      rw [e]
      exact (h.eqTo hK g (hs s (by simp)) (ht t (by simp))).more (by omega)
    | @more _ r p' ss' s' g1 g2 g3 =>
      have hne := g1.path.ne
      rw [decide_eq_false fun e => hne (by
        have := congrArg List.length e
        simp only [List.length_append, List.length_cons, List.length_nil] at this
        exact List.eq_nil_of_length_eq_zero (by omega))]
      exact (h.miss hK g3 (by simp [five]) (fun e => s.cls_five.2 e.symm)).more (by omega)
  | @more a r p ss s h1 h2 h3 ih =>
    intro q ts g hs ht
    have hne := h1.path.ne
    cases g with
    | @one _ t g =>
      rw [decide_eq_false fun e => hne (by
        have := congrArg List.length e
        simp only [List.length_append, List.length_cons, List.length_nil] at this
        exact List.eq_nil_of_length_eq_zero (by omega))]
      obtain ⟨mq, go⟩ := g.obj
      have t0 : (t.cls == 430) = false := by simpa using t.cls_five.2
      exact ⟨_, _, 406, _, _, h3, go, by rw [hK]; kernel_rfl, by rw [hK]; exact (kit5 _ (by simp [five]) _ t.cls_five.1).2.1, fun b H' k => WK.more (WK.mono (child_miss (b := b) hK (go.sub k) t.cls_five.1 t0) fun f H'' q => q) (by omega)⟩
    | @more _ r' p' ss' s' g1 g2 g3 =>
      have f1 : ∀ x ∈ ss, x.fine := fun x hx => hs x (List.mem_append_left _ hx)
      have f2 : ∀ x ∈ ss', x.fine := fun x hx => ht x (List.mem_append_left _ hx)
      have e1 := ih g1 f1 f2
      have e2 := (h2.eqTo hK g2 (hs s (by simp)) (ht s' (by simp))).more (n' := 20 + 10 * ss.length) (by omega)
      have e : decide (ss ++ [s] = ss' ++ [s']) = (decide (ss = ss') && decide (s = s')) := by
        rw [← Bool.decide_and, decide_eq_decide]
        constructor
        · intro e; have := List.append_inj' e rfl; exact ⟨this.1, by simpa using this.2⟩
        · rintro ⟨rfl, rfl⟩; rfl
      rw [e, List.length_append, List.length_singleton]
      exact ⟨_, _, 406, _, _, h3, g3, by rw [hK]; kernel_rfl, by rw [hK]; exact (kit5 _ (by simp [five]) _ (by simp [five])).2.1, fun b H' k => WK.more (WK.mono (child_eq (b := b) hK (h3.sub k) (g3.sub k) (e1.sub k) (e2.sub k)) fun f H'' q => q) (by omega)⟩
end
section
variable {C : Cx} {b : Nat} {H : AH}
theorem nextV_bd' {xs : List Int} {k lim : Int} (h : 0 < lim) : 0 ≤ nextV xs k lim ∧ nextV xs k lim < lim := nextV_bd h
def namesOk3 (o : Obj) : Bool := o.cls == .type "tuple" && (match o.data with | .seq items _ => items.size == 23 && (List.range 23).all (fun i => match items[i]? with | some (.str x _) => x == nmS i | _ => false) | _ => false)
theorem names_here {P : Params} : (List.lookup 920 (hd.heap_39 P)).any namesOk3 = true := by kernel_rfl
/-- _law_names[..] -/
theorem W.lawName {env : Env} {σ : AH} {X : Value → AH → Prop} {slice : Expr} {pos p : Pos} {Q : Value → AH → Prop} (hK : C.K = hd.heap_39 C.w.params) (hg : env.globals = mainGlobals) (hk : env.scope.kind = .function) (hl : env.kindOf (Str.ofString "_law_names") = some .globalImplicit)
    (h : W C b (eval slice env) σ (fun i σ₁ => ∃ (n : Int) (t : Tok), i = .int n t ∧ 0 ≤ n ∧ n < 23 ∧ ∀ t', Q (.str (nmS n.toNat) t') σ₁) X) : W C b (eval (.Subscript (.Name (Str.ofString "_law_names") p) slice pos) env) σ Q X := by
  have hn := names_here (P := C.w.params)
  cases ho : (hd.heap_39 C.w.params).lookup 920 with
  | none => rw [ho] at hn; cases hn
  | some o =>
    rw [ho] at hn
    have ho' : C.K.lookup 920 = some o := by rw [hK]; exact ho
    simp only [Option.any_some, namesOk3, Bool.and_eq_true, beq_iff_eq] at hn
    obtain ⟨hc, hn⟩ := hn
    cases hd' : o.data with
    | seq items ep =>
      rw [hd'] at hn
      simp only [Bool.and_eq_true, beq_iff_eq] at hn
      obtain ⟨hz, hn⟩ := hn
      rw [arm_eval_Subscript]
      refine W.bind_ (W.mono (Q := fun o₁ σ₁ => o₁ = .ref 920 ∧ σ₁ = σ) (X := X) ?_ (fun o₁ σ₁ q => ?_) fun _ _ x => x)
      · refine W.eName ?_ (by decide)
        exact W.globK hK (by k_is) ⟨rfl, rfl⟩ hg hk hl
      · obtain ⟨rfl, rfl⟩ := q
        refine W.bind_ (W.hold (W.mono h (fun i σ₂ q => W.bind_ (W.standAt_ ?_)) fun _ _ x => x))
        obtain ⟨n, t, rfl, h0, h23, q⟩ := q
        have hin := List.all_eq_true.mp hn n.toNat (List.mem_range.mpr (by omega))
        cases hx : items[n.toNat]? with
        | none => rw [hx] at hin; cases hin
        | some x =>
          rw [hx] at hin
          cases x with
          | str y u =>
            have hy : y = nmS n.toNat := by simpa using hin
            subst hy
            have gi : W C b (getitemInPython (.ref 920)) σ₂ (fun r σ' => r = false ∧ σ' = σ₂) X := by
              intro A s P E o₁ p' x'
              obtain ⟨id, hl⟩ := GI.tuple
              have hT := typeIs_K (C := C) ho' hc s o₁.good
              rw [getitemInPython_of_ne hT.not_modules]
              exact wpAny_bind (wpAny_specialOf hT hl (wpAny_pure (p' _ _ _ (.refl o₁.good) ⟨rfl, rfl⟩)))
            refine W.bind_ (W.mono gi (fun r σ' q' => ?_) fun _ _ x => x)
            obtain ⟨rfl, rfl⟩ := q'
            have gt : W C b (getItem (.ref 920) (.int n t)) σ' (fun r σ₃ => r = .str (nmS n.toNat) u ∧ σ₃ = σ') X := by
              intro A s P E o₁ p' x'
              obtain ⟨cl, dd, data, sl⟩ := o
              simp only at hc hd'
              subst hc hd'
              have e := o₁.good.kin _ _ ho'
              refine PyProof.Rows.getItem_tuple (j := n.toNat) (x := .str (nmS n.toNat) u) ⟨_, e, rfl, ep, rfl⟩ (by omega) (by omega) ?_ hx (p' _ _ _ (.refl o₁.good) ⟨rfl, rfl⟩)
              unfold seqIndex?
              rw [hz]
              have hneg : ¬ n < 0 := by omega
              have h23' : n < ((23 : Nat) : Int) := by omega
              simp only [hneg, if_false, h0, h23', decide_true, Bool.and_self, if_true]
            refine W.bind_ (W.mono (W.subscripted_ gt) (fun r σ₃ q' => ?_) fun _ _ x => x)
            · obtain ⟨rfl, rfl⟩ := q'
              refine W.bind_ ?_
              exact fun A s P E k p x => wpAny_letTemporaryGo (p _ _ _ (.refl k.good) (W.pure_ (q _)))
          | _ => cases hin
    | _ => rw [hd'] at hn; cases hn
end
section
variable {C : Cx} {b : Nat} {H : AH}
def partOf (n : Int) : Option Int := if n = 4 then none else some (n - 1)
theorem partOf_in {n : Int} (h : 0 ≤ n ∧ n < 5) : partOf n ∈ parts := by
  unfold partOf
  have : n = 0 ∨ n = 1 ∨ n = 2 ∨ n = 3 ∨ n = 4 := by omega
  rcases this with rfl | rfl | rfl | rfl | rfl <;> decide
theorem law_part {S st : Addr} {vs : List Value} {xs : List Int} {k : Int} {t : Tok} (hK : C.K = hd.heap_39 C.w.params) (hst : H st = none) (hS : H S = some (.lst vs)) (hi : intsAre xs vs)
    (hk0 : 0 ≤ k) (hk1 : k < 900) (hlen : xs.length ≤ 100) :
    WCall C (b + 10) (.ref 934) [.ref st] [] (H.set st (.lst [.ref S, .int k t])) (fun r σ' => ∃ t2, OptV (partOf (nextV xs k 5)) r ∧ σ' = H.set st (.lst [.ref S, .int (k + 1) t2])) := by
  refine WK.fn0 (b := b + 8) (binds := [(Str.ofString "state", .ref st)]) (mm := [(Str.ofString "state", .ref st)]) (by rw [hK]; k_is) (by rw [hK]; k_is) rfl (by dsimp only) (by dsimp only) (by dsimp only) rfl rfl rfl rfl fun L hL => ?_
  repeat k_data
  refine kpK' hK (by k_is) (W.callOp (b' := b + 2) (law_next hK hst hS hi hk0 (by omega) (by decide) hlen) (by omega) hL fun v' H1 q hL1 => ?_)
  obtain ⟨t1, t2, rfl, rfl⟩ := q
  repeat k_data
  refine ⟨fun e0 => ?_, fun e0 => ?_⟩
  · repeat k_data
    refine ⟨t2, ?_, rfl⟩
    unfold partOf
    rw [if_pos (by simpa using e0)]; rfl
  · repeat k_data
    refine ⟨t2, ?_, rfl⟩
    unfold partOf
    rw [if_neg (by simpa using e0)]; exact ⟨_, rfl⟩
def optA : Option Int → At1
  | none => .no
  | some k => .num k
theorem OptV.atom {x : Option Int} {v : Value} (h : OptV x v) : AtV v (optA x) := by
  cases x with
  | none => cases h; exact .no
  | some k => obtain ⟨t, rfl⟩ := h; exact .num
/-- what the tuple of a step holds -/
def St.atoms : St → List At1
  | .name i => [.txt (Str.ofString "name"), .txt (nmS i)]
  | .names i j => [.txt (Str.ofString "names"), .txt (nmS i), .txt (nmS j)]
  | .place k => [.txt (Str.ofString "place"), .num k]
  | .slice x y z => [.txt (Str.ofString "slice"), optA x, optA y, optA z]
  | .any => [.txt (Str.ofString "any")]
/-- a tuple that stands for a step -/
def StepT (σ : AH) (T : Addr) (s : St) : Prop := ∃ vs, σ T = some (.tup vs) ∧ AtVs vs s.atoms
theorem StepT.sub {σ σ' : AH} {T : Addr} {s : St} (h : StepT σ T s) (k : Sub σ σ') : StepT σ' T s := let ⟨vs, h1, h2⟩ := h; ⟨vs, k _ _ h1, h2⟩
theorem step_end {st T S : Addr} {k k' : Int} {t : Tok} {ws : List Value} {s : St} (hst : H st = none) (hT : (H.set st (.lst [.ref S, .int k' t])) T = none) (hw : AtVs ws s.atoms) (hf : s.fine) (h1 : k ≤ k') (h2 : k' ≤ k + 4) :
    ∃ T' s H' k'' t2, Value.ref T = .ref T' ∧ Sub H H' ∧ H' st = none ∧ StepT H' T' s ∧ s.fine ∧ k ≤ k'' ∧ k'' ≤ k + 4 ∧ (H.set st (.lst [.ref S, .int k' t])).set T (.tup ws) = H'.set st (.lst [.ref S, .int k'' t2]) := by
  have ne : T ≠ st := AH.none_ne hT
  have hT0 : H T = none := AH.none_in hT
  exact ⟨T, s, H.set T (.tup ws), k', t, rfl, Sub.set hT0, by rw [AH.set_ne ne.symm]; exact hst, ⟨ws, AH.set_self, hw⟩, hf, h1, h2, AH.set_comm ne.symm⟩
theorem law_step {S st : Addr} {vs : List Value} {xs : List Int} {k : Int} {t : Tok} (hK : C.K = hd.heap_39 C.w.params) (hst : H st = none) (hS : H S = some (.lst vs)) (hi : intsAre xs vs)
    (hk0 : 0 ≤ k) (hk1 : k < 800) (hlen : xs.length ≤ 100) :
    WCall C (b + 30) (.ref 941) [.ref st] [] (H.set st (.lst [.ref S, .int k t])) (fun r σ' => ∃ T s H' k' t2, r = .ref T ∧ Sub H H' ∧ H' st = none ∧ StepT H' T s ∧ s.fine ∧ k ≤ k' ∧ k' ≤ k + 4 ∧ σ' = H'.set st (.lst [.ref S, .int k' t2])) := by
  refine WK.fn0 (b := b + 28) (binds := [(Str.ofString "state", .ref st)]) (mm := [(Str.ofString "state", .ref st)]) (by rw [hK]; k_is) (by rw [hK]; k_is) rfl (by dsimp only) (by dsimp only) (by dsimp only) rfl rfl rfl rfl fun L hL => ?_
  repeat k_data
  refine kpK' hK (by k_is) (W.callOp (b' := b + 2) (law_next hK hst hS hi hk0 (by omega) (by decide) hlen) (by omega) hL fun v' H1 q hL1 => ?_)
  obtain ⟨t1, t2, rfl, rfl⟩ := q
  have hb := nextV_bd (xs := xs) (k := k) (lim := 7) (by decide)
  repeat k_data
  refine ⟨fun e0 => ?_, fun e0 => ?_⟩
  · iterate 6 k_data
    refine W.lawName hK rfl rfl (by kernel_rfl) ?_
    repeat k_data
    refine kpK' hK (by k_is) (W.callOp (b' := b + 2) (law_next hK hst hS hi (by omega) (by omega) (by decide) hlen) (by omega) (by assumption) fun v' H1 q hLn => ?_)
    obtain ⟨t3, t4, rfl, rfl⟩ := q
    have h23 := nextV_bd (xs := xs) (k := k + 1) (lim := 23) (by decide)
    refine ⟨_, _, rfl, h23.1, h23.2, fun t5 => ?_⟩
    repeat k_data
    refine step_end hst (by assumption) (s := .name (nextV xs (k + 1) 23).toNat) (.cons .txt (.cons .txt .nil)) (show _ < 23 by omega) (by omega) (by omega)
  · repeat k_data
    refine ⟨fun e1 => ?_, fun e1 => ?_⟩
    · iterate 6 k_data
      refine W.lawName hK rfl rfl (by kernel_rfl) ?_
      repeat k_data
      refine kpK' hK (by k_is) (W.callOp (b' := b + 2) (law_next hK hst hS hi (by omega) (by omega) (by decide) hlen) (by omega) (by assumption) fun v' H1 q hLn => ?_)
      obtain ⟨t3, t4, rfl, rfl⟩ := q
      have h23 := nextV_bd (xs := xs) (k := k + 1) (lim := 23) (by decide)
      refine ⟨_, _, rfl, h23.1, h23.2, fun t5 => ?_⟩
      iterate 1 k_data
      refine W.lawName hK rfl rfl (by kernel_rfl) ?_
      repeat k_data
      refine kpK' hK (by k_is) (W.callOp (b' := b + 2) (law_next hK hst hS hi (by omega) (by omega) (by decide) hlen) (by omega) (by assumption) fun v' H1 q hLn => ?_)
      obtain ⟨t6, t7, rfl, rfl⟩ := q
      have g23 := nextV_bd (xs := xs) (k := k + 1 + 1) (lim := 23) (by decide)
      refine ⟨_, _, rfl, g23.1, g23.2, fun t8 => ?_⟩
      repeat k_data
      refine step_end hst (by assumption) (s := .names (nextV xs (k + 1) 23).toNat (nextV xs (k + 1 + 1) 23).toNat) (.cons .txt (.cons .txt (.cons .txt .nil))) (show _ < 23 ∧ _ < 23 by omega) (by omega) (by omega)
    · repeat k_data
      refine ⟨fun e2 => ?_, fun e2 => ?_⟩
      · repeat k_data
        refine kpK' hK (by k_is) (W.callOp (b' := b + 2) (law_next hK hst hS hi (by omega) (by omega) (by decide) hlen) (by omega) (by assumption) fun v' H1 q hLn => ?_)
        obtain ⟨t3, t4, rfl, rfl⟩ := q
        have h4 := nextV_bd (xs := xs) (k := k + 1) (lim := 4) (by decide)
        repeat k_data
        refine step_end hst (by assumption) (s := .place (nextV xs (k + 1) 4 - 2)) (.cons .txt (.cons .num .nil)) ?_ (by omega) (by omega)
        show _ ∈ [(-2 : Int), -1, 0, 1]
        have : nextV xs (k + 1) 4 = 0 ∨ nextV xs (k + 1) 4 = 1 ∨ nextV xs (k + 1) 4 = 2 ∨ nextV xs (k + 1) 4 = 3 := by omega
        rcases this with e | e | e | e <;> rw [e] <;> decide
      · repeat k_data
        refine ⟨fun e3 => ?_, fun e3 => ?_⟩
        · repeat k_data
          refine kpK' hK (by k_is) (W.callOp (b' := b + 10) (law_part hK hst hS hi (by omega) (by omega) hlen) (by omega) (by assumption) fun v' H1 q hLn => ?_)
          obtain ⟨t3, o1, rfl⟩ := q
          repeat k_data
          refine kpK' hK (by k_is) (W.callOp (b' := b + 10) (law_part hK hst hS hi (by omega) (by omega) hlen) (by omega) (by assumption) fun v' H1 q hLn => ?_)
          obtain ⟨t4, o2, rfl⟩ := q
          repeat k_data
          refine kpK' hK (by k_is) (W.callOp (b' := b + 10) (law_part hK hst hS hi (by omega) (by omega) hlen) (by omega) (by assumption) fun v' H1 q hLn => ?_)
          obtain ⟨t5, o3, rfl⟩ := q
          repeat k_data
          have h5 := partOf_in (nextV_bd (xs := xs) (k := k + 1) (lim := 5) (by decide))
          have h6 := partOf_in (nextV_bd (xs := xs) (k := k + 1 + 1) (lim := 5) (by decide))
          have h7 := partOf_in (nextV_bd (xs := xs) (k := k + 1 + 1 + 1) (lim := 5) (by decide))
          exact step_end hst (by assumption) (s := .slice _ _ _) (.cons .txt (.cons o1.atom (.cons o2.atom (.cons o3.atom .nil)))) ⟨h5, h6, h7⟩ (by omega) (by omega)
        · repeat k_data
          exact step_end hst (by assumption) (s := .any) (.cons .txt .nil) trivial (by omega) (by omega)
end
section
variable {C : Cx} {b : Nat} {H : AH}
theorem OptV.isNone {x : Option Int} {v : Value} (h : OptV x v) : (v == .none) = x.isNone := by
  cases x with
  | none => cases h; rfl
  | some k => obtain ⟨t, rfl⟩ := h; rfl
theorem make_slice3 {x y z : Option Int} {vx vy vz : Value} (hK : C.K = hd.heap_39 C.w.params) (h1 : OptV x vx) (h2 : OptV y vy) (h3 : OptV z vz) : WCall C (b + 13) (.ref 891) [vx, vy, vz] [] H (fun r H' => ∃ a, r = .ref a ∧ Sub H H' ∧ SliceAt H' a x y z) := by
  refine WK.make (fI := 837) (by rw [hK]; kernel_rfl) (by rw [hK]; kernel_rfl) (by rw [hK]; kernel_rfl) fun o d hd' hx => ?_
  refine WK.fnD (b := b + 10) (binds := [(Str.ofString "self", .ref o), (Str.ofString "start", vx), (Str.ofString "end", vy), (Str.ofString "step", vz)])
      (mm := [(Str.ofString "step", vz), (Str.ofString "end", vy), (Str.ofString "start", vx), (Str.ofString "self", .ref o)]) (T := 830) (by rw [hK]; k_is) (by rw [hK]; k_is) rfl (by dsimp only) (by dsimp only) (by dsimp only) (by rw [hK]; k_is) rfl rfl rfl rfl rfl rfl fun L hL => ?_
  repeat k_data
  rw [h1.isNone]
  cases hx0 : x.isNone with
  | false =>
    repeat k_data
    exact ⟨rfl, o, rfl, (Sub.set hd').trans (Sub.set (by assumption)), vx, vy, vz, h1, h2, h3, by rw [hx0]; exact ⟨d, AH.set_self, AH.set_new (by assumption) AH.set_self⟩⟩
  | true =>
    repeat k_data
    rw [h2.isNone]
    cases hy0 : y.isNone with
    | false =>
      repeat k_data
      exact ⟨rfl, o, rfl, (Sub.set hd').trans (Sub.set (by assumption)), vx, vy, vz, h1, h2, h3, by rw [hx0, hy0]; exact ⟨d, AH.set_self, AH.set_new (by assumption) AH.set_self⟩⟩
    | true =>
      repeat k_data
      rename_i q1 q2
      rw [h3.isNone] at q1 q2 ⊢
      exact ⟨rfl, o, rfl, (Sub.set hd').trans (Sub.set (by assumption)), vx, vy, vz, h1, h2, h3, by rw [hx0, hy0]; exact ⟨d, AH.set_self, AH.set_new (by assumption) AH.set_self⟩⟩
theorem make_field1 {i : Nat} {t : Tok} (hi : i < 23) (hK : C.K = hd.heap_39 C.w.params) : WCall C (b + 5) (.ref 643) [.str (nmS i) t] [] H (fun r H' => ∃ a, r = .ref a ∧ Sub H H' ∧ FieldsAt H' a [.str (nmS i) t]) := by
  refine WK.mono (make_fields1x hK) fun f H' q => ?_
  obtain ⟨r, rfl, H1, x, d, T, rfl, rfl, h1, h2, h3, h4⟩ := q
  have e : ([nmS i].any (· == Str.ofString "*")) = false := by simp [nm_star hi]
  rw [e] at h2 ⊢
  exact ⟨_, rfl, x, rfl, (h3.trans (Sub.set h1)).trans (Sub.set h2), .ref T, ⟨d, AH.set_self, AH.set_new h2 AH.set_self⟩, T, rfl, AH.set_new h2 (AH.set_new h1 h4)⟩
theorem AtVs.inv1 {vs : List Value} {a : At1} {as : List At1} (h : AtVs vs (a :: as)) : ∃ v ws, vs = v :: ws ∧ AtV v a ∧ AtVs ws as := by
  cases h with | cons h1 h2 => exact ⟨_, _, rfl, h1, h2⟩
theorem AtV.isTxt {v : Value} {x : Str} (h : AtV v (.txt x)) : ∃ t, v = .str x t := by cases h; exact ⟨_, rfl⟩
theorem AtV.isNum {v : Value} {k : Int} (h : AtV v (.num k)) : ∃ t, v = .int k t := by cases h; exact ⟨_, rfl⟩
theorem AtV.isOpt {v : Value} {x : Option Int} (h : AtV v (optA x)) : OptV x v := by
  cases x with
  | none => cases h; rfl
  | some k => cases h; exact ⟨_, rfl⟩
theorem AtVs.inv0 {vs : List Value} (h : AtVs vs []) : vs = [] := by cases h; rfl
theorem law_made {T : Addr} {s : St} (hK : C.K = hd.heap_39 C.w.params) (hT : StepT H T s) (hf : s.fine) :
    WCall C (b + 30) (.ref 948) [.ref T] [] H (fun r H' => ∃ p, r = .ref p ∧ Sub H H' ∧ StAt H' p s) := by
  obtain ⟨vs, hT, hw⟩ := hT
  refine WK.fn0 (b := b + 28) (binds := [(Str.ofString "step", .ref T)]) (mm := [(Str.ofString "step", .ref T)]) (by rw [hK]; k_is) (by rw [hK]; k_is) rfl (by dsimp only) (by dsimp only) (by dsimp only) rfl rfl rfl rfl fun L hL => ?_
  cases s with
  | name i =>
    obtain ⟨v1, ws1, rfl, a1, w1⟩ := hw.inv1
    obtain ⟨v2, ws2, rfl, a2, w2⟩ := w1.inv1
    obtain rfl := w2.inv0
    obtain ⟨t1, rfl⟩ := a1.isTxt
    obtain ⟨t2, rfl⟩ := a2.isTxt
    repeat k_data
    refine kpK' hK (by k_is) (W.callOp (b' := b + 5) (make_field1 hf hK) (by omega) hL fun v' H1 q hL1 => ?_)
    obtain ⟨p, rfl, hs, hp⟩ := q
    repeat k_data
    exact ⟨p, rfl, hs, _, hp⟩
  | names i j =>
    obtain ⟨v1, ws1, rfl, a1, w1⟩ := hw.inv1
    obtain ⟨v2, ws2, rfl, a2, w2⟩ := w1.inv1
    obtain ⟨v3, ws3, rfl, a3, w3⟩ := w2.inv1
    obtain rfl := w3.inv0
    obtain ⟨t1, rfl⟩ := a1.isTxt
    obtain ⟨t2, rfl⟩ := a2.isTxt
    obtain ⟨t3, rfl⟩ := a3.isTxt
    repeat k_data
    have e : ([nmS i, nmS j].any (· == Str.ofString "*")) = false := by simp [nm_star hf.1, nm_star hf.2]
    refine kpK' hK (by k_is) (W.callOp (b' := b + 5) (make_fields2 e hK) (by omega) hL fun v' H1 q hL1 => ?_)
    obtain ⟨p, rfl, hs, hp⟩ := q
    repeat k_data
    exact ⟨p, rfl, hs, _, _, hp⟩
  | place n =>
    obtain ⟨v1, ws1, rfl, a1, w1⟩ := hw.inv1
    obtain ⟨v2, ws2, rfl, a2, w2⟩ := w1.inv1
    obtain rfl := w2.inv0
    obtain ⟨t1, rfl⟩ := a1.isTxt
    obtain ⟨t2, rfl⟩ := a2.isNum
    repeat k_data
    refine kpK' hK (by k_is) (W.callOp (b' := b + 5) (make_index1 hK) (by omega) hL fun v' H1 q hL1 => ?_)
    obtain ⟨p, rfl, hs, hp⟩ := q
    repeat k_data
    exact ⟨p, rfl, hs, _, hp⟩
  | slice x y z =>
    obtain ⟨v1, ws1, rfl, a1, w1⟩ := hw.inv1
    obtain ⟨v2, ws2, rfl, a2, w2⟩ := w1.inv1
    obtain ⟨v3, ws3, rfl, a3, w3⟩ := w2.inv1
    obtain ⟨v4, ws4, rfl, a4, w4⟩ := w3.inv1
    obtain rfl := w4.inv0
    obtain ⟨t1, rfl⟩ := a1.isTxt
    repeat k_data
    refine kpK' hK (by k_is) (W.callOp (b' := b + 13) (make_slice3 hK a2.isOpt a3.isOpt a4.isOpt) (by omega) hL fun v' H1 q hL1 => ?_)
    obtain ⟨p, rfl, hs, hp⟩ := q
    repeat k_data
    exact ⟨p, rfl, hs, hp⟩
  | any =>
    obtain ⟨v1, ws1, rfl, a1, w1⟩ := hw.inv1
    obtain rfl := w1.inv0
    obtain ⟨t1, rfl⟩ := a1.isTxt
    repeat k_data
    refine kpK' hK (by k_is) (W.callOp (b' := b) (make_wild hK) (by omega) hL fun v' H1 q hL1 => ?_)
    obtain ⟨p, rfl, hs, hp⟩ := q
    repeat k_data
    exact ⟨p, rfl, hs, hp⟩
end
section
variable {C : Cx} {b : Nat} {H : AH}
/-- these are tuples of these steps -/
def StepsV (σ : AH) (us : List Value) (ss : List St) : Prop := us.length = ss.length ∧ ∀ (j : Nat) u s, us[j]? = some u → ss[j]? = some s → ∃ T : Addr, u = .ref T ∧ StepT σ T s
theorem StepsV.sub {σ σ' : AH} {us : List Value} {ss : List St} (h : StepsV σ us ss) (k : Sub σ σ') : StepsV σ' us ss := ⟨h.1, fun j u s e1 e2 => let ⟨T, q1, q2⟩ := h.2 j u s e1 e2; ⟨T, q1, q2.sub k⟩⟩
theorem StepsV.drop {σ : AH} {us : List Value} {ss : List St} (h : StepsV σ us ss) (n : Nat) : StepsV σ (us.drop n) (ss.drop n) := ⟨by simp [h.1], fun j u s e1 e2 => by
  rw [List.getElem?_drop] at e1 e2; exact h.2 _ u s e1 e2⟩
theorem StepsV.take {σ : AH} {us : List Value} {ss : List St} (h : StepsV σ us ss) (n : Nat) : StepsV σ (us.take n) (ss.take n) := ⟨by simp [h.1], fun j u s e1 e2 => by
  have h1 : us[j]? = some u := by
    rw [List.getElem?_take] at e1; split at e1
    · exact e1
    · cases e1
  have h2 : ss[j]? = some s := by
    rw [List.getElem?_take] at e2; split at e2
    · exact e2
    · cases e2
  exact h.2 j u s h1 h2⟩
theorem StepsV.at_ {σ : AH} {us : List Value} {ss : List St} (h : StepsV σ us ss) {j : Nat} (hj : j < ss.length) : ∃ T : Addr, us[j]? = some (.ref T) ∧ StepT σ T ss[j] := by
  have hj' : j < us.length := by rw [h.1]; exact hj
  obtain ⟨T, e1, e2⟩ := h.2 j us[j] ss[j] (by simp) (by simp)
  exact ⟨T, by rw [List.getElem?_eq_getElem hj', e1], e2⟩
theorem law_path_left (hK : C.K = hd.heap_39 C.w.params) : ∀ (n : Nat) (H : AH) (l : Addr) (us : List Value) (ss : List St), ss.length = n + 1 → n < 10 → H l = some (.lst us) → StepsV H us ss → (∀ s ∈ ss, s.fine) →
    WCall C (b + (20 * n + 40)) (.ref 955) [.ref l, .bool false] [] H (fun r H' => ∃ p, r = .ref p ∧ Sub H H' ∧ LeftAt H' p ss) := by
  intro n
  induction n with
  | zero =>
    intro H l us ss hn hn9 hl hv hf
    obtain ⟨s0, rfl⟩ : ∃ s, ss = [s] := by
      match ss, hn with
      | [s], _ => exact ⟨s, rfl⟩
    obtain ⟨T, e1, e2⟩ := hv.at_ (j := 0) (by simp)
    have hz : us.length = 1 := by rw [hv.1, hn]
    refine WK.fn0 (b := b + 38) (binds := [(Str.ofString "steps", .ref l), (Str.ofString "other", .bool false)]) (mm := [(Str.ofString "other", .bool false), (Str.ofString "steps", .ref l)]) (by rw [hK]; k_is) (by rw [hK]; k_is) rfl (by dsimp only) (by dsimp only) (by dsimp only) rfl rfl rfl rfl fun L hL => ?_
    repeat k_data
    rw [hz]
    repeat k_data
    refine W.itemList (AH.set_new hL hl) (by decide) (by decide) (x := .ref T) e1 ?_
    repeat k_data
    refine kpK' hK (by k_is) (W.callOp (b' := b + 30) (law_made hK e2 (hf _ (by simp))) (by omega) hL fun v' H1 q hL1 => ?_)
    obtain ⟨p, rfl, hs, hp⟩ := q
    repeat k_data
    exact ⟨p, rfl, hs, .one hp⟩
  | succ n ih =>
    intro H l us ss0 hn hn9 hl hv hf
    obtain ⟨ss, s1, rfl⟩ : ∃ ss s1, ss0 = ss ++ [s1] := by
      rcases ss0.eq_nil_or_concat with rfl | ⟨ss, s1, h⟩
      · simp at hn
      · exact ⟨ss, s1, by rw [h, List.concat_eq_append]⟩
    have hn1 : ss.length = n + 1 := by simpa using hn
    have hvt : StepsV H (us.take (n + 1)) ss := by
      have := hv.take (n + 1)
      have e : (ss ++ [s1]).take (n + 1) = ss := by rw [← hn1]; simp
      rwa [e] at this
    have hz : us.length = n + 2 := by rw [hv.1, hn]
    refine WK.fn0 (b := b + (20 * (n + 1) + 38)) (binds := [(Str.ofString "steps", .ref l), (Str.ofString "other", .bool false)]) (mm := [(Str.ofString "other", .bool false), (Str.ofString "steps", .ref l)]) (by rw [hK]; k_is) (by rw [hK]; k_is) rfl (by dsimp only) (by dsimp only) (by dsimp only) rfl rfl rfl rfl fun L hL => ?_
    repeat k_data
    refine ⟨fun e0 => ?_, fun e0 => ?_⟩
    · rw [hz] at e0; simp at e0; omega
    · repeat k_data
      intro sl hsl
      have slL : sl ≠ L := AH.none_ne hsl
      have hsl1 := AH.none_in hsl
      rw [AH.set_comm slL.symm]
      rename_i tk
      have hL1 : (H.set sl (sliceO .none (.int (-1) tk) .none)) L = none := by rw [AH.set_ne slL.symm]; exact hL
      have hl1 : (H.set sl (sliceO .none (.int (-1) tk) .none)) l = some (.lst us) := AH.set_new hsl1 hl
      refine subLst (l := l) (vs := us) (AH.set_new hL1 hl1) ?_
      refine W.op hL1 (W.pick (xs := us) (lo := none) (hi := some (-1)) (st := none) hl1 AH.set_self (by constructor) (by constructor) (by constructor) (by decide) (fun D hD hL2 => ?_) (by omega)) trivial
      have hpk : (slicePick us.toArray none (some (-1)) none).toList = us.take (n + 1) := by
        have := slicePick_butLast us.toArray 1 (by omega)
        rw [show (some (-1) : Option Int) = some (-((1 : Nat) : Int)) from rfl, this]
        simp [hz]
      rw [hpk] at hL2 ⊢
      have hs2 : Sub H ((H.set sl (sliceO .none (.int (-1) tk) .none)).set D (.lst (us.take (n + 1)))) := (Sub.set hsl1).trans (Sub.set hD)
      have hD2 : ((H.set sl (sliceO .none (.int (-1) tk) .none)).set D (.lst (us.take (n + 1)))) D = some (.lst (us.take (n + 1))) := AH.set_self
      generalize (H.set sl (sliceO .none (.int (-1) tk) .none)).set D (.lst (us.take (n + 1))) = H2 at *
      repeat k_data
      refine kpK' hK (by k_is) (W.callOp (b' := b + (20 * n + 40)) (ih H2 D (us.take (n + 1)) ss hn1 (by omega) hD2 (hvt.sub hs2) (fun s hs => hf s (List.mem_append_left _ hs))) (by omega) hL2 fun v' H3 q hL3 => ?_)
      obtain ⟨pl, rfl, hs3, hpl⟩ := q
      repeat k_data
      obtain ⟨T, e1, e2⟩ := hv.at_ (j := n + 1) (by omega)
      have es : (ss ++ [s1])[n + 1]'(by omega) = s1 := by rw [List.getElem_append_right (by omega)]; simp
      rw [es] at e2
      refine W.itemListNeg (AH.set_new hL3 (hs3 _ _ (hs2 _ _ hl))) (by decide) (by omega) (by decide) (x := .ref T) (by rw [hz, show ((-1 : Int) + ((n + 2 : Nat) : Int)).toNat = n + 1 by omega]; exact e1) ?_
      repeat k_data
      refine kpK' hK (by k_is) (W.callOp (b' := b + 30) (law_made hK ((e2.sub hs2).sub hs3) (hf _ (by simp))) (by omega) hL3 fun v' H4 q hL4 => ?_)
      obtain ⟨pr, rfl, hs4, hpr⟩ := q
      repeat k_data
      refine kpK' hK (by k_is) (W.callOp (b' := b + 5) (make_child hK) (by omega) hL4 fun v' H5 q hL5 => ?_)
      obtain ⟨a, rfl, hs5, ha⟩ := q
      repeat k_data
      refine ⟨a, rfl, ((hs2.trans hs3).trans hs4).trans hs5, ?_⟩
      exact .more ((hpl.sub hs4).sub hs5) (hpr.sub hs5) ha
theorem law_path_right (hK : C.K = hd.heap_39 C.w.params) : ∀ (n : Nat) (H : AH) (l : Addr) (us : List Value) (ss : List St), ss.length = n + 1 → n < 10 → H l = some (.lst us) → StepsV H us ss → (∀ s ∈ ss, s.fine) →
    WCall C (b + (20 * n + 40)) (.ref 955) [.ref l, .bool true] [] H (fun r H' => ∃ p, r = .ref p ∧ Sub H H' ∧ PathAt H' p ss) := by
  intro n
  induction n with
  | zero =>
    intro H l us ss hn hn9 hl hv hf
    obtain ⟨s0, rfl⟩ : ∃ s, ss = [s] := by
      match ss, hn with
      | [s], _ => exact ⟨s, rfl⟩
    obtain ⟨T, e1, e2⟩ := hv.at_ (j := 0) (by simp)
    have hz : us.length = 1 := by rw [hv.1, hn]
    refine WK.fn0 (b := b + 38) (binds := [(Str.ofString "steps", .ref l), (Str.ofString "other", .bool true)]) (mm := [(Str.ofString "other", .bool true), (Str.ofString "steps", .ref l)]) (by rw [hK]; k_is) (by rw [hK]; k_is) rfl (by dsimp only) (by dsimp only) (by dsimp only) rfl rfl rfl rfl fun L hL => ?_
    repeat k_data
    rw [hz]
    repeat k_data
    refine W.itemList (AH.set_new hL hl) (by decide) (by decide) (x := .ref T) e1 ?_
    repeat k_data
    refine kpK' hK (by k_is) (W.callOp (b' := b + 30) (law_made hK e2 (hf _ (by simp))) (by omega) hL fun v' H1 q hL1 => ?_)
    obtain ⟨p, rfl, hs, hp⟩ := q
    repeat k_data
    exact ⟨p, rfl, hs, .one hp⟩
  | succ n ih =>
    intro H l us ss0 hn hn9 hl hv hf
    obtain ⟨s1, ss, rfl⟩ : ∃ s1 ss, ss0 = s1 :: ss := by
      match ss0, hn with
      | s :: ss, _ => exact ⟨s, ss, rfl⟩
    have hn1 : ss.length = n + 1 := by simpa using hn
    have hvt : StepsV H (us.drop 1) ss := hv.drop 1
    have hz : us.length = n + 2 := by rw [hv.1, hn]
    refine WK.fn0 (b := b + (20 * (n + 1) + 38)) (binds := [(Str.ofString "steps", .ref l), (Str.ofString "other", .bool true)]) (mm := [(Str.ofString "other", .bool true), (Str.ofString "steps", .ref l)]) (by rw [hK]; k_is) (by rw [hK]; k_is) rfl (by dsimp only) (by dsimp only) (by dsimp only) rfl rfl rfl rfl fun L hL => ?_
    repeat k_data
    refine ⟨fun e0 => ?_, fun e0 => ?_⟩
    · rw [hz] at e0; simp at e0; omega
    · repeat k_data
      obtain ⟨T, e1, e2⟩ := hv.at_ (j := 0) (by simp)
      refine W.itemList (AH.set_new hL hl) (by decide) (by decide) (x := .ref T) e1 ?_
      repeat k_data
      refine kpK' hK (by k_is) (W.callOp (b' := b + 30) (law_made hK e2 (hf _ (by simp))) (by omega) hL fun v' H1 q hL0 => ?_)
      obtain ⟨pr, rfl, hs1, hpr⟩ := q
      repeat k_data
      intro sl hsl
      have slL : sl ≠ L := AH.none_ne hsl
      have hsl1 := AH.none_in hsl
      rw [AH.set_comm slL.symm]
      rename_i tk
      have hL1 : (H1.set sl (sliceO (.int 1 tk) .none .none)) L = none := by rw [AH.set_ne slL.symm]; exact hL0
      have hl1 : (H1.set sl (sliceO (.int 1 tk) .none .none)) l = some (.lst us) := AH.set_new hsl1 (hs1 _ _ hl)
      refine subLst (l := l) (vs := us) (AH.set_new hL1 hl1) ?_
      refine W.op hL1 (W.pick (xs := us) (lo := some 1) (hi := none) (st := none) hl1 AH.set_self (by constructor) (by constructor) (by constructor) (by decide) (fun D hD hL2 => ?_) (by omega)) trivial
      have hpk : (slicePick us.toArray (some 1) none none).toList = us.drop 1 := by
        have := slicePick_from' us.toArray 1
        rw [show (some 1 : Option Int) = some ((1 : Nat) : Int) from rfl, this]
      rw [hpk] at hL2 ⊢
      have hs2 : Sub H1 ((H1.set sl (sliceO (.int 1 tk) .none .none)).set D (.lst (us.drop 1))) := (Sub.set hsl1).trans (Sub.set hD)
      have hD2 : ((H1.set sl (sliceO (.int 1 tk) .none .none)).set D (.lst (us.drop 1))) D = some (.lst (us.drop 1)) := AH.set_self
      generalize (H1.set sl (sliceO (.int 1 tk) .none .none)).set D (.lst (us.drop 1)) = H2 at *
      repeat k_data
      refine kpK' hK (by k_is) (W.callOp (b' := b + (20 * n + 40)) (ih H2 D (us.drop 1) ss hn1 (by omega) hD2 ((hvt.sub hs1).sub hs2) (fun s hs => hf s (List.mem_cons_of_mem _ hs))) (by omega) hL2 fun v' H3 q hL3 => ?_)
      obtain ⟨pl, rfl, hs3, hpl⟩ := q
      repeat k_data
      refine kpK' hK (by k_is) (W.callOp (b' := b + 5) (make_child hK) (by omega) hL3 fun v' H5 q hL5 => ?_)
      obtain ⟨a, rfl, hs5, ha⟩ := q
      repeat k_data
      exact ⟨a, rfl, ((hs1.trans hs2).trans hs3).trans hs5, .two (.one (((hpr.sub hs2).sub hs3).sub hs5)) (hpl.sub hs5) ha⟩
end
section
-- a name's value, without looking into the names
local macro_rules | `(tactic| lcg_calm) => `(tactic| first
  | with_reducible exact lookHere
  | with_reducible assumption
  | (refine' lookThere ?h1 ?h2; (case h1 => kernel_rfl); (case h2 => lcg_calm)))
variable {C : Cx} {b : Nat} {H : AH}
theorem pick_upto (xs : List Value) : (slicePick xs.toArray none (some 60) none).toList = xs.take 60 := by
  have := slicePick_upto' xs.toArray 60
  rw [show (some 60 : Option Int) = some ((60 : Nat) : Int) from rfl, this]
theorem uptoBase {H : AH} {L A : Addr} {o : AO} {xs : List Value} {tk : Tok} {X : Value → AH → Prop} {Q : Value → AH → Prop} (hL : H L = none) (ho : o.fr) (hA : C.h₁.IsList A xs.toArray) (hz : xs.length ≤ 900) (h : ∀ a D, H a = none → (H.set a (sliceO .none (.int 60 tk) .none)) D = none → (((H.set a (sliceO .none (.int 60 tk) .none)).set D (.lst (xs.take 60)))) L = none → Q (.ref D) (((H.set a (sliceO .none (.int 60 tk) .none)).set D (.lst (xs.take 60))).set L o)) :
    ∀ a, (H.set L o) a = none → Value.ref A = Value.ref A ∧ W C b (getItem (.ref A) (.ref a)) ((H.set L o).set a (sliceO .none (.int 60 tk) .none)) Q X := by
  intro a ha
  have haL : a ≠ L := AH.none_ne ha
  have ha2 : H a = none := AH.none_in ha
  rw [AH.set_comm haL.symm]
  have hL4 : (H.set a (sliceO .none (.int 60 tk) .none)) L = none := by rw [AH.set_ne (Ne.symm haL)]; exact hL
  refine ⟨rfl, W.op hL4 (W.pickBase (xs := xs.toArray) (lo := none) (hi := some 60) (st := none) hA AH.set_self (by constructor) (by constructor) (by constructor) (by decide) (fun D hD hL5 => ?_) (by simp; omega)) ho⟩
  rw [pick_upto] at hL5 ⊢
  exact h a D ha2 hD hL5
theorem ints_take {xs : List Int} {vs : List Value} (h : intsAre xs vs) (n : Nat) : intsAre (xs.take n) (vs.take n) := by
  refine ⟨by simp [h.1], fun i m e => ?_⟩
  rw [List.getElem?_take] at e
  split at e
  · rename_i hi
    obtain ⟨t, e'⟩ := h.2 i m e
    exact ⟨t, by rw [List.getElem?_take, if_pos hi]; exact e'⟩
  · cases e
def RowIs (σ : AH) (v : Value) (ss : List St) : Prop := ∃ l us, v = .ref l ∧ σ l = some (.lst us) ∧ StepsV σ us ss
theorem RowIs.sub {σ σ' : AH} {v : Value} {ss : List St} (h : RowIs σ v ss) (k : Sub σ σ') : RowIs σ' v ss := let ⟨l, us, e, h1, h2⟩ := h; ⟨l, us, e, k _ _ h1, h2.sub k⟩
def RowFine (ss : List St) : Prop := (∀ s ∈ ss, s.fine) ∧ 1 ≤ ss.length ∧ ss.length ≤ 3
structure RowsAre (σ : AH) (ys : List Value) (rss : List (List St)) : Prop where
  len : ys.length = rss.length
  each : ∀ (j : Nat) y ss, ys[j]? = some y → rss[j]? = some ss → RowIs σ y ss
  fine : ∀ ss ∈ rss, RowFine ss
theorem RowsAre.sub {σ σ' : AH} {ys : List Value} {rss : List (List St)} (h : RowsAre σ ys rss) (k : Sub σ σ') : RowsAre σ' ys rss := ⟨h.len, fun j y ss e1 e2 => (h.each j y ss e1 e2).sub k, h.fine⟩
theorem RowsAre.nil {σ : AH} : RowsAre σ [] [] := ⟨rfl, fun j y ss e => by simp at e, by simp⟩
theorem RowsAre.snoc {σ : AH} {ys : List Value} {rss : List (List St)} {y : Value} {ss : List St} (h : RowsAre σ ys rss) (h1 : RowIs σ y ss) (h2 : RowFine ss) : RowsAre σ (ys ++ [y]) (rss ++ [ss]) := by
  refine ⟨by simp [h.len], fun j y' ss' e1 e2 => ?_, fun s hs => ?_⟩
  · rcases Nat.lt_or_ge j ys.length with q | q
    · rw [List.getElem?_append_left q] at e1
      rw [List.getElem?_append_left (by rw [← h.len]; exact q)] at e2
      exact h.each j y' ss' e1 e2
    · rw [List.getElem?_append_right q] at e1
      rw [List.getElem?_append_right (by rw [← h.len]; exact q), ← h.len] at e2
      have hj : j - ys.length = 0 := by
        have := (List.getElem?_eq_some_iff.mp e1).1
        simp at this; omega
      rw [hj] at e1 e2
      simp at e1 e2
      subst e1 e2
      exact h1
  · rcases List.mem_append.mp hs with q | q
    · exact h.fine s q
    · simp at q; subst q; exact h2
theorem StepsV.nil {σ : AH} : StepsV σ [] [] := ⟨rfl, fun j y ss e => by simp at e⟩
theorem StepsV.snoc {σ : AH} {us : List Value} {ss : List St} {T : Addr} {s : St} (h : StepsV σ us ss) (h1 : StepT σ T s) : StepsV σ (us ++ [.ref T]) (ss ++ [s]) := by
  refine ⟨by simp [h.1], fun j y' ss' e1 e2 => ?_⟩
  rcases Nat.lt_or_ge j us.length with q | q
  · rw [List.getElem?_append_left q] at e1
    rw [List.getElem?_append_left (by rw [← h.1]; exact q)] at e2
    exact h.2 j y' ss' e1 e2
  · rw [List.getElem?_append_right q] at e1
    rw [List.getElem?_append_right (by rw [← h.1]; exact q), ← h.1] at e2
    have hj : j - us.length = 0 := by
      have := (List.getElem?_eq_some_iff.mp e1).1
      simp at this; omega
    rw [hj] at e1 e2
    simp at e1 e2
    subst e1 e2
    exact ⟨T, rfl, h1⟩
end
section
-- a name's value, without looking into the names
local macro_rules | `(tactic| lcg_calm) => `(tactic| first
  | with_reducible exact lookHere
  | with_reducible assumption
  | (refine' lookThere ?h1 ?h2; (case h1 => kernel_rfl); (case h2 => lcg_calm)))
variable {C : Cx} {b : Nat} {H : AH}
/-- the code of a def is the one that is read -/
theorem fixCode {K : Frag} {f : Addr} {oc oc' : Value} {od od' : Option Addr} {osl osl' : Array (Option Value)} {fd fd' : FuncData} {bd bd' : List Stmt} {P : Scope → List Stmt → Prop} (h1 : K.lookup f = some ⟨oc, od, .func fd, osl⟩) (h2 : fd.body = .stmts bd)
    (g1 : K.lookup f = some ⟨oc', od', .func fd', osl'⟩) (g2 : fd'.body = .stmts bd') (h : P fd'.scope bd') : P fd.scope bd := by
  rw [h1] at g1; cases g1; rw [h2] at g2; cases g2; exact h
/-- [elt for x in list], each value by itself -/
theorem CompAt.each {elt target : Expr} {scope : Scope} {cs : List (Str × Addr)} {env : Env} {F : Value → AH → Prop} {V0 : AH} {us : List Value} {D I : Addr} (ht : goodTarget target = true) (hD : V0 D = some (.lst us)) (hI : V0 I = none) (hz : us.length ≤ 10000) (R : AH → Nat → Value → Prop) (hR : ∀ σ σ' j v, R σ j v → Sub σ σ' → R σ' j v)
    (step : ∀ L' i H' m u, us[i]? = some u → Sub V0 H' → H' L' = none → W C b (assign target (compEnvC scope cs L' env) u) (H'.set L' (.ns "dict" m)) (fun _ σ₁ => W C b (eval elt (compEnvC scope cs L' env)) σ₁ (fun v σ₃ => ∃ H'' m', σ₃ = AH.set H'' L' (.ns "dict" m') ∧ H'' L' = none ∧ Sub H' H'' ∧ R H'' i v) noX) noX)
    (fin : ∀ D' zs H', Sub V0 H' → zs.length = us.length → (∀ j v, zs[j]? = some v → R H' j v) → H' D' = none → F (.ref D') (H'.set D' (.lst zs))) : CompAt C b elt target [] scope cs env F (.ref I) (V0.set I (listIt D 0)) := by
  refine CompAt.single (H₀ := V0) (fun L' => Src.list (vs := us) (l := D) ht) ⟨hI, rfl⟩ (fun i zs H' => Sub V0 H' ∧ zs.length = i ∧ i ≤ us.length ∧ ∀ j v, zs[j]? = some v → R H' j v) ⟨.refl _, rfl, Nat.zero_le _, fun j v e => by simp at e⟩ (fun i ys H' q => ?_) (fun L' i ys H' m v hiN hv q hL' => ?_) (fun D' ys H' q hD' => ?_)
  · obtain ⟨q1, q2, q3, q4⟩ := q
    exact ⟨q1 _ _ hD, by omega⟩
  · obtain ⟨q1, q2, q3, q4⟩ := q
    refine W.mono (step L' i H' m v hv q1 hL') (fun _ σ₁ q => W.tests_nil ⟨fun h => (by cases h), fun _ => W.mono q (fun w σ₃ q => ?_) fun _ _ x => x⟩) fun _ _ x => x
    obtain ⟨H'', m', rfl, g1, g2, g3⟩ := q
    refine ⟨H'', m', rfl, g1, q1.trans g2, by simp [q2], hiN, fun j v' e => ?_⟩
    rcases Nat.lt_or_ge j ys.length with h | h
    · rw [List.getElem?_append_left h] at e
      exact hR _ _ _ _ (q4 j v' e) g2
    · rw [List.getElem?_append_right h] at e
      have hj : j - ys.length = 0 := by
        have := (List.getElem?_eq_some_iff.mp e).1
        simp at this; omega
      rw [hj] at e; simp at e; subst e
      rw [show j = i by omega]; exact g3
  · obtain ⟨q1, q2, q3, q4⟩ := q
    exact fin D' ys H' q1 q2 q4 hD'
def IsLeft (rss : List (List St)) (σ : AH) (j : Nat) (v : Value) : Prop := ∃ p ss, v = .ref p ∧ rss[j]? = some ss ∧ LeftAt σ p ss
def IsText (rss : List (List St)) (j : Nat) (v : Value) : Prop := ∃ t ss, v = .str (txt (pathT ss)) t ∧ rss[j]? = some ss
/-- paths and texts -/
theorem law_seg1 {S0 : Addr} {fd : FuncData} {bd : List Stmt} {oc : Value} {od : Option Addr} {osl : Array (Option Value)} {L c c1 c2 c3 D : Addr} {V : AH} {ys : List Value} {rss : List (List St)} {Q : Flow → AH → Prop}
    (hK : C.K = hd.heap_39 C.w.params) (hG : Gens C 797 793) (ho : C.K.lookup 960 = some ⟨oc, od, .func fd, osl⟩) (hbd : fd.body = .stmts bd)
    (hL : V L = none) (hD : V D = some (.lst ys)) (hr : RowsAre V ys rss) (hz : ys.length ≤ 10)
    (next : ∀ V' P T ps ts, Sub V V' → V' L = none → V' P = some (.lst ps) → V' T = some (.lst ts) → ps.length = ys.length → ts.length = ys.length → (∀ j v, ps[j]? = some v → IsLeft rss V' j v) → (∀ j v, ts[j]? = some v → IsText rss j v) →
      thenRest C (b + 498) (bd.drop 4) (fEnv fd.scope L [(Str.ofString "told", c3), (Str.ofString "wholes", c2), (Str.ofString "every", c1), (Str.ofString "state", c)] (Str.ofString "law" ++ Str.ofString ".<locals>.") 960 (.ref 959)) Q noX .next (V'.set L (.ns "frame" [(Str.ofString "texts", .ref T), (Str.ofString "paths", .ref P), (Str.ofString "rows", .ref D), (Str.ofString "script", .ref S0)]))) :
    thenRest C (b + 498) (bd.drop 2) (fEnv fd.scope L [(Str.ofString "told", c3), (Str.ofString "wholes", c2), (Str.ofString "every", c1), (Str.ofString "state", c)] (Str.ofString "law" ++ Str.ofString ".<locals>.") 960 (.ref 959)) Q noX .next (V.set L (.ns "frame" [(Str.ofString "rows", .ref D), (Str.ofString "script", .ref S0)])) := by
  revert next
  refine fixCode (P := fun sc bd => (∀ V' P T ps ts, Sub V V' → V' L = none → V' P = some (.lst ps) → V' T = some (.lst ts) → ps.length = ys.length → ts.length = ys.length → (∀ j v, ps[j]? = some v → IsLeft rss V' j v) → (∀ j v, ts[j]? = some v → IsText rss j v) →
      thenRest C (b + 498) (bd.drop 4) (fEnv sc L [(Str.ofString "told", c3), (Str.ofString "wholes", c2), (Str.ofString "every", c1), (Str.ofString "state", c)] (Str.ofString "law" ++ Str.ofString ".<locals>.") 960 (.ref 959)) Q noX .next (V'.set L (.ns "frame" [(Str.ofString "texts", .ref T), (Str.ofString "paths", .ref P), (Str.ofString "rows", .ref D), (Str.ofString "script", .ref S0)]))) →
    thenRest C (b + 498) (bd.drop 2) (fEnv sc L [(Str.ofString "told", c3), (Str.ofString "wholes", c2), (Str.ofString "every", c1), (Str.ofString "state", c)] (Str.ofString "law" ++ Str.ofString ".<locals>.") 960 (.ref 959)) Q noX .next (V.set L (.ns "frame" [(Str.ofString "rows", .ref D), (Str.ofString "script", .ref S0)]))) ho hbd (by rw [hK]; k_is) rfl ?_
  intro next
  simp only [List.drop_succ_cons, List.drop_zero] at next ⊢
  repeat k_data
  refine W.sAssignComp (cs := []) (by with_unfolding_all rfl) (by intro _; rfl) (by with_unfolding_all rfl) rfl (by decide) rfl (by rfl) (by rfl) ?_
  repeat k_data
  refine ⟨_, _, _, rfl, hL, W.iterList hD fun I hI => ?_⟩
  refine CompAt.each rfl hD hI (by omega) (IsLeft rss) (fun σ σ' j v h k => let ⟨p, ss, e, h1, h2⟩ := h; ⟨p, ss, e, h1, h2.sub k⟩) (fun L' i H' m u hu hs hL' => ?_) (fun P ps H' hs hlen hall hP => ?_)
  · have hi : i < rss.length := by rw [← hr.len]; exact (List.getElem?_eq_some_iff.mp hu).1
    obtain ⟨l, vs, rfl, h1, h2⟩ := hr.each i u _ hu (List.getElem?_eq_getElem hi)
    have hf := hr.fine _ (List.getElem_mem hi)
    have hg := List.getElem?_eq_getElem hi
    generalize rss[i] = ss at *
    have hn : ss.length = (ss.length - 1) + 1 := by have := hf.2.1; omega
    have hn2 := hf.2.2
    repeat k_data
    refine kpK' hK (by k_is) (W.op hL' (W.call_ (WK.more (WK.mono (law_path_left (b := b) hK _ H' l vs ss hn (by omega) (hs _ _ h1) (h2.sub hs) hf.1) fun f τ q => ?_) (by omega))) trivial)
    obtain ⟨_, rfl, p, rfl, k1, k2⟩ := q
    exact ⟨_, rfl, fun hL2 => ⟨_, _, rfl, hL2, k1, p, ss, rfl, hg, k2⟩⟩
  · intro hL2
    have hP1 : (H'.set P (.lst ps)) P = some (.lst ps) := AH.set_self
    have hs1 : Sub V (H'.set P (.lst ps)) := hs.trans (Sub.set hP)
    have hall1 : ∀ j v, ps[j]? = some v → IsLeft rss (H'.set P (.lst ps)) j v := fun j v e => by
      obtain ⟨p, ss, e, h1, h2⟩ := hall j v e
      exact ⟨p, ss, e, h1, h2.sub (Sub.set hP)⟩
    clear hI hP hall hs
    generalize H'.set P (.lst ps) = V1 at *
    repeat k_data
    refine W.sAssignComp (cs := []) (by with_unfolding_all rfl) (by intro _; rfl) (by with_unfolding_all rfl) rfl (by decide) rfl (by rfl) (by rfl) ?_
    repeat k_data
    refine ⟨_, _, _, rfl, hL2, W.iterList hP1 fun I hI => ?_⟩
    refine CompAt.each rfl hP1 hI (by omega) (fun _ j v => IsText rss j v) (fun σ σ' j v h k => h) (fun L' i H' m u hu hs hL' => ?_) (fun T ts H' hs hlen2 hall2 hT => ?_)
    · obtain ⟨p, ss, rfl, hg, h2⟩ := hall1 i u hu
      have hf := hr.fine _ (List.mem_of_getElem? hg)
      have hn2 := hf.2.2
      repeat k_data
      refine W.strShows ((h2.sub hs).path.shows hK hG hf.1 (by omega)) (by omega) hL' trivial fun t1 H1 hs1 hL1 => ?_
      exact ⟨_, _, rfl, hL1, hs1, t1, ss, rfl, hg⟩
    · intro hL3
      exact next _ P T ps ts (hs1.trans (hs.trans (Sub.set hT))) hL3 ((hs.trans (Sub.set hT)) _ _ hP1) AH.set_self hlen (by rw [hlen2, hlen]) (fun j v e => by
        obtain ⟨p, ss, e, h1, h2⟩ := hall1 j v e
        exact ⟨p, ss, e, h1, h2.sub (hs.trans (Sub.set hT))⟩) hall2
end
section
-- a name's value, without looking into the names
local macro_rules | `(tactic| lcg_calm) => `(tactic| first
  | with_reducible exact lookHere
  | with_reducible assumption
  | (refine' lookThere ?h1 ?h2; (case h1 => kernel_rfl); (case h2 => lcg_calm)))
variable {C : Cx} {b : Nat} {H : AH}
theorem optA_inj {x y : Option Int} (h : optA x = optA y) : x = y := by
  cases x <;> cases y <;> simp [optA] at h ⊢
  exact h
theorem atoms_inj {s t : St} (hs : s.fine) (ht : t.fine) (h : s.atoms = t.atoms) : s = t := by
  have n1 : Str.ofString "name" ≠ Str.ofString "names" := by decide +kernel
  cases s <;> cases t <;> simp only [St.atoms, List.cons.injEq, At1.txt.injEq, At1.num.injEq, and_true, List.nil_eq, reduceCtorEq, and_false, false_and, List.cons_ne_nil] at h <;> try (first | rfl | exact absurd h.1 (by decide +kernel) | exact h.elim)
  · rw [(nm_inj hs ht).mp h.2]
  · rw [(nm_inj hs.1 ht.1).mp h.2.1, (nm_inj hs.2 ht.2).mp h.2.2]
  · rw [h.2]
  · rw [optA_inj h.2.1, optA_inj h.2.2.1, optA_inj h.2.2.2]
theorem rows_inj : ∀ {ss ts : List St}, (∀ s ∈ ss, s.fine) → (∀ s ∈ ts, s.fine) → ss.map St.atoms = ts.map St.atoms → ss = ts
  | [], [], _, _, _ => rfl
  | [], _ :: _, _, _, h => by simp at h
  | _ :: _, [], _, _, h => by simp at h
  | s :: ss, t :: ts, h1, h2, h => by
    simp only [List.map_cons, List.cons.injEq] at h
    rw [atoms_inj (h1 s (by simp)) (h2 t (by simp)) h.1, rows_inj (fun x hx => h1 x (by simp [hx])) (fun x hx => h2 x (by simp [hx])) h.2]
theorem RowIs.rowAt {σ : AH} {v : Value} {ss : List St} (h : RowIs σ v ss) : RowAt σ v (ss.map St.atoms) := by
  obtain ⟨l, us, e, h1, h2⟩ := h
  refine ⟨l, us, e, h1, by simp [h2.1], fun j u as e1 e2 => ?_⟩
  rw [List.getElem?_map] at e2
  cases hs : ss[j]? with
  | none => rw [hs] at e2; cases e2
  | some s =>
    rw [hs] at e2; cases e2
    obtain ⟨T, q1, ws, q2, q3⟩ := h2.2 j u s e1 hs
    exact ⟨T, ws, q1, q2, q3⟩
theorem tell_same {ss ts : List St} (h1 : RowFine ss) (h2 : RowFine ts) : (txt (pathT ss) == txt (pathT ts)) = decide (ss = ts) := by
  rw [Bool.eq_iff_iff, beq_iff_eq, decide_eq_true_iff]
  constructor
  · intro h
    exact pathT_inj (fun e => by have := h1.2.1; rw [e] at this; simp at this) (fun e => by have := h2.2.1; rw [e] at this; simp at this) h1.1 h2.1 (txt_inj h)
  · intro h; rw [h]
theorem rows_same {ss ts : List St} (h1 : RowFine ss) (h2 : RowFine ts) : decide (ss.map St.atoms = ts.map St.atoms) = decide (ss = ts) := by
  rw [decide_eq_decide]
  exact ⟨rows_inj h1.1 h2.1, fun h => by rw [h]⟩
/-- the paths tell what they are and differ as their rows do -/
theorem law_seg2 {fd : FuncData} {bd : List Stmt} {oc : Value} {od : Option Addr} {osl : Array (Option Value)} {L c c1 c2 c3 D P T : Addr} {V : AH} {ys ps ts : List Value} {rss : List (List St)} {m : List (Str × Value)} {Q : Flow → AH → Prop}
    (hK : C.K = hd.heap_39 C.w.params) (hG : Gens C 797 793) (ho : C.K.lookup 960 = some ⟨oc, od, .func fd, osl⟩) (hbd : fd.body = .stmts bd)
    (hL : V L = none) (hD : V D = some (.lst ys)) (hr : RowsAre V ys rss) (hz : ys.length ≤ 10)
    (hP : V P = some (.lst ps)) (hT : V T = some (.lst ts)) (lp : ps.length = ys.length) (lt : ts.length = ys.length) (ap : ∀ j v, ps[j]? = some v → IsLeft rss V j v) (at_ : ∀ j v, ts[j]? = some v → IsText rss j v)
    (hm1 : m.lookup (Str.ofString "rows") = some (.ref D)) (hm2 : m.lookup (Str.ofString "paths") = some (.ref P)) (hm3 : m.lookup (Str.ofString "texts") = some (.ref T))
    (next : ∀ V' m', Sub V V' → V' L = none →
      thenRest C (b + 498) (bd.drop 5) (fEnv fd.scope L [(Str.ofString "told", c3), (Str.ofString "wholes", c2), (Str.ofString "every", c1), (Str.ofString "state", c)] (Str.ofString "law" ++ Str.ofString ".<locals>.") 960 (.ref 959)) Q noX .next (V'.set L (.ns "frame" m'))) :
    thenRest C (b + 498) (bd.drop 4) (fEnv fd.scope L [(Str.ofString "told", c3), (Str.ofString "wholes", c2), (Str.ofString "every", c1), (Str.ofString "state", c)] (Str.ofString "law" ++ Str.ofString ".<locals>.") 960 (.ref 959)) Q noX .next (V.set L (.ns "frame" m)) := by
  revert next
  refine fixCode (P := fun sc bd => (∀ V' m', Sub V V' → V' L = none →
      thenRest C (b + 498) (bd.drop 5) (fEnv sc L [(Str.ofString "told", c3), (Str.ofString "wholes", c2), (Str.ofString "every", c1), (Str.ofString "state", c)] (Str.ofString "law" ++ Str.ofString ".<locals>.") 960 (.ref 959)) Q noX .next (V'.set L (.ns "frame" m'))) →
    thenRest C (b + 498) (bd.drop 4) (fEnv sc L [(Str.ofString "told", c3), (Str.ofString "wholes", c2), (Str.ofString "every", c1), (Str.ofString "state", c)] (Str.ofString "law" ++ Str.ofString ".<locals>.") 960 (.ref 959)) Q noX .next (V.set L (.ns "frame" m))) ho hbd (by rw [hK]; k_is) rfl ?_
  intro next
  simp only [List.drop_succ_cons, List.drop_zero] at next ⊢
  repeat k_data
  refine W.sFor (hs := by intro _; rfl) ?_
  repeat k_data
  refine W.op hL (W.callRange1 fun r hr0 hL1 => ?_) trivial
  have hs1 : Sub V (V.set r (rangeO 0 (ys.length : Int) 1)) := Sub.set hr0
  have hrr : (V.set r (rangeO 0 (ys.length : Int) 1)) r = some (rangeO 0 (ys.length : Int) 1) := AH.set_self
  generalize V.set r (rangeO 0 (ys.length : Int) 1) = V1 at *
  refine W.iterRange (AH.set_new hL1 hrr) (small_one (by omega) (by omega) (by omega) (by omega)) fun I hI => ?_
  rw [show Builtin.Range.rangeSize 0 (ys.length : Int) 1 = (ys.length : Int) from size_zero (by omega)]
  refine WK.forSrc (Src.range (x := 0) (step := 1) (n := ys.length) rfl) (fun k σ => ∃ H' m', σ = AH.set H' L (.ns "frame" m') ∧ H' L = none ∧ Sub V1 H' ∧ m'.lookup (Str.ofString "rows") = some (.ref D) ∧ m'.lookup (Str.ofString "paths") = some (.ref P) ∧ m'.lookup (Str.ofString "texts") = some (.ref T))
    (fun k σ q => trivial) (fun k σ v hk q hv => ?_) (fun σ q => ?_) ys.length 0 _ _ (by omega) ⟨hI, by simp⟩ ⟨V1, m, rfl, hL1, .refl _, hm1, hm2, hm3⟩
  · obtain ⟨H', m', rfl, hL2, hs2, n1, n2, n3⟩ := q
    obtain ⟨tv, rfl⟩ := hv
    rw [show (0 : Int) + (k : Int) * 1 = (k : Int) by omega]
    have hs := hs1.trans hs2
    have hkr : k < rss.length := by rw [← hr.len]; exact hk
    have hg := List.getElem?_eq_getElem hkr
    have hrow := hr.each k _ _ (List.getElem?_eq_getElem hk) hg
    have hf := hr.fine _ (List.getElem_mem hkr)
    generalize hss : rss[k] = ss at *
    have eks : ys[k]? = some ys[k] := List.getElem?_eq_getElem hk
    obtain ⟨l, us, el, h1, h2⟩ := hrow
    rw [el] at eks
    obtain ⟨p, ss1, ep, ep2, h3⟩ := ap k _ (List.getElem?_eq_getElem (by omega))
    rw [hg] at ep2; cases ep2
    have epk : ps[k]? = some (.ref p) := by rw [List.getElem?_eq_getElem (by omega), ep]
    obtain ⟨t0, ss1, et, et2⟩ := at_ k _ (List.getElem?_eq_getElem (by omega))
    rw [hg] at et2; cases et2
    have etk : ts[k]? = some (.str (txt (pathT ss)) t0) := by rw [List.getElem?_eq_getElem (by omega), et]
    have hn : ss.length = (ss.length - 1) + 1 := by have := hf.2.1; omega
    have hn2 := hf.2.2
    repeat k_data
    refine W.itemList (AH.set_new hL2 (hs _ _ hD)) (by omega) (by omega) (by simpa using eks) ?_
    repeat k_data
    refine kpK' hK (by k_is) (W.op hL2 (W.call_ (WK.more (WK.mono (law_path_right (b := b) hK _ H' l us ss hn (by omega) (hs _ _ h1) (h2.sub hs) hf.1) fun f τ q => ?_) (by omega))) trivial)
    obtain ⟨_, rfl, p', rfl, hs3, hp'⟩ := q
    refine ⟨_, rfl, fun hL3 => ?_⟩
    repeat k_data
    refine W.strShows (hp'.shows hK hG hf.1 (by omega)) (by omega) hL3 trivial fun t1 H2 hs4 hL4 => ?_
    replace hs4 := hs3.trans hs4
    repeat k_data
    refine W.itemList (AH.set_new hL4 ((hs.trans hs4) _ _ hT)) (by omega) (by omega) (by simpa using etk) ?_
    repeat k_data
    rw [show (txt (pathT ss) != txt (pathT ss)) = false by simp]
    repeat k_data
    refine kpK' hK (by k_is) (W.op hL4 (W.call_ (WK.mono (make_root (b := b + 498) hK) fun f τ q => ?_)) trivial)
    obtain ⟨_, rfl, a, rfl, hs5, ha⟩ := q
    refine ⟨_, rfl, fun hL5 => ?_⟩
    repeat k_data
    refine top_meth hK (.inr (ha.set hL5)) ?_
    repeat k_data
    refine W.itemList (AH.set_new hL5 ((hs.trans (hs4.trans hs5)) _ _ hP)) (by omega) (by omega) (by simpa using epk) ?_
    repeat k_data
    refine kpK' hK (by k_is) (W.op hL5 (W.call_ (WK.more (WK.mono (child_top (b := b) hK (.inr ha)) fun f τ q => ?_) (by omega))) trivial)
    obtain ⟨_, rfl, rfl, rfl⟩ := q
    refine ⟨_, rfl, fun _ => ?_⟩
    replace hs4 := hs4.trans hs5
    repeat k_data
    refine W.strShows ((h3.sub (hs.trans hs4)).path.shows hK hG hf.1 (by omega)) (by omega) hL5 trivial fun t2 H4 hs6 hL6 => ?_
    replace hs4 := hs4.trans hs6
    repeat k_data
    refine W.itemList (AH.set_new hL6 ((hs.trans hs4) _ _ hT)) (by omega) (by omega) (by simpa using etk) ?_
    repeat k_data
    rw [show (txt (pathT ss) != txt (pathT ss)) = false by simp]
    repeat k_data
    refine W.sFor (hs := by intro _; rfl) ?_
    repeat k_data
    refine W.op hL6 (W.callRange1 fun r2 hr20 hL7 => ?_) trivial
    replace hs4 := hs4.trans (Sub.set (o := rangeO 0 (ys.length : Int) 1) hr20)
    have hrr2 : (H4.set r2 (rangeO 0 (ys.length : Int) 1)) r2 = some (rangeO 0 (ys.length : Int) 1) := AH.set_self
    generalize H4.set r2 (rangeO 0 (ys.length : Int) 1) = V2 at *
    refine W.iterRange (AH.set_new hL7 hrr2) (small_one (by omega) (by omega) (by omega) (by omega)) fun I2 hI2 => ?_
    rw [show Builtin.Range.rangeSize 0 (ys.length : Int) 1 = (ys.length : Int) from size_zero (by omega)]
    replace hs := hs.trans hs4
    replace hs2 := hs2.trans hs4
    refine WK.forSrc (Src.range (x := 0) (step := 1) (n := ys.length) rfl) (fun j σ => ∃ H' m', σ = AH.set H' L (.ns "frame" m') ∧ H' L = none ∧ Sub V2 H' ∧ m'.lookup (Str.ofString "rows") = some (.ref D) ∧ m'.lookup (Str.ofString "paths") = some (.ref P) ∧ m'.lookup (Str.ofString "texts") = some (.ref T) ∧ m'.lookup (Str.ofString "k") = some (.int (k : Int) tv))
      (fun j σ q => trivial) (fun j σ v hj q hv => ?_) (fun σ q => ?_) ys.length 0 _ _ (by omega) ⟨hI2, by simp⟩ ⟨V2, _, rfl, hL7, .refl _, lookThere (by kernel_rfl) n1, lookThere (by kernel_rfl) n2, lookThere (by kernel_rfl) n3, lookHere⟩
    · clear hL2 hL3 hL4 hL5 hL6 hL7 hI2 n1 n2 n3
      obtain ⟨H5, m5, rfl, hL5, hs5, n1, n2, n3, n4⟩ := q
      obtain ⟨tv2, rfl⟩ := hv
      rw [show (0 : Int) + (j : Int) * 1 = (j : Int) by omega]
      have hs9 := hs.trans hs5
      have hjr : j < rss.length := by rw [← hr.len]; exact hj
      have hg2 := List.getElem?_eq_getElem hjr
      have hrow2 := hr.each j _ _ (List.getElem?_eq_getElem hj) hg2
      have hf2 := hr.fine _ (List.getElem_mem hjr)
      generalize rss[j] = us2 at *
      have eks2 : ys[j]? = some ys[j] := List.getElem?_eq_getElem hj
      generalize ys[j] = yj at *
      obtain ⟨p2, ss1, ep, ep2, h32⟩ := ap j _ (List.getElem?_eq_getElem (by omega))
      rw [hg2] at ep2; cases ep2
      have epk2 : ps[j]? = some (.ref p2) := by rw [List.getElem?_eq_getElem (by omega), ep]
      obtain ⟨t02, ss1, et, et2⟩ := at_ j _ (List.getElem?_eq_getElem (by omega))
      rw [hg2] at et2; cases et2
      have etk2 : ts[j]? = some (.str (txt (pathT us2)) t02) := by rw [List.getElem?_eq_getElem (by omega), et]
      repeat k_data
      refine W.itemList (AH.set_new hL5 (hs9 _ _ hT)) (by omega) (by omega) (by simpa using etk2) ?_
      repeat k_data
      refine W.itemList (AH.set_new hL5 (hs9 _ _ hT)) (by omega) (by omega) (by simpa using etk) ?_
      repeat k_data
      refine W.itemList (AH.set_new hL5 (hs9 _ _ hD)) (by omega) (by omega) (by simpa using eks2) ?_
      repeat k_data
      refine W.itemList (AH.set_new hL5 (hs9 _ _ hD)) (by omega) (by omega) (by simpa using eks) ?_
      repeat k_data
      refine W.eqRows ((hrow2.sub hs9).sub (Sub.set hL5)).rowAt (RowIs.rowAt (RowIs.sub (RowIs.sub ⟨l, us, rfl, h1, h2⟩ hs9) (Sub.set hL5))) ?_
      repeat k_data
      rw [tell_same hf2 hf, rows_same hf2 hf, show ((decide (us2 = ss)) != (decide (us2 = ss))) = false by simp]
      repeat k_data
      refine W.itemList (AH.set_new hL5 (hs9 _ _ hP)) (by omega) (by omega) (by simpa using epk2) ?_
      repeat k_data
      refine W.itemList (AH.set_new hL5 (hs9 _ _ hP)) (by omega) (by omega) (by simpa using epk) ?_
      repeat k_data
      have hn3 := hf2.2.2
      refine W.eqObjs ((h32.sub hs9).eqTo hK (h3.sub hs9) hf2.1 hf.1) (by omega) hL5 trivial fun H6 hs6 hL6 => ?_
      replace hs9 := hs9.trans hs6
      repeat k_data
      refine W.itemList (AH.set_new hL6 (hs9 _ _ hD)) (by omega) (by omega) (by simpa using eks2) ?_
      repeat k_data
      refine W.itemList (AH.set_new hL6 (hs9 _ _ hD)) (by omega) (by omega) (by simpa using eks) ?_
      repeat k_data
      refine W.eqRows ((hrow2.sub hs9).sub (Sub.set hL6)).rowAt (RowIs.rowAt (RowIs.sub (RowIs.sub ⟨l, us, rfl, h1, h2⟩ hs9) (Sub.set hL6))) ?_
      repeat k_data
      rw [rows_same hf2 hf, show ((decide (us2 = ss)) != (decide (us2 = ss))) = false by simp]
      repeat k_data
      exact ⟨H6, _, rfl, hL6, hs5.trans hs6, lookThere (by kernel_rfl) n1, lookThere (by kernel_rfl) n2, lookThere (by kernel_rfl) n3, lookThere (by kernel_rfl) n4⟩
    · obtain ⟨H5, m5, rfl, hL5, hs5, n1, n2, n3, n4⟩ := q
      repeat k_data
      exact ⟨H5, _, rfl, hL5, hs2.trans hs5, n1, n2, n3⟩
  · obtain ⟨H', m', rfl, hL2, hs2, n1, n2, n3⟩ := q
    exact next H' m' (hs1.trans hs2) hL2
end
section
-- a name's value, without looking into the names
local macro_rules | `(tactic| lcg_calm) => `(tactic| first
  | with_reducible exact lookHere
  | with_reducible assumption
  | (refine' lookThere ?h1 ?h2; (case h1 => kernel_rfl); (case h2 => lcg_calm)))
local macro_rules | `(tactic| k_data) => `(tactic| with_reducible refine W.lawName (hK := by with_reducible assumption) (hg := by kernel_rfl) (hk := by kernel_rfl) (hl := by kernel_rfl) ?_)
variable {C : Cx} {b : Nat} {H : AH}
def okN (x : Str) : Prop := ∃ j, j < 23 ∧ x = nmS j
theorem draw2 {K : AH} {st D S L : Addr} {k lim : Int} {t tl : Tok} {o p : AO} {vs : List Value} {xs : List Int} {X : Value → AH → Prop} {Q : Value → AH → Prop} (hK : C.K = hd.heap_39 C.w.params) (hi : intsAre xs vs) (hlen : xs.length ≤ 100) (h2 : Two K st D) (hL : (N2 K st D (.lst [.ref S, .int k t]) p) L = none) (hS : K S = some (.lst vs)) (hk0 : 0 ≤ k) (hk1 : k < 1000) (hlim : 0 < lim) (ho : o.fr)
    (h : ∀ t1 t2, (N2 K st D (.lst [.ref S, .int (k + 1) t2]) p) L = none → Q (.int (nextV xs k lim) t1) ((N2 K st D (.lst [.ref S, .int (k + 1) t2]) p).set L o)) : W C (b + 2) (call (.ref 927) [.ref st, .int lim tl] []) ((N2 K st D (.lst [.ref S, .int k t]) p).set L o) Q X := by
  refine W.op hL (W.call_ (WK.mono (law_next (b := b) hK (N2.in1 h2) (AH.set_new h2.n2 hS) hi hk0 hk1 hlim hlen) fun f τ q => ?_)) ho
  obtain ⟨_, rfl, t1, t2, rfl, rfl⟩ := q
  exact ⟨_, rfl, fun hL' => h t1 t2 hL'⟩
def InDoc (K : AH) (m : Nat) (v : Value) : Prop := ∃ d, DocAt K v d ∧ Fit m d ∧ Doc.named okN d
theorem InDoc.sub {K K' : AH} {m : Nat} {v : Value} (h : InDoc K m v) (k : Sub K K') : InDoc K' m v := let ⟨d, h1, h2, h3⟩ := h; ⟨d, h1.sub k, h2, h3⟩
theorem InDoc.pair {K : AH} {B : Addr} {v : Value} {z : Int} {t : Tok} {m : Nat} (hB : K B = some (.lst [v, .int z t])) (h : InDoc K m v) : InDoc K (m + 1) (.ref B) := by
  obtain ⟨d, h1, h2, h3⟩ := h
  refine ⟨.row 2 (fun j => if j = 0 then d else .num z), .row hB rfl (fun j w e => ?_), .row (by omega) (fun j hj => ?_), ⟨Nat.le_refl _, fun j hj => ?_⟩⟩
  · rcases j with _ | _ | j
    · simp at e; subst e; exact h1
    · simp at e; subst e; exact .num
    · simp at e
  · split
    · exact h2
    · exact .num
  · show Doc.named okN (if j = 0 then d else Doc.num z)
    split
    · exact h3
    · trivial
/-- the document -/
theorem law_seg3 {fd : FuncData} {bd : List Stmt} {oc : Value} {od : Option Addr} {osl : Array (Option Value)} {L c c1 c2 c3 st S : Addr} {V : AH} {m : List (Str × Value)} {vs : List Value} {xs : List Int} {k : Int} {t : Tok} {Q : Flow → AH → Prop}
    (hK : C.K = hd.heap_39 C.w.params) (ho : C.K.lookup 960 = some ⟨oc, od, .func fd, osl⟩) (hbd : fd.body = .stmts bd)
    (hL : V L = none) (hc : V c = some (.cell (some (.ref st)))) (hst : V st = some (.lst [.ref S, .int k t])) (hS : V S = some (.lst vs)) (hSst : S ≠ st) (hi : intsAre xs vs) (hlen : xs.length ≤ 100) (hk0 : 0 ≤ k) (hk1 : k ≤ 500)
    (next : ∀ V' m' D d, Sub (V.drop st) V' → V' L = none → m'.lookup (Str.ofString "document") = some (.ref D) → DocAt V' (.ref D) d → Fit 3 d → Doc.named okN d →
      thenRest C (b + 498) (bd.drop 7) (fEnv fd.scope L [(Str.ofString "told", c3), (Str.ofString "wholes", c2), (Str.ofString "every", c1), (Str.ofString "state", c)] (Str.ofString "law" ++ Str.ofString ".<locals>.") 960 (.ref 959)) Q noX .next (V'.set L (.ns "frame" m'))) :
    thenRest C (b + 498) (bd.drop 5) (fEnv fd.scope L [(Str.ofString "told", c3), (Str.ofString "wholes", c2), (Str.ofString "every", c1), (Str.ofString "state", c)] (Str.ofString "law" ++ Str.ofString ".<locals>.") 960 (.ref 959)) Q noX .next (V.set L (.ns "frame" m)) := by
  revert next
  refine fixCode (P := fun sc bd => (∀ V' m' D d, Sub (V.drop st) V' → V' L = none → m'.lookup (Str.ofString "document") = some (.ref D) → DocAt V' (.ref D) d → Fit 3 d → Doc.named okN d →
      thenRest C (b + 498) (bd.drop 7) (fEnv sc L [(Str.ofString "told", c3), (Str.ofString "wholes", c2), (Str.ofString "every", c1), (Str.ofString "state", c)] (Str.ofString "law" ++ Str.ofString ".<locals>.") 960 (.ref 959)) Q noX .next (V'.set L (.ns "frame" m'))) →
    thenRest C (b + 498) (bd.drop 5) (fEnv sc L [(Str.ofString "told", c3), (Str.ofString "wholes", c2), (Str.ofString "every", c1), (Str.ofString "state", c)] (Str.ofString "law" ++ Str.ofString ".<locals>.") 960 (.ref 959)) Q noX .next (V.set L (.ns "frame" m))) ho hbd (by rw [hK]; k_is) rfl ?_
  intro next
  simp only [List.drop_succ_cons, List.drop_zero] at next ⊢
  have hcst : c ≠ st := fun e => by rw [e, hst] at hc; cases hc
  repeat k_data
  refine W.op hL (W.eDict0 fun D hD hL1 => ?_) trivial
  have hV := AH.drop_back hst
  have hc' : (V.drop st) c = some (.cell (some (.ref st))) := by rw [AH.drop_ne hcst]; exact hc
  have hS' : (V.drop st) S = some (.lst vs) := by rw [AH.drop_ne hSst]; exact hS
  have hDst : D ≠ st := fun e => by rw [e, hst] at hD; cases hD
  have h2 : Two (V.drop st) st D := ⟨AH.drop_self, by rw [AH.drop_ne hDst]; exact hD, hDst.symm⟩
  rw [← hV] at hL1 ⊢
  clear hV hst hc hS hD hL
  generalize V.drop st = K0 at *
  rw [← N2.comm h2] at hL1 ⊢
  have hcV : N2 K0 st D (.lst [.ref S, .int k t]) (.dct [] 0) c = some (.cell (some (.ref st))) := N2.sub h2 _ _ hc'
  repeat k_data
  refine W.sFor (hs := by intro _; rfl) ?_
  repeat k_data
  refine kpK' hK (by k_is) (draw2 (b := b + 496) hK hi hlen h2 hL1 hS' hk0 (by omega) (by decide) trivial fun t1 t2 hL2 => ?_)
  have hb4 := nextV_bd (xs := xs) (k := k) (lim := 4) (by decide)
  generalize nextV xs k 4 = n4 at *
  repeat k_data
  refine W.op hL2 (W.callRange1 fun r hr hL3 => ?_) trivial
  have h3 := h2.new (y := rangeO 0 n4 1) hr
  rw [N2.new hr] at hL3 ⊢
  have hrr : N2 (K0.set r (rangeO 0 n4 1)) st D (.lst [.ref S, .int (k + 1) t2]) (.dct [] 0) r = some (rangeO 0 n4 1) := N2.sub h3 _ _ AH.set_self
  refine W.iterRange (AH.set_new hL3 hrr) (small_one (by omega) (by omega) (by omega) (by omega)) fun I hI => ?_
  rw [show Builtin.Range.rangeSize 0 n4 1 = n4 from size_zero (by omega)]
  refine WK.forSrc (Src.range (x := 0) (step := 1) (n := n4.toNat) rfl) (fun i σ => ∃ K k' t' kvs ep m', σ = AH.set (N2 K st D (.lst [.ref S, .int k' t']) (.dct kvs ep)) L (.ns "frame" m') ∧ (N2 K st D (.lst [.ref S, .int k' t']) (.dct kvs ep)) L = none ∧ Two K st D ∧ Sub K0 K ∧ 0 ≤ k' ∧ k' ≤ k + 1 + 6 * (i : Int) ∧ i ≤ 3 ∧ KV okN (InDoc K 2) kvs ∧ kvs.length ≤ i ∧ m'.lookup (Str.ofString "document") = some (.ref D))
    (fun i σ q => trivial) (fun i σ v hin q hv => ?_) (fun σ q => ?_) n4.toNat 0 _ _ (by omega) ⟨hI, by rw [show ((n4.toNat : Nat) : Int) = n4 by omega]; simp⟩ ⟨_, _, _, _, _, _, rfl, hL3, h3, Sub.set (N2.none hr).1, by omega, by omega, by omega, KV.nil, Nat.le_refl _, lookHere⟩
  · clear hL1 hL2 hL3 hcV hI hr h3 hrr
    obtain ⟨K, k', t', kvs, ep, m', rfl, g1, g2, g3, g4, g5, g6, g7, g8, g9⟩ := q
    obtain ⟨tv, rfl⟩ := hv
    rw [show (0 : Int) + (i : Int) * 1 = (i : Int) by omega]
    have hcV : N2 K st D (.lst [.ref S, .int k' t']) (.dct kvs ep) c = some (.cell (some (.ref st))) := N2.sub g2 _ _ (g3 _ _ hc')
    repeat k_data
    refine kpK' hK (by k_is) (draw2 (b := b + 496) hK hi hlen g2 g1 (g3 _ _ hS') g4 (by omega) (by decide) trivial fun t3 t4 hL4 => ?_)
    have hb23 := nextV_bd (xs := xs) (k := k') (lim := 23) (by decide)
    generalize nextV xs k' 23 = n23 at *
    repeat k_data
    refine ⟨n23, _, rfl, hb23.1, hb23.2, fun t9 => ?_⟩
    clear hcV g1
    have hcV : N2 K st D (.lst [.ref S, .int (k' + 1) t4]) (.dct kvs ep) c = some (.cell (some (.ref st))) := N2.sub g2 _ _ (g3 _ _ hc')
    repeat k_data
    refine W.sAssignDict (cs := [(Str.ofString "state", c)]) (by with_unfolding_all rfl) (by intro _; rfl) (by with_unfolding_all rfl) rfl (by decide) rfl (by rfl) (by rfl) ?_
    repeat k_data
    refine kpK' hK (by k_is) (draw2 (b := b + 496) hK hi hlen g2 hL4 (g3 _ _ hS') (by omega) (by omega) (by decide) trivial fun t5 t6 hL5 => ?_)
    have hb3 := nextV_bd (xs := xs) (k := k' + 1) (lim := 3) (by decide)
    generalize nextV xs (k' + 1) 3 = n3 at *
    repeat k_data
    refine W.op hL5 (W.callRange1 fun r2 hr2 hL6 => ?_) trivial
    have g2' := g2.new (y := rangeO 0 n3 1) hr2
    have g3' : Sub K0 (K.set r2 (rangeO 0 n3 1)) := g3.trans (Sub.set (N2.none hr2).1)
    have g8' : KV okN (InDoc (K.set r2 (rangeO 0 n3 1)) 2) kvs := g7.mono fun v h => h.sub (Sub.set (N2.none hr2).1)
    rw [N2.new hr2] at hL6 ⊢
    have hrr2 : N2 (K.set r2 (rangeO 0 n3 1)) st D (.lst [.ref S, .int (k' + 1 + 1) t6]) (.dct kvs ep) r2 = some (rangeO 0 n3 1) := N2.sub g2' _ _ AH.set_self
    generalize K.set r2 (rangeO 0 n3 1) = K1 at *
    refine ⟨_, _, _, rfl, hL6, W.iterRange hrr2 (small_one (by omega) (by omega) (by omega) (by omega)) fun I2 hI2 => ?_⟩
    rw [show Builtin.Range.rangeSize 0 n3 1 = n3 from size_zero (by omega)]
    refine DCompAt.single (fun L' => Src.range (x := 0) (step := 1) (n := n3.toNat) rfl) ⟨hI2, by rw [show ((n3.toNat : Nat) : Int) = n3 by omega]; simp⟩
      (fun j ys H' => ∃ K' k2 t2, H' = N2 K' st D (.lst [.ref S, .int k2 t2]) (.dct kvs ep) ∧ Two K' st D ∧ Sub K1 K' ∧ 0 ≤ k2 ∧ k2 ≤ k' + 2 + (j : Int) ∧ j ≤ 2 ∧ KV okN (fun v => ∃ (z : Int) (t : Tok), v = .int z t) ys ∧ ys.length ≤ j)
      ⟨_, _, _, rfl, g2', .refl _, by omega, by omega, by omega, KV.nil, Nat.le_refl _⟩ (fun j ys H' q => ?_) (fun L' j ys H' m v hj hv q hL' => ?_) (fun D2 ys ep2 H' q hD2 => ?_)
    · obtain ⟨K', k2, t2, rfl, q1, q2, q3, q4, q5, q6, q7⟩ := q
      exact ⟨trivial, by omega⟩
    · obtain ⟨K', k2, t2, rfl, q1, q2, q3, q4, q5, q6, q7⟩ := q
      obtain ⟨tv2, rfl⟩ := hv
      have hcV2 : N2 K' st D (.lst [.ref S, .int k2 t2]) (.dct kvs ep) c = some (.cell (some (.ref st))) := N2.sub q1 _ _ (q2 _ _ (g3' _ _ hc'))
      repeat k_data
      refine kpK' hK (by k_is) (draw2 (b := b + 496) hK hi hlen q1 hL' (q2 _ _ (g3' _ _ hS')) (by omega) (by omega) (by decide) trivial fun t7 t8 hL7 => ?_)
      have hbj := nextV_bd (xs := xs) (k := k2) (lim := 23) (by decide)
      generalize nextV xs k2 23 = nj at *
      repeat k_data
      refine ⟨nj, _, rfl, hbj.1, hbj.2, fun t9 => ?_⟩
      refine ⟨_, _, rfl, ?_⟩
      repeat k_data
      obtain ⟨kv1, kv2⟩ := KV.stored q6 (k := nmS nj.toNat) (v := .int (0 + (j : Int) * 1) tv2) ⟨nj.toNat, by omega, rfl⟩ ⟨_, _, rfl⟩
      exact ⟨_, _, rfl, hL7, K', k2 + 1, t8, rfl, q1, q2, by omega, by omega, by omega, kv1, by omega⟩
    · obtain ⟨K', k2, t2, rfl, q1, q2, q3, q4, q5, q6, q7⟩ := q
      intro hL8
      have hD20 := (N2.none hD2).1
      have q1' := q1.new (y := .dct ys ep2) hD2
      have hDD : (K'.set D2 (.dct ys ep2)) D2 = some (.dct ys ep2) := AH.set_self
      have hs2 : Sub K1 (K'.set D2 (.dct ys ep2)) := q2.trans (Sub.set hD20)
      rw [N2.new hD2] at hL8 ⊢
      generalize K'.set D2 (.dct ys ep2) = K2 at *
      obtain ⟨d1, d2, d3, d4⟩ := KV.doc (m := 0) hDD (q6.mono fun v h => by obtain ⟨z, t, rfl⟩ := h; exact ⟨.num z, .num, .num, trivial⟩) (by omega)
      have hcV2 : N2 K2 st D (.lst [.ref S, .int k2 t2]) (.dct kvs ep) c = some (.cell (some (.ref st))) := N2.sub q1' _ _ (hs2 _ _ (g3' _ _ hc'))
      repeat k_data
      refine kpK' hK (by k_is) (draw2 (b := b + 496) hK hi hlen q1' hL8 (hs2 _ _ (g3' _ _ hS')) q3 (by omega) (by decide) trivial fun t7 t8 hL9 => ?_)
      generalize nextV xs k2 2 = n2 at *
      have hk8 : KV okN (InDoc K2 2) kvs := g8'.mono fun v h => h.sub hs2
      have hin : InDoc K2 2 (.ref D2) := ⟨d1, d2, d3.up (by omega), d4⟩
      have hs02 : Sub K0 K2 := g3'.trans hs2
      clear hcV hcV2 hL8 hL6 hL5 hL4 hrr2 hI2 hD2 hr2 hD20
      repeat k_data
      refine ⟨fun e0 => ?_, fun e0 => ?_⟩
      · repeat k_data
        obtain ⟨kv1, kv2⟩ := KV.stored hk8 (k := nmS n23.toNat) (v := .ref D2) ⟨n23.toNat, by omega, rfl⟩ hin
        refine W.op hL9 (W.setItemDct (N2.at2 q1') (by omega) fun ep9 hL10 => ?_) trivial
        rw [N2.upd2 q1'] at hL10 ⊢
        repeat k_data
        exact ⟨K2, _, _, _, ep9, _, rfl, hL10, q1', hs02, by omega, by omega, by omega, kv1, by omega, lookThere (by kernel_rfl) (lookThere (by kernel_rfl) (lookThere (by kernel_rfl) g9))⟩
      · repeat k_data
        rename_i B hB hL10
        have hB0 := (N2.none hB).1
        have q1'' := q1'.new (y := .lst [.ref D2, .int (i : Int) tv]) hB
        rw [N2.new hB] at hL10 ⊢
        have hBB : (K2.set B (.lst [.ref D2, .int (i : Int) tv])) B = some (.lst [.ref D2, .int (i : Int) tv]) := AH.set_self
        replace hk8 := hk8.mono fun v h => InDoc.sub h (Sub.set (o := .lst [.ref D2, .int (i : Int) tv]) hB0)
        replace hs02 := hs02.trans (Sub.set (o := .lst [.ref D2, .int (i : Int) tv]) hB0)
        have hin2 : InDoc (K2.set B (.lst [.ref D2, .int (i : Int) tv])) 2 (.ref B) := InDoc.pair hBB (m := 1) (InDoc.sub ⟨d1, d2, d3, d4⟩ (Sub.set (o := .lst [.ref D2, .int (i : Int) tv]) hB0))
        generalize K2.set B (.lst [.ref D2, .int (i : Int) tv]) = K3 at *
        obtain ⟨kv1, kv2⟩ := KV.stored hk8 (k := nmS n23.toNat) (v := .ref B) ⟨n23.toNat, by omega, rfl⟩ hin2
        refine W.op hL10 (W.setItemDct (N2.at2 q1'') (by omega) fun ep9 hL11 => ?_) trivial
        rw [N2.upd2 q1''] at hL11 ⊢
        repeat k_data
        exact ⟨K3, _, _, _, ep9, _, rfl, hL11, q1'', hs02, by omega, by omega, by omega, kv1, by omega, lookThere (by kernel_rfl) (lookThere (by kernel_rfl) (lookThere (by kernel_rfl) g9))⟩
  · obtain ⟨K, k', t', kvs, ep, m', rfl, g1, g2, g3, g4, g5, g6, g7, g8, g9⟩ := q
    obtain ⟨d, d2, d3, d4⟩ := KV.doc (m := 2) (N2.at2 g2) (g7.mono fun v h => InDoc.sub h (N2.sub g2)) (by omega)
    exact next _ _ D d (g3.trans (N2.sub g2)) g1 g9 d2 d3 d4
end
section
variable {C : Cx} {b : Nat} {σ σ' H : AH}
theorem KeepC.trans {σ'' : AH} (h : KeepC σ σ') (k : KeepC σ' σ'') : KeepC σ σ'' := fun a o e n => k _ _ (h _ _ e n) n
theorem StepAt.kc {p : Addr} {s : Stp} (h : StepAt σ p s) (k : KeepC σ σ') : StepAt σ' p s := by
  cases s with
  | at_ i => obtain ⟨t, v, h1, h2⟩ := h; exact ⟨t, v, h1.kc k, h2.kc k⟩
  | key n => obtain ⟨t, v, h1, h2⟩ := h; exact ⟨t, v, h1.kc k, h2.kc k⟩
theorem StAt.kc {p : Addr} {s : St} (h : StAt σ p s) (k : KeepC σ σ') : StAt σ' p s := by
  cases s with
  | name i => obtain ⟨t, v, h1, h2⟩ := h; exact ⟨t, v, h1.kc k, h2.kc k⟩
  | names i j => obtain ⟨t, u, v, h1, h2⟩ := h; exact ⟨t, u, v, h1.kc k, h2.kc k⟩
  | place n => obtain ⟨t, v, h1, h2⟩ := h; exact ⟨t, v, h1.kc k, h2.kc k⟩
  | slice x y z => obtain ⟨vx, vy, vz, h1, h2, h3, h4⟩ := h; exact ⟨vx, vy, vz, h1, h2, h3, h4.kc k⟩
  | any => exact ObjAt.kc h k
theorem LeftAt.kc {a : Addr} {ss : List St} (h : LeftAt σ a ss) (k : KeepC σ σ') : LeftAt σ' a ss := by
  induction h with
  | one h => exact .one (h.kc k)
  | more _ h2 h3 ih => exact .more ih (h2.kc k) (h3.kc k)
theorem Kid.kc {x : Addr} {v : Value} {s : Stp} {c : Addr} (h : Kid σ x v s c) (k : KeepC σ σ') : Kid σ' x v s c := let ⟨p, h1, h2⟩ := h; ⟨p, h1.kc k, h2.kc k⟩
theorem StepIn.kc {v w : Value} {s : Stp} {j : Nat} (h : StepIn σ v w s j) (k : KeepC σ σ') : StepIn σ' v w s j := by
  cases h with
  | key h1 h2 => exact .key (k _ _ h1 rfl) h2
  | at_ h1 h2 h3 h4 h5 h6 => exact .at_ (k _ _ h1 rfl) h2 h3 h4 h5 h6
theorem Loc.kc {dv v : Value} {x : Addr} {ss : List Stp} {ps : List Nat} (h : Loc σ dv x v ss ps) (k : KeepC σ σ') : Loc σ' dv x v ss ps := by
  induction h with
  | top h1 h2 => exact .top (h1.kc k) (h2.imp (fun h => h.kc k) fun h => h.kc k)
  | step h1 _ h3 ih => exact .step (h1.kc k) ih (h3.kc k)
/-- every place of a document stands there once -/
theorem Doc.all_ne (d : Doc) : ∀ ps ∈ d.all, ps ≠ [] := by
  intro ps h e
  subst e
  rw [Doc.all_eq, List.mem_append] at h
  rcases h with h | h
  · simp at h
  · simp at h
theorem Doc.all_nodup (d : Doc) : d.all.Nodup := by
  have main : ∀ (d : Doc), (∀ i, i < d.width → (d.kids i).all.Nodup) → d.all.Nodup := by
    intro d h
    rw [Doc.all_eq, List.nodup_append]
    refine ⟨?_, ?_, ?_⟩
    · rw [List.nodup_iff_pairwise_ne, List.pairwise_map]
      exact (List.nodup_range (n := d.width)).imp (fun h e => h (by simpa using e))
    · rw [List.nodup_iff_pairwise_ne, List.flatMap_def, List.pairwise_flatten]
      refine ⟨fun l hl => ?_, ?_⟩
      · obtain ⟨i, hi, rfl⟩ := List.mem_map.mp hl
        rw [List.pairwise_map]
        exact (h i (by simpa using hi)).imp fun h e => h (by simpa using e)
      · rw [List.pairwise_map]
        refine (List.nodup_range (n := d.width)).imp fun hij x hx y hy e => hij ?_
        obtain ⟨qs, _, rfl⟩ := List.mem_map.mp hx
        obtain ⟨rs, _, rfl⟩ := List.mem_map.mp hy
        simp at e; exact e.1
    · intro x hx y hy e
      obtain ⟨i, hi, rfl⟩ := List.mem_map.mp hx
      obtain ⟨j, hj, hy⟩ := List.mem_flatMap.mp hy
      obtain ⟨qs, hq, rfl⟩ := List.mem_map.mp hy
      simp at e
      exact Doc.all_ne _ _ hq e.2
  induction d with
  | row n kid ih => exact main _ fun i _ => ih i
  | fld n key kid ih => exact main _ fun i _ => ih i
  | _ => exact List.nodup_nil
theorem named_sub {ok : Str → Prop} : ∀ (ps : List Nat) {d e : Doc}, d.named ok → d.sub ps = some e → e.named ok
  | [], d, e, h, q => by
    have : e = d := by cases d <;> simp [Doc.sub] at q <;> exact q.symm
    rw [this]; exact h
  | i :: ps, d, e, h, q => by
    cases d with
    | row n kid =>
      simp only [Doc.sub] at q
      split at q
      · rename_i hi; exact named_sub ps (h.2 i hi) q
      · cases q
    | fld n key kid =>
      simp only [Doc.sub] at q
      split at q
      · rename_i hi; exact named_sub ps (h i hi).2 q
      · cases q
    | _ => simp [Doc.sub] at q
theorem fit_sub : ∀ (ps : List Nat) {m : Nat} {d e : Doc}, Fit m d → d.sub ps = some e → Fit (m - ps.length) e ∧ ps.length ≤ m
  | [], m, d, e, h, q => by
    have : e = d := by cases d <;> simp [Doc.sub] at q <;> exact q.symm
    rw [this]; exact ⟨h, Nat.zero_le _⟩
  | i :: ps, m, d, e, h, q => by
    have hi : i < d.width := by
      cases d with
      | row n kid => simp only [Doc.sub] at q; split at q; assumption; cases q
      | fld n key kid => simp only [Doc.sub] at q; split at q; assumption; cases q
      | _ => simp [Doc.sub] at q
    rw [show i :: ps = [i] ++ ps from rfl, Doc.sub_app (Doc.sub_one hi)] at q
    obtain ⟨h1, h2⟩ := h.kid hi
    obtain ⟨g1, g2⟩ := fit_sub ps h2 q
    refine ⟨by rw [List.length_cons, show m - (ps.length + 1) = m - 1 - ps.length by omega]; exact g1, by rw [List.length_cons]; omega⟩
/-- the step of a path that a step to a datum is -/
def Tl : Stp → St → Prop
  | .key k, .name j => k = nmS j ∧ j < 23
  | .at_ i, .place n => i = n ∧ n ∈ [(-2 : Int), -1, 0, 1]
  | _, _ => False
theorem Tl.fine {s : Stp} {t : St} (h : Tl s t) : t.fine := by
  cases s <;> cases t <;> simp only [Tl] at h
  · exact h.2
  · exact h.2
theorem Tl.fn {s s' : Stp} {t : St} (h : Tl s t) (h' : Tl s' t) : s = s' := by
  cases s <;> cases t <;> simp only [Tl] at h <;> cases s' <;> simp only [Tl] at h'
  · rw [h.1, h'.1]
  · rw [h.1, h'.1]
theorem Tl.at_ {p : Addr} {s : Stp} {t : St} (h : Tl s t) (q : StepAt σ p s) : StAt σ p t := by
  cases s <;> cases t <;> simp only [Tl] at h
  · obtain ⟨rfl, _⟩ := h; exact q
  · obtain ⟨rfl, _⟩ := h; exact q
inductive Tell : List Stp → List St → Prop
  | nil : Tell [] []
  | snoc {ss ts s t} : Tell ss ts → Tl s t → Tell (ss ++ [s]) (ts ++ [t])
theorem Tell.len {ss : List Stp} {ts : List St} (h : Tell ss ts) : ss.length = ts.length := by
  induction h with
  | nil => rfl
  | snoc _ _ ih => simp [ih]
theorem Tell.fine {ss : List Stp} {ts : List St} (h : Tell ss ts) : ∀ t ∈ ts, t.fine := by
  induction h with
  | nil => simp
  | snoc _ h ih =>
    intro t ht
    rcases List.mem_append.mp ht with q | q
    · exact ih t q
    · simp at q; subst q; exact h.fine
theorem Tell.inv {ss : List Stp} {s : Stp} {ts : List St} (h : Tell (ss ++ [s]) ts) : ∃ ts' t, ts = ts' ++ [t] ∧ Tell ss ts' ∧ Tl s t := by
  generalize e : ss ++ [s] = l at h
  cases h with
  | nil => simp at e
  | @snoc ss' ts' s' t h1 h2 =>
    obtain ⟨rfl, e2⟩ := List.append_inj' e rfl
    simp at e2; subst e2
    exact ⟨ts', t, rfl, h1, h2⟩
theorem FullAt.left {a : Addr} {ss : List Stp} {ts : List St} (h : FullAt σ a ss) (q : Tell ss ts) : LeftAt σ a ts := by
  induction h generalizing ts with
  | @one p s h =>
    obtain ⟨ts', t, rfl, q1, q2⟩ := Tell.inv (ss := []) q
    have : ts' = [] := List.eq_nil_of_length_eq_zero q1.len.symm
    subst this
    exact .one (q2.at_ h)
  | more _ h2 h3 ih =>
    obtain ⟨ts', t, rfl, q1, q2⟩ := q.inv
    exact .more (ih q1) (q2.at_ h2) h3
/-- a located datum's steps are steps of a path -/
theorem Loc.tell {dv v : Value} {x : Addr} {ss : List Stp} {ps : List Nat} {d : Doc} (h : Loc σ dv x v ss ps) (hd : DocAt σ dv d) (hn : Doc.named okN d) : ∃ ts, Tell ss ts := by
  induction h with
  | top => exact ⟨[], .nil⟩
  | @step x v s a w ss ps j h1 h2 h3 ih =>
    obtain ⟨ts, ih⟩ := ih
    obtain ⟨d', e1, e2⟩ := h2.doc hd
    have hn' := named_sub ps hn e1
    cases h3 with
    | @key l kvs ep j k w g1 g2 =>
      cases e2 with
      | row e => rw [g1] at e; cases e
      | fld e e' f3 f4 =>
        rw [g1] at e; cases e
        have hj := (List.getElem?_eq_some_iff.mp g2).1
        obtain ⟨i, hi, ek⟩ := (hn' j (by omega)).1
        exact ⟨ts ++ [.name i], Tell.snoc (s := .key k) (t := .name i) ih ⟨by rw [f3 _ _ _ g2, ek], hi⟩⟩
    | @at_ l vs i j w g1 g2 g3 g4 g5 g6 =>
      cases e2 with
      | fld e => rw [g1] at e; cases e
      | row e e' f3 =>
        rw [g1] at e; cases e
        have := hn'.1
        refine ⟨ts ++ [.place i], Tell.snoc (s := .at_ i) (t := .place i) ih ⟨rfl, ?_⟩⟩
        simp only [List.mem_cons, List.not_mem_nil, or_false]
        omega
theorem step_fn {w v v' : Value} {s : Stp} {j j' m : Nat} {d : Doc} (h : StepIn σ w v s j) (h' : StepIn σ w v' s j') (hd : DocAt σ w d) (hf : Fit m d) : j = j' ∧ v = v' := by
  cases h with
  | @key l kvs ep j k w g1 g2 =>
    cases h' with
    | key g1' g2' =>
      rw [g1] at g1'; cases g1'
      cases hd with
      | row e => rw [g1] at e; cases e
      | fld e e' f3 f4 =>
        rw [g1] at e; cases e
        cases hf with
        | fld q1 q2 q3 =>
          have hj := (List.getElem?_eq_some_iff.mp g2).1
          have hj' := (List.getElem?_eq_some_iff.mp g2').1
          have : j = j' := q2 j j' (by omega) (by omega) (by rw [← f3 _ _ _ g2, ← f3 _ _ _ g2'])
          subst this
          rw [g2] at g2'; cases g2'
          exact ⟨rfl, rfl⟩
  | @at_ l vs i j w g1 g2 g3 g4 g5 g6 =>
    cases h' with
    | at_ g1' g2' g3' g4' g5' g6' =>
      rw [g1] at g1'; cases g1'
      have : j = j' := by rw [← g5'] at g5; exact Int.ofNat_inj.mp g5
      subst this
      rw [g2] at g2'; cases g2'
      exact ⟨rfl, rfl⟩
/-- two data with one path are at one place -/
theorem Loc.one {dv : Value} {ps : List Nat} {v : Value} {x : Addr} {ss : List Stp} {ts : List St} {m : Nat} {d : Doc} (h : Loc σ dv x v ss ps) (hd : DocAt σ dv d) (hf : Fit m d) (q : Tell ss ts) : ∀ {ps' v' x' ss'}, Loc σ dv x' v' ss' ps' → Tell ss' ts → ps = ps' ∧ v = v' := by
  induction h generalizing ts with
  | top =>
    intro ps' v' x' ss' h' q'
    have hts : ts = [] := List.eq_nil_of_length_eq_zero q.len.symm
    subst hts
    cases h' with
    | top => exact ⟨rfl, rfl⟩
    | step => have := q'.len; simp at this
  | @step x v s a w ss ps j h1 h2 h3 ih =>
    obtain ⟨ts1, t, rfl, q1, q2⟩ := q.inv
    intro ps' v' x' ss' h' q'
    cases h' with
    | top => have := q'.len; simp at this
    | @step x' v' s' a' w' ss' ps' j' h1' h2' h3' =>
      obtain ⟨ts2, t2, e, q1', q2'⟩ := q'.inv
      obtain ⟨rfl, e2⟩ := List.append_inj' e rfl
      simp at e2; subst e2
      obtain ⟨rfl, rfl⟩ := ih q1 h2' q1'
      have := q2.fn q2'
      subst this
      obtain ⟨d', e1, e2⟩ := h2.doc hd
      obtain ⟨rfl, rfl⟩ := step_fn h3 h3' e2 (fit_sub ps hf e1).1
      exact ⟨rfl, rfl⟩
theorem pathT_ends {ts : List St} {t : St} : Txt.endswith (txt (pathT (ts ++ [t]))) (txt t.text) = true := by
  by_cases h : ts = []
  · subst h
    have := ends_suffix [] t.text
    simpa [pathT, glue] using this
  · rw [pathT_app h (by simp), show pathT [t] = t.text by simp [pathT, glue], show pathT ts ++ 46 :: t.text = (pathT ts ++ [46]) ++ t.text by simp]
    exact ends_suffix _ _
/-- located data and the paths that they have -/
def Here (σ : AH) (dv : Value) (ms : List Value) (tss : List (List St)) : Prop := ms.length = tss.length ∧ ∀ (j : Nat) ts, tss[j]? = some ts → ∃ (x : Addr) (v : Value) (ss : List Stp) (ps : List Nat), ms[j]? = some (.ref x) ∧ Loc σ dv x v ss ps ∧ Tell ss ts ∧ ss ≠ [] ∧ ts.length ≤ 3
theorem Here.kc {dv : Value} {ms : List Value} {tss : List (List St)} (h : Here σ dv ms tss) (k : KeepC σ σ') : Here σ' dv ms tss := ⟨h.1, fun j ts e => let ⟨x, v, ss, ps, e1, e2, e3⟩ := h.2 j ts e; ⟨x, v, ss, ps, e1, e2.kc k, e3⟩⟩
theorem Here.sub {dv : Value} {ms : List Value} {tss : List (List St)} (h : Here σ dv ms tss) (k : Sub σ σ') : Here σ' dv ms tss := ⟨h.1, fun j ts e => let ⟨x, v, ss, ps, e1, e2, e3⟩ := h.2 j ts e; ⟨x, v, ss, ps, e1, e2.sub k, e3⟩⟩
theorem here_all {dv : Value} {ms : List Value} {d : Doc} (h : Locs σ dv ms d.all) (hd : DocAt σ dv d) (hf : Fit 3 d) (hn : Doc.named okN d) : ∃ tss, Here σ dv ms tss ∧ tss.Nodup ∧ tss.length = d.all.length := by
  have hx : ∀ j : Nat, ∃ ts : List St, ∀ ps : List Nat, d.all[j]? = some ps → ∃ (x : Addr) (v : Value) (ss : List Stp), ms[j]? = some (Value.ref x) ∧ Loc σ dv x v ss ps ∧ Tell ss ts := by
    intro j
    cases e : d.all[j]? with
    | none => exact ⟨[], fun ps q => by cases q⟩
    | some ps =>
      obtain ⟨x, v, ss, e1, e2⟩ := h.2 j ps e
      obtain ⟨ts, ht⟩ := e2.tell hd hn
      exact ⟨ts, fun ps' q => by cases q; exact ⟨x, v, ss, e1, e2, ht⟩⟩
  have hc : ∃ f : Nat → List St, ∀ (j : Nat) (ps : List Nat), d.all[j]? = some ps → ∃ (x : Addr) (v : Value) (ss : List Stp), ms[j]? = some (Value.ref x) ∧ Loc σ dv x v ss ps ∧ Tell ss (f j) := ⟨fun j => (hx j).choose, fun j => (hx j).choose_spec⟩
  obtain ⟨f, hf'⟩ := hc
  refine ⟨(List.range d.all.length).map f, ⟨by simp [h.1], fun j ts e => ?_⟩, ?_, by simp⟩
  · rw [List.getElem?_map] at e
    cases er : (List.range d.all.length)[j]? with
    | none => rw [er] at e; cases e
    | some j' =>
      rw [er] at e; cases e
      obtain ⟨hj, rfl⟩ := List.getElem?_eq_some_iff.mp er
      simp only [List.getElem_range] at *
      simp only [List.length_range] at hj
      have eps := List.getElem?_eq_getElem hj
      obtain ⟨x, v, ss, e1, e2, e3⟩ := hf' j _ eps
      obtain ⟨d', g1, g2⟩ := e2.doc hd
      refine ⟨x, v, ss, _, e1, e2, e3, fun e => ?_, ?_⟩
      · exact Doc.all_ne d _ (List.getElem_mem hj) (List.eq_nil_of_length_eq_zero (by rw [← e2.len, e]; rfl))
      · rw [← e3.len, e2.len]; exact (fit_sub _ hf g1).2
  · rw [List.nodup_iff_pairwise_ne, List.pairwise_map]
    have hnd := List.pairwise_iff_getElem.mp (List.nodup_iff_pairwise_ne.mp (Doc.all_nodup d))
    refine List.pairwise_iff_getElem.mpr fun i j hi hj hij e => ?_
    simp only [List.length_range] at hi hj
    simp only [List.getElem_range] at e
    obtain ⟨x, v, ss, e1, e2, e3⟩ := hf' i _ (List.getElem?_eq_getElem hi)
    obtain ⟨x', v', ss', e1', e2', e3'⟩ := hf' j _ (List.getElem?_eq_getElem hj)
    rw [← e] at e3'
    exact hnd i j hi hj hij (e2.one hd hf e3 e2' e3').1
end
section
-- a name's value, without looking into the names
local macro_rules | `(tactic| lcg_calm) => `(tactic| first
  | with_reducible exact lookHere
  | with_reducible assumption
  | (refine' lookThere ?h1 ?h2; (case h1 => kernel_rfl); (case h2 => lcg_calm)))
variable {C : Cx} {b : Nat} {H : AH}
theorem Doc.all_len (d : Doc) : d.all.length + 1 = d.size := by
  have main : ∀ (d : Doc), (∀ i, i < d.width → (d.kids i).all.length + 1 = (d.kids i).size) → d.all.length + 1 = d.size := by
    intro d h
    rw [Doc.all_eq, Doc.size_eq, List.length_append, List.length_map, List.length_range, List.length_flatMap]
    simp only [List.length_map]
    have : ∀ n, n ≤ d.width → ((List.range n).map fun i => (d.kids i).all.length).sum + n = ((List.range n).map fun i => (d.kids i).size).sum := by
      intro n hn
      induction n with
      | zero => simp
      | succ n ih =>
        rw [List.range_succ, List.map_append, List.map_append, List.sum_append, List.sum_append, ← ih (by omega)]
        have := h n (by omega)
        simp only [List.map_cons, List.map_nil, List.sum_cons, List.sum_nil]
        omega
    have := this d.width (Nat.le_refl _)
    omega
  induction d with
  | row n kid ih => exact main _ fun i hi => ih i
  | fld n key kid ih => exact main _ fun i hi => ih i
  | _ => exact main _ fun i hi => by simp [Doc.width] at hi
/-- what the found data are told as -/
structure ToldAt (σ : AH) (ms ws ts : List Value) (tss : List (List St)) : Prop where
  l1 : ms.length = tss.length
  l2 : ws.length = tss.length
  l3 : ts.length = tss.length
  data : ∀ (j : Nat) ss, tss[j]? = some ss → ∃ (x p : Addr) (v q : Value) (ss0 : List St) (s : St), ms[j]? = some (.ref x) ∧ ObjAt σ x 212 (dm v (.ref p) q) ∧ StAt σ p s ∧ ss = ss0 ++ [s] ∧ ss.length ≤ 3 ∧ ∀ s ∈ ss, s.fine
  whole : ∀ (j : Nat) ss, tss[j]? = some ss → ∃ a : Addr, ws[j]? = some (.ref a) ∧ LeftAt σ a ss
  text : ∀ (j : Nat) ss, tss[j]? = some ss → ∃ t, ts[j]? = some (.str (txt (pathT ss)) t)
  apart : tss.Nodup
/-- the data that are found, their whole paths and what these tell -/
theorem law_seg4 {fd : FuncData} {bd : List Stmt} {oc : Value} {od : Option Addr} {osl : Array (Option Value)} {L c c1 c2 c3 D : Addr} {V : AH} {m : List (Str × Value)} {d : Doc} {Q : Flow → AH → Prop}
    (hK : C.K = hd.heap_39 C.w.params) (hG : Gens C 450 448) (hGG : Gens C 797 793) (ho : C.K.lookup 960 = some ⟨oc, od, .func fd, osl⟩) (hbd : fd.body = .stmts bd)
    (hL : V L = none) (h1 : V c1 = some (.cell none)) (h2 : V c2 = some (.cell none)) (h3 : V c3 = some (.cell none)) (h12 : c1 ≠ c2) (h13 : c1 ≠ c3) (h23 : c2 ≠ c3)
    (hm : m.lookup (Str.ofString "document") = some (.ref D)) (hd : DocAt V (.ref D) d) (hf : Fit 3 d) (hn : Doc.named okN d)
    (next : ∀ V' m' E W T ms ws ts tss, V' L = none → V' c1 = some (.cell (some (.ref E))) → V' c2 = some (.cell (some (.ref W))) → V' c3 = some (.cell (some (.ref T))) → V' E = some (.lst ms) → V' W = some (.lst ws) → V' T = some (.lst ts) → ToldAt V' ms ws ts tss → tss.length ≤ 39 →
      thenRest C (b + 498) (bd.drop 10) (fEnv fd.scope L [(Str.ofString "told", c3), (Str.ofString "wholes", c2), (Str.ofString "every", c1), (Str.ofString "state", c)] (Str.ofString "law" ++ Str.ofString ".<locals>.") 960 (.ref 959)) Q noX .next (V'.set L (.ns "frame" m'))) :
    thenRest C (b + 498) (bd.drop 7) (fEnv fd.scope L [(Str.ofString "told", c3), (Str.ofString "wholes", c2), (Str.ofString "every", c1), (Str.ofString "state", c)] (Str.ofString "law" ++ Str.ofString ".<locals>.") 960 (.ref 959)) Q noX .next (V.set L (.ns "frame" m)) := by
  revert next
  refine fixCode (P := fun sc bd => (∀ V' m' E W T ms ws ts tss, V' L = none → V' c1 = some (.cell (some (.ref E))) → V' c2 = some (.cell (some (.ref W))) → V' c3 = some (.cell (some (.ref T))) → V' E = some (.lst ms) → V' W = some (.lst ws) → V' T = some (.lst ts) → ToldAt V' ms ws ts tss → tss.length ≤ 39 →
      thenRest C (b + 498) (bd.drop 10) (fEnv sc L [(Str.ofString "told", c3), (Str.ofString "wholes", c2), (Str.ofString "every", c1), (Str.ofString "state", c)] (Str.ofString "law" ++ Str.ofString ".<locals>.") 960 (.ref 959)) Q noX .next (V'.set L (.ns "frame" m'))) →
    thenRest C (b + 498) (bd.drop 7) (fEnv sc L [(Str.ofString "told", c3), (Str.ofString "wholes", c2), (Str.ofString "every", c1), (Str.ofString "state", c)] (Str.ofString "law" ++ Str.ofString ".<locals>.") 960 (.ref 959)) Q noX .next (V.set L (.ns "frame" m))) ho hbd (by rw [hK]; k_is) rfl ?_
  intro next
  simp only [List.drop_succ_cons, List.drop_zero] at next ⊢
  repeat k_data
  refine kpK' hK (by k_is) (W.op hL (W.call_ (WK.mono (make_root (b := b + 498) hK) fun f τ q => ?_)) trivial)
  obtain ⟨_, rfl, a, rfl, hs1, ha⟩ := q
  refine ⟨_, rfl, fun hL1 => ?_⟩
  repeat k_data
  refine kpK' hK (by k_is) (W.op hL1 (W.call_ (WK.mono (make_wild (b := b + 498) hK) fun f τ q => ?_)) trivial)
  obtain ⟨_, rfl, w, rfl, hs2, hw⟩ := q
  refine ⟨_, rfl, fun hL2 => ?_⟩
  repeat k_data
  refine kpK' hK (by k_is) (W.op hL2 (W.call_ (WK.more (WK.mono (make_desc (b := b) hK) fun f τ q => ?_) (by omega))) trivial)
  obtain ⟨_, rfl, s, rfl, hs3, hs⟩ := q
  refine ⟨_, rfl, fun hL3 => ?_⟩
  repeat k_data
  refine W.methO (f := 451) hK (hs.set hL3) rfl (by kernel_rfl) ?_
  repeat k_data
  have hs3' := hs1.trans (hs2.trans hs3)
  dsimp only
  refine kpK' hK (by k_is) (W.op hL3 (W.call_ (WK.more (WK.mono (every_find (b := b) hK hG hs ((ha.sub hs2).sub hs3) (hw.sub hs3) (hd.sub hs3') hf (by omega)) fun f τ q => ?_) (by omega))) trivial)
  obtain ⟨_, rfl, E, ms, rfl, hs4, hE, hlocs, hlen⟩ := q
  refine ⟨_, rfl, fun hL4 => ?_⟩
  replace hs4 := hs3'.trans hs4
  replace h1 := hs4 _ _ h1
  replace h2 := hs4 _ _ h2
  replace h3 := hs4 _ _ h3
  replace hd := hd.sub hs4
  obtain ⟨tss, hh, hnd, hlt⟩ := here_all hlocs hd hf hn
  have hlen39 : tss.length ≤ 39 := by rw [hlt]; have h1 := hf.size_le; have h2 := Doc.all_len d; have : bound 3 = 40 := rfl; omega
  rw [← hlt] at hlen
  clear hs1 hs2 hs3 hs4 hs3' ha hw hs hL1 hL2 hL3 hd hf hn hlocs hlt
  repeat k_data
  rename_i hL5
  replace hh := hh.kc (KeepC.set (o := .cell (some (.ref E))) h1)
  replace hE : (τ.set c1 (.cell (some (.ref E)))) E = some (.lst ms) := KeepC.set (o := .cell (some (.ref E))) h1 _ _ hE rfl
  replace h2 : (τ.set c1 (.cell (some (.ref E)))) c2 = some (.cell none) := by rw [AH.set_ne h12.symm]; exact h2
  replace h3 : (τ.set c1 (.cell (some (.ref E)))) c3 = some (.cell none) := by rw [AH.set_ne h13.symm]; exact h3
  replace h1 : (τ.set c1 (.cell (some (.ref E)))) c1 = some (.cell (some (.ref E))) := AH.set_self
  generalize τ.set c1 (.cell (some (.ref E))) = V1 at *
  refine W.eComp (cs := []) (by intro _; rfl) (by with_unfolding_all rfl) rfl (by decide) rfl ?_
  repeat k_data
  refine ⟨_, L, _, rfl, trivial, hL5, W.iterList hE fun I hI => ?_⟩
  refine CompAt.each rfl hE hI (by rw [hh.1]; omega) (fun σ j v => ∀ ss, tss[j]? = some ss → ∃ a : Addr, v = .ref a ∧ LeftAt σ a ss) (fun σ σ' j v h k ss e => let ⟨a, e1, e2⟩ := h ss e; ⟨a, e1, e2.sub k⟩) (fun L' i H' m2 u hu hs hL' => ?_) (fun WA ws H' hs hlw hall hW => ?_)
  · have hi : i < tss.length := by rw [← hh.1]; exact (List.getElem?_eq_some_iff.mp hu).1
    have et := List.getElem?_eq_getElem hi
    generalize tss[i] = ts at *
    obtain ⟨x, v, ss, ps, e1, e2, e3, e4, e5⟩ := hh.2 i ts et
    rw [hu] at e1; cases e1
    obtain ⟨c0, p0, g1, g2, g3⟩ := (e2.sub hs).chain
    obtain ⟨p, q, g4⟩ := (e2.sub hs).obj
    have hl3 := e3.len
    repeat k_data
    refine W.prop (b' := 20 * ss.length + 20) (fget := 201) hK g4 (by kernel_rfl) (full_path hK g1 e4 g2 g3) (by omega) hL' (fun _ _ q => by obtain ⟨a', rfl, _⟩ := q; rfl) (fun v' H2 q hL2 => ?_) trivial
    obtain ⟨a, rfl, hs2, hfull⟩ := q
    exact ⟨_, _, rfl, hL2, hs2, fun ss' e' => by rw [et] at e'; cases e'; exact ⟨a, rfl, hfull.left e3⟩⟩
  intro hL6
  have hs' := hs.trans (Sub.set (o := .lst ws) hW)
  replace h1 := hs' _ _ h1
  replace h2 := hs' _ _ h2
  replace h3 := hs' _ _ h3
  replace hE := hs' _ _ hE
  replace hh := hh.sub hs'
  have hWW : (H'.set WA (.lst ws)) WA = some (.lst ws) := AH.set_self
  replace hall : ∀ (j : Nat) (v : Value), ws[j]? = some v → ∀ ss, tss[j]? = some ss → ∃ a : Addr, v = Value.ref a ∧ LeftAt (H'.set WA (.lst ws)) a ss := fun j v e ss e' => let ⟨a, q1, q2⟩ := hall j v e ss e'; ⟨a, q1, q2.sub (Sub.set hW)⟩
  rw [hh.1] at hlw
  clear hs hW hs' hI hL5 hL4 hL
  generalize H'.set WA (.lst ws) = V2 at *
  repeat k_data
  rename_i hL7
  have kc := KeepC.set (o := .cell (some (.ref WA))) h2
  replace hh := hh.kc kc
  replace hE := kc _ _ hE rfl
  replace hWW := kc _ _ hWW rfl
  replace hall : ∀ (j : Nat) (v : Value), ws[j]? = some v → ∀ ss, tss[j]? = some ss → ∃ a : Addr, v = Value.ref a ∧ LeftAt (V2.set c2 (.cell (some (.ref WA)))) a ss := fun j v e ss e' => let ⟨a, q1, q2⟩ := hall j v e ss e'; ⟨a, q1, q2.kc kc⟩
  replace h1 : (V2.set c2 (.cell (some (.ref WA)))) c1 = some (.cell (some (.ref E))) := by rw [AH.set_ne h12]; exact h1
  replace h3 : (V2.set c2 (.cell (some (.ref WA)))) c3 = some (.cell none) := by rw [AH.set_ne h23.symm]; exact h3
  clear kc h2
  have h2 : (V2.set c2 (.cell (some (.ref WA)))) c2 = some (.cell (some (.ref WA))) := AH.set_self
  generalize V2.set c2 (.cell (some (.ref WA))) = V3 at *
  refine W.eComp (cs := []) (by intro _; rfl) (by with_unfolding_all rfl) rfl (by decide) rfl ?_
  repeat k_data
  refine ⟨_, L, _, rfl, trivial, hL7, W.iterList hWW fun I hI => ?_⟩
  refine CompAt.each rfl hWW hI (by rw [hlw]; omega) (fun σ j v => ∀ ss, tss[j]? = some ss → ∃ t, v = .str (txt (pathT ss)) t) (fun σ σ' j v h k ss e => h ss e) (fun L' i H' m2 u hu hs hL' => ?_) (fun T ts H' hs hlt hall2 hT => ?_)
  · have hi : i < tss.length := by rw [← hlw]; exact (List.getElem?_eq_some_iff.mp hu).1
    have et := List.getElem?_eq_getElem hi
    generalize tss[i] = ts at *
    obtain ⟨x, v, ss, ps, e1, e2, e3, e4, e5⟩ := hh.2 i ts et
    obtain ⟨a, rfl, hla⟩ := hall i u hu ts et
    repeat k_data
    refine W.strShows ((hla.sub hs).path.shows hK hGG e3.fine (by omega)) (by omega) hL' trivial fun t1 H1 hs1 hL1 => ?_
    exact ⟨_, _, rfl, hL1, hs1, fun ss' e' => by rw [et] at e'; cases e'; exact ⟨t1, rfl⟩⟩
  intro hL8
  have hs' := hs.trans (Sub.set (o := .lst ts) hT)
  replace h1 := hs' _ _ h1
  replace h2 := hs' _ _ h2
  replace h3 := hs' _ _ h3
  replace hE := hs' _ _ hE
  replace hWW := hs' _ _ hWW
  replace hh := hh.sub hs'
  have hTT : (H'.set T (.lst ts)) T = some (.lst ts) := AH.set_self
  replace hall : ∀ (j : Nat) (v : Value), ws[j]? = some v → ∀ ss, tss[j]? = some ss → ∃ a : Addr, v = Value.ref a ∧ LeftAt (H'.set T (.lst ts)) a ss := fun j v e ss e' => let ⟨a, q1, q2⟩ := hall j v e ss e'; ⟨a, q1, q2.sub hs'⟩
  rw [hlw] at hlt
  clear hs hT hs' hI hL7 hL6
  generalize H'.set T (.lst ts) = V4 at *
  iterate 2 k_data
  rename_i hL9
  have kc := KeepC.set (o := .cell (some (.ref T))) h3
  replace hh := hh.kc kc
  refine next _ m E WA T ms ws ts tss hL9 ?_ ?_ AH.set_self (kc _ _ hE rfl) (kc _ _ hWW rfl) (kc _ _ hTT rfl) ⟨hh.1, hlw, hlt, fun j ss e => ?_, fun j ss e => ?_, fun j ss e => ?_, hnd⟩ hlen39
  · rw [AH.set_ne h13]; exact h1
  · rw [AH.set_ne h23]; exact h2
  · obtain ⟨x, v, ss', ps, e1, e2, e3, e4, e5⟩ := hh.2 j ss e
    cases e2 with
    | top => exact absurd rfl e4
    | step k1 k2 k3 =>
      obtain ⟨p, k4, k5⟩ := k1
      obtain ⟨ts', t, rfl, q1, q2⟩ := e3.inv
      exact ⟨x, p, _, _, ts', t, e1, k4, q2.at_ k5, rfl, e5, e3.fine⟩
  · have hj : j < ws.length := by rw [hlw]; exact (List.getElem?_eq_some_iff.mp e).1
    obtain ⟨a, q1, q2⟩ := hall j _ (List.getElem?_eq_getElem hj) ss e
    exact ⟨a, by rw [List.getElem?_eq_getElem hj, q1], q2.kc kc⟩
  · have hj : j < ts.length := by rw [hlt]; exact (List.getElem?_eq_some_iff.mp e).1
    obtain ⟨t, q1⟩ := hall2 j _ (List.getElem?_eq_getElem hj) ss e
    exact ⟨t, by rw [List.getElem?_eq_getElem hj, q1]⟩
end
section
-- a name's value, without looking into the names
local macro_rules | `(tactic| lcg_calm) => `(tactic| first
  | with_reducible exact lookHere
  | with_reducible assumption
  | (refine' lookThere ?h1 ?h2; (case h1 => kernel_rfl); (case h2 => lcg_calm)))
variable {C : Cx} {b : Nat} {H : AH}
theorem texts_nodup {tss : List (List St)} (h : tss.Nodup) (hf : ∀ ss ∈ tss, ss ≠ [] ∧ ∀ s ∈ ss, s.fine) : (tss.map fun ss => txt (pathT ss)).Nodup := by
  rw [List.nodup_iff_pairwise_ne, List.pairwise_map]
  refine (List.nodup_iff_pairwise_ne.mp h).imp_of_mem fun {a c} ha hc hne e => hne ?_
  exact pathT_inj (hf a ha).1 (hf c hc).1 (hf a ha).2 (hf c hc).2 (txt_inj e)
/-- all tell apart, end as they should, and differ -/
theorem law_seg5 {fd : FuncData} {bd : List Stmt} {oc : Value} {od : Option Addr} {osl : Array (Option Value)} {L c c1 c2 c3 E WA T : Addr} {V : AH} {m : List (Str × Value)} {ms ws ts : List Value} {tss : List (List St)}
    (hK : C.K = hd.heap_39 C.w.params) (hGG : Gens C 797 793) (ho : C.K.lookup 960 = some ⟨oc, od, .func fd, osl⟩) (hbd : fd.body = .stmts bd)
    (hL : V L = none) (h1 : V c1 = some (.cell (some (.ref E)))) (h2 : V c2 = some (.cell (some (.ref WA)))) (h3 : V c3 = some (.cell (some (.ref T)))) (hE : V E = some (.lst ms)) (hW : V WA = some (.lst ws)) (hT : V T = some (.lst ts)) (ht : ToldAt V ms ws ts tss) (hlen : tss.length ≤ 39) :
    thenRest C (b + 498) (bd.drop 10) (fEnv fd.scope L [(Str.ofString "told", c3), (Str.ofString "wholes", c2), (Str.ofString "every", c1), (Str.ofString "state", c)] (Str.ofString "law" ++ Str.ofString ".<locals>.") 960 (.ref 959)) (Done L fun r x => r = Value.bool true) noX .next (V.set L (.ns "frame" m)) := by
  refine fixCode (P := fun sc bd => thenRest C (b + 498) (bd.drop 10) (fEnv sc L [(Str.ofString "told", c3), (Str.ofString "wholes", c2), (Str.ofString "every", c1), (Str.ofString "state", c)] (Str.ofString "law" ++ Str.ofString ".<locals>.") 960 (.ref 959)) (Done L fun r x => r = Value.bool true) noX .next (V.set L (.ns "frame" m))) ho hbd (by rw [hK]; k_is) rfl ?_
  simp only [List.drop_succ_cons, List.drop_zero]
  have hl3 := ht.l3
  have hl1 := ht.l1
  have hl2 := ht.l2
  repeat k_data
  refine W.op hL (W.setOfStrs (b := b + 495) (xs := tss.map fun ss => txt (pathT ss)) hT (by simp [hl3]) (fun i hi => ?_) (texts_nodup ht.apart fun ss hs => ?_) (by simp; show tss.length + 1 < 4096; omega) fun D hD hL1 => ?_) trivial
  · simp only [List.length_map] at hi
    obtain ⟨t, e⟩ := ht.text i _ (List.getElem?_eq_getElem hi)
    exact ⟨t, by rw [e, List.getElem_map]⟩
  · obtain ⟨i, hi⟩ := List.getElem?_of_mem hs
    obtain ⟨x, p, v, q, ss0, s, _, _, _, e4, _, e6⟩ := ht.data i ss hi
    exact ⟨by rw [e4]; simp, e6⟩
  rw [List.length_map] at hL1 ⊢
  have hs1 : Sub V (V.set D (strSetO C (upTo (List.map (fun ss => txt (pathT ss)) tss) tss.length) tss.length)) := Sub.set hD
  have hDD : (V.set D (strSetO C (upTo (List.map (fun ss => txt (pathT ss)) tss) tss.length) tss.length)) D = some (strSetO C (upTo (List.map (fun ss => txt (pathT ss)) tss) tss.length) tss.length) := AH.set_self
  generalize V.set D (strSetO C (upTo (List.map (fun ss => txt (pathT ss)) tss) tss.length) tss.length) = V1 at *
  have g3 := hs1 _ _ h3
  have gT := hs1 _ _ hT
  repeat k_data
  refine W.lenStrSet (AH.set_new hL1 hDD) fun _ => ?_
  repeat k_data
  refine ⟨fun e => absurd e (by rw [hl3]; simp), fun _ => ?_⟩
  repeat k_data
  refine W.eComp (cs := _) (by intro _; rfl) (by with_unfolding_all rfl) rfl (by decide) rfl ?_
  repeat k_data
  refine W.op hL1 (W.callRange1 fun r hr hL2 => ?_) trivial
  have hs2 : Sub V (V1.set r (rangeO 0 (ts.length : Int) 1)) := hs1.trans (Sub.set hr)
  have hrr : (V1.set r (rangeO 0 (ts.length : Int) 1)) r = some (rangeO 0 (ts.length : Int) 1) := AH.set_self
  generalize V1.set r (rangeO 0 (ts.length : Int) 1) = V2 at *
  refine ⟨_, L, _, rfl, trivial, hL2, W.iterRange hrr (small_one (by omega) (by omega) (by omega) (by omega)) fun I hI => ?_⟩
  rw [show Builtin.Range.rangeSize 0 (ts.length : Int) 1 = (ts.length : Int) from size_zero (by omega)]
  refine CompAt.single (H₀ := V2) (fun L' => Src.range (x := 0) (step := 1) (n := ts.length) rfl) ⟨hI, by simp⟩
    (fun i zs H' => Sub V H' ∧ zs = List.replicate i (Value.bool true) ∧ i ≤ ts.length) ⟨hs2, rfl, Nat.zero_le _⟩ (fun i zs H' q => ?_) (fun L' i zs H' m v hiN hv q hL' => ?_) (fun Z zs H' q hZ => ?_)
  · obtain ⟨q1, rfl, q3⟩ := q
    exact ⟨trivial, by rw [List.length_replicate]; omega⟩
  · obtain ⟨q1, rfl, q3⟩ := q
    obtain ⟨tv, rfl⟩ := hv
    rw [show (0 : Int) + (i : Int) * 1 = (i : Int) by omega]
    have k3 := q1 _ _ h3
    have k1 := q1 _ _ h1
    have hit : i < tss.length := by omega
    obtain ⟨x, p, v, q, ss0, s, e1, e2, e3, e4, e5, e6⟩ := ht.data i _ (List.getElem?_eq_getElem hit)
    obtain ⟨t0, et⟩ := ht.text i _ (List.getElem?_eq_getElem hit)
    have hsf : s.fine := e6 s (by rw [e4]; simp)
    generalize tss[i] = ss at *
    subst e4
    repeat k_data
    refine W.itemList (AH.set_new hL' (q1 _ _ hT)) (by omega) (by omega) (by simpa using et) ?_
    repeat k_data
    refine W.itemList (AH.set_new hL' (q1 _ _ hE)) (by omega) (by omega) (by simpa using e1) ?_
    repeat k_data
    refine W.getO hK ((e2.sub q1).set hL') rfl rfl (by kernel_rfl) ?_
    repeat k_data
    refine W.strShows ((e3.sub q1).shows hK hGG hsf) (by omega) hL' trivial fun t1 H1 hs3 hL3 => ?_
    repeat k_data
    refine W.ends ?_
    rw [pathT_ends]
    exact ⟨_, _, rfl, hL3, q1.trans hs3, by rw [List.replicate_succ'], hiN⟩
  obtain ⟨q1, rfl, q3⟩ := q
  intro hL3
  have hs3 : Sub V (H'.set Z (.lst (List.replicate ts.length (Value.bool true)))) := q1.trans (Sub.set hZ)
  have hZZ : (H'.set Z (.lst (List.replicate ts.length (Value.bool true)))) Z = some (.lst (List.replicate ts.length (Value.bool true))) := AH.set_self
  generalize H'.set Z (.lst (List.replicate ts.length (Value.bool true))) = V3 at *
  repeat k_data
  refine W.op hL3 (W.allYes (b := b + 496) hZZ (fun v hv => List.eq_of_mem_replicate hv) fun hL4 => ?_) trivial
  clear hL hL1 hL2 hI hrr hr hDD hD hL4 hs1 hs2 q1 hZZ hZ g3 gT
  have g3 := hs3 _ _ h3
  have g2 := hs3 _ _ h2
  have gT := hs3 _ _ hT
  repeat k_data
  refine W.eCompNo (cs := _) rfl rfl (by intro _; rfl) (by with_unfolding_all rfl) rfl (by decide) rfl (by intro _ _; rfl) ?_
  repeat k_data
  refine W.op hL3 (W.callRange1 fun r hr hL4 => ?_) trivial
  have hs4 : Sub V (V3.set r (rangeO 0 (ts.length : Int) 1)) := hs3.trans (Sub.set hr)
  have hrr : (V3.set r (rangeO 0 (ts.length : Int) 1)) r = some (rangeO 0 (ts.length : Int) 1) := AH.set_self
  generalize V3.set r (rangeO 0 (ts.length : Int) 1) = V4 at *
  refine ⟨V4, L, _, r, ts.length, rfl, rfl, trivial, hL4, hrr, by omega, fun i ys H' => Sub V H' ∧ ys.length ≤ 40 * i ∧ i ≤ ts.length ∧ ∀ v ∈ ys, v = Value.bool false, ⟨hs4, Nat.zero_le _, Nat.zero_le _, by simp⟩, fun L' i ys H' m' t hi q hL' => ?_, fun D ys H' q hD hL5 => ?_⟩
  · obtain ⟨q1, q2, q3, q4⟩ := q
    repeat k_data
    refine W.op hL' (W.callRange1 fun r2 hr2 hL5 => ?_) trivial
    have hs5 : Sub V (H'.set r2 (rangeO 0 (i : Int) 1)) := q1.trans (Sub.set hr2)
    have hrr2 : (H'.set r2 (rangeO 0 (i : Int) 1)) r2 = some (rangeO 0 (i : Int) 1) := AH.set_self
    generalize H'.set r2 (rangeO 0 (i : Int) 1) = V5 at *
    refine ⟨V5, _, r2, i, fun H m => Sub V H ∧ m.lookup (Str.ofString "k") = some (.int (i : Int) t), rfl, rfl, hL5, hrr2, by omega, by omega, ⟨hs5, lookHere⟩, fun j tj H6 m6 hj hJ hL6 => ?_, fun H6 m6 hJ => ⟨hJ.1, by rw [List.length_append, List.length_replicate]; omega, hi, fun v hv => ?_⟩⟩
    · obtain ⟨j1, j2⟩ := hJ
      have hit : i < tss.length := by omega
      have hjt : j < tss.length := by omega
      obtain ⟨x, p, v, q, ss0, s, _, _, _, _, e5, e6⟩ := ht.data i _ (List.getElem?_eq_getElem hit)
      obtain ⟨x', p', v', q', ss0', s', _, _, _, _, e5', e6'⟩ := ht.data j _ (List.getElem?_eq_getElem hjt)
      obtain ⟨a, ea, la⟩ := ht.whole i _ (List.getElem?_eq_getElem hit)
      obtain ⟨a', ea', la'⟩ := ht.whole j _ (List.getElem?_eq_getElem hjt)
      have hne : decide (tss[j] = tss[i]) = false := decide_eq_false fun e => (List.pairwise_iff_getElem.mp (List.nodup_iff_pairwise_ne.mp ht.apart)) j i hjt hit hj e
      have k2 := j1 _ _ h2
      repeat k_data
      refine W.itemList (AH.set_new hL6 (j1 _ _ hW)) (by omega) (by omega) (by simpa using ea') ?_
      repeat k_data
      refine W.itemList (AH.set_new hL6 (j1 _ _ hW)) (by omega) (by omega) (by simpa using ea) ?_
      repeat k_data
      refine W.eqObjs ((la'.sub j1).eqTo hK (la.sub j1) e6' e6) (by omega) hL6 trivial fun H7 hs7 hL7 => ?_
      rw [hne]
      exact ⟨_, _, rfl, rfl, hL7, j1.trans hs7, lookThere (by kernel_rfl) j2⟩
    · rcases List.mem_append.mp hv with h | h
      · exact q4 v h
      · exact List.eq_of_mem_replicate h
  · obtain ⟨q1, q2, q3, q4⟩ := q
    have hs5 : Sub V (H'.set D (.lst ys)) := q1.trans (Sub.set hD)
    have hDD : (H'.set D (.lst ys)) D = some (.lst ys) := AH.set_self
    generalize H'.set D (.lst ys) = V5 at *
    repeat k_data
    refine W.op hL5 (W.anyNo (b := b + 496) hDD q4 fun hL6 => ?_) trivial
    repeat k_data
    rfl
end
section
-- a name's value, without looking into the names
local macro_rules | `(tactic| lcg_calm) => `(tactic| first
  | with_reducible exact lookHere
  | with_reducible assumption
  | (refine' lookThere ?h1 ?h2; (case h1 => kernel_rfl); (case h2 => lcg_calm)))
variable {C : Cx} {b : Nat} {H : AH}
theorem hereCode {K : Frag} {f : Addr} {oc : Value} {od : Option Addr} {osl : Array (Option Value)} {fd : FuncData} {bd : List Stmt} (h1 : K.lookup f = some ⟨oc, od, .func fd, osl⟩) (h2 : fd.body = .stmts bd) : ∃ (oc : Value) (od : Option Addr) (fd : FuncData) (osl : Array (Option Value)) (bd : List Stmt), K.lookup f = some ⟨oc, od, .func fd, osl⟩ ∧ fd.body = .stmts bd := ⟨_, _, _, _, _, h1, h2⟩
/-- the law -/
theorem law_true {S0 : Addr} {vs : List Value} {xs : List Int} (hK : C.K = hd.heap_39 C.w.params) (hG : Gens C 450 448) (hGG : Gens C 797 793) (hB : C.h₁.IsList S0 vs.toArray) (hi : intsAre xs vs) (hlen : xs.length ≤ 63) : WCall C (b + 500) (.ref 960) [.ref S0] [] H (fun r _ => r = .bool true) := by
  refine WK.fnC4o (b := b + 498) (x := Str.ofString "state") (y := Str.ofString "every") (z := Str.ofString "wholes") (u := Str.ofString "told") (binds := [(Str.ofString "script", .ref S0)]) (mm := [(Str.ofString "script", .ref S0)]) (by rw [hK]; k_is) (by rw [hK]; k_is) rfl (by dsimp only) (by dsimp only) (by dsimp only) rfl rfl rfl rfl rfl rfl rfl rfl fun c c1 c2 c3 L hc hF hL => ?_
  iterate 4 k_data
  refine W.eSubBase hB ?_
  repeat k_data
  refine uptoBase hL trivial hB (by rw [hi.1]; omega) fun a S ha hS hL1 => ?_
  have hi60 := ints_take hi 60
  have hlen60 : (xs.take 60).length ≤ 100 := by simp; omega
  generalize xs.take 60 = xs at *
  generalize vs.take 60 = vs at *
  rename_i tk0
  have hF1 := hF.new (o := sliceO .none (.int 60 tk0) .none) ha
  rw [FR.new ha] at hS hL1 ⊢
  have hF2 := hF1.new (o := .lst vs) hS
  rw [FR.new hS] at hL1 ⊢
  have hcc : (((H.set c (.cell none)).set a (sliceO .none (.int 60 tk0) .none)).set S (.lst vs)) c = some (.cell none) := AH.set_new (FR.none hS).1 (AH.set_new (FR.none ha).1 AH.set_self)
  have hSS : (((H.set c (.cell none)).set a (sliceO .none (.int 60 tk0) .none)).set S (.lst vs)) S = some (.lst vs) := AH.set_self
  generalize ((H.set c (.cell none)).set a (sliceO .none (.int 60 tk0) .none)).set S (.lst vs) = K at *
  clear hS ha hF hF1 hc
  have hcF : (FR c1 c2 c3 (.cell none) (.cell none) (.cell none) K) c = some (.cell none) := FR.sub hF2 _ _ hcc
  repeat k_data
  rename_i tz st hst0 hL2 hL3
  have nc : st ≠ c := fun e => by rw [e, hcF] at hst0; cases hst0
  rw [AH.set_comm nc, FR.upd hF2 hcc] at hL3 ⊢
  have hF3 : Fre c1 c2 c3 (K.set c (.cell (some (.ref st)))) := ⟨by rw [AH.set_ne (fun e => by rw [← e, hF2.n1] at hcc; cases hcc)]; exact hF2.n1, by rw [AH.set_ne (fun e => by rw [← e, hF2.n2] at hcc; cases hcc)]; exact hF2.n2, by rw [AH.set_ne (fun e => by rw [← e, hF2.n3] at hcc; cases hcc)]; exact hF2.n3, hF2.d12, hF2.d13, hF2.d23⟩
  have hSc : S ≠ c := fun e => by rw [e, hcc] at hSS; cases hSS
  have hS3 : (K.set c (.cell (some (.ref st)))) S = some (.lst vs) := by rw [AH.set_ne hSc]; exact hSS
  have hc3 : (K.set c (.cell (some (.ref st)))) c = some (.cell (some (.ref st))) := AH.set_self
  have hst3 : (K.set c (.cell (some (.ref st)))) st = none := by rw [AH.set_ne nc]; exact (FR.none hst0).1
  have hstF : FR c1 c2 c3 (.cell none) (.cell none) (.cell none) (K.set c (.cell (some (.ref st)))) st = none := FR.isNone hst3 (FR.none hst0).2.1 (FR.none hst0).2.2.1 (FR.none hst0).2.2.2
  rw [FR.new hstF] at hL3 ⊢
  replace hF3 := hF3.new (o := .lst [.ref S, .int 0 tz]) hstF
  generalize K.set c (.cell (some (.ref st))) = K0 at *
  clear hL2 hst0 hcF hcc hSS hF2 hstF hSc nc hL1
  -- the rows
  refine W.sAssignComp (cs := [(Str.ofString "state", c)]) (by with_unfolding_all rfl) (by intro _; rfl) (by with_unfolding_all rfl) rfl (by decide) rfl (by rfl) (by rfl) ?_
  have hcV : (FR c1 c2 c3 (.cell none) (.cell none) (.cell none) (K0.set st (.lst [.ref S, .int 0 tz]))) c = some (.cell (some (.ref st))) := FR.sub hF3 _ _ (AH.set_new hst3 hc3)
  repeat k_data
  refine kpK' hK (by k_is) (W.op hL3 (W.opF hF3 trivial trivial trivial (W.call_ (WK.more (WK.mono (law_next (b := b) hK hst3 hS3 hi60 (by decide) (by decide) (by decide) hlen60) fun f τ q => ?_) (by omega)))) trivial)
  obtain ⟨_, rfl, t1, t2, rfl, rfl⟩ := q
  refine ⟨_, rfl, fun hF4 hL4 => ?_⟩
  have hb6 := nextV_bd (xs := xs) (k := 0) (lim := 6) (by decide)
  generalize nextV xs 0 6 = n6 at *
  repeat k_data
  refine W.op hL4 (W.callRange1 fun r hr hL5 => ?_) trivial
  have hrn := (FR.none hr).1
  have nrs : r ≠ st := AH.none_ne hrn
  have hr0 : K0 r = none := AH.none_in hrn
  have hF5 := hF4.new (o := rangeO 0 (1 + n6) 1) hr
  rw [FR.new hr, AH.set_comm nrs.symm] at hL5 ⊢
  rw [AH.set_comm nrs.symm] at hF5
  refine ⟨_, _, _, rfl, hL5, W.iterRange (r := r) (x := 0) (y := 1 + n6) (z := 1) (FR.sub hF5 _ _ (by rw [AH.set_ne nrs]; exact AH.set_self)) (small_one (by omega) (by omega) (by omega) (by omega)) fun I hI => ?_⟩
  have hS5 : (K0.set r (rangeO 0 (1 + n6) 1)) S = some (.lst vs) := AH.set_new hr0 hS3
  have hc5 : (K0.set r (rangeO 0 (1 + n6) 1)) c = some (.cell (some (.ref st))) := AH.set_new hr0 hc3
  have hst5 : (K0.set r (rangeO 0 (1 + n6) 1)) st = none := by rw [AH.set_ne nrs.symm]; exact hst3
  generalize K0.set r (rangeO 0 (1 + n6) 1) = K1 at *
  have e9 : Builtin.Range.rangeSize 0 (1 + n6) 1 = 1 + n6 := size_zero (by omega)
  rw [e9]
  refine CompAt.single (H₀ := FR c1 c2 c3 (.cell none) (.cell none) (.cell none) (K1.set st (.lst [.ref S, .int (0 + 1) t2]))) (fun L' => Src.range (x := 0) (step := 1) (n := (1 + n6).toNat) rfl) ⟨hI, by rw [show (((1 + n6).toNat : Nat) : Int) = 1 + n6 by omega]; simp⟩
    (fun i ys H' => ∃ K' k' t' rss, H' = FR c1 c2 c3 (.cell none) (.cell none) (.cell none) (K'.set st (.lst [.ref S, .int k' t'])) ∧ Fre c1 c2 c3 (K'.set st (.lst [.ref S, .int k' t'])) ∧ K' st = none ∧ Sub K1 K' ∧ 0 ≤ k' ∧ k' ≤ 1 + 13 * (i : Int) ∧ i ≤ 6 ∧ RowsAre K' ys rss ∧ ys.length = i)
    ⟨K1, _, _, [], rfl, hF5, hst5, .refl _, by omega, by omega, by omega, RowsAre.nil, rfl⟩ (fun i ys H' q => ?_) (fun L' i ys H' m v hiN hv q hL' => ?_) (fun D ys H' q hD => ?_)
  · obtain ⟨K', k', t', rss, rfl, g1, g2, g3, g4, g5, g6, g7, g8⟩ := q
    exact ⟨trivial, by omega⟩
  · obtain ⟨K', k', t', rss, rfl, g1, g2, g3, g4, g5, g6, g7, g8⟩ := q
    obtain ⟨tv, rfl⟩ := hv
    have hcV' : (FR c1 c2 c3 (.cell none) (.cell none) (.cell none) (K'.set st (.lst [.ref S, .int k' t']))) c = some (.cell (some (.ref st))) := FR.sub g1 _ _ (AH.set_new g2 (g3 _ _ hc5))
    repeat k_data
    refine W.eComp (cs := [(Str.ofString "state", c)]) (by intro _; rfl) (by with_unfolding_all rfl) rfl (by decide) rfl ?_
    repeat k_data
    refine kpK' hK (by k_is) (W.op hL' (W.opF g1 trivial trivial trivial (W.call_ (WK.more (WK.mono (law_next (b := b) hK g2 (g3 _ _ hS5) hi60 g4 (by omega) (by decide) hlen60) fun f τ q => ?_) (by omega)))) trivial)
    obtain ⟨_, rfl, t3, t4, rfl, rfl⟩ := q
    refine ⟨_, rfl, fun hF6 hL6 => ?_⟩
    have hb3 := nextV_bd (xs := xs) (k := k') (lim := 3) (by decide)
    generalize nextV xs k' 3 = n3 at *
    repeat k_data
    refine W.op hL6 (W.callRange1 fun r2 hr2 hL7 => ?_) trivial
    have hr2n := (FR.none hr2).1
    have nrs2 : r2 ≠ st := AH.none_ne hr2n
    have hr20 : K' r2 = none := AH.none_in hr2n
    have hF7 := hF6.new (o := rangeO 0 (1 + n3) 1) hr2
    rw [FR.new hr2, AH.set_comm nrs2.symm] at hL7 ⊢
    rw [AH.set_comm nrs2.symm] at hF7
    refine ⟨_, _, _, rfl, trivial, hL7, W.iterRange (r := r2) (x := 0) (y := 1 + n3) (z := 1) (FR.sub hF7 _ _ (by rw [AH.set_ne nrs2]; exact AH.set_self)) (small_one (by omega) (by omega) (by omega) (by omega)) fun I2 hI2 => ?_⟩
    have g3' : Sub K1 (K'.set r2 (rangeO 0 (1 + n3) 1)) := g3.trans (Sub.set hr20)
    have gst' : (K'.set r2 (rangeO 0 (1 + n3) 1)) st = none := by rw [AH.set_ne nrs2.symm]; exact g2
    have g7' : RowsAre (K'.set r2 (rangeO 0 (1 + n3) 1)) ys rss := g7.sub (Sub.set hr20)
    clear hr2 hr2n g7 g3 g2 hF6 hL6 hcV' g1 hr20
    generalize K'.set r2 (rangeO 0 (1 + n3) 1) = K2 at *
    have e93 : Builtin.Range.rangeSize 0 (1 + n3) 1 = 1 + n3 := size_zero (by omega)
    rw [e93]
    refine CompAt.single (H₀ := FR c1 c2 c3 (.cell none) (.cell none) (.cell none) (K2.set st (.lst [.ref S, .int (k' + 1) t4]))) (fun L' => Src.range (x := 0) (step := 1) (n := (1 + n3).toNat) rfl) ⟨hI2, by rw [show (((1 + n3).toNat : Nat) : Int) = 1 + n3 by omega]; simp⟩
      (fun j zs H' => ∃ K3 k3 t3 ss, H' = FR c1 c2 c3 (.cell none) (.cell none) (.cell none) (K3.set st (.lst [.ref S, .int k3 t3])) ∧ Fre c1 c2 c3 (K3.set st (.lst [.ref S, .int k3 t3])) ∧ K3 st = none ∧ Sub K2 K3 ∧ 0 ≤ k3 ∧ k3 ≤ k' + 1 + 4 * (j : Int) ∧ j ≤ 3 ∧ StepsV K3 zs ss ∧ (∀ s ∈ ss, s.fine) ∧ zs.length = j)
      ⟨K2, _, _, [], rfl, hF7, gst', .refl _, by omega, by omega, by omega, StepsV.nil, by simp, rfl⟩ (fun j zs H' q => ?_) (fun L2 j zs H' m2 v hjN hv q hL2 => ?_) (fun D zs H' q hD => ?_)
    · obtain ⟨K3, k3, t3, ss, rfl, q1, q2, q3, q4, q5, q6, q7, q8, q9⟩ := q
      exact ⟨trivial, by omega⟩
    · obtain ⟨K3, k3, t3, ss, rfl, q1, q2, q3, q4, q5, q6, q7, q8, q9⟩ := q
      obtain ⟨tv2, rfl⟩ := hv
      have hcV2 : (FR c1 c2 c3 (.cell none) (.cell none) (.cell none) (K3.set st (.lst [.ref S, .int k3 t3]))) c = some (.cell (some (.ref st))) := FR.sub q1 _ _ (AH.set_new q2 (q3 _ _ (g3' _ _ hc5)))
      repeat k_data
      refine kpK' hK (by k_is) (W.op hL2 (W.opF q1 trivial trivial trivial (W.call_ (WK.more (WK.mono (law_step (b := b) hK q2 (q3 _ _ (g3' _ _ hS5)) hi60 q4 (by omega) hlen60) fun f τ q => ?_) (by omega)))) trivial)
      obtain ⟨_, rfl, T, s, K4, k4, t5, rfl, p1, p2, p3, p4, p5, p6, rfl⟩ := q
      refine ⟨_, rfl, fun hF8 hL8 => ⟨_, _, rfl, hL8, K4, k4, t5, ss ++ [s], rfl, hF8, p2, q3.trans p1, by omega, by omega, by omega, (q7.sub p1).snoc p3, fun x hx => ?_, by simp [q9]⟩⟩
      rcases List.mem_append.mp hx with h | h
      · exact q8 x h
      · simp at h; subst h; exact p4
    · obtain ⟨K3, k3, t3, ss, rfl, q1, q2, q3, q4, q5, q6, q7, q8, q9⟩ := q
      intro hL9
      have hDn := (FR.none hD).1
      have nDs : D ≠ st := AH.none_ne hDn
      have hD0 : K3 D = none := AH.none_in hDn
      have hF9 := q1.new (o := .lst zs) hD
      rw [FR.new hD, AH.set_comm nDs.symm] at hL9 ⊢
      rw [AH.set_comm nDs.symm] at hF9
      refine ⟨_, _, rfl, hL9, K3.set D (.lst zs), k3, t3, rss ++ [ss], rfl, hF9, by rw [AH.set_ne nDs.symm]; exact q2, (g3'.trans q3).trans (Sub.set hD0), by omega, by omega, by omega, (g7'.sub (q3.trans (Sub.set hD0))).snoc ⟨D, zs, rfl, AH.set_self, q7.sub (Sub.set hD0)⟩ ⟨q8, ?_, ?_⟩, by simp [g8]⟩
      · have := q7.1; omega
      · have := q7.1; omega
  · obtain ⟨K', k', t', rss, rfl, g1, g2, g3, g4, g5, g6, g7, g8⟩ := q
    intro hL6
    have hD0 := FR.none hD
    have hsub : Sub (K'.set st (.lst [.ref S, .int k' t'])) ((FR c1 c2 c3 (.cell none) (.cell none) (.cell none) (K'.set st (.lst [.ref S, .int k' t']))).set D (.lst ys)) := (FR.sub g1).trans (Sub.set hD)
    have hsK : Sub K' ((FR c1 c2 c3 (.cell none) (.cell none) (.cell none) (K'.set st (.lst [.ref S, .int k' t']))).set D (.lst ys)) := (Sub.set g2).trans hsub
    have v1 := Sub.set (o := .lst ys) hD _ _ (FR.at1 (o1 := .cell none) (o2 := .cell none) (o3 := .cell none) g1)
    have v2 := Sub.set (o := .lst ys) hD _ _ (FR.at2 (o1 := .cell none) (o2 := .cell none) (o3 := .cell none) g1)
    have v3 := Sub.set (o := .lst ys) hD _ _ (FR.at3 (o1 := .cell none) (o2 := .cell none) (o3 := .cell none) (K := K'.set st (.lst [.ref S, .int k' t'])))
    have vst := hsub _ _ (AH.set_self (a := st) (o := .lst [.ref S, .int k' t']))
    have vS := hsK _ _ (g3 _ _ hS5)
    have vc := hsK _ _ (g3 _ _ hc5)
    have vr : RowsAre _ ys rss := g7.sub hsK
    have vD : ((FR c1 c2 c3 (.cell none) (.cell none) (.cell none) (K'.set st (.lst [.ref S, .int k' t']))).set D (.lst ys)) D = some (.lst ys) := AH.set_self
    have e12 := g1.d12
    have e13 := g1.d13
    have e23 := g1.d23
    have nst : c1 ≠ st ∧ c2 ≠ st ∧ c3 ≠ st := ⟨(fun e => by have h := g1.n1; rw [e, AH.set_self] at h; cases h), (fun e => by have h := g1.n2; rw [e, AH.set_self] at h; cases h), (fun e => by have h := g1.n3; rw [e, AH.set_self] at h; cases h)⟩
    have nS : S ≠ st := fun e => by have h := g3 _ _ hS5; rw [e, g2] at h; cases h
    clear hsub hsK hD hD0 g1 g2 g3 g7 hF5 hF4 hF3 hL5 hL4 hL3 hI hst5 hc5 hS5 hst3 hc3 hS3
    generalize (FR c1 c2 c3 (.cell none) (.cell none) (.cell none) (K'.set st (.lst [.ref S, .int k' t']))).set D (.lst ys) = V at *
    obtain ⟨oc, od, fd, osl, bd, ho, hbd⟩ : ∃ (oc : Value) (od : Option Addr) (fd : FuncData) (osl : Array (Option Value)) (bd : List Stmt), C.K.lookup 960 = some ⟨oc, od, .func fd, osl⟩ ∧ fd.body = .stmts bd := by
      exact hereCode (by rw [hK]; k_is) (by rfl)
    have r1 := law_seg1 (b := b) (c := c) (c1 := c1) (c2 := c2) (c3 := c3) (S0 := S0) (Q := Done L fun r x => r = Value.bool true) hK hGG ho hbd hL6 vD vr (by omega) (fun V' P T ps ts s1 l1 p1 p2 p3 p4 p5 p6 =>
      law_seg2 (b := b) hK hGG ho hbd l1 (s1 _ _ vD) (vr.sub s1) (by omega) p1 p2 p3 p4 p5 p6 (by kernel_rfl) (by kernel_rfl) (by kernel_rfl) (fun V2 m2 s2 l2 =>
        law_seg3 (b := b) hK ho hbd l2 (s2 _ _ (s1 _ _ vc)) (s2 _ _ (s1 _ _ vst)) (s2 _ _ (s1 _ _ vS)) nS hi60 hlen60 g4 (by omega) (fun V3 m3 D3 d3 s3 l3 q1 q2 q3 q4 =>
          law_seg4 (b := b) hK hG hGG ho hbd l3 (s3 _ _ (by rw [AH.drop_ne nst.1]; exact s2 _ _ (s1 _ _ v1))) (s3 _ _ (by rw [AH.drop_ne nst.2.1]; exact s2 _ _ (s1 _ _ v2))) (s3 _ _ (by rw [AH.drop_ne nst.2.2]; exact s2 _ _ (s1 _ _ v3))) e12 e13 e23 q1 q2 q3 q4 (fun V4 m4 E4 W4 T4 ms ws ts tss l4 w1 w2 w3 w4 w5 w6 w7 w8 =>
            law_seg5 (b := b) hK hGG ho hbd l4 w1 w2 w3 w4 w5 w6 w7 w8))))
    have r2 := fixCode (P := fun sc bd => thenRest C (b + 498) (bd.drop 2) (fEnv sc L [(Str.ofString "told", c3), (Str.ofString "wholes", c2), (Str.ofString "every", c1), (Str.ofString "state", c)] (Str.ofString "law" ++ Str.ofString ".<locals>.") 960 (.ref 959)) (Done L fun r x => r = Value.bool true) noX .next (V.set L (.ns "frame" [(Str.ofString "rows", .ref D), (Str.ofString "script", .ref S0)]))) (by rw [hK]; k_is) (by rfl) ho hbd r1
    exact r2
end
section
def clsFine (K : Frag) : Bool := K.all fun p => (match p.2.cls with | .type T => T != "frame" | .none => (match p.2.data with | .dict _ _ => true | _ => false) | _ => true)
theorem cls_fine {P : Params} : clsFine (hd.heap_39 P) = true := by kernel_rfl
theorem mem_of_look {α β : Type} [BEq α] [LawfulBEq α] {K : List (α × β)} {a : α} {o : β} (e : K.lookup a = some o) : (a, o) ∈ K := by
  induction K with
  | nil => cases e
  | cons p r ih =>
    obtain ⟨k, v⟩ := p
    rw [List.lookup_cons] at e
    split at e
    · rename_i h; cases e; rw [eq_of_beq h]; exact List.mem_cons_self
    · exact List.mem_cons_of_mem _ (ih e)
theorem kcls_of {K : Frag} (h : clsFine K = true) : ∀ a o, K.lookup a = some o → o.cls ≠ .type "frame" ∧ (o.cls = .none → ∃ es n, o.data = .dict es n) := by
  intro a o e
  have hm : (a, o) ∈ K := mem_of_look e
  have := List.all_eq_true.mp h _ hm
  dsimp only at this
  refine ⟨fun q => ?_, fun q => ?_⟩
  · rw [q] at this; simp at this
  · rw [q] at this
    cases hd : o.data with
    | dict es n => exact ⟨es, n, rfl⟩
    | _ => rw [hd] at this; simp at this
end
section
theorem law_walk (w : World) (s₁ : Shared) (mg mb : Str → Option Value) (hin : (hd.heap_39 w.params).In s₁.heap) (htab : s₁.heap.get? 448 = some (tabObj #[])) (htab2 : s₁.heap.get? 793 = some (tabObj #[])) (lim : s₁.heap.NoLimit) (g : s₁.heap.Ns mainGlobals mg) (b : s₁.heap.Ns builtinsNs mb)
    (bu : ∀ x : Str, x ≠ "__name__" → mb x = bootBuiltins x) (bm : ∃ bm ob, BMod s₁.heap mainGlobals mg bm ob) (hgens : s₁.gens = #[]) (a : Addr) (hmg : mg (Str.ofString "law") = some (.ref a))
    (l : Addr) (vs : List Value) (xs : List Int) (hL : s₁.heap.IsList l vs.toArray) (hI : IntsAre vs xs) (hlen : xs.length ≤ 63) :
      wpAny (model PySem.Challenge.rw_eq0018_03.prog w) callerA (PySem.call (.ref a) [.ref l]) (fun v s' => v = .bool true ∧ OldK s₁.heap s'.heap ∧ s'.os = s₁.os ∧ AllBare s'.gens) (fun _ _ => False) s₁ := by
  let C : Cx := { prog := PySem.Challenge.rw_eq0018_03.prog, w := w, h₁ := s₁.heap, K := hd.heap_39 w.params, mg := mg, mb := mb, kin := hin, kcls := kcls_of cls_fine, lim := lim, g := g, b := b, bu := bu, lo := 0 }
  have hG : Gens C 450 448 := ⟨bm, by
    obtain ⟨o, vs, f, tf, fl, tg, bb, n, tt, q1, q2, q3, q4, q5, q6, q7, q8, q9, q10⟩ := codeHd_of_K (c := 450) (P := 448) hin (by kernel_rfl)
    exact ⟨#[], ⟨o, vs, f, tf, fl, tg, bb, n, tt, _, q1, q3, q5, q6, q7, q8, q9, htab, rfl, by constructor, q10⟩, ⟨o, vs, q1, q2, q3, q4⟩, htab⟩⟩
  have hGG : Gens C 797 793 := ⟨bm, by
    obtain ⟨o, vs, f, tf, fl, tg, bb, n, tt, q1, q2, q3, q4, q5, q6, q7, q8, q9, q10⟩ := codeHd_of_K (c := 797) (P := 793) hin (by kernel_rfl)
    exact ⟨#[], ⟨o, vs, f, tf, fl, tg, bb, n, tt, _, q1, q3, q5, q6, q7, q8, q9, htab2, rfl, by constructor, q10⟩, ⟨o, vs, q1, q2, q3, q4⟩, htab2⟩⟩
  have ha960 : a = 960 := by
    have := (mg_of (n := Str.ofString "law") (v := .ref 960) hin g (by k_is)).symm.trans hmg
    injection this with this; injection this with this; exact this.symm
  subst ha960
  exact finish_true (C := C) (b := 500) rfl hgens (Nat.zero_le _) (by decide) (law_true (C := C) (b := 0) rfl hG hGG hL (intsAre_of hI) hlen)
end
end Mine
theorem PySem.Challenge.cw_eq0018_03_holds : PySem.Challenge.rw_eq0018_03.Holds :=
  Mine.head Mine.law_walk
