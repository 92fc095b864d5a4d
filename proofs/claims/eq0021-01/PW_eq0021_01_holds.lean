import PyProof.Rows.All
import Wide.All
import OpenK.AllK
import Wide.FinOn
import PyProof.CollectWalk
import PyProof.ListNew
import KE.KNestM
import Wide.BridgeG
import KE.KTurnsDict
import KE.KItemsList
import PyProof.ZipIter
import KE.KPairComp
import PyProof.WalksEnum
import PyProof.EnumMake
import KE.RegLcTurns
import PyProof.RulesFinally
import PyProof.Cells
import KE.KPairTest
import PyProof.ConsumeS
import KE.KTurns
import PyProof.ForAny
import PyProof.NeKinds
import Lean
import PySem.Challenge.RW_eq0021_01
set_option Elab.async false
section
open PySem PySem.W PyProof.Rows
namespace Mine
section
local macro_rules | `(tactic| o_head $_H) => `(tactic| skip)
set_option maxRecDepth 100000 in
set_option maxHeartbeats 8000000 in
/-- the written part of the heap behind the top: the library's k_head lays it as kf.heap_1 -/
theorem kf (h : PySem.Challenge.rw_eq0021_01.row.Holds) : PySem.Challenge.rw_eq0021_01.row.Holds := by
  k_head
  exact h
end
section
variable {tb : String → Option Builtin} {p : Program} {w : World}
/-- a tree of a list's objects -/
def grow : List Obj → BT → Nat → Option BT
  | [], t, _ => some t
  | o :: l, t, n => match ((t.ins n o).get n).isSome with
    | true => grow l (t.ins n o) (n + 1)
    | false => none
theorem list_ins {t : BT} {n : Nat} {o : Obj} (g : ((t.ins n o).get n).isSome = true) : (t.ins n o).list (n + 1) = t.list n ++ [o] := by
  have h := congrArg Heap.objs (absHeap_ins (life := default) g)
  have h' := congrArg Array.toList h
  simpa [absHeap, Heap.push] using h'
theorem grow_list : ∀ {l : List Obj} {t t' : BT} {n : Nat}, grow l t n = some t' → t'.list (n + l.length) = t.list n ++ l
  | [], t, t', n, h => by
    cases h
    simp
  | o :: l, t, t', n, h => by
    unfold grow at h
    cases e : ((t.ins n o).get n).isSome with
    | false => rw [e] at h; cases h
    | true =>
      rw [e] at h
      have := grow_list h
      rw [list_ins e] at this
      rw [List.length_cons, show n + (l.length + 1) = n + 1 + l.length by omega, this]
      simp
/-- a state over a tree -/
def toT (s : Shared) : Option SharedT := match grow s.heap.objs.toList .nil 0 with
  | some t => some ⟨t, s.heap.objs.size, s.heap.life, s.gens, s.drawn, s.toks, s.os⟩
  | none => none
theorem toT_abs {s : Shared} {x : SharedT} (h : toT s = some x) : x.abs = s := by
  unfold toT at h
  cases e : grow s.heap.objs.toList .nil 0 with
  | none => rw [e] at h; cases h
  | some t =>
    rw [e] at h
    cases h
    have g := grow_list e
    obtain ⟨⟨objs, life⟩, gens, drawn, toks, os⟩ := s
    have g' : t.list objs.size = objs.toList := by
      simpa [BT.list] using g
    simp [SharedT.abs, absHeap, g']
def topRunT (tb : String → Option Builtin) (p : Program) (w : World) (n₀ : Nat) (ann : Option Value) : Nat → SharedT → Thread → Option SharedT
  | 0, _, _ => none
  | n + 1, s, t => match through t with
    | true => some s
    | false => match stepOk n₀ ann t with
      | false => none
      | true => match stepT (denote tb) p w s t with
        | some (s', t') => topRunT tb p w n₀ ann n s' t'
        | none => none
theorem topRun_of {n₀ : Nat} {ann : Option Value} : ∀ {n : Nat} {s s' : SharedT} {t : Thread}, topRunT tb p w n₀ ann n s t = some s' → topRun tb p w n₀ ann n s.abs t = some s'.abs
  | 0, _, _, _, h => by cases h
  | n + 1, s, s', t, h => by
    unfold topRunT at h
    unfold topRun
    cases he : through t with
    | true => rw [he] at h; cases h; rfl
    | false =>
      rw [he] at h
      cases hk : stepOk n₀ ann t with
      | false => rw [hk] at h; cases h
      | true =>
        rw [hk] at h
        cases hs : stepT (denote tb) p w s t with
        | none => rw [hs] at h; cases h
        | some r => obtain ⟨s₂, t₂⟩ := r; rw [hs] at h; dsimp only; rw [stepT_spec hs]; exact topRun_of h
def impEndsT (tb : String → Option Builtin) (p : Program) (w : World) : Nat → SharedT → Thread → Option SharedT
  | 0, _, _ => none
  | n + 1, s, t => match t.atExitBegin with
    | some [] => some s
    | some (_ :: _) => none
    | none => match stepT (denote tb) p w s t with
      | some (s', t') => impEndsT tb p w n s' t'
      | none => none
theorem impEnds_of : ∀ {n : Nat} {s s' : SharedT} {t : Thread}, impEndsT tb p w n s t = some s' → importEnds tb p w n s.abs t = some s'.abs
  | 0, _, _, _, h => by cases h
  | n + 1, s, s', t, h => by
    unfold impEndsT at h
    unfold importEnds
    cases he : t.atExitBegin with
    | some l =>
      rw [he] at h
      cases l with
      | nil => cases h; rfl
      | cons _ _ => cases h
    | none =>
      rw [he] at h
      cases hs : stepT (denote tb) p w s t with
      | none => rw [hs] at h; cases h
      | some r => obtain ⟨s₂, t₂⟩ := r; rw [hs] at h; dsimp only; rw [stepT_spec hs]; exact impEnds_of h
def stage3 (tb : String → Option Builtin) (p : Program) (w : World) (N : Nat) (s₀ : Shared) (c : SharedT) : Option SharedT :=
  match topRunT tb p w s₀.heap.objs.size (s₀.heap.nsMap mainGlobals "__annotations__") N c (topStub p) with
  | none => none
  | some d => match staticsOk (importedModules p.main.body) s₀.heap d.abs.heap && namesBound p d.abs.heap && gensDone d.abs && laidKept s₀.heap d.abs.heap with
    | true => some d
    | false => none
def stage2 (tb : String → Option Builtin) (p : Program) (w : World) (N : Nat) (s₀ : Shared) : Option SharedT :=
  match s₀.heap.isNs mainGlobals && s₀.gens.size == 0 with
  | false => none
  | true => match toT s₀ with
    | none => none
    | some c => stage3 tb p w N s₀ c
def endsT (tb : String → Option Builtin) (p : Program) (w : World) (N : Nat) : Option SharedT :=
  match toT (start (opening p)).1 with
  | none => none
  | some a => match impEndsT tb (opening p) w N a (start (opening p)).2 with
    | none => none
    | some b => match fenceModules? p b.abs with
      | none => none
      | some s₀ => stage2 tb p w N s₀
theorem ends_of {N : Nat} {s : SharedT} (h : endsT tb p w N = some s) : openEnds tb p w N = some s.abs := by
  unfold endsT at h
  cases e1 : toT (start (opening p)).1 with
  | none => rw [e1] at h; cases h
  | some a =>
    rw [e1] at h; dsimp only at h
    cases e2 : impEndsT tb (opening p) w N a (start (opening p)).2 with
    | none => rw [e2] at h; cases h
    | some b =>
      rw [e2] at h; dsimp only at h
      cases e3 : fenceModules? p b.abs with
      | none => rw [e3] at h; cases h
      | some s₀ =>
        rw [e3] at h; dsimp only at h
        unfold stage2 at h
        cases e4 : s₀.heap.isNs mainGlobals && s₀.gens.size == 0 with
        | false => rw [e4] at h; cases h
        | true =>
          rw [e4] at h; dsimp only at h
          cases e5 : toT s₀ with
          | none => rw [e5] at h; cases h
          | some c =>
            rw [e5] at h; dsimp only at h
            unfold stage3 at h
            cases e6 : topRunT tb p w s₀.heap.objs.size (s₀.heap.nsMap mainGlobals "__annotations__") N c (topStub p) with
            | none => rw [e6] at h; cases h
            | some d =>
              rw [e6] at h; dsimp only at h
              have r1 := impEnds_of e2
              rw [toT_abs e1] at r1
              have r2 := topRun_of e6
              rw [toT_abs e5] at r2
              unfold openEnds fencedOpening topFrom
              rw [r1]
              simp only [Option.bind_some, e3, e4, r2]
              cases e7 : staticsOk (importedModules p.main.body) s₀.heap d.abs.heap && namesBound p d.abs.heap && gensDone d.abs && laidKept s₀.heap d.abs.heap with
              | false => rw [e7] at h; cases h
              | true => rw [e7] at h; cases h; rfl
/-- an object of the tree -/
def getT (t : BT) (n a : Nat) : Option Obj := match Nat.blt a n with
  | true => match t.get a with
    | some o => alive o
    | none => none
  | false => none
theorem getT_some {t : BT} {n a : Nat} {life : Life} {o : Obj} (h : getT t n a = some o) : (absHeap t n life).get? a = some o := by
  unfold getT at h
  cases e : Nat.blt a n with
  | false => rw [e] at h; cases h
  | true =>
    rw [e] at h
    cases e' : t.get a with
    | none => rw [e'] at h; cases h
    | some x =>
      rw [e'] at h
      rw [abs_get (Nat.le_of_ble_eq_true e) e']
      exact h
theorem getT_map {t : BT} {n : Nat} {life : Life} : ∀ {as : List Addr} {os : List Obj}, as.map (getT t n) = os.map some → as.map (absHeap t n life).get? = os.map some
  | [], [], _ => rfl
  | [], _ :: _, h => by cases h
  | _ :: _, [], h => by cases h
  | a :: as, o :: os, h => by
    simp only [List.map_cons, List.cons.injEq] at h ⊢
    exact ⟨getT_some h.1, getT_map h.2⟩
end
def asL : List Addr := [2, 3, 32, 34, 35, 37, 38, 46, 48, 49, 51, 52, 53, 54, 55, 56, 57, 60, 61, 63, 64, 69, 70, 78, 80, 81, 83, 84, 85, 87, 88, 90, 91, 92, 94, 95, 97, 98, 99, 101, 102, 104, 105, 106, 108, 109, 111, 112, 113, 115, 116, 118, 119, 120, 122, 123, 125, 126, 127, 129, 130, 132, 133, 134, 136, 137, 139, 140, 141, 142, 143, 144, 145, 155, 157, 158, 160, 161, 162, 163, 164, 165, 166, 168, 169, 171, 172, 173, 175, 176, 178, 179, 180, 181, 183, 184, 186, 187, 188, 190, 191, 193, 194, 195, 197, 198, 200, 201, 202, 203, 205, 206, 208, 209, 210, 211, 212, 213, 214, 217, 224, 226, 227, 229, 230, 231, 233, 234, 236, 237, 238, 240, 241, 243, 244, 245, 247, 248, 250, 251, 252, 254, 255, 257, 258, 259, 261, 262, 264, 265, 266, 268, 269, 271, 272, 273, 274, 275, 278, 285, 287, 288, 290, 291, 292, 294, 295, 297, 298, 299, 301, 302, 304, 305, 306, 308, 309, 311, 312, 313, 315, 316, 318, 319, 320, 322, 323, 325, 326, 327, 329, 330, 332, 333, 334, 335, 336, 339, 346, 348, 349, 351, 352, 353, 356, 357, 358, 360, 361, 363, 364, 365, 367, 368, 370, 371, 372, 374, 375, 377, 378, 379, 381, 382, 384, 385, 386, 388, 389, 391, 392, 393, 395, 396, 398, 399, 400, 402, 403, 405, 406, 407, 409, 410, 412, 413, 414, 416, 417, 419, 420, 421, 423, 424, 426, 427, 428, 429, 430, 433, 440, 442, 443, 445, 446, 447, 450, 451, 452, 454, 455, 457, 458, 459, 461, 462, 464, 465, 466, 469, 470, 471, 473, 474, 476, 477, 478, 481, 482, 483, 485, 486, 488, 489, 490, 492, 493, 495, 496, 497, 499, 500, 502, 503, 504, 506, 507, 509, 510, 511, 512, 513, 516, 523, 525, 526, 528, 529, 530, 532, 533, 535, 536, 537, 538, 539, 540, 542, 543, 545, 546, 547, 549, 550, 552, 553, 554, 555, 556, 557, 559, 560, 562, 563, 564, 566, 567, 569, 570, 571, 573, 574, 576, 577, 578, 581, 582, 583, 585, 586, 588, 589, 590, 592, 593, 595, 596, 597, 599, 600, 602, 603, 604, 606, 607, 609, 610, 611, 613, 614, 616, 617, 618, 620, 621, 623, 624, 625, 627, 628, 630, 631, 632, 634, 635, 637, 638, 639, 640, 641, 644, 651, 653, 654, 656, 657, 658, 659, 660, 661, 664, 665, 666, 668, 669, 671, 672, 673, 675, 676, 678, 679, 680, 682, 683, 685, 686, 687, 689, 690, 692, 693, 694, 696, 697, 699, 700, 701, 703, 704, 706, 707, 708, 710, 711, 713, 714, 715, 716, 717, 720, 727, 729, 730, 732, 733, 734, 736, 737, 739, 740, 741, 743, 744, 746, 747, 748, 750, 751, 753, 754, 755, 757, 758, 760, 761, 762, 764, 765, 767, 768, 769, 771, 772, 774, 775, 776, 779, 780, 781, 783, 784, 786, 787, 788, 790, 791, 793, 794, 795, 797, 798, 800, 801, 802, 805, 806, 807, 809, 810, 812, 813, 814, 815, 816, 819, 822, 823, 824, 826, 827, 829, 830, 831, 834, 835, 836, 838, 839, 841, 842, 843, 845, 846, 848, 849, 850, 852, 853, 855, 856, 857, 859, 860, 862, 863, 864, 866, 867, 869, 870, 871, 873, 874, 876, 877, 878, 880, 881, 883, 884, 885, 886, 888, 889, 891, 892, 893, 900, 902, 903, 905, 906, 907, 909, 910, 912, 913, 914, 917, 918, 919, 921, 922, 924, 925, 926, 928, 929, 931, 932, 933, 934, 935, 938, 940, 941, 943, 944, 945, 948, 949, 950, 952, 953, 955, 956, 957, 960, 961, 962, 964, 965, 967, 968, 969, 971, 972, 974, 975, 976, 979, 980, 981, 984, 985]
def looseL : List Str := [Str.ofString "_wall", Str.ofString "_Mark", Str.ofString "NOT_SET", Str.ofString "LIST_KEY", Str.ofString "_PLAIN_FIELD", Str.ofString "JSONPath", Str.ofString "DatumInContext", Str.ofString "Root", Str.ofString "This", Str.ofString "Child", Str.ofString "Descendants", Str.ofString "Fields", Str.ofString "Wildcard", Str.ofString "Index", Str.ofString "_find_array_elements", Str.ofString "_update_array_elements", Str.ofString "_filter_array_elements", Str.ofString "_create_list_key", Str.ofString "_clean_list_keys", Str.ofString "_holds", Str.ofString "_equality_holds", Str.ofString "_is_number", Str.ofString "_equal", Str.ofString "_compare", Str.ofString "_query_to_str", Str.ofString "Expression", Str.ofString "_law_next", Str.ofString "_law_value", Str.ofString "_law_kind", Str.ofString "_law_same", Str.ofString "_law_less", Str.ofString "_law_due", Str.ofString "_law_holds"]
def vw : Program := view PySem.Challenge.pw_eq0021_01 [0, 37]
def xt (s : Shared) : Bool := xlAt vw [] s && recOk [] s
def obsT (s : SharedT) : List (Option Obj) × List (Option Obj) := (asL.map (getT s.tree s.n), [872, 915].map (getT s.tree s.n))
noncomputable def ends (w : World) := endsT treeTable PySem.Challenge.pw_eq0021_01 w 14056
noncomputable def lhs (w : World) := (ends w).map fun s => (openSeen vw looseL (importedModules PySem.Challenge.pw_eq0021_01.main.body) xt true s.abs, obsT s)
noncomputable def rhs (w : World) := some (openGood vw looseL, ((kf.heap_1 w.params).map fun p => some p.2, [some (tabObj #[]), some (tabObj #[])]))
set_option maxHeartbeats 0
set_option maxRecDepth 100000
lay_quick lhs rhs
/-- the whole top, its looks and the written part, in one check of the kernel -/
theorem fast_ok (w : World) : PySem.W.Fast.tw14720033549999066060 w = PySem.W.Fast.tw1938990355778164159 w := by kernel_rfl
noncomputable abbrev hook : Hook := kmHook kf.heap_1 asL (fun _ => by kernel_rfl) [872, 915]
set_option maxRecDepth 100000 in
set_option maxHeartbeats 8000000 in
theorem left_ok : LeftO PySem.Challenge.pw_eq0021_01 vw looseL xt hook.obs hook.val 14056 true := fun w => by
  have h : lhs w = rhs w := by
    rw [PySem.W.Fast.te14720033549999066060, PySem.W.Fast.te1938990355778164159]
    exact fast_ok w
  unfold lhs rhs at h
  obtain ⟨d, hd, e⟩ := Option.map_eq_some_iff.mp h
  obtain ⟨e1, e2⟩ := Prod.mk.inj e
  obtain ⟨e3, e4⟩ := Prod.mk.inj e2
  have r := ends_of hd
  rw [r]
  have e5 := getT_map (life := d.life) (os := (kf.heap_1 w.params).map (·.2)) (by rw [List.map_map]; exact e3)
  have e6 := getT_map (life := d.life) (as := [872, 915]) (os := [tabObj #[], tabObj #[]]) e4
  rw [List.map_map] at e5
  exact congrArg some (Prod.ext e1 (Prod.ext e5 e6))
end Mine

end
section
open PySem PySem.W PyProof.Rows
namespace Mine

/-- what a called def of the text finds around it -/
structure Amb (w : World) (p : Program) (loose : List Str) (mean : ExcName → Option Value) (mg mb : Str → Option Value) (A₀ : Around) (base : Heap) (env : Env) (outer : List Env) (h₀ : Heap) (L : Addr) (h : Heap) (m : Str → Option Value) (news : List (Addr × Obj)) (dp un kd ku : Nat) : Prop where
  B : Below A₀ base outer h₀
  F : Fr h₀ L h m
  X : (kf.heap_1 w.params).In h₀
  N : News h₀ L h news
  T : Top p loose mean mg mb h₀
  hf : env.frame = some L
  hk : env.scope.kind = .function
  hd : dp + kd < recursionLimit
  hu : un + ku < cLine

abbrev topA (dp un : Nat) (gd : Option (List Code)) (env : Env) (outer : List Env) : Around := { handled := none, depth := dp, frames := some (env :: outer), guards := gd, units := un }

/-- the generators are bare, and not fewer than fl -/
def GB (fl : Nat) (g : Array GenState) : Prop := AllBare g ∧ fl ≤ g.size

/-- the contract of a call -/
def CallsTo (w : World) (f : Addr) (args : List Value) (news : List (Addr × Obj)) (kd ku : Nat) (post : Value → List (Addr × Obj) → Prop) : Prop :=
  ∀ (fl : Nat) (p : Program) (loose : List Str) (mean : ExcName → Option Value) (mg mb : Str → Option Value) (dp un : Nat) (gd : Option (List Code)) (env : Env) (outer : List Env) (A₀ : Around) (base h₀ : Heap) (L : Addr) (m : Str → Option Value) (s : Shared) (Q E : Value → Shared → Prop),
    Amb w p loose mean mg mb A₀ base env outer h₀ L s.heap m news dp un kd ku → GB fl s.gens →
    (∀ r news' h' tk' g', post r news' → GB fl g' → Fr h₀ L h' m → News h₀ L h' news' → Q r { s with heap := h', toks := tk', gens := g' }) →
    wpAny (model PySem.Challenge.rw_eq0021_01.row.prog w) (topA dp un gd env outer) (call (.ref f) args) Q E s

abbrev listObj (vs : List Value) (n : Nat) : Obj := { cls := .type "list", data := .seq vs.toArray n }
abbrev dictObj (es : List DictEntry) (n : Nat) : Obj := { cls := .type "dict", data := .dict es.toArray n }
end Mine

end

section
open PySem PySem.W PyProof.Rows
namespace Mine
inductive Key where
  | a | b | c
  deriving DecidableEq
def Key.str : Key → Str
  | .a => Str.ofString "a"
  | .b => Str.ofString "b"
  | .c => Str.ofString "c"
/-- the data that the law builds -/
inductive D where
  | num (n : Int)
  | txt (b : Bool)
  | tru (b : Bool)
  | nil
  | list (ds : List D)
  | dict (ks : List (Key × D))
def txtS : Bool → Str
  | false => Str.ofString "x"
  | true => Str.ofString "y"
abbrev PP : Program := PySem.Challenge.rw_eq0021_01.row.prog
mutual
/-- the ledger bears the datum at the value -/
def DIn (w : World) (nw : List (Addr × Obj)) : D → Value → Prop
  | .num n, v => 0 ≤ n ∧ n < 12 ∧ ∃ t, v = .int n t
  | .txt b, v => ∃ t, v = .str (txtS b) t
  | .tru b, v => v = .bool b
  | .nil, v => v = .none
  | .list ds, v => ∃ a vs n, v = .ref a ∧ (a, listObj vs n) ∈ nw ∧ ds.length ≤ 3 ∧ DsIn w nw ds vs
  | .dict ks, v => ∃ a es n, v = .ref a ∧ (a, dictObj es n) ∈ nw ∧ (a == sysModules) = false ∧ ks.length ≤ 3 ∧ ∃ kvs, (dictObj es n).IsDictOf (strKind PP w) kvs ∧ KsIn w nw ks kvs
def DsIn (w : World) (nw : List (Addr × Obj)) : List D → List Value → Prop
  | [], vs => vs = []
  | d :: ds, vs => ∃ v r, vs = v :: r ∧ DIn w nw d v ∧ DsIn w nw ds r
def KsIn (w : World) (nw : List (Addr × Obj)) : List (Key × D) → List (Str × Value) → Prop
  | [], kvs => kvs = []
  | (k, d) :: r, kvs => ∃ v r', kvs = (k.str, v) :: r' ∧ DIn w nw d v ∧ KsIn w nw r r'
end
mutual
theorem DIn.mono {w : World} {nw nw' : List (Addr × Obj)} (hs : ∀ p ∈ nw, p ∈ nw') : ∀ {d : D} {v : Value}, DIn w nw d v → DIn w nw' d v
  | .num _, _, h => h
  | .txt _, _, h => h
  | .tru _, _, h => h
  | .nil, _, h => h
  | .list ds, v, h => by
    unfold DIn at h ⊢
    obtain ⟨a, vs, n, e, hm, hl, hd⟩ := h
    exact ⟨a, vs, n, e, hs _ hm, hl, DsIn.mono hs hd⟩
  | .dict ks, v, h => by
    unfold DIn at h ⊢
    obtain ⟨a, vs, n, e, hm, hy, hl, kvs, hk, hd⟩ := h
    exact ⟨a, vs, n, e, hs _ hm, hy, hl, kvs, hk, KsIn.mono hs hd⟩
theorem DsIn.mono {w : World} {nw nw' : List (Addr × Obj)} (hs : ∀ p ∈ nw, p ∈ nw') : ∀ {ds : List D} {vs : List Value}, DsIn w nw ds vs → DsIn w nw' ds vs
  | [], _, h => h
  | d :: ds, vs, h => by
    unfold DsIn at h ⊢
    obtain ⟨v, r, e, h1, h2⟩ := h
    exact ⟨v, r, e, DIn.mono hs h1, DsIn.mono hs h2⟩
theorem KsIn.mono {w : World} {nw nw' : List (Addr × Obj)} (hs : ∀ p ∈ nw, p ∈ nw') : ∀ {ks : List (Key × D)} {kvs : List (Str × Value)}, KsIn w nw ks kvs → KsIn w nw' ks kvs
  | [], _, h => h
  | (k, d) :: r, es, h => by
    unfold KsIn at h ⊢
    obtain ⟨v, r', e, h1, h2⟩ := h
    exact ⟨v, r', e, DIn.mono hs h1, KsIn.mono hs h2⟩
end
theorem DsIn.length {w : World} {nw : List (Addr × Obj)} : ∀ {ds : List D} {vs : List Value}, DsIn w nw ds vs → vs.length = ds.length
  | [], _, h => by unfold DsIn at h; rw [h]; rfl
  | d :: ds, _, h => by
    unfold DsIn at h
    obtain ⟨v, r, rfl, _, h2⟩ := h
    simp [DsIn.length h2]
theorem DsIn.get {w : World} {nw : List (Addr × Obj)} : ∀ {ds : List D} {vs : List Value}, DsIn w nw ds vs → ∀ {i : Nat} {v : Value}, vs[i]? = some v → ∃ d, ds[i]? = some d ∧ DIn w nw d v
  | [], _, h, i, v, e => by unfold DsIn at h; rw [h] at e; simp at e
  | d :: ds, _, h, i, v, e => by
    unfold DsIn at h
    obtain ⟨v', r, rfl, h1, h2⟩ := h
    cases i with
    | zero => simp at e; subst e; exact ⟨d, rfl, h1⟩
    | succ i => simp at e; obtain ⟨d', e', h'⟩ := DsIn.get h2 e; exact ⟨d', by simpa using e', h'⟩
theorem KsIn.length {w : World} {nw : List (Addr × Obj)} : ∀ {ks : List (Key × D)} {kvs : List (Str × Value)}, KsIn w nw ks kvs → kvs.length = ks.length
  | [], _, h => by unfold KsIn at h; rw [h]; rfl
  | (k, d) :: ds, _, h => by
    unfold KsIn at h
    obtain ⟨v, r, rfl, _, h2⟩ := h
    simp [KsIn.length h2]
theorem KsIn.get {w : World} {nw : List (Addr × Obj)} : ∀ {ks : List (Key × D)} {kvs : List (Str × Value)}, KsIn w nw ks kvs → ∀ {i : Nat} {k : Str} {v : Value}, kvs[i]? = some (k, v) → ∃ k' d, ks[i]? = some (k', d) ∧ k = k'.str ∧ DIn w nw d v
  | [], _, h, i, k, v, e => by unfold KsIn at h; rw [h] at e; simp at e
  | (k', d) :: ds, _, h, i, k, v, e => by
    unfold KsIn at h
    obtain ⟨v', r, rfl, h1, h2⟩ := h
    cases i with
    | zero => simp at e; obtain ⟨rfl, rfl⟩ := e; exact ⟨k', d, rfl, rfl, h1⟩
    | succ i => simp at e; obtain ⟨k'', d', e', h'⟩ := KsIn.get h2 e; exact ⟨k'', d', by simpa using e', h'⟩
def D.isNum : D → Bool | .num _ => true | _ => false
def D.isTxt : D → Bool | .txt _ => true | _ => false
def D.isTru : D → Bool | .tru _ => true | _ => false
def D.isList : D → Bool | .list _ => true | _ => false
def D.isDict : D → Bool | .dict _ => true | _ => false
theorem fill : ∀ (w : World) (h : Heap), (kf.heap_1 w.params).In h → PySem.Challenge.rw_eq0021_01 = PySem.Challenge.rw_eq0021_01 := by
  k_fill
  intros; rfl
end Mine

end

section
open PySem PySem.W PyProof.Rows
set_option linter.unusedVariables false
namespace Mine
theorem fillDefs2 : ∀ (w : World) (h : Heap), (kf.heap_1 w.params).In h → PySem.Challenge.rw_eq0021_01 = PySem.Challenge.rw_eq0021_01 := by
  k_fill
  intros; rfl
local macro_rules | `(tactic| k_mem) => `(tactic| assumption)
local macro_rules | `(tactic| k_all) => `(tactic| with_reducible assumption)
local macro_rules | `(tactic| ktr_enter) => `(tactic| (k_dflt (refine' code_def ?k1 ?k2 ?k3 ?k4 ?k5 ?kA ?kF ?kK ?k6 ?k7 ?k8 ?k9 ?kB ?_ ?c2 ?c3 ?c4 ?c5; (case kA => exact rfl); (case kF => first | exact rfl | assumption); (case kK => first | exact rfl | assumption); (case k1 => k_asm); (case k2 => k_asm); (case k3 => k_asm); (case k4 => k_asm); (case k5 => k_asm); (case k6 => k_is); (case k7 => k_is); (case k8 => ((try dsimp only [topA]); omega)); (case k9 => exact BindsTo.of_eq rfl); (case c5 => decide); (case kB => exact locs rfl); (case c2 => exact rfl); (case c3 => exact rfl); (case c4 => exact rfl); k_whole; intro g' L' h' FG' F' N' B' X' T'; (try dsimp only); (try k_fold))))
inductive Sg where
  | eq | ne | lt | gt | le | ge
  deriving DecidableEq
def Sg.str : Sg → Str
  | .eq => Str.ofString "=="
  | .ne => Str.ofString "!="
  | .lt => Str.ofString "<"
  | .gt => Str.ofString ">"
  | .le => Str.ofString "<="
  | .ge => Str.ofString ">="
def Sg.turn : Sg → Sg
  | .eq => .eq
  | .ne => .ne
  | .lt => .gt
  | .gt => .lt
  | .le => .ge
  | .ge => .le
def cmpInt : Sg → Int → Int → Bool
  | .eq, a, b => decide (a = b)
  | .ne, a, b => !decide (a = b)
  | .lt, a, b => decide (a < b)
  | .gt, a, b => decide (b < a)
  | .le, a, b => decide (a ≤ b)
  | .ge, a, b => decide (b ≤ a)
def cmpTxt : Sg → Bool → Bool → Bool
  | .eq, a, b => a == b
  | .ne, a, b => !(a == b)
  | .lt, a, b => !a && b
  | .gt, a, b => !b && a
  | .le, a, b => !a || b
  | .ge, a, b => !b || a
/-- what `_holds` gives back, on two numbers or two texts -/
def holdsD : Sg → D → D → Bool
  | s, .num a, .num b => cmpInt s a b
  | s, .txt a, .txt b => cmpTxt s a b
  | _, _, _ => false
def sameKind : D → D → Bool
  | .num _, .num _ => true
  | .txt _, .txt _ => true
  | _, _ => false
def eqHolds : Sg → Bool → Bool
  | .ne, e => !e
  | .eq, e => e
  | .le, e => e
  | .ge, e => e
  | .lt, _ => false
  | .gt, _ => false
theorem news_sub {h₀ h : Heap} {L : Addr} {l l' : List (Addr × Obj)} (N : News h₀ L h l) (s : ∀ p ∈ l', p ∈ l) : News h₀ L h l' := fun p hp => N p (s p hp)
end Mine

end

section
open PySem PySem.W PyProof.Rows PySem.Calls
set_option linter.unusedVariables false
set_option maxHeartbeats 2000000
namespace Mine
open LCg
section
variable {fl : Nat} {prog : Program} {w : World} {A : Around} {E : Value → Shared → Prop} {h₀ : Heap} {L : Addr} {m : Str → Option Value} {env : Env}

/-- what one turn of a comprehension leaves -/
def GEnd (fl : Nat) (h₀ : Heap) (L : Addr) (m : Str → Option Value) (s : Shared) (S : List (Addr × Obj) → Prop) (I : Addr) (oI : Obj) (C D : Addr) (rest : Obj → List (Addr × Obj) → Prop) (s₂ : Shared) : Prop :=
  ∃ h' tk g oC m₂ oD nw, s₂ = { s with heap := h', toks := tk, gens := g } ∧ GB fl g ∧ NsObj oC m₂ ∧ Fr h₀ L h' m ∧ News h₀ L h' ((I, oI) :: (C, oC) :: (D, oD) :: nw) ∧ Off3 I C D nw ∧ S nw ∧ rest oD nw

abbrev PT := Addr → Addr → (Shared → Prop) → (Value → Shared → Prop) → Shared → Prop

/-- the turns that are left -/
def GRest (fl : Nat) (h₀ : Heap) (L : Addr) (m : Str → Option Value) (x : Str) (Bd : PT) (s : Shared) (S : List (Addr × Obj) → Prop) (P : Nat → Value → Prop) (Fin : Obj → List (Addr × Obj) → Prop) : Nat → Nat → Obj → List (Addr × Obj) → Prop
  | 0, _, oD, nw => Fin oD nw
  | k + 1, i, oD, nw => ∀ v I oI C oC D m₂ h tk g (E' : Value → Shared → Prop) (Post : Shared → Prop), P i v → NsObj oC m₂ → m₂ x = some v → Fr h₀ L h m → News h₀ L h ((I, oI) :: (C, oC) :: (D, oD) :: nw) → Off3 I C D nw → ((@Ne Nat I C) ∧ (@Ne Nat I D) ∧ (@Ne Nat C D)) → GB fl g →
      (∀ s₂, GEnd fl h₀ L m s S I oI C D (GRest fl h₀ L m x Bd s S P Fin k (i + 1)) s₂ → Post s₂) → Bd C D Post E' { s with heap := h, toks := tk, gens := g }

def LoopRule (prog : Program) (w : World) (A : Around) (e : Expr) (x : Str) (px : Pos) (mk : Addr → Env) (Bd : PT) : Prop :=
  ∀ (I C D : Addr) (R : Result → Shared → Prop) (Inv : Nat → Shared → Prop),
    (∀ n s, Inv n s → wpAny (model prog w) A (pyNext (.ref I)) (fun r s₁ => match r with
      | none => R (.ok .next) s₁
      | some v => wpAny (model prog w) A (assign (.Name x px) (mk C) v) (fun _ s₂ => Bd C D (fun s₃ => ∃ m', m' < n ∧ Inv m' s₃) (notedBy (model prog w) A (mk C) fun e s' => R (.error e) s') s₂) (notedBy (model prog w) A (mk C) fun e s' => R (.error e) s') s₁)
      (notedBy (model prog w) A (mk C) fun e s' => R (.error e) s') s) →
    ∀ n s, Inv n s → codeAny (model prog w) A (.compLoop e 0 (.ref I) (.ref D) (mk C)) R s
def StartRule (prog : Program) (w : World) (A : Around) (e : Expr) : Prop :=
  ∀ (it acc : Value) (env : Env) (R : Result → Shared → Prop) (s : Shared), codeAny (model prog w) A (.compLoop e 0 it acc env) R s →
    wpAny (model prog w) A (pyIter it) (fun it' s' => codeAny (model prog w) A (.compLoop e 0 it' acc env) R s') (notedBy (model prog w) A env fun x s' => R (.error x) s') s →
    codeAny (model prog w) A (.compStart e 0 it acc env) R s

theorem block_G {e : Expr} {x : Str} {px : Pos} {scope : Scope} {cl : List (Str × Addr)} {Bd : PT} {newAcc : Sem Value} {oD₀ : Obj} {s₂ : Shared} {I : Addr} {fp : List Addr} {n : Nat} {P : Nat → Value → Prop} {St : Nat → Heap → Prop} {S : List (Addr × Obj) → Prop} {news : List (Addr × Obj)}
    {Fin : Obj → List (Addr × Obj) → Prop} {RR : Value → Addr → Result → Shared → Prop}
    (LT : LoopRule prog w A e x px (fun C => compEnvC scope cl C env) Bd) (ST : StartRule prog w A e)
    (hAcc : ∀ (s : Shared) (Q : Value → Shared → Prop), Q (.ref s.heap.objs.size) { s with heap := s.heap.push oD₀ } → wpAny (model prog w) A newAcc Q E s) (hfree : oD₀.isFreed = false)
    (W : Walks prog w A I fp [I] n P St) (hIo : ∀ i h, St i h → ∃ o, h.get? I = some o)
    (hSt : ∀ i h h' o nw, St i h → h.get? I = some o → h'.get? I = some o → (∀ b o, h₀.get? b = some o → h'.get? b = some o) → News h₀ L h' nw → S nw → St i h')
    (hcell : ∀ y ∈ scope.names, y.2 ≠ .cell) (hkind : scope.kind = .function) (hx : scope.names.lookup x = some .local) (hst : St 0 s₂.heap) (hfp : ∀ b ∈ fp, b < s₂.heap.objs.size)
    (hG : GB fl s₂.gens) (F : Fr h₀ L s₂.heap m) (N : News h₀ L s₂.heap news) (hIL : L ≠ I) (hI₀ : h₀.get? I = none) (off : ∀ p ∈ news, p.1 ≠ I) (hS : S news)
    (R : GRest fl h₀ L m x Bd s₂ S P Fin n 0 oD₀ news)
    (hRR : ∀ D C h tk g m' oD news', GB fl g → Fr h₀ L h m → News h₀ L h ((D, oD) :: news') → Off1 D news' → h.Ns C m' → h₀.get? C = none → h₀.get? D = none → C ≠ L → D ≠ L → C ≠ D → (∀ p ∈ news', p.1 ≠ C) → (@_root_.LT.lt Nat _ L D) → Fin oD news' → RR (.ref D) C (.ok .next) { s₂ with heap := h, toks := tk, gens := g }) :
    wpAny (model prog w) A newAcc (fun acc s₃ => wpAny (model prog w) A (newFunctionEnv scope env.globals cl [] env.qual none .none (some env)) (fun cenv s₄ =>
      codeAny (model prog w) A (.compStart e 0 (.ref I) acc { cenv with scope := relabel scope env }) (RR acc cenv.locals) s₄) E s₃) E s₂ := by
  refine hAcc _ _ (wpAny_newFunctionEnv hcell (by intro y hy; simp at hy) (fun h₁ hns₁ hsb₁ => ?_) hkind)
  dsimp only at hns₁ hsb₁ ⊢
  generalize hH2 : s₂.heap.push oD₀ = H2 at hns₁ hsb₁ ⊢
  have hC : H2.objs.size = s₂.heap.objs.size + 1 := by rw [← hH2, Heap.size_push]
  have hDC : s₂.heap.objs.size ≠ H2.objs.size := by rw [hC]; exact Nat.ne_of_lt (Nat.lt_succ_self _)
  have below : ∀ b, b < s₂.heap.objs.size → b ≠ H2.objs.size ∧ b ≠ s₂.heap.objs.size := fun b hb => ⟨by rw [hC]; exact Nat.ne_of_lt (Nat.lt_succ_of_lt hb), Nat.ne_of_lt hb⟩
  have hDf : s₂.heap.objs.size ∉ fp := fun hm => Nat.lt_irrefl _ (hfp _ hm)
  have hCf : H2.objs.size ∉ fp := fun hm => by have := hfp _ hm; rw [hC] at this; exact Nat.lt_irrefl _ (Nat.lt_of_succ_lt this)
  have hIf : I ∈ fp := W.sub I (List.mem_singleton.mpr rfl)
  have hIlt : I < s₂.heap.objs.size := hfp I hIf
  have old : ∀ b o, s₂.heap.get? b = some o → h₁.get? b = some o := fun b o e => hsb₁.extBut b o (below b (Heap.lt_size e)).1 (Heap.get?_push_of_some _ (hH2 ▸ Heap.get?_push_of_some _ e))
  have hacc : h₁.get? s₂.heap.objs.size = some oD₀ := hsb₁.extBut _ _ hDC (Heap.get?_push_of_some _ (hH2 ▸ Heap.get?_push_size _ hfree))
  have hst₁ : St 0 h₁ := W.frame _ _ _ hst fun b _ o e => old b o e
  have fresh : ∀ a, s₂.heap.objs.size ≤ a → s₂.heap.get? a = none := fun a ha => by
    cases e : s₂.heap.get? a with
    | none => rfl
    | some o' => exact absurd (Heap.lt_size e) (Nat.not_lt.mpr ha)
  have fresh₀ : ∀ a, s₂.heap.objs.size ≤ a → h₀.get? a = none := fun a ha => by
    cases e : h₀.get? a with
    | none => rfl
    | some o' => have := F.keep a o' e; rw [fresh a ha] at this; cases this
  have hD₀ : h₀.get? s₂.heap.objs.size = none := fresh₀ _ (Nat.le_refl _)
  have hC₀ : h₀.get? H2.objs.size = none := fresh₀ _ (by rw [hC]; exact Nat.le_succ _)
  have hLlt : L < s₂.heap.objs.size := F.ns.lt
  have hDL : s₂.heap.objs.size ≠ L := Ne.symm (below L hLlt).2
  have hCL : H2.objs.size ≠ L := Ne.symm (below L hLlt).1
  have hCI : I ≠ H2.objs.size := (below I hIlt).1
  have hDI : I ≠ s₂.heap.objs.size := (below I hIlt).2
  have off₀ : Off3 I H2.objs.size s₂.heap.objs.size news := Off3.of fun p hp => ⟨off p hp, (below _ (Heap.lt_size (N p hp).1)).1, (below _ (Heap.lt_size (N p hp).1)).2⟩
  have loop : ∀ s₃ : Shared, s₃ = { s₂ with heap := h₁, toks := s₂.toks + ([] : List (Str × Value)).length } →
      codeAny (model prog w) A (.compLoop e 0 (.ref I) (.ref s₂.heap.objs.size) (compEnvC scope cl H2.objs.size env)) (RR (.ref s₂.heap.objs.size) H2.objs.size) s₃ := by
    rintro s₃ rfl
    refine LT I H2.objs.size s₂.heap.objs.size _
      (fun k s' => ∃ h' tk g i oD m' news', s' = { s₂ with heap := h', toks := tk, gens := g } ∧ GB fl g ∧ i ≤ n ∧ k = n + 1 - i ∧ St i h' ∧ Fr h₀ L h' m ∧ h'.Ns H2.objs.size m' ∧ News h₀ L h' ((s₂.heap.objs.size, oD) :: news') ∧
        Off3 I H2.objs.size s₂.heap.objs.size news' ∧ S news' ∧ GRest fl h₀ L m x Bd s₂ S P Fin (n - i) i oD news') ?_ (n + 1) _
      ⟨h₁, s₂.toks, s₂.gens, 0, oD₀, _, news, rfl, hG, Nat.zero_le _, rfl, hst₁, (F.keeps old), hns₁, fun p hp => ?_, off₀, hS, R⟩
    · rintro k s' ⟨h', tk, g, i, oD, m', news', rfl, hg, hi, rfl, hst', F', hn', N', off', hS', R'⟩
      by_cases hlt : i < n
      · obtain ⟨j, hj⟩ : ∃ j, n - i = j + 1 := ⟨n - i - 1, by omega⟩
        rw [hj] at R'
        refine W.item i _ _ _ hlt hst' fun v h₂ tk₂ hPv hst₂ hk₂ => ?_
        refine wpAny_assign_Name (wpAny_storeName_local (lookup_relabel_local hx) (hn'.at' fun o e => hk₂ _ o (by simpa using Ne.symm hCI) e) (fun h₃ hn₃ hs₃ => ?_) (by simp [compEnvC, relabel, hkind]))
        have hst₃ : St (i + 1) h₃ := W.frame _ _ _ hst₂ fun b hb o e => hs₃.extBut b o (fun q => hCf (by have q' : b = H2.objs.size := q; rw [← q']; exact hb)) e
        obtain ⟨oI, heI⟩ := hIo _ _ hst₃
        obtain ⟨oC, heC, hoC⟩ := ns_obj hn₃
        have F₃ : Fr h₀ L h₃ m := (fr_but F' hk₂ hIL hI₀).change hs₃ hCL hC₀
        have off3 := off'.mem
        have N₂ : News h₀ L h₂ ((s₂.heap.objs.size, oD) :: news') := news_but N' hk₂ fun p hp => by
          rcases List.mem_cons.mp hp with rfl | hp
          · exact Ne.symm hDI
          · exact (off3 p hp).1
        have N₃ : News h₀ L h₃ ((I, oI) :: (H2.objs.size, oC) :: (s₂.heap.objs.size, oD) :: news') := fun p hp => by
          rcases List.mem_cons.mp hp with rfl | hp
          · exact ⟨heI, Ne.symm hIL, hI₀⟩
          · rcases List.mem_cons.mp hp with rfl | hp
            · exact ⟨heC, hCL, hC₀⟩
            · have z := N₂ p hp
              refine ⟨hs₃.extBut _ _ ?_ z.1, z.2⟩
              rcases List.mem_cons.mp hp with rfl | hp
              · exact hDC
              · exact (off3 p hp).2.1
        refine R' v I oI H2.objs.size oC s₂.heap.objs.size _ h₃ _ _ _ _ hPv hoC (by simp) F₃ N₃ off' ⟨hCI, hDI, Ne.symm hDC⟩ hg (fun s₄ h₄ => ?_)
        obtain ⟨h₄, tk₄, g₄, oC₄, m₄, oD₄, news₄, rfl, hg₄, hoC₄, F₄, N₄, off₄, hS₄, R₄⟩ := h₄
        have zI := (N₄ (I, oI) List.mem_cons_self).1
        have zC := (N₄ (H2.objs.size, oC₄) (List.mem_cons_of_mem _ List.mem_cons_self)).1
        have N₄' : News h₀ L h₄ news₄ := fun p hp => N₄ p (List.mem_cons_of_mem _ (List.mem_cons_of_mem _ (List.mem_cons_of_mem _ hp)))
        have hst₄ : St (i + 1) h₄ := hSt _ _ _ _ _ hst₃ heI zI F₄.keep N₄' hS₄
        refine ⟨n + 1 - (i + 1), by omega, h₄, tk₄, g₄, i + 1, oD₄, _, news₄, rfl, hg₄, hlt, rfl, hst₄, F₄, hoC₄.ns zC, fun p hp => N₄ p (List.mem_cons_of_mem _ (List.mem_cons_of_mem _ hp)), off₄, hS₄, ?_⟩
        rw [show n - (i + 1) = j by omega]
        exact R₄
      · obtain rfl : i = n := Nat.le_antisymm hi (Nat.not_lt.mp hlt)
        rw [Nat.sub_self] at R'
        refine W.done _ _ _ hst' fun h₂ tk₂ hk₂ => ?_
        have off3 := off'.mem
        exact hRR _ _ h₂ tk₂ g _ oD news' hg (fr_but F' hk₂ hIL hI₀) (news_but N' hk₂ fun p hp => by
          rcases List.mem_cons.mp hp with rfl | hp
          · exact Ne.symm hDI
          · exact (off3 p hp).1) off'.one (hn'.at' fun o e => hk₂ _ o (by simpa using Ne.symm hCI) e) hC₀ hD₀ hCL hDL (Ne.symm hDC) (fun p hp => (off3 p hp).2.1) hLlt R'
    · rcases List.mem_cons.mp hp with rfl | hp
      · exact ⟨hacc, hDL, hD₀⟩
      · exact ⟨old _ _ (N p hp).1, (N p hp).2⟩
  exact ST _ _ _ _ _ (loop _ rfl) (W.self 0 _ _ _ hst₁ (loop _ rfl))

/-- the source of the turns -/
def GSrc (fl : Nat) (prog : Program) (w : World) (A : Around) (E : Value → Shared → Prop) (h₀ : Heap) (L : Addr) (m : Str → Option Value) (x : Str) (Bd : PT) (oD₀ : Obj) (Fin : Shared → Obj → List (Addr × Obj) → Prop) (xv : Value) (s₁ : Shared) : Prop :=
  wpAny (model prog w) A (pyIter xv) (fun it s₂ => ∃ I fp n P St S nw, it = .ref I ∧ GB fl s₂.gens ∧ Walks prog w A I fp [I] n P St ∧ (∀ i h, St i h → ∃ o, h.get? I = some o) ∧
    (∀ i h h' o nw, St i h → h.get? I = some o → h'.get? I = some o → (∀ b o, h₀.get? b = some o → h'.get? b = some o) → News h₀ L h' nw → S nw → St i h') ∧ St 0 s₂.heap ∧ (∀ b ∈ fp, b < s₂.heap.objs.size) ∧
    Fr h₀ L s₂.heap m ∧ News h₀ L s₂.heap nw ∧ L ≠ I ∧ h₀.get? I = none ∧ (∀ p ∈ nw, p.1 ≠ I) ∧ S nw ∧ GRest fl h₀ L m x Bd s₂ S P (Fin s₂) n 0 oD₀ nw) E s₁

def GFin (fl : Nat) (h₀ : Heap) (L : Addr) (m : Str → Option Value) (Q : Value → Shared → Prop) (s : Shared) (oD : Obj) (nw : List (Addr × Obj)) : Prop :=
  ∀ D h tk g, GB fl g → Fr h₀ L h m → News h₀ L h ((D, oD) :: nw) → Off1 D nw → (@_root_.LT.lt Nat _ L D) → Q (.ref D) { s with heap := h, toks := tk, gens := g }
def GFinA (fl : Nat) (h₀ : Heap) (L : Addr) (m : Str → Option Value) (y : Str) (Q : Flow → Shared → Prop) (s : Shared) (oD : Obj) (nw : List (Addr × Obj)) : Prop :=
  ∀ D h tk g, GB fl g → Fr h₀ L h (fun z => if z = y then some (.ref D) else m z) → News h₀ L h ((D, oD) :: nw) → Off1 D nw → (@_root_.LT.lt Nat _ L D) → Q .next { s with heap := h, toks := tk, gens := g }

theorem comp_G {e : Expr} {x : Str} {px : Pos} {iter : Expr} {ifs : List Expr} {gs : List Comprehension} {scope : Scope} {cl : List (Str × Addr)} {Bd : PT} {newAcc : Sem Value} {oD₀ : Obj} {pos : Pos} {s : Shared} {Q : Value → Shared → Prop}
    (LT : LoopRule prog w A e x px (fun C => compEnvC scope cl C env) Bd) (ST : StartRule prog w A e)
    (hAcc : ∀ (s : Shared) (Q : Value → Shared → Prop) (E : Value → Shared → Prop), Q (.ref s.heap.objs.size) { s with heap := s.heap.push oD₀ } → wpAny (model prog w) A newAcc Q E s) (hfree : oD₀.isFreed = false)
    (hcl : clausesOf e = ⟨.Name x px, iter, ifs, 0⟩ :: gs) (hs : ∀ x, foldedSetIterable iter env x = pure x)
    (hclos : closureFor scope env = pure cl) (hcell : ∀ y ∈ scope.names, y.2 ≠ .cell) (hkind : scope.kind = .function)
    (hnames : ∀ y ∈ scope.names, y.2 = .local → scope.names.lookup y.1 = some .local) (hx : scope.names.lookup x = some .local)
    (h : wpAny (model prog w) A (eval iter env) (GSrc fl prog w A E h₀ L m x Bd oD₀ (GFin fl h₀ L m Q)) E s) :
    wpAny (model prog w) A (comprehension e scope env pos newAcc false (eval iter env)) Q E s := by
  refine wpAny_comprehension_free (use := none) hcl hs hclos hkind hnames (wpAny_mono h (fun xv s₁ h₁ => wpAny_mono h₁ (fun it s₂ h₂ => ?_) fun _ _ e => e) fun _ _ e => e)
  obtain ⟨I, fp, n, P, St, S, nw, rfl, hG, W, hIo, hSt, hst, hfp, F, N, hIL, hI₀, off, hS, R⟩ := h₂
  refine block_G LT ST (fun s Q => hAcc s Q E) hfree W hIo hSt hcell hkind hx hst hfp hG F N hIL hI₀ off hS R ?_
  intro D C h tk g m' oD news' hg F' N' o1 hn hC₀ hD₀ hCL hDL hCD offC hLD fin
  refine ⟨m', hn, fun h'' hs'' => fin D h'' tk g hg (F'.change hs'' hCL hC₀) (fun p hp => ?_) o1 hLD⟩
  refine ⟨hs''.extBut _ _ ?_ (N' p hp).1, (N' p hp).2⟩
  rcases List.mem_cons.mp hp with rfl | hp
  · exact Ne.symm hCD
  · exact offC p hp

theorem comp_GA {e : Expr} {x y : Str} {px py : Pos} {iter : Expr} {ifs : List Expr} {gs : List Comprehension} {scope : Scope} {cl : List (Str × Addr)} {Bd : PT} {newAcc : Sem Value} {oD₀ : Obj} {pos : Pos} {s : Shared} {Q : Flow → Shared → Prop} (hLe : env.locals = L)
    (LT : LoopRule prog w A e x px (fun C => compEnvC scope cl C env) Bd) (ST : StartRule prog w A e)
    (hAcc : ∀ (s : Shared) (Q : Value → Shared → Prop) (E : Value → Shared → Prop), Q (.ref s.heap.objs.size) { s with heap := s.heap.push oD₀ } → wpAny (model prog w) A newAcc Q E s) (hfree : oD₀.isFreed = false)
    (hcl : clausesOf e = ⟨.Name x px, iter, ifs, 0⟩ :: gs) (hs : ∀ x, foldedSetIterable iter env x = pure x)
    (hclos : closureFor scope env = pure cl) (hcell : ∀ y ∈ scope.names, y.2 ≠ .cell) (hkind : scope.kind = .function)
    (hnames : ∀ y ∈ scope.names, y.2 = .local → scope.names.lookup y.1 = some .local) (hx : scope.names.lookup x = some .local)
    (hy : env.kindOf y = some .local) (hp : (env.scope.kind == .class || (env.scope.kind == .module && env.locals != env.globals)) = false)
    (h : wpAny (model prog w) A (eval iter env) (GSrc fl prog w A E h₀ L m x Bd oD₀ (GFinA fl h₀ L m y Q)) E s) :
    wpAny (model prog w) A (comprehension e scope env pos newAcc false (eval iter env) (some (assign (.Name y py) env))) (fun _ s' => Q .next s') E s := by
  subst hLe
  refine wpAny_comprehension_free (use := some (assign (.Name y py) env)) (Q := fun _ s' => Q .next s') hcl hs hclos hkind hnames (wpAny_mono h (fun xv s₁ h₁ => wpAny_mono h₁ (fun it s₂ h₂ => ?_) fun _ _ e => e) fun _ _ e => e)
  obtain ⟨I, fp, n, P, St, S, nw, rfl, hG, W, hIo, hSt, hst, hfp, F, N, hIL, hI₀, off, hS, R⟩ := h₂
  refine block_G LT ST (fun s Q => hAcc s Q E) hfree W hIo hSt hcell hkind hx hst hfp hG F N hIL hI₀ off hS R ?_
  intro D C h' tk g m' oD news' hg F' N' o1 hn hC₀ hD₀ hCL hDL hCD offC hLD fin
  show wpAny _ A (assign (.Name y py) env (.ref D)) _ _ _
  refine wpAny_assign_Name (wpAny_storeName_local hy F'.ns (fun h₂ hn₂ hs₂ => ?_) hp)
  have hL₀ : h₀.get? env.locals = none := Heap.get?_none_of_le F'.above
  have F₂ : Fr h₀ env.locals h₂ (fun z => if z = y then some (.ref D) else m z) := ⟨hn₂, fun b o e => hs₂.extBut b o (fun q => by rw [q, hL₀] at e; cases e) (F'.keep b o e), F'.above⟩
  refine ⟨m', hn.sameBut hs₂ hCL, fun h'' hs'' => fin D h'' _ _ hg (F₂.change hs'' hCL hC₀) (fun p hp => ?_) o1 hLD⟩
  have z : h₂.get? p.1 = some p.2 := hs₂.extBut _ _ (N' p hp).2.1 (N' p hp).1
  refine ⟨hs''.extBut _ _ ?_ z, (N' p hp).2⟩
  rcases List.mem_cons.mp hp with rfl | hp
  · exact Ne.symm hCD
  · exact offC p hp
end
end Mine

end

section
open PySem PySem.W PyProof.Rows PySem.Calls
set_option linter.unusedVariables false
set_option maxHeartbeats 2000000
namespace Mine
open LCg
section
variable {fl : Nat} {prog : Program} {w : World} {A : Around} {E : Value → Shared → Prop} {h₀ : Heap} {L : Addr} {m : Str → Option Value} {env : Env}

def testsOf (ifs : List Expr) (env : Env) : Sem Bool := forIn ifs true fun c r => if r = true then do let ok ← isTrue c env (eval c env); pure (ForInStep.yield ok) else pure (ForInStep.yield r)
def BdL (prog : Program) (w : World) (A : Around) (ifs : List Expr) (elt : Expr) (mk : Addr → Env) : PT := fun C D Post E' s =>
  wpAny (model prog w) A (testsOf ifs (mk C)) (fun ok s₃ => if ok = true then wpAny (model prog w) A (eval elt (mk C)) (fun y s₄ => wpAny (model prog w) A (call (.builtin "list.append") [.ref D, y]) (fun _ s₅ => Post s₅) E' s₄) E' s₃ else Post s₃) E' s
def BdD (prog : Program) (w : World) (A : Around) (ifs : List Expr) (kx vx : Expr) (mk : Addr → Env) : PT := fun C D Post E' s =>
  wpAny (model prog w) A (testsOf ifs (mk C)) (fun ok s₃ => if ok = true then wpAny (model prog w) A (eval kx (mk C)) (fun kv s₄ => wpAny (model prog w) A (eval vx (mk C)) (fun vv s₅ => wpAny (model prog w) A (dictSet D kv vv) (fun _ s₆ => Post s₆) E' s₅) E' s₄) E' s₃ else Post s₃) E' s
theorem loopL {elt iter : Expr} {ifs : List Expr} {scope : Scope} {pos px : Pos} {x : Str} {mk : Addr → Env} : LoopRule prog w A (.ListComp elt [⟨.Name x px, iter, ifs, 0⟩] scope pos) x px mk (BdL prog w A ifs elt mk) :=
  fun I C D R Inv turn n s h => codeAny_compLoop_tests Inv turn n h
theorem startL {elt iter : Expr} {ifs : List Expr} {scope : Scope} {pos px : Pos} {x : Str} : StartRule prog w A (.ListComp elt [⟨.Name x px, iter, ifs, 0⟩] scope pos) :=
  fun it acc env R s h0 h => codeAny_compStart_list h0 h
theorem loopD {kx vx iter : Expr} {ifs : List Expr} {scope : Scope} {pos px : Pos} {x : Str} {mk : Addr → Env} : LoopRule prog w A (.DictComp kx vx [⟨.Name x px, iter, ifs, 0⟩] scope pos) x px mk (BdD prog w A ifs kx vx mk) :=
  fun I C D R Inv turn n s h => codeAny_compLoop_testsD Inv turn n h
theorem startD {kx vx iter : Expr} {ifs : List Expr} {scope : Scope} {pos px : Pos} {x : Str} : StartRule prog w A (.DictComp kx vx [⟨.Name x px, iter, ifs, 0⟩] scope pos) :=
  fun it acc env R s h0 h => codeAny_compStart_dict h0 h
abbrev dct : Obj := { cls := .type "dict", data := .dict #[] 0 }
theorem accL {s : Shared} {Q E : Value → Shared → Prop} (h : Q (.ref s.heap.objs.size) { s with heap := s.heap.push (lst []) }) : wpAny (model prog w) A (newList []) Q E s := wpAny_newObj_type h
theorem accD {s : Shared} {Q E : Value → Shared → Prop} (h : Q (.ref s.heap.objs.size) { s with heap := s.heap.push dct }) : wpAny (model prog w) A newDict Q E s := by
  first
  | exact wpAny_newDict h
  | (unfold newDict; exact wpAny_newObj_type h)

theorem ListComp_G {elt iter : Expr} {ifs : List Expr} {x : Str} {px : Pos} {scope : Scope} {cl : List (Str × Addr)} {pos : Pos} {s : Shared} {Q : Value → Shared → Prop} (F₀ : Fr h₀ L s.heap m) (G₀ : GB fl s.gens)
    (hclos : closureFor scope env = pure cl) (hcell : ∀ y ∈ scope.names, y.2 ≠ .cell) (hkind : scope.kind = .function)
    (hnames : ∀ y ∈ scope.names, y.2 = .local → scope.names.lookup y.1 = some .local) (hx : scope.names.lookup x = some .local)
    (h : wpAny (model prog w) A (eval iter env) (GSrc fl prog w A E h₀ L m x (BdL prog w A ifs elt (fun C => compEnvC scope cl C env)) (lst []) (GFin fl h₀ L m Q)) E s)
    (hs : ∀ x, foldedSetIterable iter env x = pure x := by intro _; rfl) :
    wpAny (model prog w) A (eval (.ListComp elt [⟨.Name x px, iter, ifs, 0⟩] scope pos) env) Q E s := by
  rw [eval_ListComp]
  exact comp_G loopL startL (fun s Q E h => accL h) rfl rfl hs hclos hcell hkind hnames hx h
theorem DictComp_G {kx vx iter : Expr} {ifs : List Expr} {x : Str} {px : Pos} {scope : Scope} {cl : List (Str × Addr)} {pos : Pos} {s : Shared} {Q : Value → Shared → Prop} (F₀ : Fr h₀ L s.heap m) (G₀ : GB fl s.gens)
    (hclos : closureFor scope env = pure cl) (hcell : ∀ y ∈ scope.names, y.2 ≠ .cell) (hkind : scope.kind = .function)
    (hnames : ∀ y ∈ scope.names, y.2 = .local → scope.names.lookup y.1 = some .local) (hx : scope.names.lookup x = some .local)
    (h : wpAny (model prog w) A (eval iter env) (GSrc fl prog w A E h₀ L m x (BdD prog w A ifs kx vx (fun C => compEnvC scope cl C env)) dct (GFin fl h₀ L m Q)) E s)
    (hs : ∀ x, foldedSetIterable iter env x = pure x := by intro _; rfl) :
    wpAny (model prog w) A (eval (.DictComp kx vx [⟨.Name x px, iter, ifs, 0⟩] scope pos) env) Q E s := by
  rw [arm_eval_DictComp]
  exact comp_G loopD startD (fun s Q E h => accD h) rfl rfl hs hclos hcell hkind hnames hx h
theorem Assign_ListComp_G {elt iter : Expr} {ifs : List Expr} {x y : Str} {px py : Pos} {scope : Scope} {cl : List (Str × Addr)} {pos spos : Pos} {s : Shared} {Q : Flow → Shared → Prop} (F₀ : Fr h₀ L s.heap m) (G₀ : GB fl s.gens) (hLe : env.locals = L)
    (hsw : swapsWith (.ListComp elt [⟨.Name x px, iter, ifs, 0⟩] scope pos) (some (.Name y py)) spos.line env = pure true)
    (hclos : closureFor scope env = pure cl) (hcell : ∀ z ∈ scope.names, z.2 ≠ .cell) (hkind : scope.kind = .function)
    (hnames : ∀ z ∈ scope.names, z.2 = .local → scope.names.lookup z.1 = some .local) (hx : scope.names.lookup x = some .local)
    (hy : env.kindOf y = some .local) (hp : (env.scope.kind == .class || (env.scope.kind == .module && env.locals != env.globals)) = false)
    (h : wpAny (model prog w) A (eval iter env) (GSrc fl prog w A E h₀ L m x (BdL prog w A ifs elt (fun C => compEnvC scope cl C env)) (lst []) (GFinA fl h₀ L m y Q)) E s)
    (hs : ∀ x, foldedSetIterable iter env x = pure x := by intro _; rfl) :
    wpAny (model prog w) A (exec (.Assign [.Name y py] (.ListComp elt [⟨.Name x px, iter, ifs, 0⟩] scope pos) spos) env) Q E s := by
  rw [exec_Assign_Name_used _ _ _ _ hsw]
  refine wpAny_bind (wpAny_standAt (wpAny_bind ?_))
  show wpAny _ A (do let _ ← comprehension (.ListComp elt [⟨.Name x px, iter, ifs, 0⟩] scope pos) scope env _ (newList []) false (eval iter env) (some (assign (.Name y py) env))) _ _ s
  exact wpAny_bind (wpAny_mono (comp_GA hLe loopL startL (fun s Q E h => accL h) rfl rfl hs hclos hcell hkind hnames hx hy hp h) (fun _ s' hq => wpAny_pure (wpAny_pure hq)) fun _ _ e => e)
theorem Assign_DictComp_G {kx vx iter : Expr} {ifs : List Expr} {x y : Str} {px py : Pos} {scope : Scope} {cl : List (Str × Addr)} {pos spos : Pos} {s : Shared} {Q : Flow → Shared → Prop} (F₀ : Fr h₀ L s.heap m) (G₀ : GB fl s.gens) (hLe : env.locals = L)
    (hsw : swapsWith (.DictComp kx vx [⟨.Name x px, iter, ifs, 0⟩] scope pos) (some (.Name y py)) spos.line env = pure true)
    (hclos : closureFor scope env = pure cl) (hcell : ∀ z ∈ scope.names, z.2 ≠ .cell) (hkind : scope.kind = .function)
    (hnames : ∀ z ∈ scope.names, z.2 = .local → scope.names.lookup z.1 = some .local) (hx : scope.names.lookup x = some .local)
    (hy : env.kindOf y = some .local) (hp : (env.scope.kind == .class || (env.scope.kind == .module && env.locals != env.globals)) = false)
    (h : wpAny (model prog w) A (eval iter env) (GSrc fl prog w A E h₀ L m x (BdD prog w A ifs kx vx (fun C => compEnvC scope cl C env)) dct (GFinA fl h₀ L m y Q)) E s)
    (hs : ∀ x, foldedSetIterable iter env x = pure x := by intro _; rfl) :
    wpAny (model prog w) A (exec (.Assign [.Name y py] (.DictComp kx vx [⟨.Name x px, iter, ifs, 0⟩] scope pos) spos) env) Q E s := by
  rw [exec_Assign_Name_used _ _ _ _ hsw]
  refine wpAny_bind (wpAny_standAt (wpAny_bind ?_))
  show wpAny _ A (do let _ ← comprehension (.DictComp kx vx [⟨.Name x px, iter, ifs, 0⟩] scope pos) scope env _ newDict false (eval iter env) (some (assign (.Name y py) env))) _ _ s
  exact wpAny_bind (wpAny_mono (comp_GA hLe loopD startD (fun s Q E h => accD h) rfl rfl hs hclos hcell hkind hnames hx hy hp h) (fun _ s' hq => wpAny_pure (wpAny_pure hq)) fun _ _ e => e)

/-! the sources -/
variable {x : Str} {Bd : PT} {oD₀ : Obj} {Fin : Shared → Obj → List (Addr × Obj) → Prop} {s₁ : Shared} {news : List (Addr × Obj)}
theorem src_list {ax : Addr} {its : Array Value} {k : Nat} (hG : GB fl s₁.gens) (hh : A.handled = none) (F : Fr h₀ L s₁.heap m) (N : News h₀ L s₁.heap news) (hm : (ax, ({ cls := .type "list", data := .seq its k } : Obj)) ∈ news)
    (h : ∀ g, GRest fl h₀ L m x Bd { s₁ with heap := g } (fun nw => (ax, ({ cls := .type "list", data := .seq its k } : Obj)) ∈ nw) (fun i v => its[i]? = some v) (Fin { s₁ with heap := g }) its.size 0 oD₀ news) :
    GSrc fl prog w A E h₀ L m x Bd oD₀ Fin (.ref ax) s₁ := by
  have hl : s₁.heap.IsList ax its := N.isList hm
  have hlt : ax < s₁.heap.objs.size := by obtain ⟨_, e, _⟩ := hl; exact Heap.lt_size e
  refine wpAny_pyIter_list hl ?_
  have up : ∀ b o, s₁.heap.get? b = some o → (s₁.heap.push { cls := .type "list_iterator", data := .fields #[.ref ax, .int 0 0] }).get? b = some o := fun b o e => Heap.get?_push_of_some _ e
  refine ⟨s₁.heap.objs.size, _, _, _, _, (fun nw => (ax, ({ cls := .type "list", data := .seq its k } : Obj)) ∈ nw), news, rfl, hG, Walks.list hh s₁.heap.objs.size ax (Nat.ne_of_lt hlt) its, (fun i h st => by obtain ⟨o, e, _⟩ := st.1; exact ⟨o, e⟩), ?_, ⟨⟨_, Heap.get?_push_size _ rfl, rfl, rfl⟩, hl.push _⟩, (fun b hb => ?_),
    (F.keeps up), (N.grown up), (Nat.ne_of_lt F.ns.lt), (next_is_new F), (fun p hp => Nat.ne_of_lt (Heap.lt_size (N p hp).1)), hm, h _⟩
  · intro i h h' o nw st e e' kp N' S'
    exact ⟨by obtain ⟨o', q, r⟩ := st.1; rw [e] at q; cases q; exact ⟨o, e', r⟩, N'.isList S'⟩
  · show b < (s₁.heap.push _).objs.size
    rw [Heap.size_push]
    rcases List.mem_cons.mp hb with rfl | hb
    · exact Nat.lt_succ_self _
    · rw [List.mem_singleton.mp hb]; exact Nat.lt_succ_of_lt hlt
theorem src_range {r : Addr} {a b : Int} {t u v : Tok} {n : Nat} (hG : GB fl s₁.gens) (hh : A.handled = none) (F : Fr h₀ L s₁.heap m) (N : News h₀ L s₁.heap news) (hr : IsRange s₁.heap r a b 1 t u v) (hsm : Builtin.Range.small a b 1 = true) (hn : Builtin.Range.rangeSize a b 1 = ((n : Nat) : Int))
    (h : ∀ g, GRest fl h₀ L m x Bd { s₁ with heap := g } (fun _ => True) (fun i v => ∃ t, v = .int (a + (i : Int)) t) (Fin { s₁ with heap := g }) n 0 oD₀ news) :
    GSrc fl prog w A E h₀ L m x Bd oD₀ Fin (.ref r) s₁ := by
  refine wpAny_pyIter_range hr hsm ?_
  refine ⟨s₁.heap.objs.size, _, _, _, _, (fun _ => True), news, rfl, hG, range_walks hh a n, (fun i h st => ⟨_, st⟩), range_st, (by show IsRangeIter _ _ _ _ _; rw [hn]; simpa using Heap.get?_push_size _ rfl), (fun b hb => ?_),
    (F.keeps fun _ _ e => Heap.get?_push_of_some _ e), (N.grown fun _ _ e => Heap.get?_push_of_some _ e), (Nat.ne_of_lt F.ns.lt), (next_is_new F), (fun p hp => Nat.ne_of_lt (Heap.lt_size (N p hp).1)), trivial, h _⟩
  rw [List.mem_singleton.mp hb]
  show s₁.heap.objs.size < (s₁.heap.push _).objs.size
  rw [Heap.size_push]; exact Nat.lt_succ_self _
theorem src_tuple {ax : Addr} {its : Array Value} {k : Nat} (hG : GB fl s₁.gens) (hh : A.handled = none) (F : Fr h₀ L s₁.heap m) (N : News h₀ L s₁.heap news) (hm : (ax, ({ cls := .type "tuple", data := .seq its k } : Obj)) ∈ news)
    (h : ∀ g, GRest fl h₀ L m x Bd { s₁ with heap := g } (fun nw => (ax, ({ cls := .type "tuple", data := .seq its k } : Obj)) ∈ nw) (fun i v => its[i]? = some v) (Fin { s₁ with heap := g }) its.size 0 oD₀ news) :
    GSrc fl prog w A E h₀ L m x Bd oD₀ Fin (.ref ax) s₁ := by
  have tup : ∀ {h' : Heap} {nw : List (Addr × Obj)}, News h₀ L h' nw → (ax, ({ cls := .type "tuple", data := .seq its k } : Obj)) ∈ nw → h'.IsTuple ax its := fun N hm => ⟨_, N.get hm, rfl, _, rfl⟩
  have hl := tup N hm
  have hlt : ax < s₁.heap.objs.size := by obtain ⟨_, e, _⟩ := hl; exact Heap.lt_size e
  refine wpAny_pyIter_tuple hl ?_
  have up : ∀ b o, s₁.heap.get? b = some o → (s₁.heap.push { cls := .type "tuple_iterator", data := .fields #[.ref ax, .int 0 0] }).get? b = some o := fun b o e => Heap.get?_push_of_some _ e
  refine ⟨s₁.heap.objs.size, _, _, _, _, (fun nw => (ax, ({ cls := .type "tuple", data := .seq its k } : Obj)) ∈ nw), news, rfl, hG, Walks.tuple hh s₁.heap.objs.size ax (Nat.ne_of_lt hlt) its, (fun i h st => by obtain ⟨o, e, _⟩ := st.1; exact ⟨o, e⟩), ?_, ⟨⟨_, Heap.get?_push_size _ rfl, rfl, rfl⟩, hl.push _⟩, (fun b hb => ?_),
    (F.keeps up), (N.grown up), (Nat.ne_of_lt F.ns.lt), (next_is_new F), (fun p hp => Nat.ne_of_lt (Heap.lt_size (N p hp).1)), hm, h _⟩
  · intro i h h' o nw st e e' kp N' S'
    exact ⟨by obtain ⟨o', q, r⟩ := st.1; rw [e] at q; cases q; exact ⟨o, e', r⟩, tup N' S'⟩
  · show b < (s₁.heap.push _).objs.size
    rw [Heap.size_push]
    rcases List.mem_cons.mp hb with rfl | hb
    · exact Nat.lt_succ_self _
    · rw [List.mem_singleton.mp hb]; exact Nat.lt_succ_of_lt hlt
theorem dictAt_of {K : Type} [DecidableEq K] {knd : KeyKind prog w K} {h' : Heap} {d : Addr} {es : List DictEntry} {n : Nat} {kvs : List (K × Value)} {nw : List (Addr × Obj)} (N : News h₀ L h' nw) (hm : (d, dictObj es n) ∈ nw) (hd : (dictObj es n).IsDictOf knd kvs) : h'.DictAt knd d kvs n := by
  obtain ⟨es', ep, hx, he, r⟩ := hd
  have e' : Data.dict es.toArray n = Data.dict es' ep := he
  injection e' with e1 e2
  subst e2
  exact ⟨_, es', N.get hm, hx, he, r⟩
theorem src_dict {K : Type} [DecidableEq K] {knd : KeyKind prog w K} {d : Addr} {es : List DictEntry} {n : Nat} {kvs : List (K × Value)} (hG : GB fl s₁.gens) (hh : A.handled = none) (F : Fr h₀ L s₁.heap m) (N : News h₀ L s₁.heap news) (hm : (d, dictObj es n) ∈ news) (hd : (dictObj es n).IsDictOf knd kvs) (hs : (d == sysModules) = false)
    (h : ∀ g, GRest fl h₀ L m x Bd { s₁ with heap := g } (fun nw => (d, dictObj es n) ∈ nw) (fun i v => ∃ k y, kvs[i]? = some (k, y) ∧ knd.is k v = true) (Fin { s₁ with heap := g }) kvs.length 0 oD₀ news) :
    GSrc fl prog w A E h₀ L m x Bd oD₀ Fin (.ref d) s₁ := by
  have hl := dictAt_of N hm hd
  have hlt : d < s₁.heap.objs.size := hl.lt_size
  refine wpAny_pyIter_dict hs hl ?_
  have up : ∀ b o, s₁.heap.get? b = some o → (s₁.heap.push { cls := .type "dict_keyiterator", data := .fields #[.ref d, .int 0 0, .int kvs.length 0, .int n 0] }).get? b = some o := fun b o e => Heap.get?_push_of_some _ e
  refine ⟨s₁.heap.objs.size, _, _, _, _, (fun nw => (d, dictObj es n) ∈ nw), news, rfl, hG, Walks.dictKeys hh s₁.heap.objs.size d (Nat.ne_of_lt hlt) kvs n, (fun i h st => by obtain ⟨o, e, _⟩ := st.1; exact ⟨o, e⟩), ?_, ⟨⟨_, Heap.get?_push_size _ rfl, rfl, rfl⟩, hl.push _⟩, (fun b hb => ?_),
    (F.keeps up), (N.grown up), (Nat.ne_of_lt F.ns.lt), (next_is_new F), (fun p hp => Nat.ne_of_lt (Heap.lt_size (N p hp).1)), hm, h _⟩
  · intro i h h' o nw st e e' kp N' S'
    exact ⟨by obtain ⟨o', q, r⟩ := st.1; rw [e] at q; cases q; exact ⟨o, e', r⟩, dictAt_of N' S' hd⟩
  · show b < (s₁.heap.push _).objs.size
    rw [Heap.size_push]
    rcases List.mem_cons.mp hb with rfl | hb
    · exact Nat.lt_succ_self _
    · rw [List.mem_singleton.mp hb]; exact Nat.lt_succ_of_lt hlt

/-! the turns -/
def GElt (fl : Nat) (h₀ : Heap) (L : Addr) (m : Str → Option Value) (s : Shared) (S : List (Addr × Obj) → Prop) (I : Addr) (oI : Obj) (C D : Addr) (ys : List Value) (rest : Obj → List (Addr × Obj) → Prop) (y : Value) (s₂ : Shared) : Prop :=
  ∃ h' tk g oC m₂ nw, s₂ = { s with heap := h', toks := tk, gens := g } ∧ GB fl g ∧ NsObj oC m₂ ∧ Fr h₀ L h' m ∧ News h₀ L h' ((I, oI) :: (C, oC) :: (D, lst ys) :: nw) ∧ Off3 I C D nw ∧ S nw ∧ rest (lst (ys ++ [y])) nw
theorem append_G {s s₀ : Shared} {S : List (Addr × Obj) → Prop} {I C D : Addr} {oI : Obj} {ys : List Value} {rest : Obj → List (Addr × Obj) → Prop} {y : Value} {Post : Shared → Prop}
    (ne : (@Ne Nat I C) ∧ (@Ne Nat I D) ∧ (@Ne Nat C D)) (hy : ys.length ≤ sizeLine) (hPost : ∀ s₂, GEnd fl h₀ L m s₀ S I oI C D rest s₂ → Post s₂) (h : GElt fl h₀ L m s₀ S I oI C D ys rest y s) :
    wpAny (model prog w) A (call (.builtin "list.append") [.ref D, y]) (fun _ s₅ => Post s₅) E s := by
  obtain ⟨h', tk, g, oC, m₂, nw, rfl, hg, hC, F, N, off, hS, r⟩ := h
  have zD := N (D, lst ys) (List.mem_cons_of_mem _ (List.mem_cons_of_mem _ List.mem_cons_self))
  refine append_at (hsz := by show ys.toArray.size ≤ sizeLine; rw [List.size_toArray]; exact hy) zD.1 fun h₅ hs₅ hD₅ => hPost _ ?_
  have off4 := off.mem
  refine ⟨h₅, tk, g, oC, m₂, lst (ys ++ [y]), nw, rfl, hg, hC, F.change hs₅ zD.2.1 zD.2.2, fun p hp => ?_, off, hS, r⟩
  rcases List.mem_cons.mp hp with rfl | hp
  · exact ⟨hs₅.extBut _ _ ne.2.1 (N _ List.mem_cons_self).1, (N (I, oI) List.mem_cons_self).2⟩
  · rcases List.mem_cons.mp hp with rfl | hp
    · have z := N (C, oC) (List.mem_cons_of_mem _ List.mem_cons_self)
      exact ⟨hs₅.extBut _ _ ne.2.2 z.1, z.2⟩
    · rcases List.mem_cons.mp hp with rfl | hp
      · exact ⟨hD₅.trans (congrArg some (lst_snoc ys y)), zD.2⟩
      · have z := N p (List.mem_cons_of_mem _ (List.mem_cons_of_mem _ (List.mem_cons_of_mem _ hp)))
        exact ⟨hs₅.extBut _ _ (off4 p hp).2.2 z.1, z.2⟩
theorem turnL {elt : Expr} {mk : Addr → Env} {s s₀ : Shared} {S : List (Addr × Obj) → Prop} {I C D : Addr} {oI : Obj} {ys : List Value} {rest : Obj → List (Addr × Obj) → Prop} {Post : Shared → Prop}
    (ne : (@Ne Nat I C) ∧ (@Ne Nat I D) ∧ (@Ne Nat C D)) (hy : ys.length ≤ sizeLine) (hPost : ∀ s₂, GEnd fl h₀ L m s₀ S I oI C D rest s₂ → Post s₂)
    (h : wpAny (model prog w) A (eval elt (mk C)) (GElt fl h₀ L m s₀ S I oI C D ys rest) E s) : BdL prog w A [] elt mk C D Post E s := by
  refine wpAny_tests_nil ?_
  simp only [if_true]
  exact wpAny_mono h (fun y s₄ h₄ => append_G ne hy hPost h₄) fun _ _ e => e
theorem turnLT {ct elt : Expr} {mk : Addr → Env} {s s₀ : Shared} {S : List (Addr × Obj) → Prop} {I C D : Addr} {oI : Obj} {ys : List Value} {rest : Obj → List (Addr × Obj) → Prop} {Post : Shared → Prop}
    (ne : (@Ne Nat I C) ∧ (@Ne Nat I D) ∧ (@Ne Nat C D)) (hy : ys.length ≤ sizeLine) (hPost : ∀ s₂, GEnd fl h₀ L m s₀ S I oI C D rest s₂ → Post s₂)
    (h : wpAny (model prog w) A (isTrue ct (mk C) (eval ct (mk C))) (fun ok s₃ => if ok = true then wpAny (model prog w) A (eval elt (mk C)) (GElt fl h₀ L m s₀ S I oI C D ys rest) E s₃ else GEnd fl h₀ L m s₀ S I oI C D rest s₃) E s) : BdL prog w A [ct] elt mk C D Post E s := by
  refine wpAny_tests_one (wpAny_mono h (fun ok s₃ h₃ => ?_) fun _ _ e => e)
  cases ok with
  | true =>
    simp only [if_true] at h₃ ⊢
    exact wpAny_mono h₃ (fun y s₄ h₄ => append_G ne hy hPost h₄) fun _ _ e => e
  | false => simp only [Bool.false_eq_true, if_false] at h₃ ⊢; exact hPost _ h₃
end
end Mine

end

section
open PySem PySem.W PyProof.Rows PySem.Calls
set_option linter.unusedVariables false
set_option maxHeartbeats 2000000
namespace Mine
open LCg
section
variable {fl : Nat} {prog : Program} {w : World} {A : Around} {E : Value → Shared → Prop} {h₀ : Heap} {L : Addr} {m : Str → Option Value} {env : Env}
theorem isDictOf_obj {K : Type} [DecidableEq K] {knd : KeyKind prog w K} {o : Obj} {kvs : List (K × Value)} (h : o.IsDictOf knd kvs) : ∃ es n, o = dictObj es n := by
  obtain ⟨es, ep, ⟨hc, hdi, hs⟩, hd, _⟩ := h
  obtain ⟨c, d, dt, sl⟩ := o
  simp only at hc hdi hs hd
  subst hc hdi hs hd
  exact ⟨es.toList, ep, rfl⟩
theorem dct_isDictOf {K : Type} [DecidableEq K] {knd : KeyKind prog w K} : dct.IsDictOf knd [] := ⟨#[], 0, ⟨rfl, rfl, rfl⟩, rfl, (fun e he => by simp at he), .nil, by simp⟩
def GVal (fl : Nat) {K : Type} [DecidableEq K] (knd : KeyKind prog w K) (h₀ : Heap) (L : Addr) (m : Str → Option Value) (s : Shared) (S : List (Addr × Obj) → Prop) (I : Addr) (oI : Obj) (C D : Addr) (oD : Obj) (k : K) (kvs : List (K × Value)) (rest : Obj → List (Addr × Obj) → Prop) (v : Value) (s₂ : Shared) : Prop :=
  ∃ h' tk g oC m₂ nw, s₂ = { s with heap := h', toks := tk, gens := g } ∧ GB fl g ∧ NsObj oC m₂ ∧ Fr h₀ L h' m ∧ News h₀ L h' ((I, oI) :: (C, oC) :: (D, oD) :: nw) ∧ Off3 I C D nw ∧ S nw ∧ ∀ oD', oD'.IsDictOf knd (stored kvs k v) → rest oD' nw
theorem dictSet_G {K : Type} [DecidableEq K] {knd : KeyKind prog w K} {s s₀ : Shared} {S : List (Addr × Obj) → Prop} {I C D : Addr} {oI oD : Obj} {kv v : Value} {k : K} {kvs : List (K × Value)} {rest : Obj → List (Addr × Obj) → Prop} {Post : Shared → Prop}
    (ne : (@Ne Nat I C) ∧ (@Ne Nat I D) ∧ (@Ne Nat C D)) (hd : oD.IsDictOf knd kvs) (hk : knd.is k kv = true) (hy : kvs.length ≤ sizeLine) (hPost : ∀ s₂, GEnd fl h₀ L m s₀ S I oI C D rest s₂ → Post s₂) (h : GVal fl knd h₀ L m s₀ S I oI C D oD k kvs rest v s) :
    wpAny (model prog w) A (dictSet D kv v) (fun _ s₅ => Post s₅) E s := by
  obtain ⟨h', tk, g, oC, m₂, nw, rfl, hg, hC, F, N, off, hS, r⟩ := h
  have zD := N (D, oD) (List.mem_cons_of_mem _ (List.mem_cons_of_mem _ List.mem_cons_self))
  refine wpAny_dictSet_pairs (hsz := hy) hk (Heap.dictOf_iff.mpr ⟨oD, zD.1, hd⟩) fun h₅ hD₅ hs₅ => hPost _ ?_
  obtain ⟨oD', hD₅, hd'⟩ := Heap.dictOf_iff.mp hD₅
  have off4 := off.mem
  refine ⟨h₅, tk + 1, g, oC, m₂, oD', nw, rfl, hg, hC, F.change hs₅ zD.2.1 zD.2.2, fun p hp => ?_, off, hS, r _ hd'⟩
  rcases List.mem_cons.mp hp with rfl | hp
  · exact ⟨hs₅.extBut _ _ ne.2.1 (N _ List.mem_cons_self).1, (N (I, oI) List.mem_cons_self).2⟩
  · rcases List.mem_cons.mp hp with rfl | hp
    · have z := N (C, oC) (List.mem_cons_of_mem _ List.mem_cons_self)
      exact ⟨hs₅.extBut _ _ ne.2.2 z.1, z.2⟩
    · rcases List.mem_cons.mp hp with rfl | hp
      · exact ⟨hD₅, zD.2⟩
      · have z := N p (List.mem_cons_of_mem _ (List.mem_cons_of_mem _ (List.mem_cons_of_mem _ hp)))
        exact ⟨hs₅.extBut _ _ (off4 p hp).2.2 z.1, z.2⟩
theorem turnD {K : Type} [DecidableEq K] {knd : KeyKind prog w K} {kx vx : Expr} {mk : Addr → Env} {s s₀ : Shared} {S : List (Addr × Obj) → Prop} {I C D : Addr} {oI oD : Obj} {kvs : List (K × Value)} {rest : Obj → List (Addr × Obj) → Prop} {Post : Shared → Prop}
    (ne : (@Ne Nat I C) ∧ (@Ne Nat I D) ∧ (@Ne Nat C D)) (hd : oD.IsDictOf knd kvs) (hy : kvs.length ≤ sizeLine) (hPost : ∀ s₂, GEnd fl h₀ L m s₀ S I oI C D rest s₂ → Post s₂)
    (h : wpAny (model prog w) A (eval kx (mk C)) (fun kv s₁ => ∃ k, knd.is k kv = true ∧ wpAny (model prog w) A (eval vx (mk C)) (GVal fl knd h₀ L m s₀ S I oI C D oD k kvs rest) E s₁) E s) : BdD prog w A [] kx vx mk C D Post E s := by
  refine wpAny_tests_nil ?_
  simp only [if_true]
  refine wpAny_mono h (fun kv s₄ h₄ => ?_) fun _ _ e => e
  obtain ⟨k, hk, h₄⟩ := h₄
  exact wpAny_mono h₄ (fun v s₅ h₅ => dictSet_G ne hd hk hy hPost h₅) fun _ _ e => e
theorem turnDT {K : Type} [DecidableEq K] {knd : KeyKind prog w K} {ct kx vx : Expr} {mk : Addr → Env} {s s₀ : Shared} {S : List (Addr × Obj) → Prop} {I C D : Addr} {oI oD : Obj} {kvs : List (K × Value)} {rest : Obj → List (Addr × Obj) → Prop} {Post : Shared → Prop}
    (ne : (@Ne Nat I C) ∧ (@Ne Nat I D) ∧ (@Ne Nat C D)) (hd : oD.IsDictOf knd kvs) (hy : kvs.length ≤ sizeLine) (hPost : ∀ s₂, GEnd fl h₀ L m s₀ S I oI C D rest s₂ → Post s₂)
    (h : wpAny (model prog w) A (isTrue ct (mk C) (eval ct (mk C))) (fun ok s₃ => if ok = true then wpAny (model prog w) A (eval kx (mk C)) (fun kv s₁ => ∃ k, knd.is k kv = true ∧ wpAny (model prog w) A (eval vx (mk C)) (GVal fl knd h₀ L m s₀ S I oI C D oD k kvs rest) E s₁) E s₃ else GEnd fl h₀ L m s₀ S I oI C D rest s₃) E s) : BdD prog w A [ct] kx vx mk C D Post E s := by
  refine wpAny_tests_one (wpAny_mono h (fun ok s₃ h₃ => ?_) fun _ _ e => e)
  cases ok with
  | true =>
    simp only [if_true] at h₃ ⊢
    refine wpAny_mono h₃ (fun kv s₄ h₄ => ?_) fun _ _ e => e
    obtain ⟨k, hk, h₄⟩ := h₄
    exact wpAny_mono h₄ (fun v s₅ h₅ => dictSet_G ne hd hk hy hPost h₅) fun _ _ e => e
  | false => simp only [Bool.false_eq_true, if_false] at h₃ ⊢; exact hPost _ h₃
theorem GRest.turns {x : Str} {Bd : PT} {s : Shared} {S : List (Addr × Obj) → Prop} {P : Nat → Value → Prop} {Fin : Obj → List (Addr × Obj) → Prop} {n : Nat} {oD₀ : Obj} {news : List (Addr × Obj)} (J : Nat → Obj → List (Addr × Obj) → Prop)
    (h0 : J 0 oD₀ news) (hend : ∀ oD nw, J n oD nw → Fin oD nw)
    (hstep : ∀ i, i < n → ∀ oD nw, J i oD nw → ∀ v I oI C oC D m₂ h tk g (E' : Value → Shared → Prop) (Post : Shared → Prop), P i v → NsObj oC m₂ → m₂ x = some v → Fr h₀ L h m → News h₀ L h ((I, oI) :: (C, oC) :: (D, oD) :: nw) → Off3 I C D nw → ((@Ne Nat I C) ∧ (@Ne Nat I D) ∧ (@Ne Nat C D)) → GB fl g →
      (∀ s₂, GEnd fl h₀ L m s S I oI C D (J (i + 1)) s₂ → Post s₂) → Bd C D Post E' { s with heap := h, toks := tk, gens := g }) :
    GRest fl h₀ L m x Bd s S P Fin n 0 oD₀ news := by
  have go : ∀ k i oD nw, i + k = n → J i oD nw → GRest fl h₀ L m x Bd s S P Fin k i oD nw := by
    intro k
    induction k with
    | zero => intro i oD nw e j; have e' : i = n := by omega
              subst e'; exact hend _ _ j
    | succ k ih =>
      intro i oD nw e j v I oI C oC D m₂ h tk g E' Post hP hC hx F N off ne hg hPost
      refine hstep i (by omega) oD nw j v I oI C oC D m₂ h tk g E' Post hP hC hx F N off ne hg fun s₂ hE => hPost s₂ ?_
      obtain ⟨h', tk', g', oC', m₂', oD', nw', e', a1, a2, a3, a4, a5, a6, a7⟩ := hE
      exact ⟨h', tk', g', oC', m₂', oD', nw', e', a1, a2, a3, a4, a5, a6, ih (i + 1) oD' nw' (by omega) a7⟩
  exact go n 0 oD₀ news (by omega) h0
theorem src_rangeN {x : Str} {Bd : PT} {oD₀ : Obj} {Fin : Shared → Obj → List (Addr × Obj) → Prop} {s₁ : Shared} {news : List (Addr × Obj)} {r : Addr} {t u v : Tok} {n : Nat} (hn : n < 100000) (hG : GB fl s₁.gens) (hh : A.handled = none) (F : Fr h₀ L s₁.heap m) (N : News h₀ L s₁.heap news) (hr : IsRange s₁.heap r 0 (n : Int) 1 t u v)
    (h : ∀ g, GRest fl h₀ L m x Bd { s₁ with heap := g } (fun _ => True) (fun i v => ∃ t, v = .int (i : Int) t) (Fin { s₁ with heap := g }) n 0 oD₀ news) :
    GSrc fl prog w A E h₀ L m x Bd oD₀ Fin (.ref r) s₁ := by
  refine src_range (n := n) hG hh F N hr (small_one (by omega) (by omega) (by omega) (by omega)) ?_ (fun g => ?_)
  · rw [rangeSize_one]; split <;> omega
  · have e : (fun (i : Nat) (v : Value) => ∃ t, v = .int (0 + (i : Int)) t) = fun i v => ∃ t, v = .int (i : Int) t := by funext i v; rw [Int.zero_add]
    rw [e]; exact h g
theorem src_rangeZ {x : Str} {Bd : PT} {oD₀ : Obj} {Fin : Shared → Obj → List (Addr × Obj) → Prop} {s₁ : Shared} {news : List (Addr × Obj)} {r : Addr} {t u v : Tok} {z : Int} (hz : 0 ≤ z) (hz' : z < 100000) (hG : GB fl s₁.gens) (hh : A.handled = none) (F : Fr h₀ L s₁.heap m) (N : News h₀ L s₁.heap news) (hr : IsRange s₁.heap r 0 z 1 t u v)
    (h : ∀ (n : Nat), (n : Int) = z → ∀ g, GRest fl h₀ L m x Bd { s₁ with heap := g } (fun _ => True) (fun i v => ∃ t, v = .int (i : Int) t) (Fin { s₁ with heap := g }) n 0 oD₀ news) :
    GSrc fl prog w A E h₀ L m x Bd oD₀ Fin (.ref r) s₁ := by
  obtain ⟨n, rfl⟩ : ∃ n : Nat, z = n := ⟨z.toNat, by omega⟩
  exact src_rangeN (by omega) hG hh F N hr (h n rfl)
end
end Mine

end

section
open PySem PySem.W PyProof.Rows PySem.Calls PyProof.V
set_option linter.unusedVariables false
set_option maxHeartbeats 2000000
namespace Mine
open LCg
theorem canLayAll0S : ∀ ns : List Str, (∀ x ∈ ns, PyData.strOk x = true) → PyData.canLayAll0 (ns.map PyData.str) = true
  | [], _ => rfl
  | x :: r, h => by simp [PyData.canLayAll0, PyData.canLay0, canLayAll0S r (fun y hy => h y (List.mem_cons_of_mem _ hy)), h x List.mem_cons_self]
theorem depthAllS : ∀ ns : List Str, PyData.depthAll (ns.map PyData.str) = 0
  | [] => rfl
  | _ :: r => by simp [PyData.depthAll, PyData.depth, depthAllS r]
theorem shaped_strs (ns : List Str) (h : ∀ x ∈ ns, PyData.strOk x = true) : SeqAt.shaped (.list (ns.map PyData.str)) = true := by
  simp [SeqAt.shaped, PyData.canLay0, PyData.depth, canLayAll0S ns h, depthAllS]
theorem sameAllS : ∀ ns ms : List Str, PySem.Spec.sameAll (ns.map PyData.str) (ms.map PyData.str) = decide (ns = ms)
  | [], [] => by simp [PySem.Spec.sameAll]
  | [], _ :: _ => by simp [PySem.Spec.sameAll]
  | _ :: _, [] => by simp [PySem.Spec.sameAll]
  | a :: r, b :: t => by
    simp only [List.map_cons, PySem.Spec.sameAll, PySem.Spec.same, sameAllS r t]
    by_cases h : a = b <;> by_cases h' : r = t <;> simp [h, h']
theorem same_strs (ns ms : List Str) : PySem.Spec.same (.list (ns.map PyData.str)) (.list (ms.map PyData.str)) = decide (ns = ms) := by
  simp only [PySem.Spec.same]; exact sameAllS ns ms
section
variable {prog : Program} {w : World} {A : Around} {E : Value → Shared → Prop} {s : Shared} {a b : Addr} {xs ys : List Value} {ns ms : List Str} {Q : Value → Shared → Prop} {h₀ : Heap} {L : Addr} {m : Str → Option Value} {news : List (Addr × Obj)}
theorem eq_strs (ha : s.heap.IsList a xs.toArray) (hb : s.heap.IsList b ys.toArray) (hi : StrsAre xs ns) (hj : StrsAre ys ms) (ho : ∀ x ∈ ns, PyData.strOk x = true) (ho' : ∀ x ∈ ms, PyData.strOk x = true) (hu : A.units + 64 < cLine) (h : Q (.bool (decide (ns = ms))) s) :
    wpAny (model prog w) A (compareOp .Eq (.ref a) (.ref b)) Q E s :=
  eq_dataH_same (reads_newData ha hi.carried) (reads_newData hb hj.carried) (shaped_strs _ ho) (shaped_strs _ ho') hu (SeqAt.noMix_of_shape (.list .str) rfl _ _ (list_map_has fun _ => rfl) (list_map_has fun _ => rfl)) (by rw [same_strs]; exact h)
theorem strsAre_keys {kvs : List (Str × Value)} {vs : List Value} (hl : vs.length = kvs.length) (hv : ∀ (j : Nat) (v : Value), vs[j]? = some v → ∃ k x, kvs[j]? = some (k, x) ∧ (PySem.strKind prog w).is k v = true) : StrsAre vs (kvs.map (·.1)) := by
  induction kvs generalizing vs with
  | nil => cases vs with
    | nil => exact .nil
    | cons v r => simp at hl
  | cons kv kvs ih => cases vs with
    | nil => simp at hl
    | cons v r =>
      obtain ⟨k, x, e, hk⟩ := hv 0 v rfl
      simp at e; subst e
      obtain ⟨t, rfl⟩ := Value.isStrOf_shape hk
      exact .cons _ _ (ih (by simpa using hl) fun j u hu => hv (j + 1) u (by simpa using hu))
theorem sorted_dictG {d : Addr} {es : List DictEntry} {n : Nat} {kvs : List (Str × Value)} (hh : A.handled = none) (F : Fr h₀ L s.heap m) (N : News h₀ L s.heap news) (hm : (d, dictObj es n) ∈ news) (hd : (dictObj es n).IsDictOf (PySem.strKind prog w) kvs) (lo : (d == sysModules) = false) (hlen : kvs.length < 64)
    (h : ∀ (D : Addr) (vs' : List Value) (ss' : List Str) (e : Nat) (h' : Heap) (tk : Nat), Fr h₀ L h' m → News h₀ L h' ((D, listObj vs' e) :: news) → (∀ q ∈ news, q.1 < D) → StrsAre vs' ss' → ss'.Perm (kvs.map (·.1)) → sortedS ss' = true → Q (.ref D) { s with heap := h', toks := tk }) :
    wpAny (model prog w) A (call (.builtin "sorted") [.ref d]) Q E s := by
  refine kdu_sorted (kdl_dict (knd := PySem.strKind prog w) (kvs := kvs) (ep := n) lo) hh F N (dictAt_of N hm hd) (by rw [sizeLine_eq]; omega) fun D h' tk vs F' N' l1 hl hv => ?_
  have hS : StrsAre vs (kvs.map (·.1)) := strsAre_keys hl hv
  have z := N' _ List.mem_cons_self
  have ho : h'.get? D = some (seqObj "list" vs.toArray 0) := z.1
  refine wpAny_call_entry PyProof.Rows.slot_list_sort ⟨_, ho, rfl⟩ PyProof.Rows.entry_list_sort (list_sort_treeK strKind_oneLt (n := 0) (vs := vs) ho hS.keysOf (fun v₁ v₂ rest e => keyKind_strs (by rw [← e]; exact hS)) (by rw [hl]; exact hlen) fun st' hp hs => ⟨.none, rfl, ?_⟩) (PyProof.Rows.args_list_sort _)
  obtain ⟨ss', h1, h2, h3⟩ := sorted_out_str hS hp hs
  obtain ⟨e, he⟩ := sortedHeap_at (out := (arrOf st').map (·.2)) ho
  have hk : ∀ b o, b ∉ [D] → h'.get? b = some o → (sortedHeap h' D vs ((arrOf st').map (·.2))).get? b = some o := fun b o hb e => by
    rw [sortedHeap_old (by simpa using hb) (Heap.lt_size e)]; exact e
  refine h D ((arrOf st').map (·.2)).toList ss' e _ tk (fr_but F' hk (Ne.symm z.2.1) z.2.2) (fun p hp => ?_) l1 h1 h2 h3
  rcases List.mem_cons.mp hp with rfl | hp
  · exact ⟨he, z.2⟩
  · have y := N' p (List.mem_cons_of_mem _ hp)
    exact ⟨hk _ _ (by simpa using Nat.ne_of_lt (l1 p hp)) y.1, y.2⟩
theorem item_dictG {d : Addr} {es : List DictEntry} {n : Nat} {kvs : List (Str × Value)} {k : Str} {t : Tok} {v : Value} (N : News h₀ L s.heap news) (hm : (d, dictObj es n) ∈ news) (hd : (dictObj es n).IsDictOf (PySem.strKind prog w) kvs) (hv : valueAt kvs k = some v)
    (h : Q v { s with toks := s.toks + 1 }) : wpAny (model prog w) A (getItem (.ref d) (.str k t)) Q E s :=
  wpAny_getItem_of (strKind_is prog w k t) (Heap.DictOf.mapOf (Heap.dictOf_iff.mpr ⟨_, N.get hm, hd⟩)) hv h
end
end Mine

end

section
open PySem PySem.W PyProof.Rows
set_option linter.unusedVariables false
namespace Mine
local macro_rules | `(tactic| walk_at "zz") => `(tactic| fail)
theorem rstUse : True := by
  w_top off
  trivial
local macro_rules | `(tactic| k_mem) => `(tactic| assumption)
local macro_rules | `(tactic| k_all) => `(tactic| with_reducible assumption)
local macro_rules | `(tactic| ktr_enter) => `(tactic| (k_dflt (refine' code_def ?k1 ?k2 ?k3 ?k4 ?k5 ?kA ?kF ?kK ?k6 ?k7 ?k8 ?k9 ?kB ?_ ?c2 ?c3 ?c4 ?c5; (case kA => exact rfl); (case kF => first | exact rfl | assumption); (case kK => first | exact rfl | assumption); (case k1 => k_asm); (case k2 => k_asm); (case k3 => k_asm); (case k4 => k_asm); (case k5 => k_asm); (case k6 => k_is); (case k7 => k_is); (case k8 => ((try dsimp only [topA]); omega)); (case k9 => exact BindsTo.of_eq rfl); (case c5 => decide); (case kB => exact locs rfl); (case c2 => exact rfl); (case c3 => exact rfl); (case c4 => exact rfl); k_whole; intro g' L' h' FG' F' N' B' X' T'; (try dsimp only); (try k_fold))))
local macro_rules | `(tactic| ktd_sub) => `(tactic| (intro p9 hp9; repeat (first | exact hp9 | refine List.mem_cons_of_mem _ ?_)))
local macro_rules | `(tactic| ktd_rel) => `(tactic| first | assumption | (refine' DIn.mono ?hs ?hh; (case hh => assumption); (case hs => ktd_sub)) | (refine' DsIn.mono ?hs ?hh; (case hh => assumption); (case hs => ktd_sub)) | (refine' KsIn.mono ?hs ?hh; (case hh => assumption); (case hs => ktd_sub)))
local macro_rules | `(tactic| ktr_room) => `(tactic| (simp only [depth_deeper, depth_in1, topA] at *; omega))
local macro_rules | `(tactic| ktr_units) => `(tactic| (simp only [units_deeper, units_in1, topA] at *; omega))
local macro_rules | `(tactic| ktr_unf) => `(tactic| (k_dflt (refine' code_defC ?k1 ?k2 ?k3 ?k4 ?k5 ?kA ?kF ?kK ?k6 ?k7 ?k8 ?k9 ?kB ?kD ?_ ?c2 ?c3 ?c4; (case kA => exact rfl); (case kF => first | exact rfl | assumption); (case kK => first | exact rfl | assumption); (case k1 => k_asm); (case k2 => k_asm); (case k3 => k_asm); (case k4 => k_asm); (case k5 => k_asm); (case k6 => k_is); (case k7 => k_is); (case k8 => ((try dsimp only [topA]); omega)); (case k9 => exact BindsTo.of_eq rfl); (case kB => exact rfl); (case kD => decide +kernel); (case c2 => exact rfl); (case c3 => exact rfl); (case c4 => exact rfl); k_whole; intro g' L' h' tk' cells' FG' F' N' Y' B' X' T' l1; (try k_lt l1); k_cells Y'; (try simp only [List.cons_append, List.nil_append] at N'); (try dsimp only); (try k_fold))))
theorem use_call {fl : Nat} {w : World} {f : Addr} {args : List Value} {news : List (Addr × Obj)} {kd ku : Nat} {post : Value → List (Addr × Obj) → Prop} {p : Program} {loose : List Str} {mean : ExcName → Option Value} {mg mb : Str → Option Value} {dp un : Nat} {gd : Option (List Code)} {env : Env} {outer : List Env} {A₀ : Around} {base h₀ : Heap} {L : Addr} {m : Str → Option Value} {s : Shared} {Q E : Value → Shared → Prop}
    (C : CallsTo w f args news kd ku post) (B : Below A₀ base outer h₀) (F : Fr h₀ L s.heap m) (X : (kf.heap_1 w.params).In h₀) (N : News h₀ L s.heap news) (T : Top p loose mean mg mb h₀) (hf : env.frame = some L) (hk : env.scope.kind = .function) (hd : dp + kd < recursionLimit) (hu : un + ku < cLine) (hG : GB fl s.gens)
    (h : ∀ r news' h' tk' g', post r news' → GB fl g' → Fr h₀ L h' m → News h₀ L h' news' → Q r { s with heap := h', toks := tk', gens := g' }) :
    wpAny (model PySem.Challenge.rw_eq0021_01.row.prog w) (topA dp un gd env outer) (call (.ref f) args) Q E s :=
  C fl p loose mean mg mb dp un gd env outer A₀ base h₀ L m s Q E ⟨B, F, X, N, T, hf, hk, hd, hu⟩ hG h

end Mine

end

section
open PySem PySem.W PyProof.Rows
set_option linter.unusedVariables false
namespace Mine
local macro_rules | `(tactic| walk_at "zz") => `(tactic| fail)
local macro_rules | `(tactic| walk_at "zz") => `(tactic| fail)
theorem rstC1 : True := by
  w_top off
  trivial
local macro_rules | `(tactic| k_mem) => `(tactic| assumption)
local macro_rules | `(tactic| k_all) => `(tactic| with_reducible assumption)
local macro_rules | `(tactic| ktr_enter) => `(tactic| (k_dflt (refine' code_def ?k1 ?k2 ?k3 ?k4 ?k5 ?kA ?kF ?kK ?k6 ?k7 ?k8 ?k9 ?kB ?_ ?c2 ?c3 ?c4 ?c5; (case kA => exact rfl); (case kF => first | exact rfl | assumption); (case kK => first | exact rfl | assumption); (case k1 => k_asm); (case k2 => k_asm); (case k3 => k_asm); (case k4 => k_asm); (case k5 => k_asm); (case k6 => k_is); (case k7 => k_is); (case k8 => ((try dsimp only [topA]); omega)); (case k9 => exact BindsTo.of_eq rfl); (case c5 => decide); (case kB => exact locs rfl); (case c2 => exact rfl); (case c3 => exact rfl); (case c4 => exact rfl); k_whole; intro g' L' h' FG' F' N' B' X' T'; (try dsimp only); (try k_fold))))
local macro_rules | `(tactic| ktd_sub) => `(tactic| (intro p9 hp9; repeat (first | exact hp9 | refine List.mem_cons_of_mem _ ?_)))
local macro_rules | `(tactic| ktd_rel) => `(tactic| first | assumption | (refine' DIn.mono ?hs ?hh; (case hh => assumption); (case hs => ktd_sub)) | (refine' DsIn.mono ?hs ?hh; (case hh => assumption); (case hs => ktd_sub)) | (refine' KsIn.mono ?hs ?hh; (case hh => assumption); (case hs => ktd_sub)))
local macro_rules | `(tactic| ktr_room) => `(tactic| (simp only [depth_deeper, depth_in1, topA] at *; omega))
local macro_rules | `(tactic| ktr_units) => `(tactic| (simp only [units_deeper, units_in1, topA] at *; omega))
local macro_rules | `(tactic| ktr_unf) => `(tactic| (k_dflt (refine' code_defC ?k1 ?k2 ?k3 ?k4 ?k5 ?kA ?kF ?kK ?k6 ?k7 ?k8 ?k9 ?kB ?kD ?_ ?c2 ?c3 ?c4; (case kA => exact rfl); (case kF => first | exact rfl | assumption); (case kK => first | exact rfl | assumption); (case k1 => k_asm); (case k2 => k_asm); (case k3 => k_asm); (case k4 => k_asm); (case k5 => k_asm); (case k6 => k_is); (case k7 => k_is); (case k8 => ((try dsimp only [topA]); omega)); (case k9 => exact BindsTo.of_eq rfl); (case kB => exact rfl); (case kD => decide +kernel); (case c2 => exact rfl); (case c3 => exact rfl); (case c4 => exact rfl); k_whole; intro g' L' h' tk' cells' FG' F' N' Y' B' X' T' l1; (try k_lt l1); k_cells Y'; (try simp only [List.cons_append, List.nil_append] at N'); (try dsimp only); (try k_fold))))
set_option maxRecDepth 100000 in
set_option maxHeartbeats 8000000 in
theorem isNumber_call (w : World) (nw : List (Addr × Obj)) (d : D) (v : Value) (hD : DIn w nw d v) : CallsTo w 870 [v] nw 10 80 (fun r nw' => r = .bool d.isNum ∧ nw' = nw) := by
  intro fl p loose mean mg mb dp un gd env outer A₀ base h₀ L m s Q E HA hG hret
  obtain ⟨B, F, X, N, T, hf, hk, hd, hu⟩ := HA
  refine wpAny_call ?_
  ktr_enter
  cases d <;> unfold DIn at hD <;> (try obtain ⟨_, _, t, rfl⟩ := hD) <;> (try obtain ⟨t, rfl⟩ := hD) <;> (try obtain ⟨_, _, _, rfl, hm, _⟩ := hD) <;> (try subst hD)
  all_goals k_steps
  all_goals (first | exact hret _ nw _ _ _ ⟨rfl, rfl⟩ hG (by k_asm) (news_sub (by k_asm) (by ktd_sub)) | fail)
  all_goals w_report

end Mine

end

section
open PySem PySem.W PyProof.Rows
set_option linter.unusedVariables false
namespace Mine
local macro_rules | `(tactic| walk_at "zz") => `(tactic| fail)
local macro_rules | `(tactic| walk_at "zz") => `(tactic| fail)
local macro_rules | `(tactic| walk_at "zz") => `(tactic| fail)
theorem rstC2 : True := by
  w_top off
  trivial
local macro_rules | `(tactic| k_mem) => `(tactic| assumption)
local macro_rules | `(tactic| k_all) => `(tactic| with_reducible assumption)
local macro_rules | `(tactic| ktr_enter) => `(tactic| (k_dflt (refine' code_def ?k1 ?k2 ?k3 ?k4 ?k5 ?kA ?kF ?kK ?k6 ?k7 ?k8 ?k9 ?kB ?_ ?c2 ?c3 ?c4 ?c5; (case kA => exact rfl); (case kF => first | exact rfl | assumption); (case kK => first | exact rfl | assumption); (case k1 => k_asm); (case k2 => k_asm); (case k3 => k_asm); (case k4 => k_asm); (case k5 => k_asm); (case k6 => k_is); (case k7 => k_is); (case k8 => ((try dsimp only [topA]); omega)); (case k9 => exact BindsTo.of_eq rfl); (case c5 => decide); (case kB => exact locs rfl); (case c2 => exact rfl); (case c3 => exact rfl); (case c4 => exact rfl); k_whole; intro g' L' h' FG' F' N' B' X' T'; (try dsimp only); (try k_fold))))
local macro_rules | `(tactic| ktd_sub) => `(tactic| (intro p9 hp9; repeat (first | exact hp9 | refine List.mem_cons_of_mem _ ?_)))
local macro_rules | `(tactic| ktd_rel) => `(tactic| first | assumption | (refine' DIn.mono ?hs ?hh; (case hh => assumption); (case hs => ktd_sub)) | (refine' DsIn.mono ?hs ?hh; (case hh => assumption); (case hs => ktd_sub)) | (refine' KsIn.mono ?hs ?hh; (case hh => assumption); (case hs => ktd_sub)))
local macro_rules | `(tactic| ktr_room) => `(tactic| (simp only [depth_deeper, depth_in1, topA] at *; omega))
local macro_rules | `(tactic| ktr_units) => `(tactic| (simp only [units_deeper, units_in1, topA] at *; omega))
local macro_rules | `(tactic| ktr_unf) => `(tactic| (k_dflt (refine' code_defC ?k1 ?k2 ?k3 ?k4 ?k5 ?kA ?kF ?kK ?k6 ?k7 ?k8 ?k9 ?kB ?kD ?_ ?c2 ?c3 ?c4; (case kA => exact rfl); (case kF => first | exact rfl | assumption); (case kK => first | exact rfl | assumption); (case k1 => k_asm); (case k2 => k_asm); (case k3 => k_asm); (case k4 => k_asm); (case k5 => k_asm); (case k6 => k_is); (case k7 => k_is); (case k8 => ((try dsimp only [topA]); omega)); (case k9 => exact BindsTo.of_eq rfl); (case kB => exact rfl); (case kD => decide +kernel); (case c2 => exact rfl); (case c3 => exact rfl); (case c4 => exact rfl); k_whole; intro g' L' h' tk' cells' FG' F' N' Y' B' X' T' l1; (try k_lt l1); k_cells Y'; (try simp only [List.cons_append, List.nil_append] at N'); (try dsimp only); (try k_fold))))
theorem eqh1 {sg : Sg} (b : Bool) : (sg.str == Str.ofString "!=") = true → (!b) = eqHolds sg b := by
  cases sg <;> first | (intro _; rfl) | (intro h; exact absurd h (by decide +kernel))
theorem eqh2 {sg : Sg} (b : Bool) : (sg.str == Str.ofString "!=") = false → ([Str.ofString "==", Str.ofString "=", Str.ofString "<=", Str.ofString ">="].any fun x => x == sg.str) = true → b = eqHolds sg b := by
  cases sg <;> first | (intro _ _; rfl) | (intro h; exact absurd h (by decide +kernel)) | (intro _ h; exact absurd h (by decide +kernel))
theorem eqh3 {sg : Sg} (b : Bool) : (sg.str == Str.ofString "!=") = false → ([Str.ofString "==", Str.ofString "=", Str.ofString "<=", Str.ofString ">="].any fun x => x == sg.str) = false → false = eqHolds sg b := by
  cases sg <;> first | (intro _ _; rfl) | (intro h; exact absurd h (by decide +kernel)) | (intro _ h; exact absurd h (by decide +kernel))
theorem eqh4 {sg : Sg} : (sg.str == Str.ofString "!=") = false → ([Str.ofString "==", Str.ofString "=", Str.ofString "<=", Str.ofString ">="].any fun x => x == sg.str) = false → ([Str.ofString "<", Str.ofString ">"].any fun x => x == sg.str) = false → False := by
  cases sg <;> intro h1 h2 h3 <;> revert h1 h2 h3 <;> decide +kernel
set_option maxRecDepth 100000 in
set_option maxHeartbeats 8000000 in
theorem eqHolds_call (w : World) (nw : List (Addr × Obj)) (sg : Sg) (t : Tok) (b : Bool) : CallsTo w 863 [.str sg.str t, .bool b] nw 10 80 (fun r nw' => r = .bool (eqHolds sg b) ∧ nw' = nw) := by
  intro fl p loose mean mg mb dp un gd env outer A₀ base h₀ L m s Q E HA hG hret
  obtain ⟨B, F, X, N, T, hf, hk, hd, hu⟩ := HA
  refine wpAny_call ?_
  ktr_enter
  all_goals k_steps
  · exact hret _ nw _ _ _ ⟨congrArg Value.bool (eqh1 b (by assumption)), rfl⟩ hG (by k_asm) (news_sub (by k_asm) (by ktd_sub))
  · exact hret _ nw _ _ _ ⟨congrArg Value.bool (eqh2 b (by assumption) (by assumption)), rfl⟩ hG (by k_asm) (news_sub (by k_asm) (by ktd_sub))
  · exact hret _ nw _ _ _ ⟨congrArg Value.bool (eqh3 b (by assumption) (by assumption)), rfl⟩ hG (by k_asm) (news_sub (by k_asm) (by ktd_sub))
  · exact (eqh4 (by assumption) (by assumption) (by assumption)).elim

end Mine

end

section
open PySem PySem.W PyProof.Rows
set_option linter.unusedVariables false
namespace Mine
local macro_rules | `(tactic| walk_at "zz") => `(tactic| fail)
local macro_rules | `(tactic| walk_at "zz") => `(tactic| fail)
local macro_rules | `(tactic| walk_at "zz") => `(tactic| fail)
local macro_rules | `(tactic| walk_at "zz") => `(tactic| fail)
theorem rstC3 : True := by
  w_top off
  trivial
local macro_rules | `(tactic| k_mem) => `(tactic| assumption)
local macro_rules | `(tactic| k_all) => `(tactic| with_reducible assumption)
local macro_rules | `(tactic| ktr_enter) => `(tactic| (k_dflt (refine' code_def ?k1 ?k2 ?k3 ?k4 ?k5 ?kA ?kF ?kK ?k6 ?k7 ?k8 ?k9 ?kB ?_ ?c2 ?c3 ?c4 ?c5; (case kA => exact rfl); (case kF => first | exact rfl | assumption); (case kK => first | exact rfl | assumption); (case k1 => k_asm); (case k2 => k_asm); (case k3 => k_asm); (case k4 => k_asm); (case k5 => k_asm); (case k6 => k_is); (case k7 => k_is); (case k8 => ((try dsimp only [topA]); omega)); (case k9 => exact BindsTo.of_eq rfl); (case c5 => decide); (case kB => exact locs rfl); (case c2 => exact rfl); (case c3 => exact rfl); (case c4 => exact rfl); k_whole; intro g' L' h' FG' F' N' B' X' T'; (try dsimp only); (try k_fold))))
local macro_rules | `(tactic| ktd_sub) => `(tactic| (intro p9 hp9; repeat (first | exact hp9 | refine List.mem_cons_of_mem _ ?_)))
local macro_rules | `(tactic| ktd_rel) => `(tactic| first | assumption | (refine' DIn.mono ?hs ?hh; (case hh => assumption); (case hs => ktd_sub)) | (refine' DsIn.mono ?hs ?hh; (case hh => assumption); (case hs => ktd_sub)) | (refine' KsIn.mono ?hs ?hh; (case hh => assumption); (case hs => ktd_sub)))
local macro_rules | `(tactic| ktr_room) => `(tactic| (simp only [depth_deeper, depth_in1, topA] at *; omega))
local macro_rules | `(tactic| ktr_units) => `(tactic| (simp only [units_deeper, units_in1, topA] at *; omega))
local macro_rules | `(tactic| ktr_unf) => `(tactic| (k_dflt (refine' code_defC ?k1 ?k2 ?k3 ?k4 ?k5 ?kA ?kF ?kK ?k6 ?k7 ?k8 ?k9 ?kB ?kD ?_ ?c2 ?c3 ?c4; (case kA => exact rfl); (case kF => first | exact rfl | assumption); (case kK => first | exact rfl | assumption); (case k1 => k_asm); (case k2 => k_asm); (case k3 => k_asm); (case k4 => k_asm); (case k5 => k_asm); (case k6 => k_is); (case k7 => k_is); (case k8 => ((try dsimp only [topA]); omega)); (case k9 => exact BindsTo.of_eq rfl); (case kB => exact rfl); (case kD => decide +kernel); (case c2 => exact rfl); (case c3 => exact rfl); (case c4 => exact rfl); k_whole; intro g' L' h' tk' cells' FG' F' N' Y' B' X' T' l1; (try k_lt l1); k_cells Y'; (try simp only [List.cons_append, List.nil_append] at N'); (try dsimp only); (try k_fold))))
theorem sgNe {sg : Sg} : (sg.str == Str.ofString "!=") = true → sg = .ne := by cases sg <;> first | (intro _; rfl) | (intro h; exact absurd h (by decide +kernel))
theorem sgEq {sg : Sg} : ([Str.ofString "==", Str.ofString "="].any fun x => x == sg.str) = true → sg = .eq := by cases sg <;> first | (intro _; rfl) | (intro h; exact absurd h (by decide +kernel))
theorem sgLe {sg : Sg} : (sg.str == Str.ofString "<=") = true → sg = .le := by cases sg <;> first | (intro _; rfl) | (intro h; exact absurd h (by decide +kernel))
theorem sgLt {sg : Sg} : (sg.str == Str.ofString "<") = true → sg = .lt := by cases sg <;> first | (intro _; rfl) | (intro h; exact absurd h (by decide +kernel))
theorem sgGe {sg : Sg} : (sg.str == Str.ofString ">=") = true → sg = .ge := by cases sg <;> first | (intro _; rfl) | (intro h; exact absurd h (by decide +kernel))
theorem sgGt {sg : Sg} : (sg.str == Str.ofString ">") = true → sg = .gt := by cases sg <;> first | (intro _; rfl) | (intro h; exact absurd h (by decide +kernel))
theorem sgNo {sg : Sg} : (sg.str == Str.ofString "!=") = false → ([Str.ofString "==", Str.ofString "="].any fun x => x == sg.str) = false → (sg.str == Str.ofString "<=") = false → (sg.str == Str.ofString "<") = false → (sg.str == Str.ofString ">=") = false → (sg.str == Str.ofString ">") = false → False := by
  cases sg <;> intro h1 h2 h3 h4 h5 h6 <;> revert h1 h2 h3 h4 h5 h6 <;> decide +kernel
theorem tx_ne (b c : Bool) : (txtS b != txtS c) = cmpTxt .ne b c := by cases b <;> cases c <;> decide +kernel
theorem tx_eq (b c : Bool) : (txtS b == txtS c) = cmpTxt .eq b c := by cases b <;> cases c <;> decide +kernel
theorem tx_le (b c : Bool) : (!decide ((txtS c).cps.toList < (txtS b).cps.toList)) = cmpTxt .le b c := by cases b <;> cases c <;> decide +kernel
theorem tx_lt (b c : Bool) : (decide ((txtS b).cps.toList < (txtS c).cps.toList)) = cmpTxt .lt b c := by cases b <;> cases c <;> decide +kernel
theorem tx_ge (b c : Bool) : (!decide ((txtS b).cps.toList < (txtS c).cps.toList)) = cmpTxt .ge b c := by cases b <;> cases c <;> decide +kernel
theorem tx_gt (b c : Bool) : (decide ((txtS c).cps.toList < (txtS b).cps.toList)) = cmpTxt .gt b c := by cases b <;> cases c <;> decide +kernel
set_option maxRecDepth 100000 in
set_option maxHeartbeats 8000000 in
theorem holds_call (w : World) (nw : List (Addr × Obj)) (sg : Sg) (t : Tok) (d1 d2 : D) (v1 v2 : Value) (hk0 : sameKind d1 d2 = true) (h1 : DIn w nw d1 v1) (h2 : DIn w nw d2 v2) : CallsTo w 856 [.str sg.str t, v1, v2] nw 10 80 (fun r nw' => r = .bool (holdsD sg d1 d2) ∧ nw' = nw) := by
  intro fl p loose mean mg mb dp un gd env outer A₀ base h₀ L m s Q E HA hG hret
  obtain ⟨B, F, X, N, T, hf, hk, hd, hu⟩ := HA
  refine wpAny_call ?_
  ktr_enter
  cases d1 <;> cases d2 <;> (try (cases hk0; done)) <;> unfold DIn at h1 h2 <;> (try obtain ⟨_, _, t, rfl⟩ := h1) <;> (try obtain ⟨t, rfl⟩ := h1) <;> (try obtain ⟨_, _, t, rfl⟩ := h2) <;> (try obtain ⟨t, rfl⟩ := h2)
  all_goals k_steps
  all_goals first
    | exact (sgNo (by assumption) (by assumption) (by assumption) (by assumption) (by assumption) (by assumption)).elim
    | (obtain rfl := sgNe (by assumption); refine hret _ nw _ _ _ ⟨congrArg Value.bool ?_, rfl⟩ hG (by k_asm) (news_sub (by k_asm) (by ktd_sub)); first | rfl | exact tx_ne _ _)
    | (obtain rfl := sgEq (by assumption); refine hret _ nw _ _ _ ⟨congrArg Value.bool ?_, rfl⟩ hG (by k_asm) (news_sub (by k_asm) (by ktd_sub)); first | rfl | exact tx_eq _ _)
    | (obtain rfl := sgLe (by assumption); refine hret _ nw _ _ _ ⟨congrArg Value.bool ?_, rfl⟩ hG (by k_asm) (news_sub (by k_asm) (by ktd_sub)); first | rfl | exact tx_le _ _)
    | (obtain rfl := sgLt (by assumption); refine hret _ nw _ _ _ ⟨congrArg Value.bool ?_, rfl⟩ hG (by k_asm) (news_sub (by k_asm) (by ktd_sub)); first | rfl | exact tx_lt _ _)
    | (obtain rfl := sgGe (by assumption); refine hret _ nw _ _ _ ⟨congrArg Value.bool ?_, rfl⟩ hG (by k_asm) (news_sub (by k_asm) (by ktd_sub)); first | rfl | exact tx_ge _ _)
    | (obtain rfl := sgGt (by assumption); refine hret _ nw _ _ _ ⟨congrArg Value.bool ?_, rfl⟩ hG (by k_asm) (news_sub (by k_asm) (by ktd_sub)); first | rfl | exact tx_gt _ _)
    | fail

end Mine

end

section
open PySem PySem.W PyProof.Rows
set_option linter.unusedVariables false
namespace Mine
local macro_rules | `(tactic| walk_at "zz") => `(tactic| fail)
local macro_rules | `(tactic| walk_at "zz") => `(tactic| fail)
local macro_rules | `(tactic| walk_at "zz") => `(tactic| fail)
local macro_rules | `(tactic| walk_at "zz") => `(tactic| fail)
local macro_rules | `(tactic| walk_at "zz") => `(tactic| fail)
theorem rstC4 : True := by
  w_top off
  trivial
local macro_rules | `(tactic| k_mem) => `(tactic| assumption)
local macro_rules | `(tactic| k_all) => `(tactic| with_reducible assumption)
local macro_rules | `(tactic| ktr_enter) => `(tactic| (k_dflt (refine' code_def ?k1 ?k2 ?k3 ?k4 ?k5 ?kA ?kF ?kK ?k6 ?k7 ?k8 ?k9 ?kB ?_ ?c2 ?c3 ?c4 ?c5; (case kA => exact rfl); (case kF => first | exact rfl | assumption); (case kK => first | exact rfl | assumption); (case k1 => k_asm); (case k2 => k_asm); (case k3 => k_asm); (case k4 => k_asm); (case k5 => k_asm); (case k6 => k_is); (case k7 => k_is); (case k8 => ((try dsimp only [topA]); omega)); (case k9 => exact BindsTo.of_eq rfl); (case c5 => decide); (case kB => exact locs rfl); (case c2 => exact rfl); (case c3 => exact rfl); (case c4 => exact rfl); k_whole; intro g' L' h' FG' F' N' B' X' T'; (try dsimp only); (try k_fold))))
local macro_rules | `(tactic| ktd_sub) => `(tactic| (intro p9 hp9; repeat (first | exact hp9 | refine List.mem_cons_of_mem _ ?_)))
local macro_rules | `(tactic| ktd_rel) => `(tactic| first | assumption | (refine' DIn.mono ?hs ?hh; (case hh => assumption); (case hs => ktd_sub)) | (refine' DsIn.mono ?hs ?hh; (case hh => assumption); (case hs => ktd_sub)) | (refine' KsIn.mono ?hs ?hh; (case hh => assumption); (case hs => ktd_sub)))
local macro_rules | `(tactic| ktr_room) => `(tactic| (simp only [depth_deeper, depth_in1, topA] at *; omega))
local macro_rules | `(tactic| ktr_units) => `(tactic| (simp only [units_deeper, units_in1, topA] at *; omega))
local macro_rules | `(tactic| ktr_unf) => `(tactic| (k_dflt (refine' code_defC ?k1 ?k2 ?k3 ?k4 ?k5 ?kA ?kF ?kK ?k6 ?k7 ?k8 ?k9 ?kB ?kD ?_ ?c2 ?c3 ?c4; (case kA => exact rfl); (case kF => first | exact rfl | assumption); (case kK => first | exact rfl | assumption); (case k1 => k_asm); (case k2 => k_asm); (case k3 => k_asm); (case k4 => k_asm); (case k5 => k_asm); (case k6 => k_is); (case k7 => k_is); (case k8 => ((try dsimp only [topA]); omega)); (case k9 => exact BindsTo.of_eq rfl); (case kB => exact rfl); (case kD => decide +kernel); (case c2 => exact rfl); (case c3 => exact rfl); (case c4 => exact rfl); k_whole; intro g' L' h' tk' cells' FG' F' N' Y' B' X' T' l1; (try k_lt l1); k_cells Y'; (try simp only [List.cons_append, List.nil_append] at N'); (try dsimp only); (try k_fold))))
/-- the text's word for a kind -/
def kindS : D → Str
  | .num _ => Str.ofString "number"
  | .txt _ => Str.ofString "text"
  | .tru _ => Str.ofString "truth"
  | _ => Str.ofString "other"
set_option maxRecDepth 100000 in
set_option maxHeartbeats 8000000 in
theorem kind_call (w : World) (nw : List (Addr × Obj)) (d : D) (v : Value) (hD : DIn w nw d v) : CallsTo w 956 [v] nw 10 80 (fun r nw' => (∃ t, r = .str (kindS d) t) ∧ nw' = nw) := by
  intro fl p loose mean mg mb dp un gd env outer A₀ base h₀ L m s Q E HA hG hret
  obtain ⟨B, F, X, N, T, hf, hk, hd, hu⟩ := HA
  refine wpAny_call ?_
  ktr_enter
  cases d <;> unfold DIn at hD <;> (try obtain ⟨_, _, t, rfl⟩ := hD) <;> (try obtain ⟨t, rfl⟩ := hD) <;> (try obtain ⟨_, _, _, rfl, hm, _⟩ := hD) <;> (try subst hD)
  all_goals k_steps
  all_goals (first | exact hret _ nw _ _ _ ⟨⟨_, rfl⟩, rfl⟩ hG (by k_asm) (news_sub (by k_asm) (by ktd_sub)) | fail)
  all_goals w_report

end Mine

end

section
local macro_rules | `(tactic| walk_at "zz") => `(tactic| fail)
local macro_rules | `(tactic| walk_at "zz") => `(tactic| fail)
local macro_rules | `(tactic| walk_at "zz") => `(tactic| fail)
local macro_rules | `(tactic| walk_at "zz") => `(tactic| fail)
local macro_rules | `(tactic| walk_at "zz") => `(tactic| fail)
theorem Mine.rstT2 : True := by
  w_top off
  trivial
open PySem PySem.W PyProof.Rows
set_option linter.unusedVariables false
namespace Mine
local macro_rules | `(tactic| k_mem) => `(tactic| assumption)
local macro_rules | `(tactic| walk_at "call builtin:len") => `(tactic| (k_here; (with_reducible show wpAny _ _ (call (Value.builtin "len") [Value.ref _]) _ _ _); (refine len_list (News.isList (by k_asm) (by k_mem)) (by (try rw [List.size_toArray]); omega) ?_); (try rw [List.size_toArray])))
local macro_rules | `(tactic| k_all) => `(tactic| with_reducible assumption)
theorem fill2 : ∀ (w : World) (h : Heap), (kf.heap_1 w.params).In h → PySem.Challenge.rw_eq0021_01 = PySem.Challenge.rw_eq0021_01 := by
  k_fill
  intros; rfl
set_option maxRecDepth 100000 in
set_option maxHeartbeats 8000000 in
theorem next_call : ∀ (w : World) (st ls : Addr) (vs : List Value) (ns : List Int) (i : Int) (n1 n2 : Nat) (t1 t2 : Tok) (news : List (Addr × Obj)) (lim : Int),
    IntsAre vs ns → (∀ p ∈ news, p.1 ≠ st) → (ls, listObj vs n2) ∈ news → 0 ≤ i → i < 100000 → 0 < lim → lim < 100 → vs.length < 100 →
    CallsTo w 944 [.ref st, .int lim t2] ((st, listObj [.ref ls, .int i t1] n1) :: news) 10 80 (fun r news' => ∃ t t' k, 0 ≤ k ∧ k < lim ∧ r = .int k t ∧ news' = (st, listObj [.ref ls, .int (i + 1) t'] n1) :: news) := by
  intro w st ls vs ns i n1 n2 t1 t2 news lim hI hst hls hi0 hi1 hl0 hl1 hvs
  intro fl p loose mean mg mb dp un gd env outer A₀ base h₀ L m s Q E HA hG hret
  obtain ⟨B, F, X, N, T, hf, hk, hd, hu⟩ := HA
  refine wpAny_call ?_
  k_dflt (refine' code_def ?k1 ?k2 ?k3 ?k4 ?k5 ?kA ?kF ?kK ?k6 ?k7 ?k8 ?k9 ?kB ?_ ?c2 ?c3 ?c4 ?c5; (case kA => exact rfl); (case kF => assumption); (case kK => assumption); (case k1 => k_asm); (case k2 => k_asm); (case k3 => k_asm); (case k4 => k_asm); (case k5 => k_asm); (case k6 => k_is); (case k7 => k_is); (case k8 => ((try dsimp only [topA]); omega)); (case k9 => exact BindsTo.of_eq rfl); (case c5 => decide); (case kB => exact locs rfl); (case c2 => exact rfl); (case c3 => exact rfl); (case c4 => exact rfl); k_whole; intro g' L' h' FG' F' N' B' X' T'; (try dsimp only); (try k_fold))
  k_steps
  · exact hret _ _ _ _ _ ⟨_, _, _, Int.le_refl _, hl0, rfl, rfl⟩ hG (by k_asm) (by k_asm)
  · refine hret _ _ _ _ _ ⟨_, _, _, ?_, ?_, rfl, rfl⟩ hG (by k_asm) (by k_asm)
    · exact Int.fmod_nonneg_of_pos _ hl0
    · exact Int.fmod_lt_of_pos _ hl0
end Mine

end

section
open PySem PySem.W PyProof.Rows
set_option linter.unusedVariables false
namespace Mine
local macro_rules | `(tactic| walk_at "zz") => `(tactic| fail)
local macro_rules | `(tactic| walk_at "zz") => `(tactic| fail)
local macro_rules | `(tactic| walk_at "zz") => `(tactic| fail)
local macro_rules | `(tactic| walk_at "zz") => `(tactic| fail)
local macro_rules | `(tactic| walk_at "zz") => `(tactic| fail)
local macro_rules | `(tactic| walk_at "zz") => `(tactic| fail)
theorem rstC5 : True := by
  w_top off
  trivial
local macro_rules | `(tactic| k_mem) => `(tactic| assumption)
local macro_rules | `(tactic| k_all) => `(tactic| with_reducible assumption)
local macro_rules | `(tactic| ktr_enter) => `(tactic| (k_dflt (refine' code_def ?k1 ?k2 ?k3 ?k4 ?k5 ?kA ?kF ?kK ?k6 ?k7 ?k8 ?k9 ?kB ?_ ?c2 ?c3 ?c4 ?c5; (case kA => exact rfl); (case kF => first | exact rfl | assumption); (case kK => first | exact rfl | assumption); (case k1 => k_asm); (case k2 => k_asm); (case k3 => k_asm); (case k4 => k_asm); (case k5 => k_asm); (case k6 => k_is); (case k7 => k_is); (case k8 => ((try dsimp only [topA]); omega)); (case k9 => exact BindsTo.of_eq rfl); (case c5 => decide); (case kB => exact locs rfl); (case c2 => exact rfl); (case c3 => exact rfl); (case c4 => exact rfl); k_whole; intro g' L' h' FG' F' N' B' X' T'; (try dsimp only); (try k_fold))))
local macro_rules | `(tactic| ktd_sub) => `(tactic| (intro p9 hp9; repeat (first | exact hp9 | refine List.mem_cons_of_mem _ ?_)))
local macro_rules | `(tactic| ktd_rel) => `(tactic| first | assumption | (refine' DIn.mono ?hs ?hh; (case hh => assumption); (case hs => ktd_sub)) | (refine' DsIn.mono ?hs ?hh; (case hh => assumption); (case hs => ktd_sub)) | (refine' KsIn.mono ?hs ?hh; (case hh => assumption); (case hs => ktd_sub)))
local macro_rules | `(tactic| ktr_room) => `(tactic| (simp only [depth_deeper, depth_in1, topA] at *; omega))
local macro_rules | `(tactic| ktr_units) => `(tactic| (simp only [units_deeper, units_in1, topA] at *; omega))
local macro_rules | `(tactic| ktr_unf) => `(tactic| (k_dflt (refine' code_defC ?k1 ?k2 ?k3 ?k4 ?k5 ?kA ?kF ?kK ?k6 ?k7 ?k8 ?k9 ?kB ?kD ?_ ?c2 ?c3 ?c4; (case kA => exact rfl); (case kF => first | exact rfl | assumption); (case kK => first | exact rfl | assumption); (case k1 => k_asm); (case k2 => k_asm); (case k3 => k_asm); (case k4 => k_asm); (case k5 => k_asm); (case k6 => k_is); (case k7 => k_is); (case k8 => ((try dsimp only [topA]); omega)); (case k9 => exact BindsTo.of_eq rfl); (case kB => exact rfl); (case kD => decide +kernel); (case c2 => exact rfl); (case c3 => exact rfl); (case c4 => exact rfl); k_whole; intro g' L' h' tk' cells' FG' F' N' Y' B' X' T' l1; (try k_lt l1); k_cells Y'; (try simp only [List.cons_append, List.nil_append] at N'); (try dsimp only); (try k_fold))))
local macro_rules | `(tactic| walk_at "call ref") => `(tactic| (k_here; (with_reducible show wpAny _ _ (call (Value.ref 956) _) _ _ _); k_dflt (refine' use_call (kind_call _ _ _ _ ?hD) ?B ?F ?X ?N ?T ?hf ?hk ?hd ?hu ?hG ?_; (case B => k_asm); (case F => k_asm); (case X => k_asm); (case N => k_asm); (case T => k_asm); (case hf => first | exact rfl | assumption); (case hk => first | exact rfl | assumption); (case hG => assumption); (case hD => ktd_rel); (case hd => ktr_room); (case hu => ktr_units); k_whole; intro r9 nw9 h9 tk9 g9 p9 hG9 F9 N9; obtain ⟨p9, q9⟩ := p9; obtain ⟨t9, p9⟩ := p9; replace q9 := Eq.symm q9; subst q9; subst p9; (try dsimp only); (try k_fold))))
def lessD : D → D → Bool
  | .num a, .num b => decide (a < b)
  | .txt a, .txt b => cmpTxt .lt a b
  | _, _ => false
theorem kinds_same {d1 d2 : D} : (kindS d1 == kindS d2) = true → ([Str.ofString "number", Str.ofString "text"].any fun x => x == kindS d1) = true → sameKind d1 d2 = true := by
  cases d1 <;> cases d2 <;> first | (intro _ _; rfl) | (intro h; exact absurd h (by simp only [kindS]; decide +kernel)) | (intro _ h; exact absurd h (by simp only [kindS]; decide +kernel))
theorem less_kind {d1 d2 : D} : (kindS d1 == kindS d2) = true → ([Str.ofString "number", Str.ofString "text"].any fun x => x == kindS d1) = false → false = lessD d1 d2 := by
  cases d1 <;> cases d2 <;> first | (intro _ _; rfl) | (intro h; exact absurd h (by simp only [kindS]; decide +kernel)) | (intro _ h; exact absurd h (by simp only [kindS]; decide +kernel))
theorem less_unlike {d1 d2 : D} : (kindS d1 == kindS d2) = false → false = lessD d1 d2 := by
  cases d1 <;> cases d2 <;> first | (intro _; rfl) | (intro h; exact absurd h (by simp only [kindS]; decide +kernel))
theorem lt_data {w : World} {nw : List (Addr × Obj)} {prog : Program} {A : Around} {Q E : Value → Shared → Prop} {s : Shared} {d1 d2 : D} {v1 v2 : Value} (h1 : DIn w nw d1 v1) (h2 : DIn w nw d2 v2) (hk : sameKind d1 d2 = true)
    (h : Q (.bool (lessD d1 d2)) s) : wpAny (model prog w) A (compareOp .Lt v1 v2) Q E s := by
  cases d1 <;> cases d2 <;> (try (cases hk; done)) <;> unfold DIn at h1 h2
  · obtain ⟨_, _, t, rfl⟩ := h1
    obtain ⟨_, _, t', rfl⟩ := h2
    exact lt_int h
  · obtain ⟨t, rfl⟩ := h1
    obtain ⟨t', rfl⟩ := h2
    rename_i b c
    refine lt_str ?_
    have e := tx_lt b c
    show Q (.bool (decide _)) s
    rw [e]; exact h
set_option maxRecDepth 100000 in
set_option maxHeartbeats 8000000 in
theorem less_call (w : World) (nw : List (Addr × Obj)) (d1 d2 : D) (v1 v2 : Value) (h1 : DIn w nw d1 v1) (h2 : DIn w nw d2 v2) : CallsTo w 968 [v1, v2] nw 30 180 (fun r nw' => r = .bool (lessD d1 d2) ∧ nw' = nw) := by
  intro fl p loose mean mg mb dp un gd env outer A₀ base h₀ L m s Q E HA hG hret
  obtain ⟨B, F, X, N, T, hf, hk, hd, hu⟩ := HA
  refine wpAny_call ?_
  ktr_enter
  all_goals k_steps
  · refine lt_data h1 h2 (kinds_same (by assumption) (by assumption)) ?_
    k_steps
    exact hret _ nw _ _ _ ⟨rfl, rfl⟩ (by assumption) (by k_asm) (news_sub (by k_asm) (by ktd_sub))
  · refine hret _ nw _ _ _ ⟨congrArg Value.bool ?_, rfl⟩ (by assumption) (by k_asm) (news_sub (by k_asm) (by ktd_sub))
    exact (by assumption : _ = false).trans (less_kind (by assumption) (by assumption))
  · refine hret _ nw _ _ _ ⟨congrArg Value.bool ?_, rfl⟩ (by assumption) (by k_asm) (news_sub (by k_asm) (by ktd_sub))
    exact (by assumption : _ = false).trans (less_unlike (by assumption))

end Mine

end

section
open PySem PySem.W PyProof.Rows
set_option linter.unusedVariables false
namespace Mine
local macro_rules | `(tactic| walk_at "zz") => `(tactic| fail)
local macro_rules | `(tactic| walk_at "zz") => `(tactic| fail)
local macro_rules | `(tactic| walk_at "zz") => `(tactic| fail)
local macro_rules | `(tactic| walk_at "zz") => `(tactic| fail)
local macro_rules | `(tactic| walk_at "zz") => `(tactic| fail)
local macro_rules | `(tactic| walk_at "zz") => `(tactic| fail)
local macro_rules | `(tactic| walk_at "zz") => `(tactic| fail)
local macro_rules | `(tactic| walk_at "zz") => `(tactic| fail)
theorem rstSameDefs : True := by
  w_top off
  trivial
local macro_rules | `(tactic| k_mem) => `(tactic| assumption)
local macro_rules | `(tactic| k_all) => `(tactic| with_reducible assumption)
local macro_rules | `(tactic| ktr_enter) => `(tactic| (k_dflt (refine' code_def ?k1 ?k2 ?k3 ?k4 ?k5 ?kA ?kF ?kK ?k6 ?k7 ?k8 ?k9 ?kB ?_ ?c2 ?c3 ?c4 ?c5; (case kA => exact rfl); (case kF => first | exact rfl | assumption); (case kK => first | exact rfl | assumption); (case k1 => k_asm); (case k2 => k_asm); (case k3 => k_asm); (case k4 => k_asm); (case k5 => k_asm); (case k6 => k_is); (case k7 => k_is); (case k8 => ((try dsimp only [topA]); omega)); (case k9 => exact BindsTo.of_eq rfl); (case c5 => decide); (case kB => exact locs rfl); (case c2 => exact rfl); (case c3 => exact rfl); (case c4 => exact rfl); k_whole; intro g' L' h' FG' F' N' B' X' T'; (try dsimp only); (try k_fold))))
local macro_rules | `(tactic| ktd_sub) => `(tactic| (intro p9 hp9; repeat (first | exact hp9 | refine List.mem_cons_of_mem _ ?_)))
local macro_rules | `(tactic| ktd_rel) => `(tactic| first | assumption | (refine' DIn.mono ?hs ?hh; (case hh => assumption); (case hs => ktd_sub)) | (refine' DsIn.mono ?hs ?hh; (case hh => assumption); (case hs => ktd_sub)) | (refine' KsIn.mono ?hs ?hh; (case hh => assumption); (case hs => ktd_sub)))
local macro_rules | `(tactic| ktr_room) => `(tactic| (simp only [depth_deeper, depth_in1, topA] at *; omega))
local macro_rules | `(tactic| ktr_units) => `(tactic| (simp only [units_deeper, units_in1, topA] at *; omega))
local macro_rules | `(tactic| ktr_unf) => `(tactic| (k_dflt (refine' code_defC ?k1 ?k2 ?k3 ?k4 ?k5 ?kA ?kF ?kK ?k6 ?k7 ?k8 ?k9 ?kB ?kD ?_ ?c2 ?c3 ?c4; (case kA => exact rfl); (case kF => first | exact rfl | assumption); (case kK => first | exact rfl | assumption); (case k1 => k_asm); (case k2 => k_asm); (case k3 => k_asm); (case k4 => k_asm); (case k5 => k_asm); (case k6 => k_is); (case k7 => k_is); (case k8 => ((try dsimp only [topA]); omega)); (case k9 => exact BindsTo.of_eq rfl); (case kB => exact rfl); (case kD => decide +kernel); (case c2 => exact rfl); (case c3 => exact rfl); (case c4 => exact rfl); k_whole; intro g' L' h' tk' cells' FG' F' N' Y' B' X' T' l1; (try k_lt l1); k_cells Y'; (try simp only [List.cons_append, List.nil_append] at N'); (try dsimp only); (try k_fold))))
def D.isLeaf : D → Bool | .list _ => false | .dict _ => false | _ => true
mutual
def eqD : D → D → Bool
  | .num a, .num b => decide (a = b)
  | .txt a, .txt b => a == b
  | .tru a, .tru b => a == b
  | .nil, .nil => true
  | .list xs, .list ys => xs.length == ys.length && eqL xs ys
  | .dict xs, .dict ys => decide ((xs.map (·.1.str)).Perm (ys.map (·.1.str))) && eqK xs ys
  | _, _ => false
def eqL : List D → List D → Bool
  | [], _ => true
  | x :: xs, y :: ys => eqD x y && eqL xs ys
  | _, _ => false
def eqK : List (Key × D) → List (Key × D) → Bool
  | [], _ => true
  | (k, d) :: r, ys => (match ys.find? (fun q => q.1 = k) with | some q => eqD d q.2 | none => false) && eqK r ys
end
def D.ok : Nat → D → Prop
  | 0, _ => False
  | n + 1, .list ds => ∀ x ∈ ds, D.ok n x
  | n + 1, .dict ks => ∀ x ∈ ks, D.ok n x.2
  | _ + 1, _ => True
set_option maxRecDepth 100000 in
set_option maxHeartbeats 8000000 in
theorem isin_leafs {w : World} {nw : List (Addr × Obj)} {d : D} {v : Value} {p : Program} {loose : List Str} {mean : ExcName → Option Value} {mg mb : Str → Option Value} {A : Around} {h₀ : Heap} {L : Addr} {m : Str → Option Value} {s : Shared} {Q E : Value → Shared → Prop} {T : String} (hT : T = "dict" ∨ T = "list")
    (F : Fr h₀ L s.heap m) (X : (kf.heap_1 w.params).In h₀) (N : News h₀ L s.heap nw) (T' : Top p loose mean mg mb h₀) (hD : DIn w nw d v) (hl : d.isLeaf = true) (h : ∀ tk, Q (.bool false) { s with toks := tk }) :
    wpAny (model PySem.Challenge.rw_eq0021_01.row.prog w) A (call (.builtin "isinstance") [v, .type T]) Q E s := by
  rcases hT with rfl | rfl <;> cases d <;> unfold DIn at hD <;> (try (cases hl; done)) <;> (try obtain ⟨_, _, t, rfl⟩ := hD) <;> (try obtain ⟨t, rfl⟩ := hD) <;> (try obtain ⟨_, _, _, rfl, hm, _⟩ := hD) <;> (try subst hD)
  all_goals (k_steps; exact h _)
set_option maxRecDepth 100000 in
set_option maxHeartbeats 8000000 in
theorem isin_leafs2 {w : World} {nw : List (Addr × Obj)} {d : D} {v : Value} {p : Program} {loose : List Str} {mean : ExcName → Option Value} {mg mb : Str → Option Value} {A : Around} {h₀ : Heap} {L : Addr} {m : Str → Option Value} {s : Shared} {Q E : Value → Shared → Prop} {t : Addr} {k : Nat} {T1 T2 : String} (hT : (T1 = "dict" ∧ T2 = "list") ∨ (T1 = "list" ∧ T2 = "dict"))
    (F : Fr h₀ L s.heap m) (X : (kf.heap_1 w.params).In h₀) (N : News h₀ L s.heap nw) (T' : Top p loose mean mg mb h₀) (hm2 : (t, ({ cls := .type "tuple", data := .seq [.type T1, .type T2].toArray k } : Obj)) ∈ nw) (hD : DIn w nw d v) (hl : d.isLeaf = true) (h : ∀ tk, Q (.bool false) { s with toks := tk }) :
    wpAny (model PySem.Challenge.rw_eq0021_01.row.prog w) A (call (.builtin "isinstance") [v, .ref t]) Q E s := by
  rcases hT with ⟨rfl, rfl⟩ | ⟨rfl, rfl⟩ <;> cases d <;> unfold DIn at hD <;> (try (cases hl; done)) <;> (try obtain ⟨_, _, t, rfl⟩ := hD) <;> (try obtain ⟨t, rfl⟩ := hD) <;> (try obtain ⟨_, _, _, rfl, hm, _⟩ := hD) <;> (try subst hD)
  all_goals (k_steps; first | exact h _ | fail)
theorem eq_leaf {w : World} {nw : List (Addr × Obj)} {prog : Program} {A : Around} {Q E : Value → Shared → Prop} {s : Shared} {d1 d2 : D} {v1 v2 : Value} (h1 : DIn w nw d1 v1) (h2 : DIn w nw d2 v2) (hl1 : d1.isLeaf = true) (hl2 : d2.isLeaf = true) (hk : (kindS d1 == kindS d2) = true)
    (h : Q (.bool (eqD d1 d2)) s) : wpAny (model prog w) A (compareOp .Eq v1 v2) Q E s := by
  cases d1 <;> cases d2 <;> (try (cases hl1; done)) <;> (try (cases hl2; done)) <;> (try (exact absurd hk (by simp only [kindS]; decide +kernel))) <;> unfold DIn at h1 h2
  · obtain ⟨_, _, t, rfl⟩ := h1
    obtain ⟨_, _, t', rfl⟩ := h2
    simp only [eqD] at h
    exact EqBoolInt.of_rc (SeqAt.RcAt.int_int _ _ _ _) h
  · obtain ⟨t, rfl⟩ := h1
    obtain ⟨t', rfl⟩ := h2
    rename_i b c
    simp only [eqD] at h
    refine EqBoolInt.of_rc (SeqAt.RcAt.str_str _ _ _ _) ?_
    have e : (txtS b == txtS c) = (b == c) := by cases b <;> cases c <;> decide +kernel
    rw [e]; exact h
  · subst h1 h2
    simp only [eqD] at h
    exact EqBoolInt.of_rc (SeqAt.RcAt.bool_bool _ _) h
  · subst h1 h2
    simp only [eqD] at h
    exact EqBoolInt.of_rc SeqAt.RcAt.none_none h
theorem leaf_unlike {d1 d2 : D} (hl1 : d1.isLeaf = true) (hl2 : d2.isLeaf = true) : (kindS d1 == kindS d2) = false → false = eqD d1 d2 := by
  cases d1 <;> cases d2 <;> (try (cases hl1; done)) <;> (try (cases hl2; done)) <;> first | (intro _; simp only [eqD]; done) | (intro h; exact absurd h (by simp only [kindS]; decide +kernel))
theorem eqD_leafR {d1 d2 : D} (h1 : d1.isLeaf = false) (h2 : d2.isLeaf = true) : false = eqD d1 d2 := by
  cases d1 <;> cases d2 <;> first | (cases h1; done) | (cases h2; done) | (simp only [eqD]; done)
theorem eqD_leafL {d1 d2 : D} (h1 : d1.isLeaf = true) (h2 : d2.isLeaf = false) : false = eqD d1 d2 := by
  cases d1 <;> cases d2 <;> first | (cases h1; done) | (cases h2; done) | (simp only [eqD]; done)
theorem boolsAre_snoc : ∀ {vs : List Value} {bs : List Bool} {b : Bool}, LSm.BoolsAre vs bs → LSm.BoolsAre (vs ++ [.bool b]) (bs ++ [b])
  | _, _, b, .nil => .cons b .nil
  | _, _, b, .cons c h => .cons c (boolsAre_snoc h)
def atD (xs : List D) (j : Nat) : D := (xs[j]?).getD .nil
def bl (xs ys : List D) (i : Nat) : List Bool := (List.range i).map fun j => eqD (atD xs j) (atD ys j)
theorem bl_succ (xs ys : List D) (i : Nat) : bl xs ys (i + 1) = bl xs ys i ++ [eqD (atD xs i) (atD ys i)] := by simp [bl, List.range_succ]
theorem eqL_bl : ∀ (xs ys : List D), xs.length = ys.length → (bl xs ys xs.length).all id = eqL xs ys
  | [], ys, _ => by simp [bl, eqL]
  | x :: xs, [], h => by simp at h
  | x :: xs, y :: ys, h => by
    have ih := eqL_bl xs ys (by simpa using h)
    simp only [eqL, ← ih, bl, List.length_cons, List.range_succ_eq_map, List.map_cons, List.map_map, List.all_cons, id]
    rfl
def keyD (ys : List (Key × D)) (k : Key) : D := ((ys.find? fun q => q.1 = k).map (·.2)).getD .nil
def kl (xs ys : List (Key × D)) (i : Nat) : List Bool := (xs.take i).map fun q => eqD q.2 (keyD ys q.1)
theorem Key.str_inj {k1 k2 : Key} (h : k1.str = k2.str) : k1 = k2 := by cases k1 <;> cases k2 <;> first | rfl | exact absurd h (by decide +kernel)
theorem Key.str_ok (k : Key) : PyData.strOk k.str = true := by cases k <;> decide +kernel
theorem kl_succ {xs ys : List (Key × D)} {i : Nat} {q : Key × D} (h : xs[i]? = some q) : kl xs ys (i + 1) = kl xs ys i ++ [eqD q.2 (keyD ys q.1)] := by
  simp only [kl, List.take_add_one, h, List.map_append]; rfl
theorem eqK_kl : ∀ (xs ys : List (Key × D)), (∀ q ∈ xs, (ys.find? fun p => p.1 = q.1).isSome = true) → (kl xs ys xs.length).all id = eqK xs ys
  | [], ys, _ => by simp [kl, eqK]
  | (k, d) :: xs, ys, h => by
    have ih := eqK_kl xs ys fun q hq => h q (List.mem_cons_of_mem _ hq)
    have h1 := h (k, d) List.mem_cons_self
    obtain ⟨p, hp⟩ := Option.isSome_iff_exists.mp h1
    simp only [kl, List.take_length] at ih
    have hp' : List.find? (fun q => decide (q.1 = k)) ys = some p := hp
    simp only [kl, List.take_length, List.map_cons, List.all_cons, id, eqK]
    rw [ih, hp']
    simp [keyD, hp']
theorem KsIn.keys {w : World} {nw : List (Addr × Obj)} : ∀ {ks : List (Key × D)} {kvs : List (Str × Value)}, KsIn w nw ks kvs → kvs.map (·.1) = ks.map (·.1.str)
  | [], _, h => by unfold KsIn at h; rw [h]; rfl
  | (k, d) :: ds, _, h => by
    unfold KsIn at h
    obtain ⟨v, r, rfl, _, h2⟩ := h
    simp [KsIn.keys h2]
theorem KsIn.value {w : World} {nw : List (Addr × Obj)} : ∀ {ks : List (Key × D)} {kvs : List (Str × Value)}, KsIn w nw ks kvs → ∀ {k : Key} {p : Key × D}, (ks.find? fun q => q.1 = k) = some p → ∃ v, valueAt kvs k.str = some v ∧ DIn w nw p.2 v
  | [], _, h, k, p, e => by simp at e
  | (k', d) :: ds, _, h, k, p, e => by
    unfold KsIn at h
    obtain ⟨v, r, rfl, h1, h2⟩ := h
    by_cases hk : k' = k
    · subst hk
      simp at e; subst e
      exact ⟨v, by simp [valueAt], h1⟩
    · have hk' : ¬ k'.str = k.str := fun q => hk (Key.str_inj q)
      simp only [List.find?_cons, decide_eq_false hk] at e
      obtain ⟨v', e', h'⟩ := KsIn.value h2 e
      refine ⟨v', ?_, h'⟩
      simpa [valueAt, List.find?_cons, hk'] using e'
theorem KsIn.absent {w : World} {nw : List (Addr × Obj)} : ∀ {ks : List (Key × D)} {kvs : List (Str × Value)}, KsIn w nw ks kvs → ∀ {k : Key}, (ks.find? fun q => q.1 = k) = none → valueAt kvs k.str = none
  | [], _, h, k, e => by unfold KsIn at h; rw [h]; rfl
  | (k', d) :: ds, _, h, k, e => by
    unfold KsIn at h
    obtain ⟨v, r, rfl, h1, h2⟩ := h
    by_cases hk : k' = k
    · subst hk
      simp at e
    · have hk' : ¬ k'.str = k.str := fun q => hk (Key.str_inj q)
      simp only [List.find?_cons, decide_eq_false hk] at e
      have e' := KsIn.absent h2 e
      simpa [valueAt, List.find?_cons, hk'] using e'
abbrev leS (a b : Str) : Prop := a.cps.toList ≤ b.cps.toList
theorem leS_of {a b : Str} (h : Spec.ltCps b.cps.toList a.cps.toList = false) : leS a b := by
  rw [ltCps_eq] at h
  exact List.not_lt.mp (of_decide_eq_false h)
theorem leS_eq {a b : Str} (h1 : leS a b) (h2 : leS b a) : a = b := by
  have : a.cps.toList = b.cps.toList := List.le_antisymm h1 h2
  cases a; cases b; simp only [Str.mk.injEq]; exact Array.toList_inj.mp this
theorem rising_pairwise : ∀ (p : Str) (l : List Str), risingS p l = true → (p :: l).Pairwise leS
  | p, [], _ => List.pairwise_singleton _ _
  | p, x :: r, h => by
    have h' : (!Spec.ltCps x.cps.toList p.cps.toList && risingS x r) = true := h
    simp only [Bool.and_eq_true, Bool.not_eq_true'] at h'
    have ih := rising_pairwise x r h'.2
    refine List.pairwise_cons.mpr ⟨fun y hy => ?_, ih⟩
    rcases List.mem_cons.mp hy with rfl | hy
    · exact leS_of h'.1
    · exact List.le_trans (leS_of h'.1) ((List.pairwise_cons.mp ih).1 y hy)
theorem sorted_pairwise : ∀ (l : List Str), sortedS l = true → l.Pairwise leS
  | [], _ => .nil
  | x :: r, h => rising_pairwise x r h
theorem sorted_eq {l l' k k' : List Str} (h : sortedS l = true) (h' : sortedS l' = true) (p : l.Perm k) (p' : l'.Perm k') : decide (l = l') = decide (k.Perm k') := by
  by_cases e : k.Perm k'
  · have : l = l' := List.Perm.eq_of_pairwise (le := leS) (fun a b _ _ h1 h2 => leS_eq h1 h2) (sorted_pairwise _ h) (sorted_pairwise _ h') (p.trans (e.trans p'.symm))
    simp [e, this]
  · have : ¬ l = l' := fun q => e (p.symm.trans (q ▸ p'))
    simp [e, this]
abbrev SameAt (w : World) (n : Nat) : Prop := ∀ (nw : List (Addr × Obj)) (d1 d2 : D) (v1 v2 : Value), d1.ok n → d2.ok n → DIn w nw d1 v1 → DIn w nw d2 v2 → CallsTo w 961 [v1, v2] nw (30 * n) (300 * n) (fun r nw' => r = .bool (eqD d1 d2) ∧ nw' = nw)
theorem use_same {fl : Nat} {w : World} {n : Nat} {news : List (Addr × Obj)} {d1 d2 : D} {v1 v2 : Value} {p : Program} {loose : List Str} {mean : ExcName → Option Value} {mg mb : Str → Option Value} {dp un : Nat} {gd : Option (List Code)} {env : Env} {outer : List Env} {A₀ : Around} {base h₀ : Heap} {L : Addr} {m : Str → Option Value} {s : Shared} {Q E : Value → Shared → Prop}
    (ih : SameAt w n) (o1 : d1.ok n) (o2 : d2.ok n) (h1 : DIn w news d1 v1) (h2 : DIn w news d2 v2) (B : Below A₀ base outer h₀) (F : Fr h₀ L s.heap m) (X : (kf.heap_1 w.params).In h₀) (N : News h₀ L s.heap news) (T : Top p loose mean mg mb h₀) (hf : env.frame = some L) (hk : env.scope.kind = .function) (hd : dp + 30 * n < recursionLimit) (hu : un + 300 * n < cLine) (hG : GB fl s.gens)
    (h : ∀ r news' h' tk' g', (r = .bool (eqD d1 d2) ∧ news' = news) → GB fl g' → Fr h₀ L h' m → News h₀ L h' news' → Q r { s with heap := h', toks := tk', gens := g' }) :
    wpAny (model PySem.Challenge.rw_eq0021_01.row.prog w) (topA dp un gd env outer) (call (.ref 961) [v1, v2]) Q E s :=
  use_call (ih _ _ _ _ _ o1 o2 h1 h2) B F X N T hf hk hd hu hG h
theorem keys_ok {w : World} {nw : List (Addr × Obj)} {ks : List (Key × D)} {kvs : List (Str × Value)} (h : KsIn w nw ks kvs) : ∀ x ∈ kvs.map (·.1), PyData.strOk x = true := by
  rw [KsIn.keys h]
  intro x hx
  obtain ⟨q, _, rfl⟩ := List.mem_map.mp hx
  exact Key.str_ok _
theorem perm_ok {ss ks : List Str} (p : ss.Perm ks) (h : ∀ x ∈ ks, PyData.strOk x = true) : ∀ x ∈ ss, PyData.strOk x = true := fun x hx => h x (p.mem_iff.mp hx)
theorem item_dictT {prog : Program} {w : World} {A : Around} {E Q : Value → Shared → Prop} {s : Shared} {h₀ : Heap} {L : Addr} {news : List (Addr × Obj)} {value slice : Expr} {d : Addr} {es : List DictEntry} {n : Nat} {kvs : List (Str × Value)} {k : Str} {t : Tok} {v : Value} (N : News h₀ L s.heap news) (hm : (d, dictObj es n) ∈ news) (hd : (dictObj es n).IsDictOf (PySem.strKind prog w) kvs) (hv : valueAt kvs k = some v)
    (h : Q v { s with toks := s.toks + 1 })
    (hs : subscripted slice false (.ref d) (.str k t) = operate [.ref d, .str k t] (getItem (.ref d) (.str k t)) := by with_unfolding_all rfl) (hg : ∀ r, letTemporaryGo value (.ref d) r = pure () := by intro _; with_unfolding_all rfl) :
    wpAny (model prog w) A (subscriptTail value slice (.ref d) (.str k t)) Q E s :=
  subscriptTail_builtin (T := "dict") ⟨_, N.get hm, rfl⟩ slot_dict_getitem.lookup (item_dictG N hm hd hv h) hs hg
theorem valueAt_get : ∀ {kvs : List (Str × Value)} {i : Nat} {k : Str} {v : Value}, (kvs.map (·.1)).Nodup → kvs[i]? = some (k, v) → valueAt kvs k = some v
  | [], i, k, v, _, e => by simp at e
  | (k', v') :: r, i, k, v, nd, e => by
    simp only [List.map_cons, List.nodup_cons] at nd
    cases i with
    | zero => simp at e; obtain ⟨rfl, rfl⟩ := e; simp [valueAt]
    | succ i =>
      simp at e
      have ih := valueAt_get nd.2 e
      have hne : ¬ k' = k := fun q => nd.1 (q ▸ List.mem_map.mpr ⟨_, List.mem_of_getElem? e, rfl⟩)
      simpa [valueAt, List.find?_cons, hne] using ih
theorem perm_find {xs ys : List (Key × D)} (h : (xs.map (·.1.str)).Perm (ys.map (·.1.str))) : ∀ q ∈ xs, (ys.find? fun p => p.1 = q.1).isSome = true := by
  intro q hq
  have : q.1.str ∈ ys.map (·.1.str) := h.mem_iff.mp (List.mem_map.mpr ⟨q, hq, rfl⟩)
  obtain ⟨p, hp, e⟩ := List.mem_map.mp this
  exact List.find?_isSome.mpr ⟨p, hp, by simp [Key.str_inj e]⟩
theorem isDictOf_nodup {prog : Program} {w : World} {o : Obj} {kvs : List (Str × Value)} (h : o.IsDictOf (PySem.strKind prog w) kvs) : (kvs.map (·.1)).Nodup := by
  obtain ⟨_, _, _, _, _, _, nd⟩ := h; exact nd

end Mine

end

section
open PySem PySem.W PyProof.Rows PySem.Calls
set_option linter.unusedVariables false
set_option maxHeartbeats 2000000
namespace Mine
open LCg
section
variable {prog : Program} {w : World} {A : Around}

/-- what a yield leaves, what a waking finds -/
abbrev GY (Inv : Nat → Shared → Prop) (Out : Nat → Value → Shared → Prop) : Protocol := fun m _ v s kap => Out m v s ∧ ∀ s'', Inv m s'' → kap (.send .none) s''
abbrev GRe (End : Shared → Prop) : GenEnd := fun n s₀ r s₁ => r = .ok .next ∧ (fun (n : Nat) (_ s₁ : Shared) => n = 0 ∧ End s₁) n s₀ s₁

theorem seg_genK {elt target iter : Expr} {scope : Scope} {pos : Pos} {I : Addr} {cenv : Env} (Inv : Nat → Shared → Prop) (Out : Nat → Value → Shared → Prop) (End : Shared → Prop)
    (hco : cenv.scope.isCoroutine = false)
    (done : ∀ s, Inv 0 s → ∀ E' : Value → Shared → Prop, wpAny (model prog w) (A.over (.compLoop (.GeneratorExp elt [⟨target, iter, [], 0⟩] scope pos) 0 (.ref I) .none cenv) []) (pyNext (.ref I)) (fun r s₁ => r = none ∧ End s₁) E' s)
    (turn : ∀ k s, Inv (k + 1) s → ∀ E' : Value → Shared → Prop, wpAny (model prog w) (A.over (.compLoop (.GeneratorExp elt [⟨target, iter, [], 0⟩] scope pos) 0 (.ref I) .none cenv) []) (pyNext (.ref I)) (fun r s₁ => ∃ v, r = some v ∧
      wpAny (model prog w) (A.over (.compLoop (.GeneratorExp elt [⟨target, iter, [], 0⟩] scope pos) 0 (.ref I) .none cenv) []) (letOwnedTupleGo target (.ref I) v) (fun _ s₂ =>
        wpAny (model prog w) (A.over (.compLoop (.GeneratorExp elt [⟨target, iter, [], 0⟩] scope pos) 0 (.ref I) .none cenv) []) (assign target cenv v) (fun _ s₃ =>
          wpAny (model prog w) (A.over (.compLoop (.GeneratorExp elt [⟨target, iter, [], 0⟩] scope pos) 0 (.ref I) .none cenv) []) (eval elt cenv) (fun y s₄ => Out k y s₄) E' s₃) E' s₂) E' s₁) E' s) :
    ∀ (k : Nat) (s₀ s : Shared), Inv k s → Seg (model prog w) A (GRe End) (GY Inv Out) k s₀
        (.compLoop (.GeneratorExp elt [⟨target, iter, [], 0⟩] scope pos) 0 (.ref I) .none cenv)
        ((model prog w).den (.compLoop (.GeneratorExp elt [⟨target, iter, [], 0⟩] scope pos) 0 (.ref I) .none cenv)) [] s := by
  intro k
  induction k with
  | zero =>
    intro s₀ s hI
    show Seg _ A _ _ _ s₀ _ ((compTurn (.GeneratorExp elt [⟨target, iter, [], 0⟩] scope pos) 0 (.ref I) .none cenv).onRaise (leaving cenv)) [] s
    rw [compTurn_gen, Sem.onRaise_eq_wrap]
    refine seg_bind_wrap (wpAny_standAt ?_)
    refine seg_bind_wrap (wpAny_mono (done s hI _) (fun r s₁ h₁ => ?_) fun _ _ e => e)
    obtain ⟨rfl, h₁⟩ := h₁
    exact seg_end (.ok .next) ⟨rfl, rfl, h₁⟩
  | succ k ih =>
    intro s₀ s hI
    show Seg _ A _ _ _ s₀ _ ((compTurn (.GeneratorExp elt [⟨target, iter, [], 0⟩] scope pos) 0 (.ref I) .none cenv).onRaise (leaving cenv)) [] s
    rw [compTurn_gen, Sem.onRaise_eq_wrap]
    refine seg_bind_wrap (wpAny_standAt ?_)
    refine seg_bind_wrap (wpAny_mono (turn k s hI (fun x s' => Seg (model prog w) A (GRe End) (GY Inv Out) (k + 1) s₀ (.compLoop (.GeneratorExp elt [⟨target, iter, [], 0⟩] scope pos) 0 (.ref I) .none cenv) (leaving cenv x >>= fun _ => Sem.raise x) [] s')) (fun r s₁ h₁ => ?_) fun _ _ e => e)
    obtain ⟨v, rfl, h₁⟩ := h₁
    refine seg_bind_wrap (wpAny_mono h₁ (fun _ s₂ h₂ => ?_) fun _ _ e => e)
    refine seg_bind_wrap (wpAny_mono h₂ (fun _ s₃ h₃ => ?_) fun _ _ e => e)
    refine seg_bind_wrap (wpAny_pure ?_)
    simp only [if_true]
    have hy : ∀ v, yieldOut cenv v = yieldValue v := fun v => by simp only [yieldOut, hco, Bool.false_eq_true, if_false]
    simp only [hy]
    rw [Sem.bind_eq_wrap', Sem.bind_eq_wrap', Sem.wrap_wrap, Sem.wrap_wrap]
    refine seg_wrap (wpAny_mono h₃ (fun y s₄ h₄ => ?_) fun _ _ e => e)
    exact seg_at (seg_yield rfl rfl rfl ⟨h₄, fun s'' hI'' => seg_again rfl (ih s'' s'' hI'')⟩)

theorem seg_genKStart {elt target iter : Expr} {scope : Scope} {pos : Pos} {I : Addr} {cenv : Env} (Inv : Nat → Shared → Prop) (Out : Nat → Value → Shared → Prop) (End : Shared → Prop)
    (self : ∀ k s, Inv k s → ∀ (A' : Around) (E' : Value → Shared → Prop) (Q : Value → Shared → Prop), Q (.ref I) s → wpAny (model prog w) A' (pyIter (.ref I)) Q E' s)
    (loop : ∀ (k : Nat) (s₀ s : Shared), Inv k s → Seg (model prog w) A (GRe End) (GY Inv Out) k s₀
        (.compLoop (.GeneratorExp elt [⟨target, iter, [], 0⟩] scope pos) 0 (.ref I) .none cenv)
        ((model prog w).den (.compLoop (.GeneratorExp elt [⟨target, iter, [], 0⟩] scope pos) 0 (.ref I) .none cenv)) [] s) :
    ∀ (k : Nat) (s₀ s : Shared), Inv k s → Seg (model prog w) A (GRe End) (GY Inv Out) k s₀
        (.compStart (.GeneratorExp elt [⟨target, iter, [], 0⟩] scope pos) 0 (.ref I) .none cenv)
        ((model prog w).den (.compStart (.GeneratorExp elt [⟨target, iter, [], 0⟩] scope pos) 0 (.ref I) .none cenv)) [] s := by
  intro k s₀ s hI
  show Seg _ A _ _ _ s₀ _ ((compStart (.GeneratorExp elt [⟨target, iter, [], 0⟩] scope pos) 0 (.ref I) .none cenv).onRaise (leaving cenv)) [] s
  unfold compStart
  rw [Sem.onRaise_eq_wrap]
  show Seg _ A _ _ _ s₀ _ ((ask >>= _).wrap _ _ _ _) [] s
  refine seg_bind_wrap (wpAny_askSetting ?_)
  split
  · exact seg_again rfl (loop k s₀ s hI)
  · refine seg_bind_wrap (wpAny_rule ?_)
    show Seg _ A _ _ _ s₀ _ ((standAt iter.pos >>= _).wrap _ _ _ _) [] s
    exact seg_bind_wrap (wpAny_standAt (seg_bind_wrap (self k s hI _ _ _ (seg_again rfl (loop k s₀ s hI)))))

/-- the generator g stands ready -/
def GenHere (prog : Program) (w : World) (A : Around) (Inv : Nat → Shared → Prop) (Out : Nat → Value → Shared → Prop) (End : Shared → Prop) (g k : Nat) (s : Shared) : Prop :=
  ∃ gs, s.gens[g]? = some gs ∧ gs.bare = true ∧ ∀ s'', Inv k s'' → gs.Goes (model prog w) A (GRe End) (GY Inv Out) k (.send .none) s''

theorem GenHere.fresh {elt target iter : Expr} {scope : Scope} {pos : Pos} {I : Addr} {cenv : Env} {Inv : Nat → Shared → Prop} {Out : Nat → Value → Shared → Prop} {End : Shared → Prop} {g k : Nat} {s : Shared}
    (hgs : s.gens[g]? = some (.fresh (.compStart (.GeneratorExp elt [⟨target, iter, [], 0⟩] scope pos) 0 (.ref I) .none cenv)))
    (start : ∀ (k : Nat) (s₀ s : Shared), Inv k s → Seg (model prog w) A (GRe End) (GY Inv Out) k s₀
        (.compStart (.GeneratorExp elt [⟨target, iter, [], 0⟩] scope pos) 0 (.ref I) .none cenv)
        ((model prog w).den (.compStart (.GeneratorExp elt [⟨target, iter, [], 0⟩] scope pos) 0 (.ref I) .none cenv)) [] s) : GenHere prog w A Inv Out End g k s :=
  ⟨_, hgs, rfl, fun s'' hI => ⟨rfl, start k s'' s'' hI⟩⟩

theorem next_gen {E : Value → Shared → Prop} {s : Shared} {Inv : Nat → Shared → Prop} {Out : Nat → Value → Shared → Prop} {End : Shared → Prop} {a : Addr} {g k : Nat} {Q : Option Value → Shared → Prop}
    (hh : A.handled = none) (hl : s.heap.NoLimit) (hroom : A.depth < recursionLimit) (hg : s.heap.IsGen a g) (G : GenHere prog w A.in1 Inv Out End g k s) (hI : Inv k (s.setGen g .running))
    (h0 : k = 0 → ∀ s₁, End s₁ → ∀ h', (∀ b o, s₁.heap.get? b = some o → h'.get? b = some o) → Q none { s₁.setGen g .finished with heap := h' })
    (h1 : ∀ j v s₁ gs', k = j + 1 → Out j v s₁ → gs'.bare = true → (g < s₁.gens.size → GenHere prog w A.in1 Inv Out End g j (s₁.setGen g gs')) → Q (some v) (s₁.setGen g gs')) :
    wpAny (model prog w) A (pyNext (.ref a)) Q E s := by
  obtain ⟨gs, hgs, hb, hgo⟩ := G
  refine wpAny_pyNext_genexpQ (P := fun n _ s₁ => n = 0 ∧ End s₁) (Y := GY Inv Out) (n := k) hh hl hroom hg hgs (hgo _ hI) (fun v s₁ gs' hb' hv => ?_) (fun s₁ hp h' hk => h0 hp.1 s₁ hp.2 h' hk)
  cases k with
  | zero => exact (hv.2 (s.setGen g .running) hI).elim
  | succ j => exact h1 j v s₁ gs' rfl hv.1 hb' fun hlt => ⟨gs', by simp [Shared.setGen, hlt], hb', hv.2⟩
end
end Mine

end

section
open PySem PySem.W PyProof.Rows PySem.Calls
set_option linter.unusedVariables false
set_option maxHeartbeats 2000000
namespace Mine
open LCg
theorem bare_of_GB {fl : Nat} {g : Array GenState} (h : GB fl g) : ∀ x ∈ g, x.bare = true := h.1
theorem GB.push {fl : Nat} {g : Array GenState} {x : GenState} (h : GB fl g) (hb : x.bare = true) : GB fl (g.push x) := ⟨h.1.push hb, Nat.le_trans h.2 (by rw [Array.size_push]; omega)⟩
theorem GB.up {fl : Nat} {g : Array GenState} {x : GenState} (h : GB fl g) (hb : x.bare = true) : GB (g.size + 1) (g.push x) := ⟨h.1.push hb, by rw [Array.size_push]; exact Nat.le_refl _⟩
theorem GB.low {fl fl' : Nat} {g : Array GenState} (h : GB fl g) (hl : fl' ≤ fl) : GB fl' g := ⟨h.1, Nat.le_trans hl h.2⟩
theorem GB.set {fl : Nat} {s : Shared} {g : Nat} {x : GenState} (h : GB fl s.gens) (hb : x.bare = true) : GB fl (s.setGen g x).gens := by
  refine ⟨?_, ?_⟩
  · intro y hy
    simp only [Shared.setGen] at hy
    rcases Array.mem_or_eq_of_mem_setIfInBounds hy with hy | hy
    · exact h.1 y hy
    · rw [hy]; exact hb
  · simp only [Shared.setGen, Array.size_setIfInBounds]; exact h.2
section
variable {prog : Program} {w : World} {h₀ : Heap} {L : Addr} {m : Str → Option Value}

theorem genexpr_code {M : Model} {A : Around} {E : Value → Shared → Prop} {s : Shared} {env : Env} {c P : Addr} {ps : Array Value} {pos : Pos} {qualname : Str} {scope : Scope} {news : List (Addr × Obj)} {Q : Value → Shared → Prop}
    (hc : env.code = .ref c) (C : CodeHd s.heap c P) (F : Fr h₀ L s.heap m) (N : News h₀ L s.heap ((P, tabObj ps) :: news)) (off : ∀ p ∈ news, p.1 ≠ P) (ht : TriplesOk ps.toList)
    (h : ∀ code h' tk ps', Fr h₀ L h' m → News h₀ L h' ((P, tabObj ps') :: news) → TriplesOk ps'.toList → s.heap.objs.size ≤ h'.objs.size → Heap.ExtBut P s.heap h' → Q code { s with heap := h', toks := tk }) :
    wpAny M A (genexprCode env pos qualname scope) Q E s := by
  have hP := (N _ List.mem_cons_self).1
  cases hnf : codeAmong pos ps.toList with
  | some cv => exact wpAny_genexprCode_hit hc (C.code hP ht) hnf (h cv s.heap s.toks ps F N ht (Nat.le_refl _) (fun _ _ _ e => e))
  | none =>
    refine wpAny_genexprCodeX hc (C.code hP ht) (C.tab hP) hnf fun c' h' tk hx hge hlt hcode _ htab _ => ?_
    obtain ⟨_, _, _, _, _, _, _, _, _, _, _, _, _, _, _, _, _, hop, hpd, htr, _⟩ := hcode
    have e := htab.2
    rw [e] at hop; cases hop
    cases hpd
    refine h _ h' tk _ ?_ ?_ htr (Nat.le_trans hge (Nat.le_of_lt hlt)) hx
    · have z := N _ List.mem_cons_self
      exact ⟨F.ns.at' fun o e' => hx _ o (Ne.symm z.2.1) e', fun b o e' => hx b o (fun q => by rw [q, z.2.2] at e'; cases e') (F.keep b o e'), F.above⟩
    · intro p hp
      rcases List.mem_cons.mp hp with rfl | hp
      · exact ⟨e, (N _ List.mem_cons_self).2⟩
      · have z := N p (List.mem_cons_of_mem _ hp)
        exact ⟨hx _ _ (off p hp) z.1, z.2⟩

/-- what stands behind the making of a generator -/
structure GMade (A₀ : Around) (base : Heap) (envF : Env) (outer : List Env) (h₀ : Heap) (L : Addr) (m : Str → Option Value) (h₁ : Heap) (C a : Addr) (oa : Obj) (gn : Nat) (it : Value) (news : List (Addr × Obj)) (h : Heap) : Prop where
  FG : Fr h₀ L h₁ m
  B : Below A₀ base (envF :: outer) h₁
  st : h₀.StaysIn h₁
  F : Fr h₁ C h (fun y => if y = (".0" : Str) then some it else none)
  gen : ∃ nm qn, oa.cls = .type "generator" ∧ oa.data = .fields #[.int gn 0, nm, qn] ∧ oa.slots = #[]
  N : News h₁ C h news

theorem GeneratorExp_K {p : Program} {loose : List Str} {mean : ExcName → Option Value} {mg mb : Str → Option Value} {dp un : Nat} {gd : Option (List Code)} {env envF : Env} {outer : List Env} {A₀ : Around} {base : Heap} {E : Value → Shared → Prop} {s : Shared} {elt target iter : Expr} {scope : Scope} {cl : List (Str × Addr)} {pos : Pos} {Q : Value → Shared → Prop} {c P : Addr}
    (B : Below A₀ base outer h₀) (T : Top p loose mean mg mb h₀) (hf : envF.frame = some L) (hke : envF.scope.kind = .function) (hroom : dp < recursionLimit) (hgl : env.globals = mainGlobals) (hcode : env.code = .ref c) (C : CodeHd h₀ c P)
    (hco : scope.isCoroutine = false) (hclos : closureFor scope env = pure cl) (hcell : ∀ y ∈ scope.names, y.2 ≠ .cell) (h0 : scope.names.lookup (".0" : Str) = some NameKind.local) (hkind : scope.kind = .function)
    (h : wpAny (model prog w) (topA dp un gd envF outer) (eval iter env) (fun xv s₁ => wpAny (model prog w) (topA dp un gd envF outer) (pyIter xv) (fun it s₂ => ∃ ps news, Fr h₀ L s₂.heap m ∧ News h₀ L s₂.heap ((P, tabObj ps) :: news) ∧ (∀ p ∈ news, p.1 ≠ P) ∧ TriplesOk ps.toList ∧
      (∀ h₁ C a oa code h₅ tk ps', GMade (topA dp un gd envF outer) base envF outer h₀ L m h₁ C a oa s₂.gens.size it ((a, oa) :: (P, tabObj ps') :: news) h₅ → TriplesOk ps'.toList → (∀ p ∈ (P, tabObj ps') :: news, p.1 < C) → @LT.lt Nat _ C a → @LT.lt Nat _ L C →
        Q (.ref a) { s₂ with heap := h₅, toks := tk, gens := s₂.gens.push (.fresh (.compStart (.GeneratorExp elt [⟨target, iter, [], 0⟩] scope pos) 0 it .none (genEnv scope cl C code builtinsNs env))) })) E s₁) E s)
    (hs : ∀ x, genFold iter env x = pure x) :
    wpAny (model prog w) (topA dp un gd envF outer) (eval (.GeneratorExp elt [⟨target, iter, [], 0⟩] scope pos) env) Q E s := by
  refine wpAny_GeneratorExp_make hco hclos hcell h0 hkind hroom (wpAny_mono h (fun xv s₁ h₁ => wpAny_mono h₁ (fun it s₂ h₂ => ?_) fun _ _ e => e) fun _ _ e => e) hs
  obtain ⟨ps, news, F₂, N₂, off, ht, hQ⟩ := h₂
  refine ⟨T.nolimit.keeps F₂.keep, ?_⟩
  refine genexpr_code hcode (C.keeps F₂.keep) F₂ N₂ off ht fun code h₃ tk₃ ps' F₃ N₃ ht' hsz hx => ?_
  obtain ⟨bm, ob, M⟩ := bmod_of_top T
  have M₃ := M.keeps F₃.keep
  rw [hgl]
  refine wpAny_builtinsFor M₃.ns M₃.name M₃.ne M₃.obj M₃.cls M₃.dict M₃.data ?_
  intro h' hn' hs'
  obtain ⟨FG, BG, st, lv⟩ := groundX (s := { s₂ with heap := h₃ }) (R := fun _ _ => True) (A := topA dp un gd envF outer) B F₃ N₃ rfl hf hke
  dsimp only at FG BG st hs' hn'
  have hsz' : h'.objs.size = h₃.objs.size + 1 := by rw [hs'.1, Heap.size_push]
  have keep' : ∀ b o, h₃.get? b = some o → h'.get? b = some o := fun b o e => hs'.extBut b o (Nat.ne_of_lt (Heap.lt_size e)) (Heap.get?_push_of_some _ e)
  refine hQ _ h₃.objs.size _ { cls := .type "generator", data := .fields #[.int s₂.gens.size 0, .str "<genexpr>" (tk₃ + 1), .str (env.qual ++ "<genexpr>") (tk₃ + 1 + 1)] } code _ _ ps' ⟨FG, BG, st, ⟨hn'.push _, fun b o e => Heap.get?_push_of_some _ (keep' b o (of_hideAll _ e)), Nat.le_of_eq (hideAll_size _ _)⟩, ⟨_, _, rfl, rfl, rfl⟩, fun p hp => ?_⟩ ht' (fun p hp => Heap.lt_size (N₃ p hp).1) (by rw [hsz']; exact Nat.lt_succ_self _) F₃.ns.lt
  rcases List.mem_cons.mp hp with rfl | hp
  · refine ⟨Heap.get?_push_size _ rfl, ?_, ?_⟩
    · show h'.objs.size ≠ h₃.objs.size
      rw [hsz']; exact Nat.succ_ne_self _
    · refine Heap.get?_none_of_le ?_
      rw [hideAll_size, hsz']; exact Nat.le_succ _
  · exact ⟨Heap.get?_push_of_some _ (keep' _ _ (N₃ p hp).1), Nat.ne_of_lt (Heap.lt_size (N₃ p hp).1), hideAll_none _ (List.mem_map_of_mem hp)⟩
end
end Mine

end

section
open PySem PySem.W PyProof.Rows PySem.Calls
set_option linter.unusedVariables false
set_option maxHeartbeats 2000000
namespace Mine
open LCg
section
variable {prog : Program} {w : World} {h₁ : Heap} {C I : Addr} {fl n : Nat} {P Md : Nat → Value → Heap → Prop} {St : Nat → Heap → Prop} {s₀ : Shared}

def GgInv (h₁ : Heap) (C I : Addr) (fl n : Nat) (St : Nat → Heap → Prop) (s₀ : Shared) (S : List (Addr × Obj) → Prop) (J : Nat → List (Addr × Obj) → Prop) (k : Nat) (s : Shared) : Prop :=
  ∃ i h tk g m' oI nw, i + k = n ∧ s = { s₀ with heap := h, toks := tk, gens := g } ∧ GB fl g ∧ St i h ∧ Fr h₁ C h m' ∧ News h₁ C h ((I, oI) :: nw) ∧ (∀ p ∈ nw, p.1 ≠ I) ∧ S nw ∧ J i nw
def GgOut (h₁ : Heap) (C I : Addr) (fl n : Nat) (St : Nat → Heap → Prop) (s₀ : Shared) (S : List (Addr × Obj) → Prop) (JO : Nat → Value → List (Addr × Obj) → Prop) (k : Nat) (v : Value) (s : Shared) : Prop :=
  ∃ i h tk g m' oI nw, i + (k + 1) = n ∧ s = { s₀ with heap := h, toks := tk, gens := g } ∧ GB fl g ∧ St (i + 1) h ∧ Fr h₁ C h m' ∧ News h₁ C h ((I, oI) :: nw) ∧ (∀ p ∈ nw, p.1 ≠ I) ∧ S nw ∧ JO i v nw
def GgEnd (h₁ : Heap) (C : Addr) (fl : Nat) (s₀ : Shared) (S JE : List (Addr × Obj) → Prop) (s : Shared) : Prop :=
  ∃ h tk g m' nw, s = { s₀ with heap := h, toks := tk, gens := g } ∧ GB fl g ∧ Fr h₁ C h m' ∧ News h₁ C h nw ∧ S nw ∧ JE nw

theorem fr_wr {h h' : Heap} {m' : Str → Option Value} (F : Fr h₁ C h m') (hk : ∀ b o, b ≠ I → h.get? b = some o → h'.get? b = some o) (hCI : C ≠ I) (hI₁ : h₁.get? I = none) : Fr h₁ C h' m' :=
  ⟨F.ns.at' fun o e => hk _ o hCI e, fun b o e => hk b o (fun q => by rw [q, hI₁] at e; cases e) (F.keep b o e), F.above⟩

theorem seg_genTurns {dp un : Nat} {gd : Option (List Code)} {envF cenv : Env} {outer : List Env} {elt target iter : Expr} {scope : Scope} {pos : Pos} {PM : Nat → (Str → Option Value) → Prop} {S : List (Addr × Obj) → Prop} {J : Nat → List (Addr × Obj) → Prop} {JO : Nat → Value → List (Addr × Obj) → Prop}
    (hco : cenv.scope.isCoroutine = false) (hC : cenv.locals = C) (hCI : C ≠ I)
    (W : ∀ A : Around, A.handled = none → KTurns prog w A target I [I] [I] n P Md St ∨ ∃ d, (∀ nw, S nw → ∃ od, (d, od) ∈ nw) ∧ KTurns prog w A target I [I, d] [I] n P Md St)
    (hSt : ∀ i h h' nw, St i h → (∀ o, h.get? I = some o → h'.get? I = some o) → News h₁ C h' nw → S nw → St i h') (hIo : ∀ i h, St i h → ∃ o, h.get? I = some o)
    (asg : ∀ i v (s : Shared) m' (A : Around) (E : Value → Shared → Prop) (Q : Unit → Shared → Prop), A.handled = none → P i v s.heap → s.heap.Ns C m' → (∀ h' tk m'', PM i m'' → h'.Ns C m'' → (∀ b o, b ≠ C → s.heap.get? b = some o → h'.get? b = some o) → Q () { s with heap := h', toks := tk }) → wpAny (model prog w) A (assign target cenv v) Q E s)
    (body : ∀ i, i < n → ∀ m'' nw oI h tk g (E' : Value → Shared → Prop), PM i m'' → J i nw → S nw → (∀ p ∈ nw, p.1 ≠ I) → GB fl g → Fr h₁ C h m'' → News h₁ C h ((I, oI) :: nw) →
      wpAny (model prog w) (topA (dp + 1) (un + 5) gd cenv (envF :: outer)) (eval elt cenv) (fun y s₄ => ∃ h tk g m' nw, s₄ = { s₀ with heap := h, toks := tk, gens := g } ∧ GB fl g ∧ Fr h₁ C h m' ∧ News h₁ C h ((I, oI) :: nw) ∧ (∀ p ∈ nw, p.1 ≠ I) ∧ S nw ∧ JO i y nw) E' { s₀ with heap := h, toks := tk, gens := g }) :
    ∀ (k : Nat) (s' s : Shared), GgInv h₁ C I fl n St s₀ S J k s → Seg (model prog w) (topA dp (un + 2) gd envF outer) (GRe (GgEnd h₁ C fl s₀ S (J n))) (GY (GgInv h₁ C I fl n St s₀ S J) (GgOut h₁ C I fl n St s₀ S JO)) k s'
        (.compLoop (.GeneratorExp elt [⟨target, iter, [], 0⟩] scope pos) 0 (.ref I) .none cenv)
        ((model prog w).den (.compLoop (.GeneratorExp elt [⟨target, iter, [], 0⟩] scope pos) 0 (.ref I) .none cenv)) [] s := by
  have item : ∀ (A : Around), A.handled = none → ∀ i (s : Shared) (Q : Option Value → Shared → Prop) (E : Value → Shared → Prop), i < n → St i s.heap →
    (∀ v h' tk, Md i v h' → (∀ b o, b ≠ I → s.heap.get? b = some o → h'.get? b = some o) → Q (some v) { s with heap := h', toks := tk }) → wpAny (model prog w) A (pyNext (.ref I)) Q E s := fun A hh i s Q E hi hst hQ => by
    rcases W A hh with W | ⟨d, _, W⟩
    · exact W.item i s Q E hi hst fun v h' tk hm hk => hQ v h' tk hm fun b o hb e => hk b o (by simpa using hb) e
    · exact W.item i s Q E hi hst fun v h' tk hm hk => hQ v h' tk hm fun b o hb e => hk b o (by simpa using hb) e
  have go : ∀ (A : Around), A.handled = none → ∀ i v (s : Shared) (Q : Unit → Shared → Prop) (E : Value → Shared → Prop), Md i v s.heap →
    (∀ h', P i v h' → St (i + 1) h' → (∀ b o, b ≠ I → s.heap.get? b = some o → h'.get? b = some o) → Q () { s with heap := h' }) → wpAny (model prog w) A (letOwnedTupleGo target (.ref I) v) Q E s := fun A hh i v s Q E hm hQ => by
    rcases W A hh with W | ⟨d, _, W⟩
    · exact W.go i v s Q E hm fun h' hp hst hk => hQ h' hp hst fun b o hb e => hk b o (by simpa using hb) e
    · exact W.go i v s Q E hm fun h' hp hst hk => hQ h' hp hst fun b o hb e => hk b o (by simpa using hb) e
  have fin : ∀ (A : Around), A.handled = none → ∀ (s : Shared) (Q : Option Value → Shared → Prop) (E : Value → Shared → Prop), St n s.heap →
    (∀ h' tk, (∀ b o, b ≠ I → s.heap.get? b = some o → h'.get? b = some o) → Q none { s with heap := h', toks := tk }) → wpAny (model prog w) A (pyNext (.ref I)) Q E s := fun A hh s Q E hst hQ => by
    rcases W A hh with W | ⟨d, _, W⟩
    · exact W.done s Q E hst fun h' tk hk => hQ h' tk fun b o hb e => hk b o (by simpa using hb) e
    · exact W.done s Q E hst fun h' tk hk => hQ h' tk fun b o hb e => hk b o (by simpa using hb) e
  refine seg_genK _ _ _ hco (fun s hI E' => ?_) (fun k s hI E' => ?_)
  · show wpAny (model prog w) (topA (dp + 1) (un + 5) gd cenv (envF :: outer)) _ _ _ _
    obtain ⟨i, h, tk, g, m', oI, nw, hi, rfl, hG, hst, F, N, off, hS, hJ⟩ := hI
    obtain rfl : i = n := by omega
    refine fin _ rfl _ _ _ hst fun h' tk' hk => ⟨rfl, h', tk', g, m', nw, rfl, hG, fr_wr F hk hCI (N _ List.mem_cons_self).2.2, fun p hp => ?_, hS, hJ⟩
    have z := N p (List.mem_cons_of_mem _ hp)
    exact ⟨hk _ _ (off p hp) z.1, z.2⟩
  · show wpAny (model prog w) (topA (dp + 1) (un + 5) gd cenv (envF :: outer)) _ _ _ _
    obtain ⟨i, h, tk, g, m', oI, nw, hi, rfl, hG, hst, F, N, off, hS, hJ⟩ := hI
    have hI₁ := (N _ List.mem_cons_self).2.2
    refine item _ rfl i _ _ _ (by omega) hst fun v h' tk' hmd hk => ⟨v, rfl, ?_⟩
    show wpAny (model prog w) (topA (dp + 1) (un + 5) gd cenv (envF :: outer)) _ _ _ _
    refine go _ rfl i v _ _ _ hmd fun h₂ hp hst₂ hk₂ => ?_
    show wpAny (model prog w) (topA (dp + 1) (un + 5) gd cenv (envF :: outer)) _ _ _ _
    have F₂ : Fr h₁ C h₂ m' := fr_wr (fr_wr F hk hCI hI₁) hk₂ hCI hI₁
    refine asg i v _ m' _ _ _ rfl hp F₂.ns fun h₃ tk₃ m'' hpm hn₃ hk₃ => ?_
    show wpAny (model prog w) (topA (dp + 1) (un + 5) gd cenv (envF :: outer)) _ _ _ _
    obtain ⟨o2, e2⟩ := hIo _ _ hst₂
    have e3 : h₃.get? I = some o2 := hk₃ I o2 (Ne.symm hCI) e2
    have N₃ : News h₁ C h₃ nw := fun p hp => by
      have z := N p (List.mem_cons_of_mem _ hp)
      exact ⟨hk₃ _ _ z.2.1 (hk₂ _ _ (off p hp) (hk _ _ (off p hp) z.1)), z.2⟩
    have hst₃ : St (i + 1) h₃ := hSt _ _ _ nw hst₂ (fun o e => hk₃ I o (Ne.symm hCI) e) N₃ hS
    have F₃ : Fr h₁ C h₃ m'' := ⟨hn₃, fun b o e => hk₃ b o (fun q => Nat.lt_irrefl _ (Nat.lt_of_lt_of_le (Heap.lt_size (q ▸ e : h₁.get? C = some o)) F.above)) (F₂.keep b o e), F.above⟩
    refine wpAny_mono (body i (by omega) m'' nw o2 h₃ tk₃ g E' hpm hJ hS off hG F₃ (fun p hp => ?_)) (fun y s₄ h₄ => ?_) fun _ _ e => e
    · rcases List.mem_cons.mp hp with rfl | hp
      · exact ⟨e3, Ne.symm hCI, hI₁⟩
      · exact N₃ p hp
    · obtain ⟨h₄, tk₄, g₄, m₄, nw₄, rfl, hG₄, F₄, N₄, off₄, hS₄, hJ₄⟩ := h₄
      refine ⟨i, h₄, tk₄, g₄, m₄, o2, nw₄, by omega, rfl, hG₄, ?_, F₄, N₄, off₄, hS₄, hJ₄⟩
      exact hSt _ _ _ nw₄ hst₃ (fun o e => by rw [e3] at e; cases e; exact (N₄ _ List.mem_cons_self).1) (fun p hp => N₄ p (List.mem_cons_of_mem _ hp)) hS₄
end
end Mine

end

section
open PySem PySem.W PyProof.Rows PySem.Calls
set_option linter.unusedVariables false
set_option maxHeartbeats 2000000
namespace Mine
open LCg
section
variable {prog : Program} {w : World} {A : Around}

theorem codeAny_extend_inv {D b : Addr} {res : Value} {R : Result → Shared → Prop} (Inv : Nat → Shared → Prop)
    (turn : ∀ k s, Inv k s → wpAny (model prog w) A.in1 (pyNext (.ref b)) (fun r s₁ => match r with
      | none => R (.ok (.ret res)) s₁
      | some x => wpAny (model prog w) A.in1 (updateSeq D (·.push x)) (fun _ s₂ => ∃ m, m < k ∧ Inv m s₂) (fun e s' => R (.error e) s') s₁) (fun e s' => R (.error e) s') s) :
    ∀ k s, Inv k s → codeAny (model prog w) A (.builtin "list.extend.loop" ⟨[.ref D, .ref b, res], []⟩) R s := by
  intro k
  induction k using Nat.strongRecOn with
  | ind k ih =>
    intro s hI
    refine codeAny_builtin F.entry_extend_loop ?_
    rw [Around.under_plainId F.plain_extend_loop _]
    show wpAny _ A.in1 (pyNext (.ref b) >>= _) _ _ s
    refine wpAny_bind (wpAny_mono (turn k s hI) (fun r s₁ h₁ => ?_) fun _ _ e => e)
    cases r with
    | none => exact wpAny_pure h₁
    | some x =>
      show wpAny _ A.in1 (updateSeq D (·.push x) >>= _) _ _ _
      refine wpAny_bind (wpAny_mono h₁ (fun _ s₂ h₂ => ?_) fun _ _ e => e)
      obtain ⟨m, hm, hI₂⟩ := h₂
      exact wpAny_pure ⟨plainId_quiet F.plain_extend_loop _, ih m hm s₂ hI₂⟩

theorem grew {s : Shared} {D : Addr} {ys ys' : List Value} {c : Nat} {f : Array Value → Array Value} (hD : s.heap.get? D = some (listObj ys c)) (hf : f ys.toArray = ys'.toArray) :
    ∃ c', (s.heap.update D (Obj.mapSeq f)).get? D = some (listObj ys' c') := by
  refine ⟨(if (f ys.toArray).size == ys.toArray.size then c else c + 1), ?_⟩
  rw [Heap.get?_update_self _ hD rfl]
  show some ({ cls := .type "list", data := .seq (f ys.toArray) (if (f ys.toArray).size == ys.toArray.size then c else c + 1) } : Obj) = _
  rw [hf]
theorem push_list {M : Model} {E : Value → Shared → Prop} {s : Shared} {D : Addr} {ys : List Value} {c : Nat} {x : Value} {Q : Unit → Shared → Prop} (hD : s.heap.get? D = some (listObj ys c)) (hz : ys.length < 1000)
    (h : ∀ h' c', h'.get? D = some (listObj (ys ++ [x]) c') → Heap.SameBut D s.heap h' → Q () { s with heap := h' }) : wpAny M A (updateSeq D (·.push x)) Q E s := by
  obtain ⟨c', e⟩ := grew (f := (·.push x)) (ys' := ys ++ [x]) hD (by simp)
  exact wpAny_updateSeq hD rfl (h _ c' e (Heap.SameBut.update ..)) (by rw [List.size_toArray, sizeLine_eq]; omega) (by rw [Array.size_push, List.size_toArray, sizeLine_eq]; omega)

theorem extend_it {E : Value → Shared → Prop} {s : Shared} {D b : Addr} {ys : List Value} {c k : Nat} {T : String} {Q : Value → Shared → Prop} (Inv : Nat → Shared → Prop) (hT : ∀ s' : Shared, (∃ o, s'.heap.get? b = some o ∧ s.heap.get? b = some o) → s'.TypeIs (.ref b) T)
    (t1 : (Value.type T == Value.type "list") = false) (t2 : (Value.type T == Value.type "tuple") = false) (l1 : typeLookup (.type T) "__len__" = pure none) (l2 : typeLookup (.type T) "__length_hint__" = pure none)
    (hb : ∃ o, s.heap.get? b = some o) (hDb : D ≠ b) (hD : s.heap.get? D = some (listObj ys c)) (hz : ys.length < 1000)
    (self : ∀ (A' : Around) (E' : Value → Shared → Prop) (Q : Value → Shared → Prop), Q (.ref b) s → wpAny (model prog w) A' (pyIter (.ref b)) Q E' s)
    (h0 : ∀ h' c', h'.get? D = some (listObj ys c') → Heap.SameBut D s.heap h' → Inv k { s with heap := h' })
    (turn : ∀ k s, Inv k s → wpAny (model prog w) A.in1 (pyNext (.ref b)) (fun r s₁ => match r with
      | none => Q .none s₁
      | some x => wpAny (model prog w) A.in1 (updateSeq D (·.push x)) (fun _ s₂ => ∃ m, m < k ∧ Inv m s₂) E s₁) E s) :
    wpAny (model prog w) A (call (.builtin "list.extend") [.ref D, .ref b]) Q E s := by
  obtain ⟨ob, hb⟩ := hb
  have hTs := hT s ⟨ob, hb, hb⟩
  refine wpAny_call (codeAny_call_builtin PySem.F.slot_list_extend.plain PySem.F.entry_list_extend (PySem.F.slot_list_extend.check _ _ _ _ _ _ _ _ ⟨_, hD, rfl⟩ (PySem.F.args_list_extend_2 _ _) ?_))
  show wpAny _ A.in1 (Builtin.List.listExtendWith (.ref D) (.ref b) .none) _ _ s
  unfold Builtin.List.listExtendWith
  refine wpAny_bind (wpAny_typeOf hTs ?_)
  have h1 : Builtin.List.listSameRef (.ref D) (.ref b) = false := by simp [Builtin.List.listSameRef, hDb]
  simp only [h1, t1, t2, Bool.or_false, Bool.false_eq_true, if_false]
  refine wpAny_bind (self _ _ _ ?_)
  refine wpAny_bind (wpAny_holding ?_)
  unfold Builtin.List.listLengthHint
  refine wpAny_bind (wpAny_specialOf hTs l1 ?_)
  show wpAny _ A.in1 (specialOf (Value.ref b) (Str.ofString "__length_hint__") >>= _) _ _ _
  refine wpAny_bind (wpAny_specialOf hTs l2 ?_)
  refine wpAny_pure ?_
  show wpAny _ A.in1 (rule "list.extend.makes-room" >>= fun _ => Builtin.List.listTouch (.ref D) >>= fun _ =>
    again (.builtin "list.extend.loop" ⟨[.ref D, .ref b, .none], []⟩)) _ _ _
  refine wpAny_bind (wpAny_rule ?_)
  refine wpAny_bind ?_
  show wpAny _ A.in1 (updateSeq D (·.push .none) >>= fun _ => updateSeq D (·.pop)) _ _ _
  refine wpAny_bind (push_list hD hz fun h₂ c₂ hD₂ hs₂ => ?_)
  obtain ⟨c₃, e₃⟩ := grew (s := { s with heap := h₂ }) (f := (·.pop)) (ys' := ys) hD₂ (by simp)
  refine wpAny_updateSeq hD₂ rfl ?_ (by rw [List.size_toArray, List.length_append, sizeLine_eq]; simp; omega) (by rw [Array.size_pop, List.size_toArray, List.length_append, sizeLine_eq]; simp; omega)
  refine wpAny_pure ⟨plainId_quiet F.plain_extend_loop _, codeAny_extend_inv Inv (fun k s hI => ?_) k _ (h0 _ c₃ e₃ ?_)⟩
  · exact wpAny_mono (turn k s hI) (fun r s₁ h₁ => by cases r <;> exact h₁) fun _ _ e => e
  · exact hs₂.trans (Heap.SameBut.update ..)
end
end Mine

end

section
open PySem PySem.W PyProof.Rows PySem.Calls
set_option linter.unusedVariables false
set_option maxHeartbeats 2000000
namespace Mine
open LCg
section
variable {prog : Program} {w : World} {h₀ h₁ : Heap} {C I a L D : Addr} {oa : Obj} {n gn : Nat} {P Md : Nat → Value → Heap → Prop} {St : Nat → Heap → Prop} {m : Str → Option Value}

/-- the ledger of the outer frame, read back off the generator's ground -/
theorem ground_back {h : Heap} {m' : Str → Option Value} {nw : List (Addr × Obj)} (FG : Fr h₀ L h₁ m) (st : h₀.StaysIn h₁) (F : Fr h₁ C h m') (N : News h₁ C h nw) : Fr h₀ L h m ∧ News h₀ L h nw := by
  refine ⟨FG.keeps F.keep, fun p hp => ⟨(N p hp).1, fun q => ?_, ?_⟩⟩
  · obtain ⟨o, es, ep, e, _⟩ := FG.ns
    have := (N p hp).2.2
    rw [q, e] at this; cases this
  · cases q : h₀.get? p.1 with
    | none => rfl
    | some o => have := (N p hp).2.2; rw [st _ _ q] at this; cases this

/-- what a turn of the generator hands on -/
def GBodyEnd (fl : Nat) (h₁ : Heap) (C I : Addr) (oI : Obj) (D : Addr) (ys : List Value) (c : Nat) (s : Shared) (a : Addr) (oa : Obj) (S : List (Addr × Obj) → Prop) (JJ : Nat → List Value → List (Addr × Obj) → Prop) (i : Nat) (y : Value) (s₄ : Shared) : Prop :=
  ∃ h tk g m' r', s₄ = { s with heap := h, toks := tk, gens := g } ∧ GB fl g ∧ Fr h₁ C h m' ∧ News h₁ C h ((I, oI) :: (D, listObj ys c) :: r') ∧ (∀ p ∈ r', p.1 ≠ I) ∧ (∀ p ∈ r', p.1 ≠ D) ∧ (a, oa) ∈ r' ∧ S r' ∧ JJ (i + 1) (ys ++ [y]) r'
theorem GgInv.set {fl : Nat} {s₀ s : Shared} {S : List (Addr × Obj) → Prop} {J : Nat → List (Addr × Obj) → Prop} {k g : Nat} {x : GenState} (hb : x.bare = true) (hI : GgInv h₁ C I fl n St s₀ S J k s) : GgInv h₁ C I fl n St s₀ S J k (s.setGen g x) := by
  obtain ⟨i, h, tk, g', m', oI, nw, hi, rfl, hG, r⟩ := hI
  exact ⟨i, h, tk, _, m', oI, nw, hi, rfl, GB.set (s := { s₀ with heap := h, toks := tk, gens := g' }) hG hb, r⟩

theorem extend_gen {p : Program} {loose : List Str} {mean : ExcName → Option Value} {mg mb : Str → Option Value} {dp un c₀ : Nat} {gd : Option (List Code)} {envF cenv : Env} {outer : List Env} {base : Heap} {E : Value → Shared → Prop} {s : Shared} {elt target iter : Expr} {scope : Scope} {pos : Pos} {ys₀ : List Value} {r₀ nw₀ : List (Addr × Obj)} {oI₀ : Obj} {Q : Value → Shared → Prop} {PM : Nat → (Str → Option Value) → Prop}
    (S : List (Addr × Obj) → Prop) (JJ : Nat → List Value → List (Addr × Obj) → Prop)
    (Mk : GMade (topA dp un gd envF outer) base envF outer h₀ L m h₁ C a oa gn (.ref I) nw₀ s.heap) (T : Top p loose mean mg mb h₀) (hroom : dp < recursionLimit)
    (hgs : s.gens[gn]? = some (.fresh (.compStart (.GeneratorExp elt [⟨target, iter, [], 0⟩] scope pos) 0 (.ref I) .none cenv))) (hG : GB (gn + 1) s.gens)
    (hco : cenv.scope.isCoroutine = false) (hC : cenv.locals = C) (hCI : C ≠ I) (hn : n < 500)
    (hDa : D ≠ a)
    (N₀ : News h₁ C s.heap ((I, oI₀) :: (D, listObj ys₀ c₀) :: r₀)) (off₀ : ∀ p ∈ (D, listObj ys₀ c₀) :: r₀, p.1 ≠ I) (offD₀ : ∀ p ∈ r₀, p.1 ≠ D) (ha₀ : (a, oa) ∈ r₀) (hS₀ : S r₀) (hJ₀ : JJ 0 ys₀ r₀) (hlen : ∀ i ys r, JJ i ys r → ys.length < 900) (hst₀ : St 0 s.heap)
    (self : ∀ i (s' : Shared) (A' : Around) (E' : Value → Shared → Prop) (Q : Value → Shared → Prop), St i s'.heap → Q (.ref I) s' → wpAny (model prog w) A' (pyIter (.ref I)) Q E' s')
    (W : ∀ A : Around, A.handled = none → KTurns prog w A target I [I] [I] n P Md St ∨ ∃ d, (∀ nw, S nw → ∃ od, (d, od) ∈ nw) ∧ KTurns prog w A target I [I, d] [I] n P Md St)
    (hSt : ∀ i h h' nw, St i h → (∀ o, h.get? I = some o → h'.get? I = some o) → News h₁ C h' nw → S nw → St i h') (hIo : ∀ i h, St i h → ∃ o, h.get? I = some o)
    (asg : ∀ i v (s : Shared) m' (A : Around) (E : Value → Shared → Prop) (Q : Unit → Shared → Prop), A.handled = none → P i v s.heap → s.heap.Ns C m' → (∀ h' tk m'', PM i m'' → h'.Ns C m'' → (∀ b o, b ≠ C → s.heap.get? b = some o → h'.get? b = some o) → Q () { s with heap := h', toks := tk }) → wpAny (model prog w) A (assign target cenv v) Q E s)
    (body : ∀ i, i < n → ∀ m'' ys c r oI h tk g (E' : Value → Shared → Prop), PM i m'' → JJ i ys r → S r → (a, oa) ∈ r → (∀ p ∈ (D, listObj ys c) :: r, p.1 ≠ I) → (∀ p ∈ r, p.1 ≠ D) → GB (gn + 1) g → Fr h₁ C h m'' → News h₁ C h ((I, oI) :: (D, listObj ys c) :: r) →
      wpAny (model prog w) (topA (dp + 1) (un + 5) gd cenv (envF :: outer)) (eval elt cenv) (GBodyEnd (gn + 1) h₁ C I oI D ys c s a oa S JJ i) E' { s with heap := h, toks := tk, gens := g })
    (fin : ∀ h tk g ys c r, GB (gn + 1) g → Fr h₀ L h m → News h₀ L h ((D, listObj ys c) :: r) → (∀ p ∈ r, p.1 ≠ D) → JJ n ys r → Q .none { s with heap := h, toks := tk, gens := g })
    (hSn : ∀ o r, S r → S ((D, o) :: r)) (hSn' : ∀ o r, (∀ p ∈ r, p.1 ≠ D) → S ((D, o) :: r) → S r) :
    wpAny (model prog w) (topA dp un gd envF outer) (call (.builtin "list.extend") [.ref D, .ref a]) Q E s := by
  obtain ⟨FG, B, st, F₀, ⟨nm, qn, g1, g2, g3⟩, _⟩ := Mk
  let S2 : List (Addr × Obj) → Prop := fun nw => (a, oa) ∈ nw ∧ S nw
  let J : Nat → List (Addr × Obj) → Prop := fun i nw => ∃ ys c r, nw = (D, listObj ys c) :: r ∧ (∀ p ∈ r, p.1 ≠ D) ∧ (a, oa) ∈ r ∧ S r ∧ JJ i ys r
  let JO : Nat → Value → List (Addr × Obj) → Prop := fun i v nw => ∃ ys c r, nw = (D, listObj ys c) :: r ∧ (∀ p ∈ r, p.1 ≠ D) ∧ (a, oa) ∈ r ∧ S r ∧ ys.length < 900 ∧ JJ (i + 1) (ys ++ [v]) r
  have nolim : ∀ {h : Heap} {m' : Str → Option Value}, Fr h₁ C h m' → h.NoLimit := fun F => T.nolimit.keeps fun b o e => F.keep b o (st b o e)
  have loop := seg_genTurns (prog := prog) (w := w) (h₁ := h₁) (C := C) (I := I) (fl := gn + 1) (n := n) (P := P) (Md := Md) (St := St) (s₀ := s) (dp := dp) (un := un) (gd := gd) (envF := envF) (cenv := cenv) (outer := outer) (elt := elt) (target := target) (iter := iter) (scope := scope) (pos := pos) (PM := PM) (S := S2) (J := J) (JO := JO)
    hco hC hCI (fun A hA => (W A hA).imp id fun ⟨d, h1, h2⟩ => ⟨d, fun nw hS => h1 nw hS.2, h2⟩) (fun i h h' nw hst ho N hS => hSt i h h' nw hst ho N hS.2) hIo asg (fun i hi m'' nw oI h tk g E' hpm hJ hS off hG' F N => by
      obtain ⟨ys, c, r, rfl, offD, ha, hSr, hj⟩ := hJ
      refine wpAny_mono (body i hi m'' ys c r oI h tk g E' hpm hj hSr ha off offD hG' F N) (fun y s₄ h₄ => ?_) fun _ _ e => e
      obtain ⟨h₄, tk₄, g₄, m₄, r₄, rfl, hG₄, F₄, N₄, offI₄, offD₄, ha₄, hS₄, hJ₄⟩ := h₄
      refine ⟨h₄, tk₄, g₄, m₄, (D, listObj ys c) :: r₄, rfl, hG₄, F₄, N₄, fun p hp => ?_, ⟨List.mem_cons_of_mem _ ha₄, hSn _ _ hS₄⟩, ys, c, r₄, rfl, offD₄, ha₄, hS₄, hlen _ _ _ hj, hJ₄⟩
      rcases List.mem_cons.mp hp with rfl | hp
      · exact off _ List.mem_cons_self
      · exact offI₄ p hp)
  have start := seg_genKStart (prog := prog) (w := w) (A := topA dp (un + 2) gd envF outer) (GgInv h₁ C I (gn + 1) n St s S2 J) (GgOut h₁ C I (gn + 1) n St s S2 JO) (GgEnd h₁ C (gn + 1) s S2 (J n)) (fun k s' hI A' E' Q hQ => by
    obtain ⟨i, h, tk, g, m', oI, nw, hi, rfl, hG', hst, r⟩ := hI
    exact self i _ A' E' Q hst hQ) loop
  have hgen : ∀ {h : Heap} {nw : List (Addr × Obj)}, News h₁ C h nw → (a, oa) ∈ nw → h.IsGen a gn := fun N hm => ⟨oa, nm, qn, (N _ hm).1, g1, g2, g3⟩
  have hDs : s.heap.get? D = some (listObj ys₀ c₀) := (N₀ _ (List.mem_cons_of_mem _ List.mem_cons_self)).1
  have has : s.heap.IsGen a gn := hgen N₀ (List.mem_cons_of_mem _ (List.mem_cons_of_mem _ ha₀))
  refine extend_it (T := "generator") (ys := ys₀) (c := c₀) (k := n) (fun k s' => GgInv h₁ C I (gn + 1) n St s S2 J k s' ∧ GenHere prog w (topA dp (un + 2) gd envF outer) (GgInv h₁ C I (gn + 1) n St s S2 J) (GgOut h₁ C I (gn + 1) n St s S2 JO) (GgEnd h₁ C (gn + 1) s S2 (J n)) gn k s')
    (fun s' ⟨o, e1, e2⟩ => ⟨o, e1, by obtain ⟨o', _, _, e, hc, _⟩ := has; rw [e] at e2; cases e2; exact hc⟩) (by decide) (by decide) PySem.F.gen_no_len PySem.F.gen_no_hint (by obtain ⟨o', _, _, e, _⟩ := has; exact ⟨o', e⟩) hDa hDs (by have := hlen _ _ _ hJ₀; omega) (fun A' E' Q hQ => wpAny_pyIter_gen has hQ) (fun h' c' hD' hs' => ?_) (fun k s' hI => ?_)
  · refine ⟨⟨0, h', s.toks, s.gens, _, oI₀, (D, listObj ys₀ c') :: r₀, by omega, rfl, hG, ?_, F₀.change hs' (N₀ _ (List.mem_cons_of_mem _ List.mem_cons_self)).2.1 (N₀ _ (List.mem_cons_of_mem _ List.mem_cons_self)).2.2, ?_, ?_, ⟨List.mem_cons_of_mem _ ha₀, hSn _ _ hS₀⟩, ys₀, c', r₀, rfl, offD₀, ha₀, hS₀, hJ₀⟩, GenHere.fresh (s := { s with heap := h' }) hgs start⟩
    · have offD : ∀ p ∈ r₀, p.1 ≠ D := offD₀
      refine hSt 0 s.heap h' ((D, listObj ys₀ c') :: r₀) hst₀ (fun o e => hs'.extBut _ _ (Ne.symm (off₀ _ List.mem_cons_self)) e) (fun p hp => ?_) (hSn _ _ hS₀)
      rcases List.mem_cons.mp hp with rfl | hp
      · exact ⟨hD', (N₀ _ (List.mem_cons_of_mem _ List.mem_cons_self)).2⟩
      · have z := N₀ p (List.mem_cons_of_mem _ (List.mem_cons_of_mem _ hp))
        exact ⟨hs'.extBut _ _ (offD p hp) z.1, z.2⟩
    · intro p hp
      rcases List.mem_cons.mp hp with rfl | hp
      · exact ⟨hs'.extBut _ _ (Ne.symm (off₀ _ List.mem_cons_self)) (N₀ _ List.mem_cons_self).1, (N₀ _ List.mem_cons_self).2⟩
      · rcases List.mem_cons.mp hp with rfl | hp
        · exact ⟨hD', (N₀ _ (List.mem_cons_of_mem _ List.mem_cons_self)).2⟩
        · have z := N₀ p (List.mem_cons_of_mem _ (List.mem_cons_of_mem _ hp))
          exact ⟨hs'.extBut _ _ (offD₀ p hp) z.1, z.2⟩
    · intro p hp
      rcases List.mem_cons.mp hp with rfl | hp
      · exact off₀ (D, listObj ys₀ c₀) List.mem_cons_self
      · exact off₀ p (List.mem_cons_of_mem _ hp)
  · obtain ⟨hI, hGn⟩ := hI
    have hI' := hI
    obtain ⟨i, h, tk, g, m', oI, nw, hi, rfl, hG', hst, F, N, off, hS2, hJ⟩ := hI'
    have hgs' := hG'.2
    refine next_gen (A := topA dp (un + 1) gd envF outer) rfl (nolim F) hroom (hgen N (List.mem_cons_of_mem _ hS2.1)) hGn (hI.set rfl) (fun hk s₁ hE h' hkp => ?_) (fun j v s₁ gs' hk hO hb hre => ?_)
    · obtain ⟨h₂, tk₂, g₂, m₂, nw₂, rfl, hG₂, F₂, N₂, hS₂, ys, c, r, rfl, offD, ha, hSr, hj⟩ := hE
      obtain ⟨Fb, Nb⟩ := ground_back FG st (F₂.keeps hkp) (N₂.grown hkp)
      exact fin h' tk₂ _ ys c r (GB.set (s := { s with heap := h₂, toks := tk₂, gens := g₂ }) hG₂ rfl) Fb Nb offD hj
    · obtain ⟨i₂, h₂, tk₂, g₂, m₂, oI₂, nw₂, hi₂, rfl, hG₂, hst₂, F₂, N₂, off₂, hS₂, ys, c, r, rfl, offD, ha, hSr, hl, hj⟩ := hO
      have hD₂ := N₂ (D, listObj ys c) (List.mem_cons_of_mem _ List.mem_cons_self)
      have hre' := hre (by have := hG₂.2; exact this)
      refine push_list (c := c) hD₂.1 (by omega) fun h' c' hD' hs' => ⟨j, by omega, ?_, ?_⟩
      · have N' : News h₁ C h' ((I, oI₂) :: (D, listObj (ys ++ [v]) c') :: r) := fun p hp => by
          rcases List.mem_cons.mp hp with rfl | hp
          · exact ⟨hs'.extBut _ _ (Ne.symm (off₂ _ List.mem_cons_self)) (N₂ _ List.mem_cons_self).1, (N₂ _ List.mem_cons_self).2⟩
          · rcases List.mem_cons.mp hp with rfl | hp
            · exact ⟨hD', hD₂.2⟩
            · have z := N₂ p (List.mem_cons_of_mem _ (List.mem_cons_of_mem _ hp))
              exact ⟨hs'.extBut _ _ (offD p hp) z.1, z.2⟩
        refine ⟨i₂ + 1, h', tk₂, _, m₂, oI₂, (D, listObj (ys ++ [v]) c') :: r, by omega, rfl, GB.set (s := { s with heap := h₂, toks := tk₂, gens := g₂ }) hG₂ hb, ?_, F₂.change hs' hD₂.2.1 hD₂.2.2, N', ?_, ⟨List.mem_cons_of_mem _ ha, hSn _ _ hSr⟩, ys ++ [v], c', r, rfl, offD, ha, hSr, hj⟩
        · exact hSt _ _ _ _ hst₂ (fun o e => hs'.extBut _ _ (Ne.symm (off₂ _ List.mem_cons_self)) e) (fun p hp => N' p (List.mem_cons_of_mem _ hp)) (hSn _ _ hSr)
        · intro p hp
          rcases List.mem_cons.mp hp with rfl | hp
          · exact off₂ (D, listObj ys c) List.mem_cons_self
          · exact off₂ p (List.mem_cons_of_mem _ hp)
      · obtain ⟨gs, q1, q2, q3⟩ := hre'
        exact ⟨gs, q1, q2, q3⟩
end
end Mine

end

section
open PySem PySem.W PyProof.Rows
set_option linter.unusedVariables false
namespace Mine
theorem rstS2 : True := by
  w_top off
  trivial
local macro_rules | `(tactic| k_mem) => `(tactic| assumption)
local macro_rules | `(tactic| k_all) => `(tactic| with_reducible assumption)
local macro_rules | `(tactic| ktr_enter) => `(tactic| (k_dflt (refine' code_def ?k1 ?k2 ?k3 ?k4 ?k5 ?kA ?kF ?kK ?k6 ?k7 ?k8 ?k9 ?kB ?_ ?c2 ?c3 ?c4 ?c5; (case kA => exact rfl); (case kF => first | exact rfl | assumption); (case kK => first | exact rfl | assumption); (case k1 => k_asm); (case k2 => k_asm); (case k3 => k_asm); (case k4 => k_asm); (case k5 => k_asm); (case k6 => k_is); (case k7 => k_is); (case k8 => ((try dsimp only [topA]); omega)); (case k9 => exact BindsTo.of_eq rfl); (case c5 => decide); (case kB => exact locs rfl); (case c2 => exact rfl); (case c3 => exact rfl); (case c4 => exact rfl); k_whole; intro g' L' h' FG' F' N' B' X' T'; (try dsimp only); (try k_fold))))
local macro_rules | `(tactic| ktd_sub) => `(tactic| (intro p9 hp9; repeat (first | exact hp9 | refine List.mem_cons_of_mem _ ?_)))
local macro_rules | `(tactic| ktd_rel) => `(tactic| first | assumption | (refine' DIn.mono ?hs ?hh; (case hh => assumption); (case hs => ktd_sub)) | (refine' DsIn.mono ?hs ?hh; (case hh => assumption); (case hs => ktd_sub)) | (refine' KsIn.mono ?hs ?hh; (case hh => assumption); (case hs => ktd_sub)))
local macro_rules | `(tactic| ktr_room) => `(tactic| (simp only [depth_deeper, depth_in1, topA] at *; omega))
local macro_rules | `(tactic| ktr_units) => `(tactic| (simp only [units_deeper, units_in1, topA] at *; omega))
local macro_rules | `(tactic| ktr_unf) => `(tactic| (k_dflt (refine' code_defC ?k1 ?k2 ?k3 ?k4 ?k5 ?kA ?kF ?kK ?k6 ?k7 ?k8 ?k9 ?kB ?kD ?_ ?c2 ?c3 ?c4; (case kA => exact rfl); (case kF => first | exact rfl | assumption); (case kK => first | exact rfl | assumption); (case k1 => k_asm); (case k2 => k_asm); (case k3 => k_asm); (case k4 => k_asm); (case k5 => k_asm); (case k6 => k_is); (case k7 => k_is); (case k8 => ((try dsimp only [topA]); omega)); (case k9 => exact BindsTo.of_eq rfl); (case kB => exact rfl); (case kD => decide +kernel); (case c2 => exact rfl); (case c3 => exact rfl); (case c4 => exact rfl); k_whole; intro g' L' h' tk' cells' FG' F' N' Y' B' X' T' l1; (try k_lt l1); k_cells Y'; (try simp only [List.cons_append, List.nil_append] at N'); (try dsimp only); (try k_fold))))
local macro_rules | `(tactic| walk_at "call ref") => `(tactic| (k_here; (with_reducible show wpAny _ _ (call (Value.ref 956) _) _ _ _); k_dflt (refine' use_call (kind_call _ _ _ _ ?hD) ?B ?F ?X ?N ?T ?hf ?hk ?hd ?hu ?hG ?_; (case B => k_asm); (case F => k_asm); (case X => k_asm); (case N => k_asm); (case T => k_asm); (case hf => first | exact rfl | assumption); (case hk => first | exact rfl | assumption); (case hG => assumption); (case hD => ktd_rel); (case hd => ktr_room); (case hu => ktr_units); k_whole; intro r9 nw9 h9 tk9 g9 p9 hG9 F9 N9; obtain ⟨p9, q9⟩ := p9; obtain ⟨t9, p9⟩ := p9; replace q9 := Eq.symm q9; subst q9; subst p9; (try dsimp only); (try k_fold))))
local macro_rules | `(tactic| walk_at "call builtin:isinstance") => `(tactic| (k_here; (with_reducible show wpAny _ _ (call _ [_, Value.type _]) _ _ _); k_dflt (refine' isin_leafs (d := _) ?T ?F ?X ?N ?T' ?hD ?hl ?_; (case T => first | exact Or.inl rfl | exact Or.inr rfl); (case F => k_asm); (case X => k_asm); (case N => k_asm); (case T' => k_asm); (case hD => ktd_rel); (case hl => assumption); k_whole; intro tk9)))
local macro_rules | `(tactic| walk_at "call builtin:isinstance") => `(tactic| (k_here; (with_reducible show wpAny _ _ (call _ [_, Value.ref _]) _ _ _); k_dflt (refine' isin_leafs2 (d := _) ?T ?F ?X ?N ?T' ?hm ?hD ?hl ?_; (case F => k_asm); (case X => k_asm); (case N => k_asm); (case T' => k_asm); (case hm => k_mem); (case hD => ktd_rel); (case hl => assumption); (case T => first | exact Or.inl ⟨rfl, rfl⟩ | exact Or.inr ⟨rfl, rfl⟩); k_whole; intro tk9)))
local macro_rules | `(tactic| walk_at "eval ListComp") => `(tactic| (k_here; k_dflt (refine ListComp_G (by k_asm) (by assumption) (by with_unfolding_all rfl) (by decide) (by rfl) (by decide) (by rfl) ?_)))
local macro_rules | `(tactic| walk_at "call builtin:len") => `(tactic| (k_here; (with_reducible show wpAny _ _ (call (Value.builtin "len") [Value.ref _]) _ _ _); (refine len_list (News.isList (by k_asm) (by k_mem)) (by (try rw [List.size_toArray]); omega) ?_); (try rw [List.size_toArray])))
local macro_rules | `(tactic| lsm_bools) => `(tactic| assumption)
local macro_rules | `(tactic| k_mem) => `(tactic| first | assumption | exact List.Mem.head _ | (refine' List.Mem.tail _ ?_; k_mem))
local macro_rules | `(tactic| walk_at "subscriptTail Name Name ref int") => `(tactic| (k_here; (with_reducible show wpAny _ _ (subscriptTail _ _ (Value.ref _) (Value.int _ _)) _ _ _); k_dflt (refine item_list (News.isList (by k_asm) (by k_mem)) (by omega) (by omega) (by assumption) ?_)))
local macro_rules | `(tactic| walk_at "call ref") => `(tactic| (k_here; (with_reducible show wpAny _ _ (call (Value.ref 961) _) _ _ _); k_dflt (refine' use_same ?ih ?o1 ?o2 ?h1 ?h2 ?B ?F ?X ?N ?T ?hf ?hk ?hd ?hu ?hG ?_; (case B => k_asm); (case F => k_asm); (case X => k_asm); (case N => k_asm); (case T => k_asm); (case hf => first | exact rfl | assumption); (case hk => first | exact rfl | assumption); (case hG => assumption); (case ih => assumption); (case h1 => ktd_rel); (case h2 => ktd_rel); (case o1 => assumption); (case o2 => assumption); (case hd => ktr_room); (case hu => ktr_units); k_whole; intro r9 nw9 h9 tk9 g9 p9 hG9 F9 N9; obtain ⟨p9, q9⟩ := p9; replace q9 := Eq.symm q9; subst q9; subst p9; (try dsimp only); (try k_fold))))
local macro_rules | `(tactic| walk_at "call builtin:sorted") => `(tactic| (k_here; (with_reducible show wpAny _ _ (call (Value.builtin _) [Value.ref _]) _ _ _); k_dflt (refine' sorted_dictG ?hh ?F ?N ?hm ?hd ?lo ?hl ?_; (case hh => rfl); (case F => k_asm); (case N => k_asm); (case hm => k_mem); (case hd => with_reducible assumption); (case lo => with_reducible assumption); (case hl => with_reducible assumption); k_whole); intro D9 vs9 ss9 e9 h9 tk9 F9 N9 l9 S9 P9 O9))
local macro_rules | `(tactic| walk_at "compareOp Eq ref ref") => `(tactic| (k_here; (with_reducible show wpAny _ _ (compareOp CmpOp.Eq (Value.ref _) (Value.ref _)) _ _ _); k_dflt (refine' eq_strs ?ha ?hb ?hi ?hj ?ho ?ho' ?hu ?_; (case ha => exact News.isList (by k_asm) (by k_mem)); (case hb => exact News.isList (by k_asm) (by k_mem)); (case hi => with_reducible assumption); (case hj => with_reducible assumption); (case ho => exact perm_ok (by with_reducible assumption) (by with_reducible assumption)); (case ho' => exact perm_ok (by with_reducible assumption) (by with_reducible assumption)); (case hu => ktr_units); k_whole)))
local macro_rules | `(tactic| walk_at "subscriptTail Name Name ref str") => `(tactic| (k_here; (with_reducible show wpAny _ _ (subscriptTail _ _ (Value.ref _) (Value.str _ _)) _ _ _); k_dflt (refine' item_dictT ?N ?hm ?hd ?hv ?_ ?hs ?hg; (case N => k_asm); (case hm => k_mem); (case hd => with_reducible assumption); (case hv => with_reducible assumption); (case hs => with_unfolding_all rfl); (case hg => (intro _; with_unfolding_all rfl)); k_whole)))
set_option maxRecDepth 100000 in
set_option maxHeartbeats 8000000 in
theorem same_list (w : World) (n : Nat) (hn : n ≤ 4) (ih : SameAt w n) (nw : List (Addr × Obj)) (xs ys : List D) (v1 v2 : Value) (o1 : (D.list xs).ok (n + 1)) (o2 : (D.list ys).ok (n + 1)) (h1 : DIn w nw (.list xs) v1) (h2 : DIn w nw (.list ys) v2) : CallsTo w 961 [v1, v2] nw (30 * (n + 1)) (300 * (n + 1)) (fun r nw' => r = .bool (eqD (.list xs) (.list ys)) ∧ nw' = nw) := by
  unfold DIn at h1 h2
  obtain ⟨a1, x1, n1, rfl, hm1, hle1, hx1⟩ := h1
  obtain ⟨a2, x2, n2, rfl, hm2, hle2, hx2⟩ := h2
  have q1 := DsIn.length hx1
  have q2 := DsIn.length hx2
  intro fl p loose mean mg mb dp un gd env outer A₀ base h₀ L m s Q E HA hG hret
  obtain ⟨B, F, X, N, T, hf, hk, hd, hu⟩ := HA
  refine wpAny_call ?_
  ktr_unf
  k_steps
  · refine src_rangeN (n := x1.length) (by omega) hG rfl (by k_asm) (by k_asm) (by assumption) ?_
    intro g0
    refine GRest.turns (fun i oD nw' => ∃ ys', oD = LCg.lst ys' ∧ LSm.BoolsAre ys' (bl xs ys i) ∧ ys'.length = i ∧ nw' = _) ⟨[], rfl, .nil, rfl, rfl⟩ ?_ ?_
    · rintro oD nw' ⟨ys', rfl, hb, hl, rfl⟩ D0 h0 tk0 g0 hG0 F0 N0 off0 ltD0
      k_steps
      have z0 : xs.length = ys.length := by omega
      have z1 : (bl xs ys x1.length).all id = eqD (.list xs) (.list ys) := by
        simp only [eqD]
        rw [q1, eqL_bl xs ys z0, (beq_iff_eq.mpr z0 : (xs.length == ys.length) = true)]; simp
      exact hret _ nw _ _ _ ⟨congrArg Value.bool z1, rfl⟩ (by assumption) (by k_asm) (news_sub (by k_asm) (by ktd_sub))
    · rintro i hi oD nw' ⟨ys', rfl, hb, hl, rfl⟩ v0 I0 oI0 C0 oC0 D0 m0 h0 tk0 g0 E0 Post0 ⟨t0, rfl⟩ hC0 hx0 F0 N0 off0 ne0 hG0 hPost0
      refine turnL (ys := ys') ne0 (by rw [sizeLine_eq]; omega) hPost0 ?_
      obtain ⟨u1, e1⟩ : ∃ u, x1.toArray[(↑i : Int).toNat]? = some u := ⟨x1[i], by simp [hi]⟩
      obtain ⟨u2, e2⟩ : ∃ u, x2.toArray[(↑i : Int).toNat]? = some u := ⟨x2[i]'(by omega), by simp⟩
      obtain ⟨d1, f1, g1⟩ := DsIn.get hx1 (i := i) (v := u1) (by simpa using e1)
      obtain ⟨d2, f2, g2⟩ := DsIn.get hx2 (i := i) (v := u2) (by simpa using e2)
      have o1' : D.ok n d1 := o1 d1 (List.mem_of_getElem? f1)
      have o2' : D.ok n d2 := o2 d2 (List.mem_of_getElem? f2)
      k_steps
      refine ⟨_, _, _, oC0, m0, _, rfl, by assumption, hC0, by k_asm, by k_asm, off0, trivial, ys' ++ [_], rfl, ?_, by simp [hl], rfl⟩
      rw [bl_succ]
      have z1 : atD xs i = d1 := by simp [atD, f1]
      have z2 : atD ys i = d2 := by simp [atD, f2]
      rw [z1, z2]
      exact boolsAre_snoc hb
  · exact hret _ nw _ _ _ ⟨congrArg Value.bool (by simp only [eqD]; rw [(beq_eq_false_iff_ne.mpr (by omega) : (xs.length == ys.length) = false), Bool.false_and]; exact beq_eq_false_iff_ne.mpr (by omega)), rfl⟩ (by assumption) (by k_asm) (news_sub (by k_asm) (by ktd_sub))

end Mine

end

section
open PySem PySem.W PyProof.Rows
set_option linter.unusedVariables false
namespace Mine
local macro_rules | `(tactic| walk_at "zz") => `(tactic| fail)
theorem rstS3 : True := by
  w_top off
  trivial
local macro_rules | `(tactic| k_mem) => `(tactic| assumption)
local macro_rules | `(tactic| k_all) => `(tactic| with_reducible assumption)
local macro_rules | `(tactic| ktr_enter) => `(tactic| (k_dflt (refine' code_def ?k1 ?k2 ?k3 ?k4 ?k5 ?kA ?kF ?kK ?k6 ?k7 ?k8 ?k9 ?kB ?_ ?c2 ?c3 ?c4 ?c5; (case kA => exact rfl); (case kF => first | exact rfl | assumption); (case kK => first | exact rfl | assumption); (case k1 => k_asm); (case k2 => k_asm); (case k3 => k_asm); (case k4 => k_asm); (case k5 => k_asm); (case k6 => k_is); (case k7 => k_is); (case k8 => ((try dsimp only [topA]); omega)); (case k9 => exact BindsTo.of_eq rfl); (case c5 => decide); (case kB => exact locs rfl); (case c2 => exact rfl); (case c3 => exact rfl); (case c4 => exact rfl); k_whole; intro g' L' h' FG' F' N' B' X' T'; (try dsimp only); (try k_fold))))
local macro_rules | `(tactic| ktd_sub) => `(tactic| (intro p9 hp9; repeat (first | exact hp9 | refine List.mem_cons_of_mem _ ?_)))
local macro_rules | `(tactic| ktd_rel) => `(tactic| first | assumption | (refine' DIn.mono ?hs ?hh; (case hh => assumption); (case hs => ktd_sub)) | (refine' DsIn.mono ?hs ?hh; (case hh => assumption); (case hs => ktd_sub)) | (refine' KsIn.mono ?hs ?hh; (case hh => assumption); (case hs => ktd_sub)))
local macro_rules | `(tactic| ktr_room) => `(tactic| (simp only [depth_deeper, depth_in1, topA] at *; omega))
local macro_rules | `(tactic| ktr_units) => `(tactic| (simp only [units_deeper, units_in1, topA] at *; omega))
local macro_rules | `(tactic| ktr_unf) => `(tactic| (k_dflt (refine' code_defC ?k1 ?k2 ?k3 ?k4 ?k5 ?kA ?kF ?kK ?k6 ?k7 ?k8 ?k9 ?kB ?kD ?_ ?c2 ?c3 ?c4; (case kA => exact rfl); (case kF => first | exact rfl | assumption); (case kK => first | exact rfl | assumption); (case k1 => k_asm); (case k2 => k_asm); (case k3 => k_asm); (case k4 => k_asm); (case k5 => k_asm); (case k6 => k_is); (case k7 => k_is); (case k8 => ((try dsimp only [topA]); omega)); (case k9 => exact BindsTo.of_eq rfl); (case kB => exact rfl); (case kD => decide +kernel); (case c2 => exact rfl); (case c3 => exact rfl); (case c4 => exact rfl); k_whole; intro g' L' h' tk' cells' FG' F' N' Y' B' X' T' l1; (try k_lt l1); k_cells Y'; (try simp only [List.cons_append, List.nil_append] at N'); (try dsimp only); (try k_fold))))
local macro_rules | `(tactic| walk_at "call ref") => `(tactic| (k_here; (with_reducible show wpAny _ _ (call (Value.ref 956) _) _ _ _); k_dflt (refine' use_call (kind_call _ _ _ _ ?hD) ?B ?F ?X ?N ?T ?hf ?hk ?hd ?hu ?hG ?_; (case B => k_asm); (case F => k_asm); (case X => k_asm); (case N => k_asm); (case T => k_asm); (case hf => first | exact rfl | assumption); (case hk => first | exact rfl | assumption); (case hG => assumption); (case hD => ktd_rel); (case hd => ktr_room); (case hu => ktr_units); k_whole; intro r9 nw9 h9 tk9 g9 p9 hG9 F9 N9; obtain ⟨p9, q9⟩ := p9; obtain ⟨t9, p9⟩ := p9; replace q9 := Eq.symm q9; subst q9; subst p9; (try dsimp only); (try k_fold))))
local macro_rules | `(tactic| walk_at "call builtin:isinstance") => `(tactic| (k_here; (with_reducible show wpAny _ _ (call _ [_, Value.type _]) _ _ _); k_dflt (refine' isin_leafs (d := _) ?T ?F ?X ?N ?T' ?hD ?hl ?_; (case T => first | exact Or.inl rfl | exact Or.inr rfl); (case F => k_asm); (case X => k_asm); (case N => k_asm); (case T' => k_asm); (case hD => ktd_rel); (case hl => assumption); k_whole; intro tk9)))
local macro_rules | `(tactic| walk_at "call builtin:isinstance") => `(tactic| (k_here; (with_reducible show wpAny _ _ (call _ [_, Value.ref _]) _ _ _); k_dflt (refine' isin_leafs2 (d := _) ?T ?F ?X ?N ?T' ?hm ?hD ?hl ?_; (case F => k_asm); (case X => k_asm); (case N => k_asm); (case T' => k_asm); (case hm => k_mem); (case hD => ktd_rel); (case hl => assumption); (case T => first | exact Or.inl ⟨rfl, rfl⟩ | exact Or.inr ⟨rfl, rfl⟩); k_whole; intro tk9)))
local macro_rules | `(tactic| walk_at "eval ListComp") => `(tactic| (k_here; k_dflt (refine ListComp_G (by k_asm) (by assumption) (by with_unfolding_all rfl) (by decide) (by rfl) (by decide) (by rfl) ?_)))
local macro_rules | `(tactic| walk_at "call builtin:len") => `(tactic| (k_here; (with_reducible show wpAny _ _ (call (Value.builtin "len") [Value.ref _]) _ _ _); (refine len_list (News.isList (by k_asm) (by k_mem)) (by (try rw [List.size_toArray]); omega) ?_); (try rw [List.size_toArray])))
local macro_rules | `(tactic| lsm_bools) => `(tactic| assumption)
local macro_rules | `(tactic| k_mem) => `(tactic| first | assumption | exact List.Mem.head _ | (refine' List.Mem.tail _ ?_; k_mem))
local macro_rules | `(tactic| walk_at "subscriptTail Name Name ref int") => `(tactic| (k_here; (with_reducible show wpAny _ _ (subscriptTail _ _ (Value.ref _) (Value.int _ _)) _ _ _); k_dflt (refine item_list (News.isList (by k_asm) (by k_mem)) (by omega) (by omega) (by assumption) ?_)))
local macro_rules | `(tactic| walk_at "call ref") => `(tactic| (k_here; (with_reducible show wpAny _ _ (call (Value.ref 961) _) _ _ _); k_dflt (refine' use_same ?ih ?o1 ?o2 ?h1 ?h2 ?B ?F ?X ?N ?T ?hf ?hk ?hd ?hu ?hG ?_; (case B => k_asm); (case F => k_asm); (case X => k_asm); (case N => k_asm); (case T => k_asm); (case hf => first | exact rfl | assumption); (case hk => first | exact rfl | assumption); (case hG => assumption); (case ih => assumption); (case h1 => ktd_rel); (case h2 => ktd_rel); (case o1 => assumption); (case o2 => assumption); (case hd => ktr_room); (case hu => ktr_units); k_whole; intro r9 nw9 h9 tk9 g9 p9 hG9 F9 N9; obtain ⟨p9, q9⟩ := p9; replace q9 := Eq.symm q9; subst q9; subst p9; (try dsimp only); (try k_fold))))
local macro_rules | `(tactic| walk_at "call builtin:sorted") => `(tactic| (k_here; (with_reducible show wpAny _ _ (call (Value.builtin _) [Value.ref _]) _ _ _); k_dflt (refine' sorted_dictG ?hh ?F ?N ?hm ?hd ?lo ?hl ?_; (case hh => rfl); (case F => k_asm); (case N => k_asm); (case hm => k_mem); (case hd => with_reducible assumption); (case lo => with_reducible assumption); (case hl => with_reducible assumption); k_whole); intro D9 vs9 ss9 e9 h9 tk9 F9 N9 l9 S9 P9 O9))
local macro_rules | `(tactic| walk_at "compareOp Eq ref ref") => `(tactic| (k_here; (with_reducible show wpAny _ _ (compareOp CmpOp.Eq (Value.ref _) (Value.ref _)) _ _ _); k_dflt (refine' eq_strs ?ha ?hb ?hi ?hj ?ho ?ho' ?hu ?_; (case ha => exact News.isList (by k_asm) (by k_mem)); (case hb => exact News.isList (by k_asm) (by k_mem)); (case hi => with_reducible assumption); (case hj => with_reducible assumption); (case ho => exact perm_ok (by with_reducible assumption) (by with_reducible assumption)); (case ho' => exact perm_ok (by with_reducible assumption) (by with_reducible assumption)); (case hu => ktr_units); k_whole)))
local macro_rules | `(tactic| walk_at "subscriptTail Name Name ref str") => `(tactic| (k_here; (with_reducible show wpAny _ _ (subscriptTail _ _ (Value.ref _) (Value.str _ _)) _ _ _); k_dflt (refine' item_dictT ?N ?hm ?hd ?hv ?_ ?hs ?hg; (case N => k_asm); (case hm => k_mem); (case hd => with_reducible assumption); (case hv => with_reducible assumption); (case hs => with_unfolding_all rfl); (case hg => (intro _; with_unfolding_all rfl)); k_whole)))
set_option maxRecDepth 100000 in
set_option maxHeartbeats 8000000 in
theorem same_dict (w : World) (n : Nat) (hn : n ≤ 4) (ih : SameAt w n) (nw : List (Addr × Obj)) (xs ys : List (Key × D)) (v1 v2 : Value) (o1 : (D.dict xs).ok (n + 1)) (o2 : (D.dict ys).ok (n + 1)) (h1 : DIn w nw (.dict xs) v1) (h2 : DIn w nw (.dict ys) v2) : CallsTo w 961 [v1, v2] nw (30 * (n + 1)) (300 * (n + 1)) (fun r nw' => r = .bool (eqD (.dict xs) (.dict ys)) ∧ nw' = nw) := by
  unfold DIn at h1 h2
  obtain ⟨a1, x1, n1, rfl, hm1, hs1, hle1, kv1, hx1, hk1⟩ := h1
  obtain ⟨a2, x2, n2, rfl, hm2, hs2, hle2, kv2, hx2, hk2⟩ := h2
  have q1 := KsIn.length hk1
  have q2 := KsIn.length hk2
  have r1 := KsIn.keys hk1
  have r2 := KsIn.keys hk2
  have ok1 := keys_ok hk1
  have ok2 := keys_ok hk2
  have l1 : kv1.length < 64 := by omega
  have l2 : kv2.length < 64 := by omega
  intro fl p loose mean mg mb dp un gd env outer A₀ base h₀ L m s Q E HA hG hret
  obtain ⟨B, F, X, N, T, hf, hk, hd, hu⟩ := HA
  refine wpAny_call ?_
  ktr_unf
  k_steps
  · rename (List.Perm _ (List.map _ kv1)) => P1
    rename (List.Perm _ (List.map _ kv2)) => P2
    have pm : (kv1.map (·.1)).Perm (kv2.map (·.1)) := of_decide_eq_true ((sorted_eq (by assumption) (by assumption) P1 P2).symm.trans (decide_eq_true (by assumption : _ = _)))
    rw [r1, r2] at pm
    have fd := perm_find pm
    have nd1 := isDictOf_nodup hx1
    refine src_dict hG rfl (by k_asm) (by k_asm) (by k_mem) hx1 hs1 ?_
    intro g0
    refine GRest.turns (fun i oD nw' => ∃ ys', oD = LCg.lst ys' ∧ LSm.BoolsAre ys' (kl xs ys i) ∧ ys'.length = i ∧ nw' = _) ⟨[], rfl, .nil, rfl, rfl⟩ ?_ ?_
    · rintro oD nw' ⟨ys', rfl, hb, hl, rfl⟩ D0 h0 tk0 g0 hG0 F0 N0 off0 ltD0
      k_steps
      have z1 : (kl xs ys kv1.length).all id = eqD (.dict xs) (.dict ys) := by
        simp only [eqD]
        rw [q1, eqK_kl xs ys fd, decide_eq_true pm]; simp
      exact hret _ nw _ _ _ ⟨congrArg Value.bool z1, rfl⟩ (by assumption) (by k_asm) (news_sub (by k_asm) (by ktd_sub))
    · rintro i hi oD nw' ⟨ys', rfl, hb, hl, rfl⟩ v0 I0 oI0 C0 oC0 D0 m0 h0 tk0 g0 E0 Post0 ⟨k0, y0, e0, i0⟩ hC0 hx0 F0 N0 off0 ne0 hG0 hPost0
      refine turnL (ys := ys') ne0 (by rw [sizeLine_eq]; omega) hPost0 ?_
      obtain ⟨t0, rfl⟩ := Value.isStrOf_shape i0
      obtain ⟨k', d1, f1, rfl, g1⟩ := KsIn.get hk1 e0
      have e1 := valueAt_get nd1 e0
      obtain ⟨p2, f2⟩ := Option.isSome_iff_exists.mp (fd _ (List.mem_of_getElem? f1))
      obtain ⟨y2, e2, g2⟩ := KsIn.value hk2 f2
      have o1' : D.ok n d1 := o1 _ (List.mem_of_getElem? f1)
      have o2' : D.ok n p2.2 := o2 _ (List.mem_of_find?_eq_some f2)
      k_steps
      refine ⟨_, _, _, oC0, m0, _, rfl, by assumption, hC0, by k_asm, by k_asm, off0, by k_mem, ys' ++ [_], rfl, ?_, by simp [hl], rfl⟩
      rw [kl_succ f1]
      have z2 : keyD ys k' = p2.2 := by
        have f2' : List.find? (fun q => decide (q.1 = k')) ys = some p2 := f2
        simp [keyD, f2']
      rw [z2]
      exact boolsAre_snoc hb
  · rename (List.Perm _ (List.map _ kv1)) => P1
    rename (List.Perm _ (List.map _ kv2)) => P2
    have pm : ¬ (kv1.map (·.1)).Perm (kv2.map (·.1)) := of_decide_eq_false ((sorted_eq (by assumption) (by assumption) P1 P2).symm.trans (decide_eq_false (by assumption : ¬ _ = _)))
    rw [r1, r2] at pm
    refine hret _ nw _ _ _ ⟨congrArg Value.bool ?_, rfl⟩ (by assumption) (by k_asm) (news_sub (by k_asm) (by ktd_sub))
    simp only [eqD]
    rw [decide_eq_false pm, Bool.false_and]
    exact decide_eq_false (by assumption)

end Mine

end

section
open PySem PySem.W PyProof.Rows
set_option linter.unusedVariables false
namespace Mine
local macro_rules | `(tactic| walk_at "zz") => `(tactic| fail)
local macro_rules | `(tactic| walk_at "zz") => `(tactic| fail)
local macro_rules | `(tactic| walk_at "zz") => `(tactic| fail)
local macro_rules | `(tactic| walk_at "zz") => `(tactic| fail)
local macro_rules | `(tactic| walk_at "zz") => `(tactic| fail)
local macro_rules | `(tactic| walk_at "zz") => `(tactic| fail)
local macro_rules | `(tactic| walk_at "zz") => `(tactic| fail)
local macro_rules | `(tactic| walk_at "zz") => `(tactic| fail)
local macro_rules | `(tactic| walk_at "zz") => `(tactic| fail)
local macro_rules | `(tactic| walk_at "zz") => `(tactic| fail)
local macro_rules | `(tactic| walk_at "zz") => `(tactic| fail)
local macro_rules | `(tactic| walk_at "zz") => `(tactic| fail)
theorem rstVal0 : True := by
  w_top off
  trivial
local macro_rules | `(tactic| k_mem) => `(tactic| assumption)
local macro_rules | `(tactic| k_all) => `(tactic| with_reducible assumption)
local macro_rules | `(tactic| ktr_enter) => `(tactic| (k_dflt (refine' code_def ?k1 ?k2 ?k3 ?k4 ?k5 ?kA ?kF ?kK ?k6 ?k7 ?k8 ?k9 ?kB ?_ ?c2 ?c3 ?c4 ?c5; (case kA => exact rfl); (case kF => first | exact rfl | assumption); (case kK => first | exact rfl | assumption); (case k1 => k_asm); (case k2 => k_asm); (case k3 => k_asm); (case k4 => k_asm); (case k5 => k_asm); (case k6 => k_is); (case k7 => k_is); (case k8 => ((try dsimp only [topA]); omega)); (case k9 => exact BindsTo.of_eq rfl); (case c5 => decide); (case kB => exact locs rfl); (case c2 => exact rfl); (case c3 => exact rfl); (case c4 => exact rfl); k_whole; intro g' L' h' FG' F' N' B' X' T'; (try dsimp only); (try k_fold))))
local macro_rules | `(tactic| ktd_sub) => `(tactic| (intro p9 hp9; repeat (first | exact hp9 | refine List.mem_cons_of_mem _ ?_)))
local macro_rules | `(tactic| ktd_rel) => `(tactic| first | assumption | (refine' DIn.mono ?hs ?hh; (case hh => assumption); (case hs => ktd_sub)) | (refine' DsIn.mono ?hs ?hh; (case hh => assumption); (case hs => ktd_sub)) | (refine' KsIn.mono ?hs ?hh; (case hh => assumption); (case hs => ktd_sub)))
local macro_rules | `(tactic| ktr_room) => `(tactic| (simp only [depth_deeper, depth_in1, topA] at *; omega))
local macro_rules | `(tactic| ktr_units) => `(tactic| (simp only [units_deeper, units_in1, topA] at *; omega))
local macro_rules | `(tactic| ktr_unf) => `(tactic| (k_dflt (refine' code_defC ?k1 ?k2 ?k3 ?k4 ?k5 ?kA ?kF ?kK ?k6 ?k7 ?k8 ?k9 ?kB ?kD ?_ ?c2 ?c3 ?c4; (case kA => exact rfl); (case kF => first | exact rfl | assumption); (case kK => first | exact rfl | assumption); (case k1 => k_asm); (case k2 => k_asm); (case k3 => k_asm); (case k4 => k_asm); (case k5 => k_asm); (case k6 => k_is); (case k7 => k_is); (case k8 => ((try dsimp only [topA]); omega)); (case k9 => exact BindsTo.of_eq rfl); (case kB => exact rfl); (case kD => decide +kernel); (case c2 => exact rfl); (case c3 => exact rfl); (case c4 => exact rfl); k_whole; intro g' L' h' tk' cells' FG' F' N' Y' B' X' T' l1; (try k_lt l1); k_cells Y'; (try simp only [List.cons_append, List.nil_append] at N'); (try dsimp only); (try k_fold))))
inductive UpdX {α : Type} (D : Addr) (o : Obj) (f : α → Obj) (nw : List (Addr × Obj)) (g : α → List (Addr × Obj)) : List (Addr × Obj) → (α → List (Addr × Obj)) → Prop
  | head : UpdX D o f nw g ((D, o) :: nw) (fun a => (D, f a) :: g a)
  | tail {q : Addr × Obj} {r : List (Addr × Obj)} {r' : α → List (Addr × Obj)} : (@Ne Nat q.1 D) → UpdX D o f nw g r r' → UpdX D o f nw g (q :: r) (fun a => q :: r' a)
theorem UpdX.split {α : Type} {D : Addr} {o : Obj} {f : α → Obj} {nw : List (Addr × Obj)} {g : α → List (Addr × Obj)} {news : List (Addr × Obj)} {news' : α → List (Addr × Obj)} (U : UpdX D o f nw g news news') :
    ∃ pre, (∀ p ∈ pre, p.1 ≠ D) ∧ news = pre ++ (D, o) :: nw ∧ ∀ a, news' a = pre ++ (D, f a) :: g a := by
  induction U with
  | head => exact ⟨[], by simp, rfl, fun _ => rfl⟩
  | @tail q r r' hq _ ih =>
    obtain ⟨pre, h1, h2, h3⟩ := ih
    refine ⟨q :: pre, fun p hp => ?_, by rw [h2]; rfl, fun a => by show q :: r' a = _; rw [h3]; rfl⟩
    rcases List.mem_cons.mp hp with rfl | hp
    · exact hq
    · exact h1 p hp
abbrev stO (ls : Addr) (i : Int) (t : Tok) (n : Nat) : Obj := listObj [.ref ls, .int i t] n
theorem use_next {fl : Nat} {w : World} {st ls : Addr} {vs : List Value} {ns : List Int} {i lim : Int} {n1 n2 : Nat} {t1 t2 : Tok} {nw news : List (Addr × Obj)} {news' : Tok → List (Addr × Obj)} {p : Program} {loose : List Str} {mean : ExcName → Option Value} {mg mb : Str → Option Value} {dp un : Nat} {gd : Option (List Code)} {env : Env} {outer : List Env} {A₀ : Around} {base h₀ : Heap} {L : Addr} {m : Str → Option Value} {s : Shared} {Q E : Value → Shared → Prop}
    (B : Below A₀ base outer h₀) (F : Fr h₀ L s.heap m) (X : (kf.heap_1 w.params).In h₀) (N : News h₀ L s.heap news) (T : Top p loose mean mg mb h₀) (hf : env.frame = some L) (hk : env.scope.kind = .function) (hd : dp + 10 < recursionLimit) (hu : un + 80 < cLine) (hG : GB fl s.gens)
    (U : UpdX st (stO ls i t1 n1) (fun t => stO ls (i + 1) t n1) nw (fun _ => nw) news news') (hI : IntsAre vs ns) (hst : ∀ p ∈ nw, p.1 ≠ st) (hls : (ls, listObj vs n2) ∈ nw) (hi0 : 0 ≤ i) (hi1 : i < 100000) (hl0 : 0 < lim) (hl1 : lim < 100) (hvs : vs.length < 100)
    (h : ∀ k t t' h' tk' g', 0 ≤ k → k < lim → GB fl g' → Fr h₀ L h' m → News h₀ L h' (news' t') → Q (.int k t) { s with heap := h', toks := tk', gens := g' }) :
    wpAny (model PySem.Challenge.rw_eq0021_01.row.prog w) (topA dp un gd env outer) (call (.ref 944) [.ref st, .int lim t2]) Q E s := by
  obtain ⟨pre, h1, h2, h3⟩ := U.split
  have N1 : News h₀ L s.heap ((st, stO ls i t1 n1) :: (pre ++ nw)) := news_sub N fun q hq => by
    rw [h2]
    rcases List.mem_cons.mp hq with rfl | hq
    · exact List.mem_append.mpr (.inr (.head _))
    · rcases List.mem_append.mp hq with hq | hq
      · exact List.mem_append.mpr (.inl hq)
      · exact List.mem_append.mpr (.inr (.tail _ hq))
  refine use_call (next_call w st ls vs ns i n1 n2 t1 t2 (pre ++ nw) lim hI (fun q hq => ?_) (List.mem_append.mpr (.inr hls)) hi0 hi1 hl0 hl1 hvs) B F X N1 T hf hk hd hu hG ?_
  · rcases List.mem_append.mp hq with hq | hq
    · exact h1 q hq
    · exact hst q hq
  · rintro r nw' h' tk' g' ⟨t, t', k, k0, k1, rfl, rfl⟩ hG' F' N'
    refine h k t t' h' tk' g' k0 k1 hG' F' (news_sub N' fun q hq => ?_)
    rw [h3] at hq
    rcases List.mem_append.mp hq with hq | hq
    · exact List.mem_cons_of_mem _ (List.mem_append.mpr (.inl hq))
    · rcases List.mem_cons.mp hq with rfl | hq
      · exact List.mem_cons_self
      · exact List.mem_cons_of_mem _ (List.mem_append.mpr (.inr hq))
def spend : Nat → Int
  | 0 => 10
  | 1 => 30
  | _ => 90
/-- the contract of `_law_value` at one depth -/
def ValAt (w : World) (deep : Nat) : Prop := ∀ (st ls : Addr) (vs : List Value) (ns : List Int) (i : Int) (n1 n2 : Nat) (t1 t2 : Tok) (nw : List (Addr × Obj)) (z : Int), z = (deep : Int) →
  IntsAre vs ns → (∀ p ∈ nw, p.1 ≠ st) → (ls, listObj vs n2) ∈ nw → 0 ≤ i → i + spend deep < 50000 → vs.length < 100 →
  CallsTo w 949 [.ref st, .int z t2] ((st, stO ls i t1 n1) :: nw) (20 * (deep + 1)) (200 * (deep + 1)) (fun r nw' => ∃ own d i' t', nw' = (st, stO ls i' t' n1) :: (nw ++ own) ∧ DIn w own d r ∧ d.ok (deep + 1) ∧ 0 ≤ i' ∧ i' ≤ i + spend deep ∧ ∀ p ∈ own, p.1 ≠ st ∧ ∀ q ∈ nw, p.1 ≠ q.1)
theorem use_value {fl : Nat} {w : World} {deep : Nat} {st ls : Addr} {vs : List Value} {ns : List Int} {i : Int} {n1 n2 : Nat} {t1 t2 : Tok} {z : Int} {nw news : List (Addr × Obj)} {news' : Int × Tok × List (Addr × Obj) → List (Addr × Obj)} {p : Program} {loose : List Str} {mean : ExcName → Option Value} {mg mb : Str → Option Value} {dp un : Nat} {gd : Option (List Code)} {env : Env} {outer : List Env} {A₀ : Around} {base h₀ : Heap} {L : Addr} {m : Str → Option Value} {s : Shared} {Q E : Value → Shared → Prop}
    (V : ValAt w deep) (hz : z = (deep : Int)) (B : Below A₀ base outer h₀) (F : Fr h₀ L s.heap m) (X : (kf.heap_1 w.params).In h₀) (N : News h₀ L s.heap news) (T : Top p loose mean mg mb h₀) (hf : env.frame = some L) (hk : env.scope.kind = .function) (hd : dp + 20 * (deep + 1) < recursionLimit) (hu : un + 200 * (deep + 1) < cLine) (hG : GB fl s.gens)
    (U : UpdX st (stO ls i t1 n1) (fun a : Int × Tok × List (Addr × Obj) => stO ls a.1 a.2.1 n1) nw (fun a => nw ++ a.2.2) news news') (hI : IntsAre vs ns) (hst : ∀ p ∈ nw, p.1 ≠ st) (hls : (ls, listObj vs n2) ∈ nw) (hi0 : 0 ≤ i) (hi1 : i + spend deep < 50000) (hvs : vs.length < 100)
    (h : ∀ r own d i' t' h' tk' g', DIn w own d r → d.ok (deep + 1) → 0 ≤ i' → i' ≤ i + spend deep → (∀ p ∈ nw ++ own, p.1 ≠ st) → (ls, listObj vs n2) ∈ nw ++ own → (∀ p ∈ own, ∀ q ∈ news, p.1 ≠ q.1) → GB fl g' → Fr h₀ L h' m → News h₀ L h' (news' (i', t', own)) → Q r { s with heap := h', toks := tk', gens := g' }) :
    wpAny (model PySem.Challenge.rw_eq0021_01.row.prog w) (topA dp un gd env outer) (call (.ref 949) [.ref st, .int z t2]) Q E s := by
  obtain ⟨pre, h1, h2, h3⟩ := U.split
  have N1 : News h₀ L s.heap ((st, stO ls i t1 n1) :: (pre ++ nw)) := news_sub N fun q hq => by
    rw [h2]
    rcases List.mem_cons.mp hq with rfl | hq
    · exact List.mem_append.mpr (.inr (.head _))
    · rcases List.mem_append.mp hq with hq | hq
      · exact List.mem_append.mpr (.inl hq)
      · exact List.mem_append.mpr (.inr (.tail _ hq))
  refine use_call (V st ls vs ns i n1 n2 t1 t2 (pre ++ nw) z hz hI (fun q hq => ?_) (List.mem_append.mpr (.inr hls)) hi0 hi1 hvs) B F X N1 T hf hk hd hu hG ?_
  · rcases List.mem_append.mp hq with hq | hq
    · exact h1 q hq
    · exact hst q hq
  · rintro r nw' h' tk' g' ⟨own, d, i', t', rfl, hD, ho, i0, i1, hoff⟩ hG' F' N'
    refine h r own d i' t' h' tk' g' hD ho i0 i1 (fun q hq => ?_) (List.mem_append.mpr (.inl hls)) (fun q hq x hx => ?_) hG' F' (news_sub N' fun q hq => ?_)
    · rcases List.mem_append.mp hq with hq | hq
      · exact hst q hq
      · exact (hoff q hq).1
    · rw [h2] at hx
      rcases List.mem_append.mp hx with hx | hx
      · exact (hoff q hq).2 x (List.mem_append.mpr (.inl hx))
      · rcases List.mem_cons.mp hx with rfl | hx
        · exact (hoff q hq).1
        · exact (hoff q hq).2 x (List.mem_append.mpr (.inr hx))
    · rw [h3] at hq
      rcases List.mem_append.mp hq with hq | hq
      · exact List.mem_cons_of_mem _ (List.mem_append.mpr (.inl (List.mem_append.mpr (.inl hq))))
      · rcases List.mem_cons.mp hq with rfl | hq
        · exact List.mem_cons_self
        · refine List.mem_cons_of_mem _ ?_
          rcases List.mem_append.mp hq with hq | hq
          · exact List.mem_append.mpr (.inl (List.mem_append.mpr (.inr hq)))
          · exact List.mem_append.mpr (.inr hq)
theorem item_tupleAny {prog : Program} {w : World} {A : Around} {E Q : Value → Shared → Prop} {s : Shared} {h₀ : Heap} {L : Addr} {news : List (Addr × Obj)} {value slice : Expr} {l : Addr} {items : Array Value} {n : Nat} {k : Int} {u : Tok} (N : News h₀ L s.heap news) (hm : (l, ({ cls := .type "tuple", data := .seq items n } : Obj)) ∈ news) (h0 : 0 ≤ k) (h1 : k < (items.size : Int)) (h2 : k < 2 ^ 63)
    (h : ∀ x, items[k.toNat]? = some x → Q x s)
    (hs : subscripted slice false (.ref l) (.int k u) = operate [.ref l, .int k u] (getItem (.ref l) (.int k u)) := by with_unfolding_all rfl) (hg : ∀ r, letTemporaryGo value (.ref l) r = pure () := by intro _; with_unfolding_all rfl) :
    wpAny (model prog w) A (subscriptTail value slice (.ref l) (.int k u)) Q E s :=
  item_tupleT (l := items.toList) (j := k.toNat) (x := items[k.toNat]'(by omega)) (by rw [Array.toArray_toList]; exact N.isTup hm) (by omega) h2 (seqIndex_of h0 (by simpa using h1)) (by rw [Array.getElem?_toList]; exact Array.getElem?_eq_getElem _) (h _ (Array.getElem?_eq_getElem _)) hs
theorem picked {w : World} {a b c d : Tok} {k : Int} {x : Value} (h1 : 0 < k) (h2 : k < 7) (h : #[Value.int 0 a, .int 1 b, .str (Str.ofString "x") c, .str (Str.ofString "y") d, .bool true, .none, .bool false][k.toNat]? = some x) : ∃ d, DIn w [] d x ∧ d.isLeaf = true := by
  rcases (by omega : k = 1 ∨ k = 2 ∨ k = 3 ∨ k = 4 ∨ k = 5 ∨ k = 6) with rfl | rfl | rfl | rfl | rfl | rfl <;> simp at h <;> subst h
  · exact ⟨.num 1, ⟨by omega, by omega, _, rfl⟩, rfl⟩
  · exact ⟨.txt false, ⟨_, rfl⟩, rfl⟩
  · exact ⟨.txt true, ⟨_, rfl⟩, rfl⟩
  · exact ⟨.tru true, rfl, rfl⟩
  · exact ⟨.nil, rfl, rfl⟩
  · exact ⟨.tru false, rfl, rfl⟩
theorem ok_leaf {d : D} {n : Nat} (h : d.isLeaf = true) : d.ok (n + 1) := by cases d <;> first | trivial | (cases h)
theorem ltAll_ne {b a : Nat} {l : List (Addr × Obj)} (h : ∀ p ∈ l, p.1 < b) (hb : b ≤ a) : ∀ p ∈ l, p.1 ≠ a := fun p hp => Nat.ne_of_lt (Nat.lt_of_lt_of_le (h p hp) hb)
theorem namesAt {a b c : Tok} {k : Int} {x : Value} (h1 : 0 ≤ k) (h2 : k < 3) (h : #[Value.str (Str.ofString "ab") a, .str (Str.ofString "ba") b, .str (Str.ofString "bc") c][k.toNat]? = some x) : ∃ S t, x = .str S t ∧ S.length = 2 ∧ ∀ i : Int, 0 ≤ i → i < 2 → ∃ key : Key, Txt.item S i = key.str := by
  have two : ∀ i : Int, 0 ≤ i → i < 2 → i = 0 ∨ i = 1 := fun i _ _ => by omega
  rcases (by omega : k = 0 ∨ k = 1 ∨ k = 2) with rfl | rfl | rfl <;> simp at h <;> subst h
  · refine ⟨_, _, rfl, by decide +kernel, fun i i0 i1 => ?_⟩
    rcases two i i0 i1 with rfl | rfl
    · exact ⟨.a, by decide +kernel⟩
    · exact ⟨.b, by decide +kernel⟩
  · refine ⟨_, _, rfl, by decide +kernel, fun i i0 i1 => ?_⟩
    rcases two i i0 i1 with rfl | rfl
    · exact ⟨.b, by decide +kernel⟩
    · exact ⟨.a, by decide +kernel⟩
  · refine ⟨_, _, rfl, by decide +kernel, fun i i0 i1 => ?_⟩
    rcases two i i0 i1 with rfl | rfl
    · exact ⟨.b, by decide +kernel⟩
    · exact ⟨.c, by decide +kernel⟩
theorem off1_mem {D : Addr} : ∀ {l : List (Addr × Obj)}, LCg.Off1 D l → ∀ p ∈ l, p.1 ≠ D
  | [], _, _, h => nomatch h
  | _ :: _, x, p, h => by
    rcases List.mem_cons.mp h with rfl | h
    · exact x.1
    · exact off1_mem x.2 p h
abbrev StA := Int × Tok × List (Addr × Obj)
structure Grows (st ls : Addr) (n1 : Nat) (nw : List (Addr × Obj)) (news' : StA → List (Addr × Obj)) : Prop where
  st : ∀ a, (st, stO ls a.1 a.2.1 n1) ∈ news' a
  nw : ∀ a, ∀ q ∈ nw, q ∈ news' a
  own : ∀ a, ∀ q ∈ a.2.2, q ∈ news' a
  off : ∀ {I C D : Addr} (a b : StA) (own2 : List (Addr × Obj)), LCg.Off3 I C D (news' a) → b.2.2 = a.2.2 ++ own2 → (∀ p ∈ own2, p.1 ≠ I ∧ p.1 ≠ C ∧ p.1 ≠ D) → LCg.Off3 I C D (news' b)
theorem Grows.back {st ls : Addr} {n1 : Nat} {nw : List (Addr × Obj)} {news' : StA → List (Addr × Obj)} (gr : Grows st ls n1 nw news') (a : StA) {x : Addr × Obj} : ∀ p ∈ (st, stO ls a.1 a.2.1 n1) :: (nw ++ (x :: a.2.2)), p ∈ x :: news' a := fun p hp => by
  rcases List.mem_cons.mp hp with rfl | hp
  · exact List.mem_cons_of_mem _ (gr.st a)
  · rcases List.mem_append.mp hp with hp | hp
    · exact List.mem_cons_of_mem _ (gr.nw a p hp)
    · rcases List.mem_cons.mp hp with rfl | hp
      · exact List.mem_cons_self
      · exact List.mem_cons_of_mem _ (gr.own a p hp)
theorem UpdX.grows {st ls : Addr} {n1 : Nat} {o : Obj} {nw news : List (Addr × Obj)} {news' : StA → List (Addr × Obj)} (U : UpdX st o (fun a : StA => stO ls a.1 a.2.1 n1) nw (fun a => nw ++ a.2.2) news news') : Grows st ls n1 nw news' := by
  obtain ⟨pre, h1, h2, h3⟩ := U.split
  refine ⟨fun a => ?_, fun a q hq => ?_, fun a q hq => ?_, fun {I C D} a b own2 hoff hb ho => ?_⟩
  · rw [h3]; exact List.mem_append.mpr (.inr (.head _))
  · rw [h3]; exact List.mem_append.mpr (.inr (.tail _ (List.mem_append.mpr (.inl hq))))
  · rw [h3]; exact List.mem_append.mpr (.inr (.tail _ (List.mem_append.mpr (.inr hq))))
  · rw [h3] at hoff ⊢
    refine LCg.Off3.of fun p hp => ?_
    have m := hoff.mem
    rcases List.mem_append.mp hp with hp | hp
    · exact m p (List.mem_append.mpr (.inl hp))
    · rcases List.mem_cons.mp hp with rfl | hp
      · exact m (st, stO ls a.1 a.2.1 n1) (List.mem_append.mpr (.inr (.head _)))
      · rcases List.mem_append.mp hp with hp | hp
        · exact m p (List.mem_append.mpr (.inr (.tail _ (List.mem_append.mpr (.inl hp)))))
        · rw [hb] at hp
          rcases List.mem_append.mp hp with hp | hp
          · exact m p (List.mem_append.mpr (.inr (.tail _ (List.mem_append.mpr (.inr hp)))))
          · exact ho p hp
theorem GRest.turnsX {fl : Nat} {h₀ : Heap} {L : Addr} {m : Str → Option Value} {x : Str} {Bd : PT} {s : Shared} {S : List (Addr × Obj) → Prop} {P : Nat → Value → Prop} {Fin : Obj → List (Addr × Obj) → Prop} {n : Nat} {oD₀ : Obj} {st ls : Addr} {n1 : Nat} {i0 : Int} {t0 : Tok} {nw news : List (Addr × Obj)} {news' : StA → List (Addr × Obj)}
    (U : UpdX st (stO ls i0 t0 n1) (fun a : StA => stO ls a.1 a.2.1 n1) nw (fun a => nw ++ a.2.2) news news') (J : Nat → Obj → StA → Prop)
    (h0 : J 0 oD₀ (i0, t0, [])) (hend : ∀ oD a, Grows st ls n1 nw news' → J n oD a → Fin oD (news' a))
    (hstep : ∀ i, i < n → ∀ oD a, Grows st ls n1 nw news' → J i oD a → ∀ v I oI C oC D m₂ h tk g (E' : Value → Shared → Prop) (Post : Shared → Prop), P i v → LCg.NsObj oC m₂ → m₂ x = some v → Fr h₀ L h m → News h₀ L h ((I, oI) :: (C, oC) :: (D, oD) :: news' a) → LCg.Off3 I C D (news' a) → ((@Ne Nat I C) ∧ (@Ne Nat I D) ∧ (@Ne Nat C D)) → GB fl g →
      (∀ s₂, GEnd fl h₀ L m s S I oI C D (fun oD' nwl => ∃ a', nwl = news' a' ∧ J (i + 1) oD' a') s₂ → Post s₂) → Bd C D Post E' { s with heap := h, toks := tk, gens := g }) :
    GRest fl h₀ L m x Bd s S P Fin n 0 oD₀ news := by
  obtain ⟨pre, h1, h2, h3⟩ := U.split
  refine GRest.turns (fun i oD nwl => ∃ a, nwl = news' a ∧ J i oD a) ⟨(i0, t0, []), ?_, h0⟩ ?_ ?_
  · rw [h2, h3]; simp
  · rintro oD nwl ⟨a, rfl, hj⟩; exact hend _ _ U.grows hj
  · rintro i hi oD nwl ⟨a, rfl, hj⟩ v I oI C oC D m₂ h tk g E' Post a1 a2 a3 a4 a5 a6 a7 a8 a9
    exact hstep i hi oD a U.grows hj v I oI C oC D m₂ h tk g E' Post a1 a2 a3 a4 a5 a6 a7 a8 a9
theorem DsIn.snoc {w : World} {nw : List (Addr × Obj)} {d : D} {v : Value} (hd : DIn w nw d v) : ∀ {ds : List D} {vs : List Value}, DsIn w nw ds vs → DsIn w nw (ds ++ [d]) (vs ++ [v])
  | [], vs, h => by unfold DsIn at h; subst h; unfold DsIn; exact ⟨v, [], rfl, hd, by unfold DsIn; rfl⟩
  | e :: ds, vs, h => by
    unfold DsIn at h
    obtain ⟨u, r, rfl, h1, h2⟩ := h
    show DsIn w nw (e :: (ds ++ [d])) (u :: (r ++ [v]))
    unfold DsIn
    exact ⟨u, _, rfl, h1, DsIn.snoc hd h2⟩
def bnd : Nat → Int → Int
  | 0, _ => 0
  | k + 1, sp => bnd k sp + sp
theorem bnd_le {n : Nat} (h : n ≤ 2) {sp : Int} (h0 : 0 ≤ sp) : bnd n sp ≤ sp + sp := by
  rcases (by omega : n = 0 ∨ n = 1 ∨ n = 2) with rfl | rfl | rfl <;> simp only [bnd] <;> omega
theorem bnd_lt {n k : Nat} (h : n ≤ 2) (hk : k < n) {sp : Int} (h0 : 0 ≤ sp) : bnd k sp + sp ≤ sp + sp := by
  rcases (by omega : k = 0 ∨ k = 1) with rfl | rfl <;> simp only [bnd] <;> omega
def storedK (ks : List (Key × D)) (k : Key) (d : D) : List (Key × D) :=
  if ks.any (fun q => q.1 = k) then ks.map (fun q => if q.1 = k then (q.1, d) else q) else ks ++ [(k, d)]
theorem KsIn.snoc {w : World} {nw : List (Addr × Obj)} {k : Key} {d : D} {v : Value} (hd : DIn w nw d v) : ∀ {ks : List (Key × D)} {kvs : List (Str × Value)}, KsIn w nw ks kvs → KsIn w nw (ks ++ [(k, d)]) (kvs ++ [(k.str, v)])
  | [], vs, h => by unfold KsIn at h; subst h; show KsIn w nw ((k, d) :: []) ((k.str, v) :: []); unfold KsIn; exact ⟨v, [], rfl, hd, by unfold KsIn; rfl⟩
  | (k', e) :: ds, vs, h => by
    unfold KsIn at h
    obtain ⟨u, r, rfl, h1, h2⟩ := h
    show KsIn w nw ((k', e) :: (ds ++ [(k, d)])) ((k'.str, u) :: (r ++ [(k.str, v)]))
    unfold KsIn
    exact ⟨u, _, rfl, h1, KsIn.snoc hd h2⟩
theorem KsIn.put {w : World} {nw : List (Addr × Obj)} {k : Key} {d : D} {v : Value} (hd : DIn w nw d v) : ∀ {ks : List (Key × D)} {kvs : List (Str × Value)}, KsIn w nw ks kvs → KsIn w nw (ks.map (fun q => if q.1 = k then (q.1, d) else q)) (kvs.map (fun kv => if kv.1 = k.str then (kv.1, v) else kv))
  | [], vs, h => by unfold KsIn at h; subst h; unfold KsIn; rfl
  | (k', e) :: ds, vs, h => by
    unfold KsIn at h
    obtain ⟨u, r, rfl, h1, h2⟩ := h
    have ih := KsIn.put (k := k) hd h2
    by_cases hk : k' = k
    · subst hk
      simp only [List.map_cons, if_true]
      unfold KsIn
      exact ⟨v, _, rfl, hd, ih⟩
    · have hk' : ¬ k'.str = k.str := fun q => hk (Key.str_inj q)
      simp only [List.map_cons, if_neg hk, if_neg hk']
      unfold KsIn
      exact ⟨u, _, rfl, h1, ih⟩
theorem KsIn.any {w : World} {nw : List (Addr × Obj)} {k : Key} : ∀ {ks : List (Key × D)} {kvs : List (Str × Value)}, KsIn w nw ks kvs → (kvs.any fun kv => decide (kv.1 = k.str)) = ks.any fun q => decide (q.1 = k)
  | [], vs, h => by unfold KsIn at h; subst h; rfl
  | (k', e) :: ds, vs, h => by
    unfold KsIn at h
    obtain ⟨u, r, rfl, h1, h2⟩ := h
    have ih := KsIn.any (k := k) h2
    have e' : decide (k'.str = k.str) = decide (k' = k) := by
      by_cases hk : k' = k
      · simp [hk]
      · have : ¬ k'.str = k.str := fun q => hk (Key.str_inj q)
        simp [hk, this]
    simp only [List.any_cons, ih, e']
theorem KsIn.stored {w : World} {nw : List (Addr × Obj)} {k : Key} {d : D} {v : Value} {ks : List (Key × D)} {kvs : List (Str × Value)} (h : KsIn w nw ks kvs) (hd : DIn w nw d v) : KsIn w nw (storedK ks k d) (PySem.stored kvs k.str v) := by
  unfold storedK PySem.stored
  rw [KsIn.any h]
  split
  · exact KsIn.put hd h
  · exact KsIn.snoc hd h
theorem storedK_len {ks : List (Key × D)} {k : Key} {d : D} : (storedK ks k d).length ≤ ks.length + 1 := by
  unfold storedK; split <;> simp
theorem storedK_ok {ks : List (Key × D)} {k : Key} {d : D} {n : Nat} (h : ∀ q ∈ ks, q.2.ok n) (hd : d.ok n) : ∀ q ∈ storedK ks k d, q.2.ok n := by
  unfold storedK
  split
  · intro q hq
    obtain ⟨r, hr, rfl⟩ := List.mem_map.mp hq
    split
    · exact hd
    · exact h r hr
  · intro q hq
    rcases List.mem_append.mp hq with hq | hq
    · exact h q hq
    · rw [List.mem_singleton.mp hq]; exact hd
theorem not_modules {h₀ h : Heap} {L D : Addr} {m : Str → Option Value} (F : Fr h₀ L h m) (hl : h₀.NoLimit) (lt : @LT.lt Nat _ L D) : (D == sysModules) = false := by
  have a := modules_low hl
  have b := F.above
  have : D ≠ sysModules := Nat.ne_of_gt (Nat.lt_trans (Nat.lt_of_lt_of_le a b) lt)
  simpa using this

end Mine

end

section
open PySem PySem.W PyProof.Rows PySem.Calls PyProof.V
set_option linter.unusedVariables false
set_option maxRecDepth 100000
set_option maxHeartbeats 2000000
namespace Mine
open LCg
theorem dk_slot_ne : Slot "dict_keys" (cmpInfo .NotEq).2.1 "dict_keys.__ne__" :=
  .of (owner := "dict_keys") (n := "__ne__") (by rw [typeLookup_type, builtinLookup_eq_fast]; kernel_rfl) (by decide +kernel) (by decide +kernel) (by decide +kernel)
    (by first | exact .inl (by decide +kernel) | exact .inr (by decide +kernel)) (by rw [isSubtype_type]; kernel_rfl)
theorem dk_entry_ne : entryFor table "dict_keys.__ne__" = some Builtin.«dict_items.__ne__» := entryFor_alias (id' := "dict_items.__ne__") (by kernel_rfl) rfl (by decide +kernel) (by kernel_rfl)
theorem dk_args_ne (a b : Value) : argsOk "dict_keys.__ne__" ⟨[a, b], []⟩ := by
  unfold argsOk; rw [signature?_of (id := "dict_keys.__ne__") (n := ['_', '_', 'e', 'n', '_', '_']) (o := ['s', 'y', 'e', 'k', '_', 't', 'c', 'i', 'd']) (by kernel_rfl) kdl_owner_keys]; kernel_rfl
theorem dk_slot_len : Slot "dict_keys" "__len__" "dict_keys.__len__" :=
  .of (owner := "dict_keys") (n := "__len__") (by rw [typeLookup_type, builtinLookup_eq_fast]; kernel_rfl) (by decide +kernel) (by decide +kernel) (by decide +kernel)
    (by first | exact .inl (by decide +kernel) | exact .inr (by decide +kernel)) (by rw [isSubtype_type]; kernel_rfl)
theorem dk_entry_len : entryFor table "dict_keys.__len__" = some Builtin.«dict_items.__len__» := entryFor_alias (id' := "dict_items.__len__") (by kernel_rfl) rfl (by decide +kernel) (by kernel_rfl)
theorem dk_args_len (a : Value) : argsOk "dict_keys.__len__" ⟨[a], []⟩ := by
  unfold argsOk; rw [signature?_of (id := "dict_keys.__len__") (n := ['_', '_', 'n', 'e', 'l', '_', '_']) (o := ['s', 'y', 'e', 'k', '_', 't', 'c', 'i', 'd']) (by kernel_rfl) kdl_owner_keys]; kernel_rfl
theorem dk_slot_has : Slot "dict_keys" "__contains__" "dict_keys.__contains__" :=
  .of (owner := "dict_keys") (n := "__contains__") (by rw [typeLookup_type, builtinLookup_eq_fast]; kernel_rfl) (by decide +kernel) (by decide +kernel) (by decide +kernel)
    (by first | exact .inl (by decide +kernel) | exact .inr (by decide +kernel)) (by rw [isSubtype_type]; kernel_rfl)
theorem dk_entry_has : entryFor table "dict_keys.__contains__" = some Builtin.«dict_keys.__contains__» := entryFor_of_tree (by kernel_rfl)
theorem dk_args_has (a b : Value) : argsOk "dict_keys.__contains__" ⟨[a, b], []⟩ := by
  unfold argsOk; rw [signature?_of (id := "dict_keys.__contains__") (n := ['_', '_', 's', 'n', 'i', 'a', 't', 'n', 'o', 'c', '_', '_']) (o := ['s', 'y', 'e', 'k', '_', 't', 'c', 'i', 'd']) (by kernel_rfl) kdl_owner_keys]; kernel_rfl
theorem dk_mro : mroOf (.type "dict_keys") = pure [.type "dict_keys", .type "object"] := by rw [mroOf_type]; kernel_rfl
theorem dk_plain_loop : plainId "dict_items.__le__.loop" = true := by decide +kernel
theorem dk_entry_loop : entryFor table "dict_items.__le__.loop" = some Builtin.«dict_items.__le__.loop» := entryFor_of_fast (by kernel_rfl)
section
variable {prog : Program} {w : World} {K : Type} [DecidableEq K] {knd : KeyKind prog w K} {A : Around} {E : Value → Shared → Prop} {s : Shared}
theorem dk_call_len {v d : Addr} {kvs : List (K × Value)} {ep : Nat} {Q : Value → Shared → Prop} (hv : KdlKeysView s.heap v d) (hm : s.heap.DictAt knd d kvs ep) (hn : kvs.length < 1000)
    (h : ∀ tk t, Q (.int kvs.length t) { s with toks := tk }) : wpAny (model prog w) A (call (.builtin "len") [.ref v]) Q E s := by
  obtain ⟨ov, hov, hcv, hdv⟩ := id hv
  obtain ⟨o, es, ho, hc, hdat, hk, hp, hnn⟩ := id hm
  refine Calls.call_function_entry kind_len plain_len entry_len (args_len1 _) ?_
  unfold Builtin.«len»
  refine wpAny_bind (m := oneArg "len" _) (wpAny_pure ?_)
  refine wpAny_bind (m := callSpecial? (.ref v) (Str.ofString "__len__")) (wpAny_callSpecial?_slot (name := Str.ofString "__len__") hv.typeIs dk_slot_len (wpAny_call_entry dk_slot_len hv.typeIs dk_entry_len ?_ (dk_args_len _)))
  unfold Builtin.«dict_items.__len__»
  refine wpAny_bind (wpAny_pure ?_)
  refine wpAny_bind ?_
  unfold Builtin.Dict_items.dictOf
  refine wpAny_bind (wpAny_field hov hdv (x := .ref d) rfl (wpAny_pure ?_))
  refine wpAny_bind (wpAny_dictEntries ho hdat ?_)
  have hsz : es.size = kvs.length := by rw [← hp.length]; simp
  rw [hsz]
  refine wpAny_bind (wpAny_mkInt (wpAny_pure ⟨_, rfl, ?_⟩))
  refine wpAny_bind (wpAny_holding (wpAny_pure ?_))
  refine wpAny_bind (wpAny_letGo ?_)
  show wpAny _ _ (if ((kvs.length : Nat) : Int) < 0 then _ else _) _ _ _
  rw [if_neg (by omega)]
  show wpAny _ _ (if ((kvs.length : Nat) : Int) ≥ 2 ^ 63 then _ else _) _ _ _
  rw [if_neg (by omega)]
  exact wpAny_bind (wpAny_mkInt (wpAny_pure ⟨_, rfl, h _ _⟩))
theorem dk_has {v d : Addr} {kvs : List (K × Value)} {ep : Nat} {k : K} {key : Value} {Q : Bool → Shared → Prop} (hv : KdlKeysView s.heap v d) (hm : s.heap.DictAt knd d kvs ep) (hk : knd.is k key = true)
    (h : ∀ tk, Q (valueAt kvs k).isSome { s with toks := tk }) : wpAny (model prog w) A (contains (.ref v) key) Q E s := by
  obtain ⟨ov, hov, hcv, hdv⟩ := id hv
  refine wpAny_contains_slot hv.typeIs dk_slot_has (wpAny_call_entry dk_slot_has hv.typeIs dk_entry_has ?_ (dk_args_has _ _))
  unfold Builtin.«dict_keys.__contains__»
  refine wpAny_bind (wpAny_pure ?_)
  refine wpAny_bind ?_
  unfold Builtin.Dict_items.keysContain
  refine wpAny_bind ?_
  unfold Builtin.Dict_items.dictOf
  refine wpAny_bind (wpAny_field hov hdv (x := .ref d) rfl (wpAny_pure ?_))
  refine wpAny_bind (wpAny_dictGet_of hk hm.dictOf.mapOf ?_)
  exact wpAny_pure (wpAny_pure ⟨_, rfl, wpAny_truthy_bool (h _)⟩)
end
end Mine

end

section
open PySem PySem.W PyProof.Rows PySem.Calls PyProof.V
set_option linter.unusedVariables false
set_option maxRecDepth 100000
set_option maxHeartbeats 2000000
namespace Mine
open LCg
section
variable {prog : Program} {w : World} {K : Type} [DecidableEq K] {knd : KeyKind prog w K} {A : Around} {E : Value → Shared → Prop} {s : Shared}
theorem view_at {h h' : Heap} {v d : Addr} (x : KdlKeysView h v d) (e : ∀ o, h.get? v = some o → h'.get? v = some o) : KdlKeysView h' v d := let ⟨o, ho, r⟩ := x; ⟨o, e o ho, r⟩
theorem dk_loop {R : Result → Shared → Prop} {I v2 d2 : Addr} {fp : List Addr} {n ep2 : Nat} {kvs kvs2 : List (K × Value)} {St : Nat → Heap → Prop} {yes no : Bool}
    (W : Walks prog w A.in1 I fp [I] n (fun i v => ∃ k y, kvs[i]? = some (k, y) ∧ knd.is k v = true) St) (hn : n = kvs.length) (hv : v2 ≠ I) (hd : d2 ≠ I) :
    ∀ (k i : Nat) (s : Shared), n - i = k → i ≤ n → St i s.heap → KdlKeysView s.heap v2 d2 → s.heap.DictAt knd d2 kvs2 ep2 →
    (∀ h' tk, (∀ b o, b ≠ I → s.heap.get? b = some o → h'.get? b = some o) → R (.ok (.ret (.bool (if (kvs.drop i).all (fun q => (valueAt kvs2 q.1).isSome) then yes else no)))) { s with heap := h', toks := tk }) →
    codeAny (model prog w) A (.builtin "dict_items.__le__.loop" ⟨[.ref I, .ref v2, .bool yes, .bool no], []⟩) R s := by
  subst hn
  intro k
  induction k with
  | zero =>
    intro i s hk hi hst hv2 hd2 hR
    have hin : i = kvs.length := by omega
    subst hin
    refine codeAny_builtin dk_entry_loop ?_
    rw [Around.under_plainId dk_plain_loop _]
    show wpAny _ A.in1 (pyNext (.ref I) >>= _) _ _ s
    refine wpAny_bind (W.done s _ _ hst fun h' tk hk' => ?_)
    refine wpAny_pure ?_
    have := hR h' tk fun b o hb e => hk' b o (by simpa using hb) e
    simpa using this
  | succ k ih =>
    intro i s hk hi hst hv2 hd2 hR
    have hlt : i < kvs.length := by omega
    refine codeAny_builtin dk_entry_loop ?_
    rw [Around.under_plainId dk_plain_loop _]
    show wpAny _ A.in1 (pyNext (.ref I) >>= _) _ _ s
    refine wpAny_bind (W.item i s _ _ hlt hst fun v h₁ tk₁ hP hst₁ hk₁ => ?_)
    obtain ⟨k0, y0, e0, i0⟩ := hP
    have hv2' := view_at hv2 fun o e => hk₁ _ o (by simpa using hv) e
    have hd2' := hd2.at' fun o e => hk₁ _ o (by simpa using hd) e
    have hdr : kvs.drop i = (k0, y0) :: kvs.drop (i + 1) := by
      rw [List.drop_eq_getElem_cons hlt]
      have : kvs[i] = (k0, y0) := by rw [List.getElem?_eq_getElem hlt] at e0; exact Option.some.inj e0
      rw [this]
    show wpAny _ A.in1 (holding [v] (contains (.ref v2) v) >>= _) _ _ _
    refine wpAny_bind (wpAny_holding (dk_has hv2' hd2' i0 fun tk₂ => ?_))
    cases hb : (valueAt kvs2 k0).isSome with
    | true =>
      simp only [if_true]
      refine wpAny_pure ⟨plainId_quiet dk_plain_loop _, ih (i + 1) _ (by omega) hlt hst₁ hv2' hd2' fun h' tk hk' => ?_⟩
      have := hR h' tk fun b o hb' e => hk' b o hb' (hk₁ b o (by simpa using hb') e)
      rw [hdr, List.all_cons] at this
      dsimp only at this
      rw [hb, Bool.true_and] at this
      exact this
    | false =>
      simp only [Bool.false_eq_true, if_false]
      refine wpAny_pure ?_
      have := hR h₁ tk₂ fun b o hb' e => hk₁ b o (by simpa using hb') e
      rw [hdr, List.all_cons] at this
      dsimp only at this
      rw [hb, Bool.false_and] at this
      exact this

theorem dk_ne {v1 v2 d1 d2 : Addr} {kvs1 kvs2 : List (K × Value)} {ep1 ep2 : Nat} {Q : Value → Shared → Prop} (hh : A.handled = none) (hu : A.units < cLine) (hv1 : KdlKeysView s.heap v1 d1) (hv2 : KdlKeysView s.heap v2 d2) (hd1 : s.heap.DictAt knd d1 kvs1 ep1) (hd2 : s.heap.DictAt knd d2 kvs2 ep2)
    (n1 : kvs1.length < 1000) (n2 : kvs2.length < 1000)
    (h : ∀ h' tk, (∀ b o, s.heap.get? b = some o → h'.get? b = some o) → Q (.bool (!(decide (kvs1.length = kvs2.length) && kvs1.all (fun q => (valueAt kvs2 q.1).isSome)))) { s with heap := h', toks := tk }) :
    wpAny (model prog w) A (compareOp .NotEq (.ref v1) (.ref v2)) Q E s := by
  refine wpAny_richCompare_same_room (op := .NotEq) hv1.typeIs hv2.typeIs dk_slot_ne ?_ hu
  refine wpAny_call (codeAny_call_builtin dk_slot_ne.plain dk_entry_ne (dk_slot_ne.check _ _ _ _ _ _ _ _ hv1.typeIs (dk_args_ne _ _) ?_))
  show wpAny _ A.in1 _ _ _ s
  unfold Builtin.«dict_items.__ne__» 
  wp_delta
  refine wpAny_bind (wpAny_pure ?_)
  refine wpAny_bind ?_
  unfold orM
  refine wpAny_bind ?_
  unfold Builtin.Dict_items.isAnySet
  unfold orM
  refine wpAny_bind (wpAny_isInstance (T := "dict_keys") (b := false) hv2.typeIs (by rw [isSubtype_type]; kernel_rfl) ?_)
  simp only [toBool]
  refine wpAny_isInstance (T := "dict_keys") (b := false) hv2.typeIs (by rw [isSubtype_type]; kernel_rfl) ?_
  simp only [toBool]
  unfold Builtin.Dict_items.isSetLikeView Builtin.Dict_items.isOneOf
  refine wpAny_bind (wpAny_typeOf hv2.typeIs ?_)
  rw [dk_mro]
  refine wpAny_bind (wpAny_pure (wpAny_pure ?_))
  rw [if_neg (by decide)]
  refine wpAny_bind ?_
  unfold Builtin.Dict_items.lenOf
  refine wpAny_bind (dk_call_len hv1 hd1 n1 fun tk1 t1 => ?_)
  refine wpAny_bind (wpAny_pure (wpAny_pure ?_))
  refine wpAny_bind ?_
  refine wpAny_bind (dk_call_len (s := { s with toks := tk1 }) hv2 hd2 n2 fun tk2 t2 => ?_)
  refine wpAny_bind (wpAny_pure (wpAny_pure ?_))
  dsimp only
  by_cases hn : kvs1.length = kvs2.length
  · rw [if_pos (by simp [hn])]
    refine wpAny_bind (kdl_pyIter_keys (s := { s with toks := tk2 }) hv1 hd1 ?_)
    have hlt1 : d1 < s.heap.objs.size := hd1.lt_size
    have hlt2 : d2 < s.heap.objs.size := hd2.lt_size
    have hlv : v2 < s.heap.objs.size := by obtain ⟨_, e, _⟩ := hv2; exact Heap.lt_size e
    refine wpAny_pure ⟨plainId_quiet dk_plain_loop _, ?_⟩
    refine dk_loop (knd := knd) (kvs := kvs1) (kvs2 := kvs2) (ep2 := ep2) (n := kvs1.length) (d2 := d2) (Walks.dictKeys (A := A.in1) hh s.heap.objs.size d1 (Nat.ne_of_lt hlt1) kvs1 ep1) rfl (Nat.ne_of_lt hlv) (Nat.ne_of_lt hlt2) kvs1.length 0 _ (by omega) (by omega) ?_ (view_at hv2 fun o e => Heap.get?_push_of_some _ e) (hd2.push _) fun h' tk hk => ?_
    · exact ⟨⟨_, Heap.get?_push_size _ rfl, rfl, rfl⟩, hd1.push _⟩
    refine ⟨by simp, ?_⟩
    have := h h' tk fun b o e => hk b o (Nat.ne_of_lt (Heap.lt_size e)) (Heap.get?_push_of_some _ e)
    rw [decide_eq_true hn, Bool.true_and] at this
    simp only [List.drop_zero]
    cases hb : kvs1.all fun q => (valueAt kvs2 q.1).isSome with
    | true => rw [hb] at this; simpa using this
    | false => rw [hb] at this; simpa using this
  · rw [if_neg (by simp; omega)]
    refine wpAny_pure ⟨by simp, ?_⟩
    have := h s.heap tk2 fun _ _ e => e
    rw [decide_eq_false hn, Bool.false_and] at this
    exact this
end
end Mine

end

section
open PySem PySem.W PyProof.Rows PySem.Calls PyProof.V
set_option linter.unusedVariables false
set_option maxRecDepth 100000
set_option maxHeartbeats 2000000
namespace Mine
open LCg
abbrev IsZipK (h : Heap) (z TI TO T : Addr) (f : Bool) : Prop :=
  h.get? z = some { cls := .type "zip", dict := none, data := .fields #[rawInt T, .bool f, .bool false, .ref TI, .ref TO], slots := #[] }
section
variable {prog : Program} {w : World} {A : Around} {E : Value → Shared → Prop} {s : Shared}
theorem zip_not_free {z TI TO T : Addr} {f : Bool} {oT : Obj} {Q : Bool → Shared → Prop} (hz : IsZipK s.heap z TI TO T f) (hT : s.heap.get? T = some oT)
    (h : ∀ h', IsZipK h' z TI TO T true → Heap.SameBut z s.heap h' → Q false { s with heap := h' }) : wpAny (model prog w) A (Builtin.SmallTypes.ownedTupleIsFree (.ref z)) Q E s := by
  unfold Builtin.SmallTypes.ownedTupleIsFree
  refine wpAny_bind (wpAny_field hz rfl (x := rawInt T) rfl ?_)
  show wpAny _ _ (loadIfAlive T >>= _) _ _ _
  refine wpAny_bind (kdx_alive hT ?_)
  simp only [Option.isNone_some, Bool.false_eq_true, if_false]
  refine wpAny_bind (wpAny_field hz rfl (x := .bool f) rfl ?_)
  cases f with
  | true =>
    rw [if_neg (by decide)]
    exact wpAny_pure (h s.heap hz (Heap.SameBut.refl _ _))
  | false =>
    rw [if_pos (by decide)]
    refine wpAny_bind (wpAny_setField_rec hz (by simp) fun h₁ hz₁ hs₁ => ?_)
    exact wpAny_pure (h h₁ hz₁ hs₁)
theorem zip_next_kept {z TI TO i1 i2 l1 l2 T : Addr} {f : Bool} {oT : Obj} {k1 k2 : Nat} {xs ys : Array Value} {x y : Value} {Q : Value → Shared → Prop} (D : ZipApart z TI TO i1 i2 l1 l2) (hTz : T ≠ z)
    (hz : IsZipK s.heap z TI TO T f) (hT : s.heap.get? T = some oT) (hTI : IsPair s.heap TI (.ref i1) (.ref i2))
    (h1 : s.heap.IsListIter i1 l1 k1) (h2 : s.heap.IsListIter i2 l2 k2) (hl1 : s.heap.IsList l1 xs) (hl2 : s.heap.IsList l2 ys) (hx : xs[k1]? = some x) (hy : ys[k2]? = some y)
    (hQ : ∀ h', IsZipK h' z TI TO T true → h'.IsListIter i1 l1 (k1 + 1) → h'.IsListIter i2 l2 (k2 + 1) → IsPair h' s.heap.objs.size x y → h'.objs.size = s.heap.objs.size + 1 →
      (∀ c o, c ≠ z → c ≠ i1 → c ≠ i2 → s.heap.get? c = some o → h'.get? c = some o) → Q (.ref s.heap.objs.size) { s with heap := h' }) :
    wpAny (model prog w) A (Builtin.«zip.__next__» ⟨[.ref z], []⟩) (fun fin s' => ∃ v, fin = .done (.ret v) ∧ Q v s') E s := by
  show wpAny _ _ (field (.ref z) 2 >>= _) _ _ _
  refine wpAny_bind (wpAny_field hz rfl (x := .bool false) rfl ?_)
  show wpAny _ _ (field (.ref z) 3 >>= _) _ _ _
  refine wpAny_bind (wpAny_field hz rfl (x := .ref TI) rfl ?_)
  refine wpAny_bind (wpAny_seqItems hTI rfl ?_)
  show wpAny _ _ (Builtin.SmallTypes.ownedTupleIsFree (.ref z) >>= _) _ _ _
  refine wpAny_bind (zip_not_free hz hT fun h₁ hz₁ hs₁ => ?_)
  simp only [Bool.false_eq_true, if_false]
  refine wpAny_bind ?_
  simp only [← Array.forIn_toList, List.forIn_cons, List.forIn_nil]
  refine wpAny_bind (wpAny_bind (wpAny_holding ?_))
  show wpAny _ _ (Builtin.SmallTypes.nextOf (.ref i1) >>= _) _ _ _
  refine wpAny_bind (wpAny_nextOf_list_item (h1.extBut hs₁.extBut D.i1z) (hl1.extBut hs₁.extBut D.l1z) hx fun h₂ h1₂ hs₂ => wpAny_pure ?_)
  refine wpAny_pure ?_
  refine wpAny_bind (wpAny_bind (wpAny_holding ?_))
  show wpAny _ _ (Builtin.SmallTypes.nextOf (.ref i2) >>= _) _ _ _
  refine wpAny_bind (wpAny_nextOf_list_item ((h2.extBut hs₁.extBut D.i2z).extBut hs₂.extBut D.i12.symm) ((hl2.extBut hs₁.extBut D.l2z).extBut hs₂.extBut D.l2i1) hy fun h₃ h2₃ hs₃ => wpAny_pure ?_)
  refine wpAny_pure (wpAny_pure ?_)
  refine wpAny_bind (wpAny_newTuple (hsz := by show (2 : Nat) ≤ sizeLine; rw [sizeLine_eq]; omega) ?_)
  have hsz : h₃.objs.size = s.heap.objs.size := by rw [hs₃.1, hs₂.1, hs₁.1]
  show wpAny _ _ (ret (.ref h₃.objs.size)) _ _ _
  refine wpAny_pure ⟨_, rfl, ?_⟩
  show Q (.ref h₃.objs.size) { s with heap := h₃.push { cls := .type "tuple", data := .seq #[x, y] } }
  have hz₃ : IsZipK h₃ z TI TO T true := hs₃.extBut _ _ D.i2z.symm (hs₂.extBut _ _ D.i1z.symm hz₁)
  have h1₃ : h₃.IsListIter i1 l1 (k1 + 1) := h1₂.extBut hs₃.extBut D.i12
  have up : ∀ c o, h₃.get? c = some o → (h₃.push { cls := .type "tuple", data := .seq #[x, y] }).get? c = some o := fun c o e => Heap.get?_push_of_some _ e
  rw [hsz]
  refine hQ _ (up _ _ hz₃) (h1₃.at fun o e => up _ o e) (h2₃.at fun o e => up _ o e) (by rw [← hsz]; exact Heap.get?_push_size _ rfl) (by rw [Heap.size_push, hsz]) fun c o c1 c3 c4 e => ?_
  exact up _ _ (hs₃.extBut _ _ c4 (hs₂.extBut _ _ c3 (hs₁.extBut _ _ c1 e)))

theorem zip_next_kept_end {z TI TO i1 i2 l1 l2 T : Addr} {f : Bool} {oT : Obj} {k1 : Nat} {xs : Array Value} {Q : Fin → Shared → Prop} (hh : A.handled = none) (D : ZipApart z TI TO i1 i2 l1 l2)
    (hz : IsZipK s.heap z TI TO T f) (hT : s.heap.get? T = some oT) (hTI : IsPair s.heap TI (.ref i1) (.ref i2))
    (h1 : s.heap.IsListIter i1 l1 k1) (hl1 : s.heap.IsList l1 xs) (hx : xs[k1]? = none)
    (hE : ∀ h' e, (∀ c o, c ≠ z → c ≠ i1 → s.heap.get? c = some o → h'.get? c = some o) → (∃ o, h'.get? e = some o ∧ o.cls = .type "StopIteration") → E (.ref e) { s with heap := h' }) :
    wpAny (model prog w) A (Builtin.«zip.__next__» ⟨[.ref z], []⟩) Q E s := by
  show wpAny _ _ (field (.ref z) 2 >>= _) _ _ _
  refine wpAny_bind (wpAny_field hz rfl (x := .bool false) rfl ?_)
  show wpAny _ _ (field (.ref z) 3 >>= _) _ _ _
  refine wpAny_bind (wpAny_field hz rfl (x := .ref TI) rfl ?_)
  refine wpAny_bind (wpAny_seqItems hTI rfl ?_)
  show wpAny _ _ (Builtin.SmallTypes.ownedTupleIsFree (.ref z) >>= _) _ _ _
  refine wpAny_bind (zip_not_free hz hT fun h₁ hz₁ hs₁ => ?_)
  simp only [Bool.false_eq_true, if_false]
  refine wpAny_bind ?_
  simp only [← Array.forIn_toList, List.forIn_cons, List.forIn_nil]
  refine wpAny_bind (wpAny_bind (wpAny_holding ?_))
  show wpAny _ _ (Builtin.SmallTypes.nextOf (.ref i1) >>= _) _ _ _
  refine wpAny_bind (wpAny_nextOf_list_end hh (h1.extBut hs₁.extBut D.i1z) (hl1.extBut hs₁.extBut D.l1z) hx fun h₂ e hs₂ he => ?_)
  exact hE h₂ e (fun c o c1 c3 x => hs₂ _ _ c3 (hs₁.extBut _ _ c1 x)) he

theorem pyNext_zip_kept {z TI TO i1 i2 l1 l2 T : Addr} {f : Bool} {oT : Obj} {k1 k2 : Nat} {xs ys : Array Value} {x y : Value} {Q : Option Value → Shared → Prop} (D : ZipApart z TI TO i1 i2 l1 l2) (hTz : T ≠ z)
    (hz : IsZipK s.heap z TI TO T f) (hT : s.heap.get? T = some oT) (hTI : IsPair s.heap TI (.ref i1) (.ref i2))
    (h1 : s.heap.IsListIter i1 l1 k1) (h2 : s.heap.IsListIter i2 l2 k2) (hl1 : s.heap.IsList l1 xs) (hl2 : s.heap.IsList l2 ys) (hx : xs[k1]? = some x) (hy : ys[k2]? = some y)
    (hQ : ∀ h', IsZipK h' z TI TO T true → h'.IsListIter i1 l1 (k1 + 1) → h'.IsListIter i2 l2 (k2 + 1) → IsPair h' s.heap.objs.size x y → h'.objs.size = s.heap.objs.size + 1 →
      (∀ c o, c ≠ z → c ≠ i1 → c ≠ i2 → s.heap.get? c = some o → h'.get? c = some o) → Q (some (.ref s.heap.objs.size)) { s with heap := h' }) :
    wpAny (model prog w) A (pyNext (.ref z)) Q E s := by
  have hTy : s.TypeIs (.ref z) "zip" := ⟨_, hz, rfl⟩
  unfold pyNext
  exact wpAny_bind (wpAny_attempt (wpAny_callSpecial?_slot (name := Str.ofString "__next__") hTy PySem.F.slot_zip_next
    (wpAny_call_entry PySem.F.slot_zip_next hTy PySem.F.entry_zip_next
      (zip_next_kept D hTz hz hT hTI h1 h2 hl1 hl2 hx hy fun h' a1 a2 a3 a4 a5 a6 => wpAny_pure (hQ h' a1 a2 a3 a4 a5 a6)) (PySem.F.args_zip_next_1 _))))
theorem pyNext_zip_kept_end {z TI TO i1 i2 l1 l2 T : Addr} {f : Bool} {oT : Obj} {k1 : Nat} {xs : Array Value} {Q : Option Value → Shared → Prop} (hh : A.handled = none) (D : ZipApart z TI TO i1 i2 l1 l2)
    (hz : IsZipK s.heap z TI TO T f) (hT : s.heap.get? T = some oT) (hTI : IsPair s.heap TI (.ref i1) (.ref i2))
    (h1 : s.heap.IsListIter i1 l1 k1) (hl1 : s.heap.IsList l1 xs) (hx : xs[k1]? = none)
    (hQ : ∀ h', (∀ c o, c ≠ z → c ≠ i1 → s.heap.get? c = some o → h'.get? c = some o) → Q none { s with heap := h' }) : wpAny (model prog w) A (pyNext (.ref z)) Q E s := by
  have hTy : s.TypeIs (.ref z) "zip" := ⟨_, hz, rfl⟩
  unfold pyNext
  refine wpAny_bind (wpAny_attempt (wpAny_callSpecial?_slot (name := Str.ofString "__next__") hTy PySem.F.slot_zip_next
    (wpAny_call_entry PySem.F.slot_zip_next hTy PySem.F.entry_zip_next (zip_next_kept_end hh D hz hT hTI h1 hl1 hx fun h' e hk he => ?_) (PySem.F.args_zip_next_1 _))))
  obtain ⟨o, ho, hc⟩ := he
  refine wpAny_bind (wpAny_isInstance (T := "StopIteration") (b := true) ⟨o, ho, hc⟩ isSubtype_stop ?_)
  exact wpAny_pure (hQ _ hk)
theorem zip_no_len : typeLookup (.type "zip") "__len__" = pure none := by rw [typeLookup_type, builtinLookup_eq_fast]; kernel_rfl
theorem zip_no_hint : typeLookup (.type "zip") "__length_hint__" = pure none := by rw [typeLookup_type, builtinLookup_eq_fast]; kernel_rfl
abbrev pairO (x y : Value) : Obj := { cls := .type "tuple", data := .seq #[x, y] }
end
end Mine

end

section
open PySem PySem.W PyProof.Rows PySem.Calls PyProof.V
set_option linter.unusedVariables false
set_option maxRecDepth 100000
set_option maxHeartbeats 2000000
namespace Mine
open LCg
structure ZSt (h : Heap) (Z l1 l2 : Addr) (xs ys : Array Value) (i : Nat) : Prop where
  TI : IsPair h (Nat.add Z 2) (.ref Z) (.ref (Nat.add Z 1))
  i1 : h.IsListIter Z l1 i
  i2 : h.IsListIter (Nat.add Z 1) l2 i
  l1 : h.IsList l1 xs
  l2 : h.IsList l2 ys
  z : (i = 0 ∧ IsZip h (Nat.add Z 4) (Nat.add Z 2) (Nat.add Z 3) .none ∧ ∃ a b, IsPair h (Nat.add Z 3) a b) ∨ ∃ T f oT, IsZipK h (Nat.add Z 4) (Nat.add Z 2) (Nat.add Z 3) T f ∧ h.get? T = some oT ∧ (Nat.add Z 5 ≤ T)
abbrev zoff (Z a : Addr) : Prop := Nat.lt a Z ∨ Nat.le (Nat.add Z 5) a
theorem zne {Z a : Addr} (h : zoff Z a) : a ≠ Z ∧ a ≠ Nat.add Z 1 ∧ a ≠ Nat.add Z 2 ∧ a ≠ Nat.add Z 3 ∧ a ≠ Nat.add Z 4 := by
  unfold zoff at h
  rcases h with h | h
  · have h' : @LT.lt Nat _ a Z := h
    refine ⟨Nat.ne_of_lt h', ?_, ?_, ?_, ?_⟩ <;> exact Nat.ne_of_lt (Nat.lt_of_lt_of_le h' (Nat.le_add_right _ _))
  · have h' : @LE.le Nat _ (Z + 5) a := h
    refine ⟨?_, ?_, ?_, ?_, ?_⟩ <;> refine Nat.ne_of_gt (Nat.lt_of_lt_of_le ?_ h')
    · exact Nat.lt_add_of_pos_right (by decide)
    · exact Nat.add_lt_add_left (by decide) _
    · exact Nat.add_lt_add_left (by decide) _
    · exact Nat.add_lt_add_left (by decide) _
    · exact Nat.add_lt_add_left (by decide) _
section
variable {prog : Program} {w : World} {A : Around} {E : Value → Shared → Prop} {s : Shared} {h₀ : Heap} {L D Z l1 l2 : Addr} {m : Str → Option Value} {xs ys : Array Value}
theorem ZSt.keep {h h' : Heap} {i : Nat} (x : ZSt h Z l1 l2 xs ys i) (hD : zoff Z D) (h1 : zoff Z l1) (h2 : zoff Z l2) (hl1 : l1 ≠ D) (hl2 : l2 ≠ D) (hT : ∀ T oT, h.get? T = some oT → ∃ oT, h'.get? T = some oT) (hk : ∀ b o, b ≠ D → h.get? b = some o → h'.get? b = some o) : ZSt h' Z l1 l2 xs ys i := by
  have d := zne hD
  refine ⟨hk _ _ (Ne.symm d.2.2.1) x.TI, x.i1.at fun o e => hk _ o (Ne.symm d.1) e, x.i2.at fun o e => hk _ o (Ne.symm d.2.1) e, x.l1.at fun o e => hk _ o hl1 e, x.l2.at fun o e => hk _ o hl2 e, ?_⟩
  rcases x.z with ⟨h0, hz, a, b, hp⟩ | ⟨T, f, oT, hz, ht, hle⟩
  · exact .inl ⟨h0, hk _ _ (Ne.symm d.2.2.2.2) hz, a, b, hk _ _ (Ne.symm d.2.2.2.1) hp⟩
  · obtain ⟨oT', ht'⟩ := hT T oT ht
    exact .inr ⟨T, f, oT', hk _ _ (Ne.symm d.2.2.2.2) hz, ht', hle⟩
theorem zst_next {i : Nat} {x y : Value} {Q : Option Value → Shared → Prop} (S : ZSt s.heap Z l1 l2 xs ys i) (h1 : @LT.lt Nat _ l1 Z) (h2 : @LT.lt Nat _ l2 Z) (hsz : @LE.le Nat _ (Nat.add Z 5) s.heap.objs.size) (hx : xs[i]? = some x) (hy : ys[i]? = some y)
    (hQ : ∀ h', ZSt h' Z l1 l2 xs ys (i + 1) → h'.get? s.heap.objs.size = some (pairO x y) → h'.objs.size = s.heap.objs.size + 1 → (∀ b o, zoff Z b → s.heap.get? b = some o → h'.get? b = some o) → Q (some (.ref s.heap.objs.size)) { s with heap := h' }) :
    wpAny (model prog w) A (pyNext (.ref (Nat.add Z 4))) Q E s := by
  have D := ktu_apart Z l1 l2 h1 h2
  have q1 := zne (.inl h1 : zoff Z l1)
  have q2 := zne (.inl h2 : zoff Z l2)
  rcases S.z with ⟨h0, hz, a, b, hp⟩ | ⟨T, f, oT, hz, ht, hle⟩
  · refine wpAny_pyNext_zip_item D hz S.TI hp S.i1 S.i2 S.l1 S.l2 hx hy fun h' a1 a2 a3 a4 a5 a6 hk => hQ h' ⟨?_, a3, a4, ?_, ?_, ?_⟩ a5 a6 fun b o hb e => ?_
    · exact hk _ _ D.TIz D.TITO D.TIi1 D.TIi2 S.TI
    · exact S.l1.at fun o e => hk _ o q1.2.2.2.2 q1.2.2.2.1 q1.1 q1.2.1 e
    · exact S.l2.at fun o e => hk _ o q2.2.2.2.2 q2.2.2.2.1 q2.1 q2.2.1 e
    · exact .inr ⟨_, _, _, a1, a5, hsz⟩
    · have q := zne hb
      exact hk b o q.2.2.2.2 q.2.2.2.1 q.1 q.2.1 e
  · have qT := zne (.inr hle : zoff Z T)
    refine pyNext_zip_kept D qT.2.2.2.2 hz ht S.TI S.i1 S.i2 S.l1 S.l2 hx hy fun h' a1 a3 a4 a5 a6 hk => hQ h' ⟨?_, a3, a4, ?_, ?_, ?_⟩ a5 a6 fun b o hb e => ?_
    · exact hk _ _ D.TIz D.TIi1 D.TIi2 S.TI
    · exact S.l1.at fun o e => hk _ o q1.2.2.2.2 q1.1 q1.2.1 e
    · exact S.l2.at fun o e => hk _ o q2.2.2.2.2 q2.1 q2.2.1 e
    · exact .inr ⟨T, true, oT, a1, hk _ _ qT.2.2.2.2 qT.1 qT.2.1 ht, hle⟩
    · have q := zne hb
      exact hk b o q.2.2.2.2 q.1 q.2.1 e
theorem zst_end {i : Nat} {Q : Option Value → Shared → Prop} (hh : A.handled = none) (S : ZSt s.heap Z l1 l2 xs ys i) (h1 : @LT.lt Nat _ l1 Z) (h2 : @LT.lt Nat _ l2 Z) (hx : xs[i]? = none)
    (hQ : ∀ h', (∀ b o, zoff Z b → s.heap.get? b = some o → h'.get? b = some o) → Q none { s with heap := h' }) :
    wpAny (model prog w) A (pyNext (.ref (Nat.add Z 4))) Q E s := by
  have D := ktu_apart Z l1 l2 h1 h2
  rcases S.z with ⟨h0, hz, a, b, hp⟩ | ⟨T, f, oT, hz, ht, hle⟩
  · exact wpAny_pyNext_zip_end hh D hz S.TI hp S.i1 S.i2 S.l1 S.l2 (.inl hx) fun h' hk => hQ h' fun b o hb e => hk b o (zne hb).2.2.2.2 (zne hb).2.2.2.1 (zne hb).1 (zne hb).2.1 e
  · exact pyNext_zip_kept_end hh D hz ht S.TI S.i1 S.l1 hx fun h' hk => hQ h' fun b o hb e => hk b o (zne hb).2.2.2.2 (zne hb).1 e

theorem extend_zip {ys₀ : List Value} {c₀ n : Nat} {r₀ : List (Addr × Obj)} {Q : Value → Shared → Prop} (JJ : Nat → List Value → List (Addr × Obj) → Prop) (hh : A.handled = none) (F₀ : Fr h₀ L s.heap m) (N₀ : News h₀ L s.heap ((D, listObj ys₀ c₀) :: r₀)) (offD₀ : ∀ p ∈ r₀, p.1 ≠ D)
    (hl1 : ∃ o, (l1, o) ∈ r₀) (hl2 : ∃ o, (l2, o) ∈ r₀) (low : ∀ p ∈ (D, listObj ys₀ c₀) :: r₀, zoff Z p.1) (h1 : @LT.lt Nat _ l1 Z) (h2 : @LT.lt Nat _ l2 Z) (hLZ : @LT.lt Nat _ L Z) (S₀ : ZSt s.heap Z l1 l2 xs ys 0) (hsz₀ : @LE.le Nat _ (Nat.add Z 5) s.heap.objs.size)
    (hxn : xs.size = n) (hyn : ys.size = n) (hn : n < 500) (hJ₀ : JJ 0 ys₀ r₀) (hlen : ∀ i ys r, JJ i ys r → ys.length < 900)
    (step : ∀ i zs r T x y, JJ i zs r → xs[i]? = some x → ys[i]? = some y → @LT.lt Nat _ L T → (∀ p ∈ r, @LT.lt Nat _ p.1 T) → @LT.lt Nat _ D T → JJ (i + 1) (zs ++ [.ref T]) ((T, pairO x y) :: r))
    (fin : ∀ h zs c r, Fr h₀ L h m → News h₀ L h ((D, listObj zs c) :: r) → (∀ p ∈ r, p.1 ≠ D) → JJ n zs r → Q .none { s with heap := h }) :
    wpAny (model prog w) A (call (.builtin "list.extend") [.ref D, .ref (Nat.add Z 4)]) Q E s := by
  have hDs := (N₀ _ List.mem_cons_self).1
  have hzo : ∃ oz, s.heap.get? (Nat.add Z 4) = some oz ∧ oz.cls = .type "zip" := by
    rcases S₀.z with ⟨_, hz, _⟩ | ⟨_, _, _, hz, _⟩
    · exact ⟨_, hz, rfl⟩
    · exact ⟨_, hz, rfl⟩
  have hDz := zne (low _ List.mem_cons_self)
  obtain ⟨oz, ez, cz⟩ := hzo
  have hIh : ∀ b, ¬ zoff Z b → h₀.get? b = none ∧ b ≠ L := fun b hb => by
    have hge : @LE.le Nat _ Z b := Nat.le_of_not_lt fun q => hb (.inl q)
    exact ⟨Heap.get?_none_of_le (Nat.le_trans F₀.above (Nat.le_of_lt (Nat.lt_of_lt_of_le hLZ hge))), Nat.ne_of_gt (Nat.lt_of_lt_of_le hLZ hge)⟩
  have frz : ∀ {h h' : Heap}, Fr h₀ L h m → (∀ b o, zoff Z b → h.get? b = some o → h'.get? b = some o) → Fr h₀ L h' m := fun F hk =>
    ⟨F.ns.at' fun o e => hk _ o (.inl hLZ) e, fun b o e => hk b o (.inl (Nat.lt_of_lt_of_le (Heap.lt_size e) (Nat.le_trans F.above (Nat.le_of_lt hLZ)))) (F.keep b o e), F.above⟩
  refine extend_it (T := "zip") (ys := ys₀) (c := c₀) (k := n) (fun k s' => ∃ i h zs c r, i + k = n ∧ s' = { s with heap := h } ∧ Fr h₀ L h m ∧ News h₀ L h ((D, listObj zs c) :: r) ∧ (∀ p ∈ r, p.1 ≠ D) ∧ (∀ p ∈ (D, listObj zs c) :: r, zoff Z p.1) ∧ (∃ o, (l1, o) ∈ r) ∧ (∃ o, (l2, o) ∈ r) ∧ ZSt h Z l1 l2 xs ys i ∧ @LE.le Nat _ (Nat.add Z 5) h.objs.size ∧ JJ i zs r)
    (fun s' ⟨o, e1, e2⟩ => ⟨o, e1, by rw [ez] at e2; cases e2; exact cz⟩) (by decide) (by decide) zip_no_len zip_no_hint ⟨oz, ez⟩ hDz.2.2.2.2 hDs (by have := hlen _ _ _ hJ₀; omega) (fun A' E' Q hQ => ?_) (fun h' c' hD' hs' => ?_) (fun k s' hI => ?_)
  · rcases S₀.z with ⟨_, hz, _⟩ | ⟨T, f, oT, hz, _⟩
    · exact wpAny_pyIter_zip hz hQ
    · have hT : s.TypeIs (.ref (Nat.add Z 4)) "zip" := ⟨_, hz, rfl⟩
      refine wpAny_pyIter_slot hT PySem.F.slot_zip_iter (wpAny_call_entry PySem.F.slot_zip_iter hT PySem.F.entry_zip_iter ?_ (PySem.F.args_zip_iter_1 _))
      show wpAny _ _ (ret (.ref _)) _ _ s
      exact wpAny_pure ⟨_, rfl, "zip", _, hT, PySem.F.slot_zip_next.lookup, hQ⟩
  · have hzD := (N₀ _ List.mem_cons_self).2
    obtain ⟨o1, m1⟩ := hl1
    obtain ⟨o2, m2⟩ := hl2
    refine ⟨0, h', ys₀, c', r₀, by omega, rfl, F₀.change hs' hzD.1 hzD.2, fun p hp => ?_, offD₀, fun p hp => ?_, ⟨o1, m1⟩, ⟨o2, m2⟩, S₀.keep (low _ List.mem_cons_self) (.inl h1) (.inl h2) (offD₀ _ m1) (offD₀ _ m2) (fun T oT e => ?_) (fun b o hb e => hs'.extBut b o hb e), by rw [hs'.1]; exact hsz₀, hJ₀⟩
    · rcases List.mem_cons.mp hp with rfl | hp
      · exact ⟨hD', hzD⟩
      · have z := N₀ p (List.mem_cons_of_mem _ hp)
        exact ⟨hs'.extBut _ _ (offD₀ p hp) z.1, z.2⟩
    · rcases List.mem_cons.mp hp with rfl | hp
      · exact low (D, listObj ys₀ c₀) List.mem_cons_self
      · exact low p (List.mem_cons_of_mem _ hp)
    · by_cases hTD : T = D
      · exact ⟨_, hTD ▸ hD'⟩
      · exact ⟨_, hs'.extBut _ _ hTD e⟩
  · obtain ⟨i, h, zs, c, r, hik, rfl, F, N, offD, hlow, ⟨o1, m1⟩, ⟨o2, m2⟩, S, hsz, hJ⟩ := hI
    cases k with
    | zero =>
      obtain rfl : i = n := by omega
      refine zst_end hh S h1 h2 (by simp [hxn]) fun h' hk => ?_
      exact fin h' zs c r (frz F hk) (fun p hp => ⟨hk _ _ (hlow p hp) (N p hp).1, (N p hp).2⟩) offD hJ
    | succ k =>
      have hix : i < xs.size := by omega
      have hiy : i < ys.size := by omega
      refine zst_next S h1 h2 hsz (Array.getElem?_eq_getElem hix) (Array.getElem?_eq_getElem hiy) fun h₂ S₂ hT hsz₂ hk => ?_
      have F₂ := frz F hk
      have hDr := hlow _ List.mem_cons_self
      have lt : ∀ p ∈ (D, listObj zs c) :: r, @LT.lt Nat _ p.1 h.objs.size := fun p hp => Heap.lt_size (N p hp).1
      have hLT : @LT.lt Nat _ L h.objs.size := F.ns.lt
      have N₂ : News h₀ L h₂ ((D, listObj zs c) :: (h.objs.size, pairO xs[i] ys[i]) :: r) := fun p hp => by
        rcases List.mem_cons.mp hp with rfl | hp
        · exact ⟨hk _ _ hDr (N _ List.mem_cons_self).1, (N _ List.mem_cons_self).2⟩
        · rcases List.mem_cons.mp hp with rfl | hp
          · exact ⟨hT, Nat.ne_of_gt hLT, Heap.get?_none_of_le (Nat.le_trans F.above (Nat.le_of_lt hLT))⟩
          · have hp' := List.mem_cons_of_mem (D, listObj zs c) hp
            exact ⟨hk _ _ (hlow p hp') (N p hp').1, (N p hp').2⟩
      have hl := hlen _ _ _ hJ
      have z := N₂ _ List.mem_cons_self
      refine push_list (c := c) z.1 (by omega) fun h' c' hD' hs' => ⟨k, by omega, i + 1, h', zs ++ [.ref h.objs.size], c', (h.objs.size, pairO xs[i] ys[i]) :: r, by omega, rfl, F₂.change hs' z.2.1 z.2.2, ?_, ?_, ?_, ⟨o1, List.mem_cons_of_mem _ m1⟩, ⟨o2, List.mem_cons_of_mem _ m2⟩, ?_, ?_, ?_⟩
      · intro p hp
        rcases List.mem_cons.mp hp with rfl | hp
        · exact ⟨hD', z.2⟩
        · refine ⟨hs'.extBut _ _ ?_ (N₂ p (List.mem_cons_of_mem _ hp)).1, (N₂ p (List.mem_cons_of_mem _ hp)).2⟩
          rcases List.mem_cons.mp hp with rfl | hp
          · exact Nat.ne_of_gt (lt _ List.mem_cons_self)
          · exact offD p hp
      · intro p hp
        rcases List.mem_cons.mp hp with rfl | hp
        · exact Nat.ne_of_gt (lt _ List.mem_cons_self)
        · exact offD p hp
      · intro p hp
        rcases List.mem_cons.mp hp with rfl | hp
        · exact hDr
        · rcases List.mem_cons.mp hp with rfl | hp
          · exact .inr hsz
          · exact hlow p (List.mem_cons_of_mem _ hp)
      · refine S₂.keep hDr (.inl h1) (.inl h2) (offD _ m1) (offD _ m2) (fun T oT e => ?_) (fun b o hb e => hs'.extBut b o hb e)
        by_cases hTD : T = D
        · exact ⟨_, hTD ▸ hD'⟩
        · exact ⟨_, hs'.extBut _ _ hTD e⟩
      · rw [hs'.1]
        show @LE.le Nat _ (Nat.add Z 5) h₂.objs.size
        rw [hsz₂]; exact Nat.le_succ_of_le hsz
      · exact step i zs r h.objs.size _ _ hJ (Array.getElem?_eq_getElem hix) (Array.getElem?_eq_getElem hiy) hLT (fun p hp => lt p (List.mem_cons_of_mem _ hp)) (lt _ List.mem_cons_self)
end
end Mine

end

section
open PySem PySem.W PyProof.Rows PySem.Calls PyProof.V
set_option linter.unusedVariables false
set_option maxRecDepth 100000
set_option maxHeartbeats 2000000
namespace Mine
open LCg
/-- a mark at which the walk stands still -/
structure Halt (p : Prop) : Prop where
  get : p
theorem Halt.mk' {p : Prop} (h : Halt p) : p := h.get
def WStepG (fl : Nat) (h₀ : Heap) (L : Addr) (s : Shared) (J : Nat → (Str → Option Value) → List (Addr × Obj) → Prop) (Q : Flow → Shared → Prop) (n : Nat) (f : Flow) (s₃ : Shared) : Prop :=
  match f with
  | .next | .cont => ∃ h' tk g m₂ news₂ n', s₃ = { s with heap := h', toks := tk, gens := g } ∧ GB fl g ∧ Fr h₀ L h' m₂ ∧ News h₀ L h' news₂ ∧ n' < n ∧ J n' m₂ news₂
  | .brk => Q .next s₃
  | .ret v => Q (.ret v) s₃
theorem WStepG.retG {fl : Nat} {h₀ : Heap} {L : Addr} {s s₃ : Shared} {J : Nat → (Str → Option Value) → List (Addr × Obj) → Prop} {Q : Flow → Shared → Prop} {n : Nat} {v : Value} (h : Q (.ret v) s₃) : WStepG fl h₀ L s J Q n (.ret v) s₃ := h
theorem WStepG.nextG {fl : Nat} {h₀ : Heap} {L : Addr} {s : Shared} {J : Nat → (Str → Option Value) → List (Addr × Obj) → Prop} {Q : Flow → Shared → Prop} {n n' : Nat} {h' : Heap} {tk : Nat} {g : Array GenState} {m₂ : Str → Option Value} {news₂ : List (Addr × Obj)}
    (hG : GB fl g) (F : Fr h₀ L h' m₂) (N : News h₀ L h' news₂) (hn : n' < n) (hJ : J n' m₂ news₂) : WStepG fl h₀ L s J Q n .next { s with heap := h', toks := tk, gens := g } := ⟨h', tk, g, m₂, news₂, n', rfl, hG, F, N, hn, hJ⟩
section
variable {prog : Program} {w : World} {A : Around} {E : Value → Shared → Prop} {s : Shared} {env : Env} {h₀ : Heap} {L D : Addr} {m : Str → Option Value} {news r : List (Addr × Obj)}
theorem While_G {fl : Nat} {Q : Flow → Shared → Prop} {test : Expr} {body : List Stmt} {pos : Pos} (J : Nat → (Str → Option Value) → List (Addr × Obj) → Prop) {n₀ : Nat}
    (hG : GB fl s.gens) (F : Fr h₀ L s.heap m) (N : News h₀ L s.heap news) (hJ : J n₀ m news)
    (turn : ∀ n m₁ news₁ h₁ tk₁ g₁, GB fl g₁ → Fr h₀ L h₁ m₁ → News h₀ L h₁ news₁ → J n m₁ news₁ →
      wpAny (model prog w) A (isTrue test env (eval test env)) (fun b s₂ =>
        if b = true then wpAny (model prog w) A (execs body env) (WStepG fl h₀ L s J Q n) E s₂ else Q .next s₂) E { s with heap := h₁, toks := tk₁, gens := g₁ })
    (hE : PassesOwn (model prog w) A env E := by passes_own) :
    wpAny (model prog w) A (exec (.While test body [] pos) env) Q E s := by
  refine wpAny_While (codeAny_whileLoop (fun n s' => ∃ h₁ tk₁ g₁ m₁ news₁, s' = { s with heap := h₁, toks := tk₁, gens := g₁ } ∧ GB fl g₁ ∧ Fr h₀ L h₁ m₁ ∧ News h₀ L h₁ news₁ ∧ J n m₁ news₁) ?_ n₀ ⟨s.heap, s.toks, s.gens, m, news, rfl, hG, F, N, hJ⟩)
  rintro n s' ⟨h₁, tk₁, g₁, m₁, news₁, rfl, G₁, F₁, N₁, J₁⟩
  refine wpAny_mono (turn n m₁ news₁ h₁ tk₁ g₁ G₁ F₁ N₁ J₁) (fun b s₂ h₂ => ?_) hE
  cases b with
  | false =>
    simp only [Bool.false_eq_true, if_false] at h₂ ⊢
    exact wpAny_execs_nil h₂
  | true =>
    simp only [if_true] at h₂ ⊢
    refine wpAny_mono h₂ (fun f s₃ h₃ => ?_) hE
    cases f with
    | next =>
      obtain ⟨h', tk, g, m₂, news₂, n', rfl, G₂, F₂, N₂, hn, J₂⟩ := h₃
      exact ⟨n', hn, h', tk, g, m₂, news₂, rfl, G₂, F₂, N₂, J₂⟩
    | cont =>
      obtain ⟨h', tk, g, m₂, news₂, n', rfl, G₂, F₂, N₂, hn, J₂⟩ := h₃
      exact ⟨n', hn, h', tk, g, m₂, news₂, rfl, G₂, F₂, N₂, J₂⟩
    | brk => exact h₃
    | ret v => exact h₃
theorem snoc_ne (l : List Value) (x : Value) : (!(l ++ [x]).isEmpty) = true := by cases l <;> rfl
theorem truthy_led {vs : List Value} {n : Nat} {a : Addr} {Q : Bool → Shared → Prop} (N : News h₀ L s.heap news) (hm : (a, listObj vs n) ∈ news) (hfit : vs.length < 2 ^ 60) {b : Bool} (hb : (!vs.isEmpty) = b)
    (h : ∀ tk, Q b { s with toks := tk }) : wpAny (model prog w) A (truthy (.ref a)) Q E s := by
  subst hb
  exact
  wpAny_truthy_list (items := vs.toArray) ⟨_, (N _ hm).1, rfl, n, rfl⟩ (by rw [List.size_toArray]; omega) (by rw [List.isEmpty_toArray]; exact h _)
theorem pop_led {vs : List Value} {v : Value} {n : Nat} {Q : Value → Shared → Prop} (F : Fr h₀ L s.heap m) (N : News h₀ L s.heap ((D, listObj (vs ++ [v]) n) :: r)) (off : ∀ p ∈ r, p.1 ≠ D) (hz : vs.length < 1000)
    (h : ∀ h' n', Fr h₀ L h' m → News h₀ L h' ((D, listObj vs n') :: r) → Q v { s with heap := h' }) : wpAny (model prog w) A (call (.builtin "list.pop") [.ref D]) Q E s := by
  have z := N _ List.mem_cons_self
  have hz' : (vs ++ [v]).toArray.size ≤ sizeLine := by rw [List.size_toArray, List.length_append, sizeLine_eq]; simp; omega
  have hk : (vs ++ [v]).toArray.size - 1 = vs.length := by rw [List.size_toArray, List.length_append]; rfl
  have hy : (vs ++ [v]).toArray[(vs ++ [v]).toArray.size - 1]? = some v := by rw [hk]; simp
  obtain ⟨c', e⟩ := grew (s := s) (f := fun xs => xs.eraseIdxIfInBounds ((vs ++ [v]).toArray.size - 1)) (ys' := vs) z.1 (by rw [hk]; simp [Array.eraseIdxIfInBounds, List.eraseIdx_append_of_length_le])
  refine call_meets PySem.F.slot_list_pop ⟨_, z.1, rfl⟩ PySem.F.entry_list_pop (PySem.F.args_list_pop_1 _) (PySem.MeetsSeq.list_pop_last D _ n v hy hz') ⟨z.1, h _ c' (F.change (Heap.SameBut.update ..) z.2.1 z.2.2) fun p hp => ?_⟩
  rcases List.mem_cons.mp hp with rfl | hp
  · exact ⟨e, z.2⟩
  · have y := N p (List.mem_cons_of_mem _ hp)
    exact ⟨(Heap.SameBut.update ..).extBut _ _ (off p hp) y.1, y.2⟩
theorem isnot_D {nw : List (Addr × Obj)} {d1 d2 : Mine.D} {v1 v2 : Value} {Q : Value → Shared → Prop} (h1 : DIn w nw d1 v1) (h2 : DIn w nw d2 v2) (ht : (d1.isTru || d2.isTru) = true)
    (h : Q (.bool (!eqD d1 d2)) s) : wpAny (model prog w) A (compareOp .IsNot v1 v2) Q E s := by
  cases d1 <;> cases d2 <;> (try (cases ht; done)) <;> unfold DIn at h1 h2 <;> (try obtain ⟨_, _, t, rfl⟩ := h1) <;> (try obtain ⟨t, rfl⟩ := h1) <;> (try obtain ⟨_, _, _, rfl, hm, _⟩ := h1) <;> (try subst h1) <;> (try obtain ⟨_, _, t, rfl⟩ := h2) <;> (try obtain ⟨t, rfl⟩ := h2) <;> (try obtain ⟨_, _, _, rfl, hm, _⟩ := h2) <;> (try subst h2) <;> refine wpAny_isNot_plain rfl ?_ <;> simp only [eqD] at h <;> first | exact h | (rename_i a b; cases a <;> cases b <;> exact h) | (rename_i a; cases a <;> exact h)
theorem ne_leaf {nw : List (Addr × Obj)} {d1 d2 : Mine.D} {v1 v2 : Value} {Q : Value → Shared → Prop} (h1 : DIn w nw d1 v1) (h2 : DIn w nw d2 v2) (hl1 : d1.isLeaf = true) (hl2 : d2.isLeaf = true) (ht : (d1.isTru || d2.isTru) = false)
    (h : Q (.bool (!eqD d1 d2)) s) : wpAny (model prog w) A (compareOp .NotEq v1 v2) Q E s := by
  cases d1 <;> cases d2 <;> (try (cases hl1; done)) <;> (try (cases hl2; done)) <;> (try (cases ht; done)) <;> unfold DIn at h1 h2 <;> (try obtain ⟨_, _, t, rfl⟩ := h1) <;> (try obtain ⟨t, rfl⟩ := h1) <;> (try subst h1) <;> (try obtain ⟨_, _, t', rfl⟩ := h2) <;> (try obtain ⟨t', rfl⟩ := h2) <;> (try subst h2) <;> simp only [eqD] at h
  · exact ne_int h
  · exact EqMixed.ne_int_str h
  · exact EqNone.ne_int_none h
  · exact EqMixed.ne_str_int h
  · rename_i b c _ _
    refine PyProof.Rows.ne_str ?_
    have e : (txtS b != txtS c) = !(b == c) := by cases b <;> cases c <;> decide +kernel
    rw [e]; exact h
  · exact EqNone.ne_str_none h
  · exact EqNone.ne_none_int h
  · exact EqNone.ne_none_str h
  · exact EqNone.ne_none_none h
end
end Mine

end

section
open PySem PySem.W PyProof.Rows PySem.Calls PyProof.V
set_option linter.unusedVariables false
set_option maxRecDepth 100000
set_option maxHeartbeats 2000000
namespace Mine
mutual
def D.size : D → Nat
  | .list ds => 1 + sizeL ds
  | .dict ks => 1 + sizeK ks
  | _ => 1
def sizeL : List D → Nat
  | [] => 0
  | d :: r => d.size + sizeL r
def sizeK : List (Key × D) → Nat
  | [] => 0
  | (_, d) :: r => d.size + sizeK r
end
theorem D.size_pos (d : D) : 1 ≤ d.size := by cases d <;> simp [D.size]
theorem sizeL_le {b : Nat} : ∀ {ds : List D}, (∀ d ∈ ds, d.size ≤ b) → sizeL ds ≤ ds.length * b
  | [], _ => by simp [sizeL]
  | d :: r, h => by
    have h1 := h d List.mem_cons_self
    have h2 := sizeL_le (ds := r) fun x hx => h x (List.mem_cons_of_mem _ hx)
    simp only [sizeL, List.length_cons, Nat.add_mul]; omega
theorem sizeK_le {b : Nat} : ∀ {ds : List (Key × D)}, (∀ d ∈ ds, d.2.size ≤ b) → sizeK ds ≤ ds.length * b
  | [], _ => by simp [sizeK]
  | (k, d) :: r, h => by
    have h1 := h (k, d) List.mem_cons_self
    have h2 := sizeK_le (ds := r) fun x hx => h x (List.mem_cons_of_mem _ hx)
    dsimp only at h1
    simp only [sizeK, List.length_cons, Nat.add_mul]; omega
theorem DsIn.mem {w : World} {nw : List (Addr × Obj)} : ∀ {ds : List D} {vs : List Value}, DsIn w nw ds vs → ∀ d ∈ ds, ∃ v, DIn w nw d v
  | [], _, _, d, hd => nomatch hd
  | e :: ds, vs, h, d, hd => by
    unfold DsIn at h
    obtain ⟨v, r, rfl, h1, h2⟩ := h
    rcases List.mem_cons.mp hd with rfl | hd
    · exact ⟨v, h1⟩
    · exact DsIn.mem h2 d hd
theorem KsIn.mem {w : World} {nw : List (Addr × Obj)} : ∀ {ks : List (Key × D)} {kvs : List (Str × Value)}, KsIn w nw ks kvs → ∀ d ∈ ks, ∃ v, DIn w nw d.2 v
  | [], _, _, d, hd => nomatch hd
  | (k, e) :: ds, vs, h, d, hd => by
    unfold KsIn at h
    obtain ⟨v, r, rfl, h1, h2⟩ := h
    rcases List.mem_cons.mp hd with rfl | hd
    · exact ⟨v, h1⟩
    · exact KsIn.mem h2 d hd
theorem size_le {w : World} {nw : List (Addr × Obj)} : ∀ (n : Nat) {d : D} {v : Value}, DIn w nw d v → d.ok n → d.size ≤ 4 ^ n
  | 0, d, v, _, o => absurd o (by simp [D.ok])
  | n + 1, .list ds, v, h, o => by
    unfold DIn at h
    obtain ⟨a, vs, k, _, _, hl, hd⟩ := h
    have := sizeL_le (ds := ds) (b := 4 ^ n) fun d hd' => by
      obtain ⟨v', h'⟩ := DsIn.mem hd d hd'
      exact size_le n h' (o d hd')
    have h3 : ds.length * 4 ^ n ≤ 3 * 4 ^ n := Nat.mul_le_mul_right _ hl
    have h1 : 1 ≤ 4 ^ n := Nat.one_le_pow _ _ (by omega)
    simp only [D.size, Nat.pow_succ]; omega
  | n + 1, .dict ks, v, h, o => by
    unfold DIn at h
    obtain ⟨a, es, k, _, _, _, hl, kvs, _, hd⟩ := h
    have := sizeK_le (ds := ks) (b := 4 ^ n) fun d hd' => by
      obtain ⟨v', h'⟩ := KsIn.mem hd d hd'
      exact size_le n h' (o d hd')
    have h3 : ks.length * 4 ^ n ≤ 3 * 4 ^ n := Nat.mul_le_mul_right _ hl
    have h1 : 1 ≤ 4 ^ n := Nat.one_le_pow _ _ (by omega)
    simp only [D.size, Nat.pow_succ]; omega
  | n + 1, .num _, v, h, o => by simp only [D.size]; exact Nat.one_le_pow _ _ (by omega)
  | n + 1, .txt _, v, h, o => by simp only [D.size]; exact Nat.one_le_pow _ _ (by omega)
  | n + 1, .tru _, v, h, o => by simp only [D.size]; exact Nat.one_le_pow _ _ (by omega)
  | n + 1, .nil, v, h, o => by simp only [D.size]; exact Nat.one_le_pow _ _ (by omega)
/-- the stack of pairs that are still to be compared -/
def StkIn (w : World) (nw : List (Addr × Obj)) : List (D × D) → List Value → Prop
  | [], ts => ts = []
  | (d, e) :: r, ts => ∃ t ts' a b, ts = ts' ++ [.ref t] ∧ (t, pairO a b) ∈ nw ∧ DIn w nw d a ∧ DIn w nw e b ∧ d.ok 3 ∧ e.ok 3 ∧ StkIn w nw r ts'
theorem StkIn.mono {w : World} {nw nw' : List (Addr × Obj)} (hs : ∀ p ∈ nw, p ∈ nw') : ∀ {stk : List (D × D)} {ts : List Value}, StkIn w nw stk ts → StkIn w nw' stk ts
  | [], _, h => h
  | (d, e) :: r, ts, h => by
    obtain ⟨t, ts', a, b, h1, h2, h3, h4, h5, h6, h7⟩ := h
    exact ⟨t, ts', a, b, h1, hs _ h2, h3.mono hs, h4.mono hs, h5, h6, h7.mono hs⟩
theorem StkIn.len {w : World} {nw : List (Addr × Obj)} : ∀ {stk : List (D × D)} {ts : List Value}, StkIn w nw stk ts → ts.length = stk.length
  | [], _, h => by rw [show _ = [] from h]; rfl
  | (d, e) :: r, ts, h => by
    obtain ⟨t, ts', a, b, rfl, h2, h3, h4, h5, h6, h7⟩ := h
    simp [StkIn.len h7]
def stkSize (stk : List (D × D)) : Nat := (stk.map (·.1.size)).sum
theorem stkLen_le : ∀ (stk : List (D × D)), stk.length ≤ stkSize stk
  | [] => by simp [stkSize]
  | p :: r => by
    have := stkLen_le r
    have h := p.1.size_pos
    simp only [stkSize, List.map_cons, List.sum_cons, List.length_cons] at this ⊢; omega
def eqS (stk : List (D × D)) : Bool := stk.all fun p => eqD p.1 p.2
/-- what a turn pushes for two rows -/
def zipT (xs ys : List D) (i : Nat) : List (D × D) := ((xs.zip ys).take i).reverse
theorem zipT_zero (xs ys : List D) : zipT xs ys 0 = [] := rfl
theorem zipT_succ {xs ys : List D} {i : Nat} {d e : D} (h1 : xs[i]? = some d) (h2 : ys[i]? = some e) : zipT xs ys (i + 1) = (d, e) :: zipT xs ys i := by
  have : (xs.zip ys)[i]? = some (d, e) := by rw [List.getElem?_zip_eq_some]; exact ⟨h1, h2⟩
  simp only [zipT, List.take_add_one, this, Option.toList_some, List.reverse_append]; rfl
theorem eqS_append (a b : List (D × D)) : eqS (a ++ b) = (eqS a && eqS b) := by simp [eqS, List.all_append]
theorem eqS_zip : ∀ (xs ys : List D), xs.length = ys.length → eqS ((xs.zip ys)) = eqL xs ys
  | [], ys, _ => by simp [eqS, eqL]
  | x :: xs, [], h => by simp at h
  | x :: xs, y :: ys, h => by
    have ih := eqS_zip xs ys (by simpa using h)
    simp only [eqL, ← ih, eqS, List.zip_cons_cons, List.all_cons]
theorem eqS_zipT (xs ys : List D) (h : xs.length = ys.length) : eqS (zipT xs ys xs.length) = eqL xs ys := by
  have : (xs.zip ys).take xs.length = xs.zip ys := List.take_of_length_le (by rw [List.length_zip]; omega)
  rw [zipT, this, ← eqS_zip xs ys h]
  simp [eqS]
theorem size_zipT : ∀ (xs ys : List D), stkSize (xs.zip ys) ≤ sizeL xs
  | [], ys => by simp [stkSize]
  | x :: xs, [] => by simp [stkSize]
  | x :: xs, y :: ys => by
    have := size_zipT xs ys
    simp only [stkSize, List.zip_cons_cons, List.map_cons, List.sum_cons, sizeL] at this ⊢; omega
theorem stkSize_append (a b : List (D × D)) : stkSize (a ++ b) = stkSize a + stkSize b := by simp [stkSize]
theorem stkSize_rev (a : List (D × D)) : stkSize a.reverse = stkSize a := by
  induction a with
  | nil => rfl
  | cons x r ih => rw [List.reverse_cons, stkSize_append, ih]; simp [stkSize]; omega
theorem stkSize_zipT (xs ys : List D) (h : xs.length = ys.length) : stkSize (zipT xs ys xs.length) ≤ sizeL xs := by
  have : (xs.zip ys).take xs.length = xs.zip ys := List.take_of_length_le (by rw [List.length_zip]; omega)
  rw [zipT, this, stkSize_rev]; exact size_zipT xs ys
/-- what a turn pushes for two fields -/
def keyT (xs ys : List (Key × D)) (i : Nat) : List (D × D) := ((xs.take i).map fun q => (q.2, keyD ys q.1)).reverse
theorem keyT_succ {xs ys : List (Key × D)} {i : Nat} {q : Key × D} (h : xs[i]? = some q) : keyT xs ys (i + 1) = (q.2, keyD ys q.1) :: keyT xs ys i := by
  simp only [keyT, List.take_add_one, h, List.map_append, Option.toList_some, List.reverse_append]; rfl
theorem eqS_keyT (xs ys : List (Key × D)) (h : ∀ q ∈ xs, (ys.find? fun p => p.1 = q.1).isSome = true) : eqS (keyT xs ys xs.length) = eqK xs ys := by
  rw [← eqK_kl xs ys h]
  simp only [eqS, keyT, kl, List.take_length, List.all_reverse, List.all_map]; rfl
theorem stkSize_keyT (xs ys : List (Key × D)) : stkSize (keyT xs ys xs.length) ≤ sizeK xs := by
  simp only [keyT, List.take_length, stkSize_rev]
  induction xs with
  | nil => simp [stkSize]
  | cons q r ih =>
    obtain ⟨k, d⟩ := q
    simp only [stkSize, List.map_cons, List.sum_cons, sizeK] at ih ⊢; omega
theorem perm_of_sub {α : Type} [DecidableEq α] : ∀ (a b : List α), a.Nodup → (∀ x ∈ a, x ∈ b) → b.length ≤ a.length → a.Perm b
  | [], b, _, _, h => by
    have : b = [] := List.length_eq_zero_iff.mp (by simpa using h)
    rw [this]
  | x :: r, b, nd, hs, hl => by
    have hx := hs x List.mem_cons_self
    have nd' := List.nodup_cons.mp nd
    have p1 := List.perm_cons_erase hx
    refine List.Perm.trans (List.Perm.cons x (perm_of_sub r (b.erase x) nd'.2 (fun y hy => ?_) ?_)) p1.symm
    · have hne : y ≠ x := fun e => nd'.1 (e ▸ hy)
      exact (List.mem_erase_of_ne hne).mpr (hs y (List.mem_cons_of_mem _ hy))
    · rw [List.length_erase_of_mem hx]; simp only [List.length_cons] at hl; omega
theorem valueAt_mem {kvs : List (Str × Value)} {k : Str} : (valueAt kvs k).isSome = decide (k ∈ kvs.map (·.1)) := by
  induction kvs with
  | nil => rfl
  | cons p r ih =>
    obtain ⟨k', v⟩ := p
    by_cases h : k' = k
    · subst h; simp [valueAt]
    · have h' : ¬ k = k' := fun e => h e.symm
      simp only [valueAt, List.find?_cons, h, decide_false] at ih ⊢
      rw [ih]; simp [h']
theorem keys_perm {kv1 kv2 : List (Str × Value)} (n1 : (kv1.map (·.1)).Nodup) (n2 : (kv2.map (·.1)).Nodup) :
    (decide (kv1.length = kv2.length) && kv1.all fun q => (valueAt kv2 q.1).isSome) = decide ((kv1.map (·.1)).Perm (kv2.map (·.1))) := by
  by_cases p : (kv1.map (·.1)).Perm (kv2.map (·.1))
  · rw [decide_eq_true p]
    have hl : kv1.length = kv2.length := by simpa using p.length_eq
    rw [decide_eq_true hl, Bool.true_and, List.all_eq_true]
    intro q hq
    rw [valueAt_mem]
    exact decide_eq_true (p.mem_iff.mp (List.mem_map_of_mem hq))
  · rw [decide_eq_false p]
    by_cases hl : kv1.length = kv2.length
    · rw [decide_eq_true hl, Bool.true_and]
      rw [Bool.eq_false_iff]
      intro ha
      refine p (perm_of_sub _ _ n1 (fun x hx => ?_) (by simp [hl]))
      obtain ⟨q, hq, rfl⟩ := List.mem_map.mp hx
      have := List.all_eq_true.mp ha q hq
      rw [valueAt_mem] at this
      exact of_decide_eq_true this
    · rw [decide_eq_false hl, Bool.false_and]
end Mine

end

section
open PySem PySem.W PyProof.Rows PySem.Calls PyProof.V
set_option linter.unusedVariables false
set_option maxRecDepth 100000
set_option maxHeartbeats 2000000
namespace Mine
open LCg
section
variable {prog : Program} {w : World} {A : Around} {E : Value → Shared → Prop} {s : Shared} {env : Env} {h₀ : Heap} {L D l1 l2 : Addr} {m : Str → Option Value} {news r : List (Addr × Obj)}
theorem zip_call {xs ys : List Value} {c1 c2 : Nat} {Q : Value → Shared → Prop} (F : Fr h₀ L s.heap m) (N : News h₀ L s.heap news) (m1 : (l1, listObj xs c1) ∈ news) (m2 : (l2, listObj ys c2) ∈ news)
    (h : ∀ (Z : Addr) h', Fr h₀ L h' m → News h₀ L h' news → ZSt h' Z l1 l2 xs.toArray ys.toArray 0 → (∀ p ∈ news, @LT.lt Nat _ p.1 Z) → @LT.lt Nat _ L Z → @LE.le Nat _ (Nat.add Z 5) h'.objs.size → Q (.ref (Nat.add Z 4)) { s with heap := h' }) :
    wpAny (model prog w) A (call (.type "zip") [.ref l1, .ref l2]) Q E s := by
  refine call_zip_2 (xs := xs.toArray) (ys := ys.toArray) (N.isList m1) (N.isList m2) fun h' a1 a2 a3 a4 a5 a6 hk => ?_
  refine h s.heap.objs.size h' (F.keeps hk) (N.grown hk) ⟨a2, a4, a5, (N.isList m1).at fun o e => hk _ o e, (N.isList m2).at fun o e => hk _ o e, .inl ⟨rfl, a1, _, _, a3⟩⟩ (fun p hp => Heap.lt_size (N p hp).1) F.ns.lt ?_
  rw [a6]; exact Nat.le_refl _
theorem keys_led {K : Type} [DecidableEq K] {knd : KeyKind prog w K} {d : Addr} {es : List DictEntry} {n : Nat} {kvs : List (K × Value)} {Q : Value → Shared → Prop} (F : Fr h₀ L s.heap m) (N : News h₀ L s.heap news) (hm : (d, dictObj es n) ∈ news) (hd : (dictObj es n).IsDictOf knd kvs) (hs : (d == sysModules) = false)
    (h : ∀ v h', Fr h₀ L h' m → News h₀ L h' ((v, ({ cls := .type "dict_keys", data := .fields #[.ref d] } : Obj)) :: news) → (∀ p ∈ news, p.1 < v) → Q (.ref v) { s with heap := h' }) :
    wpAny (model prog w) A (call (.builtin "dict.keys") [.ref d]) Q E s := by
  have hat := dictAt_of N hm hd
  refine call_meetsIn PySem.F.slot_dict_keys hat.dictOf.typeIs PySem.F.entry_dict_keys (PySem.F.args_dict_keys_1 _) (kdl_meets_keys knd d hs) ⟨⟨kvs, hat.dictOf⟩, ?_⟩
  have up : ∀ b o, s.heap.get? b = some o → (s.heap.push { cls := .type "dict_keys", data := .fields #[.ref d] }).get? b = some o := fun b o e => Heap.get?_push_of_some _ e
  refine h _ _ (F.keeps up) (fun p hp => ?_) (fun p hp => Heap.lt_size (N p hp).1)
  rcases List.mem_cons.mp hp with rfl | hp
  · exact ⟨Heap.get?_push_size _ rfl, Nat.ne_of_gt F.ns.lt, next_is_new F⟩
  · exact ⟨up _ _ (N p hp).1, (N p hp).2⟩
theorem items_led {K : Type} [DecidableEq K] {knd : KeyKind prog w K} {d : Addr} {es : List DictEntry} {n : Nat} {kvs : List (K × Value)} {Q : Value → Shared → Prop} (F : Fr h₀ L s.heap m) (N : News h₀ L s.heap news) (hm : (d, dictObj es n) ∈ news) (hd : (dictObj es n).IsDictOf knd kvs) (hs : (d == sysModules) = false)
    (h : ∀ v h', Fr h₀ L h' m → News h₀ L h' ((v, ({ cls := .type "dict_items", data := .fields #[.ref d] } : Obj)) :: news) → (∀ p ∈ news, p.1 < v) → Q (.ref v) { s with heap := h' }) :
    wpAny (model prog w) A (call (.builtin "dict.items") [.ref d]) Q E s := by
  have hat := dictAt_of N hm hd
  refine call_meetsIn PySem.F.slot_dict_items hat.dictOf.typeIs PySem.F.entry_dict_items (PySem.F.args_dict_items_1 _) (meets_dict_items knd d hs) ⟨⟨kvs, hat.dictOf⟩, ?_⟩
  have up : ∀ b o, s.heap.get? b = some o → (s.heap.push { cls := .type "dict_items", data := .fields #[.ref d] }).get? b = some o := fun b o e => Heap.get?_push_of_some _ e
  refine h _ _ (F.keeps up) (fun p hp => ?_) (fun p hp => Heap.lt_size (N p hp).1)
  rcases List.mem_cons.mp hp with rfl | hp
  · exact ⟨Heap.get?_push_size _ rfl, Nat.ne_of_gt F.ns.lt, next_is_new F⟩
  · exact ⟨up _ _ (N p hp).1, (N p hp).2⟩
theorem dict_method {D : Addr} {es : List DictEntry} {n : Nat} {name : Str} {id : String} {pl : Sem Bool} {Q : Value × List Value → Shared → Prop} (N : News h₀ L s.heap news) (hm : (D, dictObj es n) ∈ news) (slot : Slot "dict" name id) (hty : typeOf (.builtin id) = pure (.type "method_descriptor"))
    (h : Q (.builtin id, [.ref D]) s) : wpAny (model prog w) A (getMethod (.ref D) name pl) Q E s :=
  getMethod_builtin ⟨_, (N _ hm).1, rfl⟩ PySem.F.plainAttrs_dict slot hty (fun a e => by cases e; exact ⟨_, (N _ hm).1, rfl⟩) h
theorem items_iter {K : Type} [DecidableEq K] {knd : KeyKind prog w K} {v d : Addr} {es : List DictEntry} {n : Nat} {kvs : List (K × Value)} {Q : Value → Shared → Prop} (F : Fr h₀ L s.heap m) (N : News h₀ L s.heap news) (hv : (v, ({ cls := .type "dict_items", data := .fields #[.ref d] } : Obj)) ∈ news) (hm : (d, dictObj es n) ∈ news) (hd : (dictObj es n).IsDictOf knd kvs)
    (h : ∀ I oI h', Fr h₀ L h' m → News h₀ L h' ((I, oI) :: news) → (∀ p ∈ news, p.1 < I) → @LT.lt Nat _ L I → IsItemIter h' I d 0 kvs.length n .none .none → Q (.ref I) { s with heap := h' }) :
    wpAny (model prog w) A (pyIter (.ref v)) Q E s := by
  have hat := dictAt_of N hm hd
  refine wpAny_pyIter_items (knd := knd) ⟨_, (N _ hv).1, rfl, rfl⟩ hat ?_
  have up : ∀ b o, s.heap.get? b = some o → (s.heap.push { cls := .type "dict_itemiterator", data := .fields #[.none, .bool false, .ref d, .int 0 0, .int kvs.length 0, .int n 0, .none, .none] }).get? b = some o := fun b o e => Heap.get?_push_of_some _ e
  refine h _ { cls := .type "dict_itemiterator", data := .fields #[.none, .bool false, .ref d, .int 0 0, .int kvs.length 0, .int n 0, .none, .none] } _ (F.keeps up) (fun p hp => ?_) (fun p hp => Heap.lt_size (N p hp).1) F.ns.lt (Heap.get?_push_size _ rfl)
  rcases List.mem_cons.mp hp with rfl | hp
  · exact ⟨Heap.get?_push_size _ rfl, Nat.ne_of_gt F.ns.lt, next_is_new F⟩
  · exact ⟨up _ _ (N p hp).1, (N p hp).2⟩
theorem gname_L {M : Model} {x : Str} {pos : Pos} {v : Value} {Q : Value → Shared → Prop} (F : Fr h₀ L s.heap m) (hL : env.locals = L) (hv : m x = some v) (h : Q v s)
    (hk : env.scope.kind = .function := by rfl) (hx : env.kindOf x = some .local := by rfl) (hd : (x == ("__debug__" : Str)) = false := by decide) :
    wpAny M A (eval (.Name x pos) env) Q E s := wpAny_Name (wpAny_loadName_local hk hx (hL ▸ F.ns) hv h) hd
theorem gname_F {M : Model} {x : Str} {pos : Pos} {v : Value} {c : Addr} {o : Obj} {Q : Value → Shared → Prop} (N : News h₀ L s.heap news) (hc : env.cells.lookup x = some c) (hm : (c, o) ∈ news) (hd : o.data = .cell (some v)) (h : Q v s)
    (hk : env.scope.kind = .function := by rfl) (hx : env.kindOf x = some .free := by rfl) (hb : (x == ("__debug__" : Str)) = false := by decide) (hn : (x == ("__classdict__" : Str)) = false := by decide) :
    wpAny M A (eval (.Name x pos) env) Q E s := wpAny_Name (wpAny_loadName_free hk hx hc ⟨o, N.get hm, hd⟩ h hn) hb
theorem gname_K {M : Model} {p : Program} {loose : List Str} {mg mb : Str → Option Value} {K : Frag} {x : Str} {pos : Pos} {v : Value} {Q : Value → Shared → Prop} (F : Fr h₀ L s.heap m) (X : K.In h₀) (T : TopRead p loose mg mb h₀) (hgl : env.globals = mainGlobals) (e : nsIn K mainGlobals x = some (some v)) (h : Q v s)
    (hk : env.scope.kind = .function := by rfl) (hx : env.kindOf x = some .globalImplicit := by rfl) (hd : (x == ("__debug__" : Str)) = false := by decide) :
    wpAny M A (eval (.Name x pos) env) Q E s := Name_function_global hk hx (loadGlobal_global (env := env) (hgl ▸ T.g.keeps F.keep) (mg_of X T.g e) h) hd
/-- the two views are compared by their keys -/
theorem keys_ne {v1 v2 d1 d2 : Addr} {e1 e2 : List DictEntry} {n1 n2 : Nat} {kv1 kv2 : List (Str × Value)} {Q : Value → Shared → Prop} (hh : A.handled = none) (hu : A.units < cLine) (F : Fr h₀ L s.heap m) (N : News h₀ L s.heap news)
    (hv1 : (v1, ({ cls := .type "dict_keys", data := .fields #[.ref d1] } : Obj)) ∈ news) (hv2 : (v2, ({ cls := .type "dict_keys", data := .fields #[.ref d2] } : Obj)) ∈ news) (m1 : (d1, dictObj e1 n1) ∈ news) (m2 : (d2, dictObj e2 n2) ∈ news)
    (i1 : (dictObj e1 n1).IsDictOf (PySem.strKind prog w) kv1) (i2 : (dictObj e2 n2).IsDictOf (PySem.strKind prog w) kv2) (l1 : kv1.length < 1000) (l2 : kv2.length < 1000)
    (h : ∀ h' tk, Fr h₀ L h' m → News h₀ L h' news → Q (.bool (!decide ((kv1.map (·.1)).Perm (kv2.map (·.1))))) { s with heap := h', toks := tk }) :
    wpAny (model prog w) A (compareOp .NotEq (.ref v1) (.ref v2)) Q E s := by
  refine dk_ne (knd := PySem.strKind prog w) hh hu ⟨_, (N _ hv1).1, rfl, rfl⟩ ⟨_, (N _ hv2).1, rfl, rfl⟩ (dictAt_of N m1 i1) (dictAt_of N m2 i2) l1 l2 fun h' tk hk => ?_
  rw [keys_perm (isDictOf_nodup i1) (isDictOf_nodup i2)]
  exact h h' tk (F.keeps hk) (N.grown hk)
end
end Mine

end

section
open PySem PySem.W PyProof.Rows
set_option linter.unusedVariables false
namespace Mine
local macro_rules | `(tactic| walk_at "zz") => `(tactic| fail)
local macro_rules | `(tactic| walk_at "zz") => `(tactic| fail)
local macro_rules | `(tactic| walk_at "zz") => `(tactic| fail)
theorem rstS1 : True := by
  w_top off
  trivial
local macro_rules | `(tactic| k_mem) => `(tactic| assumption)
local macro_rules | `(tactic| k_all) => `(tactic| with_reducible assumption)
local macro_rules | `(tactic| ktr_enter) => `(tactic| (k_dflt (refine' code_def ?k1 ?k2 ?k3 ?k4 ?k5 ?kA ?kF ?kK ?k6 ?k7 ?k8 ?k9 ?kB ?_ ?c2 ?c3 ?c4 ?c5; (case kA => exact rfl); (case kF => first | exact rfl | assumption); (case kK => first | exact rfl | assumption); (case k1 => k_asm); (case k2 => k_asm); (case k3 => k_asm); (case k4 => k_asm); (case k5 => k_asm); (case k6 => k_is); (case k7 => k_is); (case k8 => ((try dsimp only [topA]); omega)); (case k9 => exact BindsTo.of_eq rfl); (case c5 => decide); (case kB => exact locs rfl); (case c2 => exact rfl); (case c3 => exact rfl); (case c4 => exact rfl); k_whole; intro g' L' h' FG' F' N' B' X' T'; (try dsimp only); (try k_fold))))
local macro_rules | `(tactic| ktd_sub) => `(tactic| (intro p9 hp9; repeat (first | exact hp9 | refine List.mem_cons_of_mem _ ?_)))
local macro_rules | `(tactic| ktd_rel) => `(tactic| first | assumption | (refine' DIn.mono ?hs ?hh; (case hh => assumption); (case hs => ktd_sub)) | (refine' DsIn.mono ?hs ?hh; (case hh => assumption); (case hs => ktd_sub)) | (refine' KsIn.mono ?hs ?hh; (case hh => assumption); (case hs => ktd_sub)))
local macro_rules | `(tactic| ktr_room) => `(tactic| (simp only [depth_deeper, depth_in1, topA] at *; omega))
local macro_rules | `(tactic| ktr_units) => `(tactic| (simp only [units_deeper, units_in1, topA] at *; omega))
local macro_rules | `(tactic| ktr_unf) => `(tactic| (k_dflt (refine' code_defC ?k1 ?k2 ?k3 ?k4 ?k5 ?kA ?kF ?kK ?k6 ?k7 ?k8 ?k9 ?kB ?kD ?_ ?c2 ?c3 ?c4; (case kA => exact rfl); (case kF => first | exact rfl | assumption); (case kK => first | exact rfl | assumption); (case k1 => k_asm); (case k2 => k_asm); (case k3 => k_asm); (case k4 => k_asm); (case k5 => k_asm); (case k6 => k_is); (case k7 => k_is); (case k8 => ((try dsimp only [topA]); omega)); (case k9 => exact BindsTo.of_eq rfl); (case kB => exact rfl); (case kD => decide +kernel); (case c2 => exact rfl); (case c3 => exact rfl); (case c4 => exact rfl); k_whole; intro g' L' h' tk' cells' FG' F' N' Y' B' X' T' l1; (try k_lt l1); k_cells Y'; (try simp only [List.cons_append, List.nil_append] at N'); (try dsimp only); (try k_fold))))
local macro_rules | `(tactic| walk_at "call ref") => `(tactic| (k_here; (with_reducible show wpAny _ _ (call (Value.ref 956) _) _ _ _); k_dflt (refine' use_call (kind_call _ _ _ _ ?hD) ?B ?F ?X ?N ?T ?hf ?hk ?hd ?hu ?hG ?_; (case B => k_asm); (case F => k_asm); (case X => k_asm); (case N => k_asm); (case T => k_asm); (case hf => first | exact rfl | assumption); (case hk => first | exact rfl | assumption); (case hG => assumption); (case hD => ktd_rel); (case hd => ktr_room); (case hu => ktr_units); k_whole; intro r9 nw9 h9 tk9 g9 p9 hG9 F9 N9; obtain ⟨p9, q9⟩ := p9; obtain ⟨t9, p9⟩ := p9; replace q9 := Eq.symm q9; subst q9; subst p9; (try dsimp only); (try k_fold))))
local macro_rules | `(tactic| walk_at "call builtin:isinstance") => `(tactic| (k_here; (with_reducible show wpAny _ _ (call _ [_, Value.type _]) _ _ _); k_dflt (refine' isin_leafs (d := _) ?T ?F ?X ?N ?T' ?hD ?hl ?_; (case T => first | exact Or.inl rfl | exact Or.inr rfl); (case F => k_asm); (case X => k_asm); (case N => k_asm); (case T' => k_asm); (case hD => ktd_rel); (case hl => assumption); k_whole; intro tk9)))
local macro_rules | `(tactic| walk_at "call builtin:isinstance") => `(tactic| (k_here; (with_reducible show wpAny _ _ (call _ [_, Value.ref _]) _ _ _); k_dflt (refine' isin_leafs2 (d := _) ?T ?F ?X ?N ?T' ?hm ?hD ?hl ?_; (case F => k_asm); (case X => k_asm); (case N => k_asm); (case T' => k_asm); (case hm => k_mem); (case hD => ktd_rel); (case hl => assumption); (case T => first | exact Or.inl ⟨rfl, rfl⟩ | exact Or.inr ⟨rfl, rfl⟩); k_whole; intro tk9)))
local macro_rules | `(tactic| walk_at "eval ListComp") => `(tactic| (k_here; k_dflt (refine ListComp_G (by k_asm) (by assumption) (by with_unfolding_all rfl) (by decide) (by rfl) (by decide) (by rfl) ?_)))
local macro_rules | `(tactic| walk_at "call builtin:len") => `(tactic| (k_here; (with_reducible show wpAny _ _ (call (Value.builtin "len") [Value.ref _]) _ _ _); (refine len_list (News.isList (by k_asm) (by k_mem)) (by (try rw [List.size_toArray]); omega) ?_); (try rw [List.size_toArray])))
local macro_rules | `(tactic| lsm_bools) => `(tactic| assumption)
local macro_rules | `(tactic| k_mem) => `(tactic| first | assumption | exact List.Mem.head _ | (refine' List.Mem.tail _ ?_; k_mem))
local macro_rules | `(tactic| walk_at "subscriptTail Name Name ref int") => `(tactic| (k_here; (with_reducible show wpAny _ _ (subscriptTail _ _ (Value.ref _) (Value.int _ _)) _ _ _); k_dflt (refine item_list (News.isList (by k_asm) (by k_mem)) (by omega) (by omega) (by assumption) ?_)))
local macro_rules | `(tactic| walk_at "call ref") => `(tactic| (k_here; (with_reducible show wpAny _ _ (call (Value.ref 961) _) _ _ _); k_dflt (refine' use_same ?ih ?o1 ?o2 ?h1 ?h2 ?B ?F ?X ?N ?T ?hf ?hk ?hd ?hu ?hG ?_; (case B => k_asm); (case F => k_asm); (case X => k_asm); (case N => k_asm); (case T => k_asm); (case hf => first | exact rfl | assumption); (case hk => first | exact rfl | assumption); (case hG => assumption); (case ih => assumption); (case h1 => ktd_rel); (case h2 => ktd_rel); (case o1 => assumption); (case o2 => assumption); (case hd => ktr_room); (case hu => ktr_units); k_whole; intro r9 nw9 h9 tk9 g9 p9 hG9 F9 N9; obtain ⟨p9, q9⟩ := p9; replace q9 := Eq.symm q9; subst q9; subst p9; (try dsimp only); (try k_fold))))
local macro_rules | `(tactic| walk_at "call builtin:sorted") => `(tactic| (k_here; (with_reducible show wpAny _ _ (call (Value.builtin _) [Value.ref _]) _ _ _); k_dflt (refine' sorted_dictG ?hh ?F ?N ?hm ?hd ?lo ?hl ?_; (case hh => rfl); (case F => k_asm); (case N => k_asm); (case hm => k_mem); (case hd => with_reducible assumption); (case lo => with_reducible assumption); (case hl => with_reducible assumption); k_whole); intro D9 vs9 ss9 e9 h9 tk9 F9 N9 l9 S9 P9 O9))
local macro_rules | `(tactic| walk_at "compareOp Eq ref ref") => `(tactic| (k_here; (with_reducible show wpAny _ _ (compareOp CmpOp.Eq (Value.ref _) (Value.ref _)) _ _ _); k_dflt (refine' eq_strs ?ha ?hb ?hi ?hj ?ho ?ho' ?hu ?_; (case ha => exact News.isList (by k_asm) (by k_mem)); (case hb => exact News.isList (by k_asm) (by k_mem)); (case hi => with_reducible assumption); (case hj => with_reducible assumption); (case ho => exact perm_ok (by with_reducible assumption) (by with_reducible assumption)); (case ho' => exact perm_ok (by with_reducible assumption) (by with_reducible assumption)); (case hu => ktr_units); k_whole)))
local macro_rules | `(tactic| walk_at "subscriptTail Name Name ref str") => `(tactic| (k_here; (with_reducible show wpAny _ _ (subscriptTail _ _ (Value.ref _) (Value.str _ _)) _ _ _); k_dflt (refine' item_dictT ?N ?hm ?hd ?hv ?_ ?hs ?hg; (case N => k_asm); (case hm => k_mem); (case hd => with_reducible assumption); (case hv => with_reducible assumption); (case hs => with_unfolding_all rfl); (case hg => (intro _; with_unfolding_all rfl)); k_whole)))
set_option maxRecDepth 100000 in
set_option maxHeartbeats 8000000 in
theorem same_mixed (w : World) (n : Nat) (nw : List (Addr × Obj)) (d1 d2 : D) (v1 v2 : Value) (h1 : DIn w nw d1 v1) (h2 : DIn w nw d2 v2) (hm : ∀ xs ys, ¬ (d1 = .list xs ∧ d2 = .list ys)) (hm' : ∀ xs ys, ¬ (d1 = .dict xs ∧ d2 = .dict ys)) : CallsTo w 961 [v1, v2] nw (30 * (n + 1)) (300 * (n + 1)) (fun r nw' => r = .bool (eqD d1 d2) ∧ nw' = nw) := by
  intro fl p loose mean mg mb dp un gd env outer A₀ base h₀ L m s Q E HA hG hret
  obtain ⟨B, F, X, N, T, hf, hk, hd, hu⟩ := HA
  refine wpAny_call ?_
  ktr_unf
  rcases hl1 : d1.isLeaf with _ | _ <;> rcases hl2 : d2.isLeaf with _ | _
  · cases d1 <;> (try (cases hl1; done)) <;> cases d2 <;> (try (cases hl2; done)) <;> unfold DIn at h1 h2
    · exact absurd ⟨rfl, rfl⟩ (hm _ _)
    · obtain ⟨_, _, _, rfl, hm1, _⟩ := h1
      obtain ⟨_, _, _, rfl, hm2, _⟩ := h2
      k_steps
      exact hret _ nw _ _ _ ⟨congrArg Value.bool (by simp only [eqD]), rfl⟩ (by assumption) (by k_asm) (news_sub (by k_asm) (by ktd_sub))
    · obtain ⟨_, _, _, rfl, hm1, _⟩ := h1
      obtain ⟨_, _, _, rfl, hm2, _⟩ := h2
      k_steps
      exact hret _ nw _ _ _ ⟨congrArg Value.bool (by simp only [eqD]), rfl⟩ (by assumption) (by k_asm) (news_sub (by k_asm) (by ktd_sub))
    · exact absurd ⟨rfl, rfl⟩ (hm' _ _)
  · cases d1 <;> (try (cases hl1; done)) <;> unfold DIn at h1 <;> obtain ⟨_, _, _, rfl, hm1, _⟩ := h1
    all_goals k_steps
    all_goals exact hret _ nw _ _ _ ⟨congrArg Value.bool (eqD_leafR rfl hl2), rfl⟩ (by assumption) (by k_asm) (news_sub (by k_asm) (by ktd_sub))
  · cases d2 <;> (try (cases hl2; done)) <;> unfold DIn at h2 <;> obtain ⟨_, _, _, rfl, hm2, _⟩ := h2
    all_goals k_steps
    all_goals exact hret _ nw _ _ _ ⟨congrArg Value.bool (eqD_leafL hl1 rfl), rfl⟩ (by assumption) (by k_asm) (news_sub (by k_asm) (by ktd_sub))
  · k_steps
    · refine eq_leaf h1 h2 hl1 hl2 (by assumption) ?_
      k_steps
      exact hret _ nw _ _ _ ⟨rfl, rfl⟩ (by assumption) (by k_asm) (news_sub (by k_asm) (by ktd_sub))
    · refine hret _ nw _ _ _ ⟨congrArg Value.bool ?_, rfl⟩ (by assumption) (by k_asm) (news_sub (by k_asm) (by ktd_sub))
      exact (by assumption : _ = false).trans (leaf_unlike hl1 hl2 (by assumption))
theorem same_call (w : World) : ∀ n, n ≤ 4 → SameAt w n
  | 0, _ => fun nw d1 d2 v1 v2 o1 => absurd o1 (by simp [D.ok])
  | n + 1, hn => fun nw d1 d2 v1 v2 o1 o2 h1 h2 => by
    have ih := same_call w n (by omega)
    by_cases e1 : ∃ xs ys, d1 = .list xs ∧ d2 = .list ys
    · obtain ⟨xs, ys, rfl, rfl⟩ := e1
      exact same_list w n (by omega) ih nw xs ys v1 v2 o1 o2 h1 h2
    · by_cases e2 : ∃ xs ys, d1 = .dict xs ∧ d2 = .dict ys
      · obtain ⟨xs, ys, rfl, rfl⟩ := e2
        exact same_dict w n (by omega) ih nw xs ys v1 v2 o1 o2 h1 h2
      · exact same_mixed w n nw d1 d2 v1 v2 h1 h2 (fun xs ys h => e1 ⟨xs, ys, h⟩) (fun xs ys h => e2 ⟨xs, ys, h⟩)

end Mine

end

section
open PySem PySem.W PyProof.Rows
set_option linter.unusedVariables false
namespace Mine
local macro_rules | `(tactic| walk_at "zz") => `(tactic| fail)
local macro_rules | `(tactic| walk_at "zz") => `(tactic| fail)
local macro_rules | `(tactic| walk_at "zz") => `(tactic| fail)
local macro_rules | `(tactic| walk_at "zz") => `(tactic| fail)
local macro_rules | `(tactic| walk_at "zz") => `(tactic| fail)
local macro_rules | `(tactic| walk_at "zz") => `(tactic| fail)
local macro_rules | `(tactic| walk_at "zz") => `(tactic| fail)
local macro_rules | `(tactic| walk_at "zz") => `(tactic| fail)
local macro_rules | `(tactic| walk_at "zz") => `(tactic| fail)
local macro_rules | `(tactic| walk_at "zz") => `(tactic| fail)
local macro_rules | `(tactic| walk_at "zz") => `(tactic| fail)
local macro_rules | `(tactic| walk_at "zz") => `(tactic| fail)
theorem rstVal1 : True := by
  w_top off
  trivial
local macro_rules | `(tactic| k_mem) => `(tactic| assumption)
local macro_rules | `(tactic| k_all) => `(tactic| with_reducible assumption)
local macro_rules | `(tactic| ktr_enter) => `(tactic| (k_dflt (refine' code_def ?k1 ?k2 ?k3 ?k4 ?k5 ?kA ?kF ?kK ?k6 ?k7 ?k8 ?k9 ?kB ?_ ?c2 ?c3 ?c4 ?c5; (case kA => exact rfl); (case kF => first | exact rfl | assumption); (case kK => first | exact rfl | assumption); (case k1 => k_asm); (case k2 => k_asm); (case k3 => k_asm); (case k4 => k_asm); (case k5 => k_asm); (case k6 => k_is); (case k7 => k_is); (case k8 => ((try dsimp only [topA]); omega)); (case k9 => exact BindsTo.of_eq rfl); (case c5 => decide); (case kB => exact locs rfl); (case c2 => exact rfl); (case c3 => exact rfl); (case c4 => exact rfl); k_whole; intro g' L' h' FG' F' N' B' X' T'; (try dsimp only); (try k_fold))))
local macro_rules | `(tactic| ktd_sub) => `(tactic| (intro p9 hp9; repeat (first | exact hp9 | refine List.mem_cons_of_mem _ ?_)))
local macro_rules | `(tactic| ktd_rel) => `(tactic| first | assumption | (refine' DIn.mono ?hs ?hh; (case hh => assumption); (case hs => ktd_sub)) | (refine' DsIn.mono ?hs ?hh; (case hh => assumption); (case hs => ktd_sub)) | (refine' KsIn.mono ?hs ?hh; (case hh => assumption); (case hs => ktd_sub)))
local macro_rules | `(tactic| ktr_room) => `(tactic| (simp only [depth_deeper, depth_in1, topA] at *; omega))
local macro_rules | `(tactic| ktr_units) => `(tactic| (simp only [units_deeper, units_in1, topA] at *; omega))
local macro_rules | `(tactic| ktr_unf) => `(tactic| (k_dflt (refine' code_defC ?k1 ?k2 ?k3 ?k4 ?k5 ?kA ?kF ?kK ?k6 ?k7 ?k8 ?k9 ?kB ?kD ?_ ?c2 ?c3 ?c4; (case kA => exact rfl); (case kF => first | exact rfl | assumption); (case kK => first | exact rfl | assumption); (case k1 => k_asm); (case k2 => k_asm); (case k3 => k_asm); (case k4 => k_asm); (case k5 => k_asm); (case k6 => k_is); (case k7 => k_is); (case k8 => ((try dsimp only [topA]); omega)); (case k9 => exact BindsTo.of_eq rfl); (case kB => exact rfl); (case kD => decide +kernel); (case c2 => exact rfl); (case c3 => exact rfl); (case c4 => exact rfl); k_whole; intro g' L' h' tk' cells' FG' F' N' Y' B' X' T' l1; (try k_lt l1); k_cells Y'; (try simp only [List.cons_append, List.nil_append] at N'); (try dsimp only); (try k_fold))))
local macro_rules | `(tactic| k_mem) => `(tactic| first | assumption | exact List.Mem.head _ | (refine' List.Mem.tail _ ?_; k_mem))
local macro_rules | `(tactic| k_upd) => `(tactic| first | exact UpdX.head | (refine' UpdX.tail ?a ?b; (case a => k_ne); (case b => k_upd)))
local macro_rules | `(tactic| walk_at "call ref") => `(tactic| (k_here; (with_reducible show wpAny _ _ (call (Value.ref 944) _) _ _ _); k_dflt (refine' use_next ?B ?F ?X ?N ?T ?hf ?hk ?hd ?hu ?hG ?U ?hI ?hst ?hls ?hi0 ?hi1 ?hl0 ?hl1 ?hvs ?_; (case B => k_asm); (case F => k_asm); (case X => k_asm); (case N => k_asm); (case T => k_asm); (case hf => first | exact rfl | assumption); (case hk => first | exact rfl | assumption); (case hG => assumption); (case hd => ktr_room); (case hu => ktr_units); (case U => k_upd); (case hI => assumption); (case hst => with_reducible assumption); (case hls => with_reducible assumption); (case hi0 => omega); (case hi1 => omega); (case hl0 => omega); (case hl1 => omega); (case hvs => omega); k_whole; intro k9 t9 u9 h9 tk9 g9 kl9 kh9 hG9 F9 N9; (try dsimp only at N9); (try dsimp only); (try k_fold))))
local macro_rules | `(tactic| k_all) => `(tactic| first | (with_reducible assumption) | (refine' ltAll_ne ?h ?b; (case h => with_reducible assumption); (case b => omega)))
local macro_rules | `(tactic| walk_at "call ref") => `(tactic| (k_here; (with_reducible show wpAny _ _ (call (Value.ref 949) _) _ _ _); k_dflt (refine' use_value ?V ?hz ?B ?F ?X ?N ?T ?hf ?hk ?hd ?hu ?hG ?U ?hI ?hst ?hls ?hi0 ?hi1 ?hvs ?_; (case V => assumption); (case hz => omega); (case B => k_asm); (case F => k_asm); (case X => k_asm); (case N => k_asm); (case T => k_asm); (case hf => first | exact rfl | assumption); (case hk => first | exact rfl | assumption); (case hG => assumption); (case hd => ktr_room); (case hu => ktr_units); (case U => k_upd); (case hI => assumption); (case hst => with_reducible assumption); (case hls => with_reducible assumption); (case hi0 => omega); (case hi1 => omega); (case hvs => omega); k_whole; intro r9 o9 d9 i9 t9 h9 tk9 g9 D9 k9 i0 i1 s9 l9 f9 hG9 F9 N9; (try dsimp only at N9); (try dsimp only at f9); (try dsimp only); (try k_fold))))
set_option maxRecDepth 100000 in
set_option maxHeartbeats 8000000 in
theorem value0 (w : World) : ValAt w 0 := by
  intro st ls vs ns i n1 n2 t1 t2 nw z hz hI hst hls hi0 hi1 hvs
  subst hz
  simp only [spend] at hi1
  intro fl p loose mean mg mb dp un gd env outer A₀ base h₀ L m s Q E HA hG hret
  obtain ⟨B, F, X, N, T, hf, hk, hd, hu⟩ := HA
  refine wpAny_call ?_
  ktr_unf
  k_steps
  · refine hret _ _ _ _ _ ⟨[], .num _, _, _, rfl, ⟨by assumption, by assumption, _, rfl⟩, trivial, ?_, ?_, fun _ h => nomatch h⟩ (by assumption) (by k_asm) (by rw [List.append_nil]; exact news_sub (by k_asm) (by ktd_sub))
    · omega
    · simp only [spend]; omega
  · rename Int => kk
    refine item_tupleAny (by k_asm) (by k_mem) (by omega) (by show kk < 7; omega) (by omega) ?_
    intro x ex
    k_steps
    obtain ⟨d, hD, hl⟩ := picked (by omega) (by omega) ex
    refine hret _ _ _ _ _ ⟨[], d, _, _, rfl, hD, ok_leaf hl, ?_, ?_, fun _ h => nomatch h⟩ (by assumption) (by k_asm) (by rw [List.append_nil]; exact news_sub (by k_asm) (by ktd_sub))
    · omega
    · simp only [spend]; omega

end Mine

end

section
open PySem PySem.W PyProof.Rows
set_option linter.unusedVariables false
namespace Mine
local macro_rules | `(tactic| walk_at "zz") => `(tactic| fail)
local macro_rules | `(tactic| walk_at "zz") => `(tactic| fail)
local macro_rules | `(tactic| walk_at "zz") => `(tactic| fail)
local macro_rules | `(tactic| walk_at "zz") => `(tactic| fail)
local macro_rules | `(tactic| walk_at "zz") => `(tactic| fail)
local macro_rules | `(tactic| walk_at "zz") => `(tactic| fail)
local macro_rules | `(tactic| walk_at "zz") => `(tactic| fail)
local macro_rules | `(tactic| walk_at "zz") => `(tactic| fail)
local macro_rules | `(tactic| walk_at "zz") => `(tactic| fail)
theorem rstVal2 : True := by
  w_top off
  trivial
local macro_rules | `(tactic| k_mem) => `(tactic| assumption)
local macro_rules | `(tactic| k_all) => `(tactic| with_reducible assumption)
local macro_rules | `(tactic| ktr_enter) => `(tactic| (k_dflt (refine' code_def ?k1 ?k2 ?k3 ?k4 ?k5 ?kA ?kF ?kK ?k6 ?k7 ?k8 ?k9 ?kB ?_ ?c2 ?c3 ?c4 ?c5; (case kA => exact rfl); (case kF => first | exact rfl | assumption); (case kK => first | exact rfl | assumption); (case k1 => k_asm); (case k2 => k_asm); (case k3 => k_asm); (case k4 => k_asm); (case k5 => k_asm); (case k6 => k_is); (case k7 => k_is); (case k8 => ((try dsimp only [topA]); omega)); (case k9 => exact BindsTo.of_eq rfl); (case c5 => decide); (case kB => exact locs rfl); (case c2 => exact rfl); (case c3 => exact rfl); (case c4 => exact rfl); k_whole; intro g' L' h' FG' F' N' B' X' T'; (try dsimp only); (try k_fold))))
local macro_rules | `(tactic| ktd_sub) => `(tactic| (intro p9 hp9; repeat (first | exact hp9 | refine List.mem_cons_of_mem _ ?_)))
local macro_rules | `(tactic| ktd_rel) => `(tactic| first | assumption | (refine' DIn.mono ?hs ?hh; (case hh => assumption); (case hs => ktd_sub)) | (refine' DsIn.mono ?hs ?hh; (case hh => assumption); (case hs => ktd_sub)) | (refine' KsIn.mono ?hs ?hh; (case hh => assumption); (case hs => ktd_sub)))
local macro_rules | `(tactic| ktr_room) => `(tactic| (simp only [depth_deeper, depth_in1, topA] at *; omega))
local macro_rules | `(tactic| ktr_units) => `(tactic| (simp only [units_deeper, units_in1, topA] at *; omega))
local macro_rules | `(tactic| ktr_unf) => `(tactic| (k_dflt (refine' code_defC ?k1 ?k2 ?k3 ?k4 ?k5 ?kA ?kF ?kK ?k6 ?k7 ?k8 ?k9 ?kB ?kD ?_ ?c2 ?c3 ?c4; (case kA => exact rfl); (case kF => first | exact rfl | assumption); (case kK => first | exact rfl | assumption); (case k1 => k_asm); (case k2 => k_asm); (case k3 => k_asm); (case k4 => k_asm); (case k5 => k_asm); (case k6 => k_is); (case k7 => k_is); (case k8 => ((try dsimp only [topA]); omega)); (case k9 => exact BindsTo.of_eq rfl); (case kB => exact rfl); (case kD => decide +kernel); (case c2 => exact rfl); (case c3 => exact rfl); (case c4 => exact rfl); k_whole; intro g' L' h' tk' cells' FG' F' N' Y' B' X' T' l1; (try k_lt l1); k_cells Y'; (try simp only [List.cons_append, List.nil_append] at N'); (try dsimp only); (try k_fold))))
local macro_rules | `(tactic| walk_at "eval ListComp") => `(tactic| (k_here; k_dflt (refine ListComp_G (by k_asm) (by assumption) (by with_unfolding_all rfl) (by decide) (by rfl) (by decide) (by rfl) ?_)))
local macro_rules | `(tactic| walk_at "eval DictComp") => `(tactic| (k_here; k_dflt (refine DictComp_G (by k_asm) (by assumption) (by with_unfolding_all rfl) (by decide) (by rfl) (by decide) (by rfl) ?_)))
local macro_rules | `(tactic| walk_at "exec Assign cons ListComp") => `(tactic| (k_here; k_dflt (refine Assign_ListComp_G (by k_asm) (by assumption) (by rfl) (by with_unfolding_all rfl) (by with_unfolding_all rfl) (by decide) (by rfl) (by decide) (by rfl) (by rfl) (by rfl) ?_)))
local macro_rules | `(tactic| walk_at "exec Assign cons DictComp") => `(tactic| (k_here; k_dflt (refine Assign_DictComp_G (by k_asm) (by assumption) (by rfl) (by with_unfolding_all rfl) (by with_unfolding_all rfl) (by decide) (by rfl) (by decide) (by rfl) (by rfl) (by rfl) ?_)))
local macro_rules | `(tactic| k_mem) => `(tactic| first | assumption | exact List.Mem.head _ | (refine' List.Mem.tail _ ?_; k_mem))
local macro_rules | `(tactic| k_upd) => `(tactic| first | exact UpdX.head | (refine' UpdX.tail ?a ?b; (case a => k_ne); (case b => k_upd)))
local macro_rules | `(tactic| walk_at "call ref") => `(tactic| (k_here; (with_reducible show wpAny _ _ (call (Value.ref 944) _) _ _ _); k_dflt (refine' use_next ?B ?F ?X ?N ?T ?hf ?hk ?hd ?hu ?hG ?U ?hI ?hst ?hls ?hi0 ?hi1 ?hl0 ?hl1 ?hvs ?_; (case B => k_asm); (case F => k_asm); (case X => k_asm); (case N => k_asm); (case T => k_asm); (case hf => first | exact rfl | assumption); (case hk => first | exact rfl | assumption); (case hG => assumption); (case hd => ktr_room); (case hu => ktr_units); (case U => k_upd); (case hI => assumption); (case hst => with_reducible assumption); (case hls => with_reducible assumption); (case hi0 => omega); (case hi1 => omega); (case hl0 => omega); (case hl1 => omega); (case hvs => omega); k_whole; intro k9 t9 u9 h9 tk9 g9 kl9 kh9 hG9 F9 N9; (try dsimp only at N9); (try dsimp only); (try k_fold))))
local macro_rules | `(tactic| k_all) => `(tactic| first | (with_reducible assumption) | (refine' ltAll_ne ?h ?b; (case h => with_reducible assumption); (case b => omega)))
local macro_rules | `(tactic| walk_at "call ref") => `(tactic| (k_here; (with_reducible show wpAny _ _ (call (Value.ref 949) _) _ _ _); k_dflt (refine' use_value ?V ?hz ?B ?F ?X ?N ?T ?hf ?hk ?hd ?hu ?hG ?U ?hI ?hst ?hls ?hi0 ?hi1 ?hvs ?_; (case V => assumption); (case hz => omega); (case B => k_asm); (case F => k_asm); (case X => k_asm); (case N => k_asm); (case T => k_asm); (case hf => first | exact rfl | assumption); (case hk => first | exact rfl | assumption); (case hG => assumption); (case hd => ktr_room); (case hu => ktr_units); (case U => k_upd); (case hI => assumption); (case hst => with_reducible assumption); (case hls => with_reducible assumption); (case hi0 => omega); (case hi1 => omega); (case hvs => omega); k_whole; intro r9 o9 d9 i9 t9 h9 tk9 g9 D9 k9 i0 i1 s9 l9 f9 hG9 F9 N9; (try dsimp only at N9); (try dsimp only at f9); (try dsimp only); (try k_fold))))
local macro_rules | `(tactic| walk_at "subscriptTail Tuple") => `(tactic| (k_here; k_dflt (refine kba_turn (value' := PySem.Expr.Name (PySem.Str.ofString "_") ⟨0, 0, 0, 0⟩) (fun _ => rfl) ?_); refine Halt.mk' ?_))
set_option maxRecDepth 100000 in
set_option maxHeartbeats 8000000 in
theorem valueS (w : World) (dp0 : Nat) (hdp : dp0 < 2) (V : ValAt w dp0) : ValAt w (dp0 + 1) := by
  intro st ls vs ns i n1 n2 t1 t2 nw z hz hI hst hls hi0 hi1 hvs
  have hz1 : z = (dp0 : Int) + 1 := by rw [hz]; push_cast; rfl
  intro fl p loose mean mg mb dp un gd env outer A₀ base h₀ L m s Q E HA hG hret
  obtain ⟨B, F, X, N, T, hf, hk, hd, hu⟩ := HA
  refine wpAny_call ?_
  ktr_unf
  rename (_ ∧ AllLt _ nw) => lx
  have hnw := tb_ltOf lx.2
  have hspA : 0 ≤ spend dp0 ∧ 3 + (spend dp0 + spend dp0) ≤ spend (dp0 + 1) := by rcases (by omega : dp0 = 0 ∨ dp0 = 1) with rfl | rfl <;> simp [spend]
  have hsp : spend (dp0 + 1) ≥ 3 := by rcases (by omega : dp0 = 0 ∨ dp0 = 1) with rfl | rfl <;> simp [spend]
  k_steps
  · refine hret _ _ _ _ _ ⟨[], .num _, _, _, rfl, ⟨by assumption, by assumption, _, rfl⟩, trivial, ?_, ?_, fun _ h => nomatch h⟩ (by assumption) (by k_asm) (by rw [List.append_nil]; exact news_sub (by k_asm) (by ktd_sub))
    · omega
    · omega
  · rename Int => kk
    refine ⟨?_⟩
    refine item_tupleAny (by k_asm) (by k_mem) (by omega) (by show kk < 7; omega) (by omega) ?_
    intro x ex
    k_steps
    obtain ⟨d, hD, hl⟩ := picked (by omega) (by omega) ex
    refine hret _ _ _ _ _ ⟨[], d, _, _, rfl, hD, ok_leaf hl, ?_, ?_, fun _ h => nomatch h⟩ (by assumption) (by k_asm) (by rw [List.append_nil]; exact news_sub (by k_asm) (by ktd_sub))
    · omega
    · omega
  · rename Int => kk
    refine ⟨?_⟩
    refine item_tupleAny (by k_asm) (by k_mem) (by omega) (by show kk < 3; omega) (by omega) ?_
    intro x ex
    obtain ⟨S, tS, rfl, hS, hkey⟩ := namesAt (by omega) (by omega) ex
    k_steps
    refine' src_rangeZ ?hz ?hz' ?hG rfl ?F ?N ?hr ?_
    (case hG => assumption)
    (case F => k_asm)
    (case N => k_asm)
    (case hr => assumption)
    (case hz => omega)
    (case hz' => omega)
    intro n hnz g0
    refine GRest.turnsX (st := st) (ls := ls) (n1 := n1) (nw := nw) (by k_upd) (fun k oD a => ∃ ks kvs, oD.IsDictOf (PySem.strKind PP w) kvs ∧ KsIn w a.2.2 ks kvs ∧ (∀ q ∈ ks, q.2.ok (dp0 + 1)) ∧ ks.length ≤ k ∧ 0 ≤ a.1 ∧ a.1 ≤ i + 3 + bnd k (spend dp0) ∧ (∀ p ∈ nw ++ a.2.2, p.1 ≠ st) ∧ (ls, listObj vs n2) ∈ nw ++ a.2.2 ∧ ∀ p ∈ a.2.2, ∀ q ∈ nw, p.1 ≠ q.1) ⟨[], [], dct_isDictOf, (by unfold KsIn; rfl), (fun _ h => nomatch h), Nat.le_refl _, (by omega), (by simp only [bnd]; omega), (by simpa using hst), (by simpa using hls), (fun _ h => nomatch h)⟩ ?_ ?_
    · rintro oD ⟨i', t', own⟩ gr ⟨ks, kvs, hdo, hks, hok, hlen, b0, b1, hst', hls', hof⟩ D0 h0 tk0 g0 hG0 F0 N0 o1 ltD0
      dsimp only at hks b0 b1 hst' hls' hof N0 o1
      obtain ⟨es, nn, rfl⟩ := isDictOf_obj hdo
      have hsys := not_modules F0 (Top.nolimit (by k_asm)) ltD0
      k_steps
      have hb := bnd_le (by omega : n ≤ 2) hspA.1
      refine hret _ _ _ _ _ ⟨(D0, dictObj es nn) :: own, .dict ks, i', t', rfl, ?_, hok, b0, ?_, ?_⟩ hG0 (by k_asm) (news_sub (by k_asm) ?_)
      · unfold DIn; exact ⟨D0, es, nn, rfl, List.mem_cons_self, hsys, by omega, kvs, hdo, KsIn.mono (fun p hp => List.mem_cons_of_mem _ hp) hks⟩
      · omega
      · intro p hp
        have om := off1_mem o1
        rcases List.mem_cons.mp hp with rfl | hp
        · exact ⟨Ne.symm (om _ (gr.st (i', t', own))), fun q hq => Ne.symm (om q (gr.nw (i', t', own) q hq))⟩
        · exact ⟨hst' p (List.mem_append.mpr (.inr hp)), hof p hp⟩
      · exact gr.back (i', t', own)
    · rintro k hk' oD ⟨i', t', own⟩ gr ⟨ks, kvs, hdo, hks, hok, hlen, b0, b1, hst', hls', hof⟩ v0 I0 oI0 C0 oC0 D0 m0 h0 tk0 g0 E0 Post0 ⟨t0, rfl⟩ hC0 hx0 F0 N0 off0 ne0 hG0 hPost0
      dsimp only at hks b0 b1 hst' hls' hof N0
      have hb := bnd_lt (by omega : n ≤ 2) hk' hspA.1
      obtain ⟨e1, e2, e3⟩ : (@Ne Nat st I0) ∧ (@Ne Nat st C0) ∧ (@Ne Nat st D0) := off0.mem _ (gr.st (i', t', own))
      have hkl := KsIn.length hks
      obtain ⟨key, hkeyE⟩ := hkey (k : Int) (by omega) (by omega)
      refine turnD (knd := PySem.strKind PP w) (kvs := kvs) ne0 hdo (by rw [sizeLine_eq]; omega) hPost0 ?_
      k_steps
      · show (PySem.strKind PP w).is key.str _ = true
        rw [← hkeyE]; exact strKind_is _ _ _ _
      rename_i r9 o9 d9 i9 t9 h9 tk9 g9 D9 k9 j0 j1 s9 l9 f9 hG9 F9 N9
      rw [List.append_assoc] at s9 l9 N9
      refine ⟨_, _, _, oC0, m0, _, rfl, hG9, hC0, F9, N9, gr.off (i', t', own) (i9, t9, own ++ o9) o9 off0 rfl (fun p hp => ⟨f9 p hp _ List.mem_cons_self, f9 p hp _ (List.mem_cons_of_mem _ List.mem_cons_self), f9 p hp _ (List.mem_cons_of_mem _ (List.mem_cons_of_mem _ List.mem_cons_self))⟩), trivial, fun oD' hd' => ⟨⟨i9, t9, own ++ o9⟩, rfl, storedK ks key d9, _, hd', KsIn.stored (KsIn.mono (fun p hp => List.mem_append.mpr (.inl hp)) hks) (DIn.mono (fun p hp => List.mem_append.mpr (.inr hp)) D9), storedK_ok hok k9, Nat.le_trans storedK_len (Nat.succ_le_succ hlen), j0, ?_, s9, l9, ?_⟩⟩
      · simp only [bnd]; omega
      · intro p hp q hq
        rcases List.mem_append.mp hp with hp | hp
        · exact hof p hp q hq
        · exact f9 p hp q (List.mem_cons_of_mem _ (List.mem_cons_of_mem _ (List.mem_cons_of_mem _ (gr.nw (i', t', own) q hq))))
  · rename Int => kk
    obtain ⟨n, rfl⟩ : ∃ n : Nat, kk = n := ⟨kk.toNat, by omega⟩
    refine src_rangeN (n := n) (by omega) (by assumption) rfl (by k_asm) (by k_asm) (by assumption) ?_
    intro g0
    refine GRest.turnsX (st := st) (ls := ls) (n1 := n1) (nw := nw) (by k_upd) (fun k oD a => ∃ ds ys, oD = LCg.lst ys ∧ DsIn w a.2.2 ds ys ∧ (∀ d ∈ ds, d.ok (dp0 + 1)) ∧ ds.length = k ∧ ys.length = k ∧ 0 ≤ a.1 ∧ a.1 ≤ i + 3 + bnd k (spend dp0) ∧ (∀ p ∈ nw ++ a.2.2, p.1 ≠ st) ∧ (ls, listObj vs n2) ∈ nw ++ a.2.2 ∧ ∀ p ∈ a.2.2, ∀ q ∈ nw, p.1 ≠ q.1) ⟨[], [], rfl, (by unfold DsIn; rfl), (fun _ h => nomatch h), rfl, rfl, (by omega), (by simp only [bnd]; omega), (by simpa using hst), (by simpa using hls), (fun _ h => nomatch h)⟩ ?_ ?_
    · rintro oD ⟨i', t', own⟩ gr ⟨ds, ys, rfl, hds, hok, hlen, hl2, b0, b1, hst', hls', hof⟩ D0 h0 tk0 g0 hG0 F0 N0 o1 ltD0
      dsimp only at hds b0 b1 hst' hls' hof N0 o1
      k_steps
      have hb := bnd_le (by omega : n ≤ 2) hspA.1
      refine hret _ _ _ _ _ ⟨(D0, LCg.lst ys) :: own, .list ds, i', t', rfl, ?_, hok, b0, ?_, ?_⟩ hG0 (by k_asm) (news_sub (by k_asm) ?_)
      · unfold DIn; exact ⟨D0, ys, ys.length, rfl, List.mem_cons_self, by omega, DsIn.mono (fun p hp => List.mem_cons_of_mem _ hp) hds⟩
      · omega
      · intro p hp
        have om := off1_mem o1
        rcases List.mem_cons.mp hp with rfl | hp
        · exact ⟨Ne.symm (om _ (gr.st (i', t', own))), fun q hq => Ne.symm (om q (gr.nw (i', t', own) q hq))⟩
        · exact ⟨hst' p (List.mem_append.mpr (.inr hp)), hof p hp⟩
      · exact gr.back (i', t', own)
    · rintro k hk' oD ⟨i', t', own⟩ gr ⟨ds, ys, rfl, hds, hok, hlen, hl2, b0, b1, hst', hls', hof⟩ v0 I0 oI0 C0 oC0 D0 m0 h0 tk0 g0 E0 Post0 ⟨t0, rfl⟩ hC0 hx0 F0 N0 off0 ne0 hG0 hPost0
      dsimp only at hds b0 b1 hst' hls' hof N0
      have hb := bnd_lt (by omega : n ≤ 2) hk' hspA.1
      obtain ⟨e1, e2, e3⟩ : (@Ne Nat st I0) ∧ (@Ne Nat st C0) ∧ (@Ne Nat st D0) := off0.mem _ (gr.st (i', t', own))
      refine turnL (ys := ys) ne0 (by rw [sizeLine_eq]; omega) hPost0 ?_
      k_steps
      rename_i r9 o9 d9 i9 t9 h9 tk9 g9 D9 k9 j0 j1 s9 l9 f9 hG9 F9 N9
      rw [List.append_assoc] at s9 l9 N9
      refine ⟨_, _, _, oC0, m0, _, rfl, hG9, hC0, F9, N9, gr.off (i', t', own) (i9, t9, own ++ o9) o9 off0 rfl (fun p hp => ⟨f9 p hp _ List.mem_cons_self, f9 p hp _ (List.mem_cons_of_mem _ List.mem_cons_self), f9 p hp _ (List.mem_cons_of_mem _ (List.mem_cons_of_mem _ List.mem_cons_self))⟩), trivial, ⟨i9, t9, own ++ o9⟩, rfl, ds ++ [d9], ys ++ [r9], rfl, DsIn.snoc (DIn.mono (fun p hp => List.mem_append.mpr (.inr hp)) D9) (DsIn.mono (fun p hp => List.mem_append.mpr (.inl hp)) hds), ?_, by simp [hlen], by simp [hl2], j0, ?_, s9, l9, ?_⟩
      · intro d hd
        rcases List.mem_append.mp hd with hd | hd
        · exact hok d hd
        · rw [List.mem_singleton.mp hd]; exact k9
      · simp only [bnd]; omega
      · intro p hp q hq
        rcases List.mem_append.mp hp with hp | hp
        · exact hof p hp q hq
        · exact f9 p hp q (List.mem_cons_of_mem _ (List.mem_cons_of_mem _ (List.mem_cons_of_mem _ (gr.nw (i', t', own) q hq))))

end Mine

end

section
open PySem PySem.W PyProof.Rows
set_option linter.unusedVariables false
namespace Mine
local macro_rules | `(tactic| walk_at "zz") => `(tactic| fail)
local macro_rules | `(tactic| walk_at "zz") => `(tactic| fail)
local macro_rules | `(tactic| walk_at "zz") => `(tactic| fail)
local macro_rules | `(tactic| walk_at "zz") => `(tactic| fail)
local macro_rules | `(tactic| walk_at "zz") => `(tactic| fail)
local macro_rules | `(tactic| walk_at "zz") => `(tactic| fail)
local macro_rules | `(tactic| walk_at "zz") => `(tactic| fail)
local macro_rules | `(tactic| walk_at "zz") => `(tactic| fail)
local macro_rules | `(tactic| walk_at "zz") => `(tactic| fail)
local macro_rules | `(tactic| walk_at "zz") => `(tactic| fail)
local macro_rules | `(tactic| walk_at "zz") => `(tactic| fail)
local macro_rules | `(tactic| walk_at "zz") => `(tactic| fail)
local macro_rules | `(tactic| walk_at "zz") => `(tactic| fail)
local macro_rules | `(tactic| walk_at "zz") => `(tactic| fail)
local macro_rules | `(tactic| walk_at "zz") => `(tactic| fail)
local macro_rules | `(tactic| walk_at "zz") => `(tactic| fail)
theorem rstEqD : True := by
  w_top off
  trivial
local macro_rules | `(tactic| k_mem) => `(tactic| assumption)
local macro_rules | `(tactic| k_all) => `(tactic| with_reducible assumption)
local macro_rules | `(tactic| ktr_enter) => `(tactic| (k_dflt (refine' code_def ?k1 ?k2 ?k3 ?k4 ?k5 ?kA ?kF ?kK ?k6 ?k7 ?k8 ?k9 ?kB ?_ ?c2 ?c3 ?c4 ?c5; (case kA => exact rfl); (case kF => first | exact rfl | assumption); (case kK => first | exact rfl | assumption); (case k1 => k_asm); (case k2 => k_asm); (case k3 => k_asm); (case k4 => k_asm); (case k5 => k_asm); (case k6 => k_is); (case k7 => k_is); (case k8 => ((try dsimp only [topA]); omega)); (case k9 => exact BindsTo.of_eq rfl); (case c5 => decide); (case kB => exact locs rfl); (case c2 => exact rfl); (case c3 => exact rfl); (case c4 => exact rfl); k_whole; intro g' L' h' FG' F' N' B' X' T'; (try dsimp only); (try k_fold))))
local macro_rules | `(tactic| ktd_sub) => `(tactic| (intro p9 hp9; repeat (first | exact hp9 | refine List.mem_cons_of_mem _ ?_)))
local macro_rules | `(tactic| ktd_rel) => `(tactic| first | assumption | (refine' DIn.mono ?hs ?hh; (case hh => assumption); (case hs => ktd_sub)) | (refine' DsIn.mono ?hs ?hh; (case hh => assumption); (case hs => ktd_sub)) | (refine' KsIn.mono ?hs ?hh; (case hh => assumption); (case hs => ktd_sub)))
local macro_rules | `(tactic| ktr_room) => `(tactic| (simp only [depth_deeper, depth_in1, topA] at *; omega))
local macro_rules | `(tactic| ktr_units) => `(tactic| (simp only [units_deeper, units_in1, topA] at *; omega))
local macro_rules | `(tactic| ktr_unf) => `(tactic| (k_dflt (refine' code_defC ?k1 ?k2 ?k3 ?k4 ?k5 ?kA ?kF ?kK ?k6 ?k7 ?k8 ?k9 ?kB ?kD ?_ ?c2 ?c3 ?c4; (case kA => exact rfl); (case kF => first | exact rfl | assumption); (case kK => first | exact rfl | assumption); (case k1 => k_asm); (case k2 => k_asm); (case k3 => k_asm); (case k4 => k_asm); (case k5 => k_asm); (case k6 => k_is); (case k7 => k_is); (case k8 => ((try dsimp only [topA]); omega)); (case k9 => exact BindsTo.of_eq rfl); (case kB => exact rfl); (case kD => decide +kernel); (case c2 => exact rfl); (case c3 => exact rfl); (case c4 => exact rfl); k_whole; intro g' L' h' tk' cells' FG' F' N' Y' B' X' T' l1; (try k_lt l1); k_cells Y'; (try simp only [List.cons_append, List.nil_append] at N'); (try dsimp only); (try k_fold))))
local macro_rules | `(tactic| walk_at "call ref") => `(tactic| (k_here; (with_reducible show wpAny _ _ (call (Value.ref 956) _) _ _ _); k_dflt (refine' use_call (kind_call _ _ _ _ ?hD) ?B ?F ?X ?N ?T ?hf ?hk ?hd ?hu ?hG ?_; (case B => k_asm); (case F => k_asm); (case X => k_asm); (case N => k_asm); (case T => k_asm); (case hf => first | exact rfl | assumption); (case hk => first | exact rfl | assumption); (case hG => assumption); (case hD => ktd_rel); (case hd => ktr_room); (case hu => ktr_units); k_whole; intro r9 nw9 h9 tk9 g9 p9 hG9 F9 N9; obtain ⟨p9, q9⟩ := p9; obtain ⟨t9, p9⟩ := p9; replace q9 := Eq.symm q9; subst q9; subst p9; (try dsimp only); (try k_fold))))
set_option maxRecDepth 100000 in
set_option maxHeartbeats 8000000 in
theorem isin_bool {w : World} {nw : List (Addr × Obj)} {d : D} {v : Value} {p : Program} {loose : List Str} {mean : ExcName → Option Value} {mg mb : Str → Option Value} {A : Around} {h₀ : Heap} {L : Addr} {m : Str → Option Value} {s : Shared} {Q E : Value → Shared → Prop}
    (F : Fr h₀ L s.heap m) (X : (kf.heap_1 w.params).In h₀) (N : News h₀ L s.heap nw) (T' : Top p loose mean mg mb h₀) (hD : DIn w nw d v) {b : Bool} (hb : d.isTru = b) (h : ∀ tk, Q (.bool b) { s with toks := tk }) :
    wpAny (model PySem.Challenge.rw_eq0021_01.row.prog w) A (call (.builtin "isinstance") [v, .type "bool"]) Q E s := by
  subst hb
  cases d <;> unfold DIn at hD <;> (try obtain ⟨_, _, t, rfl⟩ := hD) <;> (try obtain ⟨t, rfl⟩ := hD) <;> (try obtain ⟨_, _, _, rfl, hm, _⟩ := hD) <;> (try subst hD)
  all_goals (k_steps; exact h _)
set_option maxRecDepth 100000 in
set_option maxHeartbeats 8000000 in
theorem isin_list {w : World} {nw : List (Addr × Obj)} {d : D} {v : Value} {p : Program} {loose : List Str} {mean : ExcName → Option Value} {mg mb : Str → Option Value} {A : Around} {h₀ : Heap} {L : Addr} {m : Str → Option Value} {s : Shared} {Q E : Value → Shared → Prop}
    (F : Fr h₀ L s.heap m) (X : (kf.heap_1 w.params).In h₀) (N : News h₀ L s.heap nw) (T' : Top p loose mean mg mb h₀) (hD : DIn w nw d v) {b : Bool} (hb : d.isList = b) (h : ∀ tk, Q (.bool b) { s with toks := tk }) :
    wpAny (model PySem.Challenge.rw_eq0021_01.row.prog w) A (call (.builtin "isinstance") [v, .type "list"]) Q E s := by
  subst hb
  cases d <;> unfold DIn at hD <;> (try obtain ⟨_, _, t, rfl⟩ := hD) <;> (try obtain ⟨t, rfl⟩ := hD) <;> (try obtain ⟨_, _, _, rfl, hm, _⟩ := hD) <;> (try subst hD)
  all_goals (k_steps; exact h _)
set_option maxRecDepth 100000 in
set_option maxHeartbeats 8000000 in
theorem isin_dict {w : World} {nw : List (Addr × Obj)} {d : D} {v : Value} {p : Program} {loose : List Str} {mean : ExcName → Option Value} {mg mb : Str → Option Value} {A : Around} {h₀ : Heap} {L : Addr} {m : Str → Option Value} {s : Shared} {Q E : Value → Shared → Prop}
    (F : Fr h₀ L s.heap m) (X : (kf.heap_1 w.params).In h₀) (N : News h₀ L s.heap nw) (T' : Top p loose mean mg mb h₀) (hD : DIn w nw d v) {b : Bool} (hb : d.isDict = b) (h : ∀ tk, Q (.bool b) { s with toks := tk }) :
    wpAny (model PySem.Challenge.rw_eq0021_01.row.prog w) A (call (.builtin "isinstance") [v, .type "dict"]) Q E s := by
  subst hb
  cases d <;> unfold DIn at hD <;> (try obtain ⟨_, _, t, rfl⟩ := hD) <;> (try obtain ⟨t, rfl⟩ := hD) <;> (try obtain ⟨_, _, _, rfl, hm, _⟩ := hD) <;> (try subst hD)
  all_goals (k_steps; exact h _)
set_option maxRecDepth 100000 in
set_option maxHeartbeats 8000000 in
theorem nlf {d : D} (h : d.isLeaf = false) : (!d.isLeaf) = true := by rw [h]; rfl
theorem nlt {d : D} (h : d.isLeaf = true) : (!d.isLeaf) = false := by rw [h]; rfl
set_option maxRecDepth 100000 in
set_option maxHeartbeats 8000000 in
theorem isin_ld {w : World} {nw : List (Addr × Obj)} {d : D} {v : Value} {p : Program} {loose : List Str} {mean : ExcName → Option Value} {mg mb : Str → Option Value} {A : Around} {h₀ : Heap} {L : Addr} {m : Str → Option Value} {s : Shared} {Q E : Value → Shared → Prop} {t : Addr} {k : Nat}
    (F : Fr h₀ L s.heap m) (X : (kf.heap_1 w.params).In h₀) (N : News h₀ L s.heap nw) (T' : Top p loose mean mg mb h₀) (hm2 : (t, ({ cls := .type "tuple", data := .seq [.type "list", .type "dict"].toArray k } : Obj)) ∈ nw) (hD : DIn w nw d v) {b : Bool} (hb : (!d.isLeaf) = b) (h : ∀ tk, Q (.bool b) { s with toks := tk }) :
    wpAny (model PySem.Challenge.rw_eq0021_01.row.prog w) A (call (.builtin "isinstance") [v, .ref t]) Q E s := by
  subst hb
  cases d <;> unfold DIn at hD <;> (try obtain ⟨_, _, t, rfl⟩ := hD) <;> (try obtain ⟨t, rfl⟩ := hD) <;> (try obtain ⟨_, _, _, rfl, hm, _⟩ := hD) <;> (try subst hD)
  all_goals (k_steps; exact h _)

end Mine

end

section
open PySem PySem.W PyProof.Rows
set_option linter.unusedVariables false
namespace Mine
theorem rstEq1 : True := by
  w_top off
  trivial
local macro_rules | `(tactic| k_mem) => `(tactic| assumption)
local macro_rules | `(tactic| k_all) => `(tactic| with_reducible assumption)
local macro_rules | `(tactic| ktr_enter) => `(tactic| (k_dflt (refine' code_def ?k1 ?k2 ?k3 ?k4 ?k5 ?kA ?kF ?kK ?k6 ?k7 ?k8 ?k9 ?kB ?_ ?c2 ?c3 ?c4 ?c5; (case kA => exact rfl); (case kF => first | exact rfl | assumption); (case kK => first | exact rfl | assumption); (case k1 => k_asm); (case k2 => k_asm); (case k3 => k_asm); (case k4 => k_asm); (case k5 => k_asm); (case k6 => k_is); (case k7 => k_is); (case k8 => ((try dsimp only [topA]); omega)); (case k9 => exact BindsTo.of_eq rfl); (case c5 => decide); (case kB => exact locs rfl); (case c2 => exact rfl); (case c3 => exact rfl); (case c4 => exact rfl); k_whole; intro g' L' h' FG' F' N' B' X' T'; (try dsimp only); (try k_fold))))
local macro_rules | `(tactic| ktd_sub) => `(tactic| (intro p9 hp9; repeat (first | exact hp9 | refine List.mem_cons_of_mem _ ?_)))
local macro_rules | `(tactic| ktd_rel) => `(tactic| first | assumption | (refine' DIn.mono ?hs ?hh; (case hh => assumption); (case hs => ktd_sub)) | (refine' DsIn.mono ?hs ?hh; (case hh => assumption); (case hs => ktd_sub)) | (refine' KsIn.mono ?hs ?hh; (case hh => assumption); (case hs => ktd_sub)))
local macro_rules | `(tactic| ktr_room) => `(tactic| (simp only [depth_deeper, depth_in1, topA] at *; omega))
local macro_rules | `(tactic| ktr_units) => `(tactic| (simp only [units_deeper, units_in1, topA] at *; omega))
local macro_rules | `(tactic| ktr_unf) => `(tactic| (k_dflt (refine' code_defC ?k1 ?k2 ?k3 ?k4 ?k5 ?kA ?kF ?kK ?k6 ?k7 ?k8 ?k9 ?kB ?kD ?_ ?c2 ?c3 ?c4; (case kA => exact rfl); (case kF => first | exact rfl | assumption); (case kK => first | exact rfl | assumption); (case k1 => k_asm); (case k2 => k_asm); (case k3 => k_asm); (case k4 => k_asm); (case k5 => k_asm); (case k6 => k_is); (case k7 => k_is); (case k8 => ((try dsimp only [topA]); omega)); (case k9 => exact BindsTo.of_eq rfl); (case kB => exact rfl); (case kD => decide +kernel); (case c2 => exact rfl); (case c3 => exact rfl); (case c4 => exact rfl); k_whole; intro g' L' h' tk' cells' FG' F' N' Y' B' X' T' l1; (try k_lt l1); k_cells Y'; (try simp only [List.cons_append, List.nil_append] at N'); (try dsimp only); (try k_fold))))
local macro_rules | `(tactic| walk_at "call ref") => `(tactic| (k_here; (with_reducible show wpAny _ _ (call (Value.ref 956) _) _ _ _); k_dflt (refine' use_call (kind_call _ _ _ _ ?hD) ?B ?F ?X ?N ?T ?hf ?hk ?hd ?hu ?hG ?_; (case B => k_asm); (case F => k_asm); (case X => k_asm); (case N => k_asm); (case T => k_asm); (case hf => first | exact rfl | assumption); (case hk => first | exact rfl | assumption); (case hG => assumption); (case hD => ktd_rel); (case hd => ktr_room); (case hu => ktr_units); k_whole; intro r9 nw9 h9 tk9 g9 p9 hG9 F9 N9; obtain ⟨p9, q9⟩ := p9; obtain ⟨t9, p9⟩ := p9; replace q9 := Eq.symm q9; subst q9; subst p9; (try dsimp only); (try k_fold))))
local macro_rules | `(tactic| walk_at "last exec While") => `(tactic| (k_here; refine Halt.mk' ?_))
local macro_rules | `(tactic| k_mem) => `(tactic| first | assumption | exact List.Mem.head _ | (refine' List.Mem.tail _ ?_; k_mem))
local macro_rules | `(tactic| walk_at "truthy ref") => `(tactic| (k_here; (with_reducible show wpAny _ _ (truthy (Value.ref _)) _ _ _); k_dflt (refine' truthy_led ?N ?hm ?hf ?hb ?_; (case N => k_asm); (case hm => k_mem); (case hf => simp only [List.length_append, List.length_cons, List.length_nil]; omega); (case hb => first | exact snoc_ne _ _ | rfl); k_whole; intro tk9)))
local macro_rules | `(tactic| walk_at "call builtin:list.pop") => `(tactic| (k_here; (with_reducible show wpAny _ _ (call (Value.builtin _) [Value.ref _]) _ _ _); k_dflt (refine' pop_led ?F ?N ?o ?z ?_; (case F => k_asm); (case N => k_asm); (case o => with_reducible assumption); (case z => omega); k_whole; intro h9 n9 F9 N9)))
local macro_rules | `(tactic| walk_at "call builtin:isinstance") => `(tactic| (k_here; (with_reducible show wpAny _ _ (call _ [_, Value.type "bool"]) _ _ _); k_dflt (refine' isin_bool (d := _) ?F ?X ?N ?T' ?hD ?hb ?_; (case F => k_asm); (case X => k_asm); (case N => k_asm); (case T' => k_asm); (case hD => ktd_rel); (case hb => first | assumption | rfl); k_whole; intro tk9)))
local macro_rules | `(tactic| walk_at "call builtin:isinstance") => `(tactic| (k_here; (with_reducible show wpAny _ _ (call _ [_, Value.type "list"]) _ _ _); k_dflt (refine' isin_list (d := _) ?F ?X ?N ?T' ?hD ?hb ?_; (case F => k_asm); (case X => k_asm); (case N => k_asm); (case T' => k_asm); (case hD => ktd_rel); (case hb => first | assumption | rfl); k_whole; intro tk9)))
local macro_rules | `(tactic| walk_at "call builtin:isinstance") => `(tactic| (k_here; (with_reducible show wpAny _ _ (call _ [_, Value.type "dict"]) _ _ _); k_dflt (refine' isin_dict (d := _) ?F ?X ?N ?T' ?hD ?hb ?_; (case F => k_asm); (case X => k_asm); (case N => k_asm); (case T' => k_asm); (case hD => ktd_rel); (case hb => first | assumption | rfl); k_whole; intro tk9)))
local macro_rules | `(tactic| walk_at "call builtin:isinstance") => `(tactic| (k_here; (with_reducible show wpAny _ _ (call _ [_, Value.ref _]) _ _ _); k_dflt (refine' isin_ld (d := _) ?F ?X ?N ?T' ?hm ?hD ?hb ?_; (case F => k_asm); (case X => k_asm); (case N => k_asm); (case T' => k_asm); (case hm => k_mem); (case hD => ktd_rel); (case hb => first | exact nlf (by assumption) | exact nlt (by assumption)); k_whole; intro tk9)))
local macro_rules | `(tactic| walk_at "call builtin:len") => `(tactic| (k_here; (with_reducible show wpAny _ _ (call (Value.builtin "len") [Value.ref _]) _ _ _); (refine len_list (News.isList (by k_asm) (by k_mem)) (by (try rw [List.size_toArray]); omega) ?_); (try rw [List.size_toArray])))
local macro_rules | `(tactic| walk_at "call type:zip") => `(tactic| (k_here; refine Halt.mk' ?_))
local macro_rules | `(tactic| walk_at "call builtin:list.extend") => `(tactic| (k_here; refine Halt.mk' ?_))
local macro_rules | `(tactic| walk_at "eval GeneratorExp") => `(tactic| (k_here; refine Halt.mk' ?_))
local macro_rules | `(tactic| walk_at "compareOp NotEq ref ref") => `(tactic| (k_here; refine Halt.mk' ?_))
local macro_rules | `(tactic| walk_at "getMethod ref") => `(tactic| (k_here; (with_reducible show wpAny _ _ (getMethod (Value.ref _) (PySem.Str.ofString "keys") _) _ _ _); k_dflt (refine' dict_method ?N ?m PySem.F.slot_dict_keys PySem.F.type_dict_keys ?_; (case N => k_asm); (case m => k_mem))))
local macro_rules | `(tactic| walk_at "getMethod ref") => `(tactic| (k_here; (with_reducible show wpAny _ _ (getMethod (Value.ref _) (PySem.Str.ofString "items") _) _ _ _); k_dflt (refine' dict_method ?N ?m PySem.F.slot_dict_items PySem.F.type_dict_items ?_; (case N => k_asm); (case m => k_mem))))
local macro_rules | `(tactic| walk_at "getMethod ref") => `(tactic| (k_here; (with_reducible show wpAny _ _ (getMethod (Value.ref _) (PySem.Str.ofString "extend") _) _ _ _); k_dflt (refine' kl_method ?N ?m PySem.F.slot_list_extend PySem.F.type_list_extend ?_; (case N => k_asm); (case m => k_mem))))
local macro_rules | `(tactic| walk_at "call builtin:dict.keys") => `(tactic| (k_here; (with_reducible show wpAny _ _ (call (Value.builtin _) [Value.ref _]) _ _ _); k_dflt (refine' keys_led ?F ?N ?m ?d ?s ?_; (case F => k_asm); (case N => k_asm); (case m => k_mem); (case d => with_reducible assumption); (case s => with_reducible assumption); k_whole; intro v9 h9 F9 N9 l9; (try k_lt l9))))
local macro_rules | `(tactic| walk_at "call builtin:dict.items") => `(tactic| (k_here; (with_reducible show wpAny _ _ (call (Value.builtin _) [Value.ref _]) _ _ _); k_dflt (refine' items_led ?F ?N ?m ?d ?s ?_; (case F => k_asm); (case N => k_asm); (case m => k_mem); (case d => with_reducible assumption); (case s => with_reducible assumption); k_whole; intro v9 h9 F9 N9 l9; (try k_lt l9))))
local macro_rules | `(tactic| walk_at "pyIter ref") => `(tactic| (k_here; refine Halt.mk' ?_))
local macro_rules | `(tactic| walk_at "subscriptTail Name Name ref str") => `(tactic| (k_here; (with_reducible show wpAny _ _ (subscriptTail _ _ (Value.ref _) (Value.str _ _)) _ _ _); k_dflt (refine' item_dictT ?N ?hm ?hd ?hv ?_ ?hs ?hg; (case N => k_asm); (case hm => k_mem); (case hd => with_reducible assumption); (case hv => with_reducible assumption); (case hs => with_unfolding_all rfl); (case hg => (intro _; with_unfolding_all rfl)); k_whole)))
local macro_rules | `(tactic| walk_at "eval Name") => `(tactic| (k_here; (with_reducible show wpAny _ _ (eval (Expr.Name _ _) (genEnv _ _ _ _ _ _)) _ _ _); k_dflt (refine' gname_L ?F ?L ?v ?_ ?a ?b ?c; (case b => rfl); (case a => rfl); (case c => decide); (case F => k_asm); (case L => rfl); (case v => with_reducible assumption); k_whole)))
local macro_rules | `(tactic| walk_at "eval Name") => `(tactic| (k_here; (with_reducible show wpAny _ _ (eval (Expr.Name _ _) (genEnv _ _ _ _ _ _)) _ _ _); k_dflt (refine' gname_F ?N ?l ?m ?d ?_ ?a ?b ?c ?e; (case b => rfl); (case a => rfl); (case c => decide); (case e => decide); (case N => k_asm); (case l => rfl); (case m => k_mem); (case d => with_reducible assumption); k_whole)))
local macro_rules | `(tactic| walk_at "eval Name") => `(tactic| (k_here; (with_reducible show wpAny _ _ (eval (Expr.Name _ _) (genEnv _ _ _ _ _ _)) _ _ _); k_dflt (refine' gname_K ?F ?X ?T ?g ?v ?_ ?a ?b ?c; (case b => rfl); (case a => rfl); (case c => decide); (case F => k_asm); (case X => k_asm); (case T => k_asm); (case g => rfl); (case v => k_is); k_whole)))
abbrev mE (D : Addr) (vl : Value) : Str → Option Value := fun y => if y = Str.ofString "left" then some vl else if y = Str.ofString "pairs" then some (.ref D) else none
def EqJ (w : World) (nw : List (Addr × Obj)) (cR D : Addr) (L0 : Addr) (b : Bool) (n : Nat) (m₁ : Str → Option Value) (news₁ : List (Addr × Obj)) : Prop :=
  ∃ vl vr oR ps' own stk ts c, m₁ = mE D vl ∧ news₁ = (D, listObj ts c) :: (cR, oR) :: (872, tabObj ps') :: (nw ++ own) ∧ oR.data = .cell (some vr) ∧ TriplesOk ps'.toList ∧ (∀ p ∈ own, (@LT.lt Nat _ L0 p.1) ∧ p.1 ≠ D ∧ p.1 ≠ cR) ∧ StkIn w (nw ++ own) stk ts ∧ eqS stk = b ∧ n = stkSize stk ∧ stkSize stk ≤ 64
theorem okUp : ∀ (n : Nat) (d : D), d.ok n → d.ok (n + 1)
  | 0, d, h => absurd h (by simp [D.ok])
  | n + 1, .list ds, h => fun x hx => okUp n x (h x hx)
  | n + 1, .dict ks, h => fun x hx => okUp n x.2 (h x hx)
  | n + 1, .num _, _ => trivial
  | n + 1, .txt _, _ => trivial
  | n + 1, .tru _, _ => trivial
  | n + 1, .nil, _ => trivial
theorem okUp2 {n : Nat} {xs : List (Key × D)} {q : Key × D} (h : (D.dict xs).ok n) (e : q ∈ xs) : q.2.ok n := by
  cases n with
  | zero => exact absurd h (by simp [D.ok])
  | succ n => exact okUp n q.2 (h q e)
theorem okL {n i : Nat} {xs : List D} {d : D} (h : (D.list xs).ok n) (e : xs[i]? = some d) : d.ok n := by
  cases n with
  | zero => exact absurd h (by simp [D.ok])
  | succ n =>
    have h1 : D.ok n d := h d (List.mem_of_getElem? e)
    exact okUp n d h1
set_option maxRecDepth 100000 in
set_option maxHeartbeats 8000000 in
theorem equal_call (w : World) (nw : List (Addr × Obj)) (ps : Array Value) (d1 d2 : D) (v1 v2 : Value) (o1 : d1.ok 3) (o2 : d2.ok 3) (h1 : DIn w nw d1 v1) (h2 : DIn w nw d2 v2) (hps : TriplesOk ps.toList) (hoff : ∀ p ∈ nw, p.1 ≠ 872) :
    CallsTo w 877 [v1, v2] ((872, tabObj ps) :: nw) 50 200 (fun r nw' => r = .bool (eqD d1 d2) ∧ ∃ ps' own, nw' = (872, tabObj ps') :: (nw ++ own) ∧ TriplesOk ps'.toList ∧ ∀ p ∈ own, p.1 ≠ 872 ∧ ∀ q ∈ nw, p.1 ≠ q.1) := by
  intro fl p loose mean mg mb dp un gd env outer A₀ base h₀ L m s Q E HA hG hret
  obtain ⟨B, F, X, N, T, hf, hk, hd, hu⟩ := HA
  refine wpAny_call ?_
  ktr_unf
  rename_i gH LH hH tkH FGH FH BH XH TH lxH oR hR NH
  replace hR : oR.data = .cell (some v2) := hR
  have hnwL : ∀ q ∈ nw, @LT.lt Nat _ q.1 LH := tb_ltOf lxH.2
  have h872 : @LT.lt Nat _ 872 LH := lxH.1
  k_steps
  rename_i T0 hT lxT l0 hl lxl hh F1 N1
  have F2 : Fr gH LH hh (mE l0 v1) := by
    have e : (fun y => if y = Str.ofString "pairs" then some (Value.ref l0) else if y = Str.ofString "left" then some v1 else none) = mE l0 v1 := by
      funext y
      by_cases e1 : y = Str.ofString "pairs"
      · subst e1
        simp only [mE, if_true]
        rw [if_neg (by decide +kernel)]
      · simp only [mE, if_neg e1]
    rw [← e]
    exact F1
  have a0 : @LT.lt Nat _ LH T0 := Nat.lt_of_succ_lt lxT.1
  have a1 : @LT.lt Nat _ T0 l0 := lxl.1
  refine ⟨?_⟩
  refine While_G (EqJ w nw (LH + 1) l0 LH (eqD d1 d2)) (n₀ := d1.size) hG F2 (news := (l0, listObj [.ref T0] 0) :: (LH + 1, oR) :: (872, tabObj ps) :: (nw ++ [(T0, pairO v1 v2)])) (news_sub N1 ?_) ⟨v1, v2, oR, ps, [(T0, pairO v1 v2)], [(d1, d2)], [.ref T0], 0, rfl, rfl, hR, hps, ?_, ?_, ?_, ?_, ?_⟩ ?_
  · intro q hq
    rcases List.mem_cons.mp hq with rfl | hq
    · exact .head _
    · rcases List.mem_cons.mp hq with rfl | hq
      · exact .tail _ (.tail _ (.head _))
      · rcases List.mem_cons.mp hq with rfl | hq
        · exact .tail _ (.tail _ (.tail _ (.head _)))
        · rcases List.mem_append.mp hq with hq | hq
          · exact .tail _ (.tail _ (.tail _ (.tail _ hq)))
          · rw [List.mem_singleton.mp hq]; exact .tail _ (.head _)
  · intro q hq
    rw [List.mem_singleton.mp hq]
    exact ⟨a0, Nat.ne_of_lt a1, Nat.ne_of_gt lxT.1⟩
  · have sub : ∀ q ∈ nw, q ∈ nw ++ [(T0, pairO v1 v2)] := fun q hq => List.mem_append.mpr (.inl hq)
    exact ⟨T0, [], v1, v2, rfl, List.mem_append.mpr (.inr (.head _)), h1.mono sub, h2.mono sub, o1, o2, rfl⟩
  · simp [eqS]
  · simp [stkSize]
  · have := size_le 3 h1 o1
    simpa [stkSize] using this
  · intro n m₁ news₁ h₁ tk₁ g₁ G₁ F₁ N₁ J₁
    obtain ⟨vl, vr, oC, ps', own, stk, ts, c, rfl, rfl, hC, hps', hown, hstk, heq, rfl, hsz⟩ := J₁
    have lens := StkIn.len hstk
    have lenb := stkLen_le stk
    have offR : ∀ q ∈ (872, tabObj ps') :: (nw ++ own), q.1 ≠ LH + 1 := by
      intro q hq
      rcases List.mem_cons.mp hq with rfl | hq
      · exact Nat.ne_of_lt (Nat.lt_succ_of_lt h872)
      · rcases List.mem_append.mp hq with hq | hq
        · exact Nat.ne_of_lt (Nat.lt_succ_of_lt (hnwL q hq))
        · exact (hown q hq).2.2
    have neD : (@Ne Nat (LH + 1) l0) := Nat.ne_of_lt (Nat.lt_trans lxT.1 a1)
    have offDg : ∀ o : Obj, ∀ q ∈ (LH + 1, o) :: (872, tabObj ps') :: (nw ++ own), q.1 ≠ l0 := by
      intro o q hq
      rcases List.mem_cons.mp hq with rfl | hq
      · exact neD
      · rcases List.mem_cons.mp hq with rfl | hq
        · exact Nat.ne_of_lt (Nat.lt_trans h872 (Nat.lt_trans a0 a1))
        · rcases List.mem_append.mp hq with hq | hq
          · exact Nat.ne_of_lt (Nat.lt_trans (hnwL q hq) (Nat.lt_trans a0 a1))
          · exact (hown q hq).2.1
    have offD := offDg oC
    have hfin : ∀ q ∈ own, q.1 ≠ 872 ∧ ∀ x ∈ nw, q.1 ≠ x.1 := fun q hq => ⟨Nat.ne_of_gt (Nat.lt_trans h872 (hown q hq).1), fun x hx => Nat.ne_of_gt (Nat.lt_trans (hnwL x hx) (hown q hq).1)⟩
    cases stk with
    | nil =>
      obtain rfl : ts = [] := hstk
      k_steps
      refine hret _ ((872, tabObj ps') :: (nw ++ own)) _ _ _ ⟨congrArg Value.bool (heq.symm ▸ rfl : true = eqD d1 d2), ps', own, rfl, hps', hfin⟩ (by assumption) (by k_asm) (news_sub (by k_asm) fun q hq => .tail _ (.tail _ hq))
    | cons de stk =>
      obtain ⟨d, e⟩ := de
      obtain ⟨t, ts', a, b, rfl, hmt, hda, heb, od, oe, hstk'⟩ := hstk
      have lt1 : ts'.length < 900 := by simp only [List.length_append, List.length_cons, List.length_nil] at lens lenb; omega
      have hS : eqS ((d, e) :: stk) = (eqD d e && eqS stk) := rfl
      have hz : stkSize ((d, e) :: stk) = d.size + stkSize stk := rfl
      have hret0 : eqD d e = false → false = eqD d1 d2 := fun h1 => by rw [← heq, hS, h1]; rfl
      have hgo : eqD d e = true → eqS stk = eqD d1 d2 := fun h1 => by rw [← heq, hS, h1]; rfl
      have hlt : stkSize stk < stkSize ((d, e) :: stk) := by rw [hz]; have := d.size_pos; omega
      have hmE : ∀ v, (fun y => if y = Str.ofString "left" then some v else mE l0 vl y) = mE l0 v := fun v => by
        funext y
        by_cases e1 : y = Str.ofString "left"
        · simp only [mE, if_pos e1]
        · simp only [mE, if_neg e1]
      have hJn : ∀ {c' : Nat} {oC' : Obj}, oC'.data = .cell (some b) → eqD d e = true → EqJ w nw (LH + 1) l0 LH (eqD d1 d2) (stkSize stk) (mE l0 a) ((l0, listObj ts' c') :: (LH + 1, oC') :: (872, tabObj ps') :: (nw ++ own)) := fun h1 h2 =>
        ⟨a, b, _, ps', own, stk, ts', _, rfl, rfl, h1, hps', hown, hstk', hgo h2, rfl, by omega⟩
      rcases htd : d.isTru with _ | _
      · rcases hte : e.isTru with _ | _
        · rcases hld : d.isLeaf with _ | _
          · cases d <;> (try (cases hld; done))
            · rename_i xs
              have f1 : (D.list xs).isList = true := rfl
              have f2 : (D.list xs).isDict = false := rfl
              rcases hle : e.isList with _ | _
              · skip
                k_steps
                refine WStepG.retG ?_
                k_steps
                refine hret _ ((872, tabObj ps') :: (nw ++ own)) _ _ _ ⟨congrArg Value.bool (hret0 ?_), ps', own, rfl, hps', hfin⟩ (by assumption) (by k_asm) (news_sub (by k_asm) fun q hq => .tail _ (.tail _ (.tail _ hq)))
                cases e <;> first | (cases hle; done) | (simp only [eqD]; done)
              · cases e <;> (try (cases hle; done))
                rename_i ys
                have hda2 := hda
                have heb2 := heb
                unfold DIn at hda heb
                obtain ⟨A1, x1, n1, rfl, hm1, hle1, hx1⟩ := hda
                obtain ⟨A2, x2, n2, rfl, hm2, hle2, hx2⟩ := heb
                have q1 := DsIn.length hx1
                have q2 := DsIn.length hx2
                k_steps
                · refine WStepG.retG ?_
                  k_steps
                  refine hret _ ((872, tabObj ps') :: (nw ++ own)) _ _ _ ⟨congrArg Value.bool (hret0 ?_), ps', own, rfl, hps', hfin⟩ (by assumption) (by k_asm) (news_sub (by k_asm) fun q hq => .tail _ (.tail _ hq))
                  simp only [eqD]
                  rw [(beq_eq_false_iff_ne.mpr (by omega) : (xs.length == _) = false), Bool.false_and]
                · refine ⟨?_⟩
                  refine zip_call (by k_asm) (by k_asm) (by k_mem) (by k_mem) ?_
                  intro Z hZ FZ NZ SZ lZ LZ sZ
                  k_steps
                  refine ⟨?_⟩
                  rename Obj => oN
                  have e12 : xs.length = ys.length := by omega
                  have k1 : (A1, listObj x1 n1) ∈ (LH + 1, oN) :: (872, tabObj ps') :: (nw ++ own) := .tail _ (.tail _ hm1)
                  have k2 : (A2, listObj x2 n2) ∈ (LH + 1, oN) :: (872, tabObj ps') :: (nw ++ own) := .tail _ (.tail _ hm2)
                  refine extend_zip (n := x1.length) (fun i zs r => ∃ own', (∀ q ∈ (LH + 1, oN) :: (872, tabObj ps') :: (nw ++ own'), q ∈ r) ∧ (∀ p ∈ own', (@LT.lt Nat _ LH p.1) ∧ p.1 ≠ l0 ∧ p.1 ≠ LH + 1) ∧ (∀ q ∈ own, q ∈ own') ∧ StkIn w (nw ++ own') (zipT xs ys i ++ stk) zs ∧ i ≤ 3) rfl FZ NZ (offDg oN) ⟨_, k1⟩ ⟨_, k2⟩ (fun q hq => .inl (lZ q hq)) (lZ _ (.tail _ k1)) (lZ _ (.tail _ k2)) LZ SZ sZ (by simp) (by simp; omega) (by omega) ⟨own, fun q hq => hq, hown, fun q hq => hq, hstk', by omega⟩ ?_ ?_ ?_
                  · rintro i zs r ⟨own', b1, b2, b3, b4, b5⟩
                    have := StkIn.len b4
                    have hz : (zipT xs ys i).length ≤ 3 := by simp only [zipT, List.length_reverse, List.length_take]; omega
                    simp only [List.length_append, List.length_cons] at this lenb
                    omega
                  · rintro i zs r TN vx vy ⟨own', b1, b2, b3, b4, b5⟩ ex ey hLT hrT hDT
                    obtain ⟨dx, fx, gx⟩ := DsIn.get hx1 (i := i) (v := vx) (by simpa using ex)
                    obtain ⟨dy, fy, gy⟩ := DsIn.get hx2 (i := i) (v := vy) (by simpa using ey)
                    have hi : i < xs.length := (List.getElem?_eq_some_iff.mp fx).1
                    have sub1 : ∀ q ∈ nw ++ own, q ∈ nw ++ (own' ++ [(TN, pairO vx vy)]) := fun q hq => by
                      rcases List.mem_append.mp hq with hq | hq
                      · exact List.mem_append.mpr (.inl hq)
                      · exact List.mem_append.mpr (.inr (List.mem_append.mpr (.inl (b3 q hq))))
                    have sub2 : ∀ q ∈ nw ++ own', q ∈ nw ++ (own' ++ [(TN, pairO vx vy)]) := fun q hq => by
                      rcases List.mem_append.mp hq with hq | hq
                      · exact List.mem_append.mpr (.inl hq)
                      · exact List.mem_append.mpr (.inr (List.mem_append.mpr (.inl hq)))
                    refine ⟨own' ++ [(TN, pairO vx vy)], fun q hq => ?_, fun q hq => ?_, fun q hq => List.mem_append.mpr (.inl (b3 q hq)), ?_, by omega⟩
                    · rcases List.mem_cons.mp hq with rfl | hq
                      · exact .tail _ (b1 _ (.head _))
                      · rcases List.mem_cons.mp hq with rfl | hq
                        · exact .tail _ (b1 _ (.tail _ (.head _)))
                        · rcases List.mem_append.mp hq with hq | hq
                          · exact .tail _ (b1 _ (.tail _ (.tail _ (List.mem_append.mpr (.inl hq)))))
                          · rcases List.mem_append.mp hq with hq | hq
                            · exact .tail _ (b1 _ (.tail _ (.tail _ (List.mem_append.mpr (.inr hq)))))
                            · rw [List.mem_singleton.mp hq]; exact .head _
                    · rcases List.mem_append.mp hq with hq | hq
                      · exact b2 q hq
                      · rw [List.mem_singleton.mp hq]
                        exact ⟨hLT, Nat.ne_of_gt hDT, Nat.ne_of_gt (hrT _ (b1 _ (.head _)))⟩
                    · rw [zipT_succ fx fy]
                      exact ⟨TN, zs, vx, vy, rfl, List.mem_append.mpr (.inr (List.mem_append.mpr (.inr (.head _)))), gx.mono sub1, gy.mono sub1, okL od fx, okL oe fy, b4.mono sub2⟩
                  · rintro hF zs cF r FF NF oF ⟨own', b1, b2, b3, b4, b5⟩
                    rw [q1] at b4
                    k_steps
                    refine WStepG.nextG (n' := stkSize (zipT xs ys xs.length ++ stk)) (by assumption) (m₂ := mE l0 (.ref A1)) (hmE _ ▸ FF) (news_sub NF fun q hq => ?_) ?_ ⟨.ref A1, .ref A2, oN, ps', own', zipT xs ys xs.length ++ stk, zs, cF, rfl, rfl, by assumption, hps', b2, b4, ?_, rfl, ?_⟩
                    · rcases List.mem_cons.mp hq with rfl | hq
                      · exact .head _
                      · exact .tail _ (b1 q hq)
                    · have := stkSize_zipT xs ys e12
                      rw [stkSize_append, hz]; simp only [D.size]; omega
                    · rw [eqS_append, eqS_zipT xs ys e12, ← heq, hS]; simp only [eqD]; rw [beq_iff_eq.mpr e12, Bool.true_and]
                    · have := stkSize_zipT xs ys e12
                      rw [stkSize_append]; rw [hz] at hsz; simp only [D.size] at hsz; omega
            · rename_i xs
              have f1 : (D.dict xs).isList = false := rfl
              have f2 : (D.dict xs).isDict = true := rfl
              rcases hle : e.isDict with _ | _
              · skip
                k_steps
                refine WStepG.retG ?_
                k_steps
                refine hret _ ((872, tabObj ps') :: (nw ++ own)) _ _ _ ⟨congrArg Value.bool (hret0 ?_), ps', own, rfl, hps', hfin⟩ (by assumption) (by k_asm) (news_sub (by k_asm) fun q hq => .tail _ (.tail _ (.tail _ hq)))
                cases e <;> first | (cases hle; done) | (simp only [eqD]; done)
              · cases e <;> (try (cases hle; done))
                rename_i ys
                have hda2 := hda
                have heb2 := heb
                unfold DIn at hda heb
                obtain ⟨A1, x1, n1, rfl, hm1, hs1, hle1, kv1, hx1, hk1⟩ := hda
                obtain ⟨A2, x2, n2, rfl, hm2, hs2, hle2, kv2, hx2, hk2⟩ := heb
                have q1 := KsIn.length hk1
                have q2 := KsIn.length hk2
                k_steps
                refine ⟨?_⟩
                refine keys_ne rfl (by ktr_units) (by k_asm) (by k_asm) (by k_mem) (by k_mem) (by k_mem) (by k_mem) hx1 hx2 (by omega) (by omega) ?_
                intro hK tkK FK NK
                k_steps
                · refine ⟨?_⟩
                  rename Obj => oN
                  have pm : (xs.map (·.1.str)).Perm (ys.map (·.1.str)) := by
                    rw [← KsIn.keys hk1, ← KsIn.keys hk2]
                    exact (by assumption)
                  have fd := perm_find pm
                  refine GeneratorExp_K (c := 876) (P := 872) (dp := dp + 1) (un := un + 3) (gd := gd) (outer := env :: outer) BH TH rfl rfl (by omega) rfl rfl (codeHd_of_K XH (by kernel_rfl)) rfl (by with_unfolding_all rfl) (by decide) (by with_unfolding_all rfl) rfl ?_ (fun _ => by with_unfolding_all rfl) (m := fun y => if y = Str.ofString "left" then some (Value.ref A1) else mE l0 vl y)
                  k_steps
                  refine ⟨?_⟩
                  refine items_iter (by k_asm) (by k_asm) (by k_mem) (by k_mem) hx1 ?_
                  intro I oI hI FI NI lI LI itI
                  obtain ⟨cN, NI', hl0I⟩ : ∃ c, News gH LH hI ((872, tabObj ps') :: (I, oI) :: (l0, listObj ts' c) :: (LH + 1, oN) :: (nw ++ own)) ∧ (@LT.lt Nat _ l0 I) := by
                    refine ⟨?c, news_sub NI ?_, lI (l0, listObj ts' ?c) ?hm⟩
                    (case hm => k_mem)
                    · intro q hq
                      rcases List.mem_cons.mp hq with rfl | hq
                      · k_mem
                      · rcases List.mem_cons.mp hq with rfl | hq
                        · k_mem
                        · rcases List.mem_cons.mp hq with rfl | hq
                          · k_mem
                          · rcases List.mem_cons.mp hq with rfl | hq
                            · k_mem
                            · k_mem
                  have lI' : ∀ q ∈ (872, tabObj ps') :: (l0, listObj ts' cN) :: (LH + 1, oN) :: (nw ++ own), @LT.lt Nat _ q.1 I := by
                    intro q hq
                    rcases List.mem_cons.mp hq with rfl | hq
                    · exact lI _ (by k_mem)
                    · rcases List.mem_cons.mp hq with rfl | hq
                      · exact hl0I
                      · rcases List.mem_cons.mp hq with rfl | hq
                        · exact lI _ (by k_mem)
                        · exact lI q (by k_mem)
                  refine ⟨ps', (I, oI) :: (l0, listObj ts' cN) :: (LH + 1, oN) :: (nw ++ own), FI, NI', ?_, hps', ?_⟩
                  · intro q hq
                    rcases List.mem_cons.mp hq with rfl | hq
                    · exact Nat.ne_of_gt (Nat.lt_trans h872 LI)
                    · rcases List.mem_cons.mp hq with rfl | hq
                      · exact Nat.ne_of_gt (Nat.lt_trans h872 (Nat.lt_trans a0 a1))
                      · rcases List.mem_cons.mp hq with rfl | hq
                        · exact Nat.ne_of_gt (Nat.lt_succ_of_lt h872)
                        · rcases List.mem_append.mp hq with hq | hq
                          · exact hoff q hq
                          · exact (hfin q hq).1
                  · intro h₅ C a oa code h₆ tk₅ ps₅ Mk hps₅ ltC hCa hLC
                    obtain ⟨F5, N5⟩ := ground_back Mk.FG Mk.st Mk.F Mk.N
                    k_steps
                    refine ⟨?_⟩
                    have xI : (I, oI) ∈ (a, oa) :: (872, tabObj ps₅) :: (I, oI) :: (l0, listObj ts' cN) :: (LH + 1, oN) :: (nw ++ own) := .tail _ (.tail _ (.head _))
                    have eI : oI = ({ cls := .type "dict_itemiterator", dict := none, data := .fields #[.none, .bool false, .ref A1, .int (0 : Nat) 0, .int kv1.length 0, .int n1 0, .none, .none], slots := #[] } : Obj) := by
                      have y := (NI' (I, oI) (by k_mem)).1
                      exact Option.some.inj (y.symm.trans itI)
                    have hlL : ∀ q ∈ (872, tabObj ps₅) :: (I, oI) :: (l0, listObj ts' cN) :: (LH + 1, oN) :: (nw ++ own), @LT.lt Nat _ q.1 a := fun q hq => Nat.lt_trans (ltC q hq) hCa
                    have hMI : ∀ q ∈ (LH + 1, oN) :: (872, tabObj ps₅) :: (nw ++ own), @LT.lt Nat _ q.1 I := by
                      intro q hq
                      rcases List.mem_cons.mp hq with rfl | hq
                      · exact lI' _ (by k_mem)
                      · rcases List.mem_cons.mp hq with rfl | hq
                        · exact lI' (872, tabObj ps') (by k_mem)
                        · exact lI' q (by k_mem)
                    have hIC : @LT.lt Nat _ I C := ltC (I, oI) (by k_mem)
                    have N6 : News h₅ C h₆ ((I, oI) :: (l0, listObj ts' cN) :: (a, oa) :: (LH + 1, oN) :: (872, tabObj ps₅) :: (nw ++ own)) := news_sub Mk.N (by
                      intro q hq
                      rcases List.mem_cons.mp hq with rfl | hq
                      · k_mem
                      · rcases List.mem_cons.mp hq with rfl | hq
                        · k_mem
                        · rcases List.mem_cons.mp hq with rfl | hq
                          · k_mem
                          · rcases List.mem_cons.mp hq with rfl | hq
                            · k_mem
                            · rcases List.mem_cons.mp hq with rfl | hq
                              · k_mem
                              · k_mem)
                    refine extend_gen (D := l0) (h₀ := gH) (L := LH) (dp := dp + 1) (un := un + 3) (gd := gd) (outer := env :: outer) (n := kv1.length) (oI₀ := oI) (r₀ := (a, oa) :: (LH + 1, oN) :: (872, tabObj ps₅) :: (nw ++ own))
                      (PM := fun i m'' => ∃ k x key, kv1[i]? = some (k, x) ∧ (PySem.strKind PP w).is k key = true ∧ m'' (Str.ofString "key") = some key ∧ m'' (Str.ofString "value") = some x)
                      (fun r => (A1, dictObj x1 n1) ∈ r)
                      (fun i zs r => ∃ own', (∀ q ∈ (a, oa) :: (LH + 1, oN) :: (872, tabObj ps₅) :: (nw ++ own'), q ∈ r) ∧ (∀ p ∈ own', (@LT.lt Nat _ LH p.1) ∧ p.1 ≠ l0 ∧ p.1 ≠ LH + 1) ∧ (∀ q ∈ own, q ∈ own') ∧ StkIn w (nw ++ own') (keyT xs ys i ++ stk) zs ∧ i ≤ 3)
                      Mk TH (by omega) (Array.getElem?_push_size ..) (GB.up G₁ rfl) rfl rfl (Nat.ne_of_gt hIC) (by omega) (Nat.ne_of_lt (Nat.lt_trans hl0I (Nat.lt_trans hIC hCa))) N6 ?off0 ?offD0 (.head _) (.tail _ (.tail _ (.tail _ hm1))) ⟨own, fun q hq => hq, hown, fun q hq => hq, hstk', by omega⟩ ?hlen ⟨⟨_, _, eI ▸ (N6 _ (.head _)).1⟩, dictAt_of N6 (by k_mem) hx1⟩ ?self
                      (fun A hA => .inr ⟨A1, fun nw hS => ⟨_, hS⟩, kti_itemsTurns hA I A1 (Nat.ne_of_lt (hMI _ (.tail _ (.tail _ hm1)))) kv1 n1⟩) ?hSt ?hIo ?asg ?body ?fin (fun o r h => .tail _ h) ?hSn
                    (case off0 =>
                      intro q hq
                      rcases List.mem_cons.mp hq with rfl | hq
                      · exact Nat.ne_of_lt hl0I
                      · rcases List.mem_cons.mp hq with rfl | hq
                        · exact Nat.ne_of_gt (Nat.lt_trans hIC hCa)
                        · exact Nat.ne_of_lt (hMI q hq))
                    (case offD0 =>
                      intro q hq
                      rcases List.mem_cons.mp hq with rfl | hq
                      · exact Nat.ne_of_gt (Nat.lt_trans hl0I (Nat.lt_trans hIC hCa))
                      · rcases List.mem_cons.mp hq with rfl | hq
                        · exact neD
                        · rcases List.mem_cons.mp hq with rfl | hq
                          · exact offDg oN (872, tabObj ps') (.tail _ (.head _))
                          · exact offDg oN q (.tail _ (.tail _ hq)))
                    (case hlen =>
                      rintro i zs r ⟨own', b1, b2, b3, b4, b5⟩
                      have := StkIn.len b4
                      have hz : (keyT xs ys i).length ≤ 3 := by simp only [keyT, List.length_reverse, List.length_map, List.length_take]; omega
                      simp only [List.length_append, List.length_cons] at this lenb
                      omega)
                    (case self =>
                      rintro i s' A' E' Q' ⟨⟨ok, ov, hit⟩, hdi⟩ hQ'
                      exact kcp_self hit hQ')
                    (case hSt =>
                      rintro i h h' nws ⟨⟨ok, ov, hit⟩, hdi⟩ ho Ns hS'
                      exact ⟨⟨ok, ov, ho _ hit⟩, dictAt_of Ns hS' hx1⟩)
                    (case hIo =>
                      rintro i h ⟨⟨ok, ov, hit⟩, hdi⟩
                      exact ⟨_, hit⟩)
                    (case hSn =>
                      intro o r hr hm
                      rcases List.mem_cons.mp hm with e | hm
                      · exact absurd (congrArg Prod.fst e) (offDg oN _ (.tail _ (.tail _ hm1)))
                      · exact hm)
                    (case asg =>
                      rintro i v s' m' A' E' Q' hA' ⟨TT, key, kk, xx, rfl, ex, hkk, hTT⟩ hns hQ'
                      refine kcp_assign (m := m') hA' hTT rfl rfl (by rfl) hns fun h' tk hn' hk' => hQ' h' tk _ ⟨kk, xx, key, ex, hkk, ?_, ?_⟩ hn' hk'
                      · rw [if_neg (by decide +kernel), if_pos rfl]
                      · rw [if_pos rfl])
                    (case fin =>
                      rintro hF tkF gF zs cF r GF FF NF oF ⟨own', b1, b2, b3, b4, b5⟩
                      rw [q1] at b4
                      have hlow := G₁.2
                      k_steps
                      refine WStepG.nextG (n' := stkSize (keyT xs ys xs.length ++ stk)) (GB.low GF (Nat.le_succ_of_le hlow)) (m₂ := mE l0 (.ref A1)) (hmE _ ▸ FF) (news_sub NF fun q hq => ?_) ?_ ⟨.ref A1, .ref A2, oN, ps₅, own', keyT xs ys xs.length ++ stk, zs, cF, rfl, rfl, by assumption, hps₅, b2, b4, ?_, rfl, ?_⟩
                      · rcases List.mem_cons.mp hq with rfl | hq
                        · exact .head _
                        · exact .tail _ (b1 q (.tail _ hq))
                      · have := stkSize_keyT xs ys
                        rw [stkSize_append, hz]; simp only [D.size]; omega
                      · rw [eqS_append, eqS_keyT xs ys fd, ← heq, hS]; simp only [eqD]; rw [decide_eq_true pm, Bool.true_and]
                      · have := stkSize_keyT xs ys
                        rw [stkSize_append]; rw [hz] at hsz; simp only [D.size] at hsz; omega)
                    rintro i hi m'' zs c9 r oI' h tk g E' ⟨kk, xx, key, ex, hkk, mk, mv⟩ ⟨own', b1, b2, b3, b4, b5⟩ hS' ha' oI'' oD' Gg Fg Ng
                    obtain ⟨tkk, rfl⟩ := Value.isStrOf_shape hkk
                    obtain ⟨k', dx, f3, rfl, gx⟩ := KsIn.get hk1 ex
                    obtain ⟨p2, f4⟩ := Option.isSome_iff_exists.mp (fd _ (List.mem_of_getElem? f3))
                    obtain ⟨y2, e2, gy⟩ := KsIn.value hk2 f4
                    have Tg := TH.keeps Mk.st
                    have Xg := XH.keeps Mk.st
                    have hm2' : (A2, dictObj x2 n2) ∈ nw ++ own' := by
                      rcases List.mem_append.mp hm2 with hq | hq
                      · exact List.mem_append.mpr (.inl hq)
                      · exact List.mem_append.mpr (.inr (b3 _ hq))
                    have Nb : News h₅ C h ((I, oI') :: (l0, listObj zs c9) :: (a, oa) :: (LH + 1, oN) :: (872, tabObj ps₅) :: (nw ++ own')) := news_sub Ng (fun q hq => by
                      rcases List.mem_cons.mp hq with rfl | hq
                      · exact .head _
                      · rcases List.mem_cons.mp hq with rfl | hq
                        · exact .tail _ (.head _)
                        · exact .tail _ (.tail _ (b1 q hq)))
                    have hm1' : (A1, dictObj x1 n1) ∈ nw ++ own' := by
                      rcases List.mem_append.mp hm1 with hq | hq
                      · exact List.mem_append.mpr (.inl hq)
                      · exact List.mem_append.mpr (.inr (b3 _ hq))
                    k_steps
                    rename_i TN hTN FTN NTN lTN
                    have hi3 : i < xs.length := (List.getElem?_eq_some_iff.mp f3).1
                    have hTI : @LT.lt Nat _ I TN := lTN.1
                    have hTL : @LT.lt Nat _ l0 TN := lTN.2.1
                    have hLR : @LT.lt Nat _ (LH + 1) TN := lTN.2.2.2.1
                    have sub1 : ∀ q ∈ nw ++ own, q ∈ nw ++ (own' ++ [(TN, pairO xx y2)]) := fun q hq => by
                      rcases List.mem_append.mp hq with hq | hq
                      · exact List.mem_append.mpr (.inl hq)
                      · exact List.mem_append.mpr (.inr (List.mem_append.mpr (.inl (b3 q hq))))
                    have sub2 : ∀ q ∈ nw ++ own', q ∈ nw ++ (own' ++ [(TN, pairO xx y2)]) := fun q hq => by
                      rcases List.mem_append.mp hq with hq | hq
                      · exact List.mem_append.mpr (.inl hq)
                      · exact List.mem_append.mpr (.inr (List.mem_append.mpr (.inl hq)))
                    have inR : ∀ q ∈ (a, oa) :: (LH + 1, oN) :: (872, tabObj ps₅) :: (nw ++ own'), q ∈ r := b1
                    refine ⟨_, _, _, m'', (TN, pairO xx y2) :: (a, oa) :: (LH + 1, oN) :: (872, tabObj ps₅) :: (nw ++ own'), rfl, Gg, FTN, news_sub NTN ?_, ?_, ?_, .tail _ (.head _), .tail _ (.tail _ (.tail _ (.tail _ hm1'))), own' ++ [(TN, pairO xx y2)], ?_, ?_, ?_, ?_, by omega⟩
                    · intro q hq
                      rcases List.mem_cons.mp hq with rfl | hq
                      · exact .tail _ (.head _)
                      · rcases List.mem_cons.mp hq with rfl | hq
                        · exact .tail _ (.tail _ (.head _))
                        · rcases List.mem_cons.mp hq with rfl | hq
                          · exact .head _
                          · exact .tail _ (.tail _ (.tail _ hq))
                    · intro q hq
                      rcases List.mem_cons.mp hq with rfl | hq
                      · exact Nat.ne_of_gt hTI
                      · exact oI'' q (.tail _ (inR q hq))
                    · intro q hq
                      rcases List.mem_cons.mp hq with rfl | hq
                      · exact Nat.ne_of_gt hTL
                      · exact oD' q (inR q hq)
                    · intro q hq
                      rcases List.mem_cons.mp hq with rfl | hq
                      · exact .tail _ (.head _)
                      · rcases List.mem_cons.mp hq with rfl | hq
                        · exact .tail _ (.tail _ (.head _))
                        · rcases List.mem_cons.mp hq with rfl | hq
                          · exact .tail _ (.tail _ (.tail _ (.head _)))
                          · rcases List.mem_append.mp hq with hq | hq
                            · exact .tail _ (.tail _ (.tail _ (.tail _ (List.mem_append.mpr (.inl hq)))))
                            · rcases List.mem_append.mp hq with hq | hq
                              · exact .tail _ (.tail _ (.tail _ (.tail _ (List.mem_append.mpr (.inr hq)))))
                              · rw [List.mem_singleton.mp hq]; exact .head _
                    · intro q hq
                      rcases List.mem_append.mp hq with hq | hq
                      · exact b2 q hq
                      · rw [List.mem_singleton.mp hq]
                        exact ⟨Nat.lt_of_succ_lt hLR, Nat.ne_of_gt hTL, Nat.ne_of_gt hLR⟩
                    · exact fun q hq => List.mem_append.mpr (.inl (b3 q hq))
                    · rw [keyT_succ f3]
                      have z2 : keyD ys k' = p2.2 := by
                        have f4' : List.find? (fun q => decide (q.1 = k')) ys = some p2 := f4
                        simp [keyD, f4']
                      dsimp only
                      rw [z2]
                      exact ⟨TN, zs, xx, y2, rfl, List.mem_append.mpr (.inr (List.mem_append.mpr (.inr (.head _)))), gx.mono sub1, gy.mono sub1, okUp2 od (List.mem_of_getElem? f3), okUp2 oe (List.mem_of_find?_eq_some f4), b4.mono sub2⟩
                · refine WStepG.retG ?_
                  k_steps
                  refine hret _ ((872, tabObj ps') :: (nw ++ own)) _ _ _ ⟨congrArg Value.bool (hret0 ?_), ps', own, rfl, hps', hfin⟩ (by assumption) (by k_asm) (news_sub (by k_asm) fun q hq => .tail _ (.tail _ (.tail _ (.tail _ hq))))
                  have pm : ¬ (xs.map (·.1.str)).Perm (ys.map (·.1.str)) := by
                    rw [← KsIn.keys hk1, ← KsIn.keys hk2]
                    exact (by assumption)
                  simp only [eqD]
                  rw [decide_eq_false pm, Bool.false_and]
          · have f1 : d.isList = false := by cases d <;> first | rfl | cases hld
            have f2 : d.isDict = false := by cases d <;> first | rfl | cases hld
            rcases hle : e.isLeaf with _ | _
            · k_steps
              refine WStepG.retG ?_
              k_steps
              refine hret _ ((872, tabObj ps') :: (nw ++ own)) _ _ _ ⟨congrArg Value.bool (hret0 (eqD_leafL hld hle).symm), ps', own, rfl, hps', hfin⟩ (by assumption) (by k_asm) (news_sub (by k_asm) fun q hq => .tail _ (.tail _ (.tail _ (.tail _ hq))))
            · k_steps
              refine ne_leaf hda heb hld hle (by rw [htd, hte]; rfl) ?_
              k_steps
              · refine WStepG.nextG (n' := stkSize stk) (by assumption) (m₂ := mE l0 a) (hmE a ▸ (by k_asm)) (news_sub (by k_asm) fun q hq => .tail _ (.tail _ hq)) hlt (hJn (by assumption) (by assumption))
              · refine WStepG.retG ?_
                k_steps
                refine hret _ ((872, tabObj ps') :: (nw ++ own)) _ _ _ ⟨congrArg Value.bool (hret0 (by assumption)), ps', own, rfl, hps', hfin⟩ (by assumption) (by k_asm) (news_sub (by k_asm) fun q hq => .tail _ (.tail _ (.tail _ (.tail _ hq))))
        · skip
          k_steps
          refine isnot_D hda heb (by rw [htd, hte]; rfl) ?_
          k_steps
          · refine WStepG.nextG (n' := stkSize stk) (by assumption) (m₂ := mE l0 a) (hmE a ▸ (by k_asm)) (by k_asm) hlt (hJn (by assumption) (by assumption))
          · refine WStepG.retG ?_
            k_steps
            refine hret _ ((872, tabObj ps') :: (nw ++ own)) _ _ _ ⟨congrArg Value.bool (hret0 (by assumption)), ps', own, rfl, hps', hfin⟩ (by assumption) (by k_asm) (news_sub (by k_asm) fun q hq => .tail _ (.tail _ hq))
      · skip
        k_steps
        refine isnot_D hda heb (by rw [htd]; rfl) ?_
        k_steps
        · refine WStepG.nextG (n' := stkSize stk) (by assumption) (m₂ := mE l0 a) (hmE a ▸ (by k_asm)) (by k_asm) hlt (hJn (by assumption) (by assumption))
        · refine WStepG.retG ?_
          k_steps
          refine hret _ ((872, tabObj ps') :: (nw ++ own)) _ _ _ ⟨congrArg Value.bool (hret0 (by assumption)), ps', own, rfl, hps', hfin⟩ (by assumption) (by k_asm) (news_sub (by k_asm) fun q hq => .tail _ (.tail _ hq))

end Mine

end

section
open PySem PySem.W PyProof.Rows
set_option linter.unusedVariables false
namespace Mine
local macro_rules | `(tactic| walk_at "zz") => `(tactic| fail)
local macro_rules | `(tactic| walk_at "zz") => `(tactic| fail)
local macro_rules | `(tactic| walk_at "zz") => `(tactic| fail)
local macro_rules | `(tactic| walk_at "zz") => `(tactic| fail)
local macro_rules | `(tactic| walk_at "zz") => `(tactic| fail)
local macro_rules | `(tactic| walk_at "zz") => `(tactic| fail)
local macro_rules | `(tactic| walk_at "zz") => `(tactic| fail)
local macro_rules | `(tactic| walk_at "zz") => `(tactic| fail)
local macro_rules | `(tactic| walk_at "zz") => `(tactic| fail)
local macro_rules | `(tactic| walk_at "zz") => `(tactic| fail)
local macro_rules | `(tactic| walk_at "zz") => `(tactic| fail)
local macro_rules | `(tactic| walk_at "zz") => `(tactic| fail)
local macro_rules | `(tactic| walk_at "zz") => `(tactic| fail)
local macro_rules | `(tactic| walk_at "zz") => `(tactic| fail)
local macro_rules | `(tactic| walk_at "zz") => `(tactic| fail)
local macro_rules | `(tactic| walk_at "zz") => `(tactic| fail)
local macro_rules | `(tactic| walk_at "zz") => `(tactic| fail)
local macro_rules | `(tactic| walk_at "zz") => `(tactic| fail)
local macro_rules | `(tactic| walk_at "zz") => `(tactic| fail)
local macro_rules | `(tactic| walk_at "zz") => `(tactic| fail)
local macro_rules | `(tactic| walk_at "zz") => `(tactic| fail)
local macro_rules | `(tactic| walk_at "zz") => `(tactic| fail)
local macro_rules | `(tactic| walk_at "zz") => `(tactic| fail)
theorem rstCmpD : True := by
  w_top off
  trivial
local macro_rules | `(tactic| k_mem) => `(tactic| assumption)
local macro_rules | `(tactic| k_all) => `(tactic| with_reducible assumption)
local macro_rules | `(tactic| ktr_enter) => `(tactic| (k_dflt (refine' code_def ?k1 ?k2 ?k3 ?k4 ?k5 ?kA ?kF ?kK ?k6 ?k7 ?k8 ?k9 ?kB ?_ ?c2 ?c3 ?c4 ?c5; (case kA => exact rfl); (case kF => first | exact rfl | assumption); (case kK => first | exact rfl | assumption); (case k1 => k_asm); (case k2 => k_asm); (case k3 => k_asm); (case k4 => k_asm); (case k5 => k_asm); (case k6 => k_is); (case k7 => k_is); (case k8 => ((try dsimp only [topA]); omega)); (case k9 => exact BindsTo.of_eq rfl); (case c5 => decide); (case kB => exact locs rfl); (case c2 => exact rfl); (case c3 => exact rfl); (case c4 => exact rfl); k_whole; intro g' L' h' FG' F' N' B' X' T'; (try dsimp only); (try k_fold))))
local macro_rules | `(tactic| ktd_sub) => `(tactic| (intro p9 hp9; repeat (first | exact hp9 | refine List.mem_cons_of_mem _ ?_)))
local macro_rules | `(tactic| ktd_rel) => `(tactic| first | assumption | (refine' DIn.mono ?hs ?hh; (case hh => assumption); (case hs => ktd_sub)) | (refine' DsIn.mono ?hs ?hh; (case hh => assumption); (case hs => ktd_sub)) | (refine' KsIn.mono ?hs ?hh; (case hh => assumption); (case hs => ktd_sub)))
local macro_rules | `(tactic| ktr_room) => `(tactic| (simp only [depth_deeper, depth_in1, topA] at *; omega))
local macro_rules | `(tactic| ktr_units) => `(tactic| (simp only [units_deeper, units_in1, topA] at *; omega))
local macro_rules | `(tactic| ktr_unf) => `(tactic| (k_dflt (refine' code_defC ?k1 ?k2 ?k3 ?k4 ?k5 ?kA ?kF ?kK ?k6 ?k7 ?k8 ?k9 ?kB ?kD ?_ ?c2 ?c3 ?c4; (case kA => exact rfl); (case kF => first | exact rfl | assumption); (case kK => first | exact rfl | assumption); (case k1 => k_asm); (case k2 => k_asm); (case k3 => k_asm); (case k4 => k_asm); (case k5 => k_asm); (case k6 => k_is); (case k7 => k_is); (case k8 => ((try dsimp only [topA]); omega)); (case k9 => exact BindsTo.of_eq rfl); (case kB => exact rfl); (case kD => decide +kernel); (case c2 => exact rfl); (case c3 => exact rfl); (case c4 => exact rfl); k_whole; intro g' L' h' tk' cells' FG' F' N' Y' B' X' T' l1; (try k_lt l1); k_cells Y'; (try simp only [List.cons_append, List.nil_append] at N'); (try dsimp only); (try k_fold))))
local macro_rules | `(tactic| walk_at "call ref") => `(tactic| (k_here; (with_reducible show wpAny _ _ (call (Value.ref 956) _) _ _ _); k_dflt (refine' use_call (kind_call _ _ _ _ ?hD) ?B ?F ?X ?N ?T ?hf ?hk ?hd ?hu ?hG ?_; (case B => k_asm); (case F => k_asm); (case X => k_asm); (case N => k_asm); (case T => k_asm); (case hf => first | exact rfl | assumption); (case hk => first | exact rfl | assumption); (case hG => assumption); (case hD => ktd_rel); (case hd => ktr_room); (case hu => ktr_units); k_whole; intro r9 nw9 h9 tk9 g9 p9 hG9 F9 N9; obtain ⟨p9, q9⟩ := p9; obtain ⟨t9, p9⟩ := p9; replace q9 := Eq.symm q9; subst q9; subst p9; (try dsimp only); (try k_fold))))
set_option maxRecDepth 100000 in
set_option maxHeartbeats 8000000 in
theorem isin_str {w : World} {nw : List (Addr × Obj)} {d : D} {v : Value} {p : Program} {loose : List Str} {mean : ExcName → Option Value} {mg mb : Str → Option Value} {A : Around} {h₀ : Heap} {L : Addr} {m : Str → Option Value} {s : Shared} {Q E : Value → Shared → Prop}
    (F : Fr h₀ L s.heap m) (X : (kf.heap_1 w.params).In h₀) (N : News h₀ L s.heap nw) (T' : Top p loose mean mg mb h₀) (hD : DIn w nw d v) (h : ∀ tk, Q (.bool d.isTxt) { s with toks := tk }) :
    wpAny (model PySem.Challenge.rw_eq0021_01.row.prog w) A (call (.builtin "isinstance") [v, .type "str"]) Q E s := by
  cases d <;> unfold DIn at hD <;> (try obtain ⟨_, _, t, rfl⟩ := hD) <;> (try obtain ⟨t, rfl⟩ := hD) <;> (try obtain ⟨_, _, _, rfl, hm, _⟩ := hD) <;> (try subst hD)
  all_goals (k_steps; exact h _)
/-- what `_compare` gives back -/
def cmpD (sg : Sg) (d1 d2 : D) : Bool := if sameKind d1 d2 then holdsD sg d1 d2 else eqHolds sg (eqD d1 d2)
theorem sk_num {d1 d2 : D} (h1 : d1.isNum = true) (h2 : d2.isNum = true) : sameKind d1 d2 = true := by cases d1 <;> cases d2 <;> first | rfl | (cases h1; done) | (cases h2; done)
theorem sk_txt {d1 d2 : D} (h1 : d1.isTxt = true) (h2 : d2.isTxt = true) : sameKind d1 d2 = true := by cases d1 <;> cases d2 <;> first | rfl | (cases h1; done) | (cases h2; done)
theorem sk_is {d1 d2 : D} : sameKind d1 d2 = ((d1.isNum && d2.isNum) || (d1.isTxt && d2.isTxt)) := by cases d1 <;> cases d2 <;> rfl

end Mine

end

section
open PySem PySem.W PyProof.Rows
set_option linter.unusedVariables false
namespace Mine
local macro_rules | `(tactic| walk_at "zz") => `(tactic| fail)
local macro_rules | `(tactic| walk_at "zz") => `(tactic| fail)
local macro_rules | `(tactic| walk_at "zz") => `(tactic| fail)
local macro_rules | `(tactic| walk_at "zz") => `(tactic| fail)
local macro_rules | `(tactic| walk_at "zz") => `(tactic| fail)
local macro_rules | `(tactic| walk_at "zz") => `(tactic| fail)
local macro_rules | `(tactic| walk_at "zz") => `(tactic| fail)
local macro_rules | `(tactic| walk_at "zz") => `(tactic| fail)
local macro_rules | `(tactic| walk_at "zz") => `(tactic| fail)
local macro_rules | `(tactic| walk_at "zz") => `(tactic| fail)
local macro_rules | `(tactic| walk_at "zz") => `(tactic| fail)
local macro_rules | `(tactic| walk_at "zz") => `(tactic| fail)
local macro_rules | `(tactic| walk_at "zz") => `(tactic| fail)
local macro_rules | `(tactic| walk_at "zz") => `(tactic| fail)
local macro_rules | `(tactic| walk_at "zz") => `(tactic| fail)
local macro_rules | `(tactic| walk_at "zz") => `(tactic| fail)
local macro_rules | `(tactic| walk_at "zz") => `(tactic| fail)
local macro_rules | `(tactic| walk_at "zz") => `(tactic| fail)
local macro_rules | `(tactic| walk_at "zz") => `(tactic| fail)
theorem rstCmp : True := by
  w_top off
  trivial
local macro_rules | `(tactic| k_mem) => `(tactic| assumption)
local macro_rules | `(tactic| k_all) => `(tactic| with_reducible assumption)
local macro_rules | `(tactic| ktr_enter) => `(tactic| (k_dflt (refine' code_def ?k1 ?k2 ?k3 ?k4 ?k5 ?kA ?kF ?kK ?k6 ?k7 ?k8 ?k9 ?kB ?_ ?c2 ?c3 ?c4 ?c5; (case kA => exact rfl); (case kF => first | exact rfl | assumption); (case kK => first | exact rfl | assumption); (case k1 => k_asm); (case k2 => k_asm); (case k3 => k_asm); (case k4 => k_asm); (case k5 => k_asm); (case k6 => k_is); (case k7 => k_is); (case k8 => ((try dsimp only [topA]); omega)); (case k9 => exact BindsTo.of_eq rfl); (case c5 => decide); (case kB => exact locs rfl); (case c2 => exact rfl); (case c3 => exact rfl); (case c4 => exact rfl); k_whole; intro g' L' h' FG' F' N' B' X' T'; (try dsimp only); (try k_fold))))
local macro_rules | `(tactic| ktd_sub) => `(tactic| (intro p9 hp9; repeat (first | exact hp9 | refine List.mem_cons_of_mem _ ?_)))
local macro_rules | `(tactic| ktd_rel) => `(tactic| first | assumption | (refine' DIn.mono ?hs ?hh; (case hh => assumption); (case hs => ktd_sub)) | (refine' DsIn.mono ?hs ?hh; (case hh => assumption); (case hs => ktd_sub)) | (refine' KsIn.mono ?hs ?hh; (case hh => assumption); (case hs => ktd_sub)))
local macro_rules | `(tactic| ktr_room) => `(tactic| (simp only [depth_deeper, depth_in1, topA] at *; omega))
local macro_rules | `(tactic| ktr_units) => `(tactic| (simp only [units_deeper, units_in1, topA] at *; omega))
local macro_rules | `(tactic| ktr_unf) => `(tactic| (k_dflt (refine' code_defC ?k1 ?k2 ?k3 ?k4 ?k5 ?kA ?kF ?kK ?k6 ?k7 ?k8 ?k9 ?kB ?kD ?_ ?c2 ?c3 ?c4; (case kA => exact rfl); (case kF => first | exact rfl | assumption); (case kK => first | exact rfl | assumption); (case k1 => k_asm); (case k2 => k_asm); (case k3 => k_asm); (case k4 => k_asm); (case k5 => k_asm); (case k6 => k_is); (case k7 => k_is); (case k8 => ((try dsimp only [topA]); omega)); (case k9 => exact BindsTo.of_eq rfl); (case kB => exact rfl); (case kD => decide +kernel); (case c2 => exact rfl); (case c3 => exact rfl); (case c4 => exact rfl); k_whole; intro g' L' h' tk' cells' FG' F' N' Y' B' X' T' l1; (try k_lt l1); k_cells Y'; (try simp only [List.cons_append, List.nil_append] at N'); (try dsimp only); (try k_fold))))
local macro_rules | `(tactic| walk_at "call ref") => `(tactic| (k_here; (with_reducible show wpAny _ _ (call (Value.ref 956) _) _ _ _); k_dflt (refine' use_call (kind_call _ _ _ _ ?hD) ?B ?F ?X ?N ?T ?hf ?hk ?hd ?hu ?hG ?_; (case B => k_asm); (case F => k_asm); (case X => k_asm); (case N => k_asm); (case T => k_asm); (case hf => first | exact rfl | assumption); (case hk => first | exact rfl | assumption); (case hG => assumption); (case hD => ktd_rel); (case hd => ktr_room); (case hu => ktr_units); k_whole; intro r9 nw9 h9 tk9 g9 p9 hG9 F9 N9; obtain ⟨p9, q9⟩ := p9; obtain ⟨t9, p9⟩ := p9; replace q9 := Eq.symm q9; subst q9; subst p9; (try dsimp only); (try k_fold))))
local macro_rules | `(tactic| k_mem) => `(tactic| first | assumption | exact List.Mem.head _ | (refine' List.Mem.tail _ ?_; k_mem))
local macro_rules | `(tactic| walk_at "call ref") => `(tactic| (k_here; (with_reducible show wpAny _ _ (call (Value.ref 870) _) _ _ _); k_dflt (refine' use_call (isNumber_call _ _ _ _ ?hD) ?B ?F ?X ?N ?T ?hf ?hk ?hd ?hu ?hG ?_; (case B => k_asm); (case F => k_asm); (case X => k_asm); (case N => k_asm); (case T => k_asm); (case hf => first | exact rfl | assumption); (case hk => first | exact rfl | assumption); (case hG => assumption); (case hD => ktd_rel); (case hd => ktr_room); (case hu => ktr_units); k_whole; intro r9 nw9 h9 tk9 g9 p9 hG9 F9 N9; obtain ⟨p9, q9⟩ := p9; replace q9 := Eq.symm q9; subst q9; subst p9; (try dsimp only); (try k_fold))))
local macro_rules | `(tactic| walk_at "call ref") => `(tactic| (k_here; (with_reducible show wpAny _ _ (call (Value.ref 863) _) _ _ _); k_dflt (refine' use_call (eqHolds_call _ _ _ _ _) ?B ?F ?X ?N ?T ?hf ?hk ?hd ?hu ?hG ?_; (case B => k_asm); (case F => k_asm); (case X => k_asm); (case N => k_asm); (case T => k_asm); (case hf => first | exact rfl | assumption); (case hk => first | exact rfl | assumption); (case hG => assumption); (case hd => ktr_room); (case hu => ktr_units); k_whole; intro r9 nw9 h9 tk9 g9 p9 hG9 F9 N9; obtain ⟨p9, q9⟩ := p9; replace q9 := Eq.symm q9; subst q9; subst p9; (try dsimp only); (try k_fold))))
local macro_rules | `(tactic| walk_at "call ref") => `(tactic| (k_here; (with_reducible show wpAny _ _ (call (Value.ref 856) _) _ _ _); k_dflt (refine' use_call (holds_call _ _ _ _ _ _ _ _ ?hk0 ?h1 ?h2) ?B ?F ?X ?N ?T ?hf ?hk ?hd ?hu ?hG ?_; (case B => k_asm); (case F => k_asm); (case X => k_asm); (case N => k_asm); (case T => k_asm); (case hf => first | exact rfl | assumption); (case hk => first | exact rfl | assumption); (case hG => assumption); (case h1 => ktd_rel); (case h2 => ktd_rel); (case hk0 => first | exact sk_num (by assumption) (by assumption) | exact sk_txt (by assumption) (by assumption)); (case hd => ktr_room); (case hu => ktr_units); k_whole; intro r9 nw9 h9 tk9 g9 p9 hG9 F9 N9; obtain ⟨p9, q9⟩ := p9; replace q9 := Eq.symm q9; subst q9; subst p9; (try dsimp only); (try k_fold))))
local macro_rules | `(tactic| walk_at "call ref") => `(tactic| (k_here; (with_reducible show wpAny _ _ (call (Value.ref 877) _) _ _ _); k_dflt (refine' use_call (equal_call _ _ _ _ _ _ _ ?o1 ?o2 ?h1 ?h2 ?hp ?ho) ?B ?F ?X ?N ?T ?hf ?hk ?hd ?hu ?hG ?_; (case B => k_asm); (case F => k_asm); (case X => k_asm); (case N => k_asm); (case T => k_asm); (case hf => first | exact rfl | assumption); (case hk => first | exact rfl | assumption); (case hG => assumption); (case h1 => assumption); (case h2 => assumption); (case o1 => assumption); (case o2 => assumption); (case hp => assumption); (case ho => with_reducible assumption); (case hd => ktr_room); (case hu => ktr_units); k_whole; intro r9 nw9 h9 tk9 g9 p9 hG9 F9 N9; obtain ⟨p9, q9⟩ := p9; obtain ⟨ps9, own9, q9, hp9, ho9⟩ := q9; subst q9; subst p9; (try dsimp only); (try k_fold))))
local macro_rules | `(tactic| walk_at "call builtin:isinstance") => `(tactic| (k_here; (with_reducible show wpAny _ _ (call _ [_, Value.type "str"]) _ _ _); k_dflt (refine' isin_str (d := _) ?F ?X ?N ?T' ?hD ?_; (case F => k_asm); (case X => k_asm); (case N => k_asm); (case T' => k_asm); (case hD => ktd_rel); k_whole; intro tk9)))
set_option maxRecDepth 100000 in
set_option maxHeartbeats 8000000 in
theorem compare_call (w : World) (nw : List (Addr × Obj)) (ps : Array Value) (sg : Sg) (t : Tok) (d1 d2 : D) (v1 v2 : Value) (o1 : d1.ok 3) (o2 : d2.ok 3) (h1 : DIn w nw d1 v1) (h2 : DIn w nw d2 v2) (hps : TriplesOk ps.toList) (hoff : ∀ p ∈ nw, p.1 ≠ 872) :
    CallsTo w 884 [.str sg.str t, v1, v2] ((872, tabObj ps) :: nw) 70 300 (fun r nw' => r = .bool (cmpD sg d1 d2) ∧ ∃ ps' own, nw' = (872, tabObj ps') :: (nw ++ own) ∧ TriplesOk ps'.toList ∧ ∀ p ∈ own, p.1 ≠ 872 ∧ ∀ q ∈ nw, p.1 ≠ q.1) := by
  intro fl p loose mean mg mb dp un gd env outer A₀ base h₀ L m s Q E HA hG hret
  obtain ⟨B, F, X, N, T, hf, hk, hd, hu⟩ := HA
  refine wpAny_call ?_
  ktr_enter
  have hnil : ∀ {b : Bool}, b = cmpD sg d1 d2 → (Value.bool b = .bool (cmpD sg d1 d2) ∧ ∃ ps' own, (872, tabObj ps) :: nw = (872, tabObj ps') :: (nw ++ own) ∧ TriplesOk ps'.toList ∧ ∀ p ∈ own, p.1 ≠ 872 ∧ ∀ q ∈ nw, p.1 ≠ q.1) := fun h => ⟨congrArg _ h, ps, [], by rw [List.append_nil], hps, fun _ h => nomatch h⟩
  have hs : sameKind d1 d2 = true → holdsD sg d1 d2 = cmpD sg d1 d2 := fun h => by simp only [cmpD, h, if_true]
  have hn : sameKind d1 d2 = false → eqHolds sg (eqD d1 d2) = cmpD sg d1 d2 := fun h => by simp only [cmpD, h, Bool.false_eq_true, if_false]
  k_steps
  all_goals first
    | exact hret _ _ _ _ _ (hnil (hs (sk_num (by assumption) (by assumption)))) (by assumption) (by k_asm) (by k_asm)
    | exact hret _ _ _ _ _ (hnil (hs (sk_txt (by assumption) (by assumption)))) (by assumption) (by k_asm) (by k_asm)
    | (refine' hret _ _ _ _ _ ?pZ ?gZ ?fZ ?nZ; (case nZ => k_asm); (case fZ => k_asm); (case gZ => assumption); (case pZ => exact ⟨congrArg Value.bool (hn (by rw [sk_is]; simp only [*, Bool.false_and, Bool.and_false, Bool.or_false])), _, _, rfl, by assumption, by assumption⟩))

end Mine

end

section
open PySem PySem.W PyProof.Rows
set_option linter.unusedVariables false
namespace Mine
local macro_rules | `(tactic| walk_at "zz") => `(tactic| fail)
local macro_rules | `(tactic| walk_at "zz") => `(tactic| fail)
local macro_rules | `(tactic| walk_at "zz") => `(tactic| fail)
local macro_rules | `(tactic| walk_at "zz") => `(tactic| fail)
local macro_rules | `(tactic| walk_at "zz") => `(tactic| fail)
local macro_rules | `(tactic| walk_at "zz") => `(tactic| fail)
local macro_rules | `(tactic| walk_at "zz") => `(tactic| fail)
local macro_rules | `(tactic| walk_at "zz") => `(tactic| fail)
local macro_rules | `(tactic| walk_at "zz") => `(tactic| fail)
local macro_rules | `(tactic| walk_at "zz") => `(tactic| fail)
local macro_rules | `(tactic| walk_at "zz") => `(tactic| fail)
local macro_rules | `(tactic| walk_at "zz") => `(tactic| fail)
local macro_rules | `(tactic| walk_at "zz") => `(tactic| fail)
local macro_rules | `(tactic| walk_at "zz") => `(tactic| fail)
local macro_rules | `(tactic| walk_at "zz") => `(tactic| fail)
local macro_rules | `(tactic| walk_at "zz") => `(tactic| fail)
local macro_rules | `(tactic| walk_at "zz") => `(tactic| fail)
local macro_rules | `(tactic| walk_at "zz") => `(tactic| fail)
local macro_rules | `(tactic| walk_at "zz") => `(tactic| fail)
local macro_rules | `(tactic| walk_at "zz") => `(tactic| fail)
local macro_rules | `(tactic| walk_at "zz") => `(tactic| fail)
local macro_rules | `(tactic| walk_at "zz") => `(tactic| fail)
local macro_rules | `(tactic| walk_at "zz") => `(tactic| fail)
local macro_rules | `(tactic| walk_at "zz") => `(tactic| fail)
theorem rstDue : True := by
  w_top off
  trivial
local macro_rules | `(tactic| k_mem) => `(tactic| assumption)
local macro_rules | `(tactic| k_all) => `(tactic| with_reducible assumption)
local macro_rules | `(tactic| ktr_enter) => `(tactic| (k_dflt (refine' code_def ?k1 ?k2 ?k3 ?k4 ?k5 ?kA ?kF ?kK ?k6 ?k7 ?k8 ?k9 ?kB ?_ ?c2 ?c3 ?c4 ?c5; (case kA => exact rfl); (case kF => first | exact rfl | assumption); (case kK => first | exact rfl | assumption); (case k1 => k_asm); (case k2 => k_asm); (case k3 => k_asm); (case k4 => k_asm); (case k5 => k_asm); (case k6 => k_is); (case k7 => k_is); (case k8 => ((try dsimp only [topA]); omega)); (case k9 => exact BindsTo.of_eq rfl); (case c5 => decide); (case kB => exact locs rfl); (case c2 => exact rfl); (case c3 => exact rfl); (case c4 => exact rfl); k_whole; intro g' L' h' FG' F' N' B' X' T'; (try dsimp only); (try k_fold))))
local macro_rules | `(tactic| ktd_sub) => `(tactic| (intro p9 hp9; repeat (first | exact hp9 | refine List.mem_cons_of_mem _ ?_)))
local macro_rules | `(tactic| ktd_rel) => `(tactic| first | assumption | (refine' DIn.mono ?hs ?hh; (case hh => assumption); (case hs => ktd_sub)) | (refine' DsIn.mono ?hs ?hh; (case hh => assumption); (case hs => ktd_sub)) | (refine' KsIn.mono ?hs ?hh; (case hh => assumption); (case hs => ktd_sub)))
local macro_rules | `(tactic| ktr_room) => `(tactic| (simp only [depth_deeper, depth_in1, topA] at *; omega))
local macro_rules | `(tactic| ktr_units) => `(tactic| (simp only [units_deeper, units_in1, topA] at *; omega))
local macro_rules | `(tactic| ktr_unf) => `(tactic| (k_dflt (refine' code_defC ?k1 ?k2 ?k3 ?k4 ?k5 ?kA ?kF ?kK ?k6 ?k7 ?k8 ?k9 ?kB ?kD ?_ ?c2 ?c3 ?c4; (case kA => exact rfl); (case kF => first | exact rfl | assumption); (case kK => first | exact rfl | assumption); (case k1 => k_asm); (case k2 => k_asm); (case k3 => k_asm); (case k4 => k_asm); (case k5 => k_asm); (case k6 => k_is); (case k7 => k_is); (case k8 => ((try dsimp only [topA]); omega)); (case k9 => exact BindsTo.of_eq rfl); (case kB => exact rfl); (case kD => decide +kernel); (case c2 => exact rfl); (case c3 => exact rfl); (case c4 => exact rfl); k_whole; intro g' L' h' tk' cells' FG' F' N' Y' B' X' T' l1; (try k_lt l1); k_cells Y'; (try simp only [List.cons_append, List.nil_append] at N'); (try dsimp only); (try k_fold))))
local macro_rules | `(tactic| walk_at "call ref") => `(tactic| (k_here; (with_reducible show wpAny _ _ (call (Value.ref 961) _) _ _ _); k_dflt (refine' use_same (same_call _ 3 (by decide)) ?o1 ?o2 ?h1 ?h2 ?B ?F ?X ?N ?T ?hf ?hk ?hd ?hu ?hG ?_; (case B => k_asm); (case F => k_asm); (case X => k_asm); (case N => k_asm); (case T => k_asm); (case hf => first | exact rfl | assumption); (case hk => first | exact rfl | assumption); (case hG => assumption); (case h1 => ktd_rel); (case h2 => ktd_rel); (case o1 => assumption); (case o2 => assumption); (case hd => ktr_room); (case hu => ktr_units); k_whole; intro r9 nw9 h9 tk9 g9 p9 hG9 F9 N9; obtain ⟨p9, q9⟩ := p9; replace q9 := Eq.symm q9; subst q9; subst p9; (try dsimp only); (try k_fold))))
local macro_rules | `(tactic| walk_at "call ref") => `(tactic| (k_here; (with_reducible show wpAny _ _ (call (Value.ref 968) _) _ _ _); k_dflt (refine' use_call (less_call _ _ _ _ _ _ ?h1 ?h2) ?B ?F ?X ?N ?T ?hf ?hk ?hd ?hu ?hG ?_; (case B => k_asm); (case F => k_asm); (case X => k_asm); (case N => k_asm); (case T => k_asm); (case hf => first | exact rfl | assumption); (case hk => first | exact rfl | assumption); (case hG => assumption); (case h1 => ktd_rel); (case h2 => ktd_rel); (case hd => ktr_room); (case hu => ktr_units); k_whole; intro r9 nw9 h9 tk9 g9 p9 hG9 F9 N9; obtain ⟨p9, q9⟩ := p9; replace q9 := Eq.symm q9; subst q9; subst p9; (try dsimp only); (try k_fold))))
def dueD : Sg → D → D → Bool
  | .lt, a, b => lessD a b
  | .gt, a, b => lessD b a
  | .le, a, b => lessD a b || eqD a b
  | .ge, a, b => lessD b a || eqD a b
  | .eq, a, b => eqD a b
  | .ne, a, b => !eqD a b
set_option maxRecDepth 100000 in
set_option maxHeartbeats 8000000 in
theorem due_call (w : World) (nw : List (Addr × Obj)) (sg : Sg) (t : Tok) (d1 d2 : D) (v1 v2 : Value) (o1 : d1.ok 3) (o2 : d2.ok 3) (h1 : DIn w nw d1 v1) (h2 : DIn w nw d2 v2) : CallsTo w 975 [.str sg.str t, v1, v2] nw 110 1100 (fun r nw' => r = .bool (dueD sg d1 d2) ∧ nw' = nw) := by
  intro fl p loose mean mg mb dp un gd env outer A₀ base h₀ L m s Q E HA hG hret
  obtain ⟨B, F, X, N, T, hf, hk, hd, hu⟩ := HA
  refine wpAny_call ?_
  ktr_enter
  cases sg <;> simp only [Sg.str]
  all_goals k_steps
  all_goals refine hret _ nw _ _ _ ⟨congrArg Value.bool ?_, rfl⟩ (by assumption) (by k_asm) (news_sub (by k_asm) (by ktd_sub))
  · rw [show (Sg.eq.str == Str.ofString "==") = true from by decide +kernel]; simp only [dueD]; cases eqD d1 d2 <;> rfl
  · rw [show (Sg.ne.str == Str.ofString "==") = false from by decide +kernel]; simp only [dueD]; cases eqD d1 d2 <;> rfl
  · rfl
  · rfl
  · have e : lessD d1 d2 = true := by assumption
    simp only [dueD, e, Bool.true_or]
  · have e : lessD d1 d2 = false := by assumption
    simp only [dueD, e, Bool.false_or]
  · have e : lessD d2 d1 = true := by assumption
    simp only [dueD, e, Bool.true_or]
  · have e : lessD d2 d1 = false := by assumption
    simp only [dueD, e, Bool.false_or]

end Mine

end

section
open PySem PySem.W PyProof.Rows PySem.Calls PyProof.V
set_option linter.unusedVariables false
set_option maxRecDepth 100000
set_option maxHeartbeats 2000000
namespace Mine
open LCg
theorem ltAll_neX {b a : Nat} {l : List (Addr × Obj)} (h : ∀ p ∈ l, @LT.lt Nat _ p.1 b) (hb : b ≤ a) : ∀ p ∈ l, p.1 ≠ a := fun p hp => Nat.ne_of_lt (Nat.lt_of_lt_of_le (h p hp) hb)
/-- an attribute's entry -/
abbrev ent (w : World) (x : String) (t : Tok) (v : Value) : DictEntry := { hash := PyData.keyHash w.params (Str.ofString x), key := .str (Str.ofString x) t, val := v }
/-- the ledger bears a DatumInContext with the value v -/
def DatAt (w : World) (nw : List (Addr × Obj)) (a : Addr) (v : Value) : Prop :=
  ∃ d n t1 t2 t3 pv cv, (a, instObj 212 d) ∈ nw ∧ (d, dictOf [ent w "_value" t1 v, ent w "path" t2 pv, ent w "context" t3 cv] n) ∈ nw
/-- the ledger bears Fields(key) -/
def FldAt (w : World) (nw : List (Addr × Obj)) (f : Addr) (key : Str) : Prop :=
  ∃ d n t1 t2 tp tk nT, (f, instObj 641 d) ∈ nw ∧ (d, dictOf [ent w "_deprecated_wildcard_use" t1 (.bool false), ent w "fields" t2 (.ref tp)] n) ∈ nw ∧ (tp, ({ cls := .type "tuple", data := .seq #[.str key tk] nT } : Obj)) ∈ nw
theorem DatAt.mono {w : World} {nw nw' : List (Addr × Obj)} {a : Addr} {v : Value} (hs : ∀ p ∈ nw, p ∈ nw') (h : DatAt w nw a v) : DatAt w nw' a v := by
  obtain ⟨d, n, t1, t2, t3, pv, cv, h1, h2⟩ := h
  exact ⟨d, n, t1, t2, t3, pv, cv, hs _ h1, hs _ h2⟩
theorem FldAt.mono {w : World} {nw nw' : List (Addr × Obj)} {f : Addr} {key : Str} (hs : ∀ p ∈ nw, p ∈ nw') (h : FldAt w nw f key) : FldAt w nw' f key := by
  obtain ⟨d, n, t1, t2, tp, tk, nT, h1, h2, h3⟩ := h
  exact ⟨d, n, t1, t2, tp, tk, nT, hs _ h1, hs _ h2, hs _ h3⟩
theorem closeDat {Qp : Prop} {w : World} {h₀ h : Heap} {L x d : Addr} {n : Nat} {t1 t2 t3 : Tok} {v pv cv : Value} {nw l : List (Addr × Obj)} (N : News h₀ L h l) (h1 : (x, instObj 212 d) ∈ l) (h2 : (d, dictOf [ent w "_value" t1 v, ent w "path" t2 pv, ent w "context" t3 cv] n) ∈ l) (hs : ∀ q ∈ nw, q ∈ l) (lt1 : AllLt d nw) (lt2 : @LT.lt Nat _ d x)
    (k : ∀ own, DatAt w own x v → News h₀ L h (nw ++ own) → (∀ p ∈ own, ∀ q ∈ nw, p.1 ≠ q.1) → Qp) : Qp := by
  have lt := tb_ltOf lt1
  refine k [(x, instObj 212 d), (d, dictOf [ent w "_value" t1 v, ent w "path" t2 pv, ent w "context" t3 cv] n)] ⟨d, n, t1, t2, t3, pv, cv, .head _, .tail _ (.head _)⟩ (fun p hp => ?_) (fun p hp q hq => ?_)
  · rcases List.mem_append.mp hp with hp | hp
    · exact N p (hs p hp)
    · rcases List.mem_cons.mp hp with rfl | hp
      · exact N _ h1
      · rw [List.mem_singleton.mp hp]; exact N _ h2
  · rcases List.mem_cons.mp hp with rfl | hp
    · exact Nat.ne_of_gt (Nat.lt_trans (lt q hq) lt2)
    · rw [List.mem_singleton.mp hp]; exact Nat.ne_of_gt (lt q hq)
section
variable {prog : Program} {w : World} {A : Around} {E : Value → Shared → Prop} {s : Shared} {env : Env} {h₀ : Heap} {L : Addr} {m : Str → Option Value} {news r : List (Addr × Obj)}
theorem getD_some {kvs : List (Str × Value)} {k : Str} {dflt x : Value} (h : valueAt kvs k = some x) : (valueAt kvs k).getD dflt = x := by rw [h]; rfl
theorem getD_none {kvs : List (Str × Value)} {k : Str} {dflt : Value} (h : valueAt kvs k = none) : (valueAt kvs k).getD dflt = dflt := by rw [h]; rfl
theorem get_led {d : Addr} {es : List DictEntry} {n : Nat} {kvs : List (Str × Value)} {k : Str} {t : Tok} {dflt : Value} {Q : Value → Shared → Prop} (N : News h₀ L s.heap news) (hm : (d, dictObj es n) ∈ news) (hd : (dictObj es n).IsDictOf (PySem.strKind prog w) kvs) (hs : (d == sysModules) = false)
    {x : Value} (hv : (valueAt kvs k).getD dflt = x) (h : ∀ tk, Q x { s with toks := tk }) :
    wpAny (model prog w) A (call (.builtin "dict.get") [.ref d, .str k t, dflt]) Q E s := by
  subst hv
  have hat := dictAt_of N hm hd
  exact call_meetsIn PySem.F.slot_dict_get hat.dictOf.typeIs PySem.F.entry_dict_get (PySem.F.args_dict_get_3 _ _ _) (meets_dict_get_default (PySem.strKind prog w) d (strKind_is prog w k t) hs dflt) ⟨_, hat.dictOf.mapOf, h _⟩
theorem is_data {nw : List (Addr × Obj)} {d : Mine.D} {v : Value} {y : Addr} {oy : Obj} {Q : Value → Shared → Prop} (F : Fr h₀ L s.heap m) (N : News h₀ L s.heap nw) (hD : DIn w nw d v) {K : Frag} (X : K.In h₀) (hk : K.lookup y = some oy) (h : Q (.bool false) s) :
    wpAny (model prog w) A (compareOp .Is v (.ref y)) Q E s := by
  have hy := X _ _ hk
  have ne : ∀ {a : Addr} {o : Obj}, (a, o) ∈ nw → a ≠ y := fun hm q => by
    have := (N _ hm).2.2
    rw [show (_, _).1 = y from q, hy] at this; cases this
  cases d <;> unfold DIn at hD <;> (try obtain ⟨_, _, t, rfl⟩ := hD) <;> (try obtain ⟨t, rfl⟩ := hD) <;> (try obtain ⟨_, _, _, rfl, hm, _⟩ := hD) <;> (try subst hD)
  · exact wpAny_is_plain rfl h
  · exact wpAny_is_plain rfl h
  · exact wpAny_is_plain rfl h
  · exact wpAny_is_plain rfl h
  · exact wpAny_is_ref_other (ne hm) (N _ hm).1 (F.keep _ _ hy) (by simp) h
  · exact wpAny_is_ref_other (ne hm) (N _ hm).1 (F.keep _ _ hy) (by simp) h
end
section
variable {prog : Program} {w : World} {A₀ A : Around} {s : Shared} {K : Frag} {L : Addr} {h₀ base : Heap} {m mg mb : Str → Option Value} {news : List (Addr × Obj)} {p : Program} {loose : List Str} {mean : ExcName → Option Value}
theorem code_defL {env : Env} {outer : List Env} {R : Result → Shared → Prop} {name qual : Str} {params : Arguments} {body : List Stmt} {scope : Scope} {dV kV doc pm cdv ct oc : Value} {an od : Option Addr} {osl : Array (Option Value)} {f : Addr} {args : Args} {binds : List (Str × Value)}
    (B : Below A₀ base outer h₀) (F : Fr h₀ L s.heap m) (X₀ : K.In h₀) (N : News h₀ L s.heap news) (T : Top p loose mean mg mb h₀) (hA : A.frames = some (env :: outer)) (hf : env.frame = some L) (hke : env.scope.kind = .function)
    (ho : K.lookup f = some ⟨oc, od, .func (fnOf name qual params body scope dV kV doc pm an cdv ct), osl⟩) (hcd : codeIn K cdv qual = true) (hroom : A.depth < recursionLimit)
    (hbind : BindsTo s (fnOf name qual params body scope dV kV doc pm an cdv ct) args binds) (hloc : ∀ y ∈ binds, scope.names.lookup y.1 = some .local)
    (h : ∀ g L' h₁, Fr h₀ L g m → Fr g L' h₁ (fun y => binds.reverse.lookup y) → News g L' h₁ news → Below A base (env :: outer) g → K.In g → Top p loose mean mg mb g → (∀ p ∈ news, @LT.lt Nat _ p.1 L') →
      wpAny (model prog w) (A.deeper (envOf qual scope L' f cdv)) (execs body (envOf qual scope L' f cdv))
        (fun fl s' => LeaveK h₀ L m g R (match fl with | .ret v => v | _ => .none) s')
        (fun e s' => wpAny (model prog w) (A.deeper (envOf qual scope L' f cdv)) (leaving (envOf qual scope L' f cdv) e) (fun _ s'' => R (.error e) s'') (fun e' s'' => R (.error e') s'') s')
        { s with heap := h₁, toks := s.toks + binds.length })
    (hco : scope.isCoroutine = false) (hgen : scope.isGenerator = false) (hk : scope.kind = .function)
    (hcell : ∀ x ∈ scope.names, x.2 ≠ .cell) : codeAny (model prog w) A (.call (.ref f) args) R s :=
  callX_plain (cl := []) B F N T.nolimit hA hf hke ((X₀.keeps F.keep) _ _ ho) rfl (codeRec_of (X₀.keeps F.keep) hcd) hroom hbind hloc (fun g L' h₁ FG F' N' B' st lt => h g L' h₁ FG F' N' B' (X₀.keeps st) (T.keeps st) lt) hcell hco hgen hk
end
end Mine

end

section
open PySem PySem.W PyProof.Rows PySem.Calls
set_option linter.unusedVariables false
set_option maxHeartbeats 2000000
namespace Mine
open LCg
section
variable {fl : Nat} {prog : Program} {w : World} {A : Around} {E : Value → Shared → Prop} {h₀ : Heap} {L : Addr} {m : Str → Option Value} {env : Env}

/-- nw is apart from the comprehension's own objects -/
def OffP (pv : List (Addr × Obj)) (C D : Addr) (nw : List (Addr × Obj)) : Prop := ∀ p ∈ nw, (∀ q ∈ pv, p.1 ≠ q.1) ∧ p.1 ≠ C ∧ p.1 ≠ D
def NeP (pv : List (Addr × Obj)) (C D : Addr) : Prop := (∀ q ∈ pv, q.1 ≠ C ∧ q.1 ≠ D) ∧ C ≠ D
/-- what one turn leaves -/
def GEndP (fl : Nat) (h₀ : Heap) (L : Addr) (m : Str → Option Value) (s : Shared) (S : List (Addr × Obj) → Prop) (pv : List (Addr × Obj)) (C D : Addr) (rest : Obj → List (Addr × Obj) → Prop) (s₂ : Shared) : Prop :=
  ∃ h' tk g oC m₂ oD nw, s₂ = { s with heap := h', toks := tk, gens := g } ∧ GB fl g ∧ NsObj oC m₂ ∧ Fr h₀ L h' m ∧ News h₀ L h' (pv ++ (C, oC) :: (D, oD) :: nw) ∧ OffP pv C D nw ∧ S nw ∧ rest oD nw
/-- the turns that are left -/
def GRestP (fl : Nat) (h₀ : Heap) (L : Addr) (m : Str → Option Value) (Bd : PT) (s : Shared) (S : List (Addr × Obj) → Prop) (P : Nat → List (Addr × Obj) → Addr → (Str → Option Value) → Prop) (Fin : Obj → List (Addr × Obj) → Prop) : Nat → Nat → Obj → List (Addr × Obj) → Prop
  | 0, _, oD, nw => Fin oD nw
  | k + 1, i, oD, nw => ∀ pv C oC D m₂ h tk g (E' : Value → Shared → Prop) (Post : Shared → Prop), P i pv C m₂ → NsObj oC m₂ → Fr h₀ L h m → News h₀ L h (pv ++ (C, oC) :: (D, oD) :: nw) → OffP pv C D nw → NeP pv C D → GB fl g →
      (∀ s₂, GEndP fl h₀ L m s S pv C D (GRestP fl h₀ L m Bd s S P Fin k (i + 1)) s₂ → Post s₂) → Bd C D Post E' { s with heap := h, toks := tk, gens := g }

def LoopRuleP (prog : Program) (w : World) (A : Around) (e : Expr) (tgt : Expr) (mk : Addr → Env) (Bd : PT) : Prop :=
  ∀ (I C D : Addr) (R : Result → Shared → Prop) (Inv : Nat → Shared → Prop),
    (∀ n s, Inv n s → wpAny (model prog w) A (pyNext (.ref I)) (fun r s₁ => match r with
      | none => R (.ok .next) s₁
      | some v => wpAny (model prog w) A (letOwnedTupleGo tgt (.ref I) v) (fun _ s₀ => wpAny (model prog w) A (assign tgt (mk C) v) (fun _ s₂ => Bd C D (fun s₃ => ∃ m', m' < n ∧ Inv m' s₃) (notedBy (model prog w) A (mk C) fun e s' => R (.error e) s') s₂)
          (notedBy (model prog w) A (mk C) fun e s' => R (.error e) s') s₀) (notedBy (model prog w) A (mk C) fun e s' => R (.error e) s') s₁)
      (notedBy (model prog w) A (mk C) fun e s' => R (.error e) s') s) →
    ∀ n s, Inv n s → codeAny (model prog w) A (.compLoop e 0 (.ref I) (.ref D) (mk C)) R s

/-- how a turn is entered -/
structure EnterP (prog : Program) (w : World) (A : Around) (h₀ : Heap) (L C I : Addr) (pa : List Addr) (tgt : Expr) (env' : Env) (n : Nat) (S : List (Addr × Obj) → Prop) (P : Nat → List (Addr × Obj) → Addr → (Str → Option Value) → Prop) (Pv : Nat → Heap → Prop) : Prop where
  item : ∀ i (s : Shared) (mC : Str → Option Value) (nw : List (Addr × Obj)) (Q : Option Value → Shared → Prop) (E : Value → Shared → Prop), i < n → Pv i s.heap → s.heap.Ns C mC →
    (∀ v h₁ tk₁,
      (∀ (Q' : Unit → Shared → Prop) (E' : Value → Shared → Prop), (∀ h₂ tk₂ pv oC m₂, (∀ b o, b ∉ pa → b ≠ C → s.heap.get? b = some o → h₂.get? b = some o) → (∀ p ∈ pv, h₂.get? p.1 = some p.2) → pv.map (·.1) = pa → h₂.get? C = some oC → NsObj oC m₂ → P i pv C m₂ →
          (∀ h₃ nw, (∀ p ∈ pv, h₃.get? p.1 = some p.2) → (∀ b o, h₀.get? b = some o → h₃.get? b = some o) → News h₀ L h₃ nw → S nw → Pv (i + 1) h₃) → Q' () { s with heap := h₂, toks := tk₂ }) →
        wpAny (model prog w) A (letOwnedTupleGo tgt (.ref I) v) (fun _ s₀ => wpAny (model prog w) A (assign tgt env' v) Q' E' s₀) E' { s with heap := h₁, toks := tk₁ }) →
      Q (some v) { s with heap := h₁, toks := tk₁ }) → wpAny (model prog w) A (pyNext (.ref I)) Q E s
  done : ∀ (s : Shared) (Q : Option Value → Shared → Prop) (E : Value → Shared → Prop), Pv n s.heap →
    (∀ h' tk, (∀ b o, b ∉ pa → s.heap.get? b = some o → h'.get? b = some o) → Q none { s with heap := h', toks := tk }) → wpAny (model prog w) A (pyNext (.ref I)) Q E s

theorem loop_P {e tgt : Expr} {mk : Addr → Env} {Bd : PT} {s : Shared} {hB : Heap} {tkS : Nat} {gS : Array GenState} {I C D : Addr} {pa : List Addr} {n : Nat} {S : List (Addr × Obj) → Prop} {P : Nat → List (Addr × Obj) → Addr → (Str → Option Value) → Prop} {Pv : Nat → Heap → Prop} {oD₀ : Obj} {news : List (Addr × Obj)} {mC : Str → Option Value}
    {Fin : Obj → List (Addr × Obj) → Prop} {RR : Result → Shared → Prop}
    (LT : LoopRuleP prog w A e tgt mk Bd) (En : EnterP prog w A h₀ L C I pa tgt (mk C) n S P Pv)
    (hG : GB fl gS) (hPv : Pv 0 hB) (hC : hB.Ns C mC) (F : Fr h₀ L hB m) (N : News h₀ L hB ((D, oD₀) :: news))
    (hpa : ∀ b ∈ pa, h₀.get? b = none ∧ b ≠ L ∧ b ≠ C ∧ b ≠ D) (hC₀ : h₀.get? C = none) (hCL : C ≠ L) (hCD : C ≠ D)
    (off : ∀ p ∈ news, p.1 ∉ pa ∧ p.1 ≠ C ∧ p.1 ≠ D) (hS : S news) (R : GRestP fl h₀ L m Bd s S P Fin n 0 oD₀ news)
    (hRR : ∀ h tk g m' oD news', GB fl g → Fr h₀ L h m → News h₀ L h ((D, oD) :: news') → Off1 D news' → h.Ns C m' → (∀ p ∈ news', p.1 ≠ C) → Fin oD news' → RR (.ok .next) { s with heap := h, toks := tk, gens := g }) :
    codeAny (model prog w) A (.compLoop e 0 (.ref I) (.ref D) (mk C)) RR { s with heap := hB, toks := tkS, gens := gS } := by
  refine LT I C D _ (fun k s' => ∃ h' tk g i oD m' news', s' = { s with heap := h', toks := tk, gens := g } ∧ GB fl g ∧ i ≤ n ∧ k = n + 1 - i ∧ Pv i h' ∧ Fr h₀ L h' m ∧ h'.Ns C m' ∧ News h₀ L h' ((D, oD) :: news') ∧
        (∀ p ∈ news', p.1 ∉ pa ∧ p.1 ≠ C ∧ p.1 ≠ D) ∧ S news' ∧ GRestP fl h₀ L m Bd s S P Fin (n - i) i oD news') ?_ (n + 1) _
      ⟨hB, tkS, gS, 0, oD₀, _, news, rfl, hG, Nat.zero_le _, rfl, hPv, F, hC, N, off, hS, R⟩
  rintro k s' ⟨h', tk, g, i, oD, m', news', rfl, hg, hi, rfl, hst', F', hn', N', off', hS', R'⟩
  have zD := N' (D, oD) List.mem_cons_self
  by_cases hlt : i < n
  · obtain ⟨j, hj⟩ : ∃ j, n - i = j + 1 := ⟨n - i - 1, by omega⟩
    rw [hj] at R'
    refine En.item i _ m' news' _ _ hlt hst' hn' fun v h₁ tk₁ enter => ?_
    refine enter _ _ fun h₂ tk₂ pv oC m₂ hk hpv hmap heC hoC hP back => ?_
    have inpa : ∀ q ∈ pv, q.1 ∈ pa := fun q hq => by rw [← hmap]; exact List.mem_map_of_mem hq
    have F₂ : Fr h₀ L h₂ m := ⟨F'.ns.at' fun o e => hk _ o (fun q => (hpa _ q).2.1 rfl) (Ne.symm hCL) e, fun b o e => hk b o (fun q => by rw [(hpa _ q).1] at e; cases e) (fun q => by rw [q, hC₀] at e; cases e) (F'.keep b o e), F'.above⟩
    have N₂ : News h₀ L h₂ (pv ++ (C, oC) :: (D, oD) :: news') := fun p hp => by
      rcases List.mem_append.mp hp with hp | hp
      · exact ⟨hpv p hp, (hpa _ (inpa p hp)).2.1, (hpa _ (inpa p hp)).1⟩
      · rcases List.mem_cons.mp hp with rfl | hp
        · exact ⟨heC, hCL, hC₀⟩
        · have z := N' p hp
          refine ⟨hk _ _ ?_ ?_ z.1, z.2⟩
          · rcases List.mem_cons.mp hp with rfl | hp
            · exact fun q => (hpa _ q).2.2.2 rfl
            · exact (off' p hp).1
          · rcases List.mem_cons.mp hp with rfl | hp
            · exact Ne.symm hCD
            · exact (off' p hp).2.1
    refine R' pv C oC D m₂ h₂ _ _ _ _ hP hoC F₂ N₂ (fun p hp => ⟨fun q hq e => (off' p hp).1 (e ▸ inpa q hq), (off' p hp).2.1, (off' p hp).2.2⟩) ⟨fun q hq => ⟨(hpa _ (inpa q hq)).2.2.1, (hpa _ (inpa q hq)).2.2.2⟩, hCD⟩ hg (fun s₄ h₄ => ?_)
    obtain ⟨h₄, tk₄, g₄, oC₄, m₄, oD₄, news₄, rfl, hg₄, hoC₄, F₄, N₄, off₄, hS₄, R₄⟩ := h₄
    have zC := (N₄ (C, oC₄) (List.mem_append_right _ List.mem_cons_self)).1
    have N₄' : News h₀ L h₄ news₄ := fun p hp => N₄ p (List.mem_append_right _ (List.mem_cons_of_mem _ (List.mem_cons_of_mem _ hp)))
    have hst₄ : Pv (i + 1) h₄ := back _ _ (fun p hp => (N₄ p (List.mem_append_left _ hp)).1) F₄.keep N₄' hS₄
    refine ⟨n + 1 - (i + 1), by omega, h₄, tk₄, g₄, i + 1, oD₄, _, news₄, rfl, hg₄, hlt, rfl, hst₄, F₄, hoC₄.ns zC, fun p hp => N₄ p (List.mem_append_right _ (List.mem_cons_of_mem _ hp)), fun p hp => ⟨fun hq => ?_, (off₄ p hp).2⟩, hS₄, ?_⟩
    · rw [← hmap] at hq
      obtain ⟨q, hq, e⟩ := List.mem_map.mp hq
      exact (off₄ p hp).1 q hq e.symm
    · rw [show n - (i + 1) = j by omega]; exact R₄
  · obtain rfl : i = n := Nat.le_antisymm hi (Nat.not_lt.mp hlt)
    rw [Nat.sub_self] at R'
    refine En.done _ _ _ hst' fun h₂ tk₂ hk₂ => ?_
    have F₂ : Fr h₀ L h₂ m := ⟨F'.ns.at' fun o e => hk₂ _ o (fun q => (hpa _ q).2.1 rfl) e, fun b o e => hk₂ b o (fun q => by rw [(hpa _ q).1] at e; cases e) (F'.keep b o e), F'.above⟩
    have N₂ : News h₀ L h₂ ((D, oD) :: news') := fun p hp => by
      have z := N' p hp
      refine ⟨hk₂ _ _ ?_ z.1, z.2⟩
      rcases List.mem_cons.mp hp with rfl | hp
      · exact fun q => (hpa _ q).2.2.2 rfl
      · exact (off' p hp).1
    have oo : ∀ {l : List (Addr × Obj)}, (∀ p ∈ l, p.1 ≠ D) → Off1 D l := fun {l} h => (Off3.of (I := D) (C := D) (D := D) fun p hp => ⟨h p hp, h p hp, h p hp⟩).one
    exact hRR h₂ tk₂ g m' oD news' hg F₂ N₂ (oo fun p hp => (off' p hp).2.2) (hn'.at' fun o e => hk₂ _ o (fun q => (hpa _ q).2.2.1 rfl) e) (fun p hp => (off' p hp).2.1) R'
end
end Mine

end

section
open PySem PySem.W PyProof.Rows PySem.Calls
set_option linter.unusedVariables false
set_option maxHeartbeats 2000000
namespace Mine
open LCg
section
variable {fl : Nat} {prog : Program} {w : World} {A : Around} {E : Value → Shared → Prop} {h₀ : Heap} {L : Addr} {m : Str → Option Value} {env : Env}

def PEnum (e it : Addr) (items : Array Value) (a b : Str) (i : Nat) (pv : List (Addr × Obj)) (C : Addr) (m₂ : Str → Option Value) : Prop :=
  ∃ oE oI t x, pv = [(e, oE), (it, oI)] ∧ items[i]? = some x ∧ m₂ a = some (.int (i : Int) t) ∧ m₂ b = some x
theorem enter_enum {e it l C : Addr} {items : Array Value} {lo : Obj} {a b : Str} {pa pb tp : Pos} {kk : Nat} {env' : Env} (hh : A.handled = none) (hei : e ≠ it) (hle : l ≠ e) (hli : l ≠ it) (hlC : l ≠ C) (heC : e ≠ C) (hiC : it ≠ C)
    (hlo : ∀ h : Heap, h.get? l = some lo → h.IsList l items) (hloc : env'.locals = C) (ha : env'.kindOf a = some .local) (hb : env'.kindOf b = some .local) (hab : a ≠ b)
    (hp : (env'.scope.kind == .class || (env'.scope.kind == .module && env'.locals != env'.globals)) = false) :
    EnterP prog w A h₀ L C e [e, it] (.Tuple [.Name a pa, .Name b pb] kk tp) env' items.size (fun nw => (l, lo) ∈ nw) (PEnum e it items a b)
      (fun i h => (∃ old, IsEnum h e it i old) ∧ h.IsListIter it l i ∧ h.IsList l items) where
  item := by
    intro i s mC nw Q E hi hst hn hQ
    have W := WalksT.enumerate (prog := prog) (w := w) hh e it l hei hle hli items
    refine W.item i s Q E hi hst fun T vals h' tk hP hsz hT hmid hk => ?_
    refine hQ (.ref T) h' tk fun Q' E' k => ?_
    refine W.go _ kk tp i T _ _ _ hmid fun h₁ hst₁ hk₁ => ?_
    obtain ⟨t, x, hx, rfl⟩ := hP
    have hT₁ : h₁.IsTuple T #[.int i t, x] := hT.at fun o x => hk₁ T o (W.apart i T _ hmid) x
    have hCw : C ∉ [e, it] := by
      intro hm
      rcases List.mem_cons.mp hm with q | hm
      · exact heC q.symm
      · exact hiC (List.mem_singleton.mp hm).symm
    subst hloc
    refine kcp_assign (m := mC) hh hT₁ ha hb hp ((hn.at' fun o e => hk _ o hCw e).at' fun o e => hk₁ _ o hCw e) fun h₂ tk₂ hn₂ hk₂ => ?_
    obtain ⟨⟨old, he⟩, ⟨oi, hoi, hoi2⟩, hl⟩ := hst₁
    obtain ⟨oC, heC', hoC⟩ := ns_obj hn₂
    have he' : ∃ oe : Obj, h₁.get? e = some oe ∧ ∀ h : Heap, h.get? e = some oe → ∃ old, IsEnum h e it (i + 1) old := ⟨_, he, fun h q => ⟨_, q⟩⟩
    obtain ⟨oE, heE, hoE⟩ := he'
    refine k h₂ tk₂ [(e, oE), (it, oi)] oC _ (fun b o hb hbC eb => hk₂ b o hbC (hk₁ b o hb (hk b o hb eb))) (fun p hp => ?_) rfl heC' hoC ⟨oE, oi, t, x, rfl, hx, ?_, ?_⟩ (fun h₃ nw' hpv kp N₃ hS => ?_)
    · rcases List.mem_cons.mp hp with rfl | hp
      · exact hk₂ _ _ heC heE
      · rw [List.mem_singleton.mp hp]; exact hk₂ _ _ hiC hoi
    · simp [hab]
    · simp
    · exact ⟨hoE _ (hpv _ (.head _)), ⟨oi, hpv _ (.tail _ (.head _)), hoi2⟩, hlo _ (N₃ _ hS).1⟩
  done := by
    intro s Q E hst hQ
    have W := WalksT.enumerate (prog := prog) (w := w) hh e it l hei hle hli items
    exact W.done s Q E hst hQ

/-- a source with its own entering -/
def GSrcP (fl : Nat) (prog : Program) (w : World) (A : Around) (E : Value → Shared → Prop) (h₀ : Heap) (L : Addr) (m : Str → Option Value) (tgt : Expr) (mk : Addr → Env) (Bd : PT) (oD₀ : Obj) (Fin : Shared → Obj → List (Addr × Obj) → Prop) (xv : Value) (s₁ : Shared) : Prop :=
  wpAny (model prog w) A (pyIter xv) (fun it s₂ => ∃ I pa n S P Pv nw, it = .ref I ∧ GB fl s₂.gens ∧ (∀ C, s₂.heap.objs.size ≤ C → EnterP prog w A h₀ L C I pa tgt (mk C) n S P Pv) ∧ Pv 0 s₂.heap ∧
    (∀ h h', Pv 0 h → (∀ b o, h.get? b = some o → h'.get? b = some o) → Pv 0 h') ∧ (∀ (s : Shared) (Q : Value → Shared → Prop) (E : Value → Shared → Prop), Pv 0 s.heap → Q (.ref I) s → wpAny (model prog w) A (pyIter (.ref I)) Q E s) ∧
    (∀ b ∈ pa, b < s₂.heap.objs.size ∧ h₀.get? b = none ∧ b ≠ L) ∧ Fr h₀ L s₂.heap m ∧ News h₀ L s₂.heap nw ∧ (∀ p ∈ nw, p.1 ∉ pa) ∧ S nw ∧ GRestP fl h₀ L m Bd s₂ S P (Fin s₂) n 0 oD₀ nw) E s₁

theorem src_enum {a b : Str} {pa pb tp : Pos} {kk : Nat} {scope : Scope} {cl : List (Str × Addr)} {Bd : PT} {oD₀ : Obj} {Fin : Shared → Obj → List (Addr × Obj) → Prop} {s : Shared} {l : Addr} {its : Array Value} {k : Nat} {news : List (Addr × Obj)}
    (hG : GB fl s.gens) (hh : A.handled = none) (F : Fr h₀ L s.heap m) (N : News h₀ L s.heap news) (hm : (l, ({ cls := .type "list", data := .seq its k } : Obj)) ∈ news)
    (hkind : scope.kind = .function) (ha : scope.names.lookup a = some .local) (hb : scope.names.lookup b = some .local) (hab : a ≠ b)
    (h : ∀ h' e it, e ≠ it → GRestP fl h₀ L m Bd { s with heap := h' } (fun nw => (l, ({ cls := .type "list", data := .seq its k } : Obj)) ∈ nw) (PEnum e it its a b) (Fin { s with heap := h' }) its.size 0 oD₀ news) :
    wpAny (model prog w) A (call (.type "enumerate") [.ref l]) (GSrcP fl prog w A E h₀ L m (.Tuple [.Name a pa, .Name b pb] kk tp) (fun C => compEnvC scope cl C env) Bd oD₀ Fin) E s := by
  have hax := N _ hm
  have hl : s.heap.IsList l its := ⟨_, hax.1, rfl, k, rfl⟩
  have hlt : l < s.heap.objs.size := Heap.lt_size hax.1
  have hLs : L < s.heap.objs.size := F.ns.lt
  refine call_enumerate_list hl fun h' hE hI hsz hk => ?_
  refine wpAny_pyIter_enum hE ?_
  have hle : l ≠ s.heap.objs.size + 1 := Nat.ne_of_lt (Nat.lt_succ_of_lt hlt)
  have hli : l ≠ s.heap.objs.size := Nat.ne_of_lt hlt
  have hei : s.heap.objs.size + 1 ≠ s.heap.objs.size := Nat.succ_ne_self _
  have new : ∀ b, s.heap.objs.size ≤ b → h₀.get? b = none := fun b hb => by
    cases e : h₀.get? b with
    | none => rfl
    | some o => exact absurd (Heap.lt_size (F.keep b o e)) (Nat.not_lt.mpr hb)
  refine ⟨s.heap.objs.size + 1, [s.heap.objs.size + 1, s.heap.objs.size], its.size, (fun nw => (l, ({ cls := .type "list", data := .seq its k } : Obj)) ∈ nw), PEnum (s.heap.objs.size + 1) s.heap.objs.size its a b, (fun i h => (∃ old, IsEnum h (s.heap.objs.size + 1) s.heap.objs.size i old) ∧ h.IsListIter s.heap.objs.size l i ∧ h.IsList l its), news, rfl, hG, (fun C hC => ?_), ⟨⟨_, hE⟩, hI, hl.at fun o e => hk _ o e⟩, (fun g g' st kp => ?_), (fun s' Q E' st hQ => ?_), ?_, F.keeps hk, N.grown hk, (fun p hp hq => ?_), hm, h h' (s.heap.objs.size + 1) s.heap.objs.size hei⟩
  · have hC' : s.heap.objs.size + 2 ≤ C := by
      have : h'.objs.size ≤ C := hC
      rw [hsz] at this; exact this
    refine enter_enum hh hei hle hli (Nat.ne_of_lt (Nat.lt_of_lt_of_le hlt (Nat.le_trans (Nat.le_add_right _ 2) hC'))) (Nat.ne_of_lt (Nat.lt_of_lt_of_le (Nat.lt_succ_self _) hC')) (Nat.ne_of_lt (Nat.lt_of_lt_of_le (Nat.lt_add_of_pos_right (by decide)) hC')) (fun g e => ⟨_, e, rfl, k, rfl⟩) rfl (lookup_relabel_local ha) (lookup_relabel_local hb) hab (by simp [compEnvC, relabel, hkind])
  · obtain ⟨⟨old, he⟩, hi', hl'⟩ := st
    exact ⟨⟨old, kp _ _ he⟩, hi'.at fun o e => kp _ o e, hl'.at fun o e => kp _ o e⟩
  · obtain ⟨⟨old, he⟩, _⟩ := st
    exact wpAny_pyIter_enum he hQ
  · intro b hb
    have hb' : b = s.heap.objs.size + 1 ∨ b = s.heap.objs.size := by simpa using hb
    show b < h'.objs.size ∧ _
    rw [hsz]
    rcases hb' with rfl | rfl
    · exact ⟨Nat.lt_succ_self _, new _ (Nat.le_succ _), Ne.symm (Nat.ne_of_lt (Nat.lt_succ_of_lt hLs))⟩
    · exact ⟨Nat.lt_add_of_pos_right (by decide), new _ (Nat.le_refl _), Ne.symm (Nat.ne_of_lt hLs)⟩
  · have lt := Heap.lt_size (N p hp).1
    have hq' : p.1 = s.heap.objs.size + 1 ∨ p.1 = s.heap.objs.size := by simpa using hq
    rcases hq' with q | q
    · rw [q] at lt; exact Nat.lt_irrefl _ (Nat.lt_of_succ_lt lt)
    · rw [q] at lt; exact Nat.lt_irrefl _ lt

theorem block_P {e tgt : Expr} {scope : Scope} {cl : List (Str × Addr)} {Bd : PT} {newAcc : Sem Value} {oD₀ : Obj} {s₂ : Shared} {I : Addr} {pa : List Addr} {n : Nat} {P : Nat → List (Addr × Obj) → Addr → (Str → Option Value) → Prop} {Pv : Nat → Heap → Prop} {S : List (Addr × Obj) → Prop} {news : List (Addr × Obj)}
    {Fin : Obj → List (Addr × Obj) → Prop} {RR : Value → Addr → Result → Shared → Prop}
    (LT : LoopRuleP prog w A e tgt (fun C => compEnvC scope cl C env) Bd) (ST : StartRule prog w A e)
    (hAcc : ∀ (s : Shared) (Q : Value → Shared → Prop), Q (.ref s.heap.objs.size) { s with heap := s.heap.push oD₀ } → wpAny (model prog w) A newAcc Q E s) (hfree : oD₀.isFreed = false)
    (En : ∀ C, s₂.heap.objs.size ≤ C → EnterP prog w A h₀ L C I pa tgt (compEnvC scope cl C env) n S P Pv) (hst : Pv 0 s₂.heap)
    (hkp : ∀ h h', Pv 0 h → (∀ b o, h.get? b = some o → h'.get? b = some o) → Pv 0 h') (hself : ∀ (s : Shared) (Q : Value → Shared → Prop) (E : Value → Shared → Prop), Pv 0 s.heap → Q (.ref I) s → wpAny (model prog w) A (pyIter (.ref I)) Q E s)
    (hpa : ∀ b ∈ pa, b < s₂.heap.objs.size ∧ h₀.get? b = none ∧ b ≠ L)
    (hcell : ∀ y ∈ scope.names, y.2 ≠ .cell) (hkind : scope.kind = .function)
    (hG : GB fl s₂.gens) (F : Fr h₀ L s₂.heap m) (N : News h₀ L s₂.heap news) (off : ∀ p ∈ news, p.1 ∉ pa) (hS : S news)
    (R : GRestP fl h₀ L m Bd s₂ S P Fin n 0 oD₀ news)
    (hRR : ∀ D C h tk g m' oD news', GB fl g → Fr h₀ L h m → News h₀ L h ((D, oD) :: news') → Off1 D news' → h.Ns C m' → h₀.get? C = none → h₀.get? D = none → C ≠ L → D ≠ L → C ≠ D → (∀ p ∈ news', p.1 ≠ C) → (@_root_.LT.lt Nat _ L D) → Fin oD news' → RR (.ref D) C (.ok .next) { s₂ with heap := h, toks := tk, gens := g }) :
    wpAny (model prog w) A newAcc (fun acc s₃ => wpAny (model prog w) A (newFunctionEnv scope env.globals cl [] env.qual none .none (some env)) (fun cenv s₄ =>
      codeAny (model prog w) A (.compStart e 0 (.ref I) acc { cenv with scope := relabel scope env }) (RR acc cenv.locals) s₄) E s₃) E s₂ := by
  refine hAcc _ _ (wpAny_newFunctionEnv hcell (by intro y hy; simp at hy) (fun h₁ hns₁ hsb₁ => ?_) hkind)
  dsimp only at hns₁ hsb₁ ⊢
  generalize hH2 : s₂.heap.push oD₀ = H2 at hns₁ hsb₁ ⊢
  have hC : H2.objs.size = s₂.heap.objs.size + 1 := by rw [← hH2, Heap.size_push]
  have hDC : s₂.heap.objs.size ≠ H2.objs.size := by rw [hC]; exact Nat.ne_of_lt (Nat.lt_succ_self _)
  have below : ∀ b, b < s₂.heap.objs.size → b ≠ H2.objs.size ∧ b ≠ s₂.heap.objs.size := fun b hb => ⟨by rw [hC]; exact Nat.ne_of_lt (Nat.lt_succ_of_lt hb), Nat.ne_of_lt hb⟩
  have old : ∀ b o, s₂.heap.get? b = some o → h₁.get? b = some o := fun b o e => hsb₁.extBut b o (below b (Heap.lt_size e)).1 (Heap.get?_push_of_some _ (hH2 ▸ Heap.get?_push_of_some _ e))
  have hacc : h₁.get? s₂.heap.objs.size = some oD₀ := hsb₁.extBut _ _ hDC (Heap.get?_push_of_some _ (hH2 ▸ Heap.get?_push_size _ hfree))
  have hst₁ : Pv 0 h₁ := hkp _ _ hst old
  have fresh : ∀ a, s₂.heap.objs.size ≤ a → s₂.heap.get? a = none := fun a ha => by
    cases e : s₂.heap.get? a with
    | none => rfl
    | some o' => exact absurd (Heap.lt_size e) (Nat.not_lt.mpr ha)
  have fresh₀ : ∀ a, s₂.heap.objs.size ≤ a → h₀.get? a = none := fun a ha => by
    cases e : h₀.get? a with
    | none => rfl
    | some o' => have := F.keep a o' e; rw [fresh a ha] at this; cases this
  have hD₀ : h₀.get? s₂.heap.objs.size = none := fresh₀ _ (Nat.le_refl _)
  have hC₀ : h₀.get? H2.objs.size = none := fresh₀ _ (by rw [hC]; exact Nat.le_succ _)
  have hLlt : L < s₂.heap.objs.size := F.ns.lt
  have hDL : s₂.heap.objs.size ≠ L := Ne.symm (below L hLlt).2
  have hCL : H2.objs.size ≠ L := Ne.symm (below L hLlt).1
  have offC : ∀ p ∈ news, p.1 ∉ pa ∧ p.1 ≠ H2.objs.size ∧ p.1 ≠ s₂.heap.objs.size := fun p hp => ⟨off p hp, below _ (Heap.lt_size (N p hp).1)⟩
  have loop : ∀ s₃ : Shared, s₃ = { s₂ with heap := h₁, toks := s₂.toks + ([] : List (Str × Value)).length } →
      codeAny (model prog w) A (.compLoop e 0 (.ref I) (.ref s₂.heap.objs.size) (compEnvC scope cl H2.objs.size env)) (RR (.ref s₂.heap.objs.size) H2.objs.size) s₃ := by
    rintro s₃ rfl
    refine loop_P (s := s₂) (hB := h₁) (gS := s₂.gens) (mk := fun C => compEnvC scope cl C env) LT (En _ (by rw [hC]; exact Nat.le_succ _)) hG hst₁ hns₁ (F.keeps old) (fun p hp => ?_) (fun b hb => ⟨(hpa b hb).2.1, (hpa b hb).2.2, below b (hpa b hb).1⟩) hC₀ hCL (Ne.symm hDC) offC hS R ?_
    · rcases List.mem_cons.mp hp with rfl | hp
      · exact ⟨hacc, hDL, hD₀⟩
      · exact ⟨old _ _ (N p hp).1, (N p hp).2⟩
    · intro h tk g m' oD news' hg F' N' o1 hn oC fin
      exact hRR _ _ h tk g m' oD news' hg F' N' o1 hn hC₀ hD₀ hCL hDL (Ne.symm hDC) oC hLlt fin
  exact ST _ _ _ _ _ (loop _ rfl) (hself _ _ _ hst₁ (loop _ rfl))

theorem comp_P {e tgt : Expr} {iter : Expr} {ifs : List Expr} {gs : List Comprehension} {scope : Scope} {cl : List (Str × Addr)} {Bd : PT} {newAcc : Sem Value} {oD₀ : Obj} {pos : Pos} {s : Shared} {Q : Value → Shared → Prop}
    (LT : LoopRuleP prog w A e tgt (fun C => compEnvC scope cl C env) Bd) (ST : StartRule prog w A e)
    (hAcc : ∀ (s : Shared) (Q : Value → Shared → Prop) (E : Value → Shared → Prop), Q (.ref s.heap.objs.size) { s with heap := s.heap.push oD₀ } → wpAny (model prog w) A newAcc Q E s) (hfree : oD₀.isFreed = false)
    (hcl : clausesOf e = ⟨tgt, iter, ifs, 0⟩ :: gs) (hs : ∀ x, foldedSetIterable iter env x = pure x)
    (hclos : closureFor scope env = pure cl) (hcell : ∀ y ∈ scope.names, y.2 ≠ .cell) (hkind : scope.kind = .function)
    (hnames : ∀ y ∈ scope.names, y.2 = .local → scope.names.lookup y.1 = some .local)
    (h : wpAny (model prog w) A (eval iter env) (GSrcP fl prog w A E h₀ L m tgt (fun C => compEnvC scope cl C env) Bd oD₀ (GFin fl h₀ L m Q)) E s) :
    wpAny (model prog w) A (comprehension e scope env pos newAcc false (eval iter env)) Q E s := by
  refine wpAny_comprehension_free (use := none) hcl hs hclos hkind hnames (wpAny_mono h (fun xv s₁ h₁ => wpAny_mono h₁ (fun it s₂ h₂ => ?_) fun _ _ e => e) fun _ _ e => e)
  obtain ⟨I, pa, n, S, P, Pv, nw, rfl, hG, En, hst, hkp, hself, hpa, F, N, off, hS, R⟩ := h₂
  refine block_P LT ST (fun s Q => hAcc s Q E) hfree En hst hkp hself hpa hcell hkind hG F N off hS R ?_
  intro D C h' tk g m' oD news' hg F' N' o1 hn hC₀ hD₀ hCL hDL hCD offC hLD fin
  refine ⟨m', hn, fun h'' hs'' => fin D h'' tk g hg (F'.change hs'' hCL hC₀) (fun p hp => ?_) o1 hLD⟩
  refine ⟨hs''.extBut _ _ ?_ (N' p hp).1, (N' p hp).2⟩
  rcases List.mem_cons.mp hp with rfl | hp
  · exact Ne.symm hCD
  · exact offC p hp
theorem startT {elt iter : Expr} {ifs : List Expr} {scope : Scope} {pos tp : Pos} {elts : List Expr} {kk : Nat} : StartRule prog w A (.ListComp elt [⟨.Tuple elts kk tp, iter, ifs, 0⟩] scope pos) :=
  fun it acc env R s h0 h => codeAny_compStart_list h0 h
def BdL0 (prog : Program) (w : World) (A : Around) (elt : Expr) (mk : Addr → Env) : PT := fun C D Post E' s =>
  wpAny (model prog w) A (eval elt (mk C)) (fun y s₄ => wpAny (model prog w) A (call (.builtin "list.append") [.ref D, y]) (fun _ s₅ => Post s₅) E' s₄) E' s
theorem loopT {elt iter : Expr} {scope : Scope} {pos tp : Pos} {elts : List Expr} {kk : Nat} {mk : Addr → Env} : LoopRuleP prog w A (.ListComp elt [⟨.Tuple elts kk tp, iter, [], 0⟩] scope pos) (.Tuple elts kk tp) mk (BdL0 prog w A elt mk) :=
  fun I C D R Inv turn n s h => kcp_loop Inv turn n h
theorem ListComp_T {elt iter : Expr} {elts : List Expr} {kk : Nat} {tp : Pos} {scope : Scope} {cl : List (Str × Addr)} {pos : Pos} {s : Shared} {Q : Value → Shared → Prop} (F₀ : Fr h₀ L s.heap m) (G₀ : GB fl s.gens)
    (hclos : closureFor scope env = pure cl) (hcell : ∀ y ∈ scope.names, y.2 ≠ .cell) (hkind : scope.kind = .function)
    (hnames : ∀ y ∈ scope.names, y.2 = .local → scope.names.lookup y.1 = some .local)
    (h : wpAny (model prog w) A (eval iter env) (GSrcP fl prog w A E h₀ L m (.Tuple elts kk tp) (fun C => compEnvC scope cl C env) (BdL0 prog w A elt (fun C => compEnvC scope cl C env)) (lst []) (GFin fl h₀ L m Q)) E s)
    (hs : ∀ x, foldedSetIterable iter env x = pure x := by intro _; rfl) :
    wpAny (model prog w) A (eval (.ListComp elt [⟨.Tuple elts kk tp, iter, [], 0⟩] scope pos) env) Q E s := by
  rw [eval_ListComp]
  exact comp_P loopT startT (fun s Q E h => accL h) rfl rfl hs hclos hcell hkind hnames h

/-- the end of a turn of a list comprehension -/
def GEltP (fl : Nat) (h₀ : Heap) (L : Addr) (m : Str → Option Value) (s : Shared) (S : List (Addr × Obj) → Prop) (pv : List (Addr × Obj)) (C D : Addr) (ys : List Value) (rest : Obj → List (Addr × Obj) → Prop) (y : Value) (s₂ : Shared) : Prop :=
  ∃ h' tk g oC m₂ nw, s₂ = { s with heap := h', toks := tk, gens := g } ∧ GB fl g ∧ NsObj oC m₂ ∧ Fr h₀ L h' m ∧ News h₀ L h' (pv ++ (C, oC) :: (D, lst ys) :: nw) ∧ OffP pv C D nw ∧ S nw ∧ rest (lst (ys ++ [y])) nw
theorem append_P {s s₀ : Shared} {S : List (Addr × Obj) → Prop} {pv : List (Addr × Obj)} {C D : Addr} {ys : List Value} {rest : Obj → List (Addr × Obj) → Prop} {y : Value} {Post : Shared → Prop}
    (ne : NeP pv C D) (hy : ys.length ≤ sizeLine) (hPost : ∀ s₂, GEndP fl h₀ L m s₀ S pv C D rest s₂ → Post s₂) (h : GEltP fl h₀ L m s₀ S pv C D ys rest y s) :
    wpAny (model prog w) A (call (.builtin "list.append") [.ref D, y]) (fun _ s₅ => Post s₅) E s := by
  obtain ⟨h', tk, g, oC, m₂, nw, rfl, hg, hC, F, N, off, hS, r⟩ := h
  have zD := N (D, lst ys) (List.mem_append_right _ (List.mem_cons_of_mem _ List.mem_cons_self))
  refine append_at (hsz := by show ys.toArray.size ≤ sizeLine; rw [List.size_toArray]; exact hy) zD.1 fun h₅ hs₅ hD₅ => hPost _ ?_
  refine ⟨h₅, tk, g, oC, m₂, lst (ys ++ [y]), nw, rfl, hg, hC, F.change hs₅ zD.2.1 zD.2.2, fun p hp => ?_, off, hS, r⟩
  rcases List.mem_append.mp hp with hp | hp
  · exact ⟨hs₅.extBut _ _ (ne.1 p hp).2 (N p (List.mem_append_left _ hp)).1, (N p (List.mem_append_left _ hp)).2⟩
  · rcases List.mem_cons.mp hp with rfl | hp
    · have z := N (C, oC) (List.mem_append_right _ List.mem_cons_self)
      exact ⟨hs₅.extBut _ _ ne.2 z.1, z.2⟩
    · rcases List.mem_cons.mp hp with rfl | hp
      · exact ⟨hD₅.trans (congrArg some (lst_snoc ys y)), zD.2⟩
      · have z := N p (List.mem_append_right _ (List.mem_cons_of_mem _ (List.mem_cons_of_mem _ hp)))
        exact ⟨hs₅.extBut _ _ (off p hp).2.2 z.1, z.2⟩
theorem turnP {elt : Expr} {mk : Addr → Env} {s s₀ : Shared} {S : List (Addr × Obj) → Prop} {pv : List (Addr × Obj)} {C D : Addr} {ys : List Value} {rest : Obj → List (Addr × Obj) → Prop} {Post : Shared → Prop}
    (ne : NeP pv C D) (hy : ys.length ≤ sizeLine) (hPost : ∀ s₂, GEndP fl h₀ L m s₀ S pv C D rest s₂ → Post s₂)
    (h : wpAny (model prog w) A (eval elt (mk C)) (GEltP fl h₀ L m s₀ S pv C D ys rest) E s) : BdL0 prog w A elt mk C D Post E s := by
  exact wpAny_mono h (fun y s₄ h₄ => append_P ne hy hPost h₄) fun _ _ e => e
theorem turnPT {ct elt : Expr} {mk : Addr → Env} {s s₀ : Shared} {S : List (Addr × Obj) → Prop} {pv : List (Addr × Obj)} {C D : Addr} {ys : List Value} {rest : Obj → List (Addr × Obj) → Prop} {Post : Shared → Prop}
    (ne : NeP pv C D) (hy : ys.length ≤ sizeLine) (hPost : ∀ s₂, GEndP fl h₀ L m s₀ S pv C D rest s₂ → Post s₂)
    (h : wpAny (model prog w) A (isTrue ct (mk C) (eval ct (mk C))) (fun ok s₃ => if ok = true then wpAny (model prog w) A (eval elt (mk C)) (GEltP fl h₀ L m s₀ S pv C D ys rest) E s₃ else GEndP fl h₀ L m s₀ S pv C D rest s₃) E s) : BdL prog w A [ct] elt mk C D Post E s := by
  refine wpAny_tests_one (wpAny_mono h (fun ok s₃ h₃ => ?_) fun _ _ e => e)
  cases ok with
  | true =>
    simp only [if_true] at h₃ ⊢
    exact wpAny_mono h₃ (fun y s₄ h₄ => append_P ne hy hPost h₄) fun _ _ e => e
  | false => simp only [Bool.false_eq_true, if_false] at h₃ ⊢; exact hPost _ h₃
theorem GRestP.turns {Bd : PT} {s : Shared} {S : List (Addr × Obj) → Prop} {P : Nat → List (Addr × Obj) → Addr → (Str → Option Value) → Prop} {Fin : Obj → List (Addr × Obj) → Prop} {n : Nat} {oD₀ : Obj} {news : List (Addr × Obj)} (J : Nat → Obj → List (Addr × Obj) → Prop)
    (h0 : J 0 oD₀ news) (hend : ∀ oD nw, J n oD nw → Fin oD nw)
    (hstep : ∀ i, i < n → ∀ oD nw, J i oD nw → ∀ pv C oC D m₂ h tk g (E' : Value → Shared → Prop) (Post : Shared → Prop), P i pv C m₂ → NsObj oC m₂ → Fr h₀ L h m → News h₀ L h (pv ++ (C, oC) :: (D, oD) :: nw) → OffP pv C D nw → NeP pv C D → GB fl g →
      (∀ s₂, GEndP fl h₀ L m s S pv C D (J (i + 1)) s₂ → Post s₂) → Bd C D Post E' { s with heap := h, toks := tk, gens := g }) :
    GRestP fl h₀ L m Bd s S P Fin n 0 oD₀ news := by
  have go : ∀ k i oD nw, i + k = n → J i oD nw → GRestP fl h₀ L m Bd s S P Fin k i oD nw := by
    intro k
    induction k with
    | zero => intro i oD nw e j; have e' : i = n := by omega
              subst e'; exact hend _ _ j
    | succ k ih =>
      intro i oD nw e j pv C oC D m₂ h tk g E' Post hP hC F N off ne hg hPost
      refine hstep i (by omega) oD nw j pv C oC D m₂ h tk g E' Post hP hC F N off ne hg fun s₂ hE => hPost s₂ ?_
      obtain ⟨h', tk', g', oC', m₂', oD', nw', e', a1, a2, a3, a4, a5, a6, a7⟩ := hE
      exact ⟨h', tk', g', oC', m₂', oD', nw', e', a1, a2, a3, a4, a5, a6, ih (i + 1) oD' nw' (by omega) a7⟩
  exact go n 0 oD₀ news (by omega) h0
end
end Mine

end

section
open PySem PySem.W PyProof.Rows PySem.Calls PyProof.V
set_option linter.unusedVariables false
set_option maxRecDepth 100000
set_option maxHeartbeats 2000000
namespace Mine
open LCg
/-- a row of data, each with its value -/
def DatsAt (w : World) (nw : List (Addr × Obj)) : List Addr → List Value → Prop
  | [], [] => True
  | x :: xs, v :: vs => DatAt w nw x v ∧ DatsAt w nw xs vs
  | _, _ => False
theorem DatsAt.length {w : World} {nw : List (Addr × Obj)} : ∀ {xs : List Addr} {vs : List Value}, DatsAt w nw xs vs → xs.length = vs.length
  | [], [], _ => rfl
  | _ :: _, _ :: _, h => congrArg (· + 1) (DatsAt.length h.2)
  | [], _ :: _, h => h.elim
  | _ :: _, [], h => h.elim
theorem DatsAt.mono {w : World} {nw nw' : List (Addr × Obj)} (hs : ∀ p ∈ nw, p ∈ nw') : ∀ {xs : List Addr} {vs : List Value}, DatsAt w nw xs vs → DatsAt w nw' xs vs
  | [], [], _ => trivial
  | _ :: _, _ :: _, h => ⟨h.1.mono hs, DatsAt.mono hs h.2⟩
  | [], _ :: _, h => h.elim
  | _ :: _, [], h => h.elim
theorem DatsAt.snoc {w : World} {nw : List (Addr × Obj)} {x : Addr} {v : Value} (hx : DatAt w nw x v) : ∀ {xs : List Addr} {vs : List Value}, DatsAt w nw xs vs → DatsAt w nw (xs ++ [x]) (vs ++ [v])
  | [], [], _ => ⟨hx, trivial⟩
  | _ :: _, _ :: _, h => ⟨h.1, DatsAt.snoc hx h.2⟩
  | [], _ :: _, h => h.elim
  | _ :: _, [], h => h.elim
theorem DatsAt.get {w : World} {nw : List (Addr × Obj)} : ∀ {xs : List Addr} {vs : List Value}, DatsAt w nw xs vs → ∀ {i : Nat} {x : Addr}, xs[i]? = some x → ∃ v, vs[i]? = some v ∧ DatAt w nw x v
  | [], [], _, _, _, e => by simp at e
  | x :: _, v :: _, h, 0, _, e => by
    obtain rfl : x = _ := by simpa using e
    exact ⟨v, by simp, h.1⟩
  | _ :: _, _ :: _, h, i + 1, _, e => by
    obtain ⟨v, e', d⟩ := DatsAt.get h.2 (i := i) (by simpa using e)
    exact ⟨v, by simpa using e', d⟩
  | [], _ :: _, h, _, _, _ => h.elim
  | _ :: _, [], h, _, _, _ => h.elim
def FreshL (own nw : List (Addr × Obj)) : Prop := ∀ p ∈ own, ∀ q ∈ nw, p.1 ≠ q.1
theorem allLt_trans {L D : Addr} {nw : List (Addr × Obj)} (h : ∀ p ∈ nw, @LT.lt Nat _ p.1 L) (hd : @LT.lt Nat _ L D) : ∀ q ∈ nw, @LT.lt Nat _ q.1 D := fun q hq => Nat.lt_trans (h q hq) hd
/-- the state of a comprehension that makes a row of data -/
def JD (w : World) (base : List (Addr × Obj)) (vs : List Value) (i : Nat) (oD : Obj) (nw : List (Addr × Obj)) : Prop :=
  ∃ xs own, oD = lst (xs.map Value.ref) ∧ nw = base ++ own ∧ DatsAt w own xs (vs.take i) ∧ FreshL own base
theorem JD.zero {w : World} {base : List (Addr × Obj)} {vs : List Value} : JD w base vs 0 (lst []) base :=
  ⟨[], [], rfl, (List.append_nil _).symm, by simp [DatsAt], fun _ h => (nomatch h)⟩
theorem JD.snoc {w : World} {base nw own2 : List (Addr × Obj)} {vs xv : List Value} {i : Nat} {x : Addr} {v : Value} (h : JD w base vs i (lst xv) nw) (hv : vs[i]? = some v) (hx : DatAt w own2 x v) (fr : FreshL own2 nw) :
    JD w base vs (i + 1) (lst (xv ++ [Value.ref x])) (nw ++ own2) := by
  obtain ⟨xs, own, e, rfl, hd, hf⟩ := h
  have e' : xv = xs.map Value.ref := by
    have := congrArg Obj.data e
    simp only [lst] at this
    injection this with q
    have := congrArg Array.toList q
    simpa using this
  subst e'
  refine ⟨xs ++ [x], own ++ own2, by simp, List.append_assoc _ _ _, ?_, fun p hp q hq => ?_⟩
  · rw [List.take_add_one, hv]
    exact (hd.mono fun p hp => List.mem_append_left _ hp).snoc (hx.mono fun p hp => List.mem_append_right _ hp)
  · rcases List.mem_append.mp hp with hp | hp
    · exact hf p hp q hq
    · exact fr p hp q (List.mem_append_left _ hq)
/-- the same below a frame's own objects -/
def JDH (w : World) (hdr base : List (Addr × Obj)) (vs : List Value) (i : Nat) (oD : Obj) (nwx : List (Addr × Obj)) : Prop :=
  ∃ nw2, nwx = hdr ++ nw2 ∧ JD w base vs i oD nw2
theorem JD.sub {w : World} {base nw : List (Addr × Obj)} {vs : List Value} {i : Nat} {oD : Obj} (h : JD w base vs i oD nw) : ∀ q ∈ base, q ∈ nw := by
  obtain ⟨xs, own, _, rfl, _, _⟩ := h
  exact fun q hq => List.mem_append_left _ hq
theorem JD.isLst {w : World} {base nw : List (Addr × Obj)} {vs : List Value} {i : Nat} {oD : Obj} (h : JD w base vs i oD nw) : ∃ xv, oD = lst xv := by
  obtain ⟨xs, own, e, _⟩ := h
  exact ⟨_, e⟩
theorem JD.len {w : World} {base nw : List (Addr × Obj)} {vs xv : List Value} {i : Nat} (h : JD w base vs i (lst xv) nw) : xv.length ≤ i := by
  obtain ⟨xs, own, e, _, dd, _⟩ := h
  have e' : xv = xs.map Value.ref := by
    have := congrArg Obj.data e
    simp only [lst] at this
    injection this with q
    have := congrArg Array.toList q
    simpa using this
  rw [e', List.length_map, dd.length, List.length_take]
  exact Nat.min_le_left _ _
/-- a turn whose element is a fresh datum -/
theorem closeTurnP {fl : Nat} {w : World} {h₀ h : Heap} {L x d C D : Addr} {m m₂ : Str → Option Value} {n i : Nat} {t1 t2 t3 : Tok} {v pv' cv : Value} {oC : Obj} {pv hdr base nw2 l : List (Addr × Obj)} {xv vs : List Value} {s sB : Shared} {tk : Nat} {g : Array GenState} {S : List (Addr × Obj) → Prop}
    (N : News h₀ L h l) (h1 : (x, instObj 212 d) ∈ l) (h2 : (d, dictOf [ent w "_value" t1 v, ent w "path" t2 pv', ent w "context" t3 cv] n) ∈ l) (hs : ∀ q ∈ pv ++ (C, oC) :: (D, lst xv) :: (hdr ++ nw2), q ∈ l) (lt1 : ∀ q ∈ pv ++ (C, oC) :: (D, lst xv) :: (hdr ++ nw2), @LT.lt Nat _ q.1 d) (lt2 : @LT.lt Nat _ d x)
    (hG : GB fl g) (hC : NsObj oC m₂) (F : Fr h₀ L h m) (off : OffP pv C D (hdr ++ nw2)) (hS : ∀ own, S (hdr ++ (nw2 ++ own))) (hJ : JD w base vs i (lst xv) nw2) (hv : vs[i]? = some v) (es : s = { sB with heap := h, toks := tk, gens := g }) :
    GEltP fl h₀ L m sB S pv C D xv (JDH w hdr base vs (i + 1)) (.ref x) s := by
  have fr : ∀ p ∈ [(x, instObj 212 d), (d, dictOf [ent w "_value" t1 v, ent w "path" t2 pv', ent w "context" t3 cv] n)], ∀ q ∈ pv ++ (C, oC) :: (D, lst xv) :: (hdr ++ nw2), p.1 ≠ q.1 := fun p hp q hq => by
    rcases List.mem_cons.mp hp with rfl | hp
    · exact Nat.ne_of_gt (Nat.lt_trans (lt1 q hq) lt2)
    · rw [List.mem_singleton.mp hp]; exact Nat.ne_of_gt (lt1 q hq)
  refine ⟨h, tk, g, oC, m₂, hdr ++ (nw2 ++ [(x, instObj 212 d), (d, dictOf [ent w "_value" t1 v, ent w "path" t2 pv', ent w "context" t3 cv] n)]), es, hG, hC, F, fun p hp => ?_, fun p hp => ?_, hS _, ⟨_, rfl, hJ.snoc hv ⟨d, n, t1, t2, t3, pv', cv, .head _, .tail _ (.head _)⟩ fun p hp q hq => fr p hp q (List.mem_append_right _ (.tail _ (.tail _ (List.mem_append_right _ hq))))⟩⟩
  · have hp' : p ∈ pv ++ (C, oC) :: (D, lst xv) :: (hdr ++ nw2) ∨ p = (x, instObj 212 d) ∨ p = (d, dictOf [ent w "_value" t1 v, ent w "path" t2 pv', ent w "context" t3 cv] n) := by
      simp only [List.mem_append, List.mem_cons, List.not_mem_nil, or_false] at hp ⊢
      rcases hp with hp | hp | hp | hp | hp | hp | hp <;> simp [hp]
    rcases hp' with hp | rfl | rfl
    · exact N p (hs p hp)
    · exact N _ h1
    · exact N _ h2
  · have hp' : p ∈ hdr ++ nw2 ∨ p ∈ [(x, instObj 212 d), (d, dictOf [ent w "_value" t1 v, ent w "path" t2 pv', ent w "context" t3 cv] n)] := by
      rcases List.mem_append.mp hp with hp | hp
      · exact .inl (List.mem_append_left _ hp)
      · rcases List.mem_append.mp hp with hp | hp
        · exact .inl (List.mem_append_right _ hp)
        · exact .inr hp
    rcases hp' with hp | hp
    · exact off p hp
    · exact ⟨fun q hq => fr p hp q (List.mem_append_left _ hq), fr p hp (C, oC) (List.mem_append_right _ (.head _)), fr p hp (D, lst xv) (List.mem_append_right _ (.tail _ (.head _)))⟩
end Mine

end

section
open PySem PySem.W PyProof.Rows PySem.Calls PyProof.V
set_option linter.unusedVariables false
set_option maxHeartbeats 2000000
namespace Mine
open LCg
theorem compTurn_list2 (elt t1 i1 t2 i2 : Expr) (ifs1 ifs2 : List Expr) (scope : Scope) (pos : Pos) (it acc : Value) (env : Env) :
    compTurn (.ListComp elt [⟨t1, i1, ifs1, 0⟩, ⟨t2, i2, ifs2, 0⟩] scope pos) 0 it acc env = (do
      standAt i1.pos
      match ← pyNext it with
      | none => pure (.done .next)
      | some v =>
        letOwnedTupleGo t1 it v
        assign t1 env v
        let mut ok := true
        for c in ifs1 do
          if ok then ok ← isTrue c env (eval c env)
        if ok then
          let x ← eval i2 env
          standAt i2.pos
          let x ← foldedSetIterable i2 env x
          let _ ← runOwn (.compStart (.ListComp elt [⟨t1, i1, ifs1, 0⟩, ⟨t2, i2, ifs2, 0⟩] scope pos) 1 (← holding [x] (pyIter x)) acc env) env
        again (.compLoop (.ListComp elt [⟨t1, i1, ifs1, 0⟩, ⟨t2, i2, ifs2, 0⟩] scope pos) 0 it acc env)) := by rfl
theorem compTurn_list2b (elt t1 i1 t2 i2 : Expr) (ifs1 ifs2 : List Expr) (scope : Scope) (pos : Pos) (it acc : Value) (env : Env) :
    compTurn (.ListComp elt [⟨t1, i1, ifs1, 0⟩, ⟨t2, i2, ifs2, 0⟩] scope pos) 1 it acc env = (do
      standAt i2.pos
      match ← pyNext it with
      | none => pure (.done .next)
      | some v =>
        letOwnedTupleGo t2 it v
        assign t2 env v
        let mut ok := true
        for c in ifs2 do
          if ok then ok ← isTrue c env (eval c env)
        if ok then
          (do let _ ← call (.builtin "list.append") [acc, ← eval elt env])
        again (.compLoop (.ListComp elt [⟨t1, i1, ifs1, 0⟩, ⟨t2, i2, ifs2, 0⟩] scope pos) 1 it acc env)) := by rfl
section
variable {fl : Nat} {prog : Program} {w : World} {A : Around} {E : Value → Shared → Prop} {R : Result → Shared → Prop} {s : Shared} {h₀ : Heap} {L : Addr} {m : Str → Option Value} {env : Env}
theorem start2 {elt t1 i1 t2 i2 : Expr} {ifs1 ifs2 : List Expr} {scope : Scope} {pos : Pos} {it acc : Value} {env : Env}
    (h0 : codeAny (model prog w) A (.compLoop (.ListComp elt [⟨t1, i1, ifs1, 0⟩, ⟨t2, i2, ifs2, 0⟩] scope pos) 1 it acc env) R s)
    (h : wpAny (model prog w) A (pyIter it) (fun it' s' => codeAny (model prog w) A (.compLoop (.ListComp elt [⟨t1, i1, ifs1, 0⟩, ⟨t2, i2, ifs2, 0⟩] scope pos) 1 it' acc env) R s')
      (notedBy (model prog w) A env fun x s' => R (.error x) s') s) :
    codeAny (model prog w) A (.compStart (.ListComp elt [⟨t1, i1, ifs1, 0⟩, ⟨t2, i2, ifs2, 0⟩] scope pos) 1 it acc env) R s := by
  refine codeAny_of_tree ?_
  show wpAny _ _ ((compStart (.ListComp elt [⟨t1, i1, ifs1, 0⟩, ⟨t2, i2, ifs2, 0⟩] scope pos) 1 it acc env).onRaise (fun x => do noteFrame x env; standAt theWindowsPlace)) _ _ s
  refine wpAny_notedAt ?_
  unfold compStart
  show wpAny _ _ (ask >>= _) _ _ s
  refine wpAny_bind (wpAny_askSetting (wpAny_ite ?_))
  split
  · first
      | exact wpAny_bind (wpAny_pure (wpAny_pure (And.intro rfl h0)))
      | exact wpAny_pure (And.intro rfl h0)
  · first
      | exact wpAny_bind (wpAny_rule (wpAny_bind (wpAny_standAt (wpAny_bind (wpAny_mono h (fun it' s' h' => wpAny_pure (And.intro rfl h')) fun _ _ x => x)))))
      | (refine wpAny_bind (wpAny_rule ?_); show wpAny _ _ (standAt i2.pos >>= _) _ _ s; exact wpAny_bind (wpAny_standAt (wpAny_bind (wpAny_mono h (fun it' s' h' => wpAny_pure (And.intro rfl h')) fun _ _ x => x))))
theorem loop2b {elt t1 i1 i2 : Expr} {y : Str} {py : Pos} {ifs1 : List Expr} {scope : Scope} {pos : Pos} {it acc : Value} {env : Env} (I : Nat → Shared → Prop)
    (turn : ∀ n s, I n s → wpAny (model prog w) A (pyNext it) (fun r s₁ => match r with
      | none => R (.ok .next) s₁
      | some v => wpAny (model prog w) A (assign (.Name y py) env v) (fun _ s₂ =>
          wpAny (model prog w) A (eval elt env) (fun x s₄ =>
            wpAny (model prog w) A (call (.builtin "list.append") [acc, x]) (fun _ s₅ => ∃ m, m < n ∧ I m s₅) (notedBy (model prog w) A env fun e s' => R (.error e) s') s₄) (notedBy (model prog w) A env fun e s' => R (.error e) s') s₂)
          (notedBy (model prog w) A env fun e s' => R (.error e) s') s₁) (notedBy (model prog w) A env fun e s' => R (.error e) s') s)
    (n : Nat) (h : I n s) : codeAny (model prog w) A (.compLoop (.ListComp elt [⟨t1, i1, ifs1, 0⟩, ⟨.Name y py, i2, [], 0⟩] scope pos) 1 it acc env) R s := by
  refine codeAny_loop rfl I (fun n s hI => ?_) n h
  show wpAny _ A ((compTurn (.ListComp elt [⟨t1, i1, ifs1, 0⟩, ⟨.Name y py, i2, [], 0⟩] scope pos) 1 it acc env).onRaise (fun x => do noteFrame x env; theTreesLotGoes x)) _ _ s
  refine wpAny_noted ?_
  rw [compTurn_list2b]
  refine wpAny_bind (wpAny_standAt (wpAny_bind (wpAny_mono (turn n s hI) (fun r s₁ h₁ => ?_) fun _ _ h' => h')))
  cases r with
  | none => exact wpAny_pure h₁
  | some v =>
    refine wpAny_bind (wpAny_of_eq (show letOwnedTupleGo (.Name y py) it v = pure () from rfl) ?_)
    refine wpAny_bind (wpAny_mono h₁ (fun _ s₂ h₂ => ?_) fun _ _ h' => h')
    refine wpAny_bind (wpAny_tests_nil ?_)
    exact wpAny_bind (wpAny_bind (wpAny_mono h₂ (fun x s₄ h₄ => wpAny_bind (wpAny_mono h₄ (fun _ s₅ h₅ => wpAny_pure (wpAny_pure ⟨rfl, h₅⟩)) fun _ _ h' => h')) fun _ _ h' => h'))
/-- the body of the outer turn -/
def Bd2 (prog : Program) (w : World) (A : Around) (e i2 : Expr) (mk : Addr → Env) : PT := fun C D Post E' s =>
  wpAny (model prog w) A (eval i2 (mk C)) (fun xv s₄ => wpAny (model prog w) A (pyIter xv) (fun it s₅ => codeAny (model prog w) (A.mark none) (.compStart e 1 it (.ref D) (mk C)) (fun r s' => match r with | .ok _ => Post s' | .error e => cameBackBy (model prog w) A (mk C) E' e s') s₅) E' s₄) E' s
theorem loop2 {elt iter i2 t2 : Expr} {scope : Scope} {pos px : Pos} {x : Str} {ifs2 : List Expr} {mk : Addr → Env} (hs : ∀ C x, foldedSetIterable i2 (mk C) x = pure x) :
    LoopRule prog w A (.ListComp elt [⟨.Name x px, iter, [], 0⟩, ⟨t2, i2, ifs2, 0⟩] scope pos) x px mk (Bd2 prog w A (.ListComp elt [⟨.Name x px, iter, [], 0⟩, ⟨t2, i2, ifs2, 0⟩] scope pos) i2 mk) := by
  intro I C D R Inv turn n s h
  refine codeAny_loop rfl Inv (fun n s hI => ?_) n h
  show wpAny _ A ((compTurn (.ListComp elt [⟨.Name x px, iter, [], 0⟩, ⟨t2, i2, ifs2, 0⟩] scope pos) 0 (.ref I) (.ref D) (mk C)).onRaise (fun x => do noteFrame x (mk C); theTreesLotGoes x)) _ _ s
  refine wpAny_noted ?_
  rw [compTurn_list2]
  refine wpAny_bind (wpAny_standAt (wpAny_bind (wpAny_mono (turn n s hI) (fun r s₁ h₁ => ?_) fun _ _ h' => h')))
  cases r with
  | none => exact wpAny_pure h₁
  | some v =>
    refine wpAny_bind (wpAny_of_eq (show letOwnedTupleGo (.Name x px) (.ref I) v = pure () from rfl) ?_)
    refine wpAny_bind (wpAny_mono h₁ (fun _ s₂ h₂ => ?_) fun _ _ h' => h')
    refine wpAny_bind (wpAny_tests_nil ?_)
    refine wpAny_bind (wpAny_mono h₂ (fun xv s₄ h₄ => wpAny_bind (wpAny_standAt (wpAny_bind (wpAny_of_eq (hs C xv) (wpAny_bind (wpAny_holding (wpAny_mono h₄ (fun it s₅ h₅ => ?_) fun _ _ h' => h'))))))) fun _ _ h' => h')
    exact wpAny_bind (wpAny_mono (wpAny_runOwn h₅ (by intro q; cases q)) (fun _ s₆ h₆ => wpAny_pure ⟨rfl, h₆⟩) fun _ _ h' => h')
end
end Mine

end

section
open PySem PySem.W PyProof.Rows PySem.Calls PyProof.V
set_option linter.unusedVariables false
set_option maxHeartbeats 2000000
namespace Mine
open LCg
section
variable {fl : Nat} {prog : Program} {w : World} {A : Around} {E : Value → Shared → Prop} {R : Result → Shared → Prop} {s : Shared} {h₀ : Heap} {L : Addr} {m : Str → Option Value} {env : Env}
/-- the inner clause's source, a list of the ledger -/
def GElt2 (fl : Nat) (h₀ : Heap) (L : Addr) (m : Str → Option Value) (s : Shared) (S : List (Addr × Obj) → Prop) (I : Addr) (oI : Obj) (C D : Addr) (ys : List Value) (rest : Obj → List (Addr × Obj) → Prop) (y : Value) (s₂ : Shared) : Prop :=
  ∃ h' tk g oC m₂ nw R vs k, y = .ref R ∧ s₂ = { s with heap := h', toks := tk, gens := g } ∧ GB fl g ∧ NsObj oC m₂ ∧ Fr h₀ L h' m ∧ News h₀ L h' ((I, oI) :: (C, oC) :: (D, lst ys) :: nw) ∧ Off3 I C D nw ∧ S nw ∧ (R, ({ cls := .type "list", data := .seq vs.toArray k } : Obj)) ∈ nw ∧ (ys ++ vs).length ≤ sizeLine ∧ rest (lst (ys ++ vs)) nw
theorem turn2 {iter : Expr} {x y : Str} {px py qy : Pos} {i2 : Expr} {scope : Scope} {cl : List (Str × Addr)} {pos : Pos} {s s₀ : Shared} {S : List (Addr × Obj) → Prop} {I C D : Addr} {oI : Obj} {ys : List Value} {rest : Obj → List (Addr × Obj) → Prop} {Post : Shared → Prop}
    (hh : A.handled = none) (ne : (@Ne Nat I C) ∧ (@Ne Nat I D) ∧ (@Ne Nat C D)) (hkind : scope.kind = .function) (hy : scope.names.lookup y = some .local) (hdb : (y == ("__debug__" : Str)) = false)
    (hPost : ∀ s₂, GEnd fl h₀ L m s₀ S I oI C D rest s₂ → Post s₂)
    (h : wpAny (model prog w) A (eval i2 (compEnvC scope cl C env)) (GElt2 fl h₀ L m s₀ S I oI C D ys rest) E s) :
    Bd2 prog w A (.ListComp (.Name y qy) [⟨.Name x px, iter, [], 0⟩, ⟨.Name y py, i2, [], 0⟩] scope pos) i2 (fun C => compEnvC scope cl C env) C D Post E s := by
  refine wpAny_mono h (fun xv s₄ h₄ => ?_) fun _ _ e => e
  obtain ⟨h', tk, g, oC, m₂, nw, R, vs, k, rfl, rfl, hg, hC, F, N, off, hS, hm, hlen, r⟩ := h₄
  have off3 := off.mem
  have hRm : (R, ({ cls := .type "list", data := .seq vs.toArray k } : Obj)) ∈ (I, oI) :: (C, oC) :: (D, lst ys) :: nw := .tail _ (.tail _ (.tail _ hm))
  have hl : h'.IsList R vs.toArray := N.isList hRm
  have hlt : R < h'.objs.size := by obtain ⟨_, e, _⟩ := hl; exact Heap.lt_size e
  refine wpAny_pyIter_list hl ?_
  generalize hJ : h'.objs.size = J at hlt
  have hRJ : R ≠ J := Nat.ne_of_lt hlt
  have up : ∀ b o, h'.get? b = some o → (h'.push { cls := .type "list_iterator", data := .fields #[.ref R, .int 0 0] }).get? b = some o := fun b o e => Heap.get?_push_of_some _ e
  have hit0 : (h'.push { cls := .type "list_iterator", data := .fields #[.ref R, .int 0 0] }).IsListIter J R 0 := ⟨_, hJ ▸ Heap.get?_push_size _ rfl, rfl, rfl⟩
  have hLJ : L ≠ J := hJ ▸ Nat.ne_of_lt F.ns.lt
  have hJ₀ : h₀.get? J = none := hJ ▸ next_is_new F
  have offJ : ∀ p ∈ (I, oI) :: (C, oC) :: (D, lst ys) :: nw, p.1 ≠ J := fun p hp => hJ ▸ Nat.ne_of_lt (Heap.lt_size (N p hp).1)
  have zC := N (C, oC) (.tail _ (.head _))
  have zD := N (D, lst ys) (.tail _ (.tail _ (.head _)))
  have W := Walks.list (prog := prog) (w := w) (A := A.mark none) (by rw [Around.mark_none]; exact hh) J R hRJ vs.toArray
  have hCJ : C ≠ J := offJ (C, oC) (.tail _ (.head _))
  have hDJ : D ≠ J := offJ (D, lst ys) (.tail _ (.tail _ (.head _)))
  have hRC : R ≠ C := (off3 _ hm).2.1
  have hRD : R ≠ D := (off3 _ hm).2.2
  have loop : ∀ s₃ : Shared, s₃ = { s₀ with heap := h'.push { cls := .type "list_iterator", data := .fields #[.ref R, .int 0 0] }, toks := tk, gens := g } →
      codeAny (model prog w) (A.mark none) (.compLoop (.ListComp (.Name y qy) [⟨.Name x px, iter, [], 0⟩, ⟨.Name y py, i2, [], 0⟩] scope pos) 1 (.ref J) (.ref D) (compEnvC scope cl C env))
        (fun r s' => match r with | .ok _ => Post s' | .error e => cameBackBy (model prog w) A (compEnvC scope cl C env) E e s') s₃ := by
    rintro s₃ rfl
    refine loop2b (fun k s' => ∃ h₂ tk₂ oC₂ mC j, s' = { s₀ with heap := h₂, toks := tk₂, gens := g } ∧ j ≤ vs.length ∧ k = vs.length + 1 - j ∧ h₂.IsListIter J R j ∧ NsObj oC₂ mC ∧ Fr h₀ L h₂ m ∧ News h₀ L h₂ ((I, oI) :: (C, oC₂) :: (D, lst (ys ++ vs.take j)) :: nw)) ?_ (vs.length + 1)
      ⟨_, tk, oC, m₂, 0, rfl, Nat.zero_le _, rfl, hit0, hC, F.keeps up, by rw [List.take_zero, List.append_nil]; exact N.grown up⟩
    rintro n s' ⟨h₂, tk₂, oC₂, mC, j, rfl, hj, rfl, hit, hC₂, F₂, N₂⟩
    have hl₂ : h₂.IsList R vs.toArray := N₂.isList (.tail _ (.tail _ (.tail _ hm)))
    have offJ₂ : ∀ p ∈ (I, oI) :: (C, oC₂) :: (D, lst (ys ++ vs.take j)) :: nw, p.1 ≠ J := fun p hp => by
      rcases List.mem_cons.mp hp with rfl | hp
      · exact offJ _ (.head _)
      · rcases List.mem_cons.mp hp with rfl | hp
        · exact hCJ
        · rcases List.mem_cons.mp hp with rfl | hp
          · exact hDJ
          · exact offJ p (.tail _ (.tail _ (.tail _ hp)))
    by_cases hlt2 : j < vs.length
    · refine W.item j _ _ _ (by simpa using hlt2) ⟨hit, hl₂⟩ fun v h₃ tk₃ hv hst₃ hk₃ => ?_
      have F₃ := fr_but F₂ hk₃ hLJ hJ₀
      have N₃ := news_but N₂ hk₃ offJ₂
      have zC₃ := N₃ (C, oC₂) (.tail _ (.head _))
      refine wpAny_assign_Name (wpAny_storeName_local (lookup_relabel_local hy) (hC₂.ns zC₃.1) (fun h₄ hn₄ hs₄ => ?_) (by simp [compEnvC, relabel, hkind]))
      obtain ⟨oC₄, heC, hoC⟩ := ns_obj hn₄
      have F₄ := F₃.change hs₄ zC.2.1 zC.2.2
      have N₄ : News h₀ L h₄ ((I, oI) :: (C, oC₄) :: (D, lst (ys ++ vs.take j)) :: nw) := fun p hp => by
        rcases List.mem_cons.mp hp with rfl | hp
        · exact ⟨hs₄.extBut _ _ ne.1 (N₃ _ (.head _)).1, (N₃ (I, oI) (.head _)).2⟩
        · rcases List.mem_cons.mp hp with rfl | hp
          · exact ⟨heC, zC.2⟩
          · have z := N₃ p (.tail _ (.tail _ hp))
            refine ⟨hs₄.extBut _ _ ?_ z.1, z.2⟩
            rcases List.mem_cons.mp hp with rfl | hp
            · exact Ne.symm ne.2.2
            · exact (off3 p hp).2.1
      have hit₄ : h₄.IsListIter J R (j + 1) := hst₃.1.at fun o e => hs₄.extBut _ _ (Ne.symm hCJ) e
      refine ldVarK (hoC.ns heC) (show _ = some v by simp) ?_ hkind (lookup_relabel_local hy) hdb
      have zD₄ := N₄ (D, lst (ys ++ vs.take j)) (.tail _ (.tail _ (.head _)))
      have hszJ : (ys ++ vs.take j).toArray.size ≤ sizeLine := by
        simp only [List.size_toArray, List.length_append, List.length_take] at hlen ⊢
        omega
      refine append_at (hsz := hszJ) zD₄.1 fun h₅ hs₅ hD₅ => ?_
      have hvj : vs[j]? = some v := by simpa using hv
      have e5 : ys ++ vs.take (j + 1) = (ys ++ vs.take j) ++ [v] := by rw [List.take_add_one, hvj, List.append_assoc]; rfl
      refine ⟨vs.length + 1 - (j + 1), by omega, h₅, _, oC₄, _, j + 1, rfl, hlt2, rfl, hit₄.at fun o e => hs₅.extBut _ _ (Ne.symm hDJ) e, hoC, F₄.change hs₅ zD.2.1 zD.2.2, fun p hp => ?_⟩
      rw [e5] at hp
      rcases List.mem_cons.mp hp with rfl | hp
      · exact ⟨hs₅.extBut _ _ ne.2.1 (N₄ _ (.head _)).1, (N₄ (I, oI) (.head _)).2⟩
      · rcases List.mem_cons.mp hp with rfl | hp
        · have z := N₄ (C, oC₄) (.tail _ (.head _))
          exact ⟨hs₅.extBut _ _ ne.2.2 z.1, z.2⟩
        · rcases List.mem_cons.mp hp with rfl | hp
          · exact ⟨hD₅.trans (congrArg some (lst_snoc _ _)), zD.2⟩
          · have z := N₄ p (.tail _ (.tail _ (.tail _ hp)))
            exact ⟨hs₅.extBut _ _ (off3 p hp).2.2 z.1, z.2⟩
    · obtain rfl : j = vs.length := Nat.le_antisymm hj (Nat.not_lt.mp hlt2)
      refine W.done _ _ _ ⟨by simpa using hit, hl₂⟩ fun h₃ tk₃ hk₃ => ?_
      rw [List.take_length] at N₂ offJ₂
      exact hPost _ ⟨h₃, tk₃, g, oC₂, mC, lst (ys ++ vs), nw, rfl, hg, hC₂, fr_but F₂ hk₃ hLJ hJ₀, news_but N₂ hk₃ offJ₂, off, hS, r⟩
  exact start2 (loop _ rfl) (W.self 0 _ _ _ ⟨hit0, hl.push _⟩ (loop _ rfl))
theorem ListComp_2 {elt iter i2 t2 : Expr} {x : Str} {px : Pos} {ifs2 : List Expr} {scope : Scope} {cl : List (Str × Addr)} {pos : Pos} {s : Shared} {Q : Value → Shared → Prop} (F₀ : Fr h₀ L s.heap m) (G₀ : GB fl s.gens)
    (hclos : closureFor scope env = pure cl) (hcell : ∀ y ∈ scope.names, y.2 ≠ .cell) (hkind : scope.kind = .function)
    (hnames : ∀ y ∈ scope.names, y.2 = .local → scope.names.lookup y.1 = some .local) (hx : scope.names.lookup x = some .local)
    (h : wpAny (model prog w) A (eval iter env) (GSrc fl prog w A E h₀ L m x (Bd2 prog w A (.ListComp elt [⟨.Name x px, iter, [], 0⟩, ⟨t2, i2, ifs2, 0⟩] scope pos) i2 (fun C => compEnvC scope cl C env)) (lst []) (GFin fl h₀ L m Q)) E s)
    (hs : ∀ x, foldedSetIterable iter env x = pure x := by intro _; rfl) (hs2 : ∀ C x, foldedSetIterable i2 (compEnvC scope cl C env) x = pure x := by intro _ _; rfl) :
    wpAny (model prog w) A (eval (.ListComp elt [⟨.Name x px, iter, [], 0⟩, ⟨t2, i2, ifs2, 0⟩] scope pos) env) Q E s := by
  rw [eval_ListComp]
  exact comp_G (loop2 hs2) (fun it acc env R s h0 h => codeAny_compStart_list h0 h) (fun s Q E h => accL h) rfl rfl hs hclos hcell hkind hnames hx h
end
end Mine

end

section
open PySem PySem.W PyProof.Rows PySem.Calls PyProof.V
set_option linter.unusedVariables false
set_option maxHeartbeats 2000000
namespace Mine
open LCg
section
variable {fl : Nat} {prog : Program} {w : World} {A : Around} {E : Value → Shared → Prop} {s : Shared} {h₀ : Heap} {L : Addr} {m : Str → Option Value} {env : Env}
/-- a comprehension's names, one of them a cell -/
theorem newEnv_cell {scope : Scope} {globals : Addr} {cl : List (Str × Addr)} {x : Str} {qual : Str} {func : Option Addr} {code : Value} {builtins : Addr} {outer : Env} {Q : Env → Shared → Prop}
    (hcs : ∀ n, cellsFrom n scope.names cl = (x, n) :: cl) (hpc : ∀ h : Heap, pushCells h scope.names = h.push { cls := .type "cell", data := .cell none })
    (hQ : Q (newEnv scope s.heap.objs.size globals ((x, s.heap.objs.size + 1) :: cl) qual func code (some outer) builtins) { s with heap := (s.heap.push { cls := .type "dict", data := .dict #[] }).push { cls := .type "cell", data := .cell none } }) :
    wpAny (model prog w) A (newFunctionEnv scope globals cl [] qual func code (some outer) builtins) Q E s := by
  simp only [newFunctionEnv, Option.isSome_some, if_true]
  refine wpAny_bind (wpAny_alloc ?_)
  refine wpAny_bind (wpAny_layCells _ (fun name kind cells => by cases hkc : kind == NameKind.cell <;> simp [hkc]) _ _ _ _ ?_)
  rw [show ({ s with heap := s.heap.push { cls := .type "dict", data := .dict #[] } } : Shared).heap.objs.size = s.heap.objs.size + 1 from Heap.size_push .., hcs, hpc]
  exact wpAny_bind (wpAny_pure (wpAny_pure hQ))

def PCell (its : Array Value) (i : Nat) (pv : List (Addr × Obj)) (C : Addr) (m₂ : Str → Option Value) : Prop :=
  ∃ I oI oK v, pv = [(I, oI), (C + 1, oK)] ∧ oK.data = .cell (some v) ∧ its[i]? = some v
theorem enter_cell {I ax C : Addr} {its : Array Value} {lo : Obj} {x : Str} {px : Pos} {env' : Env} (hh : A.handled = none) (hne : ax ≠ I) (hCI : C ≠ I) (hKI : C + 1 ≠ I) (haC : ax ≠ C) (haK : ax ≠ C + 1)
    (hlo : ∀ h : Heap, h.get? ax = some lo → h.IsList ax its) (hkind : env'.scope.kind = .function) (hx : env'.kindOf x = some .cell) (hcl : env'.cells.lookup x = some (C + 1)) :
    EnterP prog w A h₀ L C I [I, C + 1] (.Name x px) env' its.size (fun nw => (ax, lo) ∈ nw) (PCell its)
      (fun i h => (h.IsListIter I ax i ∧ h.IsList ax its) ∧ ∃ v, h.IsCell (C + 1) v) where
  item := by
    intro i s mC nw Q E hi hst hn hQ
    obtain ⟨hst, v₀, hc₀⟩ := hst
    have W := Walks.list (prog := prog) (w := w) hh I ax hne its
    refine W.item i s Q E hi hst fun v h₁ tk₁ hv hst₁ hk₁ => ?_
    refine hQ v h₁ tk₁ fun Q' E' k => ?_
    refine wpAny_of_eq (show letOwnedTupleGo (.Name x px) (.ref I) v = pure () from rfl) ?_
    have up : ∀ b o, b ≠ I → s.heap.get? b = some o → h₁.get? b = some o := fun b o hb e => hk₁ b o (by simpa using hb) e
    have hc₁ : h₁.IsCell (C + 1) v₀ := by obtain ⟨o, e, d⟩ := hc₀; exact ⟨o, up _ _ hKI e, d⟩
    have hn₁ : h₁.Ns C mC := hn.at' fun o e => up _ o hCI e
    refine wpAny_assign_Name (wpAny_storeName_cell hkind hx hcl hc₁ fun h₂ hc₂ hs₂ => ?_)
    obtain ⟨oK, eK, dK⟩ := hc₂
    have hn₂ : h₂.Ns C mC := hn₁.sameBut hs₂ (Nat.ne_of_lt (Nat.lt_succ_self C))
    obtain ⟨oC, eC, hoC⟩ := ns_obj hn₂
    obtain ⟨⟨oI, eI, cI, dI⟩, hl₁⟩ := hst₁
    have eI₂ : h₂.get? I = some oI := hs₂.extBut _ _ (Ne.symm hKI) eI
    refine k h₂ tk₁ [(I, oI), (C + 1, oK)] oC mC (fun b o hb hbC e => ?_) (fun p hp => ?_) rfl eC hoC ⟨I, oI, oK, v, rfl, dK, hv⟩ (fun h₃ nw' hpv kp N₃ hS => ?_)
    · have hb' : b ≠ I ∧ b ≠ C + 1 := by simpa using hb
      exact hs₂.extBut _ _ hb'.2 (up b o hb'.1 e)
    · rcases List.mem_cons.mp hp with rfl | hp
      · exact eI₂
      · rw [List.mem_singleton.mp hp]; exact eK
    · exact ⟨⟨⟨oI, hpv _ (.head _), cI, dI⟩, hlo _ (N₃ _ hS).1⟩, some v, oK, hpv _ (.tail _ (.head _)), dK⟩
  done := by
    intro s Q E hst hQ
    have W := Walks.list (prog := prog) (w := w) hh I ax hne its
    exact W.done s Q E hst.1 fun h' tk hk => hQ h' tk fun b o hb e => hk b o (fun q => hb (by rw [List.mem_singleton.mp q]; exact .head _)) e

/-- a list of the ledger as source -/
def GSrcC (fl : Nat) (prog : Program) (w : World) (A : Around) (h₀ : Heap) (L : Addr) (m : Str → Option Value) (Bd : PT) (oD₀ : Obj) (Fin : Shared → Obj → List (Addr × Obj) → Prop) (xv : Value) (s₁ : Shared) : Prop :=
  ∃ ax its k news, xv = .ref ax ∧ GB fl s₁.gens ∧ A.handled = none ∧ Fr h₀ L s₁.heap m ∧ News h₀ L s₁.heap news ∧ (ax, ({ cls := .type "list", data := .seq its k } : Obj)) ∈ news ∧
    ∀ h', GRestP fl h₀ L m Bd { s₁ with heap := h' } (fun nw => (ax, ({ cls := .type "list", data := .seq its k } : Obj)) ∈ nw) (PCell its) (Fin { s₁ with heap := h' }) its.size 0 oD₀ news

theorem comp_C {e iter : Expr} {x : Str} {px : Pos} {ifs : List Expr} {gs : List Comprehension} {scope : Scope} {cl : List (Str × Addr)} {Bd : PT} {newAcc : Sem Value} {oD₀ : Obj} {pos : Pos} {s : Shared} {Q : Value → Shared → Prop} {mkx : Addr → Env}
    (hmk : mkx = fun C => compEnvC scope ((x, C + 1) :: cl) C env)
    (LT : LoopRuleP prog w A e (.Name x px) mkx Bd) (ST : StartRule prog w A e)
    (hAcc : ∀ (s : Shared) (Q : Value → Shared → Prop) (E : Value → Shared → Prop), Q (.ref s.heap.objs.size) { s with heap := s.heap.push oD₀ } → wpAny (model prog w) A newAcc Q E s) (hfree : oD₀.isFreed = false)
    (hcl : clausesOf e = ⟨.Name x px, iter, ifs, 0⟩ :: gs) (hs : ∀ x, foldedSetIterable iter env x = pure x)
    (hclos : closureFor scope env = pure cl) (hcs : ∀ n, cellsFrom n scope.names cl = (x, n) :: cl) (hpc : ∀ h : Heap, pushCells h scope.names = h.push { cls := .type "cell", data := .cell none })
    (hkind : scope.kind = .function) (hnames : ∀ y ∈ scope.names, y.2 = .local → scope.names.lookup y.1 = some .local) (hx : (relabel scope env).names.lookup x = some .cell)
    (h : wpAny (model prog w) A (eval iter env) (GSrcC fl prog w A h₀ L m Bd oD₀ (GFin fl h₀ L m Q)) E s) :
    wpAny (model prog w) A (comprehension e scope env pos newAcc false (eval iter env)) Q E s := by
  subst hmk
  refine wpAny_comprehension_free (use := none) hcl hs hclos hkind hnames (wpAny_mono h (fun xv s₁ h₁ => ?_) fun _ _ e => e)
  obtain ⟨ax, its, k, news, rfl, hG, hh, F₁, N₁, hm, R⟩ := h₁
  have hl : s₁.heap.IsList ax its := N₁.isList hm
  have hlt : ax < s₁.heap.objs.size := by obtain ⟨_, e, _⟩ := hl; exact Heap.lt_size e
  have hLlt : L < s₁.heap.objs.size := F₁.ns.lt
  have hlt0 : ∀ p ∈ news, p.1 < s₁.heap.objs.size := fun p hp => Heap.lt_size (N₁ p hp).1
  have new : ∀ b, s₁.heap.objs.size ≤ b → h₀.get? b = none := fun b hb => by
    cases e : h₀.get? b with
    | none => rfl
    | some o => exact absurd (Heap.lt_size (F₁.keep b o e)) (Nat.not_lt.mpr hb)
  refine wpAny_pyIter_list hl ?_
  refine hAcc _ _ _ (newEnv_cell hcs hpc ?_)
  dsimp only
  generalize hI : s₁.heap.objs.size = I at hlt hLlt hlt0 new
  have z1 : (s₁.heap.push { cls := .type "list_iterator", data := .fields #[.ref ax, .int 0 0] }).objs.size = I + 1 := by rw [Heap.size_push, hI]
  have z2 : ((s₁.heap.push { cls := .type "list_iterator", data := .fields #[.ref ax, .int 0 0] }).push oD₀).objs.size = I + 2 := by rw [Heap.size_push, z1]
  have z3 : (((s₁.heap.push { cls := .type "list_iterator", data := .fields #[.ref ax, .int 0 0] }).push oD₀).push { cls := .type "dict", data := .dict #[] }).objs.size = I + 3 := by rw [Heap.size_push, z2]
  rw [z1, z2]
  have gI : (((s₁.heap.push { cls := .type "list_iterator", data := .fields #[.ref ax, .int 0 0] }).push oD₀).push { cls := .type "dict", data := .dict #[] }).get? I = some { cls := .type "list_iterator", data := .fields #[.ref ax, .int 0 0] } :=
    Heap.get?_push_of_some _ (Heap.get?_push_of_some _ (hI ▸ Heap.get?_push_size _ rfl))
  have gD : (((s₁.heap.push { cls := .type "list_iterator", data := .fields #[.ref ax, .int 0 0] }).push oD₀).push { cls := .type "dict", data := .dict #[] }).get? (I + 1) = some oD₀ :=
    Heap.get?_push_of_some _ (z1 ▸ Heap.get?_push_size _ hfree)
  have gC : (((s₁.heap.push { cls := .type "list_iterator", data := .fields #[.ref ax, .int 0 0] }).push oD₀).push { cls := .type "dict", data := .dict #[] }).Ns (I + 2) (fun _ => none) := z2 ▸ Heap.Ns.new _ (.type "dict")
  have up : ∀ b o, s₁.heap.get? b = some o → (((s₁.heap.push { cls := .type "list_iterator", data := .fields #[.ref ax, .int 0 0] }).push oD₀).push { cls := .type "dict", data := .dict #[] }).get? b = some o := fun b o e => Heap.get?_push_of_some _ (Heap.get?_push_of_some _ (Heap.get?_push_of_some _ e))
  generalize hH : ((s₁.heap.push { cls := .type "list_iterator", data := .fields #[.ref ax, .int 0 0] }).push oD₀).push { cls := .type "dict", data := .dict #[] } = H at z3 gI gD gC up ⊢
  have pu : ∀ b o, H.get? b = some o → (H.push { cls := .type "cell", data := .cell none }).get? b = some o := fun b o e => Heap.get?_push_of_some _ e
  have gK : (H.push { cls := .type "cell", data := .cell none }).IsCell (I + 2 + 1) none := ⟨_, (show H.objs.size = I + 2 + 1 from z3) ▸ Heap.get?_push_size _ rfl, rfl⟩
  generalize hH2 : H.push { cls := .type "cell", data := .cell none } = H2 at pu gK ⊢
  have up2 : ∀ b o, s₁.heap.get? b = some o → H2.get? b = some o := fun b o e => pu b o (up b o e)
  have hl2 : H2.IsList ax its := hl.at fun o e => up2 _ o e
  have hit2 : H2.IsListIter I ax 0 := ⟨_, pu _ _ gI, rfl, rfl⟩
  have nC : H2.Ns (I + 2) (fun _ => none) := gC.keeps pu
  have loop : codeAny (model prog w) A (.compLoop e 0 (.ref I) (.ref (I + 1)) ((fun C => compEnvC scope ((x, C + 1) :: cl) C env) (I + 2))) (compPost (model prog w) A E none Q (.ref (I + 1)) (I + 2)) { s₁ with heap := H2, toks := s₁.toks, gens := s₁.gens } := by
    have hR := R H2
    refine loop_P (s := { s₁ with heap := H2 }) (hB := H2) (tkS := s₁.toks) (gS := s₁.gens) (mk := fun C => compEnvC scope ((x, C + 1) :: cl) C env) LT (enter_cell hh (Nat.ne_of_lt hlt) (show @Ne Nat (I + 2) I by omega) (show @Ne Nat (I + 2 + 1) I by omega) (Nat.ne_of_lt (Nat.lt_of_lt_of_le hlt (Nat.le_add_right _ _))) (Nat.ne_of_lt (Nat.lt_of_lt_of_le hlt (Nat.le_add_right I 3))) (fun h e => ⟨_, e, rfl, k, rfl⟩) hkind hx (by simp [compEnvC])) hG ⟨⟨hit2, hl2⟩, none, gK⟩ nC (F₁.keeps up2) (fun p hp => ?_) (fun b hb => ?_) (new _ (Nat.le_add_right _ _)) ?_ ?_ (fun p hp => ?_) hm hR ?_
    · rcases List.mem_cons.mp hp with rfl | hp
      · exact ⟨pu _ _ gD, Ne.symm (Nat.ne_of_lt (Nat.lt_succ_of_lt hLlt)), new _ (Nat.le_succ _)⟩
      · exact ⟨up2 _ _ (N₁ p hp).1, (N₁ p hp).2⟩
    · have hb' : b = I ∨ b = I + 2 + 1 := by simpa using hb
      rcases hb' with rfl | rfl
      · exact ⟨new _ (Nat.le_refl _), Ne.symm (Nat.ne_of_lt hLlt), (show @Ne Nat b (b + 2) by omega), (show @Ne Nat b (b + 1) by omega)⟩
      · exact ⟨new _ (Nat.le_add_right I 3), Ne.symm (Nat.ne_of_lt (Nat.lt_of_lt_of_le hLlt (Nat.le_add_right I 3))), (show @Ne Nat (I + 2 + 1) (I + 2) by omega), (show @Ne Nat (I + 2 + 1) (I + 1) by omega)⟩
    · exact Ne.symm (Nat.ne_of_lt (Nat.lt_of_lt_of_le hLlt (Nat.le_add_right I 2)))
    · exact (show @Ne Nat (I + 2) (I + 1) by omega)
    · have := hlt0 p hp
      refine ⟨fun hq => ?_, Nat.ne_of_lt (Nat.lt_of_lt_of_le this (Nat.le_add_right I 2)), Nat.ne_of_lt (Nat.lt_of_lt_of_le this (Nat.le_add_right I 1))⟩
      have hb' : p.1 = I ∨ p.1 = I + 2 + 1 := by simpa using hq
      rcases hb' with q | q
      · exact Nat.ne_of_lt this q
      · exact Nat.ne_of_lt (Nat.lt_of_lt_of_le this (Nat.le_add_right I 3)) q
    · intro h tk g m' oD news' hg F' N' o1 hn oC fin
      refine ⟨m', hn, fun h'' hs'' => fin (I + 1) h'' tk g hg (F'.change hs'' (Ne.symm (Nat.ne_of_lt (Nat.lt_of_lt_of_le hLlt (Nat.le_add_right I 2)))) (new _ (Nat.le_add_right _ _))) (fun p hp => ?_) o1 (Nat.lt_succ_of_lt hLlt)⟩
      refine ⟨hs''.extBut _ _ ?_ (N' p hp).1, (N' p hp).2⟩
      rcases List.mem_cons.mp hp with rfl | hp
      · exact (show @Ne Nat (I + 1) (I + 2) by omega)
      · exact oC p hp
  exact ST _ _ _ _ _ loop ((Walks.list (prog := prog) (w := w) hh I ax (Nat.ne_of_lt hlt) its).self 0 _ _ _ ⟨hit2, hl2⟩ loop)
def BdL1 (prog : Program) (w : World) (A : Around) (c elt : Expr) (mk : Addr → Env) : PT := fun C D Post E' s =>
  wpAny (model prog w) A (isTrue c (mk C) (eval c (mk C))) (fun ok s₃ => if ok = true then wpAny (model prog w) A (eval elt (mk C)) (fun y s₄ => wpAny (model prog w) A (call (.builtin "list.append") [.ref D, y]) (fun _ s₅ => Post s₅) E' s₄) E' s₃ else Post s₃) E' s
theorem loopC1 {elt target iter c : Expr} {scope : Scope} {pos : Pos} {mk : Addr → Env} : LoopRuleP prog w A (.ListComp elt [⟨target, iter, [c], 0⟩] scope pos) target mk (BdL1 prog w A c elt mk) := by
  intro I C D R Inv turn n s h
  refine kct_loop Inv (fun n s hI => wpAny_mono (turn n s hI) (fun r s₁ h₁ => ?_) fun _ _ e => e) n h
  cases r with
  | none => exact h₁
  | some v => exact h₁
theorem ListComp_C {elt iter c : Expr} {x : Str} {px : Pos} {scope : Scope} {cl : List (Str × Addr)} {pos : Pos} {s : Shared} {Q : Value → Shared → Prop} (F₀ : Fr h₀ L s.heap m) (G₀ : GB fl s.gens)
    (hclos : closureFor scope env = pure cl) (hcs : ∀ n, cellsFrom n scope.names cl = (x, n) :: cl) (hpc : ∀ h : Heap, pushCells h scope.names = h.push { cls := .type "cell", data := .cell none }) (hkind : scope.kind = .function)
    (hnames : ∀ y ∈ scope.names, y.2 = .local → scope.names.lookup y.1 = some .local) (hx : (relabel scope env).names.lookup x = some .cell)
    (h : wpAny (model prog w) A (eval iter env) (GSrcC fl prog w A h₀ L m (BdL1 prog w A c elt (fun C => compEnvC scope ((x, C + 1) :: cl) C env)) (lst []) (GFin fl h₀ L m Q)) E s)
    (hs : ∀ x, foldedSetIterable iter env x = pure x := by intro _; rfl) :
    wpAny (model prog w) A (eval (.ListComp elt [⟨.Name x px, iter, [c], 0⟩] scope pos) env) Q E s := by
  rw [eval_ListComp]
  exact comp_C rfl loopC1 startL (fun s Q E h => accL h) rfl rfl hs hclos hcs hpc hkind hnames hx h
theorem turnC {ct elt : Expr} {mk : Addr → Env} {s s₀ : Shared} {S : List (Addr × Obj) → Prop} {pv : List (Addr × Obj)} {C D : Addr} {ys : List Value} {rest : Obj → List (Addr × Obj) → Prop} {Post : Shared → Prop}
    (ne : NeP pv C D) (hy : ys.length ≤ sizeLine) (hPost : ∀ s₂, GEndP fl h₀ L m s₀ S pv C D rest s₂ → Post s₂)
    (h : wpAny (model prog w) A (isTrue ct (mk C) (eval ct (mk C))) (fun ok s₃ => if ok = true then wpAny (model prog w) A (eval elt (mk C)) (GEltP fl h₀ L m s₀ S pv C D ys rest) E s₃ else GEndP fl h₀ L m s₀ S pv C D rest s₃) E s) : BdL1 prog w A ct elt mk C D Post E s := by
  refine wpAny_mono h (fun ok s₃ h₃ => ?_) fun _ _ e => e
  cases ok with
  | true =>
    simp only [if_true] at h₃ ⊢
    exact wpAny_mono h₃ (fun y s₄ h₄ => append_P ne hy hPost h₄) fun _ _ e => e
  | false => simp only [Bool.false_eq_true, if_false] at h₃ ⊢; exact hPost _ h₃
end
end Mine

end

section
open PySem PySem.W PyProof.Rows PySem.Calls
set_option linter.unusedVariables false
set_option maxHeartbeats 2000000
namespace Mine
open LCg
section
variable {prog : Program} {w : World} {A : Around}
theorem codeAny_any_inv {b : Addr} {R : Result → Shared → Prop} (Inv : Nat → Shared → Prop)
    (turn : ∀ k s, Inv k s → wpAny (model prog w) A.in1 (pyNext (.ref b)) (fun r s₁ => match r with
      | none => R (.ok (.ret (.bool false))) s₁
      | some x => ∃ t, x = .bool t ∧ (t = true → R (.ok (.ret (.bool true))) s₁) ∧ (t = false → ∃ m, m < k ∧ Inv m s₁)) (fun e s' => R (.error e) s') s) :
    ∀ k s, Inv k s → codeAny (model prog w) A (.builtin "any.loop" ⟨[.ref b], []⟩) R s := by
  intro k
  induction k using Nat.strongRecOn with
  | ind k ih =>
    intro s hI
    refine codeAny_builtin PySem.F.entry_any_loop ?_
    rw [Around.under_plainId PySem.F.plain_any_loop _]
    show wpAny _ A.in1 (pyNext (.ref b) >>= _) _ _ s
    refine wpAny_bind (wpAny_mono (turn k s hI) (fun r s₁ h₁ => ?_) fun _ _ e => e)
    cases r with
    | none => exact wpAny_bind (wpAny_rule (wpAny_pure h₁))
    | some x =>
      obtain ⟨t, rfl, hT, hF⟩ := h₁
      refine wpAny_bind (wpAny_holding (wpAny_truthy_bool ?_))
      refine wpAny_bind (wpAny_letGo ?_)
      cases t with
      | false =>
        simp only [Bool.false_eq_true, if_false]
        obtain ⟨m, hm, hI₂⟩ := hF rfl
        exact wpAny_pure ⟨plainId_quiet PySem.F.plain_any_loop _, ih m hm s₁ hI₂⟩
      | true =>
        simp only [if_true]
        exact wpAny_bind (wpAny_rule (wpAny_pure (hT rfl)))
theorem any_it {E : Value → Shared → Prop} {s : Shared} {b : Addr} {k : Nat} {Q : Value → Shared → Prop} (Inv : Nat → Shared → Prop)
    (self : ∀ (A' : Around) (E' : Value → Shared → Prop) (Q : Value → Shared → Prop), Q (.ref b) s → wpAny (model prog w) A' (pyIter (.ref b)) Q E' s)
    (h0 : Inv k s)
    (turn : ∀ k s, Inv k s → wpAny (model prog w) A.in1 (pyNext (.ref b)) (fun r s₁ => match r with
      | none => Q (.bool false) s₁
      | some x => ∃ t, x = .bool t ∧ (t = true → Q (.bool true) s₁) ∧ (t = false → ∃ m, m < k ∧ Inv m s₁)) E s) :
    wpAny (model prog w) A (call (.builtin "any") [.ref b]) Q E s := by
  refine call_function_tree PySem.F.kind_any PySem.F.plain_any PySem.F.entry_any (PySem.F.args_any1 _) ?_
  unfold Builtin.«any»
  refine wpAny_bind (m := oneArg "any" _) (wpAny_pure ?_)
  refine wpAny_bind (self _ _ _ ?_)
  refine wpAny_pure ⟨plainId_quiet PySem.F.plain_any_loop _, codeAny_any_inv Inv (fun k s hI => ?_) k _ h0⟩
  exact wpAny_mono (turn k s hI) (fun r s₁ h₁ => by cases r <;> exact h₁) fun _ _ e => e
end
section
variable {prog : Program} {w : World} {h₀ h₁ : Heap} {C I a L : Addr} {oa : Obj} {n gn : Nat} {P Md : Nat → Value → Heap → Prop} {St : Nat → Heap → Prop} {m : Str → Option Value}
/-- what a turn of a generator under any() hands on -/
def GAnyEnd (fl : Nat) (h₁ : Heap) (C I : Addr) (oI : Obj) (s : Shared) (a : Addr) (oa : Obj) (S JT : List (Addr × Obj) → Prop) (JJ : Nat → List (Addr × Obj) → Prop) (i : Nat) (y : Value) (s₄ : Shared) : Prop :=
  ∃ h tk g m' r' t, s₄ = { s with heap := h, toks := tk, gens := g } ∧ GB fl g ∧ Fr h₁ C h m' ∧ News h₁ C h ((I, oI) :: r') ∧ (∀ p ∈ r', p.1 ≠ I) ∧ (a, oa) ∈ r' ∧ S r' ∧ y = .bool t ∧ (t = true → JT r') ∧ (t = false → JJ (i + 1) r')
theorem any_gen {p : Program} {loose : List Str} {mean : ExcName → Option Value} {mg mb : Str → Option Value} {dp un : Nat} {gd : Option (List Code)} {envF cenv : Env} {outer : List Env} {base : Heap} {E : Value → Shared → Prop} {s : Shared} {elt target iter : Expr} {scope : Scope} {pos : Pos} {r₀ nw₀ : List (Addr × Obj)} {oI₀ : Obj} {Q : Value → Shared → Prop} {PM : Nat → (Str → Option Value) → Prop}
    (S JT : List (Addr × Obj) → Prop) (JJ : Nat → List (Addr × Obj) → Prop)
    (Mk : GMade (topA dp un gd envF outer) base envF outer h₀ L m h₁ C a oa gn (.ref I) nw₀ s.heap) (T : Top p loose mean mg mb h₀) (hroom : dp < recursionLimit)
    (hgs : s.gens[gn]? = some (.fresh (.compStart (.GeneratorExp elt [⟨target, iter, [], 0⟩] scope pos) 0 (.ref I) .none cenv))) (hG : GB (gn + 1) s.gens)
    (hco : cenv.scope.isCoroutine = false) (hC : cenv.locals = C) (hCI : C ≠ I) (hn : n < 500)
    (N₀ : News h₁ C s.heap ((I, oI₀) :: r₀)) (off₀ : ∀ p ∈ r₀, p.1 ≠ I) (ha₀ : (a, oa) ∈ r₀) (hS₀ : S r₀) (hJ₀ : JJ 0 r₀) (hst₀ : St 0 s.heap)
    (self : ∀ i (s' : Shared) (A' : Around) (E' : Value → Shared → Prop) (Q : Value → Shared → Prop), St i s'.heap → Q (.ref I) s' → wpAny (model prog w) A' (pyIter (.ref I)) Q E' s')
    (W : ∀ A : Around, A.handled = none → KTurns prog w A target I [I] [I] n P Md St ∨ ∃ d, (∀ nw, S nw → ∃ od, (d, od) ∈ nw) ∧ KTurns prog w A target I [I, d] [I] n P Md St)
    (hSt : ∀ i h h' nw, St i h → (∀ o, h.get? I = some o → h'.get? I = some o) → News h₁ C h' nw → S nw → St i h') (hIo : ∀ i h, St i h → ∃ o, h.get? I = some o)
    (asg : ∀ i v (s : Shared) m' (A : Around) (E : Value → Shared → Prop) (Q : Unit → Shared → Prop), A.handled = none → P i v s.heap → s.heap.Ns C m' → (∀ h' tk m'', PM i m'' → h'.Ns C m'' → (∀ b o, b ≠ C → s.heap.get? b = some o → h'.get? b = some o) → Q () { s with heap := h', toks := tk }) → wpAny (model prog w) A (assign target cenv v) Q E s)
    (body : ∀ i, i < n → ∀ m'' r oI h tk g (E' : Value → Shared → Prop), PM i m'' → JJ i r → S r → (a, oa) ∈ r → (∀ p ∈ r, p.1 ≠ I) → GB (gn + 1) g → Fr h₁ C h m'' → News h₁ C h ((I, oI) :: r) →
      wpAny (model prog w) (topA (dp + 1) (un + 5) gd cenv (envF :: outer)) (eval elt cenv) (GAnyEnd (gn + 1) h₁ C I oI s a oa S JT JJ i) E' { s with heap := h, toks := tk, gens := g })
    (fin : ∀ h tk g r, GB (gn + 1) g → Fr h₀ L h m → News h₀ L h r → JJ n r → Q (.bool false) { s with heap := h, toks := tk, gens := g })
    (finT : ∀ h tk g r, GB (gn + 1) g → Fr h₀ L h m → News h₀ L h r → JT r → Q (.bool true) { s with heap := h, toks := tk, gens := g }) :
    wpAny (model prog w) (topA dp un gd envF outer) (call (.builtin "any") [.ref a]) Q E s := by
  obtain ⟨FG, B, st, F₀, ⟨nm, qn, g1, g2, g3⟩, _⟩ := Mk
  let S2 : List (Addr × Obj) → Prop := fun nw => (a, oa) ∈ nw ∧ S nw
  let J : Nat → List (Addr × Obj) → Prop := fun i nw => (a, oa) ∈ nw ∧ S nw ∧ JJ i nw
  let JO : Nat → Value → List (Addr × Obj) → Prop := fun i v nw => ∃ t, v = .bool t ∧ (a, oa) ∈ nw ∧ S nw ∧ (t = true → JT nw) ∧ (t = false → JJ (i + 1) nw)
  have nolim : ∀ {h : Heap} {m' : Str → Option Value}, Fr h₁ C h m' → h.NoLimit := fun F => T.nolimit.keeps fun b o e => F.keep b o (st b o e)
  have loop := seg_genTurns (prog := prog) (w := w) (h₁ := h₁) (C := C) (I := I) (fl := gn + 1) (n := n) (P := P) (Md := Md) (St := St) (s₀ := s) (dp := dp) (un := un) (gd := gd) (envF := envF) (cenv := cenv) (outer := outer) (elt := elt) (target := target) (iter := iter) (scope := scope) (pos := pos) (PM := PM) (S := S2) (J := J) (JO := JO)
    hco hC hCI (fun A hA => (W A hA).imp id fun ⟨d, h1, h2⟩ => ⟨d, fun nw hS => h1 nw hS.2, h2⟩) (fun i h h' nw hst ho N hS => hSt i h h' nw hst ho N hS.2) hIo asg (fun i hi m'' nw oI h tk g E' hpm hJ hS off hG' F N => by
      obtain ⟨ha, hSr, hj⟩ := hJ
      refine wpAny_mono (body i hi m'' nw oI h tk g E' hpm hj hSr ha off hG' F N) (fun y s₄ h₄ => ?_) fun _ _ e => e
      obtain ⟨h₄, tk₄, g₄, m₄, r₄, t, rfl, hG₄, F₄, N₄, offI₄, ha₄, hS₄, rfl, hT, hF⟩ := h₄
      exact ⟨h₄, tk₄, g₄, m₄, r₄, rfl, hG₄, F₄, N₄, offI₄, ⟨ha₄, hS₄⟩, t, rfl, ha₄, hS₄, hT, hF⟩)
  have start := seg_genKStart (prog := prog) (w := w) (A := topA dp (un + 2) gd envF outer) (GgInv h₁ C I (gn + 1) n St s S2 J) (GgOut h₁ C I (gn + 1) n St s S2 JO) (GgEnd h₁ C (gn + 1) s S2 (J n)) (fun k s' hI A' E' Q hQ => by
    obtain ⟨i, h, tk, g, m', oI, nw, hi, rfl, hG', hst, r⟩ := hI
    exact self i _ A' E' Q hst hQ) loop
  have hgen : ∀ {h : Heap} {nw : List (Addr × Obj)}, News h₁ C h nw → (a, oa) ∈ nw → h.IsGen a gn := fun N hm => ⟨oa, nm, qn, (N _ hm).1, g1, g2, g3⟩
  have has : s.heap.IsGen a gn := hgen N₀ (List.mem_cons_of_mem _ ha₀)
  refine any_it (k := n) (fun k s' => GgInv h₁ C I (gn + 1) n St s S2 J k s' ∧ GenHere prog w (topA dp (un + 2) gd envF outer) (GgInv h₁ C I (gn + 1) n St s S2 J) (GgOut h₁ C I (gn + 1) n St s S2 JO) (GgEnd h₁ C (gn + 1) s S2 (J n)) gn k s')
    (fun A' E' Q hQ => wpAny_pyIter_gen has hQ) ⟨⟨0, s.heap, s.toks, s.gens, _, oI₀, r₀, by omega, rfl, hG, hst₀, F₀, N₀, off₀, ⟨ha₀, hS₀⟩, ha₀, hS₀, hJ₀⟩, GenHere.fresh hgs start⟩ (fun k s' hI => ?_)
  obtain ⟨hI, hGn⟩ := hI
  have hI' := hI
  obtain ⟨i, h, tk, g, m', oI, nw, hi, rfl, hG', hst, F, N, off, hS2, hJ⟩ := hI'
  have hgs' := hG'.2
  refine next_gen (A := topA dp (un + 1) gd envF outer) rfl (nolim F) hroom (hgen N (List.mem_cons_of_mem _ hS2.1)) hGn (hI.set rfl) (fun hk s₁ hE h' hkp => ?_) (fun j v s₁ gs' hk hO hb hre => ?_)
  · obtain ⟨h₂, tk₂, g₂, m₂, nw₂, rfl, hG₂, F₂, N₂, hS₂, ha, hSr, hj⟩ := hE
    obtain ⟨Fb, Nb⟩ := ground_back FG st (F₂.keeps hkp) (N₂.grown hkp)
    exact fin h' tk₂ _ nw₂ (GB.set (s := { s with heap := h₂, toks := tk₂, gens := g₂ }) hG₂ rfl) Fb Nb hj
  · obtain ⟨i₂, h₂, tk₂, g₂, m₂, oI₂, nw₂, hi₂, rfl, hG₂, hst₂, F₂, N₂, off₂, hS₂, t, rfl, ha, hSr, hT, hF⟩ := hO
    have hre' := hre (by have := hG₂.2; exact this)
    refine ⟨t, rfl, fun ht => ?_, fun hf => ⟨j, by omega, ?_, ?_⟩⟩
    · obtain ⟨Fb, Nb⟩ := ground_back FG st F₂ N₂
      exact finT h₂ tk₂ _ _ (GB.set (s := { s with heap := h₂, toks := tk₂, gens := g₂ }) hG₂ hb) Fb (fun p hp => Nb p (List.mem_cons_of_mem _ hp)) (hT ht)
    · exact ⟨i₂ + 1, h₂, tk₂, _, m₂, oI₂, nw₂, by omega, rfl, GB.set (s := { s with heap := h₂, toks := tk₂, gens := g₂ }) hG₂ hb, hst₂, F₂, N₂, off₂, ⟨ha, hSr⟩, ha, hSr, hF hf⟩
    · obtain ⟨gs, q1, q2, q3⟩ := hre'
      exact ⟨gs, q1, q2, q3⟩
end
end Mine

end

section
open PySem PySem.W PyProof.Rows
set_option linter.unusedVariables false
namespace Mine
local macro_rules | `(tactic| walk_at "zz") => `(tactic| fail)
local macro_rules | `(tactic| walk_at "zz") => `(tactic| fail)
local macro_rules | `(tactic| walk_at "zz") => `(tactic| fail)
local macro_rules | `(tactic| walk_at "zz") => `(tactic| fail)
local macro_rules | `(tactic| walk_at "zz") => `(tactic| fail)
local macro_rules | `(tactic| walk_at "zz") => `(tactic| fail)
local macro_rules | `(tactic| walk_at "zz") => `(tactic| fail)
local macro_rules | `(tactic| walk_at "zz") => `(tactic| fail)
local macro_rules | `(tactic| walk_at "zz") => `(tactic| fail)
local macro_rules | `(tactic| walk_at "zz") => `(tactic| fail)
local macro_rules | `(tactic| walk_at "zz") => `(tactic| fail)
local macro_rules | `(tactic| walk_at "zz") => `(tactic| fail)
local macro_rules | `(tactic| walk_at "zz") => `(tactic| fail)
local macro_rules | `(tactic| walk_at "zz") => `(tactic| fail)
local macro_rules | `(tactic| walk_at "zz") => `(tactic| fail)
local macro_rules | `(tactic| walk_at "zz") => `(tactic| fail)
local macro_rules | `(tactic| walk_at "zz") => `(tactic| fail)
local macro_rules | `(tactic| walk_at "zz") => `(tactic| fail)
local macro_rules | `(tactic| walk_at "zz") => `(tactic| fail)
theorem rstGF1 : True := by
  w_top off
  trivial
local macro_rules | `(tactic| k_mem) => `(tactic| assumption)
local macro_rules | `(tactic| k_all) => `(tactic| with_reducible assumption)
local macro_rules | `(tactic| ktr_enter) => `(tactic| (k_dflt (refine' code_def ?k1 ?k2 ?k3 ?k4 ?k5 ?kA ?kF ?kK ?k6 ?k7 ?k8 ?k9 ?kB ?_ ?c2 ?c3 ?c4 ?c5; (case kA => exact rfl); (case kF => first | exact rfl | assumption); (case kK => first | exact rfl | assumption); (case k1 => k_asm); (case k2 => k_asm); (case k3 => k_asm); (case k4 => k_asm); (case k5 => k_asm); (case k6 => k_is); (case k7 => k_is); (case k8 => ((try dsimp only [topA]); omega)); (case k9 => exact BindsTo.of_eq rfl); (case c5 => decide); (case kB => exact locs rfl); (case c2 => exact rfl); (case c3 => exact rfl); (case c4 => exact rfl); k_whole; intro g' L' h' FG' F' N' B' X' T'; (try dsimp only); (try k_fold))))
local macro_rules | `(tactic| ktd_sub) => `(tactic| (intro p9 hp9; repeat (first | exact hp9 | refine List.mem_cons_of_mem _ ?_)))
local macro_rules | `(tactic| ktd_rel) => `(tactic| first | assumption | (refine' DIn.mono ?hs ?hh; (case hh => assumption); (case hs => ktd_sub)) | (refine' DsIn.mono ?hs ?hh; (case hh => assumption); (case hs => ktd_sub)) | (refine' KsIn.mono ?hs ?hh; (case hh => assumption); (case hs => ktd_sub)))
local macro_rules | `(tactic| ktr_room) => `(tactic| (simp only [depth_deeper, depth_in1, topA] at *; omega))
local macro_rules | `(tactic| ktr_units) => `(tactic| (simp only [units_deeper, units_in1, topA] at *; omega))
local macro_rules | `(tactic| ktr_unf) => `(tactic| (k_dflt (refine' code_defC ?k1 ?k2 ?k3 ?k4 ?k5 ?kA ?kF ?kK ?k6 ?k7 ?k8 ?k9 ?kB ?kD ?_ ?c2 ?c3 ?c4; (case kA => exact rfl); (case kF => first | exact rfl | assumption); (case kK => first | exact rfl | assumption); (case k1 => k_asm); (case k2 => k_asm); (case k3 => k_asm); (case k4 => k_asm); (case k5 => k_asm); (case k6 => k_is); (case k7 => k_is); (case k8 => ((try dsimp only [topA]); omega)); (case k9 => exact BindsTo.of_eq rfl); (case kB => exact rfl); (case kD => decide +kernel); (case c2 => exact rfl); (case c3 => exact rfl); (case c4 => exact rfl); k_whole; intro g' L' h' tk' cells' FG' F' N' Y' B' X' T' l1; (try k_lt l1); k_cells Y'; (try simp only [List.cons_append, List.nil_append] at N'); (try dsimp only); (try k_fold))))
local macro_rules | `(tactic| walk_at "call ref") => `(tactic| (k_here; (with_reducible show wpAny _ _ (call (Value.ref 956) _) _ _ _); k_dflt (refine' use_call (kind_call _ _ _ _ ?hD) ?B ?F ?X ?N ?T ?hf ?hk ?hd ?hu ?hG ?_; (case B => k_asm); (case F => k_asm); (case X => k_asm); (case N => k_asm); (case T => k_asm); (case hf => first | exact rfl | assumption); (case hk => first | exact rfl | assumption); (case hG => assumption); (case hD => ktd_rel); (case hd => ktr_room); (case hu => ktr_units); k_whole; intro r9 nw9 h9 tk9 g9 p9 hG9 F9 N9; obtain ⟨p9, q9⟩ := p9; obtain ⟨t9, p9⟩ := p9; replace q9 := Eq.symm q9; subst q9; subst p9; (try dsimp only); (try k_fold))))
local macro_rules | `(tactic| walk_at "eval ListComp") => `(tactic| (k_here; k_dflt (refine ListComp_G (by k_asm) (by assumption) (by with_unfolding_all rfl) (by decide) (by rfl) (by decide) (by rfl) ?_)))
local macro_rules | `(tactic| walk_at "eval DictComp") => `(tactic| (k_here; k_dflt (refine DictComp_G (by k_asm) (by assumption) (by with_unfolding_all rfl) (by decide) (by rfl) (by decide) (by rfl) ?_)))
local macro_rules | `(tactic| walk_at "exec Assign cons ListComp") => `(tactic| (k_here; k_dflt (refine Assign_ListComp_G (by k_asm) (by assumption) (by rfl) (by with_unfolding_all rfl) (by with_unfolding_all rfl) (by decide) (by rfl) (by decide) (by rfl) (by rfl) (by rfl) ?_)))
local macro_rules | `(tactic| walk_at "exec Assign cons DictComp") => `(tactic| (k_here; k_dflt (refine Assign_DictComp_G (by k_asm) (by assumption) (by rfl) (by with_unfolding_all rfl) (by with_unfolding_all rfl) (by decide) (by rfl) (by decide) (by rfl) (by rfl) (by rfl) ?_)))
local macro_rules | `(tactic| k_room) => `(tactic| ((try simp only [depth_mark, depth_under_make, depth_under_kw, depth_in1, depth_deeper, depth_caller, topA]); omega))
local macro_rules | `(tactic| k_units) => `(tactic| ((try simp only [units_deeper, units_in1, topA]); omega))
local macro_rules | `(tactic| k_mem) => `(tactic| first | assumption | exact List.Mem.head _ | (refine' List.Mem.tail _ ?_; k_mem))
local macro_rules | `(tactic| ktr_enter) => `(tactic| (k_dflt (refine' code_defL ?k1 ?k2 ?k3 ?k4 ?k5 ?kA ?kF ?kK ?k6 ?k7 ?k8 ?k9 ?kB ?_ ?c2 ?c3 ?c4 ?c5; (case kA => exact rfl); (case kF => first | exact rfl | assumption); (case kK => first | exact rfl | assumption); (case k1 => k_asm); (case k2 => k_asm); (case k3 => k_asm); (case k4 => k_asm); (case k5 => k_asm); (case k6 => k_is); (case k7 => k_is); (case k8 => ((try dsimp only [topA]); omega)); (case k9 => exact BindsTo.of_eq rfl); (case c5 => decide); (case kB => exact locs rfl); (case c2 => exact rfl); (case c3 => exact rfl); (case c4 => exact rfl); k_whole; intro g' L' h' FG' F' N' B' X' T' lx9; (try dsimp only); (try k_fold))))
local macro_rules | `(tactic| k_enter) => `(tactic| first | (refine' code_def ?k1 ?k2 ?k3 ?k4 ?k5 ?kA ?kF ?kK ?k6 ?k7 ?k8 ?k9 ?kB ?_ ?c2 ?c3 ?c4 ?c5; (case kA => exact rfl); (case kF => exact rfl); (case kK => exact rfl); (case k1 => k_asm); (case k2 => k_asm); (case k3 => k_asm); (case k4 => k_asm); (case k5 => k_asm); (case k6 => k_is); (case k7 => k_is); (case k8 => k_room); (case k9 => first | exact BindsTo.of_eq rfl | exact binds_K (by k_in) rfl (by k_is) rfl rfl rfl | fail "k_enter: no rule for these arguments"); (case c5 => decide); (case kB => exact locs rfl); (case c2 => exact rfl); (case c3 => exact rfl); (case c4 => exact rfl); k_whole; intro g' L' h' FG' F' N' B' X' T'; (have lL9 := ltN (Nat.lt_of_lt_of_le (Fr.ns FG').lt (Fr.above F'))); (try dsimp only); (try k_lift B'); (try k_fold)) | (refine' code_defC ?k1 ?k2 ?k3 ?k4 ?k5 ?kA ?kF ?kK ?k6 ?k7 ?k8 ?k9 ?kB ?kD ?_ ?c2 ?c3 ?c4; (case kA => exact rfl); (case kF => exact rfl); (case kK => exact rfl); (case k1 => k_asm); (case k2 => k_asm); (case k3 => k_asm); (case k4 => k_asm); (case k5 => k_asm); (case k6 => k_is); (case k7 => k_is); (case k8 => k_room); (case k9 => first | exact BindsTo.of_eq rfl | exact binds_K (by k_in) rfl (by k_is) rfl rfl rfl | fail "k_enter: no rule for these arguments"); (case kB => exact rfl); (case kD => decide +kernel); (case c2 => exact rfl); (case c3 => exact rfl); (case c4 => exact rfl); k_whole; intro g' L' h' tk' cells' FG' F' N' Y' B' X' T' l1; (have lL9 := ltN (Nat.lt_of_lt_of_le (Fr.ns FG').lt (Fr.above F'))); (try k_lt l1); k_cells Y'; (try simp only [List.cons_append, List.nil_append] at N'); (try dsimp only); (try k_lift B'); (try k_fold)))
local macro_rules | `(tactic| k_all) => `(tactic| first | (with_reducible assumption) | (refine' ltAll_neX ?h ?b; (case h => with_reducible assumption); (case b => omega)))
local macro_rules | `(tactic| walk_at "getMethod ref") => `(tactic| (k_here; (with_reducible show wpAny _ _ (getMethod (Value.ref _) (PySem.Str.ofString "get") _) _ _ _); k_dflt (refine' dict_method ?N ?m PySem.F.slot_dict_get PySem.F.type_dict_get ?_; (case N => k_asm); (case m => k_mem))))
local macro_rules | `(tactic| walk_at "call builtin:dict.get") => `(tactic| (k_here; (with_reducible show wpAny _ _ (call (Value.builtin _) [Value.ref _, Value.str _ _, _]) _ _ _); k_dflt (refine' get_led ?N ?m ?d ?s ?v ?_; (case N => k_asm); (case m => k_mem); (case d => with_reducible assumption); (case s => with_reducible assumption); (case v => first | exact getD_some (by with_reducible assumption) | exact getD_none (by with_reducible assumption)); k_whole; intro tk9)))
local macro_rules | `(tactic| walk_at "compareOp Is") => `(tactic| (k_here; (with_reducible show wpAny _ _ (compareOp CmpOp.Is _ (Value.ref _)) _ _ _); k_dflt (refine' is_data (d := _) ?F ?N ?D ?X ?k ?_; (case F => k_asm); (case N => k_asm); (case D => ktd_rel); (case X => k_asm); (case k => k_is); k_whole)))
local macro_rules | `(tactic| walk_at "truthy ref") => `(tactic| (k_here; (with_reducible show wpAny _ _ (truthy (Value.ref _)) _ _ _); k_dflt (refine' truthy_K0 ?k1 ?k2 ?k3 ?k4 ?k5 ?_; (case k1 => k_asm); (case k2 => k_asm); (case k3 => k_inst); (case k4 => k_is); (case k5 => k_is); k_whole)))
set_option maxRecDepth 100000 in
set_option maxHeartbeats 8000000 in
theorem gfd_some (w : World) (nw : List (Addr × Obj)) (a th : Addr) (es : List DictEntry) (n : Nat) (kvs : List (Str × Value)) (key : Str) (tk : Tok) (v : Value) (d : D) (ha : DatAt w nw a (.ref th)) (hth : (th, dictObj es n) ∈ nw) (hdo : (dictObj es n).IsDictOf (PySem.strKind PP w) kvs) (hs : (th == sysModules) = false)
    (hv : valueAt kvs key = some v) (hD : DIn w nw d v) : CallsTo w 553 [.ref a, .str key tk, .bool false] nw 70 300 (fun r nw' => ∃ own x, r = .ref x ∧ nw' = nw ++ own ∧ DatAt w own x v ∧ ∀ p ∈ own, ∀ q ∈ nw, p.1 ≠ q.1) := by
  obtain ⟨ad, an, at1, at2, at3, apv, acv, ha1, ha2⟩ := ha
  intro fl p loose mean mg mb dp un gd env outer A₀ base h₀ L m s Q E HA hG hret
  obtain ⟨B, F, X, N, T, hf, hk, hd, hu⟩ := HA
  refine wpAny_call ?_
  ktr_enter
  rename_i gH LH hH FGH FH NH BH XH TH lxH
  k_steps
  refine' closeDat (w := w) (v := v) (nw := nw) ?N9 ?h19 ?h29 ?s9 ?l19 ?l29 ?k9
  (case k9 => exact fun own c1 c2 c3 => hret _ _ _ _ _ ⟨own, _, rfl, rfl, c1, c3⟩ hG (by k_asm) c2)
  (case N9 => k_asm)
  (case h19 => k_mem)
  (case h29 => k_mem)
  (case s9 => ktd_sub)
  (case l19 => tbn_find)
  (case l29 => assumption)

end Mine

end

section
open PySem PySem.W PyProof.Rows
set_option linter.unusedVariables false
namespace Mine
local macro_rules | `(tactic| walk_at "zz") => `(tactic| fail)
local macro_rules | `(tactic| walk_at "zz") => `(tactic| fail)
local macro_rules | `(tactic| walk_at "zz") => `(tactic| fail)
local macro_rules | `(tactic| walk_at "zz") => `(tactic| fail)
local macro_rules | `(tactic| walk_at "zz") => `(tactic| fail)
local macro_rules | `(tactic| walk_at "zz") => `(tactic| fail)
local macro_rules | `(tactic| walk_at "zz") => `(tactic| fail)
local macro_rules | `(tactic| walk_at "zz") => `(tactic| fail)
local macro_rules | `(tactic| walk_at "zz") => `(tactic| fail)
local macro_rules | `(tactic| walk_at "zz") => `(tactic| fail)
local macro_rules | `(tactic| walk_at "zz") => `(tactic| fail)
local macro_rules | `(tactic| walk_at "zz") => `(tactic| fail)
local macro_rules | `(tactic| walk_at "zz") => `(tactic| fail)
local macro_rules | `(tactic| walk_at "zz") => `(tactic| fail)
local macro_rules | `(tactic| walk_at "zz") => `(tactic| fail)
local macro_rules | `(tactic| walk_at "zz") => `(tactic| fail)
local macro_rules | `(tactic| walk_at "zz") => `(tactic| fail)
local macro_rules | `(tactic| walk_at "zz") => `(tactic| fail)
local macro_rules | `(tactic| walk_at "zz") => `(tactic| fail)
local macro_rules | `(tactic| walk_at "zz") => `(tactic| fail)
local macro_rules | `(tactic| walk_at "zz") => `(tactic| fail)
theorem rstGF0 : True := by
  w_top off
  trivial
local macro_rules | `(tactic| k_mem) => `(tactic| assumption)
local macro_rules | `(tactic| k_all) => `(tactic| with_reducible assumption)
local macro_rules | `(tactic| ktr_enter) => `(tactic| (k_dflt (refine' code_def ?k1 ?k2 ?k3 ?k4 ?k5 ?kA ?kF ?kK ?k6 ?k7 ?k8 ?k9 ?kB ?_ ?c2 ?c3 ?c4 ?c5; (case kA => exact rfl); (case kF => first | exact rfl | assumption); (case kK => first | exact rfl | assumption); (case k1 => k_asm); (case k2 => k_asm); (case k3 => k_asm); (case k4 => k_asm); (case k5 => k_asm); (case k6 => k_is); (case k7 => k_is); (case k8 => ((try dsimp only [topA]); omega)); (case k9 => exact BindsTo.of_eq rfl); (case c5 => decide); (case kB => exact locs rfl); (case c2 => exact rfl); (case c3 => exact rfl); (case c4 => exact rfl); k_whole; intro g' L' h' FG' F' N' B' X' T'; (try dsimp only); (try k_fold))))
local macro_rules | `(tactic| ktd_sub) => `(tactic| (intro p9 hp9; repeat (first | exact hp9 | refine List.mem_cons_of_mem _ ?_)))
local macro_rules | `(tactic| ktd_rel) => `(tactic| first | assumption | (refine' DIn.mono ?hs ?hh; (case hh => assumption); (case hs => ktd_sub)) | (refine' DsIn.mono ?hs ?hh; (case hh => assumption); (case hs => ktd_sub)) | (refine' KsIn.mono ?hs ?hh; (case hh => assumption); (case hs => ktd_sub)))
local macro_rules | `(tactic| ktr_room) => `(tactic| (simp only [depth_deeper, depth_in1, topA] at *; omega))
local macro_rules | `(tactic| ktr_units) => `(tactic| (simp only [units_deeper, units_in1, topA] at *; omega))
local macro_rules | `(tactic| ktr_unf) => `(tactic| (k_dflt (refine' code_defC ?k1 ?k2 ?k3 ?k4 ?k5 ?kA ?kF ?kK ?k6 ?k7 ?k8 ?k9 ?kB ?kD ?_ ?c2 ?c3 ?c4; (case kA => exact rfl); (case kF => first | exact rfl | assumption); (case kK => first | exact rfl | assumption); (case k1 => k_asm); (case k2 => k_asm); (case k3 => k_asm); (case k4 => k_asm); (case k5 => k_asm); (case k6 => k_is); (case k7 => k_is); (case k8 => ((try dsimp only [topA]); omega)); (case k9 => exact BindsTo.of_eq rfl); (case kB => exact rfl); (case kD => decide +kernel); (case c2 => exact rfl); (case c3 => exact rfl); (case c4 => exact rfl); k_whole; intro g' L' h' tk' cells' FG' F' N' Y' B' X' T' l1; (try k_lt l1); k_cells Y'; (try simp only [List.cons_append, List.nil_append] at N'); (try dsimp only); (try k_fold))))
local macro_rules | `(tactic| walk_at "call ref") => `(tactic| (k_here; (with_reducible show wpAny _ _ (call (Value.ref 956) _) _ _ _); k_dflt (refine' use_call (kind_call _ _ _ _ ?hD) ?B ?F ?X ?N ?T ?hf ?hk ?hd ?hu ?hG ?_; (case B => k_asm); (case F => k_asm); (case X => k_asm); (case N => k_asm); (case T => k_asm); (case hf => first | exact rfl | assumption); (case hk => first | exact rfl | assumption); (case hG => assumption); (case hD => ktd_rel); (case hd => ktr_room); (case hu => ktr_units); k_whole; intro r9 nw9 h9 tk9 g9 p9 hG9 F9 N9; obtain ⟨p9, q9⟩ := p9; obtain ⟨t9, p9⟩ := p9; replace q9 := Eq.symm q9; subst q9; subst p9; (try dsimp only); (try k_fold))))
local macro_rules | `(tactic| walk_at "eval ListComp") => `(tactic| (k_here; k_dflt (refine ListComp_G (by k_asm) (by assumption) (by with_unfolding_all rfl) (by decide) (by rfl) (by decide) (by rfl) ?_)))
local macro_rules | `(tactic| walk_at "eval DictComp") => `(tactic| (k_here; k_dflt (refine DictComp_G (by k_asm) (by assumption) (by with_unfolding_all rfl) (by decide) (by rfl) (by decide) (by rfl) ?_)))
local macro_rules | `(tactic| walk_at "exec Assign cons ListComp") => `(tactic| (k_here; k_dflt (refine Assign_ListComp_G (by k_asm) (by assumption) (by rfl) (by with_unfolding_all rfl) (by with_unfolding_all rfl) (by decide) (by rfl) (by decide) (by rfl) (by rfl) (by rfl) ?_)))
local macro_rules | `(tactic| walk_at "exec Assign cons DictComp") => `(tactic| (k_here; k_dflt (refine Assign_DictComp_G (by k_asm) (by assumption) (by rfl) (by with_unfolding_all rfl) (by with_unfolding_all rfl) (by decide) (by rfl) (by decide) (by rfl) (by rfl) (by rfl) ?_)))
local macro_rules | `(tactic| k_room) => `(tactic| ((try simp only [depth_mark, depth_under_make, depth_under_kw, depth_in1, depth_deeper, depth_caller, topA]); omega))
local macro_rules | `(tactic| k_units) => `(tactic| ((try simp only [units_deeper, units_in1, topA]); omega))
local macro_rules | `(tactic| k_mem) => `(tactic| first | assumption | exact List.Mem.head _ | (refine' List.Mem.tail _ ?_; k_mem))
local macro_rules | `(tactic| ktr_enter) => `(tactic| (k_dflt (refine' code_defL ?k1 ?k2 ?k3 ?k4 ?k5 ?kA ?kF ?kK ?k6 ?k7 ?k8 ?k9 ?kB ?_ ?c2 ?c3 ?c4 ?c5; (case kA => exact rfl); (case kF => first | exact rfl | assumption); (case kK => first | exact rfl | assumption); (case k1 => k_asm); (case k2 => k_asm); (case k3 => k_asm); (case k4 => k_asm); (case k5 => k_asm); (case k6 => k_is); (case k7 => k_is); (case k8 => ((try dsimp only [topA]); omega)); (case k9 => exact BindsTo.of_eq rfl); (case c5 => decide); (case kB => exact locs rfl); (case c2 => exact rfl); (case c3 => exact rfl); (case c4 => exact rfl); k_whole; intro g' L' h' FG' F' N' B' X' T' lx9; (try dsimp only); (try k_fold))))
local macro_rules | `(tactic| k_enter) => `(tactic| first | (refine' code_def ?k1 ?k2 ?k3 ?k4 ?k5 ?kA ?kF ?kK ?k6 ?k7 ?k8 ?k9 ?kB ?_ ?c2 ?c3 ?c4 ?c5; (case kA => exact rfl); (case kF => exact rfl); (case kK => exact rfl); (case k1 => k_asm); (case k2 => k_asm); (case k3 => k_asm); (case k4 => k_asm); (case k5 => k_asm); (case k6 => k_is); (case k7 => k_is); (case k8 => k_room); (case k9 => first | exact BindsTo.of_eq rfl | exact binds_K (by k_in) rfl (by k_is) rfl rfl rfl | fail "k_enter: no rule for these arguments"); (case c5 => decide); (case kB => exact locs rfl); (case c2 => exact rfl); (case c3 => exact rfl); (case c4 => exact rfl); k_whole; intro g' L' h' FG' F' N' B' X' T'; (have lL9 := ltN (Nat.lt_of_lt_of_le (Fr.ns FG').lt (Fr.above F'))); (try dsimp only); (try k_lift B'); (try k_fold)) | (refine' code_defC ?k1 ?k2 ?k3 ?k4 ?k5 ?kA ?kF ?kK ?k6 ?k7 ?k8 ?k9 ?kB ?kD ?_ ?c2 ?c3 ?c4; (case kA => exact rfl); (case kF => exact rfl); (case kK => exact rfl); (case k1 => k_asm); (case k2 => k_asm); (case k3 => k_asm); (case k4 => k_asm); (case k5 => k_asm); (case k6 => k_is); (case k7 => k_is); (case k8 => k_room); (case k9 => first | exact BindsTo.of_eq rfl | exact binds_K (by k_in) rfl (by k_is) rfl rfl rfl | fail "k_enter: no rule for these arguments"); (case kB => exact rfl); (case kD => decide +kernel); (case c2 => exact rfl); (case c3 => exact rfl); (case c4 => exact rfl); k_whole; intro g' L' h' tk' cells' FG' F' N' Y' B' X' T' l1; (have lL9 := ltN (Nat.lt_of_lt_of_le (Fr.ns FG').lt (Fr.above F'))); (try k_lt l1); k_cells Y'; (try simp only [List.cons_append, List.nil_append] at N'); (try dsimp only); (try k_lift B'); (try k_fold)))
local macro_rules | `(tactic| k_all) => `(tactic| first | (with_reducible assumption) | (refine' ltAll_neX ?h ?b; (case h => with_reducible assumption); (case b => omega)))
local macro_rules | `(tactic| walk_at "getMethod ref") => `(tactic| (k_here; (with_reducible show wpAny _ _ (getMethod (Value.ref _) (PySem.Str.ofString "get") _) _ _ _); k_dflt (refine' dict_method ?N ?m PySem.F.slot_dict_get PySem.F.type_dict_get ?_; (case N => k_asm); (case m => k_mem))))
local macro_rules | `(tactic| walk_at "call builtin:dict.get") => `(tactic| (k_here; (with_reducible show wpAny _ _ (call (Value.builtin _) [Value.ref _, Value.str _ _, _]) _ _ _); k_dflt (refine' get_led ?N ?m ?d ?s ?v ?_; (case N => k_asm); (case m => k_mem); (case d => with_reducible assumption); (case s => with_reducible assumption); (case v => first | exact getD_some (by with_reducible assumption) | exact getD_none (by with_reducible assumption)); k_whole; intro tk9)))
local macro_rules | `(tactic| walk_at "compareOp Is") => `(tactic| (k_here; (with_reducible show wpAny _ _ (compareOp CmpOp.Is _ (Value.ref _)) _ _ _); k_dflt (refine' is_data (d := _) ?F ?N ?D ?X ?k ?_; (case F => k_asm); (case N => k_asm); (case D => ktd_rel); (case X => k_asm); (case k => k_is); k_whole)))
set_option maxRecDepth 100000 in
set_option maxHeartbeats 8000000 in
theorem gfd_none (w : World) (nw : List (Addr × Obj)) (a th : Addr) (es : List DictEntry) (n : Nat) (kvs : List (Str × Value)) (key : Str) (tk : Tok) (ha : DatAt w nw a (.ref th)) (hth : (th, dictObj es n) ∈ nw) (hdo : (dictObj es n).IsDictOf (PySem.strKind PP w) kvs) (hs : (th == sysModules) = false)
    (hv : valueAt kvs key = none) : CallsTo w 553 [.ref a, .str key tk, .bool false] nw 70 300 (fun r nw' => r = .none ∧ nw' = nw) := by
  obtain ⟨ad, an, at1, at2, at3, apv, acv, ha1, ha2⟩ := ha
  intro fl p loose mean mg mb dp un gd env outer A₀ base h₀ L m s Q E HA hG hret
  obtain ⟨B, F, X, N, T, hf, hk, hd, hu⟩ := HA
  refine wpAny_call ?_
  ktr_enter
  rename_i gH LH hH FGH FH NH BH XH TH lxH
  k_steps
  exact hret _ nw _ _ _ ⟨rfl, rfl⟩ (by assumption) (by k_asm) (news_sub (by k_asm) (by ktd_sub))

end Mine

end

section
open PySem PySem.W PyProof.Rows
set_option linter.unusedVariables false
namespace Mine
local macro_rules | `(tactic| walk_at "zz") => `(tactic| fail)
local macro_rules | `(tactic| walk_at "zz") => `(tactic| fail)
local macro_rules | `(tactic| walk_at "zz") => `(tactic| fail)
local macro_rules | `(tactic| walk_at "zz") => `(tactic| fail)
local macro_rules | `(tactic| walk_at "zz") => `(tactic| fail)
local macro_rules | `(tactic| walk_at "zz") => `(tactic| fail)
local macro_rules | `(tactic| walk_at "zz") => `(tactic| fail)
local macro_rules | `(tactic| walk_at "zz") => `(tactic| fail)
local macro_rules | `(tactic| walk_at "zz") => `(tactic| fail)
local macro_rules | `(tactic| walk_at "zz") => `(tactic| fail)
local macro_rules | `(tactic| walk_at "zz") => `(tactic| fail)
local macro_rules | `(tactic| walk_at "zz") => `(tactic| fail)
local macro_rules | `(tactic| walk_at "zz") => `(tactic| fail)
local macro_rules | `(tactic| walk_at "zz") => `(tactic| fail)
local macro_rules | `(tactic| walk_at "zz") => `(tactic| fail)
local macro_rules | `(tactic| walk_at "zz") => `(tactic| fail)
local macro_rules | `(tactic| walk_at "zz") => `(tactic| fail)
local macro_rules | `(tactic| walk_at "zz") => `(tactic| fail)
local macro_rules | `(tactic| walk_at "zz") => `(tactic| fail)
local macro_rules | `(tactic| walk_at "zz") => `(tactic| fail)
theorem rstFE : True := by
  w_top off
  trivial
local macro_rules | `(tactic| k_mem) => `(tactic| assumption)
local macro_rules | `(tactic| k_all) => `(tactic| with_reducible assumption)
local macro_rules | `(tactic| ktr_enter) => `(tactic| (k_dflt (refine' code_def ?k1 ?k2 ?k3 ?k4 ?k5 ?kA ?kF ?kK ?k6 ?k7 ?k8 ?k9 ?kB ?_ ?c2 ?c3 ?c4 ?c5; (case kA => exact rfl); (case kF => first | exact rfl | assumption); (case kK => first | exact rfl | assumption); (case k1 => k_asm); (case k2 => k_asm); (case k3 => k_asm); (case k4 => k_asm); (case k5 => k_asm); (case k6 => k_is); (case k7 => k_is); (case k8 => ((try dsimp only [topA]); omega)); (case k9 => exact BindsTo.of_eq rfl); (case c5 => decide); (case kB => exact locs rfl); (case c2 => exact rfl); (case c3 => exact rfl); (case c4 => exact rfl); k_whole; intro g' L' h' FG' F' N' B' X' T'; (try dsimp only); (try k_fold))))
local macro_rules | `(tactic| ktd_sub) => `(tactic| (intro p9 hp9; repeat (first | exact hp9 | refine List.mem_cons_of_mem _ ?_)))
local macro_rules | `(tactic| ktd_rel) => `(tactic| first | assumption | (refine' DIn.mono ?hs ?hh; (case hh => assumption); (case hs => ktd_sub)) | (refine' DsIn.mono ?hs ?hh; (case hh => assumption); (case hs => ktd_sub)) | (refine' KsIn.mono ?hs ?hh; (case hh => assumption); (case hs => ktd_sub)))
local macro_rules | `(tactic| ktr_room) => `(tactic| (simp only [depth_deeper, depth_in1, topA] at *; omega))
local macro_rules | `(tactic| ktr_units) => `(tactic| (simp only [units_deeper, units_in1, topA] at *; omega))
local macro_rules | `(tactic| ktr_unf) => `(tactic| (k_dflt (refine' code_defC ?k1 ?k2 ?k3 ?k4 ?k5 ?kA ?kF ?kK ?k6 ?k7 ?k8 ?k9 ?kB ?kD ?_ ?c2 ?c3 ?c4; (case kA => exact rfl); (case kF => first | exact rfl | assumption); (case kK => first | exact rfl | assumption); (case k1 => k_asm); (case k2 => k_asm); (case k3 => k_asm); (case k4 => k_asm); (case k5 => k_asm); (case k6 => k_is); (case k7 => k_is); (case k8 => ((try dsimp only [topA]); omega)); (case k9 => exact BindsTo.of_eq rfl); (case kB => exact rfl); (case kD => decide +kernel); (case c2 => exact rfl); (case c3 => exact rfl); (case c4 => exact rfl); k_whole; intro g' L' h' tk' cells' FG' F' N' Y' B' X' T' l1; (try k_lt l1); k_cells Y'; (try simp only [List.cons_append, List.nil_append] at N'); (try dsimp only); (try k_fold))))
local macro_rules | `(tactic| walk_at "call ref") => `(tactic| (k_here; (with_reducible show wpAny _ _ (call (Value.ref 956) _) _ _ _); k_dflt (refine' use_call (kind_call _ _ _ _ ?hD) ?B ?F ?X ?N ?T ?hf ?hk ?hd ?hu ?hG ?_; (case B => k_asm); (case F => k_asm); (case X => k_asm); (case N => k_asm); (case T => k_asm); (case hf => first | exact rfl | assumption); (case hk => first | exact rfl | assumption); (case hG => assumption); (case hD => ktd_rel); (case hd => ktr_room); (case hu => ktr_units); k_whole; intro r9 nw9 h9 tk9 g9 p9 hG9 F9 N9; obtain ⟨p9, q9⟩ := p9; obtain ⟨t9, p9⟩ := p9; replace q9 := Eq.symm q9; subst q9; subst p9; (try dsimp only); (try k_fold))))
local macro_rules | `(tactic| walk_at "eval ListComp") => `(tactic| (k_here; k_dflt (refine ListComp_G (by k_asm) (by assumption) (by with_unfolding_all rfl) (by decide) (by rfl) (by decide) (by rfl) ?_)))
local macro_rules | `(tactic| walk_at "eval DictComp") => `(tactic| (k_here; k_dflt (refine DictComp_G (by k_asm) (by assumption) (by with_unfolding_all rfl) (by decide) (by rfl) (by decide) (by rfl) ?_)))
local macro_rules | `(tactic| walk_at "exec Assign cons ListComp") => `(tactic| (k_here; k_dflt (refine Assign_ListComp_G (by k_asm) (by assumption) (by rfl) (by with_unfolding_all rfl) (by with_unfolding_all rfl) (by decide) (by rfl) (by decide) (by rfl) (by rfl) (by rfl) ?_)))
local macro_rules | `(tactic| walk_at "exec Assign cons DictComp") => `(tactic| (k_here; k_dflt (refine Assign_DictComp_G (by k_asm) (by assumption) (by rfl) (by with_unfolding_all rfl) (by with_unfolding_all rfl) (by decide) (by rfl) (by decide) (by rfl) (by rfl) (by rfl) ?_)))
local macro_rules | `(tactic| k_room) => `(tactic| ((try simp only [depth_mark, depth_under_make, depth_under_kw, depth_in1, depth_deeper, depth_caller, topA]); omega))
local macro_rules | `(tactic| k_units) => `(tactic| ((try simp only [units_deeper, units_in1, topA]); omega))
local macro_rules | `(tactic| k_mem) => `(tactic| first | assumption | exact List.Mem.head _ | (refine' List.Mem.tail _ ?_; k_mem))
local macro_rules | `(tactic| ktr_enter) => `(tactic| (k_dflt (refine' code_defL ?k1 ?k2 ?k3 ?k4 ?k5 ?kA ?kF ?kK ?k6 ?k7 ?k8 ?k9 ?kB ?_ ?c2 ?c3 ?c4 ?c5; (case kA => exact rfl); (case kF => first | exact rfl | assumption); (case kK => first | exact rfl | assumption); (case k1 => k_asm); (case k2 => k_asm); (case k3 => k_asm); (case k4 => k_asm); (case k5 => k_asm); (case k6 => k_is); (case k7 => k_is); (case k8 => ((try dsimp only [topA]); omega)); (case k9 => exact BindsTo.of_eq rfl); (case c5 => decide); (case kB => exact locs rfl); (case c2 => exact rfl); (case c3 => exact rfl); (case c4 => exact rfl); k_whole; intro g' L' h' FG' F' N' B' X' T' lx9; (try dsimp only); (try k_fold))))
local macro_rules | `(tactic| k_enter) => `(tactic| first | (refine' code_def ?k1 ?k2 ?k3 ?k4 ?k5 ?kA ?kF ?kK ?k6 ?k7 ?k8 ?k9 ?kB ?_ ?c2 ?c3 ?c4 ?c5; (case kA => exact rfl); (case kF => exact rfl); (case kK => exact rfl); (case k1 => k_asm); (case k2 => k_asm); (case k3 => k_asm); (case k4 => k_asm); (case k5 => k_asm); (case k6 => k_is); (case k7 => k_is); (case k8 => k_room); (case k9 => first | exact BindsTo.of_eq rfl | exact binds_K (by k_in) rfl (by k_is) rfl rfl rfl | fail "k_enter: no rule for these arguments"); (case c5 => decide); (case kB => exact locs rfl); (case c2 => exact rfl); (case c3 => exact rfl); (case c4 => exact rfl); k_whole; intro g' L' h' FG' F' N' B' X' T'; (have lL9 := ltN (Nat.lt_of_lt_of_le (Fr.ns FG').lt (Fr.above F'))); (try dsimp only); (try k_lift B'); (try k_fold)) | (refine' code_defC ?k1 ?k2 ?k3 ?k4 ?k5 ?kA ?kF ?kK ?k6 ?k7 ?k8 ?k9 ?kB ?kD ?_ ?c2 ?c3 ?c4; (case kA => exact rfl); (case kF => exact rfl); (case kK => exact rfl); (case k1 => k_asm); (case k2 => k_asm); (case k3 => k_asm); (case k4 => k_asm); (case k5 => k_asm); (case k6 => k_is); (case k7 => k_is); (case k8 => k_room); (case k9 => first | exact BindsTo.of_eq rfl | exact binds_K (by k_in) rfl (by k_is) rfl rfl rfl | fail "k_enter: no rule for these arguments"); (case kB => exact rfl); (case kD => decide +kernel); (case c2 => exact rfl); (case c3 => exact rfl); (case c4 => exact rfl); k_whole; intro g' L' h' tk' cells' FG' F' N' Y' B' X' T' l1; (have lL9 := ltN (Nat.lt_of_lt_of_le (Fr.ns FG').lt (Fr.above F'))); (try k_lt l1); k_cells Y'; (try simp only [List.cons_append, List.nil_append] at N'); (try dsimp only); (try k_lift B'); (try k_fold)))
local macro_rules | `(tactic| k_all) => `(tactic| first | (with_reducible assumption) | (refine' ltAll_neX ?h ?b; (case h => with_reducible assumption); (case b => omega)))
local macro_rules | `(tactic| walk_at "getMethod ref") => `(tactic| (k_here; (with_reducible show wpAny _ _ (getMethod (Value.ref _) (PySem.Str.ofString "get") _) _ _ _); k_dflt (refine' dict_method ?N ?m PySem.F.slot_dict_get PySem.F.type_dict_get ?_; (case N => k_asm); (case m => k_mem))))
local macro_rules | `(tactic| walk_at "call builtin:dict.get") => `(tactic| (k_here; (with_reducible show wpAny _ _ (call (Value.builtin _) [Value.ref _, Value.str _ _, _]) _ _ _); k_dflt (refine' get_led ?N ?m ?d ?s ?v ?_; (case N => k_asm); (case m => k_mem); (case d => with_reducible assumption); (case s => with_reducible assumption); (case v => first | exact getD_some (by with_reducible assumption) | exact getD_none (by with_reducible assumption)); k_whole; intro tk9)))
local macro_rules | `(tactic| walk_at "compareOp Is") => `(tactic| (k_here; (with_reducible show wpAny _ _ (compareOp CmpOp.Is _ (Value.ref _)) _ _ _); k_dflt (refine' is_data (d := _) ?F ?N ?D ?X ?k ?_; (case F => k_asm); (case N => k_asm); (case D => ktd_rel); (case X => k_asm); (case k => k_is); k_whole)))
local macro_rules | `(tactic| walk_at "eval ListComp") => `(tactic| (k_here; k_dflt (refine ListComp_T (by k_asm) (by assumption) (by with_unfolding_all rfl) (by decide) (by rfl) (by decide) ?_)))
local macro_rules | `(tactic| walk_at "enterC") => `(tactic| (refine' code_defC ?k1 ?k2 ?k3 ?k4 ?k5 ?kA ?kF ?kK ?k6 ?k7 ?k8 ?k9 ?kB ?kD ?_ ?c2 ?c3 ?c4; (case kA => exact rfl); (case kF => first | exact rfl | assumption); (case kK => first | exact rfl | assumption); (case k1 => k_asm); (case k2 => k_asm); (case k3 => k_asm); (case k4 => k_asm); (case k5 => k_asm); (case k6 => k_is); (case k7 => k_is); (case k8 => ((try dsimp only [topA]); omega)); (case k9 => exact BindsTo.of_eq rfl); (case kB => exact rfl); (case kD => decide +kernel); (case c2 => exact rfl); (case c3 => exact rfl); (case c4 => exact rfl); k_whole; intro g' L' h' tk' cells' FG' F' N' Y' B' X' T' l1; (have lL9 := ltN (Nat.lt_of_lt_of_le (Fr.ns FG').lt (Fr.above F'))); (have lZ9 := l1); (try k_lt l1); k_cells Y'; (try simp only [List.cons_append, List.nil_append] at N'); (try dsimp only); (try k_fold)))
local macro_rules | `(tactic| walk_at "truthy ref") => `(tactic| (k_here; (with_reducible show wpAny _ _ (truthy (Value.ref _)) _ _ _); k_dflt (refine' truthy_K0 ?k1 ?k2 ?k3 ?k4 ?k5 ?_; (case k1 => k_asm); (case k2 => k_asm); (case k3 => k_inst); (case k4 => k_is); (case k5 => k_is); k_whole)))
set_option maxRecDepth 100000 in
set_option maxHeartbeats 8000000 in
theorem array_elems (w : World) (nw : List (Addr × Obj)) (a l : Addr) (vs : List Value) (c : Nat) (ha : DatAt w nw a (.ref l)) (hl : (l, listObj vs c) ∈ nw) (hn : vs.length ≤ 3) :
    CallsTo w 823 [.ref a] nw 100 500 (fun r nw' => ∃ own R xs c, r = .ref R ∧ nw' = nw ++ own ∧ (R, listObj (xs.map Value.ref) c) ∈ own ∧ DatsAt w own xs vs ∧ ∀ p ∈ own, ∀ q ∈ nw, p.1 ≠ q.1) := by
  obtain ⟨ad, an, at1, at2, at3, apv, acv, ha1, ha2⟩ := ha
  intro fl p loose mean mg mb dp un gd env outer A₀ base h₀ L m s Q E HA hG hret
  obtain ⟨B, F, X, N, T, hf, hk, hd, hu⟩ := HA
  refine wpAny_call ?_
  walk_at "enterC"
  k_steps
  refine src_enum (by assumption) rfl (by k_asm) (by k_asm) (by k_mem) (by rfl) (by rfl) (by rfl) (by decide) ?_
  intro hp0 e0 it0 hei0
  refine GRestP.turns (JDH w [_] nw vs) ⟨_, rfl, JD.zero⟩ ?hendZ ?hstepZ
  case hstepZ =>
    rintro i hi oD nwx ⟨nw2, rfl, hJ⟩ pv C0 oC0 D0 m0 h0 tk0 g0 E0 Post0 ⟨oE, oI, t, x, rfl, hx, hma, hmb⟩ hC0 F0 N0 off0 ne0 hG0 hPost0
    obtain ⟨xv, rfl⟩ := hJ.isLst
    have hi3 : i < 3 := Nat.lt_of_lt_of_le (by simpa using hi) hn
    have sub2 := hJ.sub
    have ha1' := sub2 _ ha1
    have ha2' := sub2 _ ha2
    have hl' := sub2 _ hl
    have hlen := hJ.len
    refine turnP (ys := xv) ne0 (by rw [sizeLine_eq]; exact Nat.le_trans hlen (by omega)) hPost0 ?_
    simp only [List.cons_append, List.nil_append] at N0
    k_steps
    refine' closeTurnP (oC := oC0) (nw2 := nw2) (hdr := [_]) ?NZ ?h1Z ?h2Z ?hsZ ?ltZ ?l2Z hG0 hC0 ?FZ off0 ?hSZ hJ ?hvZ rfl
    (case NZ => k_asm)
    (case h1Z => k_mem)
    (case h2Z => k_mem)
    (case FZ => k_asm)
    (case hvZ => simpa using hx)
    (case l2Z => assumption)
    (case hSZ => exact fun own => List.mem_append_right _ (List.mem_append_left _ hl'))
    (case hsZ => intro q9 hq9; simp only [List.cons_append, List.nil_append, List.mem_cons] at hq9 ⊢; rcases hq9 with e9 | e9 | e9 | e9 | e9 | e9 <;> simp only [e9, true_or, or_true])
    (case ltZ =>
      simp only [List.cons_append, List.nil_append]
      refine tb_ltOf ?_
      refine ⟨?_, ?_, ?_, ?_, ?_, ?_⟩
      all_goals first | tbn_find | (dsimp only; omega))
  case hendZ =>
    rintro oD nwx ⟨nw2, rfl, hJ⟩
    intro D1 h1 tk1 g1 hG1 F1 N1 off1 ltD1
    k_steps
    obtain ⟨xs, own, rfl, rfl, hds, hfr⟩ := hJ
    refine hret _ _ _ _ _ ⟨(D1, LCg.lst (xs.map Value.ref)) :: own, D1, xs, _, rfl, rfl, .head _, (by simpa using hds.mono fun _ h => .tail _ h), ?fZ⟩ (by assumption) (by k_asm) (news_sub (by k_asm) ?sZ)
    case fZ =>
      have lt0 : ∀ q ∈ nw, @LT.lt Nat _ q.1 D1 := allLt_trans (by with_reducible assumption) ltD1
      intro p hp q hq
      rcases List.mem_cons.mp hp with rfl | hp
      · exact Nat.ne_of_gt (lt0 q hq)
      · exact hfr p hp q hq
    case sZ =>
      intro p hp
      simp only [List.mem_cons, List.mem_append] at hp ⊢
      rcases hp with hp | hp | hp <;> simp [hp]

end Mine

end

section
open PySem PySem.W PyProof.Rows
set_option linter.unusedVariables false
namespace Mine
local macro_rules | `(tactic| walk_at "zz") => `(tactic| fail)
local macro_rules | `(tactic| walk_at "zz") => `(tactic| fail)
local macro_rules | `(tactic| walk_at "zz") => `(tactic| fail)
local macro_rules | `(tactic| walk_at "zz") => `(tactic| fail)
local macro_rules | `(tactic| walk_at "zz") => `(tactic| fail)
local macro_rules | `(tactic| walk_at "zz") => `(tactic| fail)
local macro_rules | `(tactic| walk_at "zz") => `(tactic| fail)
local macro_rules | `(tactic| walk_at "zz") => `(tactic| fail)
local macro_rules | `(tactic| walk_at "zz") => `(tactic| fail)
local macro_rules | `(tactic| walk_at "zz") => `(tactic| fail)
local macro_rules | `(tactic| walk_at "zz") => `(tactic| fail)
local macro_rules | `(tactic| walk_at "zz") => `(tactic| fail)
local macro_rules | `(tactic| walk_at "zz") => `(tactic| fail)
local macro_rules | `(tactic| walk_at "zz") => `(tactic| fail)
local macro_rules | `(tactic| walk_at "zz") => `(tactic| fail)
local macro_rules | `(tactic| walk_at "zz") => `(tactic| fail)
local macro_rules | `(tactic| walk_at "zz") => `(tactic| fail)
local macro_rules | `(tactic| walk_at "zz") => `(tactic| fail)
local macro_rules | `(tactic| walk_at "zz") => `(tactic| fail)
local macro_rules | `(tactic| walk_at "zz") => `(tactic| fail)
local macro_rules | `(tactic| walk_at "zz") => `(tactic| fail)
theorem rstFF : True := by
  w_top off
  trivial
local macro_rules | `(tactic| k_mem) => `(tactic| assumption)
local macro_rules | `(tactic| k_all) => `(tactic| with_reducible assumption)
local macro_rules | `(tactic| ktr_enter) => `(tactic| (k_dflt (refine' code_def ?k1 ?k2 ?k3 ?k4 ?k5 ?kA ?kF ?kK ?k6 ?k7 ?k8 ?k9 ?kB ?_ ?c2 ?c3 ?c4 ?c5; (case kA => exact rfl); (case kF => first | exact rfl | assumption); (case kK => first | exact rfl | assumption); (case k1 => k_asm); (case k2 => k_asm); (case k3 => k_asm); (case k4 => k_asm); (case k5 => k_asm); (case k6 => k_is); (case k7 => k_is); (case k8 => ((try dsimp only [topA]); omega)); (case k9 => exact BindsTo.of_eq rfl); (case c5 => decide); (case kB => exact locs rfl); (case c2 => exact rfl); (case c3 => exact rfl); (case c4 => exact rfl); k_whole; intro g' L' h' FG' F' N' B' X' T'; (try dsimp only); (try k_fold))))
local macro_rules | `(tactic| ktd_sub) => `(tactic| (intro p9 hp9; repeat (first | exact hp9 | refine List.mem_cons_of_mem _ ?_)))
local macro_rules | `(tactic| ktd_rel) => `(tactic| first | assumption | (refine' DIn.mono ?hs ?hh; (case hh => assumption); (case hs => ktd_sub)) | (refine' DsIn.mono ?hs ?hh; (case hh => assumption); (case hs => ktd_sub)) | (refine' KsIn.mono ?hs ?hh; (case hh => assumption); (case hs => ktd_sub)))
local macro_rules | `(tactic| ktr_room) => `(tactic| (simp only [depth_deeper, depth_in1, topA] at *; omega))
local macro_rules | `(tactic| ktr_units) => `(tactic| (simp only [units_deeper, units_in1, topA] at *; omega))
local macro_rules | `(tactic| ktr_unf) => `(tactic| (k_dflt (refine' code_defC ?k1 ?k2 ?k3 ?k4 ?k5 ?kA ?kF ?kK ?k6 ?k7 ?k8 ?k9 ?kB ?kD ?_ ?c2 ?c3 ?c4; (case kA => exact rfl); (case kF => first | exact rfl | assumption); (case kK => first | exact rfl | assumption); (case k1 => k_asm); (case k2 => k_asm); (case k3 => k_asm); (case k4 => k_asm); (case k5 => k_asm); (case k6 => k_is); (case k7 => k_is); (case k8 => ((try dsimp only [topA]); omega)); (case k9 => exact BindsTo.of_eq rfl); (case kB => exact rfl); (case kD => decide +kernel); (case c2 => exact rfl); (case c3 => exact rfl); (case c4 => exact rfl); k_whole; intro g' L' h' tk' cells' FG' F' N' Y' B' X' T' l1; (try k_lt l1); k_cells Y'; (try simp only [List.cons_append, List.nil_append] at N'); (try dsimp only); (try k_fold))))
local macro_rules | `(tactic| walk_at "call ref") => `(tactic| (k_here; (with_reducible show wpAny _ _ (call (Value.ref 956) _) _ _ _); k_dflt (refine' use_call (kind_call _ _ _ _ ?hD) ?B ?F ?X ?N ?T ?hf ?hk ?hd ?hu ?hG ?_; (case B => k_asm); (case F => k_asm); (case X => k_asm); (case N => k_asm); (case T => k_asm); (case hf => first | exact rfl | assumption); (case hk => first | exact rfl | assumption); (case hG => assumption); (case hD => ktd_rel); (case hd => ktr_room); (case hu => ktr_units); k_whole; intro r9 nw9 h9 tk9 g9 p9 hG9 F9 N9; obtain ⟨p9, q9⟩ := p9; obtain ⟨t9, p9⟩ := p9; replace q9 := Eq.symm q9; subst q9; subst p9; (try dsimp only); (try k_fold))))
local macro_rules | `(tactic| walk_at "eval ListComp") => `(tactic| (k_here; k_dflt (refine ListComp_G (by k_asm) (by assumption) (by with_unfolding_all rfl) (by decide) (by rfl) (by decide) (by rfl) ?_)))
local macro_rules | `(tactic| walk_at "eval DictComp") => `(tactic| (k_here; k_dflt (refine DictComp_G (by k_asm) (by assumption) (by with_unfolding_all rfl) (by decide) (by rfl) (by decide) (by rfl) ?_)))
local macro_rules | `(tactic| walk_at "exec Assign cons ListComp") => `(tactic| (k_here; k_dflt (refine Assign_ListComp_G (by k_asm) (by assumption) (by rfl) (by with_unfolding_all rfl) (by with_unfolding_all rfl) (by decide) (by rfl) (by decide) (by rfl) (by rfl) (by rfl) ?_)))
local macro_rules | `(tactic| walk_at "exec Assign cons DictComp") => `(tactic| (k_here; k_dflt (refine Assign_DictComp_G (by k_asm) (by assumption) (by rfl) (by with_unfolding_all rfl) (by with_unfolding_all rfl) (by decide) (by rfl) (by decide) (by rfl) (by rfl) (by rfl) ?_)))
local macro_rules | `(tactic| k_room) => `(tactic| ((try simp only [depth_mark, depth_under_make, depth_under_kw, depth_in1, depth_deeper, depth_caller, topA]); omega))
local macro_rules | `(tactic| k_units) => `(tactic| ((try simp only [units_deeper, units_in1, topA]); omega))
local macro_rules | `(tactic| k_mem) => `(tactic| first | assumption | exact List.Mem.head _ | (refine' List.Mem.tail _ ?_; k_mem))
local macro_rules | `(tactic| ktr_enter) => `(tactic| (k_dflt (refine' code_defL ?k1 ?k2 ?k3 ?k4 ?k5 ?kA ?kF ?kK ?k6 ?k7 ?k8 ?k9 ?kB ?_ ?c2 ?c3 ?c4 ?c5; (case kA => exact rfl); (case kF => first | exact rfl | assumption); (case kK => first | exact rfl | assumption); (case k1 => k_asm); (case k2 => k_asm); (case k3 => k_asm); (case k4 => k_asm); (case k5 => k_asm); (case k6 => k_is); (case k7 => k_is); (case k8 => ((try dsimp only [topA]); omega)); (case k9 => exact BindsTo.of_eq rfl); (case c5 => decide); (case kB => exact locs rfl); (case c2 => exact rfl); (case c3 => exact rfl); (case c4 => exact rfl); k_whole; intro g' L' h' FG' F' N' B' X' T' lx9; (try dsimp only); (try k_fold))))
local macro_rules | `(tactic| k_enter) => `(tactic| first | (refine' code_def ?k1 ?k2 ?k3 ?k4 ?k5 ?kA ?kF ?kK ?k6 ?k7 ?k8 ?k9 ?kB ?_ ?c2 ?c3 ?c4 ?c5; (case kA => exact rfl); (case kF => exact rfl); (case kK => exact rfl); (case k1 => k_asm); (case k2 => k_asm); (case k3 => k_asm); (case k4 => k_asm); (case k5 => k_asm); (case k6 => k_is); (case k7 => k_is); (case k8 => k_room); (case k9 => first | exact BindsTo.of_eq rfl | exact binds_K (by k_in) rfl (by k_is) rfl rfl rfl | fail "k_enter: no rule for these arguments"); (case c5 => decide); (case kB => exact locs rfl); (case c2 => exact rfl); (case c3 => exact rfl); (case c4 => exact rfl); k_whole; intro g' L' h' FG' F' N' B' X' T'; (have lL9 := ltN (Nat.lt_of_lt_of_le (Fr.ns FG').lt (Fr.above F'))); (try dsimp only); (try k_lift B'); (try k_fold)) | (refine' code_defC ?k1 ?k2 ?k3 ?k4 ?k5 ?kA ?kF ?kK ?k6 ?k7 ?k8 ?k9 ?kB ?kD ?_ ?c2 ?c3 ?c4; (case kA => exact rfl); (case kF => exact rfl); (case kK => exact rfl); (case k1 => k_asm); (case k2 => k_asm); (case k3 => k_asm); (case k4 => k_asm); (case k5 => k_asm); (case k6 => k_is); (case k7 => k_is); (case k8 => k_room); (case k9 => first | exact BindsTo.of_eq rfl | exact binds_K (by k_in) rfl (by k_is) rfl rfl rfl | fail "k_enter: no rule for these arguments"); (case kB => exact rfl); (case kD => decide +kernel); (case c2 => exact rfl); (case c3 => exact rfl); (case c4 => exact rfl); k_whole; intro g' L' h' tk' cells' FG' F' N' Y' B' X' T' l1; (have lL9 := ltN (Nat.lt_of_lt_of_le (Fr.ns FG').lt (Fr.above F'))); (try k_lt l1); k_cells Y'; (try simp only [List.cons_append, List.nil_append] at N'); (try dsimp only); (try k_lift B'); (try k_fold)))
local macro_rules | `(tactic| k_all) => `(tactic| first | (with_reducible assumption) | (refine' ltAll_neX ?h ?b; (case h => with_reducible assumption); (case b => omega)))
local macro_rules | `(tactic| walk_at "getMethod ref") => `(tactic| (k_here; (with_reducible show wpAny _ _ (getMethod (Value.ref _) (PySem.Str.ofString "get") _) _ _ _); k_dflt (refine' dict_method ?N ?m PySem.F.slot_dict_get PySem.F.type_dict_get ?_; (case N => k_asm); (case m => k_mem))))
local macro_rules | `(tactic| walk_at "call builtin:dict.get") => `(tactic| (k_here; (with_reducible show wpAny _ _ (call (Value.builtin _) [Value.ref _, Value.str _ _, _]) _ _ _); k_dflt (refine' get_led ?N ?m ?d ?s ?v ?_; (case N => k_asm); (case m => k_mem); (case d => with_reducible assumption); (case s => with_reducible assumption); (case v => first | exact getD_some (by with_reducible assumption) | exact getD_none (by with_reducible assumption)); k_whole; intro tk9)))
local macro_rules | `(tactic| walk_at "compareOp Is") => `(tactic| (k_here; (with_reducible show wpAny _ _ (compareOp CmpOp.Is _ (Value.ref _)) _ _ _); k_dflt (refine' is_data (d := _) ?F ?N ?D ?X ?k ?_; (case F => k_asm); (case N => k_asm); (case D => ktd_rel); (case X => k_asm); (case k => k_is); k_whole)))
local macro_rules | `(tactic| walk_at "call ref") => `(tactic| (k_here; (with_reducible show wpAny _ _ (call (Value.ref 553) _) _ _ _); k_dflt (refine' use_call (gfd_some _ _ _ _ _ _ _ _ _ _ _ ?a9 ?b9 ?c9 ?d9 ?e9 ?f9) ?B ?F ?X ?N ?T ?hf ?hk ?hd ?hu ?hG ?_; (case B => k_asm); (case F => k_asm); (case X => k_asm); (case N => k_asm); (case T => k_asm); (case hf => first | exact rfl | assumption); (case hk => first | exact rfl | assumption); (case hG => assumption); (case a9 => (refine' DatAt.mono ?sZ ?hZ; (case hZ => with_reducible assumption); (case sZ => ktd_sub))); (case c9 => with_reducible assumption); (case b9 => k_mem); (case d9 => with_reducible assumption); (case e9 => with_reducible assumption); (case f9 => ktd_rel); (case hd => k_room); (case hu => k_units); k_whole; intro r9 nw9 h9 tk9 g9 p9 hG9 F9 N9; obtain ⟨own9, x9, q9, p9, dat9, fr9⟩ := p9; subst q9; subst p9; (try dsimp only); (try k_fold))))
local macro_rules | `(tactic| walk_at "call ref") => `(tactic| (k_here; (with_reducible show wpAny _ _ (call (Value.ref 553) _) _ _ _); k_dflt (refine' use_call (gfd_none _ _ _ _ _ _ _ _ _ ?a9 ?b9 ?c9 ?d9 ?e9) ?B ?F ?X ?N ?T ?hf ?hk ?hd ?hu ?hG ?_; (case B => k_asm); (case F => k_asm); (case X => k_asm); (case N => k_asm); (case T => k_asm); (case hf => first | exact rfl | assumption); (case hk => first | exact rfl | assumption); (case hG => assumption); (case a9 => (refine' DatAt.mono ?sZ ?hZ; (case hZ => with_reducible assumption); (case sZ => ktd_sub))); (case c9 => with_reducible assumption); (case b9 => k_mem); (case d9 => with_reducible assumption); (case e9 => with_reducible assumption); (case hd => k_room); (case hu => k_units); k_whole; intro r9 nw9 h9 tk9 g9 p9 hG9 F9 N9; obtain ⟨q9, p9⟩ := p9; subst q9; subst p9; (try dsimp only); (try k_fold))))
local macro_rules | `(tactic| walk_at "getMethod ref") => `(tactic| (k_here; (with_reducible show wpAny _ _ (getMethod (Value.ref _) (PySem.Str.ofString "get_field_datum") _) _ _ _); k_dflt (refine' kmu_sm ?k1 ?k2 ?k4 ?k5 ?k6 ?k7 ?k8 ?k9 ?k10 ?k11 ?k12 ?k13 ?k14 ?_; (case k1 => k_asm); (case k2 => k_asm); (case k4 => k_inst); (case k5 => k_is); (case k6 => k_is); (case k7 => k_is); (case k8 => k_is); (case k9 => k_is); (case k10 => k_is); (case k11 => decide +kernel); (case k12 => k_get); (case k13 => k_is); (case k14 => k_handed); k_whole)))
set_option maxRecDepth 100000 in
set_option maxHeartbeats 8000000 in
theorem fields_find_some (w : World) (nw : List (Addr × Obj)) (f a th : Addr) (es : List DictEntry) (n : Nat) (kvs : List (Str × Value)) (key : Str) (v : Value) (d : D) (hf : FldAt w nw f key) (ha : DatAt w nw a (.ref th)) (hth : (th, dictObj es n) ∈ nw) (hdo : (dictObj es n).IsDictOf (PySem.strKind PP w) kvs) (hs : (th == sysModules) = false)
    (hv : valueAt kvs key = some v) (hD : DIn w nw d v) : CallsTo w 570 [.ref f, .ref a] nw 100 500 (fun r nw' => ∃ own R x c, r = .ref R ∧ nw' = nw ++ own ∧ (R, listObj [.ref x] c) ∈ own ∧ DatAt w own x v ∧ ∀ p ∈ own, ∀ q ∈ nw, p.1 ≠ q.1) := by
  have ha9 := ha
  obtain ⟨fd, fn, ft1, ft2, ftp, ftk, fnT, hf1, hf2, hf3⟩ := hf
  obtain ⟨ad, an, at1, at2, at3, apv, acv, ha1, ha2⟩ := ha
  intro fl p loose mean mg mb dp un gd env outer A₀ base h₀ L m s Q E HA hG hret
  obtain ⟨B, F, X, N, T, hf, hk, hd, hu⟩ := HA
  refine wpAny_call ?_
  ktr_enter
  rename_i gH LH hH FGH FH NH BH XH TH lxH
  k_steps
  refine src_tuple (by assumption) rfl (by k_asm) (by k_asm) (by k_mem) ?_
  intro hp0
  intro v0 I0 oI0 C0 oC0 D0 m0 h0 tk0 g0 E0 Post0 e0 hC0 hx0 F0 N0 off0 ne0 hG0 hPost0
  obtain rfl : Value.str key ftk = v0 := by simpa using e0
  refine turnL (ys := []) ne0 (by rw [sizeLine_eq]; exact Nat.zero_le _) hPost0 ?_
  k_steps
  rename_i cE hZ tkZ gZ hGZ FZ ownZ xZ datZ frZ NZ
  have hTup : (ftp, ({ cls := .type "tuple", data := .seq #[.str key ftk] fnT } : Obj)) ∈ nw := hf3
  refine ⟨_, _, _, oC0, m0, nw ++ ownZ, rfl, hGZ, hC0, by k_asm, ?nZ1, LCg.Off3.of fun p hp => ?oZ1, List.mem_append_left _ hTup, ?_⟩
  case nZ1 =>
    refine news_sub NZ fun p hp => ?_
    simp only [List.mem_cons, List.mem_append] at hp ⊢
    rcases hp with hp | hp | hp | hp | hp <;> simp [hp]
  case oZ1 =>
    rcases List.mem_append.mp hp with hp | hp
    · exact LCg.Off3.mem off0 p (.tail _ (.tail _ (.tail _ (.tail _ hp))))
    · exact ⟨frZ p hp _ (.head _), frZ p hp _ (.tail _ (.head _)), frZ p hp _ (.tail _ (.tail _ (.head _)))⟩
  dsimp only [List.nil_append]
  intro D1 h1 tk1 g1 hG1 F1 N1 off1 ltD1
  k_steps
  refine src_list hG1 rfl F1 N1 (.head _) ?_
  intro hp1
  intro v1 I1 oI1 C1 oC1 D2 m1 h2 tk2 g2 E2 Post2 e2 hC2 hx2 F2 N2 off2 ne2 hG2 hPost2
  obtain rfl : Value.ref xZ = v1 := by simpa using e2
  refine turnLT (ys := []) ne2 (by rw [sizeLine_eq]; exact Nat.zero_le _) hPost2 ?_
  k_steps
  refine ⟨_, _, _, oC1, m1, _, rfl, by assumption, hC2, by k_asm, by k_asm, off2, .head _, ?_⟩
  dsimp only [List.nil_append]
  intro D3 h3 tk3 g3 hG3 F3 N3 off3 ltD3
  k_steps
  refine hret _ _ _ _ _ ⟨(D3, LCg.lst [Value.ref xZ]) :: ownZ, D3, xZ, _, rfl, rfl, .head _, datZ.mono (fun _ h => .tail _ h), ?fZ⟩ (by assumption) (by k_asm) (news_sub (by k_asm) ?sZ)
  case fZ =>
    have lt0 : ∀ q ∈ nw, @LT.lt Nat _ q.1 D3 := allLt_trans (by with_reducible assumption) ltD3
    intro p hp q hq
    rcases List.mem_cons.mp hp with rfl | hp
    · exact Nat.ne_of_gt (lt0 q hq)
    · exact frZ p hp q (.tail _ (.tail _ (.tail _ (.tail _ (.tail _ (.tail _ (.tail _ hq)))))))
  case sZ =>
    intro p hp
    simp only [List.mem_cons, List.mem_append] at hp ⊢
    rcases hp with hp | hp | hp <;> simp [hp]

end Mine

end

section
open PySem PySem.W PyProof.Rows
set_option linter.unusedVariables false
namespace Mine
local macro_rules | `(tactic| walk_at "zz") => `(tactic| fail)
local macro_rules | `(tactic| walk_at "zz") => `(tactic| fail)
local macro_rules | `(tactic| walk_at "zz") => `(tactic| fail)
local macro_rules | `(tactic| walk_at "zz") => `(tactic| fail)
local macro_rules | `(tactic| walk_at "zz") => `(tactic| fail)
local macro_rules | `(tactic| walk_at "zz") => `(tactic| fail)
local macro_rules | `(tactic| walk_at "zz") => `(tactic| fail)
local macro_rules | `(tactic| walk_at "zz") => `(tactic| fail)
local macro_rules | `(tactic| walk_at "zz") => `(tactic| fail)
local macro_rules | `(tactic| walk_at "zz") => `(tactic| fail)
local macro_rules | `(tactic| walk_at "zz") => `(tactic| fail)
local macro_rules | `(tactic| walk_at "zz") => `(tactic| fail)
local macro_rules | `(tactic| walk_at "zz") => `(tactic| fail)
local macro_rules | `(tactic| walk_at "zz") => `(tactic| fail)
local macro_rules | `(tactic| walk_at "zz") => `(tactic| fail)
local macro_rules | `(tactic| walk_at "zz") => `(tactic| fail)
local macro_rules | `(tactic| walk_at "zz") => `(tactic| fail)
local macro_rules | `(tactic| walk_at "zz") => `(tactic| fail)
local macro_rules | `(tactic| walk_at "zz") => `(tactic| fail)
local macro_rules | `(tactic| walk_at "zz") => `(tactic| fail)
local macro_rules | `(tactic| walk_at "zz") => `(tactic| fail)
local macro_rules | `(tactic| walk_at "zz") => `(tactic| fail)
theorem rstFF0 : True := by
  w_top off
  trivial
local macro_rules | `(tactic| k_mem) => `(tactic| assumption)
local macro_rules | `(tactic| k_all) => `(tactic| with_reducible assumption)
local macro_rules | `(tactic| ktr_enter) => `(tactic| (k_dflt (refine' code_def ?k1 ?k2 ?k3 ?k4 ?k5 ?kA ?kF ?kK ?k6 ?k7 ?k8 ?k9 ?kB ?_ ?c2 ?c3 ?c4 ?c5; (case kA => exact rfl); (case kF => first | exact rfl | assumption); (case kK => first | exact rfl | assumption); (case k1 => k_asm); (case k2 => k_asm); (case k3 => k_asm); (case k4 => k_asm); (case k5 => k_asm); (case k6 => k_is); (case k7 => k_is); (case k8 => ((try dsimp only [topA]); omega)); (case k9 => exact BindsTo.of_eq rfl); (case c5 => decide); (case kB => exact locs rfl); (case c2 => exact rfl); (case c3 => exact rfl); (case c4 => exact rfl); k_whole; intro g' L' h' FG' F' N' B' X' T'; (try dsimp only); (try k_fold))))
local macro_rules | `(tactic| ktd_sub) => `(tactic| (intro p9 hp9; repeat (first | exact hp9 | refine List.mem_cons_of_mem _ ?_)))
local macro_rules | `(tactic| ktd_rel) => `(tactic| first | assumption | (refine' DIn.mono ?hs ?hh; (case hh => assumption); (case hs => ktd_sub)) | (refine' DsIn.mono ?hs ?hh; (case hh => assumption); (case hs => ktd_sub)) | (refine' KsIn.mono ?hs ?hh; (case hh => assumption); (case hs => ktd_sub)))
local macro_rules | `(tactic| ktr_room) => `(tactic| (simp only [depth_deeper, depth_in1, topA] at *; omega))
local macro_rules | `(tactic| ktr_units) => `(tactic| (simp only [units_deeper, units_in1, topA] at *; omega))
local macro_rules | `(tactic| ktr_unf) => `(tactic| (k_dflt (refine' code_defC ?k1 ?k2 ?k3 ?k4 ?k5 ?kA ?kF ?kK ?k6 ?k7 ?k8 ?k9 ?kB ?kD ?_ ?c2 ?c3 ?c4; (case kA => exact rfl); (case kF => first | exact rfl | assumption); (case kK => first | exact rfl | assumption); (case k1 => k_asm); (case k2 => k_asm); (case k3 => k_asm); (case k4 => k_asm); (case k5 => k_asm); (case k6 => k_is); (case k7 => k_is); (case k8 => ((try dsimp only [topA]); omega)); (case k9 => exact BindsTo.of_eq rfl); (case kB => exact rfl); (case kD => decide +kernel); (case c2 => exact rfl); (case c3 => exact rfl); (case c4 => exact rfl); k_whole; intro g' L' h' tk' cells' FG' F' N' Y' B' X' T' l1; (try k_lt l1); k_cells Y'; (try simp only [List.cons_append, List.nil_append] at N'); (try dsimp only); (try k_fold))))
local macro_rules | `(tactic| walk_at "call ref") => `(tactic| (k_here; (with_reducible show wpAny _ _ (call (Value.ref 956) _) _ _ _); k_dflt (refine' use_call (kind_call _ _ _ _ ?hD) ?B ?F ?X ?N ?T ?hf ?hk ?hd ?hu ?hG ?_; (case B => k_asm); (case F => k_asm); (case X => k_asm); (case N => k_asm); (case T => k_asm); (case hf => first | exact rfl | assumption); (case hk => first | exact rfl | assumption); (case hG => assumption); (case hD => ktd_rel); (case hd => ktr_room); (case hu => ktr_units); k_whole; intro r9 nw9 h9 tk9 g9 p9 hG9 F9 N9; obtain ⟨p9, q9⟩ := p9; obtain ⟨t9, p9⟩ := p9; replace q9 := Eq.symm q9; subst q9; subst p9; (try dsimp only); (try k_fold))))
local macro_rules | `(tactic| walk_at "eval ListComp") => `(tactic| (k_here; k_dflt (refine ListComp_G (by k_asm) (by assumption) (by with_unfolding_all rfl) (by decide) (by rfl) (by decide) (by rfl) ?_)))
local macro_rules | `(tactic| walk_at "eval DictComp") => `(tactic| (k_here; k_dflt (refine DictComp_G (by k_asm) (by assumption) (by with_unfolding_all rfl) (by decide) (by rfl) (by decide) (by rfl) ?_)))
local macro_rules | `(tactic| walk_at "exec Assign cons ListComp") => `(tactic| (k_here; k_dflt (refine Assign_ListComp_G (by k_asm) (by assumption) (by rfl) (by with_unfolding_all rfl) (by with_unfolding_all rfl) (by decide) (by rfl) (by decide) (by rfl) (by rfl) (by rfl) ?_)))
local macro_rules | `(tactic| walk_at "exec Assign cons DictComp") => `(tactic| (k_here; k_dflt (refine Assign_DictComp_G (by k_asm) (by assumption) (by rfl) (by with_unfolding_all rfl) (by with_unfolding_all rfl) (by decide) (by rfl) (by decide) (by rfl) (by rfl) (by rfl) ?_)))
local macro_rules | `(tactic| k_room) => `(tactic| ((try simp only [depth_mark, depth_under_make, depth_under_kw, depth_in1, depth_deeper, depth_caller, topA]); omega))
local macro_rules | `(tactic| k_units) => `(tactic| ((try simp only [units_deeper, units_in1, topA]); omega))
local macro_rules | `(tactic| k_mem) => `(tactic| first | assumption | exact List.Mem.head _ | (refine' List.Mem.tail _ ?_; k_mem))
local macro_rules | `(tactic| ktr_enter) => `(tactic| (k_dflt (refine' code_defL ?k1 ?k2 ?k3 ?k4 ?k5 ?kA ?kF ?kK ?k6 ?k7 ?k8 ?k9 ?kB ?_ ?c2 ?c3 ?c4 ?c5; (case kA => exact rfl); (case kF => first | exact rfl | assumption); (case kK => first | exact rfl | assumption); (case k1 => k_asm); (case k2 => k_asm); (case k3 => k_asm); (case k4 => k_asm); (case k5 => k_asm); (case k6 => k_is); (case k7 => k_is); (case k8 => ((try dsimp only [topA]); omega)); (case k9 => exact BindsTo.of_eq rfl); (case c5 => decide); (case kB => exact locs rfl); (case c2 => exact rfl); (case c3 => exact rfl); (case c4 => exact rfl); k_whole; intro g' L' h' FG' F' N' B' X' T' lx9; (try dsimp only); (try k_fold))))
local macro_rules | `(tactic| k_enter) => `(tactic| first | (refine' code_def ?k1 ?k2 ?k3 ?k4 ?k5 ?kA ?kF ?kK ?k6 ?k7 ?k8 ?k9 ?kB ?_ ?c2 ?c3 ?c4 ?c5; (case kA => exact rfl); (case kF => exact rfl); (case kK => exact rfl); (case k1 => k_asm); (case k2 => k_asm); (case k3 => k_asm); (case k4 => k_asm); (case k5 => k_asm); (case k6 => k_is); (case k7 => k_is); (case k8 => k_room); (case k9 => first | exact BindsTo.of_eq rfl | exact binds_K (by k_in) rfl (by k_is) rfl rfl rfl | fail "k_enter: no rule for these arguments"); (case c5 => decide); (case kB => exact locs rfl); (case c2 => exact rfl); (case c3 => exact rfl); (case c4 => exact rfl); k_whole; intro g' L' h' FG' F' N' B' X' T'; (have lL9 := ltN (Nat.lt_of_lt_of_le (Fr.ns FG').lt (Fr.above F'))); (try dsimp only); (try k_lift B'); (try k_fold)) | (refine' code_defC ?k1 ?k2 ?k3 ?k4 ?k5 ?kA ?kF ?kK ?k6 ?k7 ?k8 ?k9 ?kB ?kD ?_ ?c2 ?c3 ?c4; (case kA => exact rfl); (case kF => exact rfl); (case kK => exact rfl); (case k1 => k_asm); (case k2 => k_asm); (case k3 => k_asm); (case k4 => k_asm); (case k5 => k_asm); (case k6 => k_is); (case k7 => k_is); (case k8 => k_room); (case k9 => first | exact BindsTo.of_eq rfl | exact binds_K (by k_in) rfl (by k_is) rfl rfl rfl | fail "k_enter: no rule for these arguments"); (case kB => exact rfl); (case kD => decide +kernel); (case c2 => exact rfl); (case c3 => exact rfl); (case c4 => exact rfl); k_whole; intro g' L' h' tk' cells' FG' F' N' Y' B' X' T' l1; (have lL9 := ltN (Nat.lt_of_lt_of_le (Fr.ns FG').lt (Fr.above F'))); (try k_lt l1); k_cells Y'; (try simp only [List.cons_append, List.nil_append] at N'); (try dsimp only); (try k_lift B'); (try k_fold)))
local macro_rules | `(tactic| k_all) => `(tactic| first | (with_reducible assumption) | (refine' ltAll_neX ?h ?b; (case h => with_reducible assumption); (case b => omega)))
local macro_rules | `(tactic| walk_at "getMethod ref") => `(tactic| (k_here; (with_reducible show wpAny _ _ (getMethod (Value.ref _) (PySem.Str.ofString "get") _) _ _ _); k_dflt (refine' dict_method ?N ?m PySem.F.slot_dict_get PySem.F.type_dict_get ?_; (case N => k_asm); (case m => k_mem))))
local macro_rules | `(tactic| walk_at "call builtin:dict.get") => `(tactic| (k_here; (with_reducible show wpAny _ _ (call (Value.builtin _) [Value.ref _, Value.str _ _, _]) _ _ _); k_dflt (refine' get_led ?N ?m ?d ?s ?v ?_; (case N => k_asm); (case m => k_mem); (case d => with_reducible assumption); (case s => with_reducible assumption); (case v => first | exact getD_some (by with_reducible assumption) | exact getD_none (by with_reducible assumption)); k_whole; intro tk9)))
local macro_rules | `(tactic| walk_at "compareOp Is") => `(tactic| (k_here; (with_reducible show wpAny _ _ (compareOp CmpOp.Is _ (Value.ref _)) _ _ _); k_dflt (refine' is_data (d := _) ?F ?N ?D ?X ?k ?_; (case F => k_asm); (case N => k_asm); (case D => ktd_rel); (case X => k_asm); (case k => k_is); k_whole)))
local macro_rules | `(tactic| walk_at "call ref") => `(tactic| (k_here; (with_reducible show wpAny _ _ (call (Value.ref 553) _) _ _ _); k_dflt (refine' use_call (gfd_some _ _ _ _ _ _ _ _ _ _ _ ?a9 ?b9 ?c9 ?d9 ?e9 ?f9) ?B ?F ?X ?N ?T ?hf ?hk ?hd ?hu ?hG ?_; (case B => k_asm); (case F => k_asm); (case X => k_asm); (case N => k_asm); (case T => k_asm); (case hf => first | exact rfl | assumption); (case hk => first | exact rfl | assumption); (case hG => assumption); (case a9 => (refine' DatAt.mono ?sZ ?hZ; (case hZ => with_reducible assumption); (case sZ => ktd_sub))); (case c9 => with_reducible assumption); (case b9 => k_mem); (case d9 => with_reducible assumption); (case e9 => with_reducible assumption); (case f9 => ktd_rel); (case hd => k_room); (case hu => k_units); k_whole; intro r9 nw9 h9 tk9 g9 p9 hG9 F9 N9; obtain ⟨own9, x9, q9, p9, dat9, fr9⟩ := p9; subst q9; subst p9; (try dsimp only); (try k_fold))))
local macro_rules | `(tactic| walk_at "call ref") => `(tactic| (k_here; (with_reducible show wpAny _ _ (call (Value.ref 553) _) _ _ _); k_dflt (refine' use_call (gfd_none _ _ _ _ _ _ _ _ _ ?a9 ?b9 ?c9 ?d9 ?e9) ?B ?F ?X ?N ?T ?hf ?hk ?hd ?hu ?hG ?_; (case B => k_asm); (case F => k_asm); (case X => k_asm); (case N => k_asm); (case T => k_asm); (case hf => first | exact rfl | assumption); (case hk => first | exact rfl | assumption); (case hG => assumption); (case a9 => (refine' DatAt.mono ?sZ ?hZ; (case hZ => with_reducible assumption); (case sZ => ktd_sub))); (case c9 => with_reducible assumption); (case b9 => k_mem); (case d9 => with_reducible assumption); (case e9 => with_reducible assumption); (case hd => k_room); (case hu => k_units); k_whole; intro r9 nw9 h9 tk9 g9 p9 hG9 F9 N9; obtain ⟨q9, p9⟩ := p9; subst q9; subst p9; (try dsimp only); (try k_fold))))
local macro_rules | `(tactic| walk_at "getMethod ref") => `(tactic| (k_here; (with_reducible show wpAny _ _ (getMethod (Value.ref _) (PySem.Str.ofString "get_field_datum") _) _ _ _); k_dflt (refine' kmu_sm ?k1 ?k2 ?k4 ?k5 ?k6 ?k7 ?k8 ?k9 ?k10 ?k11 ?k12 ?k13 ?k14 ?_; (case k1 => k_asm); (case k2 => k_asm); (case k4 => k_inst); (case k5 => k_is); (case k6 => k_is); (case k7 => k_is); (case k8 => k_is); (case k9 => k_is); (case k10 => k_is); (case k11 => decide +kernel); (case k12 => k_get); (case k13 => k_is); (case k14 => k_handed); k_whole)))
set_option maxRecDepth 100000 in
set_option maxHeartbeats 8000000 in
theorem fields_find_none (w : World) (nw : List (Addr × Obj)) (f a th : Addr) (es : List DictEntry) (n : Nat) (kvs : List (Str × Value)) (key : Str) (hf : FldAt w nw f key) (ha : DatAt w nw a (.ref th)) (hth : (th, dictObj es n) ∈ nw) (hdo : (dictObj es n).IsDictOf (PySem.strKind PP w) kvs) (hs : (th == sysModules) = false)
    (hv : valueAt kvs key = none) : CallsTo w 570 [.ref f, .ref a] nw 100 500 (fun r nw' => ∃ own R c, r = .ref R ∧ nw' = nw ++ own ∧ (R, listObj [] c) ∈ own ∧ ∀ p ∈ own, ∀ q ∈ nw, p.1 ≠ q.1) := by
  have ha9 := ha
  obtain ⟨fd, fn, ft1, ft2, ftp, ftk, fnT, hf1, hf2, hf3⟩ := hf
  obtain ⟨ad, an, at1, at2, at3, apv, acv, ha1, ha2⟩ := ha
  intro fl p loose mean mg mb dp un gd env outer A₀ base h₀ L m s Q E HA hG hret
  obtain ⟨B, F, X, N, T, hf, hk, hd, hu⟩ := HA
  refine wpAny_call ?_
  ktr_enter
  rename_i gH LH hH FGH FH NH BH XH TH lxH
  k_steps
  refine src_tuple (by assumption) rfl (by k_asm) (by k_asm) (by k_mem) ?_
  intro hp0
  intro v0 I0 oI0 C0 oC0 D0 m0 h0 tk0 g0 E0 Post0 e0 hC0 hx0 F0 N0 off0 ne0 hG0 hPost0
  obtain rfl : Value.str key ftk = v0 := by simpa using e0
  refine turnL (ys := []) ne0 (by rw [sizeLine_eq]; exact Nat.zero_le _) hPost0 ?_
  k_steps
  rename_i cE hZ tkZ gZ hGZ FZ NZ
  have hTup : (ftp, ({ cls := .type "tuple", data := .seq #[.str key ftk] fnT } : Obj)) ∈ nw := hf3
  refine ⟨_, _, _, oC0, m0, nw, rfl, hGZ, hC0, by k_asm, ?nZ1, LCg.Off3.of fun p hp => LCg.Off3.mem off0 p (.tail _ (.tail _ (.tail _ (.tail _ hp)))), hTup, ?_⟩
  case nZ1 =>
    refine news_sub NZ fun p hp => ?_
    simp only [List.mem_cons, List.mem_append] at hp ⊢
    rcases hp with hp | hp | hp | hp <;> simp [hp]
  dsimp only [List.nil_append]
  intro D1 h1 tk1 g1 hG1 F1 N1 off1 ltD1
  k_steps
  refine src_list hG1 rfl F1 N1 (.head _) ?_
  intro hp1
  intro v1 I1 oI1 C1 oC1 D2 m1 h2 tk2 g2 E2 Post2 e2 hC2 hx2 F2 N2 off2 ne2 hG2 hPost2
  obtain rfl : Value.none = v1 := by simpa using e2
  refine turnLT (ys := []) ne2 (by rw [sizeLine_eq]; exact Nat.zero_le _) hPost2 ?_
  k_steps
  refine ⟨_, _, _, oC1, m1, _, _, rfl, by assumption, hC2, by k_asm, by k_asm, off2, .head _, ?_⟩
  intro D3 h3 tk3 g3 hG3 F3 N3 off3 ltD3
  k_steps
  refine hret _ _ _ _ _ ⟨[(D3, LCg.lst [])], D3, _, rfl, rfl, .head _, ?fZ⟩ (by assumption) (by k_asm) (news_sub (by k_asm) ?sZ)
  case fZ =>
    have lt0 : ∀ q ∈ nw, @LT.lt Nat _ q.1 D3 := allLt_trans (by with_reducible assumption) ltD3
    intro p hp q hq
    rw [List.mem_singleton.mp hp]
    exact Nat.ne_of_gt (lt0 q hq)
  case sZ =>
    intro p hp
    simp only [List.mem_cons, List.mem_append] at hp ⊢
    rcases hp with hp | hp <;> simp_all

end Mine

end

section
open PySem PySem.W PyProof.Rows
set_option linter.unusedVariables false
namespace Mine
local macro_rules | `(tactic| walk_at "zz") => `(tactic| fail)
local macro_rules | `(tactic| walk_at "zz") => `(tactic| fail)
local macro_rules | `(tactic| walk_at "zz") => `(tactic| fail)
local macro_rules | `(tactic| walk_at "zz") => `(tactic| fail)
local macro_rules | `(tactic| walk_at "zz") => `(tactic| fail)
local macro_rules | `(tactic| walk_at "zz") => `(tactic| fail)
local macro_rules | `(tactic| walk_at "zz") => `(tactic| fail)
local macro_rules | `(tactic| walk_at "zz") => `(tactic| fail)
local macro_rules | `(tactic| walk_at "zz") => `(tactic| fail)
local macro_rules | `(tactic| walk_at "zz") => `(tactic| fail)
local macro_rules | `(tactic| walk_at "zz") => `(tactic| fail)
local macro_rules | `(tactic| walk_at "zz") => `(tactic| fail)
local macro_rules | `(tactic| walk_at "zz") => `(tactic| fail)
local macro_rules | `(tactic| walk_at "zz") => `(tactic| fail)
local macro_rules | `(tactic| walk_at "zz") => `(tactic| fail)
local macro_rules | `(tactic| walk_at "zz") => `(tactic| fail)
local macro_rules | `(tactic| walk_at "zz") => `(tactic| fail)
local macro_rules | `(tactic| walk_at "zz") => `(tactic| fail)
local macro_rules | `(tactic| walk_at "zz") => `(tactic| fail)
local macro_rules | `(tactic| walk_at "zz") => `(tactic| fail)
local macro_rules | `(tactic| walk_at "zz") => `(tactic| fail)
local macro_rules | `(tactic| walk_at "zz") => `(tactic| fail)
local macro_rules | `(tactic| walk_at "zz") => `(tactic| fail)
theorem rstFW : True := by
  w_top off
  trivial
local macro_rules | `(tactic| k_mem) => `(tactic| assumption)
local macro_rules | `(tactic| k_all) => `(tactic| with_reducible assumption)
local macro_rules | `(tactic| ktr_enter) => `(tactic| (k_dflt (refine' code_def ?k1 ?k2 ?k3 ?k4 ?k5 ?kA ?kF ?kK ?k6 ?k7 ?k8 ?k9 ?kB ?_ ?c2 ?c3 ?c4 ?c5; (case kA => exact rfl); (case kF => first | exact rfl | assumption); (case kK => first | exact rfl | assumption); (case k1 => k_asm); (case k2 => k_asm); (case k3 => k_asm); (case k4 => k_asm); (case k5 => k_asm); (case k6 => k_is); (case k7 => k_is); (case k8 => ((try dsimp only [topA]); omega)); (case k9 => exact BindsTo.of_eq rfl); (case c5 => decide); (case kB => exact locs rfl); (case c2 => exact rfl); (case c3 => exact rfl); (case c4 => exact rfl); k_whole; intro g' L' h' FG' F' N' B' X' T'; (try dsimp only); (try k_fold))))
local macro_rules | `(tactic| ktd_sub) => `(tactic| (intro p9 hp9; repeat (first | exact hp9 | refine List.mem_cons_of_mem _ ?_)))
local macro_rules | `(tactic| ktd_rel) => `(tactic| first | assumption | (refine' DIn.mono ?hs ?hh; (case hh => assumption); (case hs => ktd_sub)) | (refine' DsIn.mono ?hs ?hh; (case hh => assumption); (case hs => ktd_sub)) | (refine' KsIn.mono ?hs ?hh; (case hh => assumption); (case hs => ktd_sub)))
local macro_rules | `(tactic| ktr_room) => `(tactic| (simp only [depth_deeper, depth_in1, topA] at *; omega))
local macro_rules | `(tactic| ktr_units) => `(tactic| (simp only [units_deeper, units_in1, topA] at *; omega))
local macro_rules | `(tactic| ktr_unf) => `(tactic| (k_dflt (refine' code_defC ?k1 ?k2 ?k3 ?k4 ?k5 ?kA ?kF ?kK ?k6 ?k7 ?k8 ?k9 ?kB ?kD ?_ ?c2 ?c3 ?c4; (case kA => exact rfl); (case kF => first | exact rfl | assumption); (case kK => first | exact rfl | assumption); (case k1 => k_asm); (case k2 => k_asm); (case k3 => k_asm); (case k4 => k_asm); (case k5 => k_asm); (case k6 => k_is); (case k7 => k_is); (case k8 => ((try dsimp only [topA]); omega)); (case k9 => exact BindsTo.of_eq rfl); (case kB => exact rfl); (case kD => decide +kernel); (case c2 => exact rfl); (case c3 => exact rfl); (case c4 => exact rfl); k_whole; intro g' L' h' tk' cells' FG' F' N' Y' B' X' T' l1; (try k_lt l1); k_cells Y'; (try simp only [List.cons_append, List.nil_append] at N'); (try dsimp only); (try k_fold))))
local macro_rules | `(tactic| walk_at "call ref") => `(tactic| (k_here; (with_reducible show wpAny _ _ (call (Value.ref 956) _) _ _ _); k_dflt (refine' use_call (kind_call _ _ _ _ ?hD) ?B ?F ?X ?N ?T ?hf ?hk ?hd ?hu ?hG ?_; (case B => k_asm); (case F => k_asm); (case X => k_asm); (case N => k_asm); (case T => k_asm); (case hf => first | exact rfl | assumption); (case hk => first | exact rfl | assumption); (case hG => assumption); (case hD => ktd_rel); (case hd => ktr_room); (case hu => ktr_units); k_whole; intro r9 nw9 h9 tk9 g9 p9 hG9 F9 N9; obtain ⟨p9, q9⟩ := p9; obtain ⟨t9, p9⟩ := p9; replace q9 := Eq.symm q9; subst q9; subst p9; (try dsimp only); (try k_fold))))
local macro_rules | `(tactic| walk_at "eval ListComp") => `(tactic| (k_here; k_dflt (refine ListComp_G (by k_asm) (by assumption) (by with_unfolding_all rfl) (by decide) (by rfl) (by decide) (by rfl) ?_)))
local macro_rules | `(tactic| walk_at "eval DictComp") => `(tactic| (k_here; k_dflt (refine DictComp_G (by k_asm) (by assumption) (by with_unfolding_all rfl) (by decide) (by rfl) (by decide) (by rfl) ?_)))
local macro_rules | `(tactic| walk_at "exec Assign cons ListComp") => `(tactic| (k_here; k_dflt (refine Assign_ListComp_G (by k_asm) (by assumption) (by rfl) (by with_unfolding_all rfl) (by with_unfolding_all rfl) (by decide) (by rfl) (by decide) (by rfl) (by rfl) (by rfl) ?_)))
local macro_rules | `(tactic| walk_at "exec Assign cons DictComp") => `(tactic| (k_here; k_dflt (refine Assign_DictComp_G (by k_asm) (by assumption) (by rfl) (by with_unfolding_all rfl) (by with_unfolding_all rfl) (by decide) (by rfl) (by decide) (by rfl) (by rfl) (by rfl) ?_)))
local macro_rules | `(tactic| k_room) => `(tactic| ((try simp only [depth_mark, depth_under_make, depth_under_kw, depth_in1, depth_deeper, depth_caller, topA]); omega))
local macro_rules | `(tactic| k_units) => `(tactic| ((try simp only [units_deeper, units_in1, topA]); omega))
local macro_rules | `(tactic| k_mem) => `(tactic| first | assumption | exact List.Mem.head _ | (refine' List.Mem.tail _ ?_; k_mem))
local macro_rules | `(tactic| ktr_enter) => `(tactic| (k_dflt (refine' code_defL ?k1 ?k2 ?k3 ?k4 ?k5 ?kA ?kF ?kK ?k6 ?k7 ?k8 ?k9 ?kB ?_ ?c2 ?c3 ?c4 ?c5; (case kA => exact rfl); (case kF => first | exact rfl | assumption); (case kK => first | exact rfl | assumption); (case k1 => k_asm); (case k2 => k_asm); (case k3 => k_asm); (case k4 => k_asm); (case k5 => k_asm); (case k6 => k_is); (case k7 => k_is); (case k8 => ((try dsimp only [topA]); omega)); (case k9 => exact BindsTo.of_eq rfl); (case c5 => decide); (case kB => exact locs rfl); (case c2 => exact rfl); (case c3 => exact rfl); (case c4 => exact rfl); k_whole; intro g' L' h' FG' F' N' B' X' T' lx9; (try dsimp only); (try k_fold))))
local macro_rules | `(tactic| k_enter) => `(tactic| first | (refine' code_def ?k1 ?k2 ?k3 ?k4 ?k5 ?kA ?kF ?kK ?k6 ?k7 ?k8 ?k9 ?kB ?_ ?c2 ?c3 ?c4 ?c5; (case kA => exact rfl); (case kF => exact rfl); (case kK => exact rfl); (case k1 => k_asm); (case k2 => k_asm); (case k3 => k_asm); (case k4 => k_asm); (case k5 => k_asm); (case k6 => k_is); (case k7 => k_is); (case k8 => k_room); (case k9 => first | exact BindsTo.of_eq rfl | exact binds_K (by k_in) rfl (by k_is) rfl rfl rfl | fail "k_enter: no rule for these arguments"); (case c5 => decide); (case kB => exact locs rfl); (case c2 => exact rfl); (case c3 => exact rfl); (case c4 => exact rfl); k_whole; intro g' L' h' FG' F' N' B' X' T'; (have lL9 := ltN (Nat.lt_of_lt_of_le (Fr.ns FG').lt (Fr.above F'))); (try dsimp only); (try k_lift B'); (try k_fold)) | (refine' code_defC ?k1 ?k2 ?k3 ?k4 ?k5 ?kA ?kF ?kK ?k6 ?k7 ?k8 ?k9 ?kB ?kD ?_ ?c2 ?c3 ?c4; (case kA => exact rfl); (case kF => exact rfl); (case kK => exact rfl); (case k1 => k_asm); (case k2 => k_asm); (case k3 => k_asm); (case k4 => k_asm); (case k5 => k_asm); (case k6 => k_is); (case k7 => k_is); (case k8 => k_room); (case k9 => first | exact BindsTo.of_eq rfl | exact binds_K (by k_in) rfl (by k_is) rfl rfl rfl | fail "k_enter: no rule for these arguments"); (case kB => exact rfl); (case kD => decide +kernel); (case c2 => exact rfl); (case c3 => exact rfl); (case c4 => exact rfl); k_whole; intro g' L' h' tk' cells' FG' F' N' Y' B' X' T' l1; (have lL9 := ltN (Nat.lt_of_lt_of_le (Fr.ns FG').lt (Fr.above F'))); (try k_lt l1); k_cells Y'; (try simp only [List.cons_append, List.nil_append] at N'); (try dsimp only); (try k_lift B'); (try k_fold)))
local macro_rules | `(tactic| k_all) => `(tactic| first | (with_reducible assumption) | (refine' ltAll_neX ?h ?b; (case h => with_reducible assumption); (case b => omega)))
local macro_rules | `(tactic| walk_at "getMethod ref") => `(tactic| (k_here; (with_reducible show wpAny _ _ (getMethod (Value.ref _) (PySem.Str.ofString "get") _) _ _ _); k_dflt (refine' dict_method ?N ?m PySem.F.slot_dict_get PySem.F.type_dict_get ?_; (case N => k_asm); (case m => k_mem))))
local macro_rules | `(tactic| walk_at "call builtin:dict.get") => `(tactic| (k_here; (with_reducible show wpAny _ _ (call (Value.builtin _) [Value.ref _, Value.str _ _, _]) _ _ _); k_dflt (refine' get_led ?N ?m ?d ?s ?v ?_; (case N => k_asm); (case m => k_mem); (case d => with_reducible assumption); (case s => with_reducible assumption); (case v => first | exact getD_some (by with_reducible assumption) | exact getD_none (by with_reducible assumption)); k_whole; intro tk9)))
local macro_rules | `(tactic| walk_at "compareOp Is") => `(tactic| (k_here; (with_reducible show wpAny _ _ (compareOp CmpOp.Is _ (Value.ref _)) _ _ _); k_dflt (refine' is_data (d := _) ?F ?N ?D ?X ?k ?_; (case F => k_asm); (case N => k_asm); (case D => ktd_rel); (case X => k_asm); (case k => k_is); k_whole)))
local macro_rules | `(tactic| walk_at "eval ListComp") => `(tactic| (k_here; k_dflt (refine ListComp_T (by k_asm) (by assumption) (by with_unfolding_all rfl) (by decide) (by rfl) (by decide) ?_)))
local macro_rules | `(tactic| walk_at "enterC") => `(tactic| (refine' code_defC ?k1 ?k2 ?k3 ?k4 ?k5 ?kA ?kF ?kK ?k6 ?k7 ?k8 ?k9 ?kB ?kD ?_ ?c2 ?c3 ?c4; (case kA => exact rfl); (case kF => first | exact rfl | assumption); (case kK => first | exact rfl | assumption); (case k1 => k_asm); (case k2 => k_asm); (case k3 => k_asm); (case k4 => k_asm); (case k5 => k_asm); (case k6 => k_is); (case k7 => k_is); (case k8 => ((try dsimp only [topA]); omega)); (case k9 => exact BindsTo.of_eq rfl); (case kB => exact rfl); (case kD => decide +kernel); (case c2 => exact rfl); (case c3 => exact rfl); (case c4 => exact rfl); k_whole; intro g' L' h' tk' cells' FG' F' N' Y' B' X' T' l1; (have lL9 := ltN (Nat.lt_of_lt_of_le (Fr.ns FG').lt (Fr.above F'))); (have lZ9 := l1); (try k_lt l1); k_cells Y'; (try simp only [List.cons_append, List.nil_append] at N'); (try dsimp only); (try k_fold)))
local macro_rules | `(tactic| walk_at "call ref") => `(tactic| (k_here; (with_reducible show wpAny _ _ (call (Value.ref 823) _) _ _ _); k_dflt (refine' use_call (array_elems _ _ _ _ _ _ ?a9 ?b9 ?c9) ?B ?F ?X ?N ?T ?hf ?hk ?hd ?hu ?hG ?_; (case B => k_asm); (case F => k_asm); (case X => k_asm); (case N => k_asm); (case T => k_asm); (case hf => first | exact rfl | assumption); (case hk => first | exact rfl | assumption); (case hG => assumption); (case a9 => (refine' DatAt.mono ?sZ ?hZ; (case hZ => with_reducible assumption); (case sZ => ktd_sub))); (case b9 => k_mem); (case c9 => with_reducible assumption); (case hd => k_room); (case hu => k_units); k_whole; intro r9 nw9 h9 tk9 g9 p9 hG9 F9 N9; obtain ⟨own9, R9, xs9, c9, q9, p9, m9, dat9, fr9⟩ := p9; subst q9; subst p9; (try dsimp only); (try k_fold))))
set_option maxRecDepth 100000 in
set_option maxHeartbeats 8000000 in
theorem wild_find (w : World) (nw : List (Addr × Obj)) (f a l : Addr) (vs : List Value) (c : Nat) (ha : DatAt w nw a (.ref l)) (hl : (l, listObj vs c) ∈ nw) (hn : vs.length ≤ 3) :
    CallsTo w 665 [.ref f, .ref a] nw 110 600 (fun r nw' => ∃ own R xs c, r = .ref R ∧ nw' = nw ++ own ∧ (R, listObj (xs.map Value.ref) c) ∈ own ∧ DatsAt w own xs vs ∧ ∀ p ∈ own, ∀ q ∈ nw, p.1 ≠ q.1) := by
  have ha9 := ha
  obtain ⟨ad, an, at1, at2, at3, apv, acv, ha1, ha2⟩ := ha
  intro fl p loose mean mg mb dp un gd env outer A₀ base h₀ L m s Q E HA hG hret
  obtain ⟨B, F, X, N, T, hf, hk, hd, hu⟩ := HA
  refine wpAny_call ?_
  walk_at "enterC"
  k_steps
  rename_i h9 tk9 g9 hG9 F9 own9 R9 xs9 c9 m9 dat9 fr9 N9 kF kN Tc kX
  refine hret _ _ _ _ _ ⟨own9, _, xs9, _, rfl, rfl, m9, dat9, fun p hp q hq => fr9 p hp q (.tail _ (.tail _ (.tail _ hq)))⟩ (by assumption) (by k_asm) (news_sub (by k_asm) ?sZ)
  intro q9 hq9
  simp only [List.cons_append, List.mem_append, List.mem_cons] at hq9 ⊢
  rcases hq9 with e9 | e9 <;> simp only [e9, true_or, or_true]

end Mine

end

section
open PySem PySem.W PyProof.Rows
set_option linter.unusedVariables false
namespace Mine
local macro_rules | `(tactic| walk_at "zz") => `(tactic| fail)
local macro_rules | `(tactic| walk_at "zz") => `(tactic| fail)
local macro_rules | `(tactic| walk_at "zz") => `(tactic| fail)
local macro_rules | `(tactic| walk_at "zz") => `(tactic| fail)
local macro_rules | `(tactic| walk_at "zz") => `(tactic| fail)
local macro_rules | `(tactic| walk_at "zz") => `(tactic| fail)
local macro_rules | `(tactic| walk_at "zz") => `(tactic| fail)
local macro_rules | `(tactic| walk_at "zz") => `(tactic| fail)
local macro_rules | `(tactic| walk_at "zz") => `(tactic| fail)
local macro_rules | `(tactic| walk_at "zz") => `(tactic| fail)
local macro_rules | `(tactic| walk_at "zz") => `(tactic| fail)
local macro_rules | `(tactic| walk_at "zz") => `(tactic| fail)
local macro_rules | `(tactic| walk_at "zz") => `(tactic| fail)
local macro_rules | `(tactic| walk_at "zz") => `(tactic| fail)
local macro_rules | `(tactic| walk_at "zz") => `(tactic| fail)
local macro_rules | `(tactic| walk_at "zz") => `(tactic| fail)
local macro_rules | `(tactic| walk_at "zz") => `(tactic| fail)
local macro_rules | `(tactic| walk_at "zz") => `(tactic| fail)
local macro_rules | `(tactic| walk_at "zz") => `(tactic| fail)
local macro_rules | `(tactic| walk_at "zz") => `(tactic| fail)
local macro_rules | `(tactic| walk_at "zz") => `(tactic| fail)
theorem rstFC : True := by
  w_top off
  trivial
local macro_rules | `(tactic| k_mem) => `(tactic| assumption)
local macro_rules | `(tactic| k_all) => `(tactic| with_reducible assumption)
local macro_rules | `(tactic| ktr_enter) => `(tactic| (k_dflt (refine' code_def ?k1 ?k2 ?k3 ?k4 ?k5 ?kA ?kF ?kK ?k6 ?k7 ?k8 ?k9 ?kB ?_ ?c2 ?c3 ?c4 ?c5; (case kA => exact rfl); (case kF => first | exact rfl | assumption); (case kK => first | exact rfl | assumption); (case k1 => k_asm); (case k2 => k_asm); (case k3 => k_asm); (case k4 => k_asm); (case k5 => k_asm); (case k6 => k_is); (case k7 => k_is); (case k8 => ((try dsimp only [topA]); omega)); (case k9 => exact BindsTo.of_eq rfl); (case c5 => decide); (case kB => exact locs rfl); (case c2 => exact rfl); (case c3 => exact rfl); (case c4 => exact rfl); k_whole; intro g' L' h' FG' F' N' B' X' T'; (try dsimp only); (try k_fold))))
local macro_rules | `(tactic| ktd_sub) => `(tactic| (intro p9 hp9; repeat (first | exact hp9 | refine List.mem_cons_of_mem _ ?_)))
local macro_rules | `(tactic| ktd_rel) => `(tactic| first | assumption | (refine' DIn.mono ?hs ?hh; (case hh => assumption); (case hs => ktd_sub)) | (refine' DsIn.mono ?hs ?hh; (case hh => assumption); (case hs => ktd_sub)) | (refine' KsIn.mono ?hs ?hh; (case hh => assumption); (case hs => ktd_sub)))
local macro_rules | `(tactic| ktr_room) => `(tactic| (simp only [depth_deeper, depth_in1, topA] at *; omega))
local macro_rules | `(tactic| ktr_units) => `(tactic| (simp only [units_deeper, units_in1, topA] at *; omega))
local macro_rules | `(tactic| ktr_unf) => `(tactic| (k_dflt (refine' code_defC ?k1 ?k2 ?k3 ?k4 ?k5 ?kA ?kF ?kK ?k6 ?k7 ?k8 ?k9 ?kB ?kD ?_ ?c2 ?c3 ?c4; (case kA => exact rfl); (case kF => first | exact rfl | assumption); (case kK => first | exact rfl | assumption); (case k1 => k_asm); (case k2 => k_asm); (case k3 => k_asm); (case k4 => k_asm); (case k5 => k_asm); (case k6 => k_is); (case k7 => k_is); (case k8 => ((try dsimp only [topA]); omega)); (case k9 => exact BindsTo.of_eq rfl); (case kB => exact rfl); (case kD => decide +kernel); (case c2 => exact rfl); (case c3 => exact rfl); (case c4 => exact rfl); k_whole; intro g' L' h' tk' cells' FG' F' N' Y' B' X' T' l1; (try k_lt l1); k_cells Y'; (try simp only [List.cons_append, List.nil_append] at N'); (try dsimp only); (try k_fold))))
local macro_rules | `(tactic| walk_at "call ref") => `(tactic| (k_here; (with_reducible show wpAny _ _ (call (Value.ref 956) _) _ _ _); k_dflt (refine' use_call (kind_call _ _ _ _ ?hD) ?B ?F ?X ?N ?T ?hf ?hk ?hd ?hu ?hG ?_; (case B => k_asm); (case F => k_asm); (case X => k_asm); (case N => k_asm); (case T => k_asm); (case hf => first | exact rfl | assumption); (case hk => first | exact rfl | assumption); (case hG => assumption); (case hD => ktd_rel); (case hd => ktr_room); (case hu => ktr_units); k_whole; intro r9 nw9 h9 tk9 g9 p9 hG9 F9 N9; obtain ⟨p9, q9⟩ := p9; obtain ⟨t9, p9⟩ := p9; replace q9 := Eq.symm q9; subst q9; subst p9; (try dsimp only); (try k_fold))))
local macro_rules | `(tactic| walk_at "eval ListComp") => `(tactic| (k_here; k_dflt (refine ListComp_G (by k_asm) (by assumption) (by with_unfolding_all rfl) (by decide) (by rfl) (by decide) (by rfl) ?_)))
local macro_rules | `(tactic| walk_at "eval DictComp") => `(tactic| (k_here; k_dflt (refine DictComp_G (by k_asm) (by assumption) (by with_unfolding_all rfl) (by decide) (by rfl) (by decide) (by rfl) ?_)))
local macro_rules | `(tactic| walk_at "exec Assign cons ListComp") => `(tactic| (k_here; k_dflt (refine Assign_ListComp_G (by k_asm) (by assumption) (by rfl) (by with_unfolding_all rfl) (by with_unfolding_all rfl) (by decide) (by rfl) (by decide) (by rfl) (by rfl) (by rfl) ?_)))
local macro_rules | `(tactic| walk_at "exec Assign cons DictComp") => `(tactic| (k_here; k_dflt (refine Assign_DictComp_G (by k_asm) (by assumption) (by rfl) (by with_unfolding_all rfl) (by with_unfolding_all rfl) (by decide) (by rfl) (by decide) (by rfl) (by rfl) (by rfl) ?_)))
local macro_rules | `(tactic| k_room) => `(tactic| ((try simp only [depth_mark, depth_under_make, depth_under_kw, depth_in1, depth_deeper, depth_caller, topA]); omega))
local macro_rules | `(tactic| k_units) => `(tactic| ((try simp only [units_deeper, units_in1, topA]); omega))
local macro_rules | `(tactic| k_mem) => `(tactic| first | assumption | exact List.Mem.head _ | (refine' List.Mem.tail _ ?_; k_mem))
local macro_rules | `(tactic| ktr_enter) => `(tactic| (k_dflt (refine' code_defL ?k1 ?k2 ?k3 ?k4 ?k5 ?kA ?kF ?kK ?k6 ?k7 ?k8 ?k9 ?kB ?_ ?c2 ?c3 ?c4 ?c5; (case kA => exact rfl); (case kF => first | exact rfl | assumption); (case kK => first | exact rfl | assumption); (case k1 => k_asm); (case k2 => k_asm); (case k3 => k_asm); (case k4 => k_asm); (case k5 => k_asm); (case k6 => k_is); (case k7 => k_is); (case k8 => ((try dsimp only [topA]); omega)); (case k9 => exact BindsTo.of_eq rfl); (case c5 => decide); (case kB => exact locs rfl); (case c2 => exact rfl); (case c3 => exact rfl); (case c4 => exact rfl); k_whole; intro g' L' h' FG' F' N' B' X' T' lx9; (try dsimp only); (try k_fold))))
local macro_rules | `(tactic| k_enter) => `(tactic| first | (refine' code_def ?k1 ?k2 ?k3 ?k4 ?k5 ?kA ?kF ?kK ?k6 ?k7 ?k8 ?k9 ?kB ?_ ?c2 ?c3 ?c4 ?c5; (case kA => exact rfl); (case kF => exact rfl); (case kK => exact rfl); (case k1 => k_asm); (case k2 => k_asm); (case k3 => k_asm); (case k4 => k_asm); (case k5 => k_asm); (case k6 => k_is); (case k7 => k_is); (case k8 => k_room); (case k9 => first | exact BindsTo.of_eq rfl | exact binds_K (by k_in) rfl (by k_is) rfl rfl rfl | fail "k_enter: no rule for these arguments"); (case c5 => decide); (case kB => exact locs rfl); (case c2 => exact rfl); (case c3 => exact rfl); (case c4 => exact rfl); k_whole; intro g' L' h' FG' F' N' B' X' T'; (have lL9 := ltN (Nat.lt_of_lt_of_le (Fr.ns FG').lt (Fr.above F'))); (try dsimp only); (try k_lift B'); (try k_fold)) | (refine' code_defC ?k1 ?k2 ?k3 ?k4 ?k5 ?kA ?kF ?kK ?k6 ?k7 ?k8 ?k9 ?kB ?kD ?_ ?c2 ?c3 ?c4; (case kA => exact rfl); (case kF => exact rfl); (case kK => exact rfl); (case k1 => k_asm); (case k2 => k_asm); (case k3 => k_asm); (case k4 => k_asm); (case k5 => k_asm); (case k6 => k_is); (case k7 => k_is); (case k8 => k_room); (case k9 => first | exact BindsTo.of_eq rfl | exact binds_K (by k_in) rfl (by k_is) rfl rfl rfl | fail "k_enter: no rule for these arguments"); (case kB => exact rfl); (case kD => decide +kernel); (case c2 => exact rfl); (case c3 => exact rfl); (case c4 => exact rfl); k_whole; intro g' L' h' tk' cells' FG' F' N' Y' B' X' T' l1; (have lL9 := ltN (Nat.lt_of_lt_of_le (Fr.ns FG').lt (Fr.above F'))); (try k_lt l1); k_cells Y'; (try simp only [List.cons_append, List.nil_append] at N'); (try dsimp only); (try k_lift B'); (try k_fold)))
local macro_rules | `(tactic| k_all) => `(tactic| first | (with_reducible assumption) | (refine' ltAll_neX ?h ?b; (case h => with_reducible assumption); (case b => omega)))
local macro_rules | `(tactic| walk_at "getMethod ref") => `(tactic| (k_here; (with_reducible show wpAny _ _ (getMethod (Value.ref _) (PySem.Str.ofString "get") _) _ _ _); k_dflt (refine' dict_method ?N ?m PySem.F.slot_dict_get PySem.F.type_dict_get ?_; (case N => k_asm); (case m => k_mem))))
local macro_rules | `(tactic| walk_at "call builtin:dict.get") => `(tactic| (k_here; (with_reducible show wpAny _ _ (call (Value.builtin _) [Value.ref _, Value.str _ _, _]) _ _ _); k_dflt (refine' get_led ?N ?m ?d ?s ?v ?_; (case N => k_asm); (case m => k_mem); (case d => with_reducible assumption); (case s => with_reducible assumption); (case v => first | exact getD_some (by with_reducible assumption) | exact getD_none (by with_reducible assumption)); k_whole; intro tk9)))
local macro_rules | `(tactic| walk_at "compareOp Is") => `(tactic| (k_here; (with_reducible show wpAny _ _ (compareOp CmpOp.Is _ (Value.ref _)) _ _ _); k_dflt (refine' is_data (d := _) ?F ?N ?D ?X ?k ?_; (case F => k_asm); (case N => k_asm); (case D => ktd_rel); (case X => k_asm); (case k => k_is); k_whole)))
local macro_rules | `(tactic| walk_at "eval ListComp") => `(tactic| (k_here; k_dflt (refine ListComp_T (by k_asm) (by assumption) (by with_unfolding_all rfl) (by decide) (by rfl) (by decide) ?_)))
local macro_rules | `(tactic| walk_at "enterC") => `(tactic| (refine' code_defC ?k1 ?k2 ?k3 ?k4 ?k5 ?kA ?kF ?kK ?k6 ?k7 ?k8 ?k9 ?kB ?kD ?_ ?c2 ?c3 ?c4; (case kA => exact rfl); (case kF => first | exact rfl | assumption); (case kK => first | exact rfl | assumption); (case k1 => k_asm); (case k2 => k_asm); (case k3 => k_asm); (case k4 => k_asm); (case k5 => k_asm); (case k6 => k_is); (case k7 => k_is); (case k8 => ((try dsimp only [topA]); omega)); (case k9 => exact BindsTo.of_eq rfl); (case kB => exact rfl); (case kD => decide +kernel); (case c2 => exact rfl); (case c3 => exact rfl); (case c4 => exact rfl); k_whole; intro g' L' h' tk' cells' FG' F' N' Y' B' X' T' l1; (have lL9 := ltN (Nat.lt_of_lt_of_le (Fr.ns FG').lt (Fr.above F'))); (have lZ9 := l1); (try k_lt l1); k_cells Y'; (try simp only [List.cons_append, List.nil_append] at N'); (try dsimp only); (try k_fold)))
local macro_rules | `(tactic| walk_at "eval ListComp") => `(tactic| (k_here; k_dflt (refine ListComp_2 (by k_asm) (by assumption) (by with_unfolding_all rfl) (by decide) (by rfl) (by decide) (by rfl) ?_)))
local macro_rules | `(tactic| walk_at "call ref") => `(tactic| (k_here; (with_reducible show wpAny _ _ (call (Value.ref 570) _) _ _ _); k_dflt (refine' use_call (fields_find_some _ _ _ _ _ _ _ _ _ _ _ ?e9 ?a9 ?b9 ?c9 ?d9 ?f9 ?g9) ?B ?F ?X ?N ?T ?hf ?hk ?hd ?hu ?hG ?_; (case B => k_asm); (case F => k_asm); (case X => k_asm); (case N => k_asm); (case T => k_asm); (case hf => first | exact rfl | assumption); (case hk => first | exact rfl | assumption); (case hG => assumption); (case e9 => (refine' FldAt.mono ?sZ ?hZ; (case hZ => with_reducible assumption); (case sZ => ktd_sub))); (case a9 => (refine' DatAt.mono ?sZ ?hZ; (case hZ => with_reducible assumption); (case sZ => ktd_sub))); (case c9 => with_reducible assumption); (case b9 => k_mem); (case d9 => with_reducible assumption); (case f9 => with_reducible assumption); (case g9 => ktd_rel); (case hd => k_room); (case hu => k_units); k_whole; intro r9 nw9 h9 tk9 g9 p9 hG9 F9 N9; obtain ⟨own9, R9, x9, c9, q9, p9, m9, dat9, fr9⟩ := p9; subst q9; subst p9; (try dsimp only); (try k_fold))))
local macro_rules | `(tactic| walk_at "call ref") => `(tactic| (k_here; (with_reducible show wpAny _ _ (call (Value.ref 570) _) _ _ _); k_dflt (refine' use_call (fields_find_none _ _ _ _ _ _ _ _ _ ?e9 ?a9 ?b9 ?c9 ?d9 ?f9) ?B ?F ?X ?N ?T ?hf ?hk ?hd ?hu ?hG ?_; (case B => k_asm); (case F => k_asm); (case X => k_asm); (case N => k_asm); (case T => k_asm); (case hf => first | exact rfl | assumption); (case hk => first | exact rfl | assumption); (case hG => assumption); (case e9 => (refine' FldAt.mono ?sZ ?hZ; (case hZ => with_reducible assumption); (case sZ => ktd_sub))); (case a9 => (refine' DatAt.mono ?sZ ?hZ; (case hZ => with_reducible assumption); (case sZ => ktd_sub))); (case c9 => with_reducible assumption); (case b9 => k_mem); (case d9 => with_reducible assumption); (case f9 => with_reducible assumption); (case hd => k_room); (case hu => k_units); k_whole; intro r9 nw9 h9 tk9 g9 p9 hG9 F9 N9; obtain ⟨own9, R9, c9, q9, p9, m9, fr9⟩ := p9; subst q9; subst p9; (try dsimp only); (try k_fold))))
local macro_rules | `(tactic| walk_at "call ref") => `(tactic| (k_here; (with_reducible show wpAny _ _ (call (Value.ref 665) _) _ _ _); k_dflt (refine' use_call (wild_find _ _ _ _ _ _ _ ?a9 ?b9 ?c9) ?B ?F ?X ?N ?T ?hf ?hk ?hd ?hu ?hG ?_; (case B => k_asm); (case F => k_asm); (case X => k_asm); (case N => k_asm); (case T => k_asm); (case hf => first | exact rfl | assumption); (case hk => first | exact rfl | assumption); (case hG => assumption); (case a9 => (refine' DatAt.mono ?sZ ?hZ; (case hZ => with_reducible assumption); (case sZ => ktd_sub))); (case b9 => k_mem); (case c9 => with_reducible assumption); (case hd => k_room); (case hu => k_units); k_whole; intro r9 nw9 h9 tk9 g9 p9 hG9 F9 N9; obtain ⟨own9, R9, xs9, c9, q9, p9, m9, dat9, fr9⟩ := p9; subst q9; subst p9; (try dsimp only); (try k_fold))))
/-- the ledger bears Child(Fields(key), Wildcard()) -/
def ChdAt (w : World) (nw : List (Addr × Obj)) (ch : Addr) (key : Str) : Prop :=
  ∃ cd n t1 t2 f wc wd wn, (ch, instObj 430 cd) ∈ nw ∧ (cd, dictOf [ent w "left" t1 (.ref f), ent w "right" t2 (.ref wc)] n) ∈ nw ∧ FldAt w nw f key ∧ (wc, instObj 717 wd) ∈ nw ∧ (wd, dictOf [] wn) ∈ nw
theorem ChdAt.mono {w : World} {nw nw' : List (Addr × Obj)} {f : Addr} {key : Str} (hs : ∀ p ∈ nw, p ∈ nw') (h : ChdAt w nw f key) : ChdAt w nw' f key := by
  obtain ⟨d, n, t1, t2, tp, tk, wd, wn, h1, h2, h3, h4, h5⟩ := h
  exact ⟨d, n, t1, t2, tp, tk, wd, wn, hs _ h1, hs _ h2, h3.mono hs, hs _ h4, hs _ h5⟩
set_option maxRecDepth 100000 in
set_option maxHeartbeats 8000000 in
theorem child_find_some (w : World) (nw : List (Addr × Obj)) (ch a th : Addr) (es : List DictEntry) (n : Nat) (kvs : List (Str × Value)) (key : Str) (l : Addr) (vs : List Value) (c : Nat) (d : D) (hc : ChdAt w nw ch key) (ha : DatAt w nw a (.ref th)) (hth : (th, dictObj es n) ∈ nw) (hdo : (dictObj es n).IsDictOf (PySem.strKind PP w) kvs) (hs : (th == sysModules) = false)
    (hv : valueAt kvs key = some (.ref l)) (hl : (l, listObj vs c) ∈ nw) (hD : DIn w nw d (.ref l)) (hn : vs.length ≤ 3) :
    CallsTo w 357 [.ref ch, .ref a] nw 150 1200 (fun r nw' => ∃ own R xs c, r = .ref R ∧ nw' = nw ++ own ∧ (R, listObj (xs.map Value.ref) c) ∈ own ∧ DatsAt w own xs vs ∧ ∀ p ∈ own, ∀ q ∈ nw, p.1 ≠ q.1) := by
  have hc9 := hc
  have ha9 := ha
  obtain ⟨cd, cn, ct1, ct2, f, wc, wd, wn, hc1, hc2, hc3, hc4, hc5⟩ := hc
  obtain ⟨fd, fn, ft1, ft2, ftp, ftk, fnT, hf1, hf2, hf3⟩ := id hc3
  obtain ⟨ad, an, at1, at2, at3, apv, acv, ha1, ha2⟩ := ha
  intro fl p loose mean mg mb dp un gd env outer A₀ base h₀ L m s Q E HA hG hret
  obtain ⟨B, F, X, N, T, hf, hk, hd, hu⟩ := HA
  refine wpAny_call ?_
  walk_at "enterC"
  k_steps
  rename_i LK9 hK9 tkK9 FGK9 FK9 BK9 XK9 TK9 l1K9 lLK9 lZ9 oK9 d1K NK9 h9 tk9 g9 hG9 F9 own9 R9 x9 c9 m9 dat9 fr9 N9
  obtain ⟨nw2, enw2⟩ : ∃ x, x = nw ++ own9 := ⟨_, rfl⟩
  have sub2 : ∀ q ∈ nw, q ∈ nw2 := fun q hq => by rw [enw2]; exact List.mem_append_left _ hq
  rw [List.cons_append, ← enw2] at N9
  have hc1' := sub2 _ hc1
  have hc2' := sub2 _ hc2
  have hc4' := sub2 _ hc4
  have hc5' := sub2 _ hc5
  have hl' := sub2 _ hl
  have dat9' : DatAt w nw2 x9 (Value.ref l) := dat9.mono fun q hq => by rw [enw2]; exact List.mem_append_right _ hq
  have m9' : (R9, listObj [Value.ref x9] c9) ∈ nw2 := by rw [enw2]; exact List.mem_append_right _ m9
  obtain ⟨xd, xn, xt1, xt2, xt3, xpv, xcv, hx1, hx2⟩ := id dat9'
  refine src_list hG9 rfl F9 N9 (List.mem_cons_of_mem _ m9') ?_
  intro hp0
  intro v0 I0 oI0 C0 oC0 D0 m0 h0 tk0 g0 E0 Post0 e0 hC0 hx0 F0 N0 off0 ne0 hG0 hPost0
  obtain rfl : Value.ref x9 = v0 := by simpa using e0
  refine turn2 (ys := []) rfl ne0 rfl rfl (by decide) hPost0 ?_
  k_steps
  rename_i h8 tk8 g8 hG8 F8 own8 R8 xs8 c8 m8 dat8 fr8 N8
  have len8 : (List.map Value.ref xs8).length ≤ 3 := by rw [List.length_map, dat8.length]; exact hn
  refine ⟨h8, tk8, g8, oC0, m0, (LK9 + 1, oK9) :: (nw2 ++ own8), R8, List.map Value.ref xs8, c8, rfl, rfl, hG8, hC0, F8, N8, LCg.Off3.of fun p hp => ?oZ, List.mem_cons_of_mem _ (List.mem_append_left _ m9'), List.mem_cons_of_mem _ (List.mem_append_right _ m8), ?lenZ, ?_⟩
  case oZ =>
    rcases List.mem_cons.mp hp with rfl | hp
    · exact LCg.Off3.mem off0 _ (.head _)
    · rcases List.mem_append.mp hp with hp | hp
      · exact LCg.Off3.mem off0 _ (.tail _ hp)
      · exact ⟨fr8 p hp _ (.head _), fr8 p hp _ (.tail _ (.head _)), fr8 p hp _ (.tail _ (.tail _ (.head _)))⟩
  case lenZ =>
    rw [sizeLine_eq, List.nil_append]
    exact Nat.le_trans len8 (by decide)
  rw [List.nil_append]
  intro D1 h1 tk1 g1 hG1 F1 N1 off1 ltD1
  k_steps
  refine hret _ _ _ _ _ ⟨(D1, LCg.lst (List.map Value.ref xs8)) :: (own9 ++ own8), D1, xs8, _, rfl, rfl, .head _, dat8.mono (fun _ h => .tail _ (List.mem_append_right _ h)), ?fZ⟩ (by assumption) (by k_asm) (news_sub (by k_asm) ?sZ)
  case fZ =>
    have lt0 : ∀ q ∈ nw, @LT.lt Nat _ q.1 D1 := allLt_trans lZ9 ltD1
    intro p hp q hq
    rcases List.mem_cons.mp hp with rfl | hp
    · exact Nat.ne_of_gt (lt0 q hq)
    · rcases List.mem_append.mp hp with hp | hp
      · exact fr9 p hp q (.tail _ hq)
      · exact fr8 p hp q (.tail _ (.tail _ (.tail _ (.tail _ (sub2 q hq)))))
  case sZ =>
    intro p hp
    rw [enw2]
    simp only [List.mem_cons, List.mem_append] at hp ⊢
    rcases hp with hp | hp | hp | hp <;> simp [hp]

end Mine

end

section
open PySem PySem.W PyProof.Rows
set_option linter.unusedVariables false
namespace Mine
local macro_rules | `(tactic| walk_at "zz") => `(tactic| fail)
local macro_rules | `(tactic| walk_at "zz") => `(tactic| fail)
local macro_rules | `(tactic| walk_at "zz") => `(tactic| fail)
local macro_rules | `(tactic| walk_at "zz") => `(tactic| fail)
local macro_rules | `(tactic| walk_at "zz") => `(tactic| fail)
local macro_rules | `(tactic| walk_at "zz") => `(tactic| fail)
local macro_rules | `(tactic| walk_at "zz") => `(tactic| fail)
local macro_rules | `(tactic| walk_at "zz") => `(tactic| fail)
local macro_rules | `(tactic| walk_at "zz") => `(tactic| fail)
local macro_rules | `(tactic| walk_at "zz") => `(tactic| fail)
local macro_rules | `(tactic| walk_at "zz") => `(tactic| fail)
local macro_rules | `(tactic| walk_at "zz") => `(tactic| fail)
local macro_rules | `(tactic| walk_at "zz") => `(tactic| fail)
local macro_rules | `(tactic| walk_at "zz") => `(tactic| fail)
local macro_rules | `(tactic| walk_at "zz") => `(tactic| fail)
local macro_rules | `(tactic| walk_at "zz") => `(tactic| fail)
local macro_rules | `(tactic| walk_at "zz") => `(tactic| fail)
local macro_rules | `(tactic| walk_at "zz") => `(tactic| fail)
local macro_rules | `(tactic| walk_at "zz") => `(tactic| fail)
local macro_rules | `(tactic| walk_at "zz") => `(tactic| fail)
local macro_rules | `(tactic| walk_at "zz") => `(tactic| fail)
local macro_rules | `(tactic| walk_at "zz") => `(tactic| fail)
local macro_rules | `(tactic| walk_at "zz") => `(tactic| fail)
local macro_rules | `(tactic| walk_at "zz") => `(tactic| fail)
local macro_rules | `(tactic| walk_at "zz") => `(tactic| fail)
local macro_rules | `(tactic| walk_at "zz") => `(tactic| fail)
local macro_rules | `(tactic| walk_at "zz") => `(tactic| fail)
local macro_rules | `(tactic| walk_at "zz") => `(tactic| fail)
local macro_rules | `(tactic| walk_at "zz") => `(tactic| fail)
local macro_rules | `(tactic| walk_at "zz") => `(tactic| fail)
local macro_rules | `(tactic| walk_at "zz") => `(tactic| fail)
local macro_rules | `(tactic| walk_at "zz") => `(tactic| fail)
local macro_rules | `(tactic| walk_at "zz") => `(tactic| fail)
local macro_rules | `(tactic| walk_at "zz") => `(tactic| fail)
local macro_rules | `(tactic| walk_at "zz") => `(tactic| fail)
local macro_rules | `(tactic| walk_at "zz") => `(tactic| fail)
theorem rstFL : True := by
  w_top off
  trivial
local macro_rules | `(tactic| k_mem) => `(tactic| assumption)
local macro_rules | `(tactic| k_all) => `(tactic| with_reducible assumption)
local macro_rules | `(tactic| ktr_enter) => `(tactic| (k_dflt (refine' code_def ?k1 ?k2 ?k3 ?k4 ?k5 ?kA ?kF ?kK ?k6 ?k7 ?k8 ?k9 ?kB ?_ ?c2 ?c3 ?c4 ?c5; (case kA => exact rfl); (case kF => first | exact rfl | assumption); (case kK => first | exact rfl | assumption); (case k1 => k_asm); (case k2 => k_asm); (case k3 => k_asm); (case k4 => k_asm); (case k5 => k_asm); (case k6 => k_is); (case k7 => k_is); (case k8 => ((try dsimp only [topA]); omega)); (case k9 => exact BindsTo.of_eq rfl); (case c5 => decide); (case kB => exact locs rfl); (case c2 => exact rfl); (case c3 => exact rfl); (case c4 => exact rfl); k_whole; intro g' L' h' FG' F' N' B' X' T'; (try dsimp only); (try k_fold))))
local macro_rules | `(tactic| ktd_sub) => `(tactic| (intro p9 hp9; repeat (first | exact hp9 | refine List.mem_cons_of_mem _ ?_)))
local macro_rules | `(tactic| ktd_rel) => `(tactic| first | assumption | (refine' DIn.mono ?hs ?hh; (case hh => assumption); (case hs => ktd_sub)) | (refine' DsIn.mono ?hs ?hh; (case hh => assumption); (case hs => ktd_sub)) | (refine' KsIn.mono ?hs ?hh; (case hh => assumption); (case hs => ktd_sub)))
local macro_rules | `(tactic| ktr_room) => `(tactic| (simp only [depth_deeper, depth_in1, topA] at *; omega))
local macro_rules | `(tactic| ktr_units) => `(tactic| (simp only [units_deeper, units_in1, topA] at *; omega))
local macro_rules | `(tactic| ktr_unf) => `(tactic| (k_dflt (refine' code_defC ?k1 ?k2 ?k3 ?k4 ?k5 ?kA ?kF ?kK ?k6 ?k7 ?k8 ?k9 ?kB ?kD ?_ ?c2 ?c3 ?c4; (case kA => exact rfl); (case kF => first | exact rfl | assumption); (case kK => first | exact rfl | assumption); (case k1 => k_asm); (case k2 => k_asm); (case k3 => k_asm); (case k4 => k_asm); (case k5 => k_asm); (case k6 => k_is); (case k7 => k_is); (case k8 => ((try dsimp only [topA]); omega)); (case k9 => exact BindsTo.of_eq rfl); (case kB => exact rfl); (case kD => decide +kernel); (case c2 => exact rfl); (case c3 => exact rfl); (case c4 => exact rfl); k_whole; intro g' L' h' tk' cells' FG' F' N' Y' B' X' T' l1; (try k_lt l1); k_cells Y'; (try simp only [List.cons_append, List.nil_append] at N'); (try dsimp only); (try k_fold))))
theorem fields_find (w : World) (nw : List (Addr × Obj)) (f a th : Addr) (es : List DictEntry) (n : Nat) (kvs : List (Str × Value)) (key : Str) (vs : List Value) (hf : FldAt w nw f key) (ha : DatAt w nw a (.ref th)) (hth : (th, dictObj es n) ∈ nw) (hdo : (dictObj es n).IsDictOf (PySem.strKind PP w) kvs) (hs : (th == sysModules) = false)
    (hvs : vs = (valueAt kvs key).toList) (hD : ∀ v ∈ vs, ∃ d, DIn w nw d v) : CallsTo w 570 [.ref f, .ref a] nw 100 500 (fun r nw' => ∃ own R xs c, r = .ref R ∧ nw' = nw ++ own ∧ (R, listObj (xs.map Value.ref) c) ∈ own ∧ DatsAt w own xs vs ∧ ∀ p ∈ own, ∀ q ∈ nw, p.1 ≠ q.1) := by
  subst hvs
  cases hv : valueAt kvs key with
  | none =>
    intro fl p loose mean mg mb dp un gd env outer A₀ base h₀ L m s Q E HA hG hret
    refine fields_find_none w nw f a th es n kvs key hf ha hth hdo hs hv fl p loose mean mg mb dp un gd env outer A₀ base h₀ L m s Q E HA hG fun r nw' h' tk' g' hp => hret r nw' h' tk' g' ?_
    obtain ⟨own, R, c, e1, e2, hm, fr⟩ := hp
    exact ⟨own, R, [], c, e1, e2, hm, trivial, fr⟩
  | some v =>
    obtain ⟨d, hd⟩ := hD v (by rw [hv]; simp)
    intro fl p loose mean mg mb dp un gd env outer A₀ base h₀ L m s Q E HA hG hret
    refine fields_find_some w nw f a th es n kvs key v d hf ha hth hdo hs hv hd fl p loose mean mg mb dp un gd env outer A₀ base h₀ L m s Q E HA hG fun r nw' h' tk' g' hp => hret r nw' h' tk' g' ?_
    obtain ⟨own, R, x, c, e1, e2, hm, dd, fr⟩ := hp
    exact ⟨own, R, [x], c, e1, e2, hm, ⟨dd, trivial⟩, fr⟩
/-- what a path finds: a field's value, or a field's row -/
def PthAt (w : World) (nw : List (Addr × Obj)) (kvs : List (Str × Value)) (p : Addr) (vs : List Value) : Prop :=
  (∃ key, FldAt w nw p key ∧ vs = (valueAt kvs key).toList ∧ ∀ v ∈ vs, ∃ d, DIn w nw d v) ∨
  (∃ key l c d, ChdAt w nw p key ∧ valueAt kvs key = some (.ref l) ∧ (l, listObj vs c) ∈ nw ∧ DIn w nw d (.ref l) ∧ vs.length ≤ 3)
/-- the ledger bears an Expression -/
def ExpAt (w : World) (nw : List (Addr × Obj)) (ex f v : Addr) (sg : Sg) : Prop :=
  ∃ d n t1 t2 t3 st, (ex, instObj 935 d) ∈ nw ∧ (d, dictOf [ent w "target" t1 (.ref f), ent w "op" t2 (.str sg.str st), ent w "value" t3 (.ref v)] n) ∈ nw
theorem ExpAt.mono {w : World} {nw nw' : List (Addr × Obj)} {ex f v : Addr} {sg : Sg} (hs : ∀ p ∈ nw, p ∈ nw') (h : ExpAt w nw ex f v sg) : ExpAt w nw' ex f v sg := by
  obtain ⟨d, n, t1, t2, t3, st, h1, h2⟩ := h
  exact ⟨d, n, t1, t2, t3, st, hs _ h1, hs _ h2⟩
theorem alldin_mono {w : World} {nw nw' : List (Addr × Obj)} {vs : List Value} (hs : ∀ p ∈ nw, p ∈ nw') (h : ∀ v ∈ vs, ∃ d, DIn w nw d v) : ∀ v ∈ vs, ∃ d, DIn w nw' d v := fun v hv => let ⟨d, hd⟩ := h v hv; ⟨d, DIn.mono hs hd⟩
theorem DIn.handed {w : World} {nw : List (Addr × Obj)} {d : D} {v : Value} (h : DIn w nw d v) : handedIn v = true := by
  cases d <;> unfold DIn at h <;> (try obtain ⟨_, _, t, rfl⟩ := h) <;> (try obtain ⟨t, rfl⟩ := h) <;> (try obtain ⟨_, _, _, rfl, _⟩ := h) <;> (try subst h) <;> first | rfl | (cases v <;> first | rfl | simp_all [handedIn])
theorem PthAt.mono {w : World} {nw nw' : List (Addr × Obj)} {kvs : List (Str × Value)} {p : Addr} {vs : List Value} (hs : ∀ p ∈ nw, p ∈ nw') (h : PthAt w nw kvs p vs) : PthAt w nw' kvs p vs := by
  rcases h with ⟨key, h1, h2, h3⟩ | ⟨key, l, c, d, h1, h2, h3, h4, h5⟩
  · exact .inl ⟨key, h1.mono hs, h2, alldin_mono hs h3⟩
  · exact .inr ⟨key, l, c, d, h1.mono hs, h2, hs _ h3, h4.mono hs, h5⟩

end Mine

end

section
open PySem PySem.W PyProof.Rows PySem.Calls
set_option linter.unusedVariables false
set_option maxHeartbeats 2000000
namespace Mine
open LCg
section
variable {prog : Program} {w : World} {h₀ h₁ : Heap} {C I a L : Addr} {oa : Obj} {gn : Nat} {m : Str → Option Value}
/-- any() of a generator over a list of the ledger, its target a name -/
theorem any_genL {p : Program} {loose : List Str} {mean : ExcName → Option Value} {mg mb : Str → Option Value} {dp un : Nat} {gd : Option (List Code)} {envF cenv : Env} {outer : List Env} {base : Heap} {E : Value → Shared → Prop} {s : Shared} {elt iter : Expr} {x : Str} {px : Pos} {scope : Scope} {pos : Pos} {r₀ nw₀ : List (Addr × Obj)} {oI₀ : Obj} {Q : Value → Shared → Prop} {ax : Addr} {its : Array Value} {kk : Nat}
    (JT : List (Addr × Obj) → Prop) (JJ : Nat → List (Addr × Obj) → Prop)
    (Mk : GMade (topA dp un gd envF outer) base envF outer h₀ L m h₁ C a oa gn (.ref I) nw₀ s.heap) (T : Top p loose mean mg mb h₀) (hroom : dp < recursionLimit)
    (hgs : s.gens[gn]? = some (.fresh (.compStart (.GeneratorExp elt [⟨.Name x px, iter, [], 0⟩] scope pos) 0 (.ref I) .none cenv))) (hG : GB (gn + 1) s.gens)
    (hco : cenv.scope.isCoroutine = false) (hC : cenv.locals = C) (hCI : C ≠ I) (hn : its.size < 500) (hne : ax ≠ I)
    (hx : cenv.kindOf x = some .local) (hp : (cenv.scope.kind == .class || (cenv.scope.kind == .module && cenv.locals != cenv.globals)) = false)
    (N₀ : News h₁ C s.heap ((I, oI₀) :: r₀)) (off₀ : ∀ p ∈ r₀, p.1 ≠ I) (ha₀ : (a, oa) ∈ r₀) (hS₀ : (ax, ({ cls := .type "list", data := .seq its kk } : Obj)) ∈ r₀) (hJ₀ : JJ 0 r₀) (hit : s.heap.IsListIter I ax 0)
    (body : ∀ i v, its[i]? = some v → ∀ m'' r oI h tk g (E' : Value → Shared → Prop), m'' x = some v → JJ i r → (ax, ({ cls := .type "list", data := .seq its kk } : Obj)) ∈ r → (a, oa) ∈ r → (∀ p ∈ r, p.1 ≠ I) → GB (gn + 1) g → Fr h₁ C h m'' → News h₁ C h ((I, oI) :: r) →
      wpAny (model prog w) (topA (dp + 1) (un + 5) gd cenv (envF :: outer)) (eval elt cenv) (GAnyEnd (gn + 1) h₁ C I oI s a oa (fun r => (ax, ({ cls := .type "list", data := .seq its kk } : Obj)) ∈ r) JT JJ i) E' { s with heap := h, toks := tk, gens := g })
    (fin : ∀ h tk g r, GB (gn + 1) g → Fr h₀ L h m → News h₀ L h r → JJ its.size r → Q (.bool false) { s with heap := h, toks := tk, gens := g })
    (finT : ∀ h tk g r, GB (gn + 1) g → Fr h₀ L h m → News h₀ L h r → JT r → Q (.bool true) { s with heap := h, toks := tk, gens := g }) :
    wpAny (model prog w) (topA dp un gd envF outer) (call (.builtin "any") [.ref a]) Q E s := by
  have hl : ∀ {h' : Heap} {nw : List (Addr × Obj)}, News h₁ C h' nw → (ax, ({ cls := .type "list", data := .seq its kk } : Obj)) ∈ nw → h'.IsList ax its := fun N hm => ⟨_, N.get hm, rfl, kk, rfl⟩
  refine any_gen (n := its.size) (P := fun i v _ => its[i]? = some v) (Md := fun i v h => its[i]? = some v ∧ (h.IsListIter I ax (i + 1) ∧ h.IsList ax its)) (St := fun i h => h.IsListIter I ax i ∧ h.IsList ax its) (PM := fun i m'' => ∃ v, its[i]? = some v ∧ m'' x = some v) (fun r => (ax, ({ cls := .type "list", data := .seq its kk } : Obj)) ∈ r) JT JJ Mk T hroom hgs hG hco hC hCI hn N₀ off₀ ha₀ hS₀ hJ₀ ⟨hit, hl N₀ (.tail _ hS₀)⟩ ?self
    (fun A hA => .inr ⟨ax, fun nw hS => ⟨_, hS⟩, KTurns.ofWalks (Walks.list hA I ax hne its) fun i v s Q E st q => letGo_listiter st.1 q⟩) ?hSt ?hIo ?asg (fun i hi m'' r oI h tk g E' hpm => let ⟨v, e1, e2⟩ := hpm; body i v e1 m'' r oI h tk g E' e2) fin finT
  case self =>
    intro i s' A' E' Q' st hQ'
    exact wpAny_pyIter_listiter st.1 hQ'
  case hSt =>
    rintro i h h' nws ⟨⟨o, e, r⟩, _⟩ ho Ns hS'
    exact ⟨⟨o, ho _ e, r⟩, hl Ns hS'⟩
  case hIo =>
    rintro i h ⟨⟨o, e, r⟩, _⟩
    exact ⟨o, e⟩
  case asg =>
    rintro i v s' m' A' E' Q' hA' hv hns hQ'
    subst hC
    refine wpAny_assign_Name (wpAny_storeName_local hx hns (fun h₃ hn₃ hs₃ => ?_) hp)
    exact hQ' h₃ _ _ ⟨v, hv, by simp⟩ hn₃ fun b o hb e => hs₃.extBut b o hb e
theorem list_iter {A : Around} {E : Value → Shared → Prop} {s : Shared} {ax : Addr} {its : Array Value} {kk : Nat} {news : List (Addr × Obj)} {Q : Value → Shared → Prop} (F : Fr h₀ L s.heap m) (N : News h₀ L s.heap news) (hm : (ax, ({ cls := .type "list", data := .seq its kk } : Obj)) ∈ news)
    (h : ∀ I oI hI, hI.IsListIter I ax 0 → Fr h₀ L hI m → News h₀ L hI ((I, oI) :: news) → (∀ q ∈ news, @LT.lt Nat _ q.1 I) → @LT.lt Nat _ L I → Q (.ref I) { s with heap := hI }) : wpAny (model prog w) A (pyIter (.ref ax)) Q E s := by
  have hl : s.heap.IsList ax its := ⟨_, N.get hm, rfl, kk, rfl⟩
  refine wpAny_pyIter_list hl ?_
  have up : ∀ b o, s.heap.get? b = some o → (s.heap.push { cls := .type "list_iterator", data := .fields #[.ref ax, .int 0 0] }).get? b = some o := fun b o e => Heap.get?_push_of_some _ e
  refine h _ { cls := .type "list_iterator", data := .fields #[.ref ax, .int 0 0] } _ ⟨_, Heap.get?_push_size _ rfl, rfl, rfl⟩ (F.keeps up) (fun p hp => ?_) (fun q hq => Heap.lt_size (N q hq).1) F.ns.lt
  rcases List.mem_cons.mp hp with rfl | hp
  · exact ⟨Heap.get?_push_size _ rfl, Ne.symm (Nat.ne_of_lt F.ns.lt), next_is_new F⟩
  · exact (N.grown up) p hp
theorem mem_mid {α : Type} {l r : List α} {x : α} : ∀ q ∈ x :: (l ++ r), q ∈ l ++ x :: r := fun q hq => by
  rcases List.mem_cons.mp hq with rfl | hq
  · exact List.mem_append_right _ (.head _)
  · rcases List.mem_append.mp hq with hq | hq
    · exact List.mem_append_left _ hq
    · exact List.mem_append_right _ (.tail _ hq)
theorem mem_mid' {α : Type} {l r : List α} {x : α} : ∀ q ∈ l ++ x :: r, q ∈ x :: (l ++ r) := fun q hq => by
  rcases List.mem_append.mp hq with hq | hq
  · exact .tail _ (List.mem_append_left _ hq)
  · rcases List.mem_cons.mp hq with rfl | hq
    · exact .head _
    · exact .tail _ (List.mem_append_right _ hq)
/-- what stands between the turns of any(_compare(..)) -/
def AnyJ (T : Addr) (hd nw : List (Addr × Obj)) (r : List (Addr × Obj)) : Prop :=
  ∃ ps own, (∀ q ∈ (T, tabObj ps) :: (hd ++ (nw ++ own)), q ∈ r) ∧ TriplesOk ps.toList ∧ ∀ p ∈ own, p.1 ≠ T ∧ ∀ q ∈ hd ++ nw, p.1 ≠ q.1
theorem GeneratorExp_F {p : Program} {loose : List Str} {mean : ExcName → Option Value} {mg mb : Str → Option Value} {dp un : Nat} {gd : Option (List Code)} {env envF : Env} {outer : List Env} {A₀ : Around} {base : Heap} {E : Value → Shared → Prop} {s : Shared} {elt target iter : Expr} {scope : Scope} {cl : List (Str × Addr)} {pos : Pos} {Q : Value → Shared → Prop} {c P : Addr}
    (F : Fr h₀ L s.heap m) (B : Below A₀ base outer h₀) (T : Top p loose mean mg mb h₀) (hf : envF.frame = some L) (hke : envF.scope.kind = .function) (hroom : dp < recursionLimit) (hgl : env.globals = mainGlobals) (hcode : env.code = .ref c) (C : CodeHd h₀ c P)
    (hco : scope.isCoroutine = false) (hclos : closureFor scope env = pure cl) (hcell : ∀ y ∈ scope.names, y.2 ≠ .cell) (h0 : scope.names.lookup (".0" : Str) = some NameKind.local) (hkind : scope.kind = .function)
    (h : wpAny (model prog w) (topA dp un gd envF outer) (eval iter env) (fun xv s₁ => wpAny (model prog w) (topA dp un gd envF outer) (pyIter xv) (fun it s₂ => ∃ ps news, Fr h₀ L s₂.heap m ∧ News h₀ L s₂.heap ((P, tabObj ps) :: news) ∧ (∀ p ∈ news, p.1 ≠ P) ∧ TriplesOk ps.toList ∧
      (∀ h₁ C a oa code h₅ tk ps', GMade (topA dp un gd envF outer) base envF outer h₀ L m h₁ C a oa s₂.gens.size it ((a, oa) :: (P, tabObj ps') :: news) h₅ → TriplesOk ps'.toList → (∀ p ∈ (P, tabObj ps') :: news, p.1 < C) → @LT.lt Nat _ C a → @LT.lt Nat _ L C →
        Q (.ref a) { s₂ with heap := h₅, toks := tk, gens := s₂.gens.push (.fresh (.compStart (.GeneratorExp elt [⟨target, iter, [], 0⟩] scope pos) 0 it .none (genEnv scope cl C code builtinsNs env))) })) E s₁) E s)
    (hs : ∀ x, genFold iter env x = pure x) :
    wpAny (model prog w) (topA dp un gd envF outer) (eval (.GeneratorExp elt [⟨target, iter, [], 0⟩] scope pos) env) Q E s :=
  GeneratorExp_K B T hf hke hroom hgl hcode C hco hclos hcell h0 hkind h hs
end
end Mine

end

section
open PySem PySem.W PyProof.Rows
set_option linter.unusedVariables false
namespace Mine
local macro_rules | `(tactic| walk_at "zz") => `(tactic| fail)
local macro_rules | `(tactic| walk_at "zz") => `(tactic| fail)
local macro_rules | `(tactic| walk_at "zz") => `(tactic| fail)
local macro_rules | `(tactic| walk_at "zz") => `(tactic| fail)
local macro_rules | `(tactic| walk_at "zz") => `(tactic| fail)
local macro_rules | `(tactic| walk_at "zz") => `(tactic| fail)
local macro_rules | `(tactic| walk_at "zz") => `(tactic| fail)
local macro_rules | `(tactic| walk_at "zz") => `(tactic| fail)
local macro_rules | `(tactic| walk_at "zz") => `(tactic| fail)
local macro_rules | `(tactic| walk_at "zz") => `(tactic| fail)
local macro_rules | `(tactic| walk_at "zz") => `(tactic| fail)
local macro_rules | `(tactic| walk_at "zz") => `(tactic| fail)
local macro_rules | `(tactic| walk_at "zz") => `(tactic| fail)
local macro_rules | `(tactic| walk_at "zz") => `(tactic| fail)
local macro_rules | `(tactic| walk_at "zz") => `(tactic| fail)
local macro_rules | `(tactic| walk_at "zz") => `(tactic| fail)
local macro_rules | `(tactic| walk_at "zz") => `(tactic| fail)
local macro_rules | `(tactic| walk_at "zz") => `(tactic| fail)
local macro_rules | `(tactic| walk_at "zz") => `(tactic| fail)
local macro_rules | `(tactic| walk_at "zz") => `(tactic| fail)
local macro_rules | `(tactic| walk_at "zz") => `(tactic| fail)
local macro_rules | `(tactic| walk_at "zz") => `(tactic| fail)
local macro_rules | `(tactic| walk_at "zz") => `(tactic| fail)
local macro_rules | `(tactic| walk_at "zz") => `(tactic| fail)
local macro_rules | `(tactic| walk_at "zz") => `(tactic| fail)
local macro_rules | `(tactic| walk_at "zz") => `(tactic| fail)
local macro_rules | `(tactic| walk_at "zz") => `(tactic| fail)
local macro_rules | `(tactic| walk_at "zz") => `(tactic| fail)
local macro_rules | `(tactic| walk_at "zz") => `(tactic| fail)
local macro_rules | `(tactic| walk_at "zz") => `(tactic| fail)
local macro_rules | `(tactic| walk_at "zz") => `(tactic| fail)
local macro_rules | `(tactic| walk_at "zz") => `(tactic| fail)
local macro_rules | `(tactic| walk_at "zz") => `(tactic| fail)
local macro_rules | `(tactic| walk_at "zz") => `(tactic| fail)
local macro_rules | `(tactic| walk_at "zz") => `(tactic| fail)
local macro_rules | `(tactic| walk_at "zz") => `(tactic| fail)
local macro_rules | `(tactic| walk_at "zz") => `(tactic| fail)
theorem rstWD : True := by
  w_top off
  trivial
local macro_rules | `(tactic| k_mem) => `(tactic| assumption)
local macro_rules | `(tactic| k_all) => `(tactic| with_reducible assumption)
local macro_rules | `(tactic| ktr_enter) => `(tactic| (k_dflt (refine' code_def ?k1 ?k2 ?k3 ?k4 ?k5 ?kA ?kF ?kK ?k6 ?k7 ?k8 ?k9 ?kB ?_ ?c2 ?c3 ?c4 ?c5; (case kA => exact rfl); (case kF => first | exact rfl | assumption); (case kK => first | exact rfl | assumption); (case k1 => k_asm); (case k2 => k_asm); (case k3 => k_asm); (case k4 => k_asm); (case k5 => k_asm); (case k6 => k_is); (case k7 => k_is); (case k8 => ((try dsimp only [topA]); omega)); (case k9 => exact BindsTo.of_eq rfl); (case c5 => decide); (case kB => exact locs rfl); (case c2 => exact rfl); (case c3 => exact rfl); (case c4 => exact rfl); k_whole; intro g' L' h' FG' F' N' B' X' T'; (try dsimp only); (try k_fold))))
local macro_rules | `(tactic| ktd_sub) => `(tactic| (intro p9 hp9; repeat (first | exact hp9 | refine List.mem_cons_of_mem _ ?_)))
local macro_rules | `(tactic| ktd_rel) => `(tactic| first | assumption | (refine' DIn.mono ?hs ?hh; (case hh => assumption); (case hs => ktd_sub)) | (refine' DsIn.mono ?hs ?hh; (case hh => assumption); (case hs => ktd_sub)) | (refine' KsIn.mono ?hs ?hh; (case hh => assumption); (case hs => ktd_sub)))
local macro_rules | `(tactic| ktr_room) => `(tactic| (simp only [depth_deeper, depth_in1, topA] at *; omega))
local macro_rules | `(tactic| ktr_units) => `(tactic| (simp only [units_deeper, units_in1, topA] at *; omega))
local macro_rules | `(tactic| ktr_unf) => `(tactic| (k_dflt (refine' code_defC ?k1 ?k2 ?k3 ?k4 ?k5 ?kA ?kF ?kK ?k6 ?k7 ?k8 ?k9 ?kB ?kD ?_ ?c2 ?c3 ?c4; (case kA => exact rfl); (case kF => first | exact rfl | assumption); (case kK => first | exact rfl | assumption); (case k1 => k_asm); (case k2 => k_asm); (case k3 => k_asm); (case k4 => k_asm); (case k5 => k_asm); (case k6 => k_is); (case k7 => k_is); (case k8 => ((try dsimp only [topA]); omega)); (case k9 => exact BindsTo.of_eq rfl); (case kB => exact rfl); (case kD => decide +kernel); (case c2 => exact rfl); (case c3 => exact rfl); (case c4 => exact rfl); k_whole; intro g' L' h' tk' cells' FG' F' N' Y' B' X' T' l1; (try k_lt l1); k_cells Y'; (try simp only [List.cons_append, List.nil_append] at N'); (try dsimp only); (try k_fold))))
def pickV (sg : Sg) (ds1 : List D) : List D → List Value → List Value
  | d :: ds, v :: vs => if ds1.any (fun e => cmpD sg d e) = true then v :: pickV sg ds1 ds vs else pickV sg ds1 ds vs
  | _, _ => []
def wantV (sg : Sg) (ds0 : List D) (vs0 : List Value) (ds1 : List D) (th : Value) : List Value :=
  if (vs0.isEmpty || ds1.isEmpty) = true then (if eqHolds sg (vs0.isEmpty && ds1.isEmpty) = true then (if vs0.isEmpty = true then [th] else vs0) else []) else pickV sg ds1 ds0 vs0
theorem want_th {sg : Sg} {ds0 ds1 : List D} {vs0 : List Value} {th : Value} {b : Bool} (h0 : vs0.isEmpty = true) (h1 : ds1.isEmpty = b) (h : eqHolds sg b = true) : wantV sg ds0 vs0 ds1 th = [th] := by
  simp only [wantV, h0, h1, Bool.true_or, Bool.true_and, h, if_true]
theorem want_nil {sg : Sg} {ds0 ds1 : List D} {vs0 : List Value} {th : Value} {b c : Bool} (h0 : vs0.isEmpty = b) (h1 : ds1.isEmpty = c) (hc : (b || c) = true) (h : eqHolds sg (b && c) = false) : wantV sg ds0 vs0 ds1 th = [] := by
  simp only [wantV, h0, h1, hc, h, if_true, Bool.false_eq_true, if_false]
theorem want_found {sg : Sg} {ds0 ds1 : List D} {vs0 : List Value} {th : Value} (h0 : vs0.isEmpty = false) (h1 : ds1.isEmpty = true) (h : eqHolds sg false = true) : wantV sg ds0 vs0 ds1 th = vs0 := by
  simp only [wantV, h0, h1, Bool.or_true, Bool.false_and, h, if_true, Bool.false_eq_true, if_false]
theorem want_pick {sg : Sg} {ds0 ds1 : List D} {vs0 : List Value} {th : Value} (h0 : vs0.isEmpty = false) (h1 : ds1.isEmpty = false) : wantV sg ds0 vs0 ds1 th = pickV sg ds1 ds0 vs0 := by
  simp only [wantV, h0, h1, Bool.or_false, Bool.false_eq_true, if_false]
theorem empty_len {α β : Type} {a : List α} {b : List β} (h : a.length = b.length) : a.isEmpty = b.isEmpty := by cases a <;> cases b <;> simp_all
theorem sub_hd {x1 x2 x3 x4 : Addr × Obj} {l : List (Addr × Obj)} : ∀ q ∈ x1 :: l, q ∈ x1 :: x2 :: x3 :: x4 :: l := fun q hq => by
  rcases List.mem_cons.mp hq with rfl | hq
  · exact .head _
  · exact .tail _ (.tail _ (.tail _ (.tail _ hq)))
/-- the found data of which some pair holds -/
def selA (sg : Sg) (ds1 : List D) : List D → List Addr → List Addr
  | d :: ds, v :: vs => if ds1.any (fun e => cmpD sg d e) = true then v :: selA sg ds1 ds vs else selA sg ds1 ds vs
  | _, _ => []
theorem selA_succ {sg : Sg} {ds1 : List D} : ∀ {ds : List D} {xs : List Addr} {i : Nat} {d : D} {x : Addr}, ds[i]? = some d → xs[i]? = some x →
    selA sg ds1 (ds.take (i + 1)) (xs.take (i + 1)) = selA sg ds1 (ds.take i) (xs.take i) ++ (if ds1.any (fun e => cmpD sg d e) = true then [x] else [])
  | [], _, _, _, _, h, _ => by simp at h
  | _ :: _, [], _, _, _, _, h => by simp at h
  | d :: ds, x :: xs, 0, _, _, h, h' => by
    obtain rfl : d = _ := by simpa using h
    obtain rfl : x = _ := by simpa using h'
    simp [selA]
  | d :: ds, x :: xs, i + 1, _, _, h, h' => by
    have ih := selA_succ (sg := sg) (ds1 := ds1) (ds := ds) (xs := xs) (i := i) (by simpa using h) (by simpa using h')
    simp only [List.take_succ_cons, selA, ih]
    split <;> simp
theorem selA_len {sg : Sg} {ds1 : List D} : ∀ {ds : List D} {xs : List Addr}, (selA sg ds1 ds xs).length ≤ xs.length
  | [], _ => by simp [selA]
  | _ :: _, [] => by simp [selA]
  | d :: ds, x :: xs => by
    have ih := selA_len (sg := sg) (ds1 := ds1) (ds := ds) (xs := xs)
    simp only [selA]
    split <;> simp <;> omega

end Mine

end

section
open PySem PySem.W PyProof.Rows
set_option linter.unusedVariables false
namespace Mine
local macro_rules | `(tactic| walk_at "zz") => `(tactic| fail)
local macro_rules | `(tactic| walk_at "zz") => `(tactic| fail)
local macro_rules | `(tactic| walk_at "zz") => `(tactic| fail)
local macro_rules | `(tactic| walk_at "zz") => `(tactic| fail)
local macro_rules | `(tactic| walk_at "zz") => `(tactic| fail)
local macro_rules | `(tactic| walk_at "zz") => `(tactic| fail)
local macro_rules | `(tactic| walk_at "zz") => `(tactic| fail)
local macro_rules | `(tactic| walk_at "zz") => `(tactic| fail)
local macro_rules | `(tactic| walk_at "zz") => `(tactic| fail)
local macro_rules | `(tactic| walk_at "zz") => `(tactic| fail)
local macro_rules | `(tactic| walk_at "zz") => `(tactic| fail)
local macro_rules | `(tactic| walk_at "zz") => `(tactic| fail)
local macro_rules | `(tactic| walk_at "zz") => `(tactic| fail)
local macro_rules | `(tactic| walk_at "zz") => `(tactic| fail)
local macro_rules | `(tactic| walk_at "zz") => `(tactic| fail)
local macro_rules | `(tactic| walk_at "zz") => `(tactic| fail)
local macro_rules | `(tactic| walk_at "zz") => `(tactic| fail)
local macro_rules | `(tactic| walk_at "zz") => `(tactic| fail)
local macro_rules | `(tactic| walk_at "zz") => `(tactic| fail)
local macro_rules | `(tactic| walk_at "zz") => `(tactic| fail)
local macro_rules | `(tactic| walk_at "zz") => `(tactic| fail)
local macro_rules | `(tactic| walk_at "zz") => `(tactic| fail)
local macro_rules | `(tactic| walk_at "zz") => `(tactic| fail)
local macro_rules | `(tactic| walk_at "zz") => `(tactic| fail)
local macro_rules | `(tactic| walk_at "zz") => `(tactic| fail)
local macro_rules | `(tactic| walk_at "zz") => `(tactic| fail)
local macro_rules | `(tactic| walk_at "zz") => `(tactic| fail)
local macro_rules | `(tactic| walk_at "zz") => `(tactic| fail)
local macro_rules | `(tactic| walk_at "zz") => `(tactic| fail)
local macro_rules | `(tactic| walk_at "zz") => `(tactic| fail)
theorem rstPM : True := by
  w_top off
  trivial
local macro_rules | `(tactic| k_mem) => `(tactic| assumption)
local macro_rules | `(tactic| k_all) => `(tactic| with_reducible assumption)
local macro_rules | `(tactic| ktr_enter) => `(tactic| (k_dflt (refine' code_def ?k1 ?k2 ?k3 ?k4 ?k5 ?kA ?kF ?kK ?k6 ?k7 ?k8 ?k9 ?kB ?_ ?c2 ?c3 ?c4 ?c5; (case kA => exact rfl); (case kF => first | exact rfl | assumption); (case kK => first | exact rfl | assumption); (case k1 => k_asm); (case k2 => k_asm); (case k3 => k_asm); (case k4 => k_asm); (case k5 => k_asm); (case k6 => k_is); (case k7 => k_is); (case k8 => ((try dsimp only [topA]); omega)); (case k9 => exact BindsTo.of_eq rfl); (case c5 => decide); (case kB => exact locs rfl); (case c2 => exact rfl); (case c3 => exact rfl); (case c4 => exact rfl); k_whole; intro g' L' h' FG' F' N' B' X' T'; (try dsimp only); (try k_fold))))
local macro_rules | `(tactic| ktd_sub) => `(tactic| (intro p9 hp9; repeat (first | exact hp9 | refine List.mem_cons_of_mem _ ?_)))
local macro_rules | `(tactic| ktd_rel) => `(tactic| first | assumption | (refine' DIn.mono ?hs ?hh; (case hh => assumption); (case hs => ktd_sub)) | (refine' DsIn.mono ?hs ?hh; (case hh => assumption); (case hs => ktd_sub)) | (refine' KsIn.mono ?hs ?hh; (case hh => assumption); (case hs => ktd_sub)))
local macro_rules | `(tactic| ktr_room) => `(tactic| (simp only [depth_deeper, depth_in1, topA] at *; omega))
local macro_rules | `(tactic| ktr_units) => `(tactic| (simp only [units_deeper, units_in1, topA] at *; omega))
local macro_rules | `(tactic| ktr_unf) => `(tactic| (k_dflt (refine' code_defC ?k1 ?k2 ?k3 ?k4 ?k5 ?kA ?kF ?kK ?k6 ?k7 ?k8 ?k9 ?kB ?kD ?_ ?c2 ?c3 ?c4; (case kA => exact rfl); (case kF => first | exact rfl | assumption); (case kK => first | exact rfl | assumption); (case k1 => k_asm); (case k2 => k_asm); (case k3 => k_asm); (case k4 => k_asm); (case k5 => k_asm); (case k6 => k_is); (case k7 => k_is); (case k8 => ((try dsimp only [topA]); omega)); (case k9 => exact BindsTo.of_eq rfl); (case kB => exact rfl); (case kD => decide +kernel); (case c2 => exact rfl); (case c3 => exact rfl); (case c4 => exact rfl); k_whole; intro g' L' h' tk' cells' FG' F' N' Y' B' X' T' l1; (try k_lt l1); k_cells Y'; (try simp only [List.cons_append, List.nil_append] at N'); (try dsimp only); (try k_fold))))
local macro_rules | `(tactic| walk_at "call ref") => `(tactic| (k_here; (with_reducible show wpAny _ _ (call (Value.ref 956) _) _ _ _); k_dflt (refine' use_call (kind_call _ _ _ _ ?hD) ?B ?F ?X ?N ?T ?hf ?hk ?hd ?hu ?hG ?_; (case B => k_asm); (case F => k_asm); (case X => k_asm); (case N => k_asm); (case T => k_asm); (case hf => first | exact rfl | assumption); (case hk => first | exact rfl | assumption); (case hG => assumption); (case hD => ktd_rel); (case hd => ktr_room); (case hu => ktr_units); k_whole; intro r9 nw9 h9 tk9 g9 p9 hG9 F9 N9; obtain ⟨p9, q9⟩ := p9; obtain ⟨t9, p9⟩ := p9; replace q9 := Eq.symm q9; subst q9; subst p9; (try dsimp only); (try k_fold))))
local macro_rules | `(tactic| walk_at "eval ListComp") => `(tactic| (k_here; k_dflt (refine ListComp_G (by k_asm) (by assumption) (by with_unfolding_all rfl) (by decide) (by rfl) (by decide) (by rfl) ?_)))
local macro_rules | `(tactic| walk_at "eval DictComp") => `(tactic| (k_here; k_dflt (refine DictComp_G (by k_asm) (by assumption) (by with_unfolding_all rfl) (by decide) (by rfl) (by decide) (by rfl) ?_)))
local macro_rules | `(tactic| walk_at "exec Assign cons ListComp") => `(tactic| (k_here; k_dflt (refine Assign_ListComp_G (by k_asm) (by assumption) (by rfl) (by with_unfolding_all rfl) (by with_unfolding_all rfl) (by decide) (by rfl) (by decide) (by rfl) (by rfl) (by rfl) ?_)))
local macro_rules | `(tactic| walk_at "exec Assign cons DictComp") => `(tactic| (k_here; k_dflt (refine Assign_DictComp_G (by k_asm) (by assumption) (by rfl) (by with_unfolding_all rfl) (by with_unfolding_all rfl) (by decide) (by rfl) (by decide) (by rfl) (by rfl) (by rfl) ?_)))
local macro_rules | `(tactic| k_room) => `(tactic| ((try simp only [depth_mark, depth_under_make, depth_under_kw, depth_in1, depth_deeper, depth_caller, topA]); omega))
local macro_rules | `(tactic| k_units) => `(tactic| ((try simp only [units_deeper, units_in1, topA]); omega))
local macro_rules | `(tactic| k_mem) => `(tactic| first | assumption | exact List.Mem.head _ | (refine' List.Mem.tail _ ?_; k_mem))
local macro_rules | `(tactic| ktr_enter) => `(tactic| (k_dflt (refine' code_defL ?k1 ?k2 ?k3 ?k4 ?k5 ?kA ?kF ?kK ?k6 ?k7 ?k8 ?k9 ?kB ?_ ?c2 ?c3 ?c4 ?c5; (case kA => exact rfl); (case kF => first | exact rfl | assumption); (case kK => first | exact rfl | assumption); (case k1 => k_asm); (case k2 => k_asm); (case k3 => k_asm); (case k4 => k_asm); (case k5 => k_asm); (case k6 => k_is); (case k7 => k_is); (case k8 => ((try dsimp only [topA]); omega)); (case k9 => exact BindsTo.of_eq rfl); (case c5 => decide); (case kB => exact locs rfl); (case c2 => exact rfl); (case c3 => exact rfl); (case c4 => exact rfl); k_whole; intro g' L' h' FG' F' N' B' X' T' lx9; (try dsimp only); (try k_fold))))
local macro_rules | `(tactic| k_enter) => `(tactic| first | (refine' code_def ?k1 ?k2 ?k3 ?k4 ?k5 ?kA ?kF ?kK ?k6 ?k7 ?k8 ?k9 ?kB ?_ ?c2 ?c3 ?c4 ?c5; (case kA => exact rfl); (case kF => exact rfl); (case kK => exact rfl); (case k1 => k_asm); (case k2 => k_asm); (case k3 => k_asm); (case k4 => k_asm); (case k5 => k_asm); (case k6 => k_is); (case k7 => k_is); (case k8 => k_room); (case k9 => first | exact BindsTo.of_eq rfl | exact binds_K (by k_in) rfl (by k_is) rfl rfl rfl | fail "k_enter: no rule for these arguments"); (case c5 => decide); (case kB => exact locs rfl); (case c2 => exact rfl); (case c3 => exact rfl); (case c4 => exact rfl); k_whole; intro g' L' h' FG' F' N' B' X' T'; (have lL9 := ltN (Nat.lt_of_lt_of_le (Fr.ns FG').lt (Fr.above F'))); (try dsimp only); (try k_lift B'); (try k_fold)) | (refine' code_defC ?k1 ?k2 ?k3 ?k4 ?k5 ?kA ?kF ?kK ?k6 ?k7 ?k8 ?k9 ?kB ?kD ?_ ?c2 ?c3 ?c4; (case kA => exact rfl); (case kF => exact rfl); (case kK => exact rfl); (case k1 => k_asm); (case k2 => k_asm); (case k3 => k_asm); (case k4 => k_asm); (case k5 => k_asm); (case k6 => k_is); (case k7 => k_is); (case k8 => k_room); (case k9 => first | exact BindsTo.of_eq rfl | exact binds_K (by k_in) rfl (by k_is) rfl rfl rfl | fail "k_enter: no rule for these arguments"); (case kB => exact rfl); (case kD => decide +kernel); (case c2 => exact rfl); (case c3 => exact rfl); (case c4 => exact rfl); k_whole; intro g' L' h' tk' cells' FG' F' N' Y' B' X' T' l1; (have lL9 := ltN (Nat.lt_of_lt_of_le (Fr.ns FG').lt (Fr.above F'))); (try k_lt l1); k_cells Y'; (try simp only [List.cons_append, List.nil_append] at N'); (try dsimp only); (try k_lift B'); (try k_fold)))
local macro_rules | `(tactic| k_all) => `(tactic| first | (with_reducible assumption) | (refine' ltAll_neX ?h ?b; (case h => with_reducible assumption); (case b => omega)))
local macro_rules | `(tactic| walk_at "getMethod ref") => `(tactic| (k_here; (with_reducible show wpAny _ _ (getMethod (Value.ref _) (PySem.Str.ofString "get") _) _ _ _); k_dflt (refine' dict_method ?N ?m PySem.F.slot_dict_get PySem.F.type_dict_get ?_; (case N => k_asm); (case m => k_mem))))
local macro_rules | `(tactic| walk_at "call builtin:dict.get") => `(tactic| (k_here; (with_reducible show wpAny _ _ (call (Value.builtin _) [Value.ref _, Value.str _ _, _]) _ _ _); k_dflt (refine' get_led ?N ?m ?d ?s ?v ?_; (case N => k_asm); (case m => k_mem); (case d => with_reducible assumption); (case s => with_reducible assumption); (case v => first | exact getD_some (by with_reducible assumption) | exact getD_none (by with_reducible assumption)); k_whole; intro tk9)))
local macro_rules | `(tactic| walk_at "compareOp Is") => `(tactic| (k_here; (with_reducible show wpAny _ _ (compareOp CmpOp.Is _ (Value.ref _)) _ _ _); k_dflt (refine' is_data (d := _) ?F ?N ?D ?X ?k ?_; (case F => k_asm); (case N => k_asm); (case D => ktd_rel); (case X => k_asm); (case k => k_is); k_whole)))
theorem CallsTo.more {w : World} {f : Addr} {args : List Value} {nw : List (Addr × Obj)} {kd ku kd' ku' : Nat} {post : Value → List (Addr × Obj) → Prop} (h : CallsTo w f args nw kd ku post) (h1 : kd ≤ kd') (h2 : ku ≤ ku') : CallsTo w f args nw kd' ku' post :=
  fun fl p loose mean mg mb dp un gd env outer A₀ base h₀ L m s Q E HA hG hret =>
    h fl p loose mean mg mb dp un gd env outer A₀ base h₀ L m s Q E ⟨HA.B, HA.F, HA.X, HA.N, HA.T, HA.hf, HA.hk, Nat.lt_of_le_of_lt (Nat.add_le_add_left h1 _) HA.hd, Nat.lt_of_le_of_lt (Nat.add_le_add_left h2 _) HA.hu⟩ hG hret
/-- f, called on the path v, finds the values vs -/
def FindOk (w : World) (nw : List (Addr × Obj)) (kvs : List (Str × Value)) (f v : Addr) (vs : List Value) : Prop :=
  ∀ (nw2 : List (Addr × Obj)) (a th : Addr) (es : List DictEntry) (n : Nat), (∀ p ∈ nw, p ∈ nw2) → DatAt w nw2 a (.ref th) → (th, dictObj es n) ∈ nw2 → (dictObj es n).IsDictOf (PySem.strKind PP w) kvs → (th == sysModules) = false →
    CallsTo w f [.ref v, .ref a] nw2 150 1200 (fun r nw' => ∃ own R xs c, r = .ref R ∧ nw' = nw2 ++ own ∧ (R, listObj (xs.map Value.ref) c) ∈ own ∧ DatsAt w own xs vs ∧ ∀ p ∈ own, ∀ q ∈ nw2, p.1 ≠ q.1)
set_option maxRecDepth 100000 in
set_option maxHeartbeats 8000000 in
theorem find_method {w : World} {nw news : List (Addr × Obj)} {kvs : List (Str × Value)} {v : Addr} {vs : List Value} {p : Program} {loose : List Str} {mean : ExcName → Option Value} {mg mb : Str → Option Value} {A : Around} {h₀ : Heap} {L : Addr} {m : Str → Option Value} {s : Shared} {Q : Value × List Value → Shared → Prop} {E : Value → Shared → Prop} {pl : Sem Bool}
    (F : Fr h₀ L s.heap m) (X : (kf.heap_1 w.params).In h₀) (N : News h₀ L s.heap news) (T' : Top p loose mean mg mb h₀) (hr : PthAt w nw kvs v vs) (hs : ∀ p ∈ nw, p ∈ news) (h : ∀ f, (f = 570 ∨ f = 357) → FindOk w nw kvs f v vs → Q (.ref f, [.ref v]) s) :
    wpAny (model PySem.Challenge.rw_eq0021_01.row.prog w) A (getMethod (.ref v) (PySem.Str.ofString "find") pl) Q E s := by
  rcases hr with ⟨key, hr1, hr2, hr3⟩ | ⟨key, l, c, dl, hr1, hr2, hr3, hr4, hr5⟩
  · have hr9 := hr1
    obtain ⟨fd, fn, ft1, ft2, ftp, ftk, fnT, hf1, hf2, hf3⟩ := hr1
    have hf1' := hs _ hf1
    have hf2' := hs _ hf2
    k_steps
    refine h 570 (.inl rfl) ?_
    intro nw2 a th es n hsub ha hth hdo hsys
    exact (fields_find w nw2 v a th es n kvs key vs (hr9.mono hsub) ha hth hdo hsys hr2 (alldin_mono hsub hr3)).more (by decide) (by decide)
  · have hr9 := hr1
    obtain ⟨cd, cn, ct1, ct2, cf, cwc, cwd, cwn, hf1, hf2, hf3, hf4, hf5⟩ := hr1
    have hf1' := hs _ hf1
    have hf2' := hs _ hf2
    k_steps
    refine h 357 (.inr rfl) ?_
    intro nw2 a th es n hsub ha hth hdo hsys
    exact child_find_some w nw2 v a th es n kvs key l vs c dl (hr9.mono hsub) ha hth hdo hsys hr2 (hsub _ hr3) (hr4.mono hsub) hr5
theorem FindOk.use {w : World} {nw nw2 : List (Addr × Obj)} {kvs : List (Str × Value)} {f v a th : Addr} {vs : List Value} {es : List DictEntry} {n : Nat} (h : FindOk w nw kvs f v vs) (hs : ∀ p ∈ nw, p ∈ nw2) (ha : DatAt w nw2 a (.ref th)) (hm : (th, dictObj es n) ∈ nw2) (hd : (dictObj es n).IsDictOf (PySem.strKind PP w) kvs) (hy : (th == sysModules) = false) :
    CallsTo w f [.ref v, .ref a] nw2 150 1200 (fun r nw' => ∃ own R xs c, r = .ref R ∧ nw' = nw2 ++ own ∧ (R, listObj (xs.map Value.ref) c) ∈ own ∧ DatsAt w own xs vs ∧ ∀ p ∈ own, ∀ q ∈ nw2, p.1 ≠ q.1) := h nw2 a th es n hs ha hm hd hy
def GFound (fl : Nat) (w : World) (h₀ : Heap) (L : Addr) (m : Str → Option Value) (s : Shared) (nw2 : List (Addr × Obj)) (vs : List Value) (r : Value) (s₁ : Shared) : Prop :=
  ∃ h' tk g own R xs c, r = .ref R ∧ s₁ = { s with heap := h', toks := tk, gens := g } ∧ GB fl g ∧ Fr h₀ L h' m ∧ News h₀ L h' (nw2 ++ own) ∧ (R, listObj (xs.map Value.ref) c) ∈ own ∧ DatsAt w own xs vs ∧ ∀ p ∈ own, ∀ q ∈ nw2, p.1 ≠ q.1
theorem found_mono {fl : Nat} {prog : Program} {w : World} {A : Around} {h₀ : Heap} {L : Addr} {m : Str → Option Value} {s : Shared} {vs : List Value} {t : Sem Value} {Q : Value → Shared → Prop} {E : Value → Shared → Prop} (nw2 : List (Addr × Obj)) (F : Fr h₀ L s.heap m) (h1 : wpAny (model prog w) A t (GFound fl w h₀ L m s nw2 vs) E s)
    (h2 : ∀ h' tk g own R xs c, GB fl g → Fr h₀ L h' m → News h₀ L h' (nw2 ++ own) → (R, listObj (xs.map Value.ref) c) ∈ own → DatsAt w own xs vs → (∀ p ∈ own, ∀ q ∈ nw2, p.1 ≠ q.1) → Q (.ref R) { s with heap := h', toks := tk, gens := g }) :
    wpAny (model prog w) A t Q E s := by
  refine wpAny_mono h1 (fun r s₁ h => ?_) (fun _ _ e => e)
  obtain ⟨h', tk, g, own, R, xs, c, rfl, rfl, a1, a2, a3, a4, a5, a6⟩ := h
  exact h2 h' tk g own R xs c a1 a2 a3 a4 a5 a6
set_option maxRecDepth 100000 in
set_option maxHeartbeats 8000000 in
theorem isin_path {w : World} {nw news : List (Addr × Obj)} {kvs : List (Str × Value)} {v : Addr} {vs : List Value} {p : Program} {loose : List Str} {mean : ExcName → Option Value} {mg mb : Str → Option Value} {A : Around} {h₀ : Heap} {L : Addr} {m : Str → Option Value} {s : Shared} {Q : Value → Shared → Prop} {E : Value → Shared → Prop}
    (F : Fr h₀ L s.heap m) (X : (kf.heap_1 w.params).In h₀) (N : News h₀ L s.heap news) (T' : Top p loose mean mg mb h₀) (hr : PthAt w nw kvs v vs) (hs : ∀ p ∈ nw, p ∈ news) (h : ∀ tk, Q (.bool true) { s with toks := tk }) :
    wpAny (model PySem.Challenge.rw_eq0021_01.row.prog w) A (call (.builtin "isinstance") [.ref v, .ref 143]) Q E s := by
  rcases hr with ⟨key, hr1, hr2, hr3⟩ | ⟨key, l, c, dl, hr1, hr2, hr3, hr4, hr5⟩
  · obtain ⟨fd, fn, ft1, ft2, ftp, ftk, fnT, hf1, hf2, hf3⟩ := hr1
    have hf1' := hs _ hf1
    have hf2' := hs _ hf2
    k_steps
    exact h _
  · obtain ⟨cd, cn, ct1, ct2, cf, cwc, cwd, cwn, hf1, hf2, hf3, hf4, hf5⟩ := hr1
    have hf1' := hs _ hf1
    have hf2' := hs _ hf2
    k_steps
    exact h _

end Mine

end

section
open PySem PySem.W PyProof.Rows
set_option linter.unusedVariables false
namespace Mine
local macro_rules | `(tactic| walk_at "zz") => `(tactic| fail)
local macro_rules | `(tactic| walk_at "zz") => `(tactic| fail)
local macro_rules | `(tactic| walk_at "zz") => `(tactic| fail)
local macro_rules | `(tactic| walk_at "zz") => `(tactic| fail)
local macro_rules | `(tactic| walk_at "zz") => `(tactic| fail)
local macro_rules | `(tactic| walk_at "zz") => `(tactic| fail)
local macro_rules | `(tactic| walk_at "zz") => `(tactic| fail)
local macro_rules | `(tactic| walk_at "zz") => `(tactic| fail)
local macro_rules | `(tactic| walk_at "zz") => `(tactic| fail)
local macro_rules | `(tactic| walk_at "zz") => `(tactic| fail)
local macro_rules | `(tactic| walk_at "zz") => `(tactic| fail)
local macro_rules | `(tactic| walk_at "zz") => `(tactic| fail)
local macro_rules | `(tactic| walk_at "zz") => `(tactic| fail)
local macro_rules | `(tactic| walk_at "zz") => `(tactic| fail)
local macro_rules | `(tactic| walk_at "zz") => `(tactic| fail)
local macro_rules | `(tactic| walk_at "zz") => `(tactic| fail)
local macro_rules | `(tactic| walk_at "zz") => `(tactic| fail)
local macro_rules | `(tactic| walk_at "zz") => `(tactic| fail)
local macro_rules | `(tactic| walk_at "zz") => `(tactic| fail)
local macro_rules | `(tactic| walk_at "zz") => `(tactic| fail)
local macro_rules | `(tactic| walk_at "zz") => `(tactic| fail)
local macro_rules | `(tactic| walk_at "zz") => `(tactic| fail)
local macro_rules | `(tactic| walk_at "zz") => `(tactic| fail)
local macro_rules | `(tactic| walk_at "zz") => `(tactic| fail)
local macro_rules | `(tactic| walk_at "zz") => `(tactic| fail)
local macro_rules | `(tactic| walk_at "zz") => `(tactic| fail)
local macro_rules | `(tactic| walk_at "zz") => `(tactic| fail)
local macro_rules | `(tactic| walk_at "zz") => `(tactic| fail)
local macro_rules | `(tactic| walk_at "zz") => `(tactic| fail)
local macro_rules | `(tactic| walk_at "zz") => `(tactic| fail)
local macro_rules | `(tactic| walk_at "zz") => `(tactic| fail)
local macro_rules | `(tactic| walk_at "zz") => `(tactic| fail)
local macro_rules | `(tactic| walk_at "zz") => `(tactic| fail)
local macro_rules | `(tactic| walk_at "zz") => `(tactic| fail)
local macro_rules | `(tactic| walk_at "zz") => `(tactic| fail)
local macro_rules | `(tactic| walk_at "zz") => `(tactic| fail)
local macro_rules | `(tactic| walk_at "zz") => `(tactic| fail)
local macro_rules | `(tactic| walk_at "zz") => `(tactic| fail)
local macro_rules | `(tactic| walk_at "zz") => `(tactic| fail)
theorem rstUC : True := by
  w_top off
  trivial
local macro_rules | `(tactic| k_mem) => `(tactic| assumption)
local macro_rules | `(tactic| k_all) => `(tactic| with_reducible assumption)
local macro_rules | `(tactic| ktr_enter) => `(tactic| (k_dflt (refine' code_def ?k1 ?k2 ?k3 ?k4 ?k5 ?kA ?kF ?kK ?k6 ?k7 ?k8 ?k9 ?kB ?_ ?c2 ?c3 ?c4 ?c5; (case kA => exact rfl); (case kF => first | exact rfl | assumption); (case kK => first | exact rfl | assumption); (case k1 => k_asm); (case k2 => k_asm); (case k3 => k_asm); (case k4 => k_asm); (case k5 => k_asm); (case k6 => k_is); (case k7 => k_is); (case k8 => ((try dsimp only [topA]); omega)); (case k9 => exact BindsTo.of_eq rfl); (case c5 => decide); (case kB => exact locs rfl); (case c2 => exact rfl); (case c3 => exact rfl); (case c4 => exact rfl); k_whole; intro g' L' h' FG' F' N' B' X' T'; (try dsimp only); (try k_fold))))
local macro_rules | `(tactic| ktd_sub) => `(tactic| (intro p9 hp9; repeat (first | exact hp9 | refine List.mem_cons_of_mem _ ?_)))
local macro_rules | `(tactic| ktd_rel) => `(tactic| first | assumption | (refine' DIn.mono ?hs ?hh; (case hh => assumption); (case hs => ktd_sub)) | (refine' DsIn.mono ?hs ?hh; (case hh => assumption); (case hs => ktd_sub)) | (refine' KsIn.mono ?hs ?hh; (case hh => assumption); (case hs => ktd_sub)))
local macro_rules | `(tactic| ktr_room) => `(tactic| (simp only [depth_deeper, depth_in1, topA] at *; omega))
local macro_rules | `(tactic| ktr_units) => `(tactic| (simp only [units_deeper, units_in1, topA] at *; omega))
local macro_rules | `(tactic| ktr_unf) => `(tactic| (k_dflt (refine' code_defC ?k1 ?k2 ?k3 ?k4 ?k5 ?kA ?kF ?kK ?k6 ?k7 ?k8 ?k9 ?kB ?kD ?_ ?c2 ?c3 ?c4; (case kA => exact rfl); (case kF => first | exact rfl | assumption); (case kK => first | exact rfl | assumption); (case k1 => k_asm); (case k2 => k_asm); (case k3 => k_asm); (case k4 => k_asm); (case k5 => k_asm); (case k6 => k_is); (case k7 => k_is); (case k8 => ((try dsimp only [topA]); omega)); (case k9 => exact BindsTo.of_eq rfl); (case kB => exact rfl); (case kD => decide +kernel); (case c2 => exact rfl); (case c3 => exact rfl); (case c4 => exact rfl); k_whole; intro g' L' h' tk' cells' FG' F' N' Y' B' X' T' l1; (try k_lt l1); k_cells Y'; (try simp only [List.cons_append, List.nil_append] at N'); (try dsimp only); (try k_fold))))
abbrev TbA := Array Value × List (Addr × Obj)
theorem use_compare {fl : Nat} {w : World} {sg : Sg} {t : Tok} {d1 d2 : D} {v1 v2 : Value} {ps : Array Value} {nw news : List (Addr × Obj)} {news' : TbA → List (Addr × Obj)} {p : Program} {loose : List Str} {mean : ExcName → Option Value} {mg mb : Str → Option Value} {dp un : Nat} {gd : Option (List Code)} {env : Env} {outer : List Env} {A₀ : Around} {base h₀ : Heap} {L : Addr} {m : Str → Option Value} {s : Shared} {Q E : Value → Shared → Prop}
    (o1 : d1.ok 3) (o2 : d2.ok 3) (h1 : DIn w nw d1 v1) (h2 : DIn w nw d2 v2) (hps : TriplesOk ps.toList) (hoff : ∀ p ∈ nw, p.1 ≠ 872)
    (B : Below A₀ base outer h₀) (F : Fr h₀ L s.heap m) (X : (kf.heap_1 w.params).In h₀) (N : News h₀ L s.heap news) (T : Top p loose mean mg mb h₀) (hf : env.frame = some L) (hk : env.scope.kind = .function) (hd : dp + 70 < recursionLimit) (hu : un + 300 < cLine) (hG : GB fl s.gens)
    (U : UpdX 872 (tabObj ps) (fun a : TbA => tabObj a.1) nw (fun a => nw ++ a.2) news news')
    (h : ∀ ps' own h' tk' g', TriplesOk ps'.toList → (∀ p ∈ own, ∀ q ∈ news, p.1 ≠ q.1) → GB fl g' → Fr h₀ L h' m → News h₀ L h' (news' (ps', own)) → Q (.bool (cmpD sg d1 d2)) { s with heap := h', toks := tk', gens := g' }) :
    wpAny (model PySem.Challenge.rw_eq0021_01.row.prog w) (topA dp un gd env outer) (call (.ref 884) [.str sg.str t, v1, v2]) Q E s := by
  obtain ⟨pre, u1, u2, u3⟩ := U.split
  have N1 : News h₀ L s.heap ((872, tabObj ps) :: (pre ++ nw)) := news_sub N fun q hq => by
    rw [u2]
    rcases List.mem_cons.mp hq with rfl | hq
    · exact List.mem_append.mpr (.inr (.head _))
    · rcases List.mem_append.mp hq with hq | hq
      · exact List.mem_append.mpr (.inl hq)
      · exact List.mem_append.mpr (.inr (.tail _ hq))
  refine use_call (compare_call w (pre ++ nw) ps sg t d1 d2 v1 v2 o1 o2 (h1.mono fun q hq => List.mem_append_right _ hq) (h2.mono fun q hq => List.mem_append_right _ hq) hps fun q hq => ?_) B F X N1 T hf hk hd hu hG ?_
  · rcases List.mem_append.mp hq with hq | hq
    · exact u1 q hq
    · exact hoff q hq
  · rintro r nw' h' tk' g' ⟨rfl, ps', own, rfl, hps', ho⟩ hG' F' N'
    refine h ps' own h' tk' g' hps' (fun q hq x hx => ?_) hG' F' (news_sub N' fun q hq => ?_)
    · rw [u2] at hx
      rcases List.mem_append.mp hx with hx | hx
      · exact (ho q hq).2 x (List.mem_append_left _ hx)
      · rcases List.mem_cons.mp hx with rfl | hx
        · exact (ho q hq).1
        · exact (ho q hq).2 x (List.mem_append_right _ hx)
    · rw [u3] at hq
      simp only [List.mem_cons, List.mem_append] at hq ⊢
      rcases hq with hq | hq | hq | hq <;> simp [hq]

end Mine

end

section
open PySem PySem.W PyProof.Rows
set_option linter.unusedVariables false
namespace Mine
local macro_rules | `(tactic| walk_at "zz") => `(tactic| fail)
local macro_rules | `(tactic| walk_at "zz") => `(tactic| fail)
local macro_rules | `(tactic| walk_at "zz") => `(tactic| fail)
local macro_rules | `(tactic| walk_at "zz") => `(tactic| fail)
local macro_rules | `(tactic| walk_at "zz") => `(tactic| fail)
local macro_rules | `(tactic| walk_at "zz") => `(tactic| fail)
local macro_rules | `(tactic| walk_at "zz") => `(tactic| fail)
local macro_rules | `(tactic| walk_at "zz") => `(tactic| fail)
local macro_rules | `(tactic| walk_at "zz") => `(tactic| fail)
local macro_rules | `(tactic| walk_at "zz") => `(tactic| fail)
local macro_rules | `(tactic| walk_at "zz") => `(tactic| fail)
local macro_rules | `(tactic| walk_at "zz") => `(tactic| fail)
local macro_rules | `(tactic| walk_at "zz") => `(tactic| fail)
local macro_rules | `(tactic| walk_at "zz") => `(tactic| fail)
local macro_rules | `(tactic| walk_at "zz") => `(tactic| fail)
local macro_rules | `(tactic| walk_at "zz") => `(tactic| fail)
local macro_rules | `(tactic| walk_at "zz") => `(tactic| fail)
local macro_rules | `(tactic| walk_at "zz") => `(tactic| fail)
local macro_rules | `(tactic| walk_at "zz") => `(tactic| fail)
local macro_rules | `(tactic| walk_at "zz") => `(tactic| fail)
local macro_rules | `(tactic| walk_at "zz") => `(tactic| fail)
local macro_rules | `(tactic| walk_at "zz") => `(tactic| fail)
local macro_rules | `(tactic| walk_at "zz") => `(tactic| fail)
local macro_rules | `(tactic| walk_at "zz") => `(tactic| fail)
local macro_rules | `(tactic| walk_at "zz") => `(tactic| fail)
local macro_rules | `(tactic| walk_at "zz") => `(tactic| fail)
local macro_rules | `(tactic| walk_at "zz") => `(tactic| fail)
local macro_rules | `(tactic| walk_at "zz") => `(tactic| fail)
local macro_rules | `(tactic| walk_at "zz") => `(tactic| fail)
local macro_rules | `(tactic| walk_at "zz") => `(tactic| fail)
local macro_rules | `(tactic| walk_at "zz") => `(tactic| fail)
local macro_rules | `(tactic| walk_at "zz") => `(tactic| fail)
local macro_rules | `(tactic| walk_at "zz") => `(tactic| fail)
local macro_rules | `(tactic| walk_at "zz") => `(tactic| fail)
local macro_rules | `(tactic| walk_at "zz") => `(tactic| fail)
local macro_rules | `(tactic| walk_at "zz") => `(tactic| fail)
local macro_rules | `(tactic| walk_at "zz") => `(tactic| fail)
local macro_rules | `(tactic| walk_at "zz") => `(tactic| fail)
local macro_rules | `(tactic| walk_at "zz") => `(tactic| fail)
local macro_rules | `(tactic| walk_at "zz") => `(tactic| fail)
theorem rstPl : True := by
  w_top off
  trivial
local macro_rules | `(tactic| k_mem) => `(tactic| assumption)
local macro_rules | `(tactic| k_all) => `(tactic| with_reducible assumption)
local macro_rules | `(tactic| ktr_enter) => `(tactic| (k_dflt (refine' code_def ?k1 ?k2 ?k3 ?k4 ?k5 ?kA ?kF ?kK ?k6 ?k7 ?k8 ?k9 ?kB ?_ ?c2 ?c3 ?c4 ?c5; (case kA => exact rfl); (case kF => first | exact rfl | assumption); (case kK => first | exact rfl | assumption); (case k1 => k_asm); (case k2 => k_asm); (case k3 => k_asm); (case k4 => k_asm); (case k5 => k_asm); (case k6 => k_is); (case k7 => k_is); (case k8 => ((try dsimp only [topA]); omega)); (case k9 => exact BindsTo.of_eq rfl); (case c5 => decide); (case kB => exact locs rfl); (case c2 => exact rfl); (case c3 => exact rfl); (case c4 => exact rfl); k_whole; intro g' L' h' FG' F' N' B' X' T'; (try dsimp only); (try k_fold))))
local macro_rules | `(tactic| ktd_sub) => `(tactic| (intro p9 hp9; repeat (first | exact hp9 | refine List.mem_cons_of_mem _ ?_)))
local macro_rules | `(tactic| ktd_rel) => `(tactic| first | assumption | (refine' DIn.mono ?hs ?hh; (case hh => assumption); (case hs => ktd_sub)) | (refine' DsIn.mono ?hs ?hh; (case hh => assumption); (case hs => ktd_sub)) | (refine' KsIn.mono ?hs ?hh; (case hh => assumption); (case hs => ktd_sub)))
local macro_rules | `(tactic| ktr_room) => `(tactic| (simp only [depth_deeper, depth_in1, topA] at *; omega))
local macro_rules | `(tactic| ktr_units) => `(tactic| (simp only [units_deeper, units_in1, topA] at *; omega))
local macro_rules | `(tactic| ktr_unf) => `(tactic| (k_dflt (refine' code_defC ?k1 ?k2 ?k3 ?k4 ?k5 ?kA ?kF ?kK ?k6 ?k7 ?k8 ?k9 ?kB ?kD ?_ ?c2 ?c3 ?c4; (case kA => exact rfl); (case kF => first | exact rfl | assumption); (case kK => first | exact rfl | assumption); (case k1 => k_asm); (case k2 => k_asm); (case k3 => k_asm); (case k4 => k_asm); (case k5 => k_asm); (case k6 => k_is); (case k7 => k_is); (case k8 => ((try dsimp only [topA]); omega)); (case k9 => exact BindsTo.of_eq rfl); (case kB => exact rfl); (case kD => decide +kernel); (case c2 => exact rfl); (case c3 => exact rfl); (case c4 => exact rfl); k_whole; intro g' L' h' tk' cells' FG' F' N' Y' B' X' T' l1; (try k_lt l1); k_cells Y'; (try simp only [List.cons_append, List.nil_append] at N'); (try dsimp only); (try k_fold))))
def D.nod : Nat → D → Prop
  | 0, _ => False
  | n + 1, .list ds => ∀ x ∈ ds, D.nod n x
  | n + 1, .dict ks => (ks.map (·.1)).Nodup ∧ ∀ x ∈ ks, D.nod n x.2
  | _ + 1, _ => True
theorem DIn.nod {w : World} {nw : List (Addr × Obj)} : ∀ (n : Nat) {d : D} {v : Value}, d.ok n → DIn w nw d v → d.nod n
  | 0, _, _, h, _ => h.elim
  | n + 1, d, v, ho, h => by
    cases d with
    | list ds =>
      unfold DIn at h
      obtain ⟨a, vs, c, _, _, _, hd⟩ := h
      intro x hx
      obtain ⟨v', h'⟩ := hd.mem x hx
      exact DIn.nod n (ho x hx) h'
    | dict ks =>
      unfold DIn at h
      obtain ⟨a, es, c, _, _, _, _, kvs, hk, hd⟩ := h
      refine ⟨?_, fun x hx => ?_⟩
      · obtain ⟨_, _, _, _, _, _, nd⟩ := hk
        rw [KsIn.keys hd] at nd
        have e : ks.map (·.1.str) = (ks.map (·.1)).map Key.str := by simp
        rw [e] at nd
        exact (List.pairwise_map.mp nd).imp fun h e => h (congrArg _ e)
      · obtain ⟨v', h'⟩ := hd.mem x hx
        exact DIn.nod n (ho x hx) h'
    | num _ => trivial
    | txt _ => trivial
    | tru _ => trivial
    | nil => trivial
theorem eqK_iff : ∀ {xs ys : List (Key × D)}, eqK xs ys = true ↔ ∀ p ∈ xs, ∃ q, ys.find? (fun q => q.1 = p.1) = some q ∧ eqD p.2 q.2 = true
  | [], ys => by simp [eqK]
  | (k, d) :: r, ys => by
    rw [eqK, Bool.and_eq_true, eqK_iff (xs := r)]
    constructor
    · rintro ⟨h1, h2⟩ p hp
      rcases List.mem_cons.mp hp with rfl | hp
      · cases e : ys.find? (fun q => q.1 = k) with
        | none => rw [e] at h1; cases h1
        | some q => rw [e] at h1; exact ⟨q, rfl, h1⟩
      · exact h2 p hp
    · intro h
      refine ⟨?_, fun p hp => h p (.tail _ hp)⟩
      obtain ⟨q, e, h'⟩ := h (k, d) (.head _)
      simp only [e]; exact h'
theorem find_nodup : ∀ {ys : List (Key × D)} {p : Key × D}, (ys.map (·.1)).Nodup → p ∈ ys → ys.find? (fun q => q.1 = p.1) = some p
  | y :: ys, p, nd, h => by
    rw [List.map_cons, List.nodup_cons] at nd
    rcases List.mem_cons.mp h with rfl | h
    · simp
    · have ne : ¬ y.1 = p.1 := fun e => nd.1 (e ▸ List.mem_map_of_mem h)
      rw [List.find?_cons_of_neg (by simpa using ne)]
      exact find_nodup nd.2 h
theorem eqD_symT : ∀ (n : Nat) {d1 d2 : D}, d1.ok n → d2.nod n → eqD d1 d2 = true → eqD d2 d1 = true
  | 0, _, _, h, _, _ => h.elim
  | n + 1, d1, d2, o, w, h => by
    cases d1 with
    | list xs =>
      cases d2 with
      | list ys =>
        simp only [eqD, Bool.and_eq_true, beq_iff_eq] at h ⊢
        obtain ⟨hl, h⟩ := h
        refine ⟨hl.symm, ?_⟩
        have go : ∀ (xs ys : List D), (∀ x ∈ xs, x.ok n) → (∀ y ∈ ys, y.nod n) → xs.length = ys.length → eqL xs ys = true → eqL ys xs = true := by
          intro xs
          induction xs with
          | nil => intro ys _ _ hl _; cases ys with
            | nil => simp [eqL]
            | cons y ys => simp at hl
          | cons x xs ih => intro ys h1 h2 hl h; cases ys with
            | nil => simp at hl
            | cons y ys =>
              simp only [eqL, Bool.and_eq_true] at h ⊢
              exact ⟨eqD_symT n (h1 x (.head _)) (h2 y (.head _)) h.1, ih ys (fun a ha => h1 a (.tail _ ha)) (fun a ha => h2 a (.tail _ ha)) (by simpa using hl) h.2⟩
        exact go xs ys o w hl h
      | _ => simp [eqD] at h
    | dict xs =>
      cases d2 with
      | dict ys =>
        simp only [eqD, Bool.and_eq_true, decide_eq_true_eq] at h ⊢
        obtain ⟨hp, h⟩ := h
        refine ⟨hp.symm, ?_⟩
        rw [eqK_iff] at h ⊢
        intro p hpm
        have : p.1.str ∈ xs.map (·.1.str) := hp.symm.subset (List.mem_map.mpr ⟨p, hpm, rfl⟩)
        obtain ⟨q, hq, e⟩ := List.mem_map.mp this
        have e := Key.str_inj e
        have fs : (xs.find? (fun x => x.1 = p.1)).isSome = true := by rw [List.find?_isSome]; exact ⟨q, hq, by simpa using e⟩
        obtain ⟨q', hq'⟩ := Option.isSome_iff_exists.mp fs
        refine ⟨q', hq', ?_⟩
        have mq := List.mem_of_find?_eq_some hq'
        have eq' : q'.1 = p.1 := by simpa using List.find?_some hq'
        obtain ⟨r, hr, h'⟩ := h q' mq
        rw [eq', find_nodup w.1 hpm] at hr
        cases hr
        exact eqD_symT n (o q' mq) (w.2 _ hpm) h'
      | _ => simp [eqD] at h
    | num a => cases d2 <;> simp [eqD] at h ⊢; exact h.symm
    | txt a => cases d2 <;> simp [eqD] at h ⊢; exact h.symm
    | tru a => cases d2 <;> simp [eqD] at h ⊢; exact h.symm
    | nil => cases d2 <;> simp [eqD] at h ⊢
theorem eqD_sym {n : Nat} {d1 d2 : D} (o1 : d1.ok n) (o2 : d2.ok n) (w1 : d1.nod n) (w2 : d2.nod n) : eqD d1 d2 = eqD d2 d1 := by
  rw [Bool.eq_iff_iff]
  exact ⟨eqD_symT n o1 w2, eqD_symT n o2 w1⟩
theorem cmp_due (sg : Sg) (d1 d2 : D) : cmpD sg d1 d2 = dueD sg d1 d2 := by
  cases d1 <;> cases d2 <;> cases sg <;> simp only [cmpD, sameKind, holdsD, dueD, lessD, eqHolds, cmpInt, cmpTxt, eqD, Bool.false_or, Bool.false_eq_true, if_false, if_true]
  · rename_i a b; rw [Bool.eq_iff_iff]; simp; omega
  · rename_i a b; rw [Bool.eq_iff_iff]; simp; omega
  · rename_i a b; cases a <;> cases b <;> rfl
  · rename_i a b; cases a <;> cases b <;> rfl
theorem cmp_turn {sg : Sg} {d1 d2 : D} (h : eqD d1 d2 = eqD d2 d1) : cmpD sg d1 d2 = cmpD sg.turn d2 d1 := by
  rw [cmp_due, cmp_due]
  cases sg <;> simp only [dueD, Sg.turn, h]
theorem pickV_empty {sg : Sg} {ds1 : List D} : ∀ {ds0 : List D} {vs0 : List Value}, vs0.length = ds0.length → (pickV sg ds1 ds0 vs0).isEmpty = !(ds0.any fun d => ds1.any fun e => cmpD sg d e)
  | [], [], _ => rfl
  | [], _ :: _, h => by simp at h
  | _ :: _, [], h => by simp at h
  | d :: ds, v :: vs, h => by
    have ih := pickV_empty (sg := sg) (ds1 := ds1) (ds0 := ds) (vs0 := vs) (by simpa using h)
    cases e : ds1.any fun e => cmpD sg d e <;> simp [pickV, e, ih]
theorem want_turn {sg : Sg} {ds0 ds1 : List D} {vs0 vs1 : List Value} {th : Value} (l0 : vs0.length = ds0.length) (l1 : vs1.length = ds1.length) (hs : ∀ d ∈ ds0, ∀ e ∈ ds1, eqD d e = eqD e d) :
    (wantV sg ds0 vs0 ds1 th).isEmpty = (wantV sg.turn ds1 vs1 ds0 th).isEmpty := by
  have ex : ∀ {α β : Type} {a : List α} {b : List β}, a.length = b.length → a.isEmpty = b.isEmpty := fun {α β a b} h => by cases a <;> cases b <;> simp_all
  have e0 := ex l0
  have e1 := ex l1
  have et : ∀ b, eqHolds sg.turn b = eqHolds sg b := fun b => by cases sg <;> rfl
  unfold wantV
  rw [← e0, e1, et, Bool.or_comm ds1.isEmpty, Bool.and_comm ds1.isEmpty]
  cases h0 : vs0.isEmpty <;> cases h1 : ds1.isEmpty
  · simp only [Bool.or_false, Bool.false_eq_true, if_false]
    rw [pickV_empty l0, pickV_empty l1]
    congr 1
    rw [Bool.eq_iff_iff]
    simp only [List.any_eq_true]
    constructor
    · rintro ⟨d, hd, e, he, h⟩
      exact ⟨e, he, d, hd, by rw [← cmp_turn (hs d hd e he)]; exact h⟩
    · rintro ⟨e, he, d, hd, h⟩
      exact ⟨d, hd, e, he, by rw [cmp_turn (hs d hd e he)]; exact h⟩
  · rw [h1] at e1
    cases h : eqHolds sg (false && true) <;> simp [h, h0, e1]
  · rw [h1] at e1
    cases h : eqHolds sg (true && false) <;> simp [h, h0, e1]
  · rw [h1] at e1
    cases h : eqHolds sg (true && true) <;> simp [h, h0, e1]

end Mine

end

section
open PySem PySem.W PyProof.Rows
set_option linter.unusedVariables false
namespace Mine
local macro_rules | `(tactic| walk_at "zz") => `(tactic| fail)
local macro_rules | `(tactic| walk_at "zz") => `(tactic| fail)
local macro_rules | `(tactic| walk_at "zz") => `(tactic| fail)
local macro_rules | `(tactic| walk_at "zz") => `(tactic| fail)
local macro_rules | `(tactic| walk_at "zz") => `(tactic| fail)
local macro_rules | `(tactic| walk_at "zz") => `(tactic| fail)
local macro_rules | `(tactic| walk_at "zz") => `(tactic| fail)
local macro_rules | `(tactic| walk_at "zz") => `(tactic| fail)
local macro_rules | `(tactic| walk_at "zz") => `(tactic| fail)
local macro_rules | `(tactic| walk_at "zz") => `(tactic| fail)
local macro_rules | `(tactic| walk_at "zz") => `(tactic| fail)
local macro_rules | `(tactic| walk_at "zz") => `(tactic| fail)
local macro_rules | `(tactic| walk_at "zz") => `(tactic| fail)
local macro_rules | `(tactic| walk_at "zz") => `(tactic| fail)
local macro_rules | `(tactic| walk_at "zz") => `(tactic| fail)
local macro_rules | `(tactic| walk_at "zz") => `(tactic| fail)
local macro_rules | `(tactic| walk_at "zz") => `(tactic| fail)
local macro_rules | `(tactic| walk_at "zz") => `(tactic| fail)
local macro_rules | `(tactic| walk_at "zz") => `(tactic| fail)
local macro_rules | `(tactic| walk_at "zz") => `(tactic| fail)
theorem rstFQ : True := by
  w_top off
  trivial
local macro_rules | `(tactic| k_mem) => `(tactic| assumption)
local macro_rules | `(tactic| k_all) => `(tactic| with_reducible assumption)
local macro_rules | `(tactic| ktr_enter) => `(tactic| (k_dflt (refine' code_def ?k1 ?k2 ?k3 ?k4 ?k5 ?kA ?kF ?kK ?k6 ?k7 ?k8 ?k9 ?kB ?_ ?c2 ?c3 ?c4 ?c5; (case kA => exact rfl); (case kF => first | exact rfl | assumption); (case kK => first | exact rfl | assumption); (case k1 => k_asm); (case k2 => k_asm); (case k3 => k_asm); (case k4 => k_asm); (case k5 => k_asm); (case k6 => k_is); (case k7 => k_is); (case k8 => ((try dsimp only [topA]); omega)); (case k9 => exact BindsTo.of_eq rfl); (case c5 => decide); (case kB => exact locs rfl); (case c2 => exact rfl); (case c3 => exact rfl); (case c4 => exact rfl); k_whole; intro g' L' h' FG' F' N' B' X' T'; (try dsimp only); (try k_fold))))
local macro_rules | `(tactic| ktd_sub) => `(tactic| (intro p9 hp9; repeat (first | exact hp9 | refine List.mem_cons_of_mem _ ?_)))
local macro_rules | `(tactic| ktd_rel) => `(tactic| first | assumption | (refine' DIn.mono ?hs ?hh; (case hh => assumption); (case hs => ktd_sub)) | (refine' DsIn.mono ?hs ?hh; (case hh => assumption); (case hs => ktd_sub)) | (refine' KsIn.mono ?hs ?hh; (case hh => assumption); (case hs => ktd_sub)))
local macro_rules | `(tactic| ktr_room) => `(tactic| (simp only [depth_deeper, depth_in1, topA] at *; omega))
local macro_rules | `(tactic| ktr_units) => `(tactic| (simp only [units_deeper, units_in1, topA] at *; omega))
local macro_rules | `(tactic| ktr_unf) => `(tactic| (k_dflt (refine' code_defC ?k1 ?k2 ?k3 ?k4 ?k5 ?kA ?kF ?kK ?k6 ?k7 ?k8 ?k9 ?kB ?kD ?_ ?c2 ?c3 ?c4; (case kA => exact rfl); (case kF => first | exact rfl | assumption); (case kK => first | exact rfl | assumption); (case k1 => k_asm); (case k2 => k_asm); (case k3 => k_asm); (case k4 => k_asm); (case k5 => k_asm); (case k6 => k_is); (case k7 => k_is); (case k8 => ((try dsimp only [topA]); omega)); (case k9 => exact BindsTo.of_eq rfl); (case kB => exact rfl); (case kD => decide +kernel); (case c2 => exact rfl); (case c3 => exact rfl); (case c4 => exact rfl); k_whole; intro g' L' h' tk' cells' FG' F' N' Y' B' X' T' l1; (try k_lt l1); k_cells Y'; (try simp only [List.cons_append, List.nil_append] at N'); (try dsimp only); (try k_fold))))
local macro_rules | `(tactic| walk_at "call ref") => `(tactic| (k_here; (with_reducible show wpAny _ _ (call (Value.ref 956) _) _ _ _); k_dflt (refine' use_call (kind_call _ _ _ _ ?hD) ?B ?F ?X ?N ?T ?hf ?hk ?hd ?hu ?hG ?_; (case B => k_asm); (case F => k_asm); (case X => k_asm); (case N => k_asm); (case T => k_asm); (case hf => first | exact rfl | assumption); (case hk => first | exact rfl | assumption); (case hG => assumption); (case hD => ktd_rel); (case hd => ktr_room); (case hu => ktr_units); k_whole; intro r9 nw9 h9 tk9 g9 p9 hG9 F9 N9; obtain ⟨p9, q9⟩ := p9; obtain ⟨t9, p9⟩ := p9; replace q9 := Eq.symm q9; subst q9; subst p9; (try dsimp only); (try k_fold))))
local macro_rules | `(tactic| walk_at "eval ListComp") => `(tactic| (k_here; k_dflt (refine ListComp_G (by k_asm) (by assumption) (by with_unfolding_all rfl) (by decide) (by rfl) (by decide) (by rfl) ?_)))
local macro_rules | `(tactic| walk_at "eval DictComp") => `(tactic| (k_here; k_dflt (refine DictComp_G (by k_asm) (by assumption) (by with_unfolding_all rfl) (by decide) (by rfl) (by decide) (by rfl) ?_)))
local macro_rules | `(tactic| walk_at "exec Assign cons ListComp") => `(tactic| (k_here; k_dflt (refine Assign_ListComp_G (by k_asm) (by assumption) (by rfl) (by with_unfolding_all rfl) (by with_unfolding_all rfl) (by decide) (by rfl) (by decide) (by rfl) (by rfl) (by rfl) ?_)))
local macro_rules | `(tactic| walk_at "exec Assign cons DictComp") => `(tactic| (k_here; k_dflt (refine Assign_DictComp_G (by k_asm) (by assumption) (by rfl) (by with_unfolding_all rfl) (by with_unfolding_all rfl) (by decide) (by rfl) (by decide) (by rfl) (by rfl) (by rfl) ?_)))
local macro_rules | `(tactic| k_room) => `(tactic| ((try simp only [depth_mark, depth_under_make, depth_under_kw, depth_in1, depth_deeper, depth_caller, topA]); omega))
local macro_rules | `(tactic| k_units) => `(tactic| ((try simp only [units_deeper, units_in1, topA]); omega))
local macro_rules | `(tactic| k_mem) => `(tactic| first | assumption | exact List.Mem.head _ | (refine' List.Mem.tail _ ?_; k_mem))
local macro_rules | `(tactic| ktr_enter) => `(tactic| (k_dflt (refine' code_defL ?k1 ?k2 ?k3 ?k4 ?k5 ?kA ?kF ?kK ?k6 ?k7 ?k8 ?k9 ?kB ?_ ?c2 ?c3 ?c4 ?c5; (case kA => exact rfl); (case kF => first | exact rfl | assumption); (case kK => first | exact rfl | assumption); (case k1 => k_asm); (case k2 => k_asm); (case k3 => k_asm); (case k4 => k_asm); (case k5 => k_asm); (case k6 => k_is); (case k7 => k_is); (case k8 => ((try dsimp only [topA]); omega)); (case k9 => exact BindsTo.of_eq rfl); (case c5 => decide); (case kB => exact locs rfl); (case c2 => exact rfl); (case c3 => exact rfl); (case c4 => exact rfl); k_whole; intro g' L' h' FG' F' N' B' X' T' lx9; (try dsimp only); (try k_fold))))
local macro_rules | `(tactic| k_enter) => `(tactic| first | (refine' code_def ?k1 ?k2 ?k3 ?k4 ?k5 ?kA ?kF ?kK ?k6 ?k7 ?k8 ?k9 ?kB ?_ ?c2 ?c3 ?c4 ?c5; (case kA => exact rfl); (case kF => exact rfl); (case kK => exact rfl); (case k1 => k_asm); (case k2 => k_asm); (case k3 => k_asm); (case k4 => k_asm); (case k5 => k_asm); (case k6 => k_is); (case k7 => k_is); (case k8 => k_room); (case k9 => first | exact BindsTo.of_eq rfl | exact binds_K (by k_in) rfl (by k_is) rfl rfl rfl | fail "k_enter: no rule for these arguments"); (case c5 => decide); (case kB => exact locs rfl); (case c2 => exact rfl); (case c3 => exact rfl); (case c4 => exact rfl); k_whole; intro g' L' h' FG' F' N' B' X' T'; (have lL9 := ltN (Nat.lt_of_lt_of_le (Fr.ns FG').lt (Fr.above F'))); (try dsimp only); (try k_lift B'); (try k_fold)) | (refine' code_defC ?k1 ?k2 ?k3 ?k4 ?k5 ?kA ?kF ?kK ?k6 ?k7 ?k8 ?k9 ?kB ?kD ?_ ?c2 ?c3 ?c4; (case kA => exact rfl); (case kF => exact rfl); (case kK => exact rfl); (case k1 => k_asm); (case k2 => k_asm); (case k3 => k_asm); (case k4 => k_asm); (case k5 => k_asm); (case k6 => k_is); (case k7 => k_is); (case k8 => k_room); (case k9 => first | exact BindsTo.of_eq rfl | exact binds_K (by k_in) rfl (by k_is) rfl rfl rfl | fail "k_enter: no rule for these arguments"); (case kB => exact rfl); (case kD => decide +kernel); (case c2 => exact rfl); (case c3 => exact rfl); (case c4 => exact rfl); k_whole; intro g' L' h' tk' cells' FG' F' N' Y' B' X' T' l1; (have lL9 := ltN (Nat.lt_of_lt_of_le (Fr.ns FG').lt (Fr.above F'))); (try k_lt l1); k_cells Y'; (try simp only [List.cons_append, List.nil_append] at N'); (try dsimp only); (try k_lift B'); (try k_fold)))
local macro_rules | `(tactic| k_all) => `(tactic| first | (with_reducible assumption) | (refine' ltAll_neX ?h ?b; (case h => with_reducible assumption); (case b => omega)))
local macro_rules | `(tactic| walk_at "getMethod ref") => `(tactic| (k_here; (with_reducible show wpAny _ _ (getMethod (Value.ref _) (PySem.Str.ofString "get") _) _ _ _); k_dflt (refine' dict_method ?N ?m PySem.F.slot_dict_get PySem.F.type_dict_get ?_; (case N => k_asm); (case m => k_mem))))
local macro_rules | `(tactic| walk_at "call builtin:dict.get") => `(tactic| (k_here; (with_reducible show wpAny _ _ (call (Value.builtin _) [Value.ref _, Value.str _ _, _]) _ _ _); k_dflt (refine' get_led ?N ?m ?d ?s ?v ?_; (case N => k_asm); (case m => k_mem); (case d => with_reducible assumption); (case s => with_reducible assumption); (case v => first | exact getD_some (by with_reducible assumption) | exact getD_none (by with_reducible assumption)); k_whole; intro tk9)))
local macro_rules | `(tactic| walk_at "compareOp Is") => `(tactic| (k_here; (with_reducible show wpAny _ _ (compareOp CmpOp.Is _ (Value.ref _)) _ _ _); k_dflt (refine' is_data (d := _) ?F ?N ?D ?X ?k ?_; (case F => k_asm); (case N => k_asm); (case D => ktd_rel); (case X => k_asm); (case k => k_is); k_whole)))
local macro_rules | `(tactic| walk_at "enterC") => `(tactic| (refine' code_defC ?k1 ?k2 ?k3 ?k4 ?k5 ?kA ?kF ?kK ?k6 ?k7 ?k8 ?k9 ?kB ?kD ?_ ?c2 ?c3 ?c4; (case kA => exact rfl); (case kF => first | exact rfl | assumption); (case kK => first | exact rfl | assumption); (case k1 => k_asm); (case k2 => k_asm); (case k3 => k_asm); (case k4 => k_asm); (case k5 => k_asm); (case k6 => k_is); (case k7 => k_is); (case k8 => ((try dsimp only [topA]); omega)); (case k9 => exact BindsTo.of_eq rfl); (case kB => exact rfl); (case kD => decide +kernel); (case c2 => exact rfl); (case c3 => exact rfl); (case c4 => exact rfl); k_whole; intro g' L' h' tk' cells' FG' F' N' Y' B' X' T' l1; (have lL9 := ltN (Nat.lt_of_lt_of_le (Fr.ns FG').lt (Fr.above F'))); (have lZ9 := l1); (try k_lt l1); k_cells Y'; (try simp only [List.cons_append, List.nil_append] at N'); (try dsimp only); (try k_fold)))
local macro_rules | `(tactic| walk_at "eval GeneratorExp") => `(tactic| (k_here; refine Halt.mk' ?_))
local macro_rules | `(tactic| k_handed) => `(tactic| first | exact DIn.handed (by with_reducible assumption) | (simp only [handedIn]; done) | decide +kernel | rfl)
local macro_rules | `(tactic| walk_at "truthy ref") => `(tactic| (k_here; (with_reducible show wpAny _ _ (truthy (Value.ref _)) _ _ _); k_dflt (refine' truthy_led ?N ?hm ?hf ?hb ?_; (case N => k_asm); (case hm => k_mem); (case hf => first | exact Nat.lt_of_le_of_lt (by with_reducible assumption) (by decide) | (rw [List.length_map]; exact Nat.lt_of_le_of_lt (by with_reducible assumption) (by decide))); (case hb => first | exact snoc_ne _ _ | rfl); k_whole; intro tk9)))
local macro_rules | `(tactic| walk_at "call ref") => `(tactic| (k_here; (with_reducible show wpAny _ _ (call (Value.ref 863) _) _ _ _); k_dflt (refine' use_call (eqHolds_call _ _ _ _ _) ?B ?F ?X ?N ?T ?hf ?hk ?hd ?hu ?hG ?_; (case B => k_asm); (case F => k_asm); (case X => k_asm); (case N => k_asm); (case T => k_asm); (case hf => first | exact rfl | assumption); (case hk => first | exact rfl | assumption); (case hG => assumption); (case hd => k_room); (case hu => k_units); k_whole; intro r9 nw9 h9 tk9 g9 p9 hG9 F9 N9; obtain ⟨p9, q9⟩ := p9; replace q9 := Eq.symm q9; subst q9; subst p9; (try dsimp only); (try k_fold))))
local macro_rules | `(tactic| walk_at "eval ListComp") => `(tactic| (k_here; (with_reducible show wpAny _ _ (eval (Expr.ListComp _ [Comprehension.mk _ _ [_] _] _ _) _) _ _ _); k_dflt (refine ListComp_C (by k_asm) (by assumption) (by with_unfolding_all rfl) (fun _ => by with_unfolding_all rfl) (fun _ => by with_unfolding_all rfl) (by rfl) (by decide) (by with_unfolding_all rfl) ?_)))
local macro_rules | `(tactic| walk_at "call builtin:any") => `(tactic| (k_here; refine Halt.mk' ?_))
local macro_rules | `(tactic| walk_at "getMethod ref") => `(tactic| (k_here; (with_reducible show wpAny _ _ (getMethod (Value.ref _) (PySem.Str.ofString "find") _) _ _ _); k_dflt (refine' find_method ?F ?X ?N ?T' ?hr ?hs ?_; (case F => k_asm); (case X => k_asm); (case N => k_asm); (case T' => k_asm); (case hr => with_reducible assumption); (case hs => ktd_sub); k_whole; intro f9 hf9 ho9; (try dsimp only); (try k_fold))))
local macro_rules | `(tactic| walk_at "call ref") => `(tactic| (k_here; (with_reducible show wpAny _ _ (call (Value.ref _) [Value.ref _, Value.ref _]) _ _ _); k_dflt (refine' use_call (FindOk.use ?e9 ?s9 ?a9 ?b9 ?c9 ?d9) ?B ?F ?X ?N ?T ?hf ?hk ?hd ?hu ?hG ?_; (case e9 => with_reducible assumption); (case B => k_asm); (case F => k_asm); (case X => k_asm); (case N => k_asm); (case T => k_asm); (case hf => first | exact rfl | assumption); (case hk => first | exact rfl | assumption); (case hG => assumption); (case s9 => ktd_sub); (case a9 => (refine' DatAt.mono ?sZ ?hZ; (case hZ => with_reducible assumption); (case sZ => ktd_sub))); (case c9 => with_reducible assumption); (case b9 => k_mem); (case d9 => with_reducible assumption); (case hd => k_room); (case hu => k_units); k_whole; intro r9 nw9 h9 tk9 g9 p9 hG9 F9 N9; obtain ⟨own9, R9, xs9, c9, q9, p9, m9, dat9, fr9⟩ := p9; subst q9; subst p9; (try dsimp only); (try k_fold))))
local macro_rules | `(tactic| walk_at "eval Name") => `(tactic| (k_here; (with_reducible show wpAny _ _ (eval (Expr.Name _ _) (genEnv _ _ _ _ _ _)) _ _ _); k_dflt (refine' gname_L ?F ?L ?v ?_ ?a ?b ?c; (case b => rfl); (case a => rfl); (case c => decide); (case F => k_asm); (case L => rfl); (case v => with_reducible assumption); k_whole)))
local macro_rules | `(tactic| walk_at "eval Name") => `(tactic| (k_here; (with_reducible show wpAny _ _ (eval (Expr.Name _ _) (genEnv _ _ _ _ _ _)) _ _ _); k_dflt (refine' gname_F ?N ?l ?m ?d ?_ ?a ?b ?c ?e; (case b => rfl); (case a => rfl); (case c => decide); (case e => decide); (case N => k_asm); (case l => rfl); (case m => k_mem); (case d => with_reducible assumption); k_whole)))
local macro_rules | `(tactic| walk_at "eval Name") => `(tactic| (k_here; (with_reducible show wpAny _ _ (eval (Expr.Name _ _) (genEnv _ _ _ _ _ _)) _ _ _); k_dflt (refine' gname_K ?F ?X ?T ?g ?v ?_ ?a ?b ?c; (case b => rfl); (case a => rfl); (case c => decide); (case F => k_asm); (case X => k_asm); (case T => k_asm); (case g => rfl); (case v => k_is); k_whole)))
local macro_rules | `(tactic| k_upd) => `(tactic| first | exact UpdX.head | (refine' UpdX.tail ?a ?b; (case a => k_ne); (case b => k_upd)))
local macro_rules | `(tactic| walk_at "pyIter ref") => `(tactic| (k_here; refine Halt.mk' ?_))
local macro_rules | `(tactic| walk_at "call ref") => `(tactic| (k_here; (with_reducible show wpAny _ _ (call (Value.ref 884) _) _ _ _); k_dflt (refine' use_compare ?o1 ?o2 ?h1 ?h2 ?hp ?ho ?B ?F ?X ?N ?T ?hf ?hk ?hd ?hu ?hG ?U ?_; (case B => k_asm); (case F => k_asm); (case X => k_asm); (case N => k_asm); (case T => k_asm); (case U => k_upd); (case hf => first | exact rfl | assumption); (case hk => first | exact rfl | assumption); (case hG => assumption); (case h1 => ktd_rel); (case h2 => ktd_rel); (case o1 => assumption); (case o2 => assumption); (case hp => assumption); (case ho => with_reducible assumption); (case hd => k_room); (case hu => k_units); k_whole; intro ps9 own9 h9 tk9 g9 hp9 ho9 hG9 F9 N9; (try dsimp only at N9); (try dsimp only); (try k_fold))))
theorem DatsAt.sel {w : World} {nw : List (Addr × Obj)} {sg : Sg} {ds1 : List D} : ∀ {ds : List D} {xs : List Addr} {vs : List Value}, DatsAt w nw xs vs → DatsAt w nw (selA sg ds1 ds xs) (pickV sg ds1 ds vs)
  | [], [], [], _ => trivial
  | [], _ :: _, _ :: _, _ => trivial
  | _ :: _, [], [], _ => trivial
  | d :: ds, x :: xs, v :: vs, h => by
    simp only [selA, pickV]
    split
    · exact ⟨h.1, DatsAt.sel h.2⟩
    · exact DatsAt.sel h.2
  | [], [], _ :: _, h => h.elim
  | [], _ :: _, [], h => h.elim
  | _ :: _, [], _ :: _, h => h.elim
  | _ :: _, _ :: _, [], h => h.elim
set_option maxRecDepth 100000 in
set_option maxHeartbeats 8000000 in
theorem query_operand (w : World) (nw : List (Addr × Obj)) (ps qs : Array Value) (ex a f v R0 th : Addr) (sg : Sg) (xs0 : List Addr) (vs0 vs1 : List Value) (c0 : Nat) (ds0 ds1 : List D) (es : List DictEntry) (n : Nat) (kvs : List (Str × Value))
    (hex : ExpAt w nw ex f v sg) (ha : DatAt w nw a (.ref th)) (hth : (th, dictObj es n) ∈ nw) (hdo : (dictObj es n).IsDictOf (PySem.strKind PP w) kvs) (hs : (th == sysModules) = false) (hr : PthAt w nw kvs v vs1)
    (h0 : (R0, listObj (xs0.map Value.ref) c0) ∈ nw) (hd0 : DatsAt w nw xs0 vs0) (hn0 : vs0.length ≤ 3) (hn1 : vs1.length ≤ 3) (hD0 : DsIn w nw ds0 vs0) (hD1 : DsIn w nw ds1 vs1) (ok0 : ∀ d ∈ ds0, d.ok 3) (ok1 : ∀ d ∈ ds1, d.ok 3)
    (hps : TriplesOk ps.toList) (hqs : TriplesOk qs.toList) (hoff : ∀ p ∈ nw, p.1 ≠ 872 ∧ p.1 ≠ 915) :
    CallsTo w 918 [.ref ex, .ref a, .ref R0] ((872, tabObj ps) :: (915, tabObj qs) :: nw) 250 2500 (fun r nw' => ∃ own R xs c ps' qs', r = .ref R ∧ nw' = (872, tabObj ps') :: (915, tabObj qs') :: (nw ++ own) ∧ TriplesOk ps'.toList ∧ TriplesOk qs'.toList ∧
      (R, listObj (xs.map Value.ref) c) ∈ nw ++ own ∧ DatsAt w (nw ++ own) xs (wantV sg ds0 vs0 ds1 (.ref th)) ∧ ∀ p ∈ own, p.1 ≠ 872 ∧ p.1 ≠ 915 ∧ ∀ q ∈ nw, p.1 ≠ q.1) := by
  have hex9 := hex
  have ha9 := ha
  obtain ⟨xd, xn, xt1, xt2, xt3, xst, hx1, hx2⟩ := hex
  obtain ⟨ad, an, at1, at2, at3, apv, acv, ha1, ha2⟩ := ha
  intro fl p loose mean mg mb dp un gd env outer A₀ base h₀ L m s Q E HA hG hret
  obtain ⟨B, F, X, N, T, hf, hk, hd, hu⟩ := HA
  refine wpAny_call ?_
  walk_at "enterC"
  rename_i gF LF hF tkF FGF FF BF XF TF lF lLF lZF oF o2F dF d2F NF
  k_steps
  rename_i f9 hf9 ho9
  refine found_mono (fl := fl) (vs := vs1) ((LF + 1 + 1, oF) :: (LF + 1, o2F) :: (872, tabObj ps) :: (915, tabObj qs) :: nw) FF ?hA ?_
  case hA =>
    rcases hf9 with rfl | rfl
    all_goals k_steps
    all_goals exact ⟨_, _, _, _, _, _, _, rfl, rfl, by assumption, by k_asm, by k_asm, by assumption, by assumption, by assumption⟩
  clear hf9 ho9
  intro h9 tk9 g9 own9 R9 xs9 c9 hG9 F9 N9 m9 dat9 fr9
  obtain ⟨nw2, enw2⟩ : ∃ x, x = nw ++ own9 := ⟨_, rfl⟩
  have sub2 : ∀ q ∈ nw, q ∈ nw2 := fun q hq => by rw [enw2]; exact List.mem_append_left _ hq
  have dat9' : DatsAt w nw2 xs9 vs1 := dat9.mono fun q hq => by rw [enw2]; exact List.mem_append_right _ hq
  have m9' : (R9, listObj (List.map Value.ref xs9) c9) ∈ nw2 := by rw [enw2]; exact List.mem_append_right _ m9
  simp only [List.cons_append, ← enw2] at N9
  have hx1' := sub2 _ hx1
  have hx2' := sub2 _ hx2
  have h0' := sub2 _ h0
  refine src_list hG9 rfl F9 N9 (by k_mem) ?_
  intro hp0
  refine GRest.turns (fun i oD nwx => nwx = (LF + 1 + 1, oF) :: (LF + 1, o2F) :: (872, tabObj ps) :: (915, tabObj qs) :: nw2 ∧ oD = LCg.lst (vs1.take i)) ⟨rfl, by simp⟩ ?hendZ ?hstepZ
  case hstepZ =>
    rintro i hi oD nwx ⟨rfl, rfl⟩ v0 I0 oI0 C0 oC0 D0 m0 h0 tk0 g0 E0 Post0 e0 hC0 hx0 F0 N0 off0 ne0 hG0 hPost0
    obtain ⟨x0, ex0, rfl⟩ : ∃ x, xs9[i]? = some x ∧ Value.ref x = v0 := by
      have := e0
      simp only [List.getElem?_toArray, List.getElem?_map, Option.map_eq_some_iff] at this
      exact this
    obtain ⟨v9, ev9, dat0⟩ := dat9'.get ex0
    obtain ⟨d9, ed9, hd9⟩ := hD1.get ev9
    obtain ⟨yd, yn, yt1, yt2, yt3, ypv, ycv, hy1, hy2⟩ := dat0
    have hi3 : i < 4 := by
      have hi' : i < xs9.length := by simpa using hi
      rw [dat9.length] at hi'
      omega
    refine turnL (ys := vs1.take i) ne0 (by rw [sizeLine_eq, List.length_take]; exact Nat.le_trans (Nat.min_le_left _ _) (by omega)) hPost0 ?_
    k_steps
    refine handed_on (DIn.handed hd9) ?_
    refine ⟨_, _, _, oC0, m0, _, rfl, by assumption, hC0, by k_asm, by k_asm, off0, by k_mem, rfl, ?_⟩
    rw [List.take_add_one, ev9]
    rfl
  case hendZ =>
    rintro oD nwx ⟨rfl, rfl⟩
    intro D1 h1 tk1 g1 hG1 F1 N1 off1 ltD1
    have etake : vs1.take (List.map Value.ref xs9).toArray.size = vs1 := by
      rw [List.size_toArray, List.length_map, dat9.length, List.take_length]
    rw [etake] at N1
    have hneC : ∀ p ∈ (LF + 1, o2F) :: (872, tabObj ps) :: (915, tabObj qs) :: nw2, p.1 ≠ LF + 1 + 1 := by
      intro p hp
      have up : @LT.lt Nat _ p.1 LF → p.1 ≠ LF + 1 + 1 := fun h => Nat.ne_of_lt (Nat.lt_trans h (Nat.lt_succ_of_lt (Nat.lt_succ_self LF)))
      rcases List.mem_cons.mp hp with rfl | hp
      · exact Nat.ne_of_lt (Nat.lt_succ_self (LF + 1))
      · rcases List.mem_cons.mp hp with rfl | hp
        · exact up lZF.1
        · rcases List.mem_cons.mp hp with rfl | hp
          · exact up lZF.2.1
          · rw [enw2] at hp
            rcases List.mem_append.mp hp with hp | hp
            · exact up (tb_ltOf lZF.2.2 p hp)
            · exact fr9 p hp _ (.head _)
    have hneD : @Ne Nat D1 (LF + 1 + 1) := fun q => off1.1 q.symm
    have hx0len : xs0.length ≤ 3 := by rw [hd0.length]; exact hn0
    have e0 : vs0.isEmpty = xs0.isEmpty := (empty_len hd0.length).symm
    have e1 : ds1.isEmpty = vs1.isEmpty := (empty_len hD1.length).symm
    have retN : ∀ (hx : Heap) (l' : Addr) (tkx : Nat) (gx : Array GenState) (xs : List Addr), GB fl gx → Fr h₀ L hx m → News h₀ L hx ((l', listObj (xs.map Value.ref) 0) :: (872, tabObj ps) :: (915, tabObj qs) :: nw2) → (@LT.lt Nat _ 872 l' ∧ @LT.lt Nat _ 915 l' ∧ AllLt l' nw2) → DatsAt w nw xs (wantV sg ds0 vs0 ds1 (.ref th)) → Q (.ref l') { s with heap := hx, toks := tkx, gens := gx } := by
      intro hx l' tkx gx xs gG gF gN gl gD
      refine hret _ _ _ _ _ ⟨own9 ++ [(l', listObj (xs.map Value.ref) 0)], l', xs, 0, ps, qs, rfl, rfl, hps, hqs, List.mem_append_right _ (List.mem_append_right _ (.head _)), gD.mono fun q hq => List.mem_append_left _ hq, ?_⟩ gG gF (news_sub gN ?_)
      · intro p hp
        rcases List.mem_append.mp hp with hp | hp
        · exact ⟨fr9 p hp _ (.tail _ (.tail _ (.head _))), fr9 p hp _ (.tail _ (.tail _ (.tail _ (.head _)))), fun q hq => fr9 p hp q (.tail _ (.tail _ (.tail _ (.tail _ hq))))⟩
        · rw [List.mem_singleton.mp hp]
          exact ⟨Nat.ne_of_gt gl.1, Nat.ne_of_gt gl.2.1, fun q hq => Nat.ne_of_gt (tb_ltOf gl.2.2 q (sub2 q hq))⟩
      · intro p hp
        rw [enw2]
        simp only [List.mem_cons, List.mem_append, List.not_mem_nil, or_false] at hp ⊢
        rcases hp with hp | hp | hp | hp | hp <;> simp [hp]
    have retF : ∀ (hx : Heap) (tkx : Nat) (gx : Array GenState), GB fl gx → Fr h₀ L hx m → News h₀ L hx ((872, tabObj ps) :: (915, tabObj qs) :: nw2) → wantV sg ds0 vs0 ds1 (.ref th) = vs0 → Q (.ref R0) { s with heap := hx, toks := tkx, gens := gx } := by
      intro hx tkx gx gG gF gN gw
      refine hret _ _ _ _ _ ⟨own9, R0, xs0, c0, ps, qs, rfl, rfl, hps, hqs, List.mem_append_left _ h0, (by rw [gw]; exact hd0.mono fun q hq => List.mem_append_left _ hq), ?_⟩ gG gF (enw2 ▸ gN)
      intro p hp
      exact ⟨fr9 p hp _ (.tail _ (.tail _ (.head _))), fr9 p hp _ (.tail _ (.tail _ (.tail _ (.head _)))), fun q hq => fr9 p hp q (.tail _ (.tail _ (.tail _ (.tail _ hq))))⟩
    rcases xs0 with _ | ⟨x00, xsr⟩ <;> rcases vs1 with _ | ⟨vv00, vvr⟩
    all_goals k_steps
    all_goals first
      | (rename (List.map _ _).isEmpty = true => ae; cases ae; done)
      | (rename (List.cons _ _).isEmpty = true => ae; cases ae; done)
      | (rename (_ ∧ _ ∧ _ ∧ _ ∧ _ ∧ AllLt _ nw2) => lz; rename eqHolds _ _ = true => ae; exact retN _ _ _ _ [a] (by assumption) (by k_asm) (news_sub (by k_asm) sub_hd) lz.2.2.2 ((want_th e0 e1 ae).symm ▸ ⟨ha9, trivial⟩))
      | (rename (_ ∧ _ ∧ _ ∧ _ ∧ _ ∧ AllLt _ nw2) => lz; rename eqHolds _ _ = false => ae; exact retN _ _ _ _ [] (by assumption) (by k_asm) (news_sub (by k_asm) sub_hd) lz.2.2.2 ((want_nil e0 e1 rfl ae).symm ▸ trivial))
      | (rename eqHolds _ _ = true => ae; exact retF _ _ _ (by assumption) (by k_asm) (news_sub (by k_asm) (by ktd_sub)) (want_found e0 e1 ae))
      | skip
    refine ⟨R0, _, c0, _, rfl, (by assumption), rfl, (by k_asm), (by k_asm), (by k_mem), fun hY => ?_⟩
    rename_i hFn oCn cF' cN' dCn u1 ae1 u2 ae2
    refine GRestP.turns (fun i oD nwx => ∃ ps qs own, nwx = (D1, LCg.lst (vv00 :: vvr)) :: (LF + 1 + 1, oCn) :: (LF + 1, o2F) :: (872, tabObj ps) :: (915, tabObj qs) :: (nw2 ++ own) ∧ TriplesOk ps.toList ∧ TriplesOk qs.toList ∧ oD = LCg.lst ((selA sg ds1 (ds0.take i) ((x00 :: xsr).take i)).map Value.ref) ∧ ∀ p ∈ own, p.1 ≠ 872 ∧ p.1 ≠ 915 ∧ ∀ q ∈ nw2, p.1 ≠ q.1) ?h0Z ?hendY ?hstepY
    case h0Z => exact ⟨ps, qs, [], by rw [List.append_nil], hps, hqs, by simp [selA], fun _ h => nomatch h⟩
    case hendY =>
      rintro oD nwx ⟨ps8, qs8, own8, rfl, hps8, hqs8, rfl, hf8⟩
      intro D8 h8 tk8 g8 hG8 F8 N8 off8 ltD8
      have hsz : (List.map Value.ref (x00 :: xsr)).toArray.size = (x00 :: xsr).length := by rw [List.size_toArray, List.length_map]
      rw [hsz, List.take_length, hd0.length, hD0.length, List.take_length] at N8
      k_steps
      refine hret _ _ _ _ _ ⟨own9 ++ (own8 ++ [(D8, LCg.lst ((selA sg ds1 ds0 (x00 :: xsr)).map Value.ref))]), D8, selA sg ds1 ds0 (x00 :: xsr), _, ps8, qs8, rfl, rfl, hps8, hqs8, List.mem_append_right _ (List.mem_append_right _ (List.mem_append_right _ (.head _))), ?dZ, ?fZ⟩ hG8 (by k_asm) (news_sub (by k_asm) ?sZ)
      case dZ =>
        rw [want_pick e0 e1]
        exact (DatsAt.sel hd0).mono fun q hq => List.mem_append_left _ hq
      case fZ =>
        have om := off1_mem off8
        intro p hp
        rcases List.mem_append.mp hp with hp | hp
        · exact ⟨fr9 p hp _ (.tail _ (.tail _ (.head _))), fr9 p hp _ (.tail _ (.tail _ (.tail _ (.head _)))), fun q hq => fr9 p hp q (.tail _ (.tail _ (.tail _ (.tail _ hq))))⟩
        · rcases List.mem_append.mp hp with hp | hp
          · exact ⟨(hf8 p hp).1, (hf8 p hp).2.1, fun q hq => (hf8 p hp).2.2 q (sub2 q hq)⟩
          · rw [List.mem_singleton.mp hp]
            exact ⟨Ne.symm (om _ (.tail _ (.tail _ (.tail _ (.head _))))), Ne.symm (om _ (.tail _ (.tail _ (.tail _ (.tail _ (.head _)))))), fun q hq => Ne.symm (om q (.tail _ (.tail _ (.tail _ (.tail _ (.tail _ (List.mem_append_left _ (sub2 q hq))))))))⟩
      case sZ =>
        intro p hp
        rw [enw2]
        simp only [List.mem_cons, List.mem_append, List.not_mem_nil, or_false] at hp ⊢
        rcases hp with h | h | h | h | h | h <;> simp only [h, true_or, or_true]
    case hstepY =>
      rintro i hi oD nwx ⟨ps1, qs1, own1, rfl, hps1, hqs1, rfl, hf1⟩ pv C1 oC1 D2 m2 h2 tk2 g2 E2 Post2 ⟨I2, oI2, oK2, v2, rfl, dK2, hv2⟩ hC2 F2 N2 off2 ne2 hG2 hPost2
      obtain ⟨x0, ex0, rfl⟩ : ∃ x, (x00 :: xsr)[i]? = some x ∧ Value.ref x = v2 := by
        have := hv2
        simp only [List.getElem?_toArray, List.getElem?_map, Option.map_eq_some_iff] at this
        exact this
      obtain ⟨v0, ev0, dat0⟩ := hd0.get ex0
      obtain ⟨d0, ed0, hd00⟩ := hD0.get ev0
      have hok0 : d0.ok 3 := ok0 d0 (List.mem_of_getElem? ed0)
      have d2F' : o2F.data = .cell (some (.ref ex)) := d2F
      obtain ⟨nw3, enw3⟩ : ∃ x, x = nw2 ++ own1 := ⟨_, rfl⟩
      have sub3 : ∀ q ∈ nw2, q ∈ nw3 := fun q hq => by rw [enw3]; exact List.mem_append_left _ hq
      have hisz : i ≤ 3 := by
        have := (List.getElem?_eq_some_iff.mp ex0).1
        omega
      rw [← enw3] at N2 off2
      have h872 : @LT.lt Nat _ 872 LF := lZF.1
      have h915 : @LT.lt Nat _ 915 LF := lZF.2.1
      have off872 : ∀ q ∈ nw3, q.1 ≠ 872 ∧ q.1 ≠ 915 := by
        intro q hq
        rw [enw3] at hq
        rcases List.mem_append.mp hq with hq | hq
        · rw [enw2] at hq
          rcases List.mem_append.mp hq with hq | hq
          · exact hoff q hq
          · exact ⟨fr9 q hq _ (.tail _ (.tail _ (.head _))), fr9 q hq _ (.tail _ (.tail _ (.tail _ (.head _))))⟩
        · exact ⟨(hf1 q hq).1, (hf1 q hq).2.1⟩
      refine turnC (ys := (selA sg ds1 (ds0.take i) ((x00 :: xsr).take i)).map Value.ref) ne2 ?hy hPost2 ?_
      case hy =>
        rw [sizeLine_eq, List.length_map]
        exact Nat.le_trans selA_len (Nat.le_trans (by rw [List.length_take]; exact Nat.min_le_left _ _) (Nat.le_trans hisz (by decide)))
      k_steps
      refine ⟨?_⟩
      have offM := off2
      simp only [List.cons_append, List.nil_append] at N2
      refine GeneratorExp_F (c := 917) (P := 915) (dp := dp + 1) (un := un + 3) (gd := gd) (outer := env :: outer) F2 BF TF rfl rfl (by omega) rfl rfl (codeHd_of_K XF (by kernel_rfl)) rfl (by with_unfolding_all rfl) (by decide) (by with_unfolding_all rfl) rfl ?_ (fun _ => by with_unfolding_all rfl)
      k_steps
      refine ⟨?_⟩
      refine list_iter F2 N2 (by k_mem) ?_
      intro I3 oI3 hI3 itI3 FI3 NI3 lI3 LI3
      have offI2 : ∀ q ∈ (D1, LCg.lst (vv00 :: vvr)) :: (LF + 1 + 1, oCn) :: (LF + 1, o2F) :: (872, tabObj ps1) :: (915, tabObj qs1) :: nw3, q.1 ≠ I2 ∧ q.1 ≠ C1 + 1 ∧ q.1 ≠ C1 ∧ q.1 ≠ D2 := fun q hq => ⟨(offM q hq).1 _ (.head _), (offM q hq).1 _ (.tail _ (.head _)), (offM q hq).2⟩
      refine ⟨qs1, [(I3, oI3), (I2, oI2), (C1 + 1, oK2), (C1, oC1), (D2, LCg.lst ((selA sg ds1 (ds0.take i) ((x00 :: xsr).take i)).map Value.ref)), (D1, LCg.lst (vv00 :: vvr)), (LF + 1 + 1, oCn), (LF + 1, o2F), (872, tabObj ps1)] ++ nw3, FI3, news_sub NI3 mem_mid, ?off915, hqs1, ?_⟩
      case off915 =>
        intro q hq
        simp only [List.cons_append, List.nil_append, List.mem_cons] at hq
        rcases hq with rfl | rfl | rfl | rfl | rfl | rfl | rfl | rfl | rfl | hq
        · exact Nat.ne_of_gt (Nat.lt_trans h915 LI3)
        · exact Ne.symm (offI2 (915, tabObj qs1) (.tail _ (.tail _ (.tail _ (.tail _ (.head _)))))).1
        · exact Ne.symm (offI2 (915, tabObj qs1) (.tail _ (.tail _ (.tail _ (.tail _ (.head _)))))).2.1
        · exact Ne.symm (offI2 (915, tabObj qs1) (.tail _ (.tail _ (.tail _ (.tail _ (.head _)))))).2.2.1
        · exact Ne.symm (offI2 (915, tabObj qs1) (.tail _ (.tail _ (.tail _ (.tail _ (.head _)))))).2.2.2
        · exact Nat.ne_of_gt (Nat.lt_trans h915 ltD1)
        · exact Nat.ne_of_gt (Nat.lt_succ_of_lt (Nat.lt_succ_of_lt h915))
        · exact Nat.ne_of_gt (Nat.lt_succ_of_lt h915)
        · exact (by decide : @Ne Nat 872 915)
        · exact (off872 q hq).2
      intro h₅ C4 a4 oa4 code4 h₆ tk₅ qs5 Mk hqs5 ltC hCa hLC
      simp only [List.cons_append, List.nil_append] at Mk ltC
      obtain ⟨F5, N5⟩ := ground_back Mk.FG Mk.st Mk.F Mk.N
      k_steps
      refine ⟨?_⟩
      have hIC : @LT.lt Nat _ I3 C4 := ltC (I3, oI3) (.tail _ (.head _))
      have hDI : @LT.lt Nat _ D1 I3 := lI3 (D1, LCg.lst (vv00 :: vvr)) (.tail _ (.tail _ (.tail _ (.tail _ (.head _)))))
      have hlD1 : ds1.length = (vv00 :: vvr).length := hD1.length.symm
      have offZ : ∀ (ps7 : Array Value) (own7 : List (Addr × Obj)), (∀ p ∈ own7, p.1 ≠ 872 ∧ ∀ q ∈ [(a4, oa4), (I2, oI2), (C1 + 1, oK2), (C1, oC1), (D2, LCg.lst ((selA sg ds1 (ds0.take i) ((x00 :: xsr).take i)).map Value.ref)), (D1, LCg.lst (vv00 :: vvr)), (LF + 1 + 1, oCn), (LF + 1, o2F), (915, tabObj qs5)] ++ nw3, p.1 ≠ q.1) → OffP [(I2, oI2), (C1 + 1, oK2)] C1 D2 ((D1, LCg.lst (vv00 :: vvr)) :: (LF + 1 + 1, oCn) :: (LF + 1, o2F) :: (872, tabObj ps7) :: (915, tabObj qs5) :: (nw2 ++ (own1 ++ own7))) := by
        intro ps7 own7 fr7 p hp
        have old : ∀ o' : Obj, (p.1, o') ∈ (D1, LCg.lst (vv00 :: vvr)) :: (LF + 1 + 1, oCn) :: (LF + 1, o2F) :: (872, tabObj ps1) :: (915, tabObj qs1) :: nw3 → (∀ q ∈ [(I2, oI2), (C1 + 1, oK2)], p.1 ≠ q.1) ∧ p.1 ≠ C1 ∧ p.1 ≠ D2 := fun o' h => offM (p.1, o') h
        simp only [List.mem_cons, List.mem_append] at hp
        rcases hp with rfl | rfl | rfl | rfl | rfl | hp | hp | hp
        · exact old _ (.head _)
        · exact old _ (.tail _ (.head _))
        · exact old _ (.tail _ (.tail _ (.head _)))
        · exact old _ (.tail _ (.tail _ (.tail _ (.head _))))
        · exact old _ (.tail _ (.tail _ (.tail _ (.tail _ (.head _)))))
        · exact old p.2 (.tail _ (.tail _ (.tail _ (.tail _ (.tail _ (sub3 p hp))))))
        · exact old p.2 (.tail _ (.tail _ (.tail _ (.tail _ (.tail _ (by rw [enw3]; exact List.mem_append_right _ hp))))))
        · refine ⟨fun q hq => (fr7 p hp).2 q ?_, (fr7 p hp).2 (C1, oC1) (by simp), (fr7 p hp).2 (D2, LCg.lst ((selA sg ds1 (ds0.take i) ((x00 :: xsr).take i)).map Value.ref)) (by simp)⟩
          rcases List.mem_cons.mp hq with rfl | hq
          · exact .tail _ (.head _)
          · rw [List.mem_singleton.mp hq]; exact .tail _ (.tail _ (.head _))
      have freshZ : ∀ (own7 : List (Addr × Obj)), (∀ p ∈ own7, p.1 ≠ 872 ∧ ∀ q ∈ [(a4, oa4), (I2, oI2), (C1 + 1, oK2), (C1, oC1), (D2, LCg.lst ((selA sg ds1 (ds0.take i) ((x00 :: xsr).take i)).map Value.ref)), (D1, LCg.lst (vv00 :: vvr)), (LF + 1 + 1, oCn), (LF + 1, o2F), (915, tabObj qs5)] ++ nw3, p.1 ≠ q.1) → ∀ p ∈ own1 ++ own7, p.1 ≠ 872 ∧ p.1 ≠ 915 ∧ ∀ q ∈ nw2, p.1 ≠ q.1 := by
        intro own7 fr7 p hp
        rcases List.mem_append.mp hp with hp | hp
        · exact hf1 p hp
        · exact ⟨(fr7 p hp).1, (fr7 p hp).2 (915, tabObj qs5) (by simp), fun q hq => (fr7 p hp).2 q (List.mem_append_right _ (sub3 q hq))⟩
      have subZ : ∀ (ps7 : Array Value) (own7 : List (Addr × Obj)), ∀ q ∈ [(I2, oI2), (C1 + 1, oK2)] ++ (C1, oC1) :: (D2, LCg.lst ((selA sg ds1 (ds0.take i) ((x00 :: xsr).take i)).map Value.ref)) :: ((D1, LCg.lst (vv00 :: vvr)) :: (LF + 1 + 1, oCn) :: (LF + 1, o2F) :: (872, tabObj ps7) :: (915, tabObj qs5) :: (nw2 ++ (own1 ++ own7))), q ∈ (872, tabObj ps7) :: ([(a4, oa4), (I2, oI2), (C1 + 1, oK2), (C1, oC1), (D2, LCg.lst ((selA sg ds1 (ds0.take i) ((x00 :: xsr).take i)).map Value.ref)), (D1, LCg.lst (vv00 :: vvr)), (LF + 1 + 1, oCn), (LF + 1, o2F), (915, tabObj qs5)] ++ (nw3 ++ own7)) := by
        intro ps7 own7 q hq
        rw [enw3]
        simp only [List.cons_append, List.nil_append, List.mem_cons, List.mem_append] at hq ⊢
        rcases hq with h | h | h | h | h | h | h | h | h | h | h | h <;> simp only [h, true_or, or_true]
      have glow : ∀ {g7 : Array GenState}, GB (g2.size + 1) g7 → GB fl g7 := fun h => h.low (Nat.le_succ_of_le hG2.2)
      have selS : selA sg ds1 (ds0.take (i + 1)) ((x00 :: xsr).take (i + 1)) = selA sg ds1 (ds0.take i) ((x00 :: xsr).take i) ++ (if ds1.any (fun e => cmpD sg d0 e) = true then [x0] else []) := selA_succ ed0 ex0
      refine any_genL (h₀ := gF) (L := LF) (dp := dp + 1) (un := un + 3) (gd := gd) (outer := env :: outer) (ax := D1) (its := (vv00 :: vvr).toArray) (oI₀ := oI3)
        (r₀ := (872, tabObj ps1) :: ([(a4, oa4), (I2, oI2), (C1 + 1, oK2), (C1, oC1), (D2, LCg.lst ((selA sg ds1 (ds0.take i) ((x00 :: xsr).take i)).map Value.ref)), (D1, LCg.lst (vv00 :: vvr)), (LF + 1 + 1, oCn), (LF + 1, o2F), (915, tabObj qs5)] ++ nw3))
        (fun r => AnyJ 872 [(a4, oa4), (I2, oI2), (C1 + 1, oK2), (C1, oC1), (D2, LCg.lst ((selA sg ds1 (ds0.take i) ((x00 :: xsr).take i)).map Value.ref)), (D1, LCg.lst (vv00 :: vvr)), (LF + 1 + 1, oCn), (LF + 1, o2F), (915, tabObj qs5)] nw3 r ∧ ds1.any (fun e => cmpD sg d0 e) = true)
        (fun j r => AnyJ 872 [(a4, oa4), (I2, oI2), (C1 + 1, oK2), (C1, oC1), (D2, LCg.lst ((selA sg ds1 (ds0.take i) ((x00 :: xsr).take i)).map Value.ref)), (D1, LCg.lst (vv00 :: vvr)), (LF + 1 + 1, oCn), (LF + 1, o2F), (915, tabObj qs5)] nw3 r ∧ ∀ e ∈ ds1.take j, cmpD sg d0 e = false)
        Mk TF (by omega) (Array.getElem?_push_size ..) (GB.up hG2 rfl) rfl rfl ?hCIa ?hna ?hnea rfl (by rfl) ?N0a ?off0a (.tail _ (.head _)) (.tail _ (.tail _ (.tail _ (.tail _ (.tail _ (.tail _ (.head _))))))) ?J0a ?ita ?bodya ?fina ?finTa
      case hCIa => exact Nat.ne_of_gt hIC
      case hna =>
        rw [List.size_toArray]
        exact Nat.lt_of_le_of_lt hn1 (by decide)
      case hnea => exact Nat.ne_of_lt hDI
      case N0a =>
        refine news_sub Mk.N ?_
        intro q hq
        simp only [List.cons_append, List.nil_append, List.mem_cons] at hq ⊢
        rcases hq with h | h | h | h | h | h | h | h | h | h | h | h <;> simp only [h, true_or, or_true]
      case off0a =>
        intro q hq
        simp only [List.cons_append, List.nil_append, List.mem_cons] at hq
        have lt : q.1 < I3 ∨ I3 < q.1 := by
          rcases hq with rfl | rfl | h | h | h | h | h | h | h | rfl | h
          · exact .inl (Nat.lt_trans h872 LI3)
          · exact .inr (Nat.lt_trans hIC hCa)
          all_goals first | exact .inl (Nat.lt_trans h915 LI3) | exact .inl (lI3 q (by simp only [List.mem_cons, h, true_or, or_true]))
        rcases lt with h | h
        · exact Nat.ne_of_lt h
        · exact Nat.ne_of_gt h
      case J0a => exact ⟨⟨ps1, [], fun q hq => by simpa using hq, hps1, fun _ h => nomatch h⟩, by simp⟩
      case ita =>
        obtain ⟨o, e, r⟩ := itI3
        rw [(NI3 (I3, oI3) (.head _)).1] at e
        cases e
        exact ⟨_, (Mk.N (I3, oI3) (.tail _ (.tail _ (.head _)))).1, r⟩
      case fina =>
        rintro h7 tk7 g7 r7 hG7 F7 N7 ⟨⟨ps7, own7, sub7, hps7, fr7⟩, hall⟩
        have hnone : ds1.any (fun e => cmpD sg d0 e) = false := by
          rw [List.size_toArray, ← hlD1, List.take_length] at hall
          rw [List.any_eq_false]
          intro e he
          rw [hall e he]; decide
        have N7' := news_sub N7 sub7
        simp only [List.cons_append, List.nil_append] at N7'
        k_steps
        refine ⟨h7, tk7, g7, oC1, m2, _, (D1, LCg.lst (vv00 :: vvr)) :: (LF + 1 + 1, oCn) :: (LF + 1, o2F) :: (872, tabObj ps7) :: (915, tabObj qs5) :: (nw2 ++ (own1 ++ own7)), rfl, glow hG7, hC2, F7, news_sub N7' (subZ ps7 own7), offZ ps7 own7 fr7, .tail _ (.tail _ (.tail _ (.tail _ (.tail _ (List.mem_append_left _ h0'))))), ps7, qs5, own1 ++ own7, rfl, hps7, hqs5, ?_, freshZ own7 fr7⟩
        rw [selS, hnone]
        simp
      case finTa =>
        rintro h7 tk7 g7 r7 hG7 F7 N7 ⟨⟨ps7, own7, sub7, hps7, fr7⟩, hsome⟩
        have N7' := news_sub N7 sub7
        simp only [List.cons_append, List.nil_append] at N7'
        k_steps
        refine ⟨h7, tk7, g7, oC1, m2, (D1, LCg.lst (vv00 :: vvr)) :: (LF + 1 + 1, oCn) :: (LF + 1, o2F) :: (872, tabObj ps7) :: (915, tabObj qs5) :: (nw2 ++ (own1 ++ own7)), rfl, glow hG7, hC2, F7, news_sub N7' (subZ ps7 own7), offZ ps7 own7 fr7, .tail _ (.tail _ (.tail _ (.tail _ (.tail _ (List.mem_append_left _ h0'))))), ps7, qs5, own1 ++ own7, rfl, hps7, hqs5, ?_, freshZ own7 fr7⟩
        rw [selS, hsome]
        simp
      case bodya =>
        rintro j v7 ev7 m7 r7 oI7 h7 tk7 g7 E7 hm7 ⟨⟨ps7, own7, sub7, hps7, fr7⟩, hall⟩ hD7 ha7 offI7 hG7 F7 N7
        obtain ⟨e7, ee7, hde7⟩ := hD1.get (i := j) (by simpa using ev7)
        have hoke : e7.ok 3 := ok1 e7 (List.mem_of_getElem? ee7)
        obtain ⟨nw4, enw4⟩ : ∃ x, x = nw3 ++ own7 := ⟨_, rfl⟩
        have sub34 : ∀ q ∈ nw3, q ∈ nw4 := fun q hq => by rw [enw4]; exact List.mem_append_left _ hq
        have sub04 : ∀ q ∈ nw, q ∈ nw4 := fun q hq => sub34 q (sub3 q (sub2 q hq))
        have NB : News h₅ C4 h7 ((872, tabObj ps7) :: (I3, oI7) :: (a4, oa4) :: (I2, oI2) :: (C1 + 1, oK2) :: (C1, oC1) :: (D2, LCg.lst ((selA sg ds1 (ds0.take i) ((x00 :: xsr).take i)).map Value.ref)) :: (D1, LCg.lst (vv00 :: vvr)) :: (LF + 1 + 1, oCn) :: (LF + 1, o2F) :: (915, tabObj qs5) :: nw4) := by
          refine news_sub N7 ?_
          intro q hq
          rcases List.mem_cons.mp hq with rfl | hq
          · exact .tail _ (sub7 _ (.head _))
          · rcases List.mem_cons.mp hq with rfl | hq
            · exact .head _
            · exact .tail _ (sub7 q (.tail _ (enw4 ▸ hq)))
        have hoffB : ∀ q ∈ (I3, oI7) :: (a4, oa4) :: (I2, oI2) :: (C1 + 1, oK2) :: (C1, oC1) :: (D2, LCg.lst ((selA sg ds1 (ds0.take i) ((x00 :: xsr).take i)).map Value.ref)) :: (D1, LCg.lst (vv00 :: vvr)) :: (LF + 1 + 1, oCn) :: (LF + 1, o2F) :: (915, tabObj qs5) :: nw4, q.1 ≠ 872 := by
          have off1x := offI2 (872, tabObj ps1) (.tail _ (.tail _ (.tail _ (.head _))))
          intro q hq
          simp only [List.mem_cons] at hq
          rcases hq with rfl | rfl | rfl | rfl | rfl | rfl | rfl | rfl | rfl | rfl | hq
          · exact Nat.ne_of_gt (Nat.lt_trans h872 LI3)
          · exact Nat.ne_of_gt (Nat.lt_trans h872 (Nat.lt_trans LI3 (Nat.lt_trans hIC hCa)))
          · exact Ne.symm off1x.1
          · exact Ne.symm off1x.2.1
          · exact Ne.symm off1x.2.2.1
          · exact Ne.symm off1x.2.2.2
          · exact Nat.ne_of_gt (Nat.lt_trans h872 ltD1)
          · exact Nat.ne_of_gt (Nat.lt_succ_of_lt (Nat.lt_succ_of_lt h872))
          · exact Nat.ne_of_gt (Nat.lt_succ_of_lt h872)
          · exact (by decide : @Ne Nat 915 872)
          · rw [enw4] at hq
            rcases List.mem_append.mp hq with hq | hq
            · exact (off872 q hq).1
            · exact (fr7 q hq).1
        have hdv : DIn w nw4 d0 v0 := hd00.mono sub04
        have hde : DIn w nw4 e7 v7 := hde7.mono sub04
        have dat4 : DatAt w nw4 x0 v0 := dat0.mono sub04
        obtain ⟨yd, yn, yt1, yt2, yt3, ypv, ycv, hy1, hy2⟩ := dat4
        have hx14 := sub04 _ hx1
        have hx24 := sub04 _ hx2
        have XG := XF.keeps Mk.st
        have TG := TF.keeps Mk.st
        have BG := Mk.B
        clear N7 NI3 N5 FI3 F5 N2 F2 cN' cF'
        k_steps
        refine handed_on (DIn.handed hdv) ?_
        k_steps
        rename_i ps9 own9 h9 tk9 g9 hp9 ho9 hG9 F9 N9
        have rest : ∀ q ∈ (872, tabObj ps9) :: ([(a4, oa4), (I2, oI2), (C1 + 1, oK2), (C1, oC1), (D2, LCg.lst ((selA sg ds1 (ds0.take i) ((x00 :: xsr).take i)).map Value.ref)), (D1, LCg.lst (vv00 :: vvr)), (LF + 1 + 1, oCn), (LF + 1, o2F), (915, tabObj qs5)] ++ (nw3 ++ (own7 ++ own9))), q ∈ (872, tabObj ps9) :: ((I3, oI7) :: ([(a4, oa4), (I2, oI2), (C1 + 1, oK2), (C1, oC1), (D2, LCg.lst ((selA sg ds1 (ds0.take i) ((x00 :: xsr).take i)).map Value.ref)), (D1, LCg.lst (vv00 :: vvr)), (LF + 1 + 1, oCn), (LF + 1, o2F), (915, tabObj qs5)] ++ nw4) ++ own9) := by
          intro q hq
          rcases List.mem_cons.mp hq with rfl | hq
          · exact .head _
          · have hq' : q ∈ ([(a4, oa4), (I2, oI2), (C1 + 1, oK2), (C1, oC1), (D2, LCg.lst ((selA sg ds1 (ds0.take i) ((x00 :: xsr).take i)).map Value.ref)), (D1, LCg.lst (vv00 :: vvr)), (LF + 1 + 1, oCn), (LF + 1, o2F), (915, tabObj qs5)] ++ nw4) ++ own9 := by
              rw [enw4, List.append_assoc, List.append_assoc]
              exact hq
            exact .tail _ (.tail _ hq')
        have frZ : ∀ p ∈ own7 ++ own9, p.1 ≠ 872 ∧ ∀ q ∈ [(a4, oa4), (I2, oI2), (C1 + 1, oK2), (C1, oC1), (D2, LCg.lst ((selA sg ds1 (ds0.take i) ((x00 :: xsr).take i)).map Value.ref)), (D1, LCg.lst (vv00 :: vvr)), (LF + 1 + 1, oCn), (LF + 1, o2F), (915, tabObj qs5)] ++ nw3, p.1 ≠ q.1 := by
          intro p hp
          rcases List.mem_append.mp hp with hp | hp
          · exact fr7 p hp
          · refine ⟨ho9 p hp _ (.head _), fun q hq => ho9 p hp q (.tail _ (.tail _ ?_))⟩
            rcases List.mem_append.mp hq with hq | hq
            · exact List.mem_append_left nw4 hq
            · exact List.mem_append_right [(a4, oa4), (I2, oI2), (C1 + 1, oK2), (C1, oC1), (D2, LCg.lst ((selA sg ds1 (ds0.take i) ((x00 :: xsr).take i)).map Value.ref)), (D1, LCg.lst (vv00 :: vvr)), (LF + 1 + 1, oCn), (LF + 1, o2F), (915, tabObj qs5)] (sub34 q hq)
        have AJ : AnyJ 872 [(a4, oa4), (I2, oI2), (C1 + 1, oK2), (C1, oC1), (D2, LCg.lst ((selA sg ds1 (ds0.take i) ((x00 :: xsr).take i)).map Value.ref)), (D1, LCg.lst (vv00 :: vvr)), (LF + 1 + 1, oCn), (LF + 1, o2F), (915, tabObj qs5)] nw3 ((872, tabObj ps9) :: ([(a4, oa4), (I2, oI2), (C1 + 1, oK2), (C1, oC1), (D2, LCg.lst ((selA sg ds1 (ds0.take i) ((x00 :: xsr).take i)).map Value.ref)), (D1, LCg.lst (vv00 :: vvr)), (LF + 1 + 1, oCn), (LF + 1, o2F), (915, tabObj qs5)] ++ (nw3 ++ (own7 ++ own9)))) := ⟨ps9, own7 ++ own9, fun _ h => h, hp9, frZ⟩
        refine ⟨_, _, _, m7, (872, tabObj ps9) :: ([(a4, oa4), (I2, oI2), (C1 + 1, oK2), (C1, oC1), (D2, LCg.lst ((selA sg ds1 (ds0.take i) ((x00 :: xsr).take i)).map Value.ref)), (D1, LCg.lst (vv00 :: vvr)), (LF + 1 + 1, oCn), (LF + 1, o2F), (915, tabObj qs5)] ++ (nw3 ++ (own7 ++ own9))), _, rfl, hG9, F9, news_sub N9 ?sN, ?oN, .tail _ (.head _), .tail _ (.tail _ (.tail _ (.tail _ (.tail _ (.tail _ (.head _)))))), rfl, fun ht => ⟨AJ, ?tN⟩, fun hf => ⟨AJ, ?fN⟩⟩
        case sN =>
          intro q hq
          rcases List.mem_cons.mp hq with rfl | hq
          · exact .tail _ (.head _)
          · exact rest q hq
        case oN =>
          intro q hq
          rcases List.mem_cons.mp hq with rfl | hq
          · exact offI7 (872, tabObj ps7) (sub7 _ (.head _))
          · rcases List.mem_append.mp hq with hq | hq
            · exact offI7 q (sub7 q (.tail _ (List.mem_append_left _ hq)))
            · rcases List.mem_append.mp hq with hq | hq
              · exact offI7 q (sub7 q (.tail _ (List.mem_append_right _ (List.mem_append_left _ hq))))
              · rcases List.mem_append.mp hq with hq | hq
                · exact offI7 q (sub7 q (.tail _ (List.mem_append_right _ (List.mem_append_right _ hq))))
                · exact ho9 q hq (I3, oI7) (.tail _ (.head _))
        case tN => exact List.any_eq_true.mpr ⟨e7, List.mem_of_getElem? ee7, ht⟩
        case fN =>
          intro e he
          rw [List.take_add_one, ee7] at he
          rcases List.mem_append.mp he with he | he
          · exact hall e he
          · rw [List.mem_singleton.mp he]; exact hf

end Mine

end

section
open PySem PySem.W PyProof.Rows
set_option linter.unusedVariables false
namespace Mine
local macro_rules | `(tactic| walk_at "zz") => `(tactic| fail)
local macro_rules | `(tactic| walk_at "zz") => `(tactic| fail)
local macro_rules | `(tactic| walk_at "zz") => `(tactic| fail)
local macro_rules | `(tactic| walk_at "zz") => `(tactic| fail)
local macro_rules | `(tactic| walk_at "zz") => `(tactic| fail)
local macro_rules | `(tactic| walk_at "zz") => `(tactic| fail)
local macro_rules | `(tactic| walk_at "zz") => `(tactic| fail)
local macro_rules | `(tactic| walk_at "zz") => `(tactic| fail)
local macro_rules | `(tactic| walk_at "zz") => `(tactic| fail)
local macro_rules | `(tactic| walk_at "zz") => `(tactic| fail)
local macro_rules | `(tactic| walk_at "zz") => `(tactic| fail)
local macro_rules | `(tactic| walk_at "zz") => `(tactic| fail)
local macro_rules | `(tactic| walk_at "zz") => `(tactic| fail)
local macro_rules | `(tactic| walk_at "zz") => `(tactic| fail)
local macro_rules | `(tactic| walk_at "zz") => `(tactic| fail)
local macro_rules | `(tactic| walk_at "zz") => `(tactic| fail)
local macro_rules | `(tactic| walk_at "zz") => `(tactic| fail)
local macro_rules | `(tactic| walk_at "zz") => `(tactic| fail)
local macro_rules | `(tactic| walk_at "zz") => `(tactic| fail)
local macro_rules | `(tactic| walk_at "zz") => `(tactic| fail)
local macro_rules | `(tactic| walk_at "zz") => `(tactic| fail)
local macro_rules | `(tactic| walk_at "zz") => `(tactic| fail)
local macro_rules | `(tactic| walk_at "zz") => `(tactic| fail)
local macro_rules | `(tactic| walk_at "zz") => `(tactic| fail)
local macro_rules | `(tactic| walk_at "zz") => `(tactic| fail)
theorem rstFX : True := by
  w_top off
  trivial
local macro_rules | `(tactic| k_mem) => `(tactic| assumption)
local macro_rules | `(tactic| k_all) => `(tactic| with_reducible assumption)
local macro_rules | `(tactic| ktr_enter) => `(tactic| (k_dflt (refine' code_def ?k1 ?k2 ?k3 ?k4 ?k5 ?kA ?kF ?kK ?k6 ?k7 ?k8 ?k9 ?kB ?_ ?c2 ?c3 ?c4 ?c5; (case kA => exact rfl); (case kF => first | exact rfl | assumption); (case kK => first | exact rfl | assumption); (case k1 => k_asm); (case k2 => k_asm); (case k3 => k_asm); (case k4 => k_asm); (case k5 => k_asm); (case k6 => k_is); (case k7 => k_is); (case k8 => ((try dsimp only [topA]); omega)); (case k9 => exact BindsTo.of_eq rfl); (case c5 => decide); (case kB => exact locs rfl); (case c2 => exact rfl); (case c3 => exact rfl); (case c4 => exact rfl); k_whole; intro g' L' h' FG' F' N' B' X' T'; (try dsimp only); (try k_fold))))
local macro_rules | `(tactic| ktd_sub) => `(tactic| (intro p9 hp9; repeat (first | exact hp9 | refine List.mem_cons_of_mem _ ?_)))
local macro_rules | `(tactic| ktd_rel) => `(tactic| first | assumption | (refine' DIn.mono ?hs ?hh; (case hh => assumption); (case hs => ktd_sub)) | (refine' DsIn.mono ?hs ?hh; (case hh => assumption); (case hs => ktd_sub)) | (refine' KsIn.mono ?hs ?hh; (case hh => assumption); (case hs => ktd_sub)))
local macro_rules | `(tactic| ktr_room) => `(tactic| (simp only [depth_deeper, depth_in1, topA] at *; omega))
local macro_rules | `(tactic| ktr_units) => `(tactic| (simp only [units_deeper, units_in1, topA] at *; omega))
local macro_rules | `(tactic| ktr_unf) => `(tactic| (k_dflt (refine' code_defC ?k1 ?k2 ?k3 ?k4 ?k5 ?kA ?kF ?kK ?k6 ?k7 ?k8 ?k9 ?kB ?kD ?_ ?c2 ?c3 ?c4; (case kA => exact rfl); (case kF => first | exact rfl | assumption); (case kK => first | exact rfl | assumption); (case k1 => k_asm); (case k2 => k_asm); (case k3 => k_asm); (case k4 => k_asm); (case k5 => k_asm); (case k6 => k_is); (case k7 => k_is); (case k8 => ((try dsimp only [topA]); omega)); (case k9 => exact BindsTo.of_eq rfl); (case kB => exact rfl); (case kD => decide +kernel); (case c2 => exact rfl); (case c3 => exact rfl); (case c4 => exact rfl); k_whole; intro g' L' h' tk' cells' FG' F' N' Y' B' X' T' l1; (try k_lt l1); k_cells Y'; (try simp only [List.cons_append, List.nil_append] at N'); (try dsimp only); (try k_fold))))
local macro_rules | `(tactic| walk_at "call ref") => `(tactic| (k_here; (with_reducible show wpAny _ _ (call (Value.ref 956) _) _ _ _); k_dflt (refine' use_call (kind_call _ _ _ _ ?hD) ?B ?F ?X ?N ?T ?hf ?hk ?hd ?hu ?hG ?_; (case B => k_asm); (case F => k_asm); (case X => k_asm); (case N => k_asm); (case T => k_asm); (case hf => first | exact rfl | assumption); (case hk => first | exact rfl | assumption); (case hG => assumption); (case hD => ktd_rel); (case hd => ktr_room); (case hu => ktr_units); k_whole; intro r9 nw9 h9 tk9 g9 p9 hG9 F9 N9; obtain ⟨p9, q9⟩ := p9; obtain ⟨t9, p9⟩ := p9; replace q9 := Eq.symm q9; subst q9; subst p9; (try dsimp only); (try k_fold))))
local macro_rules | `(tactic| walk_at "eval ListComp") => `(tactic| (k_here; k_dflt (refine ListComp_G (by k_asm) (by assumption) (by with_unfolding_all rfl) (by decide) (by rfl) (by decide) (by rfl) ?_)))
local macro_rules | `(tactic| walk_at "eval DictComp") => `(tactic| (k_here; k_dflt (refine DictComp_G (by k_asm) (by assumption) (by with_unfolding_all rfl) (by decide) (by rfl) (by decide) (by rfl) ?_)))
local macro_rules | `(tactic| walk_at "exec Assign cons ListComp") => `(tactic| (k_here; k_dflt (refine Assign_ListComp_G (by k_asm) (by assumption) (by rfl) (by with_unfolding_all rfl) (by with_unfolding_all rfl) (by decide) (by rfl) (by decide) (by rfl) (by rfl) (by rfl) ?_)))
local macro_rules | `(tactic| walk_at "exec Assign cons DictComp") => `(tactic| (k_here; k_dflt (refine Assign_DictComp_G (by k_asm) (by assumption) (by rfl) (by with_unfolding_all rfl) (by with_unfolding_all rfl) (by decide) (by rfl) (by decide) (by rfl) (by rfl) (by rfl) ?_)))
local macro_rules | `(tactic| k_room) => `(tactic| ((try simp only [depth_mark, depth_under_make, depth_under_kw, depth_in1, depth_deeper, depth_caller, topA]); omega))
local macro_rules | `(tactic| k_units) => `(tactic| ((try simp only [units_deeper, units_in1, topA]); omega))
local macro_rules | `(tactic| k_mem) => `(tactic| first | assumption | exact List.Mem.head _ | (refine' List.Mem.tail _ ?_; k_mem))
local macro_rules | `(tactic| ktr_enter) => `(tactic| (k_dflt (refine' code_defL ?k1 ?k2 ?k3 ?k4 ?k5 ?kA ?kF ?kK ?k6 ?k7 ?k8 ?k9 ?kB ?_ ?c2 ?c3 ?c4 ?c5; (case kA => exact rfl); (case kF => first | exact rfl | assumption); (case kK => first | exact rfl | assumption); (case k1 => k_asm); (case k2 => k_asm); (case k3 => k_asm); (case k4 => k_asm); (case k5 => k_asm); (case k6 => k_is); (case k7 => k_is); (case k8 => ((try dsimp only [topA]); omega)); (case k9 => exact BindsTo.of_eq rfl); (case c5 => decide); (case kB => exact locs rfl); (case c2 => exact rfl); (case c3 => exact rfl); (case c4 => exact rfl); k_whole; intro g' L' h' FG' F' N' B' X' T' lx9; (try dsimp only); (try k_fold))))
local macro_rules | `(tactic| k_enter) => `(tactic| first | (refine' code_def ?k1 ?k2 ?k3 ?k4 ?k5 ?kA ?kF ?kK ?k6 ?k7 ?k8 ?k9 ?kB ?_ ?c2 ?c3 ?c4 ?c5; (case kA => exact rfl); (case kF => exact rfl); (case kK => exact rfl); (case k1 => k_asm); (case k2 => k_asm); (case k3 => k_asm); (case k4 => k_asm); (case k5 => k_asm); (case k6 => k_is); (case k7 => k_is); (case k8 => k_room); (case k9 => first | exact BindsTo.of_eq rfl | exact binds_K (by k_in) rfl (by k_is) rfl rfl rfl | fail "k_enter: no rule for these arguments"); (case c5 => decide); (case kB => exact locs rfl); (case c2 => exact rfl); (case c3 => exact rfl); (case c4 => exact rfl); k_whole; intro g' L' h' FG' F' N' B' X' T'; (have lL9 := ltN (Nat.lt_of_lt_of_le (Fr.ns FG').lt (Fr.above F'))); (try dsimp only); (try k_lift B'); (try k_fold)) | (refine' code_defC ?k1 ?k2 ?k3 ?k4 ?k5 ?kA ?kF ?kK ?k6 ?k7 ?k8 ?k9 ?kB ?kD ?_ ?c2 ?c3 ?c4; (case kA => exact rfl); (case kF => exact rfl); (case kK => exact rfl); (case k1 => k_asm); (case k2 => k_asm); (case k3 => k_asm); (case k4 => k_asm); (case k5 => k_asm); (case k6 => k_is); (case k7 => k_is); (case k8 => k_room); (case k9 => first | exact BindsTo.of_eq rfl | exact binds_K (by k_in) rfl (by k_is) rfl rfl rfl | fail "k_enter: no rule for these arguments"); (case kB => exact rfl); (case kD => decide +kernel); (case c2 => exact rfl); (case c3 => exact rfl); (case c4 => exact rfl); k_whole; intro g' L' h' tk' cells' FG' F' N' Y' B' X' T' l1; (have lL9 := ltN (Nat.lt_of_lt_of_le (Fr.ns FG').lt (Fr.above F'))); (try k_lt l1); k_cells Y'; (try simp only [List.cons_append, List.nil_append] at N'); (try dsimp only); (try k_lift B'); (try k_fold)))
local macro_rules | `(tactic| k_all) => `(tactic| first | (with_reducible assumption) | (refine' ltAll_neX ?h ?b; (case h => with_reducible assumption); (case b => omega)))
local macro_rules | `(tactic| walk_at "getMethod ref") => `(tactic| (k_here; (with_reducible show wpAny _ _ (getMethod (Value.ref _) (PySem.Str.ofString "get") _) _ _ _); k_dflt (refine' dict_method ?N ?m PySem.F.slot_dict_get PySem.F.type_dict_get ?_; (case N => k_asm); (case m => k_mem))))
local macro_rules | `(tactic| walk_at "call builtin:dict.get") => `(tactic| (k_here; (with_reducible show wpAny _ _ (call (Value.builtin _) [Value.ref _, Value.str _ _, _]) _ _ _); k_dflt (refine' get_led ?N ?m ?d ?s ?v ?_; (case N => k_asm); (case m => k_mem); (case d => with_reducible assumption); (case s => with_reducible assumption); (case v => first | exact getD_some (by with_reducible assumption) | exact getD_none (by with_reducible assumption)); k_whole; intro tk9)))
local macro_rules | `(tactic| walk_at "compareOp Is") => `(tactic| (k_here; (with_reducible show wpAny _ _ (compareOp CmpOp.Is _ (Value.ref _)) _ _ _); k_dflt (refine' is_data (d := _) ?F ?N ?D ?X ?k ?_; (case F => k_asm); (case N => k_asm); (case D => ktd_rel); (case X => k_asm); (case k => k_is); k_whole)))
local macro_rules | `(tactic| walk_at "eval GeneratorExp") => `(tactic| (k_here; refine Halt.mk' ?_))
local macro_rules | `(tactic| k_handed) => `(tactic| first | exact DIn.handed (by with_reducible assumption) | (simp only [handedIn]; done) | decide +kernel | rfl)
local macro_rules | `(tactic| walk_at "truthy ref") => `(tactic| (k_here; (with_reducible show wpAny _ _ (truthy (Value.ref _)) _ _ _); k_dflt (refine' truthy_led ?N ?hm ?hf ?hb ?_; (case N => k_asm); (case hm => k_mem); (case hf => first | exact Nat.lt_of_le_of_lt (by with_reducible assumption) (by decide) | (rw [List.length_map]; exact Nat.lt_of_le_of_lt (by with_reducible assumption) (by decide))); (case hb => first | exact snoc_ne _ _ | rfl); k_whole; intro tk9)))
local macro_rules | `(tactic| walk_at "call ref") => `(tactic| (k_here; (with_reducible show wpAny _ _ (call (Value.ref 863) _) _ _ _); k_dflt (refine' use_call (eqHolds_call _ _ _ _ _) ?B ?F ?X ?N ?T ?hf ?hk ?hd ?hu ?hG ?_; (case B => k_asm); (case F => k_asm); (case X => k_asm); (case N => k_asm); (case T => k_asm); (case hf => first | exact rfl | assumption); (case hk => first | exact rfl | assumption); (case hG => assumption); (case hd => k_room); (case hu => k_units); k_whole; intro r9 nw9 h9 tk9 g9 p9 hG9 F9 N9; obtain ⟨p9, q9⟩ := p9; replace q9 := Eq.symm q9; subst q9; subst p9; (try dsimp only); (try k_fold))))
local macro_rules | `(tactic| walk_at "eval ListComp") => `(tactic| (k_here; (with_reducible show wpAny _ _ (eval (Expr.ListComp _ [Comprehension.mk _ _ [_] _] _ _) _) _ _ _); k_dflt (refine ListComp_C (by k_asm) (by assumption) (by with_unfolding_all rfl) (fun _ => by with_unfolding_all rfl) (fun _ => by with_unfolding_all rfl) (by rfl) (by decide) (by with_unfolding_all rfl) ?_)))
local macro_rules | `(tactic| walk_at "call builtin:any") => `(tactic| (k_here; refine Halt.mk' ?_))
local macro_rules | `(tactic| walk_at "getMethod ref") => `(tactic| (k_here; (with_reducible show wpAny _ _ (getMethod (Value.ref _) (PySem.Str.ofString "find") _) _ _ _); k_dflt (refine' find_method ?F ?X ?N ?T' ?hr ?hs ?_; (case F => k_asm); (case X => k_asm); (case N => k_asm); (case T' => k_asm); (case hr => with_reducible assumption); (case hs => ktd_sub); k_whole; intro f9 hf9 ho9; (try dsimp only); (try k_fold))))
local macro_rules | `(tactic| walk_at "call ref") => `(tactic| (k_here; (with_reducible show wpAny _ _ (call (Value.ref _) [Value.ref _, Value.ref _]) _ _ _); k_dflt (refine' use_call (FindOk.use ?e9 ?s9 ?a9 ?b9 ?c9 ?d9) ?B ?F ?X ?N ?T ?hf ?hk ?hd ?hu ?hG ?_; (case e9 => with_reducible assumption); (case B => k_asm); (case F => k_asm); (case X => k_asm); (case N => k_asm); (case T => k_asm); (case hf => first | exact rfl | assumption); (case hk => first | exact rfl | assumption); (case hG => assumption); (case s9 => ktd_sub); (case a9 => (refine' DatAt.mono ?sZ ?hZ; (case hZ => with_reducible assumption); (case sZ => ktd_sub))); (case c9 => with_reducible assumption); (case b9 => k_mem); (case d9 => with_reducible assumption); (case hd => k_room); (case hu => k_units); k_whole; intro r9 nw9 h9 tk9 g9 p9 hG9 F9 N9; obtain ⟨own9, R9, xs9, c9, q9, p9, m9, dat9, fr9⟩ := p9; subst q9; subst p9; (try dsimp only); (try k_fold))))
local macro_rules | `(tactic| walk_at "call builtin:isinstance") => `(tactic| (k_here; (with_reducible show wpAny _ _ (call _ [Value.ref _, Value.ref 143]) _ _ _); k_dflt (refine' isin_path ?F ?X ?N ?T' ?hr ?hs ?_; (case F => k_asm); (case X => k_asm); (case N => k_asm); (case T' => k_asm); (case hr => with_reducible assumption); (case hs => ktd_sub); k_whole; intro tk9)))
local macro_rules | `(tactic| walk_at "call ref") => `(tactic| (k_here; (with_reducible show wpAny _ _ (call (Value.ref 918) _) _ _ _); k_dflt (refine' use_call (query_operand _ _ _ _ _ _ _ _ _ _ _ _ _ _ _ _ _ _ _ _ ?a1 ?a2 ?a3 ?a4 ?a5 ?a6 ?a7 ?a8 ?a9 ?b1 ?b2 ?b3 ?b4 ?b5 ?b6 ?b7 ?b8) ?B ?F ?X ?N ?T ?hf ?hk ?hd ?hu ?hG ?_; (case B => k_asm); (case F => k_asm); (case X => k_asm); (case N => k_asm); (case T => k_asm); (case hf => first | exact rfl | assumption); (case hk => first | exact rfl | assumption); (case hG => assumption); (case a1 => with_reducible assumption); (case a2 => with_reducible assumption); (case a3 => with_reducible assumption); (case a4 => with_reducible assumption); (case a5 => with_reducible assumption); (case a6 => with_reducible assumption); (case a7 => with_reducible assumption); (case a8 => with_reducible assumption); (case a9 => with_reducible assumption); (case b1 => with_reducible assumption); (case b2 => with_reducible assumption); (case b3 => with_reducible assumption); (case b4 => with_reducible assumption); (case b5 => with_reducible assumption); (case b6 => with_reducible assumption); (case b7 => with_reducible assumption); (case b8 => with_reducible assumption); (case hd => k_room); (case hu => k_units); k_whole; intro r9 nw9 h9 tk9 g9 p9 hG9 F9 N9; obtain ⟨own9, R9, xs9, c9, ps9, qs9, q9, p9, hp9, hq9, m9, dat9, fr9⟩ := p9; subst q9; subst p9; (try dsimp only); (try k_fold))))
set_option maxRecDepth 100000 in
set_option maxHeartbeats 8000000 in
theorem exp_find (w : World) (nw : List (Addr × Obj)) (ps qs : Array Value) (ex f v th : Addr) (sg : Sg) (vs0 vs1 : List Value) (ds0 ds1 : List D) (es : List DictEntry) (n : Nat) (kvs : List (Str × Value))
    (hex : ExpAt w nw ex f v sg) (hth : (th, dictObj es n) ∈ nw) (hdo : (dictObj es n).IsDictOf (PySem.strKind PP w) kvs) (hs : (th == sysModules) = false) (hrf : PthAt w nw kvs f vs0) (hr : PthAt w nw kvs v vs1)
    (hn0 : vs0.length ≤ 3) (hn1 : vs1.length ≤ 3) (hD0 : DsIn w nw ds0 vs0) (hD1 : DsIn w nw ds1 vs1) (ok0 : ∀ d ∈ ds0, d.ok 3) (ok1 : ∀ d ∈ ds1, d.ok 3)
    (hps : TriplesOk ps.toList) (hqs : TriplesOk qs.toList) (hoff : ∀ p ∈ nw, p.1 ≠ 872 ∧ p.1 ≠ 915) :
    CallsTo w 913 [.ref ex, .ref th] ((872, tabObj ps) :: (915, tabObj qs) :: nw) 270 3000 (fun r nw' => ∃ own R xs c ps' qs', r = .ref R ∧ nw' = (872, tabObj ps') :: (915, tabObj qs') :: (nw ++ own) ∧ TriplesOk ps'.toList ∧ TriplesOk qs'.toList ∧
      (R, listObj (xs.map Value.ref) c) ∈ nw ++ own ∧ DatsAt w (nw ++ own) xs (wantV sg ds0 vs0 ds1 (.ref th)) ∧ ∀ p ∈ own, p.1 ≠ 872 ∧ p.1 ≠ 915 ∧ ∀ q ∈ nw, p.1 ≠ q.1) := by
  have hex9 := hex
  obtain ⟨xd, xn, xt1, xt2, xt3, xst, hx1, hx2⟩ := hex
  intro fl p loose mean mg mb dp un gd env outer A₀ base h₀ L m s Q E HA hG hret
  obtain ⟨B, F, X, N, T, hf, hk, hd, hu⟩ := HA
  refine wpAny_call ?_
  ktr_enter
  rename_i gF LF hF FGF FF NF BF XF TF lxF
  k_steps
  rename_i f9 hf9 ho9
  refine' closeDat (w := w) (v := Value.ref th) (nw := (872, tabObj ps) :: (915, tabObj qs) :: nw) ?N9 ?h19 ?h29 ?s9 ?l19 ?l29 ?k9
  (case N9 => k_asm)
  (case h19 => k_mem)
  (case h29 => k_mem)
  (case s9 => ktd_sub)
  (case l19 => exact And.right (a := @LT.lt Nat _ _ _) (by assumption))
  (case l29 => assumption)
  intro own0 dat0 N0 fr0
  obtain ⟨nw0, enw0⟩ : ∃ x, x = nw ++ own0 := ⟨_, rfl⟩
  have sub0 : ∀ q ∈ nw, q ∈ nw0 := fun q hq => by rw [enw0]; exact List.mem_append_left _ hq
  have dat0' := dat0.mono (nw' := nw0) fun q hq => by rw [enw0]; exact List.mem_append_right _ hq
  simp only [List.cons_append, ← enw0] at N0
  have hx10 := sub0 _ hx1
  have hx20 := sub0 _ hx2
  have hth0 := sub0 _ hth
  refine found_mono (fl := fl) (vs := vs0) ((872, tabObj ps) :: (915, tabObj qs) :: nw0) (by k_asm) ?hA ?_
  case hA =>
    have ho0 : FindOk w nw0 kvs f9 f vs0 := fun nw2 a th es n h => ho9 nw2 a th es n fun q hq => h q (sub0 q hq)
    rcases hf9 with rfl | rfl
    all_goals k_steps
    all_goals exact ⟨_, _, _, _, _, _, _, rfl, rfl, by assumption, by k_asm, by k_asm, by assumption, by assumption, by assumption⟩
  clear hf9 ho9
  intro h9 tk9 g9 own9 R9 xs9 c9 hG9 F9 N9 m9 dat9 fr9
  obtain ⟨nw1, enw1⟩ : ∃ x, x = nw0 ++ own9 := ⟨_, rfl⟩
  have sub1 : ∀ q ∈ nw0, q ∈ nw1 := fun q hq => by rw [enw1]; exact List.mem_append_left _ hq
  simp only [List.cons_append, ← enw1] at N9
  have hx11 := sub1 _ hx10
  have hx21 := sub1 _ hx20
  have hth1 := sub1 _ hth0
  have hex1 : ExpAt w nw1 ex f v sg := hex9.mono fun q hq => sub1 q (sub0 q hq)
  have dat1 := dat0'.mono sub1
  have m91 : (R9, listObj (xs9.map Value.ref) c9) ∈ nw1 := by rw [enw1]; exact List.mem_append_right _ m9
  have dat91 : DatsAt w nw1 xs9 vs0 := dat9.mono fun q hq => by rw [enw1]; exact List.mem_append_right _ hq
  have hr11 : PthAt w nw1 kvs v vs1 := hr.mono fun q hq => sub1 q (sub0 q hq)
  have hD01 : DsIn w nw1 ds0 vs0 := hD0.mono fun q hq => sub1 q (sub0 q hq)
  have hD11 : DsIn w nw1 ds1 vs1 := hD1.mono fun q hq => sub1 q (sub0 q hq)
  have hoff1 : ∀ p ∈ nw1, p.1 ≠ 872 ∧ p.1 ≠ 915 := by
    intro q hq
    rw [enw1, enw0] at hq
    rcases List.mem_append.mp hq with hq | hq
    · rcases List.mem_append.mp hq with hq | hq
      · exact hoff q hq
      · exact ⟨fr0 q hq _ (.head _), fr0 q hq _ (.tail _ (.head _))⟩
    · exact ⟨fr9 q hq _ (.head _), fr9 q hq _ (.tail _ (.head _))⟩
  clear hex9 hr hD0 hD1 hoff dat9 m9
  k_steps
  · exact absurd (by assumption : (sg.str == Str.ofString "!") = true) (by cases sg <;> decide +kernel)
  rename_i h7 tk7 g7 hG7 F7 own7 R7 xs7 c7 ps7 qs7 hp7 hq7 m7 dat7 fr7 N7 kF kN Tc kX
  have eap : nw1 ++ own7 = nw ++ (own0 ++ (own9 ++ own7)) := by rw [enw1, enw0, List.append_assoc, List.append_assoc]
  refine hret _ _ _ _ _ ⟨own0 ++ (own9 ++ own7), R7, xs7, c7, ps7, qs7, rfl, rfl, hp7, hq7, eap ▸ m7, eap ▸ dat7, ?fZ⟩ (by assumption) (by k_asm) (eap ▸ kN)
  intro p hp
  rcases List.mem_append.mp hp with hp | hp
  · exact ⟨fr0 p hp _ (.head _), fr0 p hp _ (.tail _ (.head _)), fun q hq => fr0 p hp q (.tail _ (.tail _ hq))⟩
  · rcases List.mem_append.mp hp with hp | hp
    · exact ⟨fr9 p hp _ (.head _), fr9 p hp _ (.tail _ (.head _)), fun q hq => fr9 p hp q (.tail _ (.tail _ (sub0 q hq)))⟩
    · exact ⟨(fr7 p hp).1, (fr7 p hp).2.1, fun q hq => (fr7 p hp).2.2 q (sub1 q (sub0 q hq))⟩

end Mine

end

section
open PySem PySem.W PyProof.Rows
set_option linter.unusedVariables false
namespace Mine
local macro_rules | `(tactic| walk_at "zz") => `(tactic| fail)
local macro_rules | `(tactic| walk_at "zz") => `(tactic| fail)
local macro_rules | `(tactic| walk_at "zz") => `(tactic| fail)
local macro_rules | `(tactic| walk_at "zz") => `(tactic| fail)
local macro_rules | `(tactic| walk_at "zz") => `(tactic| fail)
local macro_rules | `(tactic| walk_at "zz") => `(tactic| fail)
local macro_rules | `(tactic| walk_at "zz") => `(tactic| fail)
local macro_rules | `(tactic| walk_at "zz") => `(tactic| fail)
local macro_rules | `(tactic| walk_at "zz") => `(tactic| fail)
local macro_rules | `(tactic| walk_at "zz") => `(tactic| fail)
local macro_rules | `(tactic| walk_at "zz") => `(tactic| fail)
local macro_rules | `(tactic| walk_at "zz") => `(tactic| fail)
local macro_rules | `(tactic| walk_at "zz") => `(tactic| fail)
local macro_rules | `(tactic| walk_at "zz") => `(tactic| fail)
local macro_rules | `(tactic| walk_at "zz") => `(tactic| fail)
local macro_rules | `(tactic| walk_at "zz") => `(tactic| fail)
local macro_rules | `(tactic| walk_at "zz") => `(tactic| fail)
local macro_rules | `(tactic| walk_at "zz") => `(tactic| fail)
local macro_rules | `(tactic| walk_at "zz") => `(tactic| fail)
local macro_rules | `(tactic| walk_at "zz") => `(tactic| fail)
local macro_rules | `(tactic| walk_at "zz") => `(tactic| fail)
local macro_rules | `(tactic| walk_at "zz") => `(tactic| fail)
local macro_rules | `(tactic| walk_at "zz") => `(tactic| fail)
local macro_rules | `(tactic| walk_at "zz") => `(tactic| fail)
local macro_rules | `(tactic| walk_at "zz") => `(tactic| fail)
local macro_rules | `(tactic| walk_at "zz") => `(tactic| fail)
local macro_rules | `(tactic| walk_at "zz") => `(tactic| fail)
local macro_rules | `(tactic| walk_at "zz") => `(tactic| fail)
local macro_rules | `(tactic| walk_at "zz") => `(tactic| fail)
theorem rstLH : True := by
  w_top off
  trivial
local macro_rules | `(tactic| k_mem) => `(tactic| assumption)
local macro_rules | `(tactic| k_all) => `(tactic| with_reducible assumption)
local macro_rules | `(tactic| ktr_enter) => `(tactic| (k_dflt (refine' code_def ?k1 ?k2 ?k3 ?k4 ?k5 ?kA ?kF ?kK ?k6 ?k7 ?k8 ?k9 ?kB ?_ ?c2 ?c3 ?c4 ?c5; (case kA => exact rfl); (case kF => first | exact rfl | assumption); (case kK => first | exact rfl | assumption); (case k1 => k_asm); (case k2 => k_asm); (case k3 => k_asm); (case k4 => k_asm); (case k5 => k_asm); (case k6 => k_is); (case k7 => k_is); (case k8 => ((try dsimp only [topA]); omega)); (case k9 => exact BindsTo.of_eq rfl); (case c5 => decide); (case kB => exact locs rfl); (case c2 => exact rfl); (case c3 => exact rfl); (case c4 => exact rfl); k_whole; intro g' L' h' FG' F' N' B' X' T'; (try dsimp only); (try k_fold))))
local macro_rules | `(tactic| ktd_sub) => `(tactic| (intro p9 hp9; repeat (first | exact hp9 | refine List.mem_cons_of_mem _ ?_)))
local macro_rules | `(tactic| ktd_rel) => `(tactic| first | assumption | (refine' DIn.mono ?hs ?hh; (case hh => assumption); (case hs => ktd_sub)) | (refine' DsIn.mono ?hs ?hh; (case hh => assumption); (case hs => ktd_sub)) | (refine' KsIn.mono ?hs ?hh; (case hh => assumption); (case hs => ktd_sub)))
local macro_rules | `(tactic| ktr_room) => `(tactic| (simp only [depth_deeper, depth_in1, topA] at *; omega))
local macro_rules | `(tactic| ktr_units) => `(tactic| (simp only [units_deeper, units_in1, topA] at *; omega))
local macro_rules | `(tactic| ktr_unf) => `(tactic| (k_dflt (refine' code_defC ?k1 ?k2 ?k3 ?k4 ?k5 ?kA ?kF ?kK ?k6 ?k7 ?k8 ?k9 ?kB ?kD ?_ ?c2 ?c3 ?c4; (case kA => exact rfl); (case kF => first | exact rfl | assumption); (case kK => first | exact rfl | assumption); (case k1 => k_asm); (case k2 => k_asm); (case k3 => k_asm); (case k4 => k_asm); (case k5 => k_asm); (case k6 => k_is); (case k7 => k_is); (case k8 => ((try dsimp only [topA]); omega)); (case k9 => exact BindsTo.of_eq rfl); (case kB => exact rfl); (case kD => decide +kernel); (case c2 => exact rfl); (case c3 => exact rfl); (case c4 => exact rfl); k_whole; intro g' L' h' tk' cells' FG' F' N' Y' B' X' T' l1; (try k_lt l1); k_cells Y'; (try simp only [List.cons_append, List.nil_append] at N'); (try dsimp only); (try k_fold))))
local macro_rules | `(tactic| walk_at "call ref") => `(tactic| (k_here; (with_reducible show wpAny _ _ (call (Value.ref 956) _) _ _ _); k_dflt (refine' use_call (kind_call _ _ _ _ ?hD) ?B ?F ?X ?N ?T ?hf ?hk ?hd ?hu ?hG ?_; (case B => k_asm); (case F => k_asm); (case X => k_asm); (case N => k_asm); (case T => k_asm); (case hf => first | exact rfl | assumption); (case hk => first | exact rfl | assumption); (case hG => assumption); (case hD => ktd_rel); (case hd => ktr_room); (case hu => ktr_units); k_whole; intro r9 nw9 h9 tk9 g9 p9 hG9 F9 N9; obtain ⟨p9, q9⟩ := p9; obtain ⟨t9, p9⟩ := p9; replace q9 := Eq.symm q9; subst q9; subst p9; (try dsimp only); (try k_fold))))
local macro_rules | `(tactic| walk_at "eval ListComp") => `(tactic| (k_here; k_dflt (refine ListComp_G (by k_asm) (by assumption) (by with_unfolding_all rfl) (by decide) (by rfl) (by decide) (by rfl) ?_)))
local macro_rules | `(tactic| walk_at "eval DictComp") => `(tactic| (k_here; k_dflt (refine DictComp_G (by k_asm) (by assumption) (by with_unfolding_all rfl) (by decide) (by rfl) (by decide) (by rfl) ?_)))
local macro_rules | `(tactic| walk_at "exec Assign cons ListComp") => `(tactic| (k_here; k_dflt (refine Assign_ListComp_G (by k_asm) (by assumption) (by rfl) (by with_unfolding_all rfl) (by with_unfolding_all rfl) (by decide) (by rfl) (by decide) (by rfl) (by rfl) (by rfl) ?_)))
local macro_rules | `(tactic| walk_at "exec Assign cons DictComp") => `(tactic| (k_here; k_dflt (refine Assign_DictComp_G (by k_asm) (by assumption) (by rfl) (by with_unfolding_all rfl) (by with_unfolding_all rfl) (by decide) (by rfl) (by decide) (by rfl) (by rfl) (by rfl) ?_)))
local macro_rules | `(tactic| k_room) => `(tactic| ((try simp only [depth_mark, depth_under_make, depth_under_kw, depth_in1, depth_deeper, depth_caller, topA]); omega))
local macro_rules | `(tactic| k_units) => `(tactic| ((try simp only [units_deeper, units_in1, topA]); omega))
local macro_rules | `(tactic| k_mem) => `(tactic| first | assumption | exact List.Mem.head _ | (refine' List.Mem.tail _ ?_; k_mem))
local macro_rules | `(tactic| ktr_enter) => `(tactic| (k_dflt (refine' code_defL ?k1 ?k2 ?k3 ?k4 ?k5 ?kA ?kF ?kK ?k6 ?k7 ?k8 ?k9 ?kB ?_ ?c2 ?c3 ?c4 ?c5; (case kA => exact rfl); (case kF => first | exact rfl | assumption); (case kK => first | exact rfl | assumption); (case k1 => k_asm); (case k2 => k_asm); (case k3 => k_asm); (case k4 => k_asm); (case k5 => k_asm); (case k6 => k_is); (case k7 => k_is); (case k8 => ((try dsimp only [topA]); omega)); (case k9 => exact BindsTo.of_eq rfl); (case c5 => decide); (case kB => exact locs rfl); (case c2 => exact rfl); (case c3 => exact rfl); (case c4 => exact rfl); k_whole; intro g' L' h' FG' F' N' B' X' T' lx9; (try dsimp only); (try k_fold))))
local macro_rules | `(tactic| k_enter) => `(tactic| first | (refine' code_def ?k1 ?k2 ?k3 ?k4 ?k5 ?kA ?kF ?kK ?k6 ?k7 ?k8 ?k9 ?kB ?_ ?c2 ?c3 ?c4 ?c5; (case kA => exact rfl); (case kF => exact rfl); (case kK => exact rfl); (case k1 => k_asm); (case k2 => k_asm); (case k3 => k_asm); (case k4 => k_asm); (case k5 => k_asm); (case k6 => k_is); (case k7 => k_is); (case k8 => k_room); (case k9 => first | exact BindsTo.of_eq rfl | exact binds_K (by k_in) rfl (by k_is) rfl rfl rfl | fail "k_enter: no rule for these arguments"); (case c5 => decide); (case kB => exact locs rfl); (case c2 => exact rfl); (case c3 => exact rfl); (case c4 => exact rfl); k_whole; intro g' L' h' FG' F' N' B' X' T'; (have lL9 := ltN (Nat.lt_of_lt_of_le (Fr.ns FG').lt (Fr.above F'))); (try dsimp only); (try k_lift B'); (try k_fold)) | (refine' code_defC ?k1 ?k2 ?k3 ?k4 ?k5 ?kA ?kF ?kK ?k6 ?k7 ?k8 ?k9 ?kB ?kD ?_ ?c2 ?c3 ?c4; (case kA => exact rfl); (case kF => exact rfl); (case kK => exact rfl); (case k1 => k_asm); (case k2 => k_asm); (case k3 => k_asm); (case k4 => k_asm); (case k5 => k_asm); (case k6 => k_is); (case k7 => k_is); (case k8 => k_room); (case k9 => first | exact BindsTo.of_eq rfl | exact binds_K (by k_in) rfl (by k_is) rfl rfl rfl | fail "k_enter: no rule for these arguments"); (case kB => exact rfl); (case kD => decide +kernel); (case c2 => exact rfl); (case c3 => exact rfl); (case c4 => exact rfl); k_whole; intro g' L' h' tk' cells' FG' F' N' Y' B' X' T' l1; (have lL9 := ltN (Nat.lt_of_lt_of_le (Fr.ns FG').lt (Fr.above F'))); (try k_lt l1); k_cells Y'; (try simp only [List.cons_append, List.nil_append] at N'); (try dsimp only); (try k_lift B'); (try k_fold)))
local macro_rules | `(tactic| k_all) => `(tactic| first | (with_reducible assumption) | (refine' ltAll_neX ?h ?b; (case h => with_reducible assumption); (case b => omega)))
local macro_rules | `(tactic| walk_at "getMethod ref") => `(tactic| (k_here; (with_reducible show wpAny _ _ (getMethod (Value.ref _) (PySem.Str.ofString "get") _) _ _ _); k_dflt (refine' dict_method ?N ?m PySem.F.slot_dict_get PySem.F.type_dict_get ?_; (case N => k_asm); (case m => k_mem))))
local macro_rules | `(tactic| walk_at "call builtin:dict.get") => `(tactic| (k_here; (with_reducible show wpAny _ _ (call (Value.builtin _) [Value.ref _, Value.str _ _, _]) _ _ _); k_dflt (refine' get_led ?N ?m ?d ?s ?v ?_; (case N => k_asm); (case m => k_mem); (case d => with_reducible assumption); (case s => with_reducible assumption); (case v => first | exact getD_some (by with_reducible assumption) | exact getD_none (by with_reducible assumption)); k_whole; intro tk9)))
local macro_rules | `(tactic| walk_at "compareOp Is") => `(tactic| (k_here; (with_reducible show wpAny _ _ (compareOp CmpOp.Is _ (Value.ref _)) _ _ _); k_dflt (refine' is_data (d := _) ?F ?N ?D ?X ?k ?_; (case F => k_asm); (case N => k_asm); (case D => ktd_rel); (case X => k_asm); (case k => k_is); k_whole)))
local macro_rules | `(tactic| walk_at "eval GeneratorExp") => `(tactic| (k_here; refine Halt.mk' ?_))
local macro_rules | `(tactic| k_handed) => `(tactic| first | exact DIn.handed (by with_reducible assumption) | (simp only [handedIn]; done) | decide +kernel | rfl)
local macro_rules | `(tactic| walk_at "truthy ref") => `(tactic| (k_here; (with_reducible show wpAny _ _ (truthy (Value.ref _)) _ _ _); k_dflt (refine' truthy_led ?N ?hm ?hf ?hb ?_; (case N => k_asm); (case hm => k_mem); (case hf => first | exact Nat.lt_of_le_of_lt (by with_reducible assumption) (by decide) | (rw [List.length_map]; exact Nat.lt_of_le_of_lt (by with_reducible assumption) (by decide))); (case hb => first | exact snoc_ne _ _ | rfl); k_whole; intro tk9)))
local macro_rules | `(tactic| walk_at "call ref") => `(tactic| (k_here; (with_reducible show wpAny _ _ (call (Value.ref 863) _) _ _ _); k_dflt (refine' use_call (eqHolds_call _ _ _ _ _) ?B ?F ?X ?N ?T ?hf ?hk ?hd ?hu ?hG ?_; (case B => k_asm); (case F => k_asm); (case X => k_asm); (case N => k_asm); (case T => k_asm); (case hf => first | exact rfl | assumption); (case hk => first | exact rfl | assumption); (case hG => assumption); (case hd => k_room); (case hu => k_units); k_whole; intro r9 nw9 h9 tk9 g9 p9 hG9 F9 N9; obtain ⟨p9, q9⟩ := p9; replace q9 := Eq.symm q9; subst q9; subst p9; (try dsimp only); (try k_fold))))
local macro_rules | `(tactic| walk_at "eval ListComp") => `(tactic| (k_here; (with_reducible show wpAny _ _ (eval (Expr.ListComp _ [Comprehension.mk _ _ [_] _] _ _) _) _ _ _); k_dflt (refine ListComp_C (by k_asm) (by assumption) (by with_unfolding_all rfl) (fun _ => by with_unfolding_all rfl) (fun _ => by with_unfolding_all rfl) (by rfl) (by decide) (by with_unfolding_all rfl) ?_)))
local macro_rules | `(tactic| walk_at "call builtin:any") => `(tactic| (k_here; refine Halt.mk' ?_))
local macro_rules | `(tactic| walk_at "call ref") => `(tactic| (k_here; (with_reducible show wpAny _ _ (call (Value.ref 913) _) _ _ _); refine Halt.mk' ?_))
local macro_rules | `(tactic| k_handed) => `(tactic| first | (with_reducible assumption) | (simp only [handedIn]; done) | decide +kernel | rfl)
theorem pickV_mem {sg : Sg} {ds1 : List D} {x : Value} : ∀ {ds0 : List D} {vs0 : List Value}, x ∈ pickV sg ds1 ds0 vs0 → x ∈ vs0
  | [], _, h => by simp [pickV] at h
  | _ :: _, [], h => by simp [pickV] at h
  | d :: ds, v :: vs, h => by
    simp only [pickV] at h
    split at h
    · rcases List.mem_cons.mp h with rfl | h
      · exact .head _
      · exact .tail _ (pickV_mem h)
    · exact .tail _ (pickV_mem h)
theorem wantV_mem {sg : Sg} {ds0 ds1 : List D} {vs0 : List Value} {th x : Value} (h : x ∈ wantV sg ds0 vs0 ds1 th) : x = th ∨ x ∈ vs0 := by
  unfold wantV at h
  split at h
  · split at h
    · split at h
      · exact .inl (List.mem_singleton.mp h)
      · exact .inr h
    · cases h
  · exact .inr (pickV_mem h)
theorem pickV_len {sg : Sg} {ds1 : List D} : ∀ {ds0 : List D} {vs0 : List Value}, (pickV sg ds1 ds0 vs0).length ≤ vs0.length
  | [], _ => by simp [pickV]
  | _ :: _, [] => by simp [pickV]
  | d :: ds, v :: vs => by
    have ih := pickV_len (sg := sg) (ds1 := ds1) (ds0 := ds) (vs0 := vs)
    simp only [pickV]
    split <;> simp <;> omega
theorem wantV_len {sg : Sg} {ds0 ds1 : List D} {vs0 : List Value} {th : Value} (h : vs0.length ≤ 3) : (wantV sg ds0 vs0 ds1 th).length ≤ 3 := by
  unfold wantV
  split
  · split
    · split
      · exact (by decide : 1 ≤ 3)
      · exact h
    · exact Nat.zero_le _
  · exact Nat.le_trans pickV_len h
theorem DsIn.handed {w : World} {nw : List (Addr × Obj)} {ds : List D} {vs : List Value} (h : DsIn w nw ds vs) : ∀ v ∈ vs, handedIn v = true := by
  intro v hv
  obtain ⟨i, hi⟩ := List.getElem?_of_mem hv
  obtain ⟨d, _, hd⟩ := h.get hi
  exact hd.handed
theorem closeExp {Qp : Prop} {w : World} {h₀ h : Heap} {L x d f v : Addr} {sg : Sg} {n : Nat} {t1 t2 t3 st : Tok} {nw l : List (Addr × Obj)} (N : News h₀ L h l) (h1 : (x, instObj 935 d) ∈ l) (h2 : (d, dictOf [ent w "target" t1 (.ref f), ent w "op" t2 (.str sg.str st), ent w "value" t3 (.ref v)] n) ∈ l) (hs : ∀ q ∈ nw, q ∈ l) (lt1 : AllLt d nw) (lt2 : @LT.lt Nat _ d x)
    (k : ∀ own, ExpAt w own x f v sg → News h₀ L h (nw ++ own) → (∀ p ∈ own, ∀ q ∈ nw, p.1 ≠ q.1) → Qp) : Qp := by
  have lt := tb_ltOf lt1
  refine k [(x, instObj 935 d), (d, dictOf [ent w "target" t1 (.ref f), ent w "op" t2 (.str sg.str st), ent w "value" t3 (.ref v)] n)] ⟨d, n, t1, t2, t3, st, .head _, .tail _ (.head _)⟩ (fun p hp => ?_) (fun p hp q hq => ?_)
  · rcases List.mem_append.mp hp with hp | hp
    · exact N p (hs p hp)
    · rcases List.mem_cons.mp hp with rfl | hp
      · exact N _ h1
      · rw [List.mem_singleton.mp hp]; exact N _ h2
  · rcases List.mem_cons.mp hp with rfl | hp
    · exact Nat.ne_of_gt (Nat.lt_trans (lt q hq) lt2)
    · rw [List.mem_singleton.mp hp]; exact Nat.ne_of_gt (lt q hq)
set_option maxRecDepth 100000 in
set_option maxHeartbeats 8000000 in
theorem law_holds (w : World) (nw : List (Addr × Obj)) (ps qs : Array Value) (f v th : Addr) (sg : Sg) (t : Tok) (vs0 vs1 : List Value) (ds0 ds1 : List D) (es : List DictEntry) (n : Nat) (kvs : List (Str × Value))
    (hth : (th, dictObj es n) ∈ nw) (hdo : (dictObj es n).IsDictOf (PySem.strKind PP w) kvs) (hs : (th == sysModules) = false) (hrf : PthAt w nw kvs f vs0) (hr : PthAt w nw kvs v vs1)
    (hn0 : vs0.length ≤ 3) (hn1 : vs1.length ≤ 3) (hD0 : DsIn w nw ds0 vs0) (hD1 : DsIn w nw ds1 vs1) (ok0 : ∀ d ∈ ds0, d.ok 3) (ok1 : ∀ d ∈ ds1, d.ok 3)
    (hps : TriplesOk ps.toList) (hqs : TriplesOk qs.toList) (hoff : ∀ p ∈ nw, p.1 ≠ 872 ∧ p.1 ≠ 915) :
    CallsTo w 980 [.ref th, .ref f, .str sg.str t, .ref v] ((872, tabObj ps) :: (915, tabObj qs) :: nw) 290 3300 (fun r nw' => ∃ own R c ps' qs', r = .ref R ∧ nw' = (872, tabObj ps') :: (915, tabObj qs') :: (nw ++ own) ∧ TriplesOk ps'.toList ∧ TriplesOk qs'.toList ∧
      (R, listObj (wantV sg ds0 vs0 ds1 (.ref th)) c) ∈ own ∧ ∀ p ∈ own, p.1 ≠ 872 ∧ p.1 ≠ 915 ∧ ∀ q ∈ nw, p.1 ≠ q.1) := by
  intro fl p loose mean mg mb dp un gd env outer A₀ base h₀ L m s Q E HA hG hret
  obtain ⟨B, F, X, N, T, hf, hk, hd, hu⟩ := HA
  refine wpAny_call ?_
  ktr_enter
  rename_i gF LF hF FGF FF NF BF XF TF lxF
  k_steps
  refine ⟨?_⟩
  refine' closeExp (w := w) (f := f) (v := v) (sg := sg) (nw := (872, tabObj ps) :: (915, tabObj qs) :: nw) ?N9 ?h19 ?h29 ?s9 ?l19 ?l29 ?k9
  (case N9 => k_asm)
  (case h19 => k_mem)
  (case h29 => k_mem)
  (case s9 => ktd_sub)
  (case l19 => assumption)
  (case l29 => assumption)
  intro own0 ex0 N0 fr0
  obtain ⟨nw0, enw0⟩ : ∃ x, x = nw ++ own0 := ⟨_, rfl⟩
  have sub0 : ∀ q ∈ nw, q ∈ nw0 := fun q hq => by rw [enw0]; exact List.mem_append_left _ hq
  have ex0' := ex0.mono (nw' := nw0) fun q hq => by rw [enw0]; exact List.mem_append_right _ hq
  simp only [List.cons_append, ← enw0] at N0
  have hoff0 : ∀ p ∈ nw0, p.1 ≠ 872 ∧ p.1 ≠ 915 := by
    intro q hq
    rw [enw0] at hq
    rcases List.mem_append.mp hq with hq | hq
    · exact hoff q hq
    · exact ⟨fr0 q hq _ (.head _), fr0 q hq _ (.tail _ (.head _))⟩
  refine' use_call (exp_find w nw0 ps qs _ f v th sg vs0 vs1 ds0 ds1 es n kvs ex0' (sub0 _ hth) hdo hs (hrf.mono sub0) (hr.mono sub0) hn0 hn1 (hD0.mono sub0) (hD1.mono sub0) ok0 ok1 hps hqs hoff0) ?BZ ?FZ ?XZ N0 ?TZ rfl rfl ?dZ ?uZ hG ?_
  (case BZ => k_asm)
  (case FZ => k_asm)
  (case XZ => k_asm)
  (case TZ => k_asm)
  (case dZ => k_room)
  (case uZ => k_units)
  rintro r9 nw9 h9 tk9 g9 ⟨own9, R9, xs9, c9, ps9, qs9, rfl, rfl, hp9, hq9, m9, dat9, fr9⟩ hG9 F9 N9
  obtain ⟨nw1, enw1⟩ : ∃ x, x = nw0 ++ own9 := ⟨_, rfl⟩
  rw [← enw1] at m9 dat9 N9
  have l9 : xs9.length ≤ 3 := by rw [dat9.length]; exact wantV_len hn0
  refine src_list hG9 rfl F9 N9 (.tail _ (.tail _ m9)) ?_
  intro hp0
  obtain ⟨vsW, eW⟩ : ∃ x, x = wantV sg ds0 vs0 ds1 (.ref th) := ⟨_, rfl⟩
  have hW : ∀ y ∈ vsW, handedIn y = true := by
    intro y hy
    rw [eW] at hy
    rcases wantV_mem hy with rfl | hy
    · rfl
    · exact hD0.handed y hy
  rw [← eW] at dat9
  refine GRest.turns (fun i oD nwx => nwx = (872, tabObj ps9) :: (915, tabObj qs9) :: nw1 ∧ oD = LCg.lst (vsW.take i)) ⟨rfl, by simp⟩ ?hendZ ?hstepZ
  case hstepZ =>
    rintro i hi oD nwx ⟨rfl, rfl⟩ v0 I0 oI0 C0 oC0 D0 m0 h0 tk0 g0 E0 Post0 e0 hC0 hx0 F0 N0 off0 ne0 hG0 hPost0
    obtain ⟨x0, ex0, rfl⟩ : ∃ x, xs9[i]? = some x ∧ Value.ref x = v0 := by
      have := e0
      simp only [List.getElem?_toArray, List.getElem?_map, Option.map_eq_some_iff] at this
      exact this
    obtain ⟨v9, ev9, dat0⟩ := dat9.get ex0
    have hv9 := hW v9 (List.mem_of_getElem? ev9)
    obtain ⟨yd, yn, yt1, yt2, yt3, ypv, ycv, hy1, hy2⟩ := dat0
    have hi3 : i < 4 := by
      have hi' : i < xs9.length := by simpa using hi
      omega
    refine turnL (ys := vsW.take i) ne0 (by rw [sizeLine_eq, List.length_take]; exact Nat.le_trans (Nat.min_le_left _ _) (by omega)) hPost0 ?_
    k_steps
    refine handed_on hv9 ?_
    refine ⟨_, _, _, oC0, m0, _, rfl, by assumption, hC0, by k_asm, by k_asm, off0, .tail _ (.tail _ m9), rfl, ?_⟩
    rw [List.take_add_one, ev9]
    rfl
  case hendZ =>
    rintro oD nwx ⟨rfl, rfl⟩
    intro D1 h1 tk1 g1 hG1 F1 N1 off1 ltD1
    have etake : vsW.take (List.map Value.ref xs9).toArray.size = vsW := by
      rw [List.size_toArray, List.length_map, dat9.length, List.take_length]
    rw [etake] at N1
    k_steps
    refine hret _ _ _ _ _ ⟨own0 ++ (own9 ++ [(D1, LCg.lst vsW)]), D1, _, ps9, qs9, rfl, rfl, hp9, hq9, (by rw [← eW]; exact List.mem_append_right _ (List.mem_append_right _ (.head _))), ?fZ⟩ hG1 (by k_asm) (news_sub (by k_asm) ?sZ)
    case fZ =>
      have om := off1_mem off1
      intro p hp
      rcases List.mem_append.mp hp with hp | hp
      · exact ⟨fr0 p hp _ (.head _), fr0 p hp _ (.tail _ (.head _)), fun q hq => fr0 p hp q (.tail _ (.tail _ hq))⟩
      · rcases List.mem_append.mp hp with hp | hp
        · exact ⟨(fr9 p hp).1, (fr9 p hp).2.1, fun q hq => (fr9 p hp).2.2 q (sub0 q hq)⟩
        · rw [List.mem_singleton.mp hp]
          exact ⟨Ne.symm (om _ (.head _)), Ne.symm (om _ (.tail _ (.head _))), fun q hq => Ne.symm (om q (.tail _ (.tail _ (by rw [enw1]; exact List.mem_append_left _ (sub0 q hq)))))⟩
    case sZ =>
      intro p hp
      rw [enw1, enw0]
      simp only [List.mem_cons, List.mem_append, List.not_mem_nil, or_false] at hp ⊢
      rcases hp with h | h | h | h | h | h <;> simp only [h, true_or, or_true]

end Mine

end

section
open PySem PySem.W PyProof.Rows PySem.Calls
set_option linter.unusedVariables false
set_option maxHeartbeats 2000000
namespace Mine
open LCg
/-- the end of a turn of a for -/
def FStepG (fl : Nat) (h₀ : Heap) (L : Addr) (s : Shared) (I : Addr) (oI : Obj) (J : (Str → Option Value) → List (Addr × Obj) → Prop) (Q : Flow → Shared → Prop) (f : Flow) (s₃ : Shared) : Prop :=
  match f with
  | .next | .cont => ∃ h' tk g m₂ news₂, s₃ = { s with heap := h', toks := tk, gens := g } ∧ GB fl g ∧ Fr h₀ L h' m₂ ∧ News h₀ L h' ((I, oI) :: news₂) ∧ (∀ p ∈ news₂, p.1 ≠ I) ∧ J m₂ news₂
  | .brk => Q .next s₃
  | .ret v => Q (.ret v) s₃
theorem FStepG.nextG {fl : Nat} {h₀ : Heap} {L : Addr} {s : Shared} {I : Addr} {oI : Obj} {J : (Str → Option Value) → List (Addr × Obj) → Prop} {Q : Flow → Shared → Prop} {h' : Heap} {tk : Nat} {g : Array GenState} {m₂ : Str → Option Value} {news₂ : List (Addr × Obj)}
    (hG : GB fl g) (F : Fr h₀ L h' m₂) (N : News h₀ L h' ((I, oI) :: news₂)) (off : ∀ p ∈ news₂, p.1 ≠ I) (hJ : J m₂ news₂) : FStepG fl h₀ L s I oI J Q .next { s with heap := h', toks := tk, gens := g } := ⟨h', tk, g, m₂, news₂, rfl, hG, F, N, off, hJ⟩
section
variable {prog : Program} {w : World} {A : Around} {E : Value → Shared → Prop} {s : Shared} {env : Env} {h₀ : Heap} {L : Addr} {m : Str → Option Value} {news : List (Addr × Obj)}
/-- a for over a list of the ledger, by an invariant -/
theorem For_G {fl : Nat} {Q : Flow → Shared → Prop} {target iter : Expr} {body : List Stmt} {pos : Pos} {ax : Addr} {its : Array Value} {kk : Nat} (J : Nat → (Str → Option Value) → List (Addr × Obj) → Prop)
    (hh : A.handled = none)
    (h : wpAny (model prog w) A (eval iter env) (fun xv s₁ => xv = .ref ax ∧ ∃ tk, s₁ = { s with toks := tk }) E s)
    (hG : GB fl s.gens) (F : Fr h₀ L s.heap m) (N : News h₀ L s.heap news) (hJ : J 0 m news)
    (hax : ∀ i m₁ news₁, J i m₁ news₁ → (ax, ({ cls := .type "list", data := .seq its kk } : Obj)) ∈ news₁)
    (turn : ∀ i v m₁ news₁ I oI h₁ tk₁ g₁ (E' : Value → Shared → Prop), its[i]? = some v → GB fl g₁ → Fr h₀ L h₁ m₁ → News h₀ L h₁ ((I, oI) :: news₁) → (∀ p ∈ news₁, p.1 ≠ I) → @LT.lt Nat _ L I → J i m₁ news₁ →
      wpAny (model prog w) A (assign target env v) (fun _ s₂ => wpAny (model prog w) A (execs body env) (FStepG fl h₀ L s I oI (J (i + 1)) Q) E' s₂) E' { s with heap := h₁, toks := tk₁, gens := g₁ })
    (fin : ∀ m₁ news₁ h₁ tk₁ g₁, GB fl g₁ → Fr h₀ L h₁ m₁ → News h₀ L h₁ news₁ → J its.size m₁ news₁ → Q .next { s with heap := h₁, toks := tk₁, gens := g₁ })
    (hs : ∀ x, foldedSetIterable iter env x = pure x := by intro _; rfl) :
    wpAny (model prog w) A (exec (.For target iter body [] pos) env) Q E s := by
  refine wpAny_For (wpAny_mono h (fun xv s₁ h₁ => ?_) fun _ _ e => e) hs
  obtain ⟨rfl, tk0, rfl⟩ := h₁
  refine list_iter (s := { s with toks := tk0 }) F N (hax _ _ _ hJ) ?_
  intro I oI hI it0 FI NI lI LI
  have hIL : L ≠ I := Nat.ne_of_lt LI
  have hI₀ : h₀.get? I = none := (NI (I, oI) (.head _)).2.2
  have hne : ax ≠ I := Nat.ne_of_lt (lI _ (hax _ _ _ hJ))
  have W := Walks.list (prog := prog) (w := w) hh I ax hne its
  have hl : ∀ {h' : Heap} {nw : List (Addr × Obj)}, News h₀ L h' nw → (ax, ({ cls := .type "list", data := .seq its kk } : Obj)) ∈ nw → h'.IsList ax its := fun N hm => ⟨_, N.get hm, rfl, kk, rfl⟩
  refine codeAny_forLoop_any (fun k s' => ∃ h₁ tk₁ g₁ m₁ news₁ i, s' = { s with heap := h₁, toks := tk₁, gens := g₁ } ∧ GB fl g₁ ∧ Fr h₀ L h₁ m₁ ∧ News h₀ L h₁ news₁ ∧ (∀ p ∈ news₁, p.1 ≠ I) ∧ J i m₁ news₁ ∧ h₁.IsListIter I ax i ∧ i ≤ its.size ∧ k = its.size + 1 - i) ?_ (its.size + 1)
    ⟨hI, tk0, s.gens, m, news, 0, rfl, hG, FI, fun p hp => NI p (.tail _ hp), fun p hp => Nat.ne_of_lt (lI p hp), hJ, it0, Nat.zero_le _, rfl⟩
  rintro k s' ⟨h₁, tk₁, g₁, m₁, news₁, i, rfl, G₁, F₁, N₁, off₁, J₁, it₁, hi, rfl⟩
  by_cases hlt : i < its.size
  · refine W.item i _ _ _ hlt ⟨it₁, hl N₁ (hax _ _ _ J₁)⟩ fun v h₂ tk₂ hv hst₂ hk₂ => ?_
    have F₂ := fr_but F₁ hk₂ hIL hI₀
    have N₂ := news_but N₁ hk₂ off₁
    obtain ⟨⟨oI₂, e₂, c₂, dd₂⟩, _⟩ := hst₂
    refine letGo_listiter (i := i + 1) ⟨oI₂, e₂, c₂, dd₂⟩ ?_
    have N₂' : News h₀ L h₂ ((I, oI₂) :: news₁) := fun p hp => by
      rcases List.mem_cons.mp hp with rfl | hp
      · exact ⟨e₂, Ne.symm hIL, hI₀⟩
      · exact N₂ p hp
    refine wpAny_mono (turn i v m₁ news₁ I oI₂ h₂ tk₂ g₁ _ hv G₁ F₂ N₂' off₁ LI J₁) (fun _ s₂ h₂ => wpAny_mono h₂ (fun f s₃ h₃ => ?_) fun _ _ e => e) fun _ _ e => e
    have step : (∃ h' tk g m₂ news₂, s₃ = { s with heap := h', toks := tk, gens := g } ∧ GB fl g ∧ Fr h₀ L h' m₂ ∧ News h₀ L h' ((I, oI₂) :: news₂) ∧ (∀ p ∈ news₂, p.1 ≠ I) ∧ J (i + 1) m₂ news₂) →
        ∃ m', m' < its.size + 1 - i ∧ ∃ h₁ tk₁ g₁ m₁ news₁ i', s₃ = { s with heap := h₁, toks := tk₁, gens := g₁ } ∧ GB fl g₁ ∧ Fr h₀ L h₁ m₁ ∧ News h₀ L h₁ news₁ ∧ (∀ p ∈ news₁, p.1 ≠ I) ∧ J i' m₁ news₁ ∧ h₁.IsListIter I ax i' ∧ i' ≤ its.size ∧ m' = its.size + 1 - i' := by
      rintro ⟨h', tk, g, m₂, news₂, rfl, G₃, F₃, N₃, off₃, J₃⟩
      exact ⟨its.size + 1 - (i + 1), by omega, h', tk, g, m₂, news₂, i + 1, rfl, G₃, F₃, fun p hp => N₃ p (.tail _ hp), off₃, J₃, ⟨oI₂, (N₃ (I, oI₂) (.head _)).1, c₂, dd₂⟩, hlt, rfl⟩
    cases f with
    | next => exact step h₃
    | cont => exact step h₃
    | brk => exact h₃
    | ret v => exact h₃
  · obtain rfl : i = its.size := Nat.le_antisymm hi (Nat.not_lt.mp hlt)
    refine W.done _ _ _ ⟨it₁, hl N₁ (hax _ _ _ J₁)⟩ fun h₂ tk₂ hk₂ => wpAny_execs_nil ?_
    exact fin m₁ news₁ h₂ tk₂ g₁ G₁ (fr_but F₁ hk₂ hIL hI₀) (news_but N₁ hk₂ off₁) J₁
end
end Mine

end

section
open PySem PySem.W PyProof.Rows PySem.Calls
set_option linter.unusedVariables false
set_option maxHeartbeats 2000000
namespace Mine
open SeqAt
section
variable {prog : Program} {w : World} {A : Around} {E : Value → Shared → Prop} {s : Shared} {h₀ : Heap} {L : Addr} {news : List (Addr × Obj)} {a b : Addr} {xs ys : List Value} {n n' : Nat} {Q : Value → Shared → Prop}
theorem isList_led (N : News h₀ L s.heap news) (ha : (a, listObj xs n) ∈ news) : s.heap.IsList a xs.toArray := ⟨_, N.get ha, rfl, n, rfl⟩
theorem eq_nil (N : News h₀ L s.heap news) (ha : (a, listObj xs n) ∈ news) (hb : (b, listObj [] n') ∈ news) (hu : A.units < cLine) {c : Bool} (hc : xs.isEmpty = c) (h : Q (.bool c) s) : wpAny (model prog w) A (compareOp .Eq (.ref a) (.ref b)) Q E s := by
  subst hc
  cases xs with
  | nil => exact eq_listAt (e := fun _ => true) (isList_led N ha) (isList_led N hb) rfl hu (fun j h1 => absurd h1 (Nat.not_lt_zero _)) h
  | cons x xs => exact eq_list_lengthsAt (isList_led N ha) (isList_led N hb) (by simp) hu h
theorem ne_same (N : News h₀ L s.heap news) (ha : (a, listObj xs n) ∈ news) (hb : (b, listObj ys n') ∈ news) (hu : A.units < cLine) (hxy : xs = ys) (h : Q (.bool false) s) : wpAny (model prog w) A (compareOp .NotEq (.ref a) (.ref b)) Q E s := by
  subst hxy
  have k := RcNeAt.lists (A := A) (e := fun _ => true) (isList_led N ha) (isList_led N hb) rfl hu (fun j h1 h2 => EqAt.same _)
  refine k prog w E Q ?_
  have e : (List.range xs.toArray.size).all (fun _ => true) = true := by simp
  first
  | (rw [e]; exact h)
  | simpa [e] using h
theorem ne_nil (N : News h₀ L s.heap news) (ha : (a, listObj xs n) ∈ news) (hb : (b, listObj [] n') ∈ news) (hu : A.units < cLine) {c : Bool} (hc : (!xs.isEmpty) = c) (h : Q (.bool c) s) : wpAny (model prog w) A (compareOp .NotEq (.ref a) (.ref b)) Q E s := by
  subst hc
  cases xs with
  | nil => exact ne_same N ha hb hu rfl h
  | cons x xs => exact RcNeAt.lists_lengths (isList_led N ha) (isList_led N hb) (by simp) hu prog w E Q h
end
end Mine

end

section
open PySem PySem.W PyProof.Rows PySem.Calls PyProof.V
set_option linter.unusedVariables false
set_option maxHeartbeats 2000000
namespace Mine
open LCg
section
variable {fl : Nat} {prog : Program} {w : World} {A : Around} {E : Value → Shared → Prop} {s : Shared} {h₀ : Heap} {L : Addr} {m : Str → Option Value} {env : Env}
theorem comp_CA {e iter : Expr} {x y : Str} {px py : Pos} {ifs : List Expr} {gs : List Comprehension} {scope : Scope} {cl : List (Str × Addr)} {Bd : PT} {newAcc : Sem Value} {oD₀ : Obj} {pos : Pos} {s : Shared} {Q : Flow → Shared → Prop} {mkx : Addr → Env} (hLe : env.locals = L)
    (hmk : mkx = fun C => compEnvC scope ((x, C + 1) :: cl) C env)
    (LT : LoopRuleP prog w A e (.Name x px) mkx Bd) (ST : StartRule prog w A e)
    (hAcc : ∀ (s : Shared) (Q : Value → Shared → Prop) (E : Value → Shared → Prop), Q (.ref s.heap.objs.size) { s with heap := s.heap.push oD₀ } → wpAny (model prog w) A newAcc Q E s) (hfree : oD₀.isFreed = false)
    (hcl : clausesOf e = ⟨.Name x px, iter, ifs, 0⟩ :: gs) (hs : ∀ x, foldedSetIterable iter env x = pure x)
    (hclos : closureFor scope env = pure cl) (hcs : ∀ n, cellsFrom n scope.names cl = (x, n) :: cl) (hpc : ∀ h : Heap, pushCells h scope.names = h.push { cls := .type "cell", data := .cell none })
    (hkind : scope.kind = .function) (hnames : ∀ y ∈ scope.names, y.2 = .local → scope.names.lookup y.1 = some .local) (hx : (relabel scope env).names.lookup x = some .cell)
    (hy : env.kindOf y = some .local) (hp : (env.scope.kind == .class || (env.scope.kind == .module && env.locals != env.globals)) = false)
    (h : wpAny (model prog w) A (eval iter env) (GSrcC fl prog w A h₀ L m Bd oD₀ (GFinA fl h₀ L m y Q)) E s) :
    wpAny (model prog w) A (comprehension e scope env pos newAcc false (eval iter env) (some (assign (.Name y py) env))) (fun _ s' => Q .next s') E s := by
  subst hmk
  subst hLe
  refine wpAny_comprehension_free (use := some (assign (.Name y py) env)) (Q := fun _ s' => Q .next s') hcl hs hclos hkind hnames (wpAny_mono h (fun xv s₁ h₁ => ?_) fun _ _ e => e)
  obtain ⟨ax, its, k, news, rfl, hG, hh, F₁, N₁, hm, R⟩ := h₁
  have hl : s₁.heap.IsList ax its := N₁.isList hm
  have hlt : ax < s₁.heap.objs.size := by obtain ⟨_, e, _⟩ := hl; exact Heap.lt_size e
  have hLlt : env.locals < s₁.heap.objs.size := F₁.ns.lt
  have hlt0 : ∀ p ∈ news, p.1 < s₁.heap.objs.size := fun p hp => Heap.lt_size (N₁ p hp).1
  have new : ∀ b, s₁.heap.objs.size ≤ b → h₀.get? b = none := fun b hb => by
    cases e : h₀.get? b with
    | none => rfl
    | some o => exact absurd (Heap.lt_size (F₁.keep b o e)) (Nat.not_lt.mpr hb)
  refine wpAny_pyIter_list hl ?_
  refine hAcc _ _ _ (newEnv_cell hcs hpc ?_)
  dsimp only
  generalize hI : s₁.heap.objs.size = I at hlt hLlt hlt0 new
  have z1 : (s₁.heap.push { cls := .type "list_iterator", data := .fields #[.ref ax, .int 0 0] }).objs.size = I + 1 := by rw [Heap.size_push, hI]
  have z2 : ((s₁.heap.push { cls := .type "list_iterator", data := .fields #[.ref ax, .int 0 0] }).push oD₀).objs.size = I + 2 := by rw [Heap.size_push, z1]
  have z3 : (((s₁.heap.push { cls := .type "list_iterator", data := .fields #[.ref ax, .int 0 0] }).push oD₀).push { cls := .type "dict", data := .dict #[] }).objs.size = I + 3 := by rw [Heap.size_push, z2]
  rw [z1, z2]
  have gI : (((s₁.heap.push { cls := .type "list_iterator", data := .fields #[.ref ax, .int 0 0] }).push oD₀).push { cls := .type "dict", data := .dict #[] }).get? I = some { cls := .type "list_iterator", data := .fields #[.ref ax, .int 0 0] } :=
    Heap.get?_push_of_some _ (Heap.get?_push_of_some _ (hI ▸ Heap.get?_push_size _ rfl))
  have gD : (((s₁.heap.push { cls := .type "list_iterator", data := .fields #[.ref ax, .int 0 0] }).push oD₀).push { cls := .type "dict", data := .dict #[] }).get? (I + 1) = some oD₀ :=
    Heap.get?_push_of_some _ (z1 ▸ Heap.get?_push_size _ hfree)
  have gC : (((s₁.heap.push { cls := .type "list_iterator", data := .fields #[.ref ax, .int 0 0] }).push oD₀).push { cls := .type "dict", data := .dict #[] }).Ns (I + 2) (fun _ => none) := z2 ▸ Heap.Ns.new _ (.type "dict")
  have up : ∀ b o, s₁.heap.get? b = some o → (((s₁.heap.push { cls := .type "list_iterator", data := .fields #[.ref ax, .int 0 0] }).push oD₀).push { cls := .type "dict", data := .dict #[] }).get? b = some o := fun b o e => Heap.get?_push_of_some _ (Heap.get?_push_of_some _ (Heap.get?_push_of_some _ e))
  generalize hH : ((s₁.heap.push { cls := .type "list_iterator", data := .fields #[.ref ax, .int 0 0] }).push oD₀).push { cls := .type "dict", data := .dict #[] } = H at z3 gI gD gC up ⊢
  have pu : ∀ b o, H.get? b = some o → (H.push { cls := .type "cell", data := .cell none }).get? b = some o := fun b o e => Heap.get?_push_of_some _ e
  have gK : (H.push { cls := .type "cell", data := .cell none }).IsCell (I + 2 + 1) none := ⟨_, (show H.objs.size = I + 2 + 1 from z3) ▸ Heap.get?_push_size _ rfl, rfl⟩
  generalize hH2 : H.push { cls := .type "cell", data := .cell none } = H2 at pu gK ⊢
  have up2 : ∀ b o, s₁.heap.get? b = some o → H2.get? b = some o := fun b o e => pu b o (up b o e)
  have hl2 : H2.IsList ax its := hl.at fun o e => up2 _ o e
  have hit2 : H2.IsListIter I ax 0 := ⟨_, pu _ _ gI, rfl, rfl⟩
  have nC : H2.Ns (I + 2) (fun _ => none) := gC.keeps pu
  have loop : codeAny (model prog w) A (.compLoop e 0 (.ref I) (.ref (I + 1)) ((fun C => compEnvC scope ((x, C + 1) :: cl) C env) (I + 2))) (compPost (model prog w) A E (some (assign (.Name y py) env)) (fun _ s' => Q .next s') (.ref (I + 1)) (I + 2)) { s₁ with heap := H2, toks := s₁.toks, gens := s₁.gens } := by
    have hR := R H2
    refine loop_P (s := { s₁ with heap := H2 }) (hB := H2) (tkS := s₁.toks) (gS := s₁.gens) (mk := fun C => compEnvC scope ((x, C + 1) :: cl) C env) LT (enter_cell hh (Nat.ne_of_lt hlt) (show @Ne Nat (I + 2) I by omega) (show @Ne Nat (I + 2 + 1) I by omega) (Nat.ne_of_lt (Nat.lt_of_lt_of_le hlt (Nat.le_add_right _ _))) (Nat.ne_of_lt (Nat.lt_of_lt_of_le hlt (Nat.le_add_right I 3))) (fun h e => ⟨_, e, rfl, k, rfl⟩) hkind hx (by simp [compEnvC])) hG ⟨⟨hit2, hl2⟩, none, gK⟩ nC (F₁.keeps up2) (fun p hp => ?_) (fun b hb => ?_) (new _ (Nat.le_add_right _ _)) ?_ ?_ (fun p hp => ?_) hm hR ?_
    · rcases List.mem_cons.mp hp with rfl | hp
      · exact ⟨pu _ _ gD, Ne.symm (Nat.ne_of_lt (Nat.lt_succ_of_lt hLlt)), new _ (Nat.le_succ _)⟩
      · exact ⟨up2 _ _ (N₁ p hp).1, (N₁ p hp).2⟩
    · have hb' : b = I ∨ b = I + 2 + 1 := by simpa using hb
      rcases hb' with rfl | rfl
      · exact ⟨new _ (Nat.le_refl _), Ne.symm (Nat.ne_of_lt hLlt), (show @Ne Nat b (b + 2) by omega), (show @Ne Nat b (b + 1) by omega)⟩
      · exact ⟨new _ (Nat.le_add_right I 3), Ne.symm (Nat.ne_of_lt (Nat.lt_of_lt_of_le hLlt (Nat.le_add_right I 3))), (show @Ne Nat (I + 2 + 1) (I + 2) by omega), (show @Ne Nat (I + 2 + 1) (I + 1) by omega)⟩
    · exact Ne.symm (Nat.ne_of_lt (Nat.lt_of_lt_of_le hLlt (Nat.le_add_right I 2)))
    · exact (show @Ne Nat (I + 2) (I + 1) by omega)
    · have := hlt0 p hp
      refine ⟨fun hq => ?_, Nat.ne_of_lt (Nat.lt_of_lt_of_le this (Nat.le_add_right I 2)), Nat.ne_of_lt (Nat.lt_of_lt_of_le this (Nat.le_add_right I 1))⟩
      have hb' : p.1 = I ∨ p.1 = I + 2 + 1 := by simpa using hq
      rcases hb' with q | q
      · exact Nat.ne_of_lt this q
      · exact Nat.ne_of_lt (Nat.lt_of_lt_of_le this (Nat.le_add_right I 3)) q
    · intro h tk g m' oD news' hg F' N' o1 hn oC fin
      show wpAny _ A (assign (.Name y py) env (.ref (I + 1))) _ _ _
      refine wpAny_assign_Name (wpAny_storeName_local hy F'.ns (fun h₂ hn₂ hs₂ => ?_) hp)
      have hL₀ : h₀.get? env.locals = none := Heap.get?_none_of_le F'.above
      have hC2L : @Ne Nat (I + 2) env.locals := Ne.symm (Nat.ne_of_lt (Nat.lt_of_lt_of_le hLlt (Nat.le_add_right I 2)))
      have F₂ : Fr h₀ env.locals h₂ (fun z => if z = y then some (.ref (I + 1)) else m z) := ⟨hn₂, fun b o e => hs₂.extBut b o (fun q => by rw [q, hL₀] at e; cases e) (F'.keep b o e), F'.above⟩
      refine ⟨m', hn.sameBut hs₂ hC2L, fun h'' hs'' => fin (I + 1) h'' _ g hg (F₂.change hs'' hC2L (new _ (Nat.le_add_right _ _))) (fun p hp => ?_) o1 (Nat.lt_succ_of_lt hLlt)⟩
      have z : h₂.get? p.1 = some p.2 := hs₂.extBut _ _ (N' p hp).2.1 (N' p hp).1
      refine ⟨hs''.extBut _ _ ?_ z, (N' p hp).2⟩
      rcases List.mem_cons.mp hp with rfl | hp
      · exact (show @Ne Nat (I + 1) (I + 2) by omega)
      · exact oC p hp
  exact ST _ _ _ _ _ loop ((Walks.list (prog := prog) (w := w) hh I ax (Nat.ne_of_lt hlt) its).self 0 _ _ _ ⟨hit2, hl2⟩ loop)
theorem Assign_ListComp_C {elt iter c : Expr} {x y : Str} {px py : Pos} {scope : Scope} {cl : List (Str × Addr)} {pos spos : Pos} {s : Shared} {Q : Flow → Shared → Prop} (F₀ : Fr h₀ L s.heap m) (G₀ : GB fl s.gens) (hLe : env.locals = L)
    (hsw : swapsWith (.ListComp elt [⟨.Name x px, iter, [c], 0⟩] scope pos) (some (.Name y py)) spos.line env = pure true)
    (hclos : closureFor scope env = pure cl) (hcs : ∀ n, cellsFrom n scope.names cl = (x, n) :: cl) (hpc : ∀ h : Heap, pushCells h scope.names = h.push { cls := .type "cell", data := .cell none }) (hkind : scope.kind = .function)
    (hnames : ∀ y ∈ scope.names, y.2 = .local → scope.names.lookup y.1 = some .local) (hx : (relabel scope env).names.lookup x = some .cell)
    (hy : env.kindOf y = some .local) (hp : (env.scope.kind == .class || (env.scope.kind == .module && env.locals != env.globals)) = false)
    (h : wpAny (model prog w) A (eval iter env) (GSrcC fl prog w A h₀ L m (BdL1 prog w A c elt (fun C => compEnvC scope ((x, C + 1) :: cl) C env)) (lst []) (GFinA fl h₀ L m y Q)) E s)
    (hs : ∀ x, foldedSetIterable iter env x = pure x := by intro _; rfl) :
    wpAny (model prog w) A (exec (.Assign [.Name y py] (.ListComp elt [⟨.Name x px, iter, [c], 0⟩] scope pos) spos) env) Q E s := by
  rw [exec_Assign_Name_used _ _ _ _ hsw]
  refine wpAny_bind (wpAny_standAt (wpAny_bind ?_))
  show wpAny _ A (do let _ ← comprehension (.ListComp elt [⟨.Name x px, iter, [c], 0⟩] scope pos) scope env _ (newList []) false (eval iter env) (some (assign (.Name y py) env))) _ _ s
  exact wpAny_bind (wpAny_mono (comp_CA hLe rfl loopC1 startL (fun s Q E h => accL h) rfl rfl hs hclos hcs hpc hkind hnames hx hy hp h) (fun _ s' hq => wpAny_pure (wpAny_pure hq)) fun _ _ e => e)
end
end Mine

end

section
open PySem PySem.W PyProof.Rows
set_option linter.unusedVariables false
namespace Mine
local macro_rules | `(tactic| walk_at "zz") => `(tactic| fail)
local macro_rules | `(tactic| walk_at "zz") => `(tactic| fail)
local macro_rules | `(tactic| walk_at "zz") => `(tactic| fail)
local macro_rules | `(tactic| walk_at "zz") => `(tactic| fail)
local macro_rules | `(tactic| walk_at "zz") => `(tactic| fail)
local macro_rules | `(tactic| walk_at "zz") => `(tactic| fail)
local macro_rules | `(tactic| walk_at "zz") => `(tactic| fail)
local macro_rules | `(tactic| walk_at "zz") => `(tactic| fail)
local macro_rules | `(tactic| walk_at "zz") => `(tactic| fail)
local macro_rules | `(tactic| walk_at "zz") => `(tactic| fail)
local macro_rules | `(tactic| walk_at "zz") => `(tactic| fail)
local macro_rules | `(tactic| walk_at "zz") => `(tactic| fail)
local macro_rules | `(tactic| walk_at "zz") => `(tactic| fail)
local macro_rules | `(tactic| walk_at "zz") => `(tactic| fail)
local macro_rules | `(tactic| walk_at "zz") => `(tactic| fail)
local macro_rules | `(tactic| walk_at "zz") => `(tactic| fail)
local macro_rules | `(tactic| walk_at "zz") => `(tactic| fail)
local macro_rules | `(tactic| walk_at "zz") => `(tactic| fail)
local macro_rules | `(tactic| walk_at "zz") => `(tactic| fail)
local macro_rules | `(tactic| walk_at "zz") => `(tactic| fail)
local macro_rules | `(tactic| walk_at "zz") => `(tactic| fail)
local macro_rules | `(tactic| walk_at "zz") => `(tactic| fail)
local macro_rules | `(tactic| walk_at "zz") => `(tactic| fail)
local macro_rules | `(tactic| walk_at "zz") => `(tactic| fail)
local macro_rules | `(tactic| walk_at "zz") => `(tactic| fail)
local macro_rules | `(tactic| walk_at "zz") => `(tactic| fail)
local macro_rules | `(tactic| walk_at "zz") => `(tactic| fail)
local macro_rules | `(tactic| walk_at "zz") => `(tactic| fail)
local macro_rules | `(tactic| walk_at "zz") => `(tactic| fail)
local macro_rules | `(tactic| walk_at "zz") => `(tactic| fail)
local macro_rules | `(tactic| walk_at "zz") => `(tactic| fail)
local macro_rules | `(tactic| walk_at "zz") => `(tactic| fail)
local macro_rules | `(tactic| walk_at "zz") => `(tactic| fail)
local macro_rules | `(tactic| walk_at "zz") => `(tactic| fail)
local macro_rules | `(tactic| walk_at "zz") => `(tactic| fail)
local macro_rules | `(tactic| walk_at "zz") => `(tactic| fail)
local macro_rules | `(tactic| walk_at "zz") => `(tactic| fail)
local macro_rules | `(tactic| walk_at "zz") => `(tactic| fail)
local macro_rules | `(tactic| walk_at "zz") => `(tactic| fail)
local macro_rules | `(tactic| walk_at "zz") => `(tactic| fail)
local macro_rules | `(tactic| walk_at "zz") => `(tactic| fail)
local macro_rules | `(tactic| walk_at "zz") => `(tactic| fail)
local macro_rules | `(tactic| walk_at "zz") => `(tactic| fail)
local macro_rules | `(tactic| walk_at "zz") => `(tactic| fail)
theorem rstLawD : True := by
  w_top off
  trivial
local macro_rules | `(tactic| k_mem) => `(tactic| assumption)
local macro_rules | `(tactic| k_all) => `(tactic| with_reducible assumption)
local macro_rules | `(tactic| ktr_enter) => `(tactic| (k_dflt (refine' code_def ?k1 ?k2 ?k3 ?k4 ?k5 ?kA ?kF ?kK ?k6 ?k7 ?k8 ?k9 ?kB ?_ ?c2 ?c3 ?c4 ?c5; (case kA => exact rfl); (case kF => first | exact rfl | assumption); (case kK => first | exact rfl | assumption); (case k1 => k_asm); (case k2 => k_asm); (case k3 => k_asm); (case k4 => k_asm); (case k5 => k_asm); (case k6 => k_is); (case k7 => k_is); (case k8 => ((try dsimp only [topA]); omega)); (case k9 => exact BindsTo.of_eq rfl); (case c5 => decide); (case kB => exact locs rfl); (case c2 => exact rfl); (case c3 => exact rfl); (case c4 => exact rfl); k_whole; intro g' L' h' FG' F' N' B' X' T'; (try dsimp only); (try k_fold))))
local macro_rules | `(tactic| ktd_sub) => `(tactic| (intro p9 hp9; repeat (first | exact hp9 | refine List.mem_cons_of_mem _ ?_)))
local macro_rules | `(tactic| ktd_rel) => `(tactic| first | assumption | (refine' DIn.mono ?hs ?hh; (case hh => assumption); (case hs => ktd_sub)) | (refine' DsIn.mono ?hs ?hh; (case hh => assumption); (case hs => ktd_sub)) | (refine' KsIn.mono ?hs ?hh; (case hh => assumption); (case hs => ktd_sub)))
local macro_rules | `(tactic| ktr_room) => `(tactic| (simp only [depth_deeper, depth_in1, topA] at *; omega))
local macro_rules | `(tactic| ktr_units) => `(tactic| (simp only [units_deeper, units_in1, topA] at *; omega))
local macro_rules | `(tactic| ktr_unf) => `(tactic| (k_dflt (refine' code_defC ?k1 ?k2 ?k3 ?k4 ?k5 ?kA ?kF ?kK ?k6 ?k7 ?k8 ?k9 ?kB ?kD ?_ ?c2 ?c3 ?c4; (case kA => exact rfl); (case kF => first | exact rfl | assumption); (case kK => first | exact rfl | assumption); (case k1 => k_asm); (case k2 => k_asm); (case k3 => k_asm); (case k4 => k_asm); (case k5 => k_asm); (case k6 => k_is); (case k7 => k_is); (case k8 => ((try dsimp only [topA]); omega)); (case k9 => exact BindsTo.of_eq rfl); (case kB => exact rfl); (case kD => decide +kernel); (case c2 => exact rfl); (case c3 => exact rfl); (case c4 => exact rfl); k_whole; intro g' L' h' tk' cells' FG' F' N' Y' B' X' T' l1; (try k_lt l1); k_cells Y'; (try simp only [List.cons_append, List.nil_append] at N'); (try dsimp only); (try k_fold))))
def pS : Str := Str.ofString "p"
def qS : Str := Str.ofString "q"
/-- the entries of thing -/
def PQ (w : World) (own : List (Addr × Obj)) (kvs : List (Str × Value)) : Prop := ∀ e ∈ kvs, (e.1 = pS ∨ e.1 = qS) ∧ ∃ d, DIn w own d e.2 ∧ d.ok 3
theorem PQ.mono {w : World} {own own' : List (Addr × Obj)} {kvs : List (Str × Value)} (hs : ∀ p ∈ own, p ∈ own') (h : PQ w own kvs) : PQ w own' kvs := fun e he =>
  let ⟨h1, d, h2, h3⟩ := h e he
  ⟨h1, d, DIn.mono hs h2, h3⟩
theorem PQ.stored {w : World} {own : List (Addr × Obj)} {kvs : List (Str × Value)} {k : Str} {v : Value} {d : D} (h : PQ w own kvs) (hk : k = pS ∨ k = qS) (hd : DIn w own d v) (ho : d.ok 3) : PQ w own (PySem.stored kvs k v) := by
  intro e he
  unfold PySem.stored at he
  split at he
  · obtain ⟨x, hx, rfl⟩ := List.mem_map.mp he
    split
    · exact ⟨(h x hx).1, d, hd, ho⟩
    · exact h x hx
  · rcases List.mem_append.mp he with he | he
    · exact h e he
    · rw [List.mem_singleton.mp he]; exact ⟨hk, d, hd, ho⟩
theorem stored_len {kvs : List (Str × Value)} {k : Str} {v : Value} : (PySem.stored kvs k v).length ≤ kvs.length + 1 := by
  unfold PySem.stored; split <;> simp
theorem to_topA {M : Model} {env : Env} {α : Type} {t : Sem α} {Q : α → Shared → Prop} {E : Value → Shared → Prop} {s : Shared} (h : wpAny M (topA 302 7 (some []) env []) t Q E s) : wpAny M (callerA.deeper env) t Q E s := h
/-- a dict comprehension's key is known: the value is next -/
def KeyP {K : Type} [DecidableEq K] {prog : Program} {w : World} (knd : KeyKind prog w K) (A : Around) (E : Value → Shared → Prop) (t : Sem Value) (R : K → Value → Shared → Prop) (kv : Value) (s : Shared) : Prop := ∃ k, knd.is k kv = true ∧ wpAny (model prog w) A t (R k) E s
theorem KeyP.mk' {K : Type} [DecidableEq K] {prog : Program} {w : World} {knd : KeyKind prog w K} {A : Around} {E : Value → Shared → Prop} {t : Sem Value} {R : K → Value → Shared → Prop} {kv : Value} {s : Shared} (k : K) (hk : knd.is k kv = true) (h : wpAny (model prog w) A t (R k) E s) : KeyP knd A E t R kv s := ⟨k, hk, h⟩
theorem turnDTk {fl : Nat} {prog : Program} {w : World} {A : Around} {E : Value → Shared → Prop} {h₀ : Heap} {L : Addr} {m : Str → Option Value} {K : Type} [DecidableEq K] {knd : KeyKind prog w K} {ct kx vx : Expr} {mk : Addr → Env} {s s₀ : Shared} {S : List (Addr × Obj) → Prop} {I C D : Addr} {oI oD : Obj} {kvs : List (K × Value)} {rest : Obj → List (Addr × Obj) → Prop} {Post : Shared → Prop}
    (ne : (@Ne Nat I C) ∧ (@Ne Nat I D) ∧ (@Ne Nat C D)) (hd : oD.IsDictOf knd kvs) (hy : kvs.length ≤ sizeLine) (hPost : ∀ s₂, GEnd fl h₀ L m s₀ S I oI C D rest s₂ → Post s₂)
    (h : wpAny (model prog w) A (isTrue ct (mk C) (eval ct (mk C))) (fun ok s₃ => if ok = true then wpAny (model prog w) A (eval kx (mk C)) (KeyP knd A E (eval vx (mk C)) (fun k => GVal fl knd h₀ L m s₀ S I oI C D oD k kvs rest)) E s₃ else GEnd fl h₀ L m s₀ S I oI C D rest s₃) E s) : BdD prog w A [ct] kx vx mk C D Post E s :=
  turnDT ne hd hy hPost h

end Mine

end

section
open PySem PySem.W PyProof.Rows
set_option linter.unusedVariables false
namespace Mine
local macro_rules | `(tactic| walk_at "zz") => `(tactic| fail)
local macro_rules | `(tactic| walk_at "zz") => `(tactic| fail)
local macro_rules | `(tactic| walk_at "zz") => `(tactic| fail)
local macro_rules | `(tactic| walk_at "zz") => `(tactic| fail)
local macro_rules | `(tactic| walk_at "zz") => `(tactic| fail)
local macro_rules | `(tactic| walk_at "zz") => `(tactic| fail)
local macro_rules | `(tactic| walk_at "zz") => `(tactic| fail)
local macro_rules | `(tactic| walk_at "zz") => `(tactic| fail)
local macro_rules | `(tactic| walk_at "zz") => `(tactic| fail)
local macro_rules | `(tactic| walk_at "zz") => `(tactic| fail)
local macro_rules | `(tactic| walk_at "zz") => `(tactic| fail)
local macro_rules | `(tactic| walk_at "zz") => `(tactic| fail)
local macro_rules | `(tactic| walk_at "zz") => `(tactic| fail)
local macro_rules | `(tactic| walk_at "zz") => `(tactic| fail)
local macro_rules | `(tactic| walk_at "zz") => `(tactic| fail)
local macro_rules | `(tactic| walk_at "zz") => `(tactic| fail)
local macro_rules | `(tactic| walk_at "zz") => `(tactic| fail)
local macro_rules | `(tactic| walk_at "zz") => `(tactic| fail)
local macro_rules | `(tactic| walk_at "zz") => `(tactic| fail)
local macro_rules | `(tactic| walk_at "zz") => `(tactic| fail)
local macro_rules | `(tactic| walk_at "zz") => `(tactic| fail)
local macro_rules | `(tactic| walk_at "zz") => `(tactic| fail)
local macro_rules | `(tactic| walk_at "zz") => `(tactic| fail)
local macro_rules | `(tactic| walk_at "zz") => `(tactic| fail)
local macro_rules | `(tactic| walk_at "zz") => `(tactic| fail)
local macro_rules | `(tactic| walk_at "zz") => `(tactic| fail)
local macro_rules | `(tactic| walk_at "zz") => `(tactic| fail)
local macro_rules | `(tactic| walk_at "zz") => `(tactic| fail)
local macro_rules | `(tactic| walk_at "zz") => `(tactic| fail)
local macro_rules | `(tactic| walk_at "zz") => `(tactic| fail)
local macro_rules | `(tactic| walk_at "zz") => `(tactic| fail)
local macro_rules | `(tactic| walk_at "zz") => `(tactic| fail)
local macro_rules | `(tactic| walk_at "zz") => `(tactic| fail)
local macro_rules | `(tactic| walk_at "zz") => `(tactic| fail)
local macro_rules | `(tactic| walk_at "zz") => `(tactic| fail)
local macro_rules | `(tactic| walk_at "zz") => `(tactic| fail)
local macro_rules | `(tactic| walk_at "zz") => `(tactic| fail)
local macro_rules | `(tactic| walk_at "zz") => `(tactic| fail)
local macro_rules | `(tactic| walk_at "zz") => `(tactic| fail)
local macro_rules | `(tactic| walk_at "zz") => `(tactic| fail)
local macro_rules | `(tactic| walk_at "zz") => `(tactic| fail)
local macro_rules | `(tactic| walk_at "zz") => `(tactic| fail)
local macro_rules | `(tactic| walk_at "zz") => `(tactic| fail)
local macro_rules | `(tactic| walk_at "zz") => `(tactic| fail)
local macro_rules | `(tactic| walk_at "zz") => `(tactic| fail)
theorem rstLawE : True := by
  w_top off
  trivial
local macro_rules | `(tactic| k_mem) => `(tactic| assumption)
local macro_rules | `(tactic| k_all) => `(tactic| with_reducible assumption)
local macro_rules | `(tactic| ktr_enter) => `(tactic| (k_dflt (refine' code_def ?k1 ?k2 ?k3 ?k4 ?k5 ?kA ?kF ?kK ?k6 ?k7 ?k8 ?k9 ?kB ?_ ?c2 ?c3 ?c4 ?c5; (case kA => exact rfl); (case kF => first | exact rfl | assumption); (case kK => first | exact rfl | assumption); (case k1 => k_asm); (case k2 => k_asm); (case k3 => k_asm); (case k4 => k_asm); (case k5 => k_asm); (case k6 => k_is); (case k7 => k_is); (case k8 => ((try dsimp only [topA]); omega)); (case k9 => exact BindsTo.of_eq rfl); (case c5 => decide); (case kB => exact locs rfl); (case c2 => exact rfl); (case c3 => exact rfl); (case c4 => exact rfl); k_whole; intro g' L' h' FG' F' N' B' X' T'; (try dsimp only); (try k_fold))))
local macro_rules | `(tactic| ktd_sub) => `(tactic| (intro p9 hp9; repeat (first | exact hp9 | refine List.mem_cons_of_mem _ ?_)))
local macro_rules | `(tactic| ktd_rel) => `(tactic| first | assumption | (refine' DIn.mono ?hs ?hh; (case hh => assumption); (case hs => ktd_sub)) | (refine' DsIn.mono ?hs ?hh; (case hh => assumption); (case hs => ktd_sub)) | (refine' KsIn.mono ?hs ?hh; (case hh => assumption); (case hs => ktd_sub)))
local macro_rules | `(tactic| ktr_room) => `(tactic| (simp only [depth_deeper, depth_in1, topA] at *; omega))
local macro_rules | `(tactic| ktr_units) => `(tactic| (simp only [units_deeper, units_in1, topA] at *; omega))
local macro_rules | `(tactic| ktr_unf) => `(tactic| (k_dflt (refine' code_defC ?k1 ?k2 ?k3 ?k4 ?k5 ?kA ?kF ?kK ?k6 ?k7 ?k8 ?k9 ?kB ?kD ?_ ?c2 ?c3 ?c4; (case kA => exact rfl); (case kF => first | exact rfl | assumption); (case kK => first | exact rfl | assumption); (case k1 => k_asm); (case k2 => k_asm); (case k3 => k_asm); (case k4 => k_asm); (case k5 => k_asm); (case k6 => k_is); (case k7 => k_is); (case k8 => ((try dsimp only [topA]); omega)); (case k9 => exact BindsTo.of_eq rfl); (case kB => exact rfl); (case kD => decide +kernel); (case c2 => exact rfl); (case c3 => exact rfl); (case c4 => exact rfl); k_whole; intro g' L' h' tk' cells' FG' F' N' Y' B' X' T' l1; (try k_lt l1); k_cells Y'; (try simp only [List.cons_append, List.nil_append] at N'); (try dsimp only); (try k_fold))))
abbrev tupO (sg : Sg) (t u : Tok) (n : Nat) : Obj := { cls := .type "tuple", data := .seq #[.str sg.str t, .str sg.turn.str u] n }
def mLaw (m : Str → Option Value) (ot ou : Option Value) : Str → Option Value := fun y => if y = Str.ofString "turned" then ou else if y = Str.ofString "told" then ot else m y
theorem mLaw_self (m : Str → Option Value) : mLaw m (m (Str.ofString "told")) (m (Str.ofString "turned")) = m := by
  funext y
  simp only [mLaw]
  split
  · rename_i h; rw [h]
  · split
    · rename_i h; rw [h]
    · rfl
theorem mLaw_set (m : Str → Option Value) (ot ou : Option Value) (t u : Value) : (fun y => if y = Str.ofString "told" then some t else if y = Str.ofString "turned" then some u else mLaw m ot ou y) = mLaw m (some t) (some u) := by
  funext y
  simp only [mLaw]
  by_cases h1 : y = Str.ofString "turned"
  · have h2 : ¬ y = Str.ofString "told" := by rw [h1]; decide +kernel
    simp only [h1, if_true]
    split
    · rename_i h; exact absurd (h1 ▸ h) h2
    · rfl
  · by_cases h2 : y = Str.ofString "told"
    · rw [if_pos h2, if_neg h1, if_pos h2]
    · rw [if_neg h2, if_neg h1, if_neg h1, if_neg h2, if_neg h1, if_neg h2]
theorem nameFr {h₀ h : Heap} {L : Addr} {m : Str → Option Value} (F : Fr h₀ L h m) : ∃ mZ, mZ = m ∧ Fr h₀ L h mZ := ⟨m, rfl, F⟩
theorem news_one {h₀ h : Heap} {L a : Addr} {o : Obj} {l : List (Addr × Obj)} (N : News h₀ L h l) (hm : (a, o) ∈ l) : News h₀ L h [(a, o)] := fun p hp => by rw [List.mem_singleton.mp hp]; exact N _ hm
theorem news_app {h₀ h : Heap} {L : Addr} {l r : List (Addr × Obj)} (N : News h₀ L h l) (N' : News h₀ L h r) : News h₀ L h (l ++ r) := fun p hp => by
  rcases List.mem_append.mp hp with hp | hp
  · exact N p hp
  · exact N' p hp
theorem PQ.data {w : World} {own nw : List (Addr × Obj)} {kvs : List (Str × Value)} (h : PQ w own kvs) (hs : ∀ p ∈ own, p ∈ nw) (k : Str) : ∃ ds, DsIn w nw ds (valueAt kvs k).toList ∧ ∀ d ∈ ds, d.ok 3 := by
  cases e : valueAt kvs k with
  | none => exact ⟨[], by unfold DsIn; rfl, fun _ h => nomatch h⟩
  | some v =>
    obtain ⟨x, hx, e'⟩ : ∃ x ∈ kvs, x.2 = v := by
      unfold valueAt at e
      cases f : kvs.find? (fun kv => decide (kv.1 = k)) with
      | none => rw [f] at e; simp at e
      | some x => rw [f] at e; exact ⟨x, List.mem_of_find?_eq_some f, by simpa using e⟩
    obtain ⟨_, d, hd, ho⟩ := h x hx
    subst e'
    exact ⟨[d], by unfold DsIn; exact ⟨_, [], rfl, hd.mono hs, by unfold DsIn; rfl⟩, fun d' hd' => by rw [List.mem_singleton.mp hd']; exact ho⟩
theorem len_dict_led {prog : Program} {w : World} {A : Around} {E : Value → Shared → Prop} {s : Shared} {h₀ : Heap} {L : Addr} {news : List (Addr × Obj)} {d : Addr} {es : List DictEntry} {n : Nat} {kvs : List (Str × Value)} {Q : Value → Shared → Prop} (N : News h₀ L s.heap news) (hm : (d, dictObj es n) ∈ news) (hd : (dictObj es n).IsDictOf (PySem.strKind prog w) kvs) (hs : (d == sysModules) = false) (hl : kvs.length ≤ 2)
    (h : ∀ t tk, Q (.int (kvs.length : Int) t) { s with toks := tk }) : wpAny (model prog w) A (call (.builtin "len") [.ref d]) Q E s :=
  call_len_dict hs (dictAt_of N hm hd).dictOf (by omega) (h _ _)
theorem pq_ne : ¬ pS = qS := by decide +kernel
theorem valueAt_cons {k k' : Str} {v : Value} {r : List (Str × Value)} : valueAt ((k', v) :: r) k = if k' = k then some v else valueAt r k := by
  unfold valueAt
  by_cases h : k' = k
  · simp [h]
  · simp [h]
theorem PQ.len {w : World} {own : List (Addr × Obj)} {kvs : List (Str × Value)} (h : PQ w own kvs) (nd : (kvs.map (·.1)).Nodup) (hl : kvs.length ≤ 2) : kvs.length = (valueAt kvs pS).toList.length + (valueAt kvs qS).toList.length := by
  have hn : ∀ k : Str, valueAt ([] : List (Str × Value)) k = none := fun _ => rfl
  have qp : ¬ qS = pS := fun e => pq_ne e.symm
  match kvs, h, nd, hl with
  | [], _, _, _ => rfl
  | [(a, x)], h, _, _ =>
    rcases (h (a, x) (.head _)).1 with e | e <;> dsimp only at e <;> subst e <;> simp [valueAt_cons, hn, pq_ne, qp]
  | [(a, x), (b, y)], h, nd, _ =>
    have ne : ¬ a = b := by simpa using nd
    rcases (h (a, x) (.head _)).1 with e | e <;> rcases (h (b, y) (.tail _ (.head _))).1 with e' | e' <;> dsimp only at e e' <;> subst e <;> subst e' <;> first | exact absurd rfl ne | simp [valueAt_cons, hn, pq_ne, qp]
  | _ :: _ :: _ :: _, _, _, hl => simp at hl
theorem DsIn.each {w : World} {nw : List (Addr × Obj)} {ds : List D} {vs : List Value} (h : DsIn w nw ds vs) : ∀ v ∈ vs, ∃ d, DIn w nw d v := by
  intro v hv
  obtain ⟨i, hi⟩ := List.getElem?_of_mem hv
  obtain ⟨d, _, hd⟩ := h.get hi
  exact ⟨d, hd⟩
theorem ds_sym {w : World} {nw : List (Addr × Obj)} {ds0 ds1 : List D} {vs0 vs1 : List Value} (h0 : DsIn w nw ds0 vs0) (h1 : DsIn w nw ds1 vs1) (o0 : ∀ d ∈ ds0, d.ok 3) (o1 : ∀ d ∈ ds1, d.ok 3) : ∀ d ∈ ds0, ∀ e ∈ ds1, eqD d e = eqD e d := fun d hd e he => by
  obtain ⟨v, hv⟩ := h0.mem d hd
  obtain ⟨v', hv'⟩ := h1.mem e he
  exact eqD_sym (o0 d hd) (o1 e he) (hv.nod 3 (o0 d hd)) (hv'.nod 3 (o1 e he))
theorem toList_len {α : Type} (o : Option α) : o.toList.length ≤ 3 := by cases o <;> simp
theorem DsIn.nil' {w : World} {nw : List (Addr × Obj)} {ds : List D} {vs : List Value} (h : DsIn w nw ds vs) (e : vs = []) : ds = [] := by
  have := h.length
  rw [e] at this
  exact List.eq_nil_of_length_eq_zero this.symm
theorem DsIn.one' {w : World} {nw : List (Addr × Obj)} {ds : List D} {vs : List Value} {v : Value} (h : DsIn w nw ds vs) (e : vs = [v]) : ∃ d, ds = [d] ∧ DIn w nw d v := by
  have hl := h.length
  rw [e] at hl
  obtain ⟨d, rfl⟩ := List.length_eq_one_iff.mp hl.symm
  obtain ⟨d', e', hd⟩ := h.get (i := 0) (v := v) (by rw [e]; rfl)
  obtain rfl : d = d' := by simpa using e'
  exact ⟨d, rfl, hd⟩
theorem want_two {sg : Sg} {d0 d1 : D} {v th : Value} : wantV sg [d0] [v] [d1] th = if dueD sg d0 d1 = true then [v] else [] := by
  simp [wantV, pickV, cmp_due]
theorem want_one {sg : Sg} {d0 : D} {v th : Value} : (!(wantV sg [d0] [v] [] th).isEmpty) = (sg.str == Str.ofString "!=") := by
  cases sg <;> simp [wantV, eqHolds] <;> decide +kernel
theorem want_one' {sg : Sg} {d1 : D} {th : Value} : (!(wantV sg [] [] [d1] th).isEmpty) = (sg.str == Str.ofString "!=") := by
  cases sg <;> simp [wantV, eqHolds] <;> decide +kernel
theorem want_none {sg : Sg} {th : Value} : (!(wantV sg [] [] [] th).isEmpty) = dueD sg (.num 0) (.num 0) := by
  cases sg <;> simp [wantV, eqHolds, dueD, lessD, eqD]
theorem ok_up : ∀ (n : Nat) {d : D}, d.ok n → d.ok (n + 1)
  | 0, _, h => h.elim
  | n + 1, d, h => by
    cases d with
    | list ds => exact fun x hx => ok_up n (h x hx)
    | dict ks => exact fun x hx => ok_up n (h x hx)
    | num _ => trivial
    | txt _ => trivial
    | tru _ => trivial
    | nil => trivial
def mLaw2 (m : Str → Option Value) (ot ou od : Option Value) : Str → Option Value := fun y => if y = Str.ofString "due" then od else mLaw m ot ou y
theorem mLaw2_self (m : Str → Option Value) : mLaw2 m (m (Str.ofString "told")) (m (Str.ofString "turned")) (m (Str.ofString "due")) = m := by
  funext y
  simp only [mLaw2]
  split
  · rename_i h; rw [h]
  · rw [mLaw_self]
theorem mLaw2_set (m : Str → Option Value) (ot ou od : Option Value) (t u d : Value) : (fun y => if y = Str.ofString "due" then some d else if y = Str.ofString "told" then some t else if y = Str.ofString "turned" then some u else mLaw2 m ot ou od y) = mLaw2 m (some t) (some u) (some d) := by
  funext y
  by_cases h : y = Str.ofString "due"
  · simp only [mLaw2, if_pos h]
  · have e := congrFun (mLaw_set m ot ou t u) y
    simp only [mLaw2, if_neg h] at e ⊢
    exact e
theorem pickV_succ {sg : Sg} {ds1 : List D} : ∀ {ds : List D} {xs : List Value} {i : Nat} {d : D} {x : Value}, ds[i]? = some d → xs[i]? = some x →
    pickV sg ds1 (ds.take (i + 1)) (xs.take (i + 1)) = pickV sg ds1 (ds.take i) (xs.take i) ++ (if ds1.any (fun e => cmpD sg d e) = true then [x] else [])
  | [], _, _, _, _, h, _ => by simp at h
  | _ :: _, [], _, _, _, _, h => by simp at h
  | d :: ds, x :: xs, 0, _, _, h, h' => by
    obtain rfl : d = _ := by simpa using h
    obtain rfl : x = _ := by simpa using h'
    simp [pickV]
  | d :: ds, x :: xs, i + 1, _, _, h, h' => by
    have ih := pickV_succ (sg := sg) (ds1 := ds1) (ds := ds) (xs := xs) (i := i) (by simpa using h) (by simpa using h')
    simp only [List.take_succ_cons, pickV, ih]
    split <;> simp

end Mine

end

section
open PySem PySem.W PyProof.Rows
set_option linter.unusedVariables false
namespace Mine
local macro_rules | `(tactic| walk_at "zz") => `(tactic| fail)
local macro_rules | `(tactic| walk_at "zz") => `(tactic| fail)
local macro_rules | `(tactic| walk_at "zz") => `(tactic| fail)
local macro_rules | `(tactic| walk_at "zz") => `(tactic| fail)
local macro_rules | `(tactic| walk_at "zz") => `(tactic| fail)
local macro_rules | `(tactic| walk_at "zz") => `(tactic| fail)
local macro_rules | `(tactic| walk_at "zz") => `(tactic| fail)
local macro_rules | `(tactic| walk_at "zz") => `(tactic| fail)
local macro_rules | `(tactic| walk_at "zz") => `(tactic| fail)
local macro_rules | `(tactic| walk_at "zz") => `(tactic| fail)
local macro_rules | `(tactic| walk_at "zz") => `(tactic| fail)
local macro_rules | `(tactic| walk_at "zz") => `(tactic| fail)
local macro_rules | `(tactic| walk_at "zz") => `(tactic| fail)
local macro_rules | `(tactic| walk_at "zz") => `(tactic| fail)
local macro_rules | `(tactic| walk_at "zz") => `(tactic| fail)
local macro_rules | `(tactic| walk_at "zz") => `(tactic| fail)
local macro_rules | `(tactic| walk_at "zz") => `(tactic| fail)
theorem rstW0 : True := by
  w_top off
  trivial
local macro_rules | `(tactic| k_mem) => `(tactic| assumption)
local macro_rules | `(tactic| k_all) => `(tactic| with_reducible assumption)
local macro_rules | `(tactic| ktr_enter) => `(tactic| (k_dflt (refine' code_def ?k1 ?k2 ?k3 ?k4 ?k5 ?kA ?kF ?kK ?k6 ?k7 ?k8 ?k9 ?kB ?_ ?c2 ?c3 ?c4 ?c5; (case kA => exact rfl); (case kF => first | exact rfl | assumption); (case kK => first | exact rfl | assumption); (case k1 => k_asm); (case k2 => k_asm); (case k3 => k_asm); (case k4 => k_asm); (case k5 => k_asm); (case k6 => k_is); (case k7 => k_is); (case k8 => ((try dsimp only [topA]); omega)); (case k9 => exact BindsTo.of_eq rfl); (case c5 => decide); (case kB => exact locs rfl); (case c2 => exact rfl); (case c3 => exact rfl); (case c4 => exact rfl); k_whole; intro g' L' h' FG' F' N' B' X' T'; (try dsimp only); (try k_fold))))
local macro_rules | `(tactic| ktd_sub) => `(tactic| (intro p9 hp9; repeat (first | exact hp9 | refine List.mem_cons_of_mem _ ?_)))
local macro_rules | `(tactic| ktd_rel) => `(tactic| first | assumption | (refine' DIn.mono ?hs ?hh; (case hh => assumption); (case hs => ktd_sub)) | (refine' DsIn.mono ?hs ?hh; (case hh => assumption); (case hs => ktd_sub)) | (refine' KsIn.mono ?hs ?hh; (case hh => assumption); (case hs => ktd_sub)))
local macro_rules | `(tactic| ktr_room) => `(tactic| (simp only [depth_deeper, depth_in1, topA] at *; omega))
local macro_rules | `(tactic| ktr_units) => `(tactic| (simp only [units_deeper, units_in1, topA] at *; omega))
local macro_rules | `(tactic| ktr_unf) => `(tactic| (k_dflt (refine' code_defC ?k1 ?k2 ?k3 ?k4 ?k5 ?kA ?kF ?kK ?k6 ?k7 ?k8 ?k9 ?kB ?kD ?_ ?c2 ?c3 ?c4; (case kA => exact rfl); (case kF => first | exact rfl | assumption); (case kK => first | exact rfl | assumption); (case k1 => k_asm); (case k2 => k_asm); (case k3 => k_asm); (case k4 => k_asm); (case k5 => k_asm); (case k6 => k_is); (case k7 => k_is); (case k8 => ((try dsimp only [topA]); omega)); (case k9 => exact BindsTo.of_eq rfl); (case kB => exact rfl); (case kD => decide +kernel); (case c2 => exact rfl); (case c3 => exact rfl); (case c4 => exact rfl); k_whole; intro g' L' h' tk' cells' FG' F' N' Y' B' X' T' l1; (try k_lt l1); k_cells Y'; (try simp only [List.cons_append, List.nil_append] at N'); (try dsimp only); (try k_fold))))
local macro_rules | `(tactic| walk_at "call ref") => `(tactic| (k_here; (with_reducible show wpAny _ _ (call (Value.ref 956) _) _ _ _); k_dflt (refine' use_call (kind_call _ _ _ _ ?hD) ?B ?F ?X ?N ?T ?hf ?hk ?hd ?hu ?hG ?_; (case B => k_asm); (case F => k_asm); (case X => k_asm); (case N => k_asm); (case T => k_asm); (case hf => first | exact rfl | assumption); (case hk => first | exact rfl | assumption); (case hG => assumption); (case hD => ktd_rel); (case hd => ktr_room); (case hu => ktr_units); k_whole; intro r9 nw9 h9 tk9 g9 p9 hG9 F9 N9; obtain ⟨p9, q9⟩ := p9; obtain ⟨t9, p9⟩ := p9; replace q9 := Eq.symm q9; subst q9; subst p9; (try dsimp only); (try k_fold))))
local macro_rules | `(tactic| walk_at "eval ListComp") => `(tactic| (k_here; k_dflt (refine ListComp_G (by k_asm) (by assumption) (by with_unfolding_all rfl) (by decide) (by rfl) (by decide) (by rfl) ?_)))
local macro_rules | `(tactic| walk_at "eval DictComp") => `(tactic| (k_here; k_dflt (refine DictComp_G (by k_asm) (by assumption) (by with_unfolding_all rfl) (by decide) (by rfl) (by decide) (by rfl) ?_)))
local macro_rules | `(tactic| walk_at "exec Assign cons ListComp") => `(tactic| (k_here; k_dflt (refine Assign_ListComp_G (by k_asm) (by assumption) (by rfl) (by with_unfolding_all rfl) (by with_unfolding_all rfl) (by decide) (by rfl) (by decide) (by rfl) (by rfl) (by rfl) ?_)))
local macro_rules | `(tactic| walk_at "exec Assign cons DictComp") => `(tactic| (k_here; k_dflt (refine Assign_DictComp_G (by k_asm) (by assumption) (by rfl) (by with_unfolding_all rfl) (by with_unfolding_all rfl) (by decide) (by rfl) (by decide) (by rfl) (by rfl) (by rfl) ?_)))
local macro_rules | `(tactic| k_mem) => `(tactic| first | assumption | exact List.Mem.head _ | (refine' List.Mem.tail _ ?_; k_mem))
local macro_rules | `(tactic| k_upd) => `(tactic| first | exact UpdX.head | (refine' UpdX.tail ?a ?b; (case a => k_ne); (case b => k_upd)))
local macro_rules | `(tactic| walk_at "call ref") => `(tactic| (k_here; (with_reducible show wpAny _ _ (call (Value.ref 944) _) _ _ _); k_dflt (refine' use_next ?B ?F ?X ?N ?T ?hf ?hk ?hd ?hu ?hG ?U ?hI ?hst ?hls ?hi0 ?hi1 ?hl0 ?hl1 ?hvs ?_; (case B => k_asm); (case F => k_asm); (case X => k_asm); (case N => k_asm); (case T => k_asm); (case hf => first | exact rfl | assumption); (case hk => first | exact rfl | assumption); (case hG => assumption); (case hd => ktr_room); (case hu => ktr_units); (case U => k_upd); (case hI => assumption); (case hst => with_reducible assumption); (case hls => with_reducible assumption); (case hi0 => omega); (case hi1 => omega); (case hl0 => omega); (case hl1 => omega); (case hvs => omega); k_whole; intro k9 t9 u9 h9 tk9 g9 kl9 kh9 hG9 F9 N9; (try dsimp only at N9); (try dsimp only); (try k_fold))))
local macro_rules | `(tactic| k_all) => `(tactic| first | (with_reducible assumption) | (refine' ltAll_ne ?h ?b; (case h => with_reducible assumption); (case b => omega)))
local macro_rules | `(tactic| walk_at "call ref") => `(tactic| (k_here; (with_reducible show wpAny _ _ (call (Value.ref 949) _) _ _ _); k_dflt (refine' use_value ?V ?hz ?B ?F ?X ?N ?T ?hf ?hk ?hd ?hu ?hG ?U ?hI ?hst ?hls ?hi0 ?hi1 ?hvs ?_; (case V => assumption); (case hz => omega); (case B => k_asm); (case F => k_asm); (case X => k_asm); (case N => k_asm); (case T => k_asm); (case hf => first | exact rfl | assumption); (case hk => first | exact rfl | assumption); (case hG => assumption); (case hd => ktr_room); (case hu => ktr_units); (case U => k_upd); (case hI => assumption); (case hst => with_reducible assumption); (case hls => with_reducible assumption); (case hi0 => omega); (case hi1 => omega); (case hvs => omega); k_whole; intro r9 o9 d9 i9 t9 h9 tk9 g9 D9 k9 i0 i1 s9 l9 f9 hG9 F9 N9; (try dsimp only at N9); (try dsimp only at f9); (try dsimp only); (try k_fold))))
local macro_rules | `(tactic| ktr_room) => `(tactic| k_room)
local macro_rules | `(tactic| ktr_units) => `(tactic| k_units)
local macro_rules | `(tactic| walk_at "exec For") => `(tactic| (k_here; refine Halt.mk' ?_))
local macro_rules | `(tactic| walk_at "exec For Tuple") => `(tactic| (k_here; refine Halt.mk' ?_))
local macro_rules | `(tactic| walk_at "exec For Tuple Name") => `(tactic| (k_here; refine Halt.mk' ?_))
local macro_rules | `(tactic| walk_at "exec For Tuple Name cons nil") => `(tactic| (k_here; refine Halt.mk' ?_))
local macro_rules | `(tactic| walk_at "call ref") => `(tactic| (k_here; (with_reducible show wpAny _ _ (call (Value.ref 949) _) _ _ _); k_dflt (refine' use_value (deep := 1) ?V ?hz ?B ?F ?X ?N ?T ?hf ?hk ?hd ?hu ?hG ?U ?hI ?hst ?hls ?hi0 ?hi1 ?hvs ?_; (case V => assumption); (case hz => rfl); (case B => k_asm); (case F => k_asm); (case X => k_asm); (case N => k_asm); (case T => k_asm); (case hf => first | exact rfl | assumption); (case hk => first | exact rfl | assumption); (case hG => assumption); (case hd => k_room); (case hu => k_units); (case U => k_upd); (case hI => assumption); (case hst => with_reducible assumption); (case hls => with_reducible assumption); (case hi0 => omega); (case hi1 => (simp only [spend]; omega)); (case hvs => omega); k_whole; intro r9 o9 d9 i9 t9 h9 tk9 g9 D9 k9 i0 i1 s9 l9 f9 hG9 F9 N9; (try dsimp only at N9); (try dsimp only at f9); (try dsimp only); (try k_fold))))
local macro_rules | `(tactic| walk_at "call ref") => `(tactic| (k_here; (with_reducible show wpAny _ _ (call (Value.ref 949) _) _ _ _); k_dflt (refine' use_value (deep := 2) ?V ?hz ?B ?F ?X ?N ?T ?hf ?hk ?hd ?hu ?hG ?U ?hI ?hst ?hls ?hi0 ?hi1 ?hvs ?_; (case V => assumption); (case hz => rfl); (case B => k_asm); (case F => k_asm); (case X => k_asm); (case N => k_asm); (case T => k_asm); (case hf => first | exact rfl | assumption); (case hk => first | exact rfl | assumption); (case hG => assumption); (case hd => k_room); (case hu => k_units); (case U => k_upd); (case hI => assumption); (case hst => with_reducible assumption); (case hls => with_reducible assumption); (case hi0 => omega); (case hi1 => (simp only [spend]; omega)); (case hvs => omega); k_whole; intro r9 o9 d9 i9 t9 h9 tk9 g9 D9 k9 i0 i1 s9 l9 f9 hG9 F9 N9; (try dsimp only at N9); (try dsimp only at f9); (try dsimp only); (try k_fold))))
local macro_rules | `(tactic| ktd_sub) => `(tactic| (intro p9 hp9; repeat (first | exact hp9 | refine List.mem_cons_of_mem _ ?_ | refine List.mem_append_left _ ?_)))
local macro_rules | `(tactic| k_mem) => `(tactic| first | assumption | exact List.Mem.head _ | (refine' List.Mem.tail _ ?_; k_mem))
local macro_rules | `(tactic| walk_at "call ref") => `(tactic| (k_here; (with_reducible show wpAny _ _ (call (Value.ref 980) _) _ _ _); refine Halt.mk' ?_))
local macro_rules | `(tactic| walk_at "call ref") => `(tactic| (k_here; (with_reducible show wpAny _ _ (call (Value.ref 975) _) _ _ _); refine Halt.mk' ?_))
local macro_rules | `(tactic| walk_at "call builtin:len") => `(tactic| (k_here; refine Halt.mk' ?_))
local macro_rules | `(tactic| walk_at "compareOp NotEq ref ref") => `(tactic| (k_here; refine Halt.mk' ?_))
local macro_rules | `(tactic| walk_at "compareOp Eq ref ref") => `(tactic| (k_here; refine Halt.mk' ?_))
local macro_rules | `(tactic| walk_at "subscriptTail") => `(tactic| (k_here; (with_reducible show wpAny _ _ (subscriptTail _ _ (Value.ref _) (Value.str _ _)) _ _ _); k_dflt (refine' item_dictT ?N ?hm ?hd ?hv ?_ ?hs ?hg; (case N => k_asm); (case hm => k_mem); (case hd => with_reducible assumption); (case hv => with_reducible assumption); (case hs => with_unfolding_all rfl); (case hg => (intro _; with_unfolding_all rfl)); k_whole)))
local macro_rules | `(tactic| walk_at "subscriptTail Name") => `(tactic| (k_here; (with_reducible show wpAny _ _ (subscriptTail _ _ (Value.ref _) (Value.str _ _)) _ _ _); k_dflt (refine' item_dictT ?N ?hm ?hd ?hv ?_ ?hs ?hg; (case N => k_asm); (case hm => k_mem); (case hd => with_reducible assumption); (case hv => with_reducible assumption); (case hs => with_unfolding_all rfl); (case hg => (intro _; with_unfolding_all rfl)); k_whole)))
local macro_rules | `(tactic| walk_at "subscriptTail Name Constant") => `(tactic| (k_here; (with_reducible show wpAny _ _ (subscriptTail _ _ (Value.ref _) (Value.str _ _)) _ _ _); k_dflt (refine' item_dictT ?N ?hm ?hd ?hv ?_ ?hs ?hg; (case N => k_asm); (case hm => k_mem); (case hd => with_reducible assumption); (case hv => with_reducible assumption); (case hs => with_unfolding_all rfl); (case hg => (intro _; with_unfolding_all rfl)); k_whole)))
local macro_rules | `(tactic| walk_at "subscriptTail Name Constant ref") => `(tactic| (k_here; (with_reducible show wpAny _ _ (subscriptTail _ _ (Value.ref _) (Value.str _ _)) _ _ _); k_dflt (refine' item_dictT ?N ?hm ?hd ?hv ?_ ?hs ?hg; (case N => k_asm); (case hm => k_mem); (case hd => with_reducible assumption); (case hv => with_reducible assumption); (case hs => with_unfolding_all rfl); (case hg => (intro _; with_unfolding_all rfl)); k_whole)))
local macro_rules | `(tactic| walk_at "subscriptTail Name Constant ref str") => `(tactic| (k_here; (with_reducible show wpAny _ _ (subscriptTail _ _ (Value.ref _) (Value.str _ _)) _ _ _); k_dflt (refine' item_dictT ?N ?hm ?hd ?hv ?_ ?hs ?hg; (case N => k_asm); (case hm => k_mem); (case hd => with_reducible assumption); (case hv => with_reducible assumption); (case hs => with_unfolding_all rfl); (case hg => (intro _; with_unfolding_all rfl)); k_whole)))
local macro_rules | `(tactic| walk_at "call ref") => `(tactic| (k_here; (with_reducible show wpAny _ _ (call (Value.ref 717) _) _ _ _); k_dflt (refine' call_cls0 ?k1 ?k2 ?k3 ?k4 ?k5 ?_; (case k1 => k_asm); (case k2 => k_asm); (case k3 => k_asm); (case k4 => k_is); (case k5 => k_is); k_whole; intro x' d' h' F' N' l1 l2; (try k_lt l1); (try k_lt2 l2); (try k_sweep))))
local macro_rules | `(tactic| walk_at "call ref") => `(tactic| (k_here; (with_reducible show wpAny _ _ (call (Value.ref 430) _) _ _ _); k_dflt (refine' call_cls ?k1 ?k2 ?k3 ?k4 ?k5 ?k6 ?_; (case k1 => k_asm); (case k2 => k_asm); (case k3 => k_asm); (case k4 => k_is); (case k5 => k_is); (case k6 => k_is); k_whole; intro x' d' h' F' N' l1 l2; (try k_lt l1); (try k_lt2 l2); (try k_sweep); k_enter)))
local macro_rules | `(tactic| walk_at "callWith ref") => `(tactic| (k_here; (with_reducible show wpAny _ _ (callWith _ (Value.ref 717) _ _ _) _ _ _); k_dflt (refine' callWith_K0 ?k1 ?k2 ?_; (case k1 => exact Frag.In.keeps (show (kf.heap_1 _).In _ from by with_reducible assumption) (Fr.keep (by k_asm))); (case k2 => k_is); k_whole)))
local macro_rules | `(tactic| walk_at "callWith ref nil") => `(tactic| (k_here; (with_reducible show wpAny _ _ (callWith _ (Value.ref 717) _ _ _) _ _ _); k_dflt (refine' callWith_K0 ?k1 ?k2 ?_; (case k1 => exact Frag.In.keeps (show (kf.heap_1 _).In _ from by with_reducible assumption) (Fr.keep (by k_asm))); (case k2 => k_is); k_whole)))
local macro_rules | `(tactic| walk_at "callWith ref nil nil") => `(tactic| (k_here; (with_reducible show wpAny _ _ (callWith _ (Value.ref 717) _ _ _) _ _ _); k_dflt (refine' callWith_K0 ?k1 ?k2 ?_; (case k1 => exact Frag.In.keeps (show (kf.heap_1 _).In _ from by with_reducible assumption) (Fr.keep (by k_asm))); (case k2 => k_is); k_whole)))
local macro_rules | `(tactic| k_in) => `(tactic| first | (with_reducible assumption) | exact Frag.In.keeps (show (kf.heap_1 _).In _ from by with_reducible assumption) (Fr.keep (by k_asm)))
local macro_rules | `(tactic| walk_at "exec Assign cons ListComp") => `(tactic| (k_here; (with_reducible show wpAny _ _ (exec (Stmt.Assign [Expr.Name _ _] (Expr.ListComp _ [Comprehension.mk _ _ [_] _] _ _) _) _) _ _ _); k_dflt (refine Assign_ListComp_C (by k_asm) (by assumption) (by rfl) (by with_unfolding_all rfl) (by with_unfolding_all rfl) (fun _ => by with_unfolding_all rfl) (fun _ => by with_unfolding_all rfl) (by rfl) (by decide) (by with_unfolding_all rfl) (by rfl) (by rfl) ?_)))
theorem post_G {M : Model} {A : Around} {cd : Code} {s s₁ : Shared} {cw : ClaimW} {cl : Str → Option Addr} {mean : ExcName → Option Value} {args : List WData} {tabs : List (Addr × Addr)} (hT : TabsAt tabs s₁.heap) (hr : ∀ a x, cw.raises a x = false) (hp : cw.post args (.bool true) args = true)
    (h : codeAny M A cd (fun r s' => r = .ok (.ret (.bool true)) ∧ (∀ b o, (ghostOf s₁.heap tabs).get? b = some o → s'.heap.get? b = some o) ∧ GrownAll tabs s'.heap ∧ s'.os = s₁.os ∧ AllBare s'.gens) s) : codeAny M A cd (GoodWG cw cl mean args s₁) s :=
  codeAny_mono h fun r s' ⟨hres, hk, hgr, hos, hg⟩ => by
    subst hres
    have keep : ∀ b o, s₁.heap.get? b = some o → s'.heap.get? b = some o ∨ (isCodeTable s₁.heap b ∧ o = tabObj #[] ∧ ∃ ps, s'.heap.get? b = some (tabObj ps)) := fun b o e => by
      by_cases hb : b ∈ tabs.map (·.2)
      · obtain ⟨q, hq, rfl⟩ := List.mem_map.mp hb
        have e2 := (hT q hq).2
        rw [e] at e2
        exact .inr ⟨((hT q hq).1.tab (hT q hq).2).isCodeTable, Option.some.inj e2, hgr.get q hq⟩
      · exact .inl (hk b o (ghost_ne e hb))
    refine ⟨.inl ⟨_, _, [], rfl, hr args, ReadsW.bool true, hp, fun _ => ⟨List.nodup_nil, fun _ hm => (nomatch hm)⟩⟩, ⟨fun b o e => ?_, fun b o e => ?_⟩, hos, hg⟩
    · rcases keep b o e with h | ⟨ht, rfl, ps, hP⟩
      · exact .inl h
      · exact .inr (.inl ⟨ht, rfl, #[], ps, rfl, by rw [Array.empty_append]; exact hP⟩)
    · rcases keep b o e with h | ⟨_, _, ps, hP⟩
      · exact ⟨o, h⟩
      · exact ⟨_, hP⟩
set_option maxRecDepth 100000 in
set_option maxHeartbeats 8000000 in
theorem tryw : PySem.Challenge.rw_eq0021_01.Holds := by
  w_on
  o_law
  refine PySem.W.holds_open (q := vw) (loose := looseL) (Xt := xt) (XP := XL vw []) (Yf := hook.obs) (Ya := hook.val) (YP := hook.says) (N := 14056) left_ok hook.of hook.keeps (fun s e => xl_of s (Bool.and_eq_true_iff.mp e).1) XL.keeps (by rfl) (by rfl) (by rfl) (fun s e => recFacts_of (Bool.and_eq_true_iff.mp e).2) (by rfl) (by first | assumption | decide +kernel) (by decide +kernel) ⟨rfl, rfl, rfl, rfl, rfl, by decide +kernel⟩ ?hw ?hc
  case hw => w_witness2
  rename PySem.W.OpenRow.wellSaid _ = true => said9
  clear said9
  k_fill
  intro w s₀ s₁ mg mb G Y fa o pm cd doc dV kV ho hd hcd hD hmg hg args vals as hpre hlay hrd hwl hlo
  have KX := km_in_of Y
  have hT8 := km_tabs_of Y
  have X := (Ground.X G).1
  have V := (Ground.X G).2
  refine Ground.open G ?_
  intro T B D TE TW
  try (refine guard_noD D (by decide +kernel) ?_; clear D)
  have hT9 : TabsAt [(876, 872), (917, 915)] s₁.heap := List.forall_mem_cons.mpr ⟨⟨codeHd_of_K (c := 876) (P := 872) KX (by kernel_rfl), hT8 872 (by k_mem)⟩, List.forall_mem_cons.mpr ⟨⟨codeHd_of_K (c := 917) (P := 915) KX (by kernel_rfl), hT8 915 (by k_mem)⟩, fun _ h => nomatch h⟩⟩
  clear hmg
  wrow_args hpre hlay hrd hwl hlo
  all_goals first | refine callC_kw (enter_call ?_) | refine enter_call ?_
  w_top on
  refine post_G hT9 (fun _ _ => rfl) ?hpost ?_
  case hpost => wrow_post
  w_call any ho hd hcd hD T F
  clear hd
  kn_ghosts F T
  k_drop
  rename_i ns hsh hlay0 hL0 hr0 hl2 wa1 wa2 sc vsc wa3 hL1 ra w1 r0 hI hr1 hc1 hc2 h₁ tk₁ o1 o2 o3 d1 d2 d3 X0 XF TF BF FF cH9 NF lF
  have hG0 : GB 0 s₁.gens := ⟨.of_eq hg, Nat.zero_le _⟩
  clear hr0 hl2 hr1 w1 r0 ra hL0 hlay0 hsh hc2 X0 cH9 codeHd hD
  clear TE TW X V hT8
  clear hcd ho
  clear T B
  clear hT9
  clear Y
  clear G
  refine to_topA ?_
  have hRL : recursionLimit = 1000 := rfl
  have hCL : cLine = 9900 := rfl
  have V2 : ValAt w 2 := valueS w 1 (by decide) (valueS w 0 (by decide) (value0 w))
  have V1 : ValAt w 1 := valueS w 0 (by decide) (value0 w)
  k_steps
  rename_i lsA wsA hA hIA hCA hLA l1A stA hB l1B hC oC dC lpq hD FD ND l1D
  have hlen : wsA.length < 100 := by
    rw [hIA.length, hCA]
    exact Nat.lt_of_le_of_lt (Nat.min_le_left _ _) (by decide)
  have hstA : ∀ p ∈ [(lsA, listObj wsA 0), (s₁.heap.objs.size + 1 + 1 + 1, o1), (s₁.heap.objs.size + 1 + 1, o2), (s₁.heap.objs.size + 1, oC), (872, tabObj #[]), (915, tabObj #[])], p.1 ≠ stA := by
    intro p hp
    simp only [List.mem_cons, List.not_mem_nil, or_false] at hp
    obtain ⟨a1, a2, a3, a4, a5, a6⟩ := l1B
    rcases hp with rfl | rfl | rfl | rfl | rfl | rfl
    · exact Nat.ne_of_lt a1
    · exact Nat.ne_of_lt a2
    · exact Nat.ne_of_lt a3
    · exact Nat.ne_of_lt a4
    · exact Nat.ne_of_lt a5
    · exact Nat.ne_of_lt a6
  refine src_list hG0 rfl FD ND (.head _) ?_
  intro g0
  refine GRest.turnsX (st := stA) (ls := lsA) (n1 := 0) (nw := [(lsA, listObj wsA 0), (s₁.heap.objs.size + 1 + 1 + 1, o1), (s₁.heap.objs.size + 1 + 1, o2), (s₁.heap.objs.size + 1, oC), (872, tabObj #[]), (915, tabObj #[])]) (by k_upd) (fun k oD a => ∃ kvs, oD.IsDictOf (PySem.strKind PP w) kvs ∧ kvs.length ≤ k ∧ PQ w a.2.2 kvs ∧ 0 ≤ a.1 ∧ a.1 ≤ 91 * (k : Int) ∧ (∀ p ∈ [(lsA, listObj wsA 0), (s₁.heap.objs.size + 1 + 1 + 1, o1), (s₁.heap.objs.size + 1 + 1, o2), (s₁.heap.objs.size + 1, oC), (872, tabObj #[]), (915, tabObj #[])] ++ a.2.2, p.1 ≠ stA) ∧ (lsA, listObj wsA 0) ∈ [(lsA, listObj wsA 0), (s₁.heap.objs.size + 1 + 1 + 1, o1), (s₁.heap.objs.size + 1 + 1, o2), (s₁.heap.objs.size + 1, oC), (872, tabObj #[]), (915, tabObj #[])] ++ a.2.2 ∧ ∀ p ∈ a.2.2, ∀ q ∈ [(lsA, listObj wsA 0), (s₁.heap.objs.size + 1 + 1 + 1, o1), (s₁.heap.objs.size + 1 + 1, o2), (s₁.heap.objs.size + 1, oC), (872, tabObj #[]), (915, tabObj #[])], p.1 ≠ q.1)
    ⟨[], dct_isDictOf, Nat.le_refl _, (fun _ h => nomatch h), (Int.le_refl 0), (by show (0 : Int) ≤ 91 * ((0 : Nat) : Int); decide), (by rw [List.append_nil]; exact hstA), (by rw [List.append_nil]; exact .head _), (fun _ h => nomatch h)⟩ ?hendT ?hstepT
  case hstepT =>
    rintro k hk' oD ⟨i', t', own⟩ gr ⟨kvs, hdo, hkl, hpq, b0, b1, hst', hls', hof⟩ v0 I0 oI0 C0 oC0 D0 m0 h0 tk0 g0 E0 Post0 e0 hC0 hx0 F0 N0 off0 ne0 hG0' hPost0
    dsimp only at hpq b0 b1 hst' hls' hof N0
    simp only [List.cons_append, List.nil_append] at hst' hls' N0
    obtain ⟨nm, tnm, rfl, hnm⟩ : ∃ nm t, v0 = .str nm t ∧ (nm = pS ∨ nm = qS) := by
      have : k = 0 ∨ k = 1 := by have h2 : k < 2 := hk'; omega
      rcases this with rfl | rfl
      · exact ⟨_, _, (Option.some.inj e0).symm, .inl rfl⟩
      · exact ⟨_, _, (Option.some.inj e0).symm, .inr rfl⟩
    obtain ⟨e1, e2, e3⟩ : (@Ne Nat stA I0) ∧ (@Ne Nat stA C0) ∧ (@Ne Nat stA D0) := off0.mem _ (gr.st (i', t', own))
    have hk2 : k < 2 := hk'
    refine turnDTk (knd := PySem.strKind PP w) (kvs := kvs) ne0 hdo (by rw [sizeLine_eq]; omega) hPost0 ?_
    k_steps
    · refine KeyP.mk' nm (strKind_is _ _ _ _) ?_
      k_steps
      rename_i r9 o9 d9 i9 t9 h9 tk9 g9 D9 k9 j0 j1 s9 l9 f9 hG9 F9 N9
      simp only [spend] at j1
      refine ⟨_, _, _, oC0, m0, _, rfl, hG9, hC0, F9, N9, gr.off (i', t', own) (i9, t9, own ++ o9) o9 off0 rfl (fun p hp => ⟨f9 p hp _ (.head _), f9 p hp _ (.tail _ (.head _)), f9 p hp _ (.tail _ (.tail _ (.head _)))⟩), .head _, fun oD' hd' => ⟨⟨i9, t9, own ++ o9⟩, rfl, _, hd', Nat.le_trans stored_len (Nat.succ_le_succ hkl), (hpq.mono fun q hq => List.mem_append_left _ hq).stored hnm (D9.mono fun q hq => List.mem_append_right _ hq) k9, j0, ?b9, s9, l9, ?f9⟩⟩
      case b9 => dsimp only; push_cast; omega
      case f9 =>
        intro p hp q hq
        rcases List.mem_append.mp hp with hp | hp
        · exact hof p hp q hq
        · exact f9 p hp q (.tail _ (.tail _ (.tail _ (.tail _ (.tail _ (List.mem_append_left own hq))))))
    · rename_i k9 t9 u9 h9 tk9 g9 kl9 kh9 hG9 F9 N9 a9
      refine ⟨_, _, _, oC0, m0, _, _, rfl, hG9, hC0, F9, N9, gr.off (i', t', own) (i' + 1, u9, own) [] off0 (by simp) (fun _ h => nomatch h), .head _, ⟨i' + 1, u9, own⟩, rfl, kvs, hdo, Nat.le_succ_of_le hkl, hpq, ?a9, ?b9, hst', hls', hof⟩
      case a9 => dsimp only; omega
      case b9 => dsimp only; push_cast; omega
  rintro oD ⟨i', t', own⟩ gr ⟨kvs, hdo, hkl, hpq, b0, b1, hst', hls', hof⟩ D1 h1 tk1 g1 hG1 F1 N1 off1 ltD1
  dsimp only at hpq b0 b1 hst' hls' hof N1 off1
  simp only [List.cons_append, List.nil_append] at hst' hls' N1 off1
  obtain ⟨es, nn, rfl⟩ := isDictOf_obj hdo
  k_steps
  rename_i xp dp y1 lp1 lp2 Dp y2 y3 y4 y5 y6 y7 lp3 y8 y9 y10 y11 y12 y13 y14 xq dq y15 lq1 lq2 Dq y16 y17 y18 y19 y20 y21 lq3 y22 y23 y24 y25 y26 y27 Dpq y28 y29 y30 y31 y32 T1 y33 y34 T2 y35 y36 T3 y37 y38 T4 y39 y40 T5 y41 y42 T6 y43 y44 lsg y45 lZ y46 FZ NZ
  clear y5 y6 y7 y11 y12 y13 y14 y19 y20 y21 y24 y25 y26 y27
  refine ⟨?_⟩
  obtain ⟨mZ, emZ, FZ'⟩ := nameFr FZ
  have hsysD : (D1 == sysModules) = false := not_modules FZ TF.nolimit ltD1
  obtain ⟨t1, u1, n1, z1⟩ : ∃ t u n, News (ghostOf s₁.heap [(876, 872), (917, 915)]) s₁.heap.objs.size y46 [(T1, tupO Sg.eq t u n)] := ⟨_, _, _, news_one NZ (by k_mem)⟩
  obtain ⟨t2, u2, n2, z2⟩ : ∃ t u n, News (ghostOf s₁.heap [(876, 872), (917, 915)]) s₁.heap.objs.size y46 [(T2, tupO Sg.ne t u n)] := ⟨_, _, _, news_one NZ (by k_mem)⟩
  obtain ⟨t3, u3, n3, z3⟩ : ∃ t u n, News (ghostOf s₁.heap [(876, 872), (917, 915)]) s₁.heap.objs.size y46 [(T3, tupO Sg.lt t u n)] := ⟨_, _, _, news_one NZ (by k_mem)⟩
  obtain ⟨t4, u4, n4, z4⟩ : ∃ t u n, News (ghostOf s₁.heap [(876, 872), (917, 915)]) s₁.heap.objs.size y46 [(T4, tupO Sg.gt t u n)] := ⟨_, _, _, news_one NZ (by k_mem)⟩
  obtain ⟨t5, u5, n5, z5⟩ : ∃ t u n, News (ghostOf s₁.heap [(876, 872), (917, 915)]) s₁.heap.objs.size y46 [(T5, tupO Sg.le t u n)] := ⟨_, _, _, news_one NZ (by k_mem)⟩
  obtain ⟨t6, u6, n6, z6⟩ : ∃ t u n, News (ghostOf s₁.heap [(876, 872), (917, 915)]) s₁.heap.objs.size y46 [(T6, tupO Sg.ge t u n)] := ⟨_, _, _, news_one NZ (by k_mem)⟩
  have zsg : News (ghostOf s₁.heap [(876, 872), (917, 915)]) s₁.heap.objs.size y46 [(lsg, listObj [.ref T1, .ref T2, .ref T3, .ref T4, .ref T5, .ref T6] 0)] := news_one NZ (by k_mem)
  obtain ⟨np, tp1, tp2, tkp, nTp, zp1, zp2, zp3⟩ : ∃ n t1 t2 tk nT, News (ghostOf s₁.heap [(876, 872), (917, 915)]) s₁.heap.objs.size y46 [(xp, instObj 641 dp)] ∧ News (ghostOf s₁.heap [(876, 872), (917, 915)]) s₁.heap.objs.size y46 [(dp, dictOf [ent w "_deprecated_wildcard_use" t1 (.bool false), ent w "fields" t2 (.ref Dp)] n)] ∧ News (ghostOf s₁.heap [(876, 872), (917, 915)]) s₁.heap.objs.size y46 [(Dp, ({ cls := .type "tuple", data := .seq #[.str pS tk] nT } : Obj))] := ⟨_, _, _, _, _, news_one NZ (by k_mem), news_one NZ (by k_mem), news_one NZ (by k_mem)⟩
  obtain ⟨nq, tq1, tq2, tkq, nTq, zq1, zq2, zq3⟩ : ∃ n t1 t2 tk nT, News (ghostOf s₁.heap [(876, 872), (917, 915)]) s₁.heap.objs.size y46 [(xq, instObj 641 dq)] ∧ News (ghostOf s₁.heap [(876, 872), (917, 915)]) s₁.heap.objs.size y46 [(dq, dictOf [ent w "_deprecated_wildcard_use" t1 (.bool false), ent w "fields" t2 (.ref Dq)] n)] ∧ News (ghostOf s₁.heap [(876, 872), (917, 915)]) s₁.heap.objs.size y46 [(Dq, ({ cls := .type "tuple", data := .seq #[.str qS tk] nT } : Obj))] := ⟨_, _, _, _, _, news_one NZ (by k_mem), news_one NZ (by k_mem), news_one NZ (by k_mem)⟩
  obtain ⟨nwL, enwL⟩ : ∃ x : List (Addr × Obj), x = [(dp, dictOf [ent w "_deprecated_wildcard_use" tp1 (.bool false), ent w "fields" tp2 (.ref Dp)] np), (xp, instObj 641 dp), (Dp, ({ cls := .type "tuple", data := .seq #[.str pS tkp] nTp } : Obj)), (dq, dictOf [ent w "_deprecated_wildcard_use" tq1 (.bool false), ent w "fields" tq2 (.ref Dq)] nq), (xq, instObj 641 dq), (Dq, ({ cls := .type "tuple", data := .seq #[.str qS tkq] nTq } : Obj)), (T1, tupO Sg.eq t1 u1 n1), (T2, tupO Sg.ne t2 u2 n2), (T3, tupO Sg.lt t3 u3 n3), (T4, tupO Sg.gt t4 u4 n4), (T5, tupO Sg.le t5 u5 n5), (T6, tupO Sg.ge t6 u6 n6), (lsg, listObj [.ref T1, .ref T2, .ref T3, .ref T4, .ref T5, .ref T6] 0)] := ⟨_, rfl⟩
  have c1 : @LT.lt Nat _ dp xp := lp2
  have c2 : @LT.lt Nat _ dp Dp := Nat.lt_trans c1 lp3.1
  have c3 : @LT.lt Nat _ dp dq := Nat.lt_trans c2 lq1.1
  have c4 : @LT.lt Nat _ dp xq := Nat.lt_trans c3 lq2
  have c5 : @LT.lt Nat _ dp Dq := Nat.lt_trans c4 lq3.1
  have c6 : @LT.lt Nat _ dp Dpq := Nat.lt_trans c5 y29.1
  have c7 : @LT.lt Nat _ dp T1 := Nat.lt_trans c6 y34.1
  have c8 : @LT.lt Nat _ dp T2 := Nat.lt_trans c7 y36.1
  have c9 : @LT.lt Nat _ dp T3 := Nat.lt_trans c8 y38.1
  have c10 : @LT.lt Nat _ dp T4 := Nat.lt_trans c9 y40.1
  have c11 : @LT.lt Nat _ dp T5 := Nat.lt_trans c10 y42.1
  have c12 : @LT.lt Nat _ dp T6 := Nat.lt_trans c11 y44.1
  have c13 : @LT.lt Nat _ dp lsg := Nat.lt_trans c12 lZ.1
  have hbig : ∀ q ∈ nwL, @LE.le Nat _ dp q.1 := by
    intro q hq
    rw [enwL] at hq
    simp only [List.mem_cons, List.not_mem_nil, or_false] at hq
    rcases hq with rfl | rfl | rfl | rfl | rfl | rfl | rfl | rfl | rfl | rfl | rfl | rfl | rfl
    · exact Nat.le_refl _
    · exact Nat.le_of_lt c1
    · exact Nat.le_of_lt c2
    · exact Nat.le_of_lt c3
    · exact Nat.le_of_lt c4
    · exact Nat.le_of_lt c5
    · exact Nat.le_of_lt c7
    · exact Nat.le_of_lt c8
    · exact Nat.le_of_lt c9
    · exact Nat.le_of_lt c10
    · exact Nat.le_of_lt c11
    · exact Nat.le_of_lt c12
    · exact Nat.le_of_lt c13
  have NL0 : News (ghostOf s₁.heap [(876, 872), (917, 915)]) s₁.heap.objs.size y46 nwL := by
    rw [enwL]
    exact news_app zp2 (news_app zp1 (news_app zp3 (news_app zq2 (news_app zq1 (news_app zq3 (news_app z1 (news_app z2 (news_app z3 (news_app z4 (news_app z5 (news_app z6 (zsg))))))))))))
  have ND1 : News (ghostOf s₁.heap [(876, 872), (917, 915)]) s₁.heap.objs.size y46 [(D1, dictObj es nn)] := news_one NZ (by k_mem)
  have NO1 : News (ghostOf s₁.heap [(876, 872), (917, 915)]) s₁.heap.objs.size y46 own := news_sub NZ (by ktd_sub)
  obtain ⟨nwD, enwD⟩ : ∃ x : List (Addr × Obj), x = nwL ++ ((D1, dictObj es nn) :: own) := ⟨_, rfl⟩
  have NH : News (ghostOf s₁.heap [(876, 872), (917, 915)]) s₁.heap.objs.size y46 ((872, tabObj #[]) :: (915, tabObj #[]) :: (s₁.heap.objs.size + 1 + 1, o2) :: (stA, stO lsA i' t' 0) :: (lsA, listObj wsA 0) :: (s₁.heap.objs.size + 1 + 1 + 1, o1) :: (s₁.heap.objs.size + 1, oC) :: nwD) := by
    rw [enwD]
    exact news_app (news_one NZ (by k_mem)) (news_app (news_one NZ (by k_mem)) (news_app (news_one NZ (by k_mem)) (news_app (news_one NZ (by k_mem)) (news_app (news_one NZ (by k_mem)) (news_app (news_one NZ (by k_mem)) (news_app (news_one NZ (by k_mem)) (news_app NL0 (news_app ND1 NO1))))))))
  have om1 := off1_mem off1
  have hdisj : ∀ q ∈ nwD, q.1 ≠ 872 ∧ q.1 ≠ 915 ∧ q.1 ≠ s₁.heap.objs.size + 1 + 1 ∧ q.1 ≠ stA ∧ q.1 ≠ lsA ∧ q.1 ≠ s₁.heap.objs.size + 1 + 1 + 1 ∧ q.1 ≠ s₁.heap.objs.size + 1 := by
    intro q hq
    rw [enwD] at hq
    rcases List.mem_append.mp hq with hq | hq
    · have hb := hbig q hq
      have gt : ∀ {c : Nat}, c < dp → @Ne Nat q.1 c := fun h => Nat.ne_of_gt (Nat.lt_of_lt_of_le h hb)
      obtain ⟨a1, a2, a3, a4, a5, a6, a7, a8, a9, _⟩ := lp1
      exact ⟨gt a8, gt a9, gt a6, gt a3, gt a4, gt a5, gt a7⟩
    · rcases List.mem_cons.mp hq with rfl | hq
      · exact ⟨Ne.symm (om1 (872, tabObj #[]) (by k_mem)), Ne.symm (om1 (915, tabObj #[]) (by k_mem)), Ne.symm (om1 (s₁.heap.objs.size + 1 + 1, o2) (by k_mem)), Ne.symm (om1 (stA, stO lsA i' t' 0) (by k_mem)), Ne.symm (om1 (lsA, listObj wsA 0) (by k_mem)), Ne.symm (om1 (s₁.heap.objs.size + 1 + 1 + 1, o1) (by k_mem)), Ne.symm (om1 (s₁.heap.objs.size + 1, oC) (by k_mem))⟩
      · exact ⟨hof q hq (872, tabObj #[]) (by k_mem), hof q hq (915, tabObj #[]) (by k_mem), hof q hq (s₁.heap.objs.size + 1 + 1, o2) (by k_mem), hst' q (by k_mem), hof q hq (lsA, listObj wsA 0) (by k_mem), hof q hq (s₁.heap.objs.size + 1 + 1 + 1, o1) (by k_mem), hof q hq (s₁.heap.objs.size + 1, oC) (by k_mem)⟩
  have inL : ∀ q ∈ nwL, q ∈ nwD := fun q hq => by rw [enwD]; exact List.mem_append_left _ hq
  have inO : ∀ q ∈ own, q ∈ nwD := fun q hq => by rw [enwD]; exact List.mem_append_right _ (.tail _ hq)
  have hD1 : (D1, dictObj es nn) ∈ nwD := by rw [enwD]; exact List.mem_append_right _ (.head _)
  have hsg : (lsg, listObj [.ref T1, .ref T2, .ref T3, .ref T4, .ref T5, .ref T6] 0) ∈ nwD := inL _ (by rw [enwL]; k_mem)
  have hfp : FldAt w nwD xp pS := ⟨dp, np, tp1, tp2, Dp, tkp, nTp, inL _ (by rw [enwL]; k_mem), inL _ (by rw [enwL]; k_mem), inL _ (by rw [enwL]; k_mem)⟩
  have hfq : FldAt w nwD xq qS := ⟨dq, nq, tq1, tq2, Dq, tkq, nTq, inL _ (by rw [enwL]; k_mem), inL _ (by rw [enwL]; k_mem), inL _ (by rw [enwL]; k_mem)⟩
  obtain ⟨ds0, hds0, ok0⟩ := hpq.data inO pS
  obtain ⟨ds1, hds1, ok1⟩ := hpq.data inO qS
  have hP0 : PthAt w nwD kvs xp (valueAt kvs pS).toList := .inl ⟨pS, hfp, rfl, hds0.each⟩
  have hP1 : PthAt w nwD kvs xq (valueAt kvs qS).toList := .inl ⟨qS, hfq, rfl, hds1.each⟩
  have hsym := ds_sym hds0 hds1 ok0 ok1
  have hnd : (kvs.map (·.1)).Nodup := by obtain ⟨_, _, _, _, _, _, nd⟩ := hdo; exact nd
  have hkl2 : kvs.length ≤ 2 := hkl
  have hklen := hpq.len hnd hkl2
  have hTs : ∀ (i : Nat) (v : Value), [Value.ref T1, .ref T2, .ref T3, .ref T4, .ref T5, .ref T6].toArray[i]? = some v → ∃ T sg t u n, v = .ref T ∧ (T, tupO sg t u n) ∈ nwD := by
    intro i v hv
    have hi : i < 6 := by
      have := (Array.getElem?_eq_some_iff.mp hv).1
      simpa using this
    have hi' : i = 0 ∨ i = 1 ∨ i = 2 ∨ i = 3 ∨ i = 4 ∨ i = 5 := by omega
    rcases hi' with rfl | rfl | rfl | rfl | rfl | rfl
    · exact ⟨T1, _, _, _, _, (Option.some.inj hv).symm, inL _ (by rw [enwL]; k_mem)⟩
    · exact ⟨T2, _, _, _, _, (Option.some.inj hv).symm, inL _ (by rw [enwL]; k_mem)⟩
    · exact ⟨T3, _, _, _, _, (Option.some.inj hv).symm, inL _ (by rw [enwL]; k_mem)⟩
    · exact ⟨T4, _, _, _, _, (Option.some.inj hv).symm, inL _ (by rw [enwL]; k_mem)⟩
    · exact ⟨T5, _, _, _, _, (Option.some.inj hv).symm, inL _ (by rw [enwL]; k_mem)⟩
    · exact ⟨T6, _, _, _, _, (Option.some.inj hv).symm, inL _ (by rw [enwL]; k_mem)⟩
  have hneLs : @Ne Nat lsA (s₁.heap.objs.size + 1 + 1) := by
    obtain ⟨_, b, _⟩ := l1A
    exact Nat.ne_of_gt b
  refine For_G (fl := 0) (ax := lsg) (its := [Value.ref T1, .ref T2, .ref T3, .ref T4, .ref T5, .ref T6].toArray) (kk := 0) (fun i m₁ news₁ => ∃ ps qs ownX oS ot ou, news₁ = (872, tabObj ps) :: (915, tabObj qs) :: (s₁.heap.objs.size + 1 + 1, oS) :: (stA, stO lsA i' t' 0) :: (lsA, listObj wsA 0) :: (s₁.heap.objs.size + 1 + 1 + 1, o1) :: (s₁.heap.objs.size + 1, oC) :: (nwD ++ ownX) ∧ TriplesOk ps.toList ∧ TriplesOk qs.toList ∧ (∃ c, oS.data = .cell c) ∧ (∀ p ∈ ownX, ∀ q ∈ (872, tabObj #[]) :: (915, tabObj #[]) :: (s₁.heap.objs.size + 1 + 1, o2) :: (stA, stO lsA i' t' 0) :: (lsA, listObj wsA 0) :: (s₁.heap.objs.size + 1 + 1 + 1, o1) :: (s₁.heap.objs.size + 1, oC) :: nwD, p.1 ≠ q.1) ∧ m₁ = mLaw mZ ot ou) rfl ?evalZ hG1 FZ' NH ⟨#[], #[], [], o2, _, _, by rw [List.append_nil], trivial, trivial, ⟨_, d2⟩, (fun _ h => nomatch h), (mLaw_self mZ).symm⟩ ?haxZ ?turnZ ?finZ
  case evalZ =>
    subst emZ
    k_steps
  case haxZ =>
    rintro i m₁ news₁ ⟨ps, qs, ownX, oS, ot, ou, rfl, _⟩
    exact .tail _ (.tail _ (.tail _ (.tail _ (.tail _ (.tail _ (.tail _ (List.mem_append_left _ hsg)))))))
  case turnZ =>
    rintro i v m₁ news₁ I oI h₁' tk₁' g₁ E' hv G1 F1 N1 offI LI ⟨ps, qs, ownX, oS, ot, ou, rfl, hps, hqs, ⟨cS, dS⟩, hfr, rfl⟩
    obtain ⟨T, sg, tt, uu, nT, rfl, hT⟩ := hTs i v hv
    obtain ⟨nwT, enwT⟩ : ∃ x, x = nwD ++ ownX := ⟨_, rfl⟩
    have inT : ∀ q ∈ nwD, q ∈ nwT := fun q hq => by rw [enwT]; exact List.mem_append_left _ hq
    rw [← enwT] at N1 offI
    have NB : News (ghostOf s₁.heap [(876, 872), (917, 915)]) s₁.heap.objs.size h₁' ((872, tabObj ps) :: (915, tabObj qs) :: (I, oI) :: (s₁.heap.objs.size + 1 + 1, oS) :: (stA, stO lsA i' t' 0) :: (lsA, listObj wsA 0) :: (s₁.heap.objs.size + 1 + 1 + 1, o1) :: (s₁.heap.objs.size + 1, oC) :: nwT) := by
      refine news_sub N1 ?_
      intro q hq
      simp only [List.mem_cons] at hq ⊢
      rcases hq with h | h | h | h | h | h | h | h | h <;> simp only [h, true_or, or_true]
    have hneI : @Ne Nat I (s₁.heap.objs.size + 1 + 1) := Ne.symm (offI (s₁.heap.objs.size + 1 + 1, oS) (.tail _ (.tail _ (.head _))))
    have hTT := inT _ hT
    have hneC : ∀ p ∈ (stA, stO lsA i' t' 0) :: (lsA, listObj wsA 0) :: (s₁.heap.objs.size + 1 + 1 + 1, o1) :: (s₁.heap.objs.size + 1, oC) :: nwT, p.1 ≠ s₁.heap.objs.size + 1 + 1 := by
      intro q hq
      obtain ⟨_, _, b3, _⟩ := l1B
      simp only [List.mem_cons] at hq
      rcases hq with rfl | rfl | rfl | rfl | hq
      · exact Nat.ne_of_gt b3
      · exact hneLs
      · exact Nat.succ_ne_self _
      · exact Ne.symm (Nat.succ_ne_self _)
      · rw [enwT] at hq
        rcases List.mem_append.mp hq with hq | hq
        · exact (hdisj q hq).2.2.1
        · exact hfr q hq (s₁.heap.objs.size + 1 + 1, o2) (.tail _ (.tail _ (.head _)))
    clear N1
    subst emZ
    have h872I : I ≠ 872 ∧ I ≠ 915 := ⟨Ne.symm (offI (872, tabObj ps) (.head _)), Ne.symm (offI (915, tabObj qs) (.tail _ (.head _)))⟩
    have hoffT : ∀ q ∈ nwT, q.1 ≠ 872 ∧ q.1 ≠ 915 := by
      intro q hq
      rw [enwT] at hq
      rcases List.mem_append.mp hq with hq | hq
      · exact ⟨(hdisj q hq).1, (hdisj q hq).2.1⟩
      · exact ⟨hfr q hq (872, tabObj #[]) (.head _), hfr q hq (915, tabObj #[]) (.tail _ (.head _))⟩
    have hoffZ : ∀ (oS' : Obj) (nwX : List (Addr × Obj)), (∀ q ∈ nwX, q.1 ≠ 872 ∧ q.1 ≠ 915) → ∀ q ∈ (I, oI) :: (s₁.heap.objs.size + 1 + 1, oS') :: (stA, stO lsA i' t' 0) :: (lsA, listObj wsA 0) :: (s₁.heap.objs.size + 1 + 1 + 1, o1) :: (s₁.heap.objs.size + 1, oC) :: nwX, q.1 ≠ 872 ∧ q.1 ≠ 915 := by
      intro oS' nwX hX q hq
      have gt1 : ∀ {c : Nat}, c < s₁.heap.objs.size → @Ne Nat (s₁.heap.objs.size + 1) c := fun h => Nat.ne_of_gt (Nat.lt_succ_of_lt h)
      have gt2 : ∀ {c : Nat}, c < s₁.heap.objs.size → @Ne Nat (s₁.heap.objs.size + 1 + 1) c := fun h => Nat.ne_of_gt (Nat.lt_succ_of_lt (Nat.lt_succ_of_lt h))
      have gt3 : ∀ {c : Nat}, c < s₁.heap.objs.size → @Ne Nat (s₁.heap.objs.size + 1 + 1 + 1) c := fun h => Nat.ne_of_gt (Nat.lt_succ_of_lt (Nat.lt_succ_of_lt (Nat.lt_succ_of_lt h)))
      obtain ⟨_, _, _, _, b5, b6⟩ := l1B
      obtain ⟨_, _, _, b4', b5'⟩ := l1A
      simp only [List.mem_cons] at hq
      rcases hq with rfl | rfl | rfl | rfl | rfl | rfl | hq
      · exact h872I
      · exact ⟨gt2 lF.1, gt2 lF.2⟩
      · exact ⟨Nat.ne_of_gt b5, Nat.ne_of_gt b6⟩
      · exact ⟨Nat.ne_of_gt b4', Nat.ne_of_gt b5'⟩
      · exact ⟨gt3 lF.1, gt3 lF.2⟩
      · exact ⟨gt1 lF.1, gt1 lF.2⟩
      · exact hX q hq
    k_steps
    rename News _ _ _ _ => NA
    rename Fr _ _ _ _ => FA
    rename Obj.data _ = Data.cell (some (Value.str sg.str tt)) => dA
    rename Obj => oS2
    refine ⟨?_⟩
    refine use_call (law_holds w ((I, oI) :: (s₁.heap.objs.size + 1 + 1, oS2) :: (stA, stO lsA i' t' 0) :: (lsA, listObj wsA 0) :: (s₁.heap.objs.size + 1 + 1 + 1, o1) :: (s₁.heap.objs.size + 1, oC) :: nwT) ps qs xp xq D1 sg tt (valueAt kvs pS).toList (valueAt kvs qS).toList ds0 ds1 es nn kvs (.tail _ (.tail _ (.tail _ (.tail _ (.tail _ (.tail _ (inT _ hD1))))))) hdo hsysD
      (hP0.mono fun q hq => .tail _ (.tail _ (.tail _ (.tail _ (.tail _ (.tail _ (inT _ hq))))))) (hP1.mono fun q hq => .tail _ (.tail _ (.tail _ (.tail _ (.tail _ (.tail _ (inT _ hq))))))) (toList_len _) (toList_len _) (hds0.mono fun q hq => .tail _ (.tail _ (.tail _ (.tail _ (.tail _ (.tail _ (inT _ hq))))))) (hds1.mono fun q hq => .tail _ (.tail _ (.tail _ (.tail _ (.tail _ (.tail _ (inT _ hq))))))) ok0 ok1 hps hqs (hoffZ oS2 nwT hoffT)) BF FA XF NA TF rfl rfl (by k_room) (by k_units) G1 ?_
    rintro r2 nw2 h2 tk2 g2 ⟨own2, R2, c2', ps2, qs2, rfl, rfl, hp2, hq2, m2R, fr2⟩ hG2 F2 N2
    obtain ⟨W1, eW1⟩ : ∃ x, x = wantV sg ds0 (valueAt kvs pS).toList ds1 (.ref D1) := ⟨_, rfl⟩
    rw [← eW1] at m2R
    obtain ⟨nwU, enwU⟩ : ∃ x, x = nwT ++ own2 := ⟨_, rfl⟩
    have inU : ∀ q ∈ nwT, q ∈ nwU := fun q hq => by rw [enwU]; exact List.mem_append_left _ hq
    have m2U : (R2, listObj W1 c2') ∈ nwU := by rw [enwU]; exact List.mem_append_right _ m2R
    simp only [List.cons_append, ← enwU] at N2
    have hoffU : ∀ q ∈ nwU, q.1 ≠ 872 ∧ q.1 ≠ 915 := by
      intro q hq
      rw [enwU] at hq
      rcases List.mem_append.mp hq with hq | hq
      · exact hoffT q hq
      · exact ⟨(fr2 q hq).1, (fr2 q hq).2.1⟩
    clear NA FA
    k_steps
    refine ⟨?_⟩
    refine eq_nil (by k_asm) (by k_mem) (.head _) (by k_units) rfl ?_
    k_steps
    rename News _ _ _ _ => NB2
    rename Fr _ _ _ _ => FB2
    refine ⟨?_⟩
    refine use_call (law_holds w ((I, oI) :: (s₁.heap.objs.size + 1 + 1, oS2) :: (stA, stO lsA i' t' 0) :: (lsA, listObj wsA 0) :: (s₁.heap.objs.size + 1 + 1 + 1, o1) :: (s₁.heap.objs.size + 1, oC) :: nwU) ps2 qs2 xq xp D1 sg.turn uu (valueAt kvs qS).toList (valueAt kvs pS).toList ds1 ds0 es nn kvs (.tail _ (.tail _ (.tail _ (.tail _ (.tail _ (.tail _ (inU _ (inT _ hD1)))))))) hdo hsysD
      (hP1.mono fun q hq => (.tail _ (.tail _ (.tail _ (.tail _ (.tail _ (.tail _ (inU _ (inT _ hq))))))))) (hP0.mono fun q hq => (.tail _ (.tail _ (.tail _ (.tail _ (.tail _ (.tail _ (inU _ (inT _ hq))))))))) (toList_len _) (toList_len _) (hds1.mono fun q hq => (.tail _ (.tail _ (.tail _ (.tail _ (.tail _ (.tail _ (inU _ (inT _ hq))))))))) (hds0.mono fun q hq => (.tail _ (.tail _ (.tail _ (.tail _ (.tail _ (.tail _ (inU _ (inT _ hq))))))))) ok1 ok0 hp2 hq2 (hoffZ oS2 nwU hoffU)) BF FB2 XF (news_sub NB2 (by ktd_sub)) TF rfl rfl (by k_room) (by k_units) hG2 ?_
    rintro r3 nw3 h3 tk3 g3 ⟨own3, R3, c3', ps3, qs3, rfl, rfl, hp3, hq3, m3R, fr3⟩ hG3 F3 N3
    obtain ⟨nwV, enwV⟩ : ∃ x, x = nwU ++ own3 := ⟨_, rfl⟩
    have inV : ∀ q ∈ nwU, q ∈ nwV := fun q hq => by rw [enwV]; exact List.mem_append_left _ hq
    have m3V : (R3, listObj (wantV sg.turn ds1 (valueAt kvs qS).toList ds0 (.ref D1)) c3') ∈ nwV := by rw [enwV]; exact List.mem_append_right _ m3R
    have m2V := inV _ m2U
    have hturn : (wantV sg.turn ds1 (valueAt kvs qS).toList ds0 (.ref D1)).isEmpty = W1.isEmpty := by
      rw [eW1]
      exact (want_turn hds0.length hds1.length hsym).symm
    simp only [List.cons_append, ← enwV] at N3
    clear NB2 FB2
    k_steps
    refine ⟨?_⟩
    refine eq_nil (by k_asm) (by k_mem) (.head _) (by k_units) hturn ?_
    have eqV : nwV = nwD ++ (ownX ++ (own2 ++ own3)) := by rw [enwV, enwU, enwT, List.append_assoc, List.append_assoc]
    have offN : ∀ p ∈ (872, tabObj ps3) :: (915, tabObj qs3) :: (s₁.heap.objs.size + 1 + 1, oS2) :: (stA, stO lsA i' t' 0) :: (lsA, listObj wsA 0) :: (s₁.heap.objs.size + 1 + 1 + 1, o1) :: (s₁.heap.objs.size + 1, oC) :: (nwD ++ (ownX ++ (own2 ++ own3))), p.1 ≠ I := by
      intro p hp
      rw [← eqV, enwV, enwU] at hp
      simp only [List.mem_cons, List.mem_append] at hp
      have old : ∀ o', (p.1, o') ∈ (872, tabObj ps) :: (915, tabObj qs) :: (s₁.heap.objs.size + 1 + 1, oS) :: (stA, stO lsA i' t' 0) :: (lsA, listObj wsA 0) :: (s₁.heap.objs.size + 1 + 1 + 1, o1) :: (s₁.heap.objs.size + 1, oC) :: nwT → p.1 ≠ I := fun o' h => offI (p.1, o') h
      rcases hp with rfl | rfl | rfl | rfl | rfl | rfl | rfl | (hp | hp) | hp
      · exact old _ (.head _)
      · exact old _ (.tail _ (.head _))
      · exact old _ (.tail _ (.tail _ (.head _)))
      · exact old _ (.tail _ (.tail _ (.tail _ (.head _))))
      · exact old _ (.tail _ (.tail _ (.tail _ (.tail _ (.head _)))))
      · exact old _ (.tail _ (.tail _ (.tail _ (.tail _ (.tail _ (.head _))))))
      · exact old _ (.tail _ (.tail _ (.tail _ (.tail _ (.tail _ (.tail _ (.head _)))))))
      · exact old p.2 (.tail _ (.tail _ (.tail _ (.tail _ (.tail _ (.tail _ (.tail _ hp)))))))
      · exact (fr2 p hp).2.2 (I, oI) (.head _)
      · exact (fr3 p hp).2.2 (I, oI) (.head _)
    have frN : ∀ p ∈ ownX ++ (own2 ++ own3), ∀ q ∈ (872, tabObj #[]) :: (915, tabObj #[]) :: (s₁.heap.objs.size + 1 + 1, o2) :: (stA, stO lsA i' t' 0) :: (lsA, listObj wsA 0) :: (s₁.heap.objs.size + 1 + 1 + 1, o1) :: (s₁.heap.objs.size + 1, oC) :: nwD, p.1 ≠ q.1 := by
      have lift : ∀ (p : Addr × Obj) (nwX : List (Addr × Obj)), (p.1 ≠ 872 ∧ p.1 ≠ 915 ∧ ∀ q ∈ (I, oI) :: (s₁.heap.objs.size + 1 + 1, oS2) :: (stA, stO lsA i' t' 0) :: (lsA, listObj wsA 0) :: (s₁.heap.objs.size + 1 + 1 + 1, o1) :: (s₁.heap.objs.size + 1, oC) :: nwX, p.1 ≠ q.1) → (∀ q ∈ nwD, q ∈ nwX) → ∀ q ∈ (872, tabObj #[]) :: (915, tabObj #[]) :: (s₁.heap.objs.size + 1 + 1, o2) :: (stA, stO lsA i' t' 0) :: (lsA, listObj wsA 0) :: (s₁.heap.objs.size + 1 + 1 + 1, o1) :: (s₁.heap.objs.size + 1, oC) :: nwD, p.1 ≠ q.1 := by
        intro p nwX h hs q hq
        rcases List.mem_cons.mp hq with rfl | hq
        · exact h.1
        · rcases List.mem_cons.mp hq with rfl | hq
          · exact h.2.1
          · rcases List.mem_cons.mp hq with rfl | hq
            · exact h.2.2 (s₁.heap.objs.size + 1 + 1, oS2) (.tail _ (.head _))
            · simp only [List.mem_cons] at hq
              rcases hq with rfl | rfl | rfl | rfl | hq
              · exact h.2.2 _ (.tail _ (.tail _ (.head _)))
              · exact h.2.2 _ (.tail _ (.tail _ (.tail _ (.head _))))
              · exact h.2.2 _ (.tail _ (.tail _ (.tail _ (.tail _ (.head _)))))
              · exact h.2.2 _ (.tail _ (.tail _ (.tail _ (.tail _ (.tail _ (.head _))))))
              · exact h.2.2 _ (.tail _ (.tail _ (.tail _ (.tail _ (.tail _ (.tail _ (hs q hq)))))))
      intro p hp
      rcases List.mem_append.mp hp with hp | hp
      · exact hfr p hp
      · rcases List.mem_append.mp hp with hp | hp
        · exact lift p nwT (fr2 p hp) inT
        · exact lift p nwU (fr3 p hp) fun q hq => inU q (inT q hq)
    k_steps
    · rename (W1.isEmpty != W1.isEmpty) = true => ae
      exact absurd ae (by simp)
    refine ⟨?_⟩
    have hDV : (D1, dictObj es nn) ∈ nwV := inV _ (inU _ (inT _ hD1))
    refine len_dict_led (by k_asm) (by k_mem) hdo hsysD hkl2 ?_
    intro tl tkl
    have inDV : ∀ q ∈ nwD, q ∈ nwV := fun q hq => inV _ (inU _ (inT _ hq))
    cases e0 : valueAt kvs pS with
    | none =>
      rw [e0] at hklen eW1
      obtain rfl := hds0.nil' (by rw [e0]; rfl)
      cases e1 : valueAt kvs qS with
      | none =>
        rw [e1] at hklen
        obtain rfl := hds1.nil' (by rw [e1]; rfl)
        have hk0 : (kvs.length : Int) = 0 := by rw [hklen]; rfl
        rw [hk0]
        k_steps
        refine ⟨?_⟩
        refine ne_nil (by k_asm) (by k_mem) (.head _) (by k_units) (c := dueD sg (.num 0) (.num 0)) (by rw [eW1]; exact want_none) ?_
        k_steps
        refine ⟨?_⟩
        refine len_dict_led (by k_asm) (by k_mem) hdo hsysD hkl2 ?_
        intro tl2 tkl2
        rw [hk0]
        k_steps
        refine ⟨?_⟩
        refine use_call (due_call w _ sg tt (.num 0) (.num 0) _ _ trivial trivial ⟨by decide, by decide, _, rfl⟩ ⟨by decide, by decide, _, rfl⟩) BF (by k_asm) XF (by k_asm) TF rfl rfl (by k_room) (by k_units) hG3 ?_
        rintro r5 nw5 h5 tk5 g5 ⟨rfl, rfl⟩ hG5 F5 N5
        k_steps
        all_goals first
          | (rename (_ != _) = true => ae; exact absurd ae (by simp))
          | (refine FStepG.nextG (by assumption) (by k_asm) (news_sub (by k_asm) ?_) offN ⟨ps3, qs3, ownX ++ (own2 ++ own3), oS2, some (.ref R2), some (.str sg.turn.str uu), rfl, hp3, hq3, ⟨_, dA⟩, frN, mLaw_set _ _ _ _ _⟩
             intro q hq
             rw [← eqV] at hq
             simp only [List.mem_cons] at hq ⊢
             rcases hq with h | h | h | h | h | h | h | h | h <;> simp only [h, true_or, or_true])
      | some vq =>
        rw [e1] at hklen
        obtain ⟨dq1, rfl, hdq1⟩ := hds1.one' (by rw [e1]; rfl)
        have hk0 : (kvs.length : Int) = 1 := by rw [hklen]; rfl
        rw [hk0]
        k_steps
        refine ⟨?_⟩
        refine ne_nil (by k_asm) (by k_mem) (.head _) (by k_units) (c := (sg.str == Str.ofString "!=")) (by rw [eW1]; exact want_one') ?_
        k_steps
        refine ⟨?_⟩
        refine len_dict_led (by k_asm) (by k_mem) hdo hsysD hkl2 ?_
        intro tl2 tkl2
        rw [hk0]
        k_steps
        all_goals first
          | (rename (_ != _) = true => ae; exact absurd ae (by simp))
          | (refine FStepG.nextG (by assumption) (by k_asm) (news_sub (by k_asm) ?_) offN ⟨ps3, qs3, ownX ++ (own2 ++ own3), oS2, some (.ref R2), some (.str sg.turn.str uu), rfl, hp3, hq3, ⟨_, dA⟩, frN, mLaw_set _ _ _ _ _⟩
             intro q hq
             rw [← eqV] at hq
             simp only [List.mem_cons] at hq ⊢
             rcases hq with h | h | h | h | h | h | h | h | h <;> simp only [h, true_or, or_true])
    | some vp =>
      rw [e0] at hklen eW1
      obtain ⟨dp1, rfl, hdp1⟩ := hds0.one' (by rw [e0]; rfl)
      have hv0 : valueAt kvs (Str.ofString "p") = some vp := e0
      cases e1 : valueAt kvs qS with
      | none =>
        rw [e1] at hklen
        obtain rfl := hds1.nil' (by rw [e1]; rfl)
        have hk0 : (kvs.length : Int) = 1 := by rw [hklen]; rfl
        rw [hk0]
        k_steps
        refine ⟨?_⟩
        refine ne_nil (by k_asm) (by k_mem) (.head _) (by k_units) (c := (sg.str == Str.ofString "!=")) (by rw [eW1]; exact want_one) ?_
        k_steps
        refine ⟨?_⟩
        refine len_dict_led (by k_asm) (by k_mem) hdo hsysD hkl2 ?_
        intro tl2 tkl2
        rw [hk0]
        k_steps
        all_goals first
          | (rename (_ != _) = true => ae; exact absurd ae (by simp))
          | (refine FStepG.nextG (by assumption) (by k_asm) (news_sub (by k_asm) ?_) offN ⟨ps3, qs3, ownX ++ (own2 ++ own3), oS2, some (.ref R2), some (.str sg.turn.str uu), rfl, hp3, hq3, ⟨_, dA⟩, frN, mLaw_set _ _ _ _ _⟩
             intro q hq
             rw [← eqV] at hq
             simp only [List.mem_cons] at hq ⊢
             rcases hq with h | h | h | h | h | h | h | h | h <;> simp only [h, true_or, or_true])
      | some vq =>
        rw [e1] at hklen
        obtain ⟨dq1, rfl, hdq1⟩ := hds1.one' (by rw [e1]; rfl)
        have hv1 : valueAt kvs (Str.ofString "q") = some vq := e1
        have hk0 : (kvs.length : Int) = 2 := by rw [hklen]; rfl
        rw [hk0]
        k_steps
        refine ⟨?_⟩
        refine use_call (due_call w ((872, tabObj ps3) :: (915, tabObj qs3) :: (I, oI) :: (s₁.heap.objs.size + 1 + 1, oS2) :: (stA, stO lsA i' t' 0) :: (lsA, listObj wsA 0) :: (s₁.heap.objs.size + 1 + 1 + 1, o1) :: (s₁.heap.objs.size + 1, oC) :: nwV) sg tt dp1 dq1 vp vq (ok0 _ (.head _)) (ok1 _ (.head _)) ((hdp1.mono inDV).mono (by ktd_sub)) ((hdq1.mono inDV).mono (by ktd_sub))) BF (by k_asm) XF (news_sub (by k_asm) (by ktd_sub)) TF rfl rfl (by k_room) (by k_units) hG3 ?_
        rintro r5 nw5 h5 tk5 g5 ⟨rfl, rfl⟩ hG5 F5 N5
        k_steps
        · rename dueD _ _ _ = true => aD
          refine ⟨?_⟩
          refine ne_same (by k_asm) (by k_mem) (.head _) (by k_units) (by rw [eW1]; exact want_two.trans (if_pos aD)) ?_
          k_steps
          all_goals first
            | (rename (_ != _) = true => ae; exact absurd ae (by simp))
            | (refine FStepG.nextG (by assumption) (by k_asm) (news_sub (by k_asm) ?_) offN ⟨ps3, qs3, ownX ++ (own2 ++ own3), oS2, some (.ref R2), some (.str sg.turn.str uu), rfl, hp3, hq3, ⟨_, dA⟩, frN, mLaw_set _ _ _ _ _⟩
               intro q hq
               rw [← eqV] at hq
               simp only [List.mem_cons] at hq ⊢
               rcases hq with h | h | h | h | h | h | h | h | h <;> simp only [h, true_or, or_true])

        · rename dueD _ _ _ = false => aD
          refine ⟨?_⟩
          refine ne_same (by k_asm) (by k_mem) (.head _) (by k_units) (by rw [eW1]; exact want_two.trans (if_neg (by rw [aD]; decide))) ?_
          k_steps
          all_goals first
            | (rename (_ != _) = true => ae; exact absurd ae (by simp))
            | (refine FStepG.nextG (by assumption) (by k_asm) (news_sub (by k_asm) ?_) offN ⟨ps3, qs3, ownX ++ (own2 ++ own3), oS2, some (.ref R2), some (.str sg.turn.str uu), rfl, hp3, hq3, ⟨_, dA⟩, frN, mLaw_set _ _ _ _ _⟩
               intro q hq
               rw [← eqV] at hq
               simp only [List.mem_cons] at hq ⊢
               rcases hq with h | h | h | h | h | h | h | h | h <;> simp only [h, true_or, or_true])
  case finZ =>
    rintro m₁ news₁ h₁' tk₁' g₁ G1 F1 N1 ⟨ps, qs, ownX, oS, ot, ou, rfl, hps, hqs, ⟨cS, dS⟩, hfr, rfl⟩
    subst emZ
    obtain ⟨nwX, enwX⟩ : ∃ x, x = nwD ++ ownX := ⟨_, rfl⟩
    have inX : ∀ q ∈ nwD, q ∈ nwX := fun q hq => by rw [enwX]; exact List.mem_append_left _ hq
    rw [← enwX] at N1
    have hdisX : ∀ q ∈ nwX, q.1 ≠ 872 ∧ q.1 ≠ 915 ∧ q.1 ≠ s₁.heap.objs.size + 1 + 1 ∧ q.1 ≠ stA ∧ q.1 ≠ lsA ∧ q.1 ≠ s₁.heap.objs.size + 1 + 1 + 1 ∧ q.1 ≠ s₁.heap.objs.size + 1 := by
      intro q hq
      rw [enwX] at hq
      rcases List.mem_append.mp hq with hq | hq
      · exact hdisj q hq
      · exact ⟨hfr q hq _ (.head _), hfr q hq _ (.tail _ (.head _)), hfr q hq _ (.tail _ (.tail _ (.head _))), hfr q hq _ (.tail _ (.tail _ (.tail _ (.head _)))), hfr q hq _ (.tail _ (.tail _ (.tail _ (.tail _ (.head _))))), hfr q hq _ (.tail _ (.tail _ (.tail _ (.tail _ (.tail _ (.head _)))))), hfr q hq _ (.tail _ (.tail _ (.tail _ (.tail _ (.tail _ (.tail _ (.head _))))))) ⟩
    have hiB : 0 ≤ i' ∧ i' ≤ 182 := ⟨b0, b1⟩
    have hstX : ∀ p ∈ (lsA, listObj wsA 0) :: (s₁.heap.objs.size + 1 + 1 + 1, o1) :: (s₁.heap.objs.size + 1, oC) :: nwX, p.1 ≠ stA := by
      intro p hp
      obtain ⟨a1, a2, a3, a4, a5, a6⟩ := l1B
      simp only [List.mem_cons] at hp
      rcases hp with rfl | rfl | rfl | hp
      · exact Nat.ne_of_lt a1
      · exact Nat.ne_of_lt a2
      · exact Nat.ne_of_lt a4
      · exact (hdisX p hp).2.2.2.1
    have hlsX : (lsA, listObj wsA 0) ∈ (lsA, listObj wsA 0) :: (s₁.heap.objs.size + 1 + 1 + 1, o1) :: (s₁.heap.objs.size + 1, oC) :: nwX := .head _
    try clear hklen
    try clear hkl2
    try clear hnd
    try clear hsym
    try clear hP0
    try clear hP1
    try clear ok0
    try clear ok1
    try clear hds0
    try clear hds1
    try clear hD1
    try clear NH
    try clear NL0
    try clear ND1
    try clear NO1
    try clear hbig
    try clear inO
    try clear inL
    try clear om1
    try clear c13
    try clear c12
    try clear c11
    try clear c10
    try clear c9
    try clear c8
    try clear c7
    try clear c6
    try clear c5
    try clear c4
    try clear c3
    try clear c2
    try clear c1
    try clear zq3
    try clear zq2
    try clear zq1
    try clear zp3
    try clear zp2
    try clear zp1
    try clear zsg
    try clear z6
    try clear z5
    try clear z4
    try clear z3
    try clear z2
    try clear z1
    try clear hsysD
    try clear FZ
    try clear FZ'
    try clear NZ
    try clear lZ
    try clear y44
    try clear y42
    try clear y40
    try clear y38
    try clear y36
    try clear y34
    try clear y29
    try clear lifted
    try clear lq3
    try clear lq2
    try clear lq1
    try clear y8
    try clear lp3
    try clear lp2
    try clear lp1
    try clear hdo
    try clear off1
    try clear hls'
    try clear hst'
    try clear b1
    try clear b0
    try clear hpq
    try clear hkl
    try clear gr
    try clear hstA
    try clear l1D
    try clear hLA
    try clear hCA
    try clear hc1
    try clear hI
    try clear hL1
    try clear hof
    try clear enwD
    try clear enwL
    try clear V2
    try clear ltD1
    try clear hneLs
    try clear hG1
    try clear hG0
    try clear d3
    k_steps
    rename_i dR hR oR FR NR loR hdR lR kR tR uR h9R tk9R g9R klR khR hGR FR2 NR2 h2R tk2R t1R u1R v1R aR1 aR2 aR3 aR4
    refine' src_rangeZ ?hz ?hz' ?hG rfl ?F ?N ?hr ?_
    (case hG => assumption)
    (case F => k_asm)
    (case N => k_asm)
    (case hr => assumption)
    (case hz => omega)
    (case hz' => omega)
    intro nP hnP g0P
    have hnP3 : nP ≤ 3 := by omega
    refine GRest.turnsX (st := stA) (ls := lsA) (n1 := 0) (nw := (lsA, listObj wsA 0) :: (s₁.heap.objs.size + 1 + 1 + 1, o1) :: (s₁.heap.objs.size + 1, oC) :: nwX) (by k_upd) (fun k oD a => ∃ ds ys, oD = LCg.lst ys ∧ DsIn w a.2.2 ds ys ∧ (∀ d ∈ ds, d.ok 2) ∧ ds.length = k ∧ ys.length = k ∧ 0 ≤ a.1 ∧ a.1 ≤ 183 + 31 * (k : Int) ∧ (∀ p ∈ ((lsA, listObj wsA 0) :: (s₁.heap.objs.size + 1 + 1 + 1, o1) :: (s₁.heap.objs.size + 1, oC) :: nwX) ++ a.2.2, p.1 ≠ stA) ∧ (lsA, listObj wsA 0) ∈ ((lsA, listObj wsA 0) :: (s₁.heap.objs.size + 1 + 1 + 1, o1) :: (s₁.heap.objs.size + 1, oC) :: nwX) ++ a.2.2 ∧ ∀ p ∈ a.2.2, ∀ q ∈ (dR, oR) :: (872, tabObj ps) :: (915, tabObj qs) :: (s₁.heap.objs.size + 1 + 1, oS) :: (lsA, listObj wsA 0) :: (s₁.heap.objs.size + 1 + 1 + 1, o1) :: (s₁.heap.objs.size + 1, oC) :: nwX, p.1 ≠ q.1)
      ⟨[], [], rfl, (by unfold DsIn; rfl), (fun _ h => nomatch h), rfl, rfl, (by dsimp only; omega), (by dsimp only; push_cast; omega), (by rw [List.append_nil]; with_reducible assumption), (by rw [List.append_nil]; with_reducible assumption), (fun _ h => nomatch h)⟩ ?hendP ?hstepP
    case hstepP =>
      rintro k hk' oD ⟨i2, t2, own2⟩ gr ⟨ds, ys, rfl, hds, hok, hlen, hl2, c0, c1, hst2, hls2, hof2⟩ v0 I0 oI0 C0 oC0 D0 m0 h0 tk0 g0 E0 Post0 ⟨t0, rfl⟩ hC0 hx0 F0 N0 off0 ne0 hG0' hPost0
      dsimp only at hds c0 c1 hst2 hls2 hof2 N0
      simp only [List.cons_append] at hst2 hls2 N0
      obtain ⟨e1, e2, e3⟩ : (@Ne Nat stA I0) ∧ (@Ne Nat stA C0) ∧ (@Ne Nat stA D0) := off0.mem _ (gr.st (i2, t2, own2))
      refine turnL (ys := ys) ne0 (by rw [sizeLine_eq]; omega) hPost0 ?_
      k_steps
      rename_i r9 o9 d9 i9 t9 h9 tk9 g9 D9 k9 j0 j1 s9 l9 f9 hG9 F9 N9
      simp only [spend] at j1
      simp only [List.cons_append, List.append_assoc] at s9 l9 N9
      refine ⟨_, _, _, oC0, m0, _, rfl, hG9, hC0, F9, N9, gr.off (i2, t2, own2) (i9, t9, own2 ++ o9) o9 off0 rfl (fun p hp => ⟨f9 p hp _ (.head _), f9 p hp _ (.tail _ (.head _)), f9 p hp _ (.tail _ (.tail _ (.head _)))⟩), trivial, ⟨i9, t9, own2 ++ o9⟩, rfl, ds ++ [d9], ys ++ [r9], rfl, DsIn.snoc (DIn.mono (fun p hp => List.mem_append_right _ hp) D9) (DsIn.mono (fun p hp => List.mem_append_left _ hp) hds), ?_, by simp [hlen], by simp [hl2], j0, ?_, s9, l9, ?f9P⟩
      · intro d hd
        rcases List.mem_append.mp hd with hd | hd
        · exact hok d hd
        · rw [List.mem_singleton.mp hd]; exact k9
      · dsimp only; push_cast; omega
      case f9P =>
        intro p hp q hq
        rcases List.mem_append.mp hp with hp | hp
        · exact hof2 p hp q hq
        · refine f9 p hp q ?_
          simp only [List.mem_cons] at hq ⊢
          rcases hq with h | h | h | h | h | h | h | h <;> simp only [h, true_or, or_true, List.mem_append]
    rintro oD ⟨iP, tP, ownP⟩ grP ⟨dsP, ysP, rfl, hdsP, hokP, hlenP, hl2P, c0P, c1P, hstP, hlsP, hofP⟩ DP hP tkP gP hGP FP NP offP ltP
    dsimp only at hdsP c0P c1P hstP hlsP hofP NP offP
    obtain ⟨nwY, enwY⟩ : ∃ x, x = nwX ++ ownP := ⟨_, rfl⟩
    simp only [List.cons_append, ← enwY] at hstP hlsP NP offP
    have hDstP : @Ne Nat DP stA := Ne.symm (off1_mem offP (stA, stO lsA iP tP 0) (by k_mem))
    have hiP : 0 ≤ iP ∧ iP ≤ 183 + 93 := ⟨c0P, by omega⟩
    k_steps

    refine' src_rangeZ ?hz ?hz' ?hG rfl ?F ?N ?hr ?_
    (case hG => assumption)
    (case F => k_asm)
    (case N => k_asm)
    (case hr => assumption)
    (case hz => omega)
    (case hz' => omega)
    intro nQ hnQ g0Q
    have hnQ3 : nQ ≤ 3 := by omega
    refine GRest.turnsX (st := stA) (ls := lsA) (n1 := 0) (nw := (lsA, listObj wsA 0) :: (s₁.heap.objs.size + 1 + 1 + 1, o1) :: (s₁.heap.objs.size + 1, oC) :: nwY) (by k_upd) (fun k oD a => ∃ ds ys, oD = LCg.lst ys ∧ DsIn w a.2.2 ds ys ∧ (∀ d ∈ ds, d.ok 2) ∧ ds.length = k ∧ ys.length = k ∧ 0 ≤ a.1 ∧ a.1 ≤ 277 + 31 * (k : Int) ∧ (∀ p ∈ ((lsA, listObj wsA 0) :: (s₁.heap.objs.size + 1 + 1 + 1, o1) :: (s₁.heap.objs.size + 1, oC) :: nwY) ++ a.2.2, p.1 ≠ stA) ∧ (lsA, listObj wsA 0) ∈ ((lsA, listObj wsA 0) :: (s₁.heap.objs.size + 1 + 1 + 1, o1) :: (s₁.heap.objs.size + 1, oC) :: nwY) ++ a.2.2 ∧ ∀ p ∈ a.2.2, ∀ q ∈ (dR, oR) :: (872, tabObj ps) :: (915, tabObj qs) :: (s₁.heap.objs.size + 1 + 1, oS) :: (lsA, listObj wsA 0) :: (s₁.heap.objs.size + 1 + 1 + 1, o1) :: (s₁.heap.objs.size + 1, oC) :: nwY, p.1 ≠ q.1)
      ⟨[], [], rfl, (by unfold DsIn; rfl), (fun _ h => nomatch h), rfl, rfl, (by dsimp only; omega), (by dsimp only; push_cast; omega), (by rw [List.append_nil]; with_reducible assumption), (by rw [List.append_nil]; with_reducible assumption), (fun _ h => nomatch h)⟩ ?hendQ ?hstepQ
    case hstepQ =>
      rintro k hk' oD ⟨i2, t2, own2⟩ gr ⟨ds, ys, rfl, hds, hok, hlen, hl2, c0, c1, hst2, hls2, hof2⟩ v0 I0 oI0 C0 oC0 D0 m0 h0 tk0 g0 E0 Post0 ⟨t0, rfl⟩ hC0 hx0 F0 N0 off0 ne0 hG0' hPost0
      dsimp only at hds c0 c1 hst2 hls2 hof2 N0
      simp only [List.cons_append] at hst2 hls2 N0
      obtain ⟨e1, e2, e3⟩ : (@Ne Nat stA I0) ∧ (@Ne Nat stA C0) ∧ (@Ne Nat stA D0) := off0.mem _ (gr.st (i2, t2, own2))
      refine turnL (ys := ys) ne0 (by rw [sizeLine_eq]; omega) hPost0 ?_
      k_steps
      rename_i r9 o9 d9 i9 t9 h9 tk9 g9 D9 k9 j0 j1 s9 l9 f9 hG9 F9 N9
      simp only [spend] at j1
      simp only [List.cons_append, List.append_assoc] at s9 l9 N9
      refine ⟨_, _, _, oC0, m0, _, rfl, hG9, hC0, F9, N9, gr.off (i2, t2, own2) (i9, t9, own2 ++ o9) o9 off0 rfl (fun p hp => ⟨f9 p hp _ (.head _), f9 p hp _ (.tail _ (.head _)), f9 p hp _ (.tail _ (.tail _ (.head _)))⟩), trivial, ⟨i9, t9, own2 ++ o9⟩, rfl, ds ++ [d9], ys ++ [r9], rfl, DsIn.snoc (DIn.mono (fun p hp => List.mem_append_right _ hp) D9) (DsIn.mono (fun p hp => List.mem_append_left _ hp) hds), ?_, by simp [hlen], by simp [hl2], j0, ?_, s9, l9, ?f9Q⟩
      · intro d hd
        rcases List.mem_append.mp hd with hd | hd
        · exact hok d hd
        · rw [List.mem_singleton.mp hd]; exact k9
      · dsimp only; push_cast; omega
      case f9Q =>
        intro p hp q hq
        rcases List.mem_append.mp hp with hp | hp
        · exact hof2 p hp q hq
        · refine f9 p hp q ?_
          simp only [List.mem_cons] at hq ⊢
          rcases hq with h | h | h | h | h | h | h | h <;> simp only [h, true_or, or_true, List.mem_append]
    rintro oD ⟨iQ, tQ, ownQ⟩ grQ ⟨dsQ, ysQ, rfl, hdsQ, hokQ, hlenQ, hl2Q, c0Q, c1Q, hstQ, hlsQ, hofQ⟩ DQ hQ tkQ gQ hGQ FQ NQ offQ ltQ
    dsimp only at hdsQ c0Q c1Q hstQ hlsQ hofQ NQ offQ
    obtain ⟨nwW, enwW⟩ : ∃ x, x = nwY ++ ownQ := ⟨_, rfl⟩
    simp only [List.cons_append, ← enwW] at hstQ hlsQ NQ offQ
    have hDstQ : @Ne Nat DQ stA := Ne.symm (off1_mem offQ (stA, stO lsA iQ tQ 0) (by k_mem))
    have hiQ : 0 ≤ iQ ∧ iQ ≤ 277 + 93 := ⟨c0Q, by omega⟩
    have omP := off1_mem offP
    have omQ := off1_mem offQ
    have hdisW : ∀ q ∈ nwW, q.1 ≠ 872 ∧ q.1 ≠ 915 ∧ q.1 ≠ s₁.heap.objs.size + 1 + 1 ∧ q.1 ≠ stA ∧ q.1 ≠ lsA ∧ q.1 ≠ s₁.heap.objs.size + 1 + 1 + 1 ∧ q.1 ≠ s₁.heap.objs.size + 1 ∧ q.1 ≠ dR := by
      have fromOwn : ∀ (q : Addr × Obj) (nwA : List (Addr × Obj)), (∀ x ∈ (dR, oR) :: (872, tabObj ps) :: (915, tabObj qs) :: (s₁.heap.objs.size + 1 + 1, oS) :: (lsA, listObj wsA 0) :: (s₁.heap.objs.size + 1 + 1 + 1, o1) :: (s₁.heap.objs.size + 1, oC) :: nwA, q.1 ≠ x.1) → q.1 ≠ stA → q.1 ≠ 872 ∧ q.1 ≠ 915 ∧ q.1 ≠ s₁.heap.objs.size + 1 + 1 ∧ q.1 ≠ stA ∧ q.1 ≠ lsA ∧ q.1 ≠ s₁.heap.objs.size + 1 + 1 + 1 ∧ q.1 ≠ s₁.heap.objs.size + 1 ∧ q.1 ≠ dR :=
        fun q nwA h hst => ⟨h _ (.tail _ (.head _)), h _ (.tail _ (.tail _ (.head _))), h _ (.tail _ (.tail _ (.tail _ (.head _)))), hst, h _ (.tail _ (.tail _ (.tail _ (.tail _ (.head _))))), h _ (.tail _ (.tail _ (.tail _ (.tail _ (.tail _ (.head _)))))), h _ (.tail _ (.tail _ (.tail _ (.tail _ (.tail _ (.tail _ (.head _))))))), h _ (.head _)⟩
      intro q hq
      have hq0 := hq
      rw [enwW, enwY] at hq
      rcases List.mem_append.mp hq with hq | hq
      · rcases List.mem_append.mp hq with hq | hq
        · have z := hdisX q hq
          obtain ⟨_, _, _, _, _, _, _, zA⟩ := lR
          exact ⟨z.1, z.2.1, z.2.2.1, z.2.2.2.1, z.2.2.2.2.1, z.2.2.2.2.2.1, z.2.2.2.2.2.2, Nat.ne_of_lt (tb_ltOf zA q hq)⟩
        · exact fromOwn q nwX (hofP q hq) (hstQ q (.tail _ (.tail _ (.tail _ hq0))))
      · exact fromOwn q nwY (hofQ q hq) (hstQ q (.tail _ (.tail _ (.tail _ hq0))))
    have hDQR : @Ne Nat DQ dR := Ne.symm (omQ (dR, oR) (by k_mem))
    have hDPR : @Ne Nat DP dR := Ne.symm (omP (dR, oR) (by k_mem))
    have hDQP : @Ne Nat DQ DP := Ne.symm (omQ (DP, LCg.lst ysP) (by k_mem))
    have hneQ3 : @Ne Nat DQ (s₁.heap.objs.size + 1 + 1 + 1) := Ne.symm (omQ (s₁.heap.objs.size + 1 + 1 + 1, o1) (by k_mem))
    have hneP3 : @Ne Nat DP (s₁.heap.objs.size + 1 + 1 + 1) := Ne.symm (omP (s₁.heap.objs.size + 1 + 1 + 1, o1) (by k_mem))
    have hneR3 : @Ne Nat dR (s₁.heap.objs.size + 1 + 1 + 1) := Nat.ne_of_gt lR.2.2.2.2.2.1
    have hneSt3 : @Ne Nat stA (s₁.heap.objs.size + 1 + 1 + 1) := by obtain ⟨_, a, _⟩ := l1B; exact Nat.ne_of_gt a
    have hneLs3 : @Ne Nat lsA (s₁.heap.objs.size + 1 + 1 + 1) := by obtain ⟨a, _⟩ := l1A; exact Nat.ne_of_gt a
    have hneC3 : ∀ p ∈ (s₁.heap.objs.size + 1, oC) :: nwW, p.1 ≠ s₁.heap.objs.size + 1 + 1 + 1 := by
      intro q hq
      rcases List.mem_cons.mp hq with rfl | hq
      · exact Nat.ne_of_lt (Nat.lt_succ_of_lt (Nat.lt_succ_self _))
      · exact (hdisW q hq).2.2.2.2.2.1
    k_steps
    refine kdn_made_str (by k_asm) (by k_asm) (UpdF.tail hDQR (UpdF.tail hDPR (UpdF.head ?nR))) hdR rfl (of_decide_eq_true (by rfl)) ?_
    case nR =>
      intro q hq
      obtain ⟨a1, a2, a3, a4, a5, a6, a7, _⟩ := lR
      simp only [List.mem_cons] at hq
      rcases hq with rfl | rfl | rfl | rfl | rfl | rfl | rfl | hq
      · exact Nat.ne_of_lt a1
      · exact Nat.ne_of_lt a2
      · exact Nat.ne_of_lt a3
      · exact Nat.ne_of_lt a4
      · exact Nat.ne_of_lt a5
      · exact Nat.ne_of_lt a6
      · exact Nat.ne_of_lt a7
      · exact (hdisW q hq).2.2.2.2.2.2.2
    intro hM oM FM NM hdM
    have hdM' : oM.IsDictOf (PySem.strKind PP w) [(pS, Value.ref DP), (qS, Value.ref DQ)] := hdM
    obtain ⟨esR, nnR, rfl⟩ := isDictOf_obj hdM'
    have hQdis : DQ ≠ 872 ∧ DQ ≠ 915 ∧ @Ne Nat DQ (s₁.heap.objs.size + 1 + 1) := ⟨Ne.symm (omQ (872, tabObj ps) (by k_mem)), Ne.symm (omQ (915, tabObj qs) (by k_mem)), Ne.symm (omQ (s₁.heap.objs.size + 1 + 1, oS) (by k_mem))⟩
    have hPdis : DP ≠ 872 ∧ DP ≠ 915 ∧ @Ne Nat DP (s₁.heap.objs.size + 1 + 1) := ⟨Ne.symm (omP (872, tabObj ps) (by k_mem)), Ne.symm (omP (915, tabObj qs) (by k_mem)), Ne.symm (omP (s₁.heap.objs.size + 1 + 1, oS) (by k_mem))⟩
    have inW : ∀ q ∈ nwD, q ∈ nwW := fun q hq => by rw [enwW, enwY]; exact List.mem_append_left _ (List.mem_append_left _ (inX q hq))
    have inWP : ∀ q ∈ ownP, q ∈ nwW := fun q hq => by rw [enwW, enwY]; exact List.mem_append_left _ (List.mem_append_right _ hq)
    have inWQ : ∀ q ∈ ownQ, q ∈ nwW := fun q hq => by rw [enwW]; exact List.mem_append_right _ hq
    have hlP3 : ysP.length ≤ 3 := by rw [hl2P]; exact hnP3
    have hlQ3 : ysQ.length ≤ 3 := by rw [hl2Q]; exact hnQ3
    try clear F1
    try clear N1
    try clear FR
    try clear NR
    try clear FR2
    try clear NR2
    try clear aR1
    try clear aR2
    try clear aR3
    try clear aR4
    try clear FP
    try clear NP
    try clear FQ
    try clear NQ
    try clear grP
    try clear grQ
    try clear hdM
    try clear hiB
    try clear hstX
    try clear hlsX
    try clear hstP
    try clear hlsP
    try clear hiP
    try clear klR
    try clear khR
    try clear hnP
    try clear hlenP
    try clear c0P
    try clear c1P
    try clear hof
    try clear hofP
    try clear hofQ
    try clear hGR
    try clear hGP
    try clear offP
    try clear offQ
    try clear omP
    try clear omQ
    try clear hDstP
    try clear hDstQ
    try clear c0Q
    try clear c1Q
    try clear hdR
    try clear enwY
    try clear ltP
    try clear ltQ
    try clear hnQ
    try clear hlenQ
    try clear hdisX
    try clear V1
    try clear hstQ
    try clear hlsQ
    try clear hiQ
    k_steps
    rename_i a1 oRw dRw a2 xW1 dW1 a3 lW1 lW1b xL dL a4 lL lLb b1 b2 b3 b4 b5 b6 b7 b8 b9 b10 b11 b12 b13 b14 b15 b16 xW2 dW2 b17 lW2 lW2b xRt dRt b18 lRt lRtb b19 b20 b21 b22 b23 b24 b25 b26 b27 b28 b29 b30 b31 Dlr b32 lZ2 b33 b34 b35 FZ2 NZ2
    refine ⟨?_⟩
    obtain ⟨mZ2, emZ2, FZ2'⟩ := nameFr FZ2
    obtain ⟨nL, tL1, tL2, wnL, zL1, zL2, zL3, zL4⟩ : ∃ n t1 t2 wn, News (ghostOf s₁.heap [(876, 872), (917, 915)]) s₁.heap.objs.size b35 [(xL, instObj 430 dL)] ∧ News (ghostOf s₁.heap [(876, 872), (917, 915)]) s₁.heap.objs.size b35 [(dL, dictOf [ent w "left" t1 (.ref xp), ent w "right" t2 (.ref xW1)] n)] ∧ News (ghostOf s₁.heap [(876, 872), (917, 915)]) s₁.heap.objs.size b35 [(xW1, instObj 717 dW1)] ∧ News (ghostOf s₁.heap [(876, 872), (917, 915)]) s₁.heap.objs.size b35 [(dW1, dictOf [] wn)] := ⟨_, _, _, _, news_one NZ2 (by k_mem), news_one NZ2 (by k_mem), news_one NZ2 (by k_mem), news_one NZ2 (by k_mem)⟩
    obtain ⟨nR, tR1, tR2, wnR, zR1, zR2, zR3, zR4⟩ : ∃ n t1 t2 wn, News (ghostOf s₁.heap [(876, 872), (917, 915)]) s₁.heap.objs.size b35 [(xRt, instObj 430 dRt)] ∧ News (ghostOf s₁.heap [(876, 872), (917, 915)]) s₁.heap.objs.size b35 [(dRt, dictOf [ent w "left" t1 (.ref xq), ent w "right" t2 (.ref xW2)] n)] ∧ News (ghostOf s₁.heap [(876, 872), (917, 915)]) s₁.heap.objs.size b35 [(xW2, instObj 717 dW2)] ∧ News (ghostOf s₁.heap [(876, 872), (917, 915)]) s₁.heap.objs.size b35 [(dW2, dictOf [] wn)] := ⟨_, _, _, _, news_one NZ2 (by k_mem), news_one NZ2 (by k_mem), news_one NZ2 (by k_mem), news_one NZ2 (by k_mem)⟩
    obtain ⟨nwN, enwN⟩ : ∃ x : List (Addr × Obj), x = [(dW1, dictOf [] wnL), (xW1, instObj 717 dW1), (dL, dictOf [ent w "left" tL1 (.ref xp), ent w "right" tL2 (.ref xW1)] nL), (xL, instObj 430 dL), (dW2, dictOf [] wnR), (xW2, instObj 717 dW2), (dRt, dictOf [ent w "left" tR1 (.ref xq), ent w "right" tR2 (.ref xW2)] nR), (xRt, instObj 430 dRt)] := ⟨_, rfl⟩
    have NN0 : News (ghostOf s₁.heap [(876, 872), (917, 915)]) s₁.heap.objs.size b35 nwN := by
      rw [enwN]
      exact news_app zL4 (news_app zL3 (news_app zL2 (news_app zL1 (news_app zR4 (news_app zR3 (news_app zR2 (zR1)))))))
    have e1 : @LT.lt Nat _ dW1 xW1 := lW1b
    have e2 : @LT.lt Nat _ dW1 dL := Nat.lt_trans e1 lL.1
    have e3 : @LT.lt Nat _ dW1 xL := Nat.lt_trans e2 lLb
    have e4 : @LT.lt Nat _ dW1 dW2 := Nat.lt_trans e3 lW2.1
    have e5 : @LT.lt Nat _ dW1 xW2 := Nat.lt_trans e4 lW2b
    have e6 : @LT.lt Nat _ dW1 dRt := Nat.lt_trans e5 lRt.1
    have e7 : @LT.lt Nat _ dW1 xRt := Nat.lt_trans e6 lRtb
    have hbigN : ∀ q ∈ nwN, @LE.le Nat _ dW1 q.1 := by
      intro q hq
      rw [enwN] at hq
      simp only [List.mem_cons, List.not_mem_nil, or_false] at hq
      rcases hq with rfl | rfl | rfl | rfl | rfl | rfl | rfl | rfl
      · exact Nat.le_refl _
      · exact Nat.le_of_lt e1
      · exact Nat.le_of_lt e2
      · exact Nat.le_of_lt e3
      · exact Nat.le_of_lt e4
      · exact Nat.le_of_lt e5
      · exact Nat.le_of_lt e6
      · exact Nat.le_of_lt e7
    obtain ⟨nwE, enwE⟩ : ∃ x : List (Addr × Obj), x = nwN ++ ((DQ, LCg.lst ysQ) :: (DP, LCg.lst ysP) :: (dR, dictObj esR nnR) :: (stA, stO lsA iQ tQ 0) :: (lsA, listObj wsA 0) :: (s₁.heap.objs.size + 1 + 1 + 1, oRw) :: (s₁.heap.objs.size + 1, oC) :: nwW) := ⟨_, rfl⟩
    have NW1 : News (ghostOf s₁.heap [(876, 872), (917, 915)]) s₁.heap.objs.size b35 nwW := news_sub NZ2 (by ktd_sub)
    have NE : News (ghostOf s₁.heap [(876, 872), (917, 915)]) s₁.heap.objs.size b35 ((872, tabObj ps) :: (915, tabObj qs) :: (s₁.heap.objs.size + 1 + 1, oS) :: nwE) := by
      rw [enwE]
      exact news_app (news_one NZ2 (by k_mem)) (news_app (news_one NZ2 (by k_mem)) (news_app (news_one NZ2 (by k_mem)) (news_app NN0 (news_app (news_one NZ2 (by k_mem)) (news_app (news_one NZ2 (by k_mem)) (news_app (news_one NZ2 (by k_mem)) (news_app (news_one NZ2 (by k_mem)) (news_app (news_one NZ2 (by k_mem)) (news_app (news_one NZ2 (by k_mem)) (news_app (news_one NZ2 (by k_mem)) (NW1)))))))))))
    have hdisE : ∀ q ∈ nwE, q.1 ≠ 872 ∧ q.1 ≠ 915 ∧ q.1 ≠ s₁.heap.objs.size + 1 + 1 := by
      have gt1 : ∀ {c : Nat}, c < s₁.heap.objs.size → @Ne Nat (s₁.heap.objs.size + 1) c := fun h => Nat.ne_of_gt (Nat.lt_succ_of_lt h)
      have gt3 : ∀ {c : Nat}, c < s₁.heap.objs.size → @Ne Nat (s₁.heap.objs.size + 1 + 1 + 1) c := fun h => Nat.ne_of_gt (Nat.lt_succ_of_lt (Nat.lt_succ_of_lt (Nat.lt_succ_of_lt h)))
      intro q hq
      rw [enwE] at hq
      rcases List.mem_append.mp hq with hq | hq
      · have hb := hbigN q hq
        have gt : ∀ {c : Nat}, c < dW1 → @Ne Nat q.1 c := fun h => Nat.ne_of_gt (Nat.lt_of_lt_of_le h hb)
        obtain ⟨_, _, _, a4, a5, a6, _⟩ := lW1
        exact ⟨gt a4, gt a5, gt a6⟩
      · obtain ⟨_, _, s3, _, s5, s6⟩ := l1B
        obtain ⟨_, s2, _, s4, s5'⟩ := l1A
        simp only [List.mem_cons] at hq
        rcases hq with rfl | rfl | rfl | rfl | rfl | rfl | rfl | hq
        · exact hQdis
        · exact hPdis
        · exact ⟨Nat.ne_of_gt lR.1, Nat.ne_of_gt lR.2.1, Nat.ne_of_gt lR.2.2.1⟩
        · exact ⟨Nat.ne_of_gt s5, Nat.ne_of_gt s6, Nat.ne_of_gt s3⟩
        · exact ⟨Nat.ne_of_gt s4, Nat.ne_of_gt s5', Nat.ne_of_gt s2⟩
        · exact ⟨gt3 lF.1, gt3 lF.2, Nat.succ_ne_self _⟩
        · exact ⟨gt1 lF.1, gt1 lF.2, Ne.symm (Nat.succ_ne_self _)⟩
        · exact ⟨(hdisW q hq).1, (hdisW q hq).2.1, (hdisW q hq).2.2.1⟩
    have inE : ∀ q ∈ nwN, q ∈ nwE := fun q hq => by rw [enwE]; exact List.mem_append_left _ hq
    have inE2 : ∀ q ∈ nwW, q ∈ nwE := fun q hq => by rw [enwE]; exact List.mem_append_right _ (.tail _ (.tail _ (.tail _ (.tail _ (.tail _ (.tail _ (.tail _ hq)))))))
    have mDQ : (DQ, LCg.lst ysQ) ∈ nwE := by rw [enwE]; exact List.mem_append_right _ (.head _)
    have mDP : (DP, LCg.lst ysP) ∈ nwE := by rw [enwE]; exact List.mem_append_right _ (.tail _ (.head _))
    have mDR : (dR, dictObj esR nnR) ∈ nwE := by rw [enwE]; exact List.mem_append_right _ (.tail _ (.tail _ (.head _)))
    have mRw : (s₁.heap.objs.size + 1 + 1 + 1, oRw) ∈ nwE := by rw [enwE]; exact List.mem_append_right _ (.tail _ (.tail _ (.tail _ (.tail _ (.tail _ (.head _))))))
    have hsgE := inE2 _ (inW _ hsg)
    have hTsE : ∀ (i : Nat) (v : Value), [Value.ref T1, .ref T2, .ref T3, .ref T4, .ref T5, .ref T6].toArray[i]? = some v → ∃ T sg t u n, v = .ref T ∧ (T, tupO sg t u n) ∈ nwE := fun i v hv =>
      let ⟨T, sg, t, u, n, h1, h2⟩ := hTs i v hv
      ⟨T, sg, t, u, n, h1, inE2 _ (inW _ h2)⟩
    have hChL : ChdAt w nwE xL pS := ⟨dL, nL, tL1, tL2, xp, xW1, dW1, wnL, inE _ (by rw [enwN]; k_mem), inE _ (by rw [enwN]; k_mem), hfp.mono fun q hq => inE2 _ (inW q hq), inE _ (by rw [enwN]; k_mem), inE _ (by rw [enwN]; k_mem)⟩
    have hChR : ChdAt w nwE xRt qS := ⟨dRt, nR, tR1, tR2, xq, xW2, dW2, wnR, inE _ (by rw [enwN]; k_mem), inE _ (by rw [enwN]; k_mem), hfq.mono fun q hq => inE2 _ (inW q hq), inE _ (by rw [enwN]; k_mem), inE _ (by rw [enwN]; k_mem)⟩
    have hdsPE : DsIn w nwE dsP ysP := hdsP.mono fun q hq => inE2 _ (inWP q hq)
    have hdsQE : DsIn w nwE dsQ ysQ := hdsQ.mono fun q hq => inE2 _ (inWQ q hq)
    have okP3 : ∀ d ∈ dsP, d.ok 3 := fun d hd => ok_up 2 (hokP d hd)
    have okQ3 : ∀ d ∈ dsQ, d.ok 3 := fun d hd => ok_up 2 (hokQ d hd)
    have hLP : DIn w nwE (.list dsP) (.ref DP) := by
      unfold DIn
      exact ⟨DP, ysP, _, rfl, mDP, by rw [← hdsPE.length]; exact hlP3, hdsPE⟩
    have hLQ : DIn w nwE (.list dsQ) (.ref DQ) := by
      unfold DIn
      exact ⟨DQ, ysQ, _, rfl, mDQ, by rw [← hdsQE.length]; exact hlQ3, hdsQE⟩
    have vP : valueAt [(pS, Value.ref DP), (qS, Value.ref DQ)] pS = some (.ref DP) := by rw [valueAt_cons, if_pos rfl]
    have vQ : valueAt [(pS, Value.ref DP), (qS, Value.ref DQ)] qS = some (.ref DQ) := by rw [valueAt_cons, if_neg pq_ne, valueAt_cons, if_pos rfl]
    have hPL : PthAt w nwE [(pS, Value.ref DP), (qS, Value.ref DQ)] xL ysP := .inr ⟨pS, DP, _, .list dsP, hChL, vP, mDP, hLP, hlP3⟩
    have hPR : PthAt w nwE [(pS, Value.ref DP), (qS, Value.ref DQ)] xRt ysQ := .inr ⟨qS, DQ, _, .list dsQ, hChR, vQ, mDQ, hLQ, hlQ3⟩
    have hsymR := ds_sym hdsPE hdsQE okP3 okQ3
    have hdM2 : (dictObj esR nnR).IsDictOf (PySem.strKind PP w) [(pS, Value.ref DP), (qS, Value.ref DQ)] := hdM'
    refine For_G (fl := 0) (ax := lsg) (its := [Value.ref T1, .ref T2, .ref T3, .ref T4, .ref T5, .ref T6].toArray) (kk := 0) (fun i m₁ news₁ => ∃ ps qs ownX oS ot ou od, news₁ = (872, tabObj ps) :: (915, tabObj qs) :: (s₁.heap.objs.size + 1 + 1, oS) :: (nwE ++ ownX) ∧ TriplesOk ps.toList ∧ TriplesOk qs.toList ∧ (∃ c, oS.data = .cell c) ∧ (∀ p ∈ ownX, ∀ q ∈ (872, tabObj #[]) :: (915, tabObj #[]) :: (s₁.heap.objs.size + 1 + 1, o2) :: nwE, p.1 ≠ q.1) ∧ m₁ = mLaw2 mZ2 ot ou od) rfl ?evalZ2 (by assumption) FZ2' NE ⟨ps, qs, [], oS, _, _, _, by rw [List.append_nil], hps, hqs, ⟨_, dS⟩, (fun _ h => nomatch h), (mLaw2_self mZ2).symm⟩ ?haxZ2 ?turnZ2 ?finZ2
    case evalZ2 =>
      subst emZ2
      k_steps
    case haxZ2 =>
      rintro i m₁ news₁ ⟨ps, qs, ownX, oS, ot, ou, od, rfl, _⟩
      exact .tail _ (.tail _ (.tail _ (List.mem_append_left _ hsgE)))
    case turnZ2 =>
      try clear NZ2
      try clear FZ2
      try clear FZ2'
      try clear NE
      try clear NN0
      try clear NW1
      try clear hbigN
      try clear zL1
      try clear zL2
      try clear zL3
      try clear zL4
      try clear zR1
      try clear zR2
      try clear zR3
      try clear zR4
      try clear e7
      try clear e6
      try clear e5
      try clear e4
      try clear e3
      try clear e2
      try clear e1
      try clear lZ2
      try clear lRtb
      try clear lRt
      try clear lW2b
      try clear lW2
      try clear lLb
      try clear lL
      try clear lW1b
      try clear lW1
      try clear lifted
      try clear hdM'
      try clear hdsP
      try clear hdsQ
      try clear hokP
      try clear hokQ
      try clear hTs
      try clear enwE
      try clear enwN
      try clear hfp
      try clear hfq
      try clear hChL
      try clear hChR
      try clear hQdis
      try clear hPdis
      try clear inW
      try clear inWP
      try clear inWQ
      try clear inX
      try clear hneC3
      try clear hneQ3
      try clear hneP3
      try clear hneSt3
      try clear hneLs3
      try clear hDQR
      try clear hDPR
      try clear hDQP
      try clear hdisW
      try clear hdisj
      rintro i v m₁ news₁ I oI h₁' tk₁' g₁ E' hv G1 F1 N1 offI LI ⟨ps1, qs1, ownX1, oS1, ot1, ou1, od1, rfl, hps1, hqs1, ⟨cS1, dS1⟩, hfr1, rfl⟩
      obtain ⟨T, sg, tt, uu, nT, rfl, hT⟩ := hTsE i v hv
      obtain ⟨nwT, enwT⟩ : ∃ x, x = nwE ++ ownX1 := ⟨_, rfl⟩
      have inT : ∀ q ∈ nwE, q ∈ nwT := fun q hq => by rw [enwT]; exact List.mem_append_left _ hq
      rw [← enwT] at N1 offI
      have NB : News (ghostOf s₁.heap [(876, 872), (917, 915)]) s₁.heap.objs.size h₁' ((872, tabObj ps1) :: (915, tabObj qs1) :: (I, oI) :: (s₁.heap.objs.size + 1 + 1, oS1) :: nwT) := by
        refine news_sub N1 ?_
        intro q hq
        simp only [List.mem_cons] at hq ⊢
        rcases hq with h | h | h | h | h <;> simp only [h, true_or, or_true]
      have hneI : @Ne Nat I (s₁.heap.objs.size + 1 + 1) := Ne.symm (offI (s₁.heap.objs.size + 1 + 1, oS1) (.tail _ (.tail _ (.head _))))
      have hTT := inT _ hT
      have mRwT := inT _ mRw
      have hdisT : ∀ q ∈ nwT, q.1 ≠ 872 ∧ q.1 ≠ 915 ∧ q.1 ≠ s₁.heap.objs.size + 1 + 1 := by
        intro q hq
        rw [enwT] at hq
        rcases List.mem_append.mp hq with hq | hq
        · exact hdisE q hq
        · exact ⟨hfr1 q hq (872, tabObj #[]) (.head _), hfr1 q hq (915, tabObj #[]) (.tail _ (.head _)), hfr1 q hq (s₁.heap.objs.size + 1 + 1, o2) (.tail _ (.tail _ (.head _)))⟩
      have hneC : ∀ p ∈ nwT, p.1 ≠ s₁.heap.objs.size + 1 + 1 := fun q hq => (hdisT q hq).2.2
      have h872I : I ≠ 872 ∧ I ≠ 915 := ⟨Ne.symm (offI (872, tabObj ps1) (.head _)), Ne.symm (offI (915, tabObj qs1) (.tail _ (.head _)))⟩
      have hoffT : ∀ q ∈ nwT, q.1 ≠ 872 ∧ q.1 ≠ 915 := fun q hq => ⟨(hdisT q hq).1, (hdisT q hq).2.1⟩
      have hoffZ : ∀ (oS' : Obj) (nwX : List (Addr × Obj)), (∀ q ∈ nwX, q.1 ≠ 872 ∧ q.1 ≠ 915) → ∀ q ∈ (I, oI) :: (s₁.heap.objs.size + 1 + 1, oS') :: nwX, q.1 ≠ 872 ∧ q.1 ≠ 915 := by
        intro oS' nwX hX q hq
        simp only [List.mem_cons] at hq
        rcases hq with rfl | rfl | hq
        · exact h872I
        · exact ⟨Nat.ne_of_gt (Nat.lt_succ_of_lt (Nat.lt_succ_of_lt lF.1)), Nat.ne_of_gt (Nat.lt_succ_of_lt (Nat.lt_succ_of_lt lF.2))⟩
        · exact hX q hq
      clear N1
      subst emZ2
      k_steps
      rename News _ _ _ _ => NA
      rename Fr _ _ _ _ => FA
      rename Obj.data _ = Data.cell (some (Value.str sg.str tt)) => dA
      rename Obj => oS2
      refine ⟨?_⟩
      refine use_call (law_holds w ((I, oI) :: (s₁.heap.objs.size + 1 + 1, oS2) :: nwT) ps1 qs1 xL xRt dR sg tt ysP ysQ dsP dsQ esR nnR [(pS, Value.ref DP), (qS, Value.ref DQ)] (.tail _ (.tail _ (inT _ mDR))) hdM2 loR
        (hPL.mono fun q hq => (.tail _ (.tail _ (inT _ hq)))) (hPR.mono fun q hq => (.tail _ (.tail _ (inT _ hq)))) hlP3 hlQ3 (hdsPE.mono fun q hq => (.tail _ (.tail _ (inT _ hq)))) (hdsQE.mono fun q hq => (.tail _ (.tail _ (inT _ hq)))) okP3 okQ3 hps1 hqs1 (hoffZ oS2 nwT hoffT)) BF FA XF NA TF rfl rfl (by k_room) (by k_units) G1 ?_
      rintro r2 nw2 h2 tk2 g2 ⟨own2, R2, c2', ps2, qs2, rfl, rfl, hp2, hq2, m2R, fr2⟩ hG2 F2 N2
      obtain ⟨W1, eW1⟩ : ∃ x, x = wantV sg dsP ysP dsQ (.ref dR) := ⟨_, rfl⟩
      rw [← eW1] at m2R
      obtain ⟨nwU, enwU⟩ : ∃ x, x = nwT ++ own2 := ⟨_, rfl⟩
      have inU : ∀ q ∈ nwT, q ∈ nwU := fun q hq => by rw [enwU]; exact List.mem_append_left _ hq
      have mRwU := inU _ mRwT
      have m2U : (R2, listObj W1 c2') ∈ nwU := by rw [enwU]; exact List.mem_append_right _ m2R
      simp only [List.cons_append, ← enwU] at N2
      have hoffU : ∀ q ∈ nwU, q.1 ≠ 872 ∧ q.1 ≠ 915 := by
        intro q hq
        rw [enwU] at hq
        rcases List.mem_append.mp hq with hq | hq
        · exact hoffT q hq
        · exact ⟨(fr2 q hq).1, (fr2 q hq).2.1⟩
      clear NA FA
      k_steps
      refine ⟨?_⟩
      refine eq_nil (by k_asm) (by k_mem) (.head _) (by k_units) rfl ?_
      k_steps
      rename News _ _ _ _ => NB2
      rename Fr _ _ _ _ => FB2
      refine ⟨?_⟩
      refine use_call (law_holds w ((I, oI) :: (s₁.heap.objs.size + 1 + 1, oS2) :: nwU) ps2 qs2 xRt xL dR sg.turn uu ysQ ysP dsQ dsP esR nnR [(pS, Value.ref DP), (qS, Value.ref DQ)] (.tail _ (.tail _ (inU _ (inT _ mDR)))) hdM2 loR
        (hPR.mono fun q hq => (.tail _ (.tail _ (inU _ (inT _ hq))))) (hPL.mono fun q hq => (.tail _ (.tail _ (inU _ (inT _ hq))))) hlQ3 hlP3 (hdsQE.mono fun q hq => (.tail _ (.tail _ (inU _ (inT _ hq))))) (hdsPE.mono fun q hq => (.tail _ (.tail _ (inU _ (inT _ hq))))) okQ3 okP3 hp2 hq2 (hoffZ oS2 nwU hoffU)) BF FB2 XF (news_sub NB2 (by ktd_sub)) TF rfl rfl (by k_room) (by k_units) hG2 ?_
      rintro r3 nw3 h3 tk3 g3 ⟨own3, R3, c3', ps3, qs3, rfl, rfl, hp3, hq3, m3R, fr3⟩ hG3 F3 N3
      obtain ⟨nwV, enwV⟩ : ∃ x, x = nwU ++ own3 := ⟨_, rfl⟩
      have inV : ∀ q ∈ nwU, q ∈ nwV := fun q hq => by rw [enwV]; exact List.mem_append_left _ hq
      have m3V : (R3, listObj (wantV sg.turn dsQ ysQ dsP (.ref dR)) c3') ∈ nwV := by rw [enwV]; exact List.mem_append_right _ m3R
      have m2V := inV _ m2U
      have hturn : (wantV sg.turn dsQ ysQ dsP (.ref dR)).isEmpty = W1.isEmpty := by
        rw [eW1]
        exact (want_turn hdsPE.length hdsQE.length hsymR).symm
      simp only [List.cons_append, ← enwV] at N3
      clear NB2 FB2
      k_steps
      refine ⟨?_⟩
      refine eq_nil (by k_asm) (by k_mem) (.head _) (by k_units) hturn ?_
      have inDV : ∀ q ∈ nwE, q ∈ nwV := fun q hq => inV _ (inU _ (inT _ hq))
      have mRwV := inDV _ mRw
      have mDRV := inDV _ mDR
      have mDPV := inDV _ mDP
      have mDQV := inDV _ mDQ
      have vP1 : valueAt [(pS, Value.ref DP), (qS, Value.ref DQ)] (Str.ofString "p") = some (.ref DP) := vP
      have vQ1 : valueAt [(pS, Value.ref DP), (qS, Value.ref DQ)] (Str.ofString "q") = some (.ref DQ) := vQ
      k_steps
      · rename (W1.isEmpty != W1.isEmpty) = true => ae
        exact absurd ae (by simp)
      refine ⟨DP, ysP.toArray, ysP.length, _, rfl, hG3, rfl, (by k_asm), (by k_asm), (by k_mem), fun hY => ?_⟩
      refine GRestP.turns (fun i oD nwx => nwx = _ ∧ oD = LCg.lst (pickV sg dsQ (dsP.take i) (ysP.take i))) ⟨rfl, by simp [pickV]⟩ ?hendD ?hstepD
      case hstepD =>
        rintro j hj oD nwx ⟨rfl, rfl⟩ pv C1 oC1 D2 m2 h4 tk4 g4 E4 Post4 ⟨I2, oI2, oK2, v2, rfl, dK2, hv2⟩ hC2 F4 N4 off4 ne4 hG4 hPost4
        have hv2' : ysP[j]? = some v2 := by simpa using hv2
        obtain ⟨dj, edj, hdj⟩ := hdsPE.get hv2'
        refine turnC (ys := pickV sg dsQ (dsP.take j) (ysP.take j)) ne4 ?hyD hPost4 ?_
        case hyD =>
          rw [sizeLine_eq]
          exact Nat.le_trans pickV_len (Nat.le_trans (by rw [List.length_take]; exact Nat.min_le_right _ _) (Nat.le_trans hlP3 (by decide)))
        simp only [List.cons_append, List.nil_append] at N4
        k_steps
        refine src_list hG4 rfl (by k_asm) (by k_asm) (by k_mem : (DQ, LCg.lst ysQ) ∈ _) ?_
        intro hq0
        refine GRest.turns (fun i oD nw' => ∃ ys', oD = LCg.lst ys' ∧ LSm.BoolsAre ys' ((dsQ.take i).map fun e => dueD sg dj e) ∧ ys'.length = i ∧ nw' = _) ⟨[], rfl, .nil, rfl, rfl⟩ ?hendB ?hstepB
        case hstepB =>
          rintro l hl oD nwx ⟨ys', rfl, hb, hyl, rfl⟩ v6 I6 oI6 C6 oC6 D6 m6 h6 tk6 g6 E6 Post6 e6 hC6 hx6 F6 N6 off6 ne6 hG6 hPost6
          have hv6 : ysQ[l]? = some v6 := by simpa using e6
          obtain ⟨el, eel, hel⟩ := hdsQE.get hv6
          refine turnL (ys := ys') ne6 (by rw [sizeLine_eq]; have : l < ysQ.length := by simpa using hl
                                           omega) hPost6 ?_
          k_steps
          refine ⟨?_⟩
          refine use_call (due_call w _ sg tt dj el v2 v6 (okP3 _ (List.mem_of_getElem? edj)) (okQ3 _ (List.mem_of_getElem? eel)) ((hdj.mono inDV).mono (by ktd_sub)) ((hel.mono inDV).mono (by ktd_sub))) BF F6 XF N6 TF rfl rfl (by k_room) (by k_units) hG6 ?_
          rintro r8 nw8 h8 tk8 g8 ⟨rfl, rfl⟩ hG8 F8 N8
          refine ⟨_, _, _, oC6, m6, _, rfl, hG8, hC6, F8, N8, off6, by k_mem, ys' ++ [_], rfl, ?_, by simp [hyl], rfl⟩
          rw [List.take_add_one, eel, List.map_append]
          exact boolsAre_snoc hb
        case hendB =>
          rintro oD nwx ⟨ys', rfl, hb, hyl, rfl⟩
          intro D7 h7 tk7 g7 hG7 F7 N7 off7 ltD7
          k_steps
          have hany : ((dsQ.take ysQ.toArray.size).map fun e => dueD sg dj e).any id = dsQ.any fun e => cmpD sg dj e := by
            rw [List.size_toArray, hdsQE.length, List.take_length, List.any_map]
            congr 1
            funext e
            exact (cmp_due sg dj e).symm
          refine LSm.any_bools F7 N7 rfl (isList_led N7 (.head _)) hb ?_
          intro h8 tk8 F8 N8
          rw [hany]
          have pS1 := pickV_succ (sg := sg) (ds1 := dsQ) edj hv2'
          k_steps
          · rename (List.any _ _) = true => aA
            refine ⟨_, _, _, oC1, m2, _, rfl, hG7, hC2, F8, news_sub N8 (fun q hq => .tail _ hq), off4, by k_mem, rfl, ?_⟩
            rw [pS1, aA]
            rfl
          · rename (List.any _ _) = false => aA
            refine ⟨_, _, _, oC1, m2, _, _, rfl, hG7, hC2, F8, news_sub N8 (fun q hq => .tail _ hq), off4, by k_mem, rfl, ?_⟩
            rw [pS1, aA]
            simp
      case hendD =>
        rintro oD nwx ⟨rfl, rfl⟩
        intro D7 h7 tk7 g7 hG7 F7 N7 off7 ltD7
        have eqV : nwV = nwE ++ (ownX1 ++ (own2 ++ own3)) := by rw [enwV, enwU, enwT, List.append_assoc, List.append_assoc]
        have offN : ∀ p ∈ (872, tabObj ps3) :: (915, tabObj qs3) :: (s₁.heap.objs.size + 1 + 1, oS2) :: (nwE ++ (ownX1 ++ (own2 ++ own3))), p.1 ≠ I := by
          intro p hp
          rw [← eqV, enwV, enwU] at hp
          simp only [List.mem_cons, List.mem_append] at hp
          have old : ∀ o', (p.1, o') ∈ (872, tabObj ps1) :: (915, tabObj qs1) :: (s₁.heap.objs.size + 1 + 1, oS1) :: nwT → p.1 ≠ I := fun o' h => offI (p.1, o') h
          rcases hp with rfl | rfl | rfl | (hp | hp) | hp
          · exact old _ (.head _)
          · exact old _ (.tail _ (.head _))
          · exact old _ (.tail _ (.tail _ (.head _)))
          · exact old p.2 (.tail _ (.tail _ (.tail _ hp)))
          · exact (fr2 p hp).2.2 (I, oI) (.head _)
          · exact (fr3 p hp).2.2 (I, oI) (.head _)
        have frN : ∀ p ∈ ownX1 ++ (own2 ++ own3), ∀ q ∈ (872, tabObj #[]) :: (915, tabObj #[]) :: (s₁.heap.objs.size + 1 + 1, o2) :: nwE, p.1 ≠ q.1 := by
          have lift : ∀ (p : Addr × Obj) (nwX : List (Addr × Obj)), (p.1 ≠ 872 ∧ p.1 ≠ 915 ∧ ∀ q ∈ (I, oI) :: (s₁.heap.objs.size + 1 + 1, oS2) :: nwX, p.1 ≠ q.1) → (∀ q ∈ nwE, q ∈ nwX) → ∀ q ∈ (872, tabObj #[]) :: (915, tabObj #[]) :: (s₁.heap.objs.size + 1 + 1, o2) :: nwE, p.1 ≠ q.1 := by
            intro p nwX h hs q hq
            rcases List.mem_cons.mp hq with rfl | hq
            · exact h.1
            · rcases List.mem_cons.mp hq with rfl | hq
              · exact h.2.1
              · rcases List.mem_cons.mp hq with rfl | hq
                · exact h.2.2 (s₁.heap.objs.size + 1 + 1, oS2) (.tail _ (.head _))
                · exact h.2.2 _ (.tail _ (.tail _ (hs q hq)))
          intro p hp
          rcases List.mem_append.mp hp with hp | hp
          · exact hfr1 p hp
          · rcases List.mem_append.mp hp with hp | hp
            · exact lift p nwT (fr2 p hp) inT
            · exact lift p nwU (fr3 p hp) fun q hq => inU q (inT q hq)
        k_steps
        refine ⟨?_⟩
        cases hPe : ysP.isEmpty with
        | true =>
          refine ne_nil (c := false) (by k_asm) (by k_mem : (DP, LCg.lst ysP) ∈ _) (.head _) (by k_units) (by rw [hPe]; rfl) ?_
          k_steps
          refine FStepG.nextG (by assumption) (by k_asm) (news_sub (by k_asm) ?_) offN ⟨ps3, qs3, ownX1 ++ (own2 ++ own3), oS2, some (.ref R2), some (.str sg.turn.str uu), some (.ref D7), rfl, hp3, hq3, ⟨_, dA⟩, frN, mLaw2_set _ _ _ _ _ _ _⟩
          intro q hq
          rw [← eqV] at hq
          simp only [List.mem_cons] at hq ⊢
          rcases hq with h | h | h | h <;> simp only [h, true_or, or_true]
        | false =>
          refine ne_nil (c := true) (by k_asm) (by k_mem : (DP, LCg.lst ysP) ∈ _) (.head _) (by k_units) (by rw [hPe]; rfl) ?_
          k_steps
          refine ⟨?_⟩
          cases hQe : ysQ.isEmpty with
          | true =>
            refine ne_nil (c := false) (by k_asm) (by k_mem : (DQ, LCg.lst ysQ) ∈ _) (.head _) (by k_units) (by rw [hQe]; rfl) ?_
            k_steps
            refine FStepG.nextG (by assumption) (by k_asm) (news_sub (by k_asm) ?_) offN ⟨ps3, qs3, ownX1 ++ (own2 ++ own3), oS2, some (.ref R2), some (.str sg.turn.str uu), some (.ref D7), rfl, hp3, hq3, ⟨_, dA⟩, frN, mLaw2_set _ _ _ _ _ _ _⟩
            intro q hq
            rw [← eqV] at hq
            simp only [List.mem_cons] at hq ⊢
            rcases hq with h | h | h | h <;> simp only [h, true_or, or_true]
          | false =>
            refine ne_nil (c := true) (by k_asm) (by k_mem : (DQ, LCg.lst ysQ) ∈ _) (.head _) (by k_units) (by rw [hQe]; rfl) ?_
            k_steps
            refine ⟨?_⟩
            have hwant : W1 = pickV sg dsQ (dsP.take ysP.toArray.size) (ysP.take ysP.toArray.size) := by
              have e1 : dsP.take ysP.toArray.size = dsP := by rw [List.size_toArray, hdsPE.length, List.take_length]
              have e2 : ysP.take ysP.toArray.size = ysP := by rw [List.size_toArray, List.take_length]
              have e3 : dsQ.isEmpty = false := by
                have hl := hdsQE.length
                cases dsQ with
                | nil => rw [List.eq_nil_of_length_eq_zero hl] at hQe; cases hQe
                | cons _ _ => rfl
              rw [e1, e2, eW1, wantV, hPe, e3]
              rfl
            refine ne_same (by k_asm) (by k_mem : (R2, listObj W1 c2') ∈ _) (by k_mem : (D7, LCg.lst (pickV sg dsQ (dsP.take ysP.toArray.size) (ysP.take ysP.toArray.size))) ∈ _) (by k_units) hwant ?_
            k_steps
            refine FStepG.nextG (by assumption) (by k_asm) (news_sub (by k_asm) ?_) offN ⟨ps3, qs3, ownX1 ++ (own2 ++ own3), oS2, some (.ref R2), some (.str sg.turn.str uu), some (.ref D7), rfl, hp3, hq3, ⟨_, dA⟩, frN, mLaw2_set _ _ _ _ _ _ _⟩
            intro q hq
            rw [← eqV] at hq
            simp only [List.mem_cons] at hq ⊢
            rcases hq with h | h | h | h <;> simp only [h, true_or, or_true]
    case finZ2 =>
      rintro m₁ news₁ h₁' tk₁' g₁ G1 F1 N1 ⟨ps1, qs1, ownX1, oS1, ot1, ou1, od1, rfl, hps1, hqs1, ⟨cS1, dS1⟩, hfr1, rfl⟩
      subst emZ2
      k_steps
      exact G1.1

end Mine

end

theorem PySem.Challenge.cw_eq0021_01_holds : PySem.Challenge.rw_eq0021_01.Holds := by
  exact Mine.tryw
