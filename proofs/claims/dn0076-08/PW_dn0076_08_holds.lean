import PyProof.Rows.All
import Wide.All
import OpenK.AllK
import Wide.FinOn
import Lean
import PySem.Challenge.RW_dn0076_08
open PySem PySem.W PyProof.Rows
set_option Elab.async false
set_option maxRecDepth 100000
namespace Mine
set_option rowWalk.seconds 0
abbrev StepF := SharedT → Thread → Option (SharedT × Thread)
noncomputable def topT (st : StepF) (ok : Thread → Bool) : Nat → SharedT → Thread → Option SharedT
  | 0, _, _ => none
  | n + 1, s, t => match through t with
    | true => some s
    | false => match ok t with
      | false => none
      | true => match st s t with
        | some (s', t') => topT st ok n s' t'
        | none => none
noncomputable def impT (st : StepF) : Nat → SharedT → Thread → Option SharedT
  | 0, _, _ => none
  | n + 1, s, t => match t.atExitBegin with
    | some [] => some s
    | some (_ :: _) => none
    | none => match st s t with
      | some (s', t') => impT st n s' t'
      | none => none
theorem topT_of {p : Program} {w : World} {n₀ : Nat} {ann : Option Value} : ∀ {n : Nat} {s s' : SharedT} {t : Thread}, topT (stepT (denote treeTable) p w) (stepOk n₀ ann) n s t = some s' → topRun treeTable p w n₀ ann n s.abs t = some s'.abs
  | 0, _, _, _, h => by cases h
  | n + 1, s, s', t, h => by
    unfold topT at h
    unfold topRun
    cases he : through t with
    | true => rw [he] at h; cases h; rfl
    | false =>
      rw [he] at h
      cases hk : stepOk n₀ ann t with
      | false => rw [hk] at h; cases h
      | true =>
        rw [hk] at h
        cases hs : stepT (denote treeTable) p w s t with
        | none => rw [hs] at h; cases h
        | some r => obtain ⟨s₂, t₂⟩ := r; rw [hs] at h; rw [stepT_spec hs]; exact topT_of h
theorem impT_of {p : Program} {w : World} : ∀ {n : Nat} {s s' : SharedT} {t : Thread}, impT (stepT (denote treeTable) p w) n s t = some s' → importEnds treeTable p w n s.abs t = some s'.abs
  | 0, _, _, _, h => by cases h
  | n + 1, s, s', t, h => by
    unfold impT at h
    unfold importEnds
    cases he : t.atExitBegin with
    | some l =>
      rw [he] at h
      cases l with
      | nil => cases h; rfl
      | cons => cases h
    | none =>
      rw [he] at h
      cases hs : stepT (denote treeTable) p w s t with
      | none => rw [hs] at h; cases h
      | some r => obtain ⟨s₂, t₂⟩ := r; rw [hs] at h; rw [stepT_spec hs]; exact impT_of h
noncomputable def fillT : List Obj → Nat → BT → Option BT
  | [], _, t => some t
  | o :: l, n, t => match ((t.ins n o).get n).isSome with
    | true => fillT l (n + 1) (t.ins n o)
    | false => none
theorem fillT_of {life : Life} : ∀ {l : List Obj} {n : Nat} {t t' : BT}, fillT l n t = some t' → ∀ a : Array Obj, a.size = n → absHeap t n life = ⟨a, life⟩ → absHeap t' (n + l.length) life = ⟨a ++ l.toArray, life⟩
  | [], n, t, t', h, a, _, e => by cases h; simpa using e
  | o :: l, n, t, t', h, a, ha, e => by
    unfold fillT at h
    cases hs : ((t.ins n o).get n).isSome with
    | false => rw [hs] at h; cases h
    | true =>
      rw [hs] at h
      have e2 : absHeap (t.ins n o) (n + 1) life = ⟨a.push o, life⟩ := by
        rw [absHeap_ins hs, e]
        show Heap.mk _ _ = _
        rfl
      have := fillT_of h (a.push o) (by simp [ha]) e2
      rw [List.length_cons, show n + (l.length + 1) = n + 1 + l.length by omega, this]
      simp
noncomputable def ofS (s : Shared) : Option SharedT := (fillT s.heap.objs.toList 0 .nil).map fun t => ⟨t, s.heap.objs.size, s.heap.life, s.gens, s.drawn, s.toks, s.os⟩
theorem ofS_abs {s : Shared} {t : SharedT} (h : ofS s = some t) : t.abs = s := by
  obtain ⟨x, hx, rfl⟩ := Option.map_eq_some_iff.mp h
  obtain ⟨⟨objs, life⟩, gens, drawn, toks, os⟩ := s
  have := fillT_of (life := life) hx #[] rfl (by rfl)
  show Shared.mk _ _ _ _ _ = _
  rw [Nat.zero_add] at this
  dsimp only at this ⊢
  rw [Array.length_toList] at this
  rw [this]
  simp
/-- the whole look: the opening (imp), the fence, the top, the looks -/
noncomputable def seenT {α : Type} (p q : Program) (loose : List Str) (Xt : Shared → Bool) (Yf : Shared → α) (imp : Option SharedT) (top : Nat → Option Value → SharedT → Option SharedT) :=
  imp.bind fun sI => (fenceModules? p sI.abs).bind fun s₀ => (ofS s₀).bind fun t₀ =>
  match s₀.heap.isNs mainGlobals && s₀.gens.size == 0 with
  | true => (top s₀.heap.objs.size (s₀.heap.nsMap mainGlobals "__annotations__") t₀).bind fun t₁ =>
      match staticsOk (importedModules p.main.body) s₀.heap t₁.abs.heap && namesBound p t₁.abs.heap && gensDone t₁.abs && laidKept s₀.heap t₁.abs.heap with
      | true => some (openSeen q loose (importedModules p.main.body) Xt true t₁.abs, Yf t₁.abs)
      | false => none
  | false => none
noncomputable def startT (p : Program) : SharedT := ⟨.nil, 0, {}, #[], {}, 1, (start p).1.os⟩
theorem left_tree {p q : Program} {loose : List Str} {Xt : Shared → Bool} {α : Type} {Yf : Shared → α} {Ya : World → α} {N : Nat}
    (h : ∀ w, seenT p q loose Xt Yf (impT (stepT (denote treeTable) (opening p) w) N (startT (opening p)) (start (opening p)).2)
      (fun n₀ ann s => topT (stepT (denote treeTable) p w) (stepOk n₀ ann) N s (topStub p)) = some (openGood q loose, Ya w)) : LeftO p q loose Xt Yf Ya N true := fun w => by
  have h := h w
  unfold seenT at h
  obtain ⟨sI, h1, h⟩ := Option.bind_eq_some_iff.mp h
  obtain ⟨s₀, h2, h⟩ := Option.bind_eq_some_iff.mp h
  obtain ⟨t₀, h3, h⟩ := Option.bind_eq_some_iff.mp h
  have e1 := impT_of h1
  have e3 := ofS_abs h3
  have e0 : (startT (opening p)).abs = (start (opening p)).1 := rfl
  unfold openEnds fencedOpening
  rw [← e0, e1]
  show ((fenceModules? p sI.abs).bind (topFrom treeTable p w N)).map _ = _
  rw [h2]
  show (topFrom treeTable p w N s₀).map _ = _
  unfold topFrom
  cases hg : (s₀.heap.isNs mainGlobals && s₀.gens.size == 0) with
  | false => rw [hg] at h; cases h
  | true =>
    rw [hg] at h
    dsimp only at h ⊢
    obtain ⟨t₁, h4, h⟩ := Option.bind_eq_some_iff.mp h
    have e4 := topT_of h4
    rw [e3] at e4
    rw [e4]
    show Option.map _ (match _ with | true => some t₁.abs | false => none) = _
    cases hs : (staticsOk (importedModules p.main.body) s₀.heap t₁.abs.heap && namesBound p t₁.abs.heap && gensDone t₁.abs && laidKept s₀.heap t₁.abs.heap) with
    | false => rw [hs] at h; cases h
    | true => rw [hs] at h; exact h

theorem den_tw : denote treeTable = Fast.tw11892475500146522536 Fast.tw14364793385576792824 := by rw [← Fast.te11892475500146522536, ← Fast.te14364793385576792824]
theorem step_tw : stepT = Fast.tw10156331382660048174 := Fast.te10156331382660048174
theorem ok_tw : stepOk = Fast.tw6613529449190102663 := Fast.te6613529449190102663
theorem ends_tw : Thread.atExitBegin = Fast.tw3805553451399329143 := Fast.te3805553451399329143
theorem start_tw : start = Fast.tw1435165496053646825 := Fast.te1435165496053646825
theorem fence_tw : fenceModules? = Fast.tw14289696077712309145 := Fast.te14289696077712309145
theorem seen_tw : openSeen = Fast.tw4187177175401517315 := Fast.te4187177175401517315
theorem mods_tw : importedModules = Fast.tw5923862056798008813 := Fast.te5923862056798008813
theorem map_tw : Heap.nsMap = Fast.tw8920871248978507458 := Fast.te8920871248978507458
noncomputable def impQ (ends : Thread → Option (List Value)) (st : StepF) : Nat → SharedT → Thread → Option SharedT
  | 0, _, _ => none
  | n + 1, s, t => match ends t with
    | some [] => some s
    | some (_ :: _) => none
    | none => match st s t with
      | some (s', t') => impQ ends st n s' t'
      | none => none
theorem impQ_eq (st : StepF) : ∀ (n : Nat) (s : SharedT) (t : Thread), impQ Thread.atExitBegin st n s t = impT st n s t
  | 0, _, _ => rfl
  | n + 1, s, t => by
    unfold impQ impT
    split <;> try rfl
    split
    · exact impQ_eq st n _ _
    · rfl
/-- the run up to the looks: the state ahead of the top, and the one behind it (over a tree) -/
noncomputable def runQ (p : Program) (w : World) (N : Nat) : Option (Shared × SharedT) :=
  (impQ Fast.tw3805553451399329143 (Fast.tw10156331382660048174 (Fast.tw11892475500146522536 Fast.tw14364793385576792824) (opening p) w) N (startT (opening p)) (Fast.tw1435165496053646825 (opening p)).2).bind fun sI => (Fast.tw14289696077712309145 p sI.abs).bind fun s₀ => (ofS s₀).bind fun t₀ =>
  match s₀.heap.isNs mainGlobals && s₀.gens.size == 0 with
  | true => (topT (Fast.tw10156331382660048174 (Fast.tw11892475500146522536 Fast.tw14364793385576792824) p w) (Fast.tw6613529449190102663 s₀.heap.objs.size (Fast.tw8920871248978507458 s₀.heap mainGlobals "__annotations__")) N t₀ (topStub p)).map fun t₁ => (s₀, t₁)
  | false => none
theorem two_looks {R α β : Type} {x : Option R} {f : R → α} {g : R → β} {a : α} {b : β} (h : x.map f = some a) (k : x.map g = some b) : x.map (fun r => (f r, g r)) = some (a, b) := by
  cases x with
  | none => cases h
  | some r => cases h; cases k; rfl
noncomputable def getT (t : SharedT) (a : Nat) : Option Obj := match Nat.blt a t.n with
  | true => alive ((t.tree.get a).getD default)
  | false => none
theorem getT_abs (t : SharedT) (a : Nat) : t.abs.heap.get? a = getT t a := by
  show (absHeap t.tree t.n t.life).get? a = _
  unfold Heap.get? getT
  rw [absHeap_at]
  cases h : Nat.blt a t.n with
  | true =>
    rw [if_pos (show a < t.n from Nat.le_of_ble_eq_true h)]
    generalize (t.tree.get a).getD default = o
    obtain ⟨c, d, dt, sl⟩ := o
    cases dt <;> rfl
  | false =>
    rw [if_neg fun q : a < t.n => by rw [show Nat.blt a t.n = true from Nat.ble_eq_true_of_le q] at h; cases h]
theorem left_quick {p q : Program} {loose : List Str} {Xt : Shared → Bool} {α : Type} {Yf : Shared → α} {Yt : SharedT → α} {Ya : World → α} {N : Nat} (hY : ∀ t, Yf t.abs = Yt t)
    (hA : ∀ w, (runQ p w N).map (fun r => (staticsOk (importedModules p.main.body) r.1.heap r.2.abs.heap && namesBound p r.2.abs.heap && gensDone r.2.abs && laidKept r.1.heap r.2.abs.heap, Fast.tw4187177175401517315 q loose (Fast.tw5923862056798008813 p.main.body) Xt true r.2.abs)) = some (true, openGood q loose))
    (hB : ∀ w, (runQ p w N).map (fun r => Yt r.2) = some (Ya w)) : LeftO p q loose Xt Yf Ya N true := left_tree fun w => by
  have h := two_looks (hA w) (hB w)
  unfold runQ at h
  rw [← ends_tw, impQ_eq, ← step_tw, ← den_tw, ← ok_tw, ← start_tw, ← fence_tw, ← seen_tw, ← mods_tw, ← map_tw] at h
  unfold seenT
  obtain ⟨r, h, e⟩ := Option.map_eq_some_iff.mp h
  obtain ⟨sI, h1, h⟩ := Option.bind_eq_some_iff.mp h
  obtain ⟨s₀, h2, h⟩ := Option.bind_eq_some_iff.mp h
  obtain ⟨t₀, h3, h⟩ := Option.bind_eq_some_iff.mp h
  rw [h1, Option.bind_some, h2, Option.bind_some, h3, Option.bind_some]
  cases hg : (s₀.heap.isNs mainGlobals && s₀.gens.size == 0) with
  | false => rw [hg] at h; cases h
  | true =>
    rw [hg] at h
    dsimp only at h ⊢
    obtain ⟨t₁, h4, rfl⟩ := Option.map_eq_some_iff.mp h
    rw [h4, Option.bind_some]
    have e1 : (staticsOk (importedModules p.main.body) s₀.heap t₁.abs.heap && namesBound p t₁.abs.heap && gensDone t₁.abs && laidKept s₀.heap t₁.abs.heap) = true := congrArg (fun x => x.1.1) e
    rw [e1, hY]
    exact congrArg some (congrArg (fun x => (x.1.2, x.2)) e)
set_option maxHeartbeats 80000000 in
theorem said : OpenLaw.wellSaid PySem.Challenge.rw_dn0076_08 = true := by
  rw [PySem.W.Fast.te9446332074065402090]
  delta PySem.W.Fast.tw9446332074065402090
  repeat' (with_reducible refine look_both ?_ ?_)
  delta PySem.W.Fast.tw17960256430627541270
  repeat' (with_reducible refine look_both ?_ ?_)
  delta PySem.W.Fast.tw2436336058641802641
  repeat' (with_reducible refine look_both ?_ ?_)
  delta PySem.W.Fast.tw12908688711261696721
  repeat' (with_reducible refine look_both ?_ ?_)
  all_goals decide +kernel
theorem holds_both {r : OpenRow} {q : Program} {loose : List Str} {Xt : Shared → Bool} {XP : (Str → Option Value) → Heap → Prop} {α : Type} {Yf : Shared → α} {Ya : World → α} {YP : World → Heap → Prop} {d : DefRec} {kwd : List (Str × Expr)} {N : Nat}
    (hY : ∀ w s, Yf s = Ya w → YP w s.heap) (hYk : ∀ w h h', YP w h → (∀ b o, h.get? b = some o → h'.get? b = some o) → YP w h')
    (hX : ∀ s, Xt s = true → XP (s.heap.nsMap mainGlobals) s.heap) (hXk : ∀ mg h h', XP mg h → (∀ b o, h.get? b = some o → h'.get? b = some o) → XP mg h')
    (hdef : defOf q r.name = some (d, kwd)) (hp : r.prog.theDef r.name = some (d.params, d.body, d.scope)) (hk : kwWritten? d.params.kwonlyargs d.params.kw_defaults = some kwd) (hRf : ∀ s, Xt s = true → RecFacts r.records s.heap) (hwr : (!r.writes || r.records.isEmpty) = true)
    (k1 : r.wellSaid = true) (ok : (chainsOk q && opensWell r.prog && (frees r.toRowW && r.within.isEmpty)) = true) (hb : r.prog.bare) (hw : r.toRowW.promised)
    (both : LeftO r.prog q loose Xt Yf Ya N ∧ WalkO q loose XP YP r.toRowW d kwd fun f vs => PySem.call f vs) : r.Holds :=
  holds_open both.1 hY hYk hX hXk hdef hp hk hRf hwr k1 ok hb hw both.2
section
local macro_rules
  | `(tactic| refine $_:ident (q := $q) (loose := $l) (Xt := $xt) (XP := $xp) (Yf := $yf) (Ya := $ya) (YP := $yp) (N := $n) $_:term $h1 $h2 $h3 $h4 $h5 $h6 $h7 $h8 $h9 $h10 $h11 $h12 $h13 $h14) =>
    `(tactic| refine' holds_both (q := $q) (loose := $l) (Xt := $xt) (XP := $xp) (Yf := $yf) (Ya := $ya) (YP := $yp) (N := $n) $h1 $h2 $h3 $h4 $h5 $h6 $h7 $h8 $h9 $h10 $h11 $h12 $h13 $h14)
local macro_rules | `(tactic| o_law) => `(tactic| refine holds_law said fun said => ?_)
set_option maxHeartbeats 8000000 in
open_top hd0 for PySem.Challenge.rw_dn0076_08
end
noncomputable def looseL : List Str := [Str.ofString "ascii_letters", Str.ofString "capwords", Str.ofString "_twin_re_1", Str.ofString "UnsupportedOperation", Str.ofString "IOBase", Str.ofString "BufferedIOBase", Str.ofString "TextIOBase", Str.ofString "BytesIO",
  Str.ofString "StringIO", Str.ofString "join_path", Str.ofString "shlex", Str.ofString "split", Str.ofString "join_shlex", Str.ofString "_find_unsafe"]
noncomputable def readL : List (Str × WData) := [(Str.ofString "ascii_letters", WData.str ⟨#[97, 98, 99, 100, 101, 102, 103, 104, 105, 106, 107, 108, 109, 110, 111, 112, 113, 114, 115, 116, 117, 118, 119, 120, 121, 122, 65, 66, 67, 68, 69, 70, 71, 72, 73, 74, 75, 76, 77, 78, 79, 80, 81, 82, 83, 84, 85, 86, 87, 88, 89, 90]⟩)]
noncomputable def objsL : List Addr := [2, 3, 38, 40, 41, 43, 44, 45, 46, 48, 49, 51, 52, 56, 57, 58, 60, 61, 63, 64, 65, 67, 68, 70, 71, 72, 79, 80, 81, 82, 92, 94, 95, 97, 98, 99, 100, 101, 102, 103, 104, 107, 114, 115, 116, 119, 126,
  127, 128, 131, 138, 139, 141, 142, 144, 145, 146, 148, 149, 151, 152, 153, 155, 156, 158, 159, 160, 162, 163, 165, 166, 167, 168, 170, 171, 173, 174, 175, 177, 178, 180, 181, 182, 184, 185, 187, 188,
  189, 191, 192, 194, 195, 196, 198, 199, 201, 202, 203, 205, 206, 208, 209, 210, 212, 213, 215, 216, 217, 219, 220, 222, 223, 224, 226, 227, 229, 230, 231, 233, 234, 236, 237, 238, 240, 241, 243, 244,
  245, 247, 248, 250, 251, 252, 254, 255, 257, 258, 259, 260, 262, 263, 265, 266, 267, 268, 270, 271, 273, 274, 275, 276, 278, 279, 281, 282, 283, 284, 286, 287, 289, 290, 291, 293, 294, 296, 297, 298,
  300, 301, 303, 304, 305, 306, 308, 309, 311, 312, 313, 314, 316, 317, 319, 320, 321, 323, 324, 326, 327, 328, 330, 331, 333, 334, 335, 337, 338, 340, 341, 342, 344, 345, 347, 348, 349, 351, 352, 354,
  355, 356, 357, 358, 361, 368, 369, 371, 372, 374, 375, 376, 378, 379, 381, 382, 383, 385, 386, 388, 389, 390, 392, 393, 395, 396, 397, 399, 400, 402, 403, 404, 406, 407, 409, 410, 411, 412, 414, 415,
  417, 418, 419, 420, 422, 423, 425, 426, 427, 428, 430, 431, 433, 434, 435, 436, 438, 439, 441, 442, 443, 444, 446, 447, 449, 450, 451, 453, 454, 456, 457, 458, 460, 461, 463, 464, 465, 467, 468, 470,
  471, 472, 474, 475, 477, 478, 479, 481, 482, 484, 485, 486, 488, 489, 491, 492, 493, 495, 496, 498, 499, 500, 502, 503, 505, 506, 507, 509, 510, 512, 513, 514, 516, 517, 519, 520, 521, 523, 524, 526,
  527, 528, 529, 531, 532, 534, 535, 536, 537, 539, 540, 542, 543, 544, 545, 547, 548, 550, 551, 552, 553, 555, 556, 558, 559, 560, 561, 563, 564, 566, 567, 568, 570, 571, 573, 574, 575, 577, 578, 580,
  581, 582, 584, 585, 587, 588, 589, 591, 592, 594, 595, 596, 598, 599, 601, 602, 603, 604, 605, 608, 610, 611, 613, 614, 615, 617, 618, 620, 621, 622, 624, 625, 627, 628, 629, 631, 632, 634, 635, 636,
  638, 639, 641, 642, 643, 645, 646, 648, 649, 657, 658, 660, 661, 663, 664, 665, 667, 668, 670, 671, 672, 673, 675, 676, 678, 679, 680, 681, 683, 684, 686, 687, 688, 690, 691, 693, 694, 695, 697, 698,
  700, 701, 702, 704, 705, 707, 708, 709, 711, 712, 714, 715, 716, 717, 719, 720, 722, 723, 724, 726, 727, 729, 730, 731, 733, 734, 736, 737, 738, 739, 740, 741, 742, 745, 746, 748, 749, 751, 752, 753,
  755, 756, 758, 759, 760, 761, 763, 764, 766, 767, 768, 770, 771, 773, 774, 775, 778, 779, 780, 783, 784]
theorem look_a : ∀ w, (runQ PySem.Challenge.pw_dn0076_08 w 10286).map (fun r => (staticsOk (importedModules PySem.Challenge.pw_dn0076_08.main.body) r.1.heap r.2.abs.heap && namesBound PySem.Challenge.pw_dn0076_08 r.2.abs.heap && gensDone r.2.abs && laidKept r.1.heap r.2.abs.heap,
    Fast.tw4187177175401517315 hd0.view_1 looseL (Fast.tw5923862056798008813 PySem.Challenge.pw_dn0076_08.main.body) (fun s => xlAt hd0.view_1 readL s && recOk PySem.Challenge.rw_dn0076_08.row.records s) true r.2.abs)) = some (true, openGood hd0.view_1 looseL) := fun w => by kernel_rfl
theorem look_b : ∀ w, (runQ PySem.Challenge.pw_dn0076_08 w 10286).map (fun r => objsL.map (getT r.2)) = some ((hd0.heap_1 w.params).map fun p => some p.2) := fun w => by kernel_rfl
theorem left_x : LeftO PySem.Challenge.pw_dn0076_08 hd0.view_1 looseL (fun s => xlAt hd0.view_1 readL s && recOk PySem.Challenge.rw_dn0076_08.row.records s) (α := List (Option Obj)) (fun s => objsL.map s.heap.get?) (fun w => (hd0.heap_1 w.params).map fun p => some p.2) 10286 := left_quick (fun t => List.map_congr_left fun a _ => getT_abs t a) look_a look_b
local macro_rules | `(tactic| k_all) => `(tactic| first | with_reducible assumption | assumption)
local macro_rules | `(tactic| k_room) => `(tactic| ((try simp only [depth_under_make, depth_under_kw, depth_in1, depth_deeper, depth_caller, units_in1, units_deeper, Around.mark_units]); (try dsimp only [ktrTop]); omega))
local macro_rules | `(tactic| walk_at "ite") => `(tactic| (k_closed; first | refine ite_pos (by decide +kernel) ?_ | refine ite_neg (by decide +kernel) ?_))
section
noncomputable abbrev ioD (H1 H2 H3 : Int) (k1 k2 k3 t1 t2 t3 : Tok) (buf : Str) (pos : Int) : Obj :=
  dictOf [⟨H1, .str (Str.ofString "_StringIO__newline") k1, .str (Str.ofString "\n") t1⟩, ⟨H2, .str (Str.ofString "_StringIO__buf") k2, .str buf t2⟩, ⟨H3, .str (Str.ofString "_StringIO__pos") k3, .int pos t3⟩] 3

theorem slice_nat (l : List Nat) (i j : Nat) (h1 : i ≤ j) (h2 : j ≤ l.length) : Txt.slice ⟨l.toArray⟩ (some (i : Int)) (some (j : Int)) = ⟨((l.drop i).take (j - i)).toArray⟩ := by
  have hl : (⟨l.toArray⟩ : Str).length = l.length := by
    show l.toArray.size = _
    simp
  have hs := StrLaws.sliced_plain (⟨l.toArray⟩ : Str) h1 (by rw [hl]; exact h2)
  have hp := StrLaws.strSliceIndices_plain (len := l.length) h1 h2
  unfold Txt.slice
  split
  · rename_i h
    rw [hl, hp] at h
    simp only [List.length_map, List.length_range, Bool.and_eq_true, beq_iff_eq] at h
    have h3 := h.2
    have : i = 0 := by omega
    subst this
    have : j = l.length := by omega
    subst this
    simp
  · rw [hs]
theorem slice_at (pre post : List Nat) (c : Nat) : Txt.slice ⟨(pre ++ c :: post).toArray⟩ (some (pre.length : Int)) (some ((pre.length : Int) + 1)) = ⟨#[c]⟩ := by
  have e : ((pre.length : Int) + 1) = ((pre.length + 1 : Nat) : Int) := by omega
  rw [e, slice_nat _ _ _ (by omega) (by simp)]
  congr 1
  simp
set_option maxHeartbeats 8000000 in
theorem read_c {w : World} {p : Program} {loose : List Str} {mean : ExcName → Option Value} {mg mb : Str → Option Value}
    (dp un : Nat) (gd : Option (List Code)) (cn : Str) (cs : Scope) (a : Addr) (ccd : Value) (cl : List (Str × Addr)) (outer : List Env) (A₀ : Around) (base h₀ : Heap) (L : Addr) (m : Str → Option Value) (s : Shared) (Q E : Value → Shared → Prop)
    (io iod : Addr) (rest : List (Addr × Obj)) (pre post : List Nat) (c : Nat) (H1 H2 H3 : Int) (k1 k2 k3 t1 t2 t3 t : Tok)
    (B : Below A₀ base outer h₀) (F : Fr h₀ L s.heap m) (X : (hd0.heap_1 w.params).In h₀)
    (T : Top p loose mean mg mb h₀) (hk : cs.kind = .function) (N : News h₀ L s.heap ((io, instObj 605 iod) :: (iod, ioD H1 H2 H3 k1 k2 k3 t1 t2 t3 ⟨(pre ++ c :: post).toArray⟩ pre.length) :: rest))
    (hne : ∀ q ∈ rest, q.1 ≠ iod) (hne2 : io ≠ iod) (hdp : dp + 5 < recursionLimit) (hun : un + 60 < cLine) (hb : (pre ++ c :: post).length ≤ 100000)
    (ret : ∀ (t : Tok) (h' : Heap) (tk' : Nat) t3', Fr h₀ L h' m → News h₀ L h' ((io, instObj 605 iod) :: (iod, ioD H1 H2 H3 k1 k2 k3 t1 t2 t3' ⟨(pre ++ c :: post).toArray⟩ ((pre.length : Int) + 1)) :: rest) → Q (.str ⟨#[c]⟩ t) { s with heap := h', toks := tk' }) :
    wpAny (model PySem.Challenge.rw_dn0076_08.row.prog w) (ktrTop dp un gd cn cs L a ccd cl outer) (call (.ref 551) [.ref io, .int 1 t]) Q E s := by
  w_on
  revert X; k_fill; intro X
  have hsz : ((⟨(pre ++ c :: post).toArray⟩ : Str).length : Int) = pre.length + 1 + post.length := by
    show (((pre ++ c :: post).toArray.size : Nat) : Int) = _
    simp only [List.size_toArray, List.length_append, List.length_cons]; omega
  have hsl := slice_at pre post c
  have ret' : ∀ (t : Tok) (h' : Heap) (tk' : Nat) t3' (q : Int), q = (pre.length : Int) + 1 → Fr h₀ L h' m → News h₀ L h' ((io, instObj 605 iod) :: (iod, ioD H1 H2 H3 k1 k2 k3 t1 t2 t3' ⟨(pre ++ c :: post).toArray⟩ q) :: rest) → Q (.str ⟨#[c]⟩ t) { s with heap := h', toks := tk' } := by
    intro t h' tk' t3' q e
    subst e
    exact ret t h' tk' t3'
  clear ret
  generalize (⟨(pre ++ c :: post).toArray⟩ : Str) = buf at *
  have hb2 : buf.length ≤ 100000 := by simp only [List.length_append, List.length_cons] at hb; omega
  refine wpAny_call ?_
  k_dflt (refine' code_def ?k1 ?k2 ?k3 ?k4 ?k5 ?kA ?kF ?kK ?k6 ?k7 ?k8 ?k9 ?kB ?_ ?c2 ?c3 ?c4 ?c5; (case kA => exact rfl); (case kF => exact rfl); (case kK => assumption); (case k1 => k_asm); (case k2 => k_asm); (case k3 => k_asm); (case k4 => k_asm); (case k5 => k_asm); (case k6 => k_is); (case k7 => k_is); (case k8 => k_room); (case k9 => first | exact BindsTo.of_eq rfl | exact binds_K (by k_in) rfl (by k_is) rfl rfl rfl); (case c5 => decide); (case kB => exact locs rfl); (case c2 => exact rfl); (case c3 => exact rfl); (case c4 => exact rfl))
  intro g' L' h' FG' F' N' B' X' T'
  (try dsimp only)
  (try k_fold)
  k_steps
  · rw [hsl]
    exact ret' _ _ _ _ _ rfl (by assumption) (by assumption)
  · have e : (buf.length : Int) = pre.length + 1 := by omega
    rw [show Txt.slice buf (some (pre.length : Int)) (some (buf.length : Int)) = ⟨#[c]⟩ by rw [e, hsl]]
    exact ret' _ _ _ _ _ e (by assumption) (by assumption)
set_option maxHeartbeats 8000000 in
theorem read_e {w : World} {p : Program} {loose : List Str} {mean : ExcName → Option Value} {mg mb : Str → Option Value}
    (dp un : Nat) (gd : Option (List Code)) (cn : Str) (cs : Scope) (a : Addr) (ccd : Value) (cl : List (Str × Addr)) (outer : List Env) (A₀ : Around) (base h₀ : Heap) (L : Addr) (m : Str → Option Value) (s : Shared) (Q E : Value → Shared → Prop)
    (io iod : Addr) (rest : List (Addr × Obj)) (buf : Str) (pos : Int) (H1 H2 H3 : Int) (k1 k2 k3 t1 t2 t3 t : Tok)
    (B : Below A₀ base outer h₀) (F : Fr h₀ L s.heap m) (X : (hd0.heap_1 w.params).In h₀)
    (T : Top p loose mean mg mb h₀) (hk : cs.kind = .function) (N : News h₀ L s.heap ((io, instObj 605 iod) :: (iod, ioD H1 H2 H3 k1 k2 k3 t1 t2 t3 buf pos) :: rest))
    (hne : ∀ q ∈ rest, q.1 ≠ iod) (hne2 : io ≠ iod) (hdp : dp + 5 < recursionLimit) (hun : un + 60 < cLine) (hb : buf.length ≤ 100000) (hp : pos = buf.length)
    (ret : ∀ (t : Tok) (h' : Heap) (tk' : Nat), Fr h₀ L h' m → News h₀ L h' ((io, instObj 605 iod) :: (iod, ioD H1 H2 H3 k1 k2 k3 t1 t2 t3 buf pos) :: rest) → Q (.str (Str.ofString "") t) { s with heap := h', toks := tk' }) :
    wpAny (model PySem.Challenge.rw_dn0076_08.row.prog w) (ktrTop dp un gd cn cs L a ccd cl outer) (call (.ref 551) [.ref io, .int 1 t]) Q E s := by
  w_on
  revert X; k_fill; intro X
  refine wpAny_call ?_
  k_dflt (refine' code_def ?k1 ?k2 ?k3 ?k4 ?k5 ?kA ?kF ?kK ?k6 ?k7 ?k8 ?k9 ?kB ?_ ?c2 ?c3 ?c4 ?c5; (case kA => exact rfl); (case kF => exact rfl); (case kK => assumption); (case k1 => k_asm); (case k2 => k_asm); (case k3 => k_asm); (case k4 => k_asm); (case k5 => k_asm); (case k6 => k_is); (case k7 => k_is); (case k8 => k_room); (case k9 => first | exact BindsTo.of_eq rfl | exact binds_K (by k_in) rfl (by k_is) rfl rfl rfl); (case c5 => decide); (case kB => exact locs rfl); (case c2 => exact rfl); (case c3 => exact rfl); (case c4 => exact rfl))
  intro g' L' h' FG' F' N' B' X' T'
  (try dsimp only)
  (try k_fold)
  k_steps
  all_goals exact ret _ _ _ (by assumption) (by assumption)

theorem str_is {x : Str} {l : List Nat} (h : x.cps.toList = l) : x = ⟨l.toArray⟩ := by
  obtain ⟨⟨a⟩⟩ := x
  simp only at h
  rw [h]
theorem read_c2 {w : World} {p : Program} {loose : List Str} {mean : ExcName → Option Value} {mg mb : Str → Option Value}
    (dp un : Nat) (gd : Option (List Code)) (cn : Str) (cs : Scope) (a : Addr) (ccd : Value) (cl : List (Str × Addr)) (outer : List Env) (A₀ : Around) (base h₀ : Heap) (L : Addr) (m : Str → Option Value) (s : Shared) (Q E : Value → Shared → Prop)
    (io iod : Addr) (rest : List (Addr × Obj)) (pre post : List Nat) (c : Nat) (buf : Str) (pos : Int) (H1 H2 H3 : Int) (k1 k2 k3 t1 t2 t3 t : Tok)
    (B : Below A₀ base outer h₀) (F : Fr h₀ L s.heap m) (X : (hd0.heap_1 w.params).In h₀)
    (T : Top p loose mean mg mb h₀) (hk : cs.kind = .function) (N : News h₀ L s.heap ((io, instObj 605 iod) :: (iod, ioD H1 H2 H3 k1 k2 k3 t1 t2 t3 buf pos) :: rest))
    (hbuf : buf.cps.toList = pre ++ c :: post) (hpos : pos = pre.length)
    (hne : ∀ q ∈ rest, q.1 ≠ iod) (hne2 : io ≠ iod) (hdp : dp + 5 < recursionLimit) (hun : un + 60 < cLine) (hb : buf.length ≤ 100000)
    (ret : ∀ (t : Tok) (h' : Heap) (tk' : Nat) t3', Fr h₀ L h' m → News h₀ L h' ((io, instObj 605 iod) :: (iod, ioD H1 H2 H3 k1 k2 k3 t1 t2 t3' buf (pos + 1)) :: rest) → Q (.str ⟨#[c]⟩ t) { s with heap := h', toks := tk' }) :
    wpAny (model PySem.Challenge.rw_dn0076_08.row.prog w) (ktrTop dp un gd cn cs L a ccd cl outer) (call (.ref 551) [.ref io, .int 1 t]) Q E s := by
  obtain rfl := str_is hbuf
  subst hpos
  exact read_c dp un gd cn cs a ccd cl outer A₀ base h₀ L m s Q E io iod rest pre post c H1 H2 H3 k1 k2 k3 t1 t2 t3 t B F X T hk N hne hne2 hdp hun (by simpa [Str.length] using hb) ret
def StopHere (P : Prop) : Prop := P
theorem stop_here {P : Prop} (h : StopHere P) : P := h

end
section
local macro_rules | `(tactic| walk_at "no step 0") => `(tactic| fail)
local macro_rules | `(tactic| walk_at "no step 1") => `(tactic| fail)
local macro_rules | `(tactic| walk_at "no step 2") => `(tactic| fail)
local macro_rules | `(tactic| walk_at "no step 3") => `(tactic| fail)
local macro_rules | `(tactic| walk_at "no step 4") => `(tactic| fail)
local macro_rules | `(tactic| walk_at "no step 5") => `(tactic| fail)
local macro_rules | `(tactic| walk_at "no step 6") => `(tactic| fail)
local macro_rules | `(tactic| walk_at "no step 7") => `(tactic| fail)
local macro_rules | `(tactic| walk_at "no step 8") => `(tactic| fail)
local macro_rules | `(tactic| walk_at "no step 9") => `(tactic| fail)
local macro_rules | `(tactic| walk_at "no step 10") => `(tactic| fail)
local macro_rules | `(tactic| walk_at "no step 11") => `(tactic| fail)
local macro_rules | `(tactic| walk_at "no step 12") => `(tactic| fail)
local macro_rules | `(tactic| walk_at "no step 13") => `(tactic| fail)
local macro_rules | `(tactic| walk_at "no step 14") => `(tactic| fail)
local macro_rules | `(tactic| walk_at "no step 15") => `(tactic| fail)
local macro_rules | `(tactic| walk_at "no step 16") => `(tactic| fail)
local macro_rules | `(tactic| walk_at "no step 17") => `(tactic| fail)
local macro_rules | `(tactic| walk_at "no step 18") => `(tactic| fail)
local macro_rules | `(tactic| walk_at "no step 19") => `(tactic| fail)
local macro_rules | `(tactic| walk_at "no step 20") => `(tactic| fail)
local macro_rules | `(tactic| walk_at "no step 21") => `(tactic| fail)
local macro_rules | `(tactic| walk_at "no step 22") => `(tactic| fail)
local macro_rules | `(tactic| walk_at "no step 23") => `(tactic| fail)
noncomputable def safeL : List Nat := "abcdefghijklmnopqrstuvwxyzABCDEFGHIJKLMNOPQRSTUVWXYZ0123456789_@%+=:,./-".toList.map Char.toNat
inductive Md where
  | sp | wd | sq | dq
noncomputable def lexT : Md → List Nat → List Nat → Option (List Nat × Option (List Nat))
  | .sp, _, [] => none
  | .sp, _, c :: r => if c = 39 then lexT .sq [] r else if safeL.contains c then lexT .wd [c] r else none
  | .wd, tok, [] => some (tok, none)
  | .wd, tok, c :: r => if c = 32 then some (tok, some r) else if c = 39 then lexT .sq tok r else if c = 34 then lexT .dq tok r else if safeL.contains c then lexT .wd (tok ++ [c]) r else none
  | .sq, _, [] => none
  | .sq, tok, c :: r => if c = 39 then lexT .wd tok r else if c = 10 then none else lexT .sq (tok ++ [c]) r
  | .dq, _, [] => none
  | .dq, tok, c :: r => if c = 34 then lexT .wd tok r else if c = 39 then lexT .dq (tok ++ [c]) r else none
theorem inF {x : Str} {c : Nat} (h : c ∉ x.cps.toList) : (!(Builtin.Str.occurrences x ⟨#[c]⟩ 0 x.length 1).isEmpty) = false := by
  rw [StrLaws.found_one]; exact decide_eq_false h
theorem inT {x : Str} {c : Nat} (h : c ∈ x.cps.toList) : (!(Builtin.Str.occurrences x ⟨#[c]⟩ 0 x.length 1).isEmpty) = true := by
  rw [StrLaws.found_one]; exact decide_eq_true h
theorem eqF {x : Str} {c : Nat} (h : x.cps.toList ≠ [c]) : ((⟨#[c]⟩ : Str) == x) = false := by
  cases e : ((⟨#[c]⟩ : Str) == x) with
  | false => rfl
  | true => exact absurd (by rw [← eq_of_beq e]) h
noncomputable abbrev wsS : Str := Str.ofString " \t\r\n"
noncomputable abbrev quS : Str := Str.ofString "'\""
noncomputable abbrev esS : Str := Str.ofString "\\"
noncomputable abbrev emS : Str := Str.ofString ""
noncomputable abbrev dqS : Str := Str.ofString "\""
noncomputable abbrev nlS : Str := Str.ofString "\n"
theorem safe_ws : ∀ c ∈ safeL, c ∉ (Str.ofString " \t\r\n").cps.toList := by decide +kernel
theorem safe_qu : ∀ c ∈ safeL, c ∉ (Str.ofString "'\"").cps.toList := by decide +kernel
theorem safe_es : ∀ c ∈ safeL, c ∉ (Str.ofString "\\").cps.toList := by decide +kernel
theorem safe_nl : ∀ c ∈ safeL, (Str.ofString "\n").cps.toList ≠ [c] := by decide +kernel
theorem any_em (c : Nat) : c ∉ (Str.ofString "").cps.toList := by
  rw [show (Str.ofString "").cps.toList = [] by decide +kernel]; exact List.not_mem_nil
theorem not_nl {c : Nat} (h : c ≠ 10) : (Str.ofString "\n").cps.toList ≠ [c] := by
  rw [show (Str.ofString "\n").cps.toList = [10] by decide +kernel]
  intro e
  exact h (List.cons.inj e).1.symm
noncomputable abbrev lexD (io pb fs : Addr) (wc : Str) (V : Nat → Tok) (H : Nat → Int) (K : Nat → Tok) (st tok : Value) : Obj :=
  dictOf [⟨H 0, .str (Str.ofString "instream") (K 0), .ref io⟩, ⟨H 1, .str (Str.ofString "infile") (K 1), .none⟩, ⟨H 2, .str (Str.ofString "posix") (K 2), .bool true⟩, ⟨H 3, .str (Str.ofString "eof") (K 3), .none⟩,
    ⟨H 4, .str (Str.ofString "commenters") (K 4), .str (Str.ofString "") (V 4)⟩, ⟨H 5, .str (Str.ofString "wordchars") (K 5), .str wc (V 5)⟩, ⟨H 6, .str (Str.ofString "whitespace") (K 6), .str (Str.ofString " \t\r\n") (V 6)⟩,
    ⟨H 7, .str (Str.ofString "whitespace_split") (K 7), .bool true⟩, ⟨H 8, .str (Str.ofString "quotes") (K 8), .str (Str.ofString "'\"") (V 8)⟩, ⟨H 9, .str (Str.ofString "escape") (K 9), .str (Str.ofString "\\") (V 9)⟩,
    ⟨H 10, .str (Str.ofString "escapedquotes") (K 10), .str (Str.ofString "\"") (V 10)⟩, ⟨H 11, .str (Str.ofString "state") (K 11), st⟩, ⟨H 12, .str (Str.ofString "pushback") (K 12), .ref pb⟩, ⟨H 13, .str (Str.ofString "lineno") (K 13), .int 1 (V 13)⟩,
    ⟨H 14, .str (Str.ofString "debug") (K 14), .int 0 (V 14)⟩, ⟨H 15, .str (Str.ofString "token") (K 15), tok⟩, ⟨H 16, .str (Str.ofString "filestack") (K 16), .ref fs⟩, ⟨H 17, .str (Str.ofString "source") (K 17), .none⟩,
    ⟨H 18, .str (Str.ofString "_punctuation_chars") (K 18), .str (Str.ofString "") (V 18)⟩] 19
noncomputable def stOf : Md → Str
  | .sp => Str.ofString " "
  | .wd => Str.ofString "a"
  | .sq => ⟨#[39]⟩
  | .dq => ⟨#[34]⟩
theorem kstB_is {m : Str → Option Value} {ps : List (Str × Value)} (h : ∀ p ∈ ps, m p.1 = some p.2) : kstB m ps = m := by
  funext z
  exact kstB_eq h fun _ => rfl

def JT (io iod lex ld pb fs : Addr) (rest : List (Addr × Obj)) (buf wc : Str) (V : Nat → Tok) (H : Nat → Int) (K : Nat → Tok) (H1 H2 H3 : Int) (k1 k2 k3 t1 t2 : Tok) (tok : List Nat) (r : Option (List Nat)) (n : Nat) (m : Str → Option Value) (nx : List (Addr × Obj)) : Prop :=
  ∃ (md : Md) (q : Bool) (tk pre post : List Nat) (tokS : Str) (ts tt t3 : Tok) (pos : Int),
    nx = (io, instObj 605 iod) :: (iod, ioD H1 H2 H3 k1 k2 k3 t1 t2 t3 buf pos) :: (lex, instObj 740 ld) :: (ld, lexD io pb fs wc V H K (.str (stOf md) ts) (.str tokS tt)) :: rest ∧
    (∀ p ∈ ([(Str.ofString "self", Value.ref lex), (Str.ofString "quoted", Value.bool q)] : List (Str × Value)), m p.1 = some p.2) ∧
    buf.cps.toList = pre ++ post ∧ pos = pre.length ∧ tokS.cps.toList = tk ∧ lexT md tk post = some (tok, r) ∧ (q = true ∨ tk ≠ [] ∨ md ≠ .wd) ∧ (tk = [] ∨ md ≠ .sp) ∧ tk.length ≤ pre.length ∧ n = post.length + 1
def StEnd (r : Option (List Nat)) (st : Value) : Prop := match r with
  | some _ => ∃ ts, st = .str (Str.ofString " ") ts
  | none => st = .none
def QT (io iod lex ld pb fs : Addr) (rest : List (Addr × Obj)) (buf wc : Str) (V : Nat → Tok) (H : Nat → Int) (K : Nat → Tok) (H1 H2 H3 : Int) (k1 k2 k3 t1 t2 : Tok) (tok : List Nat) (r : Option (List Nat)) (h₀ : Heap) (L : Addr) (s : Shared) (fl : Flow) (s₂ : Shared) : Prop :=
  fl = .next ∧ ∃ (h' : Heap) (tk' : Nat) (m' : Str → Option Value) (q : Bool) (pre : List Nat) (tokS : Str) (st : Value) (tt t3 : Tok) (pos : Int),
    s₂ = { s with heap := h', toks := tk' } ∧ Fr h₀ L h' m' ∧
    News h₀ L h' ((io, instObj 605 iod) :: (iod, ioD H1 H2 H3 k1 k2 k3 t1 t2 t3 buf pos) :: (lex, instObj 740 ld) :: (ld, lexD io pb fs wc V H K st (.str tokS tt)) :: rest) ∧
    (∀ p ∈ ([(Str.ofString "self", Value.ref lex), (Str.ofString "quoted", Value.bool q)] : List (Str × Value)), m' p.1 = some p.2) ∧
    buf.cps.toList = pre ++ r.getD [] ∧ pos = pre.length ∧ tokS.cps.toList = tok ∧ (q = true ∨ tok ≠ []) ∧ StEnd r st

section
variable {io iod lex ld pb fs : Addr} {rest : List (Addr × Obj)} {buf wc : Str} {V : Nat → Tok} {H : Nat → Int} {K : Nat → Tok} {H1 H2 H3 : Int} {k1 k2 k3 t1 t2 : Tok} {tok : List Nat} {r : Option (List Nat)} {h₀ : Heap} {L : Addr} {s s₀ : Shared}
theorem step_next (md : Md) (q : Bool) (tk pre post : List Nat) {Q : Flow → Shared → Prop} {n : Nat} {tokS : Str} {ts tt t3 : Tok} {pos : Int} {m₂ : Str → Option Value} {h' : Heap} {tk' : Nat}
    (F : Fr h₀ L h' m₂) (N : News h₀ L h' ((io, instObj 605 iod) :: (iod, ioD H1 H2 H3 k1 k2 k3 t1 t2 t3 buf pos) :: (lex, instObj 740 ld) :: (ld, lexD io pb fs wc V H K (.str (stOf md) ts) (.str tokS tt)) :: rest))
    (m1 : m₂ (Str.ofString "self") = some (Value.ref lex)) (m2 : m₂ (Str.ofString "quoted") = some (Value.bool q))
    (hbuf : buf.cps.toList = pre ++ post) (hpos : pos = pre.length) (htok : tokS.cps.toList = tk) (hlex : lexT md tk post = some (tok, r)) (hq : q = true ∨ tk ≠ [] ∨ md ≠ .wd) (hsp : tk = [] ∨ md ≠ .sp) (hle : tk.length ≤ pre.length) (hn : post.length + 1 < n) :
    WhileStep2 h₀ L s (JT io iod lex ld pb fs rest buf wc V H K H1 H2 H3 k1 k2 k3 t1 t2 tok r) Q n .next { s with heap := h', toks := tk' } :=
  ⟨_, _, _, _, _, rfl, F, N, hn, md, q, tk, pre, post, _, _, _, _, _, rfl, List.forall_mem_cons.mpr ⟨m1, List.forall_mem_cons.mpr ⟨m2, List.forall_mem_nil _⟩⟩, hbuf, hpos, htok, hlex, hq, hsp, hle, rfl⟩
theorem step_brk (q : Bool) (pre : List Nat) {J : Nat → (Str → Option Value) → List (Addr × Obj) → Prop} {n : Nat} {tokS : Str} {st : Value} {tt t3 : Tok} {pos : Int} {m₂ : Str → Option Value} {h' : Heap} {tk' : Nat}
    (F : Fr h₀ L h' m₂) (N : News h₀ L h' ((io, instObj 605 iod) :: (iod, ioD H1 H2 H3 k1 k2 k3 t1 t2 t3 buf pos) :: (lex, instObj 740 ld) :: (ld, lexD io pb fs wc V H K st (.str tokS tt)) :: rest))
    (m1 : m₂ (Str.ofString "self") = some (Value.ref lex)) (m2 : m₂ (Str.ofString "quoted") = some (Value.bool q))
    (hbuf : buf.cps.toList = pre ++ r.getD []) (hpos : pos = pre.length) (htok : tokS.cps.toList = tok) (hq : q = true ∨ tok ≠ []) (hs : StEnd r st) :
    WhileStep2 h₀ L s₀ J (QT io iod lex ld pb fs rest buf wc V H K H1 H2 H3 k1 k2 k3 t1 t2 tok r h₀ L s) n .brk { s with heap := h', toks := tk' } :=
  ⟨rfl, _, _, _, q, pre, _, _, _, _, _, rfl, F, N, List.forall_mem_cons.mpr ⟨m1, List.forall_mem_cons.mpr ⟨m2, List.forall_mem_nil _⟩⟩, hbuf, hpos, htok, hq, hs⟩
end
theorem cps_one {x : Str} {l : List Nat} (h : x.cps.toList = l) (c : Nat) : (x ++ ⟨#[c]⟩ : Str).cps.toList = l ++ [c] := by
  rw [Str.cps_append, Array.toList_append, h]
theorem pos_one {pos : Int} {pre : List Nat} (h : pos = pre.length) (c : Nat) : pos + 1 = ((pre ++ [c]).length : Int) := by
  rw [h, List.length_append]; simp
theorem buf_one {b pre rr : List Nat} {c : Nat} (h : b = pre ++ c :: rr) : b = (pre ++ [c]) ++ rr := by
  rw [h]; simp

theorem news_tail {h₀ h : Heap} {L : Addr} {x : Addr × Obj} {l : List (Addr × Obj)} (N : News h₀ L h (x :: l)) : News h₀ L h l := fun p hp => N p (.tail _ hp)
theorem stEnd_some (l : List Nat) (ts : Tok) : StEnd (some l) (.str (Str.ofString " ") ts) := ⟨ts, rfl⟩
theorem le_same {tk pre : List Nat} (h : tk.length ≤ pre.length) (c : Nat) : tk.length ≤ (pre ++ [c]).length := by simp; omega
theorem le_one {tk pre : List Nat} (h : tk.length ≤ pre.length) (c d : Nat) : (tk ++ [d]).length ≤ (pre ++ [c]).length := by simp; omega
theorem truthy_one {prog : Program} {w : World} {A : Around} {E : Value → Shared → Prop} {s : Shared} {t : Tok} {Q : Bool → Shared → Prop} {c : Nat} (h : ∀ k, Q true { s with toks := k }) : wpAny (model prog w) A (PySem.truthy (.str ⟨#[c]⟩ t)) Q E s :=
  KXt.truthy_pos (K := 1) (Nat.le_refl 1) (Nat.le_refl 1) (by decide) h
theorem truthy_some {prog : Program} {w : World} {A : Around} {E : Value → Shared → Prop} {s : Shared} {t : Tok} {Q : Bool → Shared → Prop} {x : Str} (h0 : 0 < x.length) (h1 : x.length ≤ 100000) (h : ∀ k, Q true { s with toks := k }) : wpAny (model prog w) A (PySem.truthy (.str x t)) Q E s :=
  KXt.truthy_pos (K := 100000) h0 h1 (by decide) h

end
section
local macro_rules | `(tactic| walk_at "truthy str") => `(tactic| (refine truthy_some (by assumption) (by assumption) ?_; intro _))
local macro_rules | `(tactic| walk_at "truthy str") => `(tactic| (refine truthy_one ?_; intro _))
local macro_rules | `(tactic| walk_at "exec While") => `(tactic| refine stop_here ?_)
local macro_rules | `(tactic| walk_at "call ref") => `(tactic| (k_here; (with_reducible show wpAny _ _ (PySem.call (Value.ref 551) _ _) _ _ _); k_dflt (first
  | (refine' read_c2 _ _ _ _ _ _ _ _ _ _ _ _ _ _ _ _ _ _ _ _ _ _ _ _ _ _ _ _ _ _ _ _ _ _ _ ?rB ?rF ?rX ?rT ?rk ?rN ?rb1 ?rb2 ?rn ?rm ?rd ?ru ?rl ?_; (case rB => k_asm); (case rF => k_asm); (case rX => k_asm); (case rT => k_asm); (case rk => first | rfl | assumption); (case rN => k_asm); (case rb1 => assumption); (case rb2 => assumption); (case rn => k_all); (case rm => assumption); (case rd => k_room); (case ru => k_room); (case rl => assumption))
  | (refine' read_e _ _ _ _ _ _ _ _ _ _ _ _ _ _ _ _ _ _ _ _ _ _ _ _ _ _ _ _ _ _ _ _ ?rB ?rF ?rX ?rT ?rk ?rN ?rn ?rm ?rd ?ru ?rl ?rp ?_; (case rB => k_asm); (case rF => k_asm); (case rX => k_asm); (case rT => k_asm); (case rk => first | rfl | assumption); (case rN => k_asm); (case rn => k_all); (case rm => assumption); (case rd => k_room); (case ru => k_room); (case rl => assumption); (case rp => assumption))); (try intro t9 h9 tk9 t39 F9 N9); (try intro t9 h9 tk9 F9 N9); (try dsimp only); (try k_fold)))
theorem post_gen {α : Type} {M : Model} {A : Around} {x : Sem α} {Q : α → Shared → Prop} {E : Value → Shared → Prop} {s : Shared} (h : ∀ Q' : α → Shared → Prop, (∀ f s', Q f s' → Q' f s') → wpAny M A x Q' E s) : wpAny M A x Q E s := h Q fun _ _ z => z
theorem post_back {α : Type} {Q Q' : α → Shared → Prop} {f : α} {s : Shared} (h : ∀ f s', Q f s' → Q' f s') (g : Q f s) : Q' f s := h f s g
theorem turn_gen {M : Model} {A : Around} {x : Sem Bool} {R Q : Flow → Shared → Prop} {b : List Stmt} {env : Env} {E : Value → Shared → Prop} {s : Shared}
    (h : ∀ R' : Flow → Shared → Prop, (∀ f s', R f s' → R' f s') → wpAny M A x (fun c s₂ => if c = true then wpAny M A (execs b env) R' E s₂ else Q .next s₂) E s) :
    wpAny M A x (fun c s₂ => if c = true then wpAny M A (execs b env) R E s₂ else Q .next s₂) E s := h R fun _ _ z => z
local macro_rules | `(tactic| walk_at "exec If") => `(tactic| (k_here; refine post_gen fun Qg hQg => ?_; refine wpAny_If ?_))
set_option maxHeartbeats 8000000 in
theorem read_token_c {w : World} {p : Program} {loose : List Str} {mean : ExcName → Option Value} {mg mb : Str → Option Value}
    (dp un : Nat) (gd : Option (List Code)) (cn : Str) (cs : Scope) (a : Addr) (ccd : Value) (cl : List (Str × Addr)) (outer : List Env) (A₀ : Around) (base h₀ : Heap) (L : Addr) (m : Str → Option Value) (s : Shared) (Q E : Value → Shared → Prop)
    (lex ld io iod pb fs : Addr) (rest : List (Addr × Obj)) (pre post : List Nat) (buf wc : Str) (V : Nat → Tok) (H : Nat → Int) (K : Nat → Tok) (H1 H2 H3 : Int) (k1 k2 k3 t1 t2 t3 ts tt : Tok) (pos : Int) (tok : List Nat) (r : Option (List Nat))
    (B : Below A₀ base outer h₀) (F : Fr h₀ L s.heap m) (X : (hd0.heap_1 w.params).In h₀)
    (T : Top p loose mean mg mb h₀) (hk : cs.kind = .function) (N : News h₀ L s.heap ((io, instObj 605 iod) :: (iod, ioD H1 H2 H3 k1 k2 k3 t1 t2 t3 buf pos) :: (lex, instObj 740 ld) :: (ld, lexD io pb fs wc V H K (.str (Str.ofString " ") ts) (.str (Str.ofString "") tt)) :: rest))
    (hne1 : ∀ q ∈ rest, q.1 ≠ iod) (hne2 : ∀ q ∈ rest, q.1 ≠ ld) (d1 : io ≠ iod) (d2 : io ≠ ld) (d3 : lex ≠ ld) (d4 : lex ≠ iod) (d5 : iod ≠ ld) (d6 : ld ≠ iod) (hdp : dp + 9 < recursionLimit) (hun : un + 100 < cLine) (hb : buf.length ≤ 100000)
    (hbuf : buf.cps.toList = pre ++ post) (hpos : pos = pre.length) (hw1 : (!(Builtin.Str.occurrences wc (Str.ofString "'") 0 wc.length 1).isEmpty) = false)
    (hx : lexT .sp [] post = some (tok, r))
    (ret : ∀ (t : Tok) (h' : Heap) (tk' : Nat) (tokS : Str) (st : Value) (tt t3 : Tok) (pre' : List Nat) (pos' : Int), Fr h₀ L h' m →
      News h₀ L h' ((io, instObj 605 iod) :: (iod, ioD H1 H2 H3 k1 k2 k3 t1 t2 t3 buf pos') :: (lex, instObj 740 ld) :: (ld, lexD io pb fs wc V H K st (.str (Str.ofString "") tt)) :: rest) →
      tokS.cps.toList = tok → StEnd r st → buf.cps.toList = pre' ++ r.getD [] → pos' = pre'.length → Q (.str tokS t) { s with heap := h', toks := tk' }) :
    wpAny (model PySem.Challenge.rw_dn0076_08.row.prog w) (ktrTop dp un gd cn cs L a ccd cl outer) (call (.ref 708) [.ref lex]) Q E s := by
  w_on
  revert X; k_fill; intro X
  refine wpAny_call ?_
  k_dflt (refine' code_def ?k1 ?k2 ?k3 ?k4 ?k5 ?kA ?kF ?kK ?k6 ?k7 ?k8 ?k9 ?kB ?_ ?c2 ?c3 ?c4 ?c5; (case kA => exact rfl); (case kF => exact rfl); (case kK => assumption); (case k1 => k_asm); (case k2 => k_asm); (case k3 => k_asm); (case k4 => k_asm); (case k5 => k_asm); (case k6 => k_is); (case k7 => k_is); (case k8 => k_room); (case k9 => first | exact BindsTo.of_eq rfl | exact binds_K (by k_in) rfl (by k_is) rfl rfl rfl); (case c5 => decide); (case kB => exact locs rfl); (case c2 => exact rfl); (case c3 => exact rfl); (case c4 => exact rfl))
  intro g' L' h' FG' F' N' B' X' T'
  (try dsimp only)
  (try k_fold)
  k_steps
  unfold StopHere
  (rename Fr _ _ _ _ => FL)
  (rename News _ _ _ _ => NL)
  refine wpAny_mono (Q := QT io iod lex ld pb fs rest buf wc V H K H1 H2 H3 k1 k2 k3 t1 t2 tok r g' L' s) ?hw ?ha (fun _ _ z => z)
  case hw =>
    refine While_inv2 (JT io iod lex ld pb fs rest buf wc V H K H1 H2 H3 k1 k2 k3 t1 t2 tok r) (n₀ := post.length + 1) FL NL ?j0 ?turn
    case j0 =>
      refine' ⟨.sp, false, [], pre, post, _, _, _, _, _, rfl, ?j1, hbuf, hpos, ?j2, hx, .inr (.inr (by intro h; cases h)), .inl rfl, Nat.zero_le _, rfl⟩
      case j1 => exact List.forall_mem_cons.mpr ⟨rfl, List.forall_mem_cons.mpr ⟨rfl, List.forall_mem_nil _⟩⟩
      case j2 => decide +kernel
    case turn =>
      rintro n m₁ nx h₁ tk₁ F₁ N₁ ⟨md, q, tkL, pre₁, post₁, tokS, ts₁, tt₁, t3₁, pos₁, rfl, hm, hbuf₁, hpos₁, htok, hlex, hq, hsp, hle, rfl⟩
      rw [← kstB_is hm] at F₁
      refine turn_gen fun Rg hRg => ?_
      have htl : tokS.length ≤ 100000 := by
        have e1 : tokS.length = tkL.length := by rw [← htok]; simp [Str.length]
        have e2 : buf.length = pre₁.length + post₁.length := by rw [show buf.length = buf.cps.toList.length by simp [Str.length], hbuf₁, List.length_append]
        omega
      clear hm FL NL hbuf hpos hx F N
      cases md with
      | sp =>
        obtain rfl := hsp.resolve_right (fun h => h rfl)
        cases post₁ with
        | nil => simp only [lexT] at hlex; cases hlex
        | cons c rr =>
          by_cases hc : c = 39
          · subst hc
            simp only [lexT, if_true] at hlex
            dsimp only [stOf] at N₁
            k_steps
            all_goals repeat' ((first | (with_reducible refine' post_back (by with_reducible assumption) ?_) | fail); (try k_steps))
            all_goals exact step_next .sq q [] (pre₁ ++ [39]) rr (by assumption) (by first | assumption | exact news_tail (by assumption)) rfl rfl (buf_one hbuf₁) (pos_one hpos₁ _) htok hlex (.inr (.inr (fun h => by cases h))) (.inl rfl) (le_same hle _) (by simp)
          · simp only [lexT, if_neg hc] at hlex
            by_cases hs : safeL.contains c = true
            · rw [if_pos hs] at hlex
              have hs' := List.contains_iff_mem.mp hs
              have f1 := eqF (safe_nl c hs')
              have f2 := inF (safe_ws c hs')
              have f3 := inF (safe_qu c hs')
              have f4 := inF (safe_es c hs')
              have f5 := inF (any_em c)
              dsimp only [stOf] at N₁
              k_steps
              all_goals repeat' ((first | (with_reducible refine' post_back (by with_reducible assumption) ?_) | fail); (try k_steps))
              all_goals exact step_next .wd q [c] (pre₁ ++ [c]) rr (by assumption) (by first | assumption | exact news_tail (by assumption)) rfl rfl (buf_one hbuf₁) (pos_one hpos₁ _) rfl hlex (.inr (.inl (fun h => by cases h))) (.inr (fun h => by cases h)) (by simp) (by simp)
            · rw [if_neg hs] at hlex; cases hlex
      | wd =>
        dsimp only [stOf] at N₁
        cases post₁ with
        | nil =>
          simp only [lexT, Option.some.injEq, Prod.mk.injEq] at hlex
          obtain ⟨e1, rfl⟩ := hlex
          have hbe : pos₁ = buf.length := by rw [hpos₁, show buf.length = buf.cps.toList.length by simp [Str.length], hbuf₁]; simp
          have hq1 : q = true ∨ tok ≠ [] := by rw [← e1]; exact hq.imp_right (fun h => h.resolve_right (fun h => h rfl))
          k_steps
          all_goals repeat' ((first | (with_reducible refine' post_back (by with_reducible assumption) ?_) | fail); (try k_steps))
          all_goals exact step_brk q pre₁ (by assumption) (by first | assumption | exact news_tail (by assumption)) rfl rfl (by simpa using hbuf₁) hpos₁ (htok.trans e1) hq1 rfl
        | cons c rr =>
          have f5 := inF (any_em c)
          by_cases h1 : c = 32
          · subst h1
            simp only [lexT, if_true, Option.some.injEq, Prod.mk.injEq] at hlex
            obtain ⟨e1, rfl⟩ := hlex
            have hq1 : q = true ∨ tok ≠ [] := by rw [← e1]; exact hq.imp_right (fun h => h.resolve_right (fun h => h rfl))
            cases q with
            | true =>
              k_steps
              all_goals repeat' ((first | (with_reducible refine' post_back (by with_reducible assumption) ?_) | fail); (try k_steps))
              all_goals exact step_brk true (pre₁ ++ [32]) (by assumption) (by first | assumption | exact news_tail (by assumption)) rfl rfl (buf_one hbuf₁) (pos_one hpos₁ _) (htok.trans e1) (.inl rfl) (stEnd_some _ _)
            | false =>
              have htp : 0 < tokS.length := by
                have h2 := hq1.resolve_left (fun h => by cases h)
                rw [show tokS.length = tokS.cps.toList.length by simp [Str.length], htok, e1]
                exact List.length_pos_iff.mpr h2
              k_steps
              all_goals repeat' ((first | (with_reducible refine' post_back (by with_reducible assumption) ?_) | fail); (try k_steps))
              all_goals exact step_brk false (pre₁ ++ [32]) (by assumption) (by first | assumption | exact news_tail (by assumption)) rfl rfl (buf_one hbuf₁) (pos_one hpos₁ _) (htok.trans e1) hq1 (stEnd_some _ _)
          by_cases h2 : c = 39
          · subst h2
            simp only [lexT, if_neg h1, if_true] at hlex
            k_steps
            all_goals repeat' ((first | (with_reducible refine' post_back (by with_reducible assumption) ?_) | fail); (try k_steps))
            all_goals exact step_next .sq q tkL (pre₁ ++ [39]) rr (by assumption) (by first | assumption | exact news_tail (by assumption)) rfl rfl (buf_one hbuf₁) (pos_one hpos₁ _) htok hlex (.inr (.inr (fun h => by cases h))) (.inr (fun h => by cases h)) (le_same hle _) (by simp)
          by_cases h3 : c = 34
          · subst h3
            simp only [lexT, if_neg h1, if_neg h2, if_true] at hlex
            k_steps
            all_goals repeat' ((first | (with_reducible refine' post_back (by with_reducible assumption) ?_) | fail); (try k_steps))
            all_goals exact step_next .dq q tkL (pre₁ ++ [34]) rr (by assumption) (by first | assumption | exact news_tail (by assumption)) rfl rfl (buf_one hbuf₁) (pos_one hpos₁ _) htok hlex (.inr (.inr (fun h => by cases h))) (.inr (fun h => by cases h)) (le_same hle _) (by simp)
          simp only [lexT, if_neg h1, if_neg h2, if_neg h3] at hlex
          by_cases hs : safeL.contains c = true
          · rw [if_pos hs] at hlex
            have hs' := List.contains_iff_mem.mp hs
            have f1 := eqF (safe_nl c hs')
            have f2 := inF (safe_ws c hs')
            have f3 := inF (safe_qu c hs')
            have f4 := inF (safe_es c hs')
            k_steps
            all_goals repeat' ((first | (with_reducible refine' post_back (by with_reducible assumption) ?_) | fail); (try k_steps))
            all_goals exact step_next .wd q (tkL ++ [c]) (pre₁ ++ [c]) rr (by assumption) (by first | assumption | exact news_tail (by assumption)) rfl rfl (buf_one hbuf₁) (pos_one hpos₁ _) (cps_one htok c) hlex (.inr (.inl (by simp))) (.inr (fun h => by cases h)) (le_one hle _ _) (by simp)
          · rw [if_neg hs] at hlex; cases hlex
      | sq =>
        dsimp only [stOf] at N₁
        cases post₁ with
        | nil => simp only [lexT] at hlex; cases hlex
        | cons c rr =>
          by_cases hc : c = 39
          · subst hc
            simp only [lexT, if_true] at hlex
            k_steps
            all_goals repeat' ((first | (with_reducible refine' post_back (by with_reducible assumption) ?_) | fail); (try k_steps))
            all_goals exact step_next .wd true tkL (pre₁ ++ [39]) rr (by assumption) (by first | assumption | exact news_tail (by assumption)) rfl rfl (buf_one hbuf₁) (pos_one hpos₁ _) htok hlex (.inl rfl) (.inr (fun h => by cases h)) (le_same hle _) (by simp)
          · simp only [lexT, if_neg hc] at hlex
            by_cases hc2 : c = 10
            · rw [if_pos hc2] at hlex; cases hlex
            · rw [if_neg hc2] at hlex
              have f1 := eqF (not_nl hc2)
              have f2 : ((⟨#[c]⟩ : Str) == ⟨#[39]⟩) = false := eqF (fun e => hc (List.cons.inj e).1.symm)
              k_steps
              all_goals repeat' ((first | (with_reducible refine' post_back (by with_reducible assumption) ?_) | fail); (try k_steps))
              all_goals exact step_next .sq true (tkL ++ [c]) (pre₁ ++ [c]) rr (by assumption) (by first | assumption | exact news_tail (by assumption)) rfl rfl (buf_one hbuf₁) (pos_one hpos₁ _) (cps_one htok c) hlex (.inl rfl) (.inr (fun h => by cases h)) (le_one hle _ _) (by simp)
      | dq =>
        dsimp only [stOf] at N₁
        cases post₁ with
        | nil => simp only [lexT] at hlex; cases hlex
        | cons c rr =>
          by_cases hc : c = 34
          · subst hc
            simp only [lexT, if_true] at hlex
            k_steps
            all_goals repeat' ((first | (with_reducible refine' post_back (by with_reducible assumption) ?_) | fail); (try k_steps))
            all_goals exact step_next .wd true tkL (pre₁ ++ [34]) rr (by assumption) (by first | assumption | exact news_tail (by assumption)) rfl rfl (buf_one hbuf₁) (pos_one hpos₁ _) htok hlex (.inl rfl) (.inr (fun h => by cases h)) (le_same hle _) (by simp)
          · simp only [lexT, if_neg hc] at hlex
            by_cases hc2 : c = 39
            · subst hc2
              rw [if_pos rfl] at hlex
              k_steps
              all_goals repeat' ((first | (with_reducible refine' post_back (by with_reducible assumption) ?_) | fail); (try k_steps))
              all_goals exact step_next .dq true (tkL ++ [39]) (pre₁ ++ [39]) rr (by assumption) (by first | assumption | exact news_tail (by assumption)) rfl rfl (buf_one hbuf₁) (pos_one hpos₁ _) (cps_one htok 39) hlex (.inl rfl) (.inr (fun h => by cases h)) (le_one hle _ _) (by simp)
            · rw [if_neg hc2] at hlex; cases hlex
  case ha =>
    clear FL NL hbuf hpos hx F N
    rintro fl s₂ ⟨rfl, h₂, tk₂, m₂, q, pre₂, tokS, st, tt₂, t3₂, pos₂, rfl, F₂, N₂, hm, hbuf₂, hpos₂, htok, hq, hst⟩
    rw [← kstB_is hm] at F₂
    clear hm
    cases q with
    | true =>
      k_steps
      all_goals repeat' ((first | (with_reducible refine' post_back (by with_reducible assumption) ?_) | fail); (try k_steps))
      all_goals exact ret _ _ _ _ _ _ _ _ _ (by assumption) (by first | assumption | exact news_tail (by assumption)) htok hst hbuf₂ hpos₂
    | false =>
      have f1 : (tokS == Str.ofString "") = false := by
        cases e : (tokS == Str.ofString "") with
        | false => rfl
        | true =>
          exfalso
          refine hq.resolve_left (fun h => by cases h) ?_
          rw [← htok, eq_of_beq e]; decide +kernel
      k_steps
      all_goals repeat' ((first | (with_reducible refine' post_back (by with_reducible assumption) ?_) | fail); (try k_steps))
      all_goals exact ret _ _ _ _ _ _ _ _ _ (by assumption) (by first | assumption | exact news_tail (by assumption)) htok hst hbuf₂ hpos₂

end
section
local macro_rules | `(tactic| walk_at "no step 0") => `(tactic| fail)
local macro_rules | `(tactic| walk_at "no step 1") => `(tactic| fail)
local macro_rules | `(tactic| walk_at "no step 2") => `(tactic| fail)
local macro_rules | `(tactic| walk_at "no step 3") => `(tactic| fail)
local macro_rules | `(tactic| walk_at "no step 4") => `(tactic| fail)
local macro_rules | `(tactic| walk_at "no step 5") => `(tactic| fail)
local macro_rules | `(tactic| walk_at "no step 6") => `(tactic| fail)
local macro_rules | `(tactic| walk_at "no step 7") => `(tactic| fail)
local macro_rules | `(tactic| walk_at "no step 8") => `(tactic| fail)
local macro_rules | `(tactic| walk_at "no step 9") => `(tactic| fail)
local macro_rules | `(tactic| walk_at "no step 10") => `(tactic| fail)
local macro_rules | `(tactic| walk_at "no step 11") => `(tactic| fail)
local macro_rules | `(tactic| walk_at "no step 12") => `(tactic| fail)
local macro_rules | `(tactic| walk_at "no step 13") => `(tactic| fail)
local macro_rules | `(tactic| walk_at "no step 14") => `(tactic| fail)
local macro_rules | `(tactic| walk_at "no step 15") => `(tactic| fail)
local macro_rules | `(tactic| walk_at "no step 16") => `(tactic| fail)
local macro_rules | `(tactic| walk_at "no step 17") => `(tactic| fail)
local macro_rules | `(tactic| walk_at "no step 18") => `(tactic| fail)
local macro_rules | `(tactic| walk_at "no step 19") => `(tactic| fail)
local macro_rules | `(tactic| walk_at "no step 20") => `(tactic| fail)
local macro_rules | `(tactic| walk_at "no step 21") => `(tactic| fail)
local macro_rules | `(tactic| walk_at "no step 22") => `(tactic| fail)
local macro_rules | `(tactic| walk_at "no step 23") => `(tactic| fail)
noncomputable abbrev dqObj : Obj := { cls := .type "collections.deque", data := .fields #[.none, .int 0 0] }
theorem dq_slot_len : Slot "collections.deque" "__len__" "collections.deque.__len__" :=
  .of (owner := "collections.deque") (n := "__len__") (by rw [typeLookup_type, builtinLookup_eq_fast]; kernel_rfl) (by decide +kernel) (by decide +kernel) (by decide +kernel)
    (by first | exact .inl (by decide +kernel) | exact .inr (by decide +kernel)) (by rw [isSubtype_type]; kernel_rfl)
theorem dq_entry_len : entryFor table "collections.deque.__len__" = some Builtin.«collections.deque.__len__» := entryFor_of_tree (by kernel_rfl)
theorem dq_args_len (a : Value) : argsOk "collections.deque.__len__" ⟨[a], []⟩ := by unfold argsOk; kernel_rfl
theorem dq_noBool : typeLookup (.type "collections.deque") "__bool__" = pure none := by rw [typeLookup_type, builtinLookup_eq_fast]; kernel_rfl
section
variable {prog : Program} {w : World} {A : Around} {E : Value → Shared → Prop} {s : Shared}
theorem dq_len_body {l : Addr} {Q : Value → Shared → Prop} (ho : s.heap.get? l = some dqObj)
    (h : Q (.int 0 (s.toks + 1)) { s with toks := s.toks + 1 + 1 }) : wpAny (model prog w) A (Builtin.«len» ⟨[.ref l], []⟩) (fun fin s' => ∃ r, fin = .done (.ret r) ∧ Q r s') E s := by
  have hT : s.TypeIs (.ref l) "collections.deque" := (show ∃ o, s.heap.get? l = some o ∧ o.cls = .type "collections.deque" from ⟨_, ho, rfl⟩)
  unfold Builtin.«len»
  refine wpAny_bind (m := oneArg "len" _) (wpAny_pure ?_)
  refine wpAny_bind (m := callSpecial? (.ref l) (Str.ofString "__len__")) (wpAny_callSpecial?_slot (name := Str.ofString "__len__") hT dq_slot_len
    (wpAny_call_entry dq_slot_len hT dq_entry_len ?_ (dq_args_len _)))
  · show wpAny _ _ (do retInt (← Builtin.Deque.size (.ref l))) _ _ s
    unfold Builtin.Deque.size
    refine wpAny_bind (wpAny_bind (wpAny_fieldsOf ho rfl (wpAny_pure ?_)))
    refine wpAny_bind (wpAny_mkInt (wpAny_pure ⟨_, rfl, ?_⟩))
    refine wpAny_bind (wpAny_holding (wpAny_pure ?_))
    refine wpAny_bind (wpAny_letGo ?_)
    exact wpAny_bind (wpAny_mkInt (wpAny_pure ⟨_, rfl, h⟩))
theorem truthy_dq {l : Addr} {Q : Bool → Shared → Prop} (ho : s.heap.get? l = some dqObj) (h : ∀ k, Q false { s with toks := k }) : wpAny (model prog w) A (truthy (.ref l)) Q E s := by
  have hT : s.TypeIs (.ref l) "collections.deque" := (show ∃ o, s.heap.get? l = some o ∧ o.cls = .type "collections.deque" from ⟨_, ho, rfl⟩)
  have key : wpAny (model prog w) A (runValue (.builtin "len" ⟨[.ref l], []⟩)) (fun r s' => r = .int 0 (s.toks + 1) ∧ Q false s') E s := by
    refine wpAny_runValue (codeAny_builtin entry_len ?_)
    rw [Around.under_plainId plain_len _]
    exact wpAny_mono (dq_len_body (Q := fun r s' => r = .int 0 (s.toks + 1) ∧ Q false s') ho ⟨rfl, h _⟩)
      (fun fin s' h' => by obtain ⟨r, rfl, hq⟩ := h'; exact hq) fun _ _ e => e
  unfold truthy
  first
    | refine wpAny_bind (wpAny_callSpecial?_none (name := Str.ofString "__bool__") hT dq_noBool ?_)
    | refine wpAny_bind (wpAny_pure (wpAny_bind (wpAny_callSpecial?_none (name := Str.ofString "__bool__") hT dq_noBool ?_)))
  first
    | refine wpAny_bind (wpAny_specialOf (name := Str.ofString "__len__") hT dq_slot_len.lookup ?_)
    | refine wpAny_bind (wpAny_pure (wpAny_bind (wpAny_specialOf (name := Str.ofString "__len__") hT dq_slot_len.lookup ?_)))
  first
    | exact wpAny_bind (wpAny_mono key (fun r s' h' => by obtain ⟨rfl, hq⟩ := h'; exact wpAny_pure hq) fun _ _ e => e)
    | exact wpAny_bind (wpAny_pure (wpAny_bind (wpAny_mono key (fun r s' h' => by obtain ⟨rfl, hq⟩ := h'; exact wpAny_pure hq) fun _ _ e => e)))
theorem truthy_dqN {h₀ : Heap} {L l : Addr} {news : List (Addr × Obj)} {Q : Bool → Shared → Prop} (N : News h₀ L s.heap news) (hm : (l, dqObj) ∈ news) (h : ∀ k, Q false { s with toks := k }) : wpAny (model prog w) A (truthy (.ref l)) Q E s :=
  truthy_dq (N.get hm) h
end

end
section
theorem dq_mro : mroOf (.type "collections.deque") = pure [.type "collections.deque", .type "object"] := by rw [mroOf_type]; kernel_rfl
theorem dq_lookup_new : typeLookup (.type "collections.deque") "__new__" = pure (some (.builtin "collections.deque.__new__")) := by rw [typeLookup_type, builtinLookup_eq_fast]; kernel_rfl
theorem dq_slot_init : Slot "collections.deque" "__init__" "collections.deque.__init__" :=
  .of (owner := "collections.deque") (n := "__init__") (by rw [typeLookup_type, builtinLookup_eq_fast]; kernel_rfl) (by decide +kernel) (by decide +kernel) (by decide +kernel)
    (by first | exact .inl (by decide +kernel) | exact .inr (by decide +kernel)) (by rw [isSubtype_type]; kernel_rfl)
theorem dq_called : TypeCalled "collections.deque" "collections.deque.__new__" "collections.deque.__init__" :=
  ⟨by decide +kernel, by decide +kernel, ⟨_, _, dq_mro⟩, madeBy_type dq_mro dq_lookup_new (by decide +kernel), by decide +kernel, by rw [isSubtype_type]; kernel_rfl, dq_slot_init⟩
theorem dq_typeCall : checkTypeCall "collections.deque" ⟨[], []⟩ = pure () := by kernel_rfl
theorem dq_newCall : checkBuiltinCall "collections.deque.__new__" ⟨[.type "collections.deque"], []⟩ = pure () := by kernel_rfl
theorem dq_entry_new : entryFor table "collections.deque.__new__" = some Builtin.«collections.deque.__new__» := entryFor_of_tree (by kernel_rfl)
theorem dq_entry_init : entryFor table "collections.deque.__init__" = some Builtin.«collections.deque.__init__» := entryFor_of_tree (by kernel_rfl)
theorem dq_plain_new : plainId "collections.deque.__new__" = true := by decide +kernel
theorem dq_args_init (a : Value) : argsOk "collections.deque.__init__" ⟨[a], []⟩ := by unfold argsOk; kernel_rfl
section
variable {prog : Program} {w : World} {A : Around} {E : Value → Shared → Prop} {s : Shared}
theorem code_dq_new {Q₁ : Value → Shared → Prop}
    (h : Q₁ (.ref s.heap.objs.size) { s with heap := s.heap.push dqObj }) :
    codeAny (model prog w) A (.call (.builtin "collections.deque.__new__") ⟨[.type "collections.deque"], []⟩) (wants Q₁ E) s := by
  refine codeAny_of_tree ?_
  show wpAny _ A.in1 (do checkBuiltinCall "collections.deque.__new__" ⟨[.type "collections.deque"], []⟩; again (.builtin "collections.deque.__new__" ⟨[.type "collections.deque"], []⟩)) _ _ s
  refine wpAny_bind (wpAny_of_eq dq_newCall (wpAny_pure ⟨plainId_quiet dq_plain_new _, codeAny_builtin dq_entry_new ?_⟩))
  rw [Around.under_plainId dq_plain_new _]
  have hsub : isSubtype (.type "collections.deque") (.type "collections.deque") = pure true := by rw [isSubtype_type]; kernel_rfl
  obtain ⟨hp, g, d, tk, os⟩ := s
  unfold Builtin.«collections.deque.__new__» Builtin.Deque.newArgs Builtin.Deque.new Builtin.Deque.ty
  wp_walk
  exact h
theorem call_deque {h₀ : Heap} {L : Addr} {m : Str → Option Value} {news : List (Addr × Obj)} {Q : Value → Shared → Prop} (F : Fr h₀ L s.heap m) (N : News h₀ L s.heap news)
    (h : ∀ d h', Fr h₀ L h' m → News h₀ L h' ((d, dqObj) :: news) → (∀ p ∈ news, p.1 < d) → Q (.ref d) { s with heap := h' }) : wpAny (model prog w) A (call (.type "collections.deque") []) Q E s := by
  refine callType_codes (Q₁ := fun obj s₁ => obj = .ref s.heap.objs.size ∧ s₁ = { s with heap := s.heap.push dqObj }) dq_called dq_typeCall dq_entry_init (code_dq_new ⟨rfl, rfl⟩) fun obj s₁ h₁ => ?_
  obtain ⟨rfl, rfl⟩ := h₁
  have hS : (s.heap.push dqObj).get? s.heap.objs.size = some dqObj := Heap.get?_push_size _ rfl
  have N1 := N.push F dqObj
  have F1 := F.push dqObj
  have hlt : ∀ p ∈ news, p.1 < s.heap.objs.size := fun p hp => Heap.lt_size (N p hp).1
  generalize s.heap.objs.size = d at *
  generalize s.heap.push dqObj = hA at *
  refine ⟨⟨_, hS, rfl⟩, dq_args_init _, ?_⟩
  unfold Builtin.«collections.deque.__init__»
  show wpAny _ _ (setField (.ref d) 0 .none >>= fun _ => Builtin.Deque.clear (.ref d) >>= fun _ => ret .none) _ _ _
  refine wpAny_bind (wpAny_setField_rec hS (by decide) fun h' e1 sb => ?_)
  have N2 := N1.setHead (fun p hp => Nat.ne_of_lt (hlt p hp)) sb e1
  have F2 := F1.change sb (N1 _ (.head _)).2.1 (N1 _ (.head _)).2.2
  unfold Builtin.Deque.clear Builtin.Deque.items
  refine wpAny_bind (wpAny_bind (wpAny_bind (wpAny_fieldsOf e1 rfl (wpAny_pure ?_))))
  exact wpAny_pure (wpAny_pure ⟨rfl, h d h' F2 N2 hlt⟩)
end

end
section
local macro_rules | `(tactic| walk_at "no step 0") => `(tactic| fail)
local macro_rules | `(tactic| walk_at "no step 1") => `(tactic| fail)
local macro_rules | `(tactic| walk_at "no step 2") => `(tactic| fail)
local macro_rules | `(tactic| walk_at "no step 3") => `(tactic| fail)
local macro_rules | `(tactic| walk_at "no step 4") => `(tactic| fail)
local macro_rules | `(tactic| walk_at "no step 5") => `(tactic| fail)
local macro_rules | `(tactic| walk_at "no step 6") => `(tactic| fail)
local macro_rules | `(tactic| walk_at "no step 7") => `(tactic| fail)
local macro_rules | `(tactic| walk_at "no step 8") => `(tactic| fail)
local macro_rules | `(tactic| walk_at "no step 9") => `(tactic| fail)
local macro_rules | `(tactic| walk_at "no step 10") => `(tactic| fail)
local macro_rules | `(tactic| walk_at "no step 11") => `(tactic| fail)
local macro_rules | `(tactic| walk_at "no step 12") => `(tactic| fail)
local macro_rules | `(tactic| walk_at "no step 13") => `(tactic| fail)
local macro_rules | `(tactic| walk_at "no step 14") => `(tactic| fail)
local macro_rules | `(tactic| walk_at "no step 15") => `(tactic| fail)
local macro_rules | `(tactic| walk_at "no step 16") => `(tactic| fail)
local macro_rules | `(tactic| walk_at "no step 17") => `(tactic| fail)
local macro_rules | `(tactic| walk_at "no step 18") => `(tactic| fail)
local macro_rules | `(tactic| walk_at "no step 19") => `(tactic| fail)
local macro_rules | `(tactic| walk_at "no step 20") => `(tactic| fail)
local macro_rules | `(tactic| walk_at "no step 21") => `(tactic| fail)
local macro_rules | `(tactic| walk_at "no step 22") => `(tactic| fail)
local macro_rules | `(tactic| walk_at "no step 23") => `(tactic| fail)
local macro_rules | `(tactic| walk_at "truthy ref") => `(tactic| (refine truthy_dqN (by assumption) (by k_mem) ?_; intro _))
local macro_rules | `(tactic| walk_at "call ref") => `(tactic| (k_here; (with_reducible show wpAny _ _ (PySem.call (Value.ref 551) _ _) _ _ _); k_dflt
  (refine' read_e _ _ _ _ _ _ _ _ _ _ _ _ _ _ _ _ _ _ _ _ _ _ _ _ _ _ _ _ _ _ _ _ ?rB ?rF ?rX ?rT ?rk ?rN ?rn ?rm ?rd ?ru ?rl ?rp ?_; (case rB => k_asm); (case rF => k_asm); (case rX => k_asm); (case rT => k_asm); (case rk => first | rfl | assumption); (case rN => k_asm); (case rn => k_all); (case rm => assumption); (case rd => k_room); (case ru => k_room); (case rl => assumption); (case rp => assumption)); (intro t9 h9 tk9 F9 N9); (try dsimp only); (try k_fold)))
set_option maxHeartbeats 8000000 in
theorem read_token_e {w : World} {p : Program} {loose : List Str} {mean : ExcName → Option Value} {mg mb : Str → Option Value}
    (dp un : Nat) (gd : Option (List Code)) (cn : Str) (cs : Scope) (a : Addr) (ccd : Value) (cl : List (Str × Addr)) (outer : List Env) (A₀ : Around) (base h₀ : Heap) (L : Addr) (m : Str → Option Value) (s : Shared) (Q E : Value → Shared → Prop)
    (lex ld io iod pb fs : Addr) (rest : List (Addr × Obj)) (buf wc tokS : Str) (V : Nat → Tok) (H : Nat → Int) (K : Nat → Tok) (H1 H2 H3 : Int) (k1 k2 k3 t1 t2 t3 tt : Tok) (pos : Int)
    (B : Below A₀ base outer h₀) (F : Fr h₀ L s.heap m) (X : (hd0.heap_1 w.params).In h₀)
    (T : Top p loose mean mg mb h₀) (hk : cs.kind = .function) (N : News h₀ L s.heap ((io, instObj 605 iod) :: (iod, ioD H1 H2 H3 k1 k2 k3 t1 t2 t3 buf pos) :: (lex, instObj 740 ld) :: (ld, lexD io pb fs wc V H K .none (.str tokS tt)) :: rest))
    (hne1 : ∀ q ∈ rest, q.1 ≠ iod) (hne2 : ∀ q ∈ rest, q.1 ≠ ld) (d1 : io ≠ iod) (d2 : io ≠ ld) (d3 : lex ≠ ld) (d4 : lex ≠ iod) (d5 : iod ≠ ld) (d6 : ld ≠ iod) (hdp : dp + 9 < recursionLimit) (hun : un + 100 < cLine) (hb : buf.length ≤ 100000)
    (hpos : pos = buf.length)
    (ret : ∀ (h' : Heap) (tk' : Nat) (tt : Tok), Fr h₀ L h' m →
      News h₀ L h' ((io, instObj 605 iod) :: (iod, ioD H1 H2 H3 k1 k2 k3 t1 t2 t3 buf pos) :: (lex, instObj 740 ld) :: (ld, lexD io pb fs wc V H K .none (.str (Str.ofString "") tt)) :: rest) →
      Q .none { s with heap := h', toks := tk' }) :
    wpAny (model PySem.Challenge.rw_dn0076_08.row.prog w) (ktrTop dp un gd cn cs L a ccd cl outer) (call (.ref 708) [.ref lex]) Q E s := by
  have hne1' : ∀ q ∈ (lex, instObj 740 ld) :: (ld, lexD io pb fs wc V H K .none (.str tokS tt)) :: rest, q.1 ≠ iod := List.forall_mem_cons.mpr ⟨d4, List.forall_mem_cons.mpr ⟨d6, hne1⟩⟩
  w_on
  revert X; k_fill; intro X
  refine wpAny_call ?_
  k_dflt (refine' code_def ?k1 ?k2 ?k3 ?k4 ?k5 ?kA ?kF ?kK ?k6 ?k7 ?k8 ?k9 ?kB ?_ ?c2 ?c3 ?c4 ?c5; (case kA => exact rfl); (case kF => exact rfl); (case kK => assumption); (case k1 => k_asm); (case k2 => k_asm); (case k3 => k_asm); (case k4 => k_asm); (case k5 => k_asm); (case k6 => k_is); (case k7 => k_is); (case k8 => k_room); (case k9 => first | exact BindsTo.of_eq rfl | exact binds_K (by k_in) rfl (by k_is) rfl rfl rfl); (case c5 => decide); (case kB => exact locs rfl); (case c2 => exact rfl); (case c3 => exact rfl); (case c4 => exact rfl))
  intro g' L' h' FG' F' N' B' X' T'
  (try dsimp only)
  (try k_fold)
  k_steps
  all_goals exact ret _ _ _ (by assumption) (by first | assumption | exact news_tail (by assumption))

end
section
local macro_rules | `(tactic| walk_at "truthy ref") => `(tactic| (refine truthy_dqN (by assumption) (by k_mem) ?_; intro _))
local macro_rules | `(tactic| walk_at "call ref") => `(tactic| (k_here; (with_reducible show wpAny _ _ (PySem.call (Value.ref 708) _ _) _ _ _); k_dflt
  (refine' read_token_c _ _ _ _ _ _ _ _ _ _ _ _ _ _ _ _ _ _ _ _ _ _ _ _ _ _ _ _ _ _ _ _ _ _ _ _ _ _ _ _ _ _ _ _ _ ?rB ?rF ?rX ?rT ?rk ?rN ?rn ?rm ?c1 ?c2 ?c3 ?c4 ?c5 ?c6 ?rd ?ru ?rl ?rp1 ?rp2 ?rw ?rx ?_; (case rB => k_asm); (case rF => k_asm); (case rX => k_asm); (case rT => k_asm); (case rk => first | rfl | assumption); (case rN => k_asm); (case rn => assumption); (case rm => assumption); (case c1 => assumption); (case c2 => assumption); (case c3 => assumption); (case c4 => assumption); (case c5 => assumption); (case c6 => assumption); (case rd => k_room); (case ru => k_room); (case rl => assumption); (case rp1 => assumption); (case rp2 => assumption); (case rw => assumption); (case rx => assumption)); (intro t9 h9 tk9 tokS9 st9 tt9 t39 pre9 pos9 F9 N9 e91 e92 e93 e94); (try dsimp only); (try k_fold)))
set_option maxHeartbeats 8000000 in
theorem next_c {w : World} {p : Program} {loose : List Str} {mean : ExcName → Option Value} {mg mb : Str → Option Value}
    (dp un : Nat) (gd : Option (List Code)) (cn : Str) (cs : Scope) (a : Addr) (ccd : Value) (cl : List (Str × Addr)) (outer : List Env) (A₀ : Around) (base h₀ : Heap) (L : Addr) (m : Str → Option Value) (s : Shared) (Q E : Value → Shared → Prop)
    (lex ld io iod pb fs : Addr) (rest : List (Addr × Obj)) (pre post : List Nat) (buf wc : Str) (V : Nat → Tok) (H : Nat → Int) (K : Nat → Tok) (H1 H2 H3 : Int) (k1 k2 k3 t1 t2 t3 ts tt : Tok) (pos : Int) (tok : List Nat) (r : Option (List Nat))
    (B : Below A₀ base outer h₀) (F : Fr h₀ L s.heap m) (X : (hd0.heap_1 w.params).In h₀)
    (T : Top p loose mean mg mb h₀) (hk : cs.kind = .function) (N : News h₀ L s.heap ((io, instObj 605 iod) :: (iod, ioD H1 H2 H3 k1 k2 k3 t1 t2 t3 buf pos) :: (lex, instObj 740 ld) :: (ld, lexD io pb fs wc V H K (.str (Str.ofString " ") ts) (.str (Str.ofString "") tt)) :: (pb, dqObj) :: (fs, dqObj) :: rest))
    (hne1 : ∀ q ∈ (pb, dqObj) :: (fs, dqObj) :: rest, q.1 ≠ iod) (hne2 : ∀ q ∈ (pb, dqObj) :: (fs, dqObj) :: rest, q.1 ≠ ld) (d1 : io ≠ iod) (d2 : io ≠ ld) (d3 : lex ≠ ld) (d4 : lex ≠ iod) (d5 : iod ≠ ld) (d6 : ld ≠ iod) (hdp : dp + 19 < recursionLimit) (hun : un + 200 < cLine) (hb : buf.length ≤ 100000)
    (hbuf : buf.cps.toList = pre ++ post) (hpos : pos = pre.length) (hw1 : (!(Builtin.Str.occurrences wc (Str.ofString "'") 0 wc.length 1).isEmpty) = false)
    (hx : lexT .sp [] post = some (tok, r))
    (ret : ∀ (t : Tok) (h' : Heap) (tk' : Nat) (tokS : Str) (st : Value) (tt t3 : Tok) (pre' : List Nat) (pos' : Int), Fr h₀ L h' m →
      News h₀ L h' ((io, instObj 605 iod) :: (iod, ioD H1 H2 H3 k1 k2 k3 t1 t2 t3 buf pos') :: (lex, instObj 740 ld) :: (ld, lexD io pb fs wc V H K st (.str (Str.ofString "") tt)) :: (pb, dqObj) :: (fs, dqObj) :: rest) →
      tokS.cps.toList = tok → StEnd r st → buf.cps.toList = pre' ++ r.getD [] → pos' = pre'.length → Q (.str tokS t) { s with heap := h', toks := tk' }) :
    wpAny (model PySem.Challenge.rw_dn0076_08.row.prog w) (ktrTop dp un gd cn cs L a ccd cl outer) (call (.ref 737) [.ref lex]) Q E s := by
  w_on
  revert X; k_fill; intro X
  refine wpAny_call ?_
  k_dflt (refine' code_def ?k1 ?k2 ?k3 ?k4 ?k5 ?kA ?kF ?kK ?k6 ?k7 ?k8 ?k9 ?kB ?_ ?c2 ?c3 ?c4 ?c5; (case kA => exact rfl); (case kF => exact rfl); (case kK => assumption); (case k1 => k_asm); (case k2 => k_asm); (case k3 => k_asm); (case k4 => k_asm); (case k5 => k_asm); (case k6 => k_is); (case k7 => k_is); (case k8 => k_room); (case k9 => first | exact BindsTo.of_eq rfl | exact binds_K (by k_in) rfl (by k_is) rfl rfl rfl); (case c5 => decide); (case kB => exact locs rfl); (case c2 => exact rfl); (case c3 => exact rfl); (case c4 => exact rfl))
  intro g' L' h' FG' F' N' B' X' T'
  (try dsimp only)
  (try k_fold)
  k_steps
  all_goals exact ret _ _ _ _ _ _ _ _ _ (by assumption) (by assumption) (by assumption) (by assumption) (by assumption) (by assumption)

end
section
local macro_rules | `(tactic| walk_at "no step 0") => `(tactic| fail)
local macro_rules | `(tactic| walk_at "no step 1") => `(tactic| fail)
local macro_rules | `(tactic| walk_at "no step 2") => `(tactic| fail)
local macro_rules | `(tactic| walk_at "no step 3") => `(tactic| fail)
local macro_rules | `(tactic| walk_at "no step 4") => `(tactic| fail)
local macro_rules | `(tactic| walk_at "no step 5") => `(tactic| fail)
local macro_rules | `(tactic| walk_at "no step 6") => `(tactic| fail)
local macro_rules | `(tactic| walk_at "no step 7") => `(tactic| fail)
local macro_rules | `(tactic| walk_at "no step 8") => `(tactic| fail)
local macro_rules | `(tactic| walk_at "no step 9") => `(tactic| fail)
local macro_rules | `(tactic| walk_at "no step 10") => `(tactic| fail)
local macro_rules | `(tactic| walk_at "no step 11") => `(tactic| fail)
local macro_rules | `(tactic| walk_at "no step 12") => `(tactic| fail)
local macro_rules | `(tactic| walk_at "no step 13") => `(tactic| fail)
local macro_rules | `(tactic| walk_at "no step 14") => `(tactic| fail)
local macro_rules | `(tactic| walk_at "no step 15") => `(tactic| fail)
local macro_rules | `(tactic| walk_at "no step 16") => `(tactic| fail)
local macro_rules | `(tactic| walk_at "no step 17") => `(tactic| fail)
local macro_rules | `(tactic| walk_at "no step 18") => `(tactic| fail)
local macro_rules | `(tactic| walk_at "no step 19") => `(tactic| fail)
local macro_rules | `(tactic| walk_at "no step 20") => `(tactic| fail)
local macro_rules | `(tactic| walk_at "no step 21") => `(tactic| fail)
local macro_rules | `(tactic| walk_at "no step 22") => `(tactic| fail)
local macro_rules | `(tactic| walk_at "no step 23") => `(tactic| fail)
local macro_rules | `(tactic| walk_at "truthy ref") => `(tactic| (refine truthy_dqN (by assumption) (by k_mem) ?_; intro _))
local macro_rules | `(tactic| walk_at "call ref") => `(tactic| (k_here; (with_reducible show wpAny _ _ (PySem.call (Value.ref 708) _ _) _ _ _); k_dflt
  (refine' read_token_e _ _ _ _ _ _ _ _ _ _ _ _ _ _ _ _ _ _ _ _ _ _ _ _ _ _ _ _ _ _ _ _ _ _ _ _ _ _ _ _ _ ?rB ?rF ?rX ?rT ?rk ?rN ?rn ?rm ?c1 ?c2 ?c3 ?c4 ?c5 ?c6 ?rd ?ru ?rl ?rp ?_; (case rB => k_asm); (case rF => k_asm); (case rX => k_asm); (case rT => k_asm); (case rk => first | rfl | assumption); (case rN => k_asm); (case rn => assumption); (case rm => assumption); (case c1 => assumption); (case c2 => assumption); (case c3 => assumption); (case c4 => assumption); (case c5 => assumption); (case c6 => assumption); (case rd => k_room); (case ru => k_room); (case rl => assumption); (case rp => assumption)); (intro h9 tk9 tt9 F9 N9); (try dsimp only); (try k_fold)))
set_option maxHeartbeats 8000000 in
theorem next_e {w : World} {p : Program} {loose : List Str} {mean : ExcName → Option Value} {mg mb : Str → Option Value}
    (dp un : Nat) (gd : Option (List Code)) (cn : Str) (cs : Scope) (a : Addr) (ccd : Value) (cl : List (Str × Addr)) (outer : List Env) (A₀ : Around) (base h₀ : Heap) (L : Addr) (m : Str → Option Value) (s : Shared) (Q E : Value → Shared → Prop)
    (lex ld io iod pb fs : Addr) (rest : List (Addr × Obj)) (buf wc tokS : Str) (V : Nat → Tok) (H : Nat → Int) (K : Nat → Tok) (H1 H2 H3 : Int) (k1 k2 k3 t1 t2 t3 tt : Tok) (pos : Int)
    (B : Below A₀ base outer h₀) (F : Fr h₀ L s.heap m) (X : (hd0.heap_1 w.params).In h₀)
    (T : Top p loose mean mg mb h₀) (hk : cs.kind = .function) (N : News h₀ L s.heap ((io, instObj 605 iod) :: (iod, ioD H1 H2 H3 k1 k2 k3 t1 t2 t3 buf pos) :: (lex, instObj 740 ld) :: (ld, lexD io pb fs wc V H K .none (.str tokS tt)) :: (pb, dqObj) :: (fs, dqObj) :: rest))
    (hne1 : ∀ q ∈ (pb, dqObj) :: (fs, dqObj) :: rest, q.1 ≠ iod) (hne2 : ∀ q ∈ (pb, dqObj) :: (fs, dqObj) :: rest, q.1 ≠ ld) (d1 : io ≠ iod) (d2 : io ≠ ld) (d3 : lex ≠ ld) (d4 : lex ≠ iod) (d5 : iod ≠ ld) (d6 : ld ≠ iod) (hdp : dp + 19 < recursionLimit) (hun : un + 200 < cLine) (hb : buf.length ≤ 100000)
    (hpos : pos = buf.length)
    (err : ∀ (e t : Addr) (h' : Heap) (tk' : Nat) (g : Heap) (tt : Tok), Fr h₀ L g m →
      RaisedS base g (envX cn cs L a ccd cl :: outer) e (.type "StopIteration") t [] ((io, instObj 605 iod) :: (iod, ioD H1 H2 H3 k1 k2 k3 t1 t2 t3 buf pos) :: (lex, instObj 740 ld) :: (ld, lexD io pb fs wc V H K .none (.str (Str.ofString "") tt)) :: (pb, dqObj) :: (fs, dqObj) :: rest) h' →
      g.UpToSlots h' → E (.ref e) { s with heap := h', toks := tk' }) :
    wpAny (model PySem.Challenge.rw_dn0076_08.row.prog w) (ktrTop dp un gd cn cs L a ccd cl outer) (call (.ref 737) [.ref lex]) Q E s := by
  w_on
  revert X; k_fill; intro X
  have D0 : KtsDicts [] h₀ := ktsDicts_nil
  refine wpAny_call ?_
  k_dflt (refine' code_def ?k1 ?k2 ?k3 ?k4 ?k5 ?kA ?kF ?kK ?k6 ?k7 ?k8 ?k9 ?kB ?_ ?c2 ?c3 ?c4 ?c5; (case kA => exact rfl); (case kF => exact rfl); (case kK => assumption); (case k1 => k_asm); (case k2 => k_asm); (case k3 => k_asm); (case k4 => k_asm); (case k5 => k_asm); (case k6 => k_is); (case k7 => k_is); (case k8 => k_room); (case k9 => first | exact BindsTo.of_eq rfl | exact binds_K (by k_in) rfl (by k_is) rfl rfl rfl); (case c5 => decide); (case kB => exact locs rfl); (case c2 => exact rfl); (case c3 => exact rfl); (case c4 => exact rfl))
  intro g' L' h' FG' F' N' B' X' T'
  (try dsimp only)
  (try k_fold)
  k_steps
  all_goals exact err _ _ _ _ _ _ (by assumption) (by assumption) (by assumption)

end
section
inductive LexAll : List Nat → List (List Nat) → Prop
  | last {p t : List Nat} (h : lexT .sp [] p = some (t, none)) : LexAll p [t]
  | more {p t r : List Nat} {ts : List (List Nat)} (h : lexT .sp [] p = some (t, some r)) (hr : LexAll r ts) : LexAll p (t :: ts)
def TextsAre (vs : List Value) (ts : List (List Nat)) : Prop := ∃ l : List (Str × Tok), vs = strValues l ∧ l.map (fun p => p.1.cps.toList) = ts
noncomputable abbrev LedL (io iod lex ld pb fs : Addr) (buf wc : Str) (V : Nat → Tok) (H : Nat → Int) (K : Nat → Tok) (H1 H2 H3 : Int) (k1 k2 k3 t1 t2 t3 tt : Tok) (pos : Int) (st : Value) (x : Str) (rest : List (Addr × Obj)) : List (Addr × Obj) :=
  (io, instObj 605 iod) :: (iod, ioD H1 H2 H3 k1 k2 k3 t1 t2 t3 buf pos) :: (lex, instObj 740 ld) :: (ld, lexD io pb fs wc V H K st (.str x tt)) :: (pb, dqObj) :: (fs, dqObj) :: rest
theorem ledL_set {io iod lex ld pb fs : Addr} {buf wc : Str} {V : Nat → Tok} {H : Nat → Int} {K : Nat → Tok} {H1 H2 H3 : Int} {k1 k2 k3 t1 t2 t3 tt : Tok} {pos : Int} {st : Value} {x : Str} {rest : List (Addr × Obj)} {S : Addr} {o o' : Obj} {h₀ h h' : Heap} {L : Addr}
    (N : News h₀ L h (LedL io iod lex ld pb fs buf wc V H K H1 H2 H3 k1 k2 k3 t1 t2 t3 tt pos st x ((S, o) :: rest))) (hS : ∀ b ∈ [io, iod, lex, ld, pb, fs], b ≠ S) (hr : ∀ p ∈ rest, p.1 ≠ S) (hs : Heap.SameBut S h h') (ho : h'.get? S = some o') :
    News h₀ L h' (LedL io iod lex ld pb fs buf wc V H K H1 H2 H3 k1 k2 k3 t1 t2 t3 tt pos st x ((S, o') :: rest)) := by
  refine news_set (pre := [_, _, _, _, _, _]) N ?_ hr hs ho
  simp only [List.mem_cons, List.not_mem_nil, or_false, forall_eq_or_imp, forall_eq] at hS ⊢
  exact hS

theorem TextsAre.push {vs : List Value} {ts : List (List Nat)} (h : TextsAre vs ts) (x : Str) (k : Tok) {t : List Nat} (e : x.cps.toList = t) : TextsAre (vs ++ [.str x k]) (ts ++ [t]) := by
  obtain ⟨l, rfl, rfl⟩ := h
  exact ⟨l ++ [(x, k)], by simp [strValues], by simp [e]⟩
theorem lexAll_len {p : List Nat} {ts : List (List Nat)} (h : LexAll p ts) : 1 ≤ ts.length := by cases h <;> simp
set_option maxHeartbeats 8000000 in
theorem ext_loop {w : World} {p : Program} {loose : List Str} {mean : ExcName → Option Value} {mg mb : Str → Option Value} (dp un : Nat) (gd : Option (List Code)) (cn : Str) (cs : Scope) (a : Addr) (ccd : Value) (outer : List Env) (A₀ : Around) (base h₀ : Heap) (L : Addr) (m : Str → Option Value) (R : Result → Shared → Prop)
    (lex ld io iod pb fs S : Addr) (rest : List (Addr × Obj)) (buf wc : Str) (V : Nat → Tok) (H : Nat → Int) (K : Nat → Tok) (H1 H2 H3 : Int) (k1 k2 k3 t1 t2 : Tok) (res : Value)
    (B : Below A₀ base outer h₀) (X : (hd0.heap_1 w.params).In h₀) (T : Top p loose mean mg mb h₀) (hk : cs.kind = .function)
    (hne1 : ∀ q ∈ rest, q.1 ≠ iod) (hne2 : ∀ q ∈ rest, q.1 ≠ ld) (d1 : io ≠ iod) (d2 : io ≠ ld) (d3 : lex ≠ ld) (d4 : lex ≠ iod) (d5 : iod ≠ ld) (d6 : ld ≠ iod) (d7 : pb ≠ iod) (d8 : fs ≠ iod) (d9 : pb ≠ ld) (d10 : fs ≠ ld) (hS : ∀ b ∈ [io, iod, lex, ld, pb, fs], b ≠ S) (hr : ∀ p ∈ rest, p.1 ≠ S)
    (hdp : dp + 19 < recursionLimit) (hun : un + 201 < cLine) (hb : buf.length ≤ 100000) (hw1 : (!(Builtin.Str.occurrences wc (Str.ofString "'") 0 wc.length 1).isEmpty) = false)
    (post : List Nat) (toks : List (List Nat)) (hx : LexAll post toks) : ∀ (s : Shared) (done : List (List Nat)) (acc : Array Value) (c : Nat) (pre : List Nat) (pos : Int) (t3 tt ts : Tok),
    Fr h₀ L s.heap m → News h₀ L s.heap (LedL io iod lex ld pb fs buf wc V H K H1 H2 H3 k1 k2 k3 t1 t2 t3 tt pos (.str (Str.ofString " ") ts) (Str.ofString "") ((S, listOf acc c) :: rest)) →
    buf.cps.toList = pre ++ post → pos = pre.length → acc.size + toks.length ≤ 1000 → TextsAre acc.toList done →
    (∀ (g h' : Heap) (tk' : Nat) (acc : Array Value) (c : Nat) (t3 tt : Tok) (pos : Int), KtsTurn (outer.filterMap (·.frame)) h₀ g → Fr g L h' m → Below A₀ base outer g →
      News g L h' (LedL io iod lex ld pb fs buf wc V H K H1 H2 H3 k1 k2 k3 t1 t2 t3 tt pos .none (Str.ofString "") ((S, listOf acc c) :: rest)) → TextsAre acc.toList (done ++ toks) → R (.ok (.ret res)) { s with heap := h', toks := tk' }) →
    codeAny (model PySem.Challenge.rw_dn0076_08.row.prog w) (ktrTop dp un gd cn cs L a ccd [] outer) (.builtin "list.extend.loop" ⟨[.ref S, .ref lex, res], []⟩) R s := by
  w_on
  revert X; k_fill; intro X
  have hf : findIn (hd0.heap_1 w.params) (.ref 740) "__next__" = some (some (.ref 737)) := by k_is
  have hi : isFn (hd0.heap_1 w.params) (.ref 737) = true := by k_is
  have hne1' : ∀ o : Obj, ∀ q ∈ (pb, dqObj) :: (fs, dqObj) :: (S, o) :: rest, q.1 ≠ iod := by
    intro o q hq
    simp only [List.mem_cons] at hq hS
    rcases hq with rfl | rfl | rfl | hq
    · exact d7
    · exact d8
    · exact fun e => hS iod (by simp) e.symm
    · exact hne1 q hq
  have hne2' : ∀ o : Obj, ∀ q ∈ (pb, dqObj) :: (fs, dqObj) :: (S, o) :: rest, q.1 ≠ ld := by
    intro o q hq
    simp only [List.mem_cons] at hq hS
    rcases hq with rfl | rfl | rfl | hq
    · exact d9
    · exact d10
    · exact fun e => hS ld (by simp) e.symm
    · exact hne2 q hq
  induction hx with
  | @last p t h =>
    intro s done acc c pre pos t3 tt ts F N hbuf hpos hsz hdone ret
    refine codeAny_builtin _root_.PySem.F.entry_extend_loop ?_
    rw [Around.under_plainId _root_.PySem.F.plain_extend_loop _]
    show wpAny _ (ktrTop dp (un + 1) gd cn cs L a ccd [] outer) (pyNext (.ref lex) >>= _) _ _ s
    have I : InstAt s.heap lex (instObj 740 ld) 740 (some (lexD io pb fs wc V H K (.str (Str.ofString " ") ts) (.str (Str.ofString "") tt))) := InstAt.of_news N (by simp) (by simp)
    refine wpAny_bind (owit_next F X I hf hi ?_)
    refine next_c dp (un + 1) gd cn cs a ccd [] outer A₀ base h₀ L m s _ _ lex ld io iod pb fs ((S, listOf acc c) :: rest) pre p buf wc V H K H1 H2 H3 k1 k2 k3 t1 t2 t3 ts tt pos t none B F X T hk N (hne1' _) (hne2' _) d1 d2 d3 d4 d5 d6 hdp (by omega) hb hbuf hpos hw1 h ?_
    intro tv h' tk' tokS st tt' t3' pre' pos' F' N' htok hst hbuf' hpos'
    obtain rfl : st = .none := hst
    have gS := N' (S, listOf acc c) (by simp)
    have hsz' : acc.size < 1000 := by simp at hsz; omega
    show wpAny _ _ (updateSeq S (·.push (.str tokS tv)) >>= _) _ _ _
    refine wpAny_bind ?_
    refine wpAny_updateSeq gS.1 rfl (wpAny_pure ⟨plainId_quiet _root_.PySem.F.plain_extend_loop _, ?_⟩) (by rw [sizeLine_eq]; omega) (by show (acc.push _).size ≤ _; rw [Array.size_push, sizeLine_eq]; omega)
    have sb : Heap.SameBut S h' (h'.update S (Obj.mapSeq (·.push (.str tokS tv)))) := ⟨by simp [Heap.size_after_update], fun b hb => Heap.get?_update_other _ _ (Ne.symm hb)⟩
    have gS2 : (h'.update S (Obj.mapSeq (·.push (.str tokS tv)))).get? S = some (listOf (acc.push (.str tokS tv)) (c + 1)) := by rw [Heap.get?_update_self _ gS.1 (by show (Obj.mapSeq _ (listOf acc c)).isFreed = false; rw [mapSeq_push]; rfl)]; show some (Obj.mapSeq _ (listOf acc c)) = _; rw [mapSeq_push]
    have F2 := F'.change sb gS.2.1 gS.2.2
    have N2 := ledL_set N' hS hr sb gS2
    refine codeAny_builtin _root_.PySem.F.entry_extend_loop ?_
    rw [Around.under_plainId _root_.PySem.F.plain_extend_loop _]
    show wpAny _ (ktrTop dp (un + 1) gd cn cs L a ccd [] outer) (pyNext (.ref lex) >>= _) _ _ _
    have I2 : InstAt (h'.update S (Obj.mapSeq (·.push (.str tokS tv)))) lex (instObj 740 ld) 740 (some (lexD io pb fs wc V H K .none (.str (Str.ofString "") tt'))) := InstAt.of_news N2 (by simp) (by simp)
    refine wpAny_bind (owit_next F2 X I2 hf hi ?_)
    refine next_e dp (un + 1) gd cn cs a ccd [] outer A₀ base h₀ L m _ _ _ lex ld io iod pb fs ((S, _) :: rest) buf wc (Str.ofString "") V H K H1 H2 H3 k1 k2 k3 t1 t2 t3' tt' pos' B F2 X T hk N2 (hne1' _) (hne2' _) d1 d2 d3 d4 d5 d6 hdp (by omega) hb (by rw [hpos']; simp [Str.length] at hbuf' ⊢; rw [← Array.length_toList, hbuf']) ?_
    intro e t h3 tk3 g tt3 Fg hR hsm
    obtain ⟨⟨Bh, hB, hBG, hl, hfl, _⟩, _⟩ := hR
    have hfl' := flyingW_base hB hfl
    obtain ⟨ob, hob, hobc⟩ := hfl'.there
    have hL : Bh.get? L = none := by
      obtain ⟨_, ⟨L', _, hf, hn', _⟩, _⟩ := hfl.2.2.1
      obtain rfl : L = L' := Option.some.inj hf
      exact hn'
    obtain ⟨h₀', T', F3, B3⟩ := kts_ground B Fg hBG hfl.1 hsm
    unfold OwitStop
    refine wpAny_isInstance (b := true) ⟨ob, hob, hobc⟩ (by rw [isSubtype_type]; kernel_rfl) ?_
    show (if true = true then _ else _)
    rw [if_pos rfl]
    refine wpAny_pure ?_
    have N3 : News h₀' L h3 (LedL io iod lex ld pb fs buf wc V H K H1 H2 H3 k1 k2 k3 t1 t2 t3' tt3 pos' .none (Str.ofString "") ((S, listOf (acc.push (.str tokS tv)) (c + 1)) :: rest)) :=
      fun q hq => ⟨hfl.1 _ _ (hl q hq).1, (fun z => by have := (hl q hq).1; rw [z, hL] at this; cases this), T'.none_ _ (kts_none Fg.keep (hl q hq).2.1)⟩
    exact ret _ _ _ _ _ _ _ _ T' F3 B3 N3 (by rw [Array.toList_push]; exact hdone.push tokS tv htok)
  | @more p t r us h hx2 ih =>
    intro s done acc c pre pos t3 tt ts F N hbuf hpos hsz hdone ret
    refine codeAny_builtin _root_.PySem.F.entry_extend_loop ?_
    rw [Around.under_plainId _root_.PySem.F.plain_extend_loop _]
    show wpAny _ (ktrTop dp (un + 1) gd cn cs L a ccd [] outer) (pyNext (.ref lex) >>= _) _ _ s
    have I : InstAt s.heap lex (instObj 740 ld) 740 (some (lexD io pb fs wc V H K (.str (Str.ofString " ") ts) (.str (Str.ofString "") tt))) := InstAt.of_news N (by simp) (by simp)
    refine wpAny_bind (owit_next F X I hf hi ?_)
    refine next_c dp (un + 1) gd cn cs a ccd [] outer A₀ base h₀ L m s _ _ lex ld io iod pb fs ((S, listOf acc c) :: rest) pre p buf wc V H K H1 H2 H3 k1 k2 k3 t1 t2 t3 ts tt pos t (some r) B F X T hk N (hne1' _) (hne2' _) d1 d2 d3 d4 d5 d6 hdp (by omega) hb hbuf hpos hw1 h ?_
    intro tv h' tk' tokS st tt' t3' pre' pos' F' N' htok hst hbuf' hpos'
    obtain ⟨ts', rfl⟩ : ∃ ts', st = .str (Str.ofString " ") ts' := hst
    have gS := N' (S, listOf acc c) (by simp)
    have hl1 : acc.size < 1000 := by simp at hsz; omega
    show wpAny _ _ (updateSeq S (·.push (.str tokS tv)) >>= _) _ _ _
    refine wpAny_bind ?_
    refine wpAny_updateSeq gS.1 rfl (wpAny_pure ⟨plainId_quiet _root_.PySem.F.plain_extend_loop _, ?_⟩) (by rw [sizeLine_eq]; omega) (by show (acc.push _).size ≤ _; rw [Array.size_push, sizeLine_eq]; omega)
    have sb : Heap.SameBut S h' (h'.update S (Obj.mapSeq (·.push (.str tokS tv)))) := ⟨by simp [Heap.size_after_update], fun b hb => Heap.get?_update_other _ _ (Ne.symm hb)⟩
    have gS2 : (h'.update S (Obj.mapSeq (·.push (.str tokS tv)))).get? S = some (listOf (acc.push (.str tokS tv)) (c + 1)) := by rw [Heap.get?_update_self _ gS.1 (by show (Obj.mapSeq _ (listOf acc c)).isFreed = false; rw [mapSeq_push]; rfl)]; show some (Obj.mapSeq _ (listOf acc c)) = _; rw [mapSeq_push]
    have F2 := F'.change sb gS.2.1 gS.2.2
    have N2 := ledL_set N' hS hr sb gS2
    refine ih { s with heap := h'.update S (Obj.mapSeq (·.push (.str tokS tv))), toks := tk' } (done ++ [t]) (acc.push (.str tokS tv)) (c + 1) pre' pos' t3' tt' ts' F2 N2 hbuf' hpos' (by simp at hsz ⊢; omega) (by rw [Array.toList_push]; exact hdone.push tokS tv htok) ?_
    intro g h3 tk3 acc3 c3 t33 tt3 pos3 T3 F3 B3 N3 hd3
    exact ret g h3 tk3 acc3 c3 t33 tt3 pos3 T3 F3 B3 N3 (by simpa using hd3)
set_option maxHeartbeats 8000000 in
theorem iter_c {w : World} {p : Program} {loose : List Str} {mean : ExcName → Option Value} {mg mb : Str → Option Value}
    (dp un : Nat) (gd : Option (List Code)) (cn : Str) (cs : Scope) (a : Addr) (ccd : Value) (cl : List (Str × Addr)) (outer : List Env) (A₀ : Around) (base h₀ : Heap) (L : Addr) (m : Str → Option Value) (s : Shared) (Q E : Value → Shared → Prop)
    (lex ld : Addr) (ledger : List (Addr × Obj))
    (B : Below A₀ base outer h₀) (F : Fr h₀ L s.heap m) (X : (hd0.heap_1 w.params).In h₀)
    (T : Top p loose mean mg mb h₀) (hk : cs.kind = .function) (N : News h₀ L s.heap ledger) (hdp : dp + 5 < recursionLimit) (hun : un + 60 < cLine)
    (ret : ∀ (h' : Heap) (tk' : Nat), Fr h₀ L h' m → News h₀ L h' ledger → Q (.ref lex) { s with heap := h', toks := tk' }) :
    wpAny (model PySem.Challenge.rw_dn0076_08.row.prog w) (ktrTop dp un gd cn cs L a ccd cl outer) (call (.ref 730) [.ref lex]) Q E s := by
  w_on
  revert X; k_fill; intro X
  refine wpAny_call ?_
  k_dflt (refine' code_def ?k1 ?k2 ?k3 ?k4 ?k5 ?kA ?kF ?kK ?k6 ?k7 ?k8 ?k9 ?kB ?_ ?c2 ?c3 ?c4 ?c5; (case kA => exact rfl); (case kF => exact rfl); (case kK => assumption); (case k1 => k_asm); (case k2 => k_asm); (case k3 => k_asm); (case k4 => k_asm); (case k5 => k_asm); (case k6 => k_is); (case k7 => k_is); (case k8 => k_room); (case k9 => first | exact BindsTo.of_eq rfl | exact binds_K (by k_in) rfl (by k_is) rfl rfl rfl); (case c5 => decide); (case kB => exact locs rfl); (case c2 => exact rfl); (case c3 => exact rfl); (case c4 => exact rfl))
  intro g' L' h' FG' F' N' B' X' T'
  (try dsimp only)
  (try k_fold)
  k_steps
  all_goals exact ret _ _ (by assumption) (by assumption)
set_option maxHeartbeats 8000000 in
theorem list_lex {w : World} {p : Program} {loose : List Str} {mean : ExcName → Option Value} {mg mb : Str → Option Value} (dp un : Nat) (gd : Option (List Code)) (cn : Str) (cs : Scope) (a : Addr) (ccd : Value) (outer : List Env) (A₀ : Around) (base h₀ : Heap) (L : Addr) (m : Str → Option Value) (s : Shared) (Q E : Value → Shared → Prop)
    (lex ld io iod pb fs : Addr) (rest : List (Addr × Obj)) (buf wc : Str) (V : Nat → Tok) (H : Nat → Int) (K : Nat → Tok) (H1 H2 H3 : Int) (k1 k2 k3 t1 t2 t3 tt ts : Tok)
    (B : Below A₀ base outer h₀) (X : (hd0.heap_1 w.params).In h₀) (T : Top p loose mean mg mb h₀) (hk : cs.kind = .function) (F : Fr h₀ L s.heap m)
    (N : News h₀ L s.heap (LedL io iod lex ld pb fs buf wc V H K H1 H2 H3 k1 k2 k3 t1 t2 t3 tt 0 (.str (Str.ofString " ") ts) (Str.ofString "") rest))
    (hne1 : ∀ q ∈ rest, q.1 ≠ iod) (hne2 : ∀ q ∈ rest, q.1 ≠ ld) (d1 : io ≠ iod) (d2 : io ≠ ld) (d3 : lex ≠ ld) (d4 : lex ≠ iod) (d5 : iod ≠ ld) (d6 : ld ≠ iod) (d7 : pb ≠ iod) (d8 : fs ≠ iod) (d9 : pb ≠ ld) (d10 : fs ≠ ld)
    (hdp : dp + 19 < recursionLimit) (hun : un + 203 < cLine) (hb : buf.length ≤ 100000) (hw1 : (!(Builtin.Str.occurrences wc (Str.ofString "'") 0 wc.length 1).isEmpty) = false)
    (toks : List (List Nat)) (hx : LexAll buf.cps.toList toks) (hsz : toks.length ≤ 1000)
    (ret : ∀ (S : Addr) (g h' : Heap) (tk' : Nat) (acc : Array Value) (c : Nat) (t3 tt : Tok) (pos : Int), KtsTurn (outer.filterMap (·.frame)) h₀ g → Fr g L h' m → Below A₀ base outer g →
      News g L h' (LedL io iod lex ld pb fs buf wc V H K H1 H2 H3 k1 k2 k3 t1 t2 t3 tt pos .none (Str.ofString "") ((S, listOf acc c) :: rest)) → TextsAre acc.toList toks → Q (.ref S) { s with heap := h', toks := tk' }) :
    wpAny (model PySem.Challenge.rw_dn0076_08.row.prog w) (ktrTop dp un gd cn cs L a ccd [] outer) (call (.type "list") [.ref lex]) Q E s := by
  w_on
  revert X; k_fill; intro X
  have hf : findIn (hd0.heap_1 w.params) (.ref 740) "__iter__" = some (some (.ref 730)) := by k_is
  have hi : isFn (hd0.heap_1 w.params) (.ref 730) = true := by k_is
  have hfn : findIn (hd0.heap_1 w.params) (.ref 740) "__next__" = some (some (.ref 737)) := by k_is
  have hl1 : findIn (hd0.heap_1 w.params) (.ref 740) "__len__" = some none := by k_is
  have hl2 : findIn (hd0.heap_1 w.params) (.ref 740) "__length_hint__" = some none := by k_is
  have hlt : ∀ b ∈ [io, iod, lex, ld, pb, fs], b < s.heap.objs.size := by
    have z := fun b o (hb : (b, o) ∈ LedL io iod lex ld pb fs buf wc V H K H1 H2 H3 k1 k2 k3 t1 t2 t3 tt 0 (.str (Str.ofString " ") ts) (Str.ofString "") rest) => Heap.lt_size (N (b, o) hb).1
    intro b hb
    simp only [List.mem_cons, List.not_mem_nil, or_false] at hb
    rcases hb with rfl | rfl | rfl | rfl | rfl | rfl
    · exact z _ _ (.head _)
    · exact z _ _ (.tail _ (.head _))
    · exact z _ _ (.tail _ (.tail _ (.head _)))
    · exact z _ _ (.tail _ (.tail _ (.tail _ (.head _))))
    · exact z _ _ (.tail _ (.tail _ (.tail _ (.tail _ (.head _)))))
    · exact z _ _ (.tail _ (.tail _ (.tail _ (.tail _ (.tail _ (.head _))))))
  have hrl : ∀ p ∈ rest, p.1 < s.heap.objs.size := fun p hp => Heap.lt_size (N p (by simp [hp])).1
  refine callType_codes (Q₁ := fun obj s₁ => obj = .ref s.heap.objs.size ∧ s₁ = { s with heap := s.heap.push { cls := .type "list", data := .seq #[] } }) _root_.PySem.F.called_list (_root_.PySem.F.typeCall_list_1 _) _root_.PySem.F.entry_list_init
    (code_list_new _ ⟨rfl, rfl⟩) fun obj s₁ h₁ => ?_
  obtain ⟨rfl, rfl⟩ := h₁
  have hS0 : (s.heap.push { cls := .type "list", data := .seq #[] }).get? s.heap.objs.size = some (listOf #[] 0) := Heap.get?_push_size _ rfl
  have F1 := F.push (listOf #[] 0)
  have N1 : News h₀ L (s.heap.push (listOf #[] 0)) (LedL io iod lex ld pb fs buf wc V H K H1 H2 H3 k1 k2 k3 t1 t2 t3 tt 0 (.str (Str.ofString " ") ts) (Str.ofString "") ((s.heap.objs.size, listOf #[] 0) :: rest)) := by
    have z := News.push F N (listOf #[] 0)
    intro q hq
    refine z q ?_
    simp only [List.mem_cons] at hq ⊢
    rcases hq with h | h | h | h | h | h | h | h
    · exact .inr (.inl h)
    · exact .inr (.inr (.inl h))
    · exact .inr (.inr (.inr (.inl h)))
    · exact .inr (.inr (.inr (.inr (.inl h))))
    · exact .inr (.inr (.inr (.inr (.inr (.inl h)))))
    · exact .inr (.inr (.inr (.inr (.inr (.inr (.inl h))))))
    · exact .inl h
    · exact .inr (.inr (.inr (.inr (.inr (.inr (.inr h))))))
  have hSS : ∀ b ∈ [io, iod, lex, ld, pb, fs], b ≠ s.heap.objs.size := fun b hb => Nat.ne_of_lt (hlt b hb)
  have hrS : ∀ p ∈ rest, p.1 ≠ s.heap.objs.size := fun p hp => Nat.ne_of_lt (hrl p hp)
  generalize hSe : s.heap.objs.size = S at *
  refine ⟨⟨_, hS0, rfl⟩, _root_.PySem.F.args_list_init_2 _ _, ?_⟩
  show wpAny _ (ktrTop dp (un + 2) gd cn cs L a ccd [] outer) (do let old ← Builtin.List.listItems (.ref S); Builtin.List.listUpdate (.ref S) (fun _ => #[]); letGo old.toList.reverse; Builtin.List.listExtendWith (.ref S) (.ref lex) .none) _ _ _
  refine wpAny_bind ?_
  unfold Builtin.List.listItems
  refine wpAny_bind (wpAny_seqItems hS0 rfl (wpAny_pure ?_))
  show wpAny _ _ (updateSeq S (fun _ => #[]) >>= fun _ => letGo (#[] : Array Value).toList.reverse >>= fun _ => Builtin.List.listExtendWith (.ref S) (.ref lex) .none) _ _ _
  refine wpAny_bind (wpAny_updateSeq hS0 rfl ?_ (by rw [sizeLine_eq]; exact Nat.le_of_ble_eq_true rfl) (by rw [sizeLine_eq]; exact Nat.le_of_ble_eq_true rfl))
  obtain ⟨c2, hc2⟩ : ∃ c, Obj.mapSeq (fun _ => (#[] : Array Value)) (listOf #[] 0) = listOf #[] c := ⟨_, rfl⟩
  have sb : Heap.SameBut S (s.heap.push (listOf #[] 0)) ((s.heap.push (listOf #[] 0)).update S (Obj.mapSeq (fun _ => (#[] : Array Value)))) := Heap.SameBut.update ..
  have gS2 : ((s.heap.push (listOf #[] 0)).update S (Obj.mapSeq (fun _ => (#[] : Array Value)))).get? S = some (listOf #[] c2) := by rw [Heap.get?_update_self _ hS0 (by rw [hc2]; rfl), hc2]
  have F2 := F1.change sb (N1 (S, listOf #[] 0) (by simp)).2.1 (N1 (S, listOf #[] 0) (by simp)).2.2
  have N2 := ledL_set N1 hSS hrS sb gS2
  generalize (s.heap.push (listOf #[] 0)).update S (Obj.mapSeq (fun _ => (#[] : Array Value))) = hB at *
  refine wpAny_bind (wpAny_letGo ?_)
  unfold Builtin.List.listExtendWith
  have I : ∀ {h : Heap} {m' : Str → Option Value}, Fr h₀ L h m' → News h₀ L h (LedL io iod lex ld pb fs buf wc V H K H1 H2 H3 k1 k2 k3 t1 t2 t3 tt 0 (.str (Str.ofString " ") ts) (Str.ofString "") ((S, listOf #[] c2) :: rest)) →
      InstAt h lex (instObj 740 ld) 740 (some (lexD io pb fs wc V H K (.str (Str.ofString " ") ts) (.str (Str.ofString "") tt))) := fun _ N => InstAt.of_news N (by simp) (by simp)
  refine wpAny_bind ((I F2 N2).type.here ?_)
  have h1 : Builtin.List.listSameRef (.ref S) (.ref lex) = false := by
    have := hSS lex (by simp)
    simp [Builtin.List.listSameRef, Ne.symm this]
  have h2 : (Value.ref 740 == Value.type "list") = false := by decide
  have h3 : (Value.ref 740 == Value.type "tuple") = false := by decide
  simp only [h1, h2, h3, Bool.or_false, Bool.false_eq_true, if_false]
  refine wpAny_bind (owit_iter F2 X (I F2 N2) hf hi ?_)
  refine iter_c dp (un + 2) gd cn cs a ccd [] outer A₀ base h₀ L m _ _ _ lex ld _ B F2 X T hk N2 (by omega) (by omega) ?_
  intro h3 tk3 F3 N3
  refine owit_it F3 X (I F3 N3) hfn ?_
  have X3 := X.keeps F3.keep
  refine wpAny_bind (wpAny_holding ?_)
  unfold Builtin.List.listLengthHint
  refine wpAny_bind (wpAny_bind ((I F3 N3).type.here ((looks_findIn X3 hl1).here ?_)))
  refine wpAny_bind (wpAny_bind ((I F3 N3).type.here ((looks_findIn X3 hl2).here ?_)))
  refine wpAny_pure ?_
  show wpAny _ _ (rule "list.extend.makes-room" >>= fun _ => Builtin.List.listTouch (.ref S) >>= fun _ =>
    again (.builtin "list.extend.loop" ⟨[.ref S, .ref lex, .none], []⟩)) _ _ _
  refine wpAny_bind (wpAny_rule ?_)
  have gS3 := N3 (S, listOf #[] c2) (by simp)
  refine wpAny_bind ?_
  show wpAny _ _ (updateSeq S (·.push .none) >>= fun _ => updateSeq S (·.pop)) _ _ _
  refine wpAny_bind (wpAny_updateSeq gS3.1 rfl ?_ (by rw [sizeLine_eq]; exact Nat.le_of_ble_eq_true rfl) (by rw [sizeLine_eq]; exact Nat.le_of_ble_eq_true rfl))
  obtain ⟨c4, hc4⟩ : ∃ c, Obj.mapSeq (·.push Value.none) (listOf #[] c2) = listOf #[.none] c := ⟨_, mapSeq_push ..⟩
  have sb4 : Heap.SameBut S h3 (h3.update S (Obj.mapSeq (·.push Value.none))) := Heap.SameBut.update ..
  have gS4 : (h3.update S (Obj.mapSeq (·.push Value.none))).get? S = some (listOf #[.none] c4) := by rw [Heap.get?_update_self _ gS3.1 (by show (Obj.mapSeq _ (listOf #[] c2)).isFreed = false; rw [hc4]; rfl)]; show some (Obj.mapSeq _ (listOf #[] c2)) = _; rw [hc4]
  have F4 := F3.change sb4 gS3.2.1 gS3.2.2
  have N4 := ledL_set N3 hSS hrS sb4 gS4
  generalize h3.update S (Obj.mapSeq (·.push Value.none)) = hC at *
  refine wpAny_updateSeq gS4 rfl ?_ (by rw [sizeLine_eq]; exact Nat.le_of_ble_eq_true rfl) (by rw [sizeLine_eq]; exact Nat.le_of_ble_eq_true rfl)
  obtain ⟨c5, hc5⟩ : ∃ c, Obj.mapSeq (·.pop) (listOf #[.none] c4) = listOf #[] c := ⟨_, rfl⟩
  have sb5 : Heap.SameBut S hC (hC.update S (Obj.mapSeq (·.pop))) := Heap.SameBut.update ..
  have gS5 : (hC.update S (Obj.mapSeq (·.pop))).get? S = some (listOf #[] c5) := by rw [Heap.get?_update_self _ gS4 (by rw [hc5]; rfl), hc5]
  have F5 := F4.change sb5 gS3.2.1 gS3.2.2
  have N5 := ledL_set N4 hSS hrS sb5 gS5
  generalize hC.update S (Obj.mapSeq (·.pop)) = hD at *
  refine wpAny_pure ⟨plainId_quiet _root_.PySem.F.plain_extend_loop _, ?_⟩
  refine ext_loop dp (un + 1) gd cn cs a ccd outer A₀ base h₀ L m _ lex ld io iod pb fs S rest buf wc V H K H1 H2 H3 k1 k2 k3 t1 t2 .none B X T hk hne1 hne2 d1 d2 d3 d4 d5 d6 d7 d8 d9 d10 hSS hrS hdp (by omega) hb hw1 buf.cps.toList toks hx
    _ [] #[] c5 [] 0 t3 tt ts F5 N5 (by simp) rfl (by simpa using hsz) ⟨[], rfl, rfl⟩ ?_
  intro g h' tk' acc c t3 tt pos T6 F6 B6 N6 hd6
  exact ⟨rfl, ret S g h' tk' acc c t3 tt pos T6 F6 B6 N6 (by simpa using hd6)⟩

end
section
local macro_rules | `(tactic| walk_at "no step 0") => `(tactic| fail)
local macro_rules | `(tactic| walk_at "no step 1") => `(tactic| fail)
local macro_rules | `(tactic| walk_at "no step 2") => `(tactic| fail)
local macro_rules | `(tactic| walk_at "no step 3") => `(tactic| fail)
local macro_rules | `(tactic| walk_at "no step 4") => `(tactic| fail)
local macro_rules | `(tactic| walk_at "no step 5") => `(tactic| fail)
local macro_rules | `(tactic| walk_at "no step 6") => `(tactic| fail)
local macro_rules | `(tactic| walk_at "no step 7") => `(tactic| fail)
local macro_rules | `(tactic| walk_at "no step 8") => `(tactic| fail)
local macro_rules | `(tactic| walk_at "no step 9") => `(tactic| fail)
local macro_rules | `(tactic| walk_at "no step 10") => `(tactic| fail)
local macro_rules | `(tactic| walk_at "no step 11") => `(tactic| fail)
local macro_rules | `(tactic| walk_at "no step 12") => `(tactic| fail)
local macro_rules | `(tactic| walk_at "no step 13") => `(tactic| fail)
local macro_rules | `(tactic| walk_at "no step 14") => `(tactic| fail)
local macro_rules | `(tactic| walk_at "no step 15") => `(tactic| fail)
local macro_rules | `(tactic| walk_at "no step 16") => `(tactic| fail)
local macro_rules | `(tactic| walk_at "no step 17") => `(tactic| fail)
local macro_rules | `(tactic| walk_at "no step 18") => `(tactic| fail)
local macro_rules | `(tactic| walk_at "no step 19") => `(tactic| fail)
local macro_rules | `(tactic| walk_at "no step 20") => `(tactic| fail)
local macro_rules | `(tactic| walk_at "no step 21") => `(tactic| fail)
local macro_rules | `(tactic| walk_at "no step 22") => `(tactic| fail)
local macro_rules | `(tactic| walk_at "no step 23") => `(tactic| fail)
section
open Builtin Builtin.ObjectAttr Builtin.Getset_descriptor
variable {prog : Program} {w : World} {A : Around} {E : Value → Shared → Prop} {s : Shared} {K : Frag} {C L fI fN : Addr} {h₀ : Heap} {m : Str → Option Value} {news : List (Addr × Obj)} {oc : Value} {od : Option Addr} {cd : ClassData} {sl : Array (Option Value)}
set_option maxHeartbeats 4000000 in
theorem onew_own {Q : Value → Shared → Prop} (F : Fr h₀ L s.heap m) (X₀ : K.In h₀) (N : News h₀ L s.heap news) (ho : K.lookup C = some ⟨oc, od, .cls cd, sl⟩) (hd : cd.hasDel = false) (ha : cd.abstract = false)
    (hb : ∀ S, peek K S (Bind.staticBase (.ref C)) = some (.type "object")) (hb2 : ∀ S, peek K S (Bind.madeBy (.type "object")) = some (some "object.__new__")) (ht : ∀ S, peek K S (isInstance (.ref C) (.type "type")) = some true) (ht2 : ∀ S, peek K S (isSubtype (.ref C) (.type "object")) = some true)
    (h : ∀ x dx h', Fr h₀ L h' m → News h₀ L h' ((x, instObj C dx) :: (dx, dictOf [] 0) :: news) → (∀ p ∈ news, p.1 < dx) → dx < x → Q (.ref x) { s with heap := h' }) :
    wpAny (model prog w) A (call (.builtin "object.__new__") [.ref C]) Q E s := by
  have X := X₀.keeps F.keep
  have base : Looks (model prog w) s.heap (Bind.staticBase (.ref C)) (.type "object") := Looks.of_peek X (hb _)
  have made : Looks (model prog w) s.heap (Bind.madeBy (.type "object")) (some "object.__new__") := Looks.of_peek X (hb2 _)
  have here : Looks (model prog w) s.heap (Bind.madeHere "object.__new__" (.ref C)) () := base.andThen (made.andThen (Looks.of_pure (by simp only [Option.map_some, bne_self_eq_false, Bool.false_eq_true, if_false])))
  have typ : Looks (model prog w) s.heap (isInstance (.ref C) (.type "type")) true := Looks.of_peek X (ht _)
  have top : Looks (model prog w) s.heap (isSubtype (.ref C) (.type "object")) true := Looks.of_peek X (ht2 _)
  have hC := X _ _ ho
  have h1 := h _ s.heap.objs.size _ ((F.push emptyDict).push (instObj C s.heap.objs.size)) (by have := (N.push F emptyDict).push (F.push _) (instObj C s.heap.objs.size); rwa [Heap.size_push] at this) (fun p hp => Heap.lt_size (N p hp).1) (Nat.lt_succ_self _)
  clear h
  obtain ⟨h, g, d, t, os⟩ := s
  dsimp only at *
  refine wpAny_call ?_
  have F := PySem.F.objNew
  refine codeAny_call_builtin_code (Code.quiet_builtin _ F.quiet) ?_
  simp only [checkBuiltinCall, F.kind, F.split, F.row]
  have args : Bind.checkArgs "object.__new__" ⟨.hand, "object.__new__", "__new__", .cls, []⟩ ⟨[.ref C], []⟩ = pure () := by kernel_rfl
  rw [args]
  repeat (first | simp only [bne_self_eq_false, Bool.false_eq_true, if_false] | lk)
  refine codeAny_builtin F.entry ?_
  unfold Builtin.«object.__new__»
  have hC2 : ((h.push { cls := Value.type "dict", data := Data.dict #[] }).push { cls := Value.ref C, dict := some h.objs.size }).get? C = some ⟨oc, od, .cls cd, sl⟩ := Heap.get?_push_of_some _ (Heap.get?_push_of_some _ hC)
  repeat (first | simp only [ha, hd, Bool.false_eq_true, if_false] | exact h1 | lk)
  show Q _ _
  rw [Heap.size_push]
  exact h1

def NewBack (prog : Program) (w : World) (A : Around) (K : Frag) (C fI : Addr) (pos : List Value) (kw : List (Str × Value)) (Q E : Value → Shared → Prop) (v : Value) (s' : Shared) : Prop :=
  ∃ x dx, v = .ref x ∧ K.In s'.heap ∧ s'.heap.get? x = some (instObj C dx) ∧ codeAny (model prog w) A (.call (.ref fI) ⟨.ref x :: pos, kw⟩) (InitBack x fun r s' => match r with | .ok (.ret v) => Q v s' | .ok _ => False | .error e => E e s') s'
theorem newBack_ {x dx : Addr} {pos : List Value} {kw : List (Str × Value)} {Q : Value → Shared → Prop} (F : Fr h₀ L s.heap m) (X₀ : K.In h₀) (N : News h₀ L s.heap news) (hm : (x, instObj C dx) ∈ news)
    (h : codeAny (model prog w) A (.call (.ref fI) ⟨.ref x :: pos, kw⟩) (InitBack x fun r s' => match r with | .ok (.ret v) => Q v s' | .ok _ => False | .error e => E e s') s) : NewBack prog w A K C fI pos kw Q E (.ref x) s :=
  ⟨x, dx, rfl, X₀.keeps F.keep, (N _ hm).1, h⟩
set_option maxHeartbeats 4000000 in
theorem own_make {pos : List Value} {kw : List (Str × Value)} {Q : Value → Shared → Prop} (F : Fr h₀ L s.heap m) (X₀ : K.In h₀) (ho : K.lookup C = some ⟨oc, od, .cls cd, sl⟩) (hne : cd.mro.isEmpty = false)
    (hcall : ∀ S, peek K S (specialOf (.ref C) "__call__") = some (some (.builtin "type.__call__"))) (ht : ∀ S, peek K S (isInstance (.ref C) (.type "type")) = some true)
    (hmade : ∀ S, peek K S (Bind.madeBy (.ref C)) = some none) (hself : ∀ S, peek K S (isSubtype (.ref C) (.ref C)) = some true) (hi : findIn K (.ref C) "__init__" = some (some (.ref fI))) (hf : isFn K (.ref fI) = true)
    (h : wpAny (model prog w) (A.under (.builtin "type.__call__" ⟨.ref C :: pos, kw⟩)) (getAttr (.ref C) "__new__") (fun f s₁ =>
      wpAny (model prog w) (A.under (.builtin "type.__call__" ⟨.ref C :: pos, kw⟩)) (call f (.ref C :: pos) kw) (NewBack prog w (A.under (.builtin "type.__call__" ⟨.ref C :: pos, kw⟩)) K C fI pos kw Q E) E s₁) E s) :
    wpAny (model prog w) A (call (.ref C) pos kw) Q E s := by
  have X := X₀.keeps F.keep
  have call : Looks (model prog w) s.heap (specialOf (.ref C) "__call__") (some (.builtin "type.__call__")) := Looks.of_peek X (hcall _)
  have typ : Looks (model prog w) s.heap (isInstance (.ref C) (.type "type")) true := Looks.of_peek X (ht _)
  have made : Looks (model prog w) s.heap (Bind.madeBy (.ref C)) none := Looks.of_peek X (hmade _)
  have hC := X _ _ ho
  refine wpAny_call (codeAny_of_tree ?_)
  show wpAny _ _ (callAny (.ref C) _) _ _ _
  refine nd_load hC ?_
  show wpAny _ _ (callAny.viaDunder (.ref C) _) _ _ _
  unfold callAny.viaDunder
  refine wpAny_bind (call.at ?_)
  dsimp only
  rw [tc_bind]
  refine wpAny_bind (wpAny_pure (wpAny_bind (wpAny_pure ?_)))
  refine wpAny_pure (a := Fin.again (.call (.builtin "type.__call__") ⟨.ref C :: pos, kw⟩)) (And.intro rfl ?_)
  refine codeAny_call_builtin_at (Code.quiet_builtin _ (by decide +kernel)) entry_typeCall (check_slot tc_kind tc_split typ (tc_args _ _ _) ?_)
  unfold Builtin.«type.__call__»
  generalize hga : @getAttr = ga at h ⊢
  have hm : Looks (model prog w) s.heap (mroOf (.ref C)) cd.mro := ((Looks.ld (part := none) hC).andThen .now).andThen .now
  repeat (first | simp only [hne, Bool.false_eq_true, if_false] | lk)
  refine wpAny_mono h (fun f s₁ h₁ => ?_) (fun _ _ e => e)
  refine wpAny_bind (wpAny_holding (wpAny_mono h₁ (fun v s₂ h₂ => ?_) fun _ _ e => e))
  obtain ⟨x, dx, rfl, X2, hx, hq⟩ := h₂
  have t1 : Looks (model prog w) s₂.heap (typeOf (.ref x)) (.ref C) := (Looks.ld hx).andThen .now
  have s1 : Looks (model prog w) s₂.heap (isSubtype (.ref C) (.ref C)) true := Looks.of_peek X2 (hself _)
  have i1 : Looks (model prog w) s₂.heap (typeLookup (.ref C) "__init__") (some (.ref fI)) := looks_findIn X2 hi
  have b1 : Looks (model prog w) s₂.heap (bindSpecial (.ref fI) (.ref x)) (.ref fI, [.ref x]) := bind_fn X2 _ (beq_iff_eq.mp hf)
  unfold isInstance callSpecial? specialOf
  repeat (first | with_reducible refine wpAny_call ?_ | lk)
  refine codeAny_mono hq fun r s' z => ?_
  rcases r with e | (v | _ | _ | _) <;> first | exact z | exact z.elim | skip
  obtain ⟨rfl, z⟩ := z
  exact wpAny_pure (wpAny_pure z)
end

end
section
theorem news_reord {h₀ h : Heap} {L : Addr} {a b c d e f g i : Addr × Obj} {l : List (Addr × Obj)} (N : News h₀ L h (a :: b :: c :: d :: e :: f :: g :: i :: l)) : News h₀ L h (c :: d :: g :: i :: b :: a :: e :: f :: l) := by
  intro q hq
  refine N q ?_
  simp only [List.mem_cons] at hq ⊢
  rcases hq with h | h | h | h | h | h | h | h | h
  · exact .inr (.inr (.inl h))
  · exact .inr (.inr (.inr (.inl h)))
  · exact .inr (.inr (.inr (.inr (.inr (.inr (.inl h))))))
  · exact .inr (.inr (.inr (.inr (.inr (.inr (.inr (.inl h)))))))
  · exact .inr (.inl h)
  · exact .inl h
  · exact .inr (.inr (.inr (.inr (.inl h))))
  · exact .inr (.inr (.inr (.inr (.inr (.inl h)))))
  · exact .inr (.inr (.inr (.inr (.inr (.inr (.inr (.inr h)))))))
theorem news_short {h₀ h : Heap} {L : Addr} {a b c d e f g i j x : Addr × Obj} {l : List (Addr × Obj)} (N : News h₀ L h (a :: b :: c :: d :: e :: f :: x :: g :: i :: l)) : News h₀ L h (x :: l) := by
  intro q hq
  refine N q ?_
  simp only [List.mem_cons] at hq ⊢
  rcases hq with h | h
  · exact .inr (.inr (.inr (.inr (.inr (.inr (.inl h))))))
  · exact .inr (.inr (.inr (.inr (.inr (.inr (.inr (.inr (.inr h))))))))
set_option maxHeartbeats 8000000 in
theorem list_lexN {w : World} {p : Program} {loose : List Str} {mean : ExcName → Option Value} {mg mb : Str → Option Value} {dp un : Nat} {gd : Option (List Code)} {cn : Str} {cs : Scope} {a : Addr} {ccd : Value} {outer : List Env} {A₀ : Around} {base h₀ : Heap} {L : Addr} {m : Str → Option Value} {s : Shared} {Q E : Value → Shared → Prop}
    {lex ld io iod pb fs Ca Da : Addr} {Co Do : Obj} {ledger : List (Addr × Obj)} {buf wc : Str} {H1 H2 H3 : Int} {k1 k2 k3 t1 t2 t3 tt ts : Tok} {q0 q1 q2 q3 q4 q5 q6 q7 q8 q9 q10 q11 q12 q13 q14 q15 q16 q17 q18 : Int} {c0 c1 c2 c3 c4 c5 c6 c7 c8 c9 c10 c11 c12 c13 c14 c15 c16 c17 c18 : Tok} {v4 v5 v6 v8 v9 v10 v13 v14 v18 : Tok}
    (B : Below A₀ base outer h₀) (X : (hd0.heap_1 w.params).In h₀) (T : Top p loose mean mg mb h₀) (hk : cs.kind = .function) (F : Fr h₀ L s.heap m)
    (N : News h₀ L s.heap ((fs, dqObj) :: (pb, dqObj) :: (io, instObj 605 iod) :: (iod, ioD H1 H2 H3 k1 k2 k3 t1 t2 t3 buf 0) :: (Da, Do) :: (Ca, Co) :: (lex, instObj 740 ld) ::
      (ld, dictOf [⟨q0, .str (Str.ofString "instream") c0, .ref io⟩, ⟨q1, .str (Str.ofString "infile") c1, .none⟩, ⟨q2, .str (Str.ofString "posix") c2, .bool true⟩, ⟨q3, .str (Str.ofString "eof") c3, .none⟩, ⟨q4, .str (Str.ofString "commenters") c4, .str (Str.ofString "") v4⟩, ⟨q5, .str (Str.ofString "wordchars") c5, .str wc v5⟩, ⟨q6, .str (Str.ofString "whitespace") c6, .str (Str.ofString " \t\r\n") v6⟩, ⟨q7, .str (Str.ofString "whitespace_split") c7, .bool true⟩, ⟨q8, .str (Str.ofString "quotes") c8, .str (Str.ofString "'\"") v8⟩, ⟨q9, .str (Str.ofString "escape") c9, .str (Str.ofString "\\") v9⟩, ⟨q10, .str (Str.ofString "escapedquotes") c10, .str (Str.ofString "\"") v10⟩, ⟨q11, .str (Str.ofString "state") c11, .str (Str.ofString " ") ts⟩, ⟨q12, .str (Str.ofString "pushback") c12, .ref pb⟩, ⟨q13, .str (Str.ofString "lineno") c13, .int 1 v13⟩, ⟨q14, .str (Str.ofString "debug") c14, .int 0 v14⟩, ⟨q15, .str (Str.ofString "token") c15, .str (Str.ofString "") tt⟩, ⟨q16, .str (Str.ofString "filestack") c16, .ref fs⟩, ⟨q17, .str (Str.ofString "source") c17, .none⟩, ⟨q18, .str (Str.ofString "_punctuation_chars") c18, .str (Str.ofString "") v18⟩] 19) :: ledger))
    (hll : ∀ p ∈ ledger, p.1 < ld) (l1 : ld < lex) (l2 : lex < iod) (l3 : iod < io) (l4 : io < pb) (l5 : pb < fs) (l6 : ld < Ca) (l7 : ld < Da) (l8 : Ca < iod) (l9 : Da < iod)
    (hw1 : (!(Builtin.Str.occurrences wc (Str.ofString "'") 0 wc.length 1).isEmpty) = false) (hdp : dp + 19 < recursionLimit) (hun : un + 203 < cLine) (hb : buf.length ≤ 100000) 
    (toks : List (List Nat)) (hx : LexAll buf.cps.toList toks) (hsz : toks.length ≤ 1000)
    (ret : ∀ (S : Addr) (g h' : Heap) (tk' : Nat) (acc : Array Value) (c : Nat), KtsTurn (outer.filterMap (·.frame)) h₀ g → Fr g L h' m → Below A₀ base outer g →
      News g L h' ((S, listOf acc c) :: ledger) → TextsAre acc.toList toks → Q (.ref S) { s with heap := h', toks := tk' }) :
    wpAny (model PySem.Challenge.rw_dn0076_08.row.prog w) (ktrTop dp un gd cn cs L a ccd [] outer) (call (.type "list") [.ref lex]) Q E s := by
  have z2 : ld < iod := Nat.lt_trans l1 l2
  have z3 : ld < io := Nat.lt_trans z2 l3
  have z4 : iod < pb := Nat.lt_trans l3 l4
  have z5 : iod < fs := Nat.lt_trans z4 l5
  have z6 : ld < pb := Nat.lt_trans z3 l4
  have z7 : ld < fs := Nat.lt_trans z6 l5
  refine list_lex dp un gd cn cs a ccd outer A₀ base h₀ L m s Q E lex ld io iod pb fs ((Da, Do) :: (Ca, Co) :: ledger) buf wc (fun n => ([0, 0, 0, 0, v4, v5, v6, 0, v8, v9, v10, 0, 0, v13, v14, 0, 0, 0, v18] : List Nat).getD n 0) (fun n => ([q0, q1, q2, q3, q4, q5, q6, q7, q8, q9, q10, q11, q12, q13, q14, q15, q16, q17, q18] : List Int).getD n 0) (fun n => ([c0, c1, c2, c3, c4, c5, c6, c7, c8, c9, c10, c11, c12, c13, c14, c15, c16, c17, c18] : List Nat).getD n 0) H1 H2 H3 k1 k2 k3 t1 t2 t3 tt ts
    B X T hk F (news_reord N) ?_ ?_ (Nat.ne_of_gt l3) (Nat.ne_of_gt z3) (Nat.ne_of_gt l1) (Nat.ne_of_lt l2) (Nat.ne_of_gt z2) (Nat.ne_of_lt z2) (Nat.ne_of_gt z4) (Nat.ne_of_gt z5) (Nat.ne_of_gt z6) (Nat.ne_of_gt z7) hdp hun hb hw1 toks hx hsz ?_
  · intro q hq
    simp only [List.mem_cons] at hq
    rcases hq with rfl | rfl | hq
    · exact Nat.ne_of_lt l9
    · exact Nat.ne_of_lt l8
    · exact Nat.ne_of_lt (Nat.lt_trans (hll q hq) z2)
  · intro q hq
    simp only [List.mem_cons] at hq
    rcases hq with rfl | rfl | hq
    · exact Nat.ne_of_gt l7
    · exact Nat.ne_of_gt l6
    · exact Nat.ne_of_lt (hll q hq)
  · intro S g h' tk' acc c t3 tt pos T' F' B' N' hd
    exact ret S g h' tk' acc c T' F' B' (news_short (j := (0, Co)) N') hd

end
section
local macro_rules | `(tactic| walk_at "no step 0") => `(tactic| fail)
local macro_rules | `(tactic| walk_at "no step 1") => `(tactic| fail)
local macro_rules | `(tactic| walk_at "no step 2") => `(tactic| fail)
local macro_rules | `(tactic| walk_at "no step 3") => `(tactic| fail)
local macro_rules | `(tactic| walk_at "no step 4") => `(tactic| fail)
local macro_rules | `(tactic| walk_at "no step 5") => `(tactic| fail)
local macro_rules | `(tactic| walk_at "no step 6") => `(tactic| fail)
local macro_rules | `(tactic| walk_at "no step 7") => `(tactic| fail)
local macro_rules | `(tactic| walk_at "no step 8") => `(tactic| fail)
local macro_rules | `(tactic| walk_at "no step 9") => `(tactic| fail)
local macro_rules | `(tactic| walk_at "no step 10") => `(tactic| fail)
local macro_rules | `(tactic| walk_at "no step 11") => `(tactic| fail)
local macro_rules | `(tactic| walk_at "no step 12") => `(tactic| fail)
local macro_rules | `(tactic| walk_at "no step 13") => `(tactic| fail)
local macro_rules | `(tactic| walk_at "no step 14") => `(tactic| fail)
local macro_rules | `(tactic| walk_at "no step 15") => `(tactic| fail)
local macro_rules | `(tactic| walk_at "no step 16") => `(tactic| fail)
local macro_rules | `(tactic| walk_at "no step 17") => `(tactic| fail)
local macro_rules | `(tactic| walk_at "no step 18") => `(tactic| fail)
local macro_rules | `(tactic| walk_at "no step 19") => `(tactic| fail)
local macro_rules | `(tactic| walk_at "no step 20") => `(tactic| fail)
local macro_rules | `(tactic| walk_at "no step 21") => `(tactic| fail)
local macro_rules | `(tactic| walk_at "no step 22") => `(tactic| fail)
local macro_rules | `(tactic| walk_at "no step 23") => `(tactic| fail)
local macro_rules | `(tactic| walk_at "call ref") => `(tactic| (k_here; (with_reducible show wpAny _ _ (PySem.call (Value.ref 605) _ _) _ _ _); k_dflt
  (refine' own_make ?rF ?rX ?ro ?rn ?rc ?rt ?rm ?rs ?ri ?rf ?_; (case rF => k_asm); (case rX => k_asm); (case ro => k_is); (case rn => exact rfl); (case rc => (intro _; kernel_rfl)); (case rt => (intro _; kernel_rfl)); (case rm => (intro _; kernel_rfl)); (case rs => (intro _; kernel_rfl)); (case ri => k_is); (case rf => k_is); (try dsimp only))))
local macro_rules | `(tactic| walk_at "call builtin:object.__new__") => `(tactic| (k_here; (with_reducible show wpAny _ _ (PySem.call (Value.builtin "object.__new__") [Value.ref _] _) _ _ _); k_dflt
  (refine' onew_own ?rF ?rX ?rN ?ro ?rd ?ra ?rb ?rc ?rt ?ru ?_; (case rF => k_asm); (case rX => k_asm); (case rN => k_asm); (case ro => k_is); (case rd => exact rfl); (case ra => exact rfl); (case rb => (intro _; kernel_rfl)); (case rc => (intro _; kernel_rfl)); (case rt => (intro _; kernel_rfl)); (case ru => (intro _; kernel_rfl)); (intro x' d' h' F' N' l1 l2); (try k_lt l1); (try k_lt2 l2); (try k_sweep))))
local macro_rules | `(tactic| walk_at "NewBack") => `(tactic| (k_dflt (refine' newBack_ ?rF ?rX ?rN ?rm ?_; (case rF => k_asm); (case rX => k_asm); (case rN => k_asm); (case rm => k_mem)); k_enter))
local macro_rules | `(tactic| walk_at "call type:collections.deque") => `(tactic| (k_here; k_dflt
  (refine' call_deque ?rF ?rN ?_; (case rF => k_asm); (case rN => k_asm); (intro d' h' F' N' l1); (try k_lt l1); (try k_sweep))))
local macro_rules | `(tactic| walk_at "call type:list") => `(tactic| (k_here; (with_reducible show wpAny _ _ (PySem.call (Value.type "list") [Value.ref _] _) _ _ _); k_dflt
  (refine' list_lexN ?rB ?rX ?rT ?rk ?rF ?rN ?ll ?l1 ?l2 ?l3 ?l4 ?l5 ?l6 ?l7 ?l8 ?l9 ?rw ?rd ?ru ?rb _ ?hx ?hz ?_; (case rF => k_asm); (case rB => k_asm); (case rX => k_asm); (case rT => k_asm); (case rk => exact rfl); (case rN => k_asm); (case hx => assumption); (case hz => assumption); (case rb => assumption); (case rd => k_room); (case ru => k_room); (case rw => decide +kernel); (case ll => assumption); (case l1 => (show @LT.lt Nat _ _ _; omega)); (case l2 => (show @LT.lt Nat _ _ _; omega)); (case l3 => (show @LT.lt Nat _ _ _; omega)); (case l4 => (show @LT.lt Nat _ _ _; omega)); (case l5 => (show @LT.lt Nat _ _ _; omega)); (case l6 => (show @LT.lt Nat _ _ _; omega)); (case l7 => (show @LT.lt Nat _ _ _; omega)); (case l8 => (show @LT.lt Nat _ _ _; omega)); (case l9 => (show @LT.lt Nat _ _ _; omega)); (intro S9 g9 h9 tk9 acc9 c9 T9 F9 B9 N9 hd9); (try dsimp only); (try k_fold))))
set_option maxHeartbeats 8000000 in
theorem split_c {w : World} {p : Program} {loose : List Str} {mean : ExcName → Option Value} {mg mb : Str → Option Value} (dp un : Nat) (gd : Option (List Code)) (cn : Str) (cs : Scope) (a : Addr) (ccd : Value) (A₀ : Around) (base h₀ : Heap) (L : Addr) (m : Str → Option Value) (s : Shared) (Q E : Value → Shared → Prop)
    (line : Str) (t : Tok) (ledger : List (Addr × Obj))
    (B : Below A₀ base [] h₀) (F : Fr h₀ L s.heap m) (X : (hd0.heap_1 w.params).In h₀)
    (T : Top p loose mean mg mb h₀) (hk : cs.kind = .function) (N : News h₀ L s.heap ledger) (hdp : dp + 40 < recursionLimit) (hun : un + 400 < cLine)
    (toks : List (List Nat)) (hx : LexAll line.cps.toList toks) (hsz : toks.length ≤ 1000) (hb : line.length ≤ 100000)
    (ret : ∀ (S : Addr) (h' : Heap) (tk' : Nat) (acc : Array Value) (c : Nat), Fr h₀ L h' m → News h₀ L h' ((S, listOf acc c) :: ledger) → TextsAre acc.toList toks → Q (.ref S) { s with heap := h', toks := tk' }) :
    wpAny (model PySem.Challenge.rw_dn0076_08.row.prog w) (ktrTop dp un gd cn cs L a ccd [] []) (call (.ref 752) [.str line t]) Q E s := by
  w_on
  revert X; k_fill; intro X
  refine wpAny_call ?_
  k_dflt (refine' code_defS0 ?k1 ?k2 ?k3 ?k4 ?k5 ?kA ?k6 ?k7 ?k8 ?k9 ?kB ?_ ?cK ?c2 ?c3 ?c4 ?c5; (case kA => exact rfl); (case k2 => k_asm); (case k1 => k_asm); (case k3 => k_asm); (case k4 => k_asm); (case k5 => k_asm); (case k6 => k_is); (case k7 => k_is); (case k8 => k_room); (case k9 => first | exact binds_K (by k_in) rfl (by k_is) rfl rfl rfl | exact BindsTo.of_eq rfl); (case kB => exact locs rfl); (case cK => assumption); (case c2 => exact rfl); (case c3 => exact rfl); (case c4 => exact rfl); (case c5 => decide))
  intro g' L' h' FG' F' N' B' X' T' D'
  (try dsimp only)
  (try k_fold)
  clear D'
  k_steps
  all_goals exact ret _ _ _ _ _ (by assumption) (by assumption) (by assumption)

end
section
section
open Builtin.Re
noncomputable def uCode : Array Nat := #[14, 17, 4, 1, 1, 21, 9, 0, 604043296, 1, 0, 0, 0, 0, 0, 8, 4, 0, 13, 14, 21, 9, 0, 604043296, 1, 0, 0, 0, 0, 0, 8, 4, 0, 1]
noncomputable def uBit (c : Nat) : Bool := decide (c < 256) && (uCode.getD (6 + (1 + c / 32)) 0).testBit (c % 32)
noncomputable def uBit2 (c : Nat) : Bool := decide (c < 256) && (uCode.getD (21 + (1 + c / 32)) 0).testBit (c % 32)
theorem u_safe : ∀ c, c < 128 → (uBit c || Sre.isWord c) = safeL.contains c ∧ (uBit2 c || Sre.isWord c) = safeL.contains c := by decide +kernel
theorem u_in (c : Nat) (seen : Sre.Seen) : ∃ s1, Sre.inSet uCode c 34 5 true seen = .ok (!(uBit c || Sre.isWord c), s1) := by
  have e : Sre.inSet uCode c 34 5 true seen = if uBit c then .ok (false, (((seen.add 21)).add 9)) else if Sre.isWord c then .ok (false, ((((seen.add 21)).add 9).add 8).add 59) else .ok (true, (((((seen.add 21)).add 9).add 8).add 59).add 0) := by
    have e2 : Sre.inSet uCode c 34 5 true seen = if uBit c then .ok (false, (((seen.add 21)).add 9)) else (do if ← Sre.category 4 c then pure (false, ((((seen.add 21)).add 9).add 8).add 59) else Except.ok (true, (((((seen.add 21)).add 9).add 8).add 59).add 0)) := rfl
    rw [e2]
    have e3 : Sre.category 4 c = .ok (Sre.isWord c) := by
      show Except.ok (Sre.isWord c != false) = _
      cases Sre.isWord c <;> rfl
    rw [e3]
    rfl
  rw [e]
  cases uBit c <;> cases Sre.isWord c <;> exact ⟨_, rfl⟩
theorem u_in2 (c : Nat) (seen : Sre.Seen) : ∃ s1, Sre.accepts uCode 18 c seen = .ok (!(uBit2 c || Sre.isWord c), s1) := by
  have e : Sre.accepts uCode 18 c seen = if uBit2 c then .ok (false, (((seen.add 21)).add 9)) else if Sre.isWord c then .ok (false, ((((seen.add 21)).add 9).add 8).add 59) else .ok (true, (((((seen.add 21)).add 9).add 8).add 59).add 0) := by
    have e2 : Sre.accepts uCode 18 c seen = if uBit2 c then .ok (false, (((seen.add 21)).add 9)) else (do if ← Sre.category 4 c then pure (false, ((((seen.add 21)).add 9).add 8).add 59) else Except.ok (true, (((((seen.add 21)).add 9).add 8).add 59).add 0)) := rfl
    rw [e2]
    have e3 : Sre.category 4 c = .ok (Sre.isWord c) := by
      show Except.ok (Sre.isWord c != false) = _
      cases Sre.isWord c <;> rfl
    rw [e3]
    rfl
  rw [e]
  cases uBit2 c <;> cases Sre.isWord c <;> exact ⟨_, rfl⟩
theorem u_adm (m : Sre.M) (hc : m.code = uCode) (l : List Nat) (ht : m.text = l.toArray) (hl : m.lim = l.length) (ha : ∀ c ∈ l, c < 128) : ∀ (fuel s : Nat) (seen : Sre.Seen), l.length + 1 ≤ s + fuel →
    ((∀ k, s ≤ k → k < l.length → safeL.contains (l.getD k 0) = true) ∧ ∃ s1, Sre.M.admitted m fuel s seen = .ok (none, s1)) ∨ (∃ k s1, s ≤ k ∧ k < l.length ∧ safeL.contains (l.getD k 0) = false ∧ Sre.M.admitted m fuel s seen = .ok (some k, s1))
  | 0, s, seen, h => .inl ⟨fun k h1 h2 => by omega, seen, rfl⟩
  | fuel + 1, s, seen, h => by
    unfold Sre.M.admitted
    by_cases hs : s ≥ l.length
    · refine .inl ⟨fun k h1 h2 => by omega, seen, ?_⟩
      rw [if_pos (by rw [hl]; exact hs)]
    · rw [if_neg (by rw [hl]; exact hs), hc, ht]
      have hg : (l.toArray : Array Nat).getD s 0 = l.getD s 0 := by simp
      rw [hg]
      have hc128 : l.getD s 0 < 128 := by
        have hlt : s < l.length := by omega
        rw [List.getD_eq_getElem?_getD, List.getElem?_eq_getElem hlt]
        exact ha _ (List.getElem_mem hlt)
      obtain ⟨s1, e⟩ := u_in (l.getD s 0) seen
      rw [show uCode.size = 34 from rfl, e, (u_safe _ hc128).1]
      cases hb : safeL.contains (l.getD s 0) with
      | true =>
        rcases u_adm m hc l ht hl ha fuel (s + 1) s1 (by omega) with ⟨h1, s2, h2⟩ | ⟨k, s2, h1, h2, h3, h4⟩
        · refine .inl ⟨fun k hk1 hk2 => ?_, s2, h2⟩
          by_cases hks : k = s
          · rw [hks]; exact hb
          · exact h1 k (by omega) hk2
        · exact .inr ⟨k, s2, by omega, h2, h3, h4⟩
      | false => exact .inr ⟨s, s1, Nat.le_refl _, by omega, hb, rfl⟩
noncomputable def uM (l : List Nat) (last : Nat) : Sre.M := { code := uCode, text := l.toArray, lim := l.length, start := 0, lastStart := last, pc := 18, pos := 0, handed := 0, marks := Array.replicate 0 none, mustAdvance := false, seen := ({} : Sre.Seen).add 14 }
theorem u_run (l : List Nat) (ha : ∀ c ∈ l, c < 128) :
    (l.all safeL.contains = true ∧ ((Sre.forSearch uCode l.toArray 0 0 l.length false).runFor 4).outcome = some .failed) ∨
    (l.all safeL.contains = false ∧ ((Sre.forSearch uCode l.toArray 0 0 l.length false).runFor 4).outcome = some .matched) := by
  have e1 : Sre.forSearch uCode l.toArray 0 0 l.length false = if (decide (0 > l.length) || decide (l.length - 0 < 1)) = true then (uM l 0).say false else (uM l l.length).attemptFrom 0 true := rfl
  rw [e1]
  by_cases h0 : l.length = 0
  · have : l = [] := List.eq_nil_of_length_eq_zero h0
    subst this
    exact .inl ⟨rfl, rfl⟩
  · rw [if_neg (by
      intro hh
      rcases Bool.or_eq_true_iff.mp hh with q | q
      · exact absurd (of_decide_eq_true q) (Nat.not_lt_zero _)
      · have q := of_decide_eq_true q; omega)]
    have e2 : (uM l l.length).attemptFrom 0 true = match Sre.M.admitted (uM l l.length) (l.length + 1 - 0) 0 (({} : Sre.Seen).add 14) with
      | .ok (some s, seen) => Sre.M.attemptAt { uM l l.length with mustAdvance := false, seen } s true
      | .ok (none, seen) => Sre.M.say { uM l l.length with seen } false
      | .error why => (uM l l.length).stick why := rfl
    rw [e2]
    rcases u_adm (uM l l.length) rfl l rfl rfl ha (l.length + 1 - 0) 0 (({} : Sre.Seen).add 14) (by omega) with ⟨h1, s1, e⟩ | ⟨k, s1, h1, h2, h3, e⟩
    · refine .inl ⟨?_, by rw [e]; rfl⟩
      rw [List.all_eq_true]
      intro c hc
      obtain ⟨k, hk, rfl⟩ := List.mem_iff_getElem.mp hc
      have := h1 k (Nat.zero_le _) hk
      rwa [List.getD_eq_getElem?_getD, List.getElem?_eq_getElem hk, Option.getD_some] at this
    · have hmem : l.getD k 0 ∈ l := by
        rw [List.getD_eq_getElem?_getD, List.getElem?_eq_getElem h2, Option.getD_some]
        exact List.getElem_mem h2
      refine .inr ⟨?_, ?_⟩
      · cases hq : l.all safeL.contains with
        | false => rfl
        | true => have := List.all_eq_true.mp hq _ hmem; rw [h3] at this; cases this
      · rw [e]
        show (Sre.M.runFor 4 (Sre.M.attemptAt { uM l l.length with mustAdvance := false, seen := s1 } k true)).outcome = _
        have e4 : Sre.M.runFor 4 (Sre.M.attemptAt { uM l l.length with mustAdvance := false, seen := s1 } k true) = Sre.M.runFor 3 (Sre.M.step (Sre.M.attemptAt { uM l l.length with mustAdvance := false, seen := s1 } k true)) := rfl
        rw [e4]
        have e5 : ∃ X : Sre.M, Sre.M.step (Sre.M.attemptAt { uM l l.length with mustAdvance := false, seen := s1 } k true) = (if k ≥ l.length then X.say false else match Sre.accepts uCode 18 (l.toArray.getD k 0) (s1.add 13) with
          | .error why => X.stick why
          | .ok (false, seen) => Sre.M.say { X with seen } false
          | .ok (true, seen) => { X with seen, pc := 33, pos := k + 1 }) ∧ X.outcome = none ∧ X.answer = none ∧ X.code = uCode ∧ X.lim = l.length ∧ X.wholeText = false ∧ X.mustAdvance = false ∧ X.frames = [({ wait := .nextStart, pc := 18, pos := k, outermost := true } : Sre.Frame)] := ⟨_, rfl, rfl, rfl, rfl, rfl, rfl, rfl, rfl⟩
        obtain ⟨X, e6, x1, x2, x3, x4, x5, x6, x7⟩ := e5
        rw [e6, if_neg (by omega)]
        obtain ⟨s2, e7⟩ := u_in2 (l.toArray.getD k 0) (s1.add 13)
        rw [e7, show (l.toArray : Array Nat).getD k 0 = l.getD k 0 by simp, (u_safe _ (ha _ hmem)).2, h3]
        show (Sre.M.runFor 3 { X with seen := s2, pc := 33, pos := k + 1 }).outcome = _
        obtain ⟨c0, t0, li, st, la, wt, ma, pc, po, hd, om, mk, lm, lx, lo, inn, fr, we, an, se, oc⟩ := X
        dsimp only at x1 x2 x3 x4 x5 x6 x7
        subst x1 x2 x3 x4 x5 x6 x7
        cases om <;> rfl
theorem reDrive_one {m : Sre.M} (h : (m.runFor 4).outcome.isSome = true) : reDrive (2 ^ 64) m = pure (m.runFor 4) := by
  rw [show (2 : Nat) ^ 64 = (2 ^ 64 - 1) + 1 from rfl]
  unfold reDrive
  exact if_pos h
theorem seen_loop {M : Model} {A : Around} {E : Value → Shared → Prop} {s : Shared} {Q : PUnit → Shared → Prop} (b : Nat → Bool) (nm : Nat → String) (h : Q PUnit.unit s) : ∀ l : List Nat,
    wpAny M A (forIn l PUnit.unit (fun i _ => if b i = true then (rule (nm i) >>= fun _ => pure (ForInStep.yield PUnit.unit)) else pure (ForInStep.yield PUnit.unit)) : Sem PUnit) Q E s
  | [] => wpAny_pure h
  | i :: l => by
    rw [List.forIn_cons]
    refine wpAny_bind ?_
    split
    · exact wpAny_bind (wpAny_rule (wpAny_pure (seen_loop b nm h l)))
    · exact wpAny_pure (seen_loop b nm h l)
theorem run_end {M : Model} {A : Around} {E : Value → Shared → Prop} {s : Shared} {Q : Option Sre.M → Shared → Prop} {m : Sre.M} {yes : Bool} (h0 : (m.runFor 4).outcome = some (if yes then .matched else .failed)) (h : Q (if yes then some (m.runFor 4) else none) s) :
    wpAny M A (reRunToEnd m) Q E s := by
  unfold reRunToEnd
  rw [reDrive_one (by rw [h0]; rfl)]
  refine wpAny_bind (wpAny_pure (wpAny_bind ?_))
  refine seen_loop (fun i => (m.runFor 4).seen.has i) (fun i => Sre.names.getD i "") ?_ _
  rw [h0]
  cases yes <;> exact wpAny_pure h
theorem plain_search : plainId "re.Pattern.search" = true := by decide +kernel
theorem entry_search : entryFor table "re.Pattern.search" = some Builtin.«re.Pattern.search» := entryFor_of_tree (by kernel_rfl)
set_option maxHeartbeats 4000000 in
theorem search_c {w : World} {A : Around} {E : Value → Shared → Prop} {s : Shared} {h₀ : Heap} {L : Addr} {m : Str → Option Value} {Q : Value → Shared → Prop} (x : Str) (t : Tok) (F : Fr h₀ L s.heap m) (X : (hd0.heap_1 w.params).In h₀)
    (ha : ∀ c ∈ x.cps.toList, c < 128) (hb : x.length ≤ 100000)
    (h1 : x.cps.toList.all safeL.contains = true → Q .none s)
    (h2 : x.cps.toList.all safeL.contains = false → ∀ (r : Addr) (o1 o2 : Obj), Q (.ref r) { s with heap := (s.heap.push o1).push o2 }) :
    wpAny (model PySem.Challenge.rw_dn0076_08.row.prog w) A (PySem.call (.ref 760) [.str x t]) Q E s := by
  w_on
  revert X; k_fill; intro X
  have X2 := X.keeps F.keep
  have ho : List.lookup 760 (hd0.heap_1 w.params) = some ⟨.type "builtin_function_or_method", none, .fields #[.builtin "re.Pattern.search", .ref 57], #[]⟩ := by kernel_rfl
  have hc : ∀ S, peek (hd0.heap_1 w.params) S (checkBoundCall "re.Pattern.search" ⟨[.ref 57, .str x t], []⟩) = some () := by intro S; kernel_rfl
  have ht : ∀ S, peek (hd0.heap_1 w.params) S (reTarget "re.Pattern.search" "search" ⟨[.ref 57, .str x t], []⟩) = some { pattern := .ref 57, string := .str x t, code := uCode, text := x.cps, kind := 0, groups := 0, pos := min 0 x.cps.size, lim := min ((2 ^ 63 - 1 : Int)).toNat x.cps.size } := by intro S; kernel_rfl
  refine wpAny_call (codeAny_of_tree ?_)
  show wpAny _ _ (callAny (.ref 760) _) _ _ _
  refine nd_load (X2 _ _ ho) ?_
  show wpAny _ _ (checkBoundCall "re.Pattern.search" ⟨[.ref 57, .str x t], []⟩ >>= fun _ => again (.builtin "re.Pattern.search" ⟨[.ref 57, .str x t], []⟩)) _ _ _
  refine wpAny_bind ((Looks.of_peek X2 (hc _)).here ?_)
  refine wpAny_pure ⟨plainId_quiet plain_search _, codeAny_builtin entry_search ?_⟩
  rw [Around.under_plainId plain_search _]
  unfold Builtin.«re.Pattern.search»
  refine wpAny_bind ((Looks.of_peek X2 (ht _)).here ?_)
  unfold reAnswer
  have hl : min ((2 ^ 63 - 1 : Int)).toNat x.cps.size = x.cps.toList.length := by
    rw [Array.length_toList]
    refine Nat.min_eq_right ?_
    have : x.cps.size ≤ 100000 := hb
    exact Nat.le_trans this (by decide)
  have hp : min 0 x.cps.size = 0 := Nat.zero_min _
  dsimp only
  rw [hl, hp]
  have hx : x.cps = x.cps.toList.toArray := by simp
  rw [show (Sre.forSearch uCode x.cps 0 0 x.cps.toList.length false) = Sre.forSearch uCode x.cps.toList.toArray 0 0 x.cps.toList.length false by rw [← hx]]
  rcases u_run x.cps.toList ha with ⟨hs, ho⟩ | ⟨hs, ho⟩
  · refine wpAny_bind (run_end (yes := false) ho ?_)
    exact wpAny_pure (h1 hs)
  · refine wpAny_bind (run_end (yes := true) ho ?_)
    unfold reNewMatch newFields newTuple
    refine wpAny_bind (wpAny_bind (wpAny_newObj_type ?_ (Nat.le_of_ble_eq_true rfl)))
    refine wpAny_newObj_type ?_
    exact wpAny_pure (h2 hs _ _ _)
end

end
section
local macro_rules | `(tactic| walk_at "no step 0") => `(tactic| fail)
local macro_rules | `(tactic| walk_at "no step 1") => `(tactic| fail)
local macro_rules | `(tactic| walk_at "no step 2") => `(tactic| fail)
local macro_rules | `(tactic| walk_at "no step 3") => `(tactic| fail)
local macro_rules | `(tactic| walk_at "no step 4") => `(tactic| fail)
local macro_rules | `(tactic| walk_at "no step 5") => `(tactic| fail)
local macro_rules | `(tactic| walk_at "no step 6") => `(tactic| fail)
local macro_rules | `(tactic| walk_at "no step 7") => `(tactic| fail)
local macro_rules | `(tactic| walk_at "no step 8") => `(tactic| fail)
local macro_rules | `(tactic| walk_at "no step 9") => `(tactic| fail)
local macro_rules | `(tactic| walk_at "no step 10") => `(tactic| fail)
local macro_rules | `(tactic| walk_at "no step 11") => `(tactic| fail)
local macro_rules | `(tactic| walk_at "no step 12") => `(tactic| fail)
local macro_rules | `(tactic| walk_at "no step 13") => `(tactic| fail)
local macro_rules | `(tactic| walk_at "no step 14") => `(tactic| fail)
local macro_rules | `(tactic| walk_at "no step 15") => `(tactic| fail)
local macro_rules | `(tactic| walk_at "no step 16") => `(tactic| fail)
local macro_rules | `(tactic| walk_at "no step 17") => `(tactic| fail)
local macro_rules | `(tactic| walk_at "no step 18") => `(tactic| fail)
local macro_rules | `(tactic| walk_at "no step 19") => `(tactic| fail)
local macro_rules | `(tactic| walk_at "no step 20") => `(tactic| fail)
local macro_rules | `(tactic| walk_at "no step 21") => `(tactic| fail)
local macro_rules | `(tactic| walk_at "no step 22") => `(tactic| fail)
local macro_rules | `(tactic| walk_at "no step 23") => `(tactic| fail)
noncomputable def quoteL (l : List Nat) : List Nat := if l = [] then [39, 39] else if l.all safeL.contains = true then l else [39] ++ (l.flatMap fun c => if c = 39 then [39, 34, 39, 34, 39] else [c]) ++ [39]
theorem flat_free (z : List Nat) : ∀ l : List Nat, 39 ∉ l → (l.flatMap fun c => if c = 39 then z else [c]) = l
  | [], _ => rfl
  | k :: r, h => by
    have h1 : ¬ k = 39 := fun e => h (e ▸ List.mem_cons_self ..)
    rw [List.flatMap_cons, if_neg h1, flat_free z r fun m => h (List.mem_cons_of_mem _ m)]
    rfl
theorem flat_join (z : Str) : ∀ parts : List Str, (∀ p ∈ parts, 39 ∉ p.cps.toList) → ((Str.join ⟨#[39]⟩ parts).cps.toList.flatMap fun c => if c = 39 then z.cps.toList else [c]) = (Str.join z parts).cps.toList
  | [], _ => rfl
  | [p], h => flat_free _ _ (h p (List.mem_singleton.mpr rfl))
  | p :: q :: r, h => by
    have ih := flat_join z (q :: r) fun a ha => h a (List.mem_cons_of_mem _ ha)
    show ((p ++ ⟨#[39]⟩ ++ Str.join ⟨#[39]⟩ (q :: r)).cps.toList.flatMap fun c => if c = 39 then z.cps.toList else [c]) = (p ++ z ++ Str.join z (q :: r)).cps.toList
    simp only [Str.cps_append, Array.toList_append, List.flatMap_append]
    rw [ih, flat_free _ _ (h p (List.mem_cons_self ..))]
    simp
theorem rep_flat (x z : Str) : (Txt.replace x (Str.ofString "'") z).cps.toList = x.cps.toList.flatMap fun c => if c = 39 then z.cps.toList else [c] := by
  show (Txt.replace x ⟨#[39]⟩ z).cps.toList = _
  rw [StrLaws.replace_one, ← flat_join z _ (StrLaws.split_free x 39), StrLaws.join_split]
theorem flat_len (z : List Nat) (h : z.length ≤ 5) : ∀ l : List Nat, (l.flatMap fun c => if c = 39 then z else [c]).length ≤ 5 * l.length
  | [] => Nat.le_refl _
  | k :: r => by
    have ih := flat_len z h r
    rw [List.flatMap_cons, List.length_append, List.length_cons]
    split
    · omega
    · simp only [List.length_cons, List.length_nil]; omega
theorem rep_len {x : Str} (h : x.length ≤ 100000) : (Txt.replace x (Str.ofString "'") (Str.ofString "'\"'\"'")).length ≤ 500000 := by
  show (Txt.replace x (Str.ofString "'") (Str.ofString "'\"'\"'")).cps.size ≤ _
  rw [← Array.length_toList, rep_flat]
  have := flat_len (Str.ofString "'\"'\"'").cps.toList (by decide +kernel) x.cps.toList
  have h2 : x.cps.toList.length ≤ 100000 := by rw [Array.length_toList]; exact h
  omega
theorem ne_of_len {x : Str} (h : (x.length : Int) ≠ 0) : x.cps.toList ≠ [] := fun e => h (by
  have : x.length = x.cps.toList.length := by rw [Array.length_toList]; rfl
  rw [this, e]; rfl)
theorem eq_of_len {x : Str} (h : (x.length : Int) = 0) : x.cps.toList = [] := List.eq_nil_of_length_eq_zero (by
  have : x.length = x.cps.toList.length := by rw [Array.length_toList]; rfl
  omega)
theorem quote_1 {x : Str} (h : (x.length : Int) ≠ 0) (hs : x.cps.toList.all safeL.contains = true) : x.cps.toList = quoteL x.cps.toList := by
  unfold quoteL
  rw [if_neg (ne_of_len h), if_pos hs]
theorem quote_2 {x : Str} (h : (x.length : Int) ≠ 0) (hs : x.cps.toList.all safeL.contains = false) : (Str.ofString "'" ++ Txt.replace x (Str.ofString "'") (Str.ofString "'\"'\"'") ++ Str.ofString "'").cps.toList = quoteL x.cps.toList := by
  unfold quoteL
  rw [if_neg (ne_of_len h), if_neg (by rw [hs]; decide)]
  simp only [Str.cps_append, Array.toList_append]
  rw [rep_flat]
  rfl
theorem quote_3 {x : Str} (h : (x.length : Int) = 0) : (Str.ofString "''").cps.toList = quoteL x.cps.toList := by
  unfold quoteL
  rw [if_pos (eq_of_len h)]
  rfl
section
variable {M : Model} {A : Around} {E : Value → Shared → Prop} {s : Shared} {K : Frag} {env : Env} {pos : Pos} {f : Value} {first : List Value} {Q : Value → Shared → Prop}
theorem callWith_P {h₀ : Heap} {e : Expr} {rest : List Expr} (_X : K.In h₀) (hk : ∀ S, peek K S (keeperOf f) = some .machine) (h : wpAny M A (spliced (backTo pos (starEach (e :: rest) env))) (fun vs s₁ => K.In s₁.heap ∧ wpAny M A (call f (first ++ vs)) Q E s₁) E s)
    (he : starEach (e :: rest) env = (false, eval e env) :: starEach rest env := by rfl) (hplain : (backTo pos (starEach rest env)).any (·.1) = false := by rfl) :
    wpAny M A (callWith pos f first (backTo pos (starEach (e :: rest) env)) []) Q E s := by
  rw [he] at h ⊢
  exact callWith_of (by show ((false || (backTo pos (starEach rest env)).any (·.1)) || false) = false; rw [hplain]; rfl) (fun h X => ⟨.machine, .inr (.inl rfl), Looks.of_peek X (hk _)⟩) (Calls.evalArgs_plain h)
end
theorem search_n {w : World} {A : Around} {E : Value → Shared → Prop} {s : Shared} {h₀ : Heap} {L : Addr} {m : Str → Option Value} {news : List (Addr × Obj)} {Q : Value → Shared → Prop} {x : Str} {t : Tok} (F : Fr h₀ L s.heap m) (N : News h₀ L s.heap news) (X : (hd0.heap_1 w.params).In h₀)
    (ha : ∀ c ∈ x.cps.toList, c < 128) (hb : x.length ≤ 100000)
    (h1 : x.cps.toList.all safeL.contains = true → Q .none s)
    (h2 : x.cps.toList.all safeL.contains = false → ∀ (r : Addr) (h' : Heap), Fr h₀ L h' m → News h₀ L h' news → Q (.ref r) { s with heap := h' }) :
    wpAny (model PySem.Challenge.rw_dn0076_08.row.prog w) A (PySem.call (.ref 760) [.str x t]) Q E s :=
  search_c x t F X ha hb h1 fun hs r o1 o2 => h2 hs r _ ((F.push o1).push o2) ((N.pushKeep o1).pushKeep o2)
local macro_rules | `(tactic| walk_at "callWith ref") => `(tactic| (k_here; (with_reducible show wpAny _ _ (callWith _ (Value.ref 760) _ _ _) _ _ _); k_dflt (refine' callWith_P ?k1 ?k2 ?_; (case k1 => k_asm); (case k2 => (intro _; kernel_rfl)); k_whole)))
local macro_rules | `(tactic| walk_at "call ref") => `(tactic| (k_here; (with_reducible show wpAny _ _ (PySem.call (Value.ref 760) _ _) _ _ _); k_dflt
  (refine' search_n ?rF ?rN ?rX ?ra ?rb ?_ ?_; (case rF => k_asm); (case rN => k_asm); (case rX => k_asm); (case ra => assumption); (case rb => assumption)); (first | intro hs8 r8 h8 F8 N8 | intro hs8)))
set_option maxHeartbeats 8000000 in
theorem quote_c {w : World} {p : Program} {loose : List Str} {mean : ExcName → Option Value} {mg mb : Str → Option Value}
    (dp un : Nat) (gd : Option (List Code)) (cn : Str) (cs : Scope) (a : Addr) (ccd : Value) (cl : List (Str × Addr)) (outer : List Env) (A₀ : Around) (base h₀ : Heap) (L : Addr) (m : Str → Option Value) (s : Shared) (Q E : Value → Shared → Prop)
    (x : Str) (t : Tok) (ledger : List (Addr × Obj))
    (B : Below A₀ base outer h₀) (F : Fr h₀ L s.heap m) (X : (hd0.heap_1 w.params).In h₀)
    (T : Top p loose mean mg mb h₀) (hk : cs.kind = .function) (N : News h₀ L s.heap ledger) (hdp : dp + 10 < recursionLimit) (hun : un + 100 < cLine) (ha : ∀ c ∈ x.cps.toList, c < 128) (hb : x.length ≤ 100000)
    (ret : ∀ (t : Tok) (y : Str) (h' : Heap) (tk' : Nat), Fr h₀ L h' m → News h₀ L h' ledger → y.cps.toList = quoteL x.cps.toList → Q (.str y t) { s with heap := h', toks := tk' }) :
    wpAny (model PySem.Challenge.rw_dn0076_08.row.prog w) (ktrTop dp un gd cn cs L a ccd cl outer) (call (.ref 767) [.str x t]) Q E s := by
  w_on
  revert X; k_fill; intro X
  have hrl := rep_len hb
  refine wpAny_call ?_
  k_dflt (refine' code_def ?k1 ?k2 ?k3 ?k4 ?k5 ?kA ?kF ?kK ?k6 ?k7 ?k8 ?k9 ?kB ?_ ?c2 ?c3 ?c4 ?c5; (case kA => exact rfl); (case kF => exact rfl); (case kK => assumption); (case k1 => k_asm); (case k2 => k_asm); (case k3 => k_asm); (case k4 => k_asm); (case k5 => k_asm); (case k6 => k_is); (case k7 => k_is); (case k8 => k_room); (case k9 => first | exact BindsTo.of_eq rfl | exact binds_K (by k_in) rfl (by k_is) rfl rfl rfl); (case c5 => decide); (case kB => exact locs rfl); (case c2 => exact rfl); (case c3 => exact rfl); (case c4 => exact rfl))
  intro g' L' h' FG' F' N' B' X' T'
  (try dsimp only)
  (try k_fold)
  k_steps
  · exact ret _ _ _ _ (by assumption) (by assumption) (quote_1 (by assumption) (by assumption))
  · exact ret _ _ _ _ (by assumption) (by assumption) (quote_2 (by assumption) (by assumption))
  · exact ret _ _ _ _ (by assumption) (by assumption) (quote_3 (by assumption))

end
section
local macro_rules | `(tactic| walk_at "callWith ref") => `(tactic| (k_here; (with_reducible show wpAny _ _ (callWith _ (Value.ref 760) _ _ _) _ _ _); k_dflt (refine' callWith_P ?k1 ?k2 ?_; (case k1 => k_asm); (case k2 => (intro _; kernel_rfl)); k_whole)))
local macro_rules | `(tactic| walk_at "call ref") => `(tactic| (k_here; (with_reducible show wpAny _ _ (PySem.call (Value.ref 760) _ _) _ _ _); k_dflt
  (refine' search_n ?rF ?rN ?rX ?ra ?rb ?_ ?_; (case rF => k_asm); (case rN => k_asm); (case rX => k_asm); (case ra => assumption); (case rb => assumption)); (first | intro hs8 r8 h8 F8 N8 | intro hs8)))
section
variable {prog : Program} {w : World} {A : Around} {s : Shared} {mg mb : Str → Option Value} {K : Frag} {p : Program} {loose : List Str} {mean : ExcName → Option Value}
    {R : Result → Shared → Prop} {name qual : Str} {params : Arguments} {body : List Stmt} {scope : Scope} {dV kV doc pm cdv ct oc : Value} {an od : Option Addr} {osl : Array (Option Value)} {f : Addr} {args : Args} {binds : List (Str × Value)}
theorem code_free (X : K.In s.heap) (T : Top p loose mean mg mb s.heap)
    (ho : K.lookup f = some ⟨oc, od, .func (fnOf name qual params body scope dV kV doc pm an cdv ct), osl⟩) (hcd : codeIn K cdv qual = true) (hroom : A.depth < recursionLimit)
    (hbind : BindsTo s (fnOf name qual params body scope dV kV doc pm an cdv ct) args binds) (hloc : ∀ y ∈ binds, scope.names.lookup y.1 = some .local)
    (h : ∀ L' h₁, L' = s.heap.objs.size → Fr s.heap L' h₁ (fun y => binds.reverse.lookup y) →
      wpAny (model prog w) (A.deeper (envOf qual scope L' f cdv)) (execs body (envOf qual scope L' f cdv))
        (fun fl s' => R (.ok (.ret (match fl with | .ret v => v | _ => .none))) s')
        (fun e s' => wpAny (model prog w) (A.deeper (envOf qual scope L' f cdv)) (leaving (envOf qual scope L' f cdv) e) (fun _ s'' => R (.error e) s'') (fun e' s'' => R (.error e') s'') s')
        { s with heap := h₁, toks := s.toks + binds.length })
    (hco : scope.isCoroutine = false) (hgen : scope.isGenerator = false) (hk : scope.kind = .function)
    (hcell : ∀ x ∈ scope.names, x.2 ≠ .cell) : codeAny (model prog w) A (.call (.ref f) args) R s :=
  codeAny_call_def (fd := fnOf name qual params body scope dV kV doc pm an cdv ct) (body := body) (binds := binds) hroom (X _ _ ho) rfl T.nolimit (codeRec_of X hcd) rfl hbind hcell hloc
    (fun h₁ hns hk₁ => h _ h₁ rfl ⟨hns, hk₁, Nat.le_refl _⟩) hco hgen hk
end
set_option maxHeartbeats 8000000 in
theorem quote_q {w : World} {p : Program} {loose : List Str} {mean : ExcName → Option Value} {mg mb : Str → Option Value} (dp un : Nat) (fr : Option (List Env)) (gd : Option (List Code)) (E : Value → Shared → Prop) (s : Shared)
    (x : Str) (t : Tok) (X : (hd0.heap_1 w.params).In s.heap) (T : Top p loose mean mg mb s.heap) (hdp : dp + 5 < recursionLimit) (hun : un + 60 < cLine) (ha : ∀ c ∈ x.cps.toList, c < 128) (hb : x.length ≤ 100000) :
    wpAny (model PySem.Challenge.rw_dn0076_08.row.prog w) { handled := none, depth := dp, frames := fr, guards := gd, units := un } (PySem.call (.ref 767) [.str x t]) (fun y s₃ => (∃ z u, y = .str z u ∧ z.cps.toList = quoteL x.cps.toList) ∧ Keeps s s₃) E s := by
  w_on
  revert X; k_fill; intro X
  have hrl := rep_len hb
  have ret : ∀ (t : Tok) (y : Str) (h' : Heap) (tk' : Nat) (L : Addr) (m : Str → Option Value), Fr s.heap L h' m → y.cps.toList = quoteL x.cps.toList → (fun y s₃ => (∃ z u, y = Value.str z u ∧ z.cps.toList = quoteL x.cps.toList) ∧ Keeps s s₃) (.str y t) { s with heap := h', toks := tk' } := by
    intro t y h' tk' L m F e
    exact ⟨⟨y, t, rfl, e⟩, h', tk', rfl, F.keep⟩
  generalize (fun (y : Value) (s₃ : Shared) => (∃ z u, y = Value.str z u ∧ z.cps.toList = quoteL x.cps.toList) ∧ Keeps s s₃) = Q at *
  refine wpAny_call ?_
  k_dflt (refine' code_free ?k3 ?k5 ?k6 ?k7 ?k8 ?k9 ?kB ?_ ?c2 ?c3 ?c4 ?c5; (case k3 => assumption); (case k5 => assumption); (case k6 => k_is); (case k7 => k_is); (case k8 => k_room); (case k9 => first | exact BindsTo.of_eq rfl | exact binds_K (by k_in) rfl (by k_is) rfl rfl rfl); (case kB => exact locs rfl); (case c2 => exact rfl); (case c3 => exact rfl); (case c4 => exact rfl); (case c5 => decide))
  intro L' h' eL F'
  have N' : News s.heap L' h' [] := News.nil
  (try dsimp only)
  (try k_fold)
  k_steps
  · show Q _ _; exact ret _ _ _ _ _ _ (by assumption) (quote_1 (by assumption) (by assumption))
  · show Q _ _; exact ret _ _ _ _ _ _ (by assumption) (quote_2 (by assumption) (by assumption))
  · show Q _ _; exact ret _ _ _ _ _ _ (by assumption) (quote_3 (by assumption))

end
section
local macro_rules | `(tactic| walk_at "no step 0") => `(tactic| fail)
local macro_rules | `(tactic| walk_at "no step 1") => `(tactic| fail)
local macro_rules | `(tactic| walk_at "no step 2") => `(tactic| fail)
local macro_rules | `(tactic| walk_at "no step 3") => `(tactic| fail)
local macro_rules | `(tactic| walk_at "no step 4") => `(tactic| fail)
local macro_rules | `(tactic| walk_at "no step 5") => `(tactic| fail)
local macro_rules | `(tactic| walk_at "no step 6") => `(tactic| fail)
local macro_rules | `(tactic| walk_at "no step 7") => `(tactic| fail)
local macro_rules | `(tactic| walk_at "no step 8") => `(tactic| fail)
local macro_rules | `(tactic| walk_at "no step 9") => `(tactic| fail)
local macro_rules | `(tactic| walk_at "no step 10") => `(tactic| fail)
local macro_rules | `(tactic| walk_at "no step 11") => `(tactic| fail)
local macro_rules | `(tactic| walk_at "no step 12") => `(tactic| fail)
local macro_rules | `(tactic| walk_at "no step 13") => `(tactic| fail)
local macro_rules | `(tactic| walk_at "no step 14") => `(tactic| fail)
local macro_rules | `(tactic| walk_at "no step 15") => `(tactic| fail)
local macro_rules | `(tactic| walk_at "no step 16") => `(tactic| fail)
local macro_rules | `(tactic| walk_at "no step 17") => `(tactic| fail)
local macro_rules | `(tactic| walk_at "no step 18") => `(tactic| fail)
local macro_rules | `(tactic| walk_at "no step 19") => `(tactic| fail)
local macro_rules | `(tactic| walk_at "no step 20") => `(tactic| fail)
local macro_rules | `(tactic| walk_at "no step 21") => `(tactic| fail)
local macro_rules | `(tactic| walk_at "no step 22") => `(tactic| fail)
local macro_rules | `(tactic| walk_at "no step 23") => `(tactic| fail)
noncomputable def p0 (p : Program) : Program := { p with main := { p.main with body := [.Import [⟨"sys", none, ⟨0, 0, 0, 0⟩⟩] ⟨0, 0, 0, 0⟩] } }
noncomputable def loose0 (p : Program) (loose : List Str) : List Str := loose ++ (recsOf p).map (·.name) ++ (litsOf p).map (·.1) ++ (clssOf p loose).map (·.name)
theorem top0 {p : Program} {loose : List Str} {mean : ExcName → Option Value} {mg mb : Str → Option Value} {h h' : Heap} (T : Top p loose mean mg mb h) (hns : ∀ a m, h.Ns a m → h'.Ns a m) (hcl : ∀ a o, h.get? a = some o → o.cls = .type "module" → h'.get? a = some o) : Top (p0 p) (loose0 p loose) mean mg mb h' where
  g := hns _ _ T.g
  b := hns _ _ T.b
  nolimit := let ⟨mc, h1, h2⟩ := T.nolimit; ⟨mc, hns _ _ h1, h2⟩
  nodigits := let ⟨mc, h1, h2⟩ := T.nodigits; ⟨mc, hns _ _ h1, h2⟩
  fn := fun d hd => nomatch (hd : d ∈ ([] : List DefRec))
  own := fun d hd => nomatch (hd : d ∈ ([] : List OwnSpec))
  const := fun x d e => nomatch (e : (none : Option PyData) = some d)
  free := fun x h1 h2 _ _ _ => by
    unfold loose0 at h2
    simp only [List.mem_append, not_or] at h2
    exact T.free x h1 h2.1.1.1 h2.1.1.2 h2.1.2 h2.2
  builtins := T.builtins
  tab := fun d hd => nomatch (hd : d ∈ ([] : List DefRec))
  bmain := let ⟨bm, ob, h1, h2, h3, h4, r⟩ := T.bmain; ⟨bm, ob, h1, h2, hcl _ _ h3 h4, h4, r⟩
  seer := fun hi => absurd (show importsNone (p0 p) = true from hi) (by show ¬ ((([.Import [⟨"sys", none, ⟨0, 0, 0, 0⟩⟩] ⟨0, 0, 0, 0⟩] : List Stmt).all fun st => match st with | .Import names _ => names.all fun x => x.name != ("sys" : Str) && x.name != ("_pylong" : Str) | .ImportFrom m .. => m != some ("sys" : Str) && m != some ("_pylong" : Str) | _ => true) = true); decide +kernel)
theorem ns_but {h h' : Heap} {P : Addr} {vs : Array Value} (hP : h.get? P = some { cls := .none, data := .fields vs }) (hk : ∀ b o, b ≠ P → h.get? b = some o → h'.get? b = some o) {a : Addr} {m : Str → Option Value} (G : h.Ns a m) : h'.Ns a m := by
  obtain ⟨o, es, ep, ho, hd, r⟩ := G
  refine ⟨o, es, ep, hk a o (fun e => ?_) ho, hd, r⟩
  rw [e, hP] at ho
  cases ho
  cases hd
theorem top_but {p : Program} {loose : List Str} {mean : ExcName → Option Value} {mg mb : Str → Option Value} {h h' : Heap} {P : Addr} {vs : Array Value} (T : Top p loose mean mg mb h) (hP : h.get? P = some { cls := .none, data := .fields vs }) (hk : ∀ b o, b ≠ P → h.get? b = some o → h'.get? b = some o) :
    Top (p0 p) (loose0 p loose) mean mg mb h' :=
  top0 T (fun _ _ G => ns_but hP hk G) fun a o ho hc => hk a o (fun e => by rw [e, hP] at ho; cases ho; cases hc) ho
theorem k_but {K : Frag} {h h' : Heap} {P : Addr} (X : K.In h) (hn : K.lookup P = none) (hk : ∀ b o, b ≠ P → h.get? b = some o → h'.get? b = some o) : K.In h' := fun a o e => hk a o (fun q => by rw [q, hn] at e; cases e) (X a o e)

end
section
noncomputable def joinL : List (List Nat) → List Nat
  | [] => []
  | [a] => a
  | a :: b :: r => a ++ 32 :: joinL (b :: r)
theorem join_joinL : ∀ ps : List Str, (Str.join (Str.ofString " ") ps).cps.toList = joinL (ps.map (·.cps.toList))
  | [] => rfl
  | [p] => rfl
  | p :: q :: r => by
    have ih := join_joinL (q :: r)
    show (p ++ (Str.ofString " ") ++ Str.join (Str.ofString " ") (q :: r)).cps.toList = p.cps.toList ++ 32 :: joinL ((q :: r).map (·.cps.toList))
    rw [← ih]
    simp only [Str.cps_append, Array.toList_append]
    rw [show (Str.ofString " ").cps.toList = [32] from by decide +kernel]
    simp
noncomputable def qS (ws : List (Str × Tok)) (i : Nat) : Str := ⟨(quoteL ((ws.map (·.1.cps.toList)).getD i [])).toArray⟩
theorem quoteL_len (l : List Nat) : (quoteL l).length ≤ 5 * l.length + 2 := by
  unfold quoteL
  split
  · simp
  · split
    · omega
    · have := flat_len [39, 34, 39, 34, 39] (by decide) l
      simp only [List.length_append, List.length_cons, List.length_nil]
      omega
theorem qS_map (ws : List (Str × Tok)) : ((List.range ws.length).map (qS ws)).map (·.cps.toList) = ws.map fun p => quoteL p.1.cps.toList := by
  apply List.ext_getElem?
  intro i
  simp only [List.getElem?_map, List.getElem?_range]
  by_cases h : i < ws.length
  · simp [h, qS, List.getD_eq_getElem?_getD]
  · simp [h]
local macro_rules | `(tactic| walk_at "eval Name") => `(tactic| (k_here; (refine ldVarG (by assumption) (by assumption) ?_)))
set_option maxHeartbeats 8000000 in
theorem join_c {w : World} {p : Program} {loose : List Str} {mean : ExcName → Option Value} {mg mb : Str → Option Value} (dp un : Nat) (fr : Option (List Env)) (gd : Option (List Code)) (Q E : Value → Shared → Prop) (s : Shared) (l : Addr) (ws : List (Str × Tok)) (n : Nat)
    (X : (hd0.heap_1 w.params).In s.heap) (T : Top p loose mean mg mb s.heap) (hl : s.heap.get? l = some (listOf (strValues ws).toArray n)) (hP : s.heap.get? 754 = some { cls := .none, data := .fields #[] }) (hg : AllBare s.gens)
    (hdp : dp + 20 < recursionLimit) (hun : un + 200 < cLine) (ha : ∀ x ∈ ws, (∀ c ∈ x.1.cps.toList, c < 128) ∧ x.1.length ≤ 1000) (hsz : ws.length ≤ 100)
    (ret : ∀ (t : Tok) (y : Str) (s' : Shared), (∀ b o, b ≠ 754 → s.heap.get? b = some o → s'.heap.get? b = some o) → (∃ more, s'.heap.get? 754 = some { cls := .none, data := .fields more }) → AllBare s'.gens → s'.os = s.os → y.cps.toList = joinL (ws.map fun p => quoteL p.1.cps.toList) → Q (.str y t) s') :
    wpAny (model PySem.Challenge.rw_dn0076_08.row.prog w) { handled := none, depth := dp, frames := fr, guards := gd, units := un } (PySem.call (.ref 759) [.ref l]) Q E s := by
  w_on
  revert X; k_fill; intro X
  have hPn : (hd0.heap_1 w.params).lookup 754 = none := by kernel_rfl
  have hc758 : ∃ od vs sl, (hd0.heap_1 w.params).lookup 758 = some ⟨.type "code", od, .fields vs, sl⟩ ∧ vs.getD 11 .none = .ref 754 ∧ vs[11]? = some (.ref 754) ∧ (∃ file tf flags tg inF text tt, vs.getD 18 .none = .str file tf ∧ vs.getD 7 .none = .int flags tg ∧ vs.getD 9 .none = .bool inF ∧ vs.getD 10 .none = .int text tt) := ⟨_, _, _, by k_is, rfl, rfl, _, _, _, _, _, _, _, rfl, rfl, rfl, rfl⟩
  obtain ⟨od, vs, sl, c1, c2, c3, file, tf, flags, tg, inF, text, tt, c4, c5, c6, c7⟩ := hc758
  have hcode : s.heap.IsCode 758 754 #[] := ⟨_, vs, file, tf, flags, tg, inF, text, tt, _, X _ _ c1, rfl, c2, c4, c5, c6, c7, hP, rfl, by trivial, by decide⟩
  have htab : s.heap.TableAt 758 754 #[] := ⟨⟨_, vs, X _ _ c1, rfl, rfl, c3⟩, hP⟩
  obtain ⟨bm, ob, M⟩ := bmod_of_top T
  have Ba : Based s.heap s.heap 758 754 #[] := Based.start hcode htab (by decide)
  refine wpAny_call ?_
  k_dflt (refine' code_free ?k3 ?k5 ?k6 ?k7 ?k8 ?k9 ?kB ?_ ?c2 ?c3 ?c4 ?c5; (case k3 => assumption); (case k5 => assumption); (case k6 => k_is); (case k7 => k_is); (case k8 => k_room); (case k9 => first | exact BindsTo.of_eq rfl | exact binds_K (by k_in) rfl (by k_is) rfl rfl rfl); (case kB => exact locs rfl); (case c2 => exact rfl); (case c3 => exact rfl); (case c4 => exact rfl); (case c5 => decide))
  intro L' h' eL F'
  have N' : News s.heap L' h' [] := News.nil
  (try dsimp only)
  (try k_fold)
  k_steps
  have ex : ∃ mF, Fr s.heap L' h' mF ∧ mF (Str.ofString "split_command") = some (.ref l) := ⟨_, F', rfl⟩
  clear F' N'
  obtain ⟨mF, F', hmF⟩ := ex
  have N' : News s.heap L' h' [] := News.nil
  refine GeneratorExp_list_rowsF (L := L') (m := mF) Ba M rfl rfl rfl rfl rfl (by decide) rfl rfl rfl (by k_room) ?_ (by intro _; rfl)
  refine wpAny_Name (wpAny_loadName_local rfl rfl F'.ns hmF ?_) (by decide)
  have hg' : h'.objs.size > s.heap.objs.size := by have := F'.ns.lt; rw [eL] at this; exact this
  have hlL : h'.IsList l (strValues ws).toArray := ⟨_, F'.keep _ _ hl, rfl, n, rfl⟩
  refine ⟨l, (strValues ws).toArray, rfl, hlL, F', hg, T.nolimit.keeps F'.keep, h'.objs.size - 1, fun _ => true, fun i y => ∃ u, y = .str (qS ws i) u, ?_, ?_, ?_, ?_, ?_⟩
  · rw [eL]; exact Nat.le_sub_one_of_lt hg'
  · exact Nat.sub_lt (Nat.lt_of_le_of_lt (Nat.zero_le _) hg') Nat.one_pos
  · intro c' C A' E' i v t m₂ _ _ _ _ _ _ _ _
    exact wpAny_pure ⟨rfl, _, _, rfl, fun _ _ e => e⟩
  · intro c' C A' E' i v t m₂ hA hD hU hv _ FC hm hLC hkp
    have hk1 : ∀ b o, b ≠ 754 → s.heap.get? b = some o → t.heap.get? b = some o := fun b o hb e => hkp b o hb (F'.keep b o e)
    have Xt : (hd0.heap_1 w.params).In t.heap := k_but X hPn hk1
    have Tt := top_but T hP hk1
    obtain ⟨hh, dA, fA, gA, uA⟩ := A'
    subst hA
    obtain ⟨x, tx, hx1, hx2⟩ : ∃ x tx, v = .str x tx ∧ ws[i]? = some (x, tx) := by
      have e : (strValues ws)[i]? = some v := by simpa using hv
      unfold strValues at e
      rw [List.getElem?_map] at e
      obtain ⟨q, hq, rfl⟩ := Option.map_eq_some_iff.mp e
      exact ⟨q.1, q.2, rfl, hq⟩
    subst hx1
    have hmem := ha (x, tx) (List.mem_of_getElem? hx2)
    show wpAny _ _ (eval (Expr.Name (Str.ofString "quote") _) _ >>= fun f => callWith _ f [] (backTo _ (starEach [Expr.Name (Str.ofString "arg") _] _)) []) _ _ _
    have hr : ∀ (vs : Array Value) b o, b ≠ 754 → s.heap.get? b = some o → (regrown s.heap 754 vs).get? b = some o := fun vs b o hb e => (Heap.get?_update_other _ _ (Ne.symm hb)).trans e
    have Xr := fun vs => k_but X hPn (hr vs)
    have Tr := fun vs => top_but T hP (hr vs)
    refine wpAny_bind (nameG_K FC (Xr _) (topRead_of (Tr _)) (by k_is) ?_ rfl rfl rfl (by decide))
    with_reducible refine callWith_K (K := hd0.heap_1 w.params) X (by k_is) ?_ ?he ?hp
    case he => exact rfl
    case hp => exact rfl
    with_reducible refine spliced_more ?_ ?he
    case he => exact rfl
    with_reducible refine ldVarG FC hm ?_ ?k1 ?k2 ?k3
    case k1 => exact rfl
    case k2 => exact rfl
    case k3 => decide
    with_reducible refine spliced_none ?_
    refine ⟨Xt, ?_⟩
    simp only [List.nil_append]
    refine wpAny_mono (quote_q dA uA fA gA E' t x tx Xt Tt ?_ ?_ hmem.1 (Nat.le_trans hmem.2 (by decide))) (fun y s₃ hq => ?_) fun _ _ e => e
    · simp only [Around.deeper] at hD; omega
    · simp only [Around.deeper] at hU; omega
    · obtain ⟨⟨z, u, rfl, hz⟩, hK⟩ := hq
      refine ⟨⟨u, ?_⟩, hK⟩
      have : z = qS ws i := PySem.Str.ext' (Array.toList_inj.mp (by rw [hz]; simp [qS, List.getD_eq_getElem?_getD, hx2]))
      rw [this]
  · intro c' a s₅ B5 F5 G5 hos hk5 hGen
    have hps : ∀ k, passing (fun _ => true) k 0 = List.range k := fun k => by unfold passing; rw [List.drop_zero, List.filter_eq_self]; intro _ _; rfl
    have hsz2 : (strValues ws).toArray.size = ws.length := by simp [strValues]
    rw [hps, hsz2, List.length_range] at hGen
    with_reducible refine spliced_none ?_
    have hlen : ∀ k, (qS ws k).length ≤ 33000 := by
      intro k
      show (quoteL _).toArray.size ≤ _
      rw [List.size_toArray]
      refine Nat.le_trans (quoteL_len _) ?_
      have : ((ws.map (·.1.cps.toList)).getD k []).length ≤ 1000 := by
        rw [List.getD_eq_getElem?_getD, List.getElem?_map]
        cases hk : ws[k]? with
        | none => simp
        | some q =>
          have := (ha q (List.mem_of_getElem? hk)).2
          simpa [PySem.Str.length] using this
      omega
    have hok : JoinOk (Str.ofString " ") ((List.range ws.length).map (qS ws)) = true := by
      have := joinOk_few (sep := Str.ofString " ") (as := List.range ws.length) (pz := fun _ => true) (f := qS ws) (by rw [List.length_range]; omega) hlen (by decide +kernel)
      rwa [List.filter_eq_self.mpr (fun _ _ => rfl)] at this
    refine join_rowsK F5 G5 hGen (by rw [eL]; exact Nat.le_sub_one_of_lt hg') (qS ws) ?_ hok (fun s' t' F6 G6 hos6 hk6 => ?_) (by rw [sizeLine_eq]; omega)
    · intro j v ⟨i, hi, u, hv⟩
      obtain ⟨hlt, he⟩ := List.getElem?_eq_some_iff.mp hi
      rw [List.getElem_range] at he
      subst he
      exact ⟨u, hv⟩
    · show Q _ _
      refine ret _ _ s' (fun b o hb e => hk6 b o ?_ (hk5 b o hb (F'.keep b o e))) ⟨_, hk6 754 _ (Nat.le_sub_one_of_lt (Heap.lt_size (F'.keep _ _ hP))) (F5.keep _ _ B5.tab.2)⟩ G6 (hos6.trans hos) ?_
      · exact Nat.le_sub_one_of_lt (Heap.lt_size (F'.keep b o e))
      · rw [← qS_map, ← join_joinL, eq_of_beq (join_plain_closes (Str.ofString " ") ((List.range ws.length).map (qS ws)))]

end
section
local macro_rules | `(tactic| walk_at "no step 0") => `(tactic| fail)
local macro_rules | `(tactic| walk_at "no step 1") => `(tactic| fail)
local macro_rules | `(tactic| walk_at "no step 2") => `(tactic| fail)
local macro_rules | `(tactic| walk_at "no step 3") => `(tactic| fail)
local macro_rules | `(tactic| walk_at "no step 4") => `(tactic| fail)
local macro_rules | `(tactic| walk_at "no step 5") => `(tactic| fail)
local macro_rules | `(tactic| walk_at "no step 6") => `(tactic| fail)
local macro_rules | `(tactic| walk_at "no step 7") => `(tactic| fail)
local macro_rules | `(tactic| walk_at "no step 8") => `(tactic| fail)
local macro_rules | `(tactic| walk_at "no step 9") => `(tactic| fail)
local macro_rules | `(tactic| walk_at "no step 10") => `(tactic| fail)
local macro_rules | `(tactic| walk_at "no step 11") => `(tactic| fail)
local macro_rules | `(tactic| walk_at "no step 12") => `(tactic| fail)
local macro_rules | `(tactic| walk_at "no step 13") => `(tactic| fail)
local macro_rules | `(tactic| walk_at "no step 14") => `(tactic| fail)
local macro_rules | `(tactic| walk_at "no step 15") => `(tactic| fail)
local macro_rules | `(tactic| walk_at "no step 16") => `(tactic| fail)
local macro_rules | `(tactic| walk_at "no step 17") => `(tactic| fail)
local macro_rules | `(tactic| walk_at "no step 18") => `(tactic| fail)
local macro_rules | `(tactic| walk_at "no step 19") => `(tactic| fail)
local macro_rules | `(tactic| walk_at "no step 20") => `(tactic| fail)
local macro_rules | `(tactic| walk_at "no step 21") => `(tactic| fail)
local macro_rules | `(tactic| walk_at "no step 22") => `(tactic| fail)
local macro_rules | `(tactic| walk_at "no step 23") => `(tactic| fail)
theorem mp_mro : mroOf (.type "map") = pure [.type "map", .type "object"] := by rw [mroOf_type]; kernel_rfl
theorem mp_lookup_new : typeLookup (.type "map") "__new__" = pure (some (.builtin "map.__new__")) := by rw [typeLookup_type, builtinLookup_eq_fast]; kernel_rfl
theorem mp_slot_init : Slot "map" "__init__" "object.__init__" :=
  .of (owner := "object") (n := "__init__") (by rw [typeLookup_type, builtinLookup_eq_fast]; kernel_rfl) (by decide +kernel) (by decide +kernel) (by decide +kernel)
    (by first | exact .inl (by decide +kernel) | exact .inr (by decide +kernel)) (by rw [isSubtype_type]; kernel_rfl)
theorem mp_slot_next : Slot "map" "__next__" "map.__next__" :=
  .of (owner := "map") (n := "__next__") (by rw [typeLookup_type, builtinLookup_eq_fast]; kernel_rfl) (by decide +kernel) (by decide +kernel) (by decide +kernel)
    (by first | exact .inl (by decide +kernel) | exact .inr (by decide +kernel)) (by rw [isSubtype_type]; kernel_rfl)
theorem mp_slot_iter : Slot "map" "__iter__" "map.__iter__" :=
  .of (owner := "map") (n := "__iter__") (by rw [typeLookup_type, builtinLookup_eq_fast]; kernel_rfl) (by decide +kernel) (by decide +kernel) (by decide +kernel)
    (by first | exact .inl (by decide +kernel) | exact .inr (by decide +kernel)) (by rw [isSubtype_type]; kernel_rfl)
theorem mp_called : TypeCalled "map" "map.__new__" "object.__init__" :=
  ⟨by decide +kernel, by decide +kernel, ⟨_, _, mp_mro⟩, madeBy_type mp_mro mp_lookup_new (by decide +kernel), by decide +kernel, by rw [isSubtype_type]; kernel_rfl, mp_slot_init⟩
theorem mp_typeCall (a b : Value) : checkTypeCall "map" ⟨[a, b], []⟩ = pure () := by kernel_rfl
theorem mp_newCall (a b : Value) : checkBuiltinCall "map.__new__" ⟨[.type "map", a, b], []⟩ = pure () := by kernel_rfl
theorem mp_entry_new : entryFor table "map.__new__" = some Builtin.«map.__new__» := entryFor_of_tree (by kernel_rfl)
theorem mp_entry_next : entryFor table "map.__next__" = some Builtin.«map.__next__» := entryFor_of_tree (by kernel_rfl)
theorem mp_entry_iter : entryFor table "map.__iter__" = some Builtin.«dict_keyiterator.__iter__» :=
  entryFor_alias (id' := "dict_keyiterator.__iter__") (by rw [fastTable_eq_tree]; kernel_rfl) (by first | rfl | decide +kernel) (by decide +kernel) (by rw [fastTable_eq_tree]; kernel_rfl)
theorem mp_plain_new : plainId "map.__new__" = true := by decide +kernel
theorem mp_args_next (a : Value) : argsOk "map.__next__" ⟨[a], []⟩ := by unfold argsOk; kernel_rfl
theorem mp_args_iter (a : Value) : argsOk "map.__iter__" ⟨[a], []⟩ := by unfold argsOk; kernel_rfl
theorem mp_args_init (a b c : Value) : argsOk "object.__init__" ⟨[a, b, c], []⟩ := by unfold argsOk; kernel_rfl
theorem mp_no_len : typeLookup (.type "map") "__len__" = pure none := by rw [typeLookup_type, builtinLookup_eq_fast]; kernel_rfl
theorem mp_no_hint : typeLookup (.type "map") "__length_hint__" = pure none := by rw [typeLookup_type, builtinLookup_eq_fast]; kernel_rfl

noncomputable abbrev mapObj (tp : Addr) : Obj := { cls := .type "map", data := .fields #[.ref tp, .builtin "str.capitalize"] }
noncomputable abbrev mtupObj (it : Addr) : Obj := { cls := .type "tuple", data := .seq #[.ref it] }
def MapAt (mp tp it l : Addr) (items : Array Value) (i : Nat) (s : Shared) : Prop := s.heap.get? mp = some (mapObj tp) ∧ s.heap.get? tp = some (mtupObj it) ∧ s.heap.IsListIter it l i ∧ s.heap.IsList l items
noncomputable def capS (x : Str) : Str := Txt.capitalize x
section
open Builtin Builtin.Str
variable {prog : Program} {w : World} {A : Around} {E : Value → Shared → Prop} {s : Shared}
theorem cap_call {x : Str} {t : Tok} {Q : Value → Shared → Prop} (hfit : tooLong (Txt.capitalized x).length = false) (h : ∀ t' k, Q (.str (Txt.capitalize x) t') { s with toks := k }) :
    wpAny (model prog w) A (PySem.call (.builtin "str.capitalize") [.str x t]) Q E s := by
  refine wpAny_call (codeAny_call_builtin F.slot_str_capitalize.plain F.entry_str_capitalize (F.slot_str_capitalize.check _ _ _ _ _ _ _ _ (typeIs_str _ _ _) (F.args_str_capitalize_1 _) ?_))
  exact (gives_str_capitalize x t hfit) prog w A (wants Q E) s (post_val_or_made (fun _ => fit_le hfit) h)
theorem map_item {mp tp it l : Addr} {items : Array Value} {i : Nat} {x : Str} {t : Tok} {Q : Option Value → Shared → Prop} (h : MapAt mp tp it l items i s) (hx : items[i]? = some (.str x t)) (d1 : mp ≠ it) (d2 : tp ≠ it) (d3 : l ≠ it)
    (hfit : tooLong (Txt.capitalized x).length = false)
    (hQ : ∀ u h' k, MapAt mp tp it l items (i + 1) { s with heap := h', toks := k } → (∀ b o, b ≠ it → s.heap.get? b = some o → h'.get? b = some o) → Q (some (.str (Txt.capitalize x) u)) { s with heap := h', toks := k }) :
    wpAny (model prog w) A (pyNext (.ref mp)) Q E s := by
  obtain ⟨hm, ht, hit, hl⟩ := h
  have hT : s.TypeIs (.ref mp) "map" := ⟨_, hm, rfl⟩
  unfold pyNext
  refine wpAny_bind (wpAny_attempt (wpAny_callSpecial?_slot (name := Str.ofString "__next__") hT mp_slot_next
    (wpAny_call_entry mp_slot_next hT mp_entry_next ?_ (mp_args_next _))))
  show wpAny _ _ (field (.ref mp) 0 >>= _) _ _ s
  refine wpAny_bind (wpAny_field hm rfl (x := .ref tp) rfl ?_)
  show wpAny _ _ (seqItems? (.ref tp) >>= _) _ _ s
  refine wpAny_bind (wpAny_seqItems ht rfl ?_)
  dsimp only
  refine wpAny_bind ?_
  rw [← Array.forIn_toList]
  show wpAny _ _ (forIn [Value.ref it] _ _) _ _ _
  rw [List.forIn_cons]
  refine wpAny_bind (wpAny_bind (wpAny_holding (wpAny_nextOf_list_item hit hl hx fun h₁ hit₁ hs₁ => ?_)))
  refine wpAny_pure ?_
  refine wpAny_pure ?_
  have hm₁ : h₁.get? mp = some (mapObj tp) := (hs₁.2 _ d1).trans hm
  have ht₁ : h₁.get? tp = some (mtupObj it) := (hs₁.2 _ d2).trans ht
  have hl₁ : h₁.IsList l items := by obtain ⟨o, ho, r⟩ := hl; exact ⟨o, (hs₁.2 _ d3).trans ho, r⟩
  refine wpAny_bind (wpAny_field hm₁ rfl (x := .builtin "str.capitalize") rfl ?_)
  refine wpAny_bind (wpAny_holding (cap_call hfit fun u k => ?_))
  refine wpAny_bind (wpAny_letGo ?_)
  exact wpAny_pure ⟨_, rfl, wpAny_pure (hQ u h₁ k ⟨hm₁, ht₁, hit₁, hl₁⟩ fun b o hb e => (hs₁.2 b hb).trans e)⟩
theorem map_done {mp tp it l : Addr} {items : Array Value} {i : Nat} {Q : Option Value → Shared → Prop} (hh : A.handled = none) (h : MapAt mp tp it l items i s) (hx : items[i]? = none) (d1 : mp ≠ it) (d2 : tp ≠ it)
    (hQ : ∀ h', (∀ b o, b ≠ it → s.heap.get? b = some o → h'.get? b = some o) → Q none { s with heap := h' }) :
    wpAny (model prog w) A (pyNext (.ref mp)) Q E s := by
  obtain ⟨hm, ht, hit, hl⟩ := h
  have hT : s.TypeIs (.ref mp) "map" := ⟨_, hm, rfl⟩
  unfold pyNext
  refine wpAny_bind (wpAny_attempt (wpAny_callSpecial?_slot (name := Str.ofString "__next__") hT mp_slot_next
    (wpAny_call_entry mp_slot_next hT mp_entry_next ?_ (mp_args_next _))))
  show wpAny _ _ (field (.ref mp) 0 >>= _) _ _ s
  refine wpAny_bind (wpAny_field hm rfl (x := .ref tp) rfl ?_)
  show wpAny _ _ (seqItems? (.ref tp) >>= _) _ _ s
  refine wpAny_bind (wpAny_seqItems ht rfl ?_)
  dsimp only
  refine wpAny_bind ?_
  rw [← Array.forIn_toList]
  show wpAny _ _ (forIn [Value.ref it] _ _) _ _ _
  rw [List.forIn_cons]
  refine wpAny_bind (wpAny_bind (wpAny_holding (wpAny_nextOf_list_end hh hit hl hx fun h₁ e hk he => ?_)))
  obtain ⟨o, ho, hc⟩ := he
  refine wpAny_bind (wpAny_isInstance (T := "StopIteration") (b := true) ⟨o, ho, hc⟩ isSubtype_stop ?_)
  exact wpAny_pure (hQ h₁ fun b o hb e => hk b o hb e)
end

end
section
section
open Builtin Builtin.Str
variable {prog : Program} {w : World} {A : Around} {E : Value → Shared → Prop} {s : Shared}
theorem MapAt.keeps {mp tp it l : Addr} {items : Array Value} {i : Nat} {s : Shared} (h : MapAt mp tp it l items i s) {h' : Heap} {tk : Nat} (hk : ∀ b ∈ [mp, tp, it, l], ∀ o, s.heap.get? b = some o → h'.get? b = some o) : MapAt mp tp it l items i { s with heap := h', toks := tk } := by
  obtain ⟨hm, ht, ⟨o, ho, hr⟩, ⟨ol, hol, hlr⟩⟩ := h
  exact ⟨hk _ (by simp) _ hm, hk _ (by simp) _ ht, ⟨o, hk _ (by simp) _ ho, hr⟩, ⟨ol, hk _ (by simp) _ hol, hlr⟩⟩
theorem map_self {mp tp it l : Addr} {items : Array Value} {i : Nat} {Q : Value → Shared → Prop} (h : MapAt mp tp it l items i s) (hq : Q (.ref mp) s) : wpAny (model prog w) A (pyIter (.ref mp)) Q E s := by
  have hT : s.TypeIs (.ref mp) "map" := ⟨_, h.1, rfl⟩
  refine wpAny_pyIter_slot hT mp_slot_iter (wpAny_call_entry mp_slot_iter hT mp_entry_iter ?_ (mp_args_iter _))
  show wpAny _ _ (ret (.ref mp)) _ _ s
  exact wpAny_pure ⟨_, rfl, "map", _, hT, mp_slot_next.lookup, hq⟩
theorem map_walks (hh : A.handled = none) {mp tp it l : Addr} (ws : List (Str × Tok)) (d1 : mp ≠ it) (d2 : tp ≠ it) (d3 : l ≠ it) (hfit : ∀ x ∈ ws, tooLong (Txt.capitalized x.1).length = false) :
    WalksS prog w A mp [mp, tp, it, l] [it] (fun a b => b = a) ws.length (fun i v => ∃ x u, ws[i]?.map (·.1) = some x ∧ v = .str (Txt.capitalize x) u) (fun i s => MapAt mp tp it l (strValues ws).toArray i s) where
  sub := fun b hb => by simp at hb; simp [hb]
  grefl := fun _ => rfl
  gtrans := fun _ _ _ h1 h2 => h2.trans h1
  frame := fun i s h' tk st _ hk => st.keeps hk
  item := fun i s Q E hi st hQ => by
    have hx : (strValues ws).toArray[i]? = some (.str ws[i].1 ws[i].2) := by simp [strValues, hi]
    refine wpAny_with_toks (Nat.le_refl s.toks) (map_item st hx d1 d2 d3 (hfit _ (List.getElem_mem hi)) fun u h' k st' hk htk => ?_)
    exact hQ _ _ ⟨_, u, by simp [hi], rfl⟩ st' ⟨fun b o hb e => hk b o (by simpa using hb) e, rfl, rfl, rfl, htk⟩
  done := fun s Q E st hQ => by
    have hx : (strValues ws).toArray[ws.length]? = none := by simp [strValues]
    exact map_done hh st hx d1 d2 fun h' hk => hQ _ ⟨fun b o hb e => hk b o (by simpa using hb) e, rfl, rfl, rfl, Nat.le_refl _⟩
  self := fun i s Q E st hq => map_self st hq

variable {I : Addr} {fp wr : List Addr} {G : Array GenState → Array GenState → Prop} {n : Nat} {P : Nat → Value → Prop} {St : Nat → Shared → Prop}
theorem collect_map {Q : List Value → Shared → Prop} (W : WalksS prog w A.in1 I fp wr G n P St) (hT : ∀ i s, St i s → s.TypeIs (.ref I) "map") (hst : St 0 s) (hfp : ∀ b ∈ fp, b < s.heap.objs.size) (hI : I ∈ fp)
    (hQ : ∀ s' acc, Moved wr G s s' → ItemsOf P acc n → Q acc.toList s') (hn : n ≤ sizeLine) : wpAny (model prog w) A (collect (.ref I)) Q E s := by
  have hSf : s.heap.objs.size ∉ fp := fun hm => Nat.lt_irrefl _ (hfp _ hm)
  have hSI : s.heap.objs.size ≠ I := fun e => hSf (e ▸ hI)
  unfold collect
  refine wpAny_bind (wpAny_runValue (codeAny_builtin F.entry_proto_collect ?_))
  rw [Around.under_plainId F.plain_proto_collect _]
  show wpAny _ A.in1 (newList [] >>= fun l => again (.builtin "list.__iadd__" ⟨[l, .ref I], []⟩)) _ _ s
  refine wpAny_bind (wpAny_newObj_type ?_)
  refine wpAny_pure ⟨plainId_quiet F.plain_list_iadd _, codeAny_builtin F.entry_list_iadd ?_⟩
  rw [Around.under_plainId F.plain_list_iadd _]
  have hst₁ := W.frame 0 s (s.heap.push { cls := .type "list", data := .seq ([] : List Value).toArray }) s.toks hst (Nat.le_refl _) fun b _ o e => Heap.get?_push_of_some _ e
  show wpAny _ A.in1 (Builtin.List.listExtendWith (.ref s.heap.objs.size) (.ref I) (.ref s.heap.objs.size)) _ _ _
  unfold Builtin.List.listExtendWith
  refine wpAny_bind (wpAny_typeOf (hT 0 _ hst₁) ?_)
  have h1 : Builtin.List.listSameRef (.ref s.heap.objs.size) (.ref I) = false := by simp [Builtin.List.listSameRef, hSI]
  have h2 : (Value.type "map" == Value.type "list") = false := by decide
  have h3 : (Value.type "map" == Value.type "tuple") = false := by decide
  simp only [h1, h2, h3, Bool.or_false, Bool.false_eq_true, if_false]
  refine wpAny_bind (W.self 0 _ _ _ hst₁ ?_)
  refine wpAny_bind (wpAny_holding ?_)
  unfold Builtin.List.listLengthHint
  refine wpAny_bind (wpAny_specialOf (hT 0 _ hst₁) mp_no_len ?_)
  show wpAny _ A.in1 (specialOf (Value.ref I) (Str.ofString "__length_hint__") >>= _) _ _ _
  refine wpAny_bind (wpAny_specialOf (hT 0 _ hst₁) mp_no_hint ?_)
  refine wpAny_pure ?_
  show wpAny _ A.in1 (rule "list.extend.makes-room" >>= fun _ => Builtin.List.listTouch (.ref s.heap.objs.size) >>= fun _ =>
    again (.builtin "list.extend.loop" ⟨[.ref s.heap.objs.size, .ref I, .ref s.heap.objs.size], []⟩)) _ _ _
  refine wpAny_bind (wpAny_rule ?_)
  have hS₁ : (s.heap.push { cls := .type "list", data := .seq ([] : List Value).toArray }).get? s.heap.objs.size = some { cls := .type "list", data := .seq ([] : List Value).toArray } := Heap.get?_push_size _ rfl
  refine wpAny_bind ?_
  show wpAny _ A.in1 (updateSeq s.heap.objs.size (·.push .none) >>= fun _ => updateSeq s.heap.objs.size (·.pop)) _ _ _
  refine wpAny_bind (wpAny_updateSeq hS₁ rfl ?_)
  have hS₂ := Heap.get?_update_self (Obj.mapSeq (·.push Value.none)) hS₁ rfl
  refine wpAny_updateSeq hS₂ rfl ?_
  have hS₃ := Heap.get?_update_self (Obj.mapSeq (·.pop)) hS₂ rfl
  have oth : ∀ b o, b ≠ s.heap.objs.size → (s.heap.push { cls := .type "list", data := .seq ([] : List Value).toArray }).get? b = some o →
      (((s.heap.push { cls := .type "list", data := .seq ([] : List Value).toArray }).update s.heap.objs.size (Obj.mapSeq (·.push Value.none))).update s.heap.objs.size (Obj.mapSeq (·.pop))).get? b = some o :=
    fun b o hb e => (Heap.get?_update_other _ _ (Ne.symm hb)).trans ((Heap.get?_update_other _ _ (Ne.symm hb)).trans e)
  refine wpAny_pure ⟨plainId_quiet F.plain_extend_loop _, codeAny_extend_loopS W hn _ hSf _ n 0 _ _ _ rfl (Nat.zero_le _)
    (W.frame 0 ({ s with heap := s.heap.push { cls := .type "list", data := .seq ([] : List Value).toArray } } : Shared) _ s.toks hst₁ (Nat.le_refl _) fun b hb o e => oth b o (fun h => hSf (h ▸ hb)) e) hS₃ (ItemsOf.nil P) fun s' acc' c' hm hS' hacc => ?_⟩
  show wpAny _ A (load s.heap.objs.size >>= _) _ _ s'
  refine wpAny_bind (wpAny_load hS' ?_)
  refine wpAny_pure (hQ s' acc' (Moved.drop_new (o := { cls := .type "list", data := .seq ([] : List Value).toArray }) (tk := s.toks) (Moved.trans W.gtrans ((Moved.refl W.grefl).then_heap (Nat.le_refl _) fun b o hb e => ?_) hm) (Nat.le_refl _)) hacc)
  exact oth b o (fun h => hb (h ▸ List.mem_cons_self)) e
theorem join_map {x : Str} {t : Tok} {Q : Value → Shared → Prop} (W : WalksS prog w A.in1.in1 I fp wr G n P St) (hT : ∀ i s, St i s → s.TypeIs (.ref I) "map") (hst : St 0 s) (hfp : ∀ b ∈ fp, b < s.heap.objs.size) (hI : I ∈ fp)
    (hstr : ∀ i v, P i v → ∃ y u, v = Value.str y u)
    (hq : ∀ s' (l : List (Str × Tok)), Moved wr G s s' → ItemsOf P (strValues l).toArray n → JoinOk x (l.map (·.1)) = true ∧ ∀ t' k, Q (.str (Txt.join x (l.map (·.1))) t') { s' with toks := k })
    (hsz : n ≤ sizeLine) :
    wpAny (model prog w) A (call (.builtin "str.join") [.str x t, .ref I]) Q E s := by
  refine wpAny_call (codeAny_call_builtin F.slot_str_join.plain F.entry_str_join (F.slot_str_join.check _ _ _ _ _ _ _ _ (typeIs_str _ _ _) (F.args_str_join_2 _ _) ?_))
  rw [join_tree_other]
  refine wpAny_bind (wpAny_typeOf (hT 0 s hst) ?_)
  show wpAny _ A.in1 ((pyIter (.ref I)).tryCatch _ >>= fun it => collect it >>= fun items => joinTail x items) _ _ s
  refine wpAny_bind (wpAny_tryCatch (W.of_in1.self 0 s _ _ hst ?_))
  refine wpAny_bind (collect_map W hT hst hfp hI (fun s' acc hm hacc => ?_) hsz)
  obtain ⟨l, hl⟩ := exists_strValues acc.toList fun v hv => by
    obtain ⟨j, hj, rfl⟩ := Array.mem_iff_getElem.mp (Array.mem_toList_iff.mp hv)
    exact hstr j _ (hacc.2 j _ (Array.getElem?_eq_getElem hj))
  rw [← hl]
  have hacc' : ItemsOf P (strValues l).toArray n := by rw [hl]; simpa using hacc
  obtain ⟨hok, hpost⟩ := hq s' l hm hacc'
  unfold JoinOk at hok
  rw [Bool.not_eq_true'] at hok
  have g : Gives (joinTail x (strValues l)) (joinMade x l) := by
    have g0 := gives_joinTail x l hok
    cases l with
    | nil => exact g0
    | cons p r => cases r with
      | nil => exact g0
      | cons q r' => exact g0
  exact g prog w A (wants Q E) s' (post_join l ⟨joinFit_length hok, hpost⟩)
end

end
section
local macro_rules | `(tactic| walk_at "no step 0") => `(tactic| fail)
local macro_rules | `(tactic| walk_at "no step 1") => `(tactic| fail)
local macro_rules | `(tactic| walk_at "no step 2") => `(tactic| fail)
local macro_rules | `(tactic| walk_at "no step 3") => `(tactic| fail)
local macro_rules | `(tactic| walk_at "no step 4") => `(tactic| fail)
local macro_rules | `(tactic| walk_at "no step 5") => `(tactic| fail)
local macro_rules | `(tactic| walk_at "no step 6") => `(tactic| fail)
local macro_rules | `(tactic| walk_at "no step 7") => `(tactic| fail)
local macro_rules | `(tactic| walk_at "no step 8") => `(tactic| fail)
local macro_rules | `(tactic| walk_at "no step 9") => `(tactic| fail)
local macro_rules | `(tactic| walk_at "no step 10") => `(tactic| fail)
local macro_rules | `(tactic| walk_at "no step 11") => `(tactic| fail)
local macro_rules | `(tactic| walk_at "no step 12") => `(tactic| fail)
local macro_rules | `(tactic| walk_at "no step 13") => `(tactic| fail)
local macro_rules | `(tactic| walk_at "no step 14") => `(tactic| fail)
local macro_rules | `(tactic| walk_at "no step 15") => `(tactic| fail)
local macro_rules | `(tactic| walk_at "no step 16") => `(tactic| fail)
local macro_rules | `(tactic| walk_at "no step 17") => `(tactic| fail)
local macro_rules | `(tactic| walk_at "no step 18") => `(tactic| fail)
local macro_rules | `(tactic| walk_at "no step 19") => `(tactic| fail)
local macro_rules | `(tactic| walk_at "no step 20") => `(tactic| fail)
local macro_rules | `(tactic| walk_at "no step 21") => `(tactic| fail)
local macro_rules | `(tactic| walk_at "no step 22") => `(tactic| fail)
local macro_rules | `(tactic| walk_at "no step 23") => `(tactic| fail)
section
open Builtin Builtin.Str
variable {prog : Program} {w : World} {A : Around} {E : Value → Shared → Prop} {s : Shared}
theorem code_map_new {f : Value} {l : Addr} {items : Array Value} {Q₁ : Value → Shared → Prop} (hl : s.heap.IsList l items)
    (h : ∀ h1 h2 h3 : Heap, h1 = s.heap.push { cls := .type "list_iterator", data := .fields #[.ref l, .int 0 0] } → h2 = h1.push (mtupObj s.heap.objs.size) → h3 = h2.push { cls := .type "map", data := .fields #[.ref h1.objs.size, f] } → Q₁ (.ref h2.objs.size) { s with heap := h3 }) :
    codeAny (model prog w) A (.call (.builtin "map.__new__") ⟨[.type "map", f, .ref l], []⟩) (wants Q₁ E) s := by
  refine codeAny_of_tree ?_
  show wpAny _ A.in1 (do checkBuiltinCall "map.__new__" ⟨[.type "map", f, .ref l], []⟩; again (.builtin "map.__new__" ⟨[.type "map", f, .ref l], []⟩)) _ _ s
  refine wpAny_bind (wpAny_of_eq (mp_newCall _ _) (wpAny_pure ⟨plainId_quiet mp_plain_new _, codeAny_builtin mp_entry_new ?_⟩))
  rw [Around.under_plainId mp_plain_new _]
  have hsub : isSubtype (.type "map") (.type "map") = pure true := by rw [isSubtype_type]; kernel_rfl
  unfold Builtin.«map.__new__» Builtin.SmallTypes.newClass Builtin.SmallTypes.refuseKeywords Builtin.SmallTypes.iterAll
  refine wpAny_bind (wpAny_bind (wpAny_pure ?_))
  simp only [Bool.not_true, Bool.false_eq_true, if_false]
  rw [hsub]
  refine wpAny_bind (wpAny_pure ?_)
  simp only [Bool.not_true, Bool.false_eq_true, if_false]
  refine wpAny_pure ?_
  refine wpAny_bind (wpAny_pure ?_)
  rw [if_neg (show ¬ ((Value.type "map", [f, Value.ref l]).snd.length < 2) from Nat.lt_irrefl 2)]
  refine wpAny_bind ?_
  show wpAny _ _ ((forIn [Value.ref l] _ _) >>= _) _ _ _
  rw [List.forIn_cons]
  refine wpAny_bind (wpAny_bind (wpAny_bind (wpAny_holding (wpAny_pyIter_list hl ?_))))
  refine wpAny_pure ?_
  refine wpAny_pure ?_
  refine wpAny_pure ?_
  refine wpAny_bind (wpAny_newTuple ?_ (Nat.le_of_ble_eq_true rfl))
  unfold Builtin.SmallTypes.newRecord
  refine wpAny_bind (wpAny_newObj_type ?_ (Nat.le_of_ble_eq_true rfl))
  exact wpAny_pure (h _ _ _ rfl rfl rfl)
theorem call_map {f : Value} {l : Addr} {items : Array Value} {Q : Value → Shared → Prop} (hl : s.heap.IsList l items)
    (h : ∀ mp tp it h', h'.get? mp = some { cls := .type "map", data := .fields #[.ref tp, f] } → h'.get? tp = some (mtupObj it) → h'.IsListIter it l 0 → h'.IsList l items → s.heap.objs.size = it → tp = it + 1 → mp = it + 2 → h'.objs.size = it + 3 →
      (∀ b o, s.heap.get? b = some o → h'.get? b = some o) → Q (.ref mp) { s with heap := h' }) :
    wpAny (model prog w) A (call (.type "map") [f, .ref l]) Q E s := by
  refine callType_codes (Q₁ := fun obj s₁ => ∃ h1 h2 h3 : Heap, h1 = s.heap.push { cls := .type "list_iterator", data := .fields #[.ref l, .int 0 0] } ∧ h2 = h1.push (mtupObj s.heap.objs.size) ∧ h3 = h2.push { cls := .type "map", data := .fields #[.ref h1.objs.size, f] } ∧ obj = .ref h2.objs.size ∧ s₁ = { s with heap := h3 }) mp_called (mp_typeCall _ _) entry_oi
    (code_map_new hl fun h1 h2 h3 e1 e2 e3 => ⟨h1, h2, h3, e1, e2, e3, rfl, rfl⟩) fun obj s₁ h₁ => ?_
  obtain ⟨h1, h2, h3, e1, e2, e3, rfl, rfl⟩ := h₁
  have k1 : ∀ b o, s.heap.get? b = some o → h1.get? b = some o := fun b o e => by rw [e1]; exact Heap.get?_push_of_some _ e
  have k2 : ∀ b o, h1.get? b = some o → h2.get? b = some o := fun b o e => by rw [e2]; exact Heap.get?_push_of_some _ e
  have k3 : ∀ b o, h2.get? b = some o → h3.get? b = some o := fun b o e => by rw [e3]; exact Heap.get?_push_of_some _ e
  have z1 : h1.objs.size = s.heap.objs.size + 1 := by rw [e1, Heap.size_push]
  have z2 : h2.objs.size = s.heap.objs.size + 2 := by rw [e2, Heap.size_push, z1]
  have z3 : h3.objs.size = s.heap.objs.size + 3 := by rw [e3, Heap.size_push, z2]
  have g3 : h3.get? h2.objs.size = some { cls := .type "map", data := .fields #[.ref h1.objs.size, f] } := by rw [e3]; exact Heap.get?_push_size _ rfl
  have g2 : h3.get? h1.objs.size = some (mtupObj s.heap.objs.size) := k3 _ _ (by rw [e2]; exact Heap.get?_push_size _ rfl)
  have g1 : h3.IsListIter s.heap.objs.size l 0 := ⟨_, k3 _ _ (k2 _ _ (by rw [e1]; exact Heap.get?_push_size _ rfl)), rfl, rfl⟩
  refine ⟨⟨_, g3, rfl⟩, mp_args_init _ _ _, ?_⟩
  have hl3 : h3.IsList l items := by
    obtain ⟨o, ho, r⟩ := hl
    exact ⟨o, k3 _ _ (k2 _ _ (k1 _ _ ho)), r⟩
  have fin := h _ _ _ h3 g3 g2 g1 hl3 rfl z1 z2 z3 fun b o e => k3 _ _ (k2 _ _ (k1 _ _ e))
  clear h
  have hT : Shared.TypeIs ({ s with heap := h3 } : Shared) (.ref h2.objs.size) "map" := ⟨_, g3, rfl⟩
  unfold Builtin.«object.__init__»
  dsimp only
  rw [if_pos (by rfl)]
  refine wpAny_bind (wpAny_typeOf hT ?_)
  rw [mp_slot_init.lookup]
  refine wpAny_bind (wpAny_pure ?_)
  dsimp only
  rw [mp_called.made]
  refine wpAny_bind (wpAny_pure ?_)
  rw [if_neg (by decide)]
  rw [if_neg (by simp)]
  exact wpAny_pure ⟨rfl, fin⟩
end

end
section
theorem attr_cap {w : World} {A : Around} {E : Value → Shared → Prop} {s : Shared} {h₀ : Heap} {L : Addr} {m : Str → Option Value} {expr : Bool} {Q : Value → Shared → Prop} (F : Fr h₀ L s.heap m) (X₀ : (hd0.heap_1 w.params).In h₀)
    (h : ∀ u, Q (.builtin "str.capitalize") { s with toks := u }) : wpAny (model PySem.Challenge.rw_dn0076_08.row.prog w) A (getAttr (.type "str") (Str.ofString "capitalize") expr) Q E s := by
  have X := X₀.keeps F.keep
  have hstub : opaqueClassAbove (.type "str") = pure none := by unfold opaqueClassAbove; dsimp only; rw [show Manifest.isStub "str" = false by kernel_rfl]; rfl
  have L0 : Looks (model PySem.Challenge.rw_dn0076_08.row.prog w) s.heap (typeOf (.type "str")) (.type "type") := Looks.of_pure (kitMeta_of (by kernel_rfl))
  have LO : Looks (model PySem.Challenge.rw_dn0076_08.row.prog w) s.heap (opaqueClassAbove (.type "str")) none := Looks.of_pure hstub
  have hg : findIn (hd0.heap_1 w.params) (.type "type") "__getattribute__" = some (some (.builtin "type.__getattribute__")) := type_tga
  have e : findCls (hd0.heap_1 w.params) (.type "str") (.type "type") (Str.ofString "capitalize") = some (.val (.builtin "str.capitalize")) := by kernel_rfl
  refine cls_open X LO L0 hg (looks_hook X (r := none) (by rfl)) (by show subIn _ _ _ = _; rfl) e ?_
  exact wpAny_pure (handed_on rfl (h _))
theorem call_mapN {prog : Program} {w : World} {A : Around} {E : Value → Shared → Prop} {s : Shared} {h₀ : Heap} {L l : Addr} {m : Str → Option Value} {news : List (Addr × Obj)} {items : Array Value} {Q : Value → Shared → Prop} (F : Fr h₀ L s.heap m) (N : News h₀ L s.heap news) (hl : s.heap.IsList l items)
    (h : ∀ mp tp it h', MapAt mp tp it l items 0 { s with heap := h' } → Fr h₀ L h' m → News h₀ L h' news → (L < it ∧ (∀ p ∈ news, p.1 < it) ∧ l < it ∧ it < tp ∧ tp < mp ∧ mp < h'.objs.size) → Q (.ref mp) { s with heap := h' }) :
    wpAny (model prog w) A (call (.type "map") [.builtin "str.capitalize", .ref l]) Q E s := by
  refine call_map hl fun mp tp it h' g1 g2 g3 g4 e1 e2 e3 z k => ?_
  have hll : l < s.heap.objs.size := by obtain ⟨o, ho, _⟩ := hl; exact Heap.lt_size ho
  refine h mp tp it h' ⟨g1, g2, g3, g4⟩ (F.keeps k) (fun q hq => ⟨k _ _ (N q hq).1, (N q hq).2⟩) ⟨?_, fun p hp => ?_, ?_, ?_, ?_, ?_⟩
  · rw [← e1]; exact F.ns.lt
  · rw [← e1]; exact Heap.lt_size (N p hp).1
  · rw [← e1]; exact hll
  · rw [e2]; exact Nat.lt_succ_self _
  · rw [e2, e3]; exact Nat.lt_succ_self _
  · rw [e3, z]; exact Nat.lt_succ_self _
theorem news_drop {h₀ h : Heap} {L : Addr} {a : Addr × Obj} {l : List (Addr × Obj)} (N : News h₀ L h (a :: l)) : News h₀ L h l := fun q hq => N q (.tail _ hq)
noncomputable def wtS (ws : List Str) : Nat := (ws.map (·.length)).sum + ws.length
theorem wtS_snoc (ws : List Str) (r : Str) : wtS (ws ++ [r]) = wtS ws + r.length + 1 := by
  unfold wtS
  simp only [List.map_append, List.map_cons, List.map_nil, List.sum_append, List.sum_cons, List.sum_nil, List.length_append, List.length_cons, List.length_nil]
  omega
theorem scan_wt : ∀ (l : List Nat) (ws : List Str) (r : Str), wtS (l.foldl KWd.step (ws, r)).1 + (l.foldl KWd.step (ws, r)).2.length ≤ wtS ws + r.length + l.length
  | [], ws, r => Nat.le_refl _
  | c :: l, ws, r => by
    rw [List.foldl_cons, List.length_cons]
    by_cases h1 : Unicode.isSpace c = true
    · by_cases h2 : r.length = 0
      · have es : KWd.step (ws, r) c = (ws, r) := by unfold KWd.step; rw [if_pos h1, if_pos h2]
        rw [es]
        have := scan_wt l ws r
        omega
      · have es : KWd.step (ws, r) c = (ws ++ [r], Str.empty) := by unfold KWd.step; rw [if_pos h1, if_neg h2]
        rw [es]
        have := scan_wt l (ws ++ [r]) Str.empty
        rw [wtS_snoc] at this
        have e : (Str.empty).length = 0 := rfl
        rw [e] at this
        omega
    · have es : KWd.step (ws, r) c = (ws, r ++ ⟨#[c]⟩) := by unfold KWd.step; rw [if_neg h1]
      rw [es]
      have := scan_wt l ws (r ++ ⟨#[c]⟩)
      rw [Str.length_append] at this
      have e : (⟨#[c]⟩ : Str).length = 1 := rfl
      rw [e] at this
      omega
theorem words_wt (x : Str) : wtS (Txt.words x) ≤ x.length + 1 := by
  rw [KWd.words_scan]
  have h := scan_wt x.cps.toList [] Str.empty
  have e : (Str.empty).length = 0 := rfl
  have e2 : wtS [] = 0 := rfl
  have e3 : x.cps.toList.length = x.length := by rw [Array.length_toList]; rfl
  rw [e, e2, e3] at h
  unfold KWd.fin KWd.scan
  split
  · omega
  · rw [wtS_snoc]; omega
theorem wtS_mem {ws : List Str} {y : Str} (h : y ∈ ws) : y.length ≤ wtS ws := by
  induction ws with
  | nil => cases h
  | cons a r ih =>
    have e : wtS (a :: r) = a.length + wtS r + 1 := by unfold wtS; simp only [List.map_cons, List.sum_cons, List.length_cons]; omega
    rcases List.mem_cons.mp h with rfl | h
    · omega
    · have := ih h; omega
theorem cap_sum (ws : List Str) : ((ws.map Txt.capitalize).map (·.length)).sum + ws.length ≤ 3 * wtS ws := by
  induction ws with
  | nil => exact Nat.le_refl _
  | cons a r ih =>
    have e : wtS (a :: r) = a.length + wtS r + 1 := by unfold wtS; simp only [List.map_cons, List.sum_cons, List.length_cons]; omega
    have := len_capitalize a
    simp only [List.map_cons, List.sum_cons, List.length_cons]
    omega
open Builtin Builtin.Str in
theorem cap_bounds {x : Str} {ws : List (Str × Tok)} (hb : x.length ≤ 100000) (hw : ws.map (fun p => p.1) = Txt.words x) : (∀ p ∈ ws, tooLong (Txt.capitalized p.1).length = false) ∧ ws.length ≤ 1000000 ∧ JoinOk (Str.ofString " ") (ws.map fun p => Txt.capitalize p.1) = true := by
  have h := words_wt x
  rw [← hw] at h
  refine ⟨fun p hp => fit_capitalized ?_, ?_, joinOk_of ?_⟩
  · have := wtS_mem (List.mem_map_of_mem (f := fun p : Str × Tok => p.1) hp)
    omega
  · have : ws.length ≤ wtS (ws.map fun p => p.1) := by unfold wtS; rw [List.length_map]; omega
    omega
  · have := cap_sum (ws.map fun p => p.1)
    have e : (ws.map fun p => p.1).map Txt.capitalize = ws.map fun p => Txt.capitalize p.1 := by rw [List.map_map]; rfl
    rw [e, List.length_map] at this
    rw [List.length_map, show (Str.ofString " ").length = 1 from by decide +kernel]
    omega
theorem cap_eq {x sep : Str} {ws : List (Str × Tok)} (hw : ws.map (fun p => p.1) = Txt.words x) : Txt.join sep (ws.map fun p => Txt.capitalize p.1) = Txt.join sep ((Txt.words x).map Txt.capitalize) := by
  rw [← hw, List.map_map]
  rfl
open Builtin Builtin.Str in
theorem map_join {prog : Program} {w : World} {A : Around} {E : Value → Shared → Prop} {s : Shared} {h₀ : Heap} {L l mp tp it : Addr} {m : Str → Option Value} {news : List (Addr × Obj)} {ws : List (Str × Tok)} {sep : Str} {tk : Tok} {Q : Value → Shared → Prop} (hh : A.handled = none) (F : Fr h₀ L s.heap m) (N : News h₀ L s.heap news)
    (hM : MapAt mp tp it l (strValues ws).toArray 0 s) (hz : L < it ∧ (∀ p ∈ news, p.1 < it) ∧ l < it ∧ it < tp ∧ tp < mp ∧ mp < s.heap.objs.size) (hfit : ∀ x ∈ ws, tooLong (Txt.capitalized x.1).length = false) (hn : ws.length ≤ 1000000) (hok : JoinOk sep (ws.map fun p => Txt.capitalize p.1) = true)
    (h : ∀ t' h' k, Fr h₀ L h' m → News h₀ L h' news → Q (.str (Txt.join sep (ws.map fun p => Txt.capitalize p.1)) t') { s with heap := h', toks := k }) :
    wpAny (model prog w) A (call (.builtin "str.join") [.str sep tk, .ref mp]) Q E s := by
  obtain ⟨z1, z2, z3, z4, z5, z6⟩ := hz
  have d1 : mp ≠ it := Nat.ne_of_gt (Nat.lt_trans z4 z5)
  have d2 : tp ≠ it := Nat.ne_of_gt z4
  have d3 : l ≠ it := Nat.ne_of_lt z3
  have W := map_walks (prog := prog) (w := w) (A := A.in1.in1) hh (mp := mp) (tp := tp) (it := it) (l := l) ws d1 d2 d3 hfit
  refine join_map W (fun i s st => ?_) hM (fun b hb => ?_) (List.mem_cons_self ..) (fun i v hv => ?_) (fun s' l' hmv hit => ?_) (by rw [sizeLine_eq]; omega)
  · exact ⟨_, (show MapAt mp tp it l (strValues ws).toArray i s from st).1, rfl⟩
  · simp only [List.mem_cons, List.not_mem_nil, or_false] at hb
    rcases hb with rfl | rfl | rfl | rfl
    · exact z6
    · exact Nat.lt_trans z5 z6
    · exact Nat.lt_trans z4 (Nat.lt_trans z5 z6)
    · exact Nat.lt_trans z3 (Nat.lt_trans z4 (Nat.lt_trans z5 z6))
  · obtain ⟨x, u, _, e⟩ := hv
    exact ⟨_, u, e⟩
  · have hl : l'.map (·.1) = ws.map fun p => Txt.capitalize p.1 := by
      have hs : l'.length = ws.length := by have := hit.1; simpa [strValues] using this
      apply List.ext_getElem?
      intro i
      rw [List.getElem?_map, List.getElem?_map]
      by_cases hi : i < ws.length
      · have hi' : i < l'.length := by omega
        obtain ⟨x, u, e1, e2⟩ := hit.2 i (.str l'[i].1 l'[i].2) (by simp [strValues, hi'])
        rw [List.getElem?_eq_getElem hi', List.getElem?_eq_getElem hi]
        rw [List.getElem?_eq_getElem hi] at e1
        simp only [Option.map_some, Option.some.injEq] at e1 ⊢
        rw [e1]
        exact (Value.str.inj e2).1
      · rw [List.getElem?_eq_none (by omega), List.getElem?_eq_none (by omega)]
        rfl
    rw [hl]
    refine ⟨hok, fun t' k => ?_⟩
    have hk : ∀ b o, b ≠ it → s.heap.get? b = some o → s'.heap.get? b = some o := fun b o hb e => hmv.heap b o (by simpa using hb) e
    obtain ⟨hp', g', dr', tk', os'⟩ := s'
    have e1 : g' = s.gens := hmv.gens
    have e2 : dr' = s.drawn := hmv.drawn
    have e3 : os' = s.os := hmv.os
    subst e1 e2 e3
    have hng : ∀ b o, h₀.get? b = some o → b ≠ it := fun b o e => Nat.ne_of_lt (Nat.lt_of_lt_of_le (Heap.lt_size e) (Nat.le_trans F.above (Nat.le_of_lt z1)))
    refine h t' hp' k ⟨?_, fun b o e => hk b o (hng b o e) (F.keep b o e), F.above⟩ fun q hq => ⟨hk _ _ (Nat.ne_of_lt (z2 q hq)) (N q hq).1, (N q hq).2⟩
    obtain ⟨oL, a1, a2, hoL, a3⟩ := F.ns
    exact ⟨oL, a1, a2, hk _ _ (Nat.ne_of_lt z1) hoL, a3⟩
local macro_rules | `(tactic| walk_at "getAttr type:str") => `(tactic| (k_here; (with_reducible show wpAny _ _ (getAttr (Value.type "str") (PySem.Str.ofString "capitalize") _) _ _ _); k_dflt (refine' attr_cap ?rF ?rX ?_; (case rF => k_asm); (case rX => k_asm)); (intro u9)))
local macro_rules | `(tactic| walk_at "call type:map") => `(tactic| (k_here; k_dflt
  (refine' call_mapN ?rF ?rN ?rl ?_; (case rl => assumption); (case rF => first | assumption | k_asm); (case rN => first | assumption | k_asm); (intro mp9 tp9 it9 h9 M9 F9 N9 z9))))
local macro_rules | `(tactic| walk_at "call builtin:str.join") => `(tactic| (k_here; k_dflt
  (refine' map_join ?rh ?rF ?rN ?rM ?rz ?rf ?rn ?ro ?_; (case rh => exact rfl); (case rM => assumption); (case rF => first | assumption | k_asm); (case rN => first | assumption | k_asm); (case rz => assumption); (case rf => exact (cap_bounds (by assumption) (by assumption)).1); (case rn => exact (cap_bounds (by assumption) (by assumption)).2.1); (case ro => exact (cap_bounds (by assumption) (by assumption)).2.2); (intro t9 h9 k9 F9 N9))))
set_option maxHeartbeats 8000000 in
theorem capwords_c {w : World} {p : Program} {loose : List Str} {mean : ExcName → Option Value} {mg mb : Str → Option Value}
    (dp un : Nat) (gd : Option (List Code)) (cn : Str) (cs : Scope) (a : Addr) (ccd : Value) (cl : List (Str × Addr)) (outer : List Env) (A₀ : Around) (base h₀ : Heap) (L : Addr) (m : Str → Option Value) (s : Shared) (Q E : Value → Shared → Prop)
    (x : Str) (t : Tok) (ledger : List (Addr × Obj))
    (B : Below A₀ base outer h₀) (F : Fr h₀ L s.heap m) (X : (hd0.heap_1 w.params).In h₀)
    (T : Top p loose mean mg mb h₀) (hk : cs.kind = .function) (N : News h₀ L s.heap ledger) (hdp : dp + 10 < recursionLimit) (hun : un + 100 < cLine) (hb : x.length ≤ 100000)
    (ret : ∀ (t : Tok) (y : Str) (h' : Heap) (tk' : Nat), Fr h₀ L h' m → News h₀ L h' ledger → y = Txt.join (Str.ofString " ") ((Txt.words x).map Txt.capitalize) → Q (.str y t) { s with heap := h', toks := tk' }) :
    wpAny (model PySem.Challenge.rw_dn0076_08.row.prog w) (ktrTop dp un gd cn cs L a ccd cl outer) (call (.ref 52) [.str x t]) Q E s := by
  w_on
  revert X; k_fill; intro X
  refine wpAny_call ?_
  k_dflt (refine' code_def ?k1 ?k2 ?k3 ?k4 ?k5 ?kA ?kF ?kK ?k6 ?k7 ?k8 ?k9 ?kB ?_ ?c2 ?c3 ?c4 ?c5; (case kA => exact rfl); (case kF => exact rfl); (case kK => assumption); (case k1 => k_asm); (case k2 => k_asm); (case k3 => k_asm); (case k4 => k_asm); (case k5 => k_asm); (case k6 => k_is); (case k7 => k_is); (case k8 => k_room); (case k9 => first | exact BindsTo.of_eq rfl | exact binds_K (by k_in) rfl (by k_is) rfl rfl rfl); (case c5 => decide); (case kB => exact locs rfl); (case c2 => exact rfl); (case c3 => exact rfl); (case c4 => exact rfl))
  intro g' L' h' FG' F' N' B' X' T'
  (try dsimp only)
  (try k_fold)
  k_steps
  all_goals (refine ret _ _ _ _ (by assumption) (news_drop (by assumption)) (cap_eq (by assumption)))

end
section
local macro_rules | `(tactic| walk_at "no step 0") => `(tactic| fail)
local macro_rules | `(tactic| walk_at "no step 1") => `(tactic| fail)
local macro_rules | `(tactic| walk_at "no step 2") => `(tactic| fail)
local macro_rules | `(tactic| walk_at "no step 3") => `(tactic| fail)
local macro_rules | `(tactic| walk_at "no step 4") => `(tactic| fail)
local macro_rules | `(tactic| walk_at "no step 5") => `(tactic| fail)
local macro_rules | `(tactic| walk_at "no step 6") => `(tactic| fail)
local macro_rules | `(tactic| walk_at "no step 7") => `(tactic| fail)
local macro_rules | `(tactic| walk_at "no step 8") => `(tactic| fail)
local macro_rules | `(tactic| walk_at "no step 9") => `(tactic| fail)
local macro_rules | `(tactic| walk_at "no step 10") => `(tactic| fail)
local macro_rules | `(tactic| walk_at "no step 11") => `(tactic| fail)
local macro_rules | `(tactic| walk_at "no step 12") => `(tactic| fail)
local macro_rules | `(tactic| walk_at "no step 13") => `(tactic| fail)
local macro_rules | `(tactic| walk_at "no step 14") => `(tactic| fail)
local macro_rules | `(tactic| walk_at "no step 15") => `(tactic| fail)
local macro_rules | `(tactic| walk_at "no step 16") => `(tactic| fail)
local macro_rules | `(tactic| walk_at "no step 17") => `(tactic| fail)
local macro_rules | `(tactic| walk_at "no step 18") => `(tactic| fail)
local macro_rules | `(tactic| walk_at "no step 19") => `(tactic| fail)
local macro_rules | `(tactic| walk_at "no step 20") => `(tactic| fail)
local macro_rules | `(tactic| walk_at "no step 21") => `(tactic| fail)
local macro_rules | `(tactic| walk_at "no step 22") => `(tactic| fail)
local macro_rules | `(tactic| walk_at "no step 23") => `(tactic| fail)
theorem item_lt {x : Str} (h : ∀ c ∈ x.cps.toList, c < 128) (i : Int) : ∃ c, Txt.item x i = ⟨#[c]⟩ ∧ c < 128 := by
  unfold Txt.item
  refine ⟨_, rfl, ?_⟩
  cases e : Txt.charAt x i with
  | none => show 0 < 128; omega
  | some c =>
    refine h c ?_
    unfold Txt.charAt at e
    obtain ⟨n, _, hn⟩ := Option.bind_eq_some_iff.mp e
    exact List.mem_of_getElem? (by rw [Array.getElem?_toList]; exact hn)
set_option maxHeartbeats 8000000 in
theorem sign_c {w : World} {p : Program} {loose : List Str} {mean : ExcName → Option Value} {mg mb : Str → Option Value}
    (dp un : Nat) (gd : Option (List Code)) (cn : Str) (cs : Scope) (a : Addr) (ccd : Value) (cl : List (Str × Addr)) (outer : List Env) (A₀ : Around) (base h₀ : Heap) (L : Addr) (m : Str → Option Value) (s : Shared) (Q E : Value → Shared → Prop)
    (k mo : Int) (t1 t2 : Tok) (ledger : List (Addr × Obj))
    (B : Below A₀ base outer h₀) (F : Fr h₀ L s.heap m) (X : (hd0.heap_1 w.params).In h₀)
    (T : Top p loose mean mg mb h₀) (hk : cs.kind = .function) (N : News h₀ L s.heap ledger) (hdp : dp + 10 < recursionLimit) (hun : un + 100 < cLine) (hk1 : 1 ≤ k) (hk7 : k ≤ 7)
    (ret : ∀ (t : Tok) (c : Nat) (h' : Heap) (tk' : Nat), Fr h₀ L h' m → News h₀ L h' ledger → c < 128 → Q (.str ⟨#[c]⟩ t) { s with heap := h', toks := tk' }) :
    wpAny (model PySem.Challenge.rw_dn0076_08.row.prog w) (ktrTop dp un gd cn cs L a ccd cl outer) (call (.ref 774) [.int k t1, .int mo t2]) Q E s := by
  w_on
  revert X; k_fill; intro X
  have hk : k = 1 ∨ k = 2 ∨ k = 3 ∨ k = 4 ∨ k = 5 ∨ k = 6 ∨ k = 7 := by omega
  clear hk1 hk7
  rcases hk with rfl | rfl | rfl | rfl | rfl | rfl | rfl
  · refine wpAny_call ?_
    k_dflt (refine' code_def ?k1 ?k2 ?k3 ?k4 ?k5 ?kA ?kF ?kK ?k6 ?k7 ?k8 ?k9 ?kB ?_ ?c2 ?c3 ?c4 ?c5; (case kA => exact rfl); (case kF => exact rfl); (case kK => assumption); (case k1 => k_asm); (case k2 => k_asm); (case k3 => k_asm); (case k4 => k_asm); (case k5 => k_asm); (case k6 => k_is); (case k7 => k_is); (case k8 => k_room); (case k9 => first | exact BindsTo.of_eq rfl | exact binds_K (by k_in) rfl (by k_is) rfl rfl rfl); (case c5 => decide); (case kB => exact locs rfl); (case c2 => exact rfl); (case c3 => exact rfl); (case c4 => exact rfl))
    intro g' L' h' FG' F' N' B' X' T'
    (try dsimp only)
    (try k_fold)
    k_steps
    all_goals (obtain ⟨c, e, hc⟩ := item_lt (x := Str.ofString "abcdefghijklmnopqrstuvwxyz") (by decide +kernel) (mo.fmod 26); rw [e]; exact ret _ _ _ _ (by assumption) (by first | assumption | exact news_drop (by assumption)) hc)
  · refine wpAny_call ?_
    k_dflt (refine' code_def ?k1 ?k2 ?k3 ?k4 ?k5 ?kA ?kF ?kK ?k6 ?k7 ?k8 ?k9 ?kB ?_ ?c2 ?c3 ?c4 ?c5; (case kA => exact rfl); (case kF => exact rfl); (case kK => assumption); (case k1 => k_asm); (case k2 => k_asm); (case k3 => k_asm); (case k4 => k_asm); (case k5 => k_asm); (case k6 => k_is); (case k7 => k_is); (case k8 => k_room); (case k9 => first | exact BindsTo.of_eq rfl | exact binds_K (by k_in) rfl (by k_is) rfl rfl rfl); (case c5 => decide); (case kB => exact locs rfl); (case c2 => exact rfl); (case c3 => exact rfl); (case c4 => exact rfl))
    intro g' L' h' FG' F' N' B' X' T'
    (try dsimp only)
    (try k_fold)
    k_steps
    all_goals (obtain ⟨c, e, hc⟩ := item_lt (x := Str.ofString "ABCDEFGHIJKLMNOPQRSTUVWXYZ") (by decide +kernel) (mo.fmod 26); rw [e]; exact ret _ _ _ _ (by assumption) (by first | assumption | exact news_drop (by assumption)) hc)
  · refine wpAny_call ?_
    k_dflt (refine' code_def ?k1 ?k2 ?k3 ?k4 ?k5 ?kA ?kF ?kK ?k6 ?k7 ?k8 ?k9 ?kB ?_ ?c2 ?c3 ?c4 ?c5; (case kA => exact rfl); (case kF => exact rfl); (case kK => assumption); (case k1 => k_asm); (case k2 => k_asm); (case k3 => k_asm); (case k4 => k_asm); (case k5 => k_asm); (case k6 => k_is); (case k7 => k_is); (case k8 => k_room); (case k9 => first | exact BindsTo.of_eq rfl | exact binds_K (by k_in) rfl (by k_is) rfl rfl rfl); (case c5 => decide); (case kB => exact locs rfl); (case c2 => exact rfl); (case c3 => exact rfl); (case c4 => exact rfl))
    intro g' L' h' FG' F' N' B' X' T'
    (try dsimp only)
    (try k_fold)
    k_steps
    all_goals (obtain ⟨c, e, hc⟩ := item_lt (x := Str.ofString " \t\n\x0b\x0c\x0d\x1c\x1d\x1e\x1f") (by decide +kernel) (mo.fmod 10); rw [e]; exact ret _ _ _ _ (by assumption) (by first | assumption | exact news_drop (by assumption)) hc)
  · refine wpAny_call ?_
    k_dflt (refine' code_def ?k1 ?k2 ?k3 ?k4 ?k5 ?kA ?kF ?kK ?k6 ?k7 ?k8 ?k9 ?kB ?_ ?c2 ?c3 ?c4 ?c5; (case kA => exact rfl); (case kF => exact rfl); (case kK => assumption); (case k1 => k_asm); (case k2 => k_asm); (case k3 => k_asm); (case k4 => k_asm); (case k5 => k_asm); (case k6 => k_is); (case k7 => k_is); (case k8 => k_room); (case k9 => first | exact BindsTo.of_eq rfl | exact binds_K (by k_in) rfl (by k_is) rfl rfl rfl); (case c5 => decide); (case kB => exact locs rfl); (case c2 => exact rfl); (case c3 => exact rfl); (case c4 => exact rfl))
    intro g' L' h' FG' F' N' B' X' T'
    (try dsimp only)
    (try k_fold)
    k_steps
    exact ret _ 39 _ _ (by assumption) (by first | assumption | exact news_drop (by assumption)) (by decide)
  · refine wpAny_call ?_
    k_dflt (refine' code_def ?k1 ?k2 ?k3 ?k4 ?k5 ?kA ?kF ?kK ?k6 ?k7 ?k8 ?k9 ?kB ?_ ?c2 ?c3 ?c4 ?c5; (case kA => exact rfl); (case kF => exact rfl); (case kK => assumption); (case k1 => k_asm); (case k2 => k_asm); (case k3 => k_asm); (case k4 => k_asm); (case k5 => k_asm); (case k6 => k_is); (case k7 => k_is); (case k8 => k_room); (case k9 => first | exact BindsTo.of_eq rfl | exact binds_K (by k_in) rfl (by k_is) rfl rfl rfl); (case c5 => decide); (case kB => exact locs rfl); (case c2 => exact rfl); (case c3 => exact rfl); (case c4 => exact rfl))
    intro g' L' h' FG' F' N' B' X' T'
    (try dsimp only)
    (try k_fold)
    k_steps
    all_goals (obtain ⟨c, e, hc⟩ := item_lt (x := Str.ofString "\"\\-_$#. ") (by decide +kernel) (mo.fmod 8); rw [e]; exact ret _ _ _ _ (by assumption) (by first | assumption | exact news_drop (by assumption)) hc)
  · refine wpAny_call ?_
    k_dflt (refine' code_def ?k1 ?k2 ?k3 ?k4 ?k5 ?kA ?kF ?kK ?k6 ?k7 ?k8 ?k9 ?kB ?_ ?c2 ?c3 ?c4 ?c5; (case kA => exact rfl); (case kF => exact rfl); (case kK => assumption); (case k1 => k_asm); (case k2 => k_asm); (case k3 => k_asm); (case k4 => k_asm); (case k5 => k_asm); (case k6 => k_is); (case k7 => k_is); (case k8 => k_room); (case k9 => first | exact BindsTo.of_eq rfl | exact binds_K (by k_in) rfl (by k_is) rfl rfl rfl); (case c5 => decide); (case kB => exact locs rfl); (case c2 => exact rfl); (case c3 => exact rfl); (case c4 => exact rfl))
    intro g' L' h' FG' F' N' B' X' T'
    (try dsimp only)
    (try k_fold)
    k_steps
    all_goals (obtain ⟨c, e, hc⟩ := item_lt (x := Str.ofString "0123456789") (by decide +kernel) (mo.fmod 10); rw [e]; exact ret _ _ _ _ (by assumption) (by first | assumption | exact news_drop (by assumption)) hc)
  · refine wpAny_call ?_
    k_dflt (refine' code_def ?k1 ?k2 ?k3 ?k4 ?k5 ?kA ?kF ?kK ?k6 ?k7 ?k8 ?k9 ?kB ?_ ?c2 ?c3 ?c4 ?c5; (case kA => exact rfl); (case kF => exact rfl); (case kK => assumption); (case k1 => k_asm); (case k2 => k_asm); (case k3 => k_asm); (case k4 => k_asm); (case k5 => k_asm); (case k6 => k_is); (case k7 => k_is); (case k8 => k_room); (case k9 => first | exact BindsTo.of_eq rfl | exact binds_K (by k_in) rfl (by k_is) rfl rfl rfl); (case c5 => decide); (case kB => exact locs rfl); (case c2 => exact rfl); (case c3 => exact rfl); (case c4 => exact rfl))
    intro g' L' h' FG' F' N' B' X' T'
    (try dsimp only)
    (try k_fold)
    k_steps
    exact ret _ _ _ _ (by assumption) (by assumption) (by have := Int.fmod_nonneg_of_pos mo (show (0:Int) < 128 by decide); have := Int.fmod_lt_of_pos mo (show (0:Int) < 128 by decide); omega)

end
section
section
variable {prog : Program} {w : World} {A : Around} {E : Value → Shared → Prop} {s : Shared}
theorem get_last {D : Addr} {items : Array Value} {y : Value} {n : Nat} {t : Tok} {Q : Value → Shared → Prop} (ho : s.heap.get? D = some (listOf (items.push y) n)) (h : Q y s) : wpAny (model prog w) A (getItem (.ref D) (.int (-1) t)) Q E s := by
  refine wpAny_getItem_list_neg ⟨_, ho, rfl, n, rfl⟩ (by decide) ?_ (by decide) ?_ h
  · rw [Array.size_push]; omega
  · rw [Array.size_push, show ((-1 : Int) + ((items.size + 1 : Nat) : Int)).toNat = items.size by omega]
    exact Array.getElem?_push_size
theorem set_last {D : Addr} {items : Array Value} {y v : Value} {n : Nat} {t : Tok} {Q : Unit → Shared → Prop} (ho : s.heap.get? D = some (listOf (items.push y) n))
    (hQ : ∀ h', h'.get? D = some (listOf (items.push v) n) → Heap.SameBut D s.heap h' → Q () { s with heap := h' }) :
    wpAny (model prog w) A (setItem (.ref D) (.int (-1) t) v) Q E s := by
  have hl : s.heap.IsList D (items.push y) := ⟨_, ho, rfl, n, rfl⟩
  unfold setItem
  try with_reducible refine wpAny_holding ?_
  first | refine wpAny_bind (wpAny_pure ?_) | skip
  refine wpAny_bind (wpAny_sequenceKey hl.typeIs (by decide) ?_)
  refine wpAny_bind (wpAny_callSpecial?_slot (name := Str.ofString "__setitem__") hl.typeIs slot_list_setitem
    (wpAny_call_entry slot_list_setitem hl.typeIs entry_list_setitem ?_ (args_list_setitem _ _ _)))
  show wpAny _ _ (Builtin.List.listSubscript? (.int (-1) t) >>= _) _ _ s
  refine wpAny_bind (wpAny_listSubscript_int (fitsIndex_neg (by decide) (by decide)) ?_)
  have hidx : seqIndex? (-1) (items.push y).size = some items.size := by
    rw [seqIndex_neg (by decide) (by rw [Array.size_push]; omega), Array.size_push]
    congr 1
    omega
  show wpAny _ _ ((Builtin.List.listItems (.ref D) >>= fun xs => pure ((seqIndex? (Int.negSucc 0) xs.size).bind fun i => xs[i]?.map (i, ·))) >>= _) _ _ s
  refine wpAny_bind (wpAny_bind ?_)
  show wpAny _ _ (seqItems? (.ref D) >>= _) _ _ s
  refine wpAny_bind (wpAny_seqItems ho rfl (wpAny_pure (wpAny_pure ?_)))
  rw [show (Int.negSucc 0) = (-1 : Int) from rfl, hidx]
  simp only [Option.bind_some, Array.getElem?_push_size, Option.map_some]
  show wpAny _ _ (setSeqItemAt D items.size v >>= _) _ _ s
  obtain ⟨n', hd'⟩ := Obj.data_mapSeq (o := listOf (items.push y) n) rfl (·.setIfInBounds items.size v)
  have hpush : (items.push y).setIfInBounds items.size v = items.push v := by
    rw [← Array.toList_inj]
    simp [List.set_append]
  refine wpAny_bind (wpAny_setSeqItemAt ho rfl ?_)
  have hg : (s.heap.update D (Obj.mapSeq (·.setIfInBounds items.size v))).get? D = some (listOf (items.push v) n) := by
    rw [Heap.get?_update_self _ ho (Obj.isFreed_of_seq hd')]
    have e1 : (Obj.mapSeq (·.setIfInBounds items.size v) (listOf (items.push y) n)) = listOf ((items.push y).setIfInBounds items.size v) n' := by
      have z : ∀ o : Obj, o.cls = .type "list" → o.dict = none → o.slots = #[] → ∀ xs k, o.data = .seq xs k → o = listOf xs k := by
        intro o a b c xs k d
        obtain ⟨_, _, _, _⟩ := o
        simp only at a b c d
        subst a b c d
        rfl
      refine z _ rfl ?_ ?_ _ _ hd'
      · unfold Obj.mapSeq; rfl
      · unfold Obj.mapSeq; rfl
    have en : n' = n := by
      have z : (Obj.mapSeq (·.setIfInBounds items.size v) (listOf (items.push y) n)).data = .seq ((items.push y).setIfInBounds items.size v) n := by
        unfold Obj.mapSeq
        simp
      rw [e1] at z
      exact (Data.seq.inj z).2
    rw [e1, hpush, en]
  first
    | exact wpAny_bind (wpAny_pure (wpAny_pure ⟨.none, rfl, wpAny_pure (hQ _ hg (Heap.SameBut.update ..))⟩))
    | exact wpAny_pure ⟨.none, rfl, wpAny_pure (hQ _ hg (Heap.SameBut.update ..))⟩
theorem get_lastN {h₀ : Heap} {L : Addr} {news : List (Addr × Obj)} {D : Addr} {items : Array Value} {y : Value} {n : Nat} {t : Tok} {Q : Value → Shared → Prop} (N : News h₀ L s.heap news) (hm : (D, listOf (items.push y) n) ∈ news) (h : Q y s) : wpAny (model prog w) A (getItem (.ref D) (.int (-1) t)) Q E s := get_last (N _ hm).1 h
theorem set_lastN {h₀ : Heap} {L : Addr} {m : Str → Option Value} {news news' : List (Addr × Obj)} {D : Addr} {items : Array Value} {y v : Value} {n : Nat} {t : Tok} {Q : Unit → Shared → Prop} (F : Fr h₀ L s.heap m) (N : News h₀ L s.heap news) (U : Upd D (listOf (items.push y) n) (listOf (items.push v) n) news news')
    (h : ∀ h', Fr h₀ L h' m → News h₀ L h' news' → Q () { s with heap := h' }) : wpAny (model prog w) A (setItem (.ref D) (.int (-1) t) v) Q E s := by
  obtain ⟨pre, post, rfl, rfl, a, b⟩ := U.split
  have z := N (D, listOf (items.push y) n) (List.mem_append.mpr (.inr (.head _)))
  exact set_last z.1 fun h' ho' hs => h h' (F.change hs z.2.1 z.2.2) (news_set N a b hs ho')
end

end
section
local macro_rules | `(tactic| walk_at "no step 0") => `(tactic| fail)
local macro_rules | `(tactic| walk_at "no step 1") => `(tactic| fail)
local macro_rules | `(tactic| walk_at "no step 2") => `(tactic| fail)
local macro_rules | `(tactic| walk_at "no step 3") => `(tactic| fail)
local macro_rules | `(tactic| walk_at "no step 4") => `(tactic| fail)
local macro_rules | `(tactic| walk_at "no step 5") => `(tactic| fail)
local macro_rules | `(tactic| walk_at "no step 6") => `(tactic| fail)
local macro_rules | `(tactic| walk_at "no step 7") => `(tactic| fail)
local macro_rules | `(tactic| walk_at "no step 8") => `(tactic| fail)
local macro_rules | `(tactic| walk_at "no step 9") => `(tactic| fail)
local macro_rules | `(tactic| walk_at "no step 10") => `(tactic| fail)
local macro_rules | `(tactic| walk_at "no step 11") => `(tactic| fail)
local macro_rules | `(tactic| walk_at "no step 12") => `(tactic| fail)
local macro_rules | `(tactic| walk_at "no step 13") => `(tactic| fail)
local macro_rules | `(tactic| walk_at "no step 14") => `(tactic| fail)
local macro_rules | `(tactic| walk_at "no step 15") => `(tactic| fail)
local macro_rules | `(tactic| walk_at "no step 16") => `(tactic| fail)
local macro_rules | `(tactic| walk_at "no step 17") => `(tactic| fail)
local macro_rules | `(tactic| walk_at "no step 18") => `(tactic| fail)
local macro_rules | `(tactic| walk_at "no step 19") => `(tactic| fail)
local macro_rules | `(tactic| walk_at "no step 20") => `(tactic| fail)
local macro_rules | `(tactic| walk_at "no step 21") => `(tactic| fail)
local macro_rules | `(tactic| walk_at "no step 22") => `(tactic| fail)
local macro_rules | `(tactic| walk_at "no step 23") => `(tactic| fail)
noncomputable def whL : List Nat := [32, 9, 10, 11, 12, 13, 28, 29, 30, 31]
noncomputable def strandStep (q : List (List Nat) × List Nat × Bool) (c : Nat) : List (List Nat) × List Nat × Bool :=
  if whL.contains c then (if q.2.2 then q else (q.1 ++ [q.2.1], [], true)) else (q.1, q.2.1 ++ [c], false)
open Builtin Builtin.Str
noncomputable def lowC (c : Nat) : Nat := if 65 ≤ c ∧ c ≤ 90 then c + 32 else c
noncomputable def upC (c : Nat) : Nat := if 97 ≤ c ∧ c ≤ 122 then c - 32 else c
theorem lowerOf_ascii {c : Nat} (h : c < 128) : Unicode.lowerOf c = [lowC c] :=
  (by decide +kernel : ∀ c, c < 128 → Unicode.lowerOf c = [lowC c]) c h
theorem upperOf_ascii {c : Nat} (h : c < 128) : Unicode.upperOf c = [upC c] :=
  (by decide +kernel : ∀ c, c < 128 → Unicode.upperOf c = [upC c]) c h
theorem titleOf_ascii {c : Nat} (h : c < 128) : Unicode.titleOf c = [upC c] :=
  (by decide +kernel : ∀ c, c < 128 → Unicode.titleOf c = [upC c]) c h
theorem space_ascii {c : Nat} (h : c < 128) : Unicode.isSpace c = whL.contains c :=
  (by decide +kernel : ∀ c, c < 128 → Unicode.isSpace c = whL.contains c) c h
theorem flat_one : ∀ (l : List Nat) (f : Nat → Nat → Array Nat) (g : Nat → Nat → Nat), (∀ (i c : Nat), l[i]? = some c → f i c = #[g i c]) → ((l.mapIdx f).map Array.toList).flatten = l.mapIdx g
  | [], _, _, _ => rfl
  | c :: r, f, g, h => by
    rw [List.mapIdx_cons, List.mapIdx_cons, List.map_cons, List.flatten_cons, h 0 c rfl, flat_one r _ (fun i => g (i + 1)) fun i d hd => h (i + 1) d (by simpa using hd)]
    rfl
theorem placed_list (x : Str) (f : Nat → Nat → List Nat) (g : Nat → Nat → Nat) (h : ∀ (i c : Nat), x.cps.toList[i]? = some c → f i c = [g i c]) : (placed x f).toList = x.cps.toList.mapIdx g := by
  unfold placed
  rw [Array.toList_flatten, Array.toList_mapIdx]
  exact flat_one _ _ _ fun i c hc => by rw [h i c hc]
theorem mapIdx_same (l : List Nat) (g : Nat → Nat) : l.mapIdx (fun _ c => g c) = l.map g := by
  apply List.ext_getElem?
  intro i
  simp
theorem lowerAt_ascii {x : Str} (ha : ∀ c ∈ x.cps.toList, c < 128) {i c : Nat} (h : x.cps.toList[i]? = some c) : Unicode.lowerAt x.cps i = [lowC c] := by
  have h2 : x.cps[i]? = some c := by simpa using h
  have hc := ha c (List.mem_of_getElem? h)
  unfold Unicode.lowerAt
  rw [h2]
  have hn : (c == 0x3A3) = false := by simp; omega
  simp only [hn, Bool.false_and, Bool.false_eq_true, if_false]
  exact lowerOf_ascii hc
theorem lower_list {x : Str} (ha : ∀ c ∈ x.cps.toList, c < 128) : (Txt.lower x).cps.toList = x.cps.toList.map lowC := by
  show (placed x fun i _ => Unicode.lowerAt x.cps i).toList = _
  rw [placed_list x _ (fun _ c => lowC c) fun i c h => lowerAt_ascii ha h, mapIdx_same]
theorem upper_list {x : Str} (ha : ∀ c ∈ x.cps.toList, c < 128) : (Txt.upper x).cps.toList = x.cps.toList.map upC := by
  show (placed x fun _ c => Unicode.upperOf c).toList = _
  rw [placed_list x _ (fun _ c => upC c) fun i c h => upperOf_ascii (ha c (List.mem_of_getElem? h)), mapIdx_same]
noncomputable def dueStrand (up : Bool) : List Nat → List Nat
  | [] => []
  | c :: r => (if up then upC c else lowC c) :: r.map lowC
theorem capitalize_list {x : Str} (ha : ∀ c ∈ x.cps.toList, c < 128) : (Txt.capitalize x).cps.toList = dueStrand true x.cps.toList := by
  unfold Txt.capitalize
  by_cases hz : (x.length == 0) = true
  · rw [if_pos hz]
    have e : x.cps.toList = [] := List.eq_nil_of_length_eq_zero (by rw [Array.length_toList]; exact eq_of_beq hz)
    rw [e]
    rfl
  · rw [if_neg hz]
    show (placed x fun i c => if i == 0 then Unicode.titleOf c else Unicode.lowerAt x.cps i).toList = _
    rw [placed_list x _ (fun i c => if i == 0 then upC c else lowC c) fun i c h => ?_]
    · rcases x.cps.toList with _ | ⟨c, r⟩
      · rfl
      · rw [List.mapIdx_cons]
        show upC c :: r.mapIdx (fun i c => lowC c) = upC c :: r.map lowC
        rw [mapIdx_same]
    · by_cases hi : (i == 0) = true
      · simp only [hi, if_true]; exact titleOf_ascii (ha c (List.mem_of_getElem? h))
      · simp only [hi]; exact lowerAt_ascii ha h
inductive Cs where
  | b0 | bw | bs
noncomputable def capT : Cs → List Nat → List Nat
  | _, [] => []
  | .b0, c :: r => if whL.contains c then capT .b0 r else upC c :: capT .bw r
  | .bw, c :: r => if whL.contains c then capT .bs r else lowC c :: capT .bw r
  | .bs, c :: r => if whL.contains c then capT .bs r else 32 :: upC c :: capT .bw r
theorem due_snoc {l : List Nat} (h : l ≠ []) (c : Nat) : dueStrand true (l ++ [c]) = dueStrand true l ++ [lowC c] := by
  cases l with
  | nil => exact absurd rfl h
  | cons a r => simp [dueStrand]
theorem joinL_snoc : ∀ (l : List (List Nat)) (a : List Nat), joinL (l ++ [a]) = if l = [] then a else joinL l ++ 32 :: a
  | [], a => rfl
  | [b], a => rfl
  | b :: c :: r, a => by
    have ih := joinL_snoc (c :: r) a
    rw [if_neg (by simp)] at ih ⊢
    show b ++ 32 :: joinL ((c :: r) ++ [a]) = (b ++ 32 :: joinL (c :: r)) ++ 32 :: a
    rw [ih]
    simp
noncomputable def capOut (st : KWd.St) : List Nat := joinL ((KWd.fin st).map fun x => dueStrand true x.cps.toList)
noncomputable def csOf (st : KWd.St) : Cs := if st.2.length = 0 then (if st.1 = [] then .b0 else .bs) else .bw
theorem len_cps (x : Str) : x.length = x.cps.toList.length := by rw [Array.length_toList]; rfl
theorem cap_scan : ∀ (l : List Nat) (st : KWd.St), (∀ c ∈ l, c < 128) → capOut (l.foldl KWd.step st) = capOut st ++ capT (csOf st) l
  | [], st, _ => by simp [-List.contains_eq_mem, capT]
  | c :: r, (ws, x), h => by
    have hc := h c (List.mem_cons_self ..)
    rw [List.foldl_cons, cap_scan r _ fun d hd => h d (List.mem_cons_of_mem _ hd)]
    unfold KWd.step
    rw [space_ascii hc]
    rcases hw : whL.contains c with _ | _
    · simp only [Bool.false_eq_true, if_false]
      have hl : (x ++ ⟨#[c]⟩ : Str).length ≠ 0 := by rw [Str.length_append]; show x.length + 1 ≠ 0; omega
      have hcs : csOf (ws, x ++ ⟨#[c]⟩) = .bw := by unfold csOf; rw [if_neg hl]
      have ho : capOut (ws, x ++ ⟨#[c]⟩) = joinL (ws.map (fun x => dueStrand true x.cps.toList) ++ [dueStrand true (x.cps.toList ++ [c])]) := by
        unfold capOut KWd.fin
        rw [if_neg hl, List.map_append]
        show joinL (_ ++ [dueStrand true (x ++ ⟨#[c]⟩ : Str).cps.toList]) = _
        rw [Str.cps_append, Array.toList_append]
      rw [hcs, ho]
      by_cases hx : x.length = 0
      · have ex : x.cps.toList = [] := List.eq_nil_of_length_eq_zero (by rw [← len_cps]; exact hx)
        have ho2 : capOut (ws, x) = joinL (ws.map fun x => dueStrand true x.cps.toList) := by unfold capOut KWd.fin; rw [if_pos hx]
        rw [ho2, ex, joinL_snoc]
        by_cases hws : ws = []
        · have : csOf (ws, x) = .b0 := by unfold csOf; rw [if_pos hx, if_pos hws]
          rw [this, hws]
          simp [-List.contains_eq_mem, capT, hw, dueStrand, joinL]
        · have : csOf (ws, x) = .bs := by unfold csOf; rw [if_pos hx, if_neg hws]
          rw [this, if_neg (by simpa using hws)]
          simp [-List.contains_eq_mem, capT, hw, dueStrand]
      · have ex : x.cps.toList ≠ [] := fun e => hx (by rw [len_cps, e]; rfl)
        have ho2 : capOut (ws, x) = joinL (ws.map (fun x => dueStrand true x.cps.toList) ++ [dueStrand true x.cps.toList]) := by
          unfold capOut KWd.fin
          rw [if_neg hx, List.map_append]
          rfl
        have hcs2 : csOf (ws, x) = .bw := by unfold csOf; rw [if_neg hx]
        rw [ho2, hcs2, due_snoc ex, joinL_snoc, joinL_snoc]
        split <;> simp [-List.contains_eq_mem, capT, hw]
    · simp only [if_true]
      by_cases hx : x.length = 0
      · rw [if_pos hx]
        have : csOf (ws, x) = .b0 ∨ csOf (ws, x) = .bs := by unfold csOf; rw [if_pos hx]; split <;> simp
        rcases this with e | e <;> rw [e] <;> simp [-List.contains_eq_mem, capT, hw]
      · rw [if_neg hx]
        have hcs2 : csOf (ws, x) = .bw := by unfold csOf; rw [if_neg hx]
        have hcs3 : csOf (ws ++ [x], Str.empty) = .bs := by unfold csOf; rw [if_pos (by rfl), if_neg (by simp)]
        have ho : capOut (ws ++ [x], Str.empty) = capOut (ws, x) := by
          unfold capOut KWd.fin
          rw [if_pos (by rfl), if_neg hx]
        rw [hcs2, hcs3, ho]
        simp [-List.contains_eq_mem, capT, hw]
theorem cap_ascii {x : Str} (ha : ∀ c ∈ x.cps.toList, c < 128) : ∀ y ∈ Txt.words x, ∀ c ∈ y.cps.toList, c < 128 := by
  have key : ∀ (l : List Nat) (st : KWd.St), (∀ c ∈ l, c < 128) → (∀ y ∈ st.1, ∀ c ∈ y.cps.toList, c < 128) → (∀ c ∈ st.2.cps.toList, c < 128) →
      (∀ y ∈ (l.foldl KWd.step st).1, ∀ c ∈ y.cps.toList, c < 128) ∧ ∀ c ∈ (l.foldl KWd.step st).2.cps.toList, c < 128 := by
    intro l
    induction l with
    | nil => intro st _ h1 h2; exact ⟨h1, h2⟩
    | cons a r ih =>
      intro st h h1 h2
      rw [List.foldl_cons]
      refine ih _ (fun d hd => h d (List.mem_cons_of_mem _ hd)) ?_ ?_
      · unfold KWd.step
        split
        · split
          · exact h1
          · intro y hy
            rcases List.mem_append.mp hy with hy | hy
            · exact h1 y hy
            · rw [List.mem_singleton.mp hy]; exact h2
        · exact h1
      · unfold KWd.step
        split
        · split
          · exact h2
          · intro c hc
            cases hc
        · intro c hc
          rw [Str.cps_append, Array.toList_append] at hc
          rcases List.mem_append.mp hc with hc | hc
          · exact h2 c hc
          · rw [List.mem_singleton.mp hc]; exact h a (List.mem_cons_self ..)
  rw [KWd.words_scan]
  obtain ⟨k1, k2⟩ := key x.cps.toList ([], Str.empty) ha (fun y hy => nomatch hy) (fun c hc => nomatch hc)
  intro y hy
  unfold KWd.fin KWd.scan at hy
  split at hy
  · exact k1 y hy
  · rcases List.mem_append.mp hy with hy | hy
    · exact k1 y hy
    · rw [List.mem_singleton.mp hy]; exact k2
theorem cap_list {x y : Str} (ha : ∀ c ∈ x.cps.toList, c < 128) (hy : y = Str.join (Str.ofString " ") ((Txt.words x).map Txt.capitalize)) (jl : ∀ ps : List Str, (Str.join (Str.ofString " ") ps).cps.toList = joinL (ps.map (·.cps.toList))) : y.cps.toList = capT .b0 x.cps.toList := by
  rw [hy, jl, List.map_map]
  have e : (Txt.words x).map ((fun q : Str => q.cps.toList) ∘ Txt.capitalize) = (Txt.words x).map fun q => dueStrand true q.cps.toList :=
    List.map_congr_left fun q hq => capitalize_list (cap_ascii ha q hq)
  rw [e, KWd.words_scan]
  have h := cap_scan x.cps.toList ([], Str.empty) ha
  exact h
noncomputable def dueM : Bool → List Nat → List Nat
  | _, [] => []
  | false, c :: r => if whL.contains c then 32 :: dueM true r else lowC c :: dueM false r
  | true, c :: r => if whL.contains c then dueM true r else upC c :: dueM false r
noncomputable def madeL (safe : Bool) : List (List Nat) → List (List Nat)
  | [] => []
  | s :: r => dueStrand safe s :: r.map (dueStrand true)
noncomputable def strandsL (w : List Nat) : List (List Nat) := (w.foldl strandStep ([], [], false)).1 ++ [(w.foldl strandStep ([], [], false)).2.1]
noncomputable def dueL (w : List Nat) : List Nat := joinL (madeL (w.all safeL.contains) (strandsL w))
theorem made_snoc (b : Bool) (l : List (List Nat)) (a : List Nat) : madeL b (l ++ [a]) = madeL b l ++ [dueStrand (if l = [] then b else true) a] := by
  cases l with
  | nil => rfl
  | cons c r => simp [madeL]
theorem due_snoc' {l : List Nat} (h : l ≠ []) (b : Bool) (c : Nat) : dueStrand b (l ++ [c]) = dueStrand b l ++ [lowC c] := by
  cases l with
  | nil => exact absurd rfl h
  | cons a r => simp [dueStrand]
theorem made_nil {b : Bool} {l : List (List Nat)} : madeL b l = [] ↔ l = [] := by
  cases l <;> simp [madeL]
theorem strand_fold : ∀ (l : List Nat) (us : List (List Nat)) (x : List Nat) (iw : Bool), (iw = true → x = [] ∧ us ≠ []) → (iw = false → x = [] → us = []) →
    joinL (madeL false ((l.foldl strandStep (us, x, iw)).1 ++ [(l.foldl strandStep (us, x, iw)).2.1])) = joinL (madeL false (us ++ [x])) ++ dueM iw l
  | [], us, x, iw, _, _ => by cases iw <;> simp [-List.contains_eq_mem, dueM]
  | c :: r, us, x, iw, h1, h2 => by
    rw [List.foldl_cons]
    rcases hw : whL.contains c with _ | _
    · have e : strandStep (us, x, iw) c = (us, x ++ [c], false) := by unfold strandStep; rw [hw]; rfl
      rw [e, strand_fold r us (x ++ [c]) false (fun q => by cases q) (fun _ q => by simp at q)]
      cases iw with
      | true =>
        obtain ⟨rfl, hu⟩ := h1 rfl
        rw [made_snoc, made_snoc, joinL_snoc, joinL_snoc, if_neg hu, if_neg (fun q => hu (made_nil.mp q)), if_neg (fun q => hu (made_nil.mp q))]
        simp [-List.contains_eq_mem, dueM, hw, dueStrand]
      | false =>
        by_cases hx : x = []
        · have hu := h2 rfl hx
          subst hx hu
          simp [-List.contains_eq_mem, made_snoc, dueM, hw, dueStrand, madeL, joinL]
        · rw [made_snoc, made_snoc, joinL_snoc, joinL_snoc, due_snoc' hx]
          split <;> simp [-List.contains_eq_mem, dueM, hw]
    · cases iw with
      | true =>
        have e : strandStep (us, x, true) c = (us, x, true) := by unfold strandStep; rw [hw]; rfl
        rw [e, strand_fold r us x true h1 h2]
        simp [-List.contains_eq_mem, dueM, hw]
      | false =>
        have e : strandStep (us, x, false) c = (us ++ [x], [], true) := by unfold strandStep; rw [hw]; rfl
        rw [e, strand_fold r (us ++ [x]) [] true (fun _ => ⟨rfl, by simp⟩) (fun q => by cases q)]
        rw [made_snoc, joinL_snoc, if_neg (fun q => by simp [made_nil] at q)]
        simp [-List.contains_eq_mem, dueM, hw, dueStrand]
theorem due_unsafe {w : List Nat} (h : w.all safeL.contains = false) : dueL w = dueM false w := by
  unfold dueL strandsL
  rw [h, strand_fold w [] [] false (fun q => by cases q) (fun _ _ => rfl)]
  simp [madeL, joinL, dueStrand]
theorem safe_nowh : ∀ c ∈ safeL, whL.contains c = false := by decide +kernel
theorem safe_up : ∀ c ∈ safeL, safeL.contains (upC c) = true ∧ upC c ≠ 39 ∧ upC c ≠ 34 ∧ upC c ≠ 32 := by decide +kernel
theorem safe_low : ∀ c ∈ safeL, safeL.contains (lowC c) = true ∧ lowC c ≠ 39 ∧ lowC c ≠ 34 ∧ lowC c ≠ 32 := by decide +kernel
theorem strand_safe : ∀ (l : List Nat) (x : List Nat), (∀ c ∈ l, c ∈ safeL) → l.foldl strandStep ([], x, false) = ([], x ++ l, false)
  | [], x, _ => by simp
  | c :: r, x, h => by
    have e : strandStep ([], x, false) c = ([], x ++ [c], false) := by unfold strandStep; rw [safe_nowh c (h c (List.mem_cons_self ..))]; rfl
    rw [List.foldl_cons, e, strand_safe r _ fun d hd => h d (List.mem_cons_of_mem _ hd)]
    simp
theorem due_safe {w : List Nat} (h : w.all safeL.contains = true) : dueL w = dueStrand true w := by
  unfold dueL strandsL
  rw [h, strand_safe w [] fun c hc => List.contains_iff_mem.mp (List.all_eq_true.mp h c hc)]
  simp [madeL, joinL]
noncomputable def escL (w : List Nat) : List Nat := w.flatMap fun c => if c = 39 then [39, 34, 39, 34, 39] else [c]
theorem up_plain : ∀ c, c < 128 → c ≠ 39 → whL.contains c = false → upC c ≠ 39 ∧ upC c ≠ 10 := by decide +kernel
theorem low_plain : ∀ c, c < 128 → c ≠ 39 → whL.contains c = false → lowC c ≠ 39 ∧ lowC c ≠ 10 := by decide +kernel
theorem lex_sq (rest : List Nat) : ∀ (w tok : List Nat), (∀ c ∈ w, c < 128) →
    lexT .sq tok (capT .bw (escL w ++ 39 :: rest)) = lexT .wd (tok ++ dueM false w) (capT .bw rest) ∧
    lexT .sq tok (capT .bs (escL w ++ 39 :: rest)) = lexT .wd (tok ++ 32 :: dueM true w) (capT .bw rest)
  | [], tok, _ => by
    have h39 : whL.contains 39 = false := by decide +kernel
    constructor
    · simp [-List.contains_eq_mem, escL, capT, h39, lexT, dueM, show lowC 39 = 39 from rfl]
    · simp [-List.contains_eq_mem, escL, capT, h39, lexT, dueM, show upC 39 = 39 from rfl]
  | c :: r, tok, h => by
    have hc := h c (List.mem_cons_self ..)
    have ih := fun tok => lex_sq rest r tok fun d hd => h d (List.mem_cons_of_mem _ hd)
    have h39 : whL.contains 39 = false := by decide +kernel
    have h34 : whL.contains 34 = false := by decide +kernel
    by_cases e : c = 39
    · subst e
      have es : escL (39 :: r) = 39 :: 34 :: 39 :: 34 :: 39 :: escL r := by simp [escL]
      rw [es]
      constructor
      · simp [-List.contains_eq_mem, capT, h39, h34, lexT, show lowC 39 = 39 from rfl, show lowC 34 = 34 from rfl, (ih _).1, dueM]
      · simp [-List.contains_eq_mem, capT, h39, h34, lexT, show lowC 39 = 39 from rfl, show lowC 34 = 34 from rfl, show upC 39 = 39 from rfl, (ih _).1, dueM]
    · have es : escL (c :: r) = c :: escL r := by simp [escL, e]
      rw [es]
      rcases hw : whL.contains c with _ | _
      · have u := up_plain c hc e hw
        have l := low_plain c hc e hw
        constructor
        · simp only [List.cons_append, capT, hw, Bool.false_eq_true, if_false, lexT, l.1, l.2, dueM, (ih _).1]
          simp
        · simp only [List.cons_append, capT, hw, Bool.false_eq_true, if_false, lexT, u.1, u.2, dueM, (ih _).1, show ¬ (32 : Nat) = 39 by decide, show ¬ (32 : Nat) = 10 by decide]
          simp
      · constructor
        · simp only [List.cons_append, capT, hw, if_true, dueM, (ih _).2]
        · simp only [List.cons_append, capT, hw, if_true, dueM, (ih _).2]
theorem lex_safe (rest : List Nat) : ∀ (w tok : List Nat), (∀ c ∈ w, c ∈ safeL) → lexT .wd tok (capT .bw (w ++ rest)) = lexT .wd (tok ++ w.map lowC) (capT .bw rest)
  | [], tok, _ => by simp
  | c :: r, tok, h => by
    have hc := h c (List.mem_cons_self ..)
    have l := safe_low c hc
    have ih := lex_safe rest r (tok ++ [lowC c]) fun d hd => h d (List.mem_cons_of_mem _ hd)
    simp only [List.cons_append, capT, safe_nowh c hc, Bool.false_eq_true, if_false, lexT, l.1, l.2.1, l.2.2.1, l.2.2.2, if_true, ih]
    simp
theorem lex_word {w : List Nat} (ha : ∀ c ∈ w, c < 128) (rest : List Nat) : lexT .sp [] (capT .b0 (quoteL w ++ rest)) = lexT .wd (dueL w) (capT .bw rest) := by
  have h39 : whL.contains 39 = false := by decide +kernel
  unfold quoteL
  by_cases hn : w = []
  · subst hn
    rw [if_pos rfl]
    rw [show dueL [] = [] from due_safe rfl]
    simp [-List.contains_eq_mem, capT, h39, lexT, show lowC 39 = 39 from rfl, show upC 39 = 39 from rfl]
  · rw [if_neg hn]
    rcases hs : w.all safeL.contains with _ | _
    · rw [if_neg (by decide), due_unsafe hs]
      have e : (39 :: escL w ++ 39 :: rest) = [39] ++ (w.flatMap fun c => if c = 39 then [39, 34, 39, 34, 39] else [c]) ++ [39] ++ rest := by unfold escL; simp
      rw [← e]
      have := (lex_sq rest w [] ha).1
      simp only [List.nil_append] at this
      rw [← this]
      simp [-List.contains_eq_mem, capT, h39, lexT, show upC 39 = 39 from rfl]
    · rw [if_pos rfl, due_safe hs]
      have hm : ∀ c ∈ w, c ∈ safeL := fun c hc => List.contains_iff_mem.mp (List.all_eq_true.mp hs c hc)
      cases w with
      | nil => exact absurd rfl hn
      | cons c r =>
        have hc := hm c (List.mem_cons_self ..)
        have u := safe_up c hc
        have := lex_safe rest r [upC c] fun d hd => hm d (List.mem_cons_of_mem _ hd)
        simp only [List.cons_append, capT, safe_nowh c hc, Bool.false_eq_true, if_false, lexT, u.1, u.2.1, if_true]
        rw [this]
        rfl
theorem quote_head (w : List Nat) : ∃ c r, quoteL w = c :: r ∧ whL.contains c = false := by
  unfold quoteL
  by_cases hn : w = []
  · exact ⟨39, [39], by rw [if_pos hn], by decide +kernel⟩
  · rw [if_neg hn]
    rcases hs : w.all safeL.contains with _ | _
    · exact ⟨39, _, by rw [if_neg (by decide)]; rfl, by decide +kernel⟩
    · rw [if_pos rfl]
      cases w with
      | nil => exact absurd rfl hn
      | cons c r => exact ⟨c, r, rfl, safe_nowh c (List.contains_iff_mem.mp (List.all_eq_true.mp hs c (List.mem_cons_self ..)))⟩
theorem join_head (w : List Nat) (ws : List (List Nat)) : ∃ c r, joinL ((w :: ws).map quoteL) = c :: r ∧ whL.contains c = false := by
  obtain ⟨c, r, e, h⟩ := quote_head w
  cases ws with
  | nil => exact ⟨c, r, e, h⟩
  | cons v vs =>
    refine ⟨c, r ++ 32 :: joinL ((v :: vs).map quoteL), ?_, h⟩
    show quoteL w ++ 32 :: joinL ((v :: vs).map quoteL) = _
    rw [e]
    rfl
theorem law_plain : ∀ (w : List Nat) (ws : List (List Nat)), (∀ v ∈ w :: ws, ∀ c ∈ v, c < 128) → LexAll (capT .b0 (joinL ((w :: ws).map quoteL))) ((w :: ws).map dueL)
  | w, [], h => by
    refine .last ?_
    have := lex_word (h w (List.mem_cons_self ..)) []
    rw [List.append_nil] at this
    show lexT .sp [] (capT .b0 (quoteL w)) = _
    rw [this]
    rfl
  | w, v :: vs, h => by
    refine .more (r := capT .b0 (joinL ((v :: vs).map quoteL))) ?_ (law_plain v vs fun u hu => h u (List.mem_cons_of_mem _ hu))
    have := lex_word (h w (List.mem_cons_self ..)) (32 :: joinL ((v :: vs).map quoteL))
    show lexT .sp [] (capT .b0 (quoteL w ++ 32 :: joinL ((v :: vs).map quoteL))) = _
    rw [this]
    obtain ⟨c, r, e, hc⟩ := join_head v vs
    rw [e]
    have h32 : whL.contains 32 = true := by decide +kernel
    simp only [capT, h32, if_true, hc, Bool.false_eq_true, if_false, lexT]

end
section
theorem es_canLay : ∀ ns : List Str, ns.all PyData.strOk = true → PyData.canLayAll0 (ns.map PyData.str) = true
  | [], _ => rfl
  | a :: r, h => by
    rw [List.all_cons, Bool.and_eq_true] at h
    simp [PyData.canLayAll0, PyData.canLay0, h.1, es_canLay r h.2]
theorem es_depth : ∀ ns : List Str, PyData.depthAll (ns.map PyData.str) = 0
  | [] => rfl
  | _ :: r => by simp [PyData.depthAll, PyData.depth, es_depth r]
theorem es_shaped {ns : List Str} (h : ns.all PyData.strOk = true) : SeqAt.shaped (.list (ns.map PyData.str)) = true := by
  simp [SeqAt.shaped, PyData.canLay0, PyData.depth, es_canLay ns h, es_depth]
theorem es_sameAll : ∀ ns ms : List Str, PySem.Spec.sameAll (ns.map PyData.str) (ms.map PyData.str) = (ns == ms)
  | [], [] => by simp [PySem.Spec.sameAll]
  | [], _ :: _ => by simp [PySem.Spec.sameAll]
  | _ :: _, [] => by simp [PySem.Spec.sameAll]
  | a :: r, b :: t => by
    simp only [List.map_cons, PySem.Spec.sameAll, PySem.Spec.same, es_sameAll r t]
    rfl
theorem es_same (ns ms : List Str) : PySem.Spec.same (.list (ns.map PyData.str)) (.list (ms.map PyData.str)) = (ns == ms) := by
  simp only [PySem.Spec.same]; exact es_sameAll ns ms
theorem es_carried : ∀ (us : List (Str × Tok)), CarriedAll (strValues us) ((us.map fun p => p.1).map PyData.str)
  | [] => .nil
  | (x, t) :: r => .cons (.str x t) (es_carried r)
section
variable {prog : Program} {w : World} {A : Around} {E : Value → Shared → Prop} {s : Shared} {a b : Addr} {us vs : List (Str × Tok)} {Q : Value → Shared → Prop}
theorem es_eq (ha : s.heap.IsList a (strValues us).toArray) (hb : s.heap.IsList b (strValues vs).toArray) (h1 : (us.map fun p => p.1).all PyData.strOk = true) (h2 : (vs.map fun p => p.1).all PyData.strOk = true) (hu : A.units + 64 < cLine)
    (h : Q (.bool ((us.map fun p => p.1) == vs.map fun p => p.1)) s) :
    wpAny (model prog w) A (compareOp .Eq (.ref a) (.ref b)) Q E s :=
  eq_dataH_same (reads_newData ha (es_carried us)) (reads_newData hb (es_carried vs)) (es_shaped h1) (es_shaped h2) hu (SeqAt.noMix_of_shape (.list .str) rfl _ _ (list_map_has fun _ => rfl) (list_map_has fun _ => rfl)) (by rw [es_same]; exact h)
end
theorem carried_strs : ∀ {ys : List Value} {xs : List Str}, CarriedAll ys (xs.map PyData.str) → ∃ us, ys = strValues us ∧ (us.map fun p => p.1) = xs
  | _, [], .nil => ⟨[], rfl, rfl⟩
  | _, x :: r, .cons h hr => by
    obtain ⟨us, rfl, e⟩ := carried_strs hr
    cases h with
    | str _ t => exact ⟨(x, t) :: us, rfl, by rw [List.map_cons, e]⟩
theorem strOk_ascii {x : Str} (h : ∀ c ∈ x.cps.toList, c < 128) : PyData.strOk x = true := by
  unfold PyData.strOk
  rw [Array.all_eq_true']
  intro c hc
  have := h c (by simpa using hc)
  exact decide_eq_true (by omega)

end
section
local macro_rules | `(tactic| walk_at "no step 0") => `(tactic| fail)
local macro_rules | `(tactic| walk_at "no step 1") => `(tactic| fail)
local macro_rules | `(tactic| walk_at "no step 2") => `(tactic| fail)
local macro_rules | `(tactic| walk_at "no step 3") => `(tactic| fail)
local macro_rules | `(tactic| walk_at "no step 4") => `(tactic| fail)
local macro_rules | `(tactic| walk_at "no step 5") => `(tactic| fail)
local macro_rules | `(tactic| walk_at "no step 6") => `(tactic| fail)
local macro_rules | `(tactic| walk_at "no step 7") => `(tactic| fail)
local macro_rules | `(tactic| walk_at "no step 8") => `(tactic| fail)
local macro_rules | `(tactic| walk_at "no step 9") => `(tactic| fail)
local macro_rules | `(tactic| walk_at "no step 10") => `(tactic| fail)
local macro_rules | `(tactic| walk_at "no step 11") => `(tactic| fail)
local macro_rules | `(tactic| walk_at "no step 12") => `(tactic| fail)
local macro_rules | `(tactic| walk_at "no step 13") => `(tactic| fail)
local macro_rules | `(tactic| walk_at "no step 14") => `(tactic| fail)
local macro_rules | `(tactic| walk_at "no step 15") => `(tactic| fail)
local macro_rules | `(tactic| walk_at "no step 16") => `(tactic| fail)
local macro_rules | `(tactic| walk_at "no step 17") => `(tactic| fail)
local macro_rules | `(tactic| walk_at "no step 18") => `(tactic| fail)
local macro_rules | `(tactic| walk_at "no step 19") => `(tactic| fail)
local macro_rules | `(tactic| walk_at "no step 20") => `(tactic| fail)
local macro_rules | `(tactic| walk_at "no step 21") => `(tactic| fail)
local macro_rules | `(tactic| walk_at "no step 22") => `(tactic| fail)
local macro_rules | `(tactic| walk_at "no step 23") => `(tactic| fail)
theorem comp_signs {prog : Program} {w : World} {A : Around} {E : Value → Shared → Prop} {s : Shared} {h₀ : Heap} {L : Addr} {m : Str → Option Value} {news : List (Addr × Obj)} {env : Env} {elt iter : Expr} {x z : Str} {px pz' : Pos} {ifs : List Expr} {scope : Scope} {pos spos : Pos} {Q : Flow → Shared → Prop} (pz : Nat → Bool) (hL : env.locals = L)
    (hsw : swapsWith (.ListComp elt [⟨.Name x px, iter, ifs, 0⟩] scope pos) (some (.Name z pz')) spos.line env = pure true)
    (hh : A.handled = none) (hfree : ∀ q ∈ scope.names, q.2 ≠ .free) (hcell : ∀ q ∈ scope.names, q.2 ≠ .cell) (hkind : scope.kind = .function)
    (hnames : ∀ q ∈ scope.names, q.2 = .local → scope.names.lookup q.1 = some .local) (hx : scope.names.lookup x = some .local)
    (hy : env.kindOf z = some .local) (hp : (env.scope.kind == .class || (env.scope.kind == .module && env.locals != env.globals)) = false)
    (hs : ∀ x, foldedSetIterable iter env x = pure x)
    (h : wpAny (model prog w) A (eval iter env) (fun xv s₁ => ∃ y t, xv = .str y t ∧ y.length ≤ sizeLine ∧ Fr h₀ L s₁.heap m ∧ News h₀ L s₁.heap news ∧
      (∀ C c u s₂ m₂ E', c ∈ y.cps.toList → s₂.heap.Ns (compEnv scope C env).locals m₂ → m₂ x = some (.str ⟨#[c]⟩ u) → Fr h₀ L s₂.heap m →
        wpAny (model prog w) A (forIn ifs true fun c r => if r = true then do let ok ← isTrue c (compEnv scope C env) (eval c (compEnv scope C env)); pure (ForInStep.yield ok) else pure (ForInStep.yield r))
          (fun ok s₃ => ok = pz c ∧ Keeps s₂ s₃) E' s₂) ∧
      (∀ C c u s₂ m₂ E', c ∈ y.cps.toList → s₂.heap.Ns (compEnv scope C env).locals m₂ → m₂ x = some (.str ⟨#[c]⟩ u) → Fr h₀ L s₂.heap m →
        wpAny (model prog w) A (eval elt (compEnv scope C env)) (fun r s₃ => (∃ u', r = .str ⟨#[c]⟩ u') ∧ Keeps s₂ s₃) E' s₂) ∧
      (∀ D us n h' tk, Fr h₀ L h' (fun q => if q = z then some (.ref D) else m q) → News h₀ L h' ((D, listOf (strValues us).toArray n) :: news) → s₁.heap.get? D = none → (us.map fun p => p.1) = (signs y).filter (fun a => pz (a.cps.getD 0 0)) → Q .next { s₁ with heap := h', toks := tk })) E s) :
    wpAny (model prog w) A (exec (.Assign [.Name z pz'] (.ListComp elt [⟨.Name x px, iter, ifs, 0⟩] scope pos) spos) env) Q E s := by
  subst hL
  refine wpAny_Assign_ListComp_walk (ItemKind.str.lift fun a => pz (a.cps.getD 0 0)) (fun v r => ∃ a, ItemKind.str.is a v ∧ Carried r (.str a)) hsw hfree hcell hkind hnames hx hy hp
    (wpAny_mono h (fun xv s₁ h₁ => ?_) fun _ _ e => e) hs
  obtain ⟨y, t, rfl, hsz, F, N, htests, helt, hQ⟩ := h₁
  refine wpAny_pyIter_str fun o St W hst => ?_
  have up : ∀ (h' : Heap), (∀ b o', b ∉ [s₁.heap.objs.size] → (s₁.heap.push o).get? b = some o' → h'.get? b = some o') → ∀ b o', s₁.heap.get? b = some o' → h'.get? b = some o' :=
    fun h' hk b o' e => hk b o' (old_not_new e) (Heap.get?_push_of_some _ e)
  refine ⟨s₁.heap.objs.size, [s₁.heap.objs.size], [s₁.heap.objs.size], y.cps.size, SignAt y, St, m, rfl, W A hh, hsz, hst, ?_, ?_, (F.push o).ns, ⟨?_, ?_⟩, ?_⟩
  · intro b hb
    show b < (s₁.heap.push o).objs.size
    rw [Heap.size_push, List.mem_singleton.mp hb]
    exact Nat.lt_succ_self _
  · intro hm
    exact absurd F.ns.lt ((List.mem_singleton.mp hm) ▸ Nat.lt_irrefl _)
  · intro C i v s₃ m₃ E' hP hn hm hk _
    obtain ⟨c, u, hc, rfl⟩ := hP
    have ha : ItemKind.str.is ⟨#[c]⟩ (.str ⟨#[c]⟩ u) := ⟨u, rfl⟩
    rw [ItemKind.lift_is ha]
    exact htests C c u s₃ m₃ E' (List.mem_of_getElem? (by simpa using hc)) hn hm (F.keeps (up _ hk))
  · intro C i v s₃ m₃ E' hP hp' hn hm hk _
    obtain ⟨c, u, hc, rfl⟩ := hP
    have ha : ItemKind.str.is ⟨#[c]⟩ (.str ⟨#[c]⟩ u) := ⟨u, rfl⟩
    refine wpAny_mono (helt C c u s₃ m₃ E' (List.mem_of_getElem? (by simpa using hc)) hn hm (F.keeps (up _ hk))) (fun r s₄ h₄ => ⟨⟨_, ha, ?_⟩, h₄.2⟩) fun _ _ e => e
    obtain ⟨⟨u', rfl⟩, _⟩ := h₄
    exact .str _ u'
  · intro D h' tk ys vs hnew hlD hplD hlen hP hF hn' hk
    have hc := (areOf_signs hlen hP).paired (fun a => pz (a.cps.getD 0 0)) (fun a => PyData.str a) _ hF
    obtain ⟨us, hus, hmap⟩ := carried_strs hc
    have hnew' : s₁.heap.get? D = none := by
      cases e : s₁.heap.get? D with
      | none => rfl
      | some o' => rw [Heap.get?_push_of_some _ e] at hnew; cases hnew
    obtain ⟨n, hpl⟩ := hplD
    have eys : ys = (strValues us).toArray := by rw [← hus]
    have keep : ∀ b o', b ≠ env.locals → s₁.heap.get? b = some o' → h'.get? b = some o' := fun b o' hb e => hk b o' hb (old_not_new e) (Heap.get?_push_of_some _ e)
    have hLs : ∃ oL, s₁.heap.get? env.locals = some oL := by obtain ⟨o, _, _, ho, _⟩ := F.ns; exact ⟨o, ho⟩
    have hDL : D ≠ env.locals := by rintro rfl; obtain ⟨oL, e⟩ := hLs; rw [hnew'] at e; cases e
    have hD₀ : h₀.get? D = none := by
      cases e : h₀.get? D with
      | none => rfl
      | some o' => rw [F.keep _ _ e] at hnew'; cases hnew'
    refine hQ D us n h' tk ⟨hn', fun b o' e => keep b o' (Nat.ne_of_lt (Nat.lt_of_lt_of_le (Heap.lt_size e) F.above)) (F.keep b o' e), F.above⟩ (fun p hp => ?_) hnew' hmap
    rcases List.mem_cons.mp hp with rfl | hp
    · exact ⟨by rw [hpl, eys], hDL, hD₀⟩
    · exact ⟨keep _ _ (N p hp).2.1 (N p hp).1, (N p hp).2⟩
theorem comp_signsN {prog : Program} {w : World} {A : Around} {E : Value → Shared → Prop} {s : Shared} {h₀ : Heap} {L : Addr} {m : Str → Option Value} {news : List (Addr × Obj)} {env : Env} {elt iter : Expr} {x z : Str} {px pz' : Pos} {ifs : List Expr} {scope : Scope} {pos spos : Pos} {Q : Flow → Shared → Prop} {y : Str} {t : Tok} (pz : Nat → Bool) (F : Fr h₀ L s.heap m) (N : News h₀ L s.heap news) (hL : env.locals = L)
    (hsw : swapsWith (.ListComp elt [⟨.Name x px, iter, ifs, 0⟩] scope pos) (some (.Name z pz')) spos.line env = pure true)
    (hh : A.handled = none) (hfree : ∀ q ∈ scope.names, q.2 ≠ .free) (hcell : ∀ q ∈ scope.names, q.2 ≠ .cell) (hkind : scope.kind = .function)
    (hnames : ∀ q ∈ scope.names, q.2 = .local → scope.names.lookup q.1 = some .local) (hx : scope.names.lookup x = some .local)
    (hy : env.kindOf z = some .local) (hp : (env.scope.kind == .class || (env.scope.kind == .module && env.locals != env.globals)) = false)
    (hs : ∀ x, foldedSetIterable iter env x = pure x) (hsz : y.length ≤ sizeLine)
    (hi : wpAny (model prog w) A (eval iter env) (fun xv s₁ => xv = .str y t ∧ s₁ = s) E s)
    (htests : ∀ C c u s₂ m₂ E', c ∈ y.cps.toList → s₂.heap.Ns (compEnv scope C env).locals m₂ → m₂ x = some (.str ⟨#[c]⟩ u) → Fr h₀ L s₂.heap m →
        wpAny (model prog w) A (forIn ifs true fun c r => if r = true then do let ok ← isTrue c (compEnv scope C env) (eval c (compEnv scope C env)); pure (ForInStep.yield ok) else pure (ForInStep.yield r))
          (fun ok s₃ => ok = pz c ∧ Keeps s₂ s₃) E' s₂)
    (helt : ∀ C c u s₂ m₂ E', c ∈ y.cps.toList → s₂.heap.Ns (compEnv scope C env).locals m₂ → m₂ x = some (.str ⟨#[c]⟩ u) → Fr h₀ L s₂.heap m →
        wpAny (model prog w) A (eval elt (compEnv scope C env)) (fun r s₃ => (∃ u', r = .str ⟨#[c]⟩ u') ∧ Keeps s₂ s₃) E' s₂)
    (hQ : ∀ D us n h' tk, Fr h₀ L h' (fun q => if q = z then some (.ref D) else m q) → News h₀ L h' ((D, listOf (strValues us).toArray n) :: news) → s.heap.get? D = none → (us.map fun p => p.1) = (signs y).filter (fun a => pz (a.cps.getD 0 0)) → Q .next { s with heap := h', toks := tk }) :
    wpAny (model prog w) A (exec (.Assign [.Name z pz'] (.ListComp elt [⟨.Name x px, iter, ifs, 0⟩] scope pos) spos) env) Q E s := by
  refine comp_signs (news := news) (h₀ := h₀) (L := L) (m := m) pz hL hsw hh hfree hcell hkind hnames hx hy hp hs (wpAny_mono hi (fun xv s₁ h₁ => ?_) fun _ _ e => e)
  obtain ⟨rfl, rfl⟩ := h₁
  exact ⟨y, t, rfl, hsz, F, N, htests, helt, hQ⟩

end
section
theorem slice_head (y : Str) : (Txt.slice y none (some 1)).cps.toList = y.cps.toList.take 1 := by
  have hl : y.length = y.cps.toList.length := len_cps y
  by_cases h : y.cps.toList.length = 0
  · rw [slice_to_beyond (by omega), eq_of_beq (slice_closes_to (x := y) (j := (y.length : Int)) ⟨by omega, by omega⟩)]
    have e : y.cps.toList = [] := List.eq_nil_of_length_eq_zero h
    simp [e]
  · rw [eq_of_beq (slice_closes_to (x := y) (j := 1) ⟨by omega, by omega⟩)]
    simp
theorem slice_tail (y : Str) : (Txt.slice y (some 1) none).cps.toList = y.cps.toList.drop 1 := by
  have hl : y.length = y.cps.toList.length := len_cps y
  by_cases h : y.cps.toList.length = 0
  · rw [slice_from_beyond (by omega)]
    have e : y.cps.toList = [] := List.eq_nil_of_length_eq_zero h
    simp [e]
  · rw [eq_of_beq (slice_closes_from (x := y) (i := 1) ⟨by omega, by omega⟩)]
    show List.take ((y.cps.toList.length : Int) - 1).toNat (List.drop 1 y.cps.toList) = _
    exact List.take_of_length_le (by rw [List.length_drop]; omega)
theorem due_low {y : Str} (ha : ∀ c ∈ y.cps.toList, c < 128) : (Txt.lower (Txt.slice y none (some 1)) ++ Txt.lower (Txt.slice y (some 1) none) : Str).cps.toList = dueStrand false y.cps.toList := by
  rw [Str.cps_append, Array.toList_append, lower_list (fun c hc => ha c (by rw [slice_head] at hc; exact List.mem_of_mem_take hc)), lower_list (fun c hc => ha c (by rw [slice_tail] at hc; exact List.mem_of_mem_drop hc)), slice_head, slice_tail]
  cases y.cps.toList <;> rfl
theorem due_up {y : Str} (ha : ∀ c ∈ y.cps.toList, c < 128) : (Txt.upper (Txt.slice y none (some 1)) ++ Txt.lower (Txt.slice y (some 1) none) : Str).cps.toList = dueStrand true y.cps.toList := by
  rw [Str.cps_append, Array.toList_append, upper_list (fun c hc => ha c (by rw [slice_head] at hc; exact List.mem_of_mem_take hc)), lower_list (fun c hc => ha c (by rw [slice_tail] at hc; exact List.mem_of_mem_drop hc)), slice_head, slice_tail]
  cases y.cps.toList <;> rfl
theorem made_get (b : Bool) (l : List (List Nat)) (j : Nat) : (madeL b l)[j]? = (l[j]?).map (dueStrand (if j = 0 then b else true)) := by
  cases l with
  | nil => rfl
  | cons s r =>
    cases j with
    | zero => rfl
    | succ j => simp [madeL]
theorem made_len (b : Bool) (l : List (List Nat)) : (madeL b l).length = l.length := by
  cases l <;> simp [madeL]
theorem due_len (b : Bool) (l : List Nat) : (dueStrand b l).length = l.length := by
  cases l <;> simp [dueStrand]
theorem made_mem {b : Bool} {l : List (List Nat)} {s : List Nat} (h : s ∈ madeL b l) : ∃ b' r, r ∈ l ∧ s = dueStrand b' r := by
  cases l with
  | nil => cases h
  | cons a t =>
    rcases List.mem_cons.mp h with rfl | h
    · exact ⟨b, a, .head _, rfl⟩
    · obtain ⟨r, hr, rfl⟩ := List.mem_map.mp h
      exact ⟨true, r, .tail _ hr, rfl⟩
theorem strand_mem (l : List Nat) : ∀ (w : List Nat) (us : List (List Nat)) (x : List Nat) (iw : Bool), (∀ c ∈ w, c ∈ l) → (∀ s ∈ us ++ [x], (∀ c ∈ s, c ∈ l) ∧ s.length + w.length ≤ l.length) →
    ∀ s ∈ (w.foldl strandStep (us, x, iw)).1 ++ [(w.foldl strandStep (us, x, iw)).2.1], (∀ c ∈ s, c ∈ l) ∧ s.length ≤ l.length
  | [], us, x, iw, _, h => fun s hs => ⟨(h s hs).1, by have := (h s hs).2; simpa using this⟩
  | c :: w, us, x, iw, hw, h => by
    rw [List.foldl_cons]
    have hx := h x (List.mem_append_right _ (.head _))
    rw [List.length_cons] at hx
    have hu : ∀ s ∈ us, (∀ c ∈ s, c ∈ l) ∧ s.length + w.length ≤ l.length := fun s hs => by
      have := h s (List.mem_append_left _ hs)
      rw [List.length_cons] at this
      exact ⟨this.1, by omega⟩
    have hw' : ∀ d ∈ w, d ∈ l := fun d hd => hw d (.tail _ hd)
    unfold strandStep
    split
    · split
      · refine strand_mem l w _ _ _ hw' fun s hs => ?_
        rcases List.mem_append.mp hs with hs | hs
        · exact hu s hs
        · rw [List.mem_singleton.mp hs]; exact ⟨hx.1, by omega⟩
      · refine strand_mem l w _ _ _ hw' fun s hs => ?_
        rcases List.mem_append.mp hs with hs | hs
        · rcases List.mem_append.mp hs with hs | hs
          · exact hu s hs
          · rw [List.mem_singleton.mp hs]; exact ⟨hx.1, by show x.length + w.length ≤ _; omega⟩
        · rw [List.mem_singleton.mp hs]; exact ⟨(fun c hc => nomatch hc), by rw [List.length_nil]; omega⟩
    · refine strand_mem l w _ _ _ hw' fun s hs => ?_
      rcases List.mem_append.mp hs with hs | hs
      · exact hu s hs
      · rw [List.mem_singleton.mp hs]
        refine ⟨fun d hd => ?_, by show (x ++ [c]).length + w.length ≤ l.length; rw [List.length_append, List.length_singleton]; omega⟩
        rcases List.mem_append.mp hd with hd | hd
        · exact hx.1 d hd
        · rw [List.mem_singleton.mp hd]; exact hw c (.head _)
theorem strands_mem {w : List Nat} {s : List Nat} (h : s ∈ strandsL w) : (∀ c ∈ s, c ∈ w) ∧ s.length ≤ w.length :=
  strand_mem w w [] [] false (fun _ h => h) (fun s hs => by
    rw [List.mem_singleton.mp hs]
    exact ⟨(fun c hc => nomatch hc), by simp⟩) s h

end
section
local macro_rules | `(tactic| walk_at "no step 0") => `(tactic| fail)
local macro_rules | `(tactic| walk_at "no step 1") => `(tactic| fail)
local macro_rules | `(tactic| walk_at "no step 2") => `(tactic| fail)
local macro_rules | `(tactic| walk_at "no step 3") => `(tactic| fail)
local macro_rules | `(tactic| walk_at "no step 4") => `(tactic| fail)
local macro_rules | `(tactic| walk_at "no step 5") => `(tactic| fail)
local macro_rules | `(tactic| walk_at "no step 6") => `(tactic| fail)
local macro_rules | `(tactic| walk_at "no step 7") => `(tactic| fail)
local macro_rules | `(tactic| walk_at "no step 8") => `(tactic| fail)
local macro_rules | `(tactic| walk_at "no step 9") => `(tactic| fail)
local macro_rules | `(tactic| walk_at "no step 10") => `(tactic| fail)
local macro_rules | `(tactic| walk_at "no step 11") => `(tactic| fail)
local macro_rules | `(tactic| walk_at "no step 12") => `(tactic| fail)
local macro_rules | `(tactic| walk_at "no step 13") => `(tactic| fail)
local macro_rules | `(tactic| walk_at "no step 14") => `(tactic| fail)
local macro_rules | `(tactic| walk_at "no step 15") => `(tactic| fail)
local macro_rules | `(tactic| walk_at "no step 16") => `(tactic| fail)
local macro_rules | `(tactic| walk_at "no step 17") => `(tactic| fail)
local macro_rules | `(tactic| walk_at "no step 18") => `(tactic| fail)
local macro_rules | `(tactic| walk_at "no step 19") => `(tactic| fail)
local macro_rules | `(tactic| walk_at "no step 20") => `(tactic| fail)
local macro_rules | `(tactic| walk_at "no step 21") => `(tactic| fail)
local macro_rules | `(tactic| walk_at "no step 22") => `(tactic| fail)
local macro_rules | `(tactic| walk_at "no step 23") => `(tactic| fail)
structure StrandSt where
  us : List (Str × Tok)
  last : Str
  lt : Tok
  inw : Bool
  n : Nat
theorem kstB_skip {u : Str → Option Value} {z : Str} : ∀ {ps : List (Str × Value)}, (∀ p ∈ ps, z ≠ p.1) → kstB u ps z = u z
  | [], _ => rfl
  | p :: r, h => by
    show (if z = p.1 then some p.2 else kstB u r z) = _
    rw [if_neg (h p (.head _))]
    exact kstB_skip fun q hq => h q (.tail _ hq)
theorem strand_snoc (pre : List Int) (nn : Nat) : ((pre ++ [(nn : Int)]).map Int.toNat).foldl strandStep ([], [], false) = strandStep ((pre.map Int.toNat).foldl strandStep ([], [], false)) nn := by
  rw [List.map_append, List.foldl_append]
  rfl
theorem vals_snoc (us : List (Str × Tok)) (y : Str) (t : Tok) : (strValues (us ++ [(y, t)])).toArray = (strValues us).toArray.push (.str y t) := by
  unfold strValues
  rw [List.map_append]
  simp
def strandRel (pre : List Int) (c : StrandSt) : Prop := (c.us.map (fun p => p.1.cps.toList), c.last.cps.toList, c.inw) = (pre.map Int.toNat).foldl strandStep ([], [], false)
theorem wh_yes {c : Nat} (h : whL.contains c = true) : c ∈ (Str.ofString " \t\n\x0b\x0c\x0d\x1c\x1d\x1e\x1f").cps.toList := by
  rw [show (Str.ofString " \t\n\x0b\x0c\x0d\x1c\x1d\x1e\x1f").cps.toList = [32, 9, 10, 11, 12, 13, 28, 29, 30, 31] by decide +kernel]
  exact List.contains_iff_mem.mp h
theorem wh_no {c : Nat} (h : whL.contains c = false) : c ∉ (Str.ofString " \t\n\x0b\x0c\x0d\x1c\x1d\x1e\x1f").cps.toList := by
  rw [show (Str.ofString " \t\n\x0b\x0c\x0d\x1c\x1d\x1e\x1f").cps.toList = [32, 9, 10, 11, 12, 13, 28, 29, 30, 31] by decide +kernel]
  intro q
  have := List.contains_iff_mem.mpr q
  rw [show ([32, 9, 10, 11, 12, 13, 28, 29, 30, 31] : List Nat) = whL from rfl, h] at this
  cases this
local macro_rules | `(tactic| walk_at "exec For Name Name cons nil") => `(tactic| (k_here; (with_reducible show wpAny _ _ (exec (Stmt.For (Expr.Name ("sign" : Str) _) _ _ _ _) _) _ _ _); (rename Fr _ _ _ _ => lF'); (with_unfolding_all refine' For_invVF lF' ?k1 ?k2 ?_; (case k1 => exact rfl); (case k2 => exact rfl))))
local macro_rules | `(tactic| walk_at "getItem ref") => `(tactic| (k_here; (with_reducible show wpAny _ _ (getItem (Value.ref _) (Value.int (-1) _)) _ _ _); k_dflt (refine' get_lastN ?rN ?rm ?_; (case rN => k_asm); (case rm => exact List.mem_append_left _ (List.mem_cons_self ..)))))
local macro_rules | `(tactic| walk_at "setItem ref") => `(tactic| (k_here; (with_reducible show wpAny _ _ (setItem (Value.ref _) (Value.int (-1) _) _) _ _ _); k_dflt (refine' set_lastN ?rF ?rN ?rU ?_; (case rF => k_asm); (case rN => k_asm); (case rU => exact Upd.head (by assumption)); (intro h9 F9 N9))))
local macro_rules | `(tactic| walk_at "call builtin:list.append") => `(tactic| (k_here; k_dflt (refine' append_K ?rF ?rN ?rU ?_ ?rz; (case rF => k_asm); (case rN => k_asm); (case rU => exact Upd.head (by assumption)); (case rz => with_reducible assumption); (intro h9 F9 N9))))
local macro_rules | `(tactic| walk_at "pyIter str") => `(tactic| ((with_reducible show wpAny _ _ (pyIter (Value.str _ _)) (fun it s₂ => LoopAtV _ _ _ _ _ _ _ _ _ it s₂) _ _); refine stop_here ?_))
local macro_rules | `(tactic| walk_at "exec Assign cons ListComp") => `(tactic| (refine stop_here ?_))
local macro_rules | `(tactic| walk_at "exec For Name Call cons nil") => `(tactic| (k_here; (with_reducible show wpAny _ _ (exec (Stmt.For (Expr.Name ("k" : Str) _) _ _ _ _) _) _ _ _); (rename Fr _ _ _ _ => lF'); (with_unfolding_all refine' For_invVF lF' ?k1 ?k2 ?_; (case k1 => exact rfl); (case k2 => exact rfl))))
local macro_rules | `(tactic| walk_at "pyIter ref") => `(tactic| ((with_reducible show wpAny _ _ (pyIter (Value.ref _)) (fun it s₂ => LoopAtV _ _ _ _ _ _ _ _ _ it s₂) _ _); refine stop_here ?_))
theorem safe_test {c : Nat} (h : c < 128) : (!!(Builtin.Str.occurrences (Str.ofString "abcdefghijklmnopqrstuvwxyzABCDEFGHIJKLMNOPQRSTUVWXYZ" ++ Str.ofString "0123456789" ++ Str.ofString "_@%+=:,./-") ⟨#[c]⟩ 0 (Str.ofString "abcdefghijklmnopqrstuvwxyzABCDEFGHIJKLMNOPQRSTUVWXYZ" ++ Str.ofString "0123456789" ++ Str.ofString "_@%+=:,./-").length 1).isEmpty) = !safeL.contains c := by
  rw [StrLaws.found_one]
  exact (by decide +kernel : ∀ c, c < 128 → (!decide (c ∈ (Str.ofString "abcdefghijklmnopqrstuvwxyzABCDEFGHIJKLMNOPQRSTUVWXYZ" ++ Str.ofString "0123456789" ++ Str.ofString "_@%+=:,./-").cps.toList)) = !safeL.contains c) c h
theorem len_strs {prog : Program} {w : World} {A : Around} {E : Value → Shared → Prop} {s : Shared} {h₀ : Heap} {L l : Addr} {news : List (Addr × Obj)} {us : List (Str × Tok)} {c : Nat} {Q : Value → Shared → Prop} (N : News h₀ L s.heap news) (hm : (l, listOf (strValues us).toArray c) ∈ news) (hb : us.length ≤ 1001)
    (h : Q (.int ((us.length : Nat) : Int) (s.toks + 1)) { s with toks := s.toks + 1 + 1 }) : wpAny (model prog w) A (call (.builtin "len") [.ref l]) Q E s :=
  kst_len N hm (by unfold strValues; rw [List.length_map]) (by omega) h
local macro_rules | `(tactic| walk_at "call builtin:len") => `(tactic| (k_here; k_dflt (refine' len_strs ?rN ?rm ?rb ?_; (case rN => k_asm); (case rm => k_mem); (case rb => with_reducible assumption))))
theorem item_strN {prog : Program} {w : World} {A : Around} {E : Value → Shared → Prop} {s : Shared} {value slice : Expr} {h₀ : Heap} {L D : Addr} {news : List (Addr × Obj)} {us : List (Str × Tok)} {n j : Nat} {t u : Tok} {y : Str} {Q : Value → Shared → Prop} (N : News h₀ L s.heap news) (hm : (D, listOf (strValues us).toArray n) ∈ news) (hb : us.length ≤ 1001) (hy : us[j]? = some (y, u))
    (h : Q (.str y u) s) (hs : subscripted slice false (.ref D) (.int (j : Int) t) = operate [.ref D, .int (j : Int) t] (getItem (.ref D) (.int (j : Int) t)) := by with_unfolding_all rfl) (hg : ∀ r, letTemporaryGo value (.ref D) r = pure () := by intro _; with_unfolding_all rfl) :
    wpAny (model prog w) A (subscriptTail value slice (.ref D) (.int (j : Int) t)) Q E s := by
  have hj : j < us.length := (List.getElem?_eq_some_iff.mp hy).1
  refine item_listL ⟨_, (N _ hm).1, rfl, n, rfl⟩ (by omega) (by omega) ?_ h hs hg
  unfold strValues
  rw [Int.toNat_natCast, List.getElem?_map, hy]
  rfl
theorem es_nil {prog : Program} {w : World} {A : Around} {E : Value → Shared → Prop} {s : Shared} {h₀ : Heap} {L a b : Addr} {rest : List (Addr × Obj)} {us : List (Str × Tok)} {n k : Nat} {r : Bool} {Q : Value → Shared → Prop} (N : News h₀ L s.heap ((b, listOf (#[] : Array Value) k) :: rest)) (hm : (a, listOf (strValues us).toArray n) ∈ rest)
    (hs : (us.map fun p => p.1).all PyData.strOk = true) (hr : us.isEmpty = r) (hu : A.units + 64 < cLine) (h : News h₀ L s.heap rest → Q (.bool r) s) : wpAny (model prog w) A (compareOp .Eq (.ref a) (.ref b)) Q E s := by
  refine es_eq (us := us) (vs := []) ⟨_, (N _ (.tail _ hm)).1, rfl, n, rfl⟩ ⟨_, (N _ (.head _)).1, rfl, k, rfl⟩ hs rfl hu ?_
  have e : ((us.map fun p => p.1) == ([] : List (Str × Tok)).map fun p => p.1) = r := by
    rw [← hr]
    cases us <;> rfl
  rw [e]
  exact h (news_tail N)
local macro_rules | `(tactic| walk_at "subscriptTail Name Name ref int") => `(tactic| (k_here; k_dflt (refine' item_strN ?rN ?rm ?rb ?ry ?_; (case rN => k_asm); (case rm => k_mem); (case rb => with_reducible assumption); (case ry => with_reducible assumption))))
local macro_rules | `(tactic| walk_at "compareOp Eq ref ref") => `(tactic| (k_here; k_dflt (refine' es_nil ?rN ?rm ?rs ?rr ?ru ?_; (case rN => assumption); (case rm => k_mem); (case rs => with_reducible assumption); (case rr => with_reducible assumption); (case ru => k_room); (intro N9))))
local macro_rules | `(tactic| walk_at "call builtin:str.upper") => `(tactic| (k_here; (with_reducible show wpAny _ _ (call (Value.builtin "str.upper") [Value.str _ _]) _ _ _); (refine SCL.upper (by omega) ?_); intro _))
local macro_rules | `(tactic| walk_at "call builtin:str.lower") => `(tactic| (k_here; (with_reducible show wpAny _ _ (call (Value.builtin "str.lower") [Value.str _ _]) _ _ _); (refine SCL.lower (by omega) ?_); intro _))
theorem codes_back (x : Str) : (KStt.codes x).map Int.toNat = x.cps.toList := by
  unfold KStt.codes
  rw [List.map_map]
  exact (List.map_congr_left (g := _root_.id) fun c _ => Int.toNat_natCast c).trans (List.map_id _)
theorem strands_of {x : Str} {c : StrandSt} (h : strandRel (KStt.codes x) c) : (c.us ++ [(c.last, c.lt)]).map (fun p => p.1.cps.toList) = strandsL x.cps.toList := by
  unfold strandRel at h
  rw [codes_back] at h
  unfold strandsL
  rw [← h, List.map_append]
  rfl
theorem unsafe_nil {x : Str} {us : List (Str × Tok)} (h : (us.map fun p => p.1) = (signs x).filter (fun a => (fun c => !(safeL.contains c)) (a.cps.getD 0 0))) : us.isEmpty = x.cps.toList.all safeL.contains ∧ ((∀ c ∈ x.cps.toList, c < 128) → (us.map fun p => p.1).all PyData.strOk = true) := by
  have key : ∀ l : List Nat, ((l.map fun n => (⟨#[n]⟩ : Str)).filter (fun a => (fun c => !(safeL.contains c)) (a.cps.getD 0 0))).isEmpty = l.all safeL.contains := by
    intro l
    induction l with
    | nil => rfl
    | cons c r ih =>
      rw [List.map_cons, List.filter_cons, List.all_cons]
      rcases hc : safeL.contains c with _ | _
      · rw [if_pos (by show (!(safeL.contains c)) = true; rw [hc]; rfl)]; rfl
      · rw [if_neg (by show ¬ (!(safeL.contains c)) = true; rw [hc]; decide), ih]; rfl
  constructor
  · have e : us.isEmpty = (us.map fun p => p.1).isEmpty := by cases us <;> rfl
    rw [e, h]
    exact key _
  · intro ha
    rw [h, List.all_eq_true]
    intro a hm
    obtain ⟨n, hn, rfl⟩ := List.mem_map.mp (List.mem_filter.mp hm).1
    exact strOk_ascii fun c hc => by
      have : c = n := by simpa using hc
      rw [this]; exact ha n hn
theorem made_step {b : Bool} {S : List (List Nat)} {ms : List (Str × Tok)} {Y : Str} {tq : Tok} {j : Nat} {y : List Nat} (h1 : ms.length = j) (h2 : ms.map (fun p => p.1.cps.toList) = (madeL b S).take j) (hy : S[j]? = some y) (hY : Y.cps.toList = dueStrand (if j = 0 then b else true) y) :
    (ms ++ [(Y, tq)]).map (fun p => p.1.cps.toList) = (madeL b S).take (j + 1) := by
  rw [List.map_append, h2, List.take_add_one, made_get, hy]
  show _ ++ [Y.cps.toList] = _
  rw [hY]
  rfl
theorem made_done {b : Bool} {S : List (List Nat)} {ms : List (Str × Tok)} {Y : Str} {tq : Tok} {pre : List Int} {k : Int} {y : List Nat} (h : ms.length = pre.length ∧ ms.map (fun p => p.1.cps.toList) = (madeL b S).take pre.length) (hy : S[pre.length]? = some y) (hY : Y.cps.toList = dueStrand (if pre.length = 0 then b else true) y) :
    (ms ++ [(Y, tq)]).length = (pre ++ [k]).length ∧ (ms ++ [(Y, tq)]).map (fun p => p.1.cps.toList) = (madeL b S).take (pre ++ [k]).length := by
  rw [List.length_append, List.length_append, List.length_singleton, List.length_singleton]
  exact ⟨by rw [h.1], made_step h.1 h.2 hy hY⟩
theorem strsAre_of : ∀ us : List (Str × Tok), StrsAre (strValues us) (us.map fun p => p.1)
  | [] => .nil
  | (y, t) :: r => .cons y t (strsAre_of r)
theorem sum_le {us : List (Str × Tok)} (h : ∀ p ∈ us, p.1.length ≤ 1000) : ((us.map fun p => p.1).map (·.length)).sum ≤ 1000 * us.length := by
  induction us with
  | nil => exact Nat.le_refl _
  | cons a r ih =>
    have h1 := h a (.head _)
    have h2 := ih fun p hp => h p (.tail _ hp)
    simp only [List.map_cons, List.sum_cons, List.length_cons]
    omega
theorem join_strsN {prog : Program} {w : World} {A : Around} {E : Value → Shared → Prop} {s : Shared} {h₀ : Heap} {L M : Addr} {news : List (Addr × Obj)} {us : List (Str × Tok)} {n : Nat} {t : Tok} {l : List (List Nat)} {Q : Value → Shared → Prop} (N : News h₀ L s.heap news) (hm : (M, listOf (strValues us).toArray n) ∈ news) (hl : us.map (fun p => p.1.cps.toList) = l) (hb : (∀ p ∈ us, p.1.length ≤ 1000) ∧ us.length ≤ 1001)
    (h : ∀ t' k y, y.cps.toList = joinL l → Q (.str y t') { s with toks := k }) : wpAny (model prog w) A (call (.builtin "str.join") [.str (Str.ofString " ") t, .ref M]) Q E s := by
  have e1 : (Str.ofString " ").length = 1 := by decide +kernel
  have e2 := sum_le hb.1
  refine join_list ⟨_, (N _ hm).1, rfl, n, rfl⟩ (strsAre_of us) ?_ fun t' k => h t' k _ ?_
  · rw [e1, List.length_map]
    have := hb.2
    omega
  · rw [eq_of_beq (join_closes (sep := Str.ofString " ") (ys := us.map fun p => p.1) rfl), join_joinL, ← hl, List.map_map]
    rfl
theorem made_all {x : List Nat} {b : Bool} {st : List (Str × Tok)} {c2 : List (Str × Tok)} {k : Nat} (hs : st.map (fun p => p.1.cps.toList) = strandsL x) (hx : x.length ≤ 1000) (hlen : st.length ≤ 1001) (hk : k = st.length) (h : c2.length = k ∧ c2.map (fun p => p.1.cps.toList) = (madeL b (strandsL x)).take k) :
    c2.map (fun p => p.1.cps.toList) = madeL b (strandsL x) ∧ (∀ p ∈ c2, p.1.length ≤ 1000) ∧ c2.length ≤ 1001 := by
  have e : (madeL b (strandsL x)).length = st.length := by rw [made_len, ← hs, List.length_map]
  have h2 : c2.map (fun p => p.1.cps.toList) = madeL b (strandsL x) := by
    rw [h.2]
    exact List.take_of_length_le (by omega)
  refine ⟨h2, fun p hp => ?_, by omega⟩
  have z : p.1.cps.toList ∈ madeL b (strandsL x) := by rw [← h2]; exact List.mem_map_of_mem (f := fun p : Str × Tok => p.1.cps.toList) hp
  obtain ⟨b', r, hr, er⟩ := made_mem z
  have z2 := (strands_mem hr).2
  rw [len_cps, er, due_len]
  omega
local macro_rules | `(tactic| walk_at "call builtin:str.join") => `(tactic| (k_here; k_dflt (refine' join_strsN ?rN ?rm ?rl ?rb ?_; (case rN => k_asm); (case rm => k_mem); (case rl => with_reducible assumption); (case rb => with_reducible assumption); (intro t9 k9 y9 hy9))))
theorem push_size (us : List (Str × Tok)) {k : Nat} (h : us.length ≤ k) (hk : k ≤ 1001) : (strValues us).toArray.size ≤ sizeLine := by
  rw [List.size_toArray, sizeLine_eq]
  unfold strValues
  rw [List.length_map]
  omega
local macro_rules | `(tactic| walk_at "InvEndN") => `(tactic| refine stop_here ?_)
set_option maxHeartbeats 8000000 in
theorem due_c {w : World} {p : Program} {loose : List Str} {mean : ExcName → Option Value} {mg mb : Str → Option Value}
    (dp un : Nat) (gd : Option (List Code)) (cn : Str) (cs : Scope) (a : Addr) (ccd : Value) (cl : List (Str × Addr)) (outer : List Env) (A₀ : Around) (base h₀ : Heap) (L : Addr) (m : Str → Option Value) (s : Shared) (Q E : Value → Shared → Prop)
    (x : Str) (t : Tok) (ledger : List (Addr × Obj))
    (B : Below A₀ base outer h₀) (F : Fr h₀ L s.heap m) (X : (hd0.heap_1 w.params).In h₀)
    (T : Top p loose mean mg mb h₀) (hk : cs.kind = .function) (N : News h₀ L s.heap ledger) (hdp : dp + 10 < recursionLimit) (hun : un + 100 < cLine) (ha : ∀ c ∈ x.cps.toList, c < 128) (hb : x.length ≤ 1000)
    (ret : ∀ (t : Tok) (y : Str) (h' : Heap) (tk' : Nat), Fr h₀ L h' m → News h₀ L h' ledger → y.cps.toList = dueL x.cps.toList → Q (.str y t) { s with heap := h', toks := tk' }) :
    wpAny (model PySem.Challenge.rw_dn0076_08.row.prog w) (ktrTop dp un gd cn cs L a ccd cl outer) (call (.ref 779) [.str x t]) Q E s := by
  w_on
  revert X; k_fill; intro X
  refine wpAny_call ?_
  k_dflt (refine' code_def ?k1 ?k2 ?k3 ?k4 ?k5 ?kA ?kF ?kK ?k6 ?k7 ?k8 ?k9 ?kB ?_ ?c2 ?c3 ?c4 ?c5; (case kA => exact rfl); (case kF => exact rfl); (case kK => assumption); (case k1 => k_asm); (case k2 => k_asm); (case k3 => k_asm); (case k4 => k_asm); (case k5 => k_asm); (case k6 => k_is); (case k7 => k_is); (case k8 => k_room); (case k9 => first | exact BindsTo.of_eq rfl | exact binds_K (by k_in) rfl (by k_is) rfl rfl rfl); (case c5 => decide); (case kB => exact locs rfl); (case c2 => exact rfl); (case c3 => exact rfl); (case c4 => exact rfl))
  intro g' L' h' FG' F' N' B' X' T'
  (try dsimp only)
  (try k_fold)
  k_steps
  unfold StopHere
  rename News _ _ _ _ => Nx
  rename Fr _ _ _ _ => Fx
  obtain ⟨D, lt0, mm, Ny, Fy, q1, q2, q3, q4⟩ : ∃ (D : Addr) (lt0 : Tok) (mm : Str → Option Value), News g' L' _ ((D, listOf ((strValues []).toArray.push (.str (Str.ofString "") lt0)) 0) :: ledger) ∧ Fr g' L' _ mm ∧ mm (Str.ofString "strands") = some (.ref D) ∧ mm (Str.ofString "in_white") = some (.bool false) ∧ mm (Str.ofString "word") = some (.str x t) ∧ AllLt D ledger := ⟨_, _, _, news_tail Nx, Fx, rfl, rfl, rfl, by first | assumption | exact allLt_of (by assumption) | (simp_all; done)⟩
  clear Nx Fx
  refine KStt.kst_text (σ := StrandSt) (fun c => (D, listOf ((strValues c.us).toArray.push (.str c.last c.lt)) c.n) :: ledger) (fun c => [(Str.ofString "strands", .ref D), (Str.ofString "in_white", .bool c.inw), (Str.ofString "word", .str x t)]) (fun _ => True) [Str.ofString "is_white"] (fun pre c => strandRel pre c ∧ c.last.length + c.us.length ≤ pre.length) ⟨[], Str.ofString "", lt0, false, 0⟩ rfl Fy Ny ?hz ?hk ⟨rfl, Nat.zero_le _⟩ ?turn ?done
  case hz => exact trivial
  case hk => exact List.forall_mem_cons.mpr ⟨q1, List.forall_mem_cons.mpr ⟨q2, List.forall_mem_cons.mpr ⟨q3, List.forall_mem_nil _⟩⟩⟩
  case turn =>
    intro c pre post nn tt uu hh tkk own e1 off hf0 hp0 Fr1 Nr1
    obtain ⟨hp, hsz⟩ := hp0
    have hlen : pre.length + 1 ≤ 1000 := by
      have z := congrArg List.length e1
      rw [KStt.codes_length, List.length_append, List.length_cons] at z
      omega
    have hf : c.last.length ≤ 1000 := by omega
    have hsize : ((strValues c.us).toArray.push (.str c.last c.lt)).size ≤ sizeLine := by
      rw [Array.size_push, List.size_toArray, sizeLine_eq]
      unfold strValues
      rw [List.length_map]
      omega
    have hDl : ∀ p ∈ ledger ++ own, p.1 ≠ D := by
      intro p hp
      rcases List.mem_append.mp hp with hp | hp
      · exact Nat.ne_of_lt (kst_ltOf q4 p hp)
      · exact off p hp D (.head _)
    clear ret Ny Fy
    rcases hw : whL.contains nn with _ | _
    · have hno := inF (x := Str.ofString " \t\n\x0b\x0c\x0d\x1c\x1d\x1e\x1f") (c := nn) (wh_no hw)
      k_steps
      all_goals unfold StopHere
      rename News _ _ _ ((D, listOf (Array.push _ (.str (_ ++ _) _)) _) :: _) => Nz
      obtain ⟨tq, Nz⟩ : ∃ tq, News g' L' _ ((D, listOf ((strValues c.us).toArray.push (.str (c.last ++ ⟨#[nn]⟩) tq)) c.n) :: (ledger ++ own)) := ⟨_, Nz⟩
      refine kst_end ⟨c.us, c.last ++ ⟨#[nn]⟩, tq, false, c.n⟩ (by assumption) Nz ?hn ?ho rfl ?hf ?hk ?hr ?hp
      case hn => exact fun p hp => List.mem_append_left own hp
      case ho => exact fun p hp => List.mem_append_right (_ :: ledger) hp
      case hf => exact trivial
      case hk => exact List.forall_mem_cons.mpr ⟨rfl, List.forall_mem_cons.mpr ⟨congrArg (fun b => some (Value.bool b)) hno, List.forall_mem_cons.mpr ⟨rfl, List.forall_mem_nil _⟩⟩⟩
      case hr =>
        intro z h1 h2 h3
        have z2 := h2 _ (.tail _ (.head _))
        have z3 : z ≠ Str.ofString "is_white" := fun e => by rw [e] at h3; simp at h3
        have hq : ∀ p ∈ ([(Str.ofString "strands", Value.ref D), (Str.ofString "in_white", Value.bool c.inw), (Str.ofString "word", Value.str x t)] : List (Str × Value)), z ≠ p.1 := List.forall_mem_cons.mpr ⟨h2 _ (.head _), List.forall_mem_cons.mpr ⟨z2, List.forall_mem_cons.mpr ⟨h2 _ (.tail _ (.tail _ (.head _))), List.forall_mem_nil _⟩⟩⟩
        simp only [kstB_skip hq, h1, z2, z3, h3, if_false, Bool.false_eq_true]
      case hp =>
        refine ⟨?_, by rw [List.length_append]; show (c.last ++ ⟨#[nn]⟩ : Str).length + c.us.length ≤ _; rw [Str.length_append]; show c.last.length + 1 + c.us.length ≤ pre.length + 1; omega⟩
        show _ = _
        rw [strand_snoc, ← show _ = _ from hp]
        show _ = strandStep _ _
        unfold strandStep
        rw [hw]
        simp
        exact cps_one rfl nn
    · have hyes := inT (x := Str.ofString " \t\n\x0b\x0c\x0d\x1c\x1d\x1e\x1f") (c := nn) (wh_yes hw)
      rcases hi : c.inw with _ | _
      · k_steps
        all_goals unfold StopHere
        rename News _ _ _ ((D, listOf (Array.push _ _) (c.n + 1)) :: _) => Nz
        obtain ⟨tq, Nz⟩ : ∃ tq, News g' L' _ ((D, listOf (((strValues c.us).toArray.push (.str c.last c.lt)).push (.str (Str.ofString "") tq)) (c.n + 1)) :: (ledger ++ own)) := ⟨_, Nz⟩
        refine kst_end ⟨c.us ++ [(c.last, c.lt)], Str.ofString "", tq, true, c.n + 1⟩ (by assumption) Nz ?hn ?ho rfl ?hf ?hk ?hr ?hp
        case hn =>
          intro p hp
          rw [vals_snoc] at hp
          exact List.mem_append_left own hp
        case ho => exact fun p hp => List.mem_append_right (_ :: ledger) hp
        case hf => exact trivial
        case hk => exact List.forall_mem_cons.mpr ⟨rfl, List.forall_mem_cons.mpr ⟨congrArg (fun b => some (Value.bool b)) hyes, List.forall_mem_cons.mpr ⟨rfl, List.forall_mem_nil _⟩⟩⟩
        case hr =>
          intro z h1 h2 h3
          have z2 := h2 _ (.tail _ (.head _))
          have z3 : z ≠ Str.ofString "is_white" := fun e => by rw [e] at h3; simp at h3
          have hq : ∀ p ∈ ([(Str.ofString "strands", Value.ref D), (Str.ofString "in_white", Value.bool c.inw), (Str.ofString "word", Value.str x t)] : List (Str × Value)), z ≠ p.1 := List.forall_mem_cons.mpr ⟨h2 _ (.head _), List.forall_mem_cons.mpr ⟨z2, List.forall_mem_cons.mpr ⟨h2 _ (.tail _ (.tail _ (.head _))), List.forall_mem_nil _⟩⟩⟩
          simp only [kstB_skip hq, h1, z2, z3, h3, if_false, Bool.false_eq_true]
        case hp =>
          refine ⟨?_, by show (Str.ofString "").length + (c.us ++ [(c.last, c.lt)]).length ≤ (pre ++ [(nn : Int)]).length; rw [List.length_append, List.length_append]; show 0 + (c.us.length + 1) ≤ pre.length + 1; omega⟩
          show _ = _
          rw [strand_snoc, ← show _ = _ from hp]
          show _ = strandStep _ _
          unfold strandStep
          rw [hw]
          simp [hi]
          rfl
      · k_steps
        all_goals unfold StopHere
        all_goals (refine kst_end c (by assumption) (by assumption) ?hn ?ho rfl trivial ?hk ?hr ?hp)
        case hn => exact fun p hp => List.mem_append_left _ hp
        case ho => exact fun p hp => List.mem_append_right _ hp
        case hk => exact List.forall_mem_cons.mpr ⟨rfl, List.forall_mem_cons.mpr ⟨by rw [hi]; exact congrArg (fun b => some (Value.bool b)) hyes, List.forall_mem_cons.mpr ⟨rfl, List.forall_mem_nil _⟩⟩⟩
        case hr =>
          intro z h1 h2 h3
          have z1 := h2 _ (.head _)
          have z2 := h2 _ (.tail _ (.head _))
          have z3 : z ≠ Str.ofString "is_white" := fun e => by rw [e] at h3; simp at h3
          simp only [kstB_skip h2, h1, z2, z3, h3, if_false, Bool.false_eq_true]
        case hp =>
          refine ⟨?_, by rw [List.length_append]; exact Nat.le_trans hsz (Nat.le_add_right _ _)⟩
          show _ = _
          rw [strand_snoc, ← show _ = _ from hp]
          show _ = strandStep _ _
          unfold strandStep
          rw [hw]
          simp [hi]
  case done =>
    intro c uu hh tkk hf hp Fr1 Nr1
    obtain ⟨hp, hsz⟩ := hp
    rw [← vals_snoc] at Nr1
    generalize hst : c.us ++ [(c.last, c.lt)] = st at Nr1
    have hst2 : True → st.map (fun p => p.1.cps.toList) = strandsL x.cps.toList := fun _ => by rw [← hst]; exact strands_of hp
    have hsm : ∀ p ∈ st, (∀ c ∈ p.1.cps.toList, c < 128) ∧ p.1.length ≤ 1000 := by
      intro p hp
      have z : p.1.cps.toList ∈ strandsL x.cps.toList := by rw [← hst2 trivial]; exact List.mem_map_of_mem (f := fun p : Str × Tok => p.1.cps.toList) hp
      have z2 := strands_mem z
      refine ⟨fun c hc => ha c (z2.1 c hc), ?_⟩
      have e1 := len_cps p.1
      have e2 := len_cps x
      omega
    have hlen : st.length ≤ 1001 := by
      rw [KStt.codes_length] at hsz
      rw [← hst, List.length_append]
      show c.us.length + 1 ≤ 1001
      omega
    clear hst hp hsz
    k_steps
    unfold StopHere
    refine comp_signsN (y := x) (t := t) (fun c => !(safeL.contains c)) (by assumption) Nr1 ?hL ?hsw ?hh ?hfree ?hcell ?hkind ?hnames ?hx ?hy ?hp ?hs ?hsz ?hi ?htests ?helt ?hQ
    case hL => with_unfolding_all rfl
    case hsw => with_unfolding_all rfl
    case hh => with_unfolding_all rfl
    case hfree => decide
    case hcell => decide
    case hkind => with_unfolding_all rfl
    case hnames => decide
    case hx => rfl
    case hy => with_unfolding_all rfl
    case hp => with_unfolding_all rfl
    case hs => exact fun _ => rfl
    case hsz => rw [sizeLine_eq]; omega
    case hi =>
      k_steps
    case htests =>
      intro C c u s₂ m₂ E' hc hn hm F₂
      k_steps
      · exact safe_test (ha c hc)
      · exact ⟨_, _, rfl, fun _ _ e => e⟩
    case helt =>
      intro C c u s₂ m₂ E' hc hn hm F₂
      k_steps
      exact ⟨_, _, rfl, fun _ _ e => e⟩
    case hQ =>
      intro U us n h5 tk5 F5 N5 hU hus
      have hUD : D ≠ U := by
        rintro rfl
        have e := (Nr1 _ (.head _)).1
        rw [show hh.get? D = none from hU] at e
        cases e
      have hemp0 := (unsafe_nil hus).1
      have hok := (unsafe_nil hus).2 ha
      clear hus
      k_steps
      unfold StopHere
      rename News _ _ _ _ => Nx
      rename Fr _ _ _ _ => Fx
      rename IsRange _ _ _ _ _ _ _ _ => Rx
      obtain ⟨M, mm2, Ny2, Fy2, r1, r2, r3, r4⟩ : ∃ (M : Addr) (mm2 : Str → Option Value), News g' L' _ ((M, listOf (strValues []).toArray 0) :: (U, listOf (strValues us).toArray n) :: (D, listOf (strValues st).toArray c.n) :: ledger) ∧ Fr g' L' _ mm2 ∧ mm2 (Str.ofString "made") = some (.ref M) ∧ mm2 (Str.ofString "unsafe") = some (.ref U) ∧ mm2 (Str.ofString "strands") = some (.ref D) ∧ (U < M ∧ D < M ∧ AllLt M ledger) := ⟨_, _, Nx, Fx, rfl, rfl, rfl, by assumption⟩
      clear Nx Fx
      refine kst_range (σ := List (Str × Tok) × Nat) (n := st.length) (fun c2 => (M, listOf (strValues c2.1).toArray c2.2) :: (U, listOf (strValues us).toArray n) :: (D, listOf (strValues st).toArray c.n) :: ledger) (fun _ => [(Str.ofString "made", .ref M), (Str.ofString "unsafe", .ref U), (Str.ofString "strands", .ref D)]) (fun _ => True) [Str.ofString "first"] (fun pre c2 => c2.1.length = pre.length ∧ c2.1.map (fun p => p.1.cps.toList) = (madeL (x.cps.toList.all safeL.contains) (strandsL x.cps.toList)).take pre.length) ([], 0) rfl Rx ?hsm ?hn Fy2 Ny2 trivial ?hk ⟨rfl, rfl⟩ ?turn ?done
      case hsm => exact small_one (by omega) (by omega) (by omega) (by omega)
      case hn => rw [rangeSize_nat]; omega
      case hk => exact List.forall_mem_cons.mpr ⟨r1, List.forall_mem_cons.mpr ⟨r2, List.forall_mem_cons.mpr ⟨r3, List.forall_mem_nil _⟩⟩⟩
      case turn =>
        intro c2 pre k tt uu2 hh2 tkk2 own ek1 hlt off hf2 hp2 Fr2 Nr2
        have ek2 : k = (pre.length : Int) := by omega
        subst ek2
        clear ret Ny2 Fy2
        obtain ⟨y, ty, hy⟩ : ∃ y ty, st[pre.length]? = some (y, ty) := ⟨st[pre.length].1, st[pre.length].2, List.getElem?_eq_getElem hlt⟩
        have hyl : y.length ≤ 1000 := (hsm _ (List.mem_of_getElem? hy)).2
        have hya := (hsm _ (List.mem_of_getElem? hy)).1
        have hyS : (strandsL x.cps.toList)[pre.length]? = some y.cps.toList := by rw [← hst2 trivial, List.getElem?_map, hy]; rfl
        have hMl : ∀ p ∈ (U, listOf (strValues us).toArray n) :: (D, listOf (strValues st).toArray c.n) :: ledger ++ own, p.1 ≠ M := by
          intro p hp
          rcases List.mem_append.mp hp with hp | hp
          · rcases List.mem_cons.mp hp with rfl | hp
            · exact Nat.ne_of_lt r4.1
            · rcases List.mem_cons.mp hp with rfl | hp
              · exact Nat.ne_of_lt r4.2.1
              · exact Nat.ne_of_lt (kst_ltOf r4.2.2 p hp)
          · exact off p hp M (.head _)
        have hsize : (strValues c2.1).toArray.size ≤ sizeLine := push_size c2.1 (Nat.le_of_eq hp2.1) (by omega)
        by_cases hz : pre.length = 0
        · have hz2 : pre = [] := List.eq_nil_of_length_eq_zero hz
          subst hz2
          rcases hall : x.cps.toList.all safeL.contains with _ | _
          · rw [hall] at hemp0 hp2
            k_steps
            unfold StopHere
            rename News _ _ _ _ => Nz
            obtain ⟨tq, Nz⟩ : ∃ tq, News g' L' _ ((M, listOf ((strValues c2.1).toArray.push (.str (Txt.lower (Txt.slice y none (some 1)) ++ Txt.lower (Txt.slice y (some 1) none)) tq)) (c2.2 + 1)) :: ((U, listOf (strValues us).toArray n) :: (D, listOf (strValues st).toArray c.n) :: ledger ++ own)) := ⟨_, Nz⟩
            rw [← vals_snoc] at Nz
            refine kst_end (c2.1 ++ [(Txt.lower (Txt.slice y none (some 1)) ++ Txt.lower (Txt.slice y (some 1) none), tq)], c2.2 + 1) (by assumption) Nz ?hn ?ho rfl trivial ?hk ?hr ?hp
            case hn => exact fun p hp => List.mem_append_left own hp
            case ho => exact fun p hp => List.mem_append_right (_ :: _ :: _ :: ledger) hp
            case hk => exact List.forall_mem_cons.mpr ⟨rfl, List.forall_mem_cons.mpr ⟨rfl, List.forall_mem_cons.mpr ⟨rfl, List.forall_mem_nil _⟩⟩⟩
            case hr =>
              intro z h1 h2 h3
              have z3 : z ≠ Str.ofString "first" := fun e => by rw [e] at h3; simp at h3
              simp only [kstB_skip h2, h1, z3, h3, if_false, Bool.false_eq_true]
            case hp => exact made_done hp2 hyS (by exact due_low hya)
          · rw [hall] at hemp0 hp2
            k_steps
            unfold StopHere
            rename News _ _ _ _ => Nz
            obtain ⟨tq, Nz⟩ : ∃ tq, News g' L' _ ((M, listOf ((strValues c2.1).toArray.push (.str (Txt.upper (Txt.slice y none (some 1)) ++ Txt.lower (Txt.slice y (some 1) none)) tq)) (c2.2 + 1)) :: ((U, listOf (strValues us).toArray n) :: (D, listOf (strValues st).toArray c.n) :: ledger ++ own)) := ⟨_, Nz⟩
            rw [← vals_snoc] at Nz
            refine kst_end (c2.1 ++ [(Txt.upper (Txt.slice y none (some 1)) ++ Txt.lower (Txt.slice y (some 1) none), tq)], c2.2 + 1) (by assumption) Nz ?hn ?ho rfl trivial ?hk ?hr ?hp
            case hn => exact fun p hp => List.mem_append_left own hp
            case ho => exact fun p hp => List.mem_append_right (_ :: _ :: _ :: ledger) hp
            case hk => exact List.forall_mem_cons.mpr ⟨rfl, List.forall_mem_cons.mpr ⟨rfl, List.forall_mem_cons.mpr ⟨rfl, List.forall_mem_nil _⟩⟩⟩
            case hr =>
              intro z h1 h2 h3
              have z3 : z ≠ Str.ofString "first" := fun e => by rw [e] at h3; simp at h3
              simp only [kstB_skip h2, h1, z3, h3, if_false, Bool.false_eq_true]
            case hp => exact made_done hp2 hyS (by exact due_up hya)
        · have hpos : (0 : Int) < (pre.length : Int) := by omega
          k_steps
          unfold StopHere
          rename News _ _ _ _ => Nz
          obtain ⟨tq, Nz⟩ : ∃ tq, News g' L' _ ((M, listOf ((strValues c2.1).toArray.push (.str (Txt.upper (Txt.slice y none (some 1)) ++ Txt.lower (Txt.slice y (some 1) none)) tq)) (c2.2 + 1)) :: ((U, listOf (strValues us).toArray n) :: (D, listOf (strValues st).toArray c.n) :: ledger ++ own)) := ⟨_, Nz⟩
          rw [← vals_snoc] at Nz
          refine kst_end (c2.1 ++ [(Txt.upper (Txt.slice y none (some 1)) ++ Txt.lower (Txt.slice y (some 1) none), tq)], c2.2 + 1) (by assumption) Nz ?hn ?ho rfl trivial ?hk ?hr ?hp
          case hn => exact fun p hp => List.mem_append_left own hp
          case ho => exact fun p hp => List.mem_append_right (_ :: _ :: _ :: ledger) hp
          case hk => exact List.forall_mem_cons.mpr ⟨rfl, List.forall_mem_cons.mpr ⟨rfl, List.forall_mem_cons.mpr ⟨rfl, List.forall_mem_nil _⟩⟩⟩
          case hr =>
            intro z h1 h2 h3
            have z3 : z ≠ Str.ofString "first" := fun e => by rw [e] at h3; simp at h3
            simp only [kstB_skip h2, h1, z3, h3, if_false, Bool.false_eq_true]
          case hp => exact made_done hp2 hyS (by rw [if_neg hz]; exact due_up hya)
      case done =>
        intro c2 uu2 hh2 tkk2 hf2 hp2 Fr2 Nr2
        obtain ⟨hmA, hmB⟩ := made_all (hst2 trivial) hb hlen (by rw [rangeKs_length]) hp2
        k_steps
        rename News _ _ _ _ => Nz
        exact ret _ _ _ _ (by assumption) (fun p hp => Nz p (.tail _ (.tail _ (.tail _ hp)))) (by assumption)

end
section
noncomputable abbrev placesObj : Obj := { cls := .none, data := .fields #[] }
theorem code758 (w : World) : PySem.Challenge.rw_dn0076_08.row.prog = PySem.Challenge.rw_dn0076_08.row.prog → ∃ od vs sl, (hd0.heap_1 w.params).lookup 758 = some ⟨.type "code", od, .fields vs, sl⟩ ∧ vs[11]? = some (.ref 754) := by
  w_on
  k_fill
  intro _
  refine ⟨_, _, _, by k_is, rfl⟩
theorem fn759 (w : World) : PySem.Challenge.rw_dn0076_08.row.prog = PySem.Challenge.rw_dn0076_08.row.prog → ∃ oc od fd sl, (hd0.heap_1 w.params).lookup 759 = some ⟨oc, od, .func fd, sl⟩ ∧ fd.code = .ref 758 := by
  w_on
  k_fill
  intro _
  refine ⟨_, _, _, _, by k_is, rfl⟩
theorem join_rec : ∃ d ∈ recsOf hd0.view_1, d.name = Str.ofString "join" := by
  have e : (recsOf hd0.view_1).any (fun d => d.name == Str.ofString "join") = true := by kernel_rfl
  obtain ⟨d, hd, he⟩ := List.any_eq_true.mp e
  exact ⟨d, hd, eq_of_beq he⟩
theorem places_of {w : World} {loose : List Str} {mean : ExcName → Option Value} {mg mb : Str → Option Value} {h : Heap} (X : (hd0.heap_1 w.params).In h) (T : Top hd0.view_1 loose mean mg mb h) : h.get? 754 = some placesObj ∧ isCodeTable h 754 := by
  obtain ⟨od, vs, sl, e1, e2⟩ := code758 w rfl
  obtain ⟨oc, od', fd', sl', f1, f2⟩ := fn759 w rfl
  obtain ⟨d, hm, hn⟩ := join_rec
  obtain ⟨a, o, fd, c, P, h1, h2, h3, h4, h5, h6⟩ := T.tab d hm
  rw [hn] at h1
  have k1 : mg (Str.ofString "join") = some (.ref 759) := mg_of X T.g (by kernel_rfl)
  rw [k1] at h1
  cases h1
  rw [X _ _ f1] at h2
  cases h2
  cases h3
  rw [f2] at h4
  cases h4
  obtain ⟨⟨o7, vs7, a7, b7, d7, c7⟩, hP⟩ := h6
  rw [X _ _ e1] at a7
  cases a7
  cases d7
  rw [e2] at c7
  cases c7
  exact ⟨hP, 758, _, vs, X _ _ e1, rfl, rfl, e2⟩
theorem hide_ground {w : World} {p : Program} {loose : List Str} {mean : ExcName → Option Value} {mg mb : Str → Option Value} {h h' : Heap} {L : Addr} {m : Str → Option Value} (X : (hd0.heap_1 w.params).In h) (T : Top p loose mean mg mb h) (hP : h.get? 754 = some placesObj) (F : Fr h L h' m) :
    ∃ g, Fr g L h' m ∧ News g L h' [(754, placesObj)] ∧ (hd0.heap_1 w.params).In g ∧ Top (p0 p) (loose0 p loose) mean mg mb g ∧ Below callerA g [] g ∧ (∀ b o, b ≠ 754 → h.get? b = some o → g.get? b = some o) ∧ (∀ b o, g.get? b = some o → h.get? b = some o) := by
  have hk : ∀ b o, b ≠ 754 → h.get? b = some o → (hideAll h [754]).get? b = some o := fun b o hb e => hideAll_get _ e fun q => hb (List.mem_singleton.mp q)
  have hPn : (hd0.heap_1 w.params).lookup 754 = none := by kernel_rfl
  refine ⟨hideAll h [754], ⟨F.ns, fun b o e => F.keep b o (of_hideAll _ e), ?_⟩, ?_, k_but X hPn hk, top_but T hP hk, below_caller _, hk, fun b o e => of_hideAll _ e⟩
  · rw [hideAll_size]; exact F.above
  · intro p hp
    rw [List.mem_singleton.mp hp]
    refine ⟨F.keep _ _ hP, ?_, hideAll_none _ (.head _)⟩
    exact Nat.ne_of_lt (Nat.lt_of_lt_of_le (Heap.lt_size hP) F.above)
theorem old_end {h g h' : Heap} {L : Addr} {m : Str → Option Value} {more : Array Value} (hP : h.get? 754 = some placesObj) (ht : isCodeTable h 754) (hk : ∀ b o, b ≠ 754 → h.get? b = some o → g.get? b = some o) (F : Fr g L h' m) (hP' : h'.get? 754 = some { cls := .none, data := .fields more }) : OldK h h' := by
  refine ⟨fun b o e => ?_, fun b o e => ?_⟩
  · by_cases hb : b = 754
    · subst hb
      rw [hP] at e
      cases e
      exact .inr (.inl ⟨ht, rfl, #[], more, rfl, by rw [hP']; simp⟩)
    · exact .inl (F.keep b o (hk b o hb e))
  · by_cases hb : b = 754
    · subst hb
      exact ⟨_, hP'⟩
    · exact ⟨o, F.keep b o (hk b o hb e)⟩
theorem list_hide {h g : Heap} {a : Addr} {items : Array Value} (hP : h.get? 754 = some placesObj) (hk : ∀ b o, b ≠ 754 → h.get? b = some o → g.get? b = some o) (hL : h.IsList a items) : g.IsList a items := by
  obtain ⟨o9, a9, b9, c9⟩ := hL
  refine ⟨o9, hk _ _ (fun e => ?_) a9, b9, c9⟩
  rw [e, hP] at a9
  cases a9
  cases b9
theorem law_around {M : Model} {R : Type} {t : Sem R} {Q : R → Shared → Prop} {E : Value → Shared → Prop} {s : Shared} {name : Str} {scope : Scope} {L a : Addr} {cd : Value} (h : ∀ (dp un : Nat) (gd : Option (List Code)), dp + 60 < recursionLimit → un + 500 < cLine → wpAny M (ktrTop dp un gd name scope L a cd [] []) t Q E s) : wpAny M (callerA.deeper (envOf name scope L a cd)) t Q E s := h _ _ _ (by decide) (by decide)
section
variable {prog : Program} {w : World} {A : Around} {E : Value → Shared → Prop} {s : Shared} {h₀ : Heap} {L : Addr} {m : Str → Option Value} {W : Addr} {rest : List (Addr × Obj)} {us : List (Str × Tok)} {y y2 : Str} {ty ty2 t : Tok} {n : Nat}
theorem append_strs {Q : Value → Shared → Prop} (F : Fr h₀ L s.heap m) (N : News h₀ L s.heap ((W, listOf (strValues us).toArray n) :: rest)) (hr : ∀ p ∈ rest, p.1 ≠ W) (hb : us.length ≤ 1001)
    (h : ∀ h', Fr h₀ L h' m → News h₀ L h' ((W, listOf (strValues (us ++ [(y, t)])).toArray (n + 1)) :: rest) → Q .none { s with heap := h' }) : wpAny (model prog w) A (call (.builtin "list.append") [.ref W, .str y t]) Q E s := by
  refine append_K F N (Upd.head hr) (fun h' F' N' => h h' F' ?_) (push_size us hb (Nat.le_refl _))
  rw [vals_snoc]
  exact N'
theorem get_lastS {Q : Value → Shared → Prop} (N : News h₀ L s.heap ((W, listOf (strValues (us ++ [(y, ty)])).toArray n) :: rest)) (h : Q (.str y ty) s) : wpAny (model prog w) A (getItem (.ref W) (.int (-1) t)) Q E s := by
  rw [vals_snoc] at N
  exact get_lastN N (.head _) h
theorem set_lastS {Q : Unit → Shared → Prop} (F : Fr h₀ L s.heap m) (N : News h₀ L s.heap ((W, listOf (strValues (us ++ [(y, ty)])).toArray n) :: rest)) (hr : ∀ p ∈ rest, p.1 ≠ W)
    (h : ∀ h', Fr h₀ L h' m → News h₀ L h' ((W, listOf (strValues (us ++ [(y2, ty2)])).toArray n) :: rest) → Q () { s with heap := h' }) : wpAny (model prog w) A (setItem (.ref W) (.int (-1) t) (.str y2 ty2)) Q E s := by
  rw [vals_snoc] at N
  refine set_lastN F N (Upd.head hr) fun h' F' N' => h h' F' ?_
  rw [vals_snoc]
  exact N'
end
theorem room_u (env : Env) : (callerA.deeper env).units + 500 < cLine := by
  show 4 + 3 + 500 < cLine
  decide
theorem room_d (env : Env) : (callerA.deeper env).depth + 60 < recursionLimit := by
  show 1 + claimMargin + 1 + 60 < recursionLimit
  decide
theorem room_u64 (env : Env) : (callerA.deeper env).units + 64 < cLine := Nat.lt_of_le_of_lt (Nat.add_le_add_left (by decide) _) (room_u env)
theorem room_u1 : callerA.units + 3 + 500 < cLine := room_u default
theorem room_d1 : callerA.depth + 1 + 60 < recursionLimit := room_d default

end
section
local macro_rules | `(tactic| walk_at "no step 0") => `(tactic| fail)
local macro_rules | `(tactic| walk_at "no step 1") => `(tactic| fail)
local macro_rules | `(tactic| walk_at "no step 2") => `(tactic| fail)
local macro_rules | `(tactic| walk_at "no step 3") => `(tactic| fail)
local macro_rules | `(tactic| walk_at "no step 4") => `(tactic| fail)
local macro_rules | `(tactic| walk_at "no step 5") => `(tactic| fail)
local macro_rules | `(tactic| walk_at "no step 6") => `(tactic| fail)
local macro_rules | `(tactic| walk_at "no step 7") => `(tactic| fail)
local macro_rules | `(tactic| walk_at "no step 8") => `(tactic| fail)
local macro_rules | `(tactic| walk_at "no step 9") => `(tactic| fail)
local macro_rules | `(tactic| walk_at "no step 10") => `(tactic| fail)
local macro_rules | `(tactic| walk_at "no step 11") => `(tactic| fail)
local macro_rules | `(tactic| walk_at "no step 12") => `(tactic| fail)
local macro_rules | `(tactic| walk_at "no step 13") => `(tactic| fail)
local macro_rules | `(tactic| walk_at "no step 14") => `(tactic| fail)
local macro_rules | `(tactic| walk_at "no step 15") => `(tactic| fail)
local macro_rules | `(tactic| walk_at "no step 16") => `(tactic| fail)
local macro_rules | `(tactic| walk_at "no step 17") => `(tactic| fail)
local macro_rules | `(tactic| walk_at "no step 18") => `(tactic| fail)
local macro_rules | `(tactic| walk_at "no step 19") => `(tactic| fail)
local macro_rules | `(tactic| walk_at "no step 20") => `(tactic| fail)
local macro_rules | `(tactic| walk_at "no step 21") => `(tactic| fail)
local macro_rules | `(tactic| walk_at "no step 22") => `(tactic| fail)
local macro_rules | `(tactic| walk_at "no step 23") => `(tactic| fail)
theorem add_words {prog : Program} {w : World} {A : Around} {E : Value → Shared → Prop} {s : Shared} {h₀ : Heap} {L b W S : Addr} {m : Str → Option Value} {oS oP : Obj} {P : Addr} {us : List (Str × Tok)} {n j : Nat} {x y z : Str} {tx ty tz : Tok} {Q : Value → Shared → Prop} (F : Fr h₀ L s.heap m)
    (N : News h₀ L s.heap [(b, listOf #[.str x tx, .str y ty, .str z tz] j), (W, listOf (strValues us).toArray n), (S, oS), (P, oP)]) (hus : us.length ≤ 1000)
    (h : ∀ D h', Fr h₀ L h' m → News h₀ L h' [(D, listOf (strValues (us ++ [(x, tx), (y, ty), (z, tz)])).toArray 0), (P, oP)] → Q (.ref D) { s with heap := h' }) : wpAny (model prog w) A (binaryOp .Add (.ref W) (.ref b)) Q E s := by
  have hlen : (strValues us).length = us.length := by unfold strValues; rw [List.length_map]
  refine kmk_add_lit F N (its := (strValues us).toArray) (its2 := #[.str x tx, .str y ty, .str z tz]) (zs := strValues (us ++ [(x, tx), (y, ty), (z, tz)])) ⟨_, (N _ (.tail _ (.head _))).1, rfl, n, rfl⟩ ⟨_, (N _ (.head _)).1, rfl, j, rfl⟩ ?_ (fun D h' F' N' _ => h D h' F' fun p hp => ?_) ?_
  · unfold strValues
    rw [List.map_append]
    rfl
  · rcases List.mem_cons.mp hp with rfl | hp
    · exact N' _ (.head _)
    · exact N' _ (.tail _ (.tail _ (.tail _ (.tail _ hp))))
  · show (strValues us).length + 3 ≤ sizeLine
    rw [hlen, sizeLine_eq]
    omega
theorem after_join {g h h' : Heap} {L D : Addr} {m : Str → Option Value} {o : Obj} {more : Array Value} (F : Fr g L h m) (N : News g L h [(D, o), (754, placesObj)]) (hD : D ≠ 754) (hk : ∀ b o, b ≠ 754 → h.get? b = some o → h'.get? b = some o) (hP : h'.get? 754 = some { cls := .none, data := .fields more }) :
    Fr g L h' m ∧ News g L h' [(D, o), (754, { cls := .none, data := .fields more })] := by
  have n7 := N _ (.tail _ (.head _))
  have hL : L ≠ 754 := Ne.symm n7.2.1
  refine ⟨⟨F.ns.at' fun o e => hk L o hL e, fun b o e => hk b o (fun q => ?_) (F.keep b o e), F.above⟩, fun p hp => ?_⟩
  · rw [q] at e
    have z : g.get? 754 = none := n7.2.2
    rw [z] at e
    cases e
  · rcases List.mem_cons.mp hp with rfl | hp
    · exact ⟨hk _ _ hD (N _ (.head _)).1, (N _ (.head _)).2⟩
    · rw [List.mem_singleton.mp hp]
      exact ⟨hP, n7.2⟩
theorem joinL_len {k : Nat} : ∀ l : List (List Nat), (∀ a ∈ l, a.length ≤ k) → (joinL l).length ≤ (k + 1) * l.length
  | [], _ => Nat.zero_le _
  | [a], h => by
    have := h a (.head _)
    show a.length ≤ (k + 1) * 1
    omega
  | a :: b :: r, h => by
    have h1 := h a (.head _)
    have h2 := joinL_len (b :: r) fun c hc => h c (.tail _ hc)
    show (a ++ 32 :: joinL (b :: r)).length ≤ (k + 1) * ((b :: r).length + 1)
    rw [List.length_append, List.length_cons, Nat.mul_add, Nat.mul_one]
    omega
theorem capT_len : ∀ (l : List Nat) (st : Cs), (capT st l).length ≤ 2 * l.length
  | [], st => by cases st <;> simp [capT]
  | c :: r, st => by
    have h1 := capT_len r .b0
    have h2 := capT_len r .bw
    have h3 := capT_len r .bs
    rcases hw : whL.contains c with _ | _
    · cases st <;> simp only [capT, hw, Bool.false_eq_true, if_false, List.length_cons] <;> omega
    · cases st <;> simp only [capT, hw, if_true, List.length_cons] <;> omega
theorem up_lt : ∀ c, c < 128 → upC c < 128 := by decide +kernel
theorem low_lt : ∀ c, c < 128 → lowC c < 128 := by decide +kernel
theorem line_len {ws : List (List Nat)} (h1 : ws.length ≤ 100) (h2 : ∀ a ∈ ws, a.length ≤ 63) : (joinL (ws.map quoteL)).length ≤ 31800 := by
  have h := joinL_len (k := 317) (ws.map quoteL) fun a ha => by
    obtain ⟨b, hb, rfl⟩ := List.mem_map.mp ha
    have := quoteL_len b
    have := h2 b hb
    omega
  rw [List.length_map] at h
  omega
theorem line_ascii : ∀ {ws : List (List Nat)}, (∀ a ∈ ws, ∀ c ∈ a, c < 128) → ∀ c ∈ joinL (ws.map quoteL), c < 128 := by
  have hq : ∀ a : List Nat, (∀ c ∈ a, c < 128) → ∀ c ∈ quoteL a, c < 128 := by
    intro a ha c hc
    unfold quoteL at hc
    split at hc
    · simp only [List.mem_cons, List.not_mem_nil, or_false, or_self] at hc
      omega
    · split at hc
      · exact ha c hc
      · simp only [List.mem_append, List.mem_singleton, List.mem_flatMap] at hc
        rcases hc with (rfl | ⟨d, hd, hc⟩) | rfl
        · decide
        · split at hc
          · simp only [List.mem_cons, List.not_mem_nil, or_false] at hc
            omega
          · rw [List.mem_singleton.mp hc]; exact ha d hd
        · decide
  intro ws
  induction ws with
  | nil => intro _ c hc; cases hc
  | cons a r ih =>
    intro h c hc
    cases r with
    | nil => exact hq a (h a (.head _)) c hc
    | cons b r =>
      rcases List.mem_append.mp (show c ∈ quoteL a ++ 32 :: joinL ((b :: r).map quoteL) from hc) with hc | hc
      · exact hq a (h a (.head _)) c hc
      · rcases List.mem_cons.mp hc with rfl | hc
        · decide
        · exact ih (fun a ha => h a (.tail _ ha)) c hc
theorem comp_words {prog : Program} {w : World} {A : Around} {E : Value → Shared → Prop} {s : Shared} {h₀ : Heap} {L ax : Addr} {m : Str → Option Value} {news : List (Addr × Obj)} {env : Env} {elt iter : Expr} {x : Str} {px : Pos} {scope : Scope} {cl : List (Str × Addr)} {pos : Pos} {Q : Value → Shared → Prop} {ws : List (Str × Tok)} {k : Nat} (f : List Nat → List Nat)
    (F₀ : Fr h₀ L s.heap m) (N : News h₀ L s.heap news) (hm : (ax, listOf (strValues ws).toArray k) ∈ news) (hsz : ws.length ≤ 1001) (hh : A.handled = none)
    (hclos : closureFor scope env = pure cl) (hcell : ∀ y ∈ scope.names, y.2 ≠ .cell) (hkind : scope.kind = .function)
    (hnames : ∀ y ∈ scope.names, y.2 = .local → scope.names.lookup y.1 = some .local) (hx : scope.names.lookup x = some .local)
    (hs : ∀ x, foldedSetIterable iter env x = pure x)
    (hi : wpAny (model prog w) A (eval iter env) (fun xv s₁ => xv = .ref ax ∧ s₁ = s) E s)
    (turn : ∀ (y : Str) (t : Tok) I oI C oC D ys m₂ h tk (T E' : Value → Shared → Prop), (y, t) ∈ ws → LCg.NsObj oC m₂ → m₂ x = some (.str y t) → Fr h₀ L h m → News h₀ L h ((I, oI) :: (C, oC) :: (D, LCg.lst ys) :: news) →
      (∀ t' z h' tk', z.cps.toList = f y.cps.toList → Fr h₀ L h' m → News h₀ L h' ((I, oI) :: (C, oC) :: (D, LCg.lst ys) :: news) → T (.str z t') { s with heap := h', toks := tk' }) →
      wpAny (model prog w) A (eval elt (compEnvC scope cl C env)) T E' { s with heap := h, toks := tk })
    (hQ : ∀ D us h' tk, Fr h₀ L h' m → News h₀ L h' ((D, LCg.lst (strValues us)) :: news) → us.map (fun p => p.1.cps.toList) = ws.map (fun p => f p.1.cps.toList) → Q (.ref D) { s with heap := h', toks := tk }) :
    wpAny (model prog w) A (eval (.ListComp elt [⟨.Name x px, iter, [], 0⟩] scope pos) env) Q E s := by
  refine LCg.ListComp_U F₀ hclos hcell hkind hnames hx (wpAny_mono hi (fun xv s₁ h₁ => ?_) fun _ _ e => e) hs
  obtain ⟨rfl, rfl⟩ := h₁
  have hlen : (strValues ws).toArray.size = ws.length := by rw [List.size_toArray]; unfold strValues; rw [List.length_map]
  refine LCg.CompSrc.ledger hh F₀ N hm (by rw [hlen, sizeLine_eq]; omega) fun g => ?_
  rw [hlen]
  have key : ∀ (j i : Nat) (us : List (Str × Tok)), i + j = ws.length → us.map (fun p => p.1.cps.toList) = (ws.take i).map (fun p => f p.1.cps.toList) →
      LCg.CompRest prog w A h₀ L m env elt x scope cl { s₁ with heap := g } (LCg.SrcAt h₀ ax (strValues ws).toArray) (fun i v => (strValues ws).toArray[i]? = some v) (LCg.FinE h₀ L m { s₁ with heap := g } Q) j i (strValues us) news := by
    intro j
    induction j with
    | zero =>
      intro i us hij hus
      refine LCg.CompRest.zero fun D h' tk F' N' _ => hQ D us h' tk F' N' ?_
      rw [hus, List.take_of_length_le (by omega)]
    | succ j ih =>
      intro i us hij hus
      refine LCg.CompRest.succ fun v I oI C oC D m₂ h tk E' hv hC hx2 F' N' off ne => ?_
      obtain ⟨y, t, rfl, hy⟩ : ∃ y t, v = .str y t ∧ ws[i]? = some (y, t) := by
        have e : (strValues ws)[i]? = some v := by simpa using hv
        unfold strValues at e
        rw [List.getElem?_map] at e
        obtain ⟨q, hq, rfl⟩ := Option.map_eq_some_iff.mp e
        exact ⟨q.1, q.2, rfl, hq⟩
      refine turn y t I oI C oC D (strValues us) m₂ h tk _ E' (List.mem_of_getElem? hy) hC hx2 F' N' fun t' z h2 tk2 hz F2 N2 => ?_
      refine ⟨h2, tk2, news, rfl, F2, N2, off, .inr ⟨_, hm, rfl, _, rfl⟩, ?_⟩
      have e : strValues us ++ [.str z t'] = strValues (us ++ [(z, t')]) := by unfold strValues; rw [List.map_append]; rfl
      show LCg.CompRest prog w A h₀ L m env elt x scope cl { s₁ with heap := g } (LCg.SrcAt h₀ ax (strValues ws).toArray) (fun i v => (strValues ws).toArray[i]? = some v) (LCg.FinE h₀ L m { s₁ with heap := g } Q) j (i + 1) (strValues us ++ [.str z t']) news
      rw [e]
      refine ih (i + 1) _ (by omega) ?_
      rw [List.map_append, hus, List.take_add_one, hy, List.map_append]
      show _ ++ [z.cps.toList] = _
      rw [hz]
      rfl
  exact key ws.length 0 [] (by omega) rfl
theorem texts_same {l us : List (Str × Tok)} (h : l.map (fun p => p.1.cps.toList) = us.map (fun p => p.1.cps.toList)) : ((l.map fun p => p.1) == us.map fun p => p.1) = true := by
  have e : (l.map fun p => p.1) = us.map fun p => p.1 := by
    have h1 : ∀ q : List (Str × Tok), (q.map fun p => p.1) = (q.map fun p => p.1.cps.toList).map fun c => (⟨c.toArray⟩ : Str) := by
      intro q
      rw [List.map_map]
      exact List.map_congr_left fun p _ => rfl
    rw [h1, h1, h]
  rw [e]
  exact beq_self_eq_true _

end
section
local macro_rules | `(tactic| walk_at "exec For Name Name cons nil") => `(tactic| (k_here; (with_reducible show wpAny _ _ (exec (Stmt.For (Expr.Name ("x" : Str) _) _ _ _ _) _) _ _ _); (rename Fr _ _ _ _ => lF'); (with_unfolding_all refine' For_invVF lF' ?k1 ?k2 ?_; (case k1 => exact rfl); (case k2 => exact rfl))))
local macro_rules | `(tactic| walk_at "pyIter ref") => `(tactic| ((with_reducible show wpAny _ _ (pyIter (Value.ref _)) (fun it s₂ => LoopAtV _ _ _ _ _ _ _ _ _ it s₂) _ _); refine stop_here ?_))
local macro_rules | `(tactic| walk_at "call builtin:list.append") => `(tactic| (k_here; k_dflt (refine' append_strs ?rF ?rN ?rr ?rb ?_; (case rF => k_asm); (case rN => ((with_reducible rename News _ _ _ _ => N8); exact N8)); (case rr => assumption); (case rb => assumption); (intro h9 F9 N9))))
local macro_rules | `(tactic| walk_at "compareOp Eq ref ref") => `(tactic| (k_here; k_dflt (refine' es_nil ?rN ?rm ?rs ?rr ?ru ?_; (case rN => assumption); (case rm => k_mem); (case rs => assumption); (case rr => assumption); (case ru => exact room_u64 _); (intro N9))))
local macro_rules | `(tactic| walk_at "getItem ref") => `(tactic| (k_here; (with_reducible show wpAny _ _ (getItem (Value.ref _) (Value.int (-1) _)) _ _ _); k_dflt (refine' get_lastS ?rN ?_; (case rN => ((with_reducible rename News _ _ _ _ => N8); exact N8)))))
local macro_rules | `(tactic| walk_at "getItem ref int") => `(tactic| (k_here; (with_reducible show wpAny _ _ (getItem (Value.ref _) (Value.int (-1) _)) _ _ _); k_dflt (refine' get_lastS ?rN ?_; (case rN => ((with_reducible rename News _ _ _ _ => N8); exact N8)))))
local macro_rules | `(tactic| walk_at "setItem ref") => `(tactic| (k_here; (with_reducible show wpAny _ _ (setItem (Value.ref _) (Value.int (-1) _) _) _ _ _); k_dflt (refine' set_lastS ?rF ?rN ?rr ?_; (case rF => k_asm); (case rN => ((with_reducible rename News _ _ _ _ => N8); exact N8)); (case rr => assumption); (intro h9 F9 N9))))
local macro_rules | `(tactic| walk_at "setItem ref int") => `(tactic| (k_here; (with_reducible show wpAny _ _ (setItem (Value.ref _) (Value.int (-1) _) _) _ _ _); k_dflt (refine' set_lastS ?rF ?rN ?rr ?_; (case rF => k_asm); (case rN => ((with_reducible rename News _ _ _ _ => N8); exact N8)); (case rr => assumption); (intro h9 F9 N9))))
local macro_rules | `(tactic| walk_at "setItem ref int str") => `(tactic| (k_here; (with_reducible show wpAny _ _ (setItem (Value.ref _) (Value.int (-1) _) _) _ _ _); k_dflt (refine' set_lastS ?rF ?rN ?rr ?_; (case rF => k_asm); (case rN => ((with_reducible rename News _ _ _ _ => N8); exact N8)); (case rr => assumption); (intro h9 F9 N9))))
local macro_rules | `(tactic| walk_at "call ref") => `(tactic| (k_here; (with_reducible show wpAny _ _ (PySem.call (Value.ref 774) _ _) _ _ _); k_dflt
  (refine' sign_c _ _ _ _ _ _ _ _ _ _ _ _ _ _ _ _ _ _ _ _ _ _ ?rB ?rF ?rX ?rT ?rk ?rN ?rd ?ru ?r1 ?r7 ?_; (case rB => k_asm); (case rF => k_asm); (case rX => k_asm); (case rT => k_asm); (case rk => first | rfl | assumption); (case rN => k_asm); (case rd => exact Nat.lt_of_le_of_lt (Nat.add_le_add_left (by decide) _) room_d1); (case ru => exact Nat.lt_of_le_of_lt (Nat.add_le_add_left (by decide) _) room_u1); (case r1 => assumption); (case r7 => assumption)); (intro t9 c9 h9 tk9 F9 N9 e91); (try dsimp only); (try k_fold)))
local macro_rules | `(tactic| walk_at "ite") => `(tactic| (k_closed; first | refine ite_pos (by decide +kernel) ?_ | refine ite_neg (by decide +kernel) ?_))
local macro_rules | `(tactic| walk_at "ite") => `(tactic| first | refine ite_pos (by assumption) ?_ | refine ite_neg (by assumption) ?_)
theorem words_ok {us : List (Str × Tok)} {k : Nat} (h : ∀ p ∈ us, (∀ cc ∈ p.1.cps.toList, cc < 128) ∧ p.1.length ≤ k) : (us.map fun p => p.1).all PyData.strOk = true := by
  rw [List.all_eq_true]
  intro a ha
  obtain ⟨p, hp, rfl⟩ := List.mem_map.mp ha
  exact strOk_ascii (h p hp).1
theorem words_new {us : List (Str × Tok)} {pre : List Int} {n : Int} {tq : Tok} (hp : us.length ≤ pre.length) (hall : ∀ p ∈ us, (∀ cc ∈ p.1.cps.toList, cc < 128) ∧ p.1.length ≤ pre.length) :
    (us ++ [(Str.ofString "", tq)]).length ≤ (pre ++ [n]).length ∧ ∀ p ∈ us ++ [(Str.ofString "", tq)], (∀ cc ∈ p.1.cps.toList, cc < 128) ∧ p.1.length ≤ (pre ++ [n]).length := by
  rw [List.length_append, List.length_append, List.length_singleton, List.length_singleton]
  refine ⟨Nat.succ_le_succ hp, fun p hp => ?_⟩
  rcases List.mem_append.mp hp with hp | hp
  · exact ⟨(hall p hp).1, Nat.le_succ_of_le (hall p hp).2⟩
  · rw [List.mem_singleton.mp hp]
    exact ⟨(fun c hc => nomatch (show c ∈ ([] : List Nat) from hc)), Nat.zero_le _⟩
theorem words_add {us : List (Str × Tok)} {pre : List Int} {n : Int} {y : Str} {tq : Tok} {c : Nat} (hc : c < 128) (hp : us.length + 1 ≤ pre.length + 1) (hall : ∀ p ∈ us, (∀ cc ∈ p.1.cps.toList, cc < 128) ∧ p.1.length ≤ pre.length) (hy : (∀ cc ∈ y.cps.toList, cc < 128) ∧ y.length ≤ pre.length) :
    (us ++ [(y ++ ⟨#[c]⟩, tq)]).length ≤ (pre ++ [n]).length ∧ ∀ p ∈ us ++ [(y ++ ⟨#[c]⟩, tq)], (∀ cc ∈ p.1.cps.toList, cc < 128) ∧ p.1.length ≤ (pre ++ [n]).length := by
  rw [List.length_append, List.length_append, List.length_singleton, List.length_singleton]
  refine ⟨hp, fun p hp => ?_⟩
  rcases List.mem_append.mp hp with hp | hp
  · exact ⟨(hall p hp).1, Nat.le_succ_of_le (hall p hp).2⟩
  · rw [List.mem_singleton.mp hp]
    refine ⟨fun d hd => ?_, ?_⟩
    · rw [Str.cps_append, Array.toList_append] at hd
      rcases List.mem_append.mp hd with hd | hd
      · exact hy.1 d hd
      · rw [List.mem_singleton.mp hd]; exact hc
    · show (y ++ ⟨#[c]⟩ : Str).length ≤ _
      rw [Str.length_append]
      exact Nat.succ_le_succ hy.2
local macro_rules | `(tactic| walk_at "binaryOp Add ref ref") => `(tactic| (k_here; k_dflt (refine' add_words ?rF ?rN ?rh ?_; (case rF => k_asm); (case rN => ((with_reducible rename News _ _ _ _ => N8); exact N8)); (case rh => assumption); (intro D9 h9 F9 N9))))
local macro_rules | `(tactic| walk_at "call ref") => `(tactic| ((with_reducible first | show wpAny _ _ (PySem.call (Value.ref 759) _ _) _ _ _ | show wpAny _ _ (PySem.call (Value.ref 52) _ _) _ _ _ | show wpAny _ _ (PySem.call (Value.ref 752) _ _) _ _ _); refine stop_here ?_))
local macro_rules | `(tactic| walk_at "eval ListComp") => `(tactic| refine stop_here ?_)
local macro_rules | `(tactic| walk_at "call ref") => `(tactic| (k_here; (with_reducible show wpAny _ _ (PySem.call (Value.ref 779) _ _) _ _ _); k_dflt
  (refine' due_c _ _ _ _ _ _ _ _ _ _ _ _ _ _ _ _ _ _ _ _ ?rB ?rF ?rX ?rT ?rk ?rN ?rd ?ru ?ra ?rb ?_; (case rB => k_asm); (case rF => k_asm); (case rX => k_asm); (case rT => k_asm); (case rk => first | rfl | assumption); (case rN => k_asm); (case rd => exact Nat.lt_of_le_of_lt (Nat.add_le_add_left (by decide) _) room_d1); (case ru => exact Nat.lt_of_le_of_lt (Nat.add_le_add_left (by decide) _) room_u1); (case ra => assumption); (case rb => assumption)); (intro t9 c9 h9 tk9 F9 N9 e91); (try dsimp only); (try k_fold)))
local macro_rules | `(tactic| walk_at "compareOp Eq ref ref") => `(tactic| ((rename TextsAre _ _ => ht9); refine stop_here ?_))
theorem words_more {us : List (Str × Tok)} {k : Nat} {t1 t2 t3 : Tok} (hk : k ≤ 63) (hp : us.length ≤ k) (h : ∀ p ∈ us, (∀ cc ∈ p.1.cps.toList, cc < 128) ∧ p.1.length ≤ k) :
    (us ++ [(Str.ofString "It's A \t tEST ", t1), (Str.ofString "aBC", t2), (Str.ofString "", t3)]).length ≤ 66 ∧ ∀ p ∈ us ++ [(Str.ofString "It's A \t tEST ", t1), (Str.ofString "aBC", t2), (Str.ofString "", t3)], (∀ cc ∈ p.1.cps.toList, cc < 128) ∧ p.1.length ≤ 63 := by
  refine ⟨by rw [List.length_append]; show us.length + 3 ≤ 66; omega, fun p hp => ?_⟩
  rcases List.mem_append.mp hp with hp | hp
  · exact ⟨(h p hp).1, Nat.le_trans (h p hp).2 hk⟩
  · simp only [List.mem_cons, List.not_mem_nil, or_false] at hp
    rcases hp with rfl | rfl | rfl
    · exact ⟨by show ∀ cc ∈ (Str.ofString "It's A \t tEST ").cps.toList, cc < 128; decide +kernel, by show (Str.ofString "It's A \t tEST ").length ≤ 63; decide +kernel⟩
    · exact ⟨by show ∀ cc ∈ (Str.ofString "aBC").cps.toList, cc < 128; decide +kernel, by show (Str.ofString "aBC").length ≤ 63; decide +kernel⟩
    · exact ⟨by show ∀ cc ∈ (Str.ofString "").cps.toList, cc < 128; decide +kernel, by show (Str.ofString "").length ≤ 63; decide +kernel⟩
theorem law_lex {ws : List (List Nat)} (hne : ws ≠ []) (h : ∀ a ∈ ws, ∀ c ∈ a, c < 128) : LexAll (capT .b0 (joinL (ws.map quoteL))) (ws.map dueL) := by
  cases ws with
  | nil => exact absurd rfl hne
  | cons w r => exact law_plain w r h
theorem joinL_ascii : ∀ {l : List (List Nat)}, (∀ a ∈ l, ∀ c ∈ a, c < 128) → ∀ c ∈ joinL l, c < 128
  | [], _, c, hc => nomatch hc
  | [a], h, c, hc => h a (.head _) c hc
  | a :: b :: r, h, c, hc => by
    rcases List.mem_append.mp (show c ∈ a ++ 32 :: joinL (b :: r) from hc) with hc | hc
    · exact h a (.head _) c hc
    · rcases List.mem_cons.mp hc with rfl | hc
      · decide
      · exact joinL_ascii (fun a ha => h a (.tail _ ha)) c hc
theorem due_ascii {w : List Nat} (h : ∀ c ∈ w, c < 128) : ∀ c ∈ dueL w, c < 128 := by
  refine joinL_ascii fun s hs c hc => ?_
  obtain ⟨b, r, hr, rfl⟩ := made_mem hs
  have z := (strands_mem hr).1
  cases r with
  | nil => cases hc
  | cons a t =>
    rcases List.mem_cons.mp hc with rfl | hc
    · have := h a (z a (.head _))
      cases b
      · exact low_lt a this
      · exact up_lt a this
    · obtain ⟨d, hd, rfl⟩ := List.mem_map.mp hc
      exact low_lt d (h d (z d (.tail _ hd)))
set_option maxHeartbeats 8000000 in
theorem law_x : PySem.Challenge.rw_dn0076_08.Holds := by
  refine hd0 ⟨left_x, ?_⟩
  k_fill
  intro w s₀ s₁ mg mb G Y fa o pm cd doc dV kV ho hd' hcd hD hmg hg args vals as hpre hlay hrd hwl hlo
  have KX := kIn_of Y
  clear Y
  refine Ground.open G ?_
  intro T B D TE TW
  try (refine guard_noD D (by decide +kernel) ?_; clear D)
  clear hmg B TE TW G
  wrow_args hpre hlay hrd hwl hlo
  all_goals (first | refine callC_kw (enter_call ?_) | refine enter_call ?_ | refine callC_kw (enter_callW ?_) | refine enter_callW ?_)
  w_top on
  have K0 := below_caller (Top.heap T)
  w_call any ho hd' hcd hD T F
  clear hcd hD ho hd'
  rename IntsAre _ _ => hI
  rename Heap.IsList _ _ _ => hL
  rename ¬ (63 : Int) < _ => hcond
  obtain ⟨hP, hTab⟩ := places_of KX T
  obtain ⟨g, Fg, Ng, Xg, Tg, Bg, hk1, hk2⟩ := hide_ground KX T hP F
  have hLg := list_hide hP hk1 hL
  clear hL T F K0
  rename News _ _ _ [] => N99
  clear N99
  (try dsimp only)
  (try k_fold)
  k_steps
  unfold StopHere
  rename_i S ws9 h1 hI2 hC hLL lS h2 W h3 hord h4 Fx Nx
  have hns : (List.take 63 _).length ≤ 63 := hC ▸ Nat.min_le_left ..
  clear hC hLL lS
  generalize List.take 63 _ = ns at hI2 hns
  obtain ⟨mm, Ny, Fy, r1⟩ : ∃ (mm : Str → Option Value), News g _ _ [(W, listOf (strValues []).toArray 0), (S, listOf ws9.toArray 0), (754, placesObj)] ∧ Fr g _ _ mm ∧ mm (Str.ofString "words") = some (.ref W) := ⟨_, Nx, Fx, rfl⟩
  clear Nx Fx
  refine kst_listL (σ := List (Str × Tok) × Nat) (vs := ws9) (nn := 0) (fun c => [(W, listOf (strValues c.1).toArray c.2), (S, listOf ws9.toArray 0), (754, placesObj)]) (fun _ => [(Str.ofString "words", .ref W)]) (fun _ => True) [] (fun pre c => c.1.length ≤ pre.length ∧ ∀ p ∈ c.1, (∀ cc ∈ p.1.cps.toList, cc < 128) ∧ p.1.length ≤ pre.length) ([], 0) rfl ?hl hI2 Fy Ny trivial ?hk ⟨Nat.zero_le _, fun p hp => nomatch hp⟩ ?turn ?done
  case hl => exact fun c => .tail _ (.head _)
  case hk => exact List.forall_mem_cons.mpr ⟨r1, List.forall_mem_nil _⟩
  case turn =>
    intro c pre post n t uu hh tkk own e1 hn9 off hf0 hp0 Fr1 Nr1
    obtain ⟨us, un0⟩ := c
    obtain ⟨hp, hall⟩ := hp0
    have hpl : pre.length + 1 ≤ 63 := by
      have z := congrArg List.length e1
      rw [List.length_append, List.length_cons] at z
      omega
    have hWl : ∀ p ∈ (S, listOf ws9.toArray 0) :: (754, placesObj) :: own, p.1 ≠ W := by
      intro p hp
      rcases List.mem_cons.mp hp with rfl | hp
      · exact Nat.ne_of_lt hord.1
      · rcases List.mem_cons.mp hp with rfl | hp
        · exact Nat.ne_of_lt hord.2
        · exact off p hp W (.head _)
    have hus : us.length ≤ 1001 := by have : us.length ≤ pre.length := hp; omega
    clear Ny Fy
    by_cases h8 : (Int.fmod n 8 == 0) = true
    · have h8' : ¬ (Int.fmod n 8 != 0) = true := by rw [bne, h8]; decide
      k_steps
      rename News _ _ _ _ => Nz
      obtain ⟨tq, Nz⟩ : ∃ tq, News g _ _ ((W, listOf (strValues (us ++ [(Str.ofString "", tq)])).toArray (un0 + 1)) :: (S, listOf ws9.toArray 0) :: (754, placesObj) :: own) := ⟨_, Nz⟩
      refine kst_end (us ++ [(Str.ofString "", tq)], (un0 + 1)) (by assumption) Nz ?hn ?ho rfl trivial ?hk ?hr ?hp
      case hn => exact fun p hp => List.mem_append_left own hp
      case ho => exact fun p hp => List.mem_append_right [_, _, _] hp
      case hk => exact List.forall_mem_cons.mpr ⟨rfl, List.forall_mem_nil _⟩
      case hr =>
        intro z h1 h2 h3
        simp only [kstB_skip h2, h1, h3, if_false, Bool.false_eq_true]
      case hp => exact words_new hp hall
    · have h8' : (Int.fmod n 8 != 0) = true := by rw [bne, eq_false_of_ne_true h8]; decide
      have h8n : Int.fmod n 8 ≠ 0 := fun e => h8 (by rw [e]; decide)
      have f1 := Int.fmod_nonneg_of_pos n (show (0 : Int) < 8 by decide)
      have f2 := Int.fmod_lt_of_pos n (show (0 : Int) < 8 by decide)
      have g1 : 1 ≤ Int.fmod n 8 := by omega
      have g2 : Int.fmod n 8 ≤ 7 := by omega
      clear f1 f2 h8n
      by_cases hnil : us = []
      · have hemp : us.isEmpty = true := by rw [hnil]; rfl
        have hok : (us.map fun p => p.1).all PyData.strOk = true := words_ok hall
        clear hnil
        k_steps
        rename News _ _ _ _ => Nz
        obtain ⟨tq, c9, hc9, Nz⟩ : ∃ (tq : Tok) (c9 : Nat), c9 < 128 ∧ News g _ _ ((W, listOf (strValues (us ++ [(Str.ofString "" ++ ⟨#[c9]⟩, tq)])).toArray (un0 + 1)) :: (S, listOf ws9.toArray 0) :: (754, placesObj) :: own) := ⟨_, _, by assumption, Nz⟩
        refine kst_end (us ++ [(Str.ofString "" ++ ⟨#[c9]⟩, tq)], (un0 + 1)) (by assumption) Nz ?hn ?ho rfl trivial ?hk ?hr ?hp
        case hn => exact fun p hp => List.mem_append_left own hp
        case ho => exact fun p hp => List.mem_append_right [_, _, _] hp
        case hk => exact List.forall_mem_cons.mpr ⟨rfl, List.forall_mem_nil _⟩
        case hr =>
          intro z h1 h2 h3
          simp only [kstB_skip h2, h1, h3, if_false, Bool.false_eq_true]
        case hp => exact words_add hc9 (Nat.succ_le_succ hp) hall ⟨(fun c hc => nomatch (show c ∈ ([] : List Nat) from hc)), Nat.zero_le _⟩
      · obtain ⟨init, ⟨y, ty⟩, rfl⟩ : ∃ init p, us = init ++ [p] := by
          rcases List.eq_nil_or_concat us with h | ⟨init, p, h⟩
          · exact absurd h hnil
          · exact ⟨init, p, by rw [h, List.concat_eq_append]⟩
        have hemp : (init ++ [(y, ty)]).isEmpty = false := by simp
        have hok : ((init ++ [(y, ty)]).map fun p => p.1).all PyData.strOk = true := words_ok hall
        have hyl : y.length ≤ 63 := by
          have : y.length ≤ pre.length := (hall _ (List.mem_append_right _ (.head _))).2
          omega
        clear hnil
        k_steps
        rename News _ _ _ _ => Nz
        obtain ⟨tq, c9, hc9, Nz⟩ : ∃ (tq : Tok) (c9 : Nat), c9 < 128 ∧ News g _ _ ((W, listOf (strValues (init ++ [(y ++ ⟨#[c9]⟩, tq)])).toArray un0) :: (S, listOf ws9.toArray 0) :: (754, placesObj) :: own) := ⟨_, _, by assumption, Nz⟩
        refine kst_end (init ++ [(y ++ ⟨#[c9]⟩, tq)], un0) (by assumption) Nz ?hn ?ho rfl trivial ?hk ?hr ?hp
        case hn => exact fun p hp => List.mem_append_left own hp
        case ho => exact fun p hp => List.mem_append_right [_, _, _] hp
        case hk => exact List.forall_mem_cons.mpr ⟨rfl, List.forall_mem_nil _⟩
        case hr =>
          intro z h1 h2 h3
          simp only [kstB_skip h2, h1, h3, if_false, Bool.false_eq_true]
        case hp => exact words_add hc9 (by rw [List.length_append, List.length_singleton] at hp; omega) (fun p hp => hall p (List.mem_append_left _ hp)) (hall _ (List.mem_append_right _ (.head _)))
  case done =>
    intro c uu hh tkk hf hp Fr1 Nr1
    obtain ⟨us, un0⟩ := c
    obtain ⟨hp, hall⟩ := hp
    have hus : us.length ≤ 1000 := by have : us.length ≤ ns.length := hp; omega
    k_steps
    unfold StopHere
    rename News _ _ _ _ => Nx
    rename Fr _ _ _ _ => Fx
    rename Addr => D
    obtain ⟨ws, nw, mm2, Nw, Fw, r2, hw1, hw2, hw3⟩ : ∃ (ws : List (Str × Tok)) (nw : Nat) (mm2 : Str → Option Value), News g _ _ [(D, listOf (strValues ws).toArray nw), (754, placesObj)] ∧ Fr g _ _ mm2 ∧ mm2 (Str.ofString "words") = some (.ref D) ∧ ws.length ≤ 66 ∧ (∀ p ∈ ws, (∀ cc ∈ p.1.cps.toList, cc < 128) ∧ p.1.length ≤ 63) ∧ ws ≠ [] := ⟨_, _, _, Nx, Fx, rfl, (words_more hns hp hall).1, (words_more hns hp hall).2, by simp⟩
    clear Nx Fx
    have hD7 : D ≠ 754 := by
      rintro rfl
      have z1 := (Nw _ (.head _)).1
      have z2 := (Nw _ (.tail _ (.head _))).1
      have z3 := z1.symm.trans z2
      cases z3
    refine join_c _ _ _ _ _ _ _ _ ws nw (Xg.keeps Fw.keep) (Tg.keeps Fw.keep) ?jl ?jP ?jg ?jd ?ju ?ja ?jz ?jret
    case jl => exact (Nw _ (.head _)).1
    case jP => exact (Nw _ (.tail _ (.head _))).1
    case jg => exact .of_eq hg
    case jd => exact Nat.lt_of_le_of_lt (Nat.add_le_add_left (by decide) _) room_d1
    case ju => exact Nat.lt_of_le_of_lt (Nat.add_le_add_left (by decide) _) room_u1
    case ja => exact fun p hp => ⟨(hw2 p hp).1, Nat.le_trans (hw2 p hp).2 (by decide)⟩
    case jz => omega
    case jret =>
      intro t5 y5 s5 hk5 hm5 hb5 ho5 hy5
      obtain ⟨more, hm5⟩ := hm5
      obtain ⟨F5, N5⟩ := after_join Fw Nw hD7 hk5 hm5
      obtain ⟨h5, g5, d5, tk5, os5⟩ := s5
      have F5 : Fr g _ h5 mm2 := F5
      have N5 : News g _ h5 [(D, listOf (strValues ws).toArray nw), (754, { cls := .none, data := .fields more })] := N5
      clear hk5 hm5 Nw Fw
      have e5 : y5.cps.toList = joinL ((ws.map fun p => p.1.cps.toList).map quoteL) := by rw [hy5, List.map_map]; rfl
      have hwl : ∀ a ∈ ws.map (fun p => p.1.cps.toList), (∀ c ∈ a, c < 128) ∧ a.length ≤ 63 := by
        intro a ha
        obtain ⟨p, hp, rfl⟩ := List.mem_map.mp ha
        exact ⟨(hw2 p hp).1, by have := (hw2 p hp).2; rw [len_cps] at this; exact this⟩
      have hl5 : y5.length ≤ 31800 := by
        rw [len_cps, e5]
        exact line_len (by rw [List.length_map]; omega) fun a ha => (hwl a ha).2
      have ha5 : ∀ c ∈ y5.cps.toList, c < 128 := by
        rw [e5]
        exact line_ascii fun a ha => (hwl a ha).1
      clear hy5
      k_steps
      unfold StopHere
      refine capwords_c _ _ _ _ _ _ _ _ _ _ _ _ _ _ _ _ _ y5 t5 _ Bg F5 Xg Tg rfl N5 ?jd ?ju (Nat.le_trans hl5 (by decide)) ?jret
      case jd => exact Nat.lt_of_le_of_lt (Nat.add_le_add_left (by decide) _) room_d1
      case ju => exact Nat.lt_of_le_of_lt (Nat.add_le_add_left (by decide) _) room_u1
      case jret =>
        intro t6 y6 h6 tk6 F6 N6 hy6
        have e6 : y6.cps.toList = capT .b0 y5.cps.toList := cap_list ha5 (by rw [hy6]; exact eq_of_beq (join_plain_closes ..)) join_joinL
        have hlex : LexAll y6.cps.toList ((ws.map fun p => p.1.cps.toList).map dueL) := by
          rw [e6, e5]
          exact law_lex (by simpa using hw3) fun a ha => (hwl a ha).1
        have hl6 : y6.length ≤ 100000 := by
          have z := capT_len y5.cps.toList .b0
          rw [← e6, ← len_cps, ← len_cps] at z
          omega
        clear F5 N5 hy6
        k_steps
        unfold StopHere
        refine split_c _ _ _ _ _ _ _ _ _ _ _ _ _ _ _ y6 t6 _ Bg F6 Xg Tg rfl N6 ?jd ?ju _ hlex (by rw [List.length_map, List.length_map]; omega) hl6 ?jret
        case jd => exact Nat.lt_of_le_of_lt (Nat.add_le_add_left (by decide) _) room_d1
        case ju => exact Nat.lt_of_le_of_lt (Nat.add_le_add_left (by decide) _) room_u1
        case jret =>
          intro S7 h7 tk7 acc7 c7 F7 N7 ht7
          clear F6 N6
          k_steps
          unfold StopHere
          refine comp_words (ax := D) (ws := ws) (k := nw) (cl := []) dueL F7 N7 (.tail _ (.head _)) (by omega) ?hh ?hclos ?hcell ?hkind ?hnames ?hx ?hs ?hi ?turn ?hQ
          case hh => with_unfolding_all rfl
          case hclos => with_unfolding_all rfl
          case hcell => decide
          case hkind => with_unfolding_all rfl
          case hnames => decide
          case hx => rfl
          case hs => exact fun _ => rfl
          case hi =>
            exact wpAny_Name (wpAny_loadName_local rfl rfl F7.ns r2 ⟨rfl, rfl⟩) (by decide)
          case turn =>
            intro yw tw I oI C oC D9 ys m9 hx9 tk9 T9 E9 hyw hC9 hm9 F9 N9 hT9
            have hya := (hw2 _ hyw).1
            have hyb : yw.length ≤ 1000 := Nat.le_trans (hw2 _ hyw).2 (by decide)
            clear F7 N7 ht7
            k_steps
            exact hT9 _ _ _ _ (by assumption) (by assumption) (by assumption)
          case hQ =>
            intro D8 us8 h8 tk8 F8 N8 hus8
            k_steps
            unfold StopHere
            rename TextsAre _ _ => ht7
            obtain ⟨l, hl1, hl2⟩ := ht7
            have hacc : acc7 = (strValues l).toArray := by rw [← hl1]
            have hsame : l.map (fun p => p.1.cps.toList) = us8.map (fun p => p.1.cps.toList) := by rw [hl2, hus8, List.map_map]; rfl
            have hda : ∀ q : List (Str × Tok), q.map (fun p => p.1.cps.toList) = ws.map (fun p => dueL p.1.cps.toList) → (q.map fun p => p.1).all PyData.strOk = true := by
              intro q hq
              rw [List.all_eq_true]
              intro a ha
              obtain ⟨p, hp, rfl⟩ := List.mem_map.mp ha
              have z : p.1.cps.toList ∈ ws.map (fun p => dueL p.1.cps.toList) := by rw [← hq]; exact List.mem_map_of_mem (f := fun p : Str × Tok => p.1.cps.toList) hp
              obtain ⟨p2, hp2, e2⟩ := List.mem_map.mp z
              exact strOk_ascii (by rw [← e2]; exact due_ascii (hw2 p2 hp2).1)
            refine es_eq (us := l) (vs := us8) ⟨_, (N8 _ (.tail _ (.head _))).1, rfl, c7, by rw [← hacc]⟩ ⟨_, (N8 _ (.head _)).1, rfl, _, rfl⟩ (hda l (by rw [hsame, hus8])) (hda us8 hus8) (room_u64 _) ?_
            rw [texts_same hsame]
            have hO := old_end hP hTab hk1 F8 (N8 _ (.tail _ (.tail _ (.tail _ (.head _))))).1
            refine ⟨.inl ⟨.bool true, .bool true, [], rfl, raisesW_false ?hn, .bool true, ?hp, unshared_nil⟩, hO, ho5, hb5⟩
            case hn => wrow_none_raised
            case hp => wrow_post

end
end Mine
theorem PySem.Challenge.cw_dn0076_08_holds : PySem.Challenge.rw_dn0076_08.Holds :=
  Mine.law_x
