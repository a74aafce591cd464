import PyProof.Rows.All
import Wide.All
import OpenK.AllK
import Wide.FinOn
import Lean
import PySem.Challenge.RW_mj0334_01
open PySem PySem.W PyProof.Rows
set_option Elab.async false
set_option linter.all false
set_option bootstrap.genMatcherCode false
set_option maxRecDepth 100000
set_option maxHeartbeats 8000000
set_option genSizeOfSpec false
set_option genInjectivity false
namespace Mine
section
local macro_rules | `(tactic| o_head $_) => `(tactic| assumption)
theorem kk (h : PySem.Challenge.rw_mj0334_01.row.Holds) : PySem.Challenge.rw_mj0334_01.row.Holds := by k_head
noncomputable abbrev pw : Program := PySem.Challenge.pw_mj0334_01
noncomputable def vw : Program := view pw [0, 1, 2, 3, 5, 6, 7, 8, 9, 10, 11, 12, 14, 15, 16, 17, 19, 20, 22, 24, 25, 26, 27, 29, 30, 31, 32, 33, 34, 35, 36, 37]
noncomputable abbrev lw : List Str := ["_twin_re_1", "UnsupportedOperation", "IOBase", "BufferedIOBase", "TextIOBase", "BytesIO", "StringIO", "join_path", "shlex", "split", "join_shlex", "_find_unsafe"].map Str.ofString

noncomputable def impT (st : SharedT → Thread → Option (SharedT × Thread)) : Nat → SharedT → Thread → Option SharedT
  | 0, _, _ => none
  | n + 1, s, t => match t.atExitBegin with
    | some [] => some s
    | some (_ :: _) => none
    | none => match st s t with
      | some (s', t') => impT st n s' t'
      | none => none
noncomputable def runT (st : SharedT → Thread → Option (SharedT × Thread)) (ok : Thread → Bool) : Nat → SharedT → Thread → Option SharedT
  | 0, _, _ => none
  | n + 1, s, t => match through t with
    | true => some s
    | false => match ok t with
      | false => none
      | true => match st s t with
        | some (s', t') => runT st ok n s' t'
        | none => none
section
variable {tb : String → Option Builtin} {p : Program} {w : World} {n₀ : Nat} {ann : Option Value}
theorem impT_spec : ∀ {n : Nat} {s s' : SharedT} {t : Thread}, impT (stepT (denote tb) p w) n s t = some s' → importEnds tb p w n s.abs t = some s'.abs
  | 0, _, _, _, h => by cases h
  | n + 1, s, s', t, h => by
    unfold impT at h
    unfold importEnds
    cases he : t.atExitBegin with
    | some l =>
      rw [he] at h
      cases l with
      | nil => cases h; rfl
      | cons _ _ => cases h
    | none =>
      rw [he] at h
      cases hs : stepT (denote tb) p w s t with
      | none => rw [hs] at h; cases h
      | some r => obtain ⟨s₂, t₂⟩ := r; rw [hs] at h; dsimp only; rw [stepT_spec hs]; exact impT_spec h
theorem runT_spec : ∀ {n : Nat} {s s' : SharedT} {t : Thread}, runT (stepT (denote tb) p w) (stepOk n₀ ann) n s t = some s' → topRun tb p w n₀ ann n s.abs t = some s'.abs
  | 0, _, _, _, h => by cases h
  | n + 1, s, s', t, h => by
    unfold runT at h
    unfold topRun
    cases he : through t with
    | true => rw [he] at h; cases h; rfl
    | false =>
      rw [he] at h
      cases hk : stepOk n₀ ann t with
      | false => rw [hk] at h; cases h
      | true =>
        rw [hk] at h
        cases hs : stepT (denote tb) p w s t with
        | none => rw [hs] at h; cases h
        | some r => obtain ⟨s₂, t₂⟩ := r; rw [hs] at h; dsimp only; rw [stepT_spec hs]; exact runT_spec h
end
noncomputable def treeOf : List Obj → Nat → BT → Option (Nat × BT)
  | [], n, t => some (n, t)
  | o :: r, n, t => match ((t.ins n o).get n).isSome with
    | true => treeOf r (n + 1) (t.ins n o)
    | false => none
theorem treeOf_spec {life : Life} : ∀ {l : List Obj} {n : Nat} {t : BT} {m : Nat} {t' : BT}, treeOf l n t = some (m, t') → absHeap t' m life = ⟨(absHeap t n life).objs ++ l.toArray, life⟩
  | [], n, t, m, t', h => by cases h; simp [absHeap]
  | o :: r, n, t, m, t', h => by
    unfold treeOf at h
    cases hs : ((t.ins n o).get n).isSome with
    | false => rw [hs] at h; cases h
    | true =>
      rw [hs] at h
      rw [treeOf_spec h, absHeap_ins hs]
      simp [Heap.push]
noncomputable def liftS (s : Shared) : Option SharedT := (treeOf s.heap.objs.toList 0 .nil).map fun x => ⟨x.2, x.1, s.heap.life, s.gens, s.drawn, s.toks, s.os⟩
theorem liftS_spec {s : Shared} {a : SharedT} (h : liftS s = some a) : a.abs = s := by
  obtain ⟨⟨n, t⟩, e, rfl⟩ := Option.map_eq_some_iff.mp h
  obtain ⟨⟨os, life⟩, gens, drawn, toks, o⟩ := s
  have q := treeOf_spec (life := life) e
  simp only [SharedT.abs]
  rw [q]
  simp [absHeap, BT.list]
noncomputable def allT (p : Program) (N : Nat) (sto stp : SharedT → Thread → Option (SharedT × Thread)) (ok : Nat → Option Value → Thread → Bool) : Option (Shared × SharedT) :=
  match liftS (start (opening p)).1 with
  | none => none
  | some a => match impT sto N a (start (opening p)).2 with
    | none => none
    | some b => match fenceModules? p b.abs with
      | none => none
      | some s₀ => match liftS s₀ with
        | none => none
        | some a => match runT stp (ok s₀.heap.objs.size (s₀.heap.nsMap mainGlobals "__annotations__")) N a (topStub p) with
          | none => none
          | some r => some (s₀, r)
theorem allT_spec {p : Program} {w : World} {N : Nat} {s₀ : Shared} {r : SharedT} (h : allT p N (stepT (denote treeTable) (opening p) w) (stepT (denote treeTable) p w) stepOk = some (s₀, r))
    (hs : (s₀.heap.isNs mainGlobals && s₀.gens.size == 0) = true) (hl : (staticsOk (importedModules p.main.body) s₀.heap r.abs.heap && namesBound p r.abs.heap && gensDone r.abs && laidKept s₀.heap r.abs.heap) = true) : openEnds treeTable p w N = some r.abs := by
  unfold allT at h
  unfold openEnds fencedOpening
  cases h1 : liftS (start (opening p)).1 with
  | none => rw [h1] at h; cases h
  | some a =>
    rw [h1] at h
    dsimp only at h
    cases h2 : impT (stepT (denote treeTable) (opening p) w) N a (start (opening p)).2 with
    | none => rw [h2] at h; cases h
    | some b =>
      rw [h2] at h
      dsimp only at h
      have e := impT_spec h2
      rw [liftS_spec h1] at e
      rw [e]
      cases h3 : fenceModules? p b.abs with
      | none => rw [h3] at h; cases h
      | some s =>
        rw [h3] at h
        dsimp only at h
        cases h4 : liftS s with
        | none => rw [h4] at h; cases h
        | some a' =>
          rw [h4] at h
          dsimp only at h
          cases h5 : runT (stepT (denote treeTable) p w) (stepOk s.heap.objs.size (s.heap.nsMap mainGlobals "__annotations__")) N a' (topStub p) with
          | none => rw [h5] at h; cases h
          | some r' =>
            rw [h5] at h
            cases h
            show ((fenceModules? p b.abs).bind _) = _
            rw [h3]
            show topFrom treeTable p w N s₀ = some r.abs
            have e := runT_spec h5
            rw [liftS_spec h4] at e
            unfold topFrom
            rw [hs]
            show ((topRun treeTable p w s₀.heap.objs.size (s₀.heap.nsMap mainGlobals "__annotations__") N s₀ (topStub p)).bind _) = _
            rw [e]
            show (match staticsOk (importedModules p.main.body) s₀.heap r.abs.heap && namesBound p r.abs.heap && gensDone r.abs && laidKept s₀.heap r.abs.heap with | true => _ | false => _) = _
            rw [hl]
noncomputable def getT (s : SharedT) (a : Addr) : Option Obj := match Nat.blt a s.n with
  | true => match s.tree.get a with
    | some o => alive o
    | none => none
  | false => none
theorem getT_spec {s : SharedT} {a : Addr} {o : Obj} (h : getT s a = some o) : s.abs.heap.get? a = some o := by
  unfold getT at h
  cases h1 : Nat.blt a s.n with
  | false => rw [h1] at h; cases h
  | true =>
    rw [h1] at h
    dsimp only at h
    cases h2 : s.tree.get a with
    | none => rw [h2] at h; cases h
    | some x => rw [h2] at h; exact (abs_get (Nat.le_of_ble_eq_true h1) h2).trans h
theorem both {α β γ : Type} {x : Option α} {f : α → β} {g : α → γ} {b : β} {c : γ} (h1 : x.map f = some b) (h2 : x.map g = some c) : ∃ a, x = some a ∧ f a = b ∧ g a = c := by
  obtain ⟨a, e, r⟩ := Option.map_eq_some_iff.mp h1
  rw [e] at h2
  exact ⟨a, e, r, Option.some.inj h2⟩
noncomputable def as1 : List Addr := [2, 3, 38, 40, 41, 43, 44, 48, 49, 50, 52, 53, 55, 56, 57, 59, 60, 62, 63, 64, 71, 72, 73, 74, 84, 86, 87, 89, 90, 91, 92, 93, 94, 95, 96, 99, 106, 107, 108, 111, 118, 119, 120, 123, 130, 131, 133, 134, 136, 137, 138, 140, 141, 143, 144, 145, 147, 148, 150, 151, 152, 154, 155, 157, 158, 159, 160, 162, 163, 165, 166, 167, 169, 170, 172, 173, 174, 176, 177, 179, 180, 181, 183, 184, 186, 187, 188, 190, 191, 193, 194, 195, 197, 198, 200, 201, 202, 204, 205, 207, 208, 209, 211, 212, 214, 215, 216, 218, 219, 221, 222, 223, 225, 226, 228, 229, 230, 232, 233, 235, 236, 237, 239, 240, 242, 243, 244, 246, 247, 249, 250, 251, 252, 254, 255, 257, 258, 259, 260, 262, 263, 265, 266, 267, 268, 270, 271, 273, 274, 275, 276, 278, 279, 281, 282, 283, 285, 286, 288, 289, 290, 292, 293, 295, 296, 297, 298, 300, 301, 303, 304, 305, 306, 308, 309, 311, 312, 313, 315, 316, 318, 319, 320, 322, 323, 325, 326, 327, 329, 330, 332, 333, 334, 336, 337, 339, 340, 341, 343, 344, 346, 347, 348, 349, 350, 353, 360, 361, 363, 364, 366, 367, 368, 370, 371, 373, 374, 375, 377, 378, 380, 381, 382, 384, 385, 387, 388, 389, 391, 392, 394, 395, 396, 398, 399, 401, 402, 403, 404, 406, 407, 409, 410, 411, 412, 414, 415, 417, 418, 419, 420, 422, 423, 425, 426, 427, 428, 430, 431, 433, 434, 435, 436, 438, 439, 441, 442, 443, 445, 446, 448, 449, 450, 452, 453, 455, 456, 457, 459, 460, 462, 463, 464, 466, 467, 469, 470, 471, 473, 474, 476, 477, 478, 480, 481, 483, 484, 485, 487, 488, 490, 491, 492, 494, 495, 497, 498, 499, 501, 502, 504, 505, 506, 508, 509, 511, 512, 513, 515, 516, 518, 519, 520, 521, 523, 524, 526, 527, 528, 529, 531, 532, 534, 535, 536, 537, 539, 540, 542, 543, 544, 545, 547, 548, 550, 551, 552, 553, 555, 556, 558, 559, 560, 562, 563, 565, 566, 567, 569, 570, 572, 573, 574, 576, 577, 579, 580, 581, 583, 584, 586, 587, 588, 590, 591, 593, 594, 595, 596, 597, 600, 602, 603, 605, 606, 607, 609, 610, 612, 613, 614, 616, 617, 619, 620, 621, 623, 624, 626, 627, 628, 630, 631, 633, 634, 635, 637, 638, 640, 641, 649, 650, 652, 653, 655, 656, 657, 659, 660, 662, 663, 664, 665, 667, 668, 670, 671, 672, 673, 675, 676, 678, 679, 680, 682, 683, 685, 686, 687, 689, 690, 692, 693, 694, 696, 697, 699, 700, 701, 703, 704, 706, 707, 708, 709, 711, 712, 714, 715, 716, 718, 719, 721, 722, 723, 725, 726, 728, 729, 730, 731, 732, 733, 734, 737, 738, 740, 741, 743, 744, 745, 747, 748, 750, 751, 752, 753, 755, 756, 758, 759, 760, 763, 764, 765, 768, 769, 770, 772, 773, 775, 776, 777, 779, 780, 782, 783, 784, 786, 787, 789, 790, 791, 793, 794, 796, 797, 798, 800, 801, 803, 804, 805, 808, 809, 810, 813, 814]
theorem as1_ok (P : Params) : as1 = (kk.heap_1 P).map (·.1) := by kernel_rfl
noncomputable def hk : Hook := kHook kk.heap_1 as1 as1_ok
noncomputable def xt : Shared → Bool := fun s => xlAt vw [] s && recOk (RowW.records (OpenRow.toRowW PySem.Challenge.rw_mj0334_01.row)) s
noncomputable abbrev gT (w : World) : Option (Shared × SharedT) := allT pw 10462 (PySem.W.Fast.tw10156331382660048174 (PySem.W.Fast.tw11892475500146522536 PySem.W.Fast.tw14364793385576792824) (opening pw) w) (PySem.W.Fast.tw10156331382660048174 (PySem.W.Fast.tw11892475500146522536 PySem.W.Fast.tw14364793385576792824) pw w) PySem.W.Fast.tw6613529449190102663
noncomputable abbrev mods : List Str := PySem.W.Fast.tw5923862056798008813 pw.main.body
noncomputable abbrev seenQ (s : Shared) := PySem.W.Fast.tw4187177175401517315 vw lw mods xt true s
theorem chk1 (w : World) : (gT w).map (fun x => ((x.1.heap.isNs mainGlobals && x.1.gens.size == 0), (staticsOk mods x.1.heap x.2.abs.heap && namesBound pw x.2.abs.heap && gensDone x.2.abs && laidKept x.1.heap x.2.abs.heap),
    (seenQ x.2.abs).1)) = some (true, true, (openGood vw lw).1) := by kernel_rfl
theorem chk2 (w : World) : (gT w).map (fun x => (seenQ x.2.abs).2.2) = some (openGood vw lw).2.2 := by kernel_rfl
theorem chk3 (w : World) : (gT w).map (fun x => ((seenQ x.2.abs).2.1, as1.map (getT x.2))) = some ((openGood vw lw).2.1, hk.val w) := by kernel_rfl
theorem sdAnd {a b : Bool} (h1 : a = true) (h2 : b = true) : (a && b) = true := by subst h1 h2; rfl
noncomputable abbrev sdP : Program := (PySem.W.Fast.tw2368527892694137696 PySem.Challenge.rw_mj0334_01).prog
theorem sdRoads : PySem.W.Fast.tw8326940854005059898
    { strict := !R.allR (PySem.W.Fast.tw5923862056798008813 sdP.main.body) (PySem.W.Fast.tw3471404346716756564 PySem.W.Fast.tw17691160309236699985), foot := none,
      bare := R.filterR (PySem.W.Fast.tw13343964577679436407 sdP sdP.main.body) [⟨⟨[118, 97, 114, 115]⟩⟩, ⟨⟨[100, 105, 114]⟩⟩, ⟨⟨[108, 111, 99, 97, 108, 115]⟩⟩] } sdP.main.body = true := by kernel_rfl
theorem sdLooks : PySem.W.Fast.tw12908688711261696721 sdP = true := by
  delta PySem.W.Fast.tw12908688711261696721
  try dsimp only
  refine sdAnd (sdAnd ?_ sdRoads) ?_ <;> kernel_rfl
theorem sdParts : PySem.W.Fast.tw2436336058641802641 (PySem.W.Fast.tw2368527892694137696 PySem.Challenge.rw_mj0334_01) = true := by
  delta PySem.W.Fast.tw2436336058641802641
  try dsimp only
  refine sdAnd (sdAnd (sdAnd (sdAnd (sdAnd (sdAnd (sdAnd (sdAnd (sdAnd (sdAnd (sdAnd (sdAnd (sdAnd sdLooks ?_) ?_) ?_) ?_) ?_) ?_) ?_) ?_) ?_) ?_) ?_) ?_) ?_ <;> kernel_rfl
theorem sdRow : PySem.W.Fast.tw17960256430627541270 (PySem.W.Fast.tw2368527892694137696 PySem.Challenge.rw_mj0334_01) = true := by
  delta PySem.W.Fast.tw17960256430627541270
  try dsimp only
  refine sdAnd (sdAnd sdParts ?_) ?_ <;> kernel_rfl
theorem said1 : PySem.W.Fast.tw9446332074065402090 PySem.Challenge.rw_mj0334_01 = true := by
  delta PySem.W.Fast.tw9446332074065402090
  try dsimp only
  refine sdAnd (sdAnd (sdAnd (sdAnd (sdAnd (sdAnd (sdAnd (sdAnd (sdAnd (sdAnd (sdAnd (sdAnd (sdAnd (sdAnd (sdAnd (sdAnd (sdAnd (sdAnd sdRow ?_) ?_) ?_) ?_) ?_) ?_) ?_) ?_) ?_) ?_) ?_) ?_) ?_) ?_) ?_) ?_) ?_) ?_ <;> kernel_rfl
theorem said : OpenLaw.wellSaid PySem.Challenge.rw_mj0334_01 = true := by rw [PySem.W.Fast.te9446332074065402090]; exact said1
theorem obs_of {s : SharedT} {l : List Addr} {v : List (Option Obj)} (hv : ∀ o ∈ v, ∃ y, o = some y) (h : l.map (getT s) = v) : l.map s.abs.heap.get? = v := by
  subst h
  refine List.map_congr_left fun a ha => ?_
  obtain ⟨y, e⟩ := hv _ (List.mem_map_of_mem ha)
  rw [e]
  exact getT_spec e
theorem left : LeftO pw vw lw xt hk.obs hk.val 10462 := fun w => by
  obtain ⟨⟨s₀, r⟩, e, q1, q2⟩ := both (chk1 w) (chk2 w)
  obtain ⟨a, e', q3, _⟩ := both (chk3 w) (chk3 w)
  rw [e] at e'
  cases e'
  unfold gT at e
  rw [← PySem.W.Fast.te10156331382660048174, ← PySem.W.Fast.te11892475500146522536, ← PySem.W.Fast.te14364793385576792824, ← PySem.W.Fast.te6613529449190102663] at e
  obtain ⟨z4, q3⟩ := Prod.mk.inj q3
  unfold seenQ mods at q1 q2 z4
  rw [← PySem.W.Fast.te5923862056798008813] at q1 q2 z4
  rw [← PySem.W.Fast.te4187177175401517315] at q1 q2 z4
  obtain ⟨z1, z2, z3⟩ : _ ∧ _ ∧ _ := by simpa only [Prod.mk.injEq] using q1
  rw [allT_spec e z1 z2]
  refine congrArg some (Prod.ext (Prod.ext z3 (Prod.ext z4 q2)) ?_)
  refine obs_of (fun o ho => ?_) q3
  obtain ⟨p, _, rfl⟩ := List.mem_map.mp ho
  exact ⟨_, rfl⟩
end
theorem fill (l : OpenLaw) (_ : l = PySem.Challenge.rw_mj0334_01) : (fun w h => (kk.heap_1 w).In h) = (fun w h => (kk.heap_1 w).In h) ∧ PySem.Challenge.rw_mj0334_01 = PySem.Challenge.rw_mj0334_01 := by k_fill; exact ⟨rfl, rfl⟩
section
open PySem PySem.W PySem.Calls PyProof.Rows
noncomputable abbrev Mod (w : World) : Model := model PySem.Challenge.pw_mj0334_01 w
noncomputable abbrev AT (d u : Nat) (outer : List Env) : Around := { handled := none, depth := d, frames := some outer, guards := some [], units := u }


theorem keysLt (P : Params) : ((kk.heap_1 P).all fun p => decide (p.1 < 815)) = true := by kernel_rfl
theorem no746 (P : Params) : ((kk.heap_1 P).all fun p => decide (p.1 ≠ 746)) = true := by kernel_rfl
theorem lookup_mem {K : Frag} {a : Addr} {o : Obj} (h : K.lookup a = some o) : (a, o) ∈ K := by
  induction K with
  | nil => cases h
  | cons p r ih =>
    obtain ⟨b, o'⟩ := p
    rw [List.lookup_cons] at h
    by_cases q : (a == b) = true
    · rw [q] at h
      cases h
      rw [beq_iff_eq.mp q]
      exact .head _
    · simp only [Bool.not_eq_true] at q
      rw [q] at h
      exact .tail _ (ih h)
theorem key_lt {P : Params} {a : Addr} {o : Obj} (h : (kk.heap_1 P).lookup a = some o) : a < 815 := by
  simpa using List.all_eq_true.mp (keysLt P) _ (lookup_mem h)
theorem key_ne {P : Params} {a : Addr} {o : Obj} (h : (kk.heap_1 P).lookup a = some o) : a ≠ 746 := by
  simpa using List.all_eq_true.mp (no746 P) _ (lookup_mem h)

noncomputable def frs (outer : List Env) : List Addr := outer.filterMap (·.frame)

structure Gd (w : World) (outer : List Env) (h : Heap) : Prop where
  X : (kk.heap_1 w.params).In h
  T : ∃ lo mg mb, TopRead vw lo mg mb h
  fr : ∀ env ∈ outer, env.scope.kind = .function ∧ ∃ L o es n, env.frame = some L ∧ 815 ≤ L ∧ h.get? L = some o ∧ o.data = .dict es n
  big : 815 ≤ h.objs.size

theorem ns_at {h h' : Heap} {a : Addr} {m : Str → Option Value} (x : h.Ns a m) (k : ∀ o, h.get? a = some o → h'.get? a = some o) : h'.Ns a m := by
  obtain ⟨o, es, ep, ho, r⟩ := x
  exact ⟨o, es, ep, k o ho, r⟩

theorem Gd.mv {w : World} {outer : List Env} {h h' : Heap} (G : Gd w outer h) (k : ∀ b o, b < 815 → b ≠ 746 → h.get? b = some o → h'.get? b = some o)
    (kf : ∀ b o, b ∈ frs outer → h.get? b = some o → ∃ o', h'.get? b = some o' ∧ o'.data = o.data) (hs : h.objs.size ≤ h'.objs.size) : Gd w outer h' where
  X := fun a o e => k a o (key_lt e) (key_ne e) (G.X a o e)
  T := by
    obtain ⟨lo, mg, mb, T⟩ := G.T
    obtain ⟨mc, h1, h2⟩ := T.nolimit
    exact ⟨lo, mg, mb, ns_at T.g fun o => k _ o (by decide) (by decide), ns_at T.b fun o => k _ o (by decide) (by decide), ⟨mc, ns_at h1 fun o => k _ o (by decide) (by decide), h2⟩, T.builtins, T.free⟩
  fr := fun env he => by
    obtain ⟨hk, L, o, es, n, hf, hL, ho, hd⟩ := G.fr env he
    obtain ⟨o', ho', hd'⟩ := kf L o (List.mem_filterMap.mpr ⟨env, he, hf⟩) ho
    exact ⟨hk, L, o', es, n, hf, hL, ho', hd'.trans hd⟩
  big := Nat.le_trans G.big hs
theorem Gd.keeps {w : World} {outer : List Env} {h h' : Heap} (G : Gd w outer h) (k : ∀ b o, h.get? b = some o → h'.get? b = some o) (hs : h.objs.size ≤ h'.objs.size) : Gd w outer h' :=
  G.mv (fun b o _ _ e => k b o e) (fun b o _ e => ⟨o, k b o e, rfl⟩) hs

structure Mv (wr : List Addr) (s s' : Shared) : Prop where
  keep : ∀ b o, b ∉ wr → s.heap.get? b = some o → s'.heap.get? b = some o
  gens : s'.gens = s.gens
  os : s'.os = s.os
  dr : s'.drawn = s.drawn
  size : s.heap.objs.size ≤ s'.heap.objs.size
theorem Mv.refl {wr : List Addr} {s : Shared} : Mv wr s s := ⟨fun _ _ _ e => e, rfl, rfl, rfl, Nat.le_refl _⟩
theorem Mv.trans {wr : List Addr} {s s' s'' : Shared} (x : Mv wr s s') (y : Mv wr s' s'') : Mv wr s s'' :=
  ⟨fun b o n e => y.keep b o n (x.keep b o n e), y.gens.trans x.gens, y.os.trans x.os, y.dr.trans x.dr, Nat.le_trans x.size y.size⟩
theorem Mv.toks {wr : List Addr} {s s' : Shared} (x : Mv wr s s') (k : Nat) : Mv wr s { s' with toks := k } := ⟨x.keep, x.gens, x.os, x.dr, x.size⟩

theorem Gd.after {w : World} {outer : List Env} {wr : List Addr} {s s' : Shared} (G : Gd w outer s.heap) (M : Mv wr s s') (hw : ∀ b ∈ wr, (815 ≤ b ∨ b = 746) ∧ b ∉ frs outer) : Gd w outer s'.heap :=
  G.mv (fun b o h1 h2 e => M.keep b o (fun q => by
    rcases (hw b q).1 with z | z
    · exact absurd h1 (Nat.not_lt.mpr z)
    · exact h2 z) e) (fun b o hb e => ⟨o, M.keep b o (fun q => (hw b q).2 hb) e, rfl⟩) M.size

structure Bs (muts : List (Addr × Obj)) (s : Shared) (g : Heap) (L : Addr) : Prop where
  into : ∀ b o, b ∉ muts.map (·.1) → s.heap.get? b = some o → g.get? b = some o
  back : ∀ b o, g.get? b = some o → s.heap.get? b = some o
  at_ : L = s.heap.objs.size
  size : g.objs.size = s.heap.objs.size
theorem Bs.mv {muts : List (Addr × Obj)} {s : Shared} {g h' : Heap} {L : Addr} {m : Str → Option Value} (B : Bs muts s g L) (F : Fr g L h' m) {tk : Nat} : Mv (muts.map (·.1)) s ⟨h', s.gens, s.drawn, tk, s.os⟩ :=
  ⟨fun b o n e => F.keep b o (B.into b o n e), rfl, rfl, rfl, by
    obtain ⟨o, _, _, ho, _⟩ := F.ns
    have q := Heap.lt_size ho
    rw [B.at_] at q
    exact Nat.le_of_lt q⟩

theorem enterP {w : World} {d u : Nat} {outer : List Env} {s : Shared} {f : Addr} {args : Args} {R : Result → Shared → Prop} {name qual : Str} {params : Arguments} {body : List Stmt} {scope : Scope} {dV kV doc pm cdv ct oc : Value}
    {an od : Option Addr} {osl : Array (Option Value)} {binds : List (Str × Value)} (muts : List (Addr × Obj))
    (G : Gd w outer s.heap) (hm : ∀ p ∈ muts, s.heap.get? p.1 = some p.2 ∧ 815 ≤ p.1 ∧ p.1 ∉ frs outer)
    (ho : (kk.heap_1 w.params).lookup f = some ⟨oc, od, .func (fnOf name qual params body scope dV kV doc pm an cdv ct), osl⟩) (hcd : codeIn (kk.heap_1 w.params) cdv qual = true) (hroom : d < recursionLimit)
    (hbind : BindsTo s (fnOf name qual params body scope dV kV doc pm an cdv ct) args binds) (hloc : ∀ y ∈ binds, scope.names.lookup y.1 = some .local)
    (h : ∀ g L' h₁ lo mg mb, Fr g L' h₁ (fun y => binds.reverse.lookup y) → News g L' h₁ muts → Below (AT d u outer) (hideAll g (frs outer)) outer g → (kk.heap_1 w.params).In g → TopRead vw lo mg mb g → Bs muts s g L' → (∀ p ∈ muts, p.1 < L') → Gd w outer g → 815 ≤ L' →
      wpAny (Mod w) ((AT d u outer).deeper (envOf qual scope L' f cdv)) (execs body (envOf qual scope L' f cdv)) (fun fl s' => R (.ok (.ret (match fl with | .ret v => v | _ => .none))) s')
        (fun e s' => wpAny (Mod w) ((AT d u outer).deeper (envOf qual scope L' f cdv)) (leaving (envOf qual scope L' f cdv) e) (fun _ s'' => R (.error e) s'') (fun e' s'' => R (.error e') s'') s')
        { s with heap := h₁, toks := s.toks + binds.length })
    (hco : scope.isCoroutine = false) (hgen : scope.isGenerator = false) (hk : scope.kind = .function) (hcell : ∀ x ∈ scope.names, x.2 ≠ .cell) :
    codeAny (Mod w) (AT d u outer) (.call (.ref f) args) R s := by
  obtain ⟨lo, mg, mb, T⟩ := G.T
  refine codeAny_call_def (fd := fnOf name qual params body scope dV kV doc pm an cdv ct) (body := body) (binds := binds) hroom (G.X _ _ ho) rfl T.nolimit (codeRec_of G.X hcd) rfl hbind hcell hloc (fun h₁ hns hk₁ => ?_) hco hgen hk
  have into : ∀ b o, b ∉ muts.map (·.1) → s.heap.get? b = some o → (hideAll s.heap (muts.map (·.1))).get? b = some o := fun b o n e => hideAll_get _ e n
  have lowM : ∀ b o, b < 815 → s.heap.get? b = some o → (hideAll s.heap (muts.map (·.1))).get? b = some o := fun b o hb e => into b o (fun q => by
    obtain ⟨p, hp, rfl⟩ := List.mem_map.mp q
    exact absurd hb (Nat.not_lt.mpr (hm p hp).2.1)) e
  have frM : ∀ b ∈ frs outer, b ∉ muts.map (·.1) := fun b hb q => by
    obtain ⟨p, hp, rfl⟩ := List.mem_map.mp q
    exact (hm p hp).2.2 hb
  have T' : TopRead vw lo mg mb (hideAll s.heap (muts.map (·.1))) := by
    obtain ⟨mc, h1, h2⟩ := T.nolimit
    exact ⟨ns_at T.g fun o => lowM _ o (by decide), ns_at T.b fun o => lowM _ o (by decide), ⟨mc, ns_at h1 fun o => lowM _ o (by decide), h2⟩, T.builtins, T.free⟩
  have BG : Below (AT d u outer) (hideAll (hideAll s.heap (muts.map (·.1))) (frs outer)) outer (hideAll s.heap (muts.map (·.1))) := by
    refine ⟨rfl, fun b o e => of_hideAll _ e, ?_⟩
    have key : ∀ l : List Env, (∀ env ∈ l, env ∈ outer) → (hideAll s.heap (muts.map (·.1))).FunFrames (hideAll (hideAll s.heap (muts.map (·.1))) (frs outer)) l := by
      intro l
      induction l with
      | nil => intro _; trivial
      | cons env r ih =>
        intro hl
        obtain ⟨hk', L, o, es, n, hf, hL, ho', hd'⟩ := G.fr env (hl env (.head _))
        have hin : L ∈ frs outer := List.mem_filterMap.mpr ⟨env, hl env (.head _), hf⟩
        exact ⟨by rw [hk']; decide, ⟨L, o, hf, hideAll_none _ hin, into L o (frM L hin) ho', fun vs q => by rw [hd'] at q; cases q⟩, ih fun e he => hl e (.tail _ he)⟩
    exact key outer fun _ h => h
  exact h _ s.heap.objs.size h₁ lo mg mb ⟨hns, fun b o e => hk₁ b o (of_hideAll _ e), Nat.le_of_eq (hideAll_size _ _)⟩
    (fun p hp => ⟨hk₁ _ _ (hm p hp).1, Nat.ne_of_lt (Heap.lt_size (hm p hp).1), hideAll_none _ (List.mem_map_of_mem hp)⟩) BG
    (fun a o e => lowM a o (key_lt e) (G.X a o e)) T' ⟨into, fun b o e => of_hideAll _ e, rfl, hideAll_size _ _⟩ (fun p hp => Heap.lt_size (hm p hp).1)
    (G.mv (fun b o hb _ e => lowM b o hb e) (fun b o hb e => ⟨o, into b o (frM b hb) e, rfl⟩) (Nat.le_of_eq (hideAll_size _ _).symm)) G.big

section
variable {prog : Program} {w : World} {A A₀ : Around} {E : Value → Shared → Prop} {s : Shared} {K : Frag} {C L : Addr} {h₀ base : Heap} {m mg mb : Str → Option Value} {news : List (Addr × Obj)} {p : Program} {loose : List Str} {Q : Value → Shared → Prop}
theorem code_defR {env : Env} {outer : List Env} {R : Result → Shared → Prop} {name qual : Str} {params : Arguments} {body : List Stmt} {scope : Scope} {dV kV doc pm cdv ct oc : Value} {an od : Option Addr} {osl : Array (Option Value)} {f : Addr} {args : Args} {binds : List (Str × Value)}
    (B : Below A₀ base outer h₀) (F : Fr h₀ L s.heap m) (X₀ : K.In h₀) (N : News h₀ L s.heap news) (T : TopRead p loose mg mb h₀) (hA : A.frames = some (env :: outer)) (hf : env.frame = some L) (hke : env.scope.kind = .function)
    (ho : K.lookup f = some ⟨oc, od, .func (fnOf name qual params body scope dV kV doc pm an cdv ct), osl⟩) (hcd : codeIn K cdv qual = true) (hroom : A.depth < recursionLimit)
    (hbind : BindsTo s (fnOf name qual params body scope dV kV doc pm an cdv ct) args binds) (hloc : ∀ y ∈ binds, scope.names.lookup y.1 = some .local)
    (h : ∀ g L' h₁, Fr h₀ L g m → Fr g L' h₁ (fun y => binds.reverse.lookup y) → News g L' h₁ news → Below A base (env :: outer) g → K.In g → TopRead p loose mg mb g →
      wpAny (model prog w) (A.deeper (envOf qual scope L' f cdv)) (execs body (envOf qual scope L' f cdv))
        (fun fl s' => LeaveK h₀ L m g R (match fl with | .ret v => v | _ => .none) s')
        (fun e s' => wpAny (model prog w) (A.deeper (envOf qual scope L' f cdv)) (leaving (envOf qual scope L' f cdv) e) (fun _ s'' => R (.error e) s'') (fun e' s'' => R (.error e') s'') s')
        { s with heap := h₁, toks := s.toks + binds.length })
    (hco : scope.isCoroutine = false) (hgen : scope.isGenerator = false) (hk : scope.kind = .function)
    (hcell : ∀ x ∈ scope.names, x.2 ≠ .cell) : codeAny (model prog w) A (.call (.ref f) args) R s :=
  callX_plain (cl := []) B F N T.nolimit hA hf hke ((X₀.keeps F.keep) _ _ ho) rfl (codeRec_of (X₀.keeps F.keep) hcd) hroom hbind hloc (fun g L' h₁ FG F' N' B' st _ => h g L' h₁ FG F' N' B' (X₀.keeps st) (T.keeps st)) hcell hco hgen hk
end

theorem codeAny_le {M : Model} {A A' : Around} {c : Code} {R : Result → Shared → Prop} {s : Shared} (h : codeAny M A' c R s) (h1 : A.handled = A'.handled) (h2 : A.depth ≤ A'.depth)
    (h3 : A.frames = A'.frames) (h4 : A.guards = A'.guards) (h5 : A.units ≤ A'.units) : codeAny M A c R s :=
  fun Γ p hc hΓ => h Γ p hc ⟨hΓ.1.trans h1, Nat.le_trans hΓ.2.1 h2, h3 ▸ hΓ.2.2.1, h4 ▸ hΓ.2.2.2.1, Nat.le_trans hΓ.2.2.2.2 h5⟩

theorem Gd.push {w : World} {outer : List Env} {g h : Heap} {L : Addr} {m : Str → Option Value} {env : Env} (G : Gd w outer g) (F : Fr g L h m) (hL : 815 ≤ L) (hf : env.frame = some L) (hk : env.scope.kind = .function) : Gd w (env :: outer) h where
  X := fun a o e => F.keep a o (G.X a o e)
  T := by
    obtain ⟨lo, mg, mb, T⟩ := G.T
    exact ⟨lo, mg, mb, T.keeps F.keep⟩
  fr := fun e he => by
    rcases List.mem_cons.mp he with rfl | he
    · obtain ⟨o, es, n, ho, hd, _⟩ := F.ns
      exact ⟨hk, L, o, es, n, hf, hL, ho, hd⟩
    · obtain ⟨k, L', o, es, n, h1, h2, h3, h4⟩ := G.fr e he
      exact ⟨k, L', o, es, n, h1, h2, F.keep _ _ h3, h4⟩
  big := by
    obtain ⟨o, _, _, ho, _⟩ := F.ns
    have := Heap.lt_size ho
    exact Nat.le_trans hL (Nat.le_of_lt this)

theorem Fr.mvd {g : Heap} {L : Addr} {m : Str → Option Value} {wr : List Addr} {s s' : Shared} (F : Fr g L s.heap m) (M : Mv wr s s') (hL : L ∉ wr) (hw : ∀ b ∈ wr, g.get? b = none) : Fr g L s'.heap m := by
  refine ⟨ns_at F.ns fun o => M.keep L o hL, fun b o e => M.keep b o (fun q => ?_) (F.keep b o e), F.above⟩
  rw [hw b q] at e
  cases e
theorem News.mvd {g : Heap} {L : Addr} {news : List (Addr × Obj)} {wr : List Addr} {s s' : Shared} (N : News g L s.heap news) (M : Mv wr s s') (hw : ∀ p ∈ news, p.1 ∉ wr) : News g L s'.heap news :=
  fun p hp => ⟨M.keep _ _ (hw p hp) (N p hp).1, (N p hp).2⟩
theorem Mv.eq {wr : List Addr} {s s' : Shared} (M : Mv wr s s') : s' = { s with heap := s'.heap, toks := s'.toks } := by
  obtain ⟨h, g, d, t, o⟩ := s'
  have h1 := M.gens
  have h2 := M.os
  have h3 := M.dr
  subst h1 h2 h3
  rfl
theorem News.fr {g : Heap} {w : World} {outer : List Env} {L : Addr} {h : Heap} {news : List (Addr × Obj)} {env : Env} (G : Gd w outer g) (N : News g L h news) (hf : env.frame = some L) : ∀ p ∈ news, p.1 ∉ frs (env :: outer) := fun p hp q => by
  have q' : p.1 = L ∨ p.1 ∈ frs outer := by
    unfold frs at q
    rw [List.filterMap_cons, hf] at q
    exact List.mem_cons.mp q
  rcases q' with q | q
  · exact (N p hp).2.1 q
  · obtain ⟨e, he, hfe⟩ := List.mem_filterMap.mp q
    obtain ⟨_, L', o, _, _, h1, _, h3, _⟩ := G.fr e he
    rw [hfe] at h1
    cases h1
    rw [(N p hp).2.2] at h3
    cases h3
end
section
open PySem.Calls
local macro_rules | `(tactic| k_enter) => `(tactic|
  (refine' code_defR ?k1 ?k2 ?k3 ?k4 ?k5 ?kA ?kF ?kK ?k6 ?k7 ?k8 ?k9 ?kB ?_ ?c2 ?c3 ?c4 ?c5; (case kA => exact rfl); (case kF => exact rfl); (case kK => exact rfl); (case k1 => k_asm); (case k2 => k_asm); (case k3 => k_asm); (case k4 => k_asm); (case k5 => k_asm); (case k6 => k_is); (case k7 => k_is); (case k8 => k_room); (case k9 => first | exact BindsTo.of_eq rfl | exact binds_K (by k_in) rfl (by k_is) rfl rfl rfl | fail "k_enter: no rule for these arguments"); (case c5 => decide); (case kB => exact locs rfl); (case c2 => exact rfl); (case c3 => exact rfl); (case c4 => exact rfl); k_whole; intro g' L' h' FG' F' N' B' X' T'; (try dsimp only); (try k_lift B'); (try k_fold)))
section
open PySem PySem.W PySem.Calls PyProof.Rows
structure Io where
  k1 : Int
  k2 : Int
  k3 : Int
  t1 : Tok
  t2 : Tok
  t3 : Tok
  t4 : Tok
  t5 : Tok
noncomputable abbrev Io.dict (k : Io) (x : Str) (i : Int) (t : Tok) : Obj :=
  dictOf [⟨k.k1, .str (Str.ofString "_StringIO__newline") k.t1, .str (Str.ofString "\n") k.t4⟩, ⟨k.k2, .str (Str.ofString "_StringIO__buf") k.t2, .str x k.t5⟩, ⟨k.k3, .str (Str.ofString "_StringIO__pos") k.t3, .int i t⟩] 3

theorem read_ok {w : World} {outer : List Env} {s : Shared} {io dio : Nat} {k : Io} {x : Str} {i : Int} {t tk : Tok} {R : Result → Shared → Prop}
   (G : Gd w outer s.heap) (h1 : s.heap.get? io = some (instObj 597 dio)) (h2 : s.heap.get? dio = some (k.dict x i t)) (hne : dio < io) (hb : 815 ≤ dio) (hf1 : io ∉ frs outer) (hf2 : dio ∉ frs outer)
   (hi : 0 ≤ i) (hi2 : i < x.length) (hx : x.length ≤ 1000)
   (hQ : ∀ s' t' t'', Mv [io, dio] s s' → s'.heap.get? io = some (instObj 597 dio) → s'.heap.get? dio = some (k.dict x (i + 1) t') → R (.ok (.ret (.str ⟨#[x.cps.getD i.toNat 0]⟩ t''))) s') :
   codeAny (Mod w) (AT 500 2000 outer) (.call (.ref 543) ⟨[.ref io, .int 1 tk], []⟩) R s := by
  refine' enterP [(io, instObj 597 dio), (dio, k.dict x i t)] G ?hm ?k6 ?k7 ?k8 ?k9 ?kB ?_ ?c2 ?c3 ?c4 ?c5
  case hm => intro p hp; rcases List.mem_cons.mp hp with rfl | hp; exact ⟨h1, by show 815 ≤ io; omega, hf1⟩; rcases List.mem_cons.mp hp with rfl | hp; exact ⟨h2, hb, hf2⟩; cases hp
  (((case k6 => k_is); (case k7 => k_is); (case k8 => decide); (case k9 => first | exact BindsTo.of_eq rfl | exact binds_K (Gd.X (by assumption)) rfl (by k_is) rfl rfl rfl); (case kB => exact locs rfl); (case c2 => exact rfl); (case c3 => exact rfl); (case c4 => exact rfl); (case c5 => decide)))
  intro g L' h' lo mg mb F N B X T Bz _ Gg hLb
  replace hne := ltN hne
  (try dsimp only)
  (try k_fold)
  k_steps
  · dsimp only; (try (k_unfold; dsimp only))
    rw [beq_iff_eq.mp (slice_one_closes hi hi2)]
    exact hQ _ _ _ (Bz.mv (by assumption)) (News.get (by assumption) (by k_mem)) (News.get (by assumption) (by k_mem))
  · dsimp only; (try (k_unfold; dsimp only))
    have e : (x.length : Int) = i + 1 := by omega
    have hQ' := hQ
    rw [← e] at hQ'
    have e2 := beq_iff_eq.mp (slice_one_closes hi hi2)
    rw [← e] at e2
    rw [e2]
    exact hQ' _ _ _ (Bz.mv (by assumption)) (News.get (by assumption) (by k_mem)) (News.get (by assumption) (by k_mem))

theorem read_end {w : World} {outer : List Env} {s : Shared} {io dio : Nat} {k : Io} {x : Str} {i : Int} {t tk : Tok} {R : Result → Shared → Prop}
   (G : Gd w outer s.heap) (h1 : s.heap.get? io = some (instObj 597 dio)) (h2 : s.heap.get? dio = some (k.dict x i t)) (hne : dio < io) (hb : 815 ≤ dio) (hf1 : io ∉ frs outer) (hf2 : dio ∉ frs outer)
   (hi2 : (x.length : Int) ≤ i) (hx : x.length ≤ 1000)
   (hQ : ∀ s' t'', Mv [io, dio] s s' → s'.heap.get? io = some (instObj 597 dio) → s'.heap.get? dio = some (k.dict x i t) → R (.ok (.ret (.str (Str.ofString "") t''))) s') :
   codeAny (Mod w) (AT 500 2000 outer) (.call (.ref 543) ⟨[.ref io, .int 1 tk], []⟩) R s := by
  refine' enterP [(io, instObj 597 dio), (dio, k.dict x i t)] G ?hm ?k6 ?k7 ?k8 ?k9 ?kB ?_ ?c2 ?c3 ?c4 ?c5
  case hm => intro p hp; rcases List.mem_cons.mp hp with rfl | hp; exact ⟨h1, by show 815 ≤ io; omega, hf1⟩; rcases List.mem_cons.mp hp with rfl | hp; exact ⟨h2, hb, hf2⟩; cases hp
  (((case k6 => k_is); (case k7 => k_is); (case k8 => decide); (case k9 => first | exact BindsTo.of_eq rfl | exact binds_K (Gd.X (by assumption)) rfl (by k_is) rfl rfl rfl); (case kB => exact locs rfl); (case c2 => exact rfl); (case c3 => exact rfl); (case c4 => exact rfl); (case c5 => decide)))
  intro g L' h' lo mg mb F N B X T Bz _ Gg hLb
  replace hne := ltN hne
  (try dsimp only)
  (try k_fold)
  k_steps
  all_goals (dsimp only; (try (k_unfold; dsimp only)))
  all_goals exact hQ _ _ (Bz.mv (by assumption)) (News.get (by assumption) (by k_mem)) (News.get (by assumption) (by k_mem))

theorem read_okW {w : World} {A : Around} {env : Env} {outer : List Env} {s : Shared} {g : Heap} {L : Addr} {m : Str → Option Value} {p1 p2 : Addr × Obj} {rest : List (Addr × Obj)} {io dio : Nat} {k : Io} {x : Str} {i : Int} {t tk : Tok} {R : Result → Shared → Prop}
   (Gg : Gd w outer g) (hL : 815 ≤ L) (F : Fr g L s.heap m) (N : News g L s.heap (p1 :: p2 :: (io, instObj 597 dio) :: (dio, k.dict x i t) :: rest)) (hA : A.frames = some (env :: outer)) (hf : env.frame = some L) (hk : env.scope.kind = .function)
   (a1 : A.handled = none) (a2 : A.depth ≤ 500) (a3 : A.guards = some []) (a4 : A.units ≤ 2000)
   (hne : dio < io) (hb : 815 ≤ dio) (n1 : p1.1 < dio) (n2 : p2.1 < dio)
   (hi : 0 ≤ i) (hi2 : i < x.length) (hx : x.length ≤ 1000)
   (hQ : ∀ h' k' t' t'', Fr g L h' m → News g L h' [p1, p2, (io, instObj 597 dio), (dio, k.dict x (i + 1) t')] → R (.ok (.ret (.str ⟨#[x.cps.getD i.toNat 0]⟩ t''))) { s with heap := h', toks := k' }) :
   codeAny (Mod w) A (.call (.ref 543) ⟨[.ref io, .int 1 tk], []⟩) R s := by
  have n1 := ltN n1
  have n2 := ltN n2
  have m3 : (io, instObj 597 dio) ∈ (p1 :: p2 :: (io, instObj 597 dio) :: (dio, k.dict x i t) :: rest) := .tail _ (.tail _ (.head _))
  have m4 : (dio, k.dict x i t) ∈ (p1 :: p2 :: (io, instObj 597 dio) :: (dio, k.dict x i t) :: rest) := .tail _ (.tail _ (.tail _ (.head _)))
  have nf := News.fr Gg N hf
  refine codeAny_le (read_ok (Gg.push F hL hf hk) (N.get m3) (N.get m4) hne hb (nf _ m3) (nf _ m4) hi hi2 hx ?_) a1 a2 hA a3 a4
  intro s' t' t'' M g1 g2
  have F' := Fr.mvd F M (by
    intro q
    rcases List.mem_cons.mp q with q | q
    · exact (N _ m3).2.1 q.symm
    · exact (N _ m4).2.1 (List.mem_singleton.mp q).symm) (by
    intro b q
    rcases List.mem_cons.mp q with q | q
    · rw [q]; exact (N _ m3).2.2
    · rw [List.mem_singleton.mp q]; exact (N _ m4).2.2)
  rw [M.eq]
  refine hQ _ _ t' t'' F' ?_
  intro p hp
  rcases List.mem_cons.mp hp with rfl | hp
  · refine ⟨M.keep _ _ ?_ (N _ (.head _)).1, (N _ (.head _)).2⟩
    intro q
    rcases List.mem_cons.mp q with q | q
    · exact absurd q (Nat.ne_of_lt (Nat.lt_trans n1 hne))
    · exact absurd (List.mem_singleton.mp q) (Nat.ne_of_lt n1)
  rcases List.mem_cons.mp hp with rfl | hp
  · refine ⟨M.keep _ _ ?_ (N _ (.tail _ (.head _))).1, (N _ (.tail _ (.head _))).2⟩
    intro q
    rcases List.mem_cons.mp q with q | q
    · exact absurd q (Nat.ne_of_lt (Nat.lt_trans n2 hne))
    · exact absurd (List.mem_singleton.mp q) (Nat.ne_of_lt n2)
  rcases List.mem_cons.mp hp with rfl | hp
  · exact ⟨g1, (N _ m3).2⟩
  rcases List.mem_cons.mp hp with rfl | hp
  · exact ⟨g2, (N _ m4).2⟩
  cases hp
theorem read_endW {w : World} {A : Around} {env : Env} {outer : List Env} {s : Shared} {g : Heap} {L : Addr} {m : Str → Option Value} {p1 p2 : Addr × Obj} {rest : List (Addr × Obj)} {io dio : Nat} {k : Io} {x : Str} {i : Int} {t tk : Tok} {R : Result → Shared → Prop}
   (Gg : Gd w outer g) (hL : 815 ≤ L) (F : Fr g L s.heap m) (N : News g L s.heap (p1 :: p2 :: (io, instObj 597 dio) :: (dio, k.dict x i t) :: rest)) (hA : A.frames = some (env :: outer)) (hf : env.frame = some L) (hk : env.scope.kind = .function)
   (a1 : A.handled = none) (a2 : A.depth ≤ 500) (a3 : A.guards = some []) (a4 : A.units ≤ 2000)
   (hne : dio < io) (hb : 815 ≤ dio) (n1 : p1.1 < dio) (n2 : p2.1 < dio)
   (hi2 : (x.length : Int) ≤ i) (hx : x.length ≤ 1000)
   (hQ : ∀ h' k' t'', Fr g L h' m → News g L h' [p1, p2, (io, instObj 597 dio), (dio, k.dict x i t)] → R (.ok (.ret (.str (Str.ofString "") t''))) { s with heap := h', toks := k' }) :
   codeAny (Mod w) A (.call (.ref 543) ⟨[.ref io, .int 1 tk], []⟩) R s := by
  have n1 := ltN n1
  have n2 := ltN n2
  have m3 : (io, instObj 597 dio) ∈ (p1 :: p2 :: (io, instObj 597 dio) :: (dio, k.dict x i t) :: rest) := .tail _ (.tail _ (.head _))
  have m4 : (dio, k.dict x i t) ∈ (p1 :: p2 :: (io, instObj 597 dio) :: (dio, k.dict x i t) :: rest) := .tail _ (.tail _ (.tail _ (.head _)))
  have nf := News.fr Gg N hf
  refine codeAny_le (read_end (Gg.push F hL hf hk) (N.get m3) (N.get m4) hne hb (nf _ m3) (nf _ m4) hi2 hx ?_) a1 a2 hA a3 a4
  intro s' t'' M g1 g2
  have F' := Fr.mvd F M (by
    intro q
    rcases List.mem_cons.mp q with q | q
    · exact (N _ m3).2.1 q.symm
    · exact (N _ m4).2.1 (List.mem_singleton.mp q).symm) (by
    intro b q
    rcases List.mem_cons.mp q with q | q
    · rw [q]; exact (N _ m3).2.2
    · rw [List.mem_singleton.mp q]; exact (N _ m4).2.2)
  rw [M.eq]
  refine hQ _ _ t'' F' ?_
  intro p hp
  rcases List.mem_cons.mp hp with rfl | hp
  · refine ⟨M.keep _ _ ?_ (N _ (.head _)).1, (N _ (.head _)).2⟩
    intro q
    rcases List.mem_cons.mp q with q | q
    · exact absurd q (Nat.ne_of_lt (Nat.lt_trans n1 hne))
    · exact absurd (List.mem_singleton.mp q) (Nat.ne_of_lt n1)
  rcases List.mem_cons.mp hp with rfl | hp
  · refine ⟨M.keep _ _ ?_ (N _ (.tail _ (.head _))).1, (N _ (.tail _ (.head _))).2⟩
    intro q
    rcases List.mem_cons.mp q with q | q
    · exact absurd q (Nat.ne_of_lt (Nat.lt_trans n2 hne))
    · exact absurd (List.mem_singleton.mp q) (Nat.ne_of_lt n2)
  rcases List.mem_cons.mp hp with rfl | hp
  · exact ⟨g1, (N _ m3).2⟩
  rcases List.mem_cons.mp hp with rfl | hp
  · exact ⟨g2, (N _ m4).2⟩
  cases hp
end
section
open PySem PySem.W PySem.Calls PyProof.Rows
structure Sh where
  k : Nat → Int
  t : Nat → Tok
  io : Nat
  cm : Str
  wc : Str
  pb : Nat
  fs : Nat
  gn : Array GenState
  os : OsState
  dr : Drawn

noncomputable abbrev Sh.dict (S : Sh) (st : Value) (ln : Int) (tl : Tok) (tok : Str) (tt : Tok) : Obj :=
  dictOf [⟨S.k 0, .str (Str.ofString "instream") (S.t 0), .ref S.io⟩, ⟨S.k 1, .str (Str.ofString "infile") (S.t 1), .none⟩, ⟨S.k 2, .str (Str.ofString "posix") (S.t 2), .bool true⟩, ⟨S.k 3, .str (Str.ofString "eof") (S.t 3), .none⟩,
    ⟨S.k 4, .str (Str.ofString "commenters") (S.t 4), .str S.cm (S.t 20)⟩, ⟨S.k 5, .str (Str.ofString "wordchars") (S.t 5), .str S.wc (S.t 21)⟩, ⟨S.k 6, .str (Str.ofString "whitespace") (S.t 6), .str (Str.ofString " \t\r\n") (S.t 22)⟩,
    ⟨S.k 7, .str (Str.ofString "whitespace_split") (S.t 7), .bool true⟩, ⟨S.k 8, .str (Str.ofString "quotes") (S.t 8), .str (Str.ofString "'\"") (S.t 23)⟩, ⟨S.k 9, .str (Str.ofString "escape") (S.t 9), .str (Str.ofString "\\") (S.t 24)⟩,
    ⟨S.k 10, .str (Str.ofString "escapedquotes") (S.t 10), .str (Str.ofString "\"") (S.t 25)⟩, ⟨S.k 11, .str (Str.ofString "state") (S.t 11), st⟩, ⟨S.k 12, .str (Str.ofString "pushback") (S.t 12), .ref S.pb⟩,
    ⟨S.k 13, .str (Str.ofString "lineno") (S.t 13), .int ln tl⟩, ⟨S.k 14, .str (Str.ofString "debug") (S.t 14), .int 0 (S.t 26)⟩, ⟨S.k 15, .str (Str.ofString "token") (S.t 15), .str tok tt⟩,
    ⟨S.k 16, .str (Str.ofString "filestack") (S.t 16), .ref S.fs⟩, ⟨S.k 17, .str (Str.ofString "source") (S.t 17), .none⟩, ⟨S.k 18, .str (Str.ofString "_punctuation_chars") (S.t 18), .str (Str.ofString "") (S.t 27)⟩] 19

@[reducible] noncomputable def fdOf (o : Option Obj) : FuncData := match o with | some ⟨_, _, .func f, _⟩ => f | _ => default
@[reducible] noncomputable def bodyOf (f : FuncData) : List Stmt := match f.body with | .stmts b => b | _ => []
@[reducible] noncomputable def loopOf (l : List Stmt) : List Stmt := match l with | _ :: _ :: .While _ b _ _ :: _ => b | _ => []
@[reducible] noncomputable def take3 (l : List Stmt) : List Stmt := match l with | a :: b :: c :: _ => [a, b, c] | _ => []
@[reducible] noncomputable def drop3 (l : List Stmt) : List Stmt := match l with | _ :: _ :: _ :: r => r | _ => []
noncomputable abbrev envR (o : Option Obj) (L : Addr) : Env := envOf (fdOf o).qualname (fdOf o).scope L 700 (.ref 699)

@[reducible] noncomputable def rtm (sh : Nat) (q : Bool) (et : Str) (t : Tok) (nc : Option Value) : Str → Option Value := fun y =>
  if y = Str.ofString "nextchar" then nc else if y = Str.ofString "escapedstate" then some (.str et t) else if y = Str.ofString "quoted" then some (.bool q) else if y = Str.ofString "self" then some (.ref sh) else none


theorem Fr.cg {g h : Heap} {L : Addr} {m m' : Str → Option Value} (F : Fr g L h m) (e : ∀ y, m y = m' y) : Fr g L h m' := (funext e : m = m') ▸ F
theorem rtm_put {g h : Heap} {L : Addr} {sh : Nat} {q : Bool} {et : Str} {tq : Tok} {nc : Option Value} {v : Value} (F : Fr g L h (fun y => if y = Str.ofString "nextchar" then some v else if y = Str.ofString "nextchar" then nc else if y = Str.ofString "escapedstate" then some (.str et tq) else if y = Str.ofString "quoted" then some (.bool q) else if y = Str.ofString "self" then some (.ref sh) else none)) : Fr g L h (rtm sh q et tq (some v)) :=
  Fr.cg F fun y => by by_cases e : y = Str.ofString "nextchar" <;> simp [e, rtm]
theorem pre_ok {w : World} {outer : List Env} {s : Shared} {g : Heap} {L : Addr} {sh dsh dio : Nat} {S : Sh} {k : Io} {x : Str} {i : Int} {t tq tl tt : Tok} {st : Value} {ln : Int} {tok : Str} {q : Bool} {et : Str} {nc : Option Value} {o : Option Obj}
    {lo : List Str} {mg mb : Str → Option Value} {Q : Flow → Shared → Prop} {E : Value → Shared → Prop}
    (ho : (kk.heap_1 w.params).lookup 700 = o)
    (Gg : Gd w outer g) (hL : 815 ≤ L) (B : Below (AT 480 1900 outer) (hideAll g (frs outer)) outer g) (X : (kk.heap_1 w.params).In g) (T : TopRead vw lo mg mb g)
    (F : Fr g L s.heap (rtm sh q et tq nc))
    (N : News g L s.heap [(sh, instObj 732 dsh), (dsh, S.dict st ln tl tok tt), (S.io, instObj 597 dio), (dio, k.dict x i t)])
    (h1 : dsh < sh) (h2 : sh < dio) (h3 : dio < S.io) (h4 : 815 ≤ dio) (h5 : S.io < L)
    (hi : 0 ≤ i) (hi2 : i < x.length) (hx : x.length ≤ 1000)
    (hQ : ∀ h' tk t' t'' ln' tl', Fr g L h' (rtm sh q et tq (some (.str ⟨#[x.cps.getD i.toNat 0]⟩ t''))) → News g L h' [(sh, instObj 732 dsh), (dsh, S.dict st ln' tl' tok tt), (S.io, instObj 597 dio), (dio, k.dict x (i + 1) t')] → Q .next { s with heap := h', toks := tk }) :
    wpAny (Mod w) ((AT 480 1900 outer).deeper (envR o L)) (execs (take3 (loopOf (bodyOf (fdOf o)))) (envR o L)) Q E s := by
  rw [(by k_is : (kk.heap_1 w.params).lookup 700 = some _)] at ho
  subst ho
  dsimp only [take3, loopOf, bodyOf, fdOf, envR]
  unfold rtm at F
  (((iterate 29 walk1); refine wpAny_call ?_; refine' read_okW ?r1 ?r2 ?r3 ?r4 ?r5 ?r6 ?r7 ?r8 ?r9 ?r10 ?r11 ?r12 ?r13 ?r14 ?r15 ?r16 ?r17 ?r18 ?_; (case r5 => exact rfl); (case r3 => k_asm); (case r4 => k_asm); (case r1 => assumption); (case r2 => assumption); (case r6 => exact rfl); (case r7 => exact rfl); (case r8 => exact rfl); (case r9 => exact Nat.le_of_ble_eq_true rfl); (case r10 => exact rfl); (case r11 => exact Nat.le_of_ble_eq_true rfl); (case r12 => assumption); (case r13 => assumption); (case r14 => first | assumption | exact Nat.lt_trans (by assumption) (by assumption)); (case r15 => first | assumption | exact Nat.lt_trans (by assumption) (by assumption)); (case r16 => assumption); (case r17 => assumption); (case r18 => assumption); k_whole; intro h'_i k'_i t'_i t''_i F'_i N'_i; k_steps))
  all_goals dsimp only
  all_goals (exact hQ _ _ _ _ _ _ (rtm_put (by assumption)) (by assumption))

theorem pre_end {w : World} {outer : List Env} {s : Shared} {g : Heap} {L : Addr} {sh dsh dio : Nat} {S : Sh} {k : Io} {x : Str} {i : Int} {t tq tl tt : Tok} {st : Value} {ln : Int} {tok : Str} {q : Bool} {et : Str} {nc : Option Value} {o : Option Obj}
    {lo : List Str} {mg mb : Str → Option Value} {Q : Flow → Shared → Prop} {E : Value → Shared → Prop}
    (ho : (kk.heap_1 w.params).lookup 700 = o)
    (Gg : Gd w outer g) (hL : 815 ≤ L) (B : Below (AT 480 1900 outer) (hideAll g (frs outer)) outer g) (X : (kk.heap_1 w.params).In g) (T : TopRead vw lo mg mb g)
    (F : Fr g L s.heap (rtm sh q et tq nc))
    (N : News g L s.heap [(sh, instObj 732 dsh), (dsh, S.dict st ln tl tok tt), (S.io, instObj 597 dio), (dio, k.dict x i t)])
    (h1 : dsh < sh) (h2 : sh < dio) (h3 : dio < S.io) (h4 : 815 ≤ dio) (h5 : S.io < L)
    (hi2 : (x.length : Int) ≤ i) (hx : x.length ≤ 1000)
    (hQ : ∀ h' tk t'', Fr g L h' (rtm sh q et tq (some (.str (Str.ofString "") t''))) → News g L h' [(sh, instObj 732 dsh), (dsh, S.dict st ln tl tok tt), (S.io, instObj 597 dio), (dio, k.dict x i t)] → Q .next { s with heap := h', toks := tk }) :
    wpAny (Mod w) ((AT 480 1900 outer).deeper (envR o L)) (execs (take3 (loopOf (bodyOf (fdOf o)))) (envR o L)) Q E s := by
  rw [(by k_is : (kk.heap_1 w.params).lookup 700 = some _)] at ho
  subst ho
  dsimp only [take3, loopOf, bodyOf, fdOf, envR]
  unfold rtm at F
  (((iterate 29 walk1); refine wpAny_call ?_; refine' read_endW ?r1 ?r2 ?r3 ?r4 ?r5 ?r6 ?r7 ?r8 ?r9 ?r10 ?r11 ?r12 ?r13 ?r14 ?r15 ?r16 ?r17 ?_; (case r5 => exact rfl); (case r3 => k_asm); (case r4 => k_asm); (case r1 => assumption); (case r2 => assumption); (case r6 => exact rfl); (case r7 => exact rfl); (case r8 => exact rfl); (case r9 => exact Nat.le_of_ble_eq_true rfl); (case r10 => exact rfl); (case r11 => exact Nat.le_of_ble_eq_true rfl); (case r12 => assumption); (case r13 => assumption); (case r14 => first | assumption | exact Nat.lt_trans (by assumption) (by assumption)); (case r15 => first | assumption | exact Nat.lt_trans (by assumption) (by assumption)); (case r16 => assumption); (case r17 => assumption); k_whole; intro h'_i k'_i t''_i F'_i N'_i; k_steps))
  all_goals dsimp only
  all_goals (exact hQ _ _ _ (rtm_put (by assumption)) (by assumption))
end
section
open PySem PySem.W PySem.Calls PyProof.Rows
@[reducible] noncomputable def stV : Option Str → Tok → Value
  | none, _ => .none
  | some x, t => .str x t

structure Cx (w : World) (g : Heap) (L : Addr) (sh dsh : Nat) (ex : List (Addr × Obj)) (env : Env) : Prop where
  X : (kk.heap_1 w.params).In g
  he : ∃ cn cs a ccd cl, env = envX cn cs L a ccd cl ∧ cs.kind = .function
  k1 : env.kindOf (Str.ofString "self") = some .local
  k2 : env.kindOf (Str.ofString "nextchar") = some .local
  k3 : env.kindOf (Str.ofString "quoted") = some .local
  k4 : env.kindOf (Str.ofString "escapedstate") = some .local
  ne : sh ≠ dsh
  nex : ∀ p ∈ ex, p.1 ≠ dsh

structure RT (g : Heap) (L : Addr) (sh dsh : Nat) (S : Sh) (ex : List (Addr × Obj)) (st : Option Str) (tok nc : Str) (q : Bool) (s : Shared) : Prop where
  ex : ∃ (tq tc tl tt ts : Tok) (ln : Int) (et : Str), Fr g L s.heap (rtm sh q et tq (some (.str nc tc))) ∧ News g L s.heap ((sh, instObj 732 dsh) :: (dsh, S.dict (stV st ts) ln tl tok tt) :: ex)
  sm : s.gens = S.gn ∧ s.os = S.os ∧ s.drawn = S.dr

theorem RT.toks {g : Heap} {L : Addr} {sh dsh : Nat} {S : Sh} {ex : List (Addr × Obj)} {st : Option Str} {tok nc : Str} {q : Bool} {s : Shared} (R : RT g L sh dsh S ex st tok nc q s) (k : Nat) : RT g L sh dsh S ex st tok nc q { s with toks := k } := ⟨R.ex, R.sm⟩

section
variable {w : World} {g : Heap} {L : Addr} {sh dsh : Nat} {S : Sh} {ex : List (Addr × Obj)} {env : Env} {st : Option Str} {tok nc : Str} {q : Bool} {s : Shared} {A : Around} {E : Value → Shared → Prop}

theorem a_self {Q : Value → Shared → Prop} {p : Pos} (C : Cx w g L sh dsh ex env) (R : RT g L sh dsh S ex st tok nc q s) (h : Q (.ref sh) s) : wpAny (Mod w) A (eval (.Name (Str.ofString "self") p) env) Q E s := by
  obtain ⟨tq, tc, tl, tt, ts, ln, et, F, N⟩ := R.ex
  obtain ⟨cn, cs, a, ccd, cl, rfl, hk⟩ := C.he
  exact nameX_L F (by kernel_rfl) h hk C.k1 (by kernel_rfl)
theorem a_nc {Q : Value → Shared → Prop} {p : Pos} (C : Cx w g L sh dsh ex env) (R : RT g L sh dsh S ex st tok nc q s) (h : ∀ t, Q (.str nc t) s) : wpAny (Mod w) A (eval (.Name (Str.ofString "nextchar") p) env) Q E s := by
  obtain ⟨tq, tc, tl, tt, ts, ln, et, F, N⟩ := R.ex
  obtain ⟨cn, cs, a, ccd, cl, rfl, hk⟩ := C.he
  exact nameX_L F (by kernel_rfl) (h tc) hk C.k2 (by kernel_rfl)
theorem a_qd {Q : Value → Shared → Prop} {p : Pos} (C : Cx w g L sh dsh ex env) (R : RT g L sh dsh S ex st tok nc q s) (h : Q (.bool q) s) : wpAny (Mod w) A (eval (.Name (Str.ofString "quoted") p) env) Q E s := by
  obtain ⟨tq, tc, tl, tt, ts, ln, et, F, N⟩ := R.ex
  obtain ⟨cn, cs, a, ccd, cl, rfl, hk⟩ := C.he
  exact nameX_L F (by kernel_rfl) h hk C.k3 (by kernel_rfl)
noncomputable def ownK (P : Params) (C : Addr) (x : Str) : Bool := plainGet (kk.heap_1 P) C x && hasDictIn (kk.heap_1 P) C && (match findIn (kk.heap_1 P) (.ref C) x with | some a => noGet (kk.heap_1 P) a | none => false)
theorem get_ownK {m : Str → Option Value} {x C : Addr} {ox : Obj} {es : List DictEntry} {n : Nat} {name : Str} {v : Value} {expr : Bool} {Q : Value → Shared → Prop} (F : Fr g L s.heap m) (X : (kk.heap_1 w.params).In g) (I : W.InstAt s.heap x ox C (some (dictOf es n)))
    (ho : ownK w.params C name = true) (hg : getL name es = some (some v)) (hh : handedIn v = true) (h : Q v { s with toks := s.toks + 1 }) : wpAny (Mod w) A (getAttr (.ref x) name expr) Q E s := by
  unfold ownK at ho
  rw [Bool.and_eq_true, Bool.and_eq_true] at ho
  obtain ⟨⟨h1, h2⟩, h3⟩ := ho
  cases hf : findIn (kk.heap_1 w.params) (.ref C) name with
  | none => rw [hf] at h3; cases h3
  | some a => rw [hf] at h3; exact get_own F X I h1 h2 hf h3 hg hh h
theorem attrN {M : Model} {x attr : Str} {xp pos : Pos} {Q : Value → Shared → Prop} (h : wpAny M A (eval (.Name x xp) env) (fun o s₁ => wpAny M A (getAttr o attr true) Q E s₁) E s) : wpAny M A (eval ((Expr.Name x xp).Attribute attr pos) env) Q E s := Attribute_Name_ h
theorem own_whitespace (P : Params) : ownK P 732 (Str.ofString "whitespace") = true := by kernel_rfl
theorem a_whitespace {Q : Value → Shared → Prop} {p p' : Pos} (C : Cx w g L sh dsh ex env) (R : RT g L sh dsh S ex st tok nc q s) (h : ∀ s', RT g L sh dsh S ex st tok nc q s' → ∀ t, Q (.str (Str.ofString " \t\r\n") t) s') : wpAny (Mod w) A (eval ((Expr.Name (Str.ofString "self") p).Attribute (Str.ofString "whitespace") p') env) Q E s := by
  refine attrN (a_self C R ?_)
  obtain ⟨tq, tc, tl, tt, ts, ln, et, F, N⟩ := R.ex
  refine get_ownK (v := .str (Str.ofString " \t\r\n") (S.t 22)) F C.X (InstAt.of_news N (.head _) (.tail _ (.head _))) (own_whitespace _) (by kernel_rfl) rfl ?_
  exact h _ (R.toks _) _
theorem own_commenters (P : Params) : ownK P 732 (Str.ofString "commenters") = true := by kernel_rfl
theorem a_commenters {Q : Value → Shared → Prop} {p p' : Pos} (C : Cx w g L sh dsh ex env) (R : RT g L sh dsh S ex st tok nc q s) (h : ∀ s', RT g L sh dsh S ex st tok nc q s' → ∀ t, Q (.str S.cm t) s') : wpAny (Mod w) A (eval ((Expr.Name (Str.ofString "self") p).Attribute (Str.ofString "commenters") p') env) Q E s := by
  refine attrN (a_self C R ?_)
  obtain ⟨tq, tc, tl, tt, ts, ln, et, F, N⟩ := R.ex
  refine get_ownK (v := .str S.cm (S.t 20)) F C.X (InstAt.of_news N (.head _) (.tail _ (.head _))) (own_commenters _) (by kernel_rfl) rfl ?_
  exact h _ (R.toks _) _
theorem own_wordchars (P : Params) : ownK P 732 (Str.ofString "wordchars") = true := by kernel_rfl
theorem a_wordchars {Q : Value → Shared → Prop} {p p' : Pos} (C : Cx w g L sh dsh ex env) (R : RT g L sh dsh S ex st tok nc q s) (h : ∀ s', RT g L sh dsh S ex st tok nc q s' → ∀ t, Q (.str S.wc t) s') : wpAny (Mod w) A (eval ((Expr.Name (Str.ofString "self") p).Attribute (Str.ofString "wordchars") p') env) Q E s := by
  refine attrN (a_self C R ?_)
  obtain ⟨tq, tc, tl, tt, ts, ln, et, F, N⟩ := R.ex
  refine get_ownK (v := .str S.wc (S.t 21)) F C.X (InstAt.of_news N (.head _) (.tail _ (.head _))) (own_wordchars _) (by kernel_rfl) rfl ?_
  exact h _ (R.toks _) _
theorem own_quotes (P : Params) : ownK P 732 (Str.ofString "quotes") = true := by kernel_rfl
theorem a_quotes {Q : Value → Shared → Prop} {p p' : Pos} (C : Cx w g L sh dsh ex env) (R : RT g L sh dsh S ex st tok nc q s) (h : ∀ s', RT g L sh dsh S ex st tok nc q s' → ∀ t, Q (.str (Str.ofString "'\"") t) s') : wpAny (Mod w) A (eval ((Expr.Name (Str.ofString "self") p).Attribute (Str.ofString "quotes") p') env) Q E s := by
  refine attrN (a_self C R ?_)
  obtain ⟨tq, tc, tl, tt, ts, ln, et, F, N⟩ := R.ex
  refine get_ownK (v := .str (Str.ofString "'\"") (S.t 23)) F C.X (InstAt.of_news N (.head _) (.tail _ (.head _))) (own_quotes _) (by kernel_rfl) rfl ?_
  exact h _ (R.toks _) _
theorem own_escape (P : Params) : ownK P 732 (Str.ofString "escape") = true := by kernel_rfl
theorem a_escape {Q : Value → Shared → Prop} {p p' : Pos} (C : Cx w g L sh dsh ex env) (R : RT g L sh dsh S ex st tok nc q s) (h : ∀ s', RT g L sh dsh S ex st tok nc q s' → ∀ t, Q (.str (Str.ofString "\\") t) s') : wpAny (Mod w) A (eval ((Expr.Name (Str.ofString "self") p).Attribute (Str.ofString "escape") p') env) Q E s := by
  refine attrN (a_self C R ?_)
  obtain ⟨tq, tc, tl, tt, ts, ln, et, F, N⟩ := R.ex
  refine get_ownK (v := .str (Str.ofString "\\") (S.t 24)) F C.X (InstAt.of_news N (.head _) (.tail _ (.head _))) (own_escape _) (by kernel_rfl) rfl ?_
  exact h _ (R.toks _) _
theorem own_escapedquotes (P : Params) : ownK P 732 (Str.ofString "escapedquotes") = true := by kernel_rfl
theorem a_escapedquotes {Q : Value → Shared → Prop} {p p' : Pos} (C : Cx w g L sh dsh ex env) (R : RT g L sh dsh S ex st tok nc q s) (h : ∀ s', RT g L sh dsh S ex st tok nc q s' → ∀ t, Q (.str (Str.ofString "\"") t) s') : wpAny (Mod w) A (eval ((Expr.Name (Str.ofString "self") p).Attribute (Str.ofString "escapedquotes") p') env) Q E s := by
  refine attrN (a_self C R ?_)
  obtain ⟨tq, tc, tl, tt, ts, ln, et, F, N⟩ := R.ex
  refine get_ownK (v := .str (Str.ofString "\"") (S.t 25)) F C.X (InstAt.of_news N (.head _) (.tail _ (.head _))) (own_escapedquotes _) (by kernel_rfl) rfl ?_
  exact h _ (R.toks _) _
theorem own_posix (P : Params) : ownK P 732 (Str.ofString "posix") = true := by kernel_rfl
theorem a_posix {Q : Value → Shared → Prop} {p p' : Pos} (C : Cx w g L sh dsh ex env) (R : RT g L sh dsh S ex st tok nc q s) (h : ∀ s', RT g L sh dsh S ex st tok nc q s' → Q (.bool true) s') : wpAny (Mod w) A (eval ((Expr.Name (Str.ofString "self") p).Attribute (Str.ofString "posix") p') env) Q E s := by
  refine attrN (a_self C R ?_)
  obtain ⟨tq, tc, tl, tt, ts, ln, et, F, N⟩ := R.ex
  refine get_ownK (v := .bool true) F C.X (InstAt.of_news N (.head _) (.tail _ (.head _))) (own_posix _) (by kernel_rfl) rfl ?_
  exact h _ (R.toks _)
theorem own_whitespace_split (P : Params) : ownK P 732 (Str.ofString "whitespace_split") = true := by kernel_rfl
theorem a_whitespace_split {Q : Value → Shared → Prop} {p p' : Pos} (C : Cx w g L sh dsh ex env) (R : RT g L sh dsh S ex st tok nc q s) (h : ∀ s', RT g L sh dsh S ex st tok nc q s' → Q (.bool true) s') : wpAny (Mod w) A (eval ((Expr.Name (Str.ofString "self") p).Attribute (Str.ofString "whitespace_split") p') env) Q E s := by
  refine attrN (a_self C R ?_)
  obtain ⟨tq, tc, tl, tt, ts, ln, et, F, N⟩ := R.ex
  refine get_ownK (v := .bool true) F C.X (InstAt.of_news N (.head _) (.tail _ (.head _))) (own_whitespace_split _) (by kernel_rfl) rfl ?_
  exact h _ (R.toks _)
theorem own_debug (P : Params) : ownK P 732 (Str.ofString "debug") = true := by kernel_rfl
theorem a_debug {Q : Value → Shared → Prop} {p p' : Pos} (C : Cx w g L sh dsh ex env) (R : RT g L sh dsh S ex st tok nc q s) (h : ∀ s', RT g L sh dsh S ex st tok nc q s' → ∀ t, Q (.int 0 t) s') : wpAny (Mod w) A (eval ((Expr.Name (Str.ofString "self") p).Attribute (Str.ofString "debug") p') env) Q E s := by
  refine attrN (a_self C R ?_)
  obtain ⟨tq, tc, tl, tt, ts, ln, et, F, N⟩ := R.ex
  refine get_ownK (v := .int 0 (S.t 26)) F C.X (InstAt.of_news N (.head _) (.tail _ (.head _))) (own_debug _) (by kernel_rfl) rfl ?_
  exact h _ (R.toks _) _
theorem own_state (P : Params) : ownK P 732 (Str.ofString "state") = true := by kernel_rfl
theorem a_state {Q : Value → Shared → Prop} {p p' : Pos} (C : Cx w g L sh dsh ex env) (R : RT g L sh dsh S ex st tok nc q s) (h : ∀ s', RT g L sh dsh S ex st tok nc q s' → ∀ t, Q (stV st t) s') : wpAny (Mod w) A (eval ((Expr.Name (Str.ofString "self") p).Attribute (Str.ofString "state") p') env) Q E s := by
  refine attrN (a_self C R ?_)
  obtain ⟨tq, tc, tl, tt, ts, ln, et, F, N⟩ := R.ex
  refine get_ownK (v := stV st ts) F C.X (InstAt.of_news N (.head _) (.tail _ (.head _))) (own_state _) (by kernel_rfl) (by cases st <;> rfl) ?_
  exact h _ (R.toks _) _
theorem own_token (P : Params) : ownK P 732 (Str.ofString "token") = true := by kernel_rfl
theorem a_token {Q : Value → Shared → Prop} {p p' : Pos} (C : Cx w g L sh dsh ex env) (R : RT g L sh dsh S ex st tok nc q s) (h : ∀ s', RT g L sh dsh S ex st tok nc q s' → ∀ t, Q (.str tok t) s') : wpAny (Mod w) A (eval ((Expr.Name (Str.ofString "self") p).Attribute (Str.ofString "token") p') env) Q E s := by
  refine attrN (a_self C R ?_)
  obtain ⟨tq, tc, tl, tt, ts, ln, et, F, N⟩ := R.ex
  refine get_ownK (v := .str tok tt) F C.X (InstAt.of_news N (.head _) (.tail _ (.head _))) (own_token _) (by kernel_rfl) rfl ?_
  exact h _ (R.toks _) _
end
end
section
open PySem PySem.W PySem.Calls PyProof.Rows
noncomputable abbrev sSelf (p : Pos) : Expr := Expr.Name (Str.ofString "self") p
noncomputable abbrev sNc (p : Pos) : Expr := Expr.Name (Str.ofString "nextchar") p
noncomputable def inS (y x : Str) : Bool := !(Builtin.Str.occurrences y x 0 y.length 1).isEmpty
section
variable {w : World} {g : Heap} {L : Addr} {sh dsh : Nat} {S : Sh} {ex : List (Addr × Obj)} {env : Env} {st : Option Str} {tok nc x : Str} {q : Bool} {s : Shared} {A : Around} {E : Value → Shared → Prop} {p1 p2 p3 p4 p5 p6 : Pos}
theorem t_state_none {Q : Bool → Shared → Prop} {whole : Sem Value} (C : Cx w g L sh dsh ex env) (R : RT g L sh dsh S ex none tok nc q s) (h : ∀ s', RT g L sh dsh S ex none tok nc q s' → Q true s') {k : Nat} : wpAny (Mod w) A (PySem.isTrue (Expr.Compare (Expr.Attribute (sSelf p1) (Str.ofString "state") p2) [.Is] [Expr.Constant Const.none k p3] p4) env whole) Q E s := by
  refine wpAny_isTrue_Compare1 (a_state C R fun s' R' t => wpAny_Constant_none ?_)
  exact is_none_none (wpAny_truthy_bool (h _ R'))
theorem t_state_some {Q : Bool → Shared → Prop} {whole : Sem Value} (C : Cx w g L sh dsh ex env) (R : RT g L sh dsh S ex (some x) tok nc q s) (h : ∀ s', RT g L sh dsh S ex (some x) tok nc q s' → Q false s') {k : Nat} : wpAny (Mod w) A (PySem.isTrue (Expr.Compare (Expr.Attribute (sSelf p1) (Str.ofString "state") p2) [.Is] [Expr.Constant Const.none k p3] p4) env whole) Q E s := by
  refine wpAny_isTrue_Compare1 (a_state C R fun s' R' t => wpAny_Constant_none ?_)
  exact is_str_none (wpAny_truthy_bool (h _ R'))
theorem t_state_eq {Q : Bool → Shared → Prop} {whole : Sem Value} {c : Str} (b : Bool) (C : Cx w g L sh dsh ex env) (R : RT g L sh dsh S ex (some x) tok nc q s) (hb : (x == c) = b) (h : ∀ s', RT g L sh dsh S ex (some x) tok nc q s' → Q b s') {k : Nat} : wpAny (Mod w) A (PySem.isTrue (Expr.Compare (Expr.Attribute (sSelf p1) (Str.ofString "state") p2) [.Eq] [Expr.Constant (Const.str c) k p3] p4) env whole) Q E s := by
  refine wpAny_isTrue_Compare1 (a_state C R fun s' R' t => Constant_str ?_)
  refine eq_str (wpAny_truthy_bool ?_)
  rw [hb]
  exact h _ (R'.toks _)
theorem t_not_nc {Q : Bool → Shared → Prop} {whole : Sem Value} (b : Bool) (C : Cx w g L sh dsh ex env) (R : RT g L sh dsh S ex st tok nc q s) (hb : decide (nc.length = 0) = b) (hl : nc.length ≤ 16777216) (h : ∀ s', RT g L sh dsh S ex st tok nc q s' → Q b s') : wpAny (Mod w) A (PySem.isTrue (Expr.UnaryOp .Not (sNc p1) p2) env whole) Q E s := by
  refine isTrue_not (isTrue_plain (a_nc C R fun t => ?_))
  refine KXt.truthy (b := !b) ?_ hl (fun k => ?_)
  · rw [← hb]
    by_cases z : nc.length = 0
    · rw [z]; rfl
    · rw [decide_eq_false z]
      simp only [bne_iff_ne, ne_eq, Bool.not_false]
      omega
  · rw [Bool.not_not]; exact h _ (R.toks _)
theorem t_nc_state {Q : Bool → Shared → Prop} {whole : Sem Value} (b : Bool) (C : Cx w g L sh dsh ex env) (R : RT g L sh dsh S ex (some x) tok nc q s) (hb : (nc == x) = b) (h : ∀ s', RT g L sh dsh S ex (some x) tok nc q s' → Q b s') : wpAny (Mod w) A (PySem.isTrue (Expr.Compare (sNc p1) [.Eq] [Expr.Attribute (sSelf p2) (Str.ofString "state") p3] p4) env whole) Q E s := by
  refine wpAny_isTrue_Compare1 (a_nc C R fun t => a_state C R fun s' R' u => ?_)
  refine eq_str (wpAny_truthy_bool ?_)
  rw [hb]
  exact h _ R'
theorem t_true_posix {Q : Bool → Shared → Prop} (C : Cx w g L sh dsh ex env) (R : RT g L sh dsh S ex st tok nc q s) (h : ∀ s', RT g L sh dsh S ex st tok nc q s' → Q true s') : wpAny (Mod w) A (PySem.isTrue (Expr.Attribute (sSelf p1) (Str.ofString "posix") p2) env (eval (Expr.Attribute (sSelf p1) (Str.ofString "posix") p2) env)) Q E s :=
  isTrue_plain (a_posix C R fun s' R' => wpAny_truthy_bool (h _ R'))
theorem t_true_split {Q : Bool → Shared → Prop} (C : Cx w g L sh dsh ex env) (R : RT g L sh dsh S ex st tok nc q s) (h : ∀ s', RT g L sh dsh S ex st tok nc q s' → Q true s') : wpAny (Mod w) A (PySem.isTrue (Expr.Attribute (sSelf p1) (Str.ofString "whitespace_split") p2) env (eval (Expr.Attribute (sSelf p1) (Str.ofString "whitespace_split") p2) env)) Q E s :=
  isTrue_plain (a_whitespace_split C R fun s' R' => wpAny_truthy_bool (h _ R'))
theorem t_quoted {Q : Bool → Shared → Prop} (C : Cx w g L sh dsh ex env) (R : RT g L sh dsh S ex st tok nc q s) (h : Q q s) : wpAny (Mod w) A (PySem.isTrue (Expr.Name (Str.ofString "quoted") p1) env (eval (Expr.Name (Str.ofString "quoted") p1) env)) Q E s :=
  isTrue_plain (a_qd C R (wpAny_truthy_bool h))
theorem t_token {Q : Bool → Shared → Prop} (b : Bool) (C : Cx w g L sh dsh ex env) (R : RT g L sh dsh S ex st tok nc q s) (hb : (!decide (tok.length = 0)) = b) (hl : tok.length ≤ 16777216) (h : ∀ s', RT g L sh dsh S ex st tok nc q s' → Q b s') : wpAny (Mod w) A (PySem.isTrue (Expr.Attribute (sSelf p1) (Str.ofString "token") p2) env (eval (Expr.Attribute (sSelf p1) (Str.ofString "token") p2) env)) Q E s := by
  refine isTrue_plain (a_token C R fun s' R' t => ?_)
  refine KXt.truthy (b := b) ?_ hl (fun k => h _ (R'.toks _))
  rw [← hb]
  by_cases z : tok.length = 0
  · rw [z]; rfl
  · rw [decide_eq_false z]
    simp only [bne_iff_ne, ne_eq, Bool.not_false]
    omega
theorem t_debug {Q : Bool → Shared → Prop} {whole : Sem Value} {n : Int} (b : Bool) (C : Cx w g L sh dsh ex env) (R : RT g L sh dsh S ex st tok nc q s) (hb : decide (n ≤ 0) = b) (h : ∀ s', RT g L sh dsh S ex st tok nc q s' → Q b s') {k : Nat} : wpAny (Mod w) A (PySem.isTrue (Expr.Compare (Expr.Attribute (sSelf p1) (Str.ofString "debug") p2) [.GtE] [Expr.Constant (Const.int n) k p3] p4) env whole) Q E s := by
  refine wpAny_isTrue_Compare1 (a_debug C R fun s' R' t => wpAny_Constant_int ?_)
  refine ge_int (wpAny_truthy_bool ?_)
  rw [hb]
  exact h _ (R'.toks _)
theorem t_state_tup {Q : Bool → Shared → Prop} {whole : Sem Value} {c d : Str} (b : Bool) (C : Cx w g L sh dsh ex env) (R : RT g L sh dsh S ex (some x) tok nc q s) (hb : ([c, d].any (· == x)) = b) (h : ∀ s', RT g L sh dsh S ex (some x) tok nc q s' → Q b s') {k k2 k3 : Nat} :
    wpAny (Mod w) A (PySem.isTrue (Expr.Compare (Expr.Attribute (sSelf p1) (Str.ofString "state") p2) [.In] [Expr.Tuple [Expr.Constant (Const.str c) k p3, Expr.Constant (Const.str d) k2 p4] k3 p5] p6) env whole) Q E s := by
  refine wpAny_isTrue_Compare1 (a_state C R fun s' R' t => Tuple_ (args_cons (Constant_str (args_cons (Constant_str (args_nil ?_))))))
  obtain ⟨tq, tc, tl, tt, ts, ln, et, F, N⟩ := R'.ex
  refine kup_newTuple F N (fun D h' F' N' _ => ?_) (Nat.le_of_ble_eq_true rfl)
  refine in_tuple_strs (ys := [c, d]) (News.isTup N' (.head _)) ?_ (wpAny_truthy_bool ?_)
  · exact StrsAre.cons _ _ (StrsAre.cons _ _ StrsAre.nil)
  · rw [hb]
    exact h _ ⟨⟨tq, tc, tl, tt, ts, ln, et, F', fun p hp => N' p (.tail _ hp)⟩, R'.sm⟩
theorem t_nc_whitespace {Q : Bool → Shared → Prop} {whole : Sem Value} (b : Bool) (C : Cx w g L sh dsh ex env) (R : RT g L sh dsh S ex st tok nc q s) (hb : inS (Str.ofString " \t\r\n") nc = b) (h : ∀ s', RT g L sh dsh S ex st tok nc q s' → Q b s') : wpAny (Mod w) A (PySem.isTrue (Expr.Compare (sNc p1) [.In] [Expr.Attribute (sSelf p2) (Str.ofString "whitespace") p3] p4) env whole) Q E s := by
  refine wpAny_isTrue_Compare1 (a_nc C R fun t => a_whitespace C R fun s' R' u => ?_)
  refine in_str (wpAny_truthy_bool ?_)
  unfold inS at hb
  rw [hb]
  exact h _ R'
theorem t_nc_commenters {Q : Bool → Shared → Prop} {whole : Sem Value} (b : Bool) (C : Cx w g L sh dsh ex env) (R : RT g L sh dsh S ex st tok nc q s) (hb : inS S.cm nc = b) (h : ∀ s', RT g L sh dsh S ex st tok nc q s' → Q b s') : wpAny (Mod w) A (PySem.isTrue (Expr.Compare (sNc p1) [.In] [Expr.Attribute (sSelf p2) (Str.ofString "commenters") p3] p4) env whole) Q E s := by
  refine wpAny_isTrue_Compare1 (a_nc C R fun t => a_commenters C R fun s' R' u => ?_)
  refine in_str (wpAny_truthy_bool ?_)
  unfold inS at hb
  rw [hb]
  exact h _ R'
theorem t_nc_wordchars {Q : Bool → Shared → Prop} {whole : Sem Value} (b : Bool) (C : Cx w g L sh dsh ex env) (R : RT g L sh dsh S ex st tok nc q s) (hb : inS S.wc nc = b) (h : ∀ s', RT g L sh dsh S ex st tok nc q s' → Q b s') : wpAny (Mod w) A (PySem.isTrue (Expr.Compare (sNc p1) [.In] [Expr.Attribute (sSelf p2) (Str.ofString "wordchars") p3] p4) env whole) Q E s := by
  refine wpAny_isTrue_Compare1 (a_nc C R fun t => a_wordchars C R fun s' R' u => ?_)
  refine in_str (wpAny_truthy_bool ?_)
  unfold inS at hb
  rw [hb]
  exact h _ R'
theorem t_nc_quotes {Q : Bool → Shared → Prop} {whole : Sem Value} (b : Bool) (C : Cx w g L sh dsh ex env) (R : RT g L sh dsh S ex st tok nc q s) (hb : inS (Str.ofString "'\"") nc = b) (h : ∀ s', RT g L sh dsh S ex st tok nc q s' → Q b s') : wpAny (Mod w) A (PySem.isTrue (Expr.Compare (sNc p1) [.In] [Expr.Attribute (sSelf p2) (Str.ofString "quotes") p3] p4) env whole) Q E s := by
  refine wpAny_isTrue_Compare1 (a_nc C R fun t => a_quotes C R fun s' R' u => ?_)
  refine in_str (wpAny_truthy_bool ?_)
  unfold inS at hb
  rw [hb]
  exact h _ R'
theorem t_nc_escape {Q : Bool → Shared → Prop} {whole : Sem Value} (b : Bool) (C : Cx w g L sh dsh ex env) (R : RT g L sh dsh S ex st tok nc q s) (hb : inS (Str.ofString "\\") nc = b) (h : ∀ s', RT g L sh dsh S ex st tok nc q s' → Q b s') : wpAny (Mod w) A (PySem.isTrue (Expr.Compare (sNc p1) [.In] [Expr.Attribute (sSelf p2) (Str.ofString "escape") p3] p4) env whole) Q E s := by
  refine wpAny_isTrue_Compare1 (a_nc C R fun t => a_escape C R fun s' R' u => ?_)
  refine in_str (wpAny_truthy_bool ?_)
  unfold inS at hb
  rw [hb]
  exact h _ R'
theorem t_st_quotes {Q : Bool → Shared → Prop} {whole : Sem Value} (b : Bool) (C : Cx w g L sh dsh ex env) (R : RT g L sh dsh S ex (some x) tok nc q s) (hb : inS (Str.ofString "'\"") x = b) (h : ∀ s', RT g L sh dsh S ex (some x) tok nc q s' → Q b s') : wpAny (Mod w) A (PySem.isTrue (Expr.Compare (Expr.Attribute (sSelf p1) (Str.ofString "state") p2) [.In] [Expr.Attribute (sSelf p3) (Str.ofString "quotes") p4] p5) env whole) Q E s := by
  refine wpAny_isTrue_Compare1 (a_state C R fun s' R' t => a_quotes C R' fun s' R' u => ?_)
  refine in_str (wpAny_truthy_bool ?_)
  unfold inS at hb
  rw [hb]
  exact h _ R'
theorem t_st_escape {Q : Bool → Shared → Prop} {whole : Sem Value} (b : Bool) (C : Cx w g L sh dsh ex env) (R : RT g L sh dsh S ex (some x) tok nc q s) (hb : inS (Str.ofString "\\") x = b) (h : ∀ s', RT g L sh dsh S ex (some x) tok nc q s' → Q b s') : wpAny (Mod w) A (PySem.isTrue (Expr.Compare (Expr.Attribute (sSelf p1) (Str.ofString "state") p2) [.In] [Expr.Attribute (sSelf p3) (Str.ofString "escape") p4] p5) env whole) Q E s := by
  refine wpAny_isTrue_Compare1 (a_state C R fun s' R' t => a_escape C R' fun s' R' u => ?_)
  refine in_str (wpAny_truthy_bool ?_)
  unfold inS at hb
  rw [hb]
  exact h _ R'
theorem t_st_escapedquotes {Q : Bool → Shared → Prop} {whole : Sem Value} (b : Bool) (C : Cx w g L sh dsh ex env) (R : RT g L sh dsh S ex (some x) tok nc q s) (hb : inS (Str.ofString "\"") x = b) (h : ∀ s', RT g L sh dsh S ex (some x) tok nc q s' → Q b s') : wpAny (Mod w) A (PySem.isTrue (Expr.Compare (Expr.Attribute (sSelf p1) (Str.ofString "state") p2) [.In] [Expr.Attribute (sSelf p3) (Str.ofString "escapedquotes") p4] p5) env whole) Q E s := by
  refine wpAny_isTrue_Compare1 (a_state C R fun s' R' t => a_escapedquotes C R' fun s' R' u => ?_)
  refine in_str (wpAny_truthy_bool ?_)
  unfold inS at hb
  rw [hb]
  exact h _ R'
theorem sets (P : Params) : (findIn (kk.heap_1 P) (.ref 732) (Str.ofString "__setattr__") == some (some (Value.builtin "object.__setattr__")) && plainOver (kk.heap_1 P) 732 && hasDictIn (kk.heap_1 P) 732 && takerIn (kk.heap_1 P) 732 (Str.ofString "state") == some none && takerIn (kk.heap_1 P) 732 (Str.ofString "token") == some none) = true := by kernel_rfl
theorem set_state {Q : Unit → Shared → Prop} {v : Value} (C : Cx w g L sh dsh ex env) (R : RT g L sh dsh S ex st tok nc q s) (st' : Option Str) (hv : ∃ t, v = stV st' t) (h : ∀ s', RT g L sh dsh S ex st' tok nc q s' → Q () s') : wpAny (Mod w) A (setAttr (.ref sh) (Str.ofString "state") v) Q E s := by
  obtain ⟨ts', rfl⟩ := hv
  obtain ⟨tq, tc, tl, tt, ts, ln, et, F, N⟩ := R.ex
  have z := sets w.params
  simp only [Bool.and_eq_true, beq_iff_eq] at z
  obtain ⟨⟨⟨⟨z1, z2⟩, z3⟩, z4⟩, z5⟩ := z
  refine set_dict (news' := (sh, instObj 732 dsh) :: (dsh, S.dict (stV st' ts') ln tl tok tt) :: ex) F C.X N (InstAt.of_news N (.head _) (.tail _ (.head _))) rfl z1 z2 z4 z3 (by kernel_rfl) (by kernel_rfl) (.tail C.ne (.head C.nex)) (Nat.le_of_ble_eq_true rfl) (fun h' F' N' => ?_)
  exact h _ ⟨⟨tq, tc, tl, tt, ts', ln, et, F', N'⟩, R.sm⟩
theorem set_token {Q : Unit → Shared → Prop} {v : Value} (C : Cx w g L sh dsh ex env) (R : RT g L sh dsh S ex st tok nc q s) (tok' : Str) (hv : ∃ t, v = .str tok' t) (h : ∀ s', RT g L sh dsh S ex st tok' nc q s' → Q () s') : wpAny (Mod w) A (setAttr (.ref sh) (Str.ofString "token") v) Q E s := by
  obtain ⟨tt', rfl⟩ := hv
  obtain ⟨tq, tc, tl, tt, ts, ln, et, F, N⟩ := R.ex
  have z := sets w.params
  simp only [Bool.and_eq_true, beq_iff_eq] at z
  obtain ⟨⟨⟨⟨z1, z2⟩, z3⟩, z4⟩, z5⟩ := z
  refine set_dict (news' := (sh, instObj 732 dsh) :: (dsh, S.dict (stV st ts) ln tl tok' tt') :: ex) F C.X N (InstAt.of_news N (.head _) (.tail _ (.head _))) rfl z1 z2 z5 z3 (by kernel_rfl) (by kernel_rfl) (.tail C.ne (.head C.nex)) (Nat.le_of_ble_eq_true rfl) (fun h' F' N' => ?_)
  exact h _ ⟨⟨tq, tc, tl, tt', ts, ln, et, F', N'⟩, R.sm⟩
theorem s_state_c {Q : Flow → Shared → Prop} {c : Str} {k : Nat} (C : Cx w g L sh dsh ex env) (R : RT g L sh dsh S ex st tok nc q s) (h : ∀ s', RT g L sh dsh S ex (some c) tok nc q s' → Q .next s') : wpAny (Mod w) A (exec (Stmt.Assign [Expr.Attribute (sSelf p1) (Str.ofString "state") p2] (Expr.Constant (Const.str c) k p3) p4) env) Q E s :=
  plainObj_wpAny_Assign_Attribute (Constant_str (a_self C (R.toks _) (set_state C (R.toks _) (some c) ⟨_, rfl⟩ h)))
theorem s_state_none {Q : Flow → Shared → Prop} {k : Nat} (C : Cx w g L sh dsh ex env) (R : RT g L sh dsh S ex st tok nc q s) (h : ∀ s', RT g L sh dsh S ex none tok nc q s' → Q .next s') : wpAny (Mod w) A (exec (Stmt.Assign [Expr.Attribute (sSelf p1) (Str.ofString "state") p2] (Expr.Constant Const.none k p3) p4) env) Q E s :=
  plainObj_wpAny_Assign_Attribute (wpAny_Constant_none (a_self C R (set_state C R none ⟨0, rfl⟩ h)))
theorem s_state_nc {Q : Flow → Shared → Prop} (C : Cx w g L sh dsh ex env) (R : RT g L sh dsh S ex st tok nc q s) (h : ∀ s', RT g L sh dsh S ex (some nc) tok nc q s' → Q .next s') : wpAny (Mod w) A (exec (Stmt.Assign [Expr.Attribute (sSelf p1) (Str.ofString "state") p2] (sNc p3) p4) env) Q E s :=
  plainObj_wpAny_Assign_Attribute (a_nc C R fun _ => (a_self C R (set_state C R (some nc) ⟨_, rfl⟩ h)))
theorem s_token_nc {Q : Flow → Shared → Prop} (C : Cx w g L sh dsh ex env) (R : RT g L sh dsh S ex st tok nc q s) (h : ∀ s', RT g L sh dsh S ex st nc nc q s' → Q .next s') : wpAny (Mod w) A (exec (Stmt.Assign [Expr.Attribute (sSelf p1) (Str.ofString "token") p2] (sNc p3) p4) env) Q E s :=
  plainObj_wpAny_Assign_Attribute (a_nc C R fun _ => (a_self C R (set_token C R nc ⟨_, rfl⟩ h)))
theorem s_token_c {Q : Flow → Shared → Prop} {c : Str} {k : Nat} (C : Cx w g L sh dsh ex env) (R : RT g L sh dsh S ex st tok nc q s) (h : ∀ s', RT g L sh dsh S ex st c nc q s' → Q .next s') : wpAny (Mod w) A (exec (Stmt.Assign [Expr.Attribute (sSelf p1) (Str.ofString "token") p2] (Expr.Constant (Const.str c) k p3) p4) env) Q E s :=
  plainObj_wpAny_Assign_Attribute (Constant_str (a_self C (R.toks _) (set_token C (R.toks _) c ⟨_, rfl⟩ h)))
theorem s_token_add {Q : Flow → Shared → Prop} (C : Cx w g L sh dsh ex env) (R : RT g L sh dsh S ex st tok nc q s) (hl : tok.length + nc.length ≤ sizeLine) (h : ∀ s', RT g L sh dsh S ex st (tok ++ nc) nc q s' → Q .next s') : wpAny (Mod w) A (exec (Stmt.AugAssign (Expr.Attribute (sSelf p1) (Str.ofString "token") p2) .Add (sNc p3) p4) env) Q E s := by
  refine wpAny_AugAssign_AttributeAny (a_self C R ?_)
  obtain ⟨tq, tc, tl, tt, ts, ln, et, F, N⟩ := R.ex
  refine get_ownK (v := .str tok tt) F C.X (InstAt.of_news N (.head _) (.tail _ (.head _))) (own_token _) (by kernel_rfl) rfl ?_
  refine a_nc C (R.toks _) fun t => ?_
  refine iadd_str (fun t' k => ?_) hl
  exact set_token C (R.toks _) (tok ++ nc) ⟨_, rfl⟩ h
theorem s_quoted {Q : Flow → Shared → Prop} {k : Nat} (C : Cx w g L sh dsh ex env) (R : RT g L sh dsh S ex st tok nc q s) (h : ∀ s', RT g L sh dsh S ex st tok nc true s' → Q .next s') : wpAny (Mod w) A (exec (Stmt.Assign [Expr.Name (Str.ofString "quoted") p1] (Expr.Constant (Const.bool true) k p3) p4) env) Q E s := by
  refine wpAny_Assign_Name (Constant_bool ?_)
  obtain ⟨tq, tc, tl, tt, ts, ln, et, F, N⟩ := R.ex
  have k3 := C.k3
  obtain ⟨cn, cs, a, ccd, cl, rfl, hk⟩ := C.he
  refine storeX_L F N (fun h' F' N' => ?_) hk k3
  refine h _ ⟨⟨tq, tc, tl, tt, ts, ln, et, Fr.cg F' fun y => ?_, N'⟩, R.sm⟩
  unfold rtm
  by_cases e : y = Str.ofString "quoted"
  · subst e; kernel_rfl
  · simp only [if_neg e]
end
end
section
open PySem PySem.W PySem.Calls PyProof.Rows
theorem lift {g : Heap} {L : Addr} {m : Str → Option Value} {s s' : Shared} {muts muts' rest : List (Addr × Obj)} (F : Fr g L s.heap m) (N : News g L s.heap (muts ++ rest)) (M : Mv (muts.map (·.1)) s s')
    (hm : ∀ p ∈ muts', s'.heap.get? p.1 = some p.2) (hk : muts'.map (·.1) = muts.map (·.1)) (hr : ∀ p ∈ rest, p.1 ∉ muts.map (·.1)) : Fr g L s'.heap m ∧ News g L s'.heap (muts' ++ rest) := by
  have nm : ∀ b ∈ muts.map (·.1), b ≠ L ∧ g.get? b = none := fun b hb => by
    obtain ⟨p, hp, rfl⟩ := List.mem_map.mp hb
    exact (N p (List.mem_append_left _ hp)).2
  refine ⟨Fr.mvd F M (fun q => (nm L q).1 rfl) (fun b q => (nm b q).2), fun p hp => ?_⟩
  rcases List.mem_append.mp hp with hp | hp
  · have : p.1 ∈ muts.map (·.1) := hk ▸ List.mem_map_of_mem hp
    exact ⟨hm p hp, nm _ this⟩
  · have z := N p (List.mem_append_right _ hp)
    exact ⟨M.keep _ _ (hr p hp) z.1, z.2⟩

theorem punct_ok {w : World} {outer : List Env} {s : Shared} {sh dsh : Nat} {S : Sh} {st : Value} {ln : Int} {tl tt : Tok} {tok : Str} {R : Result → Shared → Prop}
   (G : Gd w outer s.heap) (h1 : s.heap.get? sh = some (instObj 732 dsh)) (h2 : s.heap.get? dsh = some (S.dict st ln tl tok tt)) (hb : 815 ≤ dsh) (hb2 : 815 ≤ sh) (hf1 : sh ∉ frs outer) (hf2 : dsh ∉ frs outer)
   (hQ : ∀ s' t, Mv [sh, dsh] s s' → s'.heap.get? sh = some (instObj 732 dsh) → s'.heap.get? dsh = some (S.dict st ln tl tok tt) → R (.ok (.ret (.str (Str.ofString "") t))) s') :
   codeAny (Mod w) (AT 500 2000 outer) (.call (.ref 663) ⟨[.ref sh], []⟩) R s := by
  refine' enterP [(sh, instObj 732 dsh), (dsh, S.dict st ln tl tok tt)] G ?hm ?k6 ?k7 ?k8 ?k9 ?kB ?_ ?c2 ?c3 ?c4 ?c5
  case hm => intro p hp; rcases List.mem_cons.mp hp with rfl | hp; exact ⟨h1, hb2, hf1⟩; rcases List.mem_cons.mp hp with rfl | hp; exact ⟨h2, hb, hf2⟩; cases hp
  (((case k6 => k_is); (case k7 => k_is); (case k8 => decide); (case k9 => first | exact BindsTo.of_eq rfl | exact binds_K (Gd.X (by assumption)) rfl (by k_is) rfl rfl rfl); (case kB => exact locs rfl); (case c2 => exact rfl); (case c3 => exact rfl); (case c4 => exact rfl); (case c5 => decide)))
  intro g L' h' lo mg mb F N B X T Bz _ Gg hLb
  (try dsimp only)
  (try k_fold)
  k_steps
  all_goals (dsimp only; (try (k_unfold; dsimp only)))
  all_goals exact hQ _ _ (Bz.mv (by assumption)) (News.get (by assumption) (by k_mem)) (News.get (by assumption) (by k_mem))
end
section
open PySem PySem.W PySem.Calls PyProof.Rows
noncomputable def nextQ (M : Model) (A : Around) (rest : List Stmt) (env : Env) (Q : Flow → Shared → Prop) (E : Value → Shared → Prop) (f : Flow) (s : Shared) : Prop := match f with
  | .next => wpAny M A (execs rest env) Q E s
  | f => Q f s
noncomputable def ifQ (M : Model) (A : Around) (body orelse : List Stmt) (env : Env) (Q : Flow → Shared → Prop) (E : Value → Shared → Prop) (b : Bool) (s : Shared) : Prop := if b = true then wpAny M A (execs body env) Q E s else wpAny M A (execs orelse env) Q E s
noncomputable def andQ (M : Model) (A : Around) (rest : List Expr) (pos : Pos) (env : Env) (whole : Sem Value) (Q : Bool → Shared → Prop) (E : Value → Shared → Prop) (b : Bool) (s : Shared) : Prop := if b = true then wpAny M A (PySem.isTrue (.BoolOp .And rest pos) env whole) Q E s else Q false s
noncomputable def orQ (M : Model) (A : Around) (rest : List Expr) (pos : Pos) (env : Env) (whole : Sem Value) (Q : Bool → Shared → Prop) (E : Value → Shared → Prop) (b : Bool) (s : Shared) : Prop := if b = true then Q true s else wpAny M A (PySem.isTrue (.BoolOp .Or rest pos) env whole) Q E s
section
variable {M : Model} {A : Around} {E : Value → Shared → Prop} {s : Shared} {env : Env} {rest body orelse : List Stmt} {stm : Stmt} {Q : Flow → Shared → Prop} {P : Bool → Shared → Prop} {test : Expr} {pos : Pos} {es : List Expr} {whole : Sem Value}
theorem ex_cons (h : wpAny M A (exec stm env) (nextQ M A rest env Q E) E s) : wpAny M A (execs (stm :: rest) env) Q E s :=
  wpAny_execs_cons (wpAny_mono h (fun f _ x => by cases f <;> exact x) (fun _ _ x => x))
theorem q_next (h : wpAny M A (execs rest env) Q E s) : nextQ M A rest env Q E .next s := h
theorem q_brk (h : Q .brk s) : nextQ M A rest env Q E .brk s := h
theorem ex_if (h : wpAny M A (PySem.isTrue test env (eval test env)) (ifQ M A body orelse env Q E) E s) : wpAny M A (exec (.If test body orelse pos) env) Q E s := wpAny_If h
theorem q_then (h : wpAny M A (execs body env) Q E s) : ifQ M A body orelse env Q E true s := h
theorem q_else (h : wpAny M A (execs orelse env) Q E s) : ifQ M A body orelse env Q E false s := h
theorem t_and (h : wpAny M A (PySem.isTrue test env (eval test env)) (andQ M A es pos env whole P E) E s) : wpAny M A (PySem.isTrue (.BoolOp .And (test :: es) pos) env whole) P E s := isTrue_and h
theorem t_or (h : wpAny M A (PySem.isTrue test env (eval test env)) (orQ M A es pos env whole P E) E s) : wpAny M A (PySem.isTrue (.BoolOp .Or (test :: es) pos) env whole) P E s := isTrue_or h
theorem q_and1 (h : wpAny M A (PySem.isTrue (.BoolOp .And es pos) env whole) P E s) : andQ M A es pos env whole P E true s := h
theorem q_and0 (h : P false s) : andQ M A es pos env whole P E false s := h
theorem q_or1 (h : P true s) : orQ M A es pos env whole P E true s := h
theorem q_or0 (h : wpAny M A (PySem.isTrue (.BoolOp .Or es pos) env whole) P E s) : orQ M A es pos env whole P E false s := h
end
structure Ax (w : World) (outer : List Env) (g : Heap) (L : Addr) (sh dsh : Nat) (ex : List (Addr × Obj)) (env : Env) (A : Around) : Prop where
  C : Cx w g L sh dsh ex env
  G : Gd w outer g
  hL : 815 ≤ L
  hd : 815 ≤ dsh
  hs : 815 ≤ sh
  nes : ∀ p ∈ ex, p.1 ≠ sh
  hA : A.frames = some (env :: outer)
  a1 : A.handled = none
  a2 : A.depth ≤ 490
  a3 : A.guards = some []
  a4 : A.units ≤ 1950
section
variable {w : World} {outer : List Env} {g : Heap} {L : Addr} {sh dsh : Nat} {S : Sh} {ex : List (Addr × Obj)} {env : Env} {st : Option Str} {tok nc x : Str} {q : Bool} {s : Shared} {A : Around} {E : Value → Shared → Prop} {p1 p2 p3 p4 p5 p6 : Pos}
theorem prop_punct (P : Params) : (plainGet (kk.heap_1 P) 732 (Str.ofString "punctuation_chars") && hasDictIn (kk.heap_1 P) 732) = true := by kernel_rfl
theorem a_punct {Q : Value → Shared → Prop} (X : Ax w outer g L sh dsh ex env A) (R : RT g L sh dsh S ex st tok nc q s) (h : ∀ s', RT g L sh dsh S ex st tok nc q s' → ∀ t, Q (.str (Str.ofString "") t) s') :
    wpAny (Mod w) A (eval (Expr.Attribute (sSelf p1) (Str.ofString "punctuation_chars") p2) env) Q E s := by
  refine attrN (a_self X.C R ?_)
  obtain ⟨tq, tc, tl, tt, ts, ln, et, F, N⟩ := R.ex
  have z := prop_punct w.params
  rw [Bool.and_eq_true] at z
  refine get_prop (fget := 663) F X.C.X (InstAt.of_news N (.head _) (.tail _ (.head _))) z.1 z.2 (by k_is) (by k_is) (by k_is) (by k_is) ?_
  have hfL : env.frame = some L := by obtain ⟨cn, cs, a, ccd, cl, rfl, hk⟩ := X.C.he; rfl
  have hk : env.scope.kind = .function := by obtain ⟨cn, cs, a, ccd, cl, rfl, hk⟩ := X.C.he; exact hk
  have nf := News.fr X.G N hfL
  have a4 := X.a4
  have a2 := X.a2
  refine codeAny_le (punct_ok (S := S) (X.G.push F X.hL hfL hk) (N.get (.head _)) (N.get (.tail _ (.head _))) X.hd X.hs (nf _ (.head _)) (nf _ (.tail _ (.head _))) ?_) X.a1 (by show A.depth ≤ 500; omega) X.hA X.a3 (by show A.units + 1 ≤ 2000; omega)
  intro s' t M g1 g2
  obtain ⟨F', N'⟩ := lift (muts := [(sh, instObj 732 dsh), (dsh, S.dict (stV st ts) ln tl tok tt)]) (muts' := [(sh, instObj 732 dsh), (dsh, S.dict (stV st ts) ln tl tok tt)]) (rest := ex) F N
    (show Mv _ s s' from ⟨M.keep, M.gens, M.os, M.dr, M.size⟩) (fun p hp => by rcases List.mem_cons.mp hp with rfl | hp; exact g1; rcases List.mem_cons.mp hp with rfl | hp; exact g2; cases hp) rfl
    (fun p hp qq => by rcases List.mem_cons.mp qq with e | e; exact X.nes p hp e; exact X.C.nex p hp (List.mem_singleton.mp e))
  exact handed_on (by rfl) (h _ ⟨⟨tq, tc, tl, tt, ts, ln, et, F', N'⟩, M.gens.trans R.sm.1, M.os.trans R.sm.2.1, M.dr.trans R.sm.2.2⟩ t)
theorem t_nc_punct {Q : Bool → Shared → Prop} {whole : Sem Value} (b : Bool) (X : Ax w outer g L sh dsh ex env A) (R : RT g L sh dsh S ex st tok nc q s) (hb : inS (Str.ofString "") nc = b) (h : ∀ s', RT g L sh dsh S ex st tok nc q s' → Q b s') : wpAny (Mod w) A (PySem.isTrue (Expr.Compare (sNc p1) [.In] [Expr.Attribute (sSelf p2) (Str.ofString "punctuation_chars") p3] p4) env whole) Q E s := by
  refine wpAny_isTrue_Compare1 (a_nc X.C R fun t => a_punct X R fun s' R' u => ?_)
  refine in_str (wpAny_truthy_bool ?_)
  unfold inS at hb
  rw [hb]
  exact h _ R'
theorem t_nc_npunct {Q : Bool → Shared → Prop} {whole : Sem Value} (b : Bool) (X : Ax w outer g L sh dsh ex env A) (R : RT g L sh dsh S ex st tok nc q s) (hb : (!inS (Str.ofString "") nc) = b) (h : ∀ s', RT g L sh dsh S ex st tok nc q s' → Q b s') : wpAny (Mod w) A (PySem.isTrue (Expr.Compare (sNc p1) [.NotIn] [Expr.Attribute (sSelf p2) (Str.ofString "punctuation_chars") p3] p4) env whole) Q E s := by
  refine wpAny_isTrue_Compare1 (a_nc X.C R fun t => a_punct X R fun s' R' u => ?_)
  refine notIn_str (wpAny_truthy_bool ?_)
  unfold inS at hb
  rw [hb]
  exact h _ R'
end
end
section
open PySem PySem.W PySem.Calls PyProof.Rows
theorem t_not_posix {w : World} {g : Heap} {L : Addr} {sh dsh : Nat} {S : Sh} {ex : List (Addr × Obj)} {env : Env} {st : Option Str} {tok nc : Str} {q : Bool} {s : Shared} {A : Around} {E : Value → Shared → Prop} {p1 p2 p3 : Pos} {Q : Bool → Shared → Prop} {whole : Sem Value}
    (C : Cx w g L sh dsh ex env) (R : RT g L sh dsh S ex st tok nc q s) (h : ∀ s', RT g L sh dsh S ex st tok nc q s' → Q false s') : wpAny (Mod w) A (PySem.isTrue (Expr.UnaryOp .Not (Expr.Attribute (sSelf p1) (Str.ofString "posix") p2) p3) env whole) Q E s :=
  isTrue_not (t_true_posix C R h)
theorem turn_sp_a {w : World} {outer : List Env} {g : Heap} {L : Addr} {sh dsh : Nat} {S : Sh} {ex : List (Addr × Obj)} {env : Env} {tok : Str} {q : Bool} {s : Shared} {A : Around} {E : Value → Shared → Prop} {Q : Flow → Shared → Prop} {o : Option Obj}
    (ho : (kk.heap_1 w.params).lookup 700 = o) (X : Ax w outer g L sh dsh ex env A) (R : RT g L sh dsh S ex (some (Str.ofString " ")) tok (Str.ofString "a") q s) (hc : inS S.cm (Str.ofString "a") = false) (hw : inS S.wc (Str.ofString "a") = true) (h : ∀ s', RT g L sh dsh S ex (some (Str.ofString "a")) (Str.ofString "a") (Str.ofString "a") q s' → Q .next s') :
    wpAny (Mod w) A (execs (drop3 (loopOf (bodyOf (fdOf o)))) env) Q E s := by
  rw [(by k_is : (kk.heap_1 w.params).lookup 700 = some _)] at ho
  subst ho
  dsimp only [drop3, loopOf, bodyOf, fdOf]
  have C := X.C
  repeat (first | with_reducible refine ex_cons ?_ | with_reducible refine ex_if ?_ | with_reducible refine q_then ?_ | with_reducible refine q_else ?_ | with_reducible refine q_next ?_ | with_reducible refine q_and1 ?_ | with_reducible refine q_and0 ?_ | with_reducible refine q_or1 ?_ | with_reducible refine q_or0 ?_ | with_reducible refine t_and ?_ | with_reducible refine t_or ?_ | with_reducible refine isTrue_and_nil ?_ | with_reducible refine isTrue_or_nil ?_ | with_reducible refine wpAny_execs_nil ?_ | with_reducible refine q_brk ?_ | with_reducible refine q_cont ?_ | with_reducible refine wpAny_Break ?_ | with_reducible refine wpAny_Continue ?_ | (with_reducible refine t_state_none (by assumption) (by assumption) ?_; intro _ _) | (with_reducible refine t_state_some (by assumption) (by assumption) ?_; intro _ _) | (with_reducible refine t_true_posix (by assumption) (by assumption) ?_; intro _ _) | (with_reducible refine t_true_split (by assumption) (by assumption) ?_; intro _ _) | (with_reducible refine t_not_posix (by assumption) (by assumption) ?_; intro _ _) | (with_reducible refine s_state_c (by assumption) (by assumption) ?_; intro _ _) | (with_reducible refine s_state_none (by assumption) (by assumption) ?_; intro _ _) | (with_reducible refine s_state_nc (by assumption) (by assumption) ?_; intro _ _) | (with_reducible refine s_token_nc (by assumption) (by assumption) ?_; intro _ _) | (with_reducible refine s_token_c (by assumption) (by assumption) ?_; intro _ _) | (with_reducible refine s_quoted (by assumption) (by assumption) ?_; intro _ _) | (with_reducible refine t_nc_whitespace false (by assumption) (by assumption) (by first | assumption | decide +kernel) ?_; intro _ _) | (with_reducible refine t_nc_whitespace true (by assumption) (by assumption) (by first | assumption | decide +kernel) ?_; intro _ _) | (with_reducible refine t_nc_commenters false (by assumption) (by assumption) (by first | assumption | decide +kernel) ?_; intro _ _) | (with_reducible refine t_nc_commenters true (by assumption) (by assumption) (by first | assumption | decide +kernel) ?_; intro _ _) | (with_reducible refine t_nc_wordchars false (by assumption) (by assumption) (by first | assumption | decide +kernel) ?_; intro _ _) | (with_reducible refine t_nc_wordchars true (by assumption) (by assumption) (by first | assumption | decide +kernel) ?_; intro _ _) | (with_reducible refine t_nc_quotes false (by assumption) (by assumption) (by first | assumption | decide +kernel) ?_; intro _ _) | (with_reducible refine t_nc_quotes true (by assumption) (by assumption) (by first | assumption | decide +kernel) ?_; intro _ _) | (with_reducible refine t_nc_escape false (by assumption) (by assumption) (by first | assumption | decide +kernel) ?_; intro _ _) | (with_reducible refine t_nc_escape true (by assumption) (by assumption) (by first | assumption | decide +kernel) ?_; intro _ _) | (with_reducible refine t_state_eq false (by assumption) (by assumption) (by first | assumption | decide +kernel) ?_; intro _ _) | (with_reducible refine t_state_eq true (by assumption) (by assumption) (by first | assumption | decide +kernel) ?_; intro _ _) | (with_reducible refine t_st_quotes false (by assumption) (by assumption) (by first | assumption | decide +kernel) ?_; intro _ _) | (with_reducible refine t_st_quotes true (by assumption) (by assumption) (by first | assumption | decide +kernel) ?_; intro _ _) | (with_reducible refine t_st_escape false (by assumption) (by assumption) (by first | assumption | decide +kernel) ?_; intro _ _) | (with_reducible refine t_st_escape true (by assumption) (by assumption) (by first | assumption | decide +kernel) ?_; intro _ _) | (with_reducible refine t_st_escapedquotes false (by assumption) (by assumption) (by first | assumption | decide +kernel) ?_; intro _ _) | (with_reducible refine t_st_escapedquotes true (by assumption) (by assumption) (by first | assumption | decide +kernel) ?_; intro _ _) | (with_reducible refine t_state_tup false (by assumption) (by assumption) (by first | assumption | decide +kernel) ?_; intro _ _) | (with_reducible refine t_state_tup true (by assumption) (by assumption) (by first | assumption | decide +kernel) ?_; intro _ _) | (with_reducible refine t_nc_state false (by assumption) (by assumption) (by first | assumption | decide +kernel) ?_; intro _ _) | (with_reducible refine t_nc_state true (by assumption) (by assumption) (by first | assumption | decide +kernel) ?_; intro _ _) | (with_reducible refine t_debug false (by assumption) (by assumption) (by first | assumption | decide +kernel) ?_; intro _ _) | (with_reducible refine t_debug true (by assumption) (by assumption) (by first | assumption | decide +kernel) ?_; intro _ _) | (with_reducible refine t_nc_punct false (by assumption) (by assumption) (by first | assumption | decide +kernel) ?_; intro _ _) | (with_reducible refine t_nc_punct true (by assumption) (by assumption) (by first | assumption | decide +kernel) ?_; intro _ _) | (with_reducible refine t_nc_npunct false (by assumption) (by assumption) (by first | assumption | decide +kernel) ?_; intro _ _) | (with_reducible refine t_nc_npunct true (by assumption) (by assumption) (by first | assumption | decide +kernel) ?_; intro _ _) | (with_reducible refine t_not_nc false (by assumption) (by assumption) (by first | assumption | decide +kernel) (by first | assumption | decide +kernel) ?_; intro _ _) | (with_reducible refine t_token false (by assumption) (by assumption) (by assumption) (by assumption) ?_; intro _ _) | (with_reducible refine t_not_nc true (by assumption) (by assumption) (by first | assumption | decide +kernel) (by first | assumption | decide +kernel) ?_; intro _ _) | (with_reducible refine t_token true (by assumption) (by assumption) (by assumption) (by assumption) ?_; intro _ _) | (with_reducible refine t_quoted (by assumption) (by assumption) ?_) | (with_reducible refine s_token_add (by assumption) (by assumption) (by assumption) ?_; intro _ _) | (refine isTrue_not ?_))
  all_goals exact h _ (by assumption)
theorem turn_sp_m {w : World} {outer : List Env} {g : Heap} {L : Addr} {sh dsh : Nat} {S : Sh} {ex : List (Addr × Obj)} {env : Env} {tok : Str} {q : Bool} {s : Shared} {A : Around} {E : Value → Shared → Prop} {Q : Flow → Shared → Prop} {o : Option Obj}
    (ho : (kk.heap_1 w.params).lookup 700 = o) (X : Ax w outer g L sh dsh ex env A) (R : RT g L sh dsh S ex (some (Str.ofString " ")) tok (Str.ofString "-") q s) (hc : inS S.cm (Str.ofString "-") = false) (hw : inS S.wc (Str.ofString "-") = false) (h : ∀ s', RT g L sh dsh S ex (some (Str.ofString "a")) (Str.ofString "-") (Str.ofString "-") q s' → Q .next s') :
    wpAny (Mod w) A (execs (drop3 (loopOf (bodyOf (fdOf o)))) env) Q E s := by
  rw [(by k_is : (kk.heap_1 w.params).lookup 700 = some _)] at ho
  subst ho
  dsimp only [drop3, loopOf, bodyOf, fdOf]
  have C := X.C
  repeat (first | with_reducible refine ex_cons ?_ | with_reducible refine ex_if ?_ | with_reducible refine q_then ?_ | with_reducible refine q_else ?_ | with_reducible refine q_next ?_ | with_reducible refine q_and1 ?_ | with_reducible refine q_and0 ?_ | with_reducible refine q_or1 ?_ | with_reducible refine q_or0 ?_ | with_reducible refine t_and ?_ | with_reducible refine t_or ?_ | with_reducible refine isTrue_and_nil ?_ | with_reducible refine isTrue_or_nil ?_ | with_reducible refine wpAny_execs_nil ?_ | with_reducible refine q_brk ?_ | with_reducible refine q_cont ?_ | with_reducible refine wpAny_Break ?_ | with_reducible refine wpAny_Continue ?_ | (with_reducible refine t_state_none (by assumption) (by assumption) ?_; intro _ _) | (with_reducible refine t_state_some (by assumption) (by assumption) ?_; intro _ _) | (with_reducible refine t_true_posix (by assumption) (by assumption) ?_; intro _ _) | (with_reducible refine t_true_split (by assumption) (by assumption) ?_; intro _ _) | (with_reducible refine t_not_posix (by assumption) (by assumption) ?_; intro _ _) | (with_reducible refine s_state_c (by assumption) (by assumption) ?_; intro _ _) | (with_reducible refine s_state_none (by assumption) (by assumption) ?_; intro _ _) | (with_reducible refine s_state_nc (by assumption) (by assumption) ?_; intro _ _) | (with_reducible refine s_token_nc (by assumption) (by assumption) ?_; intro _ _) | (with_reducible refine s_token_c (by assumption) (by assumption) ?_; intro _ _) | (with_reducible refine s_quoted (by assumption) (by assumption) ?_; intro _ _) | (with_reducible refine t_nc_whitespace false (by assumption) (by assumption) (by first | assumption | decide +kernel) ?_; intro _ _) | (with_reducible refine t_nc_whitespace true (by assumption) (by assumption) (by first | assumption | decide +kernel) ?_; intro _ _) | (with_reducible refine t_nc_commenters false (by assumption) (by assumption) (by first | assumption | decide +kernel) ?_; intro _ _) | (with_reducible refine t_nc_commenters true (by assumption) (by assumption) (by first | assumption | decide +kernel) ?_; intro _ _) | (with_reducible refine t_nc_wordchars false (by assumption) (by assumption) (by first | assumption | decide +kernel) ?_; intro _ _) | (with_reducible refine t_nc_wordchars true (by assumption) (by assumption) (by first | assumption | decide +kernel) ?_; intro _ _) | (with_reducible refine t_nc_quotes false (by assumption) (by assumption) (by first | assumption | decide +kernel) ?_; intro _ _) | (with_reducible refine t_nc_quotes true (by assumption) (by assumption) (by first | assumption | decide +kernel) ?_; intro _ _) | (with_reducible refine t_nc_escape false (by assumption) (by assumption) (by first | assumption | decide +kernel) ?_; intro _ _) | (with_reducible refine t_nc_escape true (by assumption) (by assumption) (by first | assumption | decide +kernel) ?_; intro _ _) | (with_reducible refine t_state_eq false (by assumption) (by assumption) (by first | assumption | decide +kernel) ?_; intro _ _) | (with_reducible refine t_state_eq true (by assumption) (by assumption) (by first | assumption | decide +kernel) ?_; intro _ _) | (with_reducible refine t_st_quotes false (by assumption) (by assumption) (by first | assumption | decide +kernel) ?_; intro _ _) | (with_reducible refine t_st_quotes true (by assumption) (by assumption) (by first | assumption | decide +kernel) ?_; intro _ _) | (with_reducible refine t_st_escape false (by assumption) (by assumption) (by first | assumption | decide +kernel) ?_; intro _ _) | (with_reducible refine t_st_escape true (by assumption) (by assumption) (by first | assumption | decide +kernel) ?_; intro _ _) | (with_reducible refine t_st_escapedquotes false (by assumption) (by assumption) (by first | assumption | decide +kernel) ?_; intro _ _) | (with_reducible refine t_st_escapedquotes true (by assumption) (by assumption) (by first | assumption | decide +kernel) ?_; intro _ _) | (with_reducible refine t_state_tup false (by assumption) (by assumption) (by first | assumption | decide +kernel) ?_; intro _ _) | (with_reducible refine t_state_tup true (by assumption) (by assumption) (by first | assumption | decide +kernel) ?_; intro _ _) | (with_reducible refine t_nc_state false (by assumption) (by assumption) (by first | assumption | decide +kernel) ?_; intro _ _) | (with_reducible refine t_nc_state true (by assumption) (by assumption) (by first | assumption | decide +kernel) ?_; intro _ _) | (with_reducible refine t_debug false (by assumption) (by assumption) (by first | assumption | decide +kernel) ?_; intro _ _) | (with_reducible refine t_debug true (by assumption) (by assumption) (by first | assumption | decide +kernel) ?_; intro _ _) | (with_reducible refine t_nc_punct false (by assumption) (by assumption) (by first | assumption | decide +kernel) ?_; intro _ _) | (with_reducible refine t_nc_punct true (by assumption) (by assumption) (by first | assumption | decide +kernel) ?_; intro _ _) | (with_reducible refine t_nc_npunct false (by assumption) (by assumption) (by first | assumption | decide +kernel) ?_; intro _ _) | (with_reducible refine t_nc_npunct true (by assumption) (by assumption) (by first | assumption | decide +kernel) ?_; intro _ _) | (with_reducible refine t_not_nc false (by assumption) (by assumption) (by first | assumption | decide +kernel) (by first | assumption | decide +kernel) ?_; intro _ _) | (with_reducible refine t_token false (by assumption) (by assumption) (by assumption) (by assumption) ?_; intro _ _) | (with_reducible refine t_not_nc true (by assumption) (by assumption) (by first | assumption | decide +kernel) (by first | assumption | decide +kernel) ?_; intro _ _) | (with_reducible refine t_token true (by assumption) (by assumption) (by assumption) (by assumption) ?_; intro _ _) | (with_reducible refine t_quoted (by assumption) (by assumption) ?_) | (with_reducible refine s_token_add (by assumption) (by assumption) (by assumption) ?_; intro _ _) | (refine isTrue_not ?_))
  all_goals exact h _ (by assumption)
theorem turn_sp_q {w : World} {outer : List Env} {g : Heap} {L : Addr} {sh dsh : Nat} {S : Sh} {ex : List (Addr × Obj)} {env : Env} {tok : Str} {q : Bool} {s : Shared} {A : Around} {E : Value → Shared → Prop} {Q : Flow → Shared → Prop} {o : Option Obj}
    (ho : (kk.heap_1 w.params).lookup 700 = o) (X : Ax w outer g L sh dsh ex env A) (R : RT g L sh dsh S ex (some (Str.ofString " ")) tok (Str.ofString "'") q s) (hc : inS S.cm (Str.ofString "'") = false) (hw : inS S.wc (Str.ofString "'") = false) (h : ∀ s', RT g L sh dsh S ex (some (Str.ofString "'")) tok (Str.ofString "'") q s' → Q .next s') :
    wpAny (Mod w) A (execs (drop3 (loopOf (bodyOf (fdOf o)))) env) Q E s := by
  rw [(by k_is : (kk.heap_1 w.params).lookup 700 = some _)] at ho
  subst ho
  dsimp only [drop3, loopOf, bodyOf, fdOf]
  have C := X.C
  repeat (first | with_reducible refine ex_cons ?_ | with_reducible refine ex_if ?_ | with_reducible refine q_then ?_ | with_reducible refine q_else ?_ | with_reducible refine q_next ?_ | with_reducible refine q_and1 ?_ | with_reducible refine q_and0 ?_ | with_reducible refine q_or1 ?_ | with_reducible refine q_or0 ?_ | with_reducible refine t_and ?_ | with_reducible refine t_or ?_ | with_reducible refine isTrue_and_nil ?_ | with_reducible refine isTrue_or_nil ?_ | with_reducible refine wpAny_execs_nil ?_ | with_reducible refine q_brk ?_ | with_reducible refine q_cont ?_ | with_reducible refine wpAny_Break ?_ | with_reducible refine wpAny_Continue ?_ | (with_reducible refine t_state_none (by assumption) (by assumption) ?_; intro _ _) | (with_reducible refine t_state_some (by assumption) (by assumption) ?_; intro _ _) | (with_reducible refine t_true_posix (by assumption) (by assumption) ?_; intro _ _) | (with_reducible refine t_true_split (by assumption) (by assumption) ?_; intro _ _) | (with_reducible refine t_not_posix (by assumption) (by assumption) ?_; intro _ _) | (with_reducible refine s_state_c (by assumption) (by assumption) ?_; intro _ _) | (with_reducible refine s_state_none (by assumption) (by assumption) ?_; intro _ _) | (with_reducible refine s_state_nc (by assumption) (by assumption) ?_; intro _ _) | (with_reducible refine s_token_nc (by assumption) (by assumption) ?_; intro _ _) | (with_reducible refine s_token_c (by assumption) (by assumption) ?_; intro _ _) | (with_reducible refine s_quoted (by assumption) (by assumption) ?_; intro _ _) | (with_reducible refine t_nc_whitespace false (by assumption) (by assumption) (by first | assumption | decide +kernel) ?_; intro _ _) | (with_reducible refine t_nc_whitespace true (by assumption) (by assumption) (by first | assumption | decide +kernel) ?_; intro _ _) | (with_reducible refine t_nc_commenters false (by assumption) (by assumption) (by first | assumption | decide +kernel) ?_; intro _ _) | (with_reducible refine t_nc_commenters true (by assumption) (by assumption) (by first | assumption | decide +kernel) ?_; intro _ _) | (with_reducible refine t_nc_wordchars false (by assumption) (by assumption) (by first | assumption | decide +kernel) ?_; intro _ _) | (with_reducible refine t_nc_wordchars true (by assumption) (by assumption) (by first | assumption | decide +kernel) ?_; intro _ _) | (with_reducible refine t_nc_quotes false (by assumption) (by assumption) (by first | assumption | decide +kernel) ?_; intro _ _) | (with_reducible refine t_nc_quotes true (by assumption) (by assumption) (by first | assumption | decide +kernel) ?_; intro _ _) | (with_reducible refine t_nc_escape false (by assumption) (by assumption) (by first | assumption | decide +kernel) ?_; intro _ _) | (with_reducible refine t_nc_escape true (by assumption) (by assumption) (by first | assumption | decide +kernel) ?_; intro _ _) | (with_reducible refine t_state_eq false (by assumption) (by assumption) (by first | assumption | decide +kernel) ?_; intro _ _) | (with_reducible refine t_state_eq true (by assumption) (by assumption) (by first | assumption | decide +kernel) ?_; intro _ _) | (with_reducible refine t_st_quotes false (by assumption) (by assumption) (by first | assumption | decide +kernel) ?_; intro _ _) | (with_reducible refine t_st_quotes true (by assumption) (by assumption) (by first | assumption | decide +kernel) ?_; intro _ _) | (with_reducible refine t_st_escape false (by assumption) (by assumption) (by first | assumption | decide +kernel) ?_; intro _ _) | (with_reducible refine t_st_escape true (by assumption) (by assumption) (by first | assumption | decide +kernel) ?_; intro _ _) | (with_reducible refine t_st_escapedquotes false (by assumption) (by assumption) (by first | assumption | decide +kernel) ?_; intro _ _) | (with_reducible refine t_st_escapedquotes true (by assumption) (by assumption) (by first | assumption | decide +kernel) ?_; intro _ _) | (with_reducible refine t_state_tup false (by assumption) (by assumption) (by first | assumption | decide +kernel) ?_; intro _ _) | (with_reducible refine t_state_tup true (by assumption) (by assumption) (by first | assumption | decide +kernel) ?_; intro _ _) | (with_reducible refine t_nc_state false (by assumption) (by assumption) (by first | assumption | decide +kernel) ?_; intro _ _) | (with_reducible refine t_nc_state true (by assumption) (by assumption) (by first | assumption | decide +kernel) ?_; intro _ _) | (with_reducible refine t_debug false (by assumption) (by assumption) (by first | assumption | decide +kernel) ?_; intro _ _) | (with_reducible refine t_debug true (by assumption) (by assumption) (by first | assumption | decide +kernel) ?_; intro _ _) | (with_reducible refine t_nc_punct false (by assumption) (by assumption) (by first | assumption | decide +kernel) ?_; intro _ _) | (with_reducible refine t_nc_punct true (by assumption) (by assumption) (by first | assumption | decide +kernel) ?_; intro _ _) | (with_reducible refine t_nc_npunct false (by assumption) (by assumption) (by first | assumption | decide +kernel) ?_; intro _ _) | (with_reducible refine t_nc_npunct true (by assumption) (by assumption) (by first | assumption | decide +kernel) ?_; intro _ _) | (with_reducible refine t_not_nc false (by assumption) (by assumption) (by first | assumption | decide +kernel) (by first | assumption | decide +kernel) ?_; intro _ _) | (with_reducible refine t_token false (by assumption) (by assumption) (by assumption) (by assumption) ?_; intro _ _) | (with_reducible refine t_not_nc true (by assumption) (by assumption) (by first | assumption | decide +kernel) (by first | assumption | decide +kernel) ?_; intro _ _) | (with_reducible refine t_token true (by assumption) (by assumption) (by assumption) (by assumption) ?_; intro _ _) | (with_reducible refine t_quoted (by assumption) (by assumption) ?_) | (with_reducible refine s_token_add (by assumption) (by assumption) (by assumption) ?_; intro _ _) | (refine isTrue_not ?_))
  all_goals exact h _ (by assumption)
theorem turn_sp_e {w : World} {outer : List Env} {g : Heap} {L : Addr} {sh dsh : Nat} {S : Sh} {ex : List (Addr × Obj)} {env : Env} {tok : Str} {q : Bool} {s : Shared} {A : Around} {E : Value → Shared → Prop} {Q : Flow → Shared → Prop} {o : Option Obj}
    (ho : (kk.heap_1 w.params).lookup 700 = o) (X : Ax w outer g L sh dsh ex env A) (R : RT g L sh dsh S ex (some (Str.ofString " ")) tok (Str.ofString "") q s) (h : ∀ s', RT g L sh dsh S ex none tok (Str.ofString "") q s' → Q .brk s') :
    wpAny (Mod w) A (execs (drop3 (loopOf (bodyOf (fdOf o)))) env) Q E s := by
  rw [(by k_is : (kk.heap_1 w.params).lookup 700 = some _)] at ho
  subst ho
  dsimp only [drop3, loopOf, bodyOf, fdOf]
  have C := X.C
  repeat (first | with_reducible refine ex_cons ?_ | with_reducible refine ex_if ?_ | with_reducible refine q_then ?_ | with_reducible refine q_else ?_ | with_reducible refine q_next ?_ | with_reducible refine q_and1 ?_ | with_reducible refine q_and0 ?_ | with_reducible refine q_or1 ?_ | with_reducible refine q_or0 ?_ | with_reducible refine t_and ?_ | with_reducible refine t_or ?_ | with_reducible refine isTrue_and_nil ?_ | with_reducible refine isTrue_or_nil ?_ | with_reducible refine wpAny_execs_nil ?_ | with_reducible refine q_brk ?_ | with_reducible refine q_cont ?_ | with_reducible refine wpAny_Break ?_ | with_reducible refine wpAny_Continue ?_ | (with_reducible refine t_state_none (by assumption) (by assumption) ?_; intro _ _) | (with_reducible refine t_state_some (by assumption) (by assumption) ?_; intro _ _) | (with_reducible refine t_true_posix (by assumption) (by assumption) ?_; intro _ _) | (with_reducible refine t_true_split (by assumption) (by assumption) ?_; intro _ _) | (with_reducible refine t_not_posix (by assumption) (by assumption) ?_; intro _ _) | (with_reducible refine s_state_c (by assumption) (by assumption) ?_; intro _ _) | (with_reducible refine s_state_none (by assumption) (by assumption) ?_; intro _ _) | (with_reducible refine s_state_nc (by assumption) (by assumption) ?_; intro _ _) | (with_reducible refine s_token_nc (by assumption) (by assumption) ?_; intro _ _) | (with_reducible refine s_token_c (by assumption) (by assumption) ?_; intro _ _) | (with_reducible refine s_quoted (by assumption) (by assumption) ?_; intro _ _) | (with_reducible refine t_nc_whitespace false (by assumption) (by assumption) (by first | assumption | decide +kernel) ?_; intro _ _) | (with_reducible refine t_nc_whitespace true (by assumption) (by assumption) (by first | assumption | decide +kernel) ?_; intro _ _) | (with_reducible refine t_nc_commenters false (by assumption) (by assumption) (by first | assumption | decide +kernel) ?_; intro _ _) | (with_reducible refine t_nc_commenters true (by assumption) (by assumption) (by first | assumption | decide +kernel) ?_; intro _ _) | (with_reducible refine t_nc_wordchars false (by assumption) (by assumption) (by first | assumption | decide +kernel) ?_; intro _ _) | (with_reducible refine t_nc_wordchars true (by assumption) (by assumption) (by first | assumption | decide +kernel) ?_; intro _ _) | (with_reducible refine t_nc_quotes false (by assumption) (by assumption) (by first | assumption | decide +kernel) ?_; intro _ _) | (with_reducible refine t_nc_quotes true (by assumption) (by assumption) (by first | assumption | decide +kernel) ?_; intro _ _) | (with_reducible refine t_nc_escape false (by assumption) (by assumption) (by first | assumption | decide +kernel) ?_; intro _ _) | (with_reducible refine t_nc_escape true (by assumption) (by assumption) (by first | assumption | decide +kernel) ?_; intro _ _) | (with_reducible refine t_state_eq false (by assumption) (by assumption) (by first | assumption | decide +kernel) ?_; intro _ _) | (with_reducible refine t_state_eq true (by assumption) (by assumption) (by first | assumption | decide +kernel) ?_; intro _ _) | (with_reducible refine t_st_quotes false (by assumption) (by assumption) (by first | assumption | decide +kernel) ?_; intro _ _) | (with_reducible refine t_st_quotes true (by assumption) (by assumption) (by first | assumption | decide +kernel) ?_; intro _ _) | (with_reducible refine t_st_escape false (by assumption) (by assumption) (by first | assumption | decide +kernel) ?_; intro _ _) | (with_reducible refine t_st_escape true (by assumption) (by assumption) (by first | assumption | decide +kernel) ?_; intro _ _) | (with_reducible refine t_st_escapedquotes false (by assumption) (by assumption) (by first | assumption | decide +kernel) ?_; intro _ _) | (with_reducible refine t_st_escapedquotes true (by assumption) (by assumption) (by first | assumption | decide +kernel) ?_; intro _ _) | (with_reducible refine t_state_tup false (by assumption) (by assumption) (by first | assumption | decide +kernel) ?_; intro _ _) | (with_reducible refine t_state_tup true (by assumption) (by assumption) (by first | assumption | decide +kernel) ?_; intro _ _) | (with_reducible refine t_nc_state false (by assumption) (by assumption) (by first | assumption | decide +kernel) ?_; intro _ _) | (with_reducible refine t_nc_state true (by assumption) (by assumption) (by first | assumption | decide +kernel) ?_; intro _ _) | (with_reducible refine t_debug false (by assumption) (by assumption) (by first | assumption | decide +kernel) ?_; intro _ _) | (with_reducible refine t_debug true (by assumption) (by assumption) (by first | assumption | decide +kernel) ?_; intro _ _) | (with_reducible refine t_nc_punct false (by assumption) (by assumption) (by first | assumption | decide +kernel) ?_; intro _ _) | (with_reducible refine t_nc_punct true (by assumption) (by assumption) (by first | assumption | decide +kernel) ?_; intro _ _) | (with_reducible refine t_nc_npunct false (by assumption) (by assumption) (by first | assumption | decide +kernel) ?_; intro _ _) | (with_reducible refine t_nc_npunct true (by assumption) (by assumption) (by first | assumption | decide +kernel) ?_; intro _ _) | (with_reducible refine t_not_nc false (by assumption) (by assumption) (by first | assumption | decide +kernel) (by first | assumption | decide +kernel) ?_; intro _ _) | (with_reducible refine t_token false (by assumption) (by assumption) (by assumption) (by assumption) ?_; intro _ _) | (with_reducible refine t_not_nc true (by assumption) (by assumption) (by first | assumption | decide +kernel) (by first | assumption | decide +kernel) ?_; intro _ _) | (with_reducible refine t_token true (by assumption) (by assumption) (by assumption) (by assumption) ?_; intro _ _) | (with_reducible refine t_quoted (by assumption) (by assumption) ?_) | (with_reducible refine s_token_add (by assumption) (by assumption) (by assumption) ?_; intro _ _) | (refine isTrue_not ?_))
  all_goals exact h _ (by assumption)
theorem turn_a_a {w : World} {outer : List Env} {g : Heap} {L : Addr} {sh dsh : Nat} {S : Sh} {ex : List (Addr × Obj)} {env : Env} {tok : Str} {q : Bool} {s : Shared} {A : Around} {E : Value → Shared → Prop} {Q : Flow → Shared → Prop} {o : Option Obj}
    (ho : (kk.heap_1 w.params).lookup 700 = o) (X : Ax w outer g L sh dsh ex env A) (R : RT g L sh dsh S ex (some (Str.ofString "a")) tok (Str.ofString "a") q s) (hc : inS S.cm (Str.ofString "a") = false) (hw : inS S.wc (Str.ofString "a") = true) (hl : tok.length + ((Str.ofString "a") : Str).length ≤ sizeLine) (h : ∀ s', RT g L sh dsh S ex (some (Str.ofString "a")) (tok ++ (Str.ofString "a")) (Str.ofString "a") q s' → Q .next s') :
    wpAny (Mod w) A (execs (drop3 (loopOf (bodyOf (fdOf o)))) env) Q E s := by
  rw [(by k_is : (kk.heap_1 w.params).lookup 700 = some _)] at ho
  subst ho
  dsimp only [drop3, loopOf, bodyOf, fdOf]
  have C := X.C
  repeat (first | with_reducible refine ex_cons ?_ | with_reducible refine ex_if ?_ | with_reducible refine q_then ?_ | with_reducible refine q_else ?_ | with_reducible refine q_next ?_ | with_reducible refine q_and1 ?_ | with_reducible refine q_and0 ?_ | with_reducible refine q_or1 ?_ | with_reducible refine q_or0 ?_ | with_reducible refine t_and ?_ | with_reducible refine t_or ?_ | with_reducible refine isTrue_and_nil ?_ | with_reducible refine isTrue_or_nil ?_ | with_reducible refine wpAny_execs_nil ?_ | with_reducible refine q_brk ?_ | with_reducible refine q_cont ?_ | with_reducible refine wpAny_Break ?_ | with_reducible refine wpAny_Continue ?_ | (with_reducible refine t_state_none (by assumption) (by assumption) ?_; intro _ _) | (with_reducible refine t_state_some (by assumption) (by assumption) ?_; intro _ _) | (with_reducible refine t_true_posix (by assumption) (by assumption) ?_; intro _ _) | (with_reducible refine t_true_split (by assumption) (by assumption) ?_; intro _ _) | (with_reducible refine t_not_posix (by assumption) (by assumption) ?_; intro _ _) | (with_reducible refine s_state_c (by assumption) (by assumption) ?_; intro _ _) | (with_reducible refine s_state_none (by assumption) (by assumption) ?_; intro _ _) | (with_reducible refine s_state_nc (by assumption) (by assumption) ?_; intro _ _) | (with_reducible refine s_token_nc (by assumption) (by assumption) ?_; intro _ _) | (with_reducible refine s_token_c (by assumption) (by assumption) ?_; intro _ _) | (with_reducible refine s_quoted (by assumption) (by assumption) ?_; intro _ _) | (with_reducible refine t_nc_whitespace false (by assumption) (by assumption) (by first | assumption | decide +kernel) ?_; intro _ _) | (with_reducible refine t_nc_whitespace true (by assumption) (by assumption) (by first | assumption | decide +kernel) ?_; intro _ _) | (with_reducible refine t_nc_commenters false (by assumption) (by assumption) (by first | assumption | decide +kernel) ?_; intro _ _) | (with_reducible refine t_nc_commenters true (by assumption) (by assumption) (by first | assumption | decide +kernel) ?_; intro _ _) | (with_reducible refine t_nc_wordchars false (by assumption) (by assumption) (by first | assumption | decide +kernel) ?_; intro _ _) | (with_reducible refine t_nc_wordchars true (by assumption) (by assumption) (by first | assumption | decide +kernel) ?_; intro _ _) | (with_reducible refine t_nc_quotes false (by assumption) (by assumption) (by first | assumption | decide +kernel) ?_; intro _ _) | (with_reducible refine t_nc_quotes true (by assumption) (by assumption) (by first | assumption | decide +kernel) ?_; intro _ _) | (with_reducible refine t_nc_escape false (by assumption) (by assumption) (by first | assumption | decide +kernel) ?_; intro _ _) | (with_reducible refine t_nc_escape true (by assumption) (by assumption) (by first | assumption | decide +kernel) ?_; intro _ _) | (with_reducible refine t_state_eq false (by assumption) (by assumption) (by first | assumption | decide +kernel) ?_; intro _ _) | (with_reducible refine t_state_eq true (by assumption) (by assumption) (by first | assumption | decide +kernel) ?_; intro _ _) | (with_reducible refine t_st_quotes false (by assumption) (by assumption) (by first | assumption | decide +kernel) ?_; intro _ _) | (with_reducible refine t_st_quotes true (by assumption) (by assumption) (by first | assumption | decide +kernel) ?_; intro _ _) | (with_reducible refine t_st_escape false (by assumption) (by assumption) (by first | assumption | decide +kernel) ?_; intro _ _) | (with_reducible refine t_st_escape true (by assumption) (by assumption) (by first | assumption | decide +kernel) ?_; intro _ _) | (with_reducible refine t_st_escapedquotes false (by assumption) (by assumption) (by first | assumption | decide +kernel) ?_; intro _ _) | (with_reducible refine t_st_escapedquotes true (by assumption) (by assumption) (by first | assumption | decide +kernel) ?_; intro _ _) | (with_reducible refine t_state_tup false (by assumption) (by assumption) (by first | assumption | decide +kernel) ?_; intro _ _) | (with_reducible refine t_state_tup true (by assumption) (by assumption) (by first | assumption | decide +kernel) ?_; intro _ _) | (with_reducible refine t_nc_state false (by assumption) (by assumption) (by first | assumption | decide +kernel) ?_; intro _ _) | (with_reducible refine t_nc_state true (by assumption) (by assumption) (by first | assumption | decide +kernel) ?_; intro _ _) | (with_reducible refine t_debug false (by assumption) (by assumption) (by first | assumption | decide +kernel) ?_; intro _ _) | (with_reducible refine t_debug true (by assumption) (by assumption) (by first | assumption | decide +kernel) ?_; intro _ _) | (with_reducible refine t_nc_punct false (by assumption) (by assumption) (by first | assumption | decide +kernel) ?_; intro _ _) | (with_reducible refine t_nc_punct true (by assumption) (by assumption) (by first | assumption | decide +kernel) ?_; intro _ _) | (with_reducible refine t_nc_npunct false (by assumption) (by assumption) (by first | assumption | decide +kernel) ?_; intro _ _) | (with_reducible refine t_nc_npunct true (by assumption) (by assumption) (by first | assumption | decide +kernel) ?_; intro _ _) | (with_reducible refine t_not_nc false (by assumption) (by assumption) (by first | assumption | decide +kernel) (by first | assumption | decide +kernel) ?_; intro _ _) | (with_reducible refine t_token false (by assumption) (by assumption) (by assumption) (by assumption) ?_; intro _ _) | (with_reducible refine t_not_nc true (by assumption) (by assumption) (by first | assumption | decide +kernel) (by first | assumption | decide +kernel) ?_; intro _ _) | (with_reducible refine t_token true (by assumption) (by assumption) (by assumption) (by assumption) ?_; intro _ _) | (with_reducible refine t_quoted (by assumption) (by assumption) ?_) | (with_reducible refine s_token_add (by assumption) (by assumption) (by assumption) ?_; intro _ _) | (refine isTrue_not ?_))
  all_goals exact h _ (by assumption)
theorem turn_a_m {w : World} {outer : List Env} {g : Heap} {L : Addr} {sh dsh : Nat} {S : Sh} {ex : List (Addr × Obj)} {env : Env} {tok : Str} {q : Bool} {s : Shared} {A : Around} {E : Value → Shared → Prop} {Q : Flow → Shared → Prop} {o : Option Obj}
    (ho : (kk.heap_1 w.params).lookup 700 = o) (X : Ax w outer g L sh dsh ex env A) (R : RT g L sh dsh S ex (some (Str.ofString "a")) tok (Str.ofString "-") q s) (hc : inS S.cm (Str.ofString "-") = false) (hw : inS S.wc (Str.ofString "-") = false) (hl : tok.length + ((Str.ofString "-") : Str).length ≤ sizeLine) (h : ∀ s', RT g L sh dsh S ex (some (Str.ofString "a")) (tok ++ (Str.ofString "-")) (Str.ofString "-") q s' → Q .next s') :
    wpAny (Mod w) A (execs (drop3 (loopOf (bodyOf (fdOf o)))) env) Q E s := by
  rw [(by k_is : (kk.heap_1 w.params).lookup 700 = some _)] at ho
  subst ho
  dsimp only [drop3, loopOf, bodyOf, fdOf]
  have C := X.C
  repeat (first | with_reducible refine ex_cons ?_ | with_reducible refine ex_if ?_ | with_reducible refine q_then ?_ | with_reducible refine q_else ?_ | with_reducible refine q_next ?_ | with_reducible refine q_and1 ?_ | with_reducible refine q_and0 ?_ | with_reducible refine q_or1 ?_ | with_reducible refine q_or0 ?_ | with_reducible refine t_and ?_ | with_reducible refine t_or ?_ | with_reducible refine isTrue_and_nil ?_ | with_reducible refine isTrue_or_nil ?_ | with_reducible refine wpAny_execs_nil ?_ | with_reducible refine q_brk ?_ | with_reducible refine q_cont ?_ | with_reducible refine wpAny_Break ?_ | with_reducible refine wpAny_Continue ?_ | (with_reducible refine t_state_none (by assumption) (by assumption) ?_; intro _ _) | (with_reducible refine t_state_some (by assumption) (by assumption) ?_; intro _ _) | (with_reducible refine t_true_posix (by assumption) (by assumption) ?_; intro _ _) | (with_reducible refine t_true_split (by assumption) (by assumption) ?_; intro _ _) | (with_reducible refine t_not_posix (by assumption) (by assumption) ?_; intro _ _) | (with_reducible refine s_state_c (by assumption) (by assumption) ?_; intro _ _) | (with_reducible refine s_state_none (by assumption) (by assumption) ?_; intro _ _) | (with_reducible refine s_state_nc (by assumption) (by assumption) ?_; intro _ _) | (with_reducible refine s_token_nc (by assumption) (by assumption) ?_; intro _ _) | (with_reducible refine s_token_c (by assumption) (by assumption) ?_; intro _ _) | (with_reducible refine s_quoted (by assumption) (by assumption) ?_; intro _ _) | (with_reducible refine t_nc_whitespace false (by assumption) (by assumption) (by first | assumption | decide +kernel) ?_; intro _ _) | (with_reducible refine t_nc_whitespace true (by assumption) (by assumption) (by first | assumption | decide +kernel) ?_; intro _ _) | (with_reducible refine t_nc_commenters false (by assumption) (by assumption) (by first | assumption | decide +kernel) ?_; intro _ _) | (with_reducible refine t_nc_commenters true (by assumption) (by assumption) (by first | assumption | decide +kernel) ?_; intro _ _) | (with_reducible refine t_nc_wordchars false (by assumption) (by assumption) (by first | assumption | decide +kernel) ?_; intro _ _) | (with_reducible refine t_nc_wordchars true (by assumption) (by assumption) (by first | assumption | decide +kernel) ?_; intro _ _) | (with_reducible refine t_nc_quotes false (by assumption) (by assumption) (by first | assumption | decide +kernel) ?_; intro _ _) | (with_reducible refine t_nc_quotes true (by assumption) (by assumption) (by first | assumption | decide +kernel) ?_; intro _ _) | (with_reducible refine t_nc_escape false (by assumption) (by assumption) (by first | assumption | decide +kernel) ?_; intro _ _) | (with_reducible refine t_nc_escape true (by assumption) (by assumption) (by first | assumption | decide +kernel) ?_; intro _ _) | (with_reducible refine t_state_eq false (by assumption) (by assumption) (by first | assumption | decide +kernel) ?_; intro _ _) | (with_reducible refine t_state_eq true (by assumption) (by assumption) (by first | assumption | decide +kernel) ?_; intro _ _) | (with_reducible refine t_st_quotes false (by assumption) (by assumption) (by first | assumption | decide +kernel) ?_; intro _ _) | (with_reducible refine t_st_quotes true (by assumption) (by assumption) (by first | assumption | decide +kernel) ?_; intro _ _) | (with_reducible refine t_st_escape false (by assumption) (by assumption) (by first | assumption | decide +kernel) ?_; intro _ _) | (with_reducible refine t_st_escape true (by assumption) (by assumption) (by first | assumption | decide +kernel) ?_; intro _ _) | (with_reducible refine t_st_escapedquotes false (by assumption) (by assumption) (by first | assumption | decide +kernel) ?_; intro _ _) | (with_reducible refine t_st_escapedquotes true (by assumption) (by assumption) (by first | assumption | decide +kernel) ?_; intro _ _) | (with_reducible refine t_state_tup false (by assumption) (by assumption) (by first | assumption | decide +kernel) ?_; intro _ _) | (with_reducible refine t_state_tup true (by assumption) (by assumption) (by first | assumption | decide +kernel) ?_; intro _ _) | (with_reducible refine t_nc_state false (by assumption) (by assumption) (by first | assumption | decide +kernel) ?_; intro _ _) | (with_reducible refine t_nc_state true (by assumption) (by assumption) (by first | assumption | decide +kernel) ?_; intro _ _) | (with_reducible refine t_debug false (by assumption) (by assumption) (by first | assumption | decide +kernel) ?_; intro _ _) | (with_reducible refine t_debug true (by assumption) (by assumption) (by first | assumption | decide +kernel) ?_; intro _ _) | (with_reducible refine t_nc_punct false (by assumption) (by assumption) (by first | assumption | decide +kernel) ?_; intro _ _) | (with_reducible refine t_nc_punct true (by assumption) (by assumption) (by first | assumption | decide +kernel) ?_; intro _ _) | (with_reducible refine t_nc_npunct false (by assumption) (by assumption) (by first | assumption | decide +kernel) ?_; intro _ _) | (with_reducible refine t_nc_npunct true (by assumption) (by assumption) (by first | assumption | decide +kernel) ?_; intro _ _) | (with_reducible refine t_not_nc false (by assumption) (by assumption) (by first | assumption | decide +kernel) (by first | assumption | decide +kernel) ?_; intro _ _) | (with_reducible refine t_token false (by assumption) (by assumption) (by assumption) (by assumption) ?_; intro _ _) | (with_reducible refine t_not_nc true (by assumption) (by assumption) (by first | assumption | decide +kernel) (by first | assumption | decide +kernel) ?_; intro _ _) | (with_reducible refine t_token true (by assumption) (by assumption) (by assumption) (by assumption) ?_; intro _ _) | (with_reducible refine t_quoted (by assumption) (by assumption) ?_) | (with_reducible refine s_token_add (by assumption) (by assumption) (by assumption) ?_; intro _ _) | (refine isTrue_not ?_))
  all_goals exact h _ (by assumption)
theorem turn_a_q {w : World} {outer : List Env} {g : Heap} {L : Addr} {sh dsh : Nat} {S : Sh} {ex : List (Addr × Obj)} {env : Env} {tok : Str} {q : Bool} {s : Shared} {A : Around} {E : Value → Shared → Prop} {Q : Flow → Shared → Prop} {o : Option Obj}
    (ho : (kk.heap_1 w.params).lookup 700 = o) (X : Ax w outer g L sh dsh ex env A) (R : RT g L sh dsh S ex (some (Str.ofString "a")) tok (Str.ofString "'") q s) (hc : inS S.cm (Str.ofString "'") = false) (h : ∀ s', RT g L sh dsh S ex (some (Str.ofString "'")) tok (Str.ofString "'") q s' → Q .next s') :
    wpAny (Mod w) A (execs (drop3 (loopOf (bodyOf (fdOf o)))) env) Q E s := by
  rw [(by k_is : (kk.heap_1 w.params).lookup 700 = some _)] at ho
  subst ho
  dsimp only [drop3, loopOf, bodyOf, fdOf]
  have C := X.C
  repeat (first | with_reducible refine ex_cons ?_ | with_reducible refine ex_if ?_ | with_reducible refine q_then ?_ | with_reducible refine q_else ?_ | with_reducible refine q_next ?_ | with_reducible refine q_and1 ?_ | with_reducible refine q_and0 ?_ | with_reducible refine q_or1 ?_ | with_reducible refine q_or0 ?_ | with_reducible refine t_and ?_ | with_reducible refine t_or ?_ | with_reducible refine isTrue_and_nil ?_ | with_reducible refine isTrue_or_nil ?_ | with_reducible refine wpAny_execs_nil ?_ | with_reducible refine q_brk ?_ | with_reducible refine q_cont ?_ | with_reducible refine wpAny_Break ?_ | with_reducible refine wpAny_Continue ?_ | (with_reducible refine t_state_none (by assumption) (by assumption) ?_; intro _ _) | (with_reducible refine t_state_some (by assumption) (by assumption) ?_; intro _ _) | (with_reducible refine t_true_posix (by assumption) (by assumption) ?_; intro _ _) | (with_reducible refine t_true_split (by assumption) (by assumption) ?_; intro _ _) | (with_reducible refine t_not_posix (by assumption) (by assumption) ?_; intro _ _) | (with_reducible refine s_state_c (by assumption) (by assumption) ?_; intro _ _) | (with_reducible refine s_state_none (by assumption) (by assumption) ?_; intro _ _) | (with_reducible refine s_state_nc (by assumption) (by assumption) ?_; intro _ _) | (with_reducible refine s_token_nc (by assumption) (by assumption) ?_; intro _ _) | (with_reducible refine s_token_c (by assumption) (by assumption) ?_; intro _ _) | (with_reducible refine s_quoted (by assumption) (by assumption) ?_; intro _ _) | (with_reducible refine t_nc_whitespace false (by assumption) (by assumption) (by first | assumption | decide +kernel) ?_; intro _ _) | (with_reducible refine t_nc_whitespace true (by assumption) (by assumption) (by first | assumption | decide +kernel) ?_; intro _ _) | (with_reducible refine t_nc_commenters false (by assumption) (by assumption) (by first | assumption | decide +kernel) ?_; intro _ _) | (with_reducible refine t_nc_commenters true (by assumption) (by assumption) (by first | assumption | decide +kernel) ?_; intro _ _) | (with_reducible refine t_nc_wordchars false (by assumption) (by assumption) (by first | assumption | decide +kernel) ?_; intro _ _) | (with_reducible refine t_nc_wordchars true (by assumption) (by assumption) (by first | assumption | decide +kernel) ?_; intro _ _) | (with_reducible refine t_nc_quotes false (by assumption) (by assumption) (by first | assumption | decide +kernel) ?_; intro _ _) | (with_reducible refine t_nc_quotes true (by assumption) (by assumption) (by first | assumption | decide +kernel) ?_; intro _ _) | (with_reducible refine t_nc_escape false (by assumption) (by assumption) (by first | assumption | decide +kernel) ?_; intro _ _) | (with_reducible refine t_nc_escape true (by assumption) (by assumption) (by first | assumption | decide +kernel) ?_; intro _ _) | (with_reducible refine t_state_eq false (by assumption) (by assumption) (by first | assumption | decide +kernel) ?_; intro _ _) | (with_reducible refine t_state_eq true (by assumption) (by assumption) (by first | assumption | decide +kernel) ?_; intro _ _) | (with_reducible refine t_st_quotes false (by assumption) (by assumption) (by first | assumption | decide +kernel) ?_; intro _ _) | (with_reducible refine t_st_quotes true (by assumption) (by assumption) (by first | assumption | decide +kernel) ?_; intro _ _) | (with_reducible refine t_st_escape false (by assumption) (by assumption) (by first | assumption | decide +kernel) ?_; intro _ _) | (with_reducible refine t_st_escape true (by assumption) (by assumption) (by first | assumption | decide +kernel) ?_; intro _ _) | (with_reducible refine t_st_escapedquotes false (by assumption) (by assumption) (by first | assumption | decide +kernel) ?_; intro _ _) | (with_reducible refine t_st_escapedquotes true (by assumption) (by assumption) (by first | assumption | decide +kernel) ?_; intro _ _) | (with_reducible refine t_state_tup false (by assumption) (by assumption) (by first | assumption | decide +kernel) ?_; intro _ _) | (with_reducible refine t_state_tup true (by assumption) (by assumption) (by first | assumption | decide +kernel) ?_; intro _ _) | (with_reducible refine t_nc_state false (by assumption) (by assumption) (by first | assumption | decide +kernel) ?_; intro _ _) | (with_reducible refine t_nc_state true (by assumption) (by assumption) (by first | assumption | decide +kernel) ?_; intro _ _) | (with_reducible refine t_debug false (by assumption) (by assumption) (by first | assumption | decide +kernel) ?_; intro _ _) | (with_reducible refine t_debug true (by assumption) (by assumption) (by first | assumption | decide +kernel) ?_; intro _ _) | (with_reducible refine t_nc_punct false (by assumption) (by assumption) (by first | assumption | decide +kernel) ?_; intro _ _) | (with_reducible refine t_nc_punct true (by assumption) (by assumption) (by first | assumption | decide +kernel) ?_; intro _ _) | (with_reducible refine t_nc_npunct false (by assumption) (by assumption) (by first | assumption | decide +kernel) ?_; intro _ _) | (with_reducible refine t_nc_npunct true (by assumption) (by assumption) (by first | assumption | decide +kernel) ?_; intro _ _) | (with_reducible refine t_not_nc false (by assumption) (by assumption) (by first | assumption | decide +kernel) (by first | assumption | decide +kernel) ?_; intro _ _) | (with_reducible refine t_token false (by assumption) (by assumption) (by assumption) (by assumption) ?_; intro _ _) | (with_reducible refine t_not_nc true (by assumption) (by assumption) (by first | assumption | decide +kernel) (by first | assumption | decide +kernel) ?_; intro _ _) | (with_reducible refine t_token true (by assumption) (by assumption) (by assumption) (by assumption) ?_; intro _ _) | (with_reducible refine t_quoted (by assumption) (by assumption) ?_) | (with_reducible refine s_token_add (by assumption) (by assumption) (by assumption) ?_; intro _ _) | (refine isTrue_not ?_))
  all_goals exact h _ (by assumption)
theorem turn_a_d {w : World} {outer : List Env} {g : Heap} {L : Addr} {sh dsh : Nat} {S : Sh} {ex : List (Addr × Obj)} {env : Env} {tok : Str} {q : Bool} {s : Shared} {A : Around} {E : Value → Shared → Prop} {Q : Flow → Shared → Prop} {o : Option Obj}
    (ho : (kk.heap_1 w.params).lookup 700 = o) (X : Ax w outer g L sh dsh ex env A) (R : RT g L sh dsh S ex (some (Str.ofString "a")) tok (Str.ofString "\"") q s) (hc : inS S.cm (Str.ofString "\"") = false) (h : ∀ s', RT g L sh dsh S ex (some (Str.ofString "\"")) tok (Str.ofString "\"") q s' → Q .next s') :
    wpAny (Mod w) A (execs (drop3 (loopOf (bodyOf (fdOf o)))) env) Q E s := by
  rw [(by k_is : (kk.heap_1 w.params).lookup 700 = some _)] at ho
  subst ho
  dsimp only [drop3, loopOf, bodyOf, fdOf]
  have C := X.C
  repeat (first | with_reducible refine ex_cons ?_ | with_reducible refine ex_if ?_ | with_reducible refine q_then ?_ | with_reducible refine q_else ?_ | with_reducible refine q_next ?_ | with_reducible refine q_and1 ?_ | with_reducible refine q_and0 ?_ | with_reducible refine q_or1 ?_ | with_reducible refine q_or0 ?_ | with_reducible refine t_and ?_ | with_reducible refine t_or ?_ | with_reducible refine isTrue_and_nil ?_ | with_reducible refine isTrue_or_nil ?_ | with_reducible refine wpAny_execs_nil ?_ | with_reducible refine q_brk ?_ | with_reducible refine q_cont ?_ | with_reducible refine wpAny_Break ?_ | with_reducible refine wpAny_Continue ?_ | (with_reducible refine t_state_none (by assumption) (by assumption) ?_; intro _ _) | (with_reducible refine t_state_some (by assumption) (by assumption) ?_; intro _ _) | (with_reducible refine t_true_posix (by assumption) (by assumption) ?_; intro _ _) | (with_reducible refine t_true_split (by assumption) (by assumption) ?_; intro _ _) | (with_reducible refine t_not_posix (by assumption) (by assumption) ?_; intro _ _) | (with_reducible refine s_state_c (by assumption) (by assumption) ?_; intro _ _) | (with_reducible refine s_state_none (by assumption) (by assumption) ?_; intro _ _) | (with_reducible refine s_state_nc (by assumption) (by assumption) ?_; intro _ _) | (with_reducible refine s_token_nc (by assumption) (by assumption) ?_; intro _ _) | (with_reducible refine s_token_c (by assumption) (by assumption) ?_; intro _ _) | (with_reducible refine s_quoted (by assumption) (by assumption) ?_; intro _ _) | (with_reducible refine t_nc_whitespace false (by assumption) (by assumption) (by first | assumption | decide +kernel) ?_; intro _ _) | (with_reducible refine t_nc_whitespace true (by assumption) (by assumption) (by first | assumption | decide +kernel) ?_; intro _ _) | (with_reducible refine t_nc_commenters false (by assumption) (by assumption) (by first | assumption | decide +kernel) ?_; intro _ _) | (with_reducible refine t_nc_commenters true (by assumption) (by assumption) (by first | assumption | decide +kernel) ?_; intro _ _) | (with_reducible refine t_nc_wordchars false (by assumption) (by assumption) (by first | assumption | decide +kernel) ?_; intro _ _) | (with_reducible refine t_nc_wordchars true (by assumption) (by assumption) (by first | assumption | decide +kernel) ?_; intro _ _) | (with_reducible refine t_nc_quotes false (by assumption) (by assumption) (by first | assumption | decide +kernel) ?_; intro _ _) | (with_reducible refine t_nc_quotes true (by assumption) (by assumption) (by first | assumption | decide +kernel) ?_; intro _ _) | (with_reducible refine t_nc_escape false (by assumption) (by assumption) (by first | assumption | decide +kernel) ?_; intro _ _) | (with_reducible refine t_nc_escape true (by assumption) (by assumption) (by first | assumption | decide +kernel) ?_; intro _ _) | (with_reducible refine t_state_eq false (by assumption) (by assumption) (by first | assumption | decide +kernel) ?_; intro _ _) | (with_reducible refine t_state_eq true (by assumption) (by assumption) (by first | assumption | decide +kernel) ?_; intro _ _) | (with_reducible refine t_st_quotes false (by assumption) (by assumption) (by first | assumption | decide +kernel) ?_; intro _ _) | (with_reducible refine t_st_quotes true (by assumption) (by assumption) (by first | assumption | decide +kernel) ?_; intro _ _) | (with_reducible refine t_st_escape false (by assumption) (by assumption) (by first | assumption | decide +kernel) ?_; intro _ _) | (with_reducible refine t_st_escape true (by assumption) (by assumption) (by first | assumption | decide +kernel) ?_; intro _ _) | (with_reducible refine t_st_escapedquotes false (by assumption) (by assumption) (by first | assumption | decide +kernel) ?_; intro _ _) | (with_reducible refine t_st_escapedquotes true (by assumption) (by assumption) (by first | assumption | decide +kernel) ?_; intro _ _) | (with_reducible refine t_state_tup false (by assumption) (by assumption) (by first | assumption | decide +kernel) ?_; intro _ _) | (with_reducible refine t_state_tup true (by assumption) (by assumption) (by first | assumption | decide +kernel) ?_; intro _ _) | (with_reducible refine t_nc_state false (by assumption) (by assumption) (by first | assumption | decide +kernel) ?_; intro _ _) | (with_reducible refine t_nc_state true (by assumption) (by assumption) (by first | assumption | decide +kernel) ?_; intro _ _) | (with_reducible refine t_debug false (by assumption) (by assumption) (by first | assumption | decide +kernel) ?_; intro _ _) | (with_reducible refine t_debug true (by assumption) (by assumption) (by first | assumption | decide +kernel) ?_; intro _ _) | (with_reducible refine t_nc_punct false (by assumption) (by assumption) (by first | assumption | decide +kernel) ?_; intro _ _) | (with_reducible refine t_nc_punct true (by assumption) (by assumption) (by first | assumption | decide +kernel) ?_; intro _ _) | (with_reducible refine t_nc_npunct false (by assumption) (by assumption) (by first | assumption | decide +kernel) ?_; intro _ _) | (with_reducible refine t_nc_npunct true (by assumption) (by assumption) (by first | assumption | decide +kernel) ?_; intro _ _) | (with_reducible refine t_not_nc false (by assumption) (by assumption) (by first | assumption | decide +kernel) (by first | assumption | decide +kernel) ?_; intro _ _) | (with_reducible refine t_token false (by assumption) (by assumption) (by assumption) (by assumption) ?_; intro _ _) | (with_reducible refine t_not_nc true (by assumption) (by assumption) (by first | assumption | decide +kernel) (by first | assumption | decide +kernel) ?_; intro _ _) | (with_reducible refine t_token true (by assumption) (by assumption) (by assumption) (by assumption) ?_; intro _ _) | (with_reducible refine t_quoted (by assumption) (by assumption) ?_) | (with_reducible refine s_token_add (by assumption) (by assumption) (by assumption) ?_; intro _ _) | (refine isTrue_not ?_))
  all_goals exact h _ (by assumption)
theorem turn_a_e {w : World} {outer : List Env} {g : Heap} {L : Addr} {sh dsh : Nat} {S : Sh} {ex : List (Addr × Obj)} {env : Env} {tok : Str} {q : Bool} {s : Shared} {A : Around} {E : Value → Shared → Prop} {Q : Flow → Shared → Prop} {o : Option Obj}
    (ho : (kk.heap_1 w.params).lookup 700 = o) (X : Ax w outer g L sh dsh ex env A) (R : RT g L sh dsh S ex (some (Str.ofString "a")) tok (Str.ofString "") q s) (h : ∀ s', RT g L sh dsh S ex none tok (Str.ofString "") q s' → Q .brk s') :
    wpAny (Mod w) A (execs (drop3 (loopOf (bodyOf (fdOf o)))) env) Q E s := by
  rw [(by k_is : (kk.heap_1 w.params).lookup 700 = some _)] at ho
  subst ho
  dsimp only [drop3, loopOf, bodyOf, fdOf]
  have C := X.C
  repeat (first | with_reducible refine ex_cons ?_ | with_reducible refine ex_if ?_ | with_reducible refine q_then ?_ | with_reducible refine q_else ?_ | with_reducible refine q_next ?_ | with_reducible refine q_and1 ?_ | with_reducible refine q_and0 ?_ | with_reducible refine q_or1 ?_ | with_reducible refine q_or0 ?_ | with_reducible refine t_and ?_ | with_reducible refine t_or ?_ | with_reducible refine isTrue_and_nil ?_ | with_reducible refine isTrue_or_nil ?_ | with_reducible refine wpAny_execs_nil ?_ | with_reducible refine q_brk ?_ | with_reducible refine q_cont ?_ | with_reducible refine wpAny_Break ?_ | with_reducible refine wpAny_Continue ?_ | (with_reducible refine t_state_none (by assumption) (by assumption) ?_; intro _ _) | (with_reducible refine t_state_some (by assumption) (by assumption) ?_; intro _ _) | (with_reducible refine t_true_posix (by assumption) (by assumption) ?_; intro _ _) | (with_reducible refine t_true_split (by assumption) (by assumption) ?_; intro _ _) | (with_reducible refine t_not_posix (by assumption) (by assumption) ?_; intro _ _) | (with_reducible refine s_state_c (by assumption) (by assumption) ?_; intro _ _) | (with_reducible refine s_state_none (by assumption) (by assumption) ?_; intro _ _) | (with_reducible refine s_state_nc (by assumption) (by assumption) ?_; intro _ _) | (with_reducible refine s_token_nc (by assumption) (by assumption) ?_; intro _ _) | (with_reducible refine s_token_c (by assumption) (by assumption) ?_; intro _ _) | (with_reducible refine s_quoted (by assumption) (by assumption) ?_; intro _ _) | (with_reducible refine t_nc_whitespace false (by assumption) (by assumption) (by first | assumption | decide +kernel) ?_; intro _ _) | (with_reducible refine t_nc_whitespace true (by assumption) (by assumption) (by first | assumption | decide +kernel) ?_; intro _ _) | (with_reducible refine t_nc_commenters false (by assumption) (by assumption) (by first | assumption | decide +kernel) ?_; intro _ _) | (with_reducible refine t_nc_commenters true (by assumption) (by assumption) (by first | assumption | decide +kernel) ?_; intro _ _) | (with_reducible refine t_nc_wordchars false (by assumption) (by assumption) (by first | assumption | decide +kernel) ?_; intro _ _) | (with_reducible refine t_nc_wordchars true (by assumption) (by assumption) (by first | assumption | decide +kernel) ?_; intro _ _) | (with_reducible refine t_nc_quotes false (by assumption) (by assumption) (by first | assumption | decide +kernel) ?_; intro _ _) | (with_reducible refine t_nc_quotes true (by assumption) (by assumption) (by first | assumption | decide +kernel) ?_; intro _ _) | (with_reducible refine t_nc_escape false (by assumption) (by assumption) (by first | assumption | decide +kernel) ?_; intro _ _) | (with_reducible refine t_nc_escape true (by assumption) (by assumption) (by first | assumption | decide +kernel) ?_; intro _ _) | (with_reducible refine t_state_eq false (by assumption) (by assumption) (by first | assumption | decide +kernel) ?_; intro _ _) | (with_reducible refine t_state_eq true (by assumption) (by assumption) (by first | assumption | decide +kernel) ?_; intro _ _) | (with_reducible refine t_st_quotes false (by assumption) (by assumption) (by first | assumption | decide +kernel) ?_; intro _ _) | (with_reducible refine t_st_quotes true (by assumption) (by assumption) (by first | assumption | decide +kernel) ?_; intro _ _) | (with_reducible refine t_st_escape false (by assumption) (by assumption) (by first | assumption | decide +kernel) ?_; intro _ _) | (with_reducible refine t_st_escape true (by assumption) (by assumption) (by first | assumption | decide +kernel) ?_; intro _ _) | (with_reducible refine t_st_escapedquotes false (by assumption) (by assumption) (by first | assumption | decide +kernel) ?_; intro _ _) | (with_reducible refine t_st_escapedquotes true (by assumption) (by assumption) (by first | assumption | decide +kernel) ?_; intro _ _) | (with_reducible refine t_state_tup false (by assumption) (by assumption) (by first | assumption | decide +kernel) ?_; intro _ _) | (with_reducible refine t_state_tup true (by assumption) (by assumption) (by first | assumption | decide +kernel) ?_; intro _ _) | (with_reducible refine t_nc_state false (by assumption) (by assumption) (by first | assumption | decide +kernel) ?_; intro _ _) | (with_reducible refine t_nc_state true (by assumption) (by assumption) (by first | assumption | decide +kernel) ?_; intro _ _) | (with_reducible refine t_debug false (by assumption) (by assumption) (by first | assumption | decide +kernel) ?_; intro _ _) | (with_reducible refine t_debug true (by assumption) (by assumption) (by first | assumption | decide +kernel) ?_; intro _ _) | (with_reducible refine t_nc_punct false (by assumption) (by assumption) (by first | assumption | decide +kernel) ?_; intro _ _) | (with_reducible refine t_nc_punct true (by assumption) (by assumption) (by first | assumption | decide +kernel) ?_; intro _ _) | (with_reducible refine t_nc_npunct false (by assumption) (by assumption) (by first | assumption | decide +kernel) ?_; intro _ _) | (with_reducible refine t_nc_npunct true (by assumption) (by assumption) (by first | assumption | decide +kernel) ?_; intro _ _) | (with_reducible refine t_not_nc false (by assumption) (by assumption) (by first | assumption | decide +kernel) (by first | assumption | decide +kernel) ?_; intro _ _) | (with_reducible refine t_token false (by assumption) (by assumption) (by assumption) (by assumption) ?_; intro _ _) | (with_reducible refine t_not_nc true (by assumption) (by assumption) (by first | assumption | decide +kernel) (by first | assumption | decide +kernel) ?_; intro _ _) | (with_reducible refine t_token true (by assumption) (by assumption) (by assumption) (by assumption) ?_; intro _ _) | (with_reducible refine t_quoted (by assumption) (by assumption) ?_) | (with_reducible refine s_token_add (by assumption) (by assumption) (by assumption) ?_; intro _ _) | (refine isTrue_not ?_))
  all_goals exact h _ (by assumption)
theorem turn_a_sp1 {w : World} {outer : List Env} {g : Heap} {L : Addr} {sh dsh : Nat} {S : Sh} {ex : List (Addr × Obj)} {env : Env} {tok : Str} {q : Bool} {s : Shared} {A : Around} {E : Value → Shared → Prop} {Q : Flow → Shared → Prop} {o : Option Obj}
    (ho : (kk.heap_1 w.params).lookup 700 = o) (X : Ax w outer g L sh dsh ex env A) (R : RT g L sh dsh S ex (some (Str.ofString "a")) tok (Str.ofString " ") q s) (hb : (!decide (tok.length = 0)) = true) (hl : tok.length ≤ 16777216) (h : ∀ s', RT g L sh dsh S ex (some (Str.ofString " ")) tok (Str.ofString " ") q s' → Q .brk s') :
    wpAny (Mod w) A (execs (drop3 (loopOf (bodyOf (fdOf o)))) env) Q E s := by
  rw [(by k_is : (kk.heap_1 w.params).lookup 700 = some _)] at ho
  subst ho
  dsimp only [drop3, loopOf, bodyOf, fdOf]
  have C := X.C
  repeat (first | with_reducible refine ex_cons ?_ | with_reducible refine ex_if ?_ | with_reducible refine q_then ?_ | with_reducible refine q_else ?_ | with_reducible refine q_next ?_ | with_reducible refine q_and1 ?_ | with_reducible refine q_and0 ?_ | with_reducible refine q_or1 ?_ | with_reducible refine q_or0 ?_ | with_reducible refine t_and ?_ | with_reducible refine t_or ?_ | with_reducible refine isTrue_and_nil ?_ | with_reducible refine isTrue_or_nil ?_ | with_reducible refine wpAny_execs_nil ?_ | with_reducible refine q_brk ?_ | with_reducible refine q_cont ?_ | with_reducible refine wpAny_Break ?_ | with_reducible refine wpAny_Continue ?_ | (with_reducible refine t_state_none (by assumption) (by assumption) ?_; intro _ _) | (with_reducible refine t_state_some (by assumption) (by assumption) ?_; intro _ _) | (with_reducible refine t_true_posix (by assumption) (by assumption) ?_; intro _ _) | (with_reducible refine t_true_split (by assumption) (by assumption) ?_; intro _ _) | (with_reducible refine t_not_posix (by assumption) (by assumption) ?_; intro _ _) | (with_reducible refine s_state_c (by assumption) (by assumption) ?_; intro _ _) | (with_reducible refine s_state_none (by assumption) (by assumption) ?_; intro _ _) | (with_reducible refine s_state_nc (by assumption) (by assumption) ?_; intro _ _) | (with_reducible refine s_token_nc (by assumption) (by assumption) ?_; intro _ _) | (with_reducible refine s_token_c (by assumption) (by assumption) ?_; intro _ _) | (with_reducible refine s_quoted (by assumption) (by assumption) ?_; intro _ _) | (with_reducible refine t_nc_whitespace false (by assumption) (by assumption) (by first | assumption | decide +kernel) ?_; intro _ _) | (with_reducible refine t_nc_whitespace true (by assumption) (by assumption) (by first | assumption | decide +kernel) ?_; intro _ _) | (with_reducible refine t_nc_commenters false (by assumption) (by assumption) (by first | assumption | decide +kernel) ?_; intro _ _) | (with_reducible refine t_nc_commenters true (by assumption) (by assumption) (by first | assumption | decide +kernel) ?_; intro _ _) | (with_reducible refine t_nc_wordchars false (by assumption) (by assumption) (by first | assumption | decide +kernel) ?_; intro _ _) | (with_reducible refine t_nc_wordchars true (by assumption) (by assumption) (by first | assumption | decide +kernel) ?_; intro _ _) | (with_reducible refine t_nc_quotes false (by assumption) (by assumption) (by first | assumption | decide +kernel) ?_; intro _ _) | (with_reducible refine t_nc_quotes true (by assumption) (by assumption) (by first | assumption | decide +kernel) ?_; intro _ _) | (with_reducible refine t_nc_escape false (by assumption) (by assumption) (by first | assumption | decide +kernel) ?_; intro _ _) | (with_reducible refine t_nc_escape true (by assumption) (by assumption) (by first | assumption | decide +kernel) ?_; intro _ _) | (with_reducible refine t_state_eq false (by assumption) (by assumption) (by first | assumption | decide +kernel) ?_; intro _ _) | (with_reducible refine t_state_eq true (by assumption) (by assumption) (by first | assumption | decide +kernel) ?_; intro _ _) | (with_reducible refine t_st_quotes false (by assumption) (by assumption) (by first | assumption | decide +kernel) ?_; intro _ _) | (with_reducible refine t_st_quotes true (by assumption) (by assumption) (by first | assumption | decide +kernel) ?_; intro _ _) | (with_reducible refine t_st_escape false (by assumption) (by assumption) (by first | assumption | decide +kernel) ?_; intro _ _) | (with_reducible refine t_st_escape true (by assumption) (by assumption) (by first | assumption | decide +kernel) ?_; intro _ _) | (with_reducible refine t_st_escapedquotes false (by assumption) (by assumption) (by first | assumption | decide +kernel) ?_; intro _ _) | (with_reducible refine t_st_escapedquotes true (by assumption) (by assumption) (by first | assumption | decide +kernel) ?_; intro _ _) | (with_reducible refine t_state_tup false (by assumption) (by assumption) (by first | assumption | decide +kernel) ?_; intro _ _) | (with_reducible refine t_state_tup true (by assumption) (by assumption) (by first | assumption | decide +kernel) ?_; intro _ _) | (with_reducible refine t_nc_state false (by assumption) (by assumption) (by first | assumption | decide +kernel) ?_; intro _ _) | (with_reducible refine t_nc_state true (by assumption) (by assumption) (by first | assumption | decide +kernel) ?_; intro _ _) | (with_reducible refine t_debug false (by assumption) (by assumption) (by first | assumption | decide +kernel) ?_; intro _ _) | (with_reducible refine t_debug true (by assumption) (by assumption) (by first | assumption | decide +kernel) ?_; intro _ _) | (with_reducible refine t_nc_punct false (by assumption) (by assumption) (by first | assumption | decide +kernel) ?_; intro _ _) | (with_reducible refine t_nc_punct true (by assumption) (by assumption) (by first | assumption | decide +kernel) ?_; intro _ _) | (with_reducible refine t_nc_npunct false (by assumption) (by assumption) (by first | assumption | decide +kernel) ?_; intro _ _) | (with_reducible refine t_nc_npunct true (by assumption) (by assumption) (by first | assumption | decide +kernel) ?_; intro _ _) | (with_reducible refine t_not_nc false (by assumption) (by assumption) (by first | assumption | decide +kernel) (by first | assumption | decide +kernel) ?_; intro _ _) | (with_reducible refine t_token false (by assumption) (by assumption) (by assumption) (by assumption) ?_; intro _ _) | (with_reducible refine t_not_nc true (by assumption) (by assumption) (by first | assumption | decide +kernel) (by first | assumption | decide +kernel) ?_; intro _ _) | (with_reducible refine t_token true (by assumption) (by assumption) (by assumption) (by assumption) ?_; intro _ _) | (with_reducible refine t_quoted (by assumption) (by assumption) ?_) | (with_reducible refine s_token_add (by assumption) (by assumption) (by assumption) ?_; intro _ _) | (refine isTrue_not ?_))
  all_goals exact h _ (by assumption)
theorem turn_a_sp2 {w : World} {outer : List Env} {g : Heap} {L : Addr} {sh dsh : Nat} {S : Sh} {ex : List (Addr × Obj)} {env : Env} {tok : Str} {q : Bool} {s : Shared} {A : Around} {E : Value → Shared → Prop} {Q : Flow → Shared → Prop} {o : Option Obj}
    (ho : (kk.heap_1 w.params).lookup 700 = o) (X : Ax w outer g L sh dsh ex env A) (R : RT g L sh dsh S ex (some (Str.ofString "a")) tok (Str.ofString " ") true s) (hb : (!decide (tok.length = 0)) = false) (hl : tok.length ≤ 16777216) (h : ∀ s', RT g L sh dsh S ex (some (Str.ofString " ")) tok (Str.ofString " ") true s' → Q .brk s') :
    wpAny (Mod w) A (execs (drop3 (loopOf (bodyOf (fdOf o)))) env) Q E s := by
  rw [(by k_is : (kk.heap_1 w.params).lookup 700 = some _)] at ho
  subst ho
  dsimp only [drop3, loopOf, bodyOf, fdOf]
  have C := X.C
  repeat (first | with_reducible refine ex_cons ?_ | with_reducible refine ex_if ?_ | with_reducible refine q_then ?_ | with_reducible refine q_else ?_ | with_reducible refine q_next ?_ | with_reducible refine q_and1 ?_ | with_reducible refine q_and0 ?_ | with_reducible refine q_or1 ?_ | with_reducible refine q_or0 ?_ | with_reducible refine t_and ?_ | with_reducible refine t_or ?_ | with_reducible refine isTrue_and_nil ?_ | with_reducible refine isTrue_or_nil ?_ | with_reducible refine wpAny_execs_nil ?_ | with_reducible refine q_brk ?_ | with_reducible refine q_cont ?_ | with_reducible refine wpAny_Break ?_ | with_reducible refine wpAny_Continue ?_ | (with_reducible refine t_state_none (by assumption) (by assumption) ?_; intro _ _) | (with_reducible refine t_state_some (by assumption) (by assumption) ?_; intro _ _) | (with_reducible refine t_true_posix (by assumption) (by assumption) ?_; intro _ _) | (with_reducible refine t_true_split (by assumption) (by assumption) ?_; intro _ _) | (with_reducible refine t_not_posix (by assumption) (by assumption) ?_; intro _ _) | (with_reducible refine s_state_c (by assumption) (by assumption) ?_; intro _ _) | (with_reducible refine s_state_none (by assumption) (by assumption) ?_; intro _ _) | (with_reducible refine s_state_nc (by assumption) (by assumption) ?_; intro _ _) | (with_reducible refine s_token_nc (by assumption) (by assumption) ?_; intro _ _) | (with_reducible refine s_token_c (by assumption) (by assumption) ?_; intro _ _) | (with_reducible refine s_quoted (by assumption) (by assumption) ?_; intro _ _) | (with_reducible refine t_nc_whitespace false (by assumption) (by assumption) (by first | assumption | decide +kernel) ?_; intro _ _) | (with_reducible refine t_nc_whitespace true (by assumption) (by assumption) (by first | assumption | decide +kernel) ?_; intro _ _) | (with_reducible refine t_nc_commenters false (by assumption) (by assumption) (by first | assumption | decide +kernel) ?_; intro _ _) | (with_reducible refine t_nc_commenters true (by assumption) (by assumption) (by first | assumption | decide +kernel) ?_; intro _ _) | (with_reducible refine t_nc_wordchars false (by assumption) (by assumption) (by first | assumption | decide +kernel) ?_; intro _ _) | (with_reducible refine t_nc_wordchars true (by assumption) (by assumption) (by first | assumption | decide +kernel) ?_; intro _ _) | (with_reducible refine t_nc_quotes false (by assumption) (by assumption) (by first | assumption | decide +kernel) ?_; intro _ _) | (with_reducible refine t_nc_quotes true (by assumption) (by assumption) (by first | assumption | decide +kernel) ?_; intro _ _) | (with_reducible refine t_nc_escape false (by assumption) (by assumption) (by first | assumption | decide +kernel) ?_; intro _ _) | (with_reducible refine t_nc_escape true (by assumption) (by assumption) (by first | assumption | decide +kernel) ?_; intro _ _) | (with_reducible refine t_state_eq false (by assumption) (by assumption) (by first | assumption | decide +kernel) ?_; intro _ _) | (with_reducible refine t_state_eq true (by assumption) (by assumption) (by first | assumption | decide +kernel) ?_; intro _ _) | (with_reducible refine t_st_quotes false (by assumption) (by assumption) (by first | assumption | decide +kernel) ?_; intro _ _) | (with_reducible refine t_st_quotes true (by assumption) (by assumption) (by first | assumption | decide +kernel) ?_; intro _ _) | (with_reducible refine t_st_escape false (by assumption) (by assumption) (by first | assumption | decide +kernel) ?_; intro _ _) | (with_reducible refine t_st_escape true (by assumption) (by assumption) (by first | assumption | decide +kernel) ?_; intro _ _) | (with_reducible refine t_st_escapedquotes false (by assumption) (by assumption) (by first | assumption | decide +kernel) ?_; intro _ _) | (with_reducible refine t_st_escapedquotes true (by assumption) (by assumption) (by first | assumption | decide +kernel) ?_; intro _ _) | (with_reducible refine t_state_tup false (by assumption) (by assumption) (by first | assumption | decide +kernel) ?_; intro _ _) | (with_reducible refine t_state_tup true (by assumption) (by assumption) (by first | assumption | decide +kernel) ?_; intro _ _) | (with_reducible refine t_nc_state false (by assumption) (by assumption) (by first | assumption | decide +kernel) ?_; intro _ _) | (with_reducible refine t_nc_state true (by assumption) (by assumption) (by first | assumption | decide +kernel) ?_; intro _ _) | (with_reducible refine t_debug false (by assumption) (by assumption) (by first | assumption | decide +kernel) ?_; intro _ _) | (with_reducible refine t_debug true (by assumption) (by assumption) (by first | assumption | decide +kernel) ?_; intro _ _) | (with_reducible refine t_nc_punct false (by assumption) (by assumption) (by first | assumption | decide +kernel) ?_; intro _ _) | (with_reducible refine t_nc_punct true (by assumption) (by assumption) (by first | assumption | decide +kernel) ?_; intro _ _) | (with_reducible refine t_nc_npunct false (by assumption) (by assumption) (by first | assumption | decide +kernel) ?_; intro _ _) | (with_reducible refine t_nc_npunct true (by assumption) (by assumption) (by first | assumption | decide +kernel) ?_; intro _ _) | (with_reducible refine t_not_nc false (by assumption) (by assumption) (by first | assumption | decide +kernel) (by first | assumption | decide +kernel) ?_; intro _ _) | (with_reducible refine t_token false (by assumption) (by assumption) (by assumption) (by assumption) ?_; intro _ _) | (with_reducible refine t_not_nc true (by assumption) (by assumption) (by first | assumption | decide +kernel) (by first | assumption | decide +kernel) ?_; intro _ _) | (with_reducible refine t_token true (by assumption) (by assumption) (by assumption) (by assumption) ?_; intro _ _) | (with_reducible refine t_quoted (by assumption) (by assumption) ?_) | (with_reducible refine s_token_add (by assumption) (by assumption) (by assumption) ?_; intro _ _) | (refine isTrue_not ?_))
  all_goals exact h _ (by assumption)
theorem turn_q_q {w : World} {outer : List Env} {g : Heap} {L : Addr} {sh dsh : Nat} {S : Sh} {ex : List (Addr × Obj)} {env : Env} {tok : Str} {q : Bool} {s : Shared} {A : Around} {E : Value → Shared → Prop} {Q : Flow → Shared → Prop} {o : Option Obj}
    (ho : (kk.heap_1 w.params).lookup 700 = o) (X : Ax w outer g L sh dsh ex env A) (R : RT g L sh dsh S ex (some (Str.ofString "'")) tok (Str.ofString "'") q s) (h : ∀ s', RT g L sh dsh S ex (some (Str.ofString "a")) tok (Str.ofString "'") true s' → Q .next s') :
    wpAny (Mod w) A (execs (drop3 (loopOf (bodyOf (fdOf o)))) env) Q E s := by
  rw [(by k_is : (kk.heap_1 w.params).lookup 700 = some _)] at ho
  subst ho
  dsimp only [drop3, loopOf, bodyOf, fdOf]
  have C := X.C
  repeat (first | with_reducible refine ex_cons ?_ | with_reducible refine ex_if ?_ | with_reducible refine q_then ?_ | with_reducible refine q_else ?_ | with_reducible refine q_next ?_ | with_reducible refine q_and1 ?_ | with_reducible refine q_and0 ?_ | with_reducible refine q_or1 ?_ | with_reducible refine q_or0 ?_ | with_reducible refine t_and ?_ | with_reducible refine t_or ?_ | with_reducible refine isTrue_and_nil ?_ | with_reducible refine isTrue_or_nil ?_ | with_reducible refine wpAny_execs_nil ?_ | with_reducible refine q_brk ?_ | with_reducible refine q_cont ?_ | with_reducible refine wpAny_Break ?_ | with_reducible refine wpAny_Continue ?_ | (with_reducible refine t_state_none (by assumption) (by assumption) ?_; intro _ _) | (with_reducible refine t_state_some (by assumption) (by assumption) ?_; intro _ _) | (with_reducible refine t_true_posix (by assumption) (by assumption) ?_; intro _ _) | (with_reducible refine t_true_split (by assumption) (by assumption) ?_; intro _ _) | (with_reducible refine t_not_posix (by assumption) (by assumption) ?_; intro _ _) | (with_reducible refine s_state_c (by assumption) (by assumption) ?_; intro _ _) | (with_reducible refine s_state_none (by assumption) (by assumption) ?_; intro _ _) | (with_reducible refine s_state_nc (by assumption) (by assumption) ?_; intro _ _) | (with_reducible refine s_token_nc (by assumption) (by assumption) ?_; intro _ _) | (with_reducible refine s_token_c (by assumption) (by assumption) ?_; intro _ _) | (with_reducible refine s_quoted (by assumption) (by assumption) ?_; intro _ _) | (with_reducible refine t_nc_whitespace false (by assumption) (by assumption) (by first | assumption | decide +kernel) ?_; intro _ _) | (with_reducible refine t_nc_whitespace true (by assumption) (by assumption) (by first | assumption | decide +kernel) ?_; intro _ _) | (with_reducible refine t_nc_commenters false (by assumption) (by assumption) (by first | assumption | decide +kernel) ?_; intro _ _) | (with_reducible refine t_nc_commenters true (by assumption) (by assumption) (by first | assumption | decide +kernel) ?_; intro _ _) | (with_reducible refine t_nc_wordchars false (by assumption) (by assumption) (by first | assumption | decide +kernel) ?_; intro _ _) | (with_reducible refine t_nc_wordchars true (by assumption) (by assumption) (by first | assumption | decide +kernel) ?_; intro _ _) | (with_reducible refine t_nc_quotes false (by assumption) (by assumption) (by first | assumption | decide +kernel) ?_; intro _ _) | (with_reducible refine t_nc_quotes true (by assumption) (by assumption) (by first | assumption | decide +kernel) ?_; intro _ _) | (with_reducible refine t_nc_escape false (by assumption) (by assumption) (by first | assumption | decide +kernel) ?_; intro _ _) | (with_reducible refine t_nc_escape true (by assumption) (by assumption) (by first | assumption | decide +kernel) ?_; intro _ _) | (with_reducible refine t_state_eq false (by assumption) (by assumption) (by first | assumption | decide +kernel) ?_; intro _ _) | (with_reducible refine t_state_eq true (by assumption) (by assumption) (by first | assumption | decide +kernel) ?_; intro _ _) | (with_reducible refine t_st_quotes false (by assumption) (by assumption) (by first | assumption | decide +kernel) ?_; intro _ _) | (with_reducible refine t_st_quotes true (by assumption) (by assumption) (by first | assumption | decide +kernel) ?_; intro _ _) | (with_reducible refine t_st_escape false (by assumption) (by assumption) (by first | assumption | decide +kernel) ?_; intro _ _) | (with_reducible refine t_st_escape true (by assumption) (by assumption) (by first | assumption | decide +kernel) ?_; intro _ _) | (with_reducible refine t_st_escapedquotes false (by assumption) (by assumption) (by first | assumption | decide +kernel) ?_; intro _ _) | (with_reducible refine t_st_escapedquotes true (by assumption) (by assumption) (by first | assumption | decide +kernel) ?_; intro _ _) | (with_reducible refine t_state_tup false (by assumption) (by assumption) (by first | assumption | decide +kernel) ?_; intro _ _) | (with_reducible refine t_state_tup true (by assumption) (by assumption) (by first | assumption | decide +kernel) ?_; intro _ _) | (with_reducible refine t_nc_state false (by assumption) (by assumption) (by first | assumption | decide +kernel) ?_; intro _ _) | (with_reducible refine t_nc_state true (by assumption) (by assumption) (by first | assumption | decide +kernel) ?_; intro _ _) | (with_reducible refine t_debug false (by assumption) (by assumption) (by first | assumption | decide +kernel) ?_; intro _ _) | (with_reducible refine t_debug true (by assumption) (by assumption) (by first | assumption | decide +kernel) ?_; intro _ _) | (with_reducible refine t_nc_punct false (by assumption) (by assumption) (by first | assumption | decide +kernel) ?_; intro _ _) | (with_reducible refine t_nc_punct true (by assumption) (by assumption) (by first | assumption | decide +kernel) ?_; intro _ _) | (with_reducible refine t_nc_npunct false (by assumption) (by assumption) (by first | assumption | decide +kernel) ?_; intro _ _) | (with_reducible refine t_nc_npunct true (by assumption) (by assumption) (by first | assumption | decide +kernel) ?_; intro _ _) | (with_reducible refine t_not_nc false (by assumption) (by assumption) (by first | assumption | decide +kernel) (by first | assumption | decide +kernel) ?_; intro _ _) | (with_reducible refine t_token false (by assumption) (by assumption) (by assumption) (by assumption) ?_; intro _ _) | (with_reducible refine t_not_nc true (by assumption) (by assumption) (by first | assumption | decide +kernel) (by first | assumption | decide +kernel) ?_; intro _ _) | (with_reducible refine t_token true (by assumption) (by assumption) (by assumption) (by assumption) ?_; intro _ _) | (with_reducible refine t_quoted (by assumption) (by assumption) ?_) | (with_reducible refine s_token_add (by assumption) (by assumption) (by assumption) ?_; intro _ _) | (refine isTrue_not ?_))
  all_goals exact h _ (by assumption)
theorem turn_q_c {w : World} {outer : List Env} {g : Heap} {L : Addr} {sh dsh : Nat} {S : Sh} {ex : List (Addr × Obj)} {env : Env} {tok : Str} {q : Bool} {s : Shared} {A : Around} {E : Value → Shared → Prop} {Q : Flow → Shared → Prop} {o : Option Obj} {nc : Str}
    (ho : (kk.heap_1 w.params).lookup 700 = o) (X : Ax w outer g L sh dsh ex env A) (R : RT g L sh dsh S ex (some (Str.ofString "'")) tok nc q s) (h1 : decide (nc.length = 0) = false) (h1l : nc.length ≤ 16777216) (h2 : (nc == (Str.ofString "'")) = false) (h3 : inS (Str.ofString "\\") nc = false) (hl : tok.length + (nc : Str).length ≤ sizeLine) (h : ∀ s', RT g L sh dsh S ex (some (Str.ofString "'")) (tok ++ nc) nc true s' → Q .next s') :
    wpAny (Mod w) A (execs (drop3 (loopOf (bodyOf (fdOf o)))) env) Q E s := by
  rw [(by k_is : (kk.heap_1 w.params).lookup 700 = some _)] at ho
  subst ho
  dsimp only [drop3, loopOf, bodyOf, fdOf]
  have C := X.C
  repeat (first | with_reducible refine ex_cons ?_ | with_reducible refine ex_if ?_ | with_reducible refine q_then ?_ | with_reducible refine q_else ?_ | with_reducible refine q_next ?_ | with_reducible refine q_and1 ?_ | with_reducible refine q_and0 ?_ | with_reducible refine q_or1 ?_ | with_reducible refine q_or0 ?_ | with_reducible refine t_and ?_ | with_reducible refine t_or ?_ | with_reducible refine isTrue_and_nil ?_ | with_reducible refine isTrue_or_nil ?_ | with_reducible refine wpAny_execs_nil ?_ | with_reducible refine q_brk ?_ | with_reducible refine q_cont ?_ | with_reducible refine wpAny_Break ?_ | with_reducible refine wpAny_Continue ?_ | (with_reducible refine t_state_none (by assumption) (by assumption) ?_; intro _ _) | (with_reducible refine t_state_some (by assumption) (by assumption) ?_; intro _ _) | (with_reducible refine t_true_posix (by assumption) (by assumption) ?_; intro _ _) | (with_reducible refine t_true_split (by assumption) (by assumption) ?_; intro _ _) | (with_reducible refine t_not_posix (by assumption) (by assumption) ?_; intro _ _) | (with_reducible refine s_state_c (by assumption) (by assumption) ?_; intro _ _) | (with_reducible refine s_state_none (by assumption) (by assumption) ?_; intro _ _) | (with_reducible refine s_state_nc (by assumption) (by assumption) ?_; intro _ _) | (with_reducible refine s_token_nc (by assumption) (by assumption) ?_; intro _ _) | (with_reducible refine s_token_c (by assumption) (by assumption) ?_; intro _ _) | (with_reducible refine s_quoted (by assumption) (by assumption) ?_; intro _ _) | (with_reducible refine t_nc_whitespace false (by assumption) (by assumption) (by first | assumption | decide +kernel) ?_; intro _ _) | (with_reducible refine t_nc_whitespace true (by assumption) (by assumption) (by first | assumption | decide +kernel) ?_; intro _ _) | (with_reducible refine t_nc_commenters false (by assumption) (by assumption) (by first | assumption | decide +kernel) ?_; intro _ _) | (with_reducible refine t_nc_commenters true (by assumption) (by assumption) (by first | assumption | decide +kernel) ?_; intro _ _) | (with_reducible refine t_nc_wordchars false (by assumption) (by assumption) (by first | assumption | decide +kernel) ?_; intro _ _) | (with_reducible refine t_nc_wordchars true (by assumption) (by assumption) (by first | assumption | decide +kernel) ?_; intro _ _) | (with_reducible refine t_nc_quotes false (by assumption) (by assumption) (by first | assumption | decide +kernel) ?_; intro _ _) | (with_reducible refine t_nc_quotes true (by assumption) (by assumption) (by first | assumption | decide +kernel) ?_; intro _ _) | (with_reducible refine t_nc_escape false (by assumption) (by assumption) (by first | assumption | decide +kernel) ?_; intro _ _) | (with_reducible refine t_nc_escape true (by assumption) (by assumption) (by first | assumption | decide +kernel) ?_; intro _ _) | (with_reducible refine t_state_eq false (by assumption) (by assumption) (by first | assumption | decide +kernel) ?_; intro _ _) | (with_reducible refine t_state_eq true (by assumption) (by assumption) (by first | assumption | decide +kernel) ?_; intro _ _) | (with_reducible refine t_st_quotes false (by assumption) (by assumption) (by first | assumption | decide +kernel) ?_; intro _ _) | (with_reducible refine t_st_quotes true (by assumption) (by assumption) (by first | assumption | decide +kernel) ?_; intro _ _) | (with_reducible refine t_st_escape false (by assumption) (by assumption) (by first | assumption | decide +kernel) ?_; intro _ _) | (with_reducible refine t_st_escape true (by assumption) (by assumption) (by first | assumption | decide +kernel) ?_; intro _ _) | (with_reducible refine t_st_escapedquotes false (by assumption) (by assumption) (by first | assumption | decide +kernel) ?_; intro _ _) | (with_reducible refine t_st_escapedquotes true (by assumption) (by assumption) (by first | assumption | decide +kernel) ?_; intro _ _) | (with_reducible refine t_state_tup false (by assumption) (by assumption) (by first | assumption | decide +kernel) ?_; intro _ _) | (with_reducible refine t_state_tup true (by assumption) (by assumption) (by first | assumption | decide +kernel) ?_; intro _ _) | (with_reducible refine t_nc_state false (by assumption) (by assumption) (by first | assumption | decide +kernel) ?_; intro _ _) | (with_reducible refine t_nc_state true (by assumption) (by assumption) (by first | assumption | decide +kernel) ?_; intro _ _) | (with_reducible refine t_debug false (by assumption) (by assumption) (by first | assumption | decide +kernel) ?_; intro _ _) | (with_reducible refine t_debug true (by assumption) (by assumption) (by first | assumption | decide +kernel) ?_; intro _ _) | (with_reducible refine t_nc_punct false (by assumption) (by assumption) (by first | assumption | decide +kernel) ?_; intro _ _) | (with_reducible refine t_nc_punct true (by assumption) (by assumption) (by first | assumption | decide +kernel) ?_; intro _ _) | (with_reducible refine t_nc_npunct false (by assumption) (by assumption) (by first | assumption | decide +kernel) ?_; intro _ _) | (with_reducible refine t_nc_npunct true (by assumption) (by assumption) (by first | assumption | decide +kernel) ?_; intro _ _) | (with_reducible refine t_not_nc false (by assumption) (by assumption) (by first | assumption | decide +kernel) (by first | assumption | decide +kernel) ?_; intro _ _) | (with_reducible refine t_token false (by assumption) (by assumption) (by assumption) (by assumption) ?_; intro _ _) | (with_reducible refine t_not_nc true (by assumption) (by assumption) (by first | assumption | decide +kernel) (by first | assumption | decide +kernel) ?_; intro _ _) | (with_reducible refine t_token true (by assumption) (by assumption) (by assumption) (by assumption) ?_; intro _ _) | (with_reducible refine t_quoted (by assumption) (by assumption) ?_) | (with_reducible refine s_token_add (by assumption) (by assumption) (by assumption) ?_; intro _ _) | (refine isTrue_not ?_))
  all_goals exact h _ (by assumption)
theorem turn_q_b {w : World} {outer : List Env} {g : Heap} {L : Addr} {sh dsh : Nat} {S : Sh} {ex : List (Addr × Obj)} {env : Env} {tok : Str} {q : Bool} {s : Shared} {A : Around} {E : Value → Shared → Prop} {Q : Flow → Shared → Prop} {o : Option Obj}
    (ho : (kk.heap_1 w.params).lookup 700 = o) (X : Ax w outer g L sh dsh ex env A) (R : RT g L sh dsh S ex (some (Str.ofString "'")) tok (Str.ofString "\\") q s) (hl : tok.length + ((Str.ofString "\\") : Str).length ≤ sizeLine) (h : ∀ s', RT g L sh dsh S ex (some (Str.ofString "'")) (tok ++ (Str.ofString "\\")) (Str.ofString "\\") true s' → Q .next s') :
    wpAny (Mod w) A (execs (drop3 (loopOf (bodyOf (fdOf o)))) env) Q E s := by
  rw [(by k_is : (kk.heap_1 w.params).lookup 700 = some _)] at ho
  subst ho
  dsimp only [drop3, loopOf, bodyOf, fdOf]
  have C := X.C
  repeat (first | with_reducible refine ex_cons ?_ | with_reducible refine ex_if ?_ | with_reducible refine q_then ?_ | with_reducible refine q_else ?_ | with_reducible refine q_next ?_ | with_reducible refine q_and1 ?_ | with_reducible refine q_and0 ?_ | with_reducible refine q_or1 ?_ | with_reducible refine q_or0 ?_ | with_reducible refine t_and ?_ | with_reducible refine t_or ?_ | with_reducible refine isTrue_and_nil ?_ | with_reducible refine isTrue_or_nil ?_ | with_reducible refine wpAny_execs_nil ?_ | with_reducible refine q_brk ?_ | with_reducible refine q_cont ?_ | with_reducible refine wpAny_Break ?_ | with_reducible refine wpAny_Continue ?_ | (with_reducible refine t_state_none (by assumption) (by assumption) ?_; intro _ _) | (with_reducible refine t_state_some (by assumption) (by assumption) ?_; intro _ _) | (with_reducible refine t_true_posix (by assumption) (by assumption) ?_; intro _ _) | (with_reducible refine t_true_split (by assumption) (by assumption) ?_; intro _ _) | (with_reducible refine t_not_posix (by assumption) (by assumption) ?_; intro _ _) | (with_reducible refine s_state_c (by assumption) (by assumption) ?_; intro _ _) | (with_reducible refine s_state_none (by assumption) (by assumption) ?_; intro _ _) | (with_reducible refine s_state_nc (by assumption) (by assumption) ?_; intro _ _) | (with_reducible refine s_token_nc (by assumption) (by assumption) ?_; intro _ _) | (with_reducible refine s_token_c (by assumption) (by assumption) ?_; intro _ _) | (with_reducible refine s_quoted (by assumption) (by assumption) ?_; intro _ _) | (with_reducible refine t_nc_whitespace false (by assumption) (by assumption) (by first | assumption | decide +kernel) ?_; intro _ _) | (with_reducible refine t_nc_whitespace true (by assumption) (by assumption) (by first | assumption | decide +kernel) ?_; intro _ _) | (with_reducible refine t_nc_commenters false (by assumption) (by assumption) (by first | assumption | decide +kernel) ?_; intro _ _) | (with_reducible refine t_nc_commenters true (by assumption) (by assumption) (by first | assumption | decide +kernel) ?_; intro _ _) | (with_reducible refine t_nc_wordchars false (by assumption) (by assumption) (by first | assumption | decide +kernel) ?_; intro _ _) | (with_reducible refine t_nc_wordchars true (by assumption) (by assumption) (by first | assumption | decide +kernel) ?_; intro _ _) | (with_reducible refine t_nc_quotes false (by assumption) (by assumption) (by first | assumption | decide +kernel) ?_; intro _ _) | (with_reducible refine t_nc_quotes true (by assumption) (by assumption) (by first | assumption | decide +kernel) ?_; intro _ _) | (with_reducible refine t_nc_escape false (by assumption) (by assumption) (by first | assumption | decide +kernel) ?_; intro _ _) | (with_reducible refine t_nc_escape true (by assumption) (by assumption) (by first | assumption | decide +kernel) ?_; intro _ _) | (with_reducible refine t_state_eq false (by assumption) (by assumption) (by first | assumption | decide +kernel) ?_; intro _ _) | (with_reducible refine t_state_eq true (by assumption) (by assumption) (by first | assumption | decide +kernel) ?_; intro _ _) | (with_reducible refine t_st_quotes false (by assumption) (by assumption) (by first | assumption | decide +kernel) ?_; intro _ _) | (with_reducible refine t_st_quotes true (by assumption) (by assumption) (by first | assumption | decide +kernel) ?_; intro _ _) | (with_reducible refine t_st_escape false (by assumption) (by assumption) (by first | assumption | decide +kernel) ?_; intro _ _) | (with_reducible refine t_st_escape true (by assumption) (by assumption) (by first | assumption | decide +kernel) ?_; intro _ _) | (with_reducible refine t_st_escapedquotes false (by assumption) (by assumption) (by first | assumption | decide +kernel) ?_; intro _ _) | (with_reducible refine t_st_escapedquotes true (by assumption) (by assumption) (by first | assumption | decide +kernel) ?_; intro _ _) | (with_reducible refine t_state_tup false (by assumption) (by assumption) (by first | assumption | decide +kernel) ?_; intro _ _) | (with_reducible refine t_state_tup true (by assumption) (by assumption) (by first | assumption | decide +kernel) ?_; intro _ _) | (with_reducible refine t_nc_state false (by assumption) (by assumption) (by first | assumption | decide +kernel) ?_; intro _ _) | (with_reducible refine t_nc_state true (by assumption) (by assumption) (by first | assumption | decide +kernel) ?_; intro _ _) | (with_reducible refine t_debug false (by assumption) (by assumption) (by first | assumption | decide +kernel) ?_; intro _ _) | (with_reducible refine t_debug true (by assumption) (by assumption) (by first | assumption | decide +kernel) ?_; intro _ _) | (with_reducible refine t_nc_punct false (by assumption) (by assumption) (by first | assumption | decide +kernel) ?_; intro _ _) | (with_reducible refine t_nc_punct true (by assumption) (by assumption) (by first | assumption | decide +kernel) ?_; intro _ _) | (with_reducible refine t_nc_npunct false (by assumption) (by assumption) (by first | assumption | decide +kernel) ?_; intro _ _) | (with_reducible refine t_nc_npunct true (by assumption) (by assumption) (by first | assumption | decide +kernel) ?_; intro _ _) | (with_reducible refine t_not_nc false (by assumption) (by assumption) (by first | assumption | decide +kernel) (by first | assumption | decide +kernel) ?_; intro _ _) | (with_reducible refine t_token false (by assumption) (by assumption) (by assumption) (by assumption) ?_; intro _ _) | (with_reducible refine t_not_nc true (by assumption) (by assumption) (by first | assumption | decide +kernel) (by first | assumption | decide +kernel) ?_; intro _ _) | (with_reducible refine t_token true (by assumption) (by assumption) (by assumption) (by assumption) ?_; intro _ _) | (with_reducible refine t_quoted (by assumption) (by assumption) ?_) | (with_reducible refine s_token_add (by assumption) (by assumption) (by assumption) ?_; intro _ _) | (refine isTrue_not ?_))
  all_goals exact h _ (by assumption)
theorem turn_d_q {w : World} {outer : List Env} {g : Heap} {L : Addr} {sh dsh : Nat} {S : Sh} {ex : List (Addr × Obj)} {env : Env} {tok : Str} {q : Bool} {s : Shared} {A : Around} {E : Value → Shared → Prop} {Q : Flow → Shared → Prop} {o : Option Obj}
    (ho : (kk.heap_1 w.params).lookup 700 = o) (X : Ax w outer g L sh dsh ex env A) (R : RT g L sh dsh S ex (some (Str.ofString "\"")) tok (Str.ofString "'") q s) (hl : tok.length + ((Str.ofString "'") : Str).length ≤ sizeLine) (h : ∀ s', RT g L sh dsh S ex (some (Str.ofString "\"")) (tok ++ (Str.ofString "'")) (Str.ofString "'") true s' → Q .next s') :
    wpAny (Mod w) A (execs (drop3 (loopOf (bodyOf (fdOf o)))) env) Q E s := by
  rw [(by k_is : (kk.heap_1 w.params).lookup 700 = some _)] at ho
  subst ho
  dsimp only [drop3, loopOf, bodyOf, fdOf]
  have C := X.C
  repeat (first | with_reducible refine ex_cons ?_ | with_reducible refine ex_if ?_ | with_reducible refine q_then ?_ | with_reducible refine q_else ?_ | with_reducible refine q_next ?_ | with_reducible refine q_and1 ?_ | with_reducible refine q_and0 ?_ | with_reducible refine q_or1 ?_ | with_reducible refine q_or0 ?_ | with_reducible refine t_and ?_ | with_reducible refine t_or ?_ | with_reducible refine isTrue_and_nil ?_ | with_reducible refine isTrue_or_nil ?_ | with_reducible refine wpAny_execs_nil ?_ | with_reducible refine q_brk ?_ | with_reducible refine q_cont ?_ | with_reducible refine wpAny_Break ?_ | with_reducible refine wpAny_Continue ?_ | (with_reducible refine t_state_none (by assumption) (by assumption) ?_; intro _ _) | (with_reducible refine t_state_some (by assumption) (by assumption) ?_; intro _ _) | (with_reducible refine t_true_posix (by assumption) (by assumption) ?_; intro _ _) | (with_reducible refine t_true_split (by assumption) (by assumption) ?_; intro _ _) | (with_reducible refine t_not_posix (by assumption) (by assumption) ?_; intro _ _) | (with_reducible refine s_state_c (by assumption) (by assumption) ?_; intro _ _) | (with_reducible refine s_state_none (by assumption) (by assumption) ?_; intro _ _) | (with_reducible refine s_state_nc (by assumption) (by assumption) ?_; intro _ _) | (with_reducible refine s_token_nc (by assumption) (by assumption) ?_; intro _ _) | (with_reducible refine s_token_c (by assumption) (by assumption) ?_; intro _ _) | (with_reducible refine s_quoted (by assumption) (by assumption) ?_; intro _ _) | (with_reducible refine t_nc_whitespace false (by assumption) (by assumption) (by first | assumption | decide +kernel) ?_; intro _ _) | (with_reducible refine t_nc_whitespace true (by assumption) (by assumption) (by first | assumption | decide +kernel) ?_; intro _ _) | (with_reducible refine t_nc_commenters false (by assumption) (by assumption) (by first | assumption | decide +kernel) ?_; intro _ _) | (with_reducible refine t_nc_commenters true (by assumption) (by assumption) (by first | assumption | decide +kernel) ?_; intro _ _) | (with_reducible refine t_nc_wordchars false (by assumption) (by assumption) (by first | assumption | decide +kernel) ?_; intro _ _) | (with_reducible refine t_nc_wordchars true (by assumption) (by assumption) (by first | assumption | decide +kernel) ?_; intro _ _) | (with_reducible refine t_nc_quotes false (by assumption) (by assumption) (by first | assumption | decide +kernel) ?_; intro _ _) | (with_reducible refine t_nc_quotes true (by assumption) (by assumption) (by first | assumption | decide +kernel) ?_; intro _ _) | (with_reducible refine t_nc_escape false (by assumption) (by assumption) (by first | assumption | decide +kernel) ?_; intro _ _) | (with_reducible refine t_nc_escape true (by assumption) (by assumption) (by first | assumption | decide +kernel) ?_; intro _ _) | (with_reducible refine t_state_eq false (by assumption) (by assumption) (by first | assumption | decide +kernel) ?_; intro _ _) | (with_reducible refine t_state_eq true (by assumption) (by assumption) (by first | assumption | decide +kernel) ?_; intro _ _) | (with_reducible refine t_st_quotes false (by assumption) (by assumption) (by first | assumption | decide +kernel) ?_; intro _ _) | (with_reducible refine t_st_quotes true (by assumption) (by assumption) (by first | assumption | decide +kernel) ?_; intro _ _) | (with_reducible refine t_st_escape false (by assumption) (by assumption) (by first | assumption | decide +kernel) ?_; intro _ _) | (with_reducible refine t_st_escape true (by assumption) (by assumption) (by first | assumption | decide +kernel) ?_; intro _ _) | (with_reducible refine t_st_escapedquotes false (by assumption) (by assumption) (by first | assumption | decide +kernel) ?_; intro _ _) | (with_reducible refine t_st_escapedquotes true (by assumption) (by assumption) (by first | assumption | decide +kernel) ?_; intro _ _) | (with_reducible refine t_state_tup false (by assumption) (by assumption) (by first | assumption | decide +kernel) ?_; intro _ _) | (with_reducible refine t_state_tup true (by assumption) (by assumption) (by first | assumption | decide +kernel) ?_; intro _ _) | (with_reducible refine t_nc_state false (by assumption) (by assumption) (by first | assumption | decide +kernel) ?_; intro _ _) | (with_reducible refine t_nc_state true (by assumption) (by assumption) (by first | assumption | decide +kernel) ?_; intro _ _) | (with_reducible refine t_debug false (by assumption) (by assumption) (by first | assumption | decide +kernel) ?_; intro _ _) | (with_reducible refine t_debug true (by assumption) (by assumption) (by first | assumption | decide +kernel) ?_; intro _ _) | (with_reducible refine t_nc_punct false (by assumption) (by assumption) (by first | assumption | decide +kernel) ?_; intro _ _) | (with_reducible refine t_nc_punct true (by assumption) (by assumption) (by first | assumption | decide +kernel) ?_; intro _ _) | (with_reducible refine t_nc_npunct false (by assumption) (by assumption) (by first | assumption | decide +kernel) ?_; intro _ _) | (with_reducible refine t_nc_npunct true (by assumption) (by assumption) (by first | assumption | decide +kernel) ?_; intro _ _) | (with_reducible refine t_not_nc false (by assumption) (by assumption) (by first | assumption | decide +kernel) (by first | assumption | decide +kernel) ?_; intro _ _) | (with_reducible refine t_token false (by assumption) (by assumption) (by assumption) (by assumption) ?_; intro _ _) | (with_reducible refine t_not_nc true (by assumption) (by assumption) (by first | assumption | decide +kernel) (by first | assumption | decide +kernel) ?_; intro _ _) | (with_reducible refine t_token true (by assumption) (by assumption) (by assumption) (by assumption) ?_; intro _ _) | (with_reducible refine t_quoted (by assumption) (by assumption) ?_) | (with_reducible refine s_token_add (by assumption) (by assumption) (by assumption) ?_; intro _ _) | (refine isTrue_not ?_))
  all_goals exact h _ (by assumption)
theorem turn_d_d {w : World} {outer : List Env} {g : Heap} {L : Addr} {sh dsh : Nat} {S : Sh} {ex : List (Addr × Obj)} {env : Env} {tok : Str} {q : Bool} {s : Shared} {A : Around} {E : Value → Shared → Prop} {Q : Flow → Shared → Prop} {o : Option Obj}
    (ho : (kk.heap_1 w.params).lookup 700 = o) (X : Ax w outer g L sh dsh ex env A) (R : RT g L sh dsh S ex (some (Str.ofString "\"")) tok (Str.ofString "\"") q s) (h : ∀ s', RT g L sh dsh S ex (some (Str.ofString "a")) tok (Str.ofString "\"") true s' → Q .next s') :
    wpAny (Mod w) A (execs (drop3 (loopOf (bodyOf (fdOf o)))) env) Q E s := by
  rw [(by k_is : (kk.heap_1 w.params).lookup 700 = some _)] at ho
  subst ho
  dsimp only [drop3, loopOf, bodyOf, fdOf]
  have C := X.C
  repeat (first | with_reducible refine ex_cons ?_ | with_reducible refine ex_if ?_ | with_reducible refine q_then ?_ | with_reducible refine q_else ?_ | with_reducible refine q_next ?_ | with_reducible refine q_and1 ?_ | with_reducible refine q_and0 ?_ | with_reducible refine q_or1 ?_ | with_reducible refine q_or0 ?_ | with_reducible refine t_and ?_ | with_reducible refine t_or ?_ | with_reducible refine isTrue_and_nil ?_ | with_reducible refine isTrue_or_nil ?_ | with_reducible refine wpAny_execs_nil ?_ | with_reducible refine q_brk ?_ | with_reducible refine q_cont ?_ | with_reducible refine wpAny_Break ?_ | with_reducible refine wpAny_Continue ?_ | (with_reducible refine t_state_none (by assumption) (by assumption) ?_; intro _ _) | (with_reducible refine t_state_some (by assumption) (by assumption) ?_; intro _ _) | (with_reducible refine t_true_posix (by assumption) (by assumption) ?_; intro _ _) | (with_reducible refine t_true_split (by assumption) (by assumption) ?_; intro _ _) | (with_reducible refine t_not_posix (by assumption) (by assumption) ?_; intro _ _) | (with_reducible refine s_state_c (by assumption) (by assumption) ?_; intro _ _) | (with_reducible refine s_state_none (by assumption) (by assumption) ?_; intro _ _) | (with_reducible refine s_state_nc (by assumption) (by assumption) ?_; intro _ _) | (with_reducible refine s_token_nc (by assumption) (by assumption) ?_; intro _ _) | (with_reducible refine s_token_c (by assumption) (by assumption) ?_; intro _ _) | (with_reducible refine s_quoted (by assumption) (by assumption) ?_; intro _ _) | (with_reducible refine t_nc_whitespace false (by assumption) (by assumption) (by first | assumption | decide +kernel) ?_; intro _ _) | (with_reducible refine t_nc_whitespace true (by assumption) (by assumption) (by first | assumption | decide +kernel) ?_; intro _ _) | (with_reducible refine t_nc_commenters false (by assumption) (by assumption) (by first | assumption | decide +kernel) ?_; intro _ _) | (with_reducible refine t_nc_commenters true (by assumption) (by assumption) (by first | assumption | decide +kernel) ?_; intro _ _) | (with_reducible refine t_nc_wordchars false (by assumption) (by assumption) (by first | assumption | decide +kernel) ?_; intro _ _) | (with_reducible refine t_nc_wordchars true (by assumption) (by assumption) (by first | assumption | decide +kernel) ?_; intro _ _) | (with_reducible refine t_nc_quotes false (by assumption) (by assumption) (by first | assumption | decide +kernel) ?_; intro _ _) | (with_reducible refine t_nc_quotes true (by assumption) (by assumption) (by first | assumption | decide +kernel) ?_; intro _ _) | (with_reducible refine t_nc_escape false (by assumption) (by assumption) (by first | assumption | decide +kernel) ?_; intro _ _) | (with_reducible refine t_nc_escape true (by assumption) (by assumption) (by first | assumption | decide +kernel) ?_; intro _ _) | (with_reducible refine t_state_eq false (by assumption) (by assumption) (by first | assumption | decide +kernel) ?_; intro _ _) | (with_reducible refine t_state_eq true (by assumption) (by assumption) (by first | assumption | decide +kernel) ?_; intro _ _) | (with_reducible refine t_st_quotes false (by assumption) (by assumption) (by first | assumption | decide +kernel) ?_; intro _ _) | (with_reducible refine t_st_quotes true (by assumption) (by assumption) (by first | assumption | decide +kernel) ?_; intro _ _) | (with_reducible refine t_st_escape false (by assumption) (by assumption) (by first | assumption | decide +kernel) ?_; intro _ _) | (with_reducible refine t_st_escape true (by assumption) (by assumption) (by first | assumption | decide +kernel) ?_; intro _ _) | (with_reducible refine t_st_escapedquotes false (by assumption) (by assumption) (by first | assumption | decide +kernel) ?_; intro _ _) | (with_reducible refine t_st_escapedquotes true (by assumption) (by assumption) (by first | assumption | decide +kernel) ?_; intro _ _) | (with_reducible refine t_state_tup false (by assumption) (by assumption) (by first | assumption | decide +kernel) ?_; intro _ _) | (with_reducible refine t_state_tup true (by assumption) (by assumption) (by first | assumption | decide +kernel) ?_; intro _ _) | (with_reducible refine t_nc_state false (by assumption) (by assumption) (by first | assumption | decide +kernel) ?_; intro _ _) | (with_reducible refine t_nc_state true (by assumption) (by assumption) (by first | assumption | decide +kernel) ?_; intro _ _) | (with_reducible refine t_debug false (by assumption) (by assumption) (by first | assumption | decide +kernel) ?_; intro _ _) | (with_reducible refine t_debug true (by assumption) (by assumption) (by first | assumption | decide +kernel) ?_; intro _ _) | (with_reducible refine t_nc_punct false (by assumption) (by assumption) (by first | assumption | decide +kernel) ?_; intro _ _) | (with_reducible refine t_nc_punct true (by assumption) (by assumption) (by first | assumption | decide +kernel) ?_; intro _ _) | (with_reducible refine t_nc_npunct false (by assumption) (by assumption) (by first | assumption | decide +kernel) ?_; intro _ _) | (with_reducible refine t_nc_npunct true (by assumption) (by assumption) (by first | assumption | decide +kernel) ?_; intro _ _) | (with_reducible refine t_not_nc false (by assumption) (by assumption) (by first | assumption | decide +kernel) (by first | assumption | decide +kernel) ?_; intro _ _) | (with_reducible refine t_token false (by assumption) (by assumption) (by assumption) (by assumption) ?_; intro _ _) | (with_reducible refine t_not_nc true (by assumption) (by assumption) (by first | assumption | decide +kernel) (by first | assumption | decide +kernel) ?_; intro _ _) | (with_reducible refine t_token true (by assumption) (by assumption) (by assumption) (by assumption) ?_; intro _ _) | (with_reducible refine t_quoted (by assumption) (by assumption) ?_) | (with_reducible refine s_token_add (by assumption) (by assumption) (by assumption) ?_; intro _ _) | (refine isTrue_not ?_))
  all_goals exact h _ (by assumption)
theorem turn_n_e {w : World} {outer : List Env} {g : Heap} {L : Addr} {sh dsh : Nat} {S : Sh} {ex : List (Addr × Obj)} {env : Env} {tok : Str} {q : Bool} {s : Shared} {A : Around} {E : Value → Shared → Prop} {Q : Flow → Shared → Prop} {o : Option Obj}
    (ho : (kk.heap_1 w.params).lookup 700 = o) (X : Ax w outer g L sh dsh ex env A) (R : RT g L sh dsh S ex none tok (Str.ofString "") q s) (h : ∀ s', RT g L sh dsh S ex none (Str.ofString "") (Str.ofString "") q s' → Q .brk s') :
    wpAny (Mod w) A (execs (drop3 (loopOf (bodyOf (fdOf o)))) env) Q E s := by
  rw [(by k_is : (kk.heap_1 w.params).lookup 700 = some _)] at ho
  subst ho
  dsimp only [drop3, loopOf, bodyOf, fdOf]
  have C := X.C
  repeat (first | with_reducible refine ex_cons ?_ | with_reducible refine ex_if ?_ | with_reducible refine q_then ?_ | with_reducible refine q_else ?_ | with_reducible refine q_next ?_ | with_reducible refine q_and1 ?_ | with_reducible refine q_and0 ?_ | with_reducible refine q_or1 ?_ | with_reducible refine q_or0 ?_ | with_reducible refine t_and ?_ | with_reducible refine t_or ?_ | with_reducible refine isTrue_and_nil ?_ | with_reducible refine isTrue_or_nil ?_ | with_reducible refine wpAny_execs_nil ?_ | with_reducible refine q_brk ?_ | with_reducible refine q_cont ?_ | with_reducible refine wpAny_Break ?_ | with_reducible refine wpAny_Continue ?_ | (with_reducible refine t_state_none (by assumption) (by assumption) ?_; intro _ _) | (with_reducible refine t_state_some (by assumption) (by assumption) ?_; intro _ _) | (with_reducible refine t_true_posix (by assumption) (by assumption) ?_; intro _ _) | (with_reducible refine t_true_split (by assumption) (by assumption) ?_; intro _ _) | (with_reducible refine t_not_posix (by assumption) (by assumption) ?_; intro _ _) | (with_reducible refine s_state_c (by assumption) (by assumption) ?_; intro _ _) | (with_reducible refine s_state_none (by assumption) (by assumption) ?_; intro _ _) | (with_reducible refine s_state_nc (by assumption) (by assumption) ?_; intro _ _) | (with_reducible refine s_token_nc (by assumption) (by assumption) ?_; intro _ _) | (with_reducible refine s_token_c (by assumption) (by assumption) ?_; intro _ _) | (with_reducible refine s_quoted (by assumption) (by assumption) ?_; intro _ _) | (with_reducible refine t_nc_whitespace false (by assumption) (by assumption) (by first | assumption | decide +kernel) ?_; intro _ _) | (with_reducible refine t_nc_whitespace true (by assumption) (by assumption) (by first | assumption | decide +kernel) ?_; intro _ _) | (with_reducible refine t_nc_commenters false (by assumption) (by assumption) (by first | assumption | decide +kernel) ?_; intro _ _) | (with_reducible refine t_nc_commenters true (by assumption) (by assumption) (by first | assumption | decide +kernel) ?_; intro _ _) | (with_reducible refine t_nc_wordchars false (by assumption) (by assumption) (by first | assumption | decide +kernel) ?_; intro _ _) | (with_reducible refine t_nc_wordchars true (by assumption) (by assumption) (by first | assumption | decide +kernel) ?_; intro _ _) | (with_reducible refine t_nc_quotes false (by assumption) (by assumption) (by first | assumption | decide +kernel) ?_; intro _ _) | (with_reducible refine t_nc_quotes true (by assumption) (by assumption) (by first | assumption | decide +kernel) ?_; intro _ _) | (with_reducible refine t_nc_escape false (by assumption) (by assumption) (by first | assumption | decide +kernel) ?_; intro _ _) | (with_reducible refine t_nc_escape true (by assumption) (by assumption) (by first | assumption | decide +kernel) ?_; intro _ _) | (with_reducible refine t_state_eq false (by assumption) (by assumption) (by first | assumption | decide +kernel) ?_; intro _ _) | (with_reducible refine t_state_eq true (by assumption) (by assumption) (by first | assumption | decide +kernel) ?_; intro _ _) | (with_reducible refine t_st_quotes false (by assumption) (by assumption) (by first | assumption | decide +kernel) ?_; intro _ _) | (with_reducible refine t_st_quotes true (by assumption) (by assumption) (by first | assumption | decide +kernel) ?_; intro _ _) | (with_reducible refine t_st_escape false (by assumption) (by assumption) (by first | assumption | decide +kernel) ?_; intro _ _) | (with_reducible refine t_st_escape true (by assumption) (by assumption) (by first | assumption | decide +kernel) ?_; intro _ _) | (with_reducible refine t_st_escapedquotes false (by assumption) (by assumption) (by first | assumption | decide +kernel) ?_; intro _ _) | (with_reducible refine t_st_escapedquotes true (by assumption) (by assumption) (by first | assumption | decide +kernel) ?_; intro _ _) | (with_reducible refine t_state_tup false (by assumption) (by assumption) (by first | assumption | decide +kernel) ?_; intro _ _) | (with_reducible refine t_state_tup true (by assumption) (by assumption) (by first | assumption | decide +kernel) ?_; intro _ _) | (with_reducible refine t_nc_state false (by assumption) (by assumption) (by first | assumption | decide +kernel) ?_; intro _ _) | (with_reducible refine t_nc_state true (by assumption) (by assumption) (by first | assumption | decide +kernel) ?_; intro _ _) | (with_reducible refine t_debug false (by assumption) (by assumption) (by first | assumption | decide +kernel) ?_; intro _ _) | (with_reducible refine t_debug true (by assumption) (by assumption) (by first | assumption | decide +kernel) ?_; intro _ _) | (with_reducible refine t_nc_punct false (by assumption) (by assumption) (by first | assumption | decide +kernel) ?_; intro _ _) | (with_reducible refine t_nc_punct true (by assumption) (by assumption) (by first | assumption | decide +kernel) ?_; intro _ _) | (with_reducible refine t_nc_npunct false (by assumption) (by assumption) (by first | assumption | decide +kernel) ?_; intro _ _) | (with_reducible refine t_nc_npunct true (by assumption) (by assumption) (by first | assumption | decide +kernel) ?_; intro _ _) | (with_reducible refine t_not_nc false (by assumption) (by assumption) (by first | assumption | decide +kernel) (by first | assumption | decide +kernel) ?_; intro _ _) | (with_reducible refine t_token false (by assumption) (by assumption) (by assumption) (by assumption) ?_; intro _ _) | (with_reducible refine t_not_nc true (by assumption) (by assumption) (by first | assumption | decide +kernel) (by first | assumption | decide +kernel) ?_; intro _ _) | (with_reducible refine t_token true (by assumption) (by assumption) (by assumption) (by assumption) ?_; intro _ _) | (with_reducible refine t_quoted (by assumption) (by assumption) ?_) | (with_reducible refine s_token_add (by assumption) (by assumption) (by assumption) ?_; intro _ _) | (refine isTrue_not ?_))
  all_goals exact h _ (by assumption)
end
section
open PySem PySem.W PySem.Calls PyProof.Rows
theorem execs_app {M : Model} {A : Around} {E : Value → Shared → Prop} {env : Env} {r : List Stmt} {Q : Flow → Shared → Prop} : ∀ {l : List Stmt} {s : Shared}, wpAny M A (execs l env) (nextQ M A r env Q E) E s → wpAny M A (execs (l ++ r) env) Q E s := by
  intro l s h
  have e : ∀ l : List Stmt, execs (l ++ r) env = (execs l env >>= fun f => match f with | .next => execs r env | f => pure f) := by
    intro l
    induction l with
    | nil => rfl
    | cons a t ih =>
      show (exec a env >>= fun f => match f with | .next => execs (t ++ r) env | f => pure f) = ((exec a env >>= fun f => match f with | .next => execs t env | f => pure f) >>= _)
      rw [bind_assoc]
      refine congrArg _ (funext fun f => ?_)
      cases f with
      | next => exact ih
      | brk => rfl
      | cont => rfl
      | ret v => rfl
  rw [e]
  refine wpAny_bind (wpAny_mono h (fun f s' x => ?_) (fun _ _ x => x))
  cases f with
  | next => exact x
  | brk => exact wpAny_pure x
  | cont => exact wpAny_pure x
  | ret v => exact wpAny_pure x

def wcL : Str := Str.ofString "abcdfeghijklmnopqrstuvwxyzABCDEFGHIJKLMNOPQRSTUVWXYZ0123456789_ßàáâãäåæçèéêëìíîïðñòóôõöøùúûüýþÿÀÁÂÃÄÅÆÇÈÉÊËÌÍÎÏÐÑÒÓÔÕÖØÙÚÛÜÝÞ"
abbrev cSp : Str := Str.ofString " "
abbrev cA : Str := Str.ofString "a"
abbrev cM : Str := Str.ofString "-"
abbrev cQ : Str := Str.ofString "'"
abbrev cD : Str := Str.ofString "\""
abbrev cE : Str := Str.ofString ""
abbrev cB : Str := Str.ofString "\\"
inductive Stp : Option Str → Str → Bool → Str → Flow → Option Str → Str → Bool → Prop
  | sp_a (t q) : Stp (some cSp) t q cA .next (some cA) cA q
  | sp_m (t q) : Stp (some cSp) t q cM .next (some cA) cM q
  | sp_q (t q) : Stp (some cSp) t q cQ .next (some cQ) t q
  | sp_e (t q) : Stp (some cSp) t q cE .brk none t q
  | a_a (t q) : Stp (some cA) t q cA .next (some cA) (t ++ cA) q
  | a_m (t q) : Stp (some cA) t q cM .next (some cA) (t ++ cM) q
  | a_q (t q) : Stp (some cA) t q cQ .next (some cQ) t q
  | a_d (t q) : Stp (some cA) t q cD .next (some cD) t q
  | a_e (t q) : Stp (some cA) t q cE .brk none t q
  | a_sp1 (t q) : t.length ≠ 0 → Stp (some cA) t q cSp .brk (some cSp) t q
  | a_sp2 (t) : Stp (some cA) t true cSp .brk (some cSp) t true
  | q_q (t q) : Stp (some cQ) t q cQ .next (some cA) t true
  | q_c (t q) (c : Str) : c.length = 1 → (c == cQ) = false → inS cB c = false → Stp (some cQ) t q c .next (some cQ) (t ++ c) true
  | q_b (t q) : Stp (some cQ) t q cB .next (some cQ) (t ++ cB) true
  | d_q (t q) : Stp (some cD) t q cQ .next (some cD) (t ++ cQ) true
  | d_d (t q) : Stp (some cD) t q cD .next (some cA) t true
  | n_e (t q) : Stp none t q cE .brk none cE q
structure SOk (S : Sh) : Prop where
  cm : S.cm = cE ∨ S.cm = Str.ofString "#"
  wc : S.wc = wcL
theorem SOk.c {S : Sh} (h : SOk S) (c : Str) (h1 : inS cE c = false) (h2 : inS (Str.ofString "#") c = false) : inS S.cm c = false := by
  rcases h.cm with e | e <;> rw [e]
  · exact h1
  · exact h2
theorem turn {w : World} {outer : List Env} {g : Heap} {L : Addr} {sh dsh : Nat} {S : Sh} {ex : List (Addr × Obj)} {env : Env} {s : Shared} {A : Around} {E : Value → Shared → Prop} {Q : Flow → Shared → Prop} {o : Option Obj} {st st' : Option Str} {tok nc tok' : Str} {q q' : Bool} {fl : Flow}
    (ho : (kk.heap_1 w.params).lookup 700 = o) (X : Ax w outer g L sh dsh ex env A) (O : SOk S) (R : RT g L sh dsh S ex st tok nc q s) (T : Stp st tok q nc fl st' tok' q') (hl : tok.length ≤ 100000) (h : ∀ s', RT g L sh dsh S ex st' tok' nc q' s' → Q fl s') :
    wpAny (Mod w) A (execs (drop3 (loopOf (bodyOf (fdOf o)))) env) Q E s := by
  have l1 : ∀ c : Str, c.length = 1 → tok.length + c.length ≤ sizeLine := fun c hc => by rw [hc]; unfold sizeLine; omega
  have lb : tok.length ≤ 16777216 := Nat.le_trans hl (by decide)
  cases T with
  | sp_a => exact turn_sp_a ho X R (O.c _ (by decide +kernel) (by decide +kernel)) (O.wc ▸ by decide +kernel) h
  | sp_m => exact turn_sp_m ho X R (O.c _ (by decide +kernel) (by decide +kernel)) (O.wc ▸ by decide +kernel) h
  | sp_q => exact turn_sp_q ho X R (O.c _ (by decide +kernel) (by decide +kernel)) (O.wc ▸ by decide +kernel) h
  | sp_e => exact turn_sp_e ho X R h
  | a_a => exact turn_a_a ho X R (O.c _ (by decide +kernel) (by decide +kernel)) (O.wc ▸ by decide +kernel) (l1 _ (by decide +kernel)) h
  | a_m => exact turn_a_m ho X R (O.c _ (by decide +kernel) (by decide +kernel)) (O.wc ▸ by decide +kernel) (l1 _ (by decide +kernel)) h
  | a_q => exact turn_a_q ho X R (O.c _ (by decide +kernel) (by decide +kernel)) h
  | a_d => exact turn_a_d ho X R (O.c _ (by decide +kernel) (by decide +kernel)) h
  | a_e => exact turn_a_e ho X R h
  | a_sp1 _ _ hz => exact turn_a_sp1 ho X R (by rw [decide_eq_false hz]; rfl) lb h
  | a_sp2 =>
    by_cases hz : tok.length = 0
    · exact turn_a_sp2 (q := true) ho X R (by rw [decide_eq_true hz]; rfl) lb h
    · exact turn_a_sp1 ho X R (by rw [decide_eq_false hz]; rfl) lb h
  | q_q => exact turn_q_q ho X R h
  | q_c _ _ c h1 h2 h3 => exact turn_q_c ho X R (by rw [h1]; rfl) (by rw [h1]; decide) h2 h3 (l1 _ h1) h
  | q_b => exact turn_q_b ho X R (l1 _ (by decide +kernel)) h
  | d_q => exact turn_d_q ho X R (l1 _ (by decide +kernel)) h
  | d_d => exact turn_d_d ho X R h
  | n_e => exact turn_n_e ho X R h
end
section
open PySem PySem.W PySem.Calls PyProof.Rows
structure LS (g : Heap) (L : Addr) (sh dsh : Nat) (S : Sh) (dio : Nat) (k : Io) (x : Str) (i : Nat) (st : Option Str) (tok : Str) (q : Bool) (s : Shared) : Prop where
  ex : ∃ (tq tl tt ts t : Tok) (ln : Int) (et : Str) (nc : Option Value), Fr g L s.heap (rtm sh q et tq nc) ∧
    News g L s.heap [(sh, instObj 732 dsh), (dsh, S.dict (stV st ts) ln tl tok tt), (S.io, instObj 597 dio), (dio, k.dict x i t)]
  sm : s.gens = S.gn ∧ s.os = S.os ∧ s.drawn = S.dr
structure Rx (w : World) (outer : List Env) (g : Heap) (L : Addr) (sh dsh : Nat) (S : Sh) (dio : Nat) (o : Option Obj) : Prop where
  ho : (kk.heap_1 w.params).lookup 700 = o
  G : Gd w outer g
  hL : 815 ≤ L
  X : (kk.heap_1 w.params).In g
  T : ∃ lo mg mb, TopRead vw lo mg mb g
  B : Below (AT 480 1900 outer) (hideAll g (frs outer)) outer g
  h0 : 815 ≤ dsh
  h1 : dsh < sh
  h2 : sh < dio
  h3 : dio < S.io
  h5 : S.io < L
  O : SOk S
theorem kinds_rt (P : Params) (L : Addr) : (((envR ((kk.heap_1 P).lookup 700) L).kindOf (Str.ofString "self") == some NameKind.local) && ((envR ((kk.heap_1 P).lookup 700) L).kindOf (Str.ofString "nextchar") == some NameKind.local) && ((envR ((kk.heap_1 P).lookup 700) L).kindOf (Str.ofString "quoted") == some NameKind.local) && ((envR ((kk.heap_1 P).lookup 700) L).kindOf (Str.ofString "escapedstate") == some NameKind.local) && ((fdOf ((kk.heap_1 P).lookup 700)).scope.kind == ScopeKind.function)) = true := by kernel_rfl
theorem Rx.ax {w : World} {outer : List Env} {g : Heap} {L : Addr} {sh dsh : Nat} {S : Sh} {dio : Nat} {o : Option Obj} (R : Rx w outer g L sh dsh S dio o) (dk : Obj) : Ax w outer g L sh dsh [(S.io, instObj 597 dio), (dio, dk)] (envR o L) ((AT 480 1900 outer).deeper (envR o L)) := by
  have z := kinds_rt w.params L
  rw [R.ho] at z
  simp only [Bool.and_eq_true, beq_iff_eq] at z
  obtain ⟨⟨⟨⟨z1, z2⟩, z3⟩, z4⟩, z5⟩ := z
  have h1 := R.h1
  have h2 := R.h2
  have h3 := R.h3
  have h0 := R.h0
  refine ⟨⟨R.X, ⟨_, _, _, _, [], rfl, z5⟩, z1, z2, z3, z4, by omega, ?_⟩, R.G, R.hL, h0, by omega, ?_, rfl, rfl, Nat.le_of_ble_eq_true rfl, rfl, Nat.le_of_ble_eq_true rfl⟩
  all_goals
    intro p hp
    rcases List.mem_cons.mp hp with rfl | hp
    · show S.io ≠ _; omega
    rcases List.mem_cons.mp hp with rfl | hp
    · show dio ≠ _; omega
    cases hp
section
variable {w : World} {outer : List Env} {g : Heap} {L : Addr} {sh dsh : Nat} {S : Sh} {dio : Nat} {o : Option Obj} {k : Io} {x : Str} {i : Nat} {st st' : Option Str} {tok tok' : Str} {q q' : Bool} {fl : Flow} {s : Shared} {Q : Flow → Shared → Prop} {E : Value → Shared → Prop}
theorem RT.ls {nc : Str} {t : Tok} {s : Shared} (R : RT g L sh dsh S [(S.io, instObj 597 dio), (dio, k.dict x i t)] st tok nc q s) : LS g L sh dsh S dio k x i st tok q s := by
  obtain ⟨tq, tc, tl, tt, ts, ln, et, F, N⟩ := R.ex
  exact ⟨⟨tq, tl, tt, ts, t, ln, et, _, F, N⟩, R.sm⟩
theorem loop_parts (P : Params) : loopOf (bodyOf (fdOf ((kk.heap_1 P).lookup 700))) = take3 (loopOf (bodyOf (fdOf ((kk.heap_1 P).lookup 700)))) ++ drop3 (loopOf (bodyOf (fdOf ((kk.heap_1 P).lookup 700)))) := by kernel_rfl
theorem turn_in (X : Rx w outer g L sh dsh S dio o) (R : LS g L sh dsh S dio k x i st tok q s) (hi : i < x.length) (hx : x.length ≤ 1000) (T : Stp st tok q ⟨#[x.cps.getD i 0]⟩ fl st' tok' q') (hl : tok.length ≤ 100000)
    (h : ∀ s', LS g L sh dsh S dio k x (i + 1) st' tok' q' s' → Q fl s') : wpAny (Mod w) ((AT 480 1900 outer).deeper (envR o L)) (execs (loopOf (bodyOf (fdOf o))) (envR o L)) Q E s := by
  obtain ⟨tq, tl, tt, ts, t, ln, et, nc, F, N⟩ := R.ex
  obtain ⟨lo, mg, mb, TR⟩ := X.T
  have e := loop_parts w.params
  rw [X.ho] at e
  rw [e]
  refine execs_app (pre_ok X.ho X.G X.hL X.B X.X TR F N X.h1 X.h2 X.h3 (by have := X.h0; have := X.h1; have := X.h2; omega) X.h5 (by omega) (by omega) hx ?_)
  intro h' tk t' t'' ln' tl' F' N'
  refine q_next (turn X.ho (X.ax _) X.O (S := S) (st := st) (tok := tok) (q := q) (nc := ⟨#[x.cps.getD i 0]⟩) ⟨⟨tq, t'', tl', tt, ts, ln', et, F', N'⟩, R.sm⟩ T hl fun s' R' => h s' ?_)
  exact RT.ls (t := t') R'
theorem turn_eof (X : Rx w outer g L sh dsh S dio o) (R : LS g L sh dsh S dio k x i st tok q s) (hi : x.length ≤ i) (hx : x.length ≤ 1000) (T : Stp st tok q cE fl st' tok' q') (hl : tok.length ≤ 100000)
    (h : ∀ s', LS g L sh dsh S dio k x i st' tok' q' s' → Q fl s') : wpAny (Mod w) ((AT 480 1900 outer).deeper (envR o L)) (execs (loopOf (bodyOf (fdOf o))) (envR o L)) Q E s := by
  obtain ⟨tq, tl, tt, ts, t, ln, et, nc, F, N⟩ := R.ex
  obtain ⟨lo, mg, mb, TR⟩ := X.T
  have e := loop_parts w.params
  rw [X.ho] at e
  rw [e]
  refine execs_app (pre_end X.ho X.G X.hL X.B X.X TR F N X.h1 X.h2 X.h3 (by have := X.h0; have := X.h1; have := X.h2; omega) X.h5 (by omega) hx ?_)
  intro h' tk t'' F' N'
  refine q_next (turn X.ho (X.ax _) X.O (S := S) (st := st) (tok := tok) (q := q) (nc := cE) ⟨⟨tq, t'', tl, tt, ts, ln, et, F', N'⟩, R.sm⟩ T hl fun s' R' => h s' ?_)
  exact RT.ls (t := t) R'
end
inductive Rk : List Nat → Option Str → Str → Bool → List Nat → Option Str → Str → Bool → Prop
  | brk {c cs st tok q st' tok' q'} : tok.length ≤ 100000 → Stp st tok q ⟨#[c]⟩ .brk st' tok' q' → Rk (c :: cs) st tok q cs st' tok' q'
  | eof {st tok q st' tok' q'} : tok.length ≤ 100000 → Stp st tok q cE .brk st' tok' q' → Rk [] st tok q [] st' tok' q'
  | step {c cs st tok q st1 tok1 q1 cs' st' tok' q'} : tok.length ≤ 100000 → Stp st tok q ⟨#[c]⟩ .next st1 tok1 q1 → Rk cs st1 tok1 q1 cs' st' tok' q' → Rk (c :: cs) st tok q cs' st' tok' q'
theorem drop_cons {x : Str} {i c : Nat} {cs : List Nat} (hd : x.cps.toList.drop i = c :: cs) : i < x.length ∧ x.cps.getD i 0 = c ∧ x.cps.toList.drop (i + 1) = cs := by
  have hi : i < x.cps.size := by
    have := congrArg List.length hd
    rw [List.length_drop, List.length_cons] at this
    rw [← Array.length_toList]; omega
  have e := List.drop_eq_getElem_cons (l := x.cps.toList) (i := i) (by rw [Array.length_toList]; exact hi)
  rw [hd] at e
  injection e with e1 e2
  refine ⟨hi, ?_, e2.symm⟩
  rw [Array.getD_eq_getD_getElem?, Array.getElem?_eq_getElem hi, Option.getD_some, e1, Array.getElem_toList]
noncomputable def testOf (l : List Stmt) : Expr := match l with | _ :: _ :: .While t _ _ _ :: _ => t | _ => .Name (Str.ofString "x") ⟨0, 0, 0, 0⟩
theorem rk_loop {w : World} {outer : List Env} {g : Heap} {L : Addr} {sh dsh : Nat} {S : Sh} {dio : Nat} {o : Option Obj} {k : Io} {x : Str} {i : Nat} {st st' : Option Str} {tok tok' : Str} {q q' : Bool} {s : Shared} {R : Result → Shared → Prop} {cs cs' : List Nat} {kk : Nat} {pp : Pos} {orelse : List Stmt}
    (X : Rx w outer g L sh dsh S dio o) (Z : LS g L sh dsh S dio k x i st tok q s) (hx : x.length ≤ 1000) (hd : x.cps.toList.drop i = cs) (T : Rk cs st tok q cs' st' tok' q')
    (h : ∀ s' i', LS g L sh dsh S dio k x i' st' tok' q' s' → x.cps.toList.drop i' = cs' → R (.ok .next) s') :
    codeAny (Mod w) ((AT 480 1900 outer).deeper (envR o L)) (.whileLoop (.Constant (.bool true) kk pp) (loopOf (bodyOf (fdOf o))) orelse (envR o L)) R s := by
  refine codeAny_whileLoop (fun n s => ∃ cs i st tok q, cs.length = n ∧ x.cps.toList.drop i = cs ∧ Rk cs st tok q cs' st' tok' q' ∧ LS g L sh dsh S dio k x i st tok q s) ?_ cs.length ⟨cs, i, st, tok, q, rfl, hd, T, Z⟩
  rintro n s ⟨cs, i, st, tok, q, hn, hd, T, Z⟩
  refine isTrue_plain (Constant_bool (wpAny_truthy_bool ?_))
  simp only [if_true]
  cases T with
  | brk hl T =>
    obtain ⟨hi, hc, hr⟩ := drop_cons hd
    refine turn_in X Z hi hx (hc.symm ▸ T) hl fun s' Z' => ?_
    exact h s' (i + 1) Z' hr
  | eof hl T =>
    have hi : x.length ≤ i := by
      have := congrArg List.length hd
      rw [List.length_drop, List.length_nil] at this
      show x.cps.size ≤ i
      rw [← Array.length_toList]; omega
    refine turn_eof X Z hi hx T hl fun s' Z' => ?_
    exact h s' i Z' hd
  | step hl T T' =>
    obtain ⟨hi, hc, hr⟩ := drop_cons hd
    refine turn_in X Z hi hx (hc.symm ▸ T) hl fun s' Z' => ?_
    exact ⟨_, by rw [← hn, List.length_cons]; exact Nat.lt_succ_self _, _, i + 1, _, _, _, rfl, hr, T', Z'⟩
end
section
open PySem PySem.W PySem.Calls PyProof.Rows
theorem rest_q {w : World} {outer : List Env} {s : Shared} {g : Heap} {L : Addr} {sh dsh dio : Nat} {S : Sh} {dk : Obj} {tq tl tt : Tok} {ln : Int} {et : Str} {nc : Option Value} {st : Value} {o : Option Obj} {tok : Str}
    {lo : List Str} {mg mb : Str → Option Value} {Q : Flow → Shared → Prop} {E : Value → Shared → Prop}
    (ho : (kk.heap_1 w.params).lookup 700 = o)
    (Gg : Gd w outer g) (hL : 815 ≤ L) (B : Below (AT 480 1900 outer) (hideAll g (frs outer)) outer g) (X : (kk.heap_1 w.params).In g) (T : TopRead vw lo mg mb g)
    (F : Fr g L s.heap (rtm sh true et tq nc))
    (N : News g L s.heap [(sh, instObj 732 dsh), (dsh, S.dict st ln tl tok tt), (S.io, instObj 597 dio), (dio, dk)])
    (h1 : dsh < sh) (h2 : sh < dio) (h3 : dio < S.io) (h5 : S.io < L) (hl : tok.length ≤ 100000)
    (hQ : ∀ h' tk (t1 t2 : Tok) m, Fr g L h' m → News g L h' [(sh, instObj 732 dsh), (dsh, S.dict st ln tl (Str.ofString "") t1), (S.io, instObj 597 dio), (dio, dk)] → Q (.ret (.str tok t2)) { s with heap := h', toks := tk }) :
    wpAny (Mod w) ((AT 480 1900 outer).deeper (envR o L)) (execs (drop3 (bodyOf (fdOf o))) (envR o L)) Q E s := by
  rw [(by k_is : (kk.heap_1 w.params).lookup 700 = some _)] at ho
  subst ho
  dsimp only [drop3, bodyOf, fdOf, envR]
  unfold rtm at F
  k_steps
  all_goals dsimp only
  all_goals exact hQ _ _ _ _ _ (by assumption) (by assumption)
theorem rest_t {w : World} {outer : List Env} {s : Shared} {g : Heap} {L : Addr} {sh dsh dio : Nat} {S : Sh} {dk : Obj} {tq tl tt : Tok} {ln : Int} {et : Str} {nc : Option Value} {st : Value} {o : Option Obj} {tok : Str}
    {lo : List Str} {mg mb : Str → Option Value} {Q : Flow → Shared → Prop} {E : Value → Shared → Prop}
    (ho : (kk.heap_1 w.params).lookup 700 = o)
    (Gg : Gd w outer g) (hL : 815 ≤ L) (B : Below (AT 480 1900 outer) (hideAll g (frs outer)) outer g) (X : (kk.heap_1 w.params).In g) (T : TopRead vw lo mg mb g)
    (F : Fr g L s.heap (rtm sh false et tq nc))
    (N : News g L s.heap [(sh, instObj 732 dsh), (dsh, S.dict st ln tl tok tt), (S.io, instObj 597 dio), (dio, dk)])
    (h1 : dsh < sh) (h2 : sh < dio) (h3 : dio < S.io) (h5 : S.io < L) (hl : tok.length ≤ 100000) (hn : (tok == Str.ofString "") = false)
    (hQ : ∀ h' tk (t1 t2 : Tok) m, Fr g L h' m → News g L h' [(sh, instObj 732 dsh), (dsh, S.dict st ln tl (Str.ofString "") t1), (S.io, instObj 597 dio), (dio, dk)] → Q (.ret (.str tok t2)) { s with heap := h', toks := tk }) :
    wpAny (Mod w) ((AT 480 1900 outer).deeper (envR o L)) (execs (drop3 (bodyOf (fdOf o))) (envR o L)) Q E s := by
  rw [(by k_is : (kk.heap_1 w.params).lookup 700 = some _)] at ho
  subst ho
  dsimp only [drop3, bodyOf, fdOf, envR]
  unfold rtm at F
  k_steps
  all_goals dsimp only
  all_goals exact hQ _ _ _ _ _ (by assumption) (by assumption)
theorem rest_n {w : World} {outer : List Env} {s : Shared} {g : Heap} {L : Addr} {sh dsh dio : Nat} {S : Sh} {dk : Obj} {tq tl tt : Tok} {ln : Int} {et : Str} {nc : Option Value} {st : Value} {o : Option Obj}
    {lo : List Str} {mg mb : Str → Option Value} {Q : Flow → Shared → Prop} {E : Value → Shared → Prop}
    (ho : (kk.heap_1 w.params).lookup 700 = o)
    (Gg : Gd w outer g) (hL : 815 ≤ L) (B : Below (AT 480 1900 outer) (hideAll g (frs outer)) outer g) (X : (kk.heap_1 w.params).In g) (T : TopRead vw lo mg mb g)
    (F : Fr g L s.heap (rtm sh false et tq nc))
    (N : News g L s.heap [(sh, instObj 732 dsh), (dsh, S.dict st ln tl (Str.ofString "") tt), (S.io, instObj 597 dio), (dio, dk)])
    (h1 : dsh < sh) (h2 : sh < dio) (h3 : dio < S.io) (h5 : S.io < L)
    (hQ : ∀ h' tk (t1 t2 : Tok) m, Fr g L h' m → News g L h' [(sh, instObj 732 dsh), (dsh, S.dict st ln tl (Str.ofString "") t1), (S.io, instObj 597 dio), (dio, dk)] → Q (.ret .none) { s with heap := h', toks := tk }) :
    wpAny (Mod w) ((AT 480 1900 outer).deeper (envR o L)) (execs (drop3 (bodyOf (fdOf o))) (envR o L)) Q E s := by
  rw [(by k_is : (kk.heap_1 w.params).lookup 700 = some _)] at ho
  subst ho
  dsimp only [drop3, bodyOf, fdOf, envR]
  unfold rtm at F
  k_steps
  all_goals dsimp only
  all_goals exact hQ _ _ _ 0 _ (by assumption) (by assumption)
end
section
open PySem PySem.W PySem.Calls PyProof.Rows
@[reducible] noncomputable def odOf (o : Option Obj) : Option Addr := match o with | some x => x.dict | _ => none
@[reducible] noncomputable def ocOf (o : Option Obj) : Value := match o with | some x => x.cls | _ => .none
@[reducible] noncomputable def osOf (o : Option Obj) : Array (Option Value) := match o with | some x => x.slots | _ => #[]
@[reducible] noncomputable def fnO (o : Option Obj) : FuncData := fnOf (fdOf o).name (fdOf o).qualname (fdOf o).params (bodyOf (fdOf o)) (fdOf o).scope (fdOf o).defaults (fdOf o).kwdefaults (fdOf o).doc (fdOf o).pyModule (fdOf o).annotations (fdOf o).code (fdOf o).closureTuple
theorem rt_fn (P : Params) : (kk.heap_1 P).lookup 700 = some ⟨ocOf ((kk.heap_1 P).lookup 700), odOf ((kk.heap_1 P).lookup 700), .func (fnO ((kk.heap_1 P).lookup 700)), osOf ((kk.heap_1 P).lookup 700)⟩ := by kernel_rfl
theorem rt_code (P : Params) : (fdOf ((kk.heap_1 P).lookup 700)).code = .ref 699 ∧ codeIn (kk.heap_1 P) (.ref 699) (fdOf ((kk.heap_1 P).lookup 700)).qualname = true := ⟨by kernel_rfl, by kernel_rfl⟩
theorem rt_flags (P : Params) : (fdOf ((kk.heap_1 P).lookup 700)).scope.isCoroutine = false ∧ (fdOf ((kk.heap_1 P).lookup 700)).scope.isGenerator = false ∧ (fdOf ((kk.heap_1 P).lookup 700)).scope.kind = .function ∧ ((fdOf ((kk.heap_1 P).lookup 700)).scope.names.all fun x => decide (x.2 ≠ .cell)) = true ∧ (fdOf ((kk.heap_1 P).lookup 700)).scope.names.lookup (Str.ofString "self") = some .local :=
  ⟨by kernel_rfl, by kernel_rfl, by kernel_rfl, by kernel_rfl, by kernel_rfl⟩
theorem rt_bind (P : Params) (v : Value) : bindArgs (fnO ((kk.heap_1 P).lookup 700)) ⟨[v], []⟩ = pure [(Str.ofString "self", v)] := by kernel_rfl
theorem rt_body (P : Params) : ∃ p1 k1 p2 p3 p4 k2 p5 p6 k3 p7 p8, bodyOf (fdOf ((kk.heap_1 P).lookup 700)) = .Assign [.Name (Str.ofString "quoted") p1] (.Constant (.bool false) k1 p2) p3 :: .Assign [.Name (Str.ofString "escapedstate") p4] (.Constant (.str (Str.ofString " ")) k2 p5) p6 ::
    .While (.Constant (.bool true) k3 p7) (loopOf (bodyOf (fdOf ((kk.heap_1 P).lookup 700)))) [] p8 :: drop3 (bodyOf (fdOf ((kk.heap_1 P).lookup 700))) := by
  rw [(by k_is : (kk.heap_1 P).lookup 700 = some _)]
  exact ⟨_, _, _, _, _, _, _, _, _, _, _, rfl⟩

structure Lx (sh dsh : Nat) (S : Sh) (dio : Nat) (k : Io) (x : Str) (i : Nat) (st : Option Str) (h : Heap) : Prop where
  ex : ∃ (ts tl tt t : Tok) (ln : Int), h.get? sh = some (instObj 732 dsh) ∧ h.get? dsh = some (S.dict (stV st ts) ln tl cE tt) ∧ h.get? S.io = some (instObj 597 dio) ∧ h.get? dio = some (k.dict x i t)
structure Lo (outer : List Env) (sh dsh : Nat) (S : Sh) (dio : Nat) : Prop where
  h0 : 815 ≤ dsh
  h1 : dsh < sh
  h2 : sh < dio
  h3 : dio < S.io
  O : SOk S
  f : ∀ a ∈ [sh, dsh, S.io, dio], a ∉ frs outer
noncomputable def resOf (q : Bool) (tok : Str) : Option Str := if q = false ∧ tok = cE then none else some tok
theorem rt_ok {w : World} {outer : List Env} {s : Shared} {sh dsh dio : Nat} {S : Sh} {k : Io} {x : Str} {i : Nat} {st st' : Option Str} {cs cs' : List Nat} {tok' : Str} {q' : Bool} {R : Result → Shared → Prop}
    (G : Gd w outer s.heap) (O : Lo outer sh dsh S dio) (Z : Lx sh dsh S dio k x i st s.heap) (hx : x.length ≤ 1000) (hdr : x.cps.toList.drop i = cs) (T : Rk cs st cE false cs' st' tok' q') (hl : tok'.length ≤ 100000)
    (sm : s.gens = S.gn ∧ s.os = S.os ∧ s.drawn = S.dr)
    (hQ : ∀ s' i' t, Mv [sh, dsh, S.io, dio] s s' → Lx sh dsh S dio k x i' st' s'.heap → x.cps.toList.drop i' = cs' → R (.ok (.ret (stV (resOf q' tok') t))) s') :
    codeAny (Mod w) (AT 480 1900 outer) (.call (.ref 700) ⟨[.ref sh], []⟩) R s := by
  obtain ⟨ts, tl, tt, t, ln, g1, g2, g3, g4⟩ := Z.ex
  obtain ⟨o, ho⟩ : ∃ o, (kk.heap_1 w.params).lookup 700 = o := ⟨_, rfl⟩
  have e1 := rt_fn w.params
  have e2 := rt_code w.params
  have e3 := rt_flags w.params
  have e4 := rt_bind w.params (.ref sh)
  have e5 := rt_body w.params
  rw [ho] at e1 e2 e3 e4 e5
  obtain ⟨f1, f2, f3, f4, f5⟩ := e3
  have h0 := O.h0
  have h1 := O.h1
  have h2 := O.h2
  have h3 := O.h3
  rw [e1] at ho
  refine enterP [(sh, instObj 732 dsh), (dsh, S.dict (stV st ts) ln tl cE tt), (S.io, instObj 597 dio), (dio, k.dict x i t)] G ?_ ho (e2.1 ▸ e2.2) (by decide) (BindsTo.of_eq e4) ?_ ?_ f1 f2 f3 ?_
  · intro p hp
    rcases List.mem_cons.mp hp with rfl | hp
    · exact ⟨g1, by show 815 ≤ sh; omega, O.f _ (.head _)⟩
    rcases List.mem_cons.mp hp with rfl | hp
    · exact ⟨g2, by show 815 ≤ dsh; omega, O.f _ (.tail _ (.head _))⟩
    rcases List.mem_cons.mp hp with rfl | hp
    · exact ⟨g3, by show 815 ≤ S.io; omega, O.f _ (.tail _ (.tail _ (.head _)))⟩
    rcases List.mem_cons.mp hp with rfl | hp
    · exact ⟨g4, by show 815 ≤ dio; omega, O.f _ (.tail _ (.tail _ (.tail _ (.head _))))⟩
    cases hp
  · intro y hy
    rw [List.mem_singleton.mp hy]
    exact f5
  · intro g L' h₁ lo mg mb F N B X TR Bz below Gg hLb
    have ho' := ho
    rw [← e1] at ho'
    rw [e2.1]
    have XX : Rx w outer g L' sh dsh S dio o := ⟨ho', Gg, hLb, X, ⟨lo, mg, mb, TR⟩, B, h0, h1, h2, h3, below _ (.tail _ (.tail _ (.head _))), O.O⟩
    have C := (XX.ax (k.dict x i t)).C
    have k3 := C.k3
    have k4 := C.k4
    obtain ⟨p1, k1, p2, p3, p4, k2, p5, p6, k33, p7, p8, eb⟩ := e5
    rw [eb]
    refine ex_cons (wpAny_Assign_Name (Constant_bool (storeX_L F N (fun ha Fa Na => q_next ?_) f3 k3)))
    refine ex_cons (wpAny_Assign_Name (Constant_str (storeX_L Fa Na (fun hb Fb Nb => q_next ?_) f3 k4)))
    refine ex_cons (wpAny_While ?_)
    have LSt : LS g L' sh dsh S dio k x i st cE false ⟨hb, s.gens, s.drawn, s.toks + 1 + 1 + 1 + 1, s.os⟩ := by
      refine ⟨⟨s.toks + 1 + 1, tl, tt, ts, t, ln, cSp, none, Fr.cg Fb fun y => ?_, Nb⟩, sm⟩
      unfold rtm
      by_cases y1 : y = Str.ofString "nextchar"
      · subst y1; kernel_rfl
      by_cases y2 : y = Str.ofString "escapedstate"
      · subst y2; kernel_rfl
      by_cases y3 : y = Str.ofString "quoted"
      · subst y3; kernel_rfl
      simp only [if_neg y1, if_neg y2, if_neg y3]
      by_cases y4 : y = Str.ofString "self"
      · subst y4; kernel_rfl
      rw [if_neg y4]
      show List.lookup y [(Str.ofString "self", Value.ref sh)] = none
      rw [List.lookup_cons, beq_eq_false_iff_ne.mpr y4]
      rfl
    refine rk_loop XX LSt hx hdr T fun s' i' Z' hd' => q_next ?_
    obtain ⟨tq, tl', tt', ts', t', ln', et, nc, F', N'⟩ := Z'.ex
    have fin : ∀ h' tk (t1 t2 : Tok) m, Fr g L' h' m → News g L' h' [(sh, instObj 732 dsh), (dsh, S.dict (stV st' ts') ln' tl' cE t1), (S.io, instObj 597 dio), (dio, k.dict x i' t')] → R (.ok (.ret (stV (resOf q' tok') t2))) { s' with heap := h', toks := tk } := by
      intro h' tk t1 t2 m Fm Nm
      refine hQ _ i' t2 ?_ ⟨ts', tl', t1, t', ln', Nm.get (.head _), Nm.get (.tail _ (.head _)), Nm.get (.tail _ (.tail _ (.head _))), Nm.get (.tail _ (.tail _ (.tail _ (.head _))))⟩ hd'
      have M := Bz.mv Fm (tk := tk)
      have a1 := Z'.sm
      exact ⟨M.keep, a1.1.trans sm.1.symm, a1.2.1.trans sm.2.1.symm, a1.2.2.trans sm.2.2.symm, M.size⟩
    have hlen := hl
    unfold resOf at fin
    by_cases cq : q' = true
    · subst cq
      refine rest_q ho' Gg hLb B X TR F' N' h1 h2 h3 XX.h5 hl fun h' tk t1 t2 m Fm Nm => ?_
      simpa using fin h' tk t1 t2 m Fm Nm
    · have cq : q' = false := by simpa using cq
      subst cq
      by_cases ct : tok' = cE
      · subst ct
        refine rest_n ho' Gg hLb B X TR F' N' h1 h2 h3 XX.h5 fun h' tk t1 t2 m Fm Nm => ?_
        simpa using fin h' tk t1 t2 m Fm Nm
      · refine rest_t ho' Gg hLb B X TR F' N' h1 h2 h3 XX.h5 hl (by simpa using ct) fun h' tk t1 t2 m Fm Nm => ?_
        simpa [ct] using fin h' tk t1 t2 m Fm Nm
  · intro y hy
    simpa using List.all_eq_true.mp f4 y hy
end
section
open PySem PySem.W PySem.Calls PyProof.Rows
noncomputable abbrev dqO : Obj := { cls := .type "collections.deque", data := .fields #[.none, rawInt 0] }
theorem slot_dq_len : Slot "collections.deque" (Str.ofString "__len__") "collections.deque.__len__" :=
  .of (owner := "collections.deque") (n := "__len__") (by rw [typeLookup_type, builtinLookup_eq_fast]; kernel_rfl) (by decide +kernel) (by decide +kernel) (by decide +kernel)
    (by first | exact .inl (by decide +kernel) | exact .inr (by decide +kernel)) (by rw [isSubtype_type]; kernel_rfl)
theorem entry_dq_len : entryFor table "collections.deque.__len__" = some Builtin.«collections.deque.__len__» := entryFor_of_tree (by kernel_rfl)
theorem args_dq_len (a : Value) : argsOk "collections.deque.__len__" ⟨[a], []⟩ := by unfold argsOk; kernel_rfl
theorem noBool_dq : typeLookup (.type "collections.deque") "__bool__" = pure none := by rw [typeLookup_type, builtinLookup_eq_fast]; kernel_rfl

theorem truthy_dq {prog : Program} {w : World} {A : Around} {E : Value → Shared → Prop} {s : Shared} {a : Addr} {Q : Bool → Shared → Prop} (ho : s.heap.get? a = some dqO) (h : Q false { s with toks := s.toks + 1 + 1 }) : wpAny (model prog w) A (truthy (.ref a)) Q E s := by
  have hT : s.TypeIs (.ref a) "collections.deque" := ⟨_, ho, rfl⟩
  have key : wpAny (model prog w) A (runValue (.builtin "len" ⟨[.ref a], []⟩)) (fun r s' => r = .int 0 (s.toks + 1) ∧ Q false s') E s := by
    refine wpAny_runValue (codeAny_builtin entry_len ?_)
    rw [Around.under_plainId plain_len _]
    unfold Builtin.«len»
    refine wpAny_bind (m := oneArg "len" _) (wpAny_pure ?_)
    refine wpAny_bind (m := callSpecial? (.ref a) (Str.ofString "__len__")) (wpAny_callSpecial?_slot (name := Str.ofString "__len__") hT slot_dq_len (wpAny_call_entry slot_dq_len hT entry_dq_len ?_ (args_dq_len _)))
    show wpAny _ _ (do retInt (← Builtin.Deque.size (← slotArgs "__len__" 0 ⟨[.ref a], []⟩).1)) _ _ s
    refine wpAny_bind (m := slotArgs "__len__" 0 _) (wpAny_pure ?_)
    unfold Builtin.Deque.size
    refine wpAny_bind (wpAny_bind ?_)
    refine wpAny_fieldsOf ho rfl ?_
    refine wpAny_pure (wpAny_bind (wpAny_mkInt (wpAny_pure ⟨_, rfl, ?_⟩)))
    refine wpAny_bind (wpAny_holding (wpAny_pure ?_))
    refine wpAny_bind (wpAny_letGo ?_)
    show wpAny _ _ (if ((0 : Nat) : Int) < 0 then _ else _) _ _ _
    rw [if_neg (by decide)]
    show wpAny _ _ (if ((0 : Nat) : Int) ≥ 2 ^ 63 then _ else _) _ _ _
    rw [if_neg (by decide)]
    exact wpAny_bind (wpAny_mkInt (wpAny_pure ⟨rfl, h⟩))
  unfold truthy
  refine wpAny_bind (wpAny_callSpecial?_none (name := Str.ofString "__bool__") hT noBool_dq ?_)
  refine wpAny_bind (wpAny_specialOf (name := Str.ofString "__len__") hT slot_dq_len.lookup ?_)
  exact wpAny_bind (wpAny_mono key (fun r s' h' => by obtain ⟨rfl, hq⟩ := h'; exact wpAny_pure hq) fun _ _ e => e)
end
section
open PySem PySem.W PySem.Calls PyProof.Rows
noncomputable abbrev lex4 (sh dsh : Nat) (S : Sh) (dio : Nat) (k : Io) (x : Str) (i : Nat) (st : Option Str) (ts tl tt t : Tok) (ln : Int) : List (Addr × Obj) :=
  [(sh, instObj 732 dsh), (dsh, S.dict (stV st ts) ln tl cE tt), (S.io, instObj 597 dio), (dio, k.dict x i t)]
structure Ord4 (sh dsh : Nat) (S : Sh) (dio : Nat) : Prop where
  h0 : 815 ≤ dsh
  h1 : dsh < sh
  h2 : sh < dio
  h3 : dio < S.io
  O : SOk S
theorem rt_okW {w : World} {A : Around} {env : Env} {outer : List Env} {s : Shared} {g : Heap} {L : Addr} {m : Str → Option Value} {sh dsh dio : Nat} {S : Sh} {k : Io} {x : Str} {i : Nat} {st st' : Option Str} {ts tl tt t : Tok} {ln : Int} {cs cs' : List Nat} {tok' : Str} {q' : Bool} {R : Result → Shared → Prop}
    (Gg : Gd w outer g) (hL : 815 ≤ L) (F : Fr g L s.heap m) (N : News g L s.heap (lex4 sh dsh S dio k x i st ts tl tt t ln)) (hA : A.frames = some (env :: outer)) (hf : env.frame = some L) (hk : env.scope.kind = .function)
    (a1 : A.handled = none) (a2 : A.depth ≤ 480) (a3 : A.guards = some []) (a4 : A.units ≤ 1900) (O : Ord4 sh dsh S dio)
    (hx : x.length ≤ 1000) (hdr : x.cps.toList.drop i = cs) (T : Rk cs st cE false cs' st' tok' q') (hl : tok'.length ≤ 100000) (sm : s.gens = S.gn ∧ s.os = S.os ∧ s.drawn = S.dr)
    (hQ : ∀ h' tk i' ts tl tt t ln u, Fr g L h' m → News g L h' (lex4 sh dsh S dio k x i' st' ts tl tt t ln) → x.cps.toList.drop i' = cs' → R (.ok (.ret (stV (resOf q' tok') u))) { s with heap := h', toks := tk }) :
    codeAny (Mod w) A (.call (.ref 700) ⟨[.ref sh], []⟩) R s := by
  have nf := News.fr Gg N hf
  have m1 : (sh, instObj 732 dsh) ∈ lex4 sh dsh S dio k x i st ts tl tt t ln := .head _
  have m2 : (dsh, S.dict (stV st ts) ln tl cE tt) ∈ lex4 sh dsh S dio k x i st ts tl tt t ln := .tail _ (.head _)
  have m3 : (S.io, instObj 597 dio) ∈ lex4 sh dsh S dio k x i st ts tl tt t ln := .tail _ (.tail _ (.head _))
  have m4 : (dio, k.dict x i t) ∈ lex4 sh dsh S dio k x i st ts tl tt t ln := .tail _ (.tail _ (.tail _ (.head _)))
  refine codeAny_le (rt_ok (Gg.push F hL hf hk) (dsh := dsh) (S := S) (dio := dio) (k := k) (x := x) (i := i) (st := st) ⟨O.h0, O.h1, O.h2, O.h3, O.O, ?_⟩ ⟨ts, tl, tt, t, ln, N.get m1, N.get m2, N.get m3, N.get m4⟩ hx hdr T hl sm ?_) a1 a2 hA a3 a4
  · intro a ha
    rcases List.mem_cons.mp ha with rfl | ha
    · exact nf _ m1
    rcases List.mem_cons.mp ha with rfl | ha
    · exact nf _ m2
    rcases List.mem_cons.mp ha with rfl | ha
    · exact nf _ m3
    rcases List.mem_cons.mp ha with rfl | ha
    · exact nf _ m4
    cases ha
  · intro s' i' u M Z hd'
    obtain ⟨ts', tl', tt', t', ln', g1, g2, g3, g4⟩ := Z.ex
    obtain ⟨F', N'⟩ := lift (muts := lex4 sh dsh S dio k x i st ts tl tt t ln) (muts' := lex4 sh dsh S dio k x i' st' ts' tl' tt' t' ln') (rest := []) F (by rw [List.append_nil]; exact N) M
      (fun p hp => by
        rcases List.mem_cons.mp hp with rfl | hp; exact g1
        rcases List.mem_cons.mp hp with rfl | hp; exact g2
        rcases List.mem_cons.mp hp with rfl | hp; exact g3
        rcases List.mem_cons.mp hp with rfl | hp; exact g4
        cases hp) rfl (fun p hp => nomatch hp)
    rw [M.eq]
    rw [List.append_nil] at N'
    exact hQ _ _ i' ts' tl' tt' t' ln' u F' N' hd'
theorem kinds_gt (P : Params) (L : Addr) : True := trivial
structure Dqs (S : Sh) (h : Heap) : Prop where
  pb : h.get? S.pb = some dqO
  fs : h.get? S.fs = some dqO
local macro_rules | `(tactic| walk_at "truthy ref") => `(tactic| (k_here; refine' truthy_dq ?k1 ?_; (case k1 => first | exact Fr.keep (by k_asm) _ _ (Dqs.pb (by assumption)) | exact Fr.keep (by k_asm) _ _ (Dqs.fs (by assumption))); k_whole))
theorem gt_tok {w : World} {outer : List Env} {s : Shared} {sh dsh dio : Nat} {S : Sh} {k : Io} {x : Str} {i : Nat} {st st' : Option Str} {cs cs' : List Nat} {tok' : Str} {q' : Bool} {R : Result → Shared → Prop} {ts tl tt t : Tok} {ln : Int}
    (G : Gd w outer s.heap) (O : Ord4 sh dsh S dio) (g1 : s.heap.get? sh = some (instObj 732 dsh)) (g2 : s.heap.get? dsh = some (S.dict (stV st ts) ln tl cE tt)) (g3 : s.heap.get? S.io = some (instObj 597 dio)) (g4 : s.heap.get? dio = some (k.dict x i t))
    (D : Dqs S s.heap) (hp : S.io < S.pb) (hfs : S.io < S.fs) (f1 : sh ∉ frs outer) (f2 : dsh ∉ frs outer) (f3 : S.io ∉ frs outer) (f4 : dio ∉ frs outer)
    (hx : x.length ≤ 1000) (hdr : x.cps.toList.drop i = cs) (T : Rk cs st cE false cs' st' tok' q') (hl : tok'.length ≤ 100000) (sm : s.gens = S.gn ∧ s.os = S.os ∧ s.drawn = S.dr) (hr : resOf q' tok' = some tok')
    (hQ : ∀ s' i' t, Mv [sh, dsh, S.io, dio] s s' → Lx sh dsh S dio k x i' st' s'.heap → x.cps.toList.drop i' = cs' → R (.ok (.ret (.str tok' t))) s') :
    codeAny (Mod w) (AT 470 1800 outer) (.call (.ref 693) ⟨[.ref sh], []⟩) R s := by
  have o1 := ltN O.h1
  have o2 := ltN O.h2
  have o3 := ltN O.h3
  have o0 := O.h0
  refine' enterP (lex4 sh dsh S dio k x i st ts tl tt t ln) G ?hm ?k6 ?k7 ?k8 ?k9 ?kB ?_ ?c2 ?c3 ?c4 ?c5
  case hm =>
    intro p hp
    rcases List.mem_cons.mp hp with rfl | hp
    · exact ⟨g1, by show 815 ≤ sh; omega, f1⟩
    rcases List.mem_cons.mp hp with rfl | hp
    · exact ⟨g2, by show 815 ≤ dsh; omega, f2⟩
    rcases List.mem_cons.mp hp with rfl | hp
    · exact ⟨g3, by show 815 ≤ S.io; omega, f3⟩
    rcases List.mem_cons.mp hp with rfl | hp
    · exact ⟨g4, by show 815 ≤ dio; omega, f4⟩
    cases hp
  (((case k6 => k_is); (case k7 => k_is); (case k8 => decide); (case k9 => first | exact BindsTo.of_eq rfl | exact binds_K (Gd.X (by assumption)) rfl (by k_is) rfl rfl rfl); (case kB => exact locs rfl); (case c2 => exact rfl); (case c3 => exact rfl); (case c4 => exact rfl); (case c5 => decide)))
  intro g L' h' lo mg mb F N B X T Bz _ Gg hLb
  have DD : Dqs S g := by
    refine ⟨Bz.into _ _ ?_ D.pb, Bz.into _ _ ?_ D.fs⟩
    all_goals
      intro qq
      simp only [lex4, List.map_cons, List.map_nil, List.mem_cons, List.not_mem_nil, or_false] at qq
      rcases qq with qq | qq | qq | qq <;> simp only [qq] at hp hfs <;> omega
  (try dsimp only)
  (try k_fold)
  iterate 16 walk1
  ((k_here; (refine wpAny_call ?_); refine' rt_okW ?r1 ?r2 ?r3 ?r4 ?r5 ?r6 ?r7 ?r8 ?r9 ?r10 ?r11 ?r12 ?r13 ?r14 ?r15 ?r16 ?r17 ?_; (case r5 => exact rfl); (case r3 => k_asm); (case r4 => k_asm); (case r1 => assumption); (case r2 => assumption); (case r6 => exact rfl); (case r7 => exact rfl); (case r8 => exact rfl); (case r9 => exact Nat.le_of_ble_eq_true rfl); (case r10 => exact rfl); (case r11 => exact Nat.le_of_ble_eq_true rfl); (case r12 => assumption); (case r13 => assumption); (case r15 => assumption); (case r14 => assumption); (case r16 => assumption); (case r17 => assumption); k_whole; intro h'_i k'_i i'_i _ _ _ _ _ u'_i F'_i N'_i _))
  rw [hr]
  dsimp only [stV]
  k_steps
  all_goals ((try dsimp only); (try (k_unfold; dsimp only)))
  all_goals exact hQ _ _ _ (Bz.mv (by assumption)) ⟨_, _, _, _, _, News.get (by assumption) (by k_mem), News.get (by assumption) (by k_mem), News.get (by assumption) (by k_mem), News.get (by assumption) (by k_mem)⟩ (by assumption)
theorem gt_none {w : World} {outer : List Env} {s : Shared} {sh dsh dio : Nat} {S : Sh} {k : Io} {x : Str} {i : Nat} {st st' : Option Str} {cs cs' : List Nat} {tok' : Str} {q' : Bool} {R : Result → Shared → Prop} {ts tl tt t : Tok} {ln : Int}
    (G : Gd w outer s.heap) (O : Ord4 sh dsh S dio) (g1 : s.heap.get? sh = some (instObj 732 dsh)) (g2 : s.heap.get? dsh = some (S.dict (stV st ts) ln tl cE tt)) (g3 : s.heap.get? S.io = some (instObj 597 dio)) (g4 : s.heap.get? dio = some (k.dict x i t))
    (D : Dqs S s.heap) (hp : S.io < S.pb) (hfs : S.io < S.fs) (f1 : sh ∉ frs outer) (f2 : dsh ∉ frs outer) (f3 : S.io ∉ frs outer) (f4 : dio ∉ frs outer)
    (hx : x.length ≤ 1000) (hdr : x.cps.toList.drop i = cs) (T : Rk cs st cE false cs' st' tok' q') (hl : tok'.length ≤ 100000) (sm : s.gens = S.gn ∧ s.os = S.os ∧ s.drawn = S.dr) (hr : resOf q' tok' = none)
    (hQ : ∀ s' i', Mv [sh, dsh, S.io, dio] s s' → Lx sh dsh S dio k x i' st' s'.heap → x.cps.toList.drop i' = cs' → R (.ok (.ret .none)) s') :
    codeAny (Mod w) (AT 470 1800 outer) (.call (.ref 693) ⟨[.ref sh], []⟩) R s := by
  have o1 := ltN O.h1
  have o2 := ltN O.h2
  have o3 := ltN O.h3
  have o0 := O.h0
  refine' enterP (lex4 sh dsh S dio k x i st ts tl tt t ln) G ?hm ?k6 ?k7 ?k8 ?k9 ?kB ?_ ?c2 ?c3 ?c4 ?c5
  case hm =>
    intro p hp
    rcases List.mem_cons.mp hp with rfl | hp
    · exact ⟨g1, by show 815 ≤ sh; omega, f1⟩
    rcases List.mem_cons.mp hp with rfl | hp
    · exact ⟨g2, by show 815 ≤ dsh; omega, f2⟩
    rcases List.mem_cons.mp hp with rfl | hp
    · exact ⟨g3, by show 815 ≤ S.io; omega, f3⟩
    rcases List.mem_cons.mp hp with rfl | hp
    · exact ⟨g4, by show 815 ≤ dio; omega, f4⟩
    cases hp
  (((case k6 => k_is); (case k7 => k_is); (case k8 => decide); (case k9 => first | exact BindsTo.of_eq rfl | exact binds_K (Gd.X (by assumption)) rfl (by k_is) rfl rfl rfl); (case kB => exact locs rfl); (case c2 => exact rfl); (case c3 => exact rfl); (case c4 => exact rfl); (case c5 => decide)))
  intro g L' h' lo mg mb F N B X T Bz _ Gg hLb
  have DD : Dqs S g := by
    refine ⟨Bz.into _ _ ?_ D.pb, Bz.into _ _ ?_ D.fs⟩
    all_goals
      intro qq
      simp only [lex4, List.map_cons, List.map_nil, List.mem_cons, List.not_mem_nil, or_false] at qq
      rcases qq with qq | qq | qq | qq <;> simp only [qq] at hp hfs <;> omega
  (try dsimp only)
  (try k_fold)
  iterate 16 walk1
  ((k_here; (refine wpAny_call ?_); refine' rt_okW ?r1 ?r2 ?r3 ?r4 ?r5 ?r6 ?r7 ?r8 ?r9 ?r10 ?r11 ?r12 ?r13 ?r14 ?r15 ?r16 ?r17 ?_; (case r5 => exact rfl); (case r3 => k_asm); (case r4 => k_asm); (case r1 => assumption); (case r2 => assumption); (case r6 => exact rfl); (case r7 => exact rfl); (case r8 => exact rfl); (case r9 => exact Nat.le_of_ble_eq_true rfl); (case r10 => exact rfl); (case r11 => exact Nat.le_of_ble_eq_true rfl); (case r12 => assumption); (case r13 => assumption); (case r15 => assumption); (case r14 => assumption); (case r16 => assumption); (case r17 => assumption); k_whole; intro h'_i k'_i i'_i _ _ _ _ _ u'_i F'_i N'_i _))
  rw [hr]
  dsimp only [stV]
  k_steps
  all_goals ((try dsimp only); (try (k_unfold; dsimp only)))
  all_goals exact hQ _ _ (Bz.mv (by assumption)) ⟨_, _, _, _, _, News.get (by assumption) (by k_mem), News.get (by assumption) (by k_mem), News.get (by assumption) (by k_mem), News.get (by assumption) (by k_mem)⟩ (by assumption)
end
section
open PySem PySem.W PySem.Calls PyProof.Rows
structure Ms (outer : List Env) (wr : List Addr) (s s' : Shared) : Prop where
  keep : ∀ b o, b ∉ wr → b ∉ frs outer → s.heap.get? b = some o → s'.heap.get? b = some o
  slot : ∀ b o, b ∉ wr → b ∈ frs outer → s.heap.get? b = some o → (∀ vs, o.data ≠ .fields vs) → ∃ sl, s'.heap.get? b = some { o with slots := sl }
  gens : s'.gens = s.gens
  os : s'.os = s.os
  dr : s'.drawn = s.drawn
  big : 815 ≤ s'.heap.objs.size
theorem Bs.ms {muts news : List (Addr × Obj)} {s : Shared} {g h : Heap} {L e t : Addr} {outer : List Env} {cls : Value} {vs : List Value} {tk : Nat} (B : Bs muts s g L) (Rk : RaisedK (hideAll g (frs outer)) outer e cls t vs news h) (U : g.UpToSlots h) (hb : 815 ≤ h.objs.size) :
    Ms outer (muts.map (·.1)) s ⟨h, s.gens, s.drawn, tk, s.os⟩ := by
  obtain ⟨⟨Bb, hB, _, hfl, _⟩, _⟩ := Rk
  refine ⟨fun b o h1 h2 e => hfl.1 _ _ (hB _ _ (hideAll_get _ (B.into b o h1 e) h2)), fun b o h1 _ e hn => U b o (B.into b o h1 e) hn, rfl, rfl, rfl, hb⟩
theorem RaisedK.exc {base h : Heap} {l : List Env} {e t : Addr} {cls : Value} {vs : List Value} {news : List (Addr × Obj)} (Rk : RaisedK base l e cls t vs news h) : ∃ o, h.get? e = some o ∧ o.cls = cls := by
  obtain ⟨⟨Bb, hB, _, hfl, _⟩, _⟩ := Rk
  exact hfl.there
theorem RaisedK.news {base h : Heap} {l : List Env} {e t : Addr} {cls : Value} {vs : List Value} {news : List (Addr × Obj)} (Rk : RaisedK base l e cls t vs news h) : ∀ p ∈ news, h.get? p.1 = some p.2 := by
  obtain ⟨⟨Bb, hB, hn, hfl, _⟩, _⟩ := Rk
  exact fun p hp => hfl.1 _ _ (hn p hp).1
section
variable {w : World} {A : Around} {env : Env} {outer : List Env} {s : Shared} {g : Heap} {L : Addr} {m : Str → Option Value} {sh dsh dio : Nat} {S : Sh} {k : Io} {x : Str} {i : Nat} {st st' : Option Str} {ts tl tt t : Tok} {ln : Int} {cs cs' : List Nat} {tok' : Str} {q' : Bool} {R : Result → Shared → Prop}
theorem gt_okW
    (Gg : Gd w outer g) (hL : 815 ≤ L) (F : Fr g L s.heap m) (N : News g L s.heap (lex4 sh dsh S dio k x i st ts tl tt t ln)) (D : Dqs S g) (hp : S.io < S.pb) (hfs : S.io < S.fs) (hA : A.frames = some (env :: outer)) (hf : env.frame = some L) (hk : env.scope.kind = .function)
    (a1 : A.handled = none) (a2 : A.depth ≤ 470) (a3 : A.guards = some []) (a4 : A.units ≤ 1800) (O : Ord4 sh dsh S dio)
    (hx : x.length ≤ 1000) (hdr : x.cps.toList.drop i = cs) (T : Rk cs st cE false cs' st' tok' q') (hl : tok'.length ≤ 100000) (sm : s.gens = S.gn ∧ s.os = S.os ∧ s.drawn = S.dr)
    (hQ : ∀ h' tk i' ts tl tt t ln u, Fr g L h' m → News g L h' (lex4 sh dsh S dio k x i' st' ts tl tt t ln) → x.cps.toList.drop i' = cs' → R (.ok (.ret (stV (resOf q' tok') u))) { s with heap := h', toks := tk }) :
    codeAny (Mod w) A (.call (.ref 693) ⟨[.ref sh], []⟩) R s := by
  have nf := News.fr Gg N hf
  have m1 : (sh, instObj 732 dsh) ∈ lex4 sh dsh S dio k x i st ts tl tt t ln := .head _
  have m2 : (dsh, S.dict (stV st ts) ln tl cE tt) ∈ lex4 sh dsh S dio k x i st ts tl tt t ln := .tail _ (.head _)
  have m3 : (S.io, instObj 597 dio) ∈ lex4 sh dsh S dio k x i st ts tl tt t ln := .tail _ (.tail _ (.head _))
  have m4 : (dio, k.dict x i t) ∈ lex4 sh dsh S dio k x i st ts tl tt t ln := .tail _ (.tail _ (.tail _ (.head _)))
  have back : ∀ s' i' u, Mv [sh, dsh, S.io, dio] s s' → Lx sh dsh S dio k x i' st' s'.heap → x.cps.toList.drop i' = cs' → R (.ok (.ret (stV (resOf q' tok') u))) s' := by
    intro s' i' u M Z hd'
    obtain ⟨ts', tl', tt', t', ln', g1, g2, g3, g4⟩ := Z.ex
    obtain ⟨F', N'⟩ := lift (muts := lex4 sh dsh S dio k x i st ts tl tt t ln) (muts' := lex4 sh dsh S dio k x i' st' ts' tl' tt' t' ln') (rest := []) F (by rw [List.append_nil]; exact N) M
      (fun p hp => by
        rcases List.mem_cons.mp hp with rfl | hp; exact g1
        rcases List.mem_cons.mp hp with rfl | hp; exact g2
        rcases List.mem_cons.mp hp with rfl | hp; exact g3
        rcases List.mem_cons.mp hp with rfl | hp; exact g4
        cases hp) rfl (fun p hp => nomatch hp)
    rw [M.eq]
    rw [List.append_nil] at N'
    exact hQ _ _ i' ts' tl' tt' t' ln' u F' N' hd'
  have Ds : Dqs S s.heap := ⟨F.keep _ _ D.pb, F.keep _ _ D.fs⟩
  cases hr : resOf q' tok' with
  | some y =>
    have hy : y = tok' := by
      unfold resOf at hr
      split at hr
      · cases hr
      · exact (Option.some.inj hr).symm
    subst hy
    refine codeAny_le (gt_tok (Gg.push F hL hf hk) O (N.get m1) (N.get m2) (N.get m3) (N.get m4) Ds hp hfs (nf _ m1) (nf _ m2) (nf _ m3) (nf _ m4) hx hdr T hl sm hr ?_) a1 a2 hA a3 a4
    intro s' i' u M Z hd'
    have z := back s' i' u M Z hd'
    rw [hr] at z
    exact z
  | none =>
    refine codeAny_le (gt_none (Gg.push F hL hf hk) O (N.get m1) (N.get m2) (N.get m3) (N.get m4) Ds hp hfs (nf _ m1) (nf _ m2) (nf _ m3) (nf _ m4) hx hdr T hl sm hr ?_) a1 a2 hA a3 a4
    intro s' i' M Z hd'
    have z := back s' i' 0 M Z hd'
    rw [hr] at z
    exact z
end
theorem nx_tok {w : World} {outer : List Env} {s : Shared} {sh dsh dio : Nat} {S : Sh} {k : Io} {x : Str} {i : Nat} {st st' : Option Str} {cs cs' : List Nat} {tok' : Str} {q' : Bool} {R : Result → Shared → Prop} {ts tl tt t : Tok} {ln : Int}
    (G : Gd w outer s.heap) (O : Ord4 sh dsh S dio) (g1 : s.heap.get? sh = some (instObj 732 dsh)) (g2 : s.heap.get? dsh = some (S.dict (stV st ts) ln tl cE tt)) (g3 : s.heap.get? S.io = some (instObj 597 dio)) (g4 : s.heap.get? dio = some (k.dict x i t))
    (D : Dqs S s.heap) (hp : S.io < S.pb) (hfs : S.io < S.fs) (f1 : sh ∉ frs outer) (f2 : dsh ∉ frs outer) (f3 : S.io ∉ frs outer) (f4 : dio ∉ frs outer)
    (hx : x.length ≤ 1000) (hdr : x.cps.toList.drop i = cs) (T : Rk cs st cE false cs' st' tok' q') (hl : tok'.length ≤ 100000) (sm : s.gens = S.gn ∧ s.os = S.os ∧ s.drawn = S.dr) (hr : resOf q' tok' = some tok')
    (hQ : ∀ s' i' t, Mv [sh, dsh, S.io, dio] s s' → Lx sh dsh S dio k x i' st' s'.heap → x.cps.toList.drop i' = cs' → R (.ok (.ret (.str tok' t))) s') :
    codeAny (Mod w) (AT 460 1700 outer) (.call (.ref 729) ⟨[.ref sh], []⟩) R s := by
  have o1 := ltN O.h1
  have o2 := ltN O.h2
  have o3 := ltN O.h3
  have o0 := O.h0
  refine' enterP (lex4 sh dsh S dio k x i st ts tl tt t ln) G ?hm ?k6 ?k7 ?k8 ?k9 ?kB ?_ ?c2 ?c3 ?c4 ?c5
  case hm =>
    intro p hp
    rcases List.mem_cons.mp hp with rfl | hp
    · exact ⟨g1, by show 815 ≤ sh; omega, f1⟩
    rcases List.mem_cons.mp hp with rfl | hp
    · exact ⟨g2, by show 815 ≤ dsh; omega, f2⟩
    rcases List.mem_cons.mp hp with rfl | hp
    · exact ⟨g3, by show 815 ≤ S.io; omega, f3⟩
    rcases List.mem_cons.mp hp with rfl | hp
    · exact ⟨g4, by show 815 ≤ dio; omega, f4⟩
    cases hp
  (((case k6 => k_is); (case k7 => k_is); (case k8 => decide); (case k9 => first | exact BindsTo.of_eq rfl | exact binds_K (Gd.X (by assumption)) rfl (by k_is) rfl rfl rfl); (case kB => exact locs rfl); (case c2 => exact rfl); (case c3 => exact rfl); (case c4 => exact rfl); (case c5 => decide)))
  intro g L' h' lo mg mb F N B X T Bz _ Gg hLb
  have DD : Dqs S g := by
    refine ⟨Bz.into _ _ ?_ D.pb, Bz.into _ _ ?_ D.fs⟩
    all_goals
      intro qq
      simp only [lex4, List.map_cons, List.map_nil, List.mem_cons, List.not_mem_nil, or_false] at qq
      rcases qq with qq | qq | qq | qq <;> simp only [qq] at hp hfs <;> omega
  (try dsimp only)
  (try k_fold)
  iterate 6 walk1
  ((k_here; (refine wpAny_call ?_); refine' gt_okW ?r1 ?r2 ?r3 ?r4 ?rD ?rp ?rq ?r5 ?r6 ?r7 ?r8 ?r9 ?r10 ?r11 ?r12 ?r13 ?r14 ?r15 ?r16 ?r17 ?_; (case r5 => exact rfl); (case r3 => k_asm); (case r4 => k_asm); (case r1 => assumption); (case r2 => assumption); (case rD => assumption); (case rp => assumption); (case rq => assumption); (case r6 => exact rfl); (case r7 => exact rfl); (case r8 => exact rfl); (case r9 => exact Nat.le_of_ble_eq_true rfl); (case r10 => exact rfl); (case r11 => exact Nat.le_of_ble_eq_true rfl); (case r12 => assumption); (case r13 => assumption); (case r15 => assumption); (case r14 => assumption); (case r16 => assumption); (case r17 => assumption); k_whole; intro h'_i k'_i i'_i _ _ _ _ _ u'_i F'_i N'_i _))
  rw [hr]
  dsimp only [stV]
  k_steps
  all_goals ((try dsimp only); (try (k_unfold; dsimp only)))
  all_goals exact hQ _ _ _ (Bz.mv (by assumption)) ⟨_, _, _, _, _, News.get (by assumption) (by k_mem), News.get (by assumption) (by k_mem), News.get (by assumption) (by k_mem), News.get (by assumption) (by k_mem)⟩ (by assumption)
theorem nx_stop {w : World} {outer : List Env} {s : Shared} {sh dsh dio : Nat} {S : Sh} {k : Io} {x : Str} {i : Nat} {st st' : Option Str} {cs cs' : List Nat} {tok' : Str} {q' : Bool} {R : Result → Shared → Prop} {ts tl tt t : Tok} {ln : Int}
    (G : Gd w outer s.heap) (O : Ord4 sh dsh S dio) (g1 : s.heap.get? sh = some (instObj 732 dsh)) (g2 : s.heap.get? dsh = some (S.dict (stV st ts) ln tl cE tt)) (g3 : s.heap.get? S.io = some (instObj 597 dio)) (g4 : s.heap.get? dio = some (k.dict x i t))
    (D : Dqs S s.heap) (hp : S.io < S.pb) (hfs : S.io < S.fs) (f1 : sh ∉ frs outer) (f2 : dsh ∉ frs outer) (f3 : S.io ∉ frs outer) (f4 : dio ∉ frs outer)
    (hx : x.length ≤ 1000) (hdr : x.cps.toList.drop i = cs) (T : Rk cs st cE false cs' st' tok' q') (hl : tok'.length ≤ 100000) (sm : s.gens = S.gn ∧ s.os = S.os ∧ s.drawn = S.dr) (hr : resOf q' tok' = none)
    (hQ : ∀ s' e, Ms outer [sh, dsh, S.io, dio] s s' → (∃ o, s'.heap.get? e = some o ∧ o.cls = .type "StopIteration") → R (.error (.ref e)) s') :
    codeAny (Mod w) (AT 460 1700 outer) (.call (.ref 729) ⟨[.ref sh], []⟩) R s := by
  have o1 := ltN O.h1
  have o2 := ltN O.h2
  have o3 := ltN O.h3
  have o0 := O.h0
  refine' enterP (lex4 sh dsh S dio k x i st ts tl tt t ln) G ?hm ?k6 ?k7 ?k8 ?k9 ?kB ?_ ?c2 ?c3 ?c4 ?c5
  case hm =>
    intro p hp
    rcases List.mem_cons.mp hp with rfl | hp
    · exact ⟨g1, by show 815 ≤ sh; omega, f1⟩
    rcases List.mem_cons.mp hp with rfl | hp
    · exact ⟨g2, by show 815 ≤ dsh; omega, f2⟩
    rcases List.mem_cons.mp hp with rfl | hp
    · exact ⟨g3, by show 815 ≤ S.io; omega, f3⟩
    rcases List.mem_cons.mp hp with rfl | hp
    · exact ⟨g4, by show 815 ≤ dio; omega, f4⟩
    cases hp
  (((case k6 => k_is); (case k7 => k_is); (case k8 => decide); (case k9 => first | exact BindsTo.of_eq rfl | exact binds_K (Gd.X (by assumption)) rfl (by k_is) rfl rfl rfl); (case kB => exact locs rfl); (case c2 => exact rfl); (case c3 => exact rfl); (case c4 => exact rfl); (case c5 => decide)))
  intro g L' h' lo mg mb F N B X T Bz _ Gg hLb
  have DD : Dqs S g := by
    refine ⟨Bz.into _ _ ?_ D.pb, Bz.into _ _ ?_ D.fs⟩
    all_goals
      intro qq
      simp only [lex4, List.map_cons, List.map_nil, List.mem_cons, List.not_mem_nil, or_false] at qq
      rcases qq with qq | qq | qq | qq <;> simp only [qq] at hp hfs <;> omega
  (try dsimp only)
  (try k_fold)
  iterate 6 walk1
  ((k_here; (refine wpAny_call ?_); refine' gt_okW ?r1 ?r2 ?r3 ?r4 ?rD ?rp ?rq ?r5 ?r6 ?r7 ?r8 ?r9 ?r10 ?r11 ?r12 ?r13 ?r14 ?r15 ?r16 ?r17 ?_; (case r5 => exact rfl); (case r3 => k_asm); (case r4 => k_asm); (case r1 => assumption); (case r2 => assumption); (case rD => assumption); (case rp => assumption); (case rq => assumption); (case r6 => exact rfl); (case r7 => exact rfl); (case r8 => exact rfl); (case r9 => exact Nat.le_of_ble_eq_true rfl); (case r10 => exact rfl); (case r11 => exact Nat.le_of_ble_eq_true rfl); (case r12 => assumption); (case r13 => assumption); (case r15 => assumption); (case r14 => assumption); (case r16 => assumption); (case r17 => assumption); k_whole; intro h'_i k'_i i'_i _ _ _ _ _ u'_i F'_i N'_i _))
  rw [hr]
  dsimp only [stV]
  k_steps
  rename RaisedK _ _ _ _ _ _ _ _ => Rk'
  rename Heap.UpToSlots _ _ => U'
  have hsz := Heap.lt_size (RaisedK.news Rk' _ (.head _))
  refine hQ _ _ (Bz.ms Rk' U' (Nat.le_trans ?_ (Nat.le_of_lt hsz))) (RaisedK.exc Rk')
  show 815 ≤ sh
  omega
end
section
open PySem PySem.W PySem.Calls PyProof.Rows
inductive Tks : List Nat → Option Str → List Str → Prop
  | stop {cs st cs' st' tok' q'} : Rk cs st cE false cs' st' tok' q' → resOf q' tok' = none → tok'.length ≤ 100000 → Tks cs st []
  | tok {cs st cs' st' tok' q' toks} : Rk cs st cE false cs' st' tok' q' → resOf q' tok' = some tok' → tok'.length ≤ 100000 → Tks cs' st' toks → Tks cs st (tok' :: toks)
noncomputable abbrev lstO (acc : Array Value) (c : Nat) : Obj := { cls := .type "list", dict := none, data := .seq acc c, slots := #[] }
section
variable {w : World} {A : Around} {outer : List Env} {s : Shared} {sh dsh dio : Nat} {S : Sh} {k : Io} {x : Str} {E : Value → Shared → Prop}
theorem next_fns (P : Params) : findIn (kk.heap_1 P) (.ref 732) (Str.ofString "__next__") = some (some (.ref 729)) ∧ typeIn (kk.heap_1 P) (.ref 729) = some (.type "function") := ⟨by kernel_rfl, by kernel_rfl⟩
theorem nextOwn {Q : Option Value → Shared → Prop} (X : (kk.heap_1 w.params).In s.heap) (I : W.InstAt s.heap sh (instObj 732 dsh) 732 none ∨ ∃ od, W.InstAt s.heap sh (instObj 732 dsh) 732 (some od))
    (h : wpAny (Mod w) A (call (.ref 729) [.ref sh]) (fun v s' => Q (some v) s') (fun e s' => wpAny (Mod w) A (isInstance e (.type "StopIteration")) (fun b s₂ => if b = true then Q none s₂ else E e s₂) E s') s) : wpAny (Mod w) A (pyNext (.ref sh)) Q E s := by
  obtain ⟨h1, h2⟩ := next_fns w.params
  have key : ∀ od, W.InstAt s.heap sh (instObj 732 dsh) 732 od → wpAny (Mod w) A (pyNext (.ref sh)) Q E s := by
    intro od I
    unfold pyNext
    refine wpAny_bind (wpAny_attempt (special_fn (args := []) X I h1 h2 (wpAny_mono h (fun v s' hq => ?_) (fun e s' he => ?_))))
    · exact wpAny_pure hq
    · refine wpAny_bind (wpAny_mono he (fun b s₂ hb => ?_) fun _ _ z => z)
      cases b with
      | true => exact wpAny_pure hb
      | false => exact wpAny_throw hb
  rcases I with I | ⟨od, I⟩
  · exact key _ I
  · exact key _ I
end
theorem push_app (acc : Array Value) (v : Value) (vs : List Value) : acc.push v ++ vs.toArray = acc ++ (v :: vs).toArray := by
  apply Array.ext'
  simp only [Array.toList_append, Array.toList_push, List.append_assoc, List.singleton_append]
theorem ext_loop {w : World} {outer : List Env} {sh dsh dio : Nat} {S : Sh} {k : Io} {x : Str} {Sx : Nat} {A : Around} {toks : List Str}
    (O : Ord4 sh dsh S dio) (hp : S.io < S.pb) (hfs : S.io < S.fs) (hS : S.io < Sx) (hSp : Sx ≠ S.pb) (hSf : Sx ≠ S.fs) (f1 : sh ∉ frs outer) (f2 : dsh ∉ frs outer) (f3 : S.io ∉ frs outer) (f4 : dio ∉ frs outer) (f5 : Sx ∉ frs outer) (hx : x.length ≤ 1000)
    (hA : A.frames = some outer) (a1 : A.handled = none) (a2 : A.depth ≤ 450) (a3 : A.guards = some []) (a4 : A.units ≤ 1600) :
    ∀ {cs : List Nat} {st : Option Str}, Tks cs st toks → ∀ {i : Nat} {s : Shared} {acc : Array Value} {c : Nat} {R : Result → Shared → Prop}, x.cps.toList.drop i = cs → Gd w outer s.heap → Lx sh dsh S dio k x i st s.heap → Dqs S s.heap → (s.gens = S.gn ∧ s.os = S.os ∧ s.drawn = S.dr) →
      s.heap.get? Sx = some (lstO acc c) → acc.size + toks.length ≤ 1000 →
      (∀ s' vs c', Ms outer [sh, dsh, S.io, dio, Sx] s s' → StrsAre vs toks → s'.heap.get? Sx = some (lstO (acc ++ vs.toArray) c') → R (.ok (.ret .none)) s') →
      codeAny (Mod w) A (.builtin "list.extend.loop" ⟨[.ref Sx, .ref sh, .none], []⟩) R s := by
  intro cs st T
  have h0 := O.h0
  have h1 := O.h1
  have h2 := O.h2
  have h3 := O.h3
  have n4 : ∀ b : Nat, S.io < b → b ∉ [sh, dsh, S.io, dio] := fun b hb q => by simp only [List.mem_cons, List.not_mem_nil, or_false] at q; omega
  have ne4 : ∀ b : Nat, b < Sx → b ≠ Sx := fun b hb => Nat.ne_of_lt hb
  induction T with
  | stop T hr hl =>
    intro i s acc c R hdr G Z D sm hlst hsz hR
    obtain ⟨ts, tl, tt, t, ln, g1, g2, g3, g4⟩ := Z.ex
    refine codeAny_builtin F.entry_extend_loop ?_
    rw [Around.under_plainId F.plain_extend_loop _]
    show wpAny _ A.in1 (pyNext (.ref sh) >>= _) _ _ s
    refine wpAny_bind (nextOwn G.X (.inr ⟨_, ⟨g1, rfl, rfl, g2⟩⟩) (wpAny_call ?_))
    refine codeAny_le (nx_stop G O g1 g2 g3 g4 D hp hfs f1 f2 f3 f4 hx hdr T hl sm hr ?_) a1 (Nat.le_trans a2 (show (450 : Nat) ≤ 460 by decide)) hA a3 (Nat.le_trans (Nat.succ_le_succ a4) (show Nat.succ 1600 ≤ 1700 by decide))
    intro s' e M he
    refine wpAny_isInstance (T := "StopIteration") (b := true) he isSubtype_stop ?_
    simp only [if_true]
    refine wpAny_pure (hR s' [] c ⟨fun b o n1 n2 e => M.keep b o (fun q => n1 (List.mem_append_left [Sx] q)) n2 e, fun b o n1 n2 e h => M.slot b o (fun q => n1 (List.mem_append_left [Sx] q)) n2 e h, M.gens, M.os, M.dr, M.big⟩ .nil ?_)
    · have := M.keep Sx _ (n4 _ hS) f5 hlst
      simpa using this
  | @tok cs st cs' st' tok' q' toks T hr hl T' ih =>
    intro i s acc c R hdr G Z D sm hlst hsz hR
    obtain ⟨ts, tl, tt, t, ln, g1, g2, g3, g4⟩ := Z.ex
    refine codeAny_builtin F.entry_extend_loop ?_
    rw [Around.under_plainId F.plain_extend_loop _]
    show wpAny _ A.in1 (pyNext (.ref sh) >>= _) _ _ s
    refine wpAny_bind (nextOwn G.X (.inr ⟨_, ⟨g1, rfl, rfl, g2⟩⟩) (wpAny_call ?_))
    refine codeAny_le (nx_tok G O g1 g2 g3 g4 D hp hfs f1 f2 f3 f4 hx hdr T hl sm hr ?_) a1 (Nat.le_trans a2 (show (450 : Nat) ≤ 460 by decide)) hA a3 (Nat.le_trans (Nat.succ_le_succ a4) (show Nat.succ 1600 ≤ 1700 by decide))
    intro s' i' u M Z' hd'
    have hlst' := M.keep Sx _ (n4 _ hS) hlst
    show wpAny _ A.in1 (updateSeq Sx (·.push (.str tok' u)) >>= _) _ _ _
    refine wpAny_bind (wpAny_updateSeq hlst' rfl ?_ (by simp only [List.length_cons] at hsz; exact Nat.le_trans (by omega) (show (1000 : Nat) ≤ sizeLine by decide)) (by simp only [List.length_cons] at hsz; rw [Array.size_push]; exact Nat.le_trans (by omega) (show (1000 : Nat) ≤ sizeLine + 1 by decide)))
    refine wpAny_pure ⟨plainId_quiet F.plain_extend_loop _, ?_⟩
    have oth : ∀ b o, b ≠ Sx → s'.heap.get? b = some o → (s'.heap.update Sx (Obj.mapSeq (·.push (.str tok' u)))).get? b = some o := fun b o hb e => (Heap.get?_update_other _ _ (Ne.symm hb)).trans e
    have hnew := Heap.get?_update_self (Obj.mapSeq (·.push (Value.str tok' u))) hlst' rfl
    have fr4 : ∀ b ∈ [sh, dsh, S.io, dio], (815 ≤ b ∨ b = 746) ∧ b ∉ frs outer := by
      intro b hb
      simp only [List.mem_cons, List.not_mem_nil, or_false] at hb
      rcases hb with rfl | rfl | rfl | rfl
      · exact ⟨.inl (by omega), f1⟩
      · exact ⟨.inl (by omega), f2⟩
      · exact ⟨.inl (by omega), f3⟩
      · exact ⟨.inl (by omega), f4⟩
    have G' := G.after M fr4
    have hs0 : Heap.SameBut Sx s'.heap (s'.heap.update Sx (Obj.mapSeq (·.push (.str tok' u)))) := Heap.SameBut.update ..
    obtain ⟨ts2, tl2, tt2, t2, ln2, z1, z2, z3, z4⟩ := Z'.ex
    refine ih (i := i') (acc := acc.push (.str tok' u)) hd' (G'.mv (fun b o hb _ e => oth b o (ne4 b (Nat.lt_of_lt_of_le hb (Nat.le_trans h0 (by omega)))) e) (fun b o hb e => ⟨o, oth b o (fun q => f5 (q ▸ hb)) e, rfl⟩) (Nat.le_of_eq hs0.1.symm)) ⟨ts2, tl2, tt2, t2, ln2, oth _ _ (ne4 _ (by omega)) z1, oth _ _ (ne4 _ (by omega)) z2, oth _ _ (ne4 _ (by omega)) z3, oth _ _ (ne4 _ (by omega)) z4⟩
      ⟨oth _ _ (Ne.symm hSp) (M.keep _ _ (n4 _ hp) D.pb), oth _ _ (Ne.symm hSf) (M.keep _ _ (n4 _ hfs) D.fs)⟩ ⟨M.gens.trans sm.1, M.os.trans sm.2.1, M.dr.trans sm.2.2⟩ hnew (by rw [Array.size_push]; simp only [List.length_cons] at hsz; omega) ?_
    intro s'' vs c' M' hv hl'
    refine hR s'' (.str tok' u :: vs) c' ⟨fun b o n1 n2 e => ?_, fun b o n1 n2 e h => ?_, M'.gens.trans M.gens, M'.os.trans M.os, M'.dr.trans M.dr, M'.big⟩ (.cons _ _ hv) ?_
    · have nS : b ≠ Sx := fun q => n1 (by rw [q]; simp)
      exact M'.keep b o n1 n2 (oth b o nS (M.keep b o (fun q => n1 (List.mem_append_left [Sx] q)) e))
    · have nS : b ≠ Sx := fun q => n1 (by rw [q]; simp)
      exact M'.slot b o n1 n2 (oth b o nS (M.keep b o (fun q => n1 (List.mem_append_left [Sx] q)) e)) h
    · rw [hl', push_app]
end
section
open PySem PySem.W PySem.Calls PyProof.Rows
section
variable {w : World} {h : Heap}
noncomputable abbrev S39 (w : World) : Setting := ⟨PySem.Challenge.pw_mj0334_01, w.params⟩
theorem io_made (S : Setting) (P : Params) : peek (kk.heap_1 P) S (Bind.madeBy (.ref 597)) = some none := by kernel_rfl
theorem io_base (S : Setting) (P : Params) : peek (kk.heap_1 P) S (Bind.staticBase (.ref 597)) = some (.type "object") := by kernel_rfl
theorem io_top (S : Setting) (P : Params) : peek (kk.heap_1 P) S (Bind.madeBy (.type "object")) = some (some "object.__new__") := by kernel_rfl
theorem io_facts (P : Params) : specialIn (kk.heap_1 P) (.ref 597) "__call__" = some (some (.builtin "type.__call__")) ∧ instIn (kk.heap_1 P) (.ref 597) (.type "type") = some true ∧ readsIn (kk.heap_1 P) 597 (.type "type") = true ∧ mroIn (kk.heap_1 P) 597 (.ref 597) = some true := ⟨by kernel_rfl, by kernel_rfl, by kernel_rfl, by kernel_rfl⟩
theorem io_new (P : Params) : ∃ p g, findCls (kk.heap_1 P) (.ref 597) (.type "type") (Str.ofString "__new__") = some (.get g (.ref p) .none (.ref 597)) ∧ g = .builtin "staticmethod.__get__" ∧ (recIn (kk.heap_1 P) p "staticmethod").map (·.head?) = some (some (.ref 90)) := ⟨_, _, by k_is, by kernel_rfl, by kernel_rfl⟩
theorem io_init (P : Params) : findIn (kk.heap_1 P) (.ref 597) "__init__" = some (some (.ref 367)) ∧ typeIn (kk.heap_1 P) (.ref 367) = some (.type "function") := ⟨by kernel_rfl, by kernel_rfl⟩
end
theorem enterQ {w : World} {d u : Nat} {outer : List Env} {s s₀ : Shared} {f : Addr} {args : Args} {R : Result → Shared → Prop} {name qual : Str} {params : Arguments} {body : List Stmt} {scope : Scope} {dV kV doc pm cdv ct oc : Value}
    {an od : Option Addr} {osl : Array (Option Value)} {binds : List (Str × Value)} (muts : List (Addr × Obj))
    (G : Gd w outer s.heap) (hm : ∀ p ∈ muts, s.heap.get? p.1 = some p.2 ∧ 815 ≤ p.1 ∧ p.1 ∉ frs outer)
    (ho : (kk.heap_1 w.params).lookup f = some ⟨oc, od, .func (fnOf name qual params body scope dV kV doc pm an cdv ct), osl⟩) (hcd : codeIn (kk.heap_1 w.params) cdv qual = true) (hroom : d < recursionLimit)
    (G₀ : Gd w outer s₀.heap) (hbind : ∀ (Q : List (Str × Value) → Shared → Prop) (E : Value → Shared → Prop), Q binds s → wpAny (Mod w) (AT d u outer).in1 (bindArgs (fnOf name qual params body scope dV kV doc pm an cdv ct) args) Q E s₀) (hloc : ∀ y ∈ binds, scope.names.lookup y.1 = some .local)
    (h : ∀ g L' h₁ lo mg mb, Fr g L' h₁ (fun y => binds.reverse.lookup y) → News g L' h₁ muts → Below (AT d u outer) (hideAll g (frs outer)) outer g → (kk.heap_1 w.params).In g → TopRead vw lo mg mb g → Bs muts s g L' → (∀ p ∈ muts, p.1 < L') → Gd w outer g → 815 ≤ L' →
      wpAny (Mod w) ((AT d u outer).deeper (envOf qual scope L' f cdv)) (execs body (envOf qual scope L' f cdv)) (fun fl s' => R (.ok (.ret (match fl with | .ret v => v | _ => .none))) s')
        (fun e s' => wpAny (Mod w) ((AT d u outer).deeper (envOf qual scope L' f cdv)) (leaving (envOf qual scope L' f cdv) e) (fun _ s'' => R (.error e) s'') (fun e' s'' => R (.error e') s'') s')
        { s with heap := h₁, toks := s.toks + binds.length })
    (hco : scope.isCoroutine = false) (hgen : scope.isGenerator = false) (hk : scope.kind = .function) (hcell : ∀ x ∈ scope.names, x.2 ≠ .cell) :
    codeAny (Mod w) (AT d u outer) (.call (.ref f) args) R s₀ := by
  obtain ⟨lo, mg, mb, T⟩ := G.T
  refine codeAny_call_function (fd := fnOf name qual params body scope dV kV doc pm an cdv ct) (body := body) hroom (G₀.X _ _ ho) rfl hco hgen rfl (codeRec_of G₀.X hcd) (hbind _ _ ?_)
  refine wpAny_newFunctionEnv hcell hloc (fun h₁ hns hsb => ⟨T.nolimit.fresh _ hsb, codeAny_func ?_⟩) hk
  have hk₁ : ∀ b o, s.heap.get? b = some o → h₁.get? b = some o := fun b o e => hsb.extBut b o (Nat.ne_of_lt (Heap.lt_size e)) (Heap.get?_push_of_some _ e)
  have into : ∀ b o, b ∉ muts.map (·.1) → s.heap.get? b = some o → (hideAll s.heap (muts.map (·.1))).get? b = some o := fun b o n e => hideAll_get _ e n
  have lowM : ∀ b o, b < 815 → s.heap.get? b = some o → (hideAll s.heap (muts.map (·.1))).get? b = some o := fun b o hb e => into b o (fun q => by
    obtain ⟨p, hp, rfl⟩ := List.mem_map.mp q
    exact absurd hb (Nat.not_lt.mpr (hm p hp).2.1)) e
  have frM : ∀ b ∈ frs outer, b ∉ muts.map (·.1) := fun b hb q => by
    obtain ⟨p, hp, rfl⟩ := List.mem_map.mp q
    exact (hm p hp).2.2 hb
  have T' : TopRead vw lo mg mb (hideAll s.heap (muts.map (·.1))) := by
    obtain ⟨mc, h1, h2⟩ := T.nolimit
    exact ⟨ns_at T.g fun o => lowM _ o (by decide), ns_at T.b fun o => lowM _ o (by decide), ⟨mc, ns_at h1 fun o => lowM _ o (by decide), h2⟩, T.builtins, T.free⟩
  have BG : Below (AT d u outer) (hideAll (hideAll s.heap (muts.map (·.1))) (frs outer)) outer (hideAll s.heap (muts.map (·.1))) := by
    refine ⟨rfl, fun b o e => of_hideAll _ e, ?_⟩
    have key : ∀ l : List Env, (∀ env ∈ l, env ∈ outer) → (hideAll s.heap (muts.map (·.1))).FunFrames (hideAll (hideAll s.heap (muts.map (·.1))) (frs outer)) l := by
      intro l
      induction l with
      | nil => intro _; trivial
      | cons env r ih =>
        intro hl
        obtain ⟨hk', L, o, es, n, hf, hL, ho', hd'⟩ := G.fr env (hl env (.head _))
        have hin : L ∈ frs outer := List.mem_filterMap.mpr ⟨env, hl env (.head _), hf⟩
        exact ⟨by rw [hk']; decide, ⟨L, o, hf, hideAll_none _ hin, into L o (frM L hin) ho', fun vs q => by rw [hd'] at q; cases q⟩, ih fun e he => hl e (.tail _ he)⟩
    exact key outer fun _ h => h
  show wpAny (Mod w) ((AT d u outer).deeper (envOf qual scope s.heap.objs.size f cdv)) (execs body (envOf qual scope s.heap.objs.size f cdv)) _ _ _
  exact h _ s.heap.objs.size h₁ lo mg mb ⟨hns, fun b o e => hk₁ b o (of_hideAll _ e), Nat.le_of_eq (hideAll_size _ _)⟩
    (fun p hp => ⟨hk₁ _ _ (hm p hp).1, Nat.ne_of_lt (Heap.lt_size (hm p hp).1), hideAll_none _ (List.mem_map_of_mem hp)⟩) BG
    (fun a o e => lowM a o (key_lt e) (G.X a o e)) T' ⟨into, fun b o e => of_hideAll _ e, rfl, hideAll_size _ _⟩ (fun p hp => Heap.lt_size (hm p hp).1)
    (G.mv (fun b o hb _ e => lowM b o hb e) (fun b o hb e => ⟨o, into b o (frM b hb) e, rfl⟩) (Nat.le_of_eq (hideAll_size _ _).symm)) G.big
end
section
open PySem PySem.W PySem.Calls PyProof.Rows
noncomputable abbrev tupO (vs : Array Value) : Obj := { cls := .type "tuple", data := .seq vs }
theorem io_check (S : Setting) (P : Params) : peek (kk.heap_1 P) S (checkBuiltinCall "object.__new__" ⟨[.ref 597], []⟩) = some () := by kernel_rfl
theorem io_isType (S : Setting) (P : Params) : peek (kk.heap_1 P) S (isType (.ref 597)) = some true := by kernel_rfl
theorem io_cls (P : Params) : ∃ oc od cd sl, (kk.heap_1 P).lookup 597 = some ⟨oc, od, .cls cd, sl⟩ ∧ cd.abstract = false ∧ cd.hasDel = false := ⟨_, _, _, _, by k_is, rfl, rfl⟩
theorem objnew {w : World} {A : Around} {h : Heap} {g : Array GenState} {d : Drawn} {t : Nat} {os : OsState} {R : Result → Shared → Prop} (X : (kk.heap_1 w.params).In h)
    (hq : R (.ok (.ret (.ref (h.objs.size + 1)))) ⟨(h.push emptyDict).push (instObj 597 h.objs.size), g, d, t, os⟩) :
    codeAny (Mod w) A (.call (.builtin "object.__new__") ⟨[.ref 597], []⟩) R ⟨h, g, d, t, os⟩ := by
  have F := PySem.F.objNew
  have base : Looks (Mod w) h (Bind.staticBase (.ref 597)) (.type "object") := Looks.of_peek X (io_base _ _)
  have made : Looks (Mod w) h (Bind.madeBy (.type "object")) (some "object.__new__") := Looks.of_peek X (io_top _ _)
  have here : Looks (Mod w) h (Bind.madeHere "object.__new__" (.ref 597)) () := base.andThen (made.andThen (Looks.of_pure (by simp only [Option.map_some, bne_self_eq_false, Bool.false_eq_true, if_false])))
  have isT : Looks (Mod w) h (isType (.ref 597)) true := Looks.of_peek X (io_isType _ _)
  obtain ⟨oc, od, cd, sl, hC, e1, e2⟩ := io_cls w.params
  have hc : clsIn (kk.heap_1 w.params) 597 = some cd := by unfold clsIn; rw [hC]
  have cD : Looks (Mod w) h (classData 597) cd := looks_clsIn X hc
  have hC := X _ _ hC
  refine codeAny_call_builtin_code (Code.quiet_builtin _ F.quiet) ((Looks.of_peek X (io_check _ _)).at ?_)
  refine codeAny_builtin F.entry ?_
  unfold Builtin.«object.__new__»
  refine wpAny_bind (isT.at ?_)
  simp only [Bool.not_true, Bool.false_eq_true, if_false]
  refine wpAny_bind (here.at ?_)
  simp only [List.isEmpty_nil, Bool.not_true, Bool.or_self, Bool.false_eq_true, if_false]
  refine wpAny_bind (cD.at ?_)
  rw [if_neg (by rw [e1]; decide)]
  show wpAny _ _ ((alloc emptyDict >>= fun x => pure (some x)) >>= _) _ _ _
  refine wpAny_bind (wpAny_bind (wpAny_alloc (wpAny_pure (wpAny_bind ?_))))
  show wpAny _ _ (newObjAsIs _ _ _) _ _ _
  unfold newObjAsIs classHasDel
  refine wpAny_bind (wpAny_alloc (wpAny_bind (wpAny_bind (wpAny_load (Heap.get?_push_of_some _ (Heap.get?_push_of_some _ hC)) (wpAny_pure ?_)))))
  rw [e2]
  refine wpAny_pure (wpAny_pure ?_)
  show R _ _
  rw [Heap.size_push]
  exact hq

theorem n90_bind (P : Params) (a b : Value) : bindArgs (fnO ((kk.heap_1 P).lookup 90)) ⟨[a, b], []⟩ = (alloc (tupO #[b]) >>= fun C => alloc emptyDict >>= fun D => pure [(Str.ofString "cls", a), (Str.ofString "args", .ref C), (Str.ofString "kwargs", .ref D)]) := by kernel_rfl
theorem new90 {w : World} {outer : List Env} {s : Shared} {b : Value} {R : Result → Shared → Prop} (G : Gd w outer s.heap)
    (hQ : ∀ s' xi dx, Mv [] s s' → s'.heap.get? xi = some (instObj 597 dx) → s'.heap.get? dx = some emptyDict → s.heap.objs.size ≤ dx → dx < xi → R (.ok (.ret (.ref xi))) s') :
    codeAny (Mod w) (AT 440 1550 outer) (.call (.ref 90) ⟨[.ref 597, b], []⟩) R s := by
  have k2 : ∀ bb o, s.heap.get? bb = some o → ((s.heap.push (tupO #[b])).push emptyDict).get? bb = some o := fun bb o e => Heap.get?_push_of_some _ (Heap.get?_push_of_some _ e)
  have hz : s.heap.objs.size ≤ ((s.heap.push (tupO #[b])).push emptyDict).objs.size := by rw [Heap.size_push, Heap.size_push]; omega
  have eb := n90_bind w.params (.ref 597) b
  rw [(by k_is : (kk.heap_1 w.params).lookup 90 = some _)] at eb
  refine' enterQ (s := { s with heap := (s.heap.push (tupO #[b])).push emptyDict }) (binds := [(Str.ofString "cls", .ref 597), (Str.ofString "args", .ref s.heap.objs.size), (Str.ofString "kwargs", .ref (s.heap.objs.size + 1))]) [] (G.keeps k2 hz) ?hm ?k6 ?k7 ?k8 G ?k9 ?kB ?_ ?c2 ?c3 ?c4 ?c5
  case hm => intro p hp; cases hp
  case k6 => k_is
  case k7 => k_is
  case k8 => decide
  case k9 =>
    intro Q E hq
    refine Eq.mpr (congrArg (fun t => wpAny (Mod w) (AT 440 1550 outer).in1 t Q E s) eb) ?_
    refine wpAny_bind (wpAny_alloc (wpAny_bind (wpAny_alloc (wpAny_pure ?_))))
    have e2 : (s.heap.push (tupO #[b])).objs.size = s.heap.objs.size + 1 := Heap.size_push _ _
    show Q [(Str.ofString "cls", .ref 597), (Str.ofString "args", .ref s.heap.objs.size), (Str.ofString "kwargs", .ref (s.heap.push (tupO #[b])).objs.size)] _
    rw [e2]
    exact hq
  case kB => exact locs rfl
  case c2 => exact rfl
  case c3 => exact rfl
  case c4 => exact rfl
  case c5 => decide
  intro g L' h' lo mg mb F N B X T Bz _ Gg hLb
  (try dsimp only)
  (try k_fold)
  k_steps
  refine wpAny_call (objnew (X.keeps (Fr.keep (by assumption))) ?_)
  dsimp only
  (try (k_unfold; dsimp only))
  rename Nat => tkk
  have Mz := Bz.mv ((F.push emptyDict).push (instObj 597 h'.objs.size)) (tk := tkk + 1)
  refine hQ _ _ h'.objs.size ⟨fun b' o nb e => Mz.keep b' o nb (k2 b' o e), rfl, rfl, rfl, Nat.le_trans hz Mz.size⟩ ?_ ?_ ?_ (Nat.lt_succ_self _)
  · have z : ((h'.push emptyDict).push (instObj 597 h'.objs.size)).get? (h'.push emptyDict).objs.size = some (instObj 597 h'.objs.size) := Heap.get?_push_size _ rfl
    rw [Heap.size_push] at z
    exact z
  · exact Heap.get?_push_of_some _ (Heap.get?_push_size _ rfl)
  · obtain ⟨oo, _, _, ho, _⟩ := F.ns
    have z1 := Heap.lt_size ho
    have z2 := Bz.at_
    dsimp only at z2
    rw [z2] at z1
    exact Nat.le_trans hz (Nat.le_of_lt z1)
end
section
open PySem PySem.W PySem.Calls PyProof.Rows
theorem init367 {w : World} {outer : List Env} {s : Shared} {xi dx : Nat} {x : Str} {t : Tok} {R : Result → Shared → Prop} (G : Gd w outer s.heap) (h1 : s.heap.get? xi = some (instObj 597 dx)) (h2 : s.heap.get? dx = some emptyDict) (hne : dx < xi) (hb : 815 ≤ dx) (hf1 : xi ∉ frs outer) (hf2 : dx ∉ frs outer)
    (hQ : ∀ s' (k : Io) t', Mv [xi, dx] s s' → s'.heap.get? xi = some (instObj 597 dx) → s'.heap.get? dx = some (k.dict x 0 t') → R (.ok (.ret .none)) s') :
    codeAny (Mod w) (AT 441 1552 outer) (.call (.ref 367) ⟨[.ref xi, .str x t], []⟩) R s := by
  refine' enterP [(xi, instObj 597 dx), (dx, emptyDict)] G ?hm ?k6 ?k7 ?k8 ?k9 ?kB ?_ ?c2 ?c3 ?c4 ?c5
  case hm => intro p hp; rcases List.mem_cons.mp hp with rfl | hp; exact ⟨h1, by show 815 ≤ xi; omega, hf1⟩; rcases List.mem_cons.mp hp with rfl | hp; exact ⟨h2, hb, hf2⟩; cases hp
  (((case k6 => k_is); (case k7 => k_is); (case k8 => decide); (case k9 => first | exact BindsTo.of_eq rfl | exact binds_K (Gd.X (by assumption)) rfl (by k_is) rfl rfl rfl); (case kB => exact locs rfl); (case c2 => exact rfl); (case c3 => exact rfl); (case c4 => exact rfl); (case c5 => decide)))
  intro g L' h' lo mg mb F N B X T Bz _ Gg hLb
  replace hne := ltN hne
  (try dsimp only)
  (try k_fold)
  k_steps
  rename News _ _ _ _ => NN
  exact hQ _ (Io.mk _ _ _ _ _ _ _ _) _ (Bz.mv (by assumption)) (News.get NN (.head _)) (News.get NN (.tail _ (.head _)))
end
section
open PySem PySem.W PySem.Calls PyProof.Rows
theorem io_cls2 (P : Params) : ∃ oc od cd sl, (kk.heap_1 P).lookup 597 = some ⟨oc, od, .cls cd, sl⟩ ∧ cd.mro.isEmpty = false := ⟨_, _, _, _, by k_is, rfl⟩
theorem io_mk {w : World} {outer : List Env} {s : Shared} {x : Str} {t : Tok} {R : Result → Shared → Prop} (G : Gd w outer s.heap)
    (hQ : ∀ s' xi dx (k : Io) t', Mv [] s s' → s'.heap.get? xi = some (instObj 597 dx) → s'.heap.get? dx = some (k.dict x 0 t') → s.heap.objs.size ≤ dx → dx < xi → R (.ok (.ret (.ref xi))) s') :
    codeAny (Mod w) (AT 438 1548 outer) (.call (.ref 597) ⟨[.str x t], []⟩) R s := by
  have X := G.X
  obtain ⟨c1, c2, c3, c4⟩ := io_facts w.params
  obtain ⟨oc, od, cd, sl, hC, e4⟩ := io_cls2 w.params
  obtain ⟨pn, gn, n1, n2, n3⟩ := io_new w.params
  obtain ⟨i1, i2⟩ := io_init w.params
  have call : Looks (Mod w) s.heap (specialOf (.ref 597) "__call__") (some (.builtin "type.__call__")) := looks_specialIn X c1
  have typ : Looks (Mod w) s.heap (isInstance (.ref 597) (.type "type")) true := looks_instIn X c2
  have made : Looks (Mod w) s.heap (Bind.madeBy (.ref 597)) none := Looks.of_peek X (io_made _ _)
  have hC' := X _ _ hC
  refine codeAny_of_tree ?_
  show wpAny _ _ (callAny (.ref 597) _) _ _ _
  refine nd_load hC' ?_
  show wpAny _ _ (callAny.viaDunder (.ref 597) _) _ _ _
  unfold callAny.viaDunder
  refine wpAny_bind (call.here ?_)
  dsimp only
  rw [tc_bind]
  refine wpAny_bind (wpAny_pure (wpAny_bind (wpAny_pure ?_)))
  refine wpAny_pure (a := Fin.again (.call (.builtin "type.__call__") ⟨[.ref 597, .str x t], []⟩)) (And.intro rfl ?_)
  obtain ⟨hh, gg, dd, tt, os⟩ := s
  refine codeAny_call_builtin_at (Code.quiet_builtin _ (by decide +kernel)) entry_typeCall (check_slot tc_kind tc_split typ (tc_args _ _ _) ?_)
  unfold Builtin.«type.__call__»
  have hm : Looks (Mod w) hh (mroOf (.ref 597)) cd.mro := ((Looks.ld (part := none) hC').andThen .now).andThen .now
  show wpAny _ _ (mroOf (.ref 597) >>= _) _ _ _
  refine wpAny_bind (hm.at ?_)
  rw [if_neg (by rw [e4]; decide)]
  refine wpAny_bind (made.at ?_)
  refine wpAny_bind ?_
  subst n2
  obtain ⟨vs, hv1, hv2⟩ := Option.map_eq_some_iff.mp n3
  obtain ⟨v0, vr, rfl⟩ : ∃ v0 vr, vs = v0 :: vr := by cases vs with | nil => cases hv2 | cons a l => exact ⟨a, l, rfl⟩
  cases hv2
  refine cls_bind X c3 n1 (wpAny_call (sm_get X hv1 (handed_on rfl ?_)))
  refine wpAny_bind (wpAny_holding (wpAny_call ?_))
  refine codeAny_le (new90 G ?_) rfl (Nat.le_of_ble_eq_true rfl) rfl rfl (Nat.le_of_ble_eq_true rfl)
  intro s1 xi dx M1 g1 g2 l1 l2
  have M1 : Mv [] ⟨hh, gg, dd, tt, os⟩ s1 := ⟨M1.keep, M1.gens, M1.os, M1.dr, M1.size⟩
  have G1 := G.after M1 (fun b hb => by cases hb)
  have X1 := G1.X
  have t1 : Looks (Mod w) s1.heap (typeOf (.ref xi)) (.ref 597) := (Looks.ld g1).andThen .now
  have self : Looks (Mod w) s1.heap (isSubtype (.ref 597) (.ref 597)) true := looks_mroIn X1 c4
  have isI : Looks (Mod w) s1.heap (isInstance (.ref xi) (.ref 597)) true := t1.andThen self
  refine wpAny_bind (isI.here ?_)
  rw [if_neg (by decide)]
  refine wpAny_bind (wpAny_holding (special_fn (args := [.str x t]) X1 (⟨g1, rfl, rfl, g2⟩ : W.InstAt s1.heap xi (instObj 597 dx) 597 (some emptyDict)) i1 i2 (wpAny_call ?_)))
  have big : 815 ≤ hh.objs.size := G.big
  have nf : ∀ b : Nat, hh.objs.size ≤ b → b ∉ frs outer := fun b hb q => by
    obtain ⟨env, he, hfe⟩ := List.mem_filterMap.mp q
    obtain ⟨_, L, _, _, _, h1, _, h3, _⟩ := G.fr env he
    rw [hfe] at h1
    cases h1
    exact absurd (Heap.lt_size h3) (Nat.not_lt.mpr hb)
  refine codeAny_le (init367 G1 g1 g2 l2 (Nat.le_trans big l1) (nf _ (Nat.le_trans l1 (Nat.le_of_lt l2))) (nf _ l1) ?_) rfl (Nat.le_of_ble_eq_true rfl) rfl rfl (Nat.le_of_ble_eq_true rfl)
  intro s2 k t' M2 z1 z2
  refine wpAny_pure (hQ s2 xi dx k t' ⟨fun b o _ e => M2.keep b o (fun q => ?_) (M1.keep b o (fun q => nomatch q) e), M2.gens.trans M1.gens, M2.os.trans M1.os, M2.dr.trans M1.dr, Nat.le_trans M1.size M2.size⟩ z1 z2 l1 l2)
  have hb := Heap.lt_size e
  rcases List.mem_cons.mp q with q | q
  · exact absurd hb (Nat.not_lt.mpr (q ▸ Nat.le_trans l1 (Nat.le_of_lt l2)))
  · exact absurd hb (Nat.not_lt.mpr (List.mem_singleton.mp q ▸ l1))
end
section
open PySem PySem.W PySem.Calls PyProof.Rows
theorem slot_dq_init : Slot "collections.deque" (Str.ofString "__init__") "collections.deque.__init__" :=
  .of (owner := "collections.deque") (n := "__init__") (by rw [typeLookup_type, builtinLookup_eq_fast]; kernel_rfl) (by decide +kernel) (by decide +kernel) (by decide +kernel)
    (by first | exact .inl (by decide +kernel) | exact .inr (by decide +kernel)) (by rw [isSubtype_type]; kernel_rfl)
theorem mro_dq : mroOf (.type "collections.deque") = pure [.type "collections.deque", .type "object"] := by rw [mroOf_type]; kernel_rfl
theorem lookup_dq_new : typeLookup (.type "collections.deque") "__new__" = pure (some (.builtin "collections.deque.__new__")) := by rw [typeLookup_type, builtinLookup_eq_fast]; kernel_rfl
theorem called_dq : TypeCalled "collections.deque" "collections.deque.__new__" "collections.deque.__init__" :=
  ⟨by decide +kernel, by decide +kernel, ⟨_, _, mro_dq⟩, madeBy_type mro_dq lookup_dq_new (by decide +kernel), by decide +kernel, by rw [isSubtype_type]; kernel_rfl, slot_dq_init⟩
theorem typeCall_dq : checkTypeCall "collections.deque" ⟨[], []⟩ = pure () := by kernel_rfl
theorem newCall_dq : checkBuiltinCall "collections.deque.__new__" ⟨[.type "collections.deque"], []⟩ = pure () := by kernel_rfl
theorem entry_dq_new : entryFor table "collections.deque.__new__" = some Builtin.«collections.deque.__new__» := entryFor_of_tree (by kernel_rfl)
theorem plain_dq_new : plainId "collections.deque.__new__" = true := by decide +kernel
theorem entry_dq_init : entryFor table "collections.deque.__init__" = some Builtin.«collections.deque.__init__» := entryFor_of_tree (by kernel_rfl)
theorem args_dq_init (a : Value) : argsOk "collections.deque.__init__" ⟨[a], []⟩ := by unfold argsOk; kernel_rfl
theorem run_dq_new : Builtin.«collections.deque.__new__» ⟨[.type "collections.deque"], []⟩ = (alloc dqO >>= fun a => pure (.done (.ret (.ref a)))) := by kernel_rfl
theorem run_dq_init (a : Addr) : Builtin.«collections.deque.__init__» ⟨[.ref a], []⟩ = (setField (.ref a) 0 .none >>= fun _ => Builtin.Deque.clear (.ref a) >>= fun _ => ret .none) := by kernel_rfl
theorem dq_mk {w : World} {A : Around} {E : Value → Shared → Prop} {s : Shared} {Q : Value → Shared → Prop}
    (h : ∀ h', h'.get? s.heap.objs.size = some dqO → Heap.SameBut s.heap.objs.size (s.heap.push dqO) h' → Q (.ref s.heap.objs.size) { s with heap := h' }) : wpAny (Mod w) A (call (.type "collections.deque") []) Q E s := by
  refine callType_codes (Q₁ := fun obj s₁ => obj = .ref s.heap.objs.size ∧ s₁ = { s with heap := s.heap.push dqO }) called_dq typeCall_dq entry_dq_init ?_ fun obj s₁ h₁ => ?_
  · refine codeAny_of_tree ?_
    show wpAny _ A.in1.in1 (do checkBuiltinCall "collections.deque.__new__" ⟨[.type "collections.deque"], []⟩; again (.builtin "collections.deque.__new__" ⟨[.type "collections.deque"], []⟩)) _ _ s
    refine wpAny_bind (wpAny_of_eq newCall_dq (wpAny_pure ⟨plainId_quiet plain_dq_new _, codeAny_builtin entry_dq_new ?_⟩))
    rw [run_dq_new]
    exact wpAny_bind (wpAny_alloc (wpAny_pure ⟨rfl, rfl⟩))
  · obtain ⟨rfl, rfl⟩ := h₁
    have hS : (s.heap.push dqO).get? s.heap.objs.size = some dqO := Heap.get?_push_size _ rfl
    refine ⟨⟨_, hS, rfl⟩, args_dq_init _, ?_⟩
    rw [run_dq_init]
    have sb : Heap.SameBut s.heap.objs.size (s.heap.push dqO) ((s.heap.push dqO).update s.heap.objs.size (Obj.mapFields (·.setIfInBounds 0 .none))) := Heap.SameBut.update ..
    have hN : ((s.heap.push dqO).update s.heap.objs.size (Obj.mapFields (·.setIfInBounds 0 .none))).get? s.heap.objs.size = some dqO := Heap.get?_update_self (Obj.mapFields (·.setIfInBounds 0 .none)) hS rfl
    refine wpAny_bind ?_
    show wpAny _ _ (updateField s.heap.objs.size 0 .none) _ _ _
    unfold updateField
    refine wpAny_bind (wpAny_load hS ?_)
    dsimp only
    rw [if_pos (by decide)]
    refine wpAny_update hS ?_
    unfold Builtin.Deque.clear Builtin.Deque.items
    refine wpAny_bind (wpAny_bind (wpAny_bind (wpAny_fieldsOf hN rfl (wpAny_pure ?_))))
    rw [if_neg (by decide)]
    exact wpAny_pure (wpAny_pure ⟨rfl, h _ hN sb⟩)
end
section
open PySem PySem.W PySem.Calls PyProof.Rows
section
variable {w : World} {A : Around} {env : Env} {outer : List Env} {s : Shared} {g : Heap} {L : Addr} {m : Str → Option Value} {news : List (Addr × Obj)} {E : Value → Shared → Prop}
theorem frLt {g h : Heap} {L : Addr} {m : Str → Option Value} (F : Fr g L h m) : L < h.objs.size := by
  obtain ⟨o, _, _, ho, _⟩ := F.ns
  exact Heap.lt_size ho
theorem io_mkW {x : Str} {t : Tok} {R : Result → Shared → Prop} (Gg : Gd w outer g) (hL : 815 ≤ L) (F : Fr g L s.heap m) (N : News g L s.heap news) (hA : A.frames = some (env :: outer)) (hf : env.frame = some L) (hk : env.scope.kind = .function)
    (a1 : A.handled = none) (a2 : A.depth ≤ 438) (a3 : A.guards = some []) (a4 : A.units ≤ 1548)
    (hQ : ∀ h' tk xi dx (k : Io) t', Fr g L h' m → News g L h' ((xi, instObj 597 dx) :: (dx, k.dict x 0 t') :: news) → (∀ p ∈ news, p.1 < dx) → dx < xi → R (.ok (.ret (.ref xi))) { s with heap := h', toks := tk }) :
    codeAny (Mod w) A (.call (.ref 597) ⟨[.str x t], []⟩) R s := by
  refine codeAny_le (io_mk (Gg.push F hL hf hk) ?_) a1 a2 hA a3 a4
  intro s' xi dx k t' M z1 z2 l1 l2
  have l0 := frLt F
  have gs : g.objs.size ≤ L := F.above
  have fresh : ∀ b : Nat, s.heap.objs.size ≤ b → b ≠ L ∧ g.get? b = none := fun b hb => by
    refine ⟨fun q => absurd l0 (Nat.not_lt.mpr (q ▸ hb)), ?_⟩
    cases e : g.get? b with
    | none => rfl
    | some o => exact absurd (Heap.lt_size e) (Nat.not_lt.mpr (Nat.le_trans gs (Nat.le_trans (Nat.le_of_lt l0) hb)))
  rw [M.eq]
  refine hQ _ _ xi dx k t' (Fr.mvd F M (fun q => nomatch q) (fun b q => nomatch q)) ?_ (fun p hp => Nat.lt_of_lt_of_le (Heap.lt_size (N p hp).1) l1) l2
  intro p hp
  rcases List.mem_cons.mp hp with rfl | hp
  · exact ⟨z1, fresh _ (Nat.le_trans l1 (Nat.le_of_lt l2))⟩
  rcases List.mem_cons.mp hp with rfl | hp
  · exact ⟨z2, fresh _ l1⟩
  · exact ⟨M.keep _ _ (fun q => nomatch q) (N p hp).1, (N p hp).2⟩
theorem dq_mkW {Q : Value → Shared → Prop} (F : Fr g L s.heap m) (N : News g L s.heap news)
    (hQ : ∀ h' a, Fr g L h' m → News g L h' ((a, dqO) :: news) → (∀ p ∈ news, p.1 < a) → Q (.ref a) { s with heap := h' }) : wpAny (Mod w) A (call (.type "collections.deque") []) Q E s := by
  refine dq_mk fun h' ho hs => ?_
  have keep : ∀ b o, s.heap.get? b = some o → h'.get? b = some o := fun b o e => hs.extBut b o (Nat.ne_of_lt (Heap.lt_size e)) (Heap.get?_push_of_some _ e)
  have l0 := frLt F
  refine hQ h' _ ⟨ns_at F.ns fun o e => keep _ o e, fun b o e => keep b o (F.keep b o e), F.above⟩ ?_ (fun p hp => Heap.lt_size (N p hp).1)
  intro p hp
  rcases List.mem_cons.mp hp with rfl | hp
  · refine ⟨ho, Nat.ne_of_gt l0, ?_⟩
    show g.get? s.heap.objs.size = none
    cases e : g.get? s.heap.objs.size with
    | none => rfl
    | some o => exact absurd (Heap.lt_size e) (Nat.not_lt.mpr (Nat.le_trans F.above (Nat.le_of_lt l0)))
  · exact ⟨keep _ _ (N p hp).1, (N p hp).2⟩
end
noncomputable abbrev sh0 (k : Nat → Int) (t : Nat → Tok) (io : Nat) (cm wc : Str) (pb fs : Nat) (sp : Bool) (st : Value) (ln : Int) (tl : Tok) (tok : Str) (tt : Tok) : List DictEntry :=
  [⟨k 0, .str (Str.ofString "instream") (t 0), .ref io⟩, ⟨k 1, .str (Str.ofString "infile") (t 1), .none⟩, ⟨k 2, .str (Str.ofString "posix") (t 2), .bool true⟩, ⟨k 3, .str (Str.ofString "eof") (t 3), .none⟩, ⟨k 4, .str (Str.ofString "commenters") (t 4), .str cm (t 20)⟩, ⟨k 5, .str (Str.ofString "wordchars") (t 5), .str wc (t 21)⟩, ⟨k 6, .str (Str.ofString "whitespace") (t 6), .str (Str.ofString " \t\r\n") (t 22)⟩, ⟨k 7, .str (Str.ofString "whitespace_split") (t 7), .bool sp⟩, ⟨k 8, .str (Str.ofString "quotes") (t 8), .str (Str.ofString "'\"") (t 23)⟩, ⟨k 9, .str (Str.ofString "escape") (t 9), .str (Str.ofString "\\") (t 24)⟩, ⟨k 10, .str (Str.ofString "escapedquotes") (t 10), .str (Str.ofString "\"") (t 25)⟩, ⟨k 11, .str (Str.ofString "state") (t 11), st⟩, ⟨k 12, .str (Str.ofString "pushback") (t 12), .ref pb⟩, ⟨k 13, .str (Str.ofString "lineno") (t 13), .int ln tl⟩, ⟨k 14, .str (Str.ofString "debug") (t 14), .int 0 (t 26)⟩, ⟨k 15, .str (Str.ofString "token") (t 15), .str tok tt⟩, ⟨k 16, .str (Str.ofString "filestack") (t 16), .ref fs⟩, ⟨k 17, .str (Str.ofString "source") (t 17), .none⟩, ⟨k 18, .str (Str.ofString "_punctuation_chars") (t 18), .str (Str.ofString "") (t 27)⟩]
theorem sh_conv {h : Heap} {a : Addr} {h0 h1 h2 h3 h4 h5 h6 h7 h8 h9 h10 h11 h12 h13 h14 h15 h16 h17 h18 : Int} {k0 k1 k2 k3 k4 k5 k6 k7 k8 k9 k10 k11 k12 k13 k14 k15 k16 k17 k18 : Tok} {v4 v5 v6 v8 v9 v10 v11 v13 v14 v15 v18 : Tok} {io pb fs : Nat} {wc : Str} (z : h.get? a = some (dictOf [⟨h0, .str (Str.ofString "instream") k0, .ref io⟩, ⟨h1, .str (Str.ofString "infile") k1, .none⟩, ⟨h2, .str (Str.ofString "posix") k2, .bool true⟩, ⟨h3, .str (Str.ofString "eof") k3, .none⟩, ⟨h4, .str (Str.ofString "commenters") k4, .str (Str.ofString "#") v4⟩, ⟨h5, .str (Str.ofString "wordchars") k5, .str wc v5⟩, ⟨h6, .str (Str.ofString "whitespace") k6, .str (Str.ofString " \t\r\n") v6⟩, ⟨h7, .str (Str.ofString "whitespace_split") k7, .bool false⟩, ⟨h8, .str (Str.ofString "quotes") k8, .str (Str.ofString "'\"") v8⟩, ⟨h9, .str (Str.ofString "escape") k9, .str (Str.ofString "\\") v9⟩, ⟨h10, .str (Str.ofString "escapedquotes") k10, .str (Str.ofString "\"") v10⟩, ⟨h11, .str (Str.ofString "state") k11, .str (Str.ofString " ") v11⟩, ⟨h12, .str (Str.ofString "pushback") k12, .ref pb⟩, ⟨h13, .str (Str.ofString "lineno") k13, .int 1 v13⟩, ⟨h14, .str (Str.ofString "debug") k14, .int 0 v14⟩, ⟨h15, .str (Str.ofString "token") k15, .str (Str.ofString "") v15⟩, ⟨h16, .str (Str.ofString "filestack") k16, .ref fs⟩, ⟨h17, .str (Str.ofString "source") k17, .none⟩, ⟨h18, .str (Str.ofString "_punctuation_chars") k18, .str (Str.ofString "") v18⟩] 19)) (hw : wc = wcL) :
    ∃ k t ts tl tt, h.get? a = some (dictOf (sh0 k t io (Str.ofString "#") wcL pb fs false (.str cSp ts) 1 tl cE tt) 19) := by
  subst hw
  exact ⟨fun i => match i with | 0 => h0 | 1 => h1 | 2 => h2 | 3 => h3 | 4 => h4 | 5 => h5 | 6 => h6 | 7 => h7 | 8 => h8 | 9 => h9 | 10 => h10 | 11 => h11 | 12 => h12 | 13 => h13 | 14 => h14 | 15 => h15 | 16 => h16 | 17 => h17 | 18 => h18 | _ => 0, fun i => match i with | 0 => k0 | 1 => k1 | 2 => k2 | 3 => k3 | 4 => k4 | 5 => k5 | 6 => k6 | 7 => k7 | 8 => k8 | 9 => k9 | 10 => k10 | 11 => k11 | 12 => k12 | 13 => k13 | 14 => k14 | 15 => k15 | 16 => k16 | 17 => k17 | 18 => k18 | 20 => v4 | 21 => v5 | 22 => v6 | 23 => v8 | 24 => v9 | 25 => v10 | 26 => v14 | 27 => v18 | _ => 0, v11, v13, v15, z⟩
theorem init656 {w : World} {outer : List Env} {s : Shared} {sh dsh : Nat} {x : Str} {t : Tok} {R : Result → Shared → Prop} (G : Gd w outer s.heap) (h1 : s.heap.get? sh = some (instObj 732 dsh)) (h2 : s.heap.get? dsh = some emptyDict) (hne : dsh < sh) (hb : 815 ≤ dsh) (hf1 : sh ∉ frs outer) (hf2 : dsh ∉ frs outer)
    (hQ : ∀ s' k t ts tl tt io dio (ki : Io) t0 pb fs, Mv [sh, dsh] s s' → s'.heap.get? sh = some (instObj 732 dsh) → s'.heap.get? dsh = some (dictOf (sh0 k t io (Str.ofString "#") wcL pb fs false (.str cSp ts) 1 tl cE tt) 19) → s'.heap.get? io = some (instObj 597 dio) → s'.heap.get? dio = some (ki.dict x 0 t0) →
      s'.heap.get? pb = some dqO → s'.heap.get? fs = some dqO → sh < dio → dio < io → io < pb → pb < fs → R (.ok (.ret .none)) s') :
    codeAny (Mod w) (AT 420 1500 outer) (.call (.ref 656) ⟨[.ref sh, .str x t], [(Str.ofString "posix", .bool true)]⟩) R s := by
  refine' enterP [(sh, instObj 732 dsh), (dsh, emptyDict)] G ?hm ?k6 ?k7 ?k8 ?k9 ?kB ?_ ?c2 ?c3 ?c4 ?c5
  case hm => intro p hp; rcases List.mem_cons.mp hp with rfl | hp; exact ⟨h1, by show 815 ≤ sh; omega, hf1⟩; rcases List.mem_cons.mp hp with rfl | hp; exact ⟨h2, hb, hf2⟩; cases hp
  (((case k6 => k_is); (case k7 => k_is); (case k8 => decide); (case k9 => first | exact BindsTo.of_eq rfl | exact binds_K (Gd.X (by assumption)) rfl (by k_is) rfl rfl rfl); (case kB => exact locs rfl); (case c2 => exact rfl); (case c3 => exact rfl); (case c4 => exact rfl); (case c5 => decide)))
  intro g L' h' lo mg mb F N B X T Bz _ Gg hLb
  replace hne := ltN hne
  (try dsimp only)
  (try k_fold)
  k_steps
  (((refine wpAny_call ?_); refine' io_mkW ?r1 ?r2 ?r3 ?r4 ?r5 ?r6 ?r7 ?r8 ?r9 ?r10 ?r11 ?_; (case r5 => exact rfl); (case r3 => k_asm); (case r4 => k_asm); (case r1 => assumption); (case r2 => assumption); (case r6 => exact rfl); (case r7 => exact rfl); (case r8 => exact rfl); (case r9 => exact Nat.le_of_ble_eq_true rfl); (case r10 => exact rfl); (case r11 => exact Nat.le_of_ble_eq_true rfl); k_whole; intro h'_i k'_i xi_i dx_i kk_i tt'_i F'_i N'_i lt1_i lt2_i; (have q0_i := ltN (lt1_i _ (.head _))); (have q1_i := ltN (lt1_i _ (.tail _ (.head _)))); (have q9_i := ltN lt2_i); clear lt1_i lt2_i))
  k_steps
  ((refine' dq_mkW ?r3 ?r4 ?_; (case r3 => k_asm); (case r4 => k_asm); k_whole; intro h'_i a'_i F'_i N'_i lt1_i; (have q0_i := ltN (lt1_i _ (.head _))); (have q1_i := ltN (lt1_i _ (.tail _ (.head _)))); (have q2_i := ltN (lt1_i _ (.tail _ (.tail _ (.head _))))); (have q3_i := ltN (lt1_i _ (.tail _ (.tail _ (.tail _ (.head _)))))); clear lt1_i))
  k_steps
  ((refine' dq_mkW ?r3 ?r4 ?_; (case r3 => k_asm); (case r4 => k_asm); k_whole; intro h'_i a'_i F'_i N'_i lt1_i; (have q0_i := ltN (lt1_i _ (.head _))); (have q1_i := ltN (lt1_i _ (.tail _ (.head _)))); (have q2_i := ltN (lt1_i _ (.tail _ (.tail _ (.head _))))); (have q3_i := ltN (lt1_i _ (.tail _ (.tail _ (.tail _ (.head _)))))); (have q4_i := ltN (lt1_i _ (.tail _ (.tail _ (.tail _ (.tail _ (.head _))))))); clear lt1_i))
  k_steps
  rename News _ _ _ _ => NN
  obtain ⟨k9, t9, ts9, tl9, tt9, z9⟩ := sh_conv (NN.get (.tail _ (.tail _ (.tail _ (.tail _ (.tail _ (.head _))))))) (by kernel_rfl)
  exact hQ _ k9 t9 ts9 tl9 tt9 _ _ _ _ _ _ (Bz.mv (by assumption)) (NN.get (.tail _ (.tail _ (.tail _ (.tail _ (.head _)))))) z9 (NN.get (.tail _ (.tail _ (.head _)))) (NN.get (.tail _ (.tail _ (.tail _ (.head _))))) (NN.get (.tail _ (.head _))) (NN.get (.head _)) (by assumption) (by assumption) (by assumption) (by assumption)
end
end
section
open PySem PySem.W PySem.Calls PyProof.Rows
theorem it_ok {w : World} {outer : List Env} {s : Shared} {sh : Nat} {R : Result → Shared → Prop} (G : Gd w outer s.heap) (hQ : ∀ s', Mv [] s s' → R (.ok (.ret (.ref sh))) s') :
    codeAny (Mod w) (AT 450 1650 outer) (.call (.ref 722) ⟨[.ref sh], []⟩) R s := by
  refine' enterP [] G ?hm ?k6 ?k7 ?k8 ?k9 ?kB ?_ ?c2 ?c3 ?c4 ?c5
  case hm => intro p hp; cases hp
  (((case k6 => k_is); (case k7 => k_is); (case k8 => decide); (case k9 => first | exact BindsTo.of_eq rfl | exact binds_K (Gd.X (by assumption)) rfl (by k_is) rfl rfl rfl); (case kB => exact locs rfl); (case c2 => exact rfl); (case c3 => exact rfl); (case c4 => exact rfl); (case c5 => decide)))
  intro g L' h' lo mg mb F N B X T Bz _ Gg hLb
  (try dsimp only)
  (try k_fold)
  k_steps
  all_goals ((try dsimp only); (try (k_unfold; dsimp only)))
  all_goals exact hQ _ (Bz.mv (by assumption))
section
variable {w : World} {A : Around} {env : Env} {outer : List Env} {s : Shared} {g : Heap} {L : Addr} {m : Str → Option Value} {news : List (Addr × Obj)} {E : Value → Shared → Prop}
theorem lex_facts (P : Params) : makesIn (kk.heap_1 P) 732 = true ∧ findIn (kk.heap_1 P) (.ref 732) "__init__" = some (some (.ref 656)) ∧ typeIn (kk.heap_1 P) (.ref 656) = some (.type "function") := ⟨by kernel_rfl, by kernel_rfl, by kernel_rfl⟩
theorem nofr {w : World} {outer : List Env} {h : Heap} (G : Gd w outer h) (b : Nat) (hb : h.objs.size ≤ b) : b ∉ frs outer := fun q => by
  obtain ⟨env, he, hfe⟩ := List.mem_filterMap.mp q
  obtain ⟨_, L, _, _, _, h1, _, h3, _⟩ := G.fr env he
  rw [hfe] at h1
  cases h1
  exact absurd (Heap.lt_size h3) (Nat.not_lt.mpr hb)
theorem lex_mk {x : Str} {t : Tok} {R : Result → Shared → Prop} (G : Gd w outer s.heap)
    (hQ : ∀ s' sh dsh k t ts tl tt io dio (ki : Io) t0 pb fs, Mv [] s s' → s'.heap.get? sh = some (instObj 732 dsh) → s'.heap.get? dsh = some (dictOf (sh0 k t io (Str.ofString "#") wcL pb fs false (.str cSp ts) 1 tl cE tt) 19) → s'.heap.get? io = some (instObj 597 dio) → s'.heap.get? dio = some (ki.dict x 0 t0) →
      s'.heap.get? pb = some dqO → s'.heap.get? fs = some dqO → s.heap.objs.size ≤ dsh → dsh < sh → sh < dio → dio < io → io < pb → pb < fs → R (.ok (.ret (.ref sh))) s') :
    codeAny (Mod w) (AT 418 1490 outer) (.call (.ref 732) ⟨[.str x t], [(Str.ofString "posix", .bool true)]⟩) R s := by
  obtain ⟨m1, m2, m3⟩ := lex_facts w.params
  obtain ⟨hh, gg, dd, tt, os⟩ := s
  have X : (kk.heap_1 w.params).In hh := G.X
  refine make_core (makes_of X m1) (looks_findIn X m2) (fun self => bind_fn X self m3) (.inl rfl) ?_
  have k2 : ∀ b o, hh.get? b = some o → ((hh.push emptyDict).push (instObj 732 hh.objs.size)).get? b = some o := fun b o e => Heap.get?_push_of_some _ (Heap.get?_push_of_some _ e)
  have hz : hh.objs.size ≤ ((hh.push emptyDict).push (instObj 732 hh.objs.size)).objs.size := by rw [Heap.size_push, Heap.size_push]; omega
  have G1 := G.keeps k2 hz
  have g1 : ((hh.push emptyDict).push (instObj 732 hh.objs.size)).get? (hh.objs.size + 1) = some (instObj 732 hh.objs.size) := by
    have z : ((hh.push emptyDict).push (instObj 732 hh.objs.size)).get? (hh.push emptyDict).objs.size = some (instObj 732 hh.objs.size) := Heap.get?_push_size _ rfl
    rw [Heap.size_push] at z
    exact z
  have g2 : ((hh.push emptyDict).push (instObj 732 hh.objs.size)).get? hh.objs.size = some emptyDict := Heap.get?_push_of_some _ (Heap.get?_push_size _ rfl)
  refine codeAny_le (init656 G1 g1 g2 (Nat.lt_succ_self _) G.big (nofr G _ (Nat.le_succ _)) (nofr G _ (Nat.le_refl _)) ?_) rfl (Nat.le_of_ble_eq_true rfl) rfl rfl (Nat.le_of_ble_eq_true rfl)
  intro s' k t ts tl tt io dio ki t0 pb fs M z1 z2 z3 z4 z5 z6 o1 o2 o3 o4
  refine ⟨rfl, hQ s' _ _ k t ts tl tt io dio ki t0 pb fs ⟨fun b o _ e => M.keep b o (fun q => ?_) (k2 b o e), M.gens, M.os, M.dr, Nat.le_trans hz M.size⟩ z1 z2 z3 z4 z5 z6 (Nat.le_refl _) (Nat.lt_succ_self _) o1 o2 o3 o4⟩
  have hb := Heap.lt_size e
  rcases List.mem_cons.mp q with q | q
  · exact absurd hb (Nat.not_lt.mpr (q ▸ Nat.le_succ _))
  · exact absurd hb (Nat.not_lt.mpr (List.mem_singleton.mp q ▸ Nat.le_refl _))
theorem lex_mkW {x : Str} {t : Tok} {R : Result → Shared → Prop} (Gg : Gd w outer g) (hL : 815 ≤ L) (F : Fr g L s.heap m) (N : News g L s.heap news) (hA : A.frames = some (env :: outer)) (hf : env.frame = some L) (hk : env.scope.kind = .function)
    (a1 : A.handled = none) (a2 : A.depth ≤ 418) (a3 : A.guards = some []) (a4 : A.units ≤ 1490)
    (hQ : ∀ h' tk sh dsh k t ts tl tt io dio (ki : Io) t0 pb fs, Fr g L h' m → News g L h' ((sh, instObj 732 dsh) :: (dsh, dictOf (sh0 k t io (Str.ofString "#") wcL pb fs false (.str cSp ts) 1 tl cE tt) 19) :: (io, instObj 597 dio) :: (dio, ki.dict x 0 t0) :: (pb, dqO) :: (fs, dqO) :: news) →
      L < dsh → dsh < sh → sh < dio → dio < io → io < pb → pb < fs → R (.ok (.ret (.ref sh))) { s with heap := h', toks := tk }) :
    codeAny (Mod w) A (.call (.ref 732) ⟨[.str x t], [(Str.ofString "posix", .bool true)]⟩) R s := by
  refine codeAny_le (lex_mk (Gg.push F hL hf hk) ?_) a1 a2 hA a3 a4
  intro s' sh dsh k t ts tl tt io dio ki t0 pb fs M z1 z2 z3 z4 z5 z6 o0 o1 o2 o3 o4 o5
  have l0 := frLt F
  have gs : g.objs.size ≤ L := F.above
  have fresh : ∀ b : Nat, s.heap.objs.size ≤ b → b ≠ L ∧ g.get? b = none := fun b hb => by
    refine ⟨fun q => absurd l0 (Nat.not_lt.mpr (q ▸ hb)), ?_⟩
    cases e : g.get? b with
    | none => rfl
    | some o => exact absurd (Heap.lt_size e) (Nat.not_lt.mpr (Nat.le_trans gs (Nat.le_trans (Nat.le_of_lt l0) hb)))
  rw [M.eq]
  refine hQ _ _ sh dsh k t ts tl tt io dio ki t0 pb fs (Fr.mvd F M (fun q => nomatch q) (fun b q => nomatch q)) ?_ (Nat.lt_of_lt_of_le l0 o0) o1 o2 o3 o4 o5
  have p1 := Nat.le_trans o0 (Nat.le_of_lt o1)
  have p2 := Nat.le_trans p1 (Nat.le_of_lt o2)
  have p3 := Nat.le_trans p2 (Nat.le_of_lt o3)
  have p4 := Nat.le_trans p3 (Nat.le_of_lt o4)
  have p5 := Nat.le_trans p4 (Nat.le_of_lt o5)
  intro p hp
  rcases List.mem_cons.mp hp with rfl | hp
  · exact ⟨z1, fresh _ p1⟩
  rcases List.mem_cons.mp hp with rfl | hp
  · exact ⟨z2, fresh _ o0⟩
  rcases List.mem_cons.mp hp with rfl | hp
  · exact ⟨z3, fresh _ p3⟩
  rcases List.mem_cons.mp hp with rfl | hp
  · exact ⟨z4, fresh _ p2⟩
  rcases List.mem_cons.mp hp with rfl | hp
  · exact ⟨z5, fresh _ p4⟩
  rcases List.mem_cons.mp hp with rfl | hp
  · exact ⟨z6, fresh _ p5⟩
  · exact ⟨M.keep _ _ (fun q => nomatch q) (N p hp).1, (N p hp).2⟩
end
end
section
open PySem PySem.W PySem.Calls PyProof.Rows
theorem lexc_facts (P : Params) : findIn (kk.heap_1 P) (.ref 732) "__iter__" = some (some (.ref 722)) ∧ isFn (kk.heap_1 P) (.ref 722) = true ∧ findIn (kk.heap_1 P) (.ref 732) "__len__" = some none ∧ findIn (kk.heap_1 P) (.ref 732) "__length_hint__" = some none := ⟨by kernel_rfl, by kernel_rfl, by kernel_rfl, by kernel_rfl⟩
section
variable {w : World} {A : Around} {outer : List Env} {s : Shared} {E : Value → Shared → Prop}
theorem list_lex {sh dsh dio : Nat} {S : Sh} {k : Io} {x : Str} {toks : List Str} {st : Option Str} {i : Nat} {g : Heap} {L : Addr} {m : Str → Option Value} {Q : Value → Shared → Prop}
    (G : Gd w outer s.heap) (F : Fr g L s.heap m) (Xg : (kk.heap_1 w.params).In g) (O : Ord4 sh dsh S dio) (hp : S.io < S.pb) (hfs : S.io < S.fs) (f1 : sh ∉ frs outer) (f2 : dsh ∉ frs outer) (f3 : S.io ∉ frs outer) (f4 : dio ∉ frs outer) (hx : x.length ≤ 1000)
    (hA : A.frames = some outer) (a1 : A.handled = none) (a2 : A.depth ≤ 440) (a3 : A.guards = some []) (a4 : A.units ≤ 1500)
    (T : Tks (x.cps.toList.drop i) st toks) (Z : Lx sh dsh S dio k x i st s.heap) (D : Dqs S s.heap) (sm : s.gens = S.gn ∧ s.os = S.os ∧ s.drawn = S.dr) (hn : toks.length ≤ 1000)
    (hQ : ∀ s' a vs c, Ms outer [sh, dsh, S.io, dio] s s' → StrsAre vs toks → s'.heap.get? a = some (lstO vs.toArray c) → s.heap.objs.size ≤ a → Q (.ref a) s') :
    wpAny (Mod w) A (call (.type "list") [.ref sh]) Q E s := by
  obtain ⟨ts, tl, tt, t, ln, g1, g2, g3, g4⟩ := Z.ex
  have lS : ∀ b o, s.heap.get? b = some o → b < s.heap.objs.size := fun b o e => Heap.lt_size e
  refine callType_codes (Q₁ := fun obj s₁ => obj = .ref s.heap.objs.size ∧ s₁ = { s with heap := s.heap.push { cls := .type "list", data := .seq #[] } }) PySem.F.called_list (PySem.F.typeCall_list_1 _) PySem.F.entry_list_init (code_list_new _ ⟨rfl, rfl⟩) fun obj s₁ h₁ => ?_
  obtain ⟨rfl, rfl⟩ := h₁
  have hS : (s.heap.push { cls := .type "list", data := .seq #[] }).get? s.heap.objs.size = some { cls := .type "list", data := .seq #[] } := Heap.get?_push_size _ rfl
  refine ⟨⟨_, hS, rfl⟩, PySem.F.args_list_init_2 _ _, ?_⟩
  show wpAny _ A.in1.in1 (do let old ← Builtin.List.listItems (.ref s.heap.objs.size); Builtin.List.listUpdate (.ref s.heap.objs.size) (fun _ => #[]); letGo old.toList.reverse; Builtin.List.listExtendWith (.ref s.heap.objs.size) (.ref sh) .none) _ _ _
  refine wpAny_bind ?_
  unfold Builtin.List.listItems
  refine wpAny_bind (wpAny_seqItems hS rfl (wpAny_pure ?_))
  show wpAny _ A.in1.in1 (updateSeq s.heap.objs.size (fun _ => #[]) >>= fun _ => letGo (#[] : Array Value).toList.reverse >>= fun _ => Builtin.List.listExtendWith (.ref s.heap.objs.size) (.ref sh) .none) _ _ _
  refine wpAny_bind (wpAny_updateSeq hS rfl ?_)
  refine wpAny_bind (wpAny_letGo ?_)
  generalize hH : (s.heap.push { cls := .type "list", data := .seq #[] }).update s.heap.objs.size (Obj.mapSeq (fun _ => (#[] : Array Value))) = H
  have kH : ∀ b o, s.heap.get? b = some o → H.get? b = some o := fun b o e => by
    rw [← hH]
    exact (Heap.get?_update_other _ _ (Nat.ne_of_gt (lS b o e))).trans (Heap.get?_push_of_some _ e)
  have sH : ∃ c, H.get? s.heap.objs.size = some (lstO #[] c) := ⟨_, by rw [← hH]; exact Heap.get?_update_self (Obj.mapSeq (fun _ => (#[] : Array Value))) hS rfl⟩
  obtain ⟨c0, sH⟩ := sH
  have zH : s.heap.objs.size ≤ H.objs.size := Nat.le_of_lt (Heap.lt_size sH)
  have GH := G.keeps kH zH
  have FH : Fr g L H m := ⟨ns_at F.ns fun o e => kH _ o e, fun b o e => kH b o (F.keep b o e), F.above⟩
  obtain ⟨c1, c2, c3, c4⟩ := lexc_facts w.params
  have I : W.InstAt H sh (instObj 732 dsh) 732 (some (S.dict (stV st ts) ln tl cE tt)) := ⟨kH _ _ g1, rfl, rfl, kH _ _ g2⟩
  have ne1 : s.heap.objs.size ≠ sh := Nat.ne_of_gt (lS _ _ g1)
  unfold Builtin.List.listExtendWith
  refine wpAny_bind (I.type.here ?_)
  have h1 : Builtin.List.listSameRef (.ref s.heap.objs.size) (.ref sh) = false := by simp [Builtin.List.listSameRef, ne1]
  have h2 : (Value.ref 732 == Value.type "list") = false := by decide
  have h3 : (Value.ref 732 == Value.type "tuple") = false := by decide
  simp only [h1, h2, h3, Bool.or_false, Bool.false_eq_true, if_false]
  refine wpAny_bind (owit_iter FH Xg I c1 c2 (wpAny_call ?_))
  refine codeAny_le (it_ok (s := { s with heap := H }) GH ?_) a1 (Nat.le_trans a2 (show (440 : Nat) ≤ 450 by decide)) hA a3 (Nat.le_trans (Nat.add_le_add_right (Nat.add_le_add_right a4 1) 1) (show (1500 + 1 + 1 : Nat) ≤ 1650 by decide))
  intro s2 M2
  have F2 := Fr.mvd (s := { s with heap := H }) FH M2 (fun q => nomatch q) (fun b q => nomatch q)
  have k2 : ∀ b o, H.get? b = some o → s2.heap.get? b = some o := fun b o e => M2.keep b o (fun q => nomatch q) e
  have I2 : W.InstAt s2.heap sh (instObj 732 dsh) 732 (some (S.dict (stV st ts) ln tl cE tt)) := ⟨k2 _ _ (kH _ _ g1), rfl, rfl, k2 _ _ (kH _ _ g2)⟩
  refine owit_it F2 Xg I2 (next_fns w.params).1 ?_
  refine wpAny_bind (wpAny_holding ?_)
  have X2 := Xg.keeps F2.keep
  unfold Builtin.List.listLengthHint
  refine wpAny_bind (wpAny_bind (I2.type.here ((looks_findIn X2 c3).here ?_)))
  show wpAny _ _ (specialOf (.ref sh) (Str.ofString "__length_hint__") >>= _) _ _ _
  refine wpAny_bind (wpAny_bind (I2.type.here ((looks_findIn X2 c4).here ?_)))
  refine wpAny_pure ?_
  show wpAny _ A.in1.in1 (rule "list.extend.makes-room" >>= fun _ => Builtin.List.listTouch (.ref s.heap.objs.size) >>= fun _ => again (.builtin "list.extend.loop" ⟨[.ref s.heap.objs.size, .ref sh, .none], []⟩)) _ _ _
  refine wpAny_bind (wpAny_rule ?_)
  refine wpAny_bind ?_
  show wpAny _ A.in1.in1 (updateSeq s.heap.objs.size (·.push .none) >>= fun _ => updateSeq s.heap.objs.size (·.pop)) _ _ _
  have hS2 := k2 _ _ sH
  refine wpAny_bind (wpAny_updateSeq hS2 rfl ?_ (Nat.le_of_ble_eq_true rfl) (Nat.le_of_ble_eq_true rfl))
  have hS3 := Heap.get?_update_self (Obj.mapSeq (·.push Value.none)) hS2 rfl
  refine wpAny_updateSeq hS3 rfl ?_ (Nat.le_of_ble_eq_true rfl) (Nat.le_of_ble_eq_true rfl)
  have hS4 := Heap.get?_update_self (Obj.mapSeq (·.pop)) hS3 rfl
  generalize hJ : (s2.heap.update s.heap.objs.size (Obj.mapSeq (·.push Value.none))).update s.heap.objs.size (Obj.mapSeq (·.pop)) = J at hS4 ⊢
  have kJ : ∀ b o, s.heap.get? b = some o → J.get? b = some o := fun b o e => by
    rw [← hJ]
    exact (Heap.get?_update_other _ _ (Nat.ne_of_gt (lS b o e))).trans ((Heap.get?_update_other _ _ (Nat.ne_of_gt (lS b o e))).trans (k2 b o (kH b o e)))
  have zJ : s.heap.objs.size ≤ J.objs.size := Nat.le_of_lt (Heap.lt_size hS4)
  have lio := lS _ _ g3
  refine wpAny_pure ⟨plainId_quiet PySem.F.plain_extend_loop _, ext_loop (A := A.in1) O hp hfs lio ?_ ?_ f1 f2 f3 f4 (nofr G _ (Nat.le_refl _)) hx hA a1 (Nat.le_trans a2 (by decide)) a3 (Nat.le_trans (Nat.succ_le_succ a4) (by decide)) T (i := i) (s := { s2 with heap := J }) (acc := #[]) rfl (G.keeps kJ zJ)
    ⟨ts, tl, tt, t, ln, kJ _ _ g1, kJ _ _ g2, kJ _ _ g3, kJ _ _ g4⟩ ⟨kJ _ _ D.pb, kJ _ _ D.fs⟩ ⟨M2.gens.trans sm.1, M2.os.trans sm.2.1, M2.dr.trans sm.2.2⟩ hS4 (by simpa using hn) ?_⟩
  · exact Nat.ne_of_gt (lS _ _ D.pb)
  · exact Nat.ne_of_gt (lS _ _ D.fs)
  · intro s3 vs c' M3 hv hl
    refine ⟨rfl, hQ s3 _ vs c' ⟨fun b o n1 n2 e => M3.keep b o (fun q => ?_) n2 (kJ b o e), fun b o n1 n2 e h => M3.slot b o (fun q => ?_) n2 (kJ b o e) h, M3.gens.trans M2.gens, M3.os.trans M2.os, M3.dr.trans M2.dr, M3.big⟩ hv (by simpa using hl) (Nat.le_refl _)⟩
    all_goals
      rcases List.mem_append.mp (show b ∈ [sh, dsh, S.io, dio] ++ [s.heap.objs.size] from q) with q | q
      · exact n1 q
      · exact absurd (lS _ _ e) (Nat.not_lt.mpr (Nat.le_of_eq (List.mem_singleton.mp q).symm))
end
end
section
open PySem PySem.W PySem.Calls PyProof.Rows
theorem Ms.pop {outer : List Env} {env : Env} {wr : List Addr} {s s' : Shared} {g h1 : Heap} {L : Addr} {m : Str → Option Value} {tk : Nat} (Bz : Bs [] s g L) (F : Fr g L h1 m) (M : Ms (env :: outer) wr ⟨h1, s.gens, s.drawn, tk, s.os⟩ s') (hf : env.frame = some L) (hw : ∀ b ∈ wr, L < b) : Ms outer [] s s' := by
  have Mz := Bz.mv F (tk := tk)
  have lt : ∀ b o, s.heap.get? b = some o → b < L := fun b o e => by rw [Bz.at_]; exact Heap.lt_size e
  have nw : ∀ b o, s.heap.get? b = some o → b ∉ wr := fun b o e q => absurd (hw b q) (Nat.not_lt.mpr (Nat.le_of_lt (lt b o e)))
  have fe : frs (env :: outer) = L :: frs outer := by unfold frs; rw [List.filterMap_cons, hf]
  refine ⟨fun b o _ n2 e => M.keep b o (nw b o e) ?_ (Mz.keep b o (fun q => nomatch q) e), fun b o _ n2 e h => M.slot b o (nw b o e) ?_ (Mz.keep b o (fun q => nomatch q) e) h, M.gens, M.os, M.dr, M.big⟩
  · rw [fe]
    intro q
    rcases List.mem_cons.mp q with q | q
    · exact absurd (lt b o e) (Nat.not_lt.mpr (Nat.le_of_eq q.symm))
    · exact n2 q
  · rw [fe]
    exact List.mem_cons_of_mem _ n2
noncomputable abbrev sh1 (k : Nat → Int) (t : Nat → Tok) (u : Tok) (io : Nat) (cm wc : Str) (pb fs : Nat) (sp : Bool) (st : Value) (ln : Int) (tl : Tok) (tok : Str) (tt : Tok) : List DictEntry :=
  [⟨k 0, .str (Str.ofString "instream") (t 0), .ref io⟩, ⟨k 1, .str (Str.ofString "infile") (t 1), .none⟩, ⟨k 2, .str (Str.ofString "posix") (t 2), .bool true⟩, ⟨k 3, .str (Str.ofString "eof") (t 3), .none⟩, ⟨k 4, .str (Str.ofString "commenters") (t 4), .str cm u⟩, ⟨k 5, .str (Str.ofString "wordchars") (t 5), .str wc (t 21)⟩, ⟨k 6, .str (Str.ofString "whitespace") (t 6), .str (Str.ofString " \t\r\n") (t 22)⟩, ⟨k 7, .str (Str.ofString "whitespace_split") (t 7), .bool sp⟩, ⟨k 8, .str (Str.ofString "quotes") (t 8), .str (Str.ofString "'\"") (t 23)⟩, ⟨k 9, .str (Str.ofString "escape") (t 9), .str (Str.ofString "\\") (t 24)⟩, ⟨k 10, .str (Str.ofString "escapedquotes") (t 10), .str (Str.ofString "\"") (t 25)⟩, ⟨k 11, .str (Str.ofString "state") (t 11), st⟩, ⟨k 12, .str (Str.ofString "pushback") (t 12), .ref pb⟩, ⟨k 13, .str (Str.ofString "lineno") (t 13), .int ln tl⟩, ⟨k 14, .str (Str.ofString "debug") (t 14), .int 0 (t 26)⟩, ⟨k 15, .str (Str.ofString "token") (t 15), .str tok tt⟩, ⟨k 16, .str (Str.ofString "filestack") (t 16), .ref fs⟩, ⟨k 17, .str (Str.ofString "source") (t 17), .none⟩, ⟨k 18, .str (Str.ofString "_punctuation_chars") (t 18), .str (Str.ofString "") (t 27)⟩]
theorem lst_W {w : World} {A : Around} {env : Env} {outer : List Env} {s : Shared} {g : Heap} {L : Addr} {m : Str → Option Value} {E : Value → Shared → Prop} {Q : Value → Shared → Prop} {sh dsh io dio pb fs : Nat} {k : Nat → Int} {t : Nat → Tok} {u ts tl tt t0 : Tok} {ln : Int} {cm x : Str} {ki : Io} {toks : List Str}
    (Gg : Gd w outer g) (hL : 815 ≤ L) (F : Fr g L s.heap m) (N : News g L s.heap [(sh, instObj 732 dsh), (dsh, dictOf (sh1 k t u io cm wcL pb fs true (.str cSp ts) ln tl cE tt) 19), (io, instObj 597 dio), (dio, ki.dict x 0 t0), (pb, dqO), (fs, dqO)])
    (hA : A.frames = some (env :: outer)) (hf : env.frame = some L) (hk : env.scope.kind = .function) (a1 : A.handled = none) (a2 : A.depth ≤ 440) (a3 : A.guards = some []) (a4 : A.units ≤ 1500)
    (lt0 : L < dsh) (lt1 : dsh < sh) (lt2 : sh < dio) (lt3 : dio < io) (lt4 : io < pb) (lt5 : pb < fs) (hcm : cm = cE ∨ cm = Str.ofString "#") (hx : x.length ≤ 1000) (T : Tks x.cps.toList (some cSp) toks) (hn : toks.length ≤ 1000)
    (hQ : ∀ s' a vs c, Ms (env :: outer) [sh, dsh, io, dio] s s' → StrsAre vs toks → s'.heap.get? a = some (lstO vs.toArray c) → s.heap.objs.size ≤ a → Q (.ref a) s') :
    wpAny (Mod w) A (call (.type "list") [.ref sh]) Q E s := by
  have nf := News.fr Gg N hf
  have lt5 : io < fs := Nat.lt_trans lt4 lt5
  let S : Sh := ⟨k, fun i => if i = 20 then u else t i, io, cm, wcL, pb, fs, s.gens, s.os, s.drawn⟩
  have g2 : s.heap.get? dsh = some (S.dict (stV (some cSp) ts) ln tl cE tt) := N.get (.tail _ (.head _))
  refine list_lex (S := S) (i := 0) (st := some cSp) (Gg.push F hL hf hk) F Gg.X ⟨Nat.le_trans hL (Nat.le_of_lt lt0), lt1, lt2, lt3, ⟨hcm, rfl⟩⟩ lt4 lt5 (nf _ (.head _)) (nf _ (.tail _ (.head _))) (nf _ (.tail _ (.tail _ (.head _)))) (nf _ (.tail _ (.tail _ (.tail _ (.head _))))) hx hA a1 a2 a3 a4 T
    ⟨ts, tl, tt, t0, ln, N.get (.head _), g2, N.get (.tail _ (.tail _ (.head _))), N.get (.tail _ (.tail _ (.tail _ (.head _))))⟩ ⟨N.get (.tail _ (.tail _ (.tail _ (.tail _ (.head _))))), N.get (.tail _ (.tail _ (.tail _ (.tail _ (.tail _ (.head _))))))⟩ ⟨rfl, rfl, rfl⟩ hn hQ
theorem sp_f {w : World} {outer : List Env} {s : Shared} {x : Str} {t : Tok} {toks : List Str} {R : Result → Shared → Prop} (G : Gd w outer s.heap) (hx : x.length ≤ 1000) (T : Tks x.cps.toList (some cSp) toks) (hn : toks.length ≤ 1000)
    (hQ : ∀ s' a vs c, Ms outer [] s s' → StrsAre vs toks → s'.heap.get? a = some (lstO vs.toArray c) → s.heap.objs.size ≤ a → R (.ok (.ret (.ref a))) s') :
    codeAny (Mod w) (AT 400 1300 outer) (.call (.ref 744) ⟨[.str x t], []⟩) R s := by
  refine' enterP [] G ?hm ?k6 ?k7 ?k8 ?k9 ?kB ?_ ?c2 ?c3 ?c4 ?c5
  case hm => intro p hp; cases hp
  (((case k6 => k_is); (case k7 => k_is); (case k8 => decide); (case k9 => first | exact BindsTo.of_eq rfl | exact binds_K (Gd.X (by assumption)) rfl (by k_is) rfl rfl rfl); (case kB => exact locs rfl); (case c2 => exact rfl); (case c3 => exact rfl); (case c4 => exact rfl); (case c5 => decide)))
  intro g L' h' lo mg mb F N B X TR Bz _ Gg hLb
  (try dsimp only)
  (try k_fold)
  iterate 22 walk1
  (((refine wpAny_call ?_); refine' lex_mkW ?r1 ?r2 ?r3 ?r4 ?r5 ?r6 ?r7 ?r8 ?r9 ?r10 ?r11 ?_; (case r5 => exact rfl); (case r3 => k_asm); (case r4 => k_asm); (case r1 => assumption); (case r2 => assumption); (case r6 => exact rfl); (case r7 => exact rfl); (case r8 => exact rfl); (case r9 => exact Nat.le_of_ble_eq_true rfl); (case r10 => exact rfl); (case r11 => exact Nat.le_of_ble_eq_true rfl); k_whole; intro h'_i k'_i sh_i dsh_i k_i t_i ts_i tl_i tt_i io_i dio_i ki_i t0_i pb_i fs_i F'_i N'_i lt0_i lt1_i lt2_i lt3_i lt4_i lt5_i; (have q1_i := ltN lt1_i); (have q2_i := ltN lt2_i); (have q3_i := ltN lt3_i); (have q4_i := ltN lt4_i); (have q5_i := ltN lt5_i); clear lt1_i lt2_i lt3_i lt4_i lt5_i))
  k_steps
  ((refine' lst_W ?r1 ?r2 ?r3 ?r4 ?r5 ?r6 ?r7 ?r8 ?r9 ?r10 ?r11 ?l0 ?l1 ?l2 ?l3 ?l4 ?l5 ?c ?x ?t ?n ?_; (case r5 => exact rfl); (case r3 => k_asm); (case r4 => k_asm); (case r1 => assumption); (case r2 => assumption); (case r6 => exact rfl); (case r7 => exact rfl); (case r8 => exact rfl); (case r9 => exact Nat.le_of_ble_eq_true rfl); (case r10 => exact rfl); (case r11 => exact Nat.le_of_ble_eq_true rfl); (case l0 => assumption); (case l1 => assumption); (case l2 => assumption); (case l3 => assumption); (case l4 => assumption); (case l5 => assumption); (case c => first | exact .inl rfl | exact .inr rfl); (case x => assumption); (case t => assumption); (case n => assumption)))
  intro s' a vs c M hv ha hs
  rename Fr g L' _ _ => FF
  refine hQ s' a vs c (Ms.pop Bz FF M rfl ?_) hv ha (Nat.le_trans (Nat.le_of_eq Bz.at_.symm) (Nat.le_trans (Nat.le_of_lt (frLt FF)) hs))
  intro b hb
  rename L' < _ => lt0
  have b1 := Nat.lt_trans lt0 (by assumption)
  rcases List.mem_cons.mp hb with rfl | hb
  · exact b1
  rcases List.mem_cons.mp hb with rfl | hb
  · exact lt0
  have b2 := Nat.lt_trans b1 (by assumption)
  rcases List.mem_cons.mp hb with rfl | hb
  · exact Nat.lt_trans b2 (by assumption)
  rcases List.mem_cons.mp hb with rfl | hb
  · exact b2
  cases hb
theorem sp_t {w : World} {outer : List Env} {s : Shared} {x : Str} {t : Tok} {toks : List Str} {R : Result → Shared → Prop} (G : Gd w outer s.heap) (hx : x.length ≤ 1000) (T : Tks x.cps.toList (some cSp) toks) (hn : toks.length ≤ 1000)
    (hQ : ∀ s' a vs c, Ms outer [] s s' → StrsAre vs toks → s'.heap.get? a = some (lstO vs.toArray c) → s.heap.objs.size ≤ a → R (.ok (.ret (.ref a))) s') :
    codeAny (Mod w) (AT 400 1300 outer) (.call (.ref 744) ⟨[.str x t, .bool true], []⟩) R s := by
  refine' enterP [] G ?hm ?k6 ?k7 ?k8 ?k9 ?kB ?_ ?c2 ?c3 ?c4 ?c5
  case hm => intro p hp; cases hp
  (((case k6 => k_is); (case k7 => k_is); (case k8 => decide); (case k9 => first | exact BindsTo.of_eq rfl | exact binds_K (Gd.X (by assumption)) rfl (by k_is) rfl rfl rfl); (case kB => exact locs rfl); (case c2 => exact rfl); (case c3 => exact rfl); (case c4 => exact rfl); (case c5 => decide)))
  intro g L' h' lo mg mb F N B X TR Bz _ Gg hLb
  (try dsimp only)
  (try k_fold)
  iterate 22 walk1
  (((refine wpAny_call ?_); refine' lex_mkW ?r1 ?r2 ?r3 ?r4 ?r5 ?r6 ?r7 ?r8 ?r9 ?r10 ?r11 ?_; (case r5 => exact rfl); (case r3 => k_asm); (case r4 => k_asm); (case r1 => assumption); (case r2 => assumption); (case r6 => exact rfl); (case r7 => exact rfl); (case r8 => exact rfl); (case r9 => exact Nat.le_of_ble_eq_true rfl); (case r10 => exact rfl); (case r11 => exact Nat.le_of_ble_eq_true rfl); k_whole; intro h'_i k'_i sh_i dsh_i k_i t_i ts_i tl_i tt_i io_i dio_i ki_i t0_i pb_i fs_i F'_i N'_i lt0_i lt1_i lt2_i lt3_i lt4_i lt5_i; (have q1_i := ltN lt1_i); (have q2_i := ltN lt2_i); (have q3_i := ltN lt3_i); (have q4_i := ltN lt4_i); (have q5_i := ltN lt5_i); clear lt1_i lt2_i lt3_i lt4_i lt5_i))
  k_steps
  ((refine' lst_W ?r1 ?r2 ?r3 ?r4 ?r5 ?r6 ?r7 ?r8 ?r9 ?r10 ?r11 ?l0 ?l1 ?l2 ?l3 ?l4 ?l5 ?c ?x ?t ?n ?_; (case r5 => exact rfl); (case r3 => k_asm); (case r4 => k_asm); (case r1 => assumption); (case r2 => assumption); (case r6 => exact rfl); (case r7 => exact rfl); (case r8 => exact rfl); (case r9 => exact Nat.le_of_ble_eq_true rfl); (case r10 => exact rfl); (case r11 => exact Nat.le_of_ble_eq_true rfl); (case l0 => assumption); (case l1 => assumption); (case l2 => assumption); (case l3 => assumption); (case l4 => assumption); (case l5 => assumption); (case c => first | exact .inl rfl | exact .inr rfl); (case x => assumption); (case t => assumption); (case n => assumption)))
  intro s' a vs c M hv ha hs
  rename Fr g L' _ _ => FF
  refine hQ s' a vs c (Ms.pop Bz FF M rfl ?_) hv ha (Nat.le_trans (Nat.le_of_eq Bz.at_.symm) (Nat.le_trans (Nat.le_of_lt (frLt FF)) hs))
  intro b hb
  rename L' < _ => lt0
  have b1 := Nat.lt_trans lt0 (by assumption)
  rcases List.mem_cons.mp hb with rfl | hb
  · exact b1
  rcases List.mem_cons.mp hb with rfl | hb
  · exact lt0
  have b2 := Nat.lt_trans b1 (by assumption)
  rcases List.mem_cons.mp hb with rfl | hb
  · exact Nat.lt_trans b2 (by assumption)
  rcases List.mem_cons.mp hb with rfl | hb
  · exact b2
  cases hb
end
section
open PySem PySem.W PySem.Calls PyProof.Rows
inductive Th
  | str (x : Str)
  | nul (k : Nat)
  | hvy (k : Nat)
noncomputable def Th.word : Th → Str
  | .str x => x
  | _ => cE
noncomputable def Th.heavy : Th → Bool
  | .hvy _ => true
  | _ => false
noncomputable def alph : List Nat := [97, 39, 34, 32, 92, 35, 36, 233, 10, 45]
noncomputable def safe (x : Str) : Bool := x.cps.toList.all fun c => c == 97 || c == 45
noncomputable def escC (c : Nat) : List Nat := if c = 39 then [39, 34, 39, 34, 39] else [c]
noncomputable def quotedL (x : List Nat) : List Nat := 39 :: (x.flatMap escC ++ [39])
noncomputable def spell (x : Str) : Str := if x.length ≠ 0 ∧ safe x = true then x else ⟨(quotedL x.cps.toList).toArray⟩
structure Wd (x : Str) : Prop where
  al : ∀ c ∈ x.cps.toList, c ∈ alph
  len : x.length ≤ 3
theorem str_app (t : Str) (c : Nat) (xs : List Nat) : (t ++ (⟨#[c]⟩ : Str)) ++ (⟨xs.toArray⟩ : Str) = t ++ (⟨(c :: xs).toArray⟩ : Str) := by
  show (⟨(t.cps ++ #[c]) ++ xs.toArray⟩ : Str) = ⟨t.cps ++ (c :: xs).toArray⟩
  congr 1
  apply Array.ext'
  simp
theorem str_app_nil (t : Str) : t ++ (⟨([] : List Nat).toArray⟩ : Str) = t := by
  show (⟨t.cps ++ #[]⟩ : Str) = t
  simp
theorem str_app_len (t : Str) (c : Nat) : (t ++ (⟨#[c]⟩ : Str)).length = t.length + 1 := by
  show (t.cps ++ #[c]).size = t.cps.size + 1
  simp
theorem rk_safe {cs cs' : List Nat} {st' : Option Str} {t' : Str} {q' : Bool} : ∀ (xs : List Nat) (tok : Str) (q : Bool), (∀ c ∈ xs, c = 97 ∨ c = 45) → tok.length + xs.length ≤ 1000 →
    Rk cs (some cA) (tok ++ (⟨xs.toArray⟩ : Str)) q cs' st' t' q' → Rk (xs ++ cs) (some cA) tok q cs' st' t' q' := by
  intro xs
  induction xs with
  | nil => intro tok q _ _ h; rw [str_app_nil] at h; exact h
  | cons c xs ih =>
    intro tok q hc hl h
    rw [List.length_cons] at hl
    have hl' : tok.length ≤ 100000 := by omega
    rw [← str_app] at h
    have rest := ih (tok ++ (⟨#[c]⟩ : Str)) q (fun d hd => hc d (.tail _ hd)) (by rw [str_app_len]; omega) h
    rcases hc c (.head _) with rfl | rfl
    · exact .step hl' (.a_a tok q) rest
    · exact .step hl' (.a_m tok q) rest
theorem rk_quoted {cs cs' : List Nat} {st' : Option Str} {t' : Str} {q' : Bool} : ∀ (xs : List Nat) (tok : Str) (q : Bool), (∀ c ∈ xs, c ∈ alph) → tok.length + xs.length ≤ 1000 →
    Rk cs (some cA) (tok ++ (⟨xs.toArray⟩ : Str)) true cs' st' t' q' → Rk (xs.flatMap escC ++ 39 :: cs) (some cQ) tok q cs' st' t' q' := by
  intro xs
  induction xs with
  | nil =>
    intro tok q _ hl h
    rw [str_app_nil] at h
    simp only [List.length_nil] at hl
    exact .step (by omega) (.q_q tok q) h
  | cons c xs ih =>
    intro tok q hc hl h
    rw [List.length_cons] at hl
    have hl' : tok.length ≤ 100000 := by omega
    rw [← str_app] at h
    have l1 : (tok ++ (⟨#[c]⟩ : Str)).length ≤ 100000 := by rw [str_app_len]; omega
    have rest := fun q => ih (tok ++ (⟨#[c]⟩ : Str)) q (fun d hd => hc d (.tail _ hd)) (by rw [str_app_len]; omega) h
    rw [List.flatMap_cons]
    have plain : c ≠ 39 → (⟨#[c]⟩ == cQ) = false → inS cB ⟨#[c]⟩ = false → Rk (escC c ++ xs.flatMap escC ++ 39 :: cs) (some cQ) tok q cs' st' t' q' := fun h1 h2 h3 => by
      rw [escC, if_neg h1]
      exact .step hl' (.q_c tok q ⟨#[c]⟩ rfl h2 h3) (rest true)
    have hm := hc c (.head _)
    simp only [alph, List.mem_cons, List.not_mem_nil, or_false] at hm
    rcases hm with rfl | rfl | rfl | rfl | rfl | rfl | rfl | rfl | rfl | rfl
    · exact plain (by decide) (by decide +kernel) (by decide +kernel)
    · exact .step hl' (.q_q tok q) (.step hl' (.a_d tok true) (.step hl' (.d_q tok true) (.step l1 (.d_d _ true) (.step l1 (.a_q _ true) (rest true)))))
    · exact plain (by decide) (by decide +kernel) (by decide +kernel)
    · exact plain (by decide) (by decide +kernel) (by decide +kernel)
    · exact .step hl' (.q_b tok q) (rest true)
    · exact plain (by decide) (by decide +kernel) (by decide +kernel)
    · exact plain (by decide) (by decide +kernel) (by decide +kernel)
    · exact plain (by decide) (by decide +kernel) (by decide +kernel)
    · exact plain (by decide) (by decide +kernel) (by decide +kernel)
    · exact plain (by decide) (by decide +kernel) (by decide +kernel)
theorem rk_close {cs cs' : List Nat} {st' : Option Str} (tok : Str) (q : Bool) (hl : tok.length ≤ 1000) (hq : q = true ∨ tok.length ≠ 0) (h : (cs = [] ∧ cs' = [] ∧ st' = none) ∨ (cs = 32 :: cs' ∧ st' = some cSp)) : Rk cs (some cA) tok q cs' st' tok q := by
  have hl' : tok.length ≤ 100000 := by omega
  rcases h with ⟨rfl, rfl, rfl⟩ | ⟨rfl, rfl⟩
  · exact .eof hl' (.a_e tok q)
  · by_cases ht : tok.length ≠ 0
    · exact .brk hl' (.a_sp1 tok q ht)
    · rcases hq with rfl | hq
      · exact .brk hl' (.a_sp2 tok)
      · exact absurd hq ht
theorem safe_mem {x : Str} (h : safe x = true) : ∀ c ∈ x.cps.toList, c = 97 ∨ c = 45 := fun c hc => by
  have := List.all_eq_true.mp h c hc
  simpa using this
theorem rk_word {x : Str} (hx : Wd x) {cs cs' : List Nat} {st' : Option Str} (h : (cs = [] ∧ cs' = [] ∧ st' = none) ∨ (cs = 32 :: cs' ∧ st' = some cSp)) :
    ∃ q', Rk ((spell x).cps.toList ++ cs) (some cSp) cE false cs' st' x q' ∧ resOf q' x = some x := by
  have hlen : x.cps.toList.length ≤ 3 := by rw [Array.length_toList]; exact hx.len
  have cE0 : cE.length = 0 := rfl
  have eE : ∀ l : List Nat, cE ++ (⟨l.toArray⟩ : Str) = ⟨l.toArray⟩ := fun l => by
    show (⟨#[] ++ l.toArray⟩ : Str) = _
    simp
  have ex : (⟨x.cps.toList.toArray⟩ : Str) = x := by cases x; simp
  unfold spell
  by_cases hs : x.length ≠ 0 ∧ safe x = true
  · rw [if_pos hs]
    have hm := safe_mem hs.2
    refine ⟨false, ?_, ?_⟩
    · cases e : x.cps.toList with
      | nil => exact absurd (by show x.cps.size = 0; rw [← Array.length_toList, e]; rfl) hs.1
      | cons c xs =>
        rw [e] at hm hlen
        rw [List.length_cons] at hlen
        have fin : ∀ t : Str, t = ⟨#[c]⟩ → Rk (xs ++ cs) (some cA) t false cs' st' x false := fun t ht => by
          subst ht
          refine rk_safe xs _ false (fun d hd => hm d (.tail _ hd)) (by show 1 + _ ≤ 1000; omega) ?_
          have : (⟨#[c]⟩ : Str) ++ (⟨xs.toArray⟩ : Str) = x := by
            rw [← ex, e]
            show (⟨#[c] ++ xs.toArray⟩ : Str) = ⟨(c :: xs).toArray⟩
            simp
          rw [this]
          exact rk_close x false (Nat.le_trans hx.len (by decide)) (.inr hs.1) h
        rcases hm c (.head _) with rfl | rfl
        · exact .step (by rw [cE0]; omega) (.sp_a cE false) (fin cA (by decide +kernel))
        · exact .step (by rw [cE0]; omega) (.sp_m cE false) (fin cM (by decide +kernel))
    · unfold resOf
      rw [if_neg]
      intro z
      rw [z.2] at hs
      exact hs.1 rfl
  · rw [if_neg hs]
    refine ⟨true, ?_, by unfold resOf; rw [if_neg]; simp⟩
    show Rk (quotedL x.cps.toList ++ cs) _ _ _ _ _ _ _
    unfold quotedL
    rw [List.cons_append, List.append_assoc, List.singleton_append]
    refine .step (by rw [cE0]; omega) (.sp_q cE false) (rk_quoted x.cps.toList cE false hx.al (by rw [cE0]; omega) ?_)
    rw [eE, ex]
    exact rk_close x true (Nat.le_trans hx.len (by decide)) (.inl rfl) h
noncomputable def lineL : List Str → List Nat
  | [] => []
  | [w] => (spell w).cps.toList
  | w :: r => (spell w).cps.toList ++ 32 :: lineL r
theorem tks_end : Tks [] none [] := .stop (.eof (by decide) (.n_e cE false)) rfl (by decide)
theorem tks_line : ∀ ws : List Str, (∀ w ∈ ws, Wd w) → Tks (lineL ws) (some cSp) ws
  | [], _ => .stop (.eof (by decide) (.sp_e cE false)) rfl (by decide)
  | [w], h => by
    obtain ⟨q', T, hr⟩ := rk_word (h w (.head _)) (cs := []) (cs' := []) (st' := none) (.inl ⟨rfl, rfl, rfl⟩)
    rw [List.append_nil] at T
    exact .tok T hr (Nat.le_trans (h w (.head _)).len (by decide)) tks_end
  | w :: w' :: r, h => by
    obtain ⟨q', T, hr⟩ := rk_word (h w (.head _)) (cs := 32 :: lineL (w' :: r)) (cs' := lineL (w' :: r)) (st' := some cSp) (.inr ⟨rfl, rfl⟩)
    exact .tok T hr (Nat.le_trans (h w (.head _)).len (by decide)) (tks_line (w' :: r) fun v hv => h v (.tail _ hv))
theorem join_lineL : ∀ ws : List Str, (Str.join cSp (ws.map spell)).cps.toList = lineL ws
  | [] => rfl
  | [w] => rfl
  | w :: w' :: r => by
    have ih := join_lineL (w' :: r)
    show ((spell w).cps ++ cSp.cps ++ (Str.join cSp ((w' :: r).map spell)).cps).toList = _
    rw [Array.toList_append, Array.toList_append, ih]
    show _ = (spell w).cps.toList ++ 32 :: lineL (w' :: r)
    rw [List.append_assoc]
    rfl
theorem tks_join (ws : List Str) (h : ∀ w ∈ ws, Wd w) : Tks (Str.join cSp (ws.map spell)).cps.toList (some cSp) ws := by
  rw [join_lineL]
  exact tks_line ws h
theorem escC_len (c : Nat) : (escC c).length ≤ 5 := by unfold escC; split <;> simp
theorem flat_len : ∀ l : List Nat, (l.flatMap escC).length ≤ 5 * l.length
  | [] => by simp
  | c :: l => by
    rw [List.flatMap_cons, List.length_append, List.length_cons]
    have := escC_len c
    have := flat_len l
    omega
theorem spell_len {x : Str} (h : x.length ≤ 3) : (spell x).length ≤ 17 := by
  unfold spell
  split
  · omega
  · show (quotedL x.cps.toList).toArray.size ≤ 17
    unfold quotedL
    simp only [List.size_toArray, List.length_cons, List.length_append, List.length_nil]
    have := flat_len x.cps.toList
    have e : x.cps.toList.length = x.length := Array.length_toList
    omega
theorem lineL_len : ∀ ws : List Str, (∀ w ∈ ws, w.length ≤ 3) → (lineL ws).length ≤ 18 * ws.length
  | [], _ => by simp [lineL]
  | [w], h => by
    have := spell_len (h w (.head _))
    have e : (spell w).cps.toList.length = (spell w).length := Array.length_toList
    simp only [lineL, List.length_cons, List.length_nil]
    omega
  | w :: w' :: r, h => by
    have := spell_len (h w (.head _))
    have e : (spell w).cps.toList.length = (spell w).length := Array.length_toList
    have ih := lineL_len (w' :: r) fun v hv => h v (.tail _ hv)
    simp only [lineL, List.length_cons, List.length_append] at ih ⊢
    omega
theorem join_len (ws : List Str) (h : ∀ w ∈ ws, w.length ≤ 3) : (Str.join cSp (ws.map spell)).length ≤ 18 * ws.length := by
  have := lineL_len ws h
  rw [← join_lineL, Array.length_toList] at this
  exact this
end
section
open PySem PySem.W PySem.Calls PyProof.Rows
noncomputable def reCode : Array Nat := #[14, 17, 4, 1, 1, 21, 9, 0, 604043296, 1, 0, 0, 0, 0, 0, 8, 4, 0, 13, 14, 21, 9, 0, 604043296, 1, 0, 0, 0, 0, 0, 8, 4, 0, 1]
noncomputable def reM (l : List Nat) : Sre.M := (Sre.forSearch reCode l.toArray 0 0 l.length false).runFor 4
noncomputable def isFailed (o : Option Sre.Outcome) : Bool := match o with | some .failed => true | _ => false
noncomputable def isMatched (o : Option Sre.Outcome) : Bool := match o with | some .matched => true | _ => false
noncomputable def accOf (l : List Nat) : Bool := l.all fun c => c == 97 || c == 45
noncomputable def reOk (l : List Nat) : Bool := if accOf l then isFailed (reM l).outcome else isMatched (reM l).outcome
noncomputable def unsafeL : List Nat := [39, 34, 32, 92, 35, 36, 233, 10]
theorem re_u1 (a : Nat) (h : a ∈ unsafeL) : isMatched (reM [a]).outcome = true ∧ (∀ b, isMatched (reM [a, b]).outcome = true) ∧ ∀ b c, isMatched (reM [a, b, c]).outcome = true := by
  simp only [unsafeL, List.mem_cons, List.not_mem_nil, or_false] at h
  rcases h with rfl | rfl | rfl | rfl | rfl | rfl | rfl | rfl <;> exact ⟨by kernel_rfl, fun b => by kernel_rfl, fun b c => by kernel_rfl⟩
theorem re_u2 (a b : Nat) (ha : a = 97 ∨ a = 45) (h : b ∈ unsafeL) : isMatched (reM [a, b]).outcome = true ∧ ∀ c, isMatched (reM [a, b, c]).outcome = true := by
  simp only [unsafeL, List.mem_cons, List.not_mem_nil, or_false] at h
  rcases ha with rfl | rfl <;> rcases h with rfl | rfl | rfl | rfl | rfl | rfl | rfl | rfl <;> exact ⟨by kernel_rfl, fun c => by kernel_rfl⟩
theorem re_u3 (a b c : Nat) (ha : a = 97 ∨ a = 45) (hb : b = 97 ∨ b = 45) (h : c ∈ unsafeL) : isMatched (reM [a, b, c]).outcome = true := by
  simp only [unsafeL, List.mem_cons, List.not_mem_nil, or_false] at h
  rcases ha with rfl | rfl <;> rcases hb with rfl | rfl <;> rcases h with rfl | rfl | rfl | rfl | rfl | rfl | rfl | rfl <;> kernel_rfl
theorem re_s (a b c : Nat) (ha : a = 97 ∨ a = 45) (hb : b = 97 ∨ b = 45) (hc : c = 97 ∨ c = 45) : isFailed (reM [a]).outcome = true ∧ isFailed (reM [a, b]).outcome = true ∧ isFailed (reM [a, b, c]).outcome = true := by
  rcases ha with rfl | rfl <;> rcases hb with rfl | rfl <;> rcases hc with rfl | rfl <;> exact ⟨by kernel_rfl, by kernel_rfl, by kernel_rfl⟩
theorem alph_split {a : Nat} (h : a ∈ alph) : (a = 97 ∨ a = 45) ∨ (a ∈ unsafeL ∧ (a == 97 || a == 45) = false) := by
  simp only [alph, List.mem_cons, List.not_mem_nil, or_false] at h
  rcases h with rfl | rfl | rfl | rfl | rfl | rfl | rfl | rfl | rfl | rfl <;> first | exact .inl (.inl rfl) | exact .inl (.inr rfl) | exact .inr ⟨by simp [unsafeL], rfl⟩
theorem acc_true {a : Nat} (h : a = 97 ∨ a = 45) : (a == 97 || a == 45) = true := by rcases h with rfl | rfl <;> rfl
theorem re_ok {l : List Nat} (h : ∀ c ∈ l, c ∈ alph) (h1 : l.length ≠ 0) (h3 : l.length ≤ 3) : (accOf l = true ∧ isFailed (reM l).outcome = true) ∨ (accOf l = false ∧ isMatched (reM l).outcome = true) := by
  match l, h, h1, h3 with
  | [a], h, _, _ =>
    rcases alph_split (h a (by simp)) with ha | ⟨ha, za⟩
    · exact .inl ⟨by simp [accOf, acc_true ha], (re_s a 97 97 ha (.inl rfl) (.inl rfl)).1⟩
    · exact .inr ⟨by simp [accOf, za], (re_u1 a ha).1⟩
  | [a, b], h, _, _ =>
    rcases alph_split (h a (by simp)) with ha | ⟨ha, za⟩
    · rcases alph_split (h b (by simp)) with hb | ⟨hb, zb⟩
      · exact .inl ⟨by simp [accOf, acc_true ha, acc_true hb], (re_s a b 97 ha hb (.inl rfl)).2.1⟩
      · exact .inr ⟨by simp [accOf, zb], (re_u2 a b ha hb).1⟩
    · exact .inr ⟨by simp [accOf, za], (re_u1 a ha).2.1 b⟩
  | [a, b, c], h, _, _ =>
    rcases alph_split (h a (by simp)) with ha | ⟨ha, za⟩
    · rcases alph_split (h b (by simp)) with hb | ⟨hb, zb⟩
      · rcases alph_split (h c (by simp)) with hc | ⟨hc, zc⟩
        · exact .inl ⟨by simp [accOf, acc_true ha, acc_true hb, acc_true hc], (re_s a b c ha hb hc).2.2⟩
        · exact .inr ⟨by simp [accOf, zc], re_u3 a b c ha hb hc⟩
      · exact .inr ⟨by simp [accOf, zb], (re_u2 a b ha hb).2 c⟩
    · exact .inr ⟨by simp [accOf, za], (re_u1 a ha).2.2 b c⟩
  | _ :: _ :: _ :: _ :: _, _, _, h3 => simp at h3
noncomputable abbrev sbO : Obj := { cls := .type "builtin_function_or_method", data := .fields #[.builtin "re.Pattern.search", .ref 49] }
noncomputable abbrev patO : Obj := { cls := .type "re.Pattern", data := .fields #[.str (Str.ofString "[^\\w@%+=:,./-]") 332, .int 256 369, .int 0 0, .none, .none, .ref 48, .int 0 0] }
noncomputable abbrev cdO : Obj := { cls := .type "tuple", data := .seq (reCode.map fun (n : Nat) => Value.int (n : Int) 0) }
theorem re_objs (P : Params) : (kk.heap_1 P).lookup 752 = some sbO ∧ (kk.heap_1 P).lookup 49 = some patO ∧ (kk.heap_1 P).lookup 48 = some cdO := by
  refine ⟨by k_is, by k_is, ?_⟩
  kernel_rfl
section
variable {prog : Program} {w : World} {A : Around} {E : Value → Shared → Prop} {s : Shared}
theorem if_no {α : Type} {M : Model} {Q : α → Shared → Prop} {c : Prop} [Decidable c] {t e : Sem α} (h : ¬ c) (k : wpAny M A e Q E s) : wpAny M A (if c then t else e) Q E s := by rw [if_neg h]; exact k
theorem if_yes {α : Type} {M : Model} {Q : α → Shared → Prop} {c : Prop} [Decidable c] {t e : Sem α} (h : c) (k : wpAny M A t Q E s) : wpAny M A (if c then t else e) Q E s := by rw [if_pos h]; exact k
theorem wp_rules (c : Nat → Bool) (f : Nat → String) {M : Model} {Q : PUnit → Shared → Prop} (h : Q ⟨⟩ s) : ∀ l : List Nat, wpAny M A (forIn l PUnit.unit fun i _ => if c i = true then do rule (f i); pure (ForInStep.yield PUnit.unit) else pure (ForInStep.yield PUnit.unit)) Q E s
  | [] => wpAny_pure h
  | i :: l => by
    rw [List.forIn_cons]
    refine wpAny_bind ?_
    by_cases hc : c i = true
    · rw [if_pos hc]
      exact wpAny_bind (wpAny_rule (wpAny_pure (wp_rules c f h l)))
    · rw [if_neg hc]
      exact wpAny_pure (wp_rules c f h l)
theorem entry_search : entryFor table "re.Pattern.search" = some Builtin.«re.Pattern.search» := entryFor_of_tree (by kernel_rfl)
theorem quiet_search : Code.quiet (.builtin "re.Pattern.search" ⟨[], []⟩) = true := by decide +kernel
theorem tree_search {x : Str} {t : Tok} {P : Fin → Shared → Prop} (h49 : s.heap.get? 49 = some patO) (h48 : s.heap.get? 48 = some cdO) (hx : x.length ≤ 3)
    (h : wpAny (model prog w) A (Builtin.Re.reAnswer ⟨.ref 49, .str x t, reCode, x.cps, 0, 0, 0, x.length⟩ (Sre.forSearch reCode x.cps 0 0 x.length false)) P E s) :
    wpAny (model prog w) A (Builtin.«re.Pattern.search» ⟨[.ref 49, .str x t], []⟩) P E s := by
  unfold Builtin.«re.Pattern.search» Builtin.Re.reTarget
  refine wpAny_bind ?_
  refine wpAny_bind (wpAny_of_eq (a := [some (.str x t), none, none]) (by kernel_rfl) ?_)
  dsimp only
  refine wpAny_bind (wpAny_pure (wpAny_bind (wpAny_pure (wpAny_bind (wpAny_fieldsOf h49 rfl ?_)))))
  refine wpAny_bind (wpAny_of_eq (a := (x.cps, 0)) rfl ?_)
  refine if_no (fun z => by cases z) (if_no (fun z => by cases z) ?_)
  refine wpAny_bind (wpAny_of_eq (a := ()) rfl ?_)
  refine wpAny_bind ?_
  show wpAny _ _ (Builtin.Re.reRawItems (.ref 48)) _ _ _
  unfold Builtin.Re.reRawItems
  refine wpAny_bind (wpAny_seqItems h48 rfl (wpAny_pure (wpAny_pure ?_)))
  have e1 : min (2 ^ 63 - 1 : Int).toNat x.cps.size = x.length := Nat.min_eq_right (Nat.le_trans hx (by decide))
  have e2 : min (0 : Int).toNat x.cps.size = 0 := Nat.min_eq_left (Nat.zero_le _)
  have e3 : Array.map (fun x => x.toNat) (Array.map Builtin.Re.reRawOf ((some (Array.map (fun (n : Nat) => Value.int (n : Int) 0) reCode)).getD #[])) = reCode := by decide +kernel
  dsimp only
  rw [e1, e2, e3]
  exact h
theorem drive_search {l : Sre.M} {Q : Option Sre.M → Shared → Prop} (k : (isFailed (l.runFor 4).outcome = true ∧ Q none s) ∨ (isMatched (l.runFor 4).outcome = true ∧ ∀ m, Q (some m) s)) :
    wpAny (model prog w) A (Builtin.Re.reRunToEnd l) Q E s := by
  unfold Builtin.Re.reRunToEnd
  rw [show (2 : Nat) ^ 64 = 18446744073709551615 + 1 from rfl]
  unfold Builtin.Re.reDrive
  have hs : (l.runFor 4).outcome.isSome = true := by
    rcases k with ⟨k, _⟩ | ⟨k, _⟩
    · cases e : (l.runFor 4).outcome with
      | none => rw [e] at k; cases k
      | some _ => rfl
    · cases e : (l.runFor 4).outcome with
      | none => rw [e] at k; cases k
      | some _ => rfl
  refine wpAny_bind (if_yes hs (wpAny_pure ?_))
  refine wpAny_bind (wp_rules (fun i => (l.runFor 4).seen.has i) (fun i => Sre.names.getD i "") ?_ _)
  show wpAny _ _ (match (Sre.M.runFor 4 l).outcome with | some .matched => pure (some (Sre.M.runFor 4 l)) | some .failed => pure none | some (.stuck why) => unsupported (toString "_sre:" ++ toString why) | none => unsupported "internal:sre:no-outcome") _ _ _
  rcases k with ⟨k, hq⟩ | ⟨k, hq⟩
  · cases e : (l.runFor 4).outcome with
    | none => rw [e] at k; cases k
    | some o => cases o with
      | failed => exact wpAny_pure hq
      | matched => rw [e] at k; cases k
      | stuck => rw [e] at k; cases k
  · cases e : (l.runFor 4).outcome with
    | none => rw [e] at k; cases k
    | some o => cases o with
      | matched => exact wpAny_pure (hq _)
      | failed => rw [e] at k; cases k
      | stuck => rw [e] at k; cases k
theorem bound_search (P : Params) (S : Setting) (v : Value) : peek (kk.heap_1 P) S (checkBoundCall "re.Pattern.search" ⟨[.ref 49, v], []⟩) = some () := by kernel_rfl
theorem call_search {v : Value} {Q : Value → Shared → Prop} (X : (kk.heap_1 w.params).In s.heap)
    (h : wpAny (Mod w) A.in1 (Builtin.«re.Pattern.search» ⟨[.ref 49, v], []⟩) (fun f s' => match f with | .done (.ret r) => Q r s' | _ => False) E s) : wpAny (Mod w) A (call (.ref 752) [v]) Q E s := by
  refine wpAny_call (codeAny_of_tree ?_)
  show wpAny _ A.in1 (callAny (.ref 752) ⟨[v], []⟩) _ _ s
  simp only [callAny]
  refine wpAny_bind (wpAny_load (X _ _ (re_objs w.params).1) ?_)
  refine if_yes (by decide) ?_
  refine if_yes (by decide) ?_
  refine wpAny_bind ((Looks.of_peek X (bound_search w.params _ v)).here ?_)
  refine wpAny_pure ⟨quiet_search, codeAny_builtin entry_search ?_⟩
  refine wpAny_mono h (fun f s' hq => ?_) fun _ _ z => z
  cases f with
  | done f => cases f with
    | ret r => exact hq
    | _ => exact hq.elim
  | again c => exact hq.elim
theorem search_str {x : Str} {t : Tok} {Q : Value → Shared → Prop} (X : (kk.heap_1 w.params).In s.heap) (hx : Wd x) (h0 : x.length ≠ 0)
    (h1 : safe x = true → Q .none s) (h2 : safe x = false → ∀ a o s', s'.heap.get? a = some o → Mv [] s s' → Q (.ref a) s') : wpAny (Mod w) A (call (.ref 752) [.str x t]) Q E s := by
  obtain ⟨_, k49, k48⟩ := re_objs w.params
  refine call_search X (tree_search (X _ _ k49) (X _ _ k48) hx.len ?_)
  unfold Builtin.Re.reAnswer
  have z := re_ok (l := x.cps.toList) hx.al (by rw [Array.length_toList]; exact h0) (by rw [Array.length_toList]; exact hx.len)
  have e : (Sre.forSearch reCode x.cps 0 0 x.length false).runFor 4 = reM x.cps.toList := by
    unfold reM
    rw [Array.length_toList]
    rfl
  refine wpAny_bind (drive_search ?_)
  rw [e]
  rcases z with ⟨z1, z2⟩ | ⟨z1, z2⟩
  · exact .inl ⟨z2, wpAny_pure (h1 z1)⟩
  · refine .inr ⟨z2, fun m => ?_⟩
    dsimp only
    have hsafe : safe x = false := z1
    refine wpAny_bind ?_
    unfold Builtin.Re.reNewMatch
    rw [show List.range 0 = ([] : List Nat) from rfl]
    refine if_no (fun z => by cases z) ?_
    unfold newTuple
    refine wpAny_bind (wpAny_newObj_type ?_ (show (2 : Nat) ≤ sizeLine by decide))
    unfold newFields
    refine wpAny_newObj_type (wpAny_pure ?_)
    refine h2 hsafe _ _ _ (Heap.get?_push_size _ rfl) ⟨fun b o _ e => Heap.get?_push_of_some _ (Heap.get?_push_of_some _ e), rfl, rfl, rfl, ?_⟩
    rw [Heap.size_push, Heap.size_push]
    omega
structure DictS (w : World) (o : Obj) (kvs : List (Str × Value)) : Prop where
  is : o.IsDictOf (PySem.strKind PySem.Challenge.pw_mj0334_01 w) kvs
theorem DictS.facts {w : World} {o : Obj} {kvs : List (Str × Value)} (x : DictS w o kvs) : o.cls = .type "dict" ∧ ∃ es ep, o.data = .dict es ep := by
  obtain ⟨es, ep, h1, h2, _⟩ := x.is
  exact ⟨h1.1, es, ep, h2⟩
theorem DictS.at_ {w : World} {h : Heap} {a : Addr} {o : Obj} {kvs : List (Str × Value)} (x : DictS w o kvs) (e : h.get? a = some o) : h.DictOf (PySem.strKind PySem.Challenge.pw_mj0334_01 w) a kvs := Heap.dictOf_iff.mpr ⟨o, e, x.is⟩
noncomputable def NulV (w : World) : Nat → Value → Heap → Prop
  | 0, v, _ => v = .none
  | 1, v, _ => ∃ t, v = .int 0 t
  | 2, v, _ => v = .bool false
  | 3, v, h => ∃ a c, v = .ref a ∧ h.get? a = some (lstO #[] c)
  | 4, v, h => ∃ a o, v = .ref a ∧ h.get? a = some o ∧ DictS w o [] ∧ a ≠ sysModules
  | 5, v, h => ∃ a c, v = .ref a ∧ h.get? a = some { cls := .type "tuple", data := .seq #[] c }
  | _, v, _ => ∃ t, v = .bytes #[] t
noncomputable def HvyV (w : World) : Nat → Value → Heap → Prop
  | 0, v, _ => ∃ t, v = .int 1 t
  | 1, v, _ => v = .bool true
  | 2, v, _ => ∃ t, v = .bytes #[97] t
  | 3, v, h => ∃ a c t, v = .ref a ∧ h.get? a = some (lstO #[.str cA t] c)
  | 4, v, h => ∃ a c t, v = .ref a ∧ h.get? a = some { cls := .type "tuple", data := .seq #[.str cA t] c }
  | _, v, h => ∃ a o u, v = .ref a ∧ h.get? a = some o ∧ DictS w o [(cA, .int 1 u)] ∧ a ≠ sysModules
noncomputable def ThV (w : World) : Th → Value → Heap → Prop
  | .str x, v, _ => ∃ t, v = .str x t
  | .nul k, v, h => NulV w k v h
  | .hvy k, v, h => HvyV w k v h
theorem ThV.keeps {w : World} {th : Th} {v : Value} {h h' : Heap} (x : ThV w th v h) (k : ∀ b o, v = .ref b → h.get? b = some o → h'.get? b = some o) : ThV w th v h' := by
  cases th with
  | str y => exact x
  | nul n =>
    unfold ThV at x ⊢
    match n with
    | 0 | 1 | 2 => exact x
    | 3 => obtain ⟨a, c, rfl, e⟩ := x; exact ⟨a, c, rfl, k _ _ rfl e⟩
    | 4 => obtain ⟨a, o, rfl, e, d⟩ := x; exact ⟨a, o, rfl, k _ _ rfl e, d⟩
    | 5 => obtain ⟨a, c, rfl, e⟩ := x; exact ⟨a, c, rfl, k _ _ rfl e⟩
    | n + 6 => exact x
  | hvy n =>
    unfold ThV at x ⊢
    match n with
    | 0 | 1 | 2 => exact x
    | 3 => obtain ⟨a, c, t, rfl, e⟩ := x; exact ⟨a, c, t, rfl, k _ _ rfl e⟩
    | 4 => obtain ⟨a, c, t, rfl, e⟩ := x; exact ⟨a, c, t, rfl, k _ _ rfl e⟩
    | n + 5 => obtain ⟨a, o, u, rfl, e, d⟩ := x; exact ⟨a, o, u, rfl, k _ _ rfl e, d⟩
theorem nobuf_int : typeLookup (.type "int") (Str.ofString "__buffer__") = pure none := by rw [typeLookup_type, builtinLookup_eq_fast]; kernel_rfl
theorem nobuf_bool : typeLookup (.type "bool") (Str.ofString "__buffer__") = pure none := by rw [typeLookup_type, builtinLookup_eq_fast]; kernel_rfl
theorem nobuf_list : typeLookup (.type "list") (Str.ofString "__buffer__") = pure none := by rw [typeLookup_type, builtinLookup_eq_fast]; kernel_rfl
theorem nobuf_tuple : typeLookup (.type "tuple") (Str.ofString "__buffer__") = pure none := by rw [typeLookup_type, builtinLookup_eq_fast]; kernel_rfl
theorem nobuf_dict : typeLookup (.type "dict") (Str.ofString "__buffer__") = pure none := by rw [typeLookup_type, builtinLookup_eq_fast]; kernel_rfl
theorem text_err {v : Value} {T : String} {Q : Array Nat × Nat → Shared → Prop} (hh : A.handled = none) (hT : s.TypeIs v T) (ha : Looks (model prog w) s.heap (asStr? v) none) (hb : typeLookup (.type T) (Str.ofString "__buffer__") = pure none)
    (hn : (Value.type T == Value.type "builtin_function_or_method") = false) (hl : ((toString "expected string or bytes-like object, got '" ++ toString (shownName T) ++ toString "'" : String) : Str).length ≤ sizeLine)
    (h : ∀ h' tk e, Heap.NewExc s.heap h' e "TypeError" → E (.ref e) { s with heap := h', toks := tk }) : wpAny (model prog w) A (Builtin.Re.reTextOf v) Q E s := by
  unfold Builtin.Re.reTextOf
  refine wpAny_bind (ha.here ?_)
  dsimp only
  refine wpAny_bind ?_
  unfold Builtin.Bytes.bufferQuiet?
  refine wpAny_bind (wpAny_attempt ?_)
  unfold Builtin.Bytes.buffer?
  refine wpAny_bind (wpAny_specialOf (name := Str.ofString "__buffer__") hT hb ?_)
  dsimp only
  refine wpAny_bind (wpAny_specialOf (name := Str.ofString "__buffer__") hT hb ?_)
  refine wpAny_pure (wpAny_pure ?_)
  dsimp only
  refine wpAny_bind (wpAny_typeNameOf' hT hn ?_)
  exact wpAny_raiseErrorMade plainExc_TypeError hh h hl
theorem asStr_no {M : Model} {h : Heap} {a : Addr} {o : Obj} (ho : h.get? a = some o) (hd : ∀ v, o.data ≠ .prim v) : Looks M h (asStr? (.ref a)) none := by
  intro A Q E s k q
  show wpAny M A (load a >>= fun o => match o.data with | .prim (.str s _) => pure (some s) | _ => pure none) Q E s
  refine wpAny_bind (wpAny_load (k _ _ ho) ?_)
  cases e : o.data with
  | prim v => exact absurd e (hd v)
  | _ => exact wpAny_pure q
theorem hvy_text {k : Nat} {v : Value} (hk : k < 6) (hk2 : k ≠ 2) (hv : HvyV w k v s.heap) {Q : Array Nat × Nat → Shared → Prop} (hh : A.handled = none)
    (h : ∀ h' tk e, Heap.NewExc s.heap h' e "TypeError" → E (.ref e) { s with heap := h', toks := tk }) : wpAny (model prog w) A (Builtin.Re.reTextOf v) Q E s := by
  have kinds : k = 0 ∨ k = 1 ∨ k = 3 ∨ k = 4 ∨ k = 5 := by omega
  rcases kinds with rfl | rfl | rfl | rfl | rfl
  · obtain ⟨t, rfl⟩ := (hv : ∃ t, v = .int 1 t)
    exact text_err (T := "int") hh rfl (Looks.of_pure rfl) nobuf_int (by decide) (by decide +kernel) h
  · obtain rfl := (hv : v = .bool true)
    exact text_err (T := "bool") hh rfl (Looks.of_pure rfl) nobuf_bool (by decide) (by decide +kernel) h
  · obtain ⟨a, c, t, rfl, ho⟩ := (hv : ∃ a c t, v = .ref a ∧ s.heap.get? a = some (lstO #[.str cA t] c))
    exact text_err (T := "list") hh ⟨_, ho, rfl⟩ (asStr_no ho (fun _ q => nomatch q)) nobuf_list (by decide) (by decide +kernel) h
  · obtain ⟨a, c, t, rfl, ho⟩ := (hv : ∃ a c t, v = .ref a ∧ s.heap.get? a = some { cls := .type "tuple", data := .seq #[.str cA t] c })
    exact text_err (T := "tuple") hh ⟨_, ho, rfl⟩ (asStr_no ho (fun _ q => nomatch q)) nobuf_tuple (by decide) (by decide +kernel) h
  · obtain ⟨a, o, u, rfl, ho, hd, hsy⟩ := (hv : ∃ a o u, v = .ref a ∧ s.heap.get? a = some o ∧ DictS w o [(cA, .int 1 u)] ∧ a ≠ sysModules)
    obtain ⟨hd1, es, ep, hd2⟩ := hd.facts
    exact text_err (T := "dict") hh ⟨_, ho, hd1⟩ (asStr_no ho (fun v q => by rw [hd2] at q; cases q)) nobuf_dict (by decide) (by decide +kernel) h
theorem named_search (v : Value) : Builtin.Re.reNamed "re.Pattern.search" "search" ["string", "pos", "endpos"] 1 [v] [] = pure [some v, none, none] := by kernel_rfl
theorem search_err {k : Nat} {v : Value} {Q : Value → Shared → Prop} (X : (kk.heap_1 w.params).In s.heap) (hk : k < 6) (hv : HvyV w k v s.heap) (hh : A.handled = none)
    (h : ∀ h' tk e, Heap.NewExc s.heap h' e "TypeError" → E (.ref e) { s with heap := h', toks := tk }) : wpAny (Mod w) A (call (.ref 752) [v]) Q E s := by
  obtain ⟨_, k49, k48⟩ := re_objs w.params
  refine call_search X ?_
  unfold Builtin.«re.Pattern.search» Builtin.Re.reTarget
  refine wpAny_bind ?_
  refine wpAny_bind (wpAny_of_eq (named_search v) ?_)
  dsimp only
  refine wpAny_bind (wpAny_pure (wpAny_bind (wpAny_pure (wpAny_bind (wpAny_fieldsOf (X _ _ k49) rfl ?_)))))
  by_cases h2 : k = 2
  · subst h2
    obtain ⟨t, rfl⟩ := (hv : ∃ t, v = .bytes #[97] t)
    refine wpAny_bind ((Looks.of_peek X (r := (#[97], 1)) (by kernel_rfl)).here ?_)
    refine if_yes (by decide) ?_
    exact wpAny_bind (wpAny_raiseErrorWords plainExc_TypeError hh h)
  · exact wpAny_bind (hvy_text hk h2 hv hh h)
end
end
section
open PySem PySem.W PySem.Calls PyProof.Rows
noncomputable def CtxN (h : Heap) (e : Addr) : Prop := ∃ oe vs, h.get? e = some oe ∧ oe.data = .fields vs ∧ vs[2]? = some .none
section
variable {M : Model} {A : Around} {E : Value → Shared → Prop} {s : Shared} {base : Heap} {env : Env} {outer l : List Env} {L e : Addr} {oe : Obj} {vs : Array Value} {head a0 cls fl : Value} {hadNext : Bool} {Q : Unit → Shared → Prop}
theorem entry_c (hfr : A.frames = some (env :: outer)) (hl : s.heap.FunFrames base (env :: outer)) (hf : env.frame = some L) (he : s.heap.get? e = some oe) (hkb : base.StaysIn s.heap) (hen : base.get? e = none) (hdt : oe.data = .fields vs) (h0 : vs[0]? = some a0) (h2 : vs[2]? = some .none)
    (h : ∀ h', Heap.NotedW base (env :: outer) e oe.cls a0 (rawInt L) s.heap h' → CtxN h' e → Q () { s with heap := h' }) :
    wpAny M A (do let a ← frameOf env; let pl ← entryPlaceOf L hadNext; let b ← EntryCells.newEntry head a .none (rawInt L) .none pl; setField (.ref e) 1 b) Q E s := by
  have hsz : 1 < vs.size := Nat.lt_of_succ_lt (Array.getElem?_eq_some_iff.mp h2).1
  have ene : e ∉ (env :: outer).filterMap (·.frame) := fun hm => by
    obtain ⟨_, o, ho, hnf⟩ := hl.mem hm
    rw [he] at ho
    cases ho
    exact hnf vs hdt
  refine wpAny_bind (wpAny_frameOf_fun hfr hl hf fun h₁ hs₁ => wpAny_bind (wpAny_entryPlaceOf fun pl hpl => ?_))
  unfold EntryCells.newEntry newFields
  refine wpAny_bind (wpAny_newObj_type ?_ (hpl.sizeOk5 _ _ _ _ _))
  have e₁ : h₁.get? e = some oe := (hs₁.2.1 e ene).trans he
  have b₁ : base.StaysIn h₁ := fun b o q => (hs₁.2.1 b fun hm => by rw [(hl.mem hm).1] at q; cases q).trans (hkb b o q)
  generalize hcv : (([head, .ref L, .none, rawInt L, .none] ++ (if pl.isEmpty then List.replicate 6 Value.none else pl)).toArray) = cv
  have c3 : cv[3]? = some (rawInt L) := by
    rw [← hcv]
    rcases hpl with rfl | ⟨_, _, _, _, _, _, _, rfl⟩ <;> simp
  have e₂ := Heap.get?_push_of_some (h := h₁) { cls := .type "traceback", dict := none, data := .fields cv } e₁
  refine wpAny_setField e₂ hdt hsz ?_
  have ne : h₁.objs.size ≠ e := Nat.ne_of_gt (Heap.lt_size e₁)
  have d₃ := Obj.data_mapFields hdt (·.setIfInBounds 1 (Value.ref h₁.objs.size))
  have e₃ := Heap.get?_update_self (Obj.mapFields (·.setIfInBounds 1 (Value.ref h₁.objs.size))) e₂ (Obj.isFreed_of_fields d₃)
  have k : ∀ b o, b ≠ e → h₁.get? b = some o → ((h₁.push { cls := .type "traceback", dict := none, data := .fields cv }).update e (Obj.mapFields (·.setIfInBounds 1 (Value.ref h₁.objs.size)))).get? b = some o := fun b o hb q =>
    (Heap.get?_update_other _ _ (Ne.symm hb)).trans (Heap.get?_push_of_some _ q)
  have t₃ := (Heap.get?_update_other (h₁.push { cls := .type "traceback", dict := none, data := .fields cv }) (Obj.mapFields (·.setIfInBounds 1 (Value.ref h₁.objs.size))) (Ne.symm ne)).trans (Heap.get?_push_size h₁ rfl)
  have nr : ∀ b o, s.heap.get? b = some o → (∀ vs, o.data ≠ .fields vs) → b ≠ e := fun b o hb hnf q => by
    rw [q, he] at hb
    cases hb
    exact hnf vs hdt
  refine h _ ⟨fun b o q => k b o (fun z => by rw [z, hen] at q; cases q) (b₁ b o q), hl.of_keeps fun b o hb hnf => ?_, ⟨_, _, h₁.objs.size, _, _, e₃, ⟨Obj.cls_mapFields _ _, by rw [Array.getElem?_setIfInBounds_ne (by decide)]; exact h0⟩, d₃, by simp [hsz], b₁.fresh, ne, t₃, rfl, c3⟩, fun b o hb hnf => ?_⟩ ⟨_, _, e₃, d₃, by rw [Array.getElem?_setIfInBounds_ne (by decide)]; exact h2⟩
  · obtain ⟨sl, hs⟩ := hs₁.2.2 b o hb
    exact ⟨_, k b _ (nr b o hb hnf) hs, rfl⟩
  · obtain ⟨sl, hs⟩ := hs₁.2.2 b o hb
    exact ⟨sl, k b _ (nr b o hb hnf) hs⟩
theorem looks_c (hfr : A.frames = some (env :: outer)) (hf : env.frame = some L) (hfl : Heap.FlyingW base (env :: outer) e cls a0 s.heap) (c : CtxN s.heap e)
    (hQ : ∀ h', Heap.HeldW base (env :: outer) e cls a0 L h' → s.heap.UpToSlots h' → CtxN h' e → Q () { s with heap := h' }) : wpAny M A (noteFrame (.ref e) env) Q E s := by
  obtain ⟨f1, f2, f3, oe, vs, T, oT, ts, he, ⟨hcls, h0⟩, hdt, h1, hnT, hTe, hT, hdT, h3⟩ := hfl
  obtain ⟨oe', vs', he', hdt', h2⟩ := c
  rw [he] at he'
  cases he'
  rw [hdt] at hdt'
  cases hdt'
  subst hcls
  unfold noteFrame
  simp only [hf]
  refine wpAny_bind (wpAny_field he hdt h1 ?_)
  rw [if_pos (show (Value.ref T != Value.none) = true from by simp)]
  refine wpAny_bind (wpAny_field hT hdT h3 ?_)
  rw [if_neg (show ¬ ((Value.none == rawInt L) = true) from by simp [rawInt])]
  refine wpAny_bind (wpAny_setField hT hdT (Array.getElem?_eq_some_iff.mp h3).1 ?_)
  have oth : ∀ b, b ≠ T → (s.heap.update T (Obj.mapFields (·.setIfInBounds 3 Value.none))).get? b = s.heap.get? b := fun b hb => Heap.get?_update_other _ _ (Ne.symm hb)
  have nr : ∀ b o, s.heap.get? b = some o → (∀ vs, o.data ≠ .fields vs) → b ≠ T := fun b o hb hnf q => by
    rw [q, hT] at hb
    cases hb
    exact hnf ts hdT
  exact entry_c hfr (f3.of_keeps fun b o hb hnf => ⟨o, (oth b (nr b o hb hnf)).trans hb, rfl⟩) hf ((oth e (Ne.symm hTe)).trans he) (fun b o hb => (oth b fun q => by rw [q, hnT] at hb; cases hb).trans (f1 b o hb)) f2 hdt h0 h2
    fun h' x c => hQ h' ⟨x.1, f2, x.2.1, x.2.2.1⟩ (fun b o hb hnf => x.2.2.2 b o ((oth b (nr b o hb hnf)).trans hb) hnf) c
theorem flight_c (hkb : base.StaysIn s.heap) (hen : base.get? e = none) (hl : s.heap.FunFrames base l) (ht : s.heap.TracedAtW base e cls a0 fl) (c : CtxN s.heap e)
    (hQ : ∀ h', Heap.FlyingW base l e cls a0 h' → s.heap.UpToSlots h' → CtxN h' e → Q () { s with heap := h' }) : wpAny M A (setFlight (.ref e) none) Q E s := by
  obtain ⟨oe, vs, T, oT, ts, he, hcls, hdt, h1, hnT, hTe, hT, hdT, h3⟩ := ht
  obtain ⟨oe', vs', he', hdt', h2⟩ := c
  have oth : ∀ b, b ≠ T → (s.heap.update T (Obj.mapFields (·.setIfInBounds 3 ((none : Option Addr).elim Value.none fun f => rawInt f)))).get? b = s.heap.get? b := fun b hb => Heap.get?_update_other _ _ (Ne.symm hb)
  have nr : ∀ b o, s.heap.get? b = some o → (∀ vs, o.data ≠ .fields vs) → b ≠ T := fun b o hb hnf q => by
    rw [q, hT] at hb
    cases hb
    exact hnf ts hdT
  have z3 : 3 < ts.size := (Array.getElem?_eq_some_iff.mp h3).1
  unfold setFlight
  refine wpAny_bind (wpAny_field he hdt h1 ?_)
  rw [if_pos (show (Value.ref T != Value.none) = true from by simp)]
  refine wpAny_setField hT hdT z3 (hQ _ ⟨fun b o hb => (oth b fun q => by rw [q, hnT] at hb; cases hb).trans (hkb b o hb), hen, hl.of_keeps fun b o hb hnf => ⟨o, (oth b (nr b o hb hnf)).trans hb, rfl⟩, ?_⟩ (fun b o hb hnf => ⟨o.slots, (oth b (nr b o hb hnf)).trans hb⟩) ⟨oe', vs', (oth e (Ne.symm hTe)).trans he', hdt', h2⟩)
  exact ⟨oe, vs, T, _, _, (oth e (Ne.symm hTe)).trans he, hcls, hdt, h1, hnT, hTe, Heap.get?_update_self _ hT (Obj.isFreed_of_fields (Obj.data_mapFields hdT _)), Obj.data_mapFields hdT _, by simp [z3]⟩
theorem leaves_c (hfr : A.frames = some (env :: outer)) (hf : env.frame = some L) (hfl : Heap.FlyingW base (env :: outer) e cls a0 s.heap) (c : CtxN s.heap e)
    (hQ : ∀ h', Heap.FlyingW base outer e cls a0 h' → s.heap.UpToSlots h' → CtxN h' e → Q () { s with heap := h' }) : wpAny M A (leaving env (.ref e)) Q E s := by
  unfold leaving
  refine wpAny_bind (looks_c hfr hf hfl c fun h₁ x₁ u₁ c₁ => ?_)
  obtain ⟨g1, g2, g3, g4⟩ := x₁
  refine flight_c (l := outer) g1 g2 g3.2.2 g4 c₁ fun h₂ x₂ u₂ c₂ => hQ h₂ x₂ (u₁.trans u₂) c₂
theorem first_c {cl : String} {h : Heap} (hfr : A.frames = some (env :: outer)) (hf : env.frame = some L) (hkb : base.StaysIn h) (hl : h.FunFrames base (env :: outer)) (hx : Heap.NewExc h s.heap e cl)
    (hQ : ∀ h' a0, Heap.FlyingW base outer e (.type cl) a0 h' → s.heap.UpToSlots h' → CtxN h' e → Q () { s with heap := h' }) : wpAny M A (leaving env (.ref e)) Q E s := by
  obtain ⟨ob, tp, he, hcls, hdt⟩ := hx.there
  have hen : base.get? e = none := by
    cases q : base.get? e with
    | none => rfl
    | some o => have := hkb e o q; rw [hx.new] at this; cases this
  unfold leaving noteFrame
  simp only [hf]
  refine wpAny_bind (wpAny_bind (wpAny_field he hdt (x := .none) rfl ?_))
  rw [if_neg (by decide)]
  refine entry_c hfr (hl.of_keeps fun b o hb _ => ⟨o, hx.keeps b o hb, rfl⟩) hf he (fun b o hb => hx.keeps b o (hkb b o hb)) hen hdt rfl rfl fun h₁ x c => ?_
  obtain ⟨g1, g2, g3, g4⟩ := x
  rw [hcls] at g3
  exact flight_c (l := outer) g1 hen g2.2.2 g3 c fun h₂ x₂ u₂ c₂ => hQ h₂ _ x₂ (Heap.UpToSlots.trans g4 u₂) c₂
end
section
variable {w : World} {outer : List Env} {g : Heap} {env : Env} {L : Addr}
theorem below_of {d u : Nat} (G : Gd w outer g) : Below (AT d u outer) (hideAll g (frs outer)) outer g := by
  refine ⟨rfl, fun b o e => of_hideAll _ e, ?_⟩
  have key : ∀ l : List Env, (∀ env ∈ l, env ∈ outer) → g.FunFrames (hideAll g (frs outer)) l := by
    intro l
    induction l with
    | nil => intro _; trivial
    | cons env r ih =>
      intro hl
      obtain ⟨hk', L, o, es, n, hf, hL, ho', hd'⟩ := G.fr env (hl env (.head _))
      have hin : L ∈ frs outer := List.mem_filterMap.mpr ⟨env, hl env (.head _), hf⟩
      exact ⟨by rw [hk']; decide, ⟨L, o, hf, hideAll_none _ hin, ho', fun vs q => by rw [hd'] at q; cases q⟩, ih fun e he => hl e (.tail _ he)⟩
  exact key outer fun _ h => h
theorem frs_cons (hf : env.frame = some L) {b : Addr} (h : b ∈ frs (env :: outer)) : b = L ∨ b ∈ frs outer := by
  unfold frs at h
  rw [List.filterMap_cons, hf] at h
  exact List.mem_cons.mp h
theorem frs_head (hf : env.frame = some L) : L ∈ frs (env :: outer) := by
  unfold frs
  rw [List.filterMap_cons, hf]
  exact .head _
theorem frs_tail (hf : env.frame = some L) {b : Addr} (h : b ∈ frs outer) : b ∈ frs (env :: outer) := by
  unfold frs
  rw [List.filterMap_cons, hf]
  exact .tail _ h
end
end
section
open PySem PySem.W PySem.Calls PyProof.Rows
theorem keeps_752 {M : Model} {P : Params} (h : Heap) (X : (kk.heap_1 P).In h) : ∃ k, (k = Keeper.frame ∨ k = Keeper.machine ∨ k = Keeper.boundFrame) ∧ Looks M h (keeperOf (.ref 752)) k := by
  refine ⟨.machine, .inr (.inl rfl), (Looks.ld (part := none) (X _ _ (re_objs P).1)).andThen ?_⟩
  exact .now
theorem callWith_752 {w : World} {A : Around} {E : Value → Shared → Prop} {s : Shared} {Q : Value → Shared → Prop} {pos : Pos} {env : Env} {h₀ : Heap} {e : Expr} (_X : (kk.heap_1 w.params).In h₀)
    (h : wpAny (Mod w) A (spliced (backTo pos (starEach [e] env))) (fun vs s₁ => (kk.heap_1 w.params).In s₁.heap ∧ wpAny (Mod w) A (call (.ref 752) ([] ++ vs)) Q E s₁) E s)
    (he : starEach [e] env = (false, eval e env) :: starEach [] env := by rfl) :
    wpAny (Mod w) A (callWith pos (.ref 752) [] (backTo pos (starEach [e] env)) []) Q E s := by
  rw [he] at h ⊢
  exact callWith_of (P := fun h => (kk.heap_1 w.params).In h) rfl keeps_752 (evalArgs_plain h)
theorem esc_free : ∀ l : List Nat, 39 ∉ l → l.flatMap escC = l
  | [], _ => rfl
  | k :: r, h => by
    have h1 : ¬ k = 39 := fun e => h (e ▸ List.mem_cons_self ..)
    rw [List.flatMap_cons, esc_free r fun m => h (List.mem_cons_of_mem _ m)]
    unfold escC
    rw [if_neg h1]
    rfl
theorem esc_join : ∀ parts : List Str, (∀ p ∈ parts, 39 ∉ p.cps.toList) → (Str.join ⟨#[39]⟩ parts).cps.toList.flatMap escC = (Str.join ⟨#[39, 34, 39, 34, 39]⟩ parts).cps.toList
  | [], _ => rfl
  | [p], h => esc_free _ (h p (List.mem_singleton.mpr rfl))
  | p :: q :: r, h => by
    have ih := esc_join (q :: r) fun a ha => h a (List.mem_cons_of_mem _ ha)
    show (p ++ ⟨#[39]⟩ ++ Str.join ⟨#[39]⟩ (q :: r)).cps.toList.flatMap escC = (p ++ ⟨#[39, 34, 39, 34, 39]⟩ ++ Str.join ⟨#[39, 34, 39, 34, 39]⟩ (q :: r)).cps.toList
    simp only [Str.cps_append, Array.toList_append, List.flatMap_append]
    rw [ih, esc_free _ (h p (List.mem_cons_self ..))]
    rfl
theorem replace_esc (x : Str) : (Txt.replace x (Str.ofString "'") (Str.ofString "'\"'\"'")).cps.toList = x.cps.toList.flatMap escC := by
  rw [show Str.ofString "'" = ⟨#[39]⟩ by decide +kernel, show Str.ofString "'\"'\"'" = ⟨#[39, 34, 39, 34, 39]⟩ by decide +kernel]
  rw [StrLaws.replace_one, ← esc_join _ (StrLaws.split_free x 39), StrLaws.join_split]
theorem replace_len {x : Str} (h : x.length ≤ 3) : (Txt.replace x (Str.ofString "'") (Str.ofString "'\"'\"'")).length ≤ 15 := by
  show (Txt.replace x (Str.ofString "'") (Str.ofString "'\"'\"'")).cps.size ≤ 15
  rw [← Array.length_toList, replace_esc]
  have := flat_len x.cps.toList
  have e : x.cps.toList.length = x.length := Array.length_toList
  omega
theorem quoted_eq {x : Str} (h : safe x = false) : Str.ofString "'" ++ Txt.replace x (Str.ofString "'") (Str.ofString "'\"'\"'") ++ Str.ofString "'" = spell x := by
  unfold spell
  rw [if_neg (by rw [h]; simp)]
  have e : (Str.ofString "'").cps = #[39] := by decide +kernel
  show (⟨(Str.ofString "'").cps ++ (Txt.replace x (Str.ofString "'") (Str.ofString "'\"'\"'")).cps ++ (Str.ofString "'").cps⟩ : Str) = ⟨(quotedL x.cps.toList).toArray⟩
  congr 1
  apply Array.ext'
  rw [Array.toList_append, Array.toList_append, replace_esc, e]
  simp [quotedL]
theorem quote_str {w : World} {outer : List Env} {s : Shared} {x : Str} {t : Tok} {R : Result → Shared → Prop} (G : Gd w outer s.heap) (hx : Wd x) (h0 : x.length ≠ 0) (hQ : ∀ s' t', Mv [] s s' → R (.ok (.ret (.str (spell x) t'))) s') :
    codeAny (Mod w) (AT 460 1700 outer) (.call (.ref 759) ⟨[.str x t], []⟩) R s := by
  have hx3 := hx.len
  have hr := replace_len hx3
  refine' enterP [] G ?hm ?k6 ?k7 ?k8 ?k9 ?kB ?_ ?c2 ?c3 ?c4 ?c5
  case hm => intro p hp; cases hp
  (((case k6 => k_is); (case k7 => k_is); (case k8 => decide); (case k9 => first | exact BindsTo.of_eq rfl | exact binds_K (Gd.X (by assumption)) rfl (by k_is) rfl rfl rfl); (case kB => exact locs rfl); (case c2 => exact rfl); (case c3 => exact rfl); (case c4 => exact rfl); (case c5 => decide)))
  intro g L' h' lo mg mb F N B X T Bz _ Gg hLb
  (try dsimp only)
  (try k_fold)
  k_steps
  rotate_left
  · exfalso; omega
  ((refine' callWith_752 ?k1 ?_; (case k1 => k_asm); k_whole))
  k_steps
  refine search_str (by k_in) hx h0 (fun hs => ?_) fun hs a o s' ha M => ?_
  · k_steps
    all_goals ((try dsimp only); (try (k_unfold; dsimp only)))
    have e : spell x = x := by unfold spell; rw [if_pos ⟨h0, hs⟩]
    rw [e] at hQ
    exact hQ _ _ (Bz.mv (by assumption))
  · have FF := Fr.mvd (by assumption) M (fun q => nomatch q) (fun b q => nomatch q)
    have NN := News.mvd (by assumption) M (fun p hp q => nomatch q)
    rw [M.eq]
    k_steps
    all_goals ((try dsimp only); (try (k_unfold; dsimp only)))
    rw [quoted_eq hs]
    exact hQ _ _ (Bz.mv (by assumption))
section
variable {w : World} {A : Around} {E : Value → Shared → Prop} {s : Shared}
theorem truthy_nul {k : Nat} {v : Value} {Q : Bool → Shared → Prop} (hv : NulV w k v s.heap) (h : ∀ tk, Q false { s with toks := tk }) : wpAny (Mod w) A (truthy v) Q E s := by
  match k, hv with
  | 0, hv =>
    obtain rfl := (hv : v = .none)
    exact PyProof.Rows.truthy_none (h _)
  | 1, hv =>
    obtain ⟨t, rfl⟩ := (hv : ∃ t, v = .int 0 t)
    exact truthy_int (h _)
  | 2, hv =>
    obtain rfl := (hv : v = .bool false)
    exact wpAny_truthy_bool (h _)
  | 3, hv =>
    obtain ⟨a, c, rfl, ho⟩ := (hv : ∃ a c, v = .ref a ∧ s.heap.get? a = some (lstO #[] c))
    exact wpAny_truthy_list (items := #[]) ⟨_, ho, rfl, _, rfl⟩ (by decide) (h _)
  | 4, hv =>
    obtain ⟨a, o, rfl, ho, hd, hsy⟩ := (hv : ∃ a o, v = .ref a ∧ s.heap.get? a = some o ∧ DictS w o [] ∧ a ≠ sysModules)
    have hs : (a == sysModules) = false := beq_false_of_ne hsy
    exact wpAny_truthy_dict (kvs := []) hs (hd.at_ ho) (show ((0 : Nat) : Int) < 2 ^ 63 by decide) (h _)
  | 5, hv =>
    obtain ⟨a, c, rfl, ho⟩ := (hv : ∃ a c, v = .ref a ∧ s.heap.get? a = some { cls := .type "tuple", data := .seq #[] c })
    exact truthy_tuple (items := #[]) ⟨_, ho, rfl, _, rfl⟩ (by decide) (h _)
  | n + 6, hv =>
    obtain ⟨t, rfl⟩ := (hv : ∃ t, v = .bytes #[] t)
    exact truthy_bytes (by decide) (h _)
theorem truthy_hvy {k : Nat} {v : Value} {Q : Bool → Shared → Prop} (hv : HvyV w k v s.heap) (h : ∀ tk, Q true { s with toks := tk }) : wpAny (Mod w) A (truthy v) Q E s := by
  match k, hv with
  | 0, hv =>
    obtain ⟨t, rfl⟩ := (hv : ∃ t, v = .int 1 t)
    exact truthy_int (h _)
  | 1, hv =>
    obtain rfl := (hv : v = .bool true)
    exact wpAny_truthy_bool (h _)
  | 2, hv =>
    obtain ⟨t, rfl⟩ := (hv : ∃ t, v = .bytes #[97] t)
    exact truthy_bytes (by decide) (h _)
  | 3, hv =>
    obtain ⟨a, c, t, rfl, ho⟩ := (hv : ∃ a c t, v = .ref a ∧ s.heap.get? a = some (lstO #[.str cA t] c))
    exact wpAny_truthy_list (items := #[.str cA t]) ⟨_, ho, rfl, _, rfl⟩ (show ((1 : Nat) : Int) < 2 ^ 63 by decide) (h _)
  | 4, hv =>
    obtain ⟨a, c, t, rfl, ho⟩ := (hv : ∃ a c t, v = .ref a ∧ s.heap.get? a = some { cls := .type "tuple", data := .seq #[.str cA t] c })
    exact truthy_tuple (items := #[.str cA t]) ⟨_, ho, rfl, _, rfl⟩ (show ((1 : Nat) : Int) < 2 ^ 63 by decide) (h _)
  | n + 5, hv =>
    obtain ⟨a, o, u, rfl, ho, hd, hsy⟩ := (hv : ∃ a o u, v = .ref a ∧ s.heap.get? a = some o ∧ DictS w o [(cA, .int 1 u)] ∧ a ≠ sysModules)
    have hs : (a == sysModules) = false := beq_false_of_ne hsy
    exact wpAny_truthy_dict (kvs := [(cA, .int 1 u)]) hs (hd.at_ ho) (show ((1 : Nat) : Int) < 2 ^ 63 by decide) (h _)
end
structure Rz (outer : List Env) (s : Shared) (e : Addr) (X : String) (s' : Shared) : Prop where
  ctx : CtxN s'.heap e
  R : RaisedN (hideAll s.heap (frs outer)) outer e (.type X) [] s'.heap
  U : s.heap.UpToSlots s'.heap
  gens : s'.gens = s.gens
  os : s'.os = s.os
  dr : s'.drawn = s.drawn
section
variable {w : World} {M : Model} {d u : Nat} {outer : List Env} {E : Value → Shared → Prop} {s s₁ s' : Shared} {g h : Heap} {L a e : Addr} {m : Str → Option Value} {name : Str} {scope : Scope} {cd : Value} {cl : String} {Q : Unit → Shared → Prop}
theorem hide_in (B : Bs [] s g L) (F : Fr g L h m) {env : Env} (hf : env.frame = some L) : ∀ b o, (hideAll s.heap (frs outer)).get? b = some o → (hideAll h (frs (env :: outer))).get? b = some o := fun b o q => by
  have q' := B.into b o (fun z => nomatch z) (of_hideAll _ q)
  refine hideAll_get _ (F.keep b o q') fun hm => ?_
  rcases frs_cons hf hm with z | z
  · rw [z] at q'
    exact absurd (Nat.lt_of_lt_of_le (Heap.lt_size q') F.above) (Nat.lt_irrefl _)
  · rw [hideAll_none _ z] at q
    cases q
theorem raised_new (Gg : Gd w outer g) (hL : 815 ≤ L) (F : Fr g L h m) (hx : Heap.NewExc h s'.heap e cl) (B : Bs [] s g L) (hg : s'.gens = s.gens) (ho : s'.os = s.os) (hr : s'.drawn = s.drawn)
    (hQ : ∀ s'', Rz outer s e cl s'' → Q () s'') (hk : scope.kind = .function := by rfl) :
    wpAny M ((AT d u outer).deeper (envOf name scope L a cd)) (leaving (envOf name scope L a cd) (.ref e)) Q E s' := by
  have G2 := Gg.push F hL (env := envOf name scope L a cd) rfl hk
  refine first_c (base := hideAll h (frs (envOf name scope L a cd :: outer))) rfl rfl (fun b o q => of_hideAll _ q) (below_of (d := d) (u := u) G2).frames hx fun h' a0 fl up c => ?_
  exact hQ _ ⟨c, ⟨_, a0, hide_in B F rfl, (fun _ q => nomatch q), fl⟩, fun b o q hn => up b o (hx.keeps b o (F.keep b o (B.into b o (fun z => nomatch z) q))) hn, hg, ho, hr⟩
end
theorem quote_nul {w : World} {outer : List Env} {s : Shared} {k : Nat} {v : Value} {R : Result → Shared → Prop} (G : Gd w outer s.heap) (hv : NulV w k v s.heap) (hQ : ∀ s' t', Mv [] s s' → R (.ok (.ret (.str (spell cE) t'))) s') :
    codeAny (Mod w) (AT 460 1700 outer) (.call (.ref 759) ⟨[v], []⟩) R s := by
  refine' enterP [] G ?hm ?k6 ?k7 ?k8 ?k9 ?kB ?_ ?c2 ?c3 ?c4 ?c5
  case hm => intro p hp; cases hp
  (((case k6 => k_is); (case k7 => k_is); (case k8 => decide); (case k9 => first | exact BindsTo.of_eq rfl | exact binds_K (Gd.X (by assumption)) rfl (by k_is) rfl rfl rfl); (case kB => exact locs rfl); (case c2 => exact rfl); (case c3 => exact rfl); (case c4 => exact rfl); (case c5 => decide)))
  intro g L' h' lo mg mb F N B X T Bz _ Gg hLb
  have hv' : NulV w k v h' := ThV.keeps (th := .nul k) hv fun b o _ e => F.keep b o (Bz.into b o (fun q => nomatch q) e)
  (try dsimp only)
  (try k_fold)
  k_steps
  refine truthy_nul (ThV.keeps (th := .nul k) hv' fun b o _ e => e) fun tk => ?_
  k_steps
  all_goals ((try dsimp only); (try (k_unfold; dsimp only)))
  have e : spell cE = Str.ofString "''" := by decide +kernel
  rw [e] at hQ
  exact hQ _ _ (Bz.mv (by assumption))
theorem quote_empty {w : World} {outer : List Env} {s : Shared} {t : Tok} {R : Result → Shared → Prop} (G : Gd w outer s.heap) (hQ : ∀ s' t', Mv [] s s' → R (.ok (.ret (.str (spell cE) t'))) s') :
    codeAny (Mod w) (AT 460 1700 outer) (.call (.ref 759) ⟨[.str cE t], []⟩) R s := by
  refine' enterP [] G ?hm ?k6 ?k7 ?k8 ?k9 ?kB ?_ ?c2 ?c3 ?c4 ?c5
  case hm => intro p hp; cases hp
  (((case k6 => k_is); (case k7 => k_is); (case k8 => decide); (case k9 => first | exact BindsTo.of_eq rfl | exact binds_K (Gd.X (by assumption)) rfl (by k_is) rfl rfl rfl); (case kB => exact locs rfl); (case c2 => exact rfl); (case c3 => exact rfl); (case c4 => exact rfl); (case c5 => decide)))
  intro g L' h' lo mg mb F N B X T Bz _ Gg hLb
  (try dsimp only)
  (try k_fold)
  k_steps
  all_goals ((try dsimp only); (try (k_unfold; dsimp only)))
  have e : spell cE = Str.ofString "''" := by decide +kernel
  rw [e] at hQ
  exact hQ _ _ (Bz.mv (by assumption))
theorem quote_hvy {w : World} {outer : List Env} {s : Shared} {k : Nat} {v : Value} {R : Result → Shared → Prop} (G : Gd w outer s.heap) (hk : k < 6) (hv : HvyV w k v s.heap) (hQ : ∀ s' e, Rz outer s e "TypeError" s' → R (.error (.ref e)) s') :
    codeAny (Mod w) (AT 460 1700 outer) (.call (.ref 759) ⟨[v], []⟩) R s := by
  refine' enterP [] G ?hm ?k6 ?k7 ?k8 ?k9 ?kB ?_ ?c2 ?c3 ?c4 ?c5
  case hm => intro p hp; cases hp
  (((case k6 => k_is); (case k7 => k_is); (case k8 => decide); (case k9 => first | exact BindsTo.of_eq rfl | exact binds_K (Gd.X (by assumption)) rfl (by k_is) rfl rfl rfl); (case kB => exact locs rfl); (case c2 => exact rfl); (case c3 => exact rfl); (case c4 => exact rfl); (case c5 => decide)))
  intro g L' h' lo mg mb F N B X T Bz _ Gg hLb
  have hv' : HvyV w k v g := ThV.keeps (th := .hvy k) hv fun b o _ e => Bz.into b o (fun q => nomatch q) e
  (try dsimp only)
  (try k_fold)
  k_steps
  refine truthy_hvy (ThV.keeps (th := .hvy k) hv' fun b o _ e => Fr.keep (by assumption) _ _ e) fun tk => ?_
  k_steps
  ((refine' callWith_752 ?k1 ?_; (case k1 => k_asm); k_whole))
  k_steps
  refine search_err (by k_in) hk (ThV.keeps (th := .hvy k) hv' fun b o _ e => Fr.keep (by assumption) _ _ e) rfl fun h' tk e hx => ?_
  refine raised_new Gg hLb (by assumption) hx Bz rfl rfl rfl fun s'' Rk => hQ s'' e Rk
end
section
open PySem PySem.W PySem.Calls PyProof.Rows
structure It (h : Heap) (I l : Addr) (n i : Nat) : Prop where
  at_ : (i ≤ n ∧ h.IsListIter I l i) ∨ (i = n ∧ ∃ o x, h.get? I = some o ∧ o.cls = .type "list_iterator" ∧ o.data = .fields #[.none, x])
theorem It.keeps {h h' : Heap} {I l : Addr} {n i : Nat} (x : It h I l n i) (k : ∀ o, h.get? I = some o → h'.get? I = some o) : It h' I l n i := by
  rcases x.at_ with ⟨hi, o, e, r⟩ | ⟨hi, o, x, e, r⟩
  · exact ⟨.inl ⟨hi, o, k o e, r⟩⟩
  · exact ⟨.inr ⟨hi, o, x, k o e, r⟩⟩
theorem It.there {h : Heap} {I l : Addr} {n i : Nat} (x : It h I l n i) : ∃ o, h.get? I = some o := by
  rcases x.at_ with ⟨hi, o, e, r⟩ | ⟨hi, o, x, e, r⟩
  · exact ⟨o, e⟩
  · exact ⟨o, e⟩
theorem It.le {h : Heap} {I l : Addr} {n i : Nat} (x : It h I l n i) : i ≤ n := by
  rcases x.at_ with ⟨hi, _⟩ | ⟨hi, _⟩ <;> omega
section
variable {prog : Program} {w : World} {A : Around} {E : Value → Shared → Prop} {s : Shared} {I l : Addr} {vs : Array Value} {i : Nat}
theorem It.type {h : Heap} {n : Nat} {gens dr tk os} (x : It h I l n i) : (⟨h, gens, dr, tk, os⟩ : Shared).TypeIs (.ref I) "list_iterator" := by
  rcases x.at_ with ⟨hi, o, e, r⟩ | ⟨hi, o, x, e, r⟩
  · exact ⟨o, e, r.1⟩
  · exact ⟨o, e, r.1⟩
theorem it_iter {n : Nat} {Q : Value → Shared → Prop} (hit : It s.heap I l n i) (h : Q (.ref I) s) : wpAny (model prog w) A (pyIter (.ref I)) Q E s := by
  have hT : s.TypeIs (.ref I) "list_iterator" := It.type hit
  refine wpAny_pyIter_slot hT slot_listiter_iter (wpAny_call_entry slot_listiter_iter hT entry_listiter_iter ?_ (args_listiter_iter _))
  show wpAny _ _ (ret (.ref I)) _ _ s
  exact wpAny_pure ⟨_, rfl, "list_iterator", _, hT, slot_listiter_next.lookup, h⟩
theorem it_item {Q : Option Value → Shared → Prop} (hit : It s.heap I l vs.size i) (hl : s.heap.IsList l vs) (hi : i < vs.size)
    (hQ : ∀ h', It h' I l vs.size (i + 1) → Heap.SameBut I s.heap h' → Q (some (vs.getD i .none)) { s with heap := h' }) : wpAny (model prog w) A (pyNext (.ref I)) Q E s := by
  rcases hit.at_ with ⟨_, hit⟩ | ⟨e, _⟩
  · have hx : vs[i]? = some (vs.getD i .none) := by simp [Array.getD_eq_getD_getElem?, hi]
    exact wpAny_pyNext_list_item hit hl hx fun h' a b => hQ h' ⟨.inl ⟨hi, a⟩⟩ b
  · omega
theorem stop_iter {α : Type} {Q : α → Shared → Prop} {E' : Value → Shared → Prop} (hh : A.handled = none) (h : ∀ h' e, (∀ b o, s.heap.get? b = some o → h'.get? b = some o) → s.heap.objs.size ≤ h'.objs.size → ({ s with heap := h' } : Shared).TypeIs (.ref e) "StopIteration" → E' (.ref e) { s with heap := h' }) :
    wpAny (model prog w) A (Builtin.SmallTypes.stopIteration : Sem α) Q E' s := by
  show wpAny _ _ (newExc (.type "StopIteration") [] >>= _) _ _ _
  refine wpAny_bind ?_
  simp only [newExc, newTuple]
  refine wpAny_bind (wpAny_newObj_type ?_ (by size_fits))
  refine wpAny_bind (m := firstArgMember _ _) (wpAny_of_eq (a := Value.none) (by first | rfl | (simp only [firstArgMember]; rfl)) ?_)
  refine wpAny_newObj_type ?_ (by size_fits)
  simp only [raiseNew]
  refine wpAny_bind (wpAny_handled ?_)
  rw [hh]
  refine wpAny_bind (wpAny_pure (wpAny_throw ?_))
  refine h _ _ (fun b o e => Heap.get?_push_of_some _ (Heap.get?_push_of_some _ e)) ?_ ⟨_, Heap.get?_push_size _ rfl, rfl⟩
  rw [Heap.size_push, Heap.size_push]
  omega
theorem it_done {Q : Option Value → Shared → Prop} (hh : A.handled = none) (hit : It s.heap I l vs.size vs.size) (hl : s.heap.IsList l vs)
    (hQ : ∀ h', It h' I l vs.size vs.size → Heap.ExtBut I s.heap h' → s.heap.objs.size ≤ h'.objs.size → Q none { s with heap := h' }) : wpAny (model prog w) A (pyNext (.ref I)) Q E s := by
  have hT : s.TypeIs (.ref I) "list_iterator" := It.type hit
  unfold pyNext
  refine wpAny_bind (wpAny_attempt (wpAny_callSpecial?_slot (name := Str.ofString "__next__") hT slot_listiter_next
    (wpAny_call_entry slot_listiter_next hT entry_listiter_next ?_ (args_listiter_next _))))
  show wpAny _ _ (field (.ref I) 0 >>= _) _ _ s
  rcases hit.at_ with ⟨_, o, ho, hc, hd⟩ | ⟨_, o, x, ho, hc, hd⟩
  · obtain ⟨ol, hol, _, nl, hdl⟩ := hl
    refine wpAny_bind (wpAny_field ho hd (x := .ref l) rfl ?_)
    show wpAny _ _ (if (Value.ref l == Value.none) = true then _ else _) _ _ s
    rw [if_neg (show ¬ ((Value.ref l == Value.none) = true) from Bool.false_ne_true)]
    show wpAny _ _ (field (.ref I) 1 >>= _) _ _ s
    refine wpAny_bind (wpAny_field ho hd (x := .int vs.size 0) rfl ?_)
    show wpAny _ _ (seqItems? (.ref l) >>= _) _ _ s
    refine wpAny_bind (wpAny_seqItems hol hdl ?_)
    simp only [Int.toNat_natCast, Array.getElem?_eq_none (Nat.le_refl _)]
    refine wpAny_bind (wpAny_rule (wpAny_bind (wpAny_setField ho hd (by simp) ?_)))
    have hself := Heap.get?_update_self (h := s.heap) (Obj.mapFields (·.setIfInBounds 0 Value.none)) ho (Obj.isFreed_of_fields (Obj.data_mapFields hd _))
    have hsb := Heap.SameBut.update s.heap I (Obj.mapFields (·.setIfInBounds 0 Value.none))
    generalize s.heap.update I (Obj.mapFields (·.setIfInBounds 0 Value.none)) = H at hself hsb ⊢
    refine stop_iter (s := { s with heap := H }) hh fun h' e k sz te => ?_
    refine wpAny_bind (wpAny_isInstance (T := "StopIteration") (b := true) te isSubtype_stop ?_)
    refine wpAny_pure (hQ h' ⟨.inr ⟨rfl, _, .int vs.size 0, k _ _ hself, (Obj.cls_mapFields ..).trans hc, by rw [Obj.data_mapFields hd]; simp⟩⟩ (fun b o hb e => k _ _ (hsb.extBut b o hb e)) ?_)
    have := hsb.1
    have sz' : H.objs.size ≤ h'.objs.size := sz
    omega
  · refine wpAny_bind (wpAny_field ho hd (x := .none) rfl ?_)
    show wpAny _ _ (if (Value.none == Value.none) = true then _ else _) _ _ s
    rw [if_pos (by rfl)]
    refine wpAny_bind (wpAny_rule ?_)
    refine wpAny_bind (stop_iter hh fun h' e k sz te => ?_)
    refine wpAny_bind (wpAny_isInstance (T := "StopIteration") (b := true) te isSubtype_stop ?_)
    exact wpAny_pure (hQ h' ⟨.inr ⟨rfl, o, x, k _ _ ho, hc, hd⟩⟩ (fun b o hb e => k _ _ e) sz)
end
end
section
open PySem PySem.W PySem.Calls PyProof.Rows
noncomputable abbrev gE (p1 p2 p3 : Pos) : Expr := Expr.Call (.Name (Str.ofString "quote") p1) [.Name (Str.ofString "arg") p2] [] p3
noncomputable abbrev gScope : Scope := { kind := .function, names := [(Str.ofString ".0", .local), (Str.ofString "arg", .local), (Str.ofString "quote", .globalImplicit)], isGenerator := true, isCoroutine := false }
noncomputable abbrev gX (p1 p2 p3 p4 : Pos) (it : Expr) (pos : Pos) : Expr := Expr.GeneratorExp (gE p1 p2 p3) [⟨.Name (Str.ofString "arg") p4, it, [], 0⟩] gScope pos
structure GEnv (cenv : Env) (C : Addr) : Prop where
  sc : cenv.scope = gScope
  lo : cenv.locals = C
  gl : cenv.globals = mainGlobals
  fr : cenv.frame = some C
  big : 815 ≤ C
theorem gd_cons {w : World} {outer : List Env} {h : Heap} {cenv : Env} {C : Addr} {m : Str → Option Value} (G : Gd w outer h) (K : GEnv cenv C) (ns : h.Ns C m) : Gd w (cenv :: outer) h where
  X := G.X
  T := G.T
  fr := fun e he => by
    rcases List.mem_cons.mp he with rfl | he
    · obtain ⟨o, es, n, ho, hd, _⟩ := ns
      exact ⟨by rw [K.sc], C, o, es, n, K.fr, K.big, ho, hd⟩
    · exact G.fr e he
  big := G.big
structure TRow (w : World) (vs : Array Value) (ths : List Th) (h : Heap) : Prop where
  len : ths.length = vs.size
  th : ∀ (k : Nat) (v : Value) (th : Th), vs[k]? = some v → ths[k]? = some th → ThV w th v h
  wd : ∀ x, .str x ∈ ths → Wd x
  hv : ∀ k, .hvy k ∈ ths → k < 6
theorem TRow.keeps {w : World} {vs : Array Value} {ths : List Th} {h h' : Heap} (x : TRow w vs ths h) (k : ∀ (a : Nat) b o, vs[a]? = some (.ref b) → h.get? b = some o → h'.get? b = some o) : TRow w vs ths h' :=
  ⟨x.len, fun a v th h1 h2 => (x.th a v th h1 h2).keeps fun b o e ho => k a b o (e ▸ h1) ho, x.wd, x.hv⟩
structure GI (w : World) (outer : List Env) (C I l : Addr) (vs : Array Value) (ths : List Th) (i : Nat) (h : Heap) : Prop where
  G : Gd w outer h
  it : It h I l vs.size i
  ls : h.IsList l vs
  row : TRow w vs ths h
  ns : ∃ m, h.Ns C m
structure GC (outer : List Env) (cenv : Env) (C I l : Addr) (vs : Array Value) : Prop where
  K : GEnv cenv C
  IC : I ≠ C
  lI : l ≠ I
  lC : l ≠ C
  vI : ∀ a : Nat, vs[a]? ≠ some (.ref I)
  vC : ∀ a : Nat, vs[a]? ≠ some (.ref C)
  bI : 815 ≤ I
  fI : I ∉ frs outer
  fC : C ∉ frs outer
theorem GI.step {w : World} {outer : List Env} {cenv : Env} {C I l : Addr} {vs : Array Value} {ths : List Th} {i j : Nat} {h h' : Heap} {m : Str → Option Value} (X : GC outer cenv C I l vs) (x : GI w outer C I l vs ths i h)
    (k : ∀ b o, b ≠ I → b ≠ C → h.get? b = some o → h'.get? b = some o) (hs : h.objs.size ≤ h'.objs.size) (it : It h' I l vs.size j) (ns : h'.Ns C m) : GI w outer C I l vs ths j h' where
  G := x.G.mv (fun b o hb _ e => k b o (fun q => absurd hb (Nat.not_lt.mpr (q ▸ X.bI))) (fun q => absurd hb (Nat.not_lt.mpr (q ▸ X.K.big))) e)
    (fun b o hb e => ⟨o, k b o (fun q => X.fI (q ▸ hb)) (fun q => X.fC (q ▸ hb)) e, rfl⟩) hs
  it := it
  ls := let ⟨o, ho, r⟩ := x.ls; ⟨o, k _ _ X.lI X.lC ho, r⟩
  row := x.row.keeps fun a b o hb e => k b o (fun q => X.vI a (q ▸ hb)) (fun q => X.vC a (q ▸ hb)) e
  ns := ⟨m, ns⟩
theorem quote_at (P : Params) : nsIn (kk.heap_1 P) mainGlobals (Str.ofString "quote") = some (some (.ref 759)) ∧ keepIn (kk.heap_1 P) (.ref 759) = true := ⟨by kernel_rfl, by kernel_rfl⟩
section
variable {w : World} {A : Around} {E : Value → Shared → Prop} {s : Shared} {outer : List Env} {cenv : Env} {C I l : Addr} {vs : Array Value} {ths : List Th}
theorem elt_go {v : Value} {m : Str → Option Value} {p1 p2 p3 : Pos} {Q : Value → Shared → Prop} (K : GEnv cenv C) (G : Gd w outer s.heap) (ns : s.heap.Ns C m) (hm : m (Str.ofString "arg") = some v)
    (h : wpAny (Mod w) A (call (.ref 759) [v]) Q E s) : wpAny (Mod w) A (eval (gE p1 p2 p3) cenv) Q E s := by
  obtain ⟨q1, q2⟩ := quote_at w.params
  obtain ⟨lo, mg, mb, T⟩ := G.T
  have kq : cenv.kindOf (Str.ofString "quote") = some .globalImplicit := by unfold Env.kindOf; rw [K.sc]; rfl
  have ka : cenv.kindOf (Str.ofString "arg") = some .local := by unfold Env.kindOf; rw [K.sc]; rfl
  have kf : cenv.scope.kind = .function := by rw [K.sc]
  have G' := gd_cons G K ns
  refine Call_Name1 (Name_function_global kf kq (loadGlobal_global (mg := mg) (v := .ref 759) (K.gl ▸ T.g) (mg_of G.X T.g q1) ?_))
  refine callWith_of (P := fun h => (kk.heap_1 w.params).In h) rfl (keeps_K q2) (evalArgs_plain ?_)
  refine spliced_cons (wpAny_Name (wpAny_loadName_local kf ka (K.lo ▸ ns) hm ?_)) 
  refine spliced_nil ⟨G.X, ?_⟩
  exact h
theorem elt_light {v : Value} {th : Th} {m : Str → Option Value} {p1 p2 p3 : Pos} {Q : Value → Shared → Prop} (K : GEnv cenv C) (G : Gd w outer s.heap) (ns : s.heap.Ns C m) (hm : m (Str.ofString "arg") = some v)
    (hA : A.frames = some (cenv :: outer)) (a1 : A.handled = none) (a2 : A.depth ≤ 460) (a3 : A.guards = some []) (a4 : A.units ≤ 1700)
    (hv : ThV w th v s.heap) (hl : th.heavy = false) (wd : ∀ x, th = .str x → Wd x) (h : ∀ t s', Mv [] s s' → Q (.str (spell th.word) t) s') : wpAny (Mod w) A (eval (gE p1 p2 p3) cenv) Q E s := by
  refine elt_go K G ns hm (wpAny_call ?_)
  have G' := gd_cons G K ns
  cases th with
  | hvy k => cases hl
  | nul k => exact codeAny_le (quote_nul G' hv fun s' t M => h t s' M) a1 a2 hA a3 a4
  | str x =>
    obtain ⟨t, rfl⟩ := (hv : ∃ t, v = .str x t)
    by_cases h0 : x.length = 0
    · have hx : x = cE := by
        cases x with
        | mk c =>
          have : c = #[] := Array.eq_empty_of_size_eq_zero h0
          subst this
          decide +kernel
      subst hx
      exact codeAny_le (quote_empty G' fun s' t M => h t s' M) a1 a2 hA a3 a4
    · exact codeAny_le (quote_str G' (wd x rfl) h0 fun s' t M => h t s' M) a1 a2 hA a3 a4
theorem elt_heavy {v : Value} {k : Nat} {m : Str → Option Value} {p1 p2 p3 : Pos} {Q : Value → Shared → Prop} (K : GEnv cenv C) (G : Gd w outer s.heap) (ns : s.heap.Ns C m) (hm : m (Str.ofString "arg") = some v)
    (hA : A.frames = some (cenv :: outer)) (a1 : A.handled = none) (a2 : A.depth ≤ 460) (a3 : A.guards = some []) (a4 : A.units ≤ 1700)
    (hv : HvyV w k v s.heap) (hk : k < 6) (h : ∀ e s', Rz (cenv :: outer) s e "TypeError" s' → E (.ref e) s') : wpAny (Mod w) A (eval (gE p1 p2 p3) cenv) Q E s := by
  refine elt_go K G ns hm (wpAny_call ?_)
  exact codeAny_le (quote_hvy (gd_cons G K ns) hk hv fun s' e R => h e s' R) a1 a2 hA a3 a4
structure Rz2 (outer : List Env) (C I : Addr) (s : Shared) (e : Addr) (s' : Shared) : Prop where
  ctx : CtxN s'.heap e
  R : ∃ B a0, (∀ b o, b ≠ I → b ≠ C → b ∉ frs outer → s.heap.get? b = some o → B.get? b = some o) ∧ Heap.FlyingW B outer e (.type "TypeError") a0 s'.heap ∧ ∀ o, s'.heap.get? I = some o → B.get? I = some o
  U : ∀ b o, b ≠ I → b ≠ C → s.heap.get? b = some o → (∀ vs, o.data ≠ .fields vs) → ∃ sl, s'.heap.get? b = some { o with slots := sl }
  gens : s'.gens = s.gens
  os : s'.os = s.os
  dr : s'.drawn = s.drawn
  big : 815 ≤ s'.heap.objs.size
noncomputable def RJ (w : World) (outer : List Env) (C I l : Addr) (vs : Array Value) (ths : List Th) (e0 : Nat) : GenEnd := fun n s₀ r s₁ =>
  n = 0 ∧ ((e0 = vs.size ∧ r = .ok .next ∧ Mv [I, C] s₀ s₁ ∧ GI w outer C I l vs ths e0 s₁.heap) ∨ (e0 < vs.size ∧ ∃ e, r = .error (.ref e) ∧ Rz2 outer C I s₀ e s₁ ∧ It s₁.heap I l vs.size (e0 + 1)))
noncomputable def YJ (w : World) (outer : List Env) (C I l : Addr) (vs : Array Value) (ths : List Th) (e0 : Nat) : Protocol := fun m s₀ v s kap =>
  m < e0 ∧ (∃ t, v = .str (spell (ths.getD (e0 - 1 - m) (.nul 0)).word) t) ∧ Mv [I, C] s₀ s ∧ GI w outer C I l vs ths (e0 - m) s.heap ∧ ∀ s'' : Shared, GI w outer C I l vs ths (e0 - m) s''.heap → kap (.send .none) s''
structure Stop (ths : List Th) (e0 : Nat) (i0 : Nat) : Prop where
  light : ∀ k, i0 ≤ k → k < e0 → (ths.getD k (.nul 0)).heavy = false
  le : e0 ≤ ths.length
  heavy : e0 < ths.length → ∃ k, ths[e0]? = some (.hvy k)
theorem over_frames {c : Code} (hA : A.frames = some outer) (hc : c.envs = [cenv]) : (A.over c []).frames = some (cenv :: outer) := by
  show pushEnvs c.envs (pushEnvs (envsOf []) A.frames) = _
  rw [hA, hc]
  rfl
theorem seg_join {i0 e0 : Nat} {p1 p2 p3 p4 pos : Pos} {it : Expr} (X : GC outer cenv C I l vs) (hS : Stop ths e0 i0) (hA : A.frames = some outer) (a1 : A.handled = none) (a2 : A.depth ≤ 450) (a3 : A.guards = some []) (a4 : A.units ≤ 1690) :
    ∀ (n i : Nat) (s₀ s : Shared), i + n = e0 → i0 ≤ i → GI w outer C I l vs ths i s.heap → Mv [I, C] s₀ s →
      Seg (Mod w) A (RJ w outer C I l vs ths e0) (YJ w outer C I l vs ths e0) n s₀ (.compLoop (gX p1 p2 p3 p4 it pos) 0 (.ref I) .none cenv) ((Mod w).den (.compLoop (gX p1 p2 p3 p4 it pos) 0 (.ref I) .none cenv)) [] s := by
  have hc : (Code.compLoop (gX p1 p2 p3 p4 it pos) 0 (.ref I) .none cenv).envs = [cenv] := rfl
  have hA' : (A.over (.compLoop (gX p1 p2 p3 p4 it pos) 0 (.ref I) .none cenv) []).frames = some (cenv :: outer) := over_frames hA hc
  have b1 : (A.over (.compLoop (gX p1 p2 p3 p4 it pos) 0 (.ref I) .none cenv) []).handled = none := a1
  have b2 : (A.over (.compLoop (gX p1 p2 p3 p4 it pos) 0 (.ref I) .none cenv) []).depth ≤ 460 := by show A.depth + 0 + 1 ≤ 460; omega
  have b3 : (A.over (.compLoop (gX p1 p2 p3 p4 it pos) 0 (.ref I) .none cenv) []).guards = some [] := by show pushGuards [] (pushGuards [] A.guards) = _; rw [a3]; rfl
  have b4 : (A.over (.compLoop (gX p1 p2 p3 p4 it pos) 0 (.ref I) .none cenv) []).units ≤ 1700 := by show A.units + 0 + 3 ≤ 1700; omega
  have ka : cenv.kindOf (Str.ofString "arg") = some .local := by unfold Env.kindOf; rw [X.K.sc]; rfl
  have hp : (cenv.scope.kind == .class || (cenv.scope.kind == .module && cenv.locals != cenv.globals)) = false := by rw [X.K.sc]; rfl
  have hCI : C ≠ I := Ne.symm X.IC
  intro n
  induction n with
  | zero =>
    intro i s₀ s hi h0 Gi M
    obtain rfl : i = e0 := by omega
    have hlen := Gi.row.len
    show Seg _ A _ _ _ s₀ _ ((compTurn (gX p1 p2 p3 p4 it pos) 0 (.ref I) .none cenv).onRaise (leaving cenv)) [] s
    rw [compTurn_gen, Sem.onRaise_eq_wrap]
    refine seg_bind_wrap (wpAny_standAt ?_)
    by_cases he : i = vs.size
    · have hit := Gi.it
      rw [he] at hit
      refine seg_bind_wrap (it_done b1 hit Gi.ls fun h' it' ex sz => ?_)
      obtain ⟨m, hns⟩ := Gi.ns
      refine seg_end (.ok .next) ⟨rfl, .inl ⟨he, rfl, M.trans ⟨fun b o hb e => ex b o (fun q => hb (by rw [q]; exact .head _)) e, rfl, rfl, rfl, sz⟩, ?_⟩⟩
      exact GI.step X Gi (fun b o h1 h2 e => ex b o h1 e) sz (he ▸ it') (hns.at' fun o e => ex C o hCI e)
    · have hlt : i < vs.size := by have := hS.le; omega
      refine seg_bind_wrap (it_item Gi.it Gi.ls hlt fun h1 it1 sb1 => ?_)
      obtain ⟨m, hns⟩ := Gi.ns
      obtain ⟨k, hk⟩ := hS.heavy (by omega)
      refine seg_bind_wrap (wpAny_of_eq (rfl : letOwnedTupleGo (.Name (Str.ofString "arg") p4) (.ref I) _ = pure ()) ?_)
      have ns1 : h1.Ns C m := hns.at' fun o e => sb1.extBut C o hCI e
      refine seg_bind_wrap (wpAny_assign_Name (wpAny_storeName_local ka (X.K.lo ▸ ns1) (fun h2 ns2 sb2 => ?_) hp))
      rw [X.K.lo] at ns2 sb2
      have k2 : ∀ b o, b ≠ I → b ≠ C → s.heap.get? b = some o → h2.get? b = some o := fun b o q1 q2 e => sb2.extBut b o q2 (sb1.extBut b o q1 e)
      have z2 : s.heap.objs.size ≤ h2.objs.size := by rw [sb2.1, sb1.1]; exact Nat.le_refl _
      have it2 : It h2 I l vs.size (i + 1) := it1.keeps fun o e => sb2.extBut I o X.IC e
      have G2 := GI.step X Gi k2 z2 it2 ns2
      refine seg_bind_wrap (wpAny_pure ?_)
      simp only [if_true]
      have hv : vs[i]? = some (vs.getD i .none) := by simp [Array.getD_eq_getD_getElem?, hlt]
      have t2 := G2.row.th i _ _ hv hk
      have hy : ∀ v, yieldOut cenv v = yieldValue v := fun v => by
        have hco : cenv.scope.isCoroutine = false := by rw [X.K.sc]
        simp only [yieldOut, hco, Bool.false_eq_true, if_false]
      simp only [hy]
      rw [Sem.bind_eq_wrap', Sem.bind_eq_wrap', Sem.wrap_wrap, Sem.wrap_wrap]
      refine seg_wrap (elt_heavy (s := { s with heap := h2, toks := _ }) X.K G2.G ns2 (by simp) hA' b1 b2 b3 b4 t2 (G2.row.hv k (List.mem_of_getElem? hk)) fun e s3 R => ?_)
      show Seg _ A _ _ _ s₀ _ ((leaving cenv (.ref e)).bind fun _ => .raise (.ref e)) [] s3
      rw [Sem.bind_eq_wrap]
      obtain ⟨B, a0, st, _, hfl⟩ := R.R
      refine seg_wrap (leaves_c hA' X.K.fr hfl R.ctx fun h4 fl4 up4 c4 => ?_)
      have nfr : ∀ b, b ≠ C → b ∉ frs outer → b ∉ frs (cenv :: outer) := fun b q1 q2 q => by
        have q' : b = C ∨ b ∈ frs outer := by
          unfold frs at q
          rw [List.filterMap_cons, X.K.fr] at q
          exact List.mem_cons.mp q
        rcases q' with q' | q'
        · exact q1 q'
        · exact q2 q'
      have toB : ∀ b o, b ≠ C → b ∉ frs outer → h2.get? b = some o → B.get? b = some o := fun b o q1 q2 e => st b o (hideAll_get _ e (nfr b q1 q2))
      have up : ∀ b o, h2.get? b = some o → (∀ vs, o.data ≠ .fields vs) → ∃ sl, h4.get? b = some { o with slots := sl } := fun b o e hn => by
        obtain ⟨sl, e3⟩ := R.U b o e hn
        obtain ⟨sl', e4⟩ := up4 b _ e3 hn
        exact ⟨sl', e4⟩
      refine seg_end (.error (.ref e)) ⟨rfl, .inr ⟨hlt, e, rfl, ⟨c4, ⟨B, a0, fun b o q1 q2 q3 e => toB b o q2 q3 (k2 b o q1 q2 (M.keep b o ?_ e)), fl4, fun o e => ?_⟩, fun b o q1 q2 e hn => up b o (k2 b o q1 q2 (M.keep b o ?_ e)) hn, R.gens.trans M.gens, R.os.trans M.os, R.dr.trans M.dr, ?_⟩, it2.keeps fun o e => fl4.1 _ _ (toB I o X.IC X.fI e)⟩⟩
      · intro q
        rcases List.mem_cons.mp q with q | q
        · exact q1 q
        · exact q2 (List.mem_singleton.mp q)
      · obtain ⟨oI, hoI⟩ := it2.there
        have zI := toB I oI X.IC X.fI hoI
        have zI' := fl4.1 _ _ zI
        rw [show h4.get? I = some o from e] at zI'
        cases zI'
        exact zI
      · intro q
        rcases List.mem_cons.mp q with q | q
        · exact q1 q
        · exact q2 (List.mem_singleton.mp q)
      · obtain ⟨o, es, n, ho, hd, _⟩ := ns2
        obtain ⟨sl, e4⟩ := up C o ho (fun vs q => by rw [hd] at q; cases q)
        exact Nat.le_of_lt (Nat.lt_of_le_of_lt X.K.big (Heap.lt_size e4))
  | succ n ih =>
    intro i s₀ s hi h0 Gi M
    have hlen := Gi.row.len
    have hlt : i < vs.size := by have := hS.le; omega
    show Seg _ A _ _ _ s₀ _ ((compTurn (gX p1 p2 p3 p4 it pos) 0 (.ref I) .none cenv).onRaise (leaving cenv)) [] s
    rw [compTurn_gen, Sem.onRaise_eq_wrap]
    refine seg_bind_wrap (wpAny_standAt ?_)
    refine seg_bind_wrap (it_item Gi.it Gi.ls hlt fun h1 it1 sb1 => ?_)
    obtain ⟨m, hns⟩ := Gi.ns
    refine seg_bind_wrap (wpAny_of_eq (rfl : letOwnedTupleGo (.Name (Str.ofString "arg") p4) (.ref I) _ = pure ()) ?_)
    have ns1 : h1.Ns C m := hns.at' fun o e => sb1.extBut C o hCI e
    refine seg_bind_wrap (wpAny_assign_Name (wpAny_storeName_local ka (X.K.lo ▸ ns1) (fun h2 ns2 sb2 => ?_) hp))
    rw [X.K.lo] at ns2 sb2
    have k2 : ∀ b o, b ≠ I → b ≠ C → s.heap.get? b = some o → h2.get? b = some o := fun b o q1 q2 e => sb2.extBut b o q2 (sb1.extBut b o q1 e)
    have z2 : s.heap.objs.size ≤ h2.objs.size := by rw [sb2.1, sb1.1]; exact Nat.le_refl _
    have it2 : It h2 I l vs.size (i + 1) := it1.keeps fun o e => sb2.extBut I o X.IC e
    have G2 := GI.step X Gi k2 z2 it2 ns2
    refine seg_bind_wrap (wpAny_pure ?_)
    simp only [if_true]
    have hv : vs[i]? = some (vs.getD i .none) := by simp [Array.getD_eq_getD_getElem?, hlt]
    have hth : ths[i]? = some (ths.getD i (.nul 0)) := by simp [List.getD_eq_getElem?_getD, hlen, hlt]
    have t2 := G2.row.th i _ _ hv hth
    have hy : ∀ v, yieldOut cenv v = yieldValue v := fun v => by
      have hco : cenv.scope.isCoroutine = false := by rw [X.K.sc]
      simp only [yieldOut, hco, Bool.false_eq_true, if_false]
    simp only [hy]
    rw [Sem.bind_eq_wrap', Sem.bind_eq_wrap', Sem.wrap_wrap, Sem.wrap_wrap]
    refine seg_wrap (elt_light (s := { s with heap := h2, toks := _ }) X.K G2.G ns2 (by simp) hA' b1 b2 b3 b4 t2 (hS.light i h0 (by omega)) (fun x e => G2.row.wd x (e ▸ List.mem_of_getElem? hth)) fun t s3 M3 => ?_)
    have kk : ∀ b o, b ≠ I → b ≠ C → s.heap.get? b = some o → s3.heap.get? b = some o := fun b o q1 q2 e => M3.keep b o (fun q => nomatch q) (k2 b o q1 q2 e)
    have z3 : s.heap.objs.size ≤ s3.heap.objs.size := Nat.le_trans z2 M3.size
    have ns3 := ns2.at' (h' := s3.heap) fun o e => M3.keep C o (fun q => nomatch q) e
    have G3 := GI.step X Gi kk z3 (it2.keeps fun o e => M3.keep I o (fun q => nomatch q) e) ns3
    have e1 : e0 - n = i + 1 := by omega
    have e2 : e0 - 1 - n = i := by omega
    have Ms : Mv [I, C] s₀ s3 := by
      refine M.trans ⟨fun b o hb e => kk b o (fun q => hb (by rw [q]; exact .head _)) (fun q => hb (by rw [q]; exact .tail _ (.head _))) e, M3.gens, M3.os, M3.dr, z3⟩
    refine seg_at (seg_yield rfl rfl rfl ⟨by omega, by rw [e2]; exact ⟨t, rfl⟩, Ms, by rw [e1]; exact G3, fun s'' G'' => ?_⟩)
    rw [e1] at G''
    exact seg_again rfl (ih (i + 1) s'' s'' (by omega) (by omega) G'' .refl)
theorem seg_start {i0 e0 i n : Nat} {p1 p2 p3 p4 pos : Pos} {it : Expr} {s₀ s : Shared} (X : GC outer cenv C I l vs) (hS : Stop ths e0 i0) (hA : A.frames = some outer) (a1 : A.handled = none) (a2 : A.depth ≤ 450) (a3 : A.guards = some []) (a4 : A.units ≤ 1690)
    (hi : i + n = e0) (h0 : i0 ≤ i) (Gi : GI w outer C I l vs ths i s.heap) (M : Mv [I, C] s₀ s) :
      Seg (Mod w) A (RJ w outer C I l vs ths e0) (YJ w outer C I l vs ths e0) n s₀ (.compStart (gX p1 p2 p3 p4 it pos) 0 (.ref I) .none cenv) ((Mod w).den (.compStart (gX p1 p2 p3 p4 it pos) 0 (.ref I) .none cenv)) [] s := by
  have loop := seg_join (p1 := p1) (p2 := p2) (p3 := p3) (p4 := p4) (pos := pos) (it := it) X hS hA a1 a2 a3 a4 n i s₀ s hi h0 Gi M
  show Seg _ A _ _ _ s₀ _ ((compStart (gX p1 p2 p3 p4 it pos) 0 (.ref I) .none cenv).onRaise (leaving cenv)) [] s
  unfold compStart
  rw [Sem.onRaise_eq_wrap]
  show Seg _ A _ _ _ s₀ _ ((ask >>= _).wrap _ _ _ _) [] s
  refine seg_bind_wrap (wpAny_askSetting ?_)
  split
  · exact seg_again rfl loop
  · refine seg_bind_wrap (wpAny_rule ?_)
    show Seg _ A _ _ _ s₀ _ ((standAt it.pos >>= _).wrap _ _ _ _) [] s
    exact seg_bind_wrap (wpAny_standAt (seg_bind_wrap (it_iter Gi.it (seg_again rfl loop))))
end
end
section
open PySem PySem.W PySem.Calls PyProof.Rows
structure Mq (g : Nat) (wr : List Addr) (s s' : Shared) : Prop where
  keep : ∀ b o, b ∉ wr → s.heap.get? b = some o → s'.heap.get? b = some o
  gens : GenOnlyQ g s.gens s'.gens
  os : s'.os = s.os
  dr : s'.drawn = s.drawn
  size : s.heap.objs.size ≤ s'.heap.objs.size
theorem Mq.trans {g : Nat} {wr : List Addr} {s s' s'' : Shared} (x : Mq g wr s s') (y : Mq g wr s' s'') : Mq g wr s s'' :=
  ⟨fun b o n e => y.keep b o n (x.keep b o n e), x.gens.trans y.gens, y.os.trans x.os, y.dr.trans x.dr, Nat.le_trans x.size y.size⟩
theorem Mq.mono {g : Nat} {wr wr' : List Addr} {s s' : Shared} (x : Mq g wr s s') (h : ∀ b ∈ wr, b ∈ wr') : Mq g wr' s s' :=
  ⟨fun b o n e => x.keep b o (fun q => n (h b q)) e, x.gens, x.os, x.dr, x.size⟩
structure Rz3 (outer : List Env) (I : Addr) (wr : List Addr) (g : Nat) (s : Shared) (e : Addr) (s' : Shared) : Prop where
  ctx : CtxN s'.heap e
  R : ∃ B a0, (∀ b o, b ∉ wr → b ∉ frs outer → s.heap.get? b = some o → B.get? b = some o) ∧ Heap.FlyingW B outer e (.type "TypeError") a0 s'.heap ∧ ∀ o, s'.heap.get? I = some o → B.get? I = some o
  U : ∀ b o, b ∉ wr → s.heap.get? b = some o → (∀ vs, o.data ≠ .fields vs) → ∃ sl, s'.heap.get? b = some { o with slots := sl }
  gens : GenOnlyQ g s.gens s'.gens
  os : s'.os = s.os
  dr : s'.drawn = s.drawn
  big : 815 ≤ s'.heap.objs.size
theorem Rz3.after {outer : List Env} {I : Addr} {wr wr' : List Addr} {g : Nat} {s s₁ s' : Shared} {e : Addr} (M : Mq g wr s s₁) (R : Rz3 outer I wr' g s₁ e s') (h : ∀ b ∈ wr, b ∈ wr') : Rz3 outer I wr' g s e s' := by
  obtain ⟨B, a0, st, fl, cu⟩ := R.R
  exact ⟨R.ctx, ⟨B, a0, fun b o n1 n2 q => st b o n1 n2 (M.keep b o (fun z => n1 (h b z)) q), fl, cu⟩, fun b o n q hn => R.U b o n (M.keep b o (fun z => n (h b z)) q) hn, M.gens.trans R.gens, R.os.trans M.os, R.dr.trans M.dr, R.big⟩
theorem sub_TS : isSubtype (.type "TypeError") (.type "StopIteration") = pure false := by rw [isSubtype_type]; kernel_rfl
section
variable {w : World} {A : Around} {E : Value → Shared → Prop} {s : Shared} {outer : List Env} {cenv : Env} {C I l : Addr} {vs : Array Value} {ths : List Th} {a : Addr} {g i0 e0 : Nat}
structure GJ (w : World) (Ag : Around) (outer : List Env) (C I l : Addr) (vs : Array Value) (ths : List Th) (e0 : Nat) (a : Addr) (g : Nat) (n : Nat) (s : Shared) : Prop where
  gen : s.heap.IsGen a g
  gi : GI w outer C I l vs ths (e0 - n) s.heap
  go : ∃ gs, s.gens[g]? = some gs ∧ ∀ s'' : Shared, GI w outer C I l vs ths (e0 - n) s''.heap → gs.Goes (Mod w) Ag (RJ w outer C I l vs ths e0) (YJ w outer C I l vs ths e0) n (.send .none) s''
theorem gj_next {n : Nat} {Q : Option Value → Shared → Prop} (X : GC outer cenv C I l vs) (haI : a ≠ I) (haC : a ≠ C) (haf : a ∉ frs outer) (hA : A.frames = some outer) (a1 : A.handled = none) (a2 : A.depth ≤ 440) (J : GJ w A.in1 outer C I l vs ths e0 a g n s)
    (hY : ∀ m, n = m + 1 → m < e0 → ∀ t s', GJ w A.in1 outer C I l vs ths e0 a g m s' → Mq g [I, C] s s' → Q (some (.str (spell (ths.getD (e0 - 1 - m) (.nul 0)).word) t)) s')
    (hD : n = 0 → e0 = vs.size → ∀ s', It s'.heap I l vs.size vs.size → Mq g [I, C] s s' → Q none s')
    (hE : n = 0 → e0 < vs.size → ∀ e s', Rz3 outer I [I, C] g s e s' → It s'.heap I l vs.size (e0 + 1) → E (.ref e) s') : wpAny (Mod w) A (pyNext (.ref a)) Q E s := by
  obtain ⟨hg, gi, gs, hgs, hgo'⟩ := J
  have hgo := hgo' (s.setGen g .running) gi
  obtain ⟨lo, mg, mb, T⟩ := gi.G.T
  unfold pyNext
  refine wpAny_bind (wpAny_attempt (wpAny_callSpecial?_slot (name := Str.ofString "__next__") hg.typeIs slot_gen_next
    (wpAny_call_entry slot_gen_next hg.typeIs entry_gen_next ?_ (args_gen_next _))))
  show wpAny _ A.in1 (Builtin.Generator.genWake (.ref a) (.send .none)) _ _ s
  unfold Builtin.Generator.genWake
  refine wpAny_bind (wpAny_holding (wpAny_genNumber hg (wpAny_bind (wpAny_genState hgs ?_))))
  cases gs with
  | running => exact hgo.elim
  | finished => exact hgo.elim
  | _ =>
    refine wpAny_bind (wpAny_roomToWake T.nolimit (by show A.depth + 0 < _; exact Nat.lt_of_le_of_lt a2 (by decide)) ?_)
    show wpAny _ A.in1 (.resume g (.send .none) [] _) _ _ s
    refine wpAny_resumeQ hgs hgo (fun x s₁ hx => ?_) (fun v s₁ gs' hb hv => ?_)
    · obtain ⟨hn, ⟨he, rfl, M, G1⟩ | ⟨he, e, rfl, R, it1⟩⟩ := hx
      · show wpAny _ A.in1 (newExc (.type "StopIteration") [] >>= _) _ _ _
        refine wpAny_bind ?_
        simp only [newExc, newTuple]
        refine wpAny_bind (wpAny_newObj_type ?_ (by size_fits))
        refine wpAny_bind (m := firstArgMember _ _) (wpAny_of_eq (a := Value.none) (by first | rfl | (simp only [firstArgMember]; rfl)) ?_)
        refine wpAny_newObj_type ?_ (by size_fits)
        simp only [raiseNew]
        refine wpAny_bind (wpAny_bind (wpAny_handled ?_))
        first | rw [show A.in1.handled = none from a1] | rw [a1]
        refine wpAny_throw ?_
        refine wpAny_bind (wpAny_isInstance (T := "StopIteration") (b := true) ⟨_, Heap.get?_push_size _ rfl, rfl⟩ isSubtype_stop ?_)
        have up : ∀ (o o' : Obj) (b : Addr) (x : Obj), s₁.heap.get? b = some x → ((s₁.heap.push o).push o').get? b = some x := fun o o' b x q => Heap.get?_push_of_some _ (Heap.get?_push_of_some _ q)
        refine wpAny_pure (hD hn he _ ?_ ⟨fun b o hb q => ?_, GenOnlyQ.of ((GenOnly.setGen s g .running).trans (M.gens ▸ GenOnly.setGen s₁ g .finished)) (setGen_self (gs := .running) (by rw [M.gens]; exact setGen_self hgs)) rfl, M.os, M.dr, ?_⟩)
        · have it := G1.it
          rw [he] at it
          exact it.keeps fun o q => up _ _ I o q
        · exact up _ _ b o (M.keep b o hb q)
        · have := M.size
          show s.heap.objs.size ≤ ((s₁.heap.push _).push _).objs.size
          rw [Heap.size_push, Heap.size_push]
          exact Nat.le_trans this (by omega)
      · obtain ⟨B, a0, st, fl, cu⟩ := R.R
        obtain ⟨ob, hob, hcl⟩ := fl.there
        have hT : (s₁.setGen g .finished).TypeIs (.ref e) "TypeError" := ⟨ob, hob, hcl⟩
        have hag : ∃ o, s₁.heap.get? a = some o ∧ ∃ nm qn, o.data = .fields #[.int g 0, nm, qn] := by
          obtain ⟨o, nm, qn, ho, _, hd, _⟩ := hg
          exact ⟨o, fl.1 _ _ (st a o haI haC haf ho), nm, qn, hd⟩
        obtain ⟨oa, hoa, nm, qn, hda⟩ := hag
        show wpAny _ A.in1 (Builtin.Generator.genLeft (.ref a) (.ref e)) _ _ _
        unfold Builtin.Generator.genLeft Builtin.Generator.madeByALambda
        refine wpAny_bind (wpAny_bind (wpAny_load (s := s₁.setGen g .finished) hoa (wpAny_pure ?_)))
        refine wpAny_bind (wpAny_isInstance (T := "TypeError") (b := false) hT sub_TS ?_)
        refine if_no (by rw [Bool.and_false]; decide) ?_
        unfold Builtin.Generator.genEscaped
        refine wpAny_bind (wpAny_isInstance (T := "TypeError") (b := false) hT sub_TS ?_)
        refine if_yes (by decide) (wpAny_throw ?_)
        refine wpAny_bind (wpAny_isInstance (T := "TypeError") (b := false) hT sub_TS ?_)
        refine if_no (by decide) (wpAny_throw ?_)
        have nIC : ∀ b, b ∉ [I, C] → b ≠ I ∧ b ≠ C := fun b n => ⟨fun q => n (by rw [q]; exact .head _), fun q => n (by rw [q]; exact .tail _ (.head _))⟩
        exact hE hn he e _ ⟨R.ctx, ⟨B, a0, fun b o n1 n2 q => st b o (nIC b n1).1 (nIC b n1).2 n2 q, fl, cu⟩, fun b o n q hd => R.U b o (nIC b n).1 (nIC b n).2 q hd, GenOnlyQ.of ((GenOnly.setGen s g .running).trans (R.gens ▸ GenOnly.setGen s₁ g .finished)) (setGen_self (gs := .running) (by rw [R.gens]; exact setGen_self hgs)) rfl, R.os, R.dr, R.big⟩ it1
    · obtain ⟨hm, ⟨t, rfl⟩, M, G1, hk⟩ := hv
      refine wpAny_pure ⟨_, rfl, wpAny_pure ?_⟩
      cases n with
      | zero => exact (hk s₁ G1).elim
      | succ m =>
        refine hY m rfl hm t _ ⟨?_, G1, gs', ?_, fun s'' G'' => hk s'' G''⟩ ⟨M.keep, GenOnlyQ.of ((GenOnly.setGen s g .running).trans (M.gens ▸ GenOnly.setGen s₁ g gs')) (setGen_self (gs := .running) (by rw [M.gens]; exact setGen_self hgs)) hb, M.os, M.dr, M.size⟩
        · obtain ⟨o, nm, qn, ho, r⟩ := hg
          exact ⟨o, nm, qn, M.keep a o (fun q => by
            rcases List.mem_cons.mp q with q | q
            · exact haI q
            · exact haC (List.mem_singleton.mp q)) ho, r⟩
        · exact setGen_self (gs := .running) (by rw [M.gens]; exact setGen_self hgs)
end
end
section
open PySem PySem.W PySem.Calls PyProof.Rows
noncomputable def outL (ths : List Th) : Nat → Nat → List Str
  | _, 0 => []
  | i, n + 1 => spell (ths.getD i (.nul 0)).word :: outL ths (i + 1) n
theorem outL_len (ths : List Th) : ∀ n i, (outL ths i n).length = n
  | 0, _ => rfl
  | n + 1, i => by rw [outL, List.length_cons, outL_len ths n]
theorem thv_lt {w : World} {th : Th} {b : Addr} {h : Heap} (x : ThV w th (.ref b) h) : b < h.objs.size := by
  cases th with
  | str y => obtain ⟨t, q⟩ := (x : ∃ t, Value.ref b = .str y t); cases q
  | nul k =>
    match k, x with
    | 0, x => cases (x : Value.ref b = .none)
    | 1, x => obtain ⟨t, q⟩ := (x : ∃ t, Value.ref b = .int 0 t); cases q
    | 2, x => cases (x : Value.ref b = .bool false)
    | 3, x => obtain ⟨a, c, q, e⟩ := (x : ∃ a c, Value.ref b = .ref a ∧ h.get? a = some (lstO #[] c)); cases q; exact Heap.lt_size e
    | 4, x => obtain ⟨a, o, q, e, _⟩ := (x : ∃ a o, Value.ref b = .ref a ∧ h.get? a = some o ∧ DictS w o [] ∧ a ≠ sysModules); cases q; exact Heap.lt_size e
    | 5, x => obtain ⟨a, c, q, e⟩ := (x : ∃ a c, Value.ref b = .ref a ∧ h.get? a = some { cls := .type "tuple", data := .seq #[] c }); cases q; exact Heap.lt_size e
    | n + 6, x => obtain ⟨t, q⟩ := (x : ∃ t, Value.ref b = .bytes #[] t); cases q
  | hvy k =>
    match k, x with
    | 0, x => obtain ⟨t, q⟩ := (x : ∃ t, Value.ref b = .int 1 t); cases q
    | 1, x => cases (x : Value.ref b = .bool true)
    | 2, x => obtain ⟨t, q⟩ := (x : ∃ t, Value.ref b = .bytes #[97] t); cases q
    | 3, x => obtain ⟨a, c, t, q, e⟩ := (x : ∃ a c t, Value.ref b = .ref a ∧ h.get? a = some (lstO #[.str cA t] c)); cases q; exact Heap.lt_size e
    | 4, x => obtain ⟨a, c, t, q, e⟩ := (x : ∃ a c t, Value.ref b = .ref a ∧ h.get? a = some { cls := .type "tuple", data := .seq #[.str cA t] c }); cases q; exact Heap.lt_size e
    | n + 5, x => obtain ⟨a, o, u, q, e, _⟩ := (x : ∃ a o u, Value.ref b = .ref a ∧ h.get? a = some o ∧ DictS w o [(cA, .int 1 u)] ∧ a ≠ sysModules); cases q; exact Heap.lt_size e
theorem thv_cls {w : World} {th : Th} {b : Addr} {h : Heap} {o : Obj} (x : ThV w th (.ref b) h) (e0 : h.get? b = some o) : o.cls ≠ .none := by
  cases th with
  | str y => obtain ⟨t, q⟩ := (x : ∃ t, Value.ref b = .str y t); cases q
  | nul k =>
    match k, x with
    | 0, x => cases (x : Value.ref b = .none)
    | 1, x => obtain ⟨t, q⟩ := (x : ∃ t, Value.ref b = .int 0 t); cases q
    | 2, x => cases (x : Value.ref b = .bool false)
    | 3, x => obtain ⟨a, c, q, e⟩ := (x : ∃ a c, Value.ref b = .ref a ∧ h.get? a = some (lstO #[] c)); cases q; rw [e] at e0; cases e0; exact fun q => nomatch q
    | 4, x => obtain ⟨a, o, q, e, d, _⟩ := (x : ∃ a o, Value.ref b = .ref a ∧ h.get? a = some o ∧ DictS w o [] ∧ a ≠ sysModules); cases q; rw [e] at e0; cases e0; rw [d.facts.1]; exact fun q => nomatch q
    | 5, x => obtain ⟨a, c, q, e⟩ := (x : ∃ a c, Value.ref b = .ref a ∧ h.get? a = some { cls := .type "tuple", data := .seq #[] c }); cases q; rw [e] at e0; cases e0; exact fun q => nomatch q
    | n + 6, x => obtain ⟨t, q⟩ := (x : ∃ t, Value.ref b = .bytes #[] t); cases q
  | hvy k =>
    match k, x with
    | 0, x => obtain ⟨t, q⟩ := (x : ∃ t, Value.ref b = .int 1 t); cases q
    | 1, x => cases (x : Value.ref b = .bool true)
    | 2, x => obtain ⟨t, q⟩ := (x : ∃ t, Value.ref b = .bytes #[97] t); cases q
    | 3, x => obtain ⟨a, c, t, q, e⟩ := (x : ∃ a c t, Value.ref b = .ref a ∧ h.get? a = some (lstO #[.str cA t] c)); cases q; rw [e] at e0; cases e0; exact fun q => nomatch q
    | 4, x => obtain ⟨a, c, t, q, e⟩ := (x : ∃ a c t, Value.ref b = .ref a ∧ h.get? a = some { cls := .type "tuple", data := .seq #[.str cA t] c }); cases q; rw [e] at e0; cases e0; exact fun q => nomatch q
    | n + 5, x => obtain ⟨a, o, u, q, e, d, _⟩ := (x : ∃ a o u, Value.ref b = .ref a ∧ h.get? a = some o ∧ DictS w o [(cA, .int 1 u)] ∧ a ≠ sysModules); cases q; rw [e] at e0; cases e0; rw [d.facts.1]; exact fun q => nomatch q
theorem TRow.cls {w : World} {vs : Array Value} {ths : List Th} {h : Heap} {o : Obj} (x : TRow w vs ths h) {k : Nat} {b : Addr} (e : vs[k]? = some (.ref b)) (e0 : h.get? b = some o) : o.cls ≠ .none := by
  have hk : k < vs.size := by
    obtain ⟨q, _⟩ := Array.getElem?_eq_some_iff.mp e
    exact q
  have ht : ths[k]? = some (ths.getD k (.nul 0)) := by
    have := x.len
    simp [List.getD_eq_getElem?_getD, this, hk]
  exact thv_cls (x.th k _ _ e ht) e0
theorem TRow.lt {w : World} {vs : Array Value} {ths : List Th} {h : Heap} (x : TRow w vs ths h) {k : Nat} {b : Addr} (e : vs[k]? = some (.ref b)) : b < h.objs.size := by
  have hk : k < vs.size := by
    obtain ⟨q, _⟩ := Array.getElem?_eq_some_iff.mp e
    exact q
  have ht : ths[k]? = some (ths.getD k (.nul 0)) := by
    have := x.len
    simp [List.getD_eq_getElem?_getD, this, hk]
  exact thv_lt (x.th k _ _ e ht)
section
variable {w : World} {A : Around} {E : Value → Shared → Prop} {outer : List Env} {cenv : Env} {C I l Sx : Addr} {vs : Array Value} {ths : List Th} {a : Addr} {g i0 e0 : Nat}
structure Off (outer : List Env) (C I l a Sx : Addr) (vs : Array Value) : Prop where
  I : Sx ≠ I
  C : Sx ≠ C
  l : Sx ≠ l
  a : Sx ≠ a
  f : Sx ∉ frs outer
  b : 815 ≤ Sx
  v : ∀ k : Nat, vs[k]? ≠ some (.ref Sx)
theorem GI.off {i : Nat} {h h' : Heap} (O : Off outer C I l a Sx vs) (x : GI w outer C I l vs ths i h) (k : ∀ b o, b ≠ Sx → h.get? b = some o → h'.get? b = some o) (hs : h.objs.size ≤ h'.objs.size) : GI w outer C I l vs ths i h' where
  G := x.G.mv (fun b o hb _ e => k b o (fun q => absurd hb (Nat.not_lt.mpr (q ▸ O.b))) e) (fun b o hb e => ⟨o, k b o (fun q => O.f (q ▸ hb)) e, rfl⟩) hs
  it := x.it.keeps fun o e => k _ o (Ne.symm O.I) e
  ls := let ⟨o, ho, r⟩ := x.ls; ⟨o, k _ _ (Ne.symm O.l) ho, r⟩
  row := x.row.keeps fun a b o hb e => k b o (fun q => O.v a (q ▸ hb)) e
  ns := let ⟨m, ns⟩ := x.ns; ⟨m, ns.at' fun o e => k _ o (Ne.symm O.C) e⟩
theorem GJ.off {Ag : Around} {n : Nat} {s : Shared} {h' : Heap} {tk : Nat} (O : Off outer C I l a Sx vs) (J : GJ w Ag outer C I l vs ths e0 a g n s) (k : ∀ b o, b ≠ Sx → s.heap.get? b = some o → h'.get? b = some o) (hs : s.heap.objs.size ≤ h'.objs.size) :
    GJ w Ag outer C I l vs ths e0 a g n { s with heap := h', toks := tk } :=
  ⟨let ⟨o, nm, qn, ho, r⟩ := J.gen; ⟨o, nm, qn, k _ _ (Ne.symm O.a) ho, r⟩, J.gi.off O k hs, J.go⟩
theorem ext_gen {res : Value} (X : GC outer cenv C I l vs) (O : Off outer C I l a Sx vs) (haI : a ≠ I) (haC : a ≠ C) (haf : a ∉ frs outer) (hA : A.frames = some outer) (a1 : A.handled = none) (a2 : A.depth ≤ 440) :
    ∀ (n : Nat) (s : Shared) (acc : Array Value) (c : Nat) (R : Result → Shared → Prop), n ≤ e0 → GJ w A.in1.in1 outer C I l vs ths e0 a g n s → s.heap.get? Sx = some (lstO acc c) → acc.size + n ≤ 1000 →
      (e0 = vs.size → ∀ s' ws c', It s'.heap I l vs.size vs.size → Mq g [I, C, Sx] s s' → StrsAre ws (outL ths (e0 - n) n) → s'.heap.get? Sx = some (lstO (acc ++ ws.toArray) c') → R (.ok (.ret res)) s') →
      (e0 < vs.size → ∀ e s', Rz3 outer I [I, C, Sx] g s e s' → It s'.heap I l vs.size (e0 + 1) → R (.error (.ref e)) s') →
      codeAny (Mod w) A (.builtin "list.extend.loop" ⟨[.ref Sx, .ref a, res], []⟩) R s := by
  have sub : ∀ b ∈ [I, C], b ∈ [I, C, Sx] := fun b hb => by
    rcases List.mem_cons.mp hb with rfl | hb
    · exact .head _
    · rw [List.mem_singleton.mp hb]; exact .tail _ (.head _)
  have nS : Sx ∉ [I, C] := fun q => by
    rcases List.mem_cons.mp q with q | q
    · exact O.I q
    · exact O.C (List.mem_singleton.mp q)
  intro n
  induction n with
  | zero =>
    intro s acc c R hn J hS hsz hD hE
    refine codeAny_builtin F.entry_extend_loop ?_
    rw [Around.under_plainId F.plain_extend_loop _]
    show wpAny _ A.in1 (pyNext (.ref a) >>= _) _ _ s
    refine wpAny_bind (gj_next X haI haC haf hA a1 a2 J (fun m q => by omega) (fun _ he s' it M => ?_) (fun _ he e s' R3 it => ?_))
    · refine wpAny_pure (hD he s' [] c it (M.mono sub) .nil ?_)
      have := M.keep Sx _ nS hS
      simpa using this
    · exact hE he e s' ⟨R3.ctx, let ⟨B, a0, st, fl, cu⟩ := R3.R; ⟨B, a0, fun b o n1 => st b o (fun q => n1 (sub b q)), fl, cu⟩, fun b o n1 => R3.U b o (fun q => n1 (sub b q)), R3.gens, R3.os, R3.dr, R3.big⟩ it
  | succ n ih =>
    intro s acc c R hn J hS hsz hD hE
    refine codeAny_builtin F.entry_extend_loop ?_
    rw [Around.under_plainId F.plain_extend_loop _]
    show wpAny _ A.in1 (pyNext (.ref a) >>= _) _ _ s
    refine wpAny_bind (gj_next X haI haC haf hA a1 a2 J (fun m q hm t s' J' M => ?_) (fun q => by omega) (fun q => by omega))
    obtain rfl : n = m := by omega
    have hS' := M.keep Sx _ nS hS
    show wpAny _ A.in1 (updateSeq Sx (·.push (.str (spell (ths.getD (e0 - 1 - n) (.nul 0)).word) t)) >>= _) _ _ _
    refine wpAny_bind (wpAny_updateSeq hS' rfl ?_ (Nat.le_trans (by omega) (show (1000 : Nat) ≤ sizeLine by decide)) (by rw [Array.size_push]; exact Nat.le_trans (by omega) (show (1000 : Nat) ≤ sizeLine + 1 by decide)))
    refine wpAny_pure ⟨plainId_quiet F.plain_extend_loop _, ?_⟩
    have hnew := Heap.get?_update_self (Obj.mapSeq (·.push (Value.str (spell (ths.getD (e0 - 1 - n) (.nul 0)).word) t))) hS' rfl
    have sb : Heap.SameBut Sx s'.heap (s'.heap.update Sx (Obj.mapSeq (·.push (.str (spell (ths.getD (e0 - 1 - n) (.nul 0)).word) t)))) := Heap.SameBut.update ..
    have oth : ∀ b o, b ≠ Sx → s'.heap.get? b = some o → (s'.heap.update Sx (Obj.mapSeq (·.push (.str (spell (ths.getD (e0 - 1 - n) (.nul 0)).word) t)))).get? b = some o := fun b o hb e => sb.extBut b o hb e
    generalize s'.heap.update Sx (Obj.mapSeq (·.push (.str (spell (ths.getD (e0 - 1 - n) (.nul 0)).word) t))) = H at hnew sb oth ⊢
    have J2 := GJ.off (h' := H) (tk := s'.toks) O J' oth (Nat.le_of_eq sb.1.symm)
    have M2 : Mq g [I, C, Sx] s { s' with heap := H } := ⟨fun b o hb e => oth b o (fun q => hb (by rw [q]; exact .tail _ (.tail _ (.head _)))) (M.keep b o (fun q => hb (sub b q)) e), M.gens, M.os, M.dr, by rw [sb.1]; exact M.size⟩
    refine ih _ (acc.push _) _ R (by omega) J2 hnew (by rw [Array.size_push]; omega) (fun he s2 ws c' it M3 hv hl => ?_) (fun he e s2 R3 it => ?_)
    · refine hD he s2 (.str (spell (ths.getD (e0 - 1 - n) (.nul 0)).word) t :: ws) c' it (M2.trans M3) ?_ ?_
      · have e1 : e0 - (n + 1) = e0 - 1 - n := by omega
        have e2 : e0 - 1 - n + 1 = e0 - n := by omega
        rw [e1]
        unfold outL
        rw [e2]
        exact .cons _ _ hv
      · rw [hl, push_app]
    · exact hE he e s2 (Rz3.after M2 R3 fun b hb => hb) it
end
end
section
open PySem PySem.W PySem.Calls PyProof.Rows
section
variable {w : World} {A : Around} {E : Value → Shared → Prop} {s : Shared} {outer : List Env} {cenv : Env} {C I l : Addr} {vs : Array Value} {ths : List Th} {a : Addr} {g i0 e0 : Nat}
theorem Mq.pushed {wr : List Addr} {s s' : Shared} {o : Obj} (M : Mq g (wr ++ [s.heap.objs.size]) { s with heap := s.heap.push o } s') : Mq g wr s s' :=
  ⟨fun b x n e => M.keep b x (fun q => by
    rcases List.mem_append.mp q with q | q
    · exact n q
    · exact absurd (Heap.lt_size e) (by rw [List.mem_singleton.mp q]; exact Nat.lt_irrefl _)) (Heap.get?_push_of_some _ e), M.gens, M.os, M.dr, by
    have := M.size
    rw [show (({ s with heap := s.heap.push o } : Shared).heap.objs.size) = s.heap.objs.size + 1 from Heap.size_push ..] at this
    omega⟩
theorem Rz3.pushed {wr : List Addr} {s s' : Shared} {o : Obj} {e : Addr} (R : Rz3 outer I (wr ++ [s.heap.objs.size]) g { s with heap := s.heap.push o } e s') : Rz3 outer I wr g s e s' := by
  obtain ⟨B, a0, st, fl, cu⟩ := R.R
  have nn : ∀ b x, b ∉ wr → s.heap.get? b = some x → b ∉ wr ++ [s.heap.objs.size] := fun b x n e q => by
    rcases List.mem_append.mp q with q | q
    · exact n q
    · exact absurd (Heap.lt_size e) (by rw [List.mem_singleton.mp q]; exact Nat.lt_irrefl _)
  exact ⟨R.ctx, ⟨B, a0, fun b x n1 n2 q => st b x (nn b x n1 q) n2 (Heap.get?_push_of_some _ q), fl, cu⟩, fun b x n q hn => R.U b x (nn b x n q) (Heap.get?_push_of_some _ q) hn, R.gens, R.os, R.dr, R.big⟩
theorem off_new (haI : I < s.heap.objs.size) (haC : C < s.heap.objs.size) (ha : a < s.heap.objs.size) (gi : GI w outer C I l vs ths i0 s.heap) : Off outer C I l a s.heap.objs.size vs where
  I := Nat.ne_of_gt haI
  C := Nat.ne_of_gt haC
  l := by obtain ⟨o, ho, _⟩ := gi.ls; exact Nat.ne_of_gt (Heap.lt_size ho)
  a := Nat.ne_of_gt ha
  f := nofr gi.G _ (Nat.le_refl _)
  b := gi.G.big
  v := fun k q => absurd (gi.row.lt q) (Nat.lt_irrefl _)
theorem collect_gen {N : Nat} {Q : List Value → Shared → Prop} (X : GC outer cenv C I l vs) (haI : a ≠ I) (haC : a ≠ C) (haf : a ∉ frs outer) (hA : A.frames = some outer) (a1 : A.handled = none) (a2 : A.depth ≤ 440) (hN : N ≤ e0) (hN2 : N ≤ 1000)
    (J : GJ w A.in1.in1 outer C I l vs ths e0 a g N s)
    (hD : e0 = vs.size → ∀ s' ws, It s'.heap I l vs.size vs.size → Mq g [I, C] s s' → StrsAre ws (outL ths (e0 - N) N) → Q ws s')
    (hE : e0 < vs.size → ∀ e s', Rz3 outer I [I, C] g s e s' → It s'.heap I l vs.size (e0 + 1) → E (.ref e) s') : wpAny (Mod w) A (collect (.ref a)) Q E s := by
  have hat : a < s.heap.objs.size := by obtain ⟨o, _, _, ho, _⟩ := J.gen; exact Heap.lt_size ho
  have hit : I < s.heap.objs.size := by obtain ⟨o, ho⟩ := J.gi.it.there; exact Heap.lt_size ho
  have hct : C < s.heap.objs.size := by obtain ⟨m, ns⟩ := J.gi.ns; exact ns.lt
  have O := off_new (a := a) hit hct hat J.gi
  unfold collect
  refine wpAny_bind (wpAny_runValue (codeAny_builtin F.entry_proto_collect ?_))
  rw [Around.under_plainId F.plain_proto_collect _]
  show wpAny _ A.in1 (newList [] >>= fun l => again (.builtin "list.__iadd__" ⟨[l, .ref a], []⟩)) _ _ s
  refine wpAny_bind (wpAny_newObj_type ?_)
  refine wpAny_pure ⟨plainId_quiet F.plain_list_iadd _, codeAny_builtin F.entry_list_iadd ?_⟩
  rw [Around.under_plainId F.plain_list_iadd _]
  have J1 : GJ w A.in1.in1 outer C I l vs ths e0 a g N { s with heap := s.heap.push { cls := .type "list", data := .seq ([] : List Value).toArray } } :=
    GJ.off (tk := s.toks) O J (fun b o _ e => Heap.get?_push_of_some _ e) (by rw [Heap.size_push]; omega)
  have hT1 : ({ s with heap := s.heap.push { cls := .type "list", data := .seq ([] : List Value).toArray } } : Shared).TypeIs (.ref a) "generator" := J1.gen.typeIs
  show wpAny _ A.in1 (Builtin.List.listExtendWith (.ref s.heap.objs.size) (.ref a) (.ref s.heap.objs.size)) _ _ _
  unfold Builtin.List.listExtendWith
  refine wpAny_bind (wpAny_typeOf hT1 ?_)
  have h1 : Builtin.List.listSameRef (.ref s.heap.objs.size) (.ref a) = false := by simp [Builtin.List.listSameRef, O.a]
  have h2 : (Value.type "generator" == Value.type "list") = false := by decide
  have h3 : (Value.type "generator" == Value.type "tuple") = false := by decide
  simp only [h1, h2, h3, Bool.or_false, Bool.false_eq_true, if_false]
  refine wpAny_bind (wpAny_pyIter_gen J1.gen ?_)
  refine wpAny_bind (wpAny_holding ?_)
  unfold Builtin.List.listLengthHint
  refine wpAny_bind (wpAny_specialOf hT1 F.gen_no_len ?_)
  show wpAny _ A.in1 (specialOf (Value.ref a) (Str.ofString "__length_hint__") >>= _) _ _ _
  refine wpAny_bind (wpAny_specialOf hT1 F.gen_no_hint ?_)
  refine wpAny_pure ?_
  show wpAny _ A.in1 (rule "list.extend.makes-room" >>= fun _ => Builtin.List.listTouch (.ref s.heap.objs.size) >>= fun _ =>
    again (.builtin "list.extend.loop" ⟨[.ref s.heap.objs.size, .ref a, .ref s.heap.objs.size], []⟩)) _ _ _
  refine wpAny_bind (wpAny_rule ?_)
  have hS₁ : (s.heap.push { cls := .type "list", data := .seq ([] : List Value).toArray }).get? s.heap.objs.size = some { cls := .type "list", data := .seq ([] : List Value).toArray } := Heap.get?_push_size _ rfl
  refine wpAny_bind ?_
  show wpAny _ A.in1 (updateSeq s.heap.objs.size (·.push .none) >>= fun _ => updateSeq s.heap.objs.size (·.pop)) _ _ _
  refine wpAny_bind (wpAny_updateSeq hS₁ rfl ?_)
  have hS₂ := Heap.get?_update_self (Obj.mapSeq (·.push Value.none)) hS₁ rfl
  refine wpAny_updateSeq hS₂ rfl ?_
  have hS₃ := Heap.get?_update_self (Obj.mapSeq (·.pop)) hS₂ rfl
  have oth : ∀ b o, b ≠ s.heap.objs.size → (s.heap.push { cls := .type "list", data := .seq ([] : List Value).toArray }).get? b = some o →
      (((s.heap.push { cls := .type "list", data := .seq ([] : List Value).toArray }).update s.heap.objs.size (Obj.mapSeq (·.push Value.none))).update s.heap.objs.size (Obj.mapSeq (·.pop))).get? b = some o :=
    fun b o hb e => (Heap.get?_update_other _ _ (Ne.symm hb)).trans ((Heap.get?_update_other _ _ (Ne.symm hb)).trans e)
  have zz : (s.heap.push { cls := .type "list", data := .seq ([] : List Value).toArray }).objs.size ≤ (((s.heap.push { cls := .type "list", data := .seq ([] : List Value).toArray }).update s.heap.objs.size (Obj.mapSeq (·.push Value.none))).update s.heap.objs.size (Obj.mapSeq (·.pop))).objs.size := by
    rw [(Heap.SameBut.update ..).1, (Heap.SameBut.update ..).1]
    exact Nat.le_refl _
  have J3 := GJ.off (tk := s.toks) O J1 oth zz
  have M3 : Mq g ([I, C] ++ [s.heap.objs.size]) { s with heap := s.heap.push { cls := .type "list", data := .seq ([] : List Value).toArray } } { s with heap := ((s.heap.push { cls := .type "list", data := .seq ([] : List Value).toArray }).update s.heap.objs.size (Obj.mapSeq (·.push Value.none))).update s.heap.objs.size (Obj.mapSeq (·.pop)) } :=
    ⟨fun b o hb e => oth b o (fun q => hb (List.mem_append_right _ (q ▸ .head _))) e, .inl rfl, rfl, rfl, zz⟩
  refine wpAny_pure ⟨plainId_quiet F.plain_extend_loop _, ext_gen X O haI haC haf hA a1 a2 N _ #[] _ _ hN J3 hS₃ (by simpa using hN2) (fun he s' ws c' it M hv hS' => ?_) (fun he e s' R it => ?_)⟩
  · show wpAny _ A (load s.heap.objs.size >>= _) _ _ s'
    refine wpAny_bind (wpAny_load hS' ?_)
    refine wpAny_pure ?_
    have := hD he s' ws it (Mq.pushed (M3.trans M)) hv
    simpa using this
  · exact hE he e s' (Rz3.pushed (Rz3.after M3 R fun b hb => hb)) it
theorem outL_mem {ths : List Th} : ∀ (n i : Nat) (y : Str), y ∈ outL ths i n → ∃ k, i ≤ k ∧ k < i + n ∧ y = spell (ths.getD k (.nul 0)).word
  | 0, _, y, h => by cases h
  | n + 1, i, y, h => by
    rcases List.mem_cons.mp h with rfl | h
    · exact ⟨i, Nat.le_refl _, by omega, rfl⟩
    · obtain ⟨k, h1, h2, e⟩ := outL_mem n (i + 1) y h
      exact ⟨k, by omega, by omega, e⟩
theorem sum_le {B : Nat} : ∀ l : List Str, (∀ y ∈ l, y.length ≤ B) → (l.map (·.length)).sum ≤ B * l.length
  | [], _ => by simp
  | y :: l, h => by
    have := sum_le l fun z hz => h z (.tail _ hz)
    have := h y (.head _)
    simp only [List.map_cons, List.sum_cons, List.length_cons]
    rw [Nat.mul_add]
    omega
theorem word_len {w : World} {vs : Array Value} {ths : List Th} {h : Heap} (x : TRow w vs ths h) (k : Nat) : (ths.getD k (.nul 0)).word.length ≤ 3 := by
  by_cases hk : k < ths.length
  · have e : ths[k]? = some (ths.getD k (.nul 0)) := by simp [List.getD_eq_getElem?_getD, hk]
    cases q : ths.getD k (.nul 0) with
    | str y => exact (x.wd y (by rw [q] at e; exact List.mem_of_getElem? e)).len
    | nul k => exact (by decide : cE.length ≤ 3)
    | hvy k => exact (by decide : cE.length ≤ 3)
  · have : ths.getD k (.nul 0) = .nul 0 := by simp [List.getD_eq_getElem?_getD, Nat.not_lt.mp hk]
    rw [this]
    decide
theorem join_gen' {N : Nat} {t : Tok} {Q : Value → Shared → Prop} (X : GC outer cenv C I l vs) (haI : a ≠ I) (haC : a ≠ C) (haf : a ∉ frs outer) (hA : A.frames = some outer) (a1 : A.handled = none) (a2 : A.depth ≤ 440) (hN : N ≤ e0) (hN2 : N ≤ 1000)
    (J : GJ w A.in1.in1.in1 outer C I l vs ths e0 a g N s)
    (hD : e0 = vs.size → ∀ s' t', It s'.heap I l vs.size vs.size → Mq g [I, C] s s' → Q (.str (Str.join cSp (outL ths (e0 - N) N)) t') s')
    (hE : e0 < vs.size → ∀ e s', Rz3 outer I [I, C] g s e s' → It s'.heap I l vs.size (e0 + 1) → E (.ref e) s') : wpAny (Mod w) A (call (.builtin "str.join") [.str cSp t, .ref a]) Q E s := by
  refine wpAny_call (codeAny_call_builtin F.slot_str_join.plain F.entry_str_join (F.slot_str_join.check _ _ _ _ _ _ _ _ (typeIs_str _ _ _) (F.args_str_join_2 _ _) ?_))
  rw [join_tree_other]
  refine wpAny_bind (wpAny_typeOf J.gen.typeIs ?_)
  show wpAny _ A.in1 ((pyIter (.ref a)).tryCatch _ >>= fun it => collect it >>= fun items => joinTail cSp items) _ _ s
  refine wpAny_bind (wpAny_tryCatch (wpAny_pyIter_gen J.gen ?_))
  have row := J.gi.row
  refine wpAny_bind (collect_gen X haI haC haf hA a1 a2 hN hN2 J (fun he s' ws it M hv => ?_) (fun he e s' R it => hE he e s' R it))
  obtain ⟨l0, hl, ht⟩ := strsAre_values hv
  subst hl
  have hfit : (outL ths (e0 - N) N).length * 17 + (outL ths (e0 - N) N).length ≤ 18000 := by rw [outL_len]; omega
  have hsum : ((outL ths (e0 - N) N).map (·.length)).sum ≤ 17 * (outL ths (e0 - N) N).length := sum_le _ fun y hy => by
    obtain ⟨k, _, _, rfl⟩ := outL_mem _ _ _ hy
    exact spell_len (word_len row k)
  have hok : JoinOk cSp (l0.map (·.1)) = true := by
    rw [ht]
    refine joinOk_of ?_
    have : cSp.length = 1 := by decide +kernel
    rw [this]
    omega
  unfold JoinOk at hok
  rw [Bool.not_eq_true'] at hok
  have gv : Gives (joinTail cSp (strValues l0)) (joinMade cSp l0) := by
    have g0 := gives_joinTail cSp l0 hok
    cases l0 with
    | nil => exact g0
    | cons p r => cases r with
      | nil => exact g0
      | cons q r' => exact g0
  refine gv _ w A (wants Q E) s' (post_join l0 ⟨joinFit_length hok, fun t' k => ?_⟩)
  rw [ht]
  have e : Txt.join cSp (outL ths (e0 - N) N) = Str.join cSp (outL ths (e0 - N) N) := StrLaws.glued_eq_join _ _
  rw [e]
  exact hD he { s' with toks := k } t' it ⟨M.keep, M.gens, M.os, M.dr, M.size⟩
end
end
section
open PySem PySem.W PySem.Calls PyProof.Rows
theorem enterJ {w : World} {d u : Nat} {outer : List Env} {s : Shared} {f : Addr} {args : Args} {R : Result → Shared → Prop} {name qual : Str} {params : Arguments} {body : List Stmt} {scope : Scope} {dV kV doc pm cdv ct oc : Value}
    {an od : Option Addr} {osl : Array (Option Value)} {binds : List (Str × Value)} (muts : List (Addr × Obj))
    (G : Gd w outer s.heap) (hm : ∀ p ∈ muts, s.heap.get? p.1 = some p.2 ∧ (815 ≤ p.1 ∨ p.1 = 746) ∧ p.1 ∉ frs outer)
    (ho : (kk.heap_1 w.params).lookup f = some ⟨oc, od, .func (fnOf name qual params body scope dV kV doc pm an cdv ct), osl⟩) (hcd : codeIn (kk.heap_1 w.params) cdv qual = true) (hroom : d < recursionLimit)
    (hbind : BindsTo s (fnOf name qual params body scope dV kV doc pm an cdv ct) args binds) (hloc : ∀ y ∈ binds, scope.names.lookup y.1 = some .local)
    (h : ∀ g L' h₁ lo mg mb, Fr g L' h₁ (fun y => binds.reverse.lookup y) → News g L' h₁ muts → Below (AT d u outer) (hideAll g (frs outer)) outer g → (kk.heap_1 w.params).In g → TopRead vw lo mg mb g → Bs muts s g L' → (∀ p ∈ muts, p.1 < L') → Gd w outer g → 815 ≤ L' →
      wpAny (Mod w) ((AT d u outer).deeper (envOf qual scope L' f cdv)) (execs body (envOf qual scope L' f cdv)) (fun fl s' => R (.ok (.ret (match fl with | .ret v => v | _ => .none))) s')
        (fun e s' => wpAny (Mod w) ((AT d u outer).deeper (envOf qual scope L' f cdv)) (leaving (envOf qual scope L' f cdv) e) (fun _ s'' => R (.error e) s'') (fun e' s'' => R (.error e') s'') s')
        { s with heap := h₁, toks := s.toks + binds.length })
    (hco : scope.isCoroutine = false) (hgen : scope.isGenerator = false) (hk : scope.kind = .function) (hcell : ∀ x ∈ scope.names, x.2 ≠ .cell) :
    codeAny (Mod w) (AT d u outer) (.call (.ref f) args) R s := by
  obtain ⟨lo, mg, mb, T⟩ := G.T
  refine codeAny_call_def (fd := fnOf name qual params body scope dV kV doc pm an cdv ct) (body := body) (binds := binds) hroom (G.X _ _ ho) rfl T.nolimit (codeRec_of G.X hcd) rfl hbind hcell hloc (fun h₁ hns hk₁ => ?_) hco hgen hk
  have into : ∀ b o, b ∉ muts.map (·.1) → s.heap.get? b = some o → (hideAll s.heap (muts.map (·.1))).get? b = some o := fun b o n e => hideAll_get _ e n
  have lowM : ∀ b o, b < 815 → b ≠ 746 → s.heap.get? b = some o → (hideAll s.heap (muts.map (·.1))).get? b = some o := fun b o hb hne e => into b o (fun q => by
    obtain ⟨p, hp, rfl⟩ := List.mem_map.mp q
    rcases (hm p hp).2.1 with z | z
    · exact absurd hb (Nat.not_lt.mpr z)
    · exact hne z) e
  have frM : ∀ b ∈ frs outer, b ∉ muts.map (·.1) := fun b hb q => by
    obtain ⟨p, hp, rfl⟩ := List.mem_map.mp q
    exact (hm p hp).2.2 hb
  have T' : TopRead vw lo mg mb (hideAll s.heap (muts.map (·.1))) := by
    obtain ⟨mc, h1, h2⟩ := T.nolimit
    exact ⟨ns_at T.g fun o => lowM _ o (by decide) (by decide), ns_at T.b fun o => lowM _ o (by decide) (by decide), ⟨mc, ns_at h1 fun o => lowM _ o (by decide) (by decide), h2⟩, T.builtins, T.free⟩
  have BG : Below (AT d u outer) (hideAll (hideAll s.heap (muts.map (·.1))) (frs outer)) outer (hideAll s.heap (muts.map (·.1))) := by
    refine ⟨rfl, fun b o e => of_hideAll _ e, ?_⟩
    have key : ∀ l : List Env, (∀ env ∈ l, env ∈ outer) → (hideAll s.heap (muts.map (·.1))).FunFrames (hideAll (hideAll s.heap (muts.map (·.1))) (frs outer)) l := by
      intro l
      induction l with
      | nil => intro _; trivial
      | cons env r ih =>
        intro hl
        obtain ⟨hk', L, o, es, n, hf, hL, ho', hd'⟩ := G.fr env (hl env (.head _))
        have hin : L ∈ frs outer := List.mem_filterMap.mpr ⟨env, hl env (.head _), hf⟩
        exact ⟨by rw [hk']; decide, ⟨L, o, hf, hideAll_none _ hin, into L o (frM L hin) ho', fun vs q => by rw [hd'] at q; cases q⟩, ih fun e he => hl e (.tail _ he)⟩
    exact key outer fun _ h => h
  exact h _ s.heap.objs.size h₁ lo mg mb ⟨hns, fun b o e => hk₁ b o (of_hideAll _ e), Nat.le_of_eq (hideAll_size _ _)⟩
    (fun p hp => ⟨hk₁ _ _ (hm p hp).1, Nat.ne_of_lt (Heap.lt_size (hm p hp).1), hideAll_none _ (List.mem_map_of_mem hp)⟩) BG
    (fun a o e => lowM a o (key_lt e) (key_ne e) (G.X a o e)) T' ⟨into, fun b o e => of_hideAll _ e, rfl, hideAll_size _ _⟩ (fun p hp => Heap.lt_size (hm p hp).1)
    (G.mv (fun b o hb hne e => lowM b o hb hne e) (fun b o hb e => ⟨o, into b o (frM b hb) e, rfl⟩) (Nat.le_of_eq (hideAll_size _ _).symm)) G.big

noncomputable abbrev tabO (ps : Array Value) : Obj := { cls := .none, data := .fields ps }
structure Jc (h : Heap) (ps : Array Value) : Prop where
  code : h.IsCode 750 746 ps
  tab : h.TableAt 750 746 ps
  bm : ∃ ob, h.get? 4 = some ob ∧ ob.cls = .type "module" ∧ ob.dict = some builtinsNs ∧ ob.data = .plain
theorem code_lookup (P : Params) : ∃ o, (kk.heap_1 P).lookup 750 = some o := ⟨_, by k_is⟩
theorem Jc.move {w : World} {h h' : Heap} {ps : Array Value} (J : Jc h ps) (X : (kk.heap_1 w.params).In h) (X' : (kk.heap_1 w.params).In h') (k : h'.get? 746 = some (tabO ps)) (k4 : ∀ o, h.get? 4 = some o → h'.get? 4 = some o) : Jc h' ps := by
  obtain ⟨oc, hoc⟩ := code_lookup w.params
  have e1 := X _ _ hoc
  have e2 := X' _ _ hoc
  refine ⟨?_, ?_, let ⟨ob, e, r⟩ := J.bm; ⟨ob, k4 ob e, r⟩⟩
  · obtain ⟨o, vs, file, tf, flags, tg, inF, text, tt, op, ho, r1, r2, r3, r4, r5, r6, hop, hpd, r⟩ := J.code
    rw [e1] at ho
    cases ho
    exact ⟨_, vs, file, tf, flags, tg, inF, text, tt, _, e2, r1, r2, r3, r4, r5, r6, k, rfl, r⟩
  · obtain ⟨⟨o, vs, ho, r⟩, _⟩ := J.tab
    rw [e1] at ho
    cases ho
    exact ⟨⟨_, vs, e2, r⟩, k⟩
theorem Jc.get {h : Heap} {ps : Array Value} (J : Jc h ps) : h.get? 746 = some (tabO ps) := J.tab.2
theorem built_at (P : Params) : nsIn (kk.heap_1 P) mainGlobals (Str.ofString "__builtins__") = some (some (.ref 4)) := by k_is
section
variable {w : World} {A : Around} {E : Value → Shared → Prop} {s : Shared} {outer : List Env} {env : Env} {I l : Nat} {vs : Array Value} {ths : List Th} {ps : Array Value} {i0 e0 : Nat}
theorem code_step {pos : Pos} {q : Str} {scope : Scope} {Q : Value → Shared → Prop} (hc : env.code = .ref 750) (J : Jc s.heap ps)
    (hQ : ∀ code h' tk ps', (∀ b o, b ≠ 746 → s.heap.get? b = some o → h'.get? b = some o) → s.heap.objs.size ≤ h'.objs.size → Jc h' ps' → Q code { s with heap := h', toks := tk }) : wpAny (Mod w) A (genexprCode env pos q scope) Q E s := by
  cases hnf : codeAmong pos ps.toList with
  | some c' => exact wpAny_genexprCode_hit hc J.code hnf (hQ c' s.heap s.toks ps (fun _ _ _ e => e) (Nat.le_refl _) J)
  | none =>
    refine wpAny_genexprCodeX hc J.code J.tab hnf fun c' h' tk ex l1 l2 ic _ tb _ => ?_
    refine hQ _ h' tk _ (fun b o hb e => ex b o hb e) (Nat.le_of_lt (Nat.lt_of_le_of_lt l1 l2)) ⟨ic, tb, ?_⟩
    obtain ⟨ob, e, r⟩ := J.bm
    exact ⟨ob, ex 4 ob (by decide) e, r⟩
structure PreJ (w : World) (outer : List Env) (I l : Nat) (vs : Array Value) (ths : List Th) (ps : Array Value) (i0 : Nat) (h : Heap) : Prop where
  G : Gd w outer h
  J : Jc h ps
  it : It h I l vs.size i0
  ls : h.IsList l vs
  row : TRow w vs ths h
  vI : ∀ k : Nat, vs[k]? ≠ some (.ref I)
  bI : 815 ≤ I
  fI : I ∉ frs outer
  lI : l ≠ I
theorem gd_new {h h' : Heap} (G : Gd w outer h) (k : ∀ b o, b ≠ 746 → h.get? b = some o → h'.get? b = some o) (f7 : 746 ∉ frs outer) (hs : h.objs.size ≤ h'.objs.size) : Gd w outer h' :=
  G.mv (fun b o _ hne e => k b o hne e) (fun b o hb e => ⟨o, k b o (fun q => f7 (q ▸ hb)) e, rfl⟩) hs
theorem gen_made {p1 p2 p3 p4 pos : Pos} {it : Expr} {Q : Value → Shared → Prop} (hA : A.frames = some outer) (a1 : A.handled = none) (a2 : A.depth ≤ 440) (hc : env.code = .ref 750) (hgl : env.globals = mainGlobals) (f7 : 746 ∉ frs outer)
    (S : Stop ths e0 i0) (hie : i0 ≤ e0) (hclos : closureFor gScope env = pure []) (hs : ∀ x, genFold it env x = pure x)
    (h : wpAny (Mod w) A (eval it env) (fun xv s₁ => wpAny (Mod w) A (pyIter xv) (fun itv s₂ => itv = .ref I ∧ PreJ w outer I l vs ths ps i0 s₂.heap ∧
      ∀ a C cenv ps' s₅, (∀ b o, b ≠ 746 → s₂.heap.get? b = some o → s₅.heap.get? b = some o) → s₂.heap.objs.size ≤ s₅.heap.objs.size → s₅.os = s₂.os → s₅.drawn = s₂.drawn → (∃ gs, gs.bare = true ∧ s₅.gens = s₂.gens.push gs) →
        Jc s₅.heap ps' → GC outer cenv C I l vs → s₂.heap.objs.size ≤ C → C < a → a ∉ frs outer →
        (∀ Ag : Around, Ag.frames = some outer → Ag.handled = none → Ag.depth ≤ 450 → Ag.guards = some [] → Ag.units ≤ 1690 → GJ w Ag outer C I l vs ths e0 a s₂.gens.size (e0 - i0) s₅) → Q (.ref a) s₅) E s₁) E s) :
    wpAny (Mod w) A (eval (gX p1 p2 p3 p4 it pos) env) Q E s := by
  refine wpAny_GeneratorExp_make (cl := []) rfl hclos (by decide) rfl rfl (Nat.lt_of_le_of_lt a2 (by decide)) (wpAny_mono h (fun xv s₁ h₁ => wpAny_mono h₁ (fun itv s₂ h₂ => ?_) fun _ _ e => e) fun _ _ e => e) hs
  obtain ⟨rfl, P, k⟩ := h₂
  obtain ⟨lo, mg, mb, T⟩ := P.G.T
  refine ⟨T.nolimit, code_step hc P.J fun code h3 tk ps' k3 z3 J3 => ?_⟩
  have G3 := gd_new P.G k3 f7 z3
  obtain ⟨lo3, mg3, mb3, T3⟩ := G3.T
  obtain ⟨ob, ho, hcl, hdi, hda⟩ := J3.bm
  refine wpAny_builtinsFor (m := mg3) (bm := 4) (hgl ▸ T3.g) (mg_of G3.X T3.g (built_at _)) (by decide) ho hcl hdi hda ?_
  intro h' ns sb
  have z' : h'.objs.size = h3.objs.size + 1 := by rw [sb.1, Heap.size_push]
  have k' : ∀ b o, h3.get? b = some o → h'.get? b = some o := fun b o e => sb.extBut b o (Nat.ne_of_lt (Heap.lt_size e)) (Heap.get?_push_of_some _ e)
  have k5 : ∀ b o (x : Obj), b ≠ 746 → s₂.heap.get? b = some o → (h'.push x).get? b = some o := fun b o x hb e => Heap.get?_push_of_some _ (k' b o (k3 b o hb e))
  have zC : s₂.heap.objs.size ≤ h3.objs.size := z3
  have IltO : I < s₂.heap.objs.size := by obtain ⟨o, ho⟩ := P.it.there; exact Heap.lt_size ho
  have lltO : l < s₂.heap.objs.size := by obtain ⟨o, ho, _⟩ := P.ls; exact Heap.lt_size ho
  have X : GC outer (genEnv gScope [] h3.objs.size code builtinsNs env) h3.objs.size I l vs := {
    K := ⟨rfl, rfl, hgl, rfl, G3.big⟩
    IC := Nat.ne_of_lt (Nat.lt_of_lt_of_le IltO zC)
    lI := P.lI
    lC := Nat.ne_of_lt (Nat.lt_of_lt_of_le lltO zC)
    vI := P.vI
    vC := fun k q => absurd (Nat.lt_of_lt_of_le (P.row.lt q) zC) (Nat.lt_irrefl _)
    bI := P.bI
    fI := P.fI
    fC := nofr G3 _ (Nat.le_refl _) }
  refine k h'.objs.size h3.objs.size (genEnv gScope [] h3.objs.size code builtinsNs env) ps' _ (fun b o hb e => k5 b o _ hb e) ?_ rfl rfl ⟨_, rfl, rfl⟩ ?_ X zC (by rw [z']; exact Nat.lt_succ_self _) (nofr G3 _ (by rw [z']; exact Nat.le_succ _)) fun Ag b1 b2 b3 b4 b5 => ?_
  · show s₂.heap.objs.size ≤ (h'.push _).objs.size
    rw [Heap.size_push, z']
    omega
  · refine ⟨J3.code.keeps fun b o e => Heap.get?_push_of_some _ (k' b o e), J3.tab.keeps fun b o e => Heap.get?_push_of_some _ (k' b o e), ?_⟩
    exact ⟨ob, Heap.get?_push_of_some _ (k' _ _ ho), hcl, hdi, hda⟩
  · have ei : e0 - (e0 - i0) = i0 := by omega
    have n746 : (746 : Nat) < 815 := by decide
    have lne : l ≠ 746 := fun q => by
      obtain ⟨o, ho', hc', _⟩ := P.ls
      rw [q, P.J.get] at ho'
      cases ho'
      cases hc'
    refine ⟨⟨_, _, _, Heap.get?_push_size _ rfl, rfl, rfl, rfl⟩, ?_, ⟨_, Array.getElem?_push_size .., fun s'' G'' => ⟨rfl, seg_start X S b1 b2 b3 b4 b5 (i := i0) (n := e0 - i0) (by omega) (Nat.le_refl _) (ei ▸ G'') .refl⟩⟩⟩
    rw [ei]
    refine ⟨G3.mv (fun b o _ _ e => Heap.get?_push_of_some _ (k' b o e)) (fun b o _ e => ⟨o, Heap.get?_push_of_some _ (k' b o e), rfl⟩) ?_, P.it.keeps fun o e => k5 _ o _ (fun q => absurd P.bI (by rw [q]; decide)) e, ?_, P.row.keeps fun a b o hb e => k5 b o _ (fun q => ?_) e, ⟨_, ns.push _⟩⟩
    · rw [Heap.size_push, z']
      omega
    · obtain ⟨o, ho', r⟩ := P.ls
      exact ⟨o, k5 _ o _ lne ho', r⟩
    · exact P.row.cls hb (by rw [q]; exact P.J.get) rfl
end
noncomputable def Gx (a b : Array GenState) : Prop := (∀ (i : Nat) (x : GenState), a[i]? = some x → b[i]? = some x) ∧ (AllBare a → AllBare b)
theorem Gx.refl (a : Array GenState) : Gx a a := ⟨fun _ _ e => e, fun h => h⟩
theorem Gx.trans {a b c : Array GenState} (x : Gx a b) (y : Gx b c) : Gx a c := ⟨fun i z e => y.1 i z (x.1 i z e), fun h => y.2 (x.2 h)⟩
theorem Gx.made {a b : Array GenState} {gs : GenState} (hb : gs.bare = true) (x : GenOnlyQ a.size (a.push gs) b) : Gx a b := by
  refine ⟨fun i z e => ?_, fun h => x.bare (AllBare.push h hb)⟩
  have hi : i < a.size := (Array.getElem?_eq_some_iff.mp e).1
  have e' : (a.push gs)[i]? = some z := by rw [Array.getElem?_push, if_neg (Nat.ne_of_lt hi)]; exact e
  rcases x with rfl | ⟨⟨_, ho⟩, _⟩
  · exact e'
  · rw [ho i (Nat.ne_of_lt hi)]
    exact e'
structure Mj (wr : List Addr) (s s' : Shared) : Prop where
  keep : ∀ b o, b ∉ wr → b ≠ 746 → s.heap.get? b = some o → s'.heap.get? b = some o
  jc : ∃ ps, Jc s'.heap ps
  gens : Gx s.gens s'.gens
  os : s'.os = s.os
  dr : s'.drawn = s.drawn
  size : s.heap.objs.size ≤ s'.heap.objs.size
structure Rj (outer : List Env) (wr : List Addr) (s : Shared) (e : Addr) (s' : Shared) : Prop where
  ctx : CtxN s'.heap e
  R : ∃ B a0, (∀ b o, b ∉ wr → b ≠ 746 → b ∉ frs outer → s.heap.get? b = some o → B.get? b = some o) ∧ (∃ ps, Jc B ps) ∧ (∀ b ∈ wr, ∀ o, s'.heap.get? b = some o → B.get? b = some o) ∧ Heap.FlyingW B outer e (.type "TypeError") a0 s'.heap
  U : ∀ b o, b ∉ wr → b ≠ 746 → s.heap.get? b = some o → (∀ vs, o.data ≠ .fields vs) → ∃ sl, s'.heap.get? b = some { o with slots := sl }
  jc : ∃ ps, Jc s'.heap ps
  gens : Gx s.gens s'.gens
  os : s'.os = s.os
  dr : s'.drawn = s.drawn
  big : 815 ≤ s'.heap.objs.size
theorem join_it {w : World} {outer : List Env} {s : Shared} {I l : Nat} {vs : Array Value} {ths : List Th} {i0 e0 : Nat} {ps : Array Value} {R : Result → Shared → Prop} (G : Gd w outer s.heap) (hI : It s.heap I l vs.size i0) (hl : s.heap.IsList l vs) (row : TRow w vs ths s.heap) (S : Stop ths e0 i0) (hie : i0 ≤ e0) (hn : vs.size ≤ 1000)
    (J : Jc s.heap ps) (vI : ∀ k : Nat, vs[k]? ≠ some (.ref I)) (lI : l ≠ I) (bI : 815 ≤ I) (fI : I ∉ frs outer) (f7 : 746 ∉ frs outer)
    (hD : e0 = vs.size → ∀ s' t', It s'.heap I l vs.size vs.size → Mj [I] s s' → R (.ok (.ret (.str (Str.join cSp (outL ths i0 (e0 - i0))) t'))) s')
    (hE : e0 < vs.size → ∀ e s', It s'.heap I l vs.size (e0 + 1) → Rj outer [I] s e s' → R (.error (.ref e)) s') :
    codeAny (Mod w) (AT 430 1600 outer) (.call (.ref 751) ⟨[.ref I], []⟩) R s := by
  obtain ⟨oI, hoI⟩ := hI.there
  refine' enterJ [(746, tabO ps), (I, oI)] G ?hm ?k6 ?k7 ?k8 ?k9 ?kB ?_ ?c2 ?c3 ?c4 ?c5
  case hm =>
    intro p hp
    rcases List.mem_cons.mp hp with rfl | hp
    · exact ⟨J.get, .inr rfl, f7⟩
    rcases List.mem_cons.mp hp with rfl | hp
    · exact ⟨hoI, .inl bI, fI⟩
    cases hp
  (((case k6 => k_is); (case k7 => k_is); (case k8 => decide); (case k9 => first | exact BindsTo.of_eq rfl | exact binds_K (Gd.X (by assumption)) rfl (by k_is) rfl rfl rfl); (case kB => exact locs rfl); (case c2 => exact rfl); (case c3 => exact rfl); (case c4 => exact rfl); (case c5 => decide)))
  intro g L' h' lo mg mb F N B X T Bz hlt Gg hLb
  (try dsimp only)
  (try k_fold)
  k_steps
  rename Fr g L' h' _ => FF
  have nf := News.fr Gg N (env := envOf (Str.ofString "join") { kind := ScopeKind.function, names := [(Str.ofString "split_command", NameKind.local)], isGenerator := false, isCoroutine := false } L' 751 (Value.ref 750)) rfl
  have GL := Gg.push FF hLb (env := envOf (Str.ofString "join") { kind := ScopeKind.function, names := [(Str.ofString "split_command", NameKind.local)], isGenerator := false, isCoroutine := false } L' 751 (Value.ref 750)) rfl rfl
  have k1 : ∀ b o, b ≠ I → b ≠ 746 → s.heap.get? b = some o → h'.get? b = some o := fun b o q1 q2 e => FF.keep b o (Bz.into b o (fun q => by
    rcases List.mem_cons.mp q with q | q
    · exact q2 q
    · exact q1 (List.mem_singleton.mp q)) e)
  have lne : l ≠ 746 := fun q => by
    obtain ⟨o, ho', hc', _⟩ := hl
    rw [q, J.get] at ho'
    cases ho'
    cases hc'
  have vne : ∀ k : Nat, vs[k]? ≠ some (.ref 746) := fun k hb => row.cls hb J.get rfl
  refine gen_made (I := I) (l := l) (vs := vs) (ths := ths) (ps := ps) (i0 := i0) (e0 := e0) rfl rfl (Nat.le_of_ble_eq_true rfl) rfl rfl (nf _ (.head _)) S hie rfl (fun _ => rfl) ?_
  refine wpAny_Name (wpAny_loadName_local rfl rfl FF.ns rfl ?_)
  refine it_iter (hI.keeps (h' := h') fun o e => ?_) ⟨rfl, ⟨GL, J.move G.X GL.X (N.get (.head _)) (fun o e => k1 4 o (fun q => absurd bI (by rw [← q]; decide)) (by decide) e), hI.keeps fun o e => ?_, ?_, row.keeps fun a b o hb e => k1 b o (fun q => vI a (q ▸ hb)) (fun q => vne a (q ▸ hb)) e, vI, bI, nf _ (.tail _ (.head _)), lI⟩, ?_⟩
  · rw [hoI] at e; cases e; exact N.get (.tail _ (.head _))
  · rw [hoI] at e; cases e; exact N.get (.tail _ (.head _))
  · obtain ⟨o, ho', r⟩ := hl
    exact ⟨o, k1 l o lI lne ho', r⟩
  intro a C cenv ps' s5 k5 z5 hos hdr ⟨gs, hbare, hgens⟩ J5 X5 hC haC haf hGJ
  refine spliced_nil ?_
  have hIC : I < h'.objs.size := Heap.lt_size (N.get (.tail _ (.head _)))
  have hC' : h'.objs.size ≤ C := hC
  have haI : a ≠ I := fun q => absurd (Nat.lt_of_lt_of_le hIC (Nat.le_trans hC' (Nat.le_of_lt haC))) (by rw [q]; exact Nat.lt_irrefl _)
  have sle : s.heap.objs.size ≤ h'.objs.size := by
    have h1 := frLt FF
    rw [Bz.at_] at h1
    exact Nat.le_of_lt h1
  have oldC : ∀ b o, s.heap.get? b = some o → b ≠ C := fun b o e q => absurd (Nat.lt_of_lt_of_le (Heap.lt_size e) (Nat.le_trans sle hC')) (by rw [q]; exact Nat.lt_irrefl _)
  have G5 := gd_new GL (h' := s5.heap) (fun b o q e => k5 b o q e) (nf _ (.head _)) z5
  have low : ∀ b : Nat, b < 815 → b ∉ [I, C] := fun b hb q => by
    rcases List.mem_cons.mp q with q | q
    · exact absurd bI (by rw [← q]; exact Nat.not_le.mpr hb)
    · have := X5.K.big
      rw [List.mem_singleton.mp q] at hb
      exact absurd this (Nat.not_le.mpr hb)
  have n2 : ∀ b o, b ∉ [I] → s.heap.get? b = some o → b ∉ [I, C] := fun b o n1 e q => by
    rcases List.mem_cons.mp q with q | q
    · exact n1 (q ▸ .head _)
    · exact oldC b o e (List.mem_singleton.mp q)
  have k6 : ∀ b o, b ∉ [I] → b ≠ 746 → s.heap.get? b = some o → s5.heap.get? b = some o := fun b o q1 q2 e => k5 b o q2 (k1 b o (fun q => q1 (q ▸ .head _)) q2 e)
  refine join_gen' (e0 := e0) (N := e0 - i0) X5 haI (Nat.ne_of_gt haC) haf rfl rfl (Nat.le_of_ble_eq_true rfl) (Nat.sub_le _ _) (by have := S.le; have := row.len; omega) (hGJ _ rfl rfl (Nat.le_of_ble_eq_true rfl) rfl (Nat.le_of_ble_eq_true rfl)) (fun he s' t' it M => ?_) (fun he e s' R3 it => ?_)
  · have ei : e0 - (e0 - i0) = i0 := by omega
    rw [ei]
    (try dsimp only)
    (try (k_unfold; dsimp only))
    refine hD he s' t' it ⟨fun b o q1 q2 e => M.keep b o (n2 b o q1 e) (k6 b o q1 q2 e), ?_, ?_, M.os.trans hos, M.dr.trans hdr, Nat.le_trans sle (Nat.le_trans z5 M.size)⟩
    · exact ⟨ps', J5.move (w := w) G5.X (fun a o e => M.keep a o (low a (key_lt e)) (G5.X a o e)) (M.keep 746 _ (low 746 (by decide)) J5.get) (fun o e => M.keep 4 o (low 4 (by decide)) e)⟩
    · have mg := M.gens
      rw [hgens] at mg
      exact Gx.made hbare mg
  · obtain ⟨B, a0, st, fl, cu⟩ := R3.R
    refine leaves_c rfl rfl fl R3.ctx fun h4 fl4 up4 c4 => ?_
    have up : ∀ b o, b ∉ [I, C] → s5.heap.get? b = some o → (∀ vs, o.data ≠ .fields vs) → ∃ sl, h4.get? b = some { o with slots := sl } := fun b o n e hn => by
      obtain ⟨sl, e3⟩ := R3.U b o n e hn
      obtain ⟨sl', e4⟩ := up4 b _ e3 hn
      exact ⟨sl', e4⟩
    have fe : ∀ b, b ∉ frs outer → b ≠ L' → b ∉ frs (envOf (Str.ofString "join") { kind := ScopeKind.function, names := [(Str.ofString "split_command", NameKind.local)], isGenerator := false, isCoroutine := false } L' 751 (Value.ref 750) :: outer) := fun b q1 q2 q => by
      unfold frs at q
      rw [List.filterMap_cons] at q
      rcases List.mem_cons.mp q with q | q
      · exact q2 q
      · exact q1 q
    have oldL : ∀ b o, s.heap.get? b = some o → b ≠ L' := fun b o e q => by
      have := Heap.lt_size e
      rw [q, Bz.at_] at this
      exact Nat.lt_irrefl _ this
    have toB : ∀ b o, b ∉ [I] → b ≠ 746 → b ∉ frs outer → s.heap.get? b = some o → B.get? b = some o := fun b o q1 q2 q3 e => st b o (n2 b o q1 e) (fe b q3 (oldL b o e)) (k6 b o q1 q2 e)
    have lowf : ∀ b : Nat, b < 815 → b ∉ frs outer := fun b hb q => by
      obtain ⟨env, he', hfe⟩ := List.mem_filterMap.mp q
      obtain ⟨_, L, _, _, _, h1, h2, _⟩ := G.fr env he'
      rw [hfe] at h1
      cases h1
      exact absurd hb (Nat.not_lt.mpr h2)
    have lowL : ∀ b : Nat, b < 815 → b ≠ L' := fun b hb q => absurd hLb (by rw [← q]; exact Nat.not_le.mpr hb)
    have inB0 : ∀ b o, b < 815 → s5.heap.get? b = some o → B.get? b = some o := fun b o hb e => st b o (low b hb) (fe b (lowf b hb) (lowL b hb)) e
    have inB : ∀ b o, b < 815 → s5.heap.get? b = some o → h4.get? b = some o := fun b o hb e => fl4.1 b o (inB0 b o hb e)
    refine hE he e _ (it.keeps fun o e => fl4.1 _ _ (cu o e)) ⟨c4, ⟨B, a0, toB, ⟨ps', J5.move (w := w) G5.X (fun a o e => inB0 a o (key_lt e) (G5.X a o e)) (inB0 746 _ (by decide) J5.get) (fun o e => inB0 4 o (by decide) e)⟩, fun b hb o e => ?_, fl4⟩, fun b o q1 q2 e hn => up b o (n2 b o q1 e) (k6 b o q1 q2 e) hn, ?_, ?_, R3.os.trans hos, R3.dr.trans hdr, ?_⟩
    · obtain ⟨oi, hoi⟩ := it.there
      have z := cu oi hoi
      rw [List.mem_singleton.mp hb] at e ⊢
      rw [fl4.1 _ _ z] at e
      cases e
      exact z
    · exact ⟨ps', J5.move (w := w) G5.X (fun a o e => inB a o (key_lt e) (G5.X a o e)) (inB 746 _ (by decide) J5.get) (fun o e => inB 4 o (by decide) e)⟩
    · have mg := R3.gens
      rw [hgens] at mg
      exact Gx.made hbare mg
    · obtain ⟨oL, esL, nL, hoL, hdL, _⟩ := FF.ns
      have e5 := k5 L' oL (Ne.symm (lowL 746 (by decide))) hoL
      have nL2 : L' ∉ [I, C] := fun q => by
        rcases List.mem_cons.mp q with q | q
        · exact absurd (hlt (I, oI) (.tail _ (.head _))) (by rw [q]; exact Nat.lt_irrefl _)
        · have z := frLt FF
          rw [List.mem_singleton.mp q] at z
          exact absurd (Nat.lt_of_lt_of_le z hC') (Nat.lt_irrefl _)
      obtain ⟨sl, e6⟩ := up L' oL nL2 e5 (fun vs q => by rw [hdL] at q; cases q)
      exact Nat.le_of_lt (Nat.lt_of_le_of_lt hLb (Heap.lt_size e6))
end
section
open PySem PySem.W PySem.Calls PyProof.Rows
theorem join_ls {w : World} {outer : List Env} {s : Shared} {l : Nat} {vs : Array Value} {ths : List Th} {e0 : Nat} {ps : Array Value} {R : Result → Shared → Prop} (G : Gd w outer s.heap) (hl : s.heap.IsList l vs) (row : TRow w vs ths s.heap) (S : Stop ths e0 0) (hn : vs.size ≤ 1000)
    (J : Jc s.heap ps) (f7 : 746 ∉ frs outer)
    (hD : e0 = vs.size → ∀ s' t', Mj [] s s' → R (.ok (.ret (.str (Str.join cSp (outL ths 0 e0)) t'))) s')
    (hE : e0 < vs.size → ∀ e s', Rj outer [] s e s' → R (.error (.ref e)) s') :
    codeAny (Mod w) (AT 430 1600 outer) (.call (.ref 751) ⟨[.ref l], []⟩) R s := by
  refine' enterJ [(746, tabO ps)] G ?hm ?k6 ?k7 ?k8 ?k9 ?kB ?_ ?c2 ?c3 ?c4 ?c5
  case hm =>
    intro p hp
    rcases List.mem_cons.mp hp with rfl | hp
    · exact ⟨J.get, .inr rfl, f7⟩
    cases hp
  (((case k6 => k_is); (case k7 => k_is); (case k8 => decide); (case k9 => first | exact BindsTo.of_eq rfl | exact binds_K (Gd.X (by assumption)) rfl (by k_is) rfl rfl rfl); (case kB => exact locs rfl); (case c2 => exact rfl); (case c3 => exact rfl); (case c4 => exact rfl); (case c5 => decide)))
  intro g L' h' lo mg mb F N B X T Bz hlt Gg hLb
  (try dsimp only)
  (try k_fold)
  k_steps
  rename Fr g L' h' _ => FF
  have nf := News.fr Gg N (env := envOf (Str.ofString "join") { kind := ScopeKind.function, names := [(Str.ofString "split_command", NameKind.local)], isGenerator := false, isCoroutine := false } L' 751 (Value.ref 750)) rfl
  have GL := Gg.push FF hLb (env := envOf (Str.ofString "join") { kind := ScopeKind.function, names := [(Str.ofString "split_command", NameKind.local)], isGenerator := false, isCoroutine := false } L' 751 (Value.ref 750)) rfl rfl
  have k1 : ∀ b o, b ≠ 746 → s.heap.get? b = some o → h'.get? b = some o := fun b o q2 e => FF.keep b o (Bz.into b o (fun q => q2 (List.mem_singleton.mp q)) e)
  have lne : l ≠ 746 := fun q => by
    obtain ⟨o, ho', hc', _⟩ := hl
    rw [q, J.get] at ho'
    cases ho'
    cases hc'
  have vne : ∀ k : Nat, vs[k]? ≠ some (.ref 746) := fun k hb => row.cls hb J.get rfl
  have hl' : h'.IsList l vs := by
    obtain ⟨o, ho', r⟩ := hl
    exact ⟨o, k1 l o lne ho', r⟩
  have row' : TRow w vs ths h' := row.keeps fun a b o hb e => k1 b o (fun q => vne a (q ▸ hb)) e
  have up1 : ∀ b o, h'.get? b = some o → (h'.push { cls := .type "list_iterator", data := .fields #[.ref l, .int 0 0] }).get? b = some o := fun b o e => Heap.get?_push_of_some _ e
  have GP := GL.keeps up1 (by rw [Heap.size_push]; exact Nat.le_succ _)
  have lI : l ≠ h'.objs.size := by obtain ⟨o, ho', _⟩ := hl'; exact Nat.ne_of_lt (Heap.lt_size ho')
  refine gen_made (I := h'.objs.size) (l := l) (vs := vs) (ths := ths) (ps := ps) (i0 := 0) (e0 := e0) rfl rfl (Nat.le_of_ble_eq_true rfl) rfl rfl (nf _ (.head _)) S (Nat.zero_le _) rfl (fun _ => rfl) ?_
  refine wpAny_Name (wpAny_loadName_local rfl rfl FF.ns rfl ?_)
  refine wpAny_pyIter_list hl' ⟨rfl, ⟨GP, J.move G.X GP.X (up1 _ _ (N.get (.head _))) (fun o e => up1 _ _ (k1 4 o (by decide) e)), ⟨.inl ⟨Nat.zero_le _, _, Heap.get?_push_size _ rfl, rfl, rfl⟩⟩, hl'.push _, row'.keeps fun a b o hb e => up1 b o e, fun k q => absurd (row'.lt q) (Nat.lt_irrefl _), GL.big, nofr GL _ (Nat.le_refl _), lI⟩, ?_⟩
  intro a C cenv ps' s5 k5 z5 hos hdr ⟨gs, hbare, hgens⟩ J5 X5 hC haC haf hGJ
  refine spliced_nil ?_
  have z6 : (h'.push { cls := .type "list_iterator", data := .fields #[.ref l, .int 0 0] }).objs.size = h'.objs.size + 1 := Heap.size_push ..
  have hC' : h'.objs.size < C := by
    have : (h'.push { cls := .type "list_iterator", data := .fields #[.ref l, .int 0 0] }).objs.size ≤ C := hC
    rw [z6] at this
    exact this
  have haI : a ≠ h'.objs.size := Nat.ne_of_gt (Nat.lt_trans hC' haC)
  have sle : s.heap.objs.size ≤ h'.objs.size := by
    have h1 := frLt FF
    rw [Bz.at_] at h1
    exact Nat.le_of_lt h1
  have z5' : h'.objs.size ≤ s5.heap.objs.size := by
    have : (h'.push { cls := .type "list_iterator", data := .fields #[.ref l, .int 0 0] }).objs.size ≤ s5.heap.objs.size := z5
    rw [z6] at this
    exact Nat.le_of_succ_le this
  have n2 : ∀ b o, s.heap.get? b = some o → b ∉ [h'.objs.size, C] := fun b o e q => by
    have hb := Nat.lt_of_lt_of_le (Heap.lt_size e) sle
    rcases List.mem_cons.mp q with q | q
    · exact absurd hb (by rw [q]; exact Nat.lt_irrefl _)
    · exact absurd (Nat.lt_trans hb hC') (by rw [List.mem_singleton.mp q]; exact Nat.lt_irrefl _)
  have G5 := gd_new GP (h' := s5.heap) (fun b o q e => k5 b o q e) (nf _ (.head _)) z5
  have low : ∀ b : Nat, b < 815 → b ∉ [h'.objs.size, C] := fun b hb q => by
    rcases List.mem_cons.mp q with q | q
    · exact absurd GL.big (by rw [← q]; exact Nat.not_le.mpr hb)
    · have := X5.K.big
      rw [List.mem_singleton.mp q] at hb
      exact absurd this (Nat.not_le.mpr hb)
  have k6 : ∀ b o, b ≠ 746 → s.heap.get? b = some o → s5.heap.get? b = some o := fun b o q2 e => k5 b o q2 (up1 b o (k1 b o q2 e))
  refine join_gen' (e0 := e0) (N := e0) X5 haI (Nat.ne_of_gt haC) haf rfl rfl (Nat.le_of_ble_eq_true rfl) (Nat.le_refl _) (by have := S.le; have := row.len; omega) (hGJ _ rfl rfl (Nat.le_of_ble_eq_true rfl) rfl (Nat.le_of_ble_eq_true rfl)) (fun he s' t' it M => ?_) (fun he e s' R3 it => ?_)
  · rw [Nat.sub_self]
    (try dsimp only)
    (try (k_unfold; dsimp only))
    refine hD he s' t' ⟨fun b o _ q2 e => M.keep b o (n2 b o e) (k6 b o q2 e), ?_, ?_, M.os.trans hos, M.dr.trans hdr, Nat.le_trans sle (Nat.le_trans z5' M.size)⟩
    · exact ⟨ps', J5.move (w := w) G5.X (fun a o e => M.keep a o (low a (key_lt e)) (G5.X a o e)) (M.keep 746 _ (low 746 (by decide)) J5.get) (fun o e => M.keep 4 o (low 4 (by decide)) e)⟩
    · have mg := M.gens
      rw [hgens] at mg
      exact Gx.made hbare mg
  · obtain ⟨B, a0, st, fl, cu⟩ := R3.R
    refine leaves_c rfl rfl fl R3.ctx fun h4 fl4 up4 c4 => ?_
    have up : ∀ b o, b ∉ [h'.objs.size, C] → s5.heap.get? b = some o → (∀ vs, o.data ≠ .fields vs) → ∃ sl, h4.get? b = some { o with slots := sl } := fun b o n e hn => by
      obtain ⟨sl, e3⟩ := R3.U b o n e hn
      obtain ⟨sl', e4⟩ := up4 b _ e3 hn
      exact ⟨sl', e4⟩
    have fe : ∀ b, b ∉ frs outer → b ≠ L' → b ∉ frs (envOf (Str.ofString "join") { kind := ScopeKind.function, names := [(Str.ofString "split_command", NameKind.local)], isGenerator := false, isCoroutine := false } L' 751 (Value.ref 750) :: outer) := fun b q1 q2 q => by
      unfold frs at q
      rw [List.filterMap_cons] at q
      rcases List.mem_cons.mp q with q | q
      · exact q2 q
      · exact q1 q
    have oldL : ∀ b o, s.heap.get? b = some o → b ≠ L' := fun b o e q => by
      have := Heap.lt_size e
      rw [q, Bz.at_] at this
      exact Nat.lt_irrefl _ this
    have toB : ∀ b o, b ∉ ([] : List Addr) → b ≠ 746 → b ∉ frs outer → s.heap.get? b = some o → B.get? b = some o := fun b o _ q2 q3 e => st b o (n2 b o e) (fe b q3 (oldL b o e)) (k6 b o q2 e)
    have lowf : ∀ b : Nat, b < 815 → b ∉ frs outer := fun b hb q => by
      obtain ⟨env, he', hfe⟩ := List.mem_filterMap.mp q
      obtain ⟨_, L, _, _, _, h1, h2, _⟩ := G.fr env he'
      rw [hfe] at h1
      cases h1
      exact absurd hb (Nat.not_lt.mpr h2)
    have lowL : ∀ b : Nat, b < 815 → b ≠ L' := fun b hb q => absurd hLb (by rw [← q]; exact Nat.not_le.mpr hb)
    have inB0 : ∀ b o, b < 815 → s5.heap.get? b = some o → B.get? b = some o := fun b o hb e => st b o (low b hb) (fe b (lowf b hb) (lowL b hb)) e
    have inB : ∀ b o, b < 815 → s5.heap.get? b = some o → h4.get? b = some o := fun b o hb e => fl4.1 b o (inB0 b o hb e)
    refine hE he e _ ⟨c4, ⟨B, a0, toB, ⟨ps', J5.move (w := w) G5.X (fun a o e => inB0 a o (key_lt e) (G5.X a o e)) (inB0 746 _ (by decide) J5.get) (fun o e => inB0 4 o (by decide) e)⟩, (fun b hb => nomatch hb), fl4⟩, fun b o _ q2 e hn => up b o (n2 b o e) (k6 b o q2 e) hn, ?_, ?_, R3.os.trans hos, R3.dr.trans hdr, ?_⟩
    · exact ⟨ps', J5.move (w := w) G5.X (fun a o e => inB a o (key_lt e) (G5.X a o e)) (inB 746 _ (by decide) J5.get) (fun o e => inB 4 o (by decide) e)⟩
    · have mg := R3.gens
      rw [hgens] at mg
      exact Gx.made hbare mg
    · obtain ⟨oL, esL, nL, hoL, hdL, _⟩ := FF.ns
      have e5 := k5 L' oL (Ne.symm (lowL 746 (by decide))) (up1 _ _ hoL)
      have nL2 : L' ∉ [h'.objs.size, C] := fun q => by
        have z := frLt FF
        rcases List.mem_cons.mp q with q | q
        · exact absurd z (by rw [q]; exact Nat.lt_irrefl _)
        · rw [List.mem_singleton.mp q] at z
          exact absurd (Nat.lt_trans z hC') (Nat.lt_irrefl _)
      obtain ⟨sl, e6⟩ := up L' oL nL2 e5 (fun vs q => by rw [hdL] at q; cases q)
      exact Nat.le_of_lt (Nat.lt_of_le_of_lt hLb (Heap.lt_size e6))
end
section
open PySem PySem.W PySem.Calls PyProof.Rows
structure Mx (outer : List Env) (wr : List Addr) (s s' : Shared) : Prop where
  keep : ∀ b o, b ∉ wr → b ∉ frs outer → s.heap.get? b = some o → s'.heap.get? b = some o
  slot : ∀ b o, b ∉ wr → b ∈ frs outer → s.heap.get? b = some o → (∀ vs, o.data ≠ .fields vs) → ∃ sl, s'.heap.get? b = some { o with slots := sl }
  gens : Gx s.gens s'.gens
  os : s'.os = s.os
  dr : s'.drawn = s.drawn
  big : 815 ≤ s'.heap.objs.size
section
variable {w : World} {outer : List Env} {wr wr' : List Addr} {s s' s'' : Shared}
theorem gx_eq {a b : Array GenState} (e : b = a) : Gx a b := e ▸ Gx.refl _
theorem Ms.mx (M : Ms outer wr s s') : Mx outer wr s s' := ⟨M.keep, M.slot, gx_eq M.gens, M.os, M.dr, M.big⟩
theorem Mj.mx (M : Mj wr s s') (hb : 815 ≤ s.heap.objs.size) : Mx outer (746 :: wr) s s' :=
  have k : ∀ b o, b ∉ (746 :: wr : List Addr) → s.heap.get? b = some o → s'.heap.get? b = some o := fun b o h1 e => M.keep b o (fun q => h1 (.tail _ q)) (fun q => h1 (q ▸ .head _)) e
  ⟨fun b o h1 _ e => k b o h1 e, fun b o h1 _ e _ => ⟨o.slots, k b o h1 e⟩, M.gens, M.os, M.dr, Nat.le_trans hb M.size⟩
theorem fr_big (G : Gd w outer s.heap) : ∀ b ∈ frs outer, 815 ≤ b := fun b hb => by
  obtain ⟨env, he, hfe⟩ := List.mem_filterMap.mp hb
  obtain ⟨_, L, _, _, _, h1, h2, _⟩ := G.fr env he
  rw [hfe] at h1
  cases h1
  exact h2
theorem frg_big {g : Heap} (G : Gd w outer g) : ∀ b ∈ frs outer, 815 ≤ b ∧ ∃ o es n, g.get? b = some o ∧ o.data = .dict es n := fun b hb => by
  obtain ⟨env, he, hfe⟩ := List.mem_filterMap.mp hb
  obtain ⟨_, L, o, es, n, h1, h2, h3, h4⟩ := G.fr env he
  rw [hfe] at h1
  cases h1
  exact ⟨h2, o, es, n, h3, h4⟩
theorem dict_no_fields {o : Obj} {es : Array DictEntry} {n : Nat} (h : o.data = .dict es n) : ∀ vs, o.data ≠ .fields vs := fun vs q => by rw [h] at q; cases q
end
section
variable {w : World} {outer : List Env} {wr wr' : List Addr} {s s₁ s₂ : Shared} {g : Heap} {env : Env} {L : Addr} {m : Str → Option Value} {lo : List Str} {mg mb : Str → Option Value} {news muts : List (Addr × Obj)}
structure Bt (outer : List Env) (wr : List Addr) (s : Shared) (g : Heap) (L : Addr) : Prop where
  into : ∀ b o, b ∉ wr → b ∉ frs outer → s.heap.get? b = some o → g.get? b = some o
  frm : ∀ b o, b ∉ wr → b ∈ frs outer → s.heap.get? b = some o → ∃ sl, g.get? b = some { o with slots := sl }
  none_ : ∀ b, s.heap.get? b = none → g.get? b = none
  at_ : L = s.heap.objs.size
  size : g.objs.size = s.heap.objs.size
theorem Bs.bt (B : Bs muts s g L) : Bt outer (muts.map (·.1)) s g L :=
  ⟨fun b o h1 _ e => B.into b o h1 e, fun b o h1 _ e => ⟨o.slots, B.into b o h1 e⟩, fun b e => kts_none B.back e, B.at_, B.size⟩
theorem Bt.mx {h : Heap} {gn : Array GenState} {tk : Nat} (B : Bt outer wr s g L) (F : Fr g L h m) (hL : 815 ≤ L) (hg : Gx s.gens gn) : Mx outer wr s ⟨h, gn, s.drawn, tk, s.os⟩ :=
  ⟨fun b o h1 h2 e => F.keep b o (B.into b o h1 h2 e), fun b o h1 h2 e _ => by
    obtain ⟨sl, z⟩ := B.frm b o h1 h2 e
    exact ⟨sl, F.keep b _ z⟩, hg, rfl, rfl, by
    obtain ⟨o, _, _, ho, _⟩ := F.ns
    exact Nat.le_of_lt (Nat.lt_of_le_of_lt hL (Heap.lt_size ho))⟩
theorem rebase (G : Gd w outer g) (F : Fr g L s₁.heap m) (hf : env.frame = some L) (M : Mx (env :: outer) wr s₁ s₂) (hL : L ∉ wr) (hw : ∀ b ∈ wr, g.get? b = none) (T : TopRead vw lo mg mb g) (B : Bt outer wr' s g L) :
    ∃ g', Gd w outer g' ∧ Fr g' L s₂.heap m ∧ TopRead vw lo mg mb g' ∧ Bt outer wr' s g' L ∧ ∀ b, g.get? b = none → g'.get? b = none := by
  have gL := kts_self F
  have gw : ∀ b o, g.get? b = some o → b ∉ wr := fun b o e q => by rw [hw b q] at e; cases e
  obtain ⟨T', S⟩ := kts_turn_at (h := s₂.heap) (fs := frs outer) (g := g)
    (fun b hb => by
      obtain ⟨_, o, _, _, h, _⟩ := frg_big G b hb
      exact ⟨o, h⟩)
    (fun b o e nm => M.keep b o (gw b o e) (fun q => by
      rcases frs_cons hf q with z | z
      · rw [z, gL] at e; cases e
      · exact nm z) (F.keep b o e))
    (fun b o e hm => by
      obtain ⟨_, o', es, n, h, hd'⟩ := frg_big G b hm
      rw [e] at h
      cases h
      exact M.slot b o (gw b o e) (frs_tail hf hm) (F.keep b o e) (dict_no_fields hd'))
  have low : ∀ b o, b < 815 → g.get? b = some o → (ktsHeap s₂.heap (frs outer) g).get? b = some o := fun b o h1 e => T'.other b o e (fun q => absurd h1 (Nat.not_lt.mpr (frg_big G b q).1))
  refine ⟨_, G.mv (fun b o h1 _ e => low b o h1 e) (fun b o hb e => ?_) (Nat.le_of_eq T'.size.symm), ⟨?_, S, by rw [T'.size]; exact F.above⟩, ?_, ⟨fun b o h1 h2 e => T'.other b o (B.into b o h1 h2 e) h2, fun b o h1 h2 e => ?_, fun b e => T'.none_ b (B.none_ b e), B.at_, T'.size.trans B.size⟩, T'.none_⟩
  · obtain ⟨sl, hs⟩ := T'.frame b o e hb
    exact ⟨_, hs, rfl⟩
  · obtain ⟨o, es, ep, ho, hd', r⟩ := F.ns
    obtain ⟨sl, hs⟩ := M.slot L o hL (frs_head hf) ho (dict_no_fields hd')
    exact ⟨_, es, ep, hs, hd', r⟩
  · obtain ⟨mc, h1, h2⟩ := T.nolimit
    exact ⟨ns_at T.g fun o => low _ o (by decide), ns_at T.b fun o => low _ o (by decide), ⟨mc, ns_at h1 fun o => low _ o (by decide), h2⟩, T.builtins, T.free⟩
  · obtain ⟨sl, z⟩ := B.frm b o h1 h2 e
    obtain ⟨sl', hs⟩ := T'.frame b _ z h2
    exact ⟨sl', hs⟩
theorem News.rebase {g' : Heap} (N : News g L s₁.heap news) (G : Gd w outer g) (hf : env.frame = some L) (M : Mx (env :: outer) wr s₁ s₂) (hn : ∀ b, g.get? b = none → g'.get? b = none) (hnw : ∀ p ∈ news, p.1 ∉ wr) : News g' L s₂.heap news :=
  fun p hp => ⟨M.keep _ _ (hnw p hp) (News.fr G N hf p hp) (N p hp).1, (N p hp).2.1, hn _ (N p hp).2.2⟩
end
end
section
open PySem PySem.W PySem.Calls PyProof.Rows
section
variable {w : World} {d u : Nat} {outer : List Env} {E : Value → Shared → Prop} {s s' : Shared} {g B : Heap} {L a e : Addr} {a0 : Value} {m mg mb : Str → Option Value} {name : Str} {scope : Scope} {cd : Value} {wr wr' : List Addr} {lo : List Str}
  {s₀ : Shared} {b₀ : Stmt} {suite : List Stmt} {pos np : Pos} {rest : List ExceptHandler} {Q : Flow → Shared → Prop} {x : Str} {X T' : String}
theorem fly_mx {s₃ : Shared} {h' : Heap} (hB : ∀ b o, b ∉ wr → b ∉ frs outer → s.heap.get? b = some o → B.get? b = some o) (st : B.StaysIn h') (U : ∀ b o, b ∉ wr → s.heap.get? b = some o → (∀ vs, o.data ≠ .fields vs) → ∃ sl, s'.heap.get? b = some { o with slots := sl })
    (up : s'.heap.UpToSlots h') (hg : Gx s.gens s'.gens) (ho : s'.os = s.os) (hr : s'.drawn = s.drawn) {L : Addr} {oL : Obj} (hL : 815 ≤ L) (hLw : L ∉ wr) (eL : s.heap.get? L = some oL) (dL : ∀ vs, oL.data ≠ .fields vs) (e : s₃ = { s' with heap := h' }) : Mx outer wr s s₃ := by
  subst e
  refine ⟨fun b o h1 h2 e => st b o (hB b o h1 h2 e), fun b o h1 _ e hn => ?_, hg, ho, hr, ?_⟩
  · obtain ⟨sl, z⟩ := U b o h1 e hn
    obtain ⟨sl', z'⟩ := up b _ z hn
    exact ⟨sl', z'⟩
  · obtain ⟨sl, z⟩ := U L oL hLw eL dL
    obtain ⟨sl', z'⟩ := up L _ z dL
    exact Nat.le_of_lt (Nat.lt_of_le_of_lt hL (Heap.lt_size z'))
theorem caught_x (G : Gd w outer g) (F : Fr g L s.heap m) (hL : 815 ≤ L) (hLw : L ∉ wr) (hw : ∀ b ∈ wr, g.get? b = none) (T : TopRead vw lo mg mb g) (Bz : Bt outer wr' s₀ g L)
    (hB : ∀ b o, b ∉ wr → b ∉ frs (envOf name scope L a cd :: outer) → s.heap.get? b = some o → B.get? b = some o) (hfl : Heap.FlyingW B (envOf name scope L a cd :: outer) e (.type X) a0 s'.heap)
    (U : ∀ b o, b ∉ wr → s.heap.get? b = some o → (∀ vs, o.data ≠ .fields vs) → ∃ sl, s'.heap.get? b = some { o with slots := sl }) (hg : Gx s.gens s'.gens) (ho : s'.os = s.os) (hr : s'.drawn = s.drawn) (hc : CtxN s'.heap e)
    (ex : nsIn (kk.heap_1 w.params) mainGlobals x = some none) (hv : bootBuiltins x = some (.type T')) (hn' : x ≠ "__name__")
    (hexc : isSubtype (.type T') (.type "BaseException") = pure true) (hnt : isSubtype (.type ((Manifest.find? T').elim "type" fun y => y.metatype)) (.type "tuple") = pure false) (hsub : isSubtype (.type X) (.type T') = pure true)
    (k : ∀ s₃, s₃ = { s' with heap := s₃.heap } → Mx (envOf name scope L a cd :: outer) wr s s₃ → (∀ b o, B.get? b = some o → s₃.heap.get? b = some o) → CtxN s₃.heap e → B.get? e = none →
      wpAny (Mod w) (((AT d u outer).deeper (envOf name scope L a cd)).mark (some (.ref e))) (execs (b₀ :: suite) (envOf name scope L a cd)) Q E s₃)
    (hk : scope.kind = .function := by rfl) (hx : (envOf name scope L a cd).kindOf x = some .globalImplicit := by rfl) (hd' : (x == ("__debug__" : Str)) = false := by decide)
    (hE : PassesOwnAt (Mod w) (((AT d u outer).deeper (envOf name scope L a cd)).mark (some (.ref e))) ((AT d u outer).deeper (envOf name scope L a cd)) (envOf name scope L a cd) E := by passes_own) :
    wpAny (Mod w) ((AT d u outer).deeper (envOf name scope L a cd)) (noteFrame (.ref e) (envOf name scope L a cd))
      (fun _ s₂ => wpAny (Mod w) ((AT d u outer).deeper (envOf name scope L a cd)) (setFlight (.ref e) none) (fun _ s₃ =>
        wpAny (Mod w) ((AT d u outer).deeper (envOf name scope L a cd)) (handleBy (.ref e) (envOf name scope L a cd) (.ExceptHandler (some (.Name x np)) none (b₀ :: suite) pos :: rest)) Q E s₃) E s₂) E s' := by
  obtain ⟨oL, eL, nL, hoL, hdL, _⟩ := F.ns
  refine looks_c (Around.frames_deeper (below_of (d := d) (u := u) G).stack) rfl hfl hc fun h₄ hheld₄ hsm₄ c₄ => ?_
  refine flight_c hheld₄.1 hheld₄.2.1 hheld₄.2.2.1 hheld₄.2.2.2 c₄ fun h₅ hheld hsm₅' c₅ => ?_
  have hsm₅ := hsm₄.trans hsm₅'
  have M₅ : Mx (envOf name scope L a cd :: outer) wr s { s' with heap := h₅ } := fly_mx hB hheld.1 U hsm₅ hg ho hr hL hLw hoL (dict_no_fields hdL) rfl
  obtain ⟨g₅, G₅, F₅, T₅, _, _⟩ := rebase G F rfl M₅ hLw hw T Bz
  obtain ⟨ob, hob, hobc⟩ := hheld.there
  refine wpAny_handleBy_builtin (X := X) (T := T') (b := true) hexc hnt hsub (name_B F₅ G₅.X T₅ ex hv hn' ⟨rfl, ⟨ob, hob, hobc⟩, ?_⟩ hk hx hd')
  refine flight_c hheld.1 hheld.2.1 hheld.2.2.1 hheld.2.2.2.at c₅ fun h₆ hfl₆ hsm₆ c₆ => ?_
  exact wpAny_passesOwnAt hE (k _ rfl (fly_mx hB hfl₆.1 U (hsm₅.trans hsm₆) hg ho hr hL hLw hoL (dict_no_fields hdL) rfl) hfl₆.1 c₆ hfl₆.2.1)
theorem passed_x (G : Gd w outer g) (F : Fr g L s.heap m) (hL : 815 ≤ L) (hLw : L ∉ wr) (hw : ∀ b ∈ wr, g.get? b = none) (T : TopRead vw lo mg mb g) (Bz : Bt outer wr' s₀ g L)
    (hB : ∀ b o, b ∉ wr → b ∉ frs (envOf name scope L a cd :: outer) → s.heap.get? b = some o → B.get? b = some o) (hfl : Heap.FlyingW B (envOf name scope L a cd :: outer) e (.type X) a0 s'.heap)
    (U : ∀ b o, b ∉ wr → s.heap.get? b = some o → (∀ vs, o.data ≠ .fields vs) → ∃ sl, s'.heap.get? b = some { o with slots := sl }) (hg : Gx s.gens s'.gens) (ho : s'.os = s.os) (hr : s'.drawn = s.drawn)
    (ex : nsIn (kk.heap_1 w.params) mainGlobals x = some none) (hv : bootBuiltins x = some (.type T')) (hn' : x ≠ "__name__")
    {n : Str} (hexc : isSubtype (.type T') (.type "BaseException") = pure true) (hnt : isSubtype (.type ((Manifest.find? T').elim "type" fun y => y.metatype)) (.type "tuple") = pure false) (hsub : isSubtype (.type X) (.type T') = pure false)
    (k : ∀ s₃, s₃ = { s' with heap := s₃.heap } → Mx (envOf name scope L a cd :: outer) wr s s₃ → Heap.FlyingW B (envOf name scope L a cd :: outer) e (.type X) a0 s₃.heap →
      wpAny (Mod w) ((AT d u outer).deeper (envOf name scope L a cd)) (handleBy (.ref e) (envOf name scope L a cd) rest) Q E s₃)
    (hk : scope.kind = .function := by rfl) (hx : (envOf name scope L a cd).kindOf x = some .globalImplicit := by rfl) (hd' : (x == ("__debug__" : Str)) = false := by decide)
    (hE : PassesOwnAt (Mod w) (((AT d u outer).deeper (envOf name scope L a cd)).mark (some (.ref e))) ((AT d u outer).deeper (envOf name scope L a cd)) (envOf name scope L a cd) E := by passes_own) :
    wpAny (Mod w) ((AT d u outer).deeper (envOf name scope L a cd)) (noteFrame (.ref e) (envOf name scope L a cd))
      (fun _ s₂ => wpAny (Mod w) ((AT d u outer).deeper (envOf name scope L a cd)) (setFlight (.ref e) none) (fun _ s₃ =>
        wpAny (Mod w) ((AT d u outer).deeper (envOf name scope L a cd)) (handleBy (.ref e) (envOf name scope L a cd) (.ExceptHandler (some (.Name x np)) (some n) (b₀ :: suite) pos :: rest)) Q E s₃) E s₂) E s' := by
  obtain ⟨oL, eL, nL, hoL, hdL, _⟩ := F.ns
  refine wpAny_looks_onW (Around.frames_deeper (below_of (d := d) (u := u) G).stack) rfl hfl fun h₄ hheld₄ hsm₄ => ?_
  refine wpAny_landsW hheld₄ fun h₅ hheld hsm₅' => ?_
  have hsm₅ := hsm₄.trans hsm₅'
  have M₅ : Mx (envOf name scope L a cd :: outer) wr s { s' with heap := h₅ } := fly_mx hB hheld.1 U hsm₅ hg ho hr hL hLw hoL (dict_no_fields hdL) rfl
  obtain ⟨g₅, G₅, F₅, T₅, _, _⟩ := rebase G F rfl M₅ hLw hw T Bz
  obtain ⟨ob, hob, hobc⟩ := hheld.there
  refine wpAny_handleBy_builtin_as (X := X) (T := T') (b := false) hexc hnt hsub (name_B F₅ G₅.X T₅ ex hv hn' ⟨rfl, ⟨ob, hob, hobc⟩, ?_⟩ hk hx hd')
  exact k _ rfl M₅ hheld
end
end
section
open PySem PySem.W PySem.Calls PyProof.Rows
section
variable {w : World} {d u : Nat} {outer : List Env} {E : Value → Shared → Prop} {s s' : Shared} {g B : Heap} {L a e t : Addr} {a0 : Value} {m mg mb : Str → Option Value} {name : Str} {scope : Scope} {cd : Value} {wr wr' : List Addr} {lo : List Str}
  {s₀ : Shared} {b₀ : Stmt} {suite : List Stmt} {pos np : Pos} {rest : List ExceptHandler} {Q : Flow → Shared → Prop} {x n : Str} {X T' : String} {vs : List Value}
theorem caught_xB (G : Gd w outer g) (F : Fr g L s.heap m) (hL : 815 ≤ L) (hLw : L ∉ wr) (hw : ∀ b ∈ wr, g.get? b = none) (T : TopRead vw lo mg mb g) (Bz : Bt outer wr' s₀ g L)
    (hB : ∀ b o, b ∉ wr → b ∉ frs (envOf name scope L a cd :: outer) → s.heap.get? b = some o → B.get? b = some o) (hfl : Heap.FlyingW B (envOf name scope L a cd :: outer) e (.type X) (.ref t) s'.heap)
    (htup : s'.heap.TupAt t vs) (htB : B.get? t = none)
    (U : ∀ b o, b ∉ wr → s.heap.get? b = some o → (∀ vs, o.data ≠ .fields vs) → ∃ sl, s'.heap.get? b = some { o with slots := sl }) (hg : Gx s.gens s'.gens) (ho : s'.os = s.os) (hr : s'.drawn = s.drawn)
    (ex : nsIn (kk.heap_1 w.params) mainGlobals x = some none) (hv : bootBuiltins x = some (.type T')) (hn' : x ≠ "__name__")
    (hexc : isSubtype (.type T') (.type "BaseException") = pure true) (hnt : isSubtype (.type ((Manifest.find? T').elim "type" fun y => y.metatype)) (.type "tuple") = pure false) (hsub : isSubtype (.type X) (.type T') = pure true)
    (k : ∀ h' g' tk news₂, Gd w outer g' → Fr g' L h' (fun y => if y = n then some (.ref e) else m y) → TopRead vw lo mg mb g' → Bt outer wr' s₀ g' L → News g' L h' news₂ → Got news₂ e t (.type X) vs →
      wpAny (Mod w) (((AT d u outer).deeper (envOf name scope L a cd)).mark (some (.ref e))) (execs (b₀ :: suite) (envOf name scope L a cd))
        (fun f s₄ => wpAny (Mod w) ((AT d u outer).deeper (envOf name scope L a cd)) (do bindName (envOf name scope L a cd) n .none; unbindBehindTheSuite (envOf name scope L a cd) n pos) (fun _ s₅ => Q f s₅) E s₄)
        (AsSuiteRaised (Mod w) (((AT d u outer).deeper (envOf name scope L a cd)).mark (some (.ref e))) (envOf name scope L a cd) n pos (notedBy (Mod w) (((AT d u outer).deeper (envOf name scope L a cd)).mark (some (.ref e))) (envOf name scope L a cd) (cameBackBy (Mod w) ((AT d u outer).deeper (envOf name scope L a cd)) (envOf name scope L a cd) E)))
        { s' with heap := h', toks := tk })
    (hk : scope.kind = .function := by rfl) (hx : (envOf name scope L a cd).kindOf x = some .globalImplicit := by rfl) (hlo : (envOf name scope L a cd).kindOf n = some .local := by rfl) (hd' : (x == ("__debug__" : Str)) = false := by decide) :
    wpAny (Mod w) ((AT d u outer).deeper (envOf name scope L a cd)) (noteFrame (.ref e) (envOf name scope L a cd))
      (fun _ s₂ => wpAny (Mod w) ((AT d u outer).deeper (envOf name scope L a cd)) (setFlight (.ref e) none) (fun _ s₃ =>
        wpAny (Mod w) ((AT d u outer).deeper (envOf name scope L a cd)) (handleBy (.ref e) (envOf name scope L a cd) (.ExceptHandler (some (.Name x np)) (some n) (b₀ :: suite) pos :: rest)) Q E s₃) E s₂) E s' := by
  obtain ⟨oL, eL, nL, hoL, hdL, _⟩ := F.ns
  refine wpAny_looks_onW (Around.frames_deeper (below_of (d := d) (u := u) G).stack) rfl hfl fun h₄ hheld₄ hsm₄ => ?_
  refine wpAny_landsW hheld₄ fun h₅ hheld hsm₅' => ?_
  have hsm₅ := hsm₄.trans hsm₅'
  have M₅ : Mx (envOf name scope L a cd :: outer) wr s { s' with heap := h₅ } := fly_mx hB hheld.1 U hsm₅ hg ho hr hL hLw hoL (dict_no_fields hdL) rfl
  obtain ⟨g₅, G₅, F₅, T₅, _, _⟩ := rebase G F rfl M₅ hLw hw T Bz
  obtain ⟨ob, hob, hobc⟩ := hheld.there
  refine wpAny_handleBy_builtin_as (X := X) (T := T') (b := true) hexc hnt hsub (name_B F₅ G₅.X T₅ ex hv hn' ⟨rfl, ⟨ob, hob, hobc⟩, ?_⟩ hk hx hd')
  refine lands_againW hheld fun h₆ hfl₆ hsm₆ => ?_
  have up₆ := hsm₅.trans hsm₆
  have M₆ : Mx (envOf name scope L a cd :: outer) wr s { s' with heap := h₆ } := fly_mx hB hfl₆.1 U up₆ hg ho hr hL hLw hoL (dict_no_fields hdL) rfl
  obtain ⟨g₆, G₆, F₆, T₆, B₆, n₆⟩ := rebase G F rfl M₆ hLw hw T Bz
  obtain ⟨oe, ws, hoe, hoec, hoed, hoe0⟩ := hfl₆.first
  obtain ⟨ot, nt, hot, hotc, hotd⟩ := htup.of_slots up₆
  have gn : ∀ b o6, h₆.get? b = some o6 → (∀ es n, o6.data ≠ .dict es n) → B.get? b = none → g₆.get? b = none := fun b o6 h6 hnd hb => n₆ b (by
    cases q : g.get? b with
    | none => rfl
    | some o =>
      have bw : b ∉ wr := fun z => by rw [hw b z] at q; cases q
      by_cases hf : b ∈ frs outer
      · obtain ⟨_, o', es, n', h', hdd⟩ := frg_big G b hf
        rw [q] at h'
        cases h'
        obtain ⟨sl, z⟩ := U b o bw (F.keep b o q) (dict_no_fields hdd)
        obtain ⟨sl', z'⟩ := up₆ b _ z (dict_no_fields hdd)
        rw [h6] at z'
        cases z'
        exact absurd hdd (hnd es n')
      · have z := hB b o bw (fun hm => by
          rcases frs_cons rfl hm with z | z
          · rw [z, kts_self F] at q
            cases q
          · exact hf z) (F.keep b o q)
        rw [hb] at z
        cases z)
  have te : ∀ es n, ot.data ≠ .dict es n := fun es n q => by rw [hotd] at q; cases q
  have ee : ∀ es n, oe.data ≠ .dict es n := fun es n q => by rw [hoed] at q; cases q
  have N₆ := News.more F₆ (News.more F₆ News.nil hot te (gn t ot hot te htB)) hoe ee (gn e oe hoe ee hfl₆.2.1)
  refine stN F₆ N₆ (fun h₇ F₇ N₇ => ?_) hk hlo
  exact k h₇ g₆ _ _ G₆ F₇ T₆ B₆ N₇ ⟨oe, ot, ws, nt, .head _, .tail _ (.head _), hoec, hoed, hoe0, hotc, hotd⟩
theorem handled_x (G : Gd w outer g) (F : Fr g L s.heap m) (hL : 815 ≤ L) (hLw : L ∉ wr) (hw : ∀ b ∈ wr, g.get? b = none) (T : TopRead vw lo mg mb g) (Bz : Bt outer wr' s₀ g L)
    (hB : ∀ b o, b ∉ wr → b ∉ frs (envOf name scope L a cd :: outer) → s.heap.get? b = some o → B.get? b = some o) (hfl : Heap.FlyingW B (envOf name scope L a cd :: outer) e (.type X) a0 s'.heap)
    (U : ∀ b o, b ∉ wr → s.heap.get? b = some o → (∀ vs, o.data ≠ .fields vs) → ∃ sl, s'.heap.get? b = some { o with slots := sl }) (hg : Gx s.gens s'.gens) (ho : s'.os = s.os) (hr : s'.drawn = s.drawn)
    (ex : nsIn (kk.heap_1 w.params) mainGlobals x = some none) (hv : bootBuiltins x = some (.type T')) (hn' : x ≠ "__name__")
    (hexc : isSubtype (.type T') (.type "BaseException") = pure true) (hnt : isSubtype (.type ((Manifest.find? T').elim "type" fun y => y.metatype)) (.type "tuple") = pure false) (hsub : isSubtype (.type X) (.type T') = pure true)
    (k : ∀ s₃, s₃ = { s' with heap := s₃.heap } → Mx (envOf name scope L a cd :: outer) wr s s₃ →
      wpAny (Mod w) (((AT d u outer).deeper (envOf name scope L a cd)).mark (some (.ref e))) (execs (b₀ :: suite) (envOf name scope L a cd)) Q E s₃)
    (hk : scope.kind = .function := by rfl) (hx : (envOf name scope L a cd).kindOf x = some .globalImplicit := by rfl) (hd' : (x == ("__debug__" : Str)) = false := by decide)
    (hE : PassesOwnAt (Mod w) (((AT d u outer).deeper (envOf name scope L a cd)).mark (some (.ref e))) ((AT d u outer).deeper (envOf name scope L a cd)) (envOf name scope L a cd) E := by passes_own) :
    wpAny (Mod w) ((AT d u outer).deeper (envOf name scope L a cd)) (handleBy (.ref e) (envOf name scope L a cd) (.ExceptHandler (some (.Name x np)) none (b₀ :: suite) pos :: rest)) Q E s' := by
  obtain ⟨oL, eL, nL, hoL, hdL, _⟩ := F.ns
  have M₅ : Mx (envOf name scope L a cd :: outer) wr s s' := fly_mx hB hfl.1 U (Heap.UpToSlots.refl _) hg ho hr hL hLw hoL (dict_no_fields hdL) rfl
  obtain ⟨g₅, G₅, F₅, T₅, _, _⟩ := rebase G F rfl M₅ hLw hw T Bz
  obtain ⟨ob, hob, hobc⟩ := hfl.there
  refine wpAny_handleBy_builtin (X := X) (T := T') (b := true) hexc hnt hsub (name_B F₅ G₅.X T₅ ex hv hn' ⟨rfl, ⟨ob, hob, hobc⟩, ?_⟩ hk hx hd')
  refine lands_againW hfl fun h₆ hfl₆ hsm₆ => ?_
  exact wpAny_passesOwnAt hE (k _ rfl (fly_mx hB hfl₆.1 U hsm₆ hg ho hr hL hLw hoL (dict_no_fields hdL) rfl))
end
end
section
open PySem PySem.W PySem.Calls PyProof.Rows
abbrev cRead : Str := Str.ofString "read"
theorem rd_int : typeLookup (.type "int") cRead = pure none := am_miss_of_fast (by decide +kernel)
theorem rd_bool : typeLookup (.type "bool") cRead = pure none := am_miss_of_fast (by decide +kernel)
theorem rd_list : typeLookup (.type "list") cRead = pure none := am_miss_of_fast (by decide +kernel)
theorem rd_tuple : typeLookup (.type "tuple") cRead = pure none := am_miss_of_fast (by decide +kernel)
theorem rd_dict : typeLookup (.type "dict") cRead = pure none := am_miss_of_fast (by decide +kernel)
theorem rd_len : cRead.length + 100 ≤ sizeLine := by decide +kernel
theorem rd_nm : (["__module__", "__name__", "__qualname__", "__doc__", "__annotations__"] : List Str).contains cRead = false := by decide +kernel
section
variable {prog : Program} {w : World} {A : Around} {E : Value → Shared → Prop} {s : Shared} {Q : Value × List Value → Shared → Prop} {pl : Sem Bool}
theorem miss_any {v : Value} {T id : String} (hT : ∀ tk, ({ s with toks := tk } : Shared).TypeIs v T) (slot : Slot T "__getattribute__" id) (hcan : (Manifest.canonical id != "object.__getattribute__") = false)
    (l2 : typeLookup (.type T) (Str.ofString "__getattr__") = pure none) (l3 : typeLookup (.type T) cRead = pure none)
    (hcall : ∀ (tk : Nat) (u : Tok) (Q' : Value → Shared → Prop) (E' : Value → Shared → Prop), (∀ h' tk' e, Heap.NewAttrErr s.heap h' e v cRead → E' (.ref e) { s with heap := h', toks := tk' }) → wpAny (model prog w) A (call (.builtin id) [v, .str cRead u]) Q' E' { s with toks := tk })
    (h : ∀ h' tk e, Heap.NewExcOf s.heap h' e "AttributeError" → E (.ref e) { s with heap := h', toks := tk }) : wpAny (model prog w) A (getMethod v cRead pl) Q E s := by
  obtain ⟨hp, g, d, tk, os⟩ := s
  unfold getMethod
  refine wpAny_bind (wpAny_specialOf (hT tk) slot.lookup ?_)
  dsimp only
  rw [hcan]
  simp only [Bool.false_eq_true, if_false]
  refine wpAny_bind (wpAny_specialOf (hT tk) l2 ?_)
  simp only [Option.isSome_none, Bool.false_eq_true, if_false]
  refine wpAny_bind (wpAny_specialOf (hT tk) l3 ?_)
  dsimp only
  refine wpAny_bind ?_
  unfold getAttr getAttrBy
  refine wpAny_bind (wpAny_mkText ?_)
  refine wpAny_holding (wpAny_bind (wpAny_typeOf (hT _) (wpAny_bind (wpAny_of_eq slot.lookup ?_))))
  dsimp only
  simp only [onTheHeap, Bool.false_and, Bool.false_eq_true, if_false]
  unfold getAttrByItsOwn hookBefore
  refine wpAny_bind (wpAny_pure ?_)
  refine wpAny_bind (wpAny_attempt (wpAny_holding ?_))
  unfold callGetattribute
  simp only [onTheHeap, Bool.false_and, Bool.false_eq_true, if_false]
  unfold boundAndCalled
  refine wpAny_bind (wpAny_of_eq (slot.bind v) ?_)
  refine hcall _ _ _ _ fun h' tk' e hx => ?_
  dsimp only
  obtain ⟨t', u', he⟩ := hx.there
  have f1 := sub_AttributeError
  show wpAny _ _ (getattributeRaised _ _ _ _ _ _ _) _ _ _
  unfold getattributeRaised
  repeat (any_goals (first | assumption | wp_step))
  exact h _ _ _ hx.of
theorem miss_int {n : Int} {t : Tok} (hA : A.handled = none) (h : ∀ h' tk e, Heap.NewExcOf s.heap h' e "AttributeError" → E (.ref e) { s with heap := h', toks := tk }) : wpAny (model prog w) A (getMethod (.int n t) cRead pl) Q E s :=
  miss_any (T := "int") (fun _ => rfl) F.slot_int_getattribute (by decide +kernel) am_int_getattr_none rd_int
    (fun tk u Q' E' k => call_meets F.slot_int_getattribute rfl am_entry_int_getattribute (F.args_int_getattribute_2 _ _) (meets_getattribute_miss_int n t cRead _ rd_int rd_len) ⟨hA, fun h' tk' e hx => k h' tk' e hx⟩) h
theorem miss_bool {b : Bool} (hA : A.handled = none) (h : ∀ h' tk e, Heap.NewExcOf s.heap h' e "AttributeError" → E (.ref e) { s with heap := h', toks := tk }) : wpAny (model prog w) A (getMethod (.bool b) cRead pl) Q E s :=
  miss_any (T := "bool") (fun _ => rfl) F.slot_bool_getattribute (by decide +kernel) am_bool_getattr_none rd_bool
    (fun tk u Q' E' k => call_meets F.slot_bool_getattribute rfl am_entry_int_getattribute (F.args_int_getattribute_2 _ _) (meets_getattribute_miss_bool b cRead _ rd_bool rd_len) ⟨hA, fun h' tk' e hx => k h' tk' e hx⟩) h
theorem miss_list {a : Addr} {xs : Array Value} {k : Nat} {sl : Array (Option Value)} (hx : s.heap.get? a = some { cls := .type "list", dict := none, data := .seq xs k, slots := sl }) (hA : A.handled = none) (h : ∀ h' tk e, Heap.NewExcOf s.heap h' e "AttributeError" → E (.ref e) { s with heap := h', toks := tk }) : wpAny (model prog w) A (getMethod (.ref a) cRead pl) Q E s :=
  have hT : ∀ tk, ({ s with toks := tk } : Shared).TypeIs (.ref a) "list" := fun _ => ⟨_, hx, rfl⟩
  miss_any (T := "list") hT F.slot_list_getattribute (by decide +kernel) am_list_getattr_none rd_list
    (fun tk u Q' E' k' => call_meets F.slot_list_getattribute (hT tk) am_entry_list_getattribute (F.args_list_getattribute_2 _ _) (meets_getattribute_miss_list a xs k sl cRead _ rd_list rd_nm rd_len) ⟨hx, hA, fun h' tk' e hx => k' h' tk' e hx⟩) h
theorem miss_tuple {a : Addr} {xs : Array Value} {k : Nat} {sl : Array (Option Value)} (hx : s.heap.get? a = some { cls := .type "tuple", dict := none, data := .seq xs k, slots := sl }) (hA : A.handled = none) (h : ∀ h' tk e, Heap.NewExcOf s.heap h' e "AttributeError" → E (.ref e) { s with heap := h', toks := tk }) : wpAny (model prog w) A (getMethod (.ref a) cRead pl) Q E s :=
  have hT : ∀ tk, ({ s with toks := tk } : Shared).TypeIs (.ref a) "tuple" := fun _ => ⟨_, hx, rfl⟩
  miss_any (T := "tuple") hT F.slot_tuple_getattribute (by decide +kernel) am_tuple_getattr_none rd_tuple
    (fun tk u Q' E' k' => call_meets F.slot_tuple_getattribute (hT tk) am_entry_tuple_getattribute (F.args_tuple_getattribute_2 _ _) (meets_getattribute_miss_tuple a xs k sl cRead _ rd_tuple rd_nm rd_len) ⟨hx, hA, fun h' tk' e hx => k' h' tk' e hx⟩) h
theorem miss_dict {a : Addr} {es : Array DictEntry} {k : Nat} {sl : Array (Option Value)} (hx : s.heap.get? a = some { cls := .type "dict", dict := none, data := .dict es k, slots := sl }) (hA : A.handled = none) (h : ∀ h' tk e, Heap.NewExcOf s.heap h' e "AttributeError" → E (.ref e) { s with heap := h', toks := tk }) : wpAny (model prog w) A (getMethod (.ref a) cRead pl) Q E s :=
  have hT : ∀ tk, ({ s with toks := tk } : Shared).TypeIs (.ref a) "dict" := fun _ => ⟨_, hx, rfl⟩
  miss_any (T := "dict") hT F.slot_dict_getattribute (by decide +kernel) am_dict_getattr_none rd_dict
    (fun tk u Q' E' k' => call_meets F.slot_dict_getattribute (hT tk) am_entry_dict_getattribute (F.args_dict_getattribute_2 _ _) (meets_getattribute_miss_dict a es k sl cRead _ rd_dict rd_nm rd_len) ⟨hx, hA, fun h' tk' e hx => k' h' tk' e hx⟩) h
end
end
section
open PySem PySem.W PySem.Calls PyProof.Rows PyProof.V PySem.Spec
noncomputable def OkL (ns : List Str) : Prop := ∀ y ∈ ns, PyData.strOk y = true
theorem ks_canLayAll0 : ∀ ns : List Str, OkL ns → PyData.canLayAll0 (ns.map PyData.str) = true
  | [], _ => rfl
  | y :: r, h => by simp [PyData.canLayAll0, PyData.canLay0, ks_canLayAll0 r fun z hz => h z (.tail _ hz), h y (.head _)]
theorem ks_depthAll : ∀ ns : List Str, PyData.depthAll (ns.map PyData.str) = 0
  | [] => rfl
  | _ :: r => by simp [PyData.depthAll, PyData.depth, ks_depthAll r]
theorem ks_shaped (ns : List Str) (h : OkL ns) : SeqAt.shaped (.list (ns.map PyData.str)) = true := by
  simp [SeqAt.shaped, PyData.canLay0, PyData.depth, ks_canLayAll0 ns h, ks_depthAll]
theorem ks_sameAll : ∀ ns ms : List Str, PySem.Spec.sameAll (ns.map PyData.str) (ms.map PyData.str) = decide (ns = ms)
  | [], [] => by simp [PySem.Spec.sameAll]
  | [], _ :: _ => by simp [PySem.Spec.sameAll]
  | _ :: _, [] => by simp [PySem.Spec.sameAll]
  | a :: r, b :: t => by
    simp only [List.map_cons, PySem.Spec.sameAll, PySem.Spec.same, ks_sameAll r t]
    by_cases h : a = b <;> by_cases h' : r = t <;> simp [h, h']
theorem ks_same (ns ms : List Str) : PySem.Spec.same (.list (ns.map PyData.str)) (.list (ms.map PyData.str)) = decide (ns = ms) := by
  simp only [PySem.Spec.same]; exact ks_sameAll ns ms
theorem ks_carried : ∀ {vs : List Value} {ns : List Str}, StrsAre vs ns → CarriedAll vs (ns.map PyData.str)
  | _, _, .nil => .nil
  | _, _, .cons _ t r => .cons (.str _ t) (ks_carried r)
theorem ks_strs : ∀ {vs : List Value} {ns : List Str}, CarriedAll vs (ns.map PyData.str) → StrsAre vs ns
  | [], [], _ => .nil
  | _ :: _, _ :: _, .cons (.str _ t) r => .cons _ t (ks_strs r)
section
variable {prog : Program} {w : World} {A : Around} {E : Value → Shared → Prop} {s : Shared} {a b : Addr} {xs ys : List Value} {ns ms : List Str} {Q : Value → Shared → Prop}
theorem eq_strs (ha : s.heap.IsList a xs.toArray) (hb : s.heap.IsList b ys.toArray) (hi : StrsAre xs ns) (hj : StrsAre ys ms) (o1 : OkL ns) (o2 : OkL ms) (hu : A.units + 64 < cLine) (h : Q (.bool (decide (ns = ms))) s) :
    wpAny (model prog w) A (compareOp .Eq (.ref a) (.ref b)) Q E s :=
  eq_dataH_same (reads_newData ha (ks_carried hi)) (reads_newData hb (ks_carried hj)) (ks_shaped _ o1) (ks_shaped _ o2) hu (SeqAt.noMix_of_shape (.list .str) rfl _ _ (list_map_has fun _ => rfl) (list_map_has fun _ => rfl)) (by rw [ks_same]; exact h)
theorem ne_strs (ha : s.heap.IsList a xs.toArray) (hb : s.heap.IsList b ys.toArray) (hi : StrsAre xs ns) (hj : StrsAre ys ms) (o1 : OkL ns) (o2 : OkL ms) (hu : A.units + 64 < cLine) (h : Q (.bool (!decide (ns = ms))) s) :
    wpAny (model prog w) A (compareOp .NotEq (.ref a) (.ref b)) Q E s :=
  ne_dataH_same (reads_newData ha (ks_carried hi)) (reads_newData hb (ks_carried hj)) (ks_shaped _ o1) (ks_shaped _ o2) hu (SeqAt.noMix_of_shape (.list .str) rfl _ _ (list_map_has fun _ => rfl) (list_map_has fun _ => rfl)) (by rw [ks_same]; exact h)
end
end
section
open PySem PySem.W PySem.Calls PyProof.Rows
theorem slot_bytes_ga : Slot "bytes" "__getattribute__" "bytes.__getattribute__" :=
  .of (owner := "bytes") (n := "__getattribute__") (by rw [typeLookup_type, builtinLookup_eq_fast]; kernel_rfl) (by decide +kernel) (by decide +kernel) (by decide +kernel)
    (by first | exact .inl (by decide +kernel) | exact .inr (by decide +kernel)) (by rw [isSubtype_type]; kernel_rfl)
theorem entry_bytes_ga : entryFor table "bytes.__getattribute__" = some Builtin.«object.__getattribute__» :=
  entryFor_alias (id' := "object.__getattribute__") (by kernel_rfl) (by first | rfl | decide +kernel) (by decide +kernel) (by kernel_rfl)
theorem args_bytes_ga (a b : Value) : argsOk "bytes.__getattribute__" ⟨[a, b], []⟩ := by unfold argsOk; kernel_rfl
theorem lk_bytes_class : typeLookup (.type "bytes") "__class__" = pure (some (.builtin "object.__class__")) := by rw [typeLookup_type, builtinLookup_eq_fast]; kernel_rfl
theorem sub_bytes_class : isSubtype (.type "bytes") (.type (".".intercalate ("object.__class__".cutAt '.').dropLast)) = pure true := by
  rw [F.owner_object_class, isSubtype_type]; kernel_rfl
theorem sub_bytes_str : isSubtype (.type "bytes") (.type "str") = pure false := by rw [isSubtype_type]; kernel_rfl
section
variable {prog : Program} {w : World} {A : Around} {E : Value → Shared → Prop} {h : Heap} {g : Array GenState} {d : Drawn} {t : Nat} {os : OsState} {x : Array UInt8} {u : Tok}
theorem class_get_bytes {R : Result → Shared → Prop} (hq : R (.ok (.ret (.type "bytes"))) ⟨h, g, d, t, os⟩) :
    codeAny (model prog w) A (.call (.builtin "getset_descriptor.__get__") ⟨[.builtin "object.__class__", .bytes x u, .type "bytes"], []⟩) R ⟨h, g, d, t, os⟩ := by
  have hT : (⟨h, g, d, t, os⟩ : Shared).TypeIs (.bytes x u) "bytes" := rfl
  have hT5 : (⟨h, g, d, t, os⟩ : Shared).TypeIs (.builtin "object.__class__") "getset_descriptor" := F.typeOf_object_class
  have f8 := sub_bytes_class
  refine codeAny_call_builtin F.slot_gs_get.plain F.entry_gs_get (F.slot_gs_get.check _ _ _ _ _ _ _ _ hT5 (F.args_gs_get _ _ _) ?_)
  repeat (any_goals (first | assumption | wp_step))
  refine ⟨Code.quiet_builtin _ (by decide +kernel), codeAny_builtin F.entry_object_class ?_⟩
  repeat (any_goals (first | assumption | wp_step))
theorem class_entry_bytes {tk : Tok} {Q : PySem.Fin → Shared → Prop} (hq : Q (.done (.ret (.type "bytes"))) ⟨h, g, d, t, os⟩) :
    wpAny (model prog w) A (Builtin.«object.__getattribute__» ⟨[.bytes x u, .str "__class__" tk], []⟩) Q E ⟨h, g, d, t, os⟩ := by
  have hT : (⟨h, g, d, t, os⟩ : Shared).TypeIs (.bytes x u) "bytes" := rfl
  have hT5 : (⟨h, g, d, t, os⟩ : Shared).TypeIs (.builtin "object.__class__") "getset_descriptor" := F.typeOf_object_class
  have f4 := lk_bytes_class
  have f5 := F.typeOf_object_class
  have f6 := F.slot_gs_get.lookup
  have f7 := F.slot_gs_set.lookup
  repeat (any_goals (first | assumption | wp_step))
  refine class_get_bytes ?_
  repeat (any_goals (first | assumption | wp_step))
theorem class_call_bytes {tk : Tok} {R : Result → Shared → Prop} (hq : R (.ok (.ret (.type "bytes"))) ⟨h, g, d, t, os⟩) :
    codeAny (model prog w) A (.call (.builtin "bytes.__getattribute__") ⟨[.bytes x u, .str "__class__" tk], []⟩) R ⟨h, g, d, t, os⟩ :=
  codeAny_call_builtin slot_bytes_ga.plain entry_bytes_ga (slot_bytes_ga.check _ _ _ _ _ _ _ _ (show (⟨h, g, d, t, os⟩ : Shared).TypeIs (.bytes x u) "bytes" from rfl) (args_bytes_ga _ _) (class_entry_bytes hq))
theorem class_by_bytes {tk : Tok} {Q : Value → Shared → Prop} (hq : Q (.type "bytes") ⟨h, g, d, t, os⟩) : wpAny (model prog w) A (getAttrBy (.bytes x u) (.str "__class__" tk) false) Q E ⟨h, g, d, t, os⟩ := by
  have hT : (⟨h, g, d, t, os⟩ : Shared).TypeIs (.bytes x u) "bytes" := rfl
  have f2 := slot_bytes_ga.lookup
  have f3 := slot_bytes_ga.bind (.bytes x u)
  repeat (any_goals (first | assumption | wp_step))
  refine class_call_bytes ?_
  repeat (any_goals (first | assumption | wp_step))
theorem class_attr_bytes {Q : Option Value → Shared → Prop} (hq : Q (some (.type "bytes")) ⟨h, g, d, t + 1, os⟩) : wpAny (model prog w) A (getAttr? (.bytes x u) "__class__") Q E ⟨h, g, d, t, os⟩ := by
  unfold getAttr? getAttrBy?
  repeat (any_goals (first | assumption | with_reducible apply class_by_bytes | wp_step))
theorem isi_nested_bytes {T : String} {dep : Int} {tk : Tok} {Q : PySem.Fin → Shared → Prop} (hne : (Value.type "bytes" == Value.type T) = false) (hty : typeOf (.type T) = pure (.type "type"))
    (hsub : isSubtype (.type "bytes") (.type T) = pure false) (hq : Q (.done (.ret (.bool false))) ⟨h, g, d, t + 1, os⟩) :
    wpAny (model prog w) A (Builtin.«isinstance.nested» ⟨[.bytes x u, .type T, .int dep tk], []⟩) Q E ⟨h, g, d, t, os⟩ := by
  have hT : (⟨h, g, d, t, os⟩ : Shared).TypeIs (.bytes x u) "bytes" := rfl
  repeat (any_goals (first | assumption | with_reducible apply class_attr_bytes | wp_step))
end
theorem isi_meets_bytes {x : Array UInt8} {u : Tok} {T : String} (hne : (Value.type "bytes" == Value.type T) = false) (hty : typeOf (.type T) = pure (.type "type")) (hsub : isSubtype (.type "bytes") (.type T) = pure false) :
    Meets (Builtin.«isinstance» ⟨[.bytes x u, .type T], []⟩) (fun _ R s => R (.ok (.ret (.bool false))) { s with toks := s.toks + 1 }) :=
  fun _ _ _ _ s hs => by
    obtain ⟨h, g, d, t, os⟩ := s
    exact isinstance_outer (isi_nested_bytes hne hty hsub hs)
section
variable {w : World} {A : Around} {E : Value → Shared → Prop} {s : Shared} {v : Value} {Q : Value → Shared → Prop}
theorem isstr_bytes {b : Array UInt8} {t : Tok} (h : Q (.bool false) { s with toks := s.toks + 1 }) : wpAny (Mod w) A (call (.builtin "isinstance") [.bytes b t, .type "str"]) Q E s :=
  call_isinstance (isi_meets_bytes (by decide +kernel) F.isi_meta_str sub_bytes_str) h
theorem isstr_nul {k : Nat} (hv : NulV w k v s.heap) (h : ∀ tk, Q (.bool false) { s with toks := tk }) : wpAny (Mod w) A (call (.builtin "isinstance") [v, .type "str"]) Q E s := by
  match k, hv with
  | 0, hv =>
    obtain rfl := (hv : v = .none)
    exact IsiPair.NoneType_str (h _)
  | 1, hv =>
    obtain ⟨t, rfl⟩ := (hv : ∃ t, v = .int 0 t)
    exact IsiPair.int_str (h _)
  | 2, hv =>
    obtain rfl := (hv : v = .bool false)
    exact IsiPair.bool_str (h _)
  | 3, hv =>
    obtain ⟨a, c, rfl, ho⟩ := (hv : ∃ a c, v = .ref a ∧ s.heap.get? a = some (lstO #[] c))
    exact IsiPair.list_str ho rfl (h _)
  | 4, hv =>
    obtain ⟨a, o, rfl, ho, hd, hsy⟩ := (hv : ∃ a o, v = .ref a ∧ s.heap.get? a = some o ∧ DictS w o [] ∧ a ≠ sysModules)
    exact IsiPair.dict_str ho hd.facts.1 (h _)
  | 5, hv =>
    obtain ⟨a, c, rfl, ho⟩ := (hv : ∃ a c, v = .ref a ∧ s.heap.get? a = some { cls := .type "tuple", data := .seq #[] c })
    exact IsiPair.tuple_str ho rfl (h _)
  | n + 6, hv =>
    obtain ⟨t, rfl⟩ := (hv : ∃ t, v = .bytes #[] t)
    exact isstr_bytes (h _)
theorem isstr_hvy {k : Nat} (hv : HvyV w k v s.heap) (h : ∀ tk, Q (.bool false) { s with toks := tk }) : wpAny (Mod w) A (call (.builtin "isinstance") [v, .type "str"]) Q E s := by
  match k, hv with
  | 0, hv =>
    obtain ⟨t, rfl⟩ := (hv : ∃ t, v = .int 1 t)
    exact IsiPair.int_str (h _)
  | 1, hv =>
    obtain rfl := (hv : v = .bool true)
    exact IsiPair.bool_str (h _)
  | 2, hv =>
    obtain ⟨t, rfl⟩ := (hv : ∃ t, v = .bytes #[97] t)
    exact isstr_bytes (h _)
  | 3, hv =>
    obtain ⟨a, c, t, rfl, ho⟩ := (hv : ∃ a c t, v = .ref a ∧ s.heap.get? a = some (lstO #[.str cA t] c))
    exact IsiPair.list_str ho rfl (h _)
  | 4, hv =>
    obtain ⟨a, c, t, rfl, ho⟩ := (hv : ∃ a c t, v = .ref a ∧ s.heap.get? a = some { cls := .type "tuple", data := .seq #[.str cA t] c })
    exact IsiPair.tuple_str ho rfl (h _)
  | n + 5, hv =>
    obtain ⟨a, o, u, rfl, ho, hd, hsy⟩ := (hv : ∃ a o u, v = .ref a ∧ s.heap.get? a = some o ∧ DictS w o [(cA, .int 1 u)] ∧ a ≠ sysModules)
    exact IsiPair.dict_str ho hd.facts.1 (h _)
noncomputable def nulD : Nat → PyData
  | 0 => .none
  | 1 => .int 0
  | 2 => .bool false
  | 3 => .list []
  | 4 => .dict []
  | 5 => .tuple []
  | _ => .none
noncomputable def hvyD : Nat → PyData
  | 0 => .int 1
  | 1 => .bool true
  | 3 => .list [.str cA]
  | 4 => .tuple [.str cA]
  | 5 => .dict [(.str cA, .int 1)]
  | _ => .none
noncomputable def rp : Th → Str
  | .str x => reprText x
  | .nul k => if k < 6 then (nulD k).shown else Str.ofString "b''"
  | .hvy k => if k = 2 then Str.ofString "b'a'" else (hvyD k).shown
theorem slot_bytes_repr : Slot "bytes" "__repr__" "bytes.__repr__" :=
  .of (owner := "bytes") (n := "__repr__") (by rw [typeLookup_type, builtinLookup_eq_fast]; kernel_rfl) (by decide +kernel) (by decide +kernel) (by decide +kernel)
    (by first | exact .inl (by decide +kernel) | exact .inr (by decide +kernel)) (by rw [isSubtype_type]; kernel_rfl)
theorem entry_bytes_repr : entryFor table "bytes.__repr__" = some Builtin.«bytes.__repr__» := entryFor_of_tree (by kernel_rfl)
theorem args_bytes_repr (a : Value) : argsOk "bytes.__repr__" ⟨[a], []⟩ := by unfold argsOk; kernel_rfl
theorem gives_bytes_repr0 (t : Tok) : Gives (Builtin.«bytes.__repr__» ⟨[.bytes #[] t], []⟩) (.str (Str.ofString "b''")) := .of_eq (by kernel_rfl)
theorem gives_bytes_repr1 (t : Tok) : Gives (Builtin.«bytes.__repr__» ⟨[.bytes #[97] t], []⟩) (.str (Str.ofString "b'a'")) := .of_eq (by kernel_rfl)
theorem dict_reads {w : World} {h : Heap} {a : Addr} {o : Obj} {u : Tok} (ho : h.get? a = some o) (D : DictS w o [(cA, .int 1 u)]) : Reads h (.ref a) (.dict [(.str cA, .int 1)]) [a] := by
  obtain ⟨es, ep, hd1, hd2, _, hp, _⟩ := D.is
  obtain ⟨l⟩ := es
  cases hp with
  | @cons e kv es' kvs' h1 h2 h3 =>
    cases h3
    obtain ⟨t, ht⟩ := Value.isStrOf_shape h1
    refine Reads.dict (as := []) (bs := []) ho hd1.1 hd2 ?_ ?_
    · show ReadsAll h [e.key] [.str cA] []
      rw [ht]
      exact .cons (as := []) (.str _ _) .nil
    · show ReadsAll h [e.val] [.int 1] []
      rw [h2]
      exact .cons (as := []) (.int _ _) .nil
theorem dict_reads0 {w : World} {h : Heap} {a : Addr} {o : Obj} (ho : h.get? a = some o) (D : DictS w o []) : Reads h (.ref a) (.dict []) [a] := by
  obtain ⟨es, ep, hd1, hd2, _, hp, _⟩ := D.is
  obtain ⟨l⟩ := es
  cases hp
  exact Reads.dict (as := []) (bs := []) ho hd1.1 hd2 .nil .nil
theorem alph_lt {c : Nat} (h : c ∈ alph) : c < 1000 := by
  simp only [alph, List.mem_cons, List.not_mem_nil, or_false] at h
  omega
theorem repr_th {th : Th} (hv : ThV w th v s.heap) (hk : ∀ k, th = .hvy k → k < 6) (hx : ∀ x, th = .str x → Wd x) (hg : A.guards = some []) (hu : A.units ≤ 2000)
    (hQ : ∀ h' t tk, (∀ b o, s.heap.get? b = some o → h'.get? b = some o) → Q (.str (rp th) t) { s with heap := h', toks := tk }) : wpAny (Mod w) A (call (.builtin "repr") [v]) Q E s := by
  have tk : ∀ t k, Q (.str (rp th) t) { s with toks := k } := fun t k => hQ s.heap t k fun _ _ e => e
  have hc : cLine = 9900 := rfl
  have sm : ∀ a, a ≠ sysModules → sysModules ∉ [a] := fun a e q => e (List.mem_singleton.mp q).symm
  have disp : ∀ {a : Addr} {d : PyData} {as : List Addr}, v = .ref a → Reads s.heap (.ref a) d as → d.showable = true → (d.hasDict = true → sysModules ∉ as) → d.depth ≤ 3 → d.shown.length ≤ sizeLine → rp th = d.shown → wpAny (Mod w) A (call (.builtin "repr") [v]) Q E s := by
    intro a d as e r h1 h2 h3 h4 h5
    subst e
    refine repr_of_reads' r h1 h2 hg (by omega) (fun _ _ e => e) (fun h' u tk hk => ?_) h4
    rw [← h5]
    exact hQ h' u tk hk
  cases th with
  | str x =>
    obtain ⟨t, rfl⟩ := (hv : ∃ t, v = .str x t)
    exact P.repr_of_str (tk _ _) (Nat.le_trans (StrLaws.reprText_len x fun c hc => Nat.lt_of_lt_of_le (alph_lt ((hx x rfl).al c hc)) (by decide)) (Nat.le_trans (Nat.add_le_add_right (Nat.mul_le_mul_left 10 (hx x rfl).len) 2) (by decide)))
  | nul k =>
    match k, hv with
    | 0, hv =>
      obtain rfl := (hv : v = .none)
      exact P.repr_of_none (tk _ _)
    | 1, hv =>
      obtain ⟨t, rfl⟩ := (hv : ∃ t, v = .int 0 t)
      exact P.repr_of_int (by decide) (tk _ _)
    | 2, hv =>
      obtain rfl := (hv : v = .bool false)
      exact P.repr_of_bool (tk _ _)
    | 3, hv =>
      obtain ⟨a, c, e, ho⟩ := (hv : ∃ a c, v = .ref a ∧ s.heap.get? a = some (lstO #[] c))
      exact disp (d := .list []) e (.list (as := []) ho rfl rfl .nil) (by decide) (fun q => by cases q) (by decide) (by decide +kernel) rfl
    | 4, hv =>
      obtain ⟨a, o, e, ho, hd, hsy⟩ := (hv : ∃ a o, v = .ref a ∧ s.heap.get? a = some o ∧ DictS w o [] ∧ a ≠ sysModules)
      exact disp (d := .dict []) e (dict_reads0 ho hd) (by decide) (fun _ => sm a hsy) (by decide) (by decide +kernel) rfl
    | 5, hv =>
      obtain ⟨a, c, e, ho⟩ := (hv : ∃ a c, v = .ref a ∧ s.heap.get? a = some { cls := .type "tuple", data := .seq #[] c })
      exact disp (d := .tuple []) e (.tuple (as := []) ho rfl rfl .nil) (by decide) (fun q => by cases q) (by decide) (by decide +kernel) rfl
    | n + 6, hv =>
      obtain ⟨t, rfl⟩ := (hv : ∃ t, v = .bytes #[] t)
      have e : rp (.nul (n + 6)) = Str.ofString "b''" := by
        show (if n + 6 < 6 then (nulD (n + 6)).shown else Str.ofString "b''") = _
        rw [if_neg (Nat.not_lt.mpr (Nat.le_add_left 6 n))]
      rw [e] at tk
      exact call_repr_gives (T := "bytes") rfl slot_bytes_repr entry_bytes_repr (args_bytes_repr _) (gives_bytes_repr0 t) (tk _ _) (hx := by decide +kernel)
  | hvy k =>
    have kinds : k = 0 ∨ k = 1 ∨ k = 2 ∨ k = 3 ∨ k = 4 ∨ k = 5 := by have := hk k rfl; omega
    rcases kinds with rfl | rfl | rfl | rfl | rfl | rfl
    · obtain ⟨t, rfl⟩ := (hv : ∃ t, v = .int 1 t)
      exact P.repr_of_int (by decide) (tk _ _)
    · obtain rfl := (hv : v = .bool true)
      exact P.repr_of_bool (tk _ _)
    · obtain ⟨t, rfl⟩ := (hv : ∃ t, v = .bytes #[97] t)
      exact call_repr_gives (T := "bytes") rfl slot_bytes_repr entry_bytes_repr (args_bytes_repr _) (gives_bytes_repr1 t) (tk _ _) (hx := by decide +kernel)
    · obtain ⟨a, c, t, e, ho⟩ := (hv : ∃ a c t, v = .ref a ∧ s.heap.get? a = some (lstO #[.str cA t] c))
      exact disp (d := .list [.str cA]) e (.list (as := [] ++ []) ho rfl rfl (.cons (.str _ _) .nil)) (by decide +kernel) (fun q => by cases q) (by decide) (by decide +kernel) rfl
    · obtain ⟨a, c, t, e, ho⟩ := (hv : ∃ a c t, v = .ref a ∧ s.heap.get? a = some { cls := .type "tuple", data := .seq #[.str cA t] c })
      exact disp (d := .tuple [.str cA]) e (.tuple (as := [] ++ []) ho rfl rfl (.cons (.str _ _) .nil)) (by decide +kernel) (fun q => by cases q) (by decide) (by decide +kernel) rfl
    · obtain ⟨a, o, u, e, ho, hd, hsy⟩ := (hv : ∃ a o u, v = .ref a ∧ s.heap.get? a = some o ∧ DictS w o [(cA, .int 1 u)] ∧ a ≠ sysModules)
      exact disp (d := .dict [(.str cA, .int 1)]) e (dict_reads ho hd) (by decide +kernel) (fun _ => sm a hsy) (by decide) (by decide +kernel) rfl
end
end
section
open PySem PySem.W PySem.Calls PyProof.Rows
theorem bytes_no_getattr : typeLookup (.type "bytes") "__getattr__" = pure none := by rw [typeLookup_type, builtinLookup_eq_fast]; kernel_rfl
theorem rd_bytes : typeLookup (.type "bytes") cRead = pure none := am_miss_of_fast (by decide +kernel)
theorem meets_bytes (b : Array UInt8) (t u : Tok) : Meets (Builtin.«object.__getattribute__» ⟨[.bytes b t, .str cRead u], []⟩) (raisesAttr (.bytes b t) cRead) :=
  Meets.of_wp fun prog w A R s hs => by
    obtain ⟨hp, g, d, tk, os⟩ := s
    have hmiss := rd_bytes
    have hT : ∀ s' : Shared, s'.TypeIs (.bytes b t) "bytes" := fun _ => rfl
    unfold Builtin.«object.__getattribute__»
    repeat (any_goals (first | assumption | wp_step))
    exact wpAny_raiseAttrError hs.1 hs.2 (attrMsg_fits (by decide +kernel) rd_len)
section
variable {prog : Program} {w : World} {A : Around} {E : Value → Shared → Prop} {s : Shared} {Q : Value × List Value → Shared → Prop} {pl : Sem Bool}
theorem miss_bytes {b : Array UInt8} {t : Tok} (hA : A.handled = none) (h : ∀ h' tk e, Heap.NewExcOf s.heap h' e "AttributeError" → E (.ref e) { s with heap := h', toks := tk }) : wpAny (model prog w) A (getMethod (.bytes b t) cRead pl) Q E s :=
  miss_any (T := "bytes") (fun _ => rfl) slot_bytes_ga (by decide +kernel) bytes_no_getattr rd_bytes
    (fun tk u Q' E' k => call_meets slot_bytes_ga rfl entry_bytes_ga (args_bytes_ga _ _) (meets_bytes b t _) ⟨hA, fun h' tk' e hx => k h' tk' e hx⟩) h
theorem dict_no_read {a : Addr} {o : Obj} {kvs : List (Str × Value)} (ho : s.heap.get? a = some o) (D : DictS w o kvs) (hA : A.handled = none) (h : ∀ h' tk e, Heap.NewExcOf s.heap h' e "AttributeError" → E (.ref e) { s with heap := h', toks := tk }) : wpAny (model prog w) A (getMethod (.ref a) cRead pl) Q E s := by
  obtain ⟨es, ep, h1, h2, _⟩ := D.is
  obtain ⟨c, d, dt, sl⟩ := o
  obtain ⟨h3, h4, h5⟩ := h1
  simp only at h2 h3 h4 h5
  subst h2 h3 h4 h5
  exact miss_dict ho hA h
theorem no_read {v : Value} {th : Th} (hv : ThV w th v s.heap) (hs : ∀ x, th ≠ .str x) (hn : v ≠ .none) (hk : ∀ k, th = .hvy k → k < 6) (hA : A.handled = none)
    (h : ∀ h' tk e, Heap.NewExcOf s.heap h' e "AttributeError" → E (.ref e) { s with heap := h', toks := tk }) : wpAny (model prog w) A (getMethod v cRead pl) Q E s := by
  cases th with
  | str x => exact absurd rfl (hs x)
  | nul k =>
    match k, hv with
    | 0, hv => exact absurd (hv : v = .none) hn
    | 1, hv =>
      obtain ⟨t, rfl⟩ := (hv : ∃ t, v = .int 0 t)
      exact miss_int hA h
    | 2, hv =>
      obtain rfl := (hv : v = .bool false)
      exact miss_bool hA h
    | 3, hv =>
      obtain ⟨a, c, rfl, ho⟩ := (hv : ∃ a c, v = .ref a ∧ s.heap.get? a = some (lstO #[] c))
      exact miss_list ho hA h
    | 4, hv =>
      obtain ⟨a, o, rfl, ho, hd, hsy⟩ := (hv : ∃ a o, v = .ref a ∧ s.heap.get? a = some o ∧ DictS w o [] ∧ a ≠ sysModules)
      exact dict_no_read ho hd hA h
    | 5, hv =>
      obtain ⟨a, c, rfl, ho⟩ := (hv : ∃ a c, v = .ref a ∧ s.heap.get? a = some { cls := .type "tuple", data := .seq #[] c })
      exact miss_tuple ho hA h
    | n + 6, hv =>
      obtain ⟨t, rfl⟩ := (hv : ∃ t, v = .bytes #[] t)
      exact miss_bytes hA h
  | hvy k =>
    have hk6 := hk k rfl
    match k, hv with
    | 0, hv =>
      obtain ⟨t, rfl⟩ := (hv : ∃ t, v = .int 1 t)
      exact miss_int hA h
    | 1, hv =>
      obtain rfl := (hv : v = .bool true)
      exact miss_bool hA h
    | 2, hv =>
      obtain ⟨t, rfl⟩ := (hv : ∃ t, v = .bytes #[97] t)
      exact miss_bytes hA h
    | 3, hv =>
      obtain ⟨a, c, t, rfl, ho⟩ := (hv : ∃ a c t, v = .ref a ∧ s.heap.get? a = some (lstO #[.str cA t] c))
      exact miss_list ho hA h
    | 4, hv =>
      obtain ⟨a, c, t, rfl, ho⟩ := (hv : ∃ a c t, v = .ref a ∧ s.heap.get? a = some { cls := .type "tuple", data := .seq #[.str cA t] c })
      exact miss_tuple ho hA h
    | n + 5, hv =>
      obtain ⟨a, o, u, rfl, ho, hd, hsy⟩ := (hv : ∃ a o u, v = .ref a ∧ s.heap.get? a = some o ∧ DictS w o [(cA, .int 1 u)] ∧ a ≠ sysModules)
      exact dict_no_read ho hd hA h
end
end
section
open PySem PySem.W PySem.Calls PyProof.Rows
theorem fresh_at {s : Shared} {g h : Heap} {L L' a : Addr} {o : Obj} {news : List (Addr × Obj)} (B : Bs [] s g L) (N : News g L' h news) (hm : (a, o) ∈ news) : s.heap.get? a = none := by
  cases e : s.heap.get? a with
  | none => rfl
  | some o' =>
    have z := B.into a o' (fun q => nomatch q) e
    rw [N.fresh hm] at z
    cases z
noncomputable abbrev Hi (s : Shared) (v : Value) : Prop := ∀ a : Addr, v = .ref a → s.heap.get? a = none
theorem thing_empty {w : World} {outer : List Env} {s : Shared} {n : Int} {t : Tok} {R : Result → Shared → Prop} (G : Gd w outer s.heap) (h0 : 0 ≤ n) (h1 : n < 100000) (hk : n.fmod 6 = 3)
    (hQ : ∀ s' t, Mv [] s s' → R (.ok (.ret (.str cE t))) s') :
    codeAny (Mod w) (AT 440 1400 outer) (.call (.ref 764) ⟨[.int n t], []⟩) R s := by
  refine' enterP [] G ?hm ?k6 ?k7 ?k8 ?k9 ?kB ?_ ?c2 ?c3 ?c4 ?c5
  case hm => intro p hp; cases hp
  (((case k6 => k_is); (case k7 => k_is); (case k8 => decide); (case k9 => first | exact BindsTo.of_eq rfl | exact binds_K (Gd.X (by assumption)) rfl (by k_is) rfl rfl rfl); (case kB => exact locs rfl); (case c2 => exact rfl); (case c3 => exact rfl); (case c4 => exact rfl); (case c5 => decide)))
  intro g L' h' lo mg mb F N B X T Bz _ Gg hLb
  (try dsimp only)
  (try k_fold)
  k_steps
  all_goals ((try dsimp only); (try (k_unfold; dsimp only)))
  all_goals exact hQ _ _ (Bz.mv (by assumption))
theorem thing_nul {w : World} {outer : List Env} {s : Shared} {n : Int} {t : Tok} {R : Result → Shared → Prop} (G : Gd w outer s.heap) (h0 : 0 ≤ n) (h1 : n < 100000) (hk : n.fmod 6 = 4)
    (hQ : ∀ s' v, Mv [] s s' → ThV w (.nul ((n.fdiv 6).fmod 7).toNat) v s'.heap → Hi s v → R (.ok (.ret v)) s') :
    codeAny (Mod w) (AT 440 1400 outer) (.call (.ref 764) ⟨[.int n t], []⟩) R s := by
  refine' enterP [] G ?hm ?k6 ?k7 ?k8 ?k9 ?kB ?_ ?c2 ?c3 ?c4 ?c5
  case hm => intro p hp; cases hp
  (((case k6 => k_is); (case k7 => k_is); (case k8 => decide); (case k9 => first | exact BindsTo.of_eq rfl | exact binds_K (Gd.X (by assumption)) rfl (by k_is) rfl rfl rfl); (case kB => exact locs rfl); (case c2 => exact rfl); (case c3 => exact rfl); (case c4 => exact rfl); (case c5 => decide)))
  intro g L' h' lo mg mb F N B X T Bz _ Gg hLb
  (try dsimp only)
  (try k_fold)
  k_steps
  all_goals first
    | (exfalso; omega)
    | skip
  all_goals ((try dsimp only); (try (k_unfold; dsimp only)))
  all_goals refine hQ _ _ (Bz.mv (by assumption)) ?_ ?_
  · rw [show ((n.fdiv 6).fmod 7).toNat = 0 by omega]; exact rfl
  · exact fun _ e => nomatch e
  · rw [show ((n.fdiv 6).fmod 7).toNat = 1 by omega]; exact ⟨_, rfl⟩
  · exact fun _ e => nomatch e
  · rw [show ((n.fdiv 6).fmod 7).toNat = 2 by omega]; exact rfl
  · exact fun _ e => nomatch e
  · rw [show ((n.fdiv 6).fmod 7).toNat = 3 by omega]; exact ⟨_, _, rfl, News.get (by assumption) (by ((repeat (first | exact List.Mem.head _ | apply List.Mem.tail))))⟩
  · exact fun _ e => by cases e; exact fresh_at Bz (by assumption) (by ((repeat (first | exact List.Mem.head _ | apply List.Mem.tail))))
  · rw [show ((n.fdiv 6).fmod 7).toNat = 4 by omega]; exact ⟨_, _, rfl, News.get (by assumption) (by ((repeat (first | exact List.Mem.head _ | apply List.Mem.tail)))), ⟨by assumption⟩, ne_of_beq_false (by assumption)⟩
  · exact fun _ e => by cases e; exact fresh_at Bz (by assumption) (by ((repeat (first | exact List.Mem.head _ | apply List.Mem.tail))))
  · rw [show ((n.fdiv 6).fmod 7).toNat = 5 by omega]; exact ⟨_, _, rfl, News.get (by assumption) (by ((repeat (first | exact List.Mem.head _ | apply List.Mem.tail))))⟩
  · exact fun _ e => by cases e; exact fresh_at Bz (by assumption) (by ((repeat (first | exact List.Mem.head _ | apply List.Mem.tail))))
  · rw [show ((n.fdiv 6).fmod 7).toNat = 6 by omega]; exact ⟨_, rfl⟩
  · exact fun _ e => nomatch e
end
section
open PySem PySem.W PySem.Calls PyProof.Rows
local macro_rules | `(tactic| walk_at "eval Dict") => `(tactic| (k_here; k_dflt (refine' kdn_str ?q ?F ?N ?b ?a ?l ?e ?n ?_; (case q => rfl); (case F => k_asm); (case N => k_asm); (case b => exact TopRead.nolimit (by k_asm)); (case a => rfl); (case l => rfl); (case e => exact List.cons_ne_nil _ _); (case n => exact Nat.le_of_ble_eq_true rfl)); intro d' h' o' F' N' l1 lo' hd'; (try k_lt l1)))
theorem thing_hvy {w : World} {outer : List Env} {s : Shared} {n : Int} {t : Tok} {R : Result → Shared → Prop} (G : Gd w outer s.heap) (h0 : 0 ≤ n) (h1 : n < 100000) (hk : n.fmod 6 = 5)
    (hQ : ∀ s' v, Mv [] s s' → ThV w (.hvy ((n.fdiv 6).fmod 6).toNat) v s'.heap → Hi s v → R (.ok (.ret v)) s') :
    codeAny (Mod w) (AT 440 1400 outer) (.call (.ref 764) ⟨[.int n t], []⟩) R s := by
  refine' enterP [] G ?hm ?k6 ?k7 ?k8 ?k9 ?kB ?_ ?c2 ?c3 ?c4 ?c5
  case hm => intro p hp; cases hp
  (((case k6 => k_is); (case k7 => k_is); (case k8 => decide); (case k9 => first | exact BindsTo.of_eq rfl | exact binds_K (Gd.X (by assumption)) rfl (by k_is) rfl rfl rfl); (case kB => exact locs rfl); (case c2 => exact rfl); (case c3 => exact rfl); (case c4 => exact rfl); (case c5 => decide)))
  intro g L' h' lo mg mb F N B X T Bz _ Gg hLb
  (try dsimp only)
  (try k_fold)
  k_steps
  all_goals first
    | (exfalso; omega)
    | skip
  all_goals ((try dsimp only); (try (k_unfold; dsimp only)))
  all_goals refine hQ _ _ (Bz.mv (by assumption)) ?_ ?_
  · rw [show ((n.fdiv 6).fmod 6).toNat = 0 by omega]; exact ⟨_, rfl⟩
  · exact fun _ e => nomatch e
  · rw [show ((n.fdiv 6).fmod 6).toNat = 1 by omega]; exact rfl
  · exact fun _ e => nomatch e
  · rw [show ((n.fdiv 6).fmod 6).toNat = 2 by omega]; exact ⟨_, rfl⟩
  · exact fun _ e => nomatch e
  · rw [show ((n.fdiv 6).fmod 6).toNat = 3 by omega]; exact ⟨_, _, _, rfl, News.get (by assumption) (by ((repeat (first | exact List.Mem.head _ | apply List.Mem.tail))))⟩
  · exact fun _ e => by cases e; exact fresh_at Bz (by assumption) (by ((repeat (first | exact List.Mem.head _ | apply List.Mem.tail))))
  · rw [show ((n.fdiv 6).fmod 6).toNat = 4 by omega]; exact ⟨_, _, _, rfl, News.get (by assumption) (by ((repeat (first | exact List.Mem.head _ | apply List.Mem.tail))))⟩
  · exact fun _ e => by cases e; exact fresh_at Bz (by assumption) (by ((repeat (first | exact List.Mem.head _ | apply List.Mem.tail))))
  · rw [show ((n.fdiv 6).fmod 6).toNat = 5 by omega]; exact ⟨_, _, _, rfl, News.get (by assumption) (by ((repeat (first | exact List.Mem.head _ | apply List.Mem.tail)))), ⟨by assumption⟩, ne_of_beq_false (by assumption)⟩
  · exact fun _ e => by cases e; exact fresh_at Bz (by assumption) (by ((repeat (first | exact List.Mem.head _ | apply List.Mem.tail))))
end
section
open PySem PySem.W PySem.Calls PyProof.Rows
section
variable {M : Model} {A : Around} {E : Value → Shared → Prop} {s : Shared} {K : Frag} {h₀ : Heap} {L C : Addr} {m m₂ mg mb : Str → Option Value} {scope : Scope} {cl : List (Str × Addr)} {env : Env} {p : Program} {loose : List Str} {x : Str} {pos : Pos} {v : Value} {Q : Value → Shared → Prop}
theorem ld_globalR (F : Fr h₀ L s.heap m) (X : K.In h₀) (T : TopRead p loose mg mb h₀) (e : nsIn K mainGlobals x = some (some v)) (h : Q v s) (hg : env.globals = mainGlobals := by rfl)
    (hk : (compEnvC scope cl C env).scope.kind = .function := by rfl) (hx : (compEnvC scope cl C env).kindOf x = some .globalImplicit := by rfl) (hd : (x == ("__debug__" : Str)) = false := by decide) :
    wpAny M A (eval (.Name x pos) (compEnvC scope cl C env)) Q E s :=
  Name_function_global hk hx (loadGlobal_global (env := compEnvC scope cl C env) (show s.heap.Ns env.globals mg from hg ▸ (T.keeps F.keep).g) (mg_of X T.g e) h) hd
theorem ld_builtR (F : Fr h₀ L s.heap m) (X : K.In h₀) (T : TopRead p loose mg mb h₀) (e : nsIn K mainGlobals x = some none) (hv : bootBuiltins x = some v) (hn : x ≠ "__name__") (h : Q v s) (hg : env.globals = mainGlobals := by rfl) (hb : env.builtins = builtinsNs := by rfl)
    (hk : (compEnvC scope cl C env).scope.kind = .function := by rfl) (hx : (compEnvC scope cl C env).kindOf x = some .globalImplicit := by rfl) (hd : (x == ("__debug__" : Str)) = false := by decide) :
    wpAny M A (eval (.Name x pos) (compEnvC scope cl C env)) Q E s :=
  Name_function_global hk hx (loadGlobal_builtin (env := compEnvC scope cl C env) (show s.heap.Ns env.globals mg from hg ▸ (T.keeps F.keep).g) (mg_none_of X T.g e) (show s.heap.Ns env.builtins mb from hb ▸ (T.keeps F.keep).b) ((T.builtins x hn).trans hv) h) hd
end
section
variable {prog : Program} {w : World} {A : Around} {E : Value → Shared → Prop} {s : Shared} {h₀ : Heap} {L : Addr} {m : Str → Option Value} {env : Env}
theorem ListComp_S {elt iter : Expr} {x : Str} {px : Pos} {scope : Scope} {cl : List (Str × Addr)} {pos : Pos} {Q : Value → Shared → Prop} (_ : Fr h₀ L s.heap m)
    (hclos : closureFor scope env = pure cl) (hcell : ∀ y ∈ scope.names, y.2 ≠ .cell) (hkind : scope.kind = .function)
    (hnames : ∀ y ∈ scope.names, y.2 = .local → scope.names.lookup y.1 = some .local) (hx : scope.names.lookup x = some .local)
    (h : wpAny (model prog w) A (eval iter env) (fun xv s₁ => ∃ tx t news, xv = .str tx t ∧ A.handled = none ∧ Fr h₀ L s₁.heap m ∧ News h₀ L s₁.heap news ∧ tx.cps.size ≤ sizeLine ∧
      ∀ s₂ : Shared, (∃ h, s₂ = { s₁ with heap := h }) → LCg.CompRest prog w A h₀ L m env elt x scope cl s₂ (fun _ => True) (SignAt tx) (LCg.FinE h₀ L m s₂ Q) tx.cps.size 0 [] news) E s)
    (hs : ∀ x, foldedSetIterable iter env x = pure x := by intro _; rfl) :
    wpAny (model prog w) A (eval (.ListComp elt [⟨.Name x px, iter, [], 0⟩] scope pos) env) Q E s := by
  rw [eval_ListComp]
  refine wpAny_comprehension_free (use := none) rfl hs hclos hkind hnames (wpAny_mono h (fun xv s₁ h₁ => ?_) fun _ _ e => e)
  obtain ⟨tx, t, news, rfl, hh, F, N, hsz, R⟩ := h₁
  have go : ∀ (kind : String) (W : Walks prog w A s₁.heap.objs.size [s₁.heap.objs.size] [s₁.heap.objs.size] tx.cps.size (SignAt tx) (fun i h => h.IsStrIter s₁.heap.objs.size kind tx t i)) (o : Obj) (_ : o.alive = true)
      (_ : (s₁.heap.push o).IsStrIter s₁.heap.objs.size kind tx t 0), _ := fun kind W o _ st => by
    have up : ∀ b q, s₁.heap.get? b = some q → (s₁.heap.push o).get? b = some q := fun b q e => Heap.get?_push_of_some _ e
    exact LCg.block_U (prog := prog) (w := w) (A := A) (E := E) (s₂ := { s₁ with heap := s₁.heap.push o }) (elt := elt) (iter := iter) (x := x) (px := px) (scope := scope) (cl := cl) (pos := pos) (env := env) (m := m) (h₀ := h₀) (L := L) (S := fun _ => True)
      (Fin := LCg.FinE h₀ L m { s₁ with heap := s₁.heap.push o } Q) (news := news)
      (RR := fun acc C => compPost (model prog w) A E none Q acc C)
      W hsz (fun i h st => by obtain ⟨o, e, _⟩ := st; exact ⟨o, e⟩)
      (fun i h h' o nw st e e' _ _ _ => by obtain ⟨o', q, r⟩ := st; rw [e] at q; cases q; exact ⟨o, e', r⟩) hcell hkind hx st (fun b hb => by
        rw [List.mem_singleton.mp hb]
        show s₁.heap.objs.size < (s₁.heap.push _).objs.size
        rw [Heap.size_push]; exact Nat.lt_succ_self _)
      (F.keeps up) (N.grown up) (Nat.ne_of_lt F.ns.lt) (next_is_new F) (fun p hp => Nat.ne_of_lt (Heap.lt_size (N p hp).1)) trivial (R _ ⟨_, rfl⟩)
      (fun D C h tk m' ys news' F' N' o1 hn hC₀ hD₀ hCL hDL hCD offC fin =>
        ⟨m', hn, fun h'' hs'' => fin D h'' tk (F'.change hs'' hCL hC₀) (fun p hp => ⟨hs''.extBut _ _ (by
          rcases List.mem_cons.mp hp with rfl | hp
          · exact Ne.symm hCD
          · exact offC p hp) (N' p hp).1, (N' p hp).2⟩) o1⟩)
  cases ha : tx.cps.all (· < 128)
  · exact wpAny_pyIter_wide ha (go "str_iterator" (Walks.strWide hh _ tx t) { cls := .type "str_iterator", data := .fields #[.str tx t, .int 0 0] } rfl ⟨_, Heap.get?_push_size _ rfl, rfl, rfl⟩)
  · exact wpAny_pyIter_ascii ha (go "str_ascii_iterator" (Walks.strAscii hh _ tx t) { cls := .type "str_ascii_iterator", data := .fields #[.str tx t, .int 0 0] } rfl ⟨_, Heap.get?_push_size _ rfl, rfl, rfl⟩)
theorem rest_inv {elt : Expr} {x : Str} {scope : Scope} {cl : List (Str × Addr)} {S : List (Addr × Obj) → Prop} {P : Nat → Value → Prop} {Fin : List Value → List (Addr × Obj) → Prop} {n : Nat} (Inv : Nat → List Value → List (Addr × Obj) → Prop)
    (turn : ∀ i ys news v I oI C oC D m₂ h tk (E' : Value → Shared → Prop), i < n → Inv i ys news → P i v → LCg.NsObj oC m₂ → m₂ x = some v → Fr h₀ L h m → News h₀ L h ((I, oI) :: (C, oC) :: (D, LCg.lst ys) :: news) → LCg.Off3 I C D news → ((@Ne Nat I C) ∧ (@Ne Nat I D) ∧ (@Ne Nat C D)) →
      wpAny (model prog w) A (eval elt (compEnvC scope cl C env)) (LCg.CompEnd h₀ L m { s with heap := h, toks := tk } I oI C oC D (LCg.lst ys) S (fun y news' => Inv (i + 1) (ys ++ [y]) news')) E' { s with heap := h, toks := tk })
    (fin : ∀ ys news, Inv n ys news → Fin ys news) : ∀ j i ys news, i + j = n → Inv i ys news → LCg.CompRest prog w A h₀ L m env elt x scope cl s S P Fin j i ys news
  | 0, i, ys, news, hi, h => LCg.CompRest.zero (fin ys news (by
      have e : i = n := hi
      rw [← e]; exact h))
  | j + 1, i, ys, news, hi, h => LCg.CompRest.succ fun v I oI C oC D m₂ h₁ tk E' hv hC hx F N off ne =>
      wpAny_mono (turn i ys news v I oI C oC D m₂ h₁ tk E' (by omega) h hv hC hx F N off ne) (fun y s₂ hq => by
        obtain ⟨h', tk', nw, e, F', N', off', hS, hI⟩ := hq
        exact ⟨h', tk', nw, e, F', N', off', hS, rest_inv Inv turn fin j (i + 1) _ _ (by omega) hI⟩) fun _ _ e => e
end
end
section
open PySem.Calls
local macro_rules | `(tactic| walk_at "eval Name") => `(tactic| (k_here; (with_reducible show wpAny _ _ (eval (PySem.Expr.Name _ _) (compEnvC _ _ _ _)) _ _ _); k_dflt (first
  | refine ld_globalR (by k_asm) (by k_asm) (by k_asm) (by k_is) ?_
  | refine ld_builtR (by k_asm) (by k_asm) (by k_asm) (by k_is) (by boot_by_name) (by decide) ?_)))
section
open PySem PySem.W PySem.Calls PyProof.Rows
theorem plain_unchain : plainId "proto.unchain" = true := by decide +kernel
theorem entry_unchain : entryFor table "proto.unchain" = some Builtin.«proto.unchain» := entryFor_of_fast (by kernel_rfl)
theorem bump {h : Heap} {P : Nat → Prop} (q : P h.objs.size) : P h.objs.size := q
section
variable {prog : Program} {w : World} {A : Around} {E : Value → Shared → Prop} {s : Shared} {I l x : Addr} {vs : Array Value} {i n : Nat}
theorem raise_h {α : Type} {Q : α → Shared → Prop} {a : Addr} {oa : Obj} {va : Array Value} (hh : A.handled = some (.ref x)) (hc : CtxN s.heap x) (ha : s.heap.get? a = some oa) (hd : oa.data = .fields va) (h2 : 2 < va.size) (hne : x ≠ a)
    (h : E (.ref a) { s with heap := s.heap.update a (Obj.mapFields (·.setIfInBounds 2 (.ref x))) }) : wpAny (model prog w) A (raiseNew (.ref a) : Sem α) Q E s := by
  obtain ⟨oe, ve, he, hde, hv⟩ := hc
  unfold raiseNew
  refine wpAny_bind (wpAny_handled ?_)
  rw [hh]
  dsimp only
  rw [if_pos (show (Value.ref x != Value.ref a) = true by simpa using hne)]
  refine wpAny_bind (wpAny_holding (wpAny_runValue (codeAny_builtin entry_unchain ?_)))
  rw [Around.under_plainId plain_unchain _]
  show wpAny _ A.in1 (field (.ref x) 2 >>= _) _ _ s
  refine wpAny_bind (wpAny_field he hde hv ?_)
  rw [if_pos (by rfl)]
  refine wpAny_pure ?_
  refine wpAny_bind ?_
  unfold updateField
  refine wpAny_bind (wpAny_load ha ?_)
  rw [hd]
  simp only [h2, if_true]
  exact wpAny_update ha (wpAny_throw h)
theorem stop_iter_h {α : Type} {Q : α → Shared → Prop} {E' : Value → Shared → Prop} (hh : A.handled = some (.ref x)) (hc : CtxN s.heap x) (h : ∀ h' e, (∀ b o, s.heap.get? b = some o → h'.get? b = some o) → s.heap.objs.size ≤ h'.objs.size → ({ s with heap := h' } : Shared).TypeIs (.ref e) "StopIteration" → E' (.ref e) { s with heap := h' }) :
    wpAny (model prog w) A (Builtin.SmallTypes.stopIteration : Sem α) Q E' s := by
  show wpAny _ _ (newExc (.type "StopIteration") [] >>= _) _ _ _
  refine wpAny_bind ?_
  simp only [newExc, newTuple]
  refine wpAny_bind (wpAny_newObj_type ?_ (by size_fits))
  refine wpAny_bind (m := firstArgMember _ _) (wpAny_of_eq (a := Value.none) (by first | rfl | (simp only [firstArgMember]; rfl)) ?_)
  refine wpAny_newObj_type ?_ (by size_fits)
  have hx : x < s.heap.objs.size := by obtain ⟨_, _, he, _⟩ := hc; exact Heap.lt_size he
  have up : ∀ (o o' : Obj) (b : Addr) (z : Obj), s.heap.get? b = some z → ((s.heap.push o).push o').get? b = some z := fun o o' b z q => Heap.get?_push_of_some _ (Heap.get?_push_of_some _ q)
  refine raise_h hh (by obtain ⟨oe, ve, he, r⟩ := hc; exact ⟨oe, ve, up _ _ _ _ he, r⟩) (Heap.get?_push_size _ rfl) rfl (by simp only [Array.size_append, List.size_toArray, List.length_cons, List.length_nil]; omega) (by rw [Heap.size_push]; exact Nat.ne_of_lt (Nat.lt_succ_of_lt hx)) ?_
  refine h _ _ (fun b o e => ?_) ?_ ⟨_, Heap.get?_update_self _ (Heap.get?_push_size _ rfl) (Obj.isFreed_of_fields (Obj.data_mapFields rfl _)), Obj.cls_mapFields ..⟩
  · exact (Heap.get?_update_other _ _ (by rw [Heap.size_push]; exact Nat.ne_of_gt (Nat.lt_succ_of_lt (Heap.lt_size e)))).trans (up _ _ b o e)
  · rw [(Heap.SameBut.update ..).1, Heap.size_push, Heap.size_push]
    omega
theorem it_done_h {Q : Option Value → Shared → Prop} (hh : A.handled = some (.ref x)) (hc : CtxN s.heap x) (hxI : x ≠ I) (hit : It s.heap I l vs.size vs.size) (hl : s.heap.IsList l vs)
    (hQ : ∀ h', It h' I l vs.size vs.size → Heap.ExtBut I s.heap h' → s.heap.objs.size ≤ h'.objs.size → Q none { s with heap := h' }) : wpAny (model prog w) A (pyNext (.ref I)) Q E s := by
  have hT : s.TypeIs (.ref I) "list_iterator" := It.type hit
  unfold pyNext
  refine wpAny_bind (wpAny_attempt (wpAny_callSpecial?_slot (name := Str.ofString "__next__") hT slot_listiter_next
    (wpAny_call_entry slot_listiter_next hT entry_listiter_next ?_ (args_listiter_next _))))
  show wpAny _ _ (field (.ref I) 0 >>= _) _ _ s
  rcases hit.at_ with ⟨_, o, ho, hcl, hd⟩ | ⟨_, o, y, ho, hcl, hd⟩
  · obtain ⟨ol, hol, _, nl, hdl⟩ := hl
    refine wpAny_bind (wpAny_field ho hd (x := .ref l) rfl ?_)
    show wpAny _ _ (if (Value.ref l == Value.none) = true then _ else _) _ _ s
    rw [if_neg (show ¬ ((Value.ref l == Value.none) = true) from Bool.false_ne_true)]
    show wpAny _ _ (field (.ref I) 1 >>= _) _ _ s
    refine wpAny_bind (wpAny_field ho hd (x := .int vs.size 0) rfl ?_)
    show wpAny _ _ (seqItems? (.ref l) >>= _) _ _ s
    refine wpAny_bind (wpAny_seqItems hol hdl ?_)
    simp only [Int.toNat_natCast, Array.getElem?_eq_none (Nat.le_refl _)]
    refine wpAny_bind (wpAny_rule (wpAny_bind (wpAny_setField ho hd (by simp) ?_)))
    have hself := Heap.get?_update_self (h := s.heap) (Obj.mapFields (·.setIfInBounds 0 Value.none)) ho (Obj.isFreed_of_fields (Obj.data_mapFields hd _))
    have hsb := Heap.SameBut.update s.heap I (Obj.mapFields (·.setIfInBounds 0 Value.none))
    generalize s.heap.update I (Obj.mapFields (·.setIfInBounds 0 Value.none)) = H at hself hsb ⊢
    refine stop_iter_h (s := { s with heap := H }) hh (by obtain ⟨oe, ve, he, r⟩ := hc; exact ⟨oe, ve, hsb.extBut x oe hxI he, r⟩) fun h' e k sz te => ?_
    refine wpAny_bind (wpAny_isInstance (T := "StopIteration") (b := true) te isSubtype_stop ?_)
    refine wpAny_pure (hQ h' ⟨.inr ⟨rfl, _, .int vs.size 0, k _ _ hself, (Obj.cls_mapFields ..).trans hcl, by rw [Obj.data_mapFields hd]; simp⟩⟩ (fun b o hb e => k _ _ (hsb.extBut b o hb e)) ?_)
    have := hsb.1
    have sz' : H.objs.size ≤ h'.objs.size := sz
    omega
  · refine wpAny_bind (wpAny_field ho hd (x := .none) rfl ?_)
    show wpAny _ _ (if (Value.none == Value.none) = true then _ else _) _ _ s
    rw [if_pos (by rfl)]
    refine wpAny_bind (wpAny_rule ?_)
    refine wpAny_bind (stop_iter_h hh hc fun h' e k sz te => ?_)
    refine wpAny_bind (wpAny_isInstance (T := "StopIteration") (b := true) te isSubtype_stop ?_)
    exact wpAny_pure (hQ h' ⟨.inr ⟨rfl, o, y, k _ _ ho, hcl, hd⟩⟩ (fun b o hb e => k _ _ e) sz)
theorem next_h {dflt : Value} {Q : Value → Shared → Prop} (hh : A.handled = some (.ref x)) (hc : CtxN s.heap x) (hxI : x ≠ I) (hit : It s.heap I l vs.size i) (hl : s.heap.IsList l vs)
    (h1 : ∀ h', i < vs.size → It h' I l vs.size (i + 1) → Heap.ExtBut I s.heap h' → Q (vs.getD i .none) { s with heap := h' })
    (h2 : ∀ h', i = vs.size → It h' I l vs.size vs.size → Heap.ExtBut I s.heap h' → Q dflt { s with heap := h' }) :
    wpAny (model prog w) A (call (.builtin "next") [.ref I, dflt]) Q E s := by
  have hT : s.TypeIs (.ref I) "list_iterator" := It.type hit
  refine call_function_entry (by decide +kernel) (by decide +kernel) kdk_entry_next (kdk_args_next2 _ _) ?_
  unfold Builtin.«next»
  refine wpAny_bind (m := someArgs "next" 1 2 _) (wpAny_of_eq (a := [Value.ref I, dflt]) (by first | rfl | kernel_rfl!) ?_)
  dsimp only
  refine wpAny_bind (wpAny_specialOf (name := Str.ofString "__next__") hT slot_listiter_next.lookup ?_)
  refine wpAny_ite_split (fun hab => absurd hab (by decide)) (fun _ => ?_)
  have hle := hit.le
  by_cases hi : i < vs.size
  · exact wpAny_bind (it_item hit hl hi fun h' it hs => wpAny_pure ⟨_, rfl, h1 h' hi it hs.extBut⟩)
  · have e : i = vs.size := Nat.le_antisymm hle (Nat.le_of_not_lt hi)
    subst e
    exact wpAny_bind (it_done_h hh hc hxI hit hl fun h' it hs _ => wpAny_pure ⟨_, rfl, h2 h' rfl it hs⟩)
end
end
section
open PySem PySem.W PySem.Calls PyProof.Rows
theorem sign_ok {x : Str} (hx : Wd x) (p : Str → Bool) : OkL ((signs x).filter p) := fun y hy => by
  have hm := (List.mem_filter.mp hy).1
  obtain ⟨c, hc, rfl⟩ := List.mem_map.mp (show y ∈ x.cps.toList.map fun k => (⟨#[k]⟩ : Str) from hm)
  have := alph_lt (hx.al c hc)
  show (#[c] : Array Nat).all (· < 0x110000) = true
  simp
  omega
theorem occ_sign {c : Nat} (h : c ∈ alph) : (Builtin.Str.occurrences (Str.ofString "a-") ⟨#[c]⟩ 0 (Str.ofString "a-").length 1).isEmpty = !(c == 97 || c == 45) := by
  simp only [alph, List.mem_cons, List.not_mem_nil, or_false] at h
  rcases h with rfl | rfl | rfl | rfl | rfl | rfl | rfl | rfl | rfl | rfl <;> decide +kernel
theorem none_unsafe {x : Str} (hx : Wd x) : decide (List.filter (fun a => !!(Builtin.Str.occurrences (Str.ofString "a-") a 0 (Str.ofString "a-").length 1).isEmpty) (signs x) = []) = safe x := by
  have key : ∀ l : List Nat, (∀ c ∈ l, c ∈ alph) → decide (List.filter (fun a => !!(Builtin.Str.occurrences (Str.ofString "a-") a 0 (Str.ofString "a-").length 1).isEmpty) (l.map fun k => (⟨#[k]⟩ : Str)) = []) = l.all fun c => c == 97 || c == 45 := by
    intro l
    induction l with
    | nil => intro _; rfl
    | cons c l ih =>
      intro h
      have ih := ih fun d hd => h d (.tail _ hd)
      rw [List.map_cons, List.all_cons]
      by_cases hc : (c == 97 || c == 45) = true
      · rw [List.filter_cons_of_neg (by rw [occ_sign (h c (.head _)), hc]; decide), ih, hc, Bool.true_and]
      · rw [List.filter_cons_of_pos (by rw [occ_sign (h c (.head _))]; simpa using hc)]
        simp only [Bool.not_eq_true] at hc
        rw [hc, Bool.false_and]
        simp
  exact key x.cps.toList hx.al
theorem esc_carried {x : Str} {ys : List Value} (h : CarriedAll ys (List.map (fun a => if (a == Str.ofString "'") = true then PyData.str (Str.ofString "'\"'\"'") else PyData.str a) (List.filter (fun _ => true) (signs x)))) :
    StrsAre ys ((signs x).map fun a => if (a == Str.ofString "'") = true then Str.ofString "'\"'\"'" else a) := by
  refine ks_strs ?_
  rw [List.map_map]
  have e : List.filter (fun _ => true) (signs x) = signs x := List.filter_eq_self.mpr fun _ _ => rfl
  rw [e] at h
  have e2 : (PyData.str ∘ fun a => if (a == Str.ofString "'") = true then Str.ofString "'\"'\"'" else a) = fun a => if (a == Str.ofString "'") = true then PyData.str (Str.ofString "'\"'\"'") else PyData.str a := by
    funext a
    show PyData.str (if (a == Str.ofString "'") = true then Str.ofString "'\"'\"'" else a) = _
    split <;> rfl
  rw [e2]
  exact h
theorem join_flat : ∀ ys : List Str, (Str.join (Str.ofString "") ys).cps.toList = ys.flatMap fun y => y.cps.toList
  | [] => rfl
  | [y] => by simp [Str.join]
  | y :: z :: r => by
    have ih := join_flat (z :: r)
    show (y.cps ++ (Str.ofString "").cps ++ (Str.join (Str.ofString "") (z :: r)).cps).toList = _
    rw [Array.toList_append, Array.toList_append, ih]
    have e : (Str.ofString "").cps.toList = [] := by decide +kernel
    rw [e, List.append_nil]
    rfl
theorem esc_flat (x : Str) : (Str.join (Str.ofString "") ((signs x).map fun a => if (a == Str.ofString "'") = true then Str.ofString "'\"'\"'" else a)).cps.toList = x.cps.toList.flatMap escC := by
  rw [join_flat]
  show ((x.cps.toList.map fun k => (⟨#[k]⟩ : Str)).map _).flatMap _ = _
  rw [List.map_map, List.flatMap_map]
  congr 1
  funext k
  show (if ((⟨#[k]⟩ : Str) == Str.ofString "'") = true then Str.ofString "'\"'\"'" else (⟨#[k]⟩ : Str)).cps.toList = escC k
  have e39 : Str.ofString "'" = ⟨#[39]⟩ := by decide +kernel
  have e5 : (Str.ofString "'\"'\"'").cps.toList = [39, 34, 39, 34, 39] := by decide +kernel
  by_cases h : k = 39
  · subst h
    rw [e39, if_pos (by simp), e5]
    rfl
  · rw [if_neg (by rw [e39]; simpa using h)]
    unfold escC
    rw [if_neg h]
theorem esc_len {x : Str} (h : x.length ≤ 3) : (Txt.join (Str.ofString "") ((signs x).map fun a => if (a == Str.ofString "'") = true then Str.ofString "'\"'\"'" else a)).length ≤ 15 := by
  rw [show Txt.join (Str.ofString "") ((signs x).map fun a => if (a == Str.ofString "'") = true then Str.ofString "'\"'\"'" else a) = Str.join (Str.ofString "") ((signs x).map fun a => if (a == Str.ofString "'") = true then Str.ofString "'\"'\"'" else a) from StrLaws.glued_eq_join _ _]
  show (Str.join _ _).cps.size ≤ 15
  rw [← Array.length_toList, esc_flat]
  have := flat_len x.cps.toList
  have e : x.cps.toList.length = x.length := Array.length_toList
  omega
theorem spelled_eq {x : Str} (h : safe x = false) : Str.ofString "'" ++ Txt.join (Str.ofString "") ((signs x).map fun a => if (a == Str.ofString "'") = true then Str.ofString "'\"'\"'" else a) ++ Str.ofString "'" = spell x := by
  rw [show Txt.join (Str.ofString "") ((signs x).map fun a => if (a == Str.ofString "'") = true then Str.ofString "'\"'\"'" else a) = Str.join (Str.ofString "") ((signs x).map fun a => if (a == Str.ofString "'") = true then Str.ofString "'\"'\"'" else a) from StrLaws.glued_eq_join _ _]
  unfold spell
  rw [if_neg (by rw [h]; simp)]
  have e : (Str.ofString "'").cps = #[39] := by decide +kernel
  generalize hJ : Str.join (Str.ofString "") ((signs x).map fun a => if (a == Str.ofString "'") = true then Str.ofString "'\"'\"'" else a) = J
  have hj := esc_flat x
  rw [hJ] at hj
  show (⟨(Str.ofString "'").cps ++ J.cps ++ (Str.ofString "'").cps⟩ : Str) = ⟨(quotedL x.cps.toList).toArray⟩
  congr 1
  apply Array.ext'
  rw [Array.toList_append, Array.toList_append, hj, e]
  simp [quotedL]
theorem spelled_str {w : World} {outer : List Env} {s : Shared} {x : Str} {t : Tok} {R : Result → Shared → Prop} (G : Gd w outer s.heap) (hx : Wd x)
    (hQ : ∀ s' t', Mv [] s s' → R (.ok (.ret (.str (spell x) t'))) s') :
    codeAny (Mod w) (AT 440 1400 outer) (.call (.ref 769) ⟨[.str x t], []⟩) R s := by
  have hx3 := hx.len
  refine' enterP [] G ?hm ?k6 ?k7 ?k8 ?k9 ?kB ?_ ?c2 ?c3 ?c4 ?c5
  case hm => intro p hp; cases hp
  (((case k6 => k_is); (case k7 => k_is); (case k8 => decide); (case k9 => first | exact BindsTo.of_eq rfl | exact binds_K (Gd.X (by assumption)) rfl (by k_is) rfl rfl rfl); (case kB => exact locs rfl); (case c2 => exact rfl); (case c3 => exact rfl); (case c4 => exact rfl); (case c5 => decide)))
  intro g L' h' lo mg mb F N B X T Bz _ Gg hLb
  (try dsimp only)
  (try k_fold)
  k_steps
  · (try dsimp only); (try (k_unfold; dsimp only))
    have hx0 : x = Str.ofString "" := eq_of_beq (by assumption)
    have e : spell x = Str.ofString "''" := by rw [hx0]; decide +kernel
    rw [e] at hQ
    exact hQ _ _ (Bz.mv (by assumption))
  · refine eq_strs (ys := []) (by is_list) (by is_list) (ks_strs (by assumption)) .nil (sign_ok hx _) (fun _ h => nomatch h) (Nat.le_of_ble_eq_true rfl) ?_
    rw [none_unsafe hx]
    cases hs : safe x with
    | true =>
      k_steps
      (try dsimp only); (try (k_unfold; dsimp only))
      have h0 : x.length ≠ 0 := fun q => by
        have z : (x == Str.ofString "") = false := by assumption
        have : x = Str.ofString "" := by
          cases x with
          | mk c =>
            have hc : c = #[] := Array.eq_empty_of_size_eq_zero q
            subst hc
            decide +kernel
        rw [this] at z
        exact absurd z (by decide +kernel)
      have e : spell x = x := by unfold spell; rw [if_pos ⟨h0, hs⟩]
      rw [e] at hQ
      exact hQ _ _ (Bz.mv (by assumption))
    | false =>
      have hlen := esc_len hx3
      iterate 33 walk1
      refine join_list (x := Str.ofString "") (by is_list) (esc_carried (by assumption)) ?_ fun t' k => ?_
      · have h1 : ∀ y ∈ (signs x).map fun a => if (a == Str.ofString "'") = true then Str.ofString "'\"'\"'" else a, y.length ≤ 5 := fun y hy => by
          obtain ⟨a, ha, rfl⟩ := List.mem_map.mp hy
          obtain ⟨c, hc, rfl⟩ := List.mem_map.mp (show a ∈ x.cps.toList.map fun k => (⟨#[k]⟩ : Str) from ha)
          split
          · decide +kernel
          · show (1 : Nat) ≤ 5
            decide
        have h2 := sum_le _ h1
        have h3 : ((signs x).map fun a => if (a == Str.ofString "'") = true then Str.ofString "'\"'\"'" else a).length = x.length := by rw [List.length_map]; exact signs_length x
        have h4 : (Str.ofString "").length = 0 := by decide +kernel
        rw [h4]
        omega
      k_steps
      (try dsimp only); (try (k_unfold; dsimp only))
      rw [spelled_eq hs]
      exact hQ _ _ (Bz.mv (by assumption))
theorem spelled_nul {w : World} {outer : List Env} {s : Shared} {k : Nat} {v : Value} {R : Result → Shared → Prop} (G : Gd w outer s.heap) (hv : NulV w k v s.heap)
    (hQ : ∀ s' t', Mv [] s s' → R (.ok (.ret (.str (spell cE) t'))) s') :
    codeAny (Mod w) (AT 440 1400 outer) (.call (.ref 769) ⟨[v], []⟩) R s := by
  refine' enterP [] G ?hm ?k6 ?k7 ?k8 ?k9 ?kB ?_ ?c2 ?c3 ?c4 ?c5
  case hm => intro p hp; cases hp
  (((case k6 => k_is); (case k7 => k_is); (case k8 => decide); (case k9 => first | exact BindsTo.of_eq rfl | exact binds_K (Gd.X (by assumption)) rfl (by k_is) rfl rfl rfl); (case kB => exact locs rfl); (case c2 => exact rfl); (case c3 => exact rfl); (case c4 => exact rfl); (case c5 => decide)))
  intro g L' h' lo mg mb F N B X T Bz _ Gg hLb
  have hv' : NulV w k v g := ThV.keeps (th := .nul k) hv fun b o _ e => Bz.into b o (fun q => nomatch q) e
  (try dsimp only)
  (try k_fold)
  k_steps
  refine isstr_nul (ThV.keeps (th := .nul k) hv' fun b o _ e => Fr.keep (by assumption) _ _ e) fun tk => ?_
  k_steps
  (try dsimp only); (try (k_unfold; dsimp only))
  have e : spell cE = Str.ofString "''" := by decide +kernel
  rw [e] at hQ
  exact hQ _ _ (Bz.mv (by assumption))
end
section
open PySem PySem.W PySem.Calls PyProof.Rows
noncomputable def Figs (x : Str) : Prop := ∀ c ∈ x.cps.toList, 48 ≤ c ∧ c ≤ 57
theorem figs_num {n : Int} (h0 : 0 ≤ n) : Figs (Str.ofString (toString n)) := by
  obtain ⟨m, rfl⟩ := Int.eq_ofNat_of_zero_le h0
  intro c hc
  rw [KIN.signs_num] at hc
  obtain ⟨ch, hch, e⟩ := List.mem_map.mp hc
  have r := digit_range (Nat.isDigit_of_mem_toDigits (by decide) (by decide) hch)
  rw [← e]
  exact r
theorem figs_cut {x : Str} (hx : Figs x) (l u : Option Int) : Figs (Txt.slice x l u) := by
  unfold Txt.slice
  split
  · exact hx
  · intro c hc
    have hc : c ∈ ((Builtin.Str.strSliceIndices l u 1 x.length).filterMap (x.cps[·]?)) := by simpa using hc
    obtain ⟨i, _, e⟩ := List.mem_filterMap.mp hc
    exact hx c (by
      rw [← Array.getElem?_toList] at e
      exact List.mem_of_getElem? e)
theorem cut_len {x : Str} {i : Int} (h1 : 1 ≤ i) (hl : x.length ≤ 4) : (Txt.slice x (some i) none).length ≤ 3 := by
  have hc : (Builtin.Str.strSliceIndices (some i) none 1 x.length).length ≤ x.length - 1 := by
    unfold Builtin.Str.strSliceIndices PySem.sliceRange
    simp only [show (1 : Int) > 0 by decide, if_true, List.length_map, List.length_range]
    (split <;> (try split) <;> (try split) <;> (try simp only [Int.ediv_one]) <;> omega)
  unfold Txt.slice
  split
  · rename_i e
    have e' : (Builtin.Str.strSliceIndices (some i) none 1 x.length).length = x.length := by simpa using e
    omega
  · have : ((Builtin.Str.strSliceIndices (some i) none 1 x.length).filterMap (x.cps[·]?)).length ≤ (Builtin.Str.strSliceIndices (some i) none 1 x.length).length := List.length_filterMap_le _ _
    show (List.toArray _).size ≤ 3
    rw [List.size_toArray]
    omega
theorem fig_int : ∀ c : Nat, c < 58 → 48 ≤ c → PySem.intText? ⟨#[c]⟩ = some ((c : Int) - 48) := by decide +kernel
abbrev sgns : Str := Str.ofString "a'\" \\#$é\n-"
theorem fig_fit : ∀ c : Nat, c < 58 → 48 ≤ c → fitsSsize ((c : Int) - 48) = true ∧ -(sgns.length : Int) ≤ (c : Int) - 48 ∧ (c : Int) - 48 < sgns.length := by decide +kernel
theorem fig_al : ∀ c : Nat, c < 58 → 48 ≤ c → ∀ d ∈ (Txt.item sgns ((c : Int) - 48)).cps.toList, d ∈ alph := by decide +kernel
theorem ones_len : ∀ zs : List Str, (∀ z ∈ zs, z.length = 1) → (zs.flatMap fun z => z.cps.toList).length = zs.length
  | [], _ => rfl
  | z :: zs, h => by
    rw [List.flatMap_cons, List.length_append, ones_len zs fun y hy => h y (.tail _ hy), Array.length_toList, List.length_cons]
    have : z.cps.size = 1 := h z (.head _)
    omega
theorem ones_sum : ∀ zs : List Str, (∀ z ∈ zs, z.length = 1) → (zs.map (·.length)).sum = zs.length
  | [], _ => rfl
  | z :: zs, h => by
    rw [List.map_cons, List.sum_cons, ones_sum zs fun y hy => h y (.tail _ hy), List.length_cons, h z (.head _)]
    omega
theorem ones_fit {zs : List Str} (h : ∀ z ∈ zs, z.length = 1 ∧ ∀ c ∈ z.cps.toList, c ∈ alph) (hl : zs.length ≤ 3) : (zs.map (·.length)).sum + zs.length * (Str.ofString "").length ≤ 16777216 := by
  have h2 := ones_sum zs fun z hz => (h z hz).1
  have h4 : (Str.ofString "").length = 0 := by decide +kernel
  rw [h4, h2]
  omega
theorem ones_wd {zs : List Str} (h : ∀ z ∈ zs, z.length = 1 ∧ ∀ c ∈ z.cps.toList, c ∈ alph) (hl : zs.length ≤ 3) : Wd (Txt.join (Str.ofString "") zs) := by
  rw [show Txt.join (Str.ofString "") zs = Str.join (Str.ofString "") zs from StrLaws.glued_eq_join _ _]
  refine ⟨fun c hc => ?_, ?_⟩
  · rw [join_flat] at hc
    obtain ⟨z, hz, hc⟩ := List.mem_flatMap.mp hc
    exact (h z hz).2 c hc
  · show (Str.join _ _).cps.size ≤ 3
    rw [← Array.length_toList, join_flat, ones_len zs fun z hz => (h z hz).1]
    exact hl
theorem len_snoc {α : Type} {zs : List α} {z : α} {i : Nat} (h : zs.length = i) : (zs ++ [z]).length = i + 1 := by
  rw [List.length_append, h]; rfl
theorem num_len4 (n : Int) : (Str.ofString (toString (1000 + (n.fdiv 6).fmod 1000))).length ≤ 4 := by
  have hr0 : 0 ≤ (n.fdiv 6).fmod 1000 := Int.fmod_nonneg_of_pos _ (by decide)
  have hr1 : (n.fdiv 6).fmod 1000 < 1000 := Int.fmod_lt_of_pos _ (by decide)
  exact toString_length_le (by omega) (by decide) (by omega)
theorem one_q (n : Int) : 1 ≤ 1 + ((n.fdiv 6).fdiv 1000).fmod 3 := by
  have hq0 : 0 ≤ ((n.fdiv 6).fdiv 1000).fmod 3 := Int.fmod_nonneg_of_pos _ (by decide)
  omega
local macro_rules | `(tactic| walk_at "eval ListComp") => `(tactic| (k_here; k_dflt (refine ListComp_S (by k_asm) (by with_unfolding_all rfl) (by decide) (by rfl) (by decide) (by rfl) ?_)))
theorem thing_word {w : World} {outer : List Env} {s : Shared} {n : Int} {t : Tok} {R : Result → Shared → Prop} (G : Gd w outer s.heap) (h0 : 0 ≤ n) (h1 : n < 100000) (hk : n.fmod 6 < 3)
    (hQ : ∀ s' x t, Wd x → Mv [] s s' → R (.ok (.ret (.str x t))) s') :
    codeAny (Mod w) (AT 440 1400 outer) (.call (.ref 764) ⟨[.int n t], []⟩) R s := by
  refine' enterP [] G ?hm ?k6 ?k7 ?k8 ?k9 ?kB ?_ ?c2 ?c3 ?c4 ?c5
  case hm => intro p hp; cases hp
  (((case k6 => k_is); (case k7 => k_is); (case k8 => decide); (case k9 => first | exact BindsTo.of_eq rfl | exact binds_K (Gd.X (by assumption)) rfl (by k_is) rfl rfl rfl); (case kB => exact locs rfl); (case c2 => exact rfl); (case c3 => exact rfl); (case c4 => exact rfl); (case c5 => decide)))
  intro g L' h' lo mg mb F N B X T Bz _ Gg hLb
  (try dsimp only)
  (try k_fold)
  iterate 54 walk1
  have hx4 := num_len4 n
  have hxf := figs_num (n := 1000 + (n.fdiv 6).fmod 1000) (Int.add_nonneg (by decide) (Int.fmod_nonneg_of_pos _ (by decide)))
  generalize hX : Str.ofString (toString (1000 + (n.fdiv 6).fmod 1000)) = X at hx4 hxf ⊢
  dsimp only
  walk1
  have hfigs := figs_cut hxf (some (1 + ((n.fdiv 6).fdiv 1000).fmod 3)) none
  have hcl := cut_len (one_q n) hx4
  generalize hY : Txt.slice X (some (1 + ((n.fdiv 6).fdiv 1000).fmod 3)) none = Y at hfigs hcl ⊢
  clear hY hX hx4 hxf
  dsimp only
  iterate 9 (walk1; (try dsimp only))
  refine ListComp_S (by k_asm) (by with_unfolding_all rfl) (by decide) (by rfl) (by decide) (by rfl) ?_
  walk1
  dsimp only
  refine ⟨_, _, _, rfl, rfl, by assumption, by assumption, Nat.le_trans hcl (by decide), fun s₂ hs₂ => ?_⟩
  obtain ⟨hh, rfl⟩ := hs₂
  refine rest_inv (fun i ys nw => nw = [] ∧ ∃ zs : List Str, StrsAre ys zs ∧ zs.length = i ∧ ∀ z ∈ zs, z.length = 1 ∧ ∀ c ∈ z.cps.toList, c ∈ alph) ?_ ?_ _ 0 [] [] (Nat.zero_add _) ⟨rfl, [], .nil, rfl, fun _ h => nomatch h⟩
  · intro i ys news v I oI C oC D m₂ hp tk' E' hi hinv hP hC hm2 F₃ N₃ off ne
    obtain ⟨rfl, zs, hz, hzl, hza⟩ := hinv
    obtain ⟨c, u, hc, rfl⟩ := hP
    have hfig := hfigs c (by
      rw [← Array.getElem?_toList] at hc
      exact List.mem_of_getElem? hc)
    dsimp only at F₃ N₃ ⊢
    iterate 8 walk1
    refine KIN.call_text (fig_int c (Nat.lt_succ_of_le hfig.2) hfig.1) (Nat.le_of_ble_eq_true rfl) ?_
    obtain ⟨q1, q2, q3⟩ := fig_fit c (Nat.lt_succ_of_le hfig.2) hfig.1
    refine item_str q1 q2 q3 (fun q4 => ?_)
    refine LCg.CompEnd.intro F₃ N₃ [] (fun p hp => hp) trivial trivial ⟨rfl, zs ++ [_], kct_snoc hz, ?_, fun z hz => ?_⟩
    · exact len_snoc hzl
    · rcases List.mem_append.mp hz with hz | hz
      · exact hza z hz
      · rw [List.mem_singleton.mp hz]
        exact ⟨Nat.le_antisymm q4.2 q4.1, fig_al c (Nat.lt_succ_of_le hfig.2) hfig.1⟩
  · intro ys news hinv
    obtain ⟨rfl, zs, hz, hzl, hza⟩ := hinv
    intro D hd2 tk2 F₄ N₄ _
    dsimp only at F₄ N₄ ⊢
    walk1
    (try dsimp only)
    refine join_list (x := Str.ofString "") (items := ys.toArray) (by exact ⟨LCg.lst ys, N₄.get (.head _), rfl, _, rfl⟩) (by simpa using hz) ?_ fun t' k => ?_
    · exact ones_fit hza (by rw [hzl]; exact hcl)
    (try dsimp only)
    k_steps
    (try dsimp only); (try (k_unfold; dsimp only))
    exact hQ _ _ _ (ones_wd hza (by rw [hzl]; exact hcl)) (Bz.mv (by assumption))
end
section
open PySem PySem.W PySem.Calls PyProof.Rows
abbrev cNone : Str := Str.ofString "none"
noncomputable def behind (ths : List Th) (k : Nat) : Str := if k + 1 < ths.length then rp (ths.getD (k + 1) (.nul 0)) else rp (.str cNone)
noncomputable def due (ths : List Th) : Nat → Nat × List Str
  | 0 => (0, [])
  | k + 1 => if (due ths k).1 ≤ k ∧ (ths.getD k (.nul 0)).heavy = true then (k + 2, (due ths k).2 ++ [behind ths k]) else due ths k
theorem due_idle {ths : List Th} {p : Nat × List Str} {i : Nat} (hi : due ths i = p) : ∀ n, (∀ k, i ≤ k → k < i + n → (ths.getD k (.nul 0)).heavy = false) → due ths (i + n) = p
  | 0, _ => hi
  | n + 1, h => by
    show due ths (i + n + 1) = p
    rw [due, if_neg (fun q => by rw [h (i + n) (Nat.le_add_right _ _) (by omega)] at q; exact Bool.false_ne_true q.2)]
    exact due_idle hi n fun k h1 h2 => h k h1 (by omega)
theorem getD_some {α : Type} {l : List α} {k : Nat} {d x : α} (h : l[k]? = some x) : l.getD k d = x := by rw [List.getD_eq_getElem?_getD, h]; rfl
theorem stop_ex (ths : List Th) : ∀ n i, i + n = ths.length → ∃ e0, Stop ths e0 i ∧ i ≤ e0
  | 0, i, h => ⟨i, ⟨fun k h1 h2 => by omega, by omega, fun q => by omega⟩, Nat.le_refl _⟩
  | n + 1, i, h => by
    have hi : i < ths.length := by omega
    have e : ths[i]? = some (ths.getD i (.nul 0)) := by simp [List.getD_eq_getElem?_getD, hi]
    have go : (ths.getD i (.nul 0)).heavy = false → ∃ e0, Stop ths e0 i ∧ i ≤ e0 := fun hh => by
      obtain ⟨e0, S, hle⟩ := stop_ex ths n (i + 1) (by omega)
      refine ⟨e0, ⟨fun k h1 h2 => ?_, S.le, S.heavy⟩, by omega⟩
      rcases Nat.eq_or_lt_of_le h1 with q | q
      · rw [← q]; exact hh
      · exact S.light k q h2
    cases q : ths.getD i (.nul 0) with
    | str x => exact go (by rw [q]; rfl)
    | nul k => exact go (by rw [q]; rfl)
    | hvy k => exact ⟨i, ⟨fun k h1 h2 => by omega, by omega, fun _ => ⟨k, by rw [e, q]⟩⟩, Nat.le_refl _⟩
theorem due_stop {ths : List Th} {i e0 : Nat} {p : Nat × List Str} (S : Stop ths e0 i) (hle : i ≤ e0) (hi : due ths i = p) : due ths e0 = p := by
  have := due_idle hi (e0 - i) fun k h1 h2 => S.light k h1 (by omega)
  rwa [show i + (e0 - i) = e0 by omega] at this
theorem due_heavy {ths : List Th} {i e0 : Nat} {tk : List Str} (S : Stop ths e0 i) (hle : i ≤ e0) (hi : due ths i = (i, tk)) (h : e0 < ths.length) : due ths (e0 + 1) = (e0 + 2, tk ++ [behind ths e0]) := by
  obtain ⟨k, hk⟩ := S.heavy h
  rw [due, due_stop S hle hi, if_pos ⟨hle, by rw [getD_some hk]; rfl⟩]
theorem due_step {ths : List Th} {e0 : Nat} {tk : List Str} (h : due ths (e0 + 1) = (e0 + 2, tk)) : due ths (e0 + 2) = (e0 + 2, tk) := by
  rw [due, h, if_neg (fun q => by have := q.1; simp only at this; omega)]
noncomputable def Hand (ths : List Th) (i : Nat) (tk : List Str) : Prop := i ≤ ths.length ∧ (due ths i = (i, tk) ∨ (i = ths.length ∧ due ths i = (i + 1, tk)))
theorem hand_0 (ths : List Th) : Hand ths 0 [] := ⟨Nat.zero_le _, .inl rfl⟩
theorem hand_done {ths : List Th} {i : Nat} {tk : List Str} (H : Hand ths i tk) (S : Stop ths ths.length i) : (due ths ths.length).2 = tk ∧ outL ths i (ths.length - i) = outL ths (due ths ths.length).1 (ths.length - (due ths ths.length).1) := by
  obtain ⟨hle, h | ⟨e, h⟩⟩ := H
  · rw [due_stop S hle h]
    exact ⟨rfl, rfl⟩
  · subst e
    rw [h]
    refine ⟨rfl, ?_⟩
    simp only
    rw [show ths.length - ths.length = 0 by omega, show ths.length - (ths.length + 1) = 0 by omega]
    rfl
theorem hand_go {ths : List Th} {i e0 : Nat} {tk : List Str} (H : Hand ths i tk) (S : Stop ths e0 i) (hle : i ≤ e0) (h : e0 < ths.length) : (e0 + 1 < ths.length → Hand ths (e0 + 2) (tk ++ [rp (ths.getD (e0 + 1) (.nul 0))])) ∧ (e0 + 1 = ths.length → Hand ths ths.length (tk ++ [rp (.str cNone)])) := by
  obtain ⟨_, hd | ⟨e, _⟩⟩ := H
  · have q := due_heavy S hle hd h
    refine ⟨fun h1 => ⟨h1, .inl ?_⟩, fun h1 => ⟨Nat.le_refl _, .inr ⟨rfl, ?_⟩⟩⟩
    · rw [behind, if_pos h1] at q
      exact due_step q
    · rw [behind, if_neg (by omega)] at q
      rw [← h1]
      exact q
  · omega
end
section
open PySem PySem.W PySem.Calls PyProof.Rows
theorem quote_th {w : World} {outer : List Env} {s : Shared} {v : Value} {th : Th} {R : Result → Shared → Prop} (G : Gd w outer s.heap) (hv : ThV w th v s.heap) (hl : th.heavy = false) (wd : ∀ x, th = .str x → Wd x)
    (hQ : ∀ s' t', Mv [] s s' → R (.ok (.ret (.str (spell th.word) t'))) s') : codeAny (Mod w) (AT 460 1700 outer) (.call (.ref 759) ⟨[v], []⟩) R s := by
  cases th with
  | hvy k => cases hl
  | nul k => exact quote_nul G hv hQ
  | str x =>
    obtain ⟨t, rfl⟩ := (hv : ∃ t, v = .str x t)
    by_cases h0 : x.length = 0
    · have hx : x = cE := by
        cases x with
        | mk c =>
          have : c = #[] := Array.eq_empty_of_size_eq_zero h0
          subst this
          decide +kernel
      subst hx
      exact quote_empty G hQ
    · exact quote_str G (wd x rfl) h0 hQ
theorem liftP {s s' : Shared} {g : Heap} {L : Addr} {m : Str → Option Value} {news : List (Addr × Obj)} {P : Shared → Prop} (M : Mv [] s s') (F : Fr g L s.heap m) (N : News g L s.heap news)
    (h : ∀ h' tk, Fr g L h' m → News g L h' news → (∀ b o, s.heap.get? b = some o → h'.get? b = some o) → P { s with heap := h', toks := tk }) : P s' := by
  rw [M.eq]
  exact h _ _ (Fr.mvd F M (fun q => nomatch q) (fun b q => nomatch q)) (News.mvd N M fun p _ q => nomatch q) fun b o e => M.keep b o (fun q => nomatch q) e
section
variable {w : World} {A : Around} {env : Env} {outer : List Env} {s : Shared} {g : Heap} {L : Addr} {m : Str → Option Value} {news : List (Addr × Obj)} {E : Value → Shared → Prop} {Q : Value → Shared → Prop}
theorem quoteW {v : Value} {th : Th} (Gg : Gd w outer g) (hL : 815 ≤ L) (F : Fr g L s.heap m) (N : News g L s.heap news) (hA : A.frames = some (env :: outer)) (hf : env.frame = some L) (hk : env.scope.kind = .function)
    (a1 : A.handled = none) (a2 : A.depth ≤ 460) (a3 : A.guards = some []) (a4 : A.units ≤ 1700) (hv : ThV w th v s.heap) (hl : th.heavy = false) (wd : ∀ x, th = .str x → Wd x)
    (hQ : ∀ h' tk t', Fr g L h' m → News g L h' news → Q (.str (spell th.word) t') { s with heap := h', toks := tk }) : wpAny (Mod w) A (call (.ref 759) [v]) Q E s := by
  refine wpAny_call (codeAny_le (quote_th (Gg.push F hL hf hk) hv hl wd fun s' t' M => ?_) a1 a2 hA a3 a4)
  exact liftP (P := fun s' => Q (.str (spell th.word) t') s') M F N fun h' tk F' N' _ => hQ h' tk t' F' N'
end
theorem Bt.mx' {outer : List Env} {wr : List Addr} {s s' : Shared} {g : Heap} {L : Addr} {m : Str → Option Value} (B : Bt outer wr s g L) (F : Fr g L s'.heap m) (hL : 815 ≤ L) (hg : Gx s.gens s'.gens) (ho : s'.os = s.os) (hr : s'.drawn = s.drawn) : Mx outer wr s s' := by
  have M := B.mx (tk := s'.toks) F hL hg
  obtain ⟨h, gn, dr, tk, os⟩ := s'
  cases ho
  cases hr
  exact M
theorem Rz.fly {outer : List Env} {s s' : Shared} {e : Addr} {X : String} (R : Rz outer s e X s') : ∃ B a0, (∀ b o, b ∉ ([] : List Addr) → b ∉ frs outer → s.heap.get? b = some o → B.get? b = some o) ∧ Heap.FlyingW B outer e (.type X) a0 s'.heap := by
  obtain ⟨B, a0, hB, _, hfl⟩ := R.R
  exact ⟨B, a0, fun b o _ h2 e => hB _ _ (hideAll_get _ e h2), hfl⟩
theorem quoted_th {w : World} {outer : List Env} {s : Shared} {v : Value} {th : Th} {R : Result → Shared → Prop} (G : Gd w outer s.heap) (hv : ThV w th v s.heap) (hl : th.heavy = false) (wd : ∀ x, th = .str x → Wd x)
    (hQ : ∀ s' t', Mv [] s s' → R (.ok (.ret (.str (spell th.word) t'))) s') : codeAny (Mod w) (AT 440 1400 outer) (.call (.ref 790) ⟨[v], []⟩) R s := by
  refine' enterP [] G ?hm ?k6 ?k7 ?k8 ?k9 ?kB ?_ ?c2 ?c3 ?c4 ?c5
  case hm => intro p hp; cases hp
  (((case k6 => k_is); (case k7 => k_is); (case k8 => decide); (case k9 => first | exact BindsTo.of_eq rfl | exact binds_K (Gd.X (by assumption)) rfl (by k_is) rfl rfl rfl); (case kB => exact locs rfl); (case c2 => exact rfl); (case c3 => exact rfl); (case c4 => exact rfl); (case c5 => decide)))
  intro g L' h' lo mg mb F N B X T Bz _ Gg hLb
  (try dsimp only)
  (try k_fold)
  iterate 12 walk1
  rename Fr _ _ _ _ => FF
  refine quoteW (th := th) Gg hLb FF N rfl rfl rfl rfl (Nat.le_of_ble_eq_true rfl) rfl (Nat.le_of_ble_eq_true rfl) (hv.keeps fun b o _ e => FF.keep b o (Bz.into b o (fun q => nomatch q) e)) hl wd fun h' tk t' F' N' => ?_
  k_steps
  (try dsimp only)
  (try (k_unfold; dsimp only))
  exact hQ _ _ (Bz.mv (by assumption))
theorem quoted_hvy {w : World} {outer : List Env} {s : Shared} {v : Value} {k : Nat} {R : Result → Shared → Prop} (G : Gd w outer s.heap) (hk : k < 6) (hv : HvyV w k v s.heap)
    (hQ : ∀ s', Mx outer [] s s' → R (.ok (.ret .none)) s') : codeAny (Mod w) (AT 440 1400 outer) (.call (.ref 790) ⟨[v], []⟩) R s := by
  refine' enterP [] G ?hm ?k6 ?k7 ?k8 ?k9 ?kB ?_ ?c2 ?c3 ?c4 ?c5
  case hm => intro p hp; cases hp
  (((case k6 => k_is); (case k7 => k_is); (case k8 => decide); (case k9 => first | exact BindsTo.of_eq rfl | exact binds_K (Gd.X (by assumption)) rfl (by k_is) rfl rfl rfl); (case kB => exact locs rfl); (case c2 => exact rfl); (case c3 => exact rfl); (case c4 => exact rfl); (case c5 => decide)))
  intro g L' h' lo mg mb F N B X T Bz _ Gg hLb
  (try dsimp only)
  (try k_fold)
  iterate 12 walk1
  rename Fr _ _ _ _ => FF
  refine wpAny_call (codeAny_le (quote_hvy (Gg.push FF hLb rfl rfl) hk (ThV.keeps (th := .hvy k) hv fun b o _ e => FF.keep b o (Bz.into b o (fun q => nomatch q) e)) fun s' e Rk => ?_) rfl (Nat.le_of_ble_eq_true rfl) rfl rfl (Nat.le_of_ble_eq_true rfl))
  obtain ⟨B', a0, hB, hfl⟩ := Rk.fly
  refine caught_x (X := "TypeError") (T' := "TypeError") (wr := []) Gg FF hLb (fun q => nomatch q) (fun b q => nomatch q) T (Bs.bt Bz) hB hfl (fun b o _ e hn => Rk.U b o e hn) (gx_eq Rk.gens) Rk.os Rk.dr Rk.ctx (by k_is) PyProof.Rows.Boot.«TypeError» (by decide) PySem.F.isExc_TypeError PySem.F.notTuple_TypeError (by rw [isSubtype_type]; kernel_rfl) fun s₃ e3 M3 _ _ _ => ?_
  obtain ⟨g3, G3, F3, T3, B3, n3⟩ := rebase Gg FF rfl M3 (fun q => nomatch q) (fun b q => nomatch q) T (Bs.bt Bz)
  clear FF N B X T Bz Gg
  k_steps
  (try dsimp only)
  (try (k_unfold; dsimp only))
  exact hQ _ (B3.mx' F3 hLb M3.gens M3.os M3.dr)
end
section
open PySem PySem.W PySem.Calls PyProof.Rows
theorem Jc.keeps {h h' : Heap} {ps : Array Value} (J : Jc h ps) (k : ∀ b o, h.get? b = some o → h'.get? b = some o) : Jc h' ps :=
  ⟨J.code.keeps k, J.tab.keeps k, by obtain ⟨ob, ho, r⟩ := J.bm; exact ⟨ob, k _ _ ho, r⟩⟩
theorem Bt.fresh {outer : List Env} {wr : List Addr} {s : Shared} {g : Heap} {L b : Addr} (B : Bt outer wr s g L) (h : g.get? b = none) (hw : b ∉ wr) : s.heap.get? b = none := by
  cases q : s.heap.get? b with
  | none => rfl
  | some o =>
    by_cases hf : b ∈ frs outer
    · obtain ⟨sl, z⟩ := B.frm b o hw hf q
      rw [h] at z
      cases z
    · have z := B.into b o hw hf q
      rw [h] at z
      cases z
theorem name_it {I T : Nat} (_ : 746 < T ∧ I < T) : ∃ T', T' = T := ⟨T, rfl⟩
theorem fr_ex {g h : Heap} {L : Addr} {m : Str → Option Value} (F : Fr g L h m) : ∃ m', m' = m ∧ Fr g L h m' := ⟨m, rfl, F⟩
theorem told_line {w : World} {outer : List Env} {s : Shared} {I l : Nat} {vs : Array Value} {ths : List Th} {ps : Array Value} {R : Result → Shared → Prop} (G : Gd w outer s.heap) (hI : It s.heap I l vs.size 0) (hl : s.heap.IsList l vs) (row : TRow w vs ths s.heap)
    (hn : vs.size ≤ 1000) (J : Jc s.heap ps) (f7 : 746 ∉ frs outer) (bI : 815 ≤ I) (fI : I ∉ frs outer) (lI : l ≠ I) (vI : ∀ k : Nat, vs[k]? ≠ some (.ref I)) (fl : l ∉ frs outer) (fv : ∀ (k : Nat) b, vs[k]? = some (.ref b) → b ∉ frs outer)
    (hQ : ∀ s' P T ys c c' t, Mx outer [746, I] s s' → (∃ ps, Jc s'.heap ps) → s'.heap.get? P = some { cls := .type "tuple", data := .seq #[.ref T, .str (Str.join cSp (outL ths (due ths ths.length).1 (ths.length - (due ths ths.length).1))) t] c } →
      s'.heap.get? T = some (lstO ys c') → StrsAre ys.toList (due ths ths.length).2 → s.heap.get? P = none → s.heap.get? T = none → R (.ok (.ret (.ref P))) s') :
    codeAny (Mod w) (AT 420 1300 outer) (.call (.ref 776) ⟨[.ref I], []⟩) R s := by
  obtain ⟨oI, hoI⟩ := hI.there
  obtain ⟨ob4, hob4, _⟩ := J.bm
  have f4 : (4 : Addr) ∉ frs outer := fun q => absurd (fr_big G 4 q) (by decide)
  have w4 : (4 : Addr) ∉ ([746, I] : List Addr) := fun q => by
    rcases List.mem_cons.mp q with q | q
    · cases q
    · have e4 : (4 : Nat) = I := List.mem_singleton.mp q
      omega
  have l7 : l ≠ 746 := fun q => by
    obtain ⟨o, ho', hc', _⟩ := hl
    rw [q, J.get] at ho'
    cases ho'
    cases hc'
  have v7 : ∀ k : Nat, vs[k]? ≠ some (.ref 746) := fun k hb => row.cls hb J.get rfl
  refine' enterJ [(746, tabO ps), (I, oI)] G ?hm ?k6 ?k7 ?k8 ?k9 ?kB ?_ ?c2 ?c3 ?c4 ?c5
  case hm =>
    intro p hp
    rcases List.mem_cons.mp hp with rfl | hp
    · exact ⟨J.get, .inr rfl, f7⟩
    rcases List.mem_cons.mp hp with rfl | hp
    · exact ⟨hoI, .inl bI, fI⟩
    cases hp
  (((case k6 => k_is); (case k7 => k_is); (case k8 => decide); (case k9 => first | exact BindsTo.of_eq rfl | exact binds_K (Gd.X (by assumption)) rfl (by k_is) rfl rfl rfl); (case kB => exact locs rfl); (case c2 => exact rfl); (case c3 => exact rfl); (case c4 => exact rfl); (case c5 => decide)))
  intro g L' h' lo mg mb F N B X T Bz hlt Gg hLb
  (try dsimp only)
  (try k_fold)
  iterate 8 walk1
  rename Fr _ _ _ _ => FF
  rename News _ _ _ _ => NN
  rename 746 < _ ∧ _ => lt1
  obtain ⟨TT, eTT⟩ := name_it lt1
  subst eTT
  dsimp only
  have B0 : Bt outer [746, I] s g L' := Bs.bt Bz
  have h1 := FF.keep
  obtain ⟨m0, em, F0⟩ := fr_ex FF
  have it0 : It _ I l vs.size 0 := hI.keeps fun o e => by rw [hoI] at e; cases e; exact NN.get (.tail _ (.tail _ (.head _)))
  have J0 := J.move G.X (Gg.X.keeps h1) (NN.get (.tail _ (.head _))) (fun o e => h1 4 o (Bz.into 4 o (fun q => by
    rcases List.mem_cons.mp q with q | q
    · cases q
    · have e4 : (4 : Nat) = I := List.mem_singleton.mp q
      omega) e))
  refine ex_cons (wpAny_While ?_)
  refine codeAny_whileLoop (fun n s₁ => ∃ g' i tk ys c ps' oI', n = vs.size - i ∧ ys.size ≤ i ∧ Gd w outer g' ∧ Fr g' L' s₁.heap m0 ∧ TopRead vw lo mg mb g' ∧ Bt outer [746, I] s g' L' ∧
    News g' L' s₁.heap [(TT, lstO ys c), (746, tabO ps'), (I, oI')] ∧ It s₁.heap I l vs.size i ∧ Jc s₁.heap ps' ∧ Hand ths i tk ∧ StrsAre ys.toList tk ∧ Gx s.gens s₁.gens ∧ s₁.os = s.os ∧ s₁.drawn = s.drawn) ?_ _
    ⟨g, 0, [], #[], 0, ps, oI, rfl, Nat.le_refl _, Gg, F0, T, B0, NN, it0, J0, hand_0 _, .nil, Gx.refl _, rfl, rfl⟩
  clear FF F0 NN B X T Bz Gg it0 J0 h1 B0
  rintro n s₁ ⟨g', i, tk, ys, c, ps', oI', rfl, hyn, Gg, F, T, B0, N, it, J, H, hy, hg, ho, hr⟩
  subst em
  refine isTrue_plain (Constant_bool (wpAny_truthy_bool ?_))
  simp only [if_true]
  have X := Gg.X
  have BB := below_of (d := 420) (u := 1300) Gg
  iterate 15 walk1
  have GL := Gg.push F hLb (env := envOf (Str.ofString "_law_told_line") { kind := ScopeKind.function, names := [(Str.ofString "hand", NameKind.local), (Str.ofString "taken", NameKind.local), (Str.ofString "join_shlex", NameKind.globalImplicit), (Str.ofString "TypeError", NameKind.globalImplicit), (Str.ofString "repr", NameKind.globalImplicit), (Str.ofString "next", NameKind.globalImplicit)], isGenerator := false, isCoroutine := false } L' 776 (Value.ref 775)) rfl rfl
  have nf := News.fr Gg N (env := envOf (Str.ofString "_law_told_line") { kind := ScopeKind.function, names := [(Str.ofString "hand", NameKind.local), (Str.ofString "taken", NameKind.local), (Str.ofString "join_shlex", NameKind.globalImplicit), (Str.ofString "TypeError", NameKind.globalImplicit), (Str.ofString "repr", NameKind.globalImplicit), (Str.ofString "next", NameKind.globalImplicit)], isGenerator := false, isCoroutine := false } L' 776 (Value.ref 775)) rfl
  have nw : ∀ b, b ≠ 746 → b ≠ I → b ∉ ([746, I] : List Addr) := fun b h1 h2 q => by
    rcases List.mem_cons.mp q with q | q
    · exact h1 q
    · exact h2 (List.mem_singleton.mp q)
  have up : ∀ b o, b ≠ 746 → b ≠ I → b ∉ frs outer → s.heap.get? b = some o → s₁.heap.get? b = some o := fun b o h1 h2 h3 e => F.keep b o (B0.into b o (nw b h1 h2) h3 e)
  have hl1 : s₁.heap.IsList l vs := by
    obtain ⟨o, ho', r⟩ := hl
    exact ⟨o, up l o l7 lI fl ho', r⟩
  have row1 : TRow w vs ths s₁.heap := row.keeps fun k b o hb e => up b o (fun q => v7 k (q ▸ hb)) (fun q => vI k (q ▸ hb)) (fv k b hb) e
  have hlen := row.len
  have nwL : L' ∉ ([746, I] : List Addr) := nw L' (fun q => (N _ (.tail _ (.head _))).2.1 q.symm) (fun q => (N _ (.tail _ (.tail _ (.head _)))).2.1 q.symm)
  have hwI : ∀ b ∈ ([746, I] : List Addr), g'.get? b = none := fun b q => by
    rcases List.mem_cons.mp q with q | q
    · rw [q]; exact (N _ (.tail _ (.head _))).2.2
    · rw [List.mem_singleton.mp q]; exact (N _ (.tail _ (.tail _ (.head _)))).2.2
  have nT := nw _ (Nat.ne_of_gt lt1.1) (Nat.ne_of_gt lt1.2)
  obtain ⟨e0, S, hie⟩ := stop_ex ths (ths.length - i) i (by have := H.1; omega)
  refine wpAny_call (codeAny_le (join_it (l := l) (vs := vs) (ths := ths) (i0 := i) (e0 := e0) (ps := ps') GL it hl1 row1 S hie hn J vI lI bI (nf _ (.tail _ (.tail _ (.head _)))) (nf _ (.tail _ (.head _))) (fun he s₂ t' it2 M => ?_) (fun he e s₂ it2 Rk => ?_)) rfl (Nat.le_of_ble_eq_true rfl) rfl rfl (Nat.le_of_ble_eq_true rfl))
  · dsimp only
    have M2 := M.mx (outer := envOf (Str.ofString "_law_told_line") { kind := ScopeKind.function, names := [(Str.ofString "hand", NameKind.local), (Str.ofString "taken", NameKind.local), (Str.ofString "join_shlex", NameKind.globalImplicit), (Str.ofString "TypeError", NameKind.globalImplicit), (Str.ofString "repr", NameKind.globalImplicit), (Str.ofString "next", NameKind.globalImplicit)], isGenerator := false, isCoroutine := false } L' 776 (Value.ref 775) :: outer) GL.big
    obtain ⟨g2, G2, F2, T2, B2, n2⟩ := rebase Gg F rfl M2 nwL hwI T B0
    obtain ⟨ps3, J3⟩ := M.jc
    obtain ⟨oI2, hoI2⟩ := it2.there
    have N2 : News g2 L' s₂.heap [(TT, lstO ys c), (746, tabO ps3), (I, oI2)] := by
      intro p hp
      rcases List.mem_cons.mp hp with rfl | hp
      · exact News.rebase (news := [(TT, lstO ys c)]) (fun p hp => by rw [List.mem_singleton.mp hp]; exact N _ (.head _)) Gg rfl M2 n2 (fun p hp => by rw [List.mem_singleton.mp hp]; exact nT) _ (.head _)
      rcases List.mem_cons.mp hp with rfl | hp
      · exact ⟨J3.get, (N _ (.tail _ (.head _))).2.1, n2 _ (hwI _ (.head _))⟩
      rw [List.mem_singleton.mp hp]
      exact ⟨hoI2, (N _ (.tail _ (.tail _ (.head _)))).2.1, n2 _ (hwI _ (.tail _ (.head _)))⟩
    have X2 := G2.X
    have BB2 := below_of (d := 420) (u := 1300) G2
    have kF2 := F2.keep
    clear F N BB X Gg T nf GL
    k_steps
    unfold nextQ
    rename News _ _ _ _ => N9
    rename Fr _ _ _ _ => F9
    rename _ < _ ∧ _ < _ ∧ _ < _ => lt9
    obtain rfl : e0 = ths.length := he.trans hlen.symm
    have hd9 := hand_done H S
    have g4 := B2.into 4 ob4 w4 f4 hob4
    rw [hd9.2] at N9
    refine (show R (.ok (.ret (.ref _))) _ from hQ _ _ TT ys _ c t' (B2.mx' F9 hLb (hg.trans M.gens) (M.os.trans ho) (M.dr.trans hr)) ⟨ps3, J3.move (X2.keeps kF2) (X2.keeps F9.keep) (N9.get (.tail _ (.tail _ (.head _)))) fun o e => ?_⟩ (N9.get (.head _)) (N9.get (.tail _ (.head _))) (by rw [hd9.1]; exact hy) (B2.fresh (N9 _ (.head _)).2.2 (nw _ (Nat.ne_of_gt lt9.2.1) (Nat.ne_of_gt lt9.2.2))) (B2.fresh (N9 _ (.tail _ (.head _))).2.2 nT))
    rw [kF2 4 ob4 g4] at e
    cases e
    exact F9.keep 4 ob4 g4
  · dsimp only
    obtain ⟨Bb, a0, hB, ⟨ps3, J3⟩, hI3, hfl⟩ := Rk.R
    have w1 : ∀ b, b ∉ ([746, I] : List Addr) → b ∉ ([I] : List Addr) ∧ b ≠ 746 := fun b q => ⟨fun z => q (.tail _ z), fun z => q (z ▸ .head _)⟩
    refine caught_x (X := "TypeError") (T' := "TypeError") (wr := [746, I]) Gg F hLb nwL hwI T B0 (fun b o h1 h2 e => hB b o (w1 b h1).1 (w1 b h1).2 h2 e) hfl (fun b o h1 e hn => Rk.U b o (w1 b h1).1 (w1 b h1).2 e hn) Rk.gens Rk.os Rk.dr Rk.ctx (by k_is) PyProof.Rows.Boot.«TypeError» (by decide) PySem.F.isExc_TypeError PySem.F.notTuple_TypeError (by rw [isSubtype_type]; kernel_rfl) fun s₃ e3 M3 kB c3 nB => ?_
    obtain ⟨g3, G3, F3, T3, B3, n3⟩ := rebase Gg F rfl M3 nwL hwI T B0
    obtain ⟨oI2, hoI2⟩ := it2.there
    have hIB := hI3 I (.head _) oI2 hoI2
    have it3 : It s₃.heap I l vs.size (e0 + 1) := it2.keeps fun o e => kB _ _ (hI3 I (.head _) o e)
    have J4 : Jc s₃.heap ps3 := J3.keeps kB
    have eI : e ≠ I := fun q => by rw [q, hIB] at nB; cases nB
    have N3 : News g3 L' s₃.heap [(TT, lstO ys c), (746, tabO ps3), (I, oI2)] := by
      intro p hp
      rcases List.mem_cons.mp hp with rfl | hp
      · exact News.rebase (news := [(TT, lstO ys c)]) (fun p hp => by rw [List.mem_singleton.mp hp]; exact N _ (.head _)) Gg rfl M3 n3 (fun p hp => by rw [List.mem_singleton.mp hp]; exact nT) _ (.head _)
      rcases List.mem_cons.mp hp with rfl | hp
      · exact ⟨J4.get, (N _ (.tail _ (.head _))).2.1, n3 _ (hwI _ (.head _))⟩
      rw [List.mem_singleton.mp hp]
      exact ⟨kB _ _ hIB, (N _ (.tail _ (.tail _ (.head _)))).2.1, n3 _ (hwI _ (.tail _ (.head _)))⟩
    have X3 := G3.X
    have BB3 := below_of (d := 420) (u := 1300) G3
    clear F N BB X Gg T nf GL
    iterate 19 walk1
    have hl3 : s₃.heap.IsList l vs := by
      obtain ⟨o, ho', r⟩ := hl
      exact ⟨o, F3.keep _ _ (B3.into l o (nw l l7 lI) fl ho'), r⟩
    have kF3 := F3.keep
    have LI : L' ≠ I := fun q => nwL (q ▸ .tail _ (.head _))
    have row3 : ∀ {h4 : Heap}, Heap.ExtBut I s₃.heap h4 → TRow w vs ths h4 := fun eb => row.keeps fun k b o hb e => eb b o (fun q => vI k (q ▸ hb)) (F3.keep b o (B3.into b o (nw b (fun q => v7 k (q ▸ hb)) (fun q => vI k (q ▸ hb))) (fv k b hb) e))
    have gI3 := n3 _ (hwI I (.tail _ (.head _)))
    have F4 : ∀ {h4 : Heap}, Heap.ExtBut I s₃.heap h4 → Fr g3 L' h4 _ := fun eb => LCg.fr_but F3 (fun b o h1 e => eb b o (fun q => h1 (q ▸ .head _)) e) LI gI3
    have N4 : ∀ {h4 : Heap} {n i : Nat}, Heap.ExtBut I s₃.heap h4 → It h4 I l n i → ∃ oI4, h4.get? I = some oI4 ∧ News g3 L' h4 [(TT, lstO ys c), (746, tabO ps3), (I, oI4)] := fun eb it4 => by
      obtain ⟨oI4, hoI4⟩ := it4.there
      refine ⟨oI4, hoI4, fun p hp => ?_⟩
      rcases List.mem_cons.mp hp with rfl | hp
      · exact ⟨eb _ _ (Nat.ne_of_gt lt1.2) (N3 _ (.head _)).1, (N3 _ (.head _)).2⟩
      rcases List.mem_cons.mp hp with rfl | hp
      · exact ⟨eb _ _ (fun q => by have z : (746 : Nat) = I := q; omega) (N3 _ (.tail _ (.head _))).1, (N3 _ (.tail _ (.head _))).2⟩
      rw [List.mem_singleton.mp hp]
      exact ⟨hoI4, LI.symm, gI3⟩
    have hgo := hand_go H S hie (by omega)
    refine next_h (l := l) (vs := vs) (i := e0 + 1) rfl c3 eI it3 hl3 (fun h4 hi it4 eb => ?_) (fun h4 hi it4 eb => ?_)
    · obtain ⟨oI4, hoI4, N5⟩ := N4 eb it4
      have F5 := F4 eb
      clear N3 F3 N4 F4
      iterate 1 walk1
      have row4 := row3 eb
      have hv : vs[e0 + 1]? = some (vs.getD (e0 + 1) .none) := by simp [Array.getD_eq_getD_getElem?, hi]
      have ht : ths[e0 + 1]? = some (ths.getD (e0 + 1) (.nul 0)) := by
        have : e0 + 1 < ths.length := by omega
        simp [List.getD_eq_getElem?_getD, this]
      refine repr_th (row4.th _ _ _ hv ht) (fun k q => row4.hv k (q ▸ List.mem_of_getElem? ht)) (fun x q => row4.wd x (q ▸ List.mem_of_getElem? ht)) rfl (Nat.le_of_ble_eq_true rfl) fun h5 t5 k5 up5 => ?_
      have F6 := F5.keeps up5
      have N6 := N5.grown up5
      replace hoI4 := up5 _ _ hoI4
      replace it4 := it4.keeps fun o e => up5 _ _ e
      clear F5 N5
      iterate 5 walk1
      rename Fr _ _ _ _ => F7
      rename News _ _ _ _ => N7
      have g4 := B3.into 4 ob4 w4 f4 hob4
      refine ⟨vs.size - (e0 + 2), by omega, g3, e0 + 2, _, ys.push _, c + 1, ps3, oI4, rfl, by rw [Array.size_push]; omega, G3, F7, T3, B3, N7, it4.keeps fun o e => ?_, J4.move (X3.keeps kF3) (X3.keeps F7.keep) (N7.get (.tail _ (.head _))) fun o e => ?_, hgo.1 (by omega), by rw [Array.toList_push]; exact kct_snoc hy, hg.trans M3.gens, M3.os.trans ho, M3.dr.trans hr⟩
      · have z := N7.get (.tail _ (.tail _ (.head _)))
        rw [hoI4] at e
        cases e
        exact z
      · rw [kF3 4 ob4 g4] at e
        cases e
        exact F7.keep 4 ob4 g4
    · obtain ⟨oI4, hoI4, N5⟩ := N4 eb it4
      have F5 := F4 eb
      clear N3 F3 N4 F4
      iterate 1 walk1
      refine P.repr_of_str ?_ (by decide +kernel)
      have F6 := F5
      have N6 := N5
      clear F5 N5
      iterate 5 walk1
      rename Fr _ _ _ _ => F7
      rename News _ _ _ _ => N7
      have g4 := B3.into 4 ob4 w4 f4 hob4
      refine ⟨vs.size - (vs.size), by omega, g3, vs.size, _, ys.push _, c + 1, ps3, oI4, rfl, by rw [Array.size_push]; omega, G3, F7, T3, B3, N7, it4.keeps fun o e => ?_, J4.move (X3.keeps kF3) (X3.keeps F7.keep) (N7.get (.tail _ (.head _))) fun o e => ?_, by rw [← hlen]; exact hgo.2 (by omega), by rw [Array.toList_push]; exact kct_snoc hy, hg.trans M3.gens, M3.os.trans ho, M3.dr.trans hr⟩
      · have z := N7.get (.tail _ (.tail _ (.head _)))
        rw [hoI4] at e
        cases e
        exact z
      · rw [kF3 4 ob4 g4] at e
        cases e
        exact F7.keep 4 ob4 g4
end
section
open PySem PySem.W PySem.Calls PyProof.Rows
theorem joined_whole {w : World} {outer : List Env} {s : Shared} {l : Nat} {vs : Array Value} {ths : List Th} {e0 : Nat} {ps : Array Value} {R : Result → Shared → Prop} (G : Gd w outer s.heap) (hl : s.heap.IsList l vs) (row : TRow w vs ths s.heap) (S : Stop ths e0 0) (he0 : e0 < vs.size)
    (hn : vs.size ≤ 1000) (J : Jc s.heap ps) (f7 : 746 ∉ frs outer)
    (hQ : ∀ s', Mx outer [746] s s' → (∃ ps, Jc s'.heap ps) → R (.ok (.ret .none)) s') :
    codeAny (Mod w) (AT 420 1300 outer) (.call (.ref 804) ⟨[.ref l], []⟩) R s := by
  have l7 : l ≠ 746 := fun q => by
    obtain ⟨o, ho', hc', _⟩ := hl
    rw [q, J.get] at ho'
    cases ho'
    cases hc'
  have v7 : ∀ k : Nat, vs[k]? ≠ some (.ref 746) := fun k hb => row.cls hb J.get rfl
  obtain ⟨ob4, hob4, _⟩ := J.bm
  have f4 : (4 : Addr) ∉ frs outer := fun q => absurd (fr_big G 4 q) (by decide)
  refine' enterJ [(746, tabO ps)] G ?hm ?k6 ?k7 ?k8 ?k9 ?kB ?_ ?c2 ?c3 ?c4 ?c5
  case hm =>
    intro p hp
    rcases List.mem_cons.mp hp with rfl | hp
    · exact ⟨J.get, .inr rfl, f7⟩
    cases hp
  (((case k6 => k_is); (case k7 => k_is); (case k8 => decide); (case k9 => first | exact BindsTo.of_eq rfl | exact binds_K (Gd.X (by assumption)) rfl (by k_is) rfl rfl rfl); (case kB => exact locs rfl); (case c2 => exact rfl); (case c3 => exact rfl); (case c4 => exact rfl); (case c5 => decide)))
  intro g L' h' lo mg mb F N B X T Bz hlt Gg hLb
  (try dsimp only)
  (try k_fold)
  iterate 12 walk1
  rename Fr _ _ _ _ => FF
  rename News _ _ _ _ => NN
  have Gg' := Gg
  have GL := Gg.push FF hLb (env := envOf (Str.ofString "_law_joined_whole") { kind := ScopeKind.function, names := [(Str.ofString "row", NameKind.local), (Str.ofString "join_shlex", NameKind.globalImplicit), (Str.ofString "TypeError", NameKind.globalImplicit)], isGenerator := false, isCoroutine := false } L' 804 (Value.ref 803)) rfl rfl
  have nf := News.fr Gg NN (env := envOf (Str.ofString "_law_joined_whole") { kind := ScopeKind.function, names := [(Str.ofString "row", NameKind.local), (Str.ofString "join_shlex", NameKind.globalImplicit), (Str.ofString "TypeError", NameKind.globalImplicit)], isGenerator := false, isCoroutine := false } L' 804 (Value.ref 803)) rfl
  have up : ∀ b o, b ≠ 746 → s.heap.get? b = some o → h'.get? b = some o := fun b o h1 e => FF.keep b o (Bz.into b o (fun q => h1 (List.mem_singleton.mp q)) e)
  have hl1 : h'.IsList l vs := by
    obtain ⟨o, ho', r⟩ := hl
    exact ⟨o, up l o l7 ho', r⟩
  have row1 : TRow w vs ths h' := row.keeps fun k b o hb e => up b o (fun q => v7 k (q ▸ hb)) e
  have J1 := J.move G.X (Gg.X.keeps FF.keep) (NN.get (.head _)) (fun o e => up 4 o (by decide) e)
  have nwL : L' ∉ ([746] : List Addr) := fun q => (NN _ (.head _)).2.1 (List.mem_singleton.mp q).symm
  have hwI : ∀ b ∈ ([746] : List Addr), g.get? b = none := fun b q => by rw [List.mem_singleton.mp q]; exact (NN _ (.head _)).2.2
  refine wpAny_call (codeAny_le (join_ls (l := l) (vs := vs) (ths := ths) (e0 := e0) (ps := ps) GL hl1 row1 S hn J1 (nf _ (.head _)) (fun he s₂ t' M => absurd he (Nat.ne_of_lt he0)) (fun he e s₂ Rk => ?_)) rfl (Nat.le_of_ble_eq_true rfl) rfl rfl (Nat.le_of_ble_eq_true rfl))
  dsimp only
  obtain ⟨Bb, a0, hB, ⟨ps3, J3⟩, _, hfl⟩ := Rk.R
  have w1 : ∀ b, b ∉ ([746] : List Addr) → b ≠ 746 := fun b q z => q (z ▸ .head _)
  refine caught_x (X := "TypeError") (T' := "TypeError") (wr := [746]) Gg FF hLb nwL hwI T (Bs.bt Bz) (fun b o h1 h2 e => hB b o (fun q => nomatch q) (w1 b h1) h2 e) hfl (fun b o h1 e hn => Rk.U b o (fun q => nomatch q) (w1 b h1) e hn) Rk.gens Rk.os Rk.dr Rk.ctx (by k_is) PyProof.Rows.Boot.«TypeError» (by decide) PySem.F.isExc_TypeError PySem.F.notTuple_TypeError (by rw [isSubtype_type]; kernel_rfl) fun s₃ e3 M3 kB _ _ => ?_
  obtain ⟨g3, G3, F3, T3, B3, n3⟩ := rebase Gg FF rfl M3 nwL hwI T (Bs.bt Bz)
  clear FF NN B X T Bz Gg
  k_steps
  exact (show R (.ok (.ret .none)) _ from hQ _ (B3.mx' F3 hLb M3.gens M3.os M3.dr) ⟨ps3, J3.keeps kB⟩)
end
section
open PySem PySem.W PySem.Calls PyProof.Rows
noncomputable abbrev ritO (x left : Int) : Obj := { cls := .type "range_iterator", dict := none, data := .fields #[rawInt x, rawInt left, rawInt 1], slots := #[] }
theorem rit_at {h : Heap} {I : Addr} {x left : Int} (e : h.get? I = some (ritO x left)) : IsRangeIter h I x left 1 := e
theorem rit_of {h : Heap} {I : Addr} {x left : Int} (e : IsRangeIter h I x left 1) : h.get? I = some (ritO x left) := e
section
variable {prog : Program} {w : World} {A : Around} {s : Shared} {env : Env}
theorem for_rng {R : Result → Shared → Prop} {x : Str} {px : Pos} {body : List Stmt} {I : Addr} {n : Nat} (hh : A.handled = none) (J : Nat → Shared → Prop)
    (at_ : ∀ i s, J i s → s.heap.get? I = some (ritO (i : Nat) ((n : Int) - (i : Nat))))
    (turn : ∀ i s, i < n → J i s → ∀ h1, h1.get? I = some (ritO ((i + 1 : Nat) : Int) ((n : Int) - ((i + 1 : Nat) : Int))) → Heap.SameBut I s.heap h1 →
      wpAny (model prog w) A (storeName env x (.int (i : Nat) s.toks)) (fun _ s₂ => wpAny (model prog w) A (execs body env) (fun f s₃ => match f with
        | .next | .cont => J (i + 1) s₃
        | .brk => R (.ok .next) s₃
        | .ret v => R (.ok (.ret v)) s₃) (notedBy (model prog w) A env fun e s' => R (.error e) s') s₂) (notedBy (model prog w) A env fun e s' => R (.error e) s') { s with heap := h1, toks := s.toks + 1 })
    (done : ∀ s, J n s → ∀ h', Heap.ExtBut I s.heap h' → R (.ok .next) { s with heap := h' }) (h0 : J 0 s) : codeAny (model prog w) A (.forLoop (.Name x px) (.ref I) body [] env) R s := by
  refine codeAny_forLoop (fun k s => ∃ i, i ≤ n ∧ k = n - i ∧ J i s) ?_ n ⟨0, Nat.zero_le _, rfl, h0⟩
  rintro k s' ⟨i, hi, rfl, hJ⟩
  by_cases hlt : i < n
  · refine wpAny_pyNext_range_item (rit_at (at_ i s' hJ)) (by omega) fun h₁ hit₁ hs₁ => ?_
    have e1 : ((i : Nat) : Int) + 1 = ((i + 1 : Nat) : Int) := by omega
    have e2 : (n : Int) - ((i : Nat) : Int) - 1 = (n : Int) - ((i + 1 : Nat) : Int) := by omega
    rw [e1, e2] at hit₁
    refine wpAny_assign_Name (wpAny_mono (turn i s' hlt hJ h₁ (rit_of hit₁) hs₁) (fun _ s₂ h₂ => wpAny_mono h₂ (fun f s₃ h₃ => ?_) fun _ _ e => e) fun _ _ e => e)
    cases f with
    | next => exact ⟨n - (i + 1), by omega, i + 1, hlt, rfl, h₃⟩
    | cont => exact ⟨n - (i + 1), by omega, i + 1, hlt, rfl, h₃⟩
    | brk => exact h₃
    | ret v => exact h₃
  · have hin : i = n := by omega
    subst hin
    exact wpAny_pyNext_range_end hh (rit_at (at_ i s' hJ)) (by omega) fun h₁ he₁ => wpAny_execs_nil (done s' hJ h₁ he₁)
end
theorem with_it {g h : Heap} {L : Addr} {m : Str → Option Value} {news : List (Addr × Obj)} {x left : Int} (F : Fr g L h m) (N : News g L h news) : Fr g L (h.push (ritO x left)) m ∧ News g L (h.push (ritO x left)) ((h.objs.size, ritO x left) :: news) := by
  refine ⟨F.keeps fun b o e => Heap.get?_push_of_some _ e, fun p hp => ?_⟩
  rcases List.mem_cons.mp hp with rfl | hp
  · exact ⟨Heap.get?_push_size _ rfl, Nat.ne_of_gt F.ns.lt, next_is_new F⟩
  · exact ⟨Heap.get?_push_of_some _ (N p hp).1, (N p hp).2⟩
theorem with_it' {g h : Heap} {L : Addr} {m : Str → Option Value} {news : List (Addr × Obj)} {x left : Int} (F : Fr g L h m) (N : News g L h news) : ∃ I, h.objs.size = I ∧ (∀ p ∈ news, p.1 < I) ∧ L < I ∧ Fr g L (h.push (ritO x left)) m ∧ News g L (h.push (ritO x left)) ((I, ritO x left) :: news) :=
  ⟨_, rfl, fun p hp => Heap.lt_size (N p hp).1, F.ns.lt, with_it F N⟩
end
section
open PySem PySem.W PySem.Calls PyProof.Rows
abbrev cArg : Str := Str.ofString "s argument must not be None"
structure Ry (outer : List Env) (s : Shared) (e t : Addr) (X : String) (vs : List Value) (s' : Shared) : Prop where
  R : ∃ B, (∀ b o, b ∉ ([] : List Addr) → b ∉ frs outer → s.heap.get? b = some o → B.get? b = some o) ∧ Heap.FlyingW B outer e (.type X) (.ref t) s'.heap ∧ B.get? t = none
  tup : s'.heap.TupAt t vs
  U : ∀ b o, b ∉ ([] : List Addr) → s.heap.get? b = some o → (∀ vs, o.data ≠ .fields vs) → ∃ sl, s'.heap.get? b = some { o with slots := sl }
  gens : s'.gens = s.gens
  os : s'.os = s.os
  dr : s'.drawn = s.drawn
theorem Bs.ry {s : Shared} {g h : Heap} {L e t : Addr} {outer : List Env} {X : String} {vs : List Value} {news : List (Addr × Obj)} {tk : Nat} (B : Bs [] s g L) (R : RaisedK (hideAll g (frs outer)) outer e (.type X) t vs news h) (U : g.UpToSlots h) : Ry outer s e t X vs ⟨h, s.gens, s.drawn, tk, s.os⟩ := by
  obtain ⟨⟨B', hB, _, hfl, hnew⟩, htup⟩ := R
  exact ⟨⟨B', fun b o _ h2 q => hB b o (hideAll_get _ (B.into b o (fun q => nomatch q) q) h2), hfl, hnew⟩, htup, fun b o _ e hn => U b o (B.into b o (fun q => nomatch q) e) hn, rfl, rfl, rfl⟩
theorem split_none {w : World} {outer : List Env} {s : Shared} {R : Result → Shared → Prop} (G : Gd w outer s.heap)
    (hQ : ∀ s' e t u, Ry outer s e t "ValueError" [.str cArg u] s' → R (.error (.ref e)) s') : codeAny (Mod w) (AT 420 1400 outer) (.call (.ref 744) ⟨[.none], []⟩) R s := by
  refine' enterP [] G ?hm ?k6 ?k7 ?k8 ?k9 ?kB ?_ ?c2 ?c3 ?c4 ?c5
  case hm => intro p hp; cases hp
  (((case k6 => k_is); (case k7 => k_is); (case k8 => decide); (case k9 => first | exact BindsTo.of_eq rfl | exact binds_K (Gd.X (by assumption)) rfl (by k_is) rfl rfl rfl); (case kB => exact locs rfl); (case c2 => exact rfl); (case c3 => exact rfl); (case c4 => exact rfl); (case c5 => decide)))
  intro g L' h' lo mg mb F N B X T Bz _ Gg hLb
  (try dsimp only)
  (try k_fold)
  iterate 10 walk1
  rename Fr _ _ _ _ => FF
  refine Raise_madeB PySem.F.excCall_ValueError PySem.F.excRaise_ValueError rfl (name_B FF X T (by k_is) PyProof.Rows.Boot.«ValueError» (by decide) ⟨rfl, ?_⟩)
  iterate 3 walk1
  refine ⟨Nat.le_of_ble_eq_true rfl, fun h2 e hx => ?_⟩
  refine leave_raiseK B (Heap.MadeExc.of hx) FF News.nil fun h3 t Rk U => ?_
  exact hQ _ _ _ _ (Bs.ry Bz Rk U)
theorem refused_none {w : World} {outer : List Env} {s : Shared} {R : Result → Shared → Prop} (G : Gd w outer s.heap)
    (hQ : ∀ s' t, Mx outer [] s s' → R (.ok (.ret (.str cArg t))) s') : codeAny (Mod w) (AT 410 1300 outer) (.call (.ref 797) ⟨[.none], []⟩) R s := by
  refine' enterP [] G ?hm ?k6 ?k7 ?k8 ?k9 ?kB ?_ ?c2 ?c3 ?c4 ?c5
  case hm => intro p hp; cases hp
  (((case k6 => k_is); (case k7 => k_is); (case k8 => decide); (case k9 => first | exact BindsTo.of_eq rfl | exact binds_K (Gd.X (by assumption)) rfl (by k_is) rfl rfl rfl); (case kB => exact locs rfl); (case c2 => exact rfl); (case c3 => exact rfl); (case c4 => exact rfl); (case c5 => decide)))
  intro g L' h' lo mg mb F N B X T Bz _ Gg hLb
  (try dsimp only)
  (try k_fold)
  k_steps
  rename Fr _ _ _ _ => FF
  refine wpAny_call (codeAny_le (split_none (Gg.push FF hLb rfl rfl) fun s' e t u Rk => ?_) rfl (Nat.le_of_ble_eq_true rfl) rfl rfl (Nat.le_of_ble_eq_true rfl))
  obtain ⟨B', hB, hfl, hnt⟩ := Rk.R
  refine caught_xB (X := "ValueError") (T' := "ValueError") (wr := []) Gg FF hLb (fun q => nomatch q) (fun b q => nomatch q) T (Bs.bt Bz) hB hfl Rk.tup hnt Rk.U (gx_eq Rk.gens) Rk.os Rk.dr (by k_is) PyProof.Rows.Boot.«ValueError» (by decide) PySem.F.isExc_ValueError PySem.F.notTuple_ValueError (by rw [isSubtype_type]; kernel_rfl) fun h3 g3 tk3 news3 G3 F3 T3 B3 N3 Gt => ?_
  have gn := Rk.gens
  have go := Rk.os
  have gd := Rk.dr
  clear FF N B X T Bz Gg
  have X3 := G3.X
  have BB3 := below_of (d := 410) (u := 1300) G3
  k_steps
  refine name_goes_keeps (by assumption) (by assumption) (fun h4 v4 F4 N4 => ?_)
  exact (show R (.ok (.ret (.str cArg u))) _ from hQ _ _ (B3.mx' F4 hLb (gx_eq gn) go gd))
end
section
open PySem PySem.W PySem.Calls PyProof.Rows
noncomputable abbrev shN (k : Nat → Int) (t : Nat → Tok) (v : Value) (cm wc : Str) (pb fs : Nat) (sp : Bool) (st : Value) (ln : Int) (tl : Tok) (tok : Str) (tt : Tok) : List DictEntry :=
  [⟨k 0, .str (Str.ofString "instream") (t 0), v⟩, ⟨k 1, .str (Str.ofString "infile") (t 1), .none⟩, ⟨k 2, .str (Str.ofString "posix") (t 2), .bool true⟩, ⟨k 3, .str (Str.ofString "eof") (t 3), .none⟩, ⟨k 4, .str (Str.ofString "commenters") (t 4), .str cm (t 20)⟩, ⟨k 5, .str (Str.ofString "wordchars") (t 5), .str wc (t 21)⟩, ⟨k 6, .str (Str.ofString "whitespace") (t 6), .str (Str.ofString " \t\r\n") (t 22)⟩, ⟨k 7, .str (Str.ofString "whitespace_split") (t 7), .bool sp⟩, ⟨k 8, .str (Str.ofString "quotes") (t 8), .str (Str.ofString "'\"") (t 23)⟩, ⟨k 9, .str (Str.ofString "escape") (t 9), .str (Str.ofString "\\") (t 24)⟩, ⟨k 10, .str (Str.ofString "escapedquotes") (t 10), .str (Str.ofString "\"") (t 25)⟩, ⟨k 11, .str (Str.ofString "state") (t 11), st⟩, ⟨k 12, .str (Str.ofString "pushback") (t 12), .ref pb⟩, ⟨k 13, .str (Str.ofString "lineno") (t 13), .int ln tl⟩, ⟨k 14, .str (Str.ofString "debug") (t 14), .int 0 (t 26)⟩, ⟨k 15, .str (Str.ofString "token") (t 15), .str tok tt⟩, ⟨k 16, .str (Str.ofString "filestack") (t 16), .ref fs⟩, ⟨k 17, .str (Str.ofString "source") (t 17), .none⟩, ⟨k 18, .str (Str.ofString "_punctuation_chars") (t 18), .str (Str.ofString "") (t 27)⟩]
theorem shN_conv {h : Heap} {a : Addr} {h0 h1 h2 h3 h4 h5 h6 h7 h8 h9 h10 h11 h12 h13 h14 h15 h16 h17 h18 : Int} {k0 k1 k2 k3 k4 k5 k6 k7 k8 k9 k10 k11 k12 k13 k14 k15 k16 k17 k18 : Tok} {v4 v5 v6 v8 v9 v10 v11 v13 v14 v15 v18 : Tok} {v : Value} {pb fs : Nat} {wc : Str} (z : h.get? a = some (dictOf [⟨h0, .str (Str.ofString "instream") k0, v⟩, ⟨h1, .str (Str.ofString "infile") k1, .none⟩, ⟨h2, .str (Str.ofString "posix") k2, .bool true⟩, ⟨h3, .str (Str.ofString "eof") k3, .none⟩, ⟨h4, .str (Str.ofString "commenters") k4, .str (Str.ofString "#") v4⟩, ⟨h5, .str (Str.ofString "wordchars") k5, .str wc v5⟩, ⟨h6, .str (Str.ofString "whitespace") k6, .str (Str.ofString " \t\r\n") v6⟩, ⟨h7, .str (Str.ofString "whitespace_split") k7, .bool false⟩, ⟨h8, .str (Str.ofString "quotes") k8, .str (Str.ofString "'\"") v8⟩, ⟨h9, .str (Str.ofString "escape") k9, .str (Str.ofString "\\") v9⟩, ⟨h10, .str (Str.ofString "escapedquotes") k10, .str (Str.ofString "\"") v10⟩, ⟨h11, .str (Str.ofString "state") k11, .str (Str.ofString " ") v11⟩, ⟨h12, .str (Str.ofString "pushback") k12, .ref pb⟩, ⟨h13, .str (Str.ofString "lineno") k13, .int 1 v13⟩, ⟨h14, .str (Str.ofString "debug") k14, .int 0 v14⟩, ⟨h15, .str (Str.ofString "token") k15, .str (Str.ofString "") v15⟩, ⟨h16, .str (Str.ofString "filestack") k16, .ref fs⟩, ⟨h17, .str (Str.ofString "source") k17, .none⟩, ⟨h18, .str (Str.ofString "_punctuation_chars") k18, .str (Str.ofString "") v18⟩] 19)) (hw : wc = wcL) :
    ∃ k t ts tl tt, h.get? a = some (dictOf (shN k t v (Str.ofString "#") wcL pb fs false (.str cSp ts) 1 tl cE tt) 19) := by
  subst hw
  exact ⟨fun i => match i with | 0 => h0 | 1 => h1 | 2 => h2 | 3 => h3 | 4 => h4 | 5 => h5 | 6 => h6 | 7 => h7 | 8 => h8 | 9 => h9 | 10 => h10 | 11 => h11 | 12 => h12 | 13 => h13 | 14 => h14 | 15 => h15 | 16 => h16 | 17 => h17 | 18 => h18 | _ => 0, fun i => match i with | 0 => k0 | 1 => k1 | 2 => k2 | 3 => k3 | 4 => k4 | 5 => k5 | 6 => k6 | 7 => k7 | 8 => k8 | 9 => k9 | 10 => k10 | 11 => k11 | 12 => k12 | 13 => k13 | 14 => k14 | 15 => k15 | 16 => k16 | 17 => k17 | 18 => k18 | 20 => v4 | 21 => v5 | 22 => v6 | 23 => v8 | 24 => v9 | 25 => v10 | 26 => v14 | 27 => v18 | _ => 0, v11, v13, v15, z⟩
structure Rw (outer : List Env) (s : Shared) (e : Addr) (s' : Shared) : Prop where
  R : ∃ B a0, (∀ b o, b ∉ ([] : List Addr) → b ∉ frs outer → s.heap.get? b = some o → B.get? b = some o) ∧ Heap.FlyingW B outer e (.type "AttributeError") a0 s'.heap
  U : ∀ b o, b ∉ ([] : List Addr) → s.heap.get? b = some o → (∀ vs, o.data ≠ .fields vs) → ∃ sl, s'.heap.get? b = some { o with slots := sl }
  gens : s'.gens = s.gens
  os : s'.os = s.os
  dr : s'.drawn = s.drawn
section
variable {w : World} {M : Model} {d u : Nat} {outer : List Env} {E : Value → Shared → Prop} {s s₁ s' : Shared} {h : Heap} {L a e : Addr} {name : Str} {scope : Scope} {cd : Value} {Q : Unit → Shared → Prop}
theorem Rw.after (R : Rw outer s₁ e s') (up : ∀ b o, s.heap.get? b = some o → s₁.heap.get? b = some o) (hg : s₁.gens = s.gens) (ho : s₁.os = s.os) (hr : s₁.drawn = s.drawn) : Rw outer s e s' := by
  obtain ⟨B, a0, hB, fl⟩ := R.R
  exact ⟨⟨B, a0, fun b o h1 h2 q => hB b o h1 h2 (up b o q), fl⟩, fun b o h1 q hn => R.U b o h1 (up b o q) hn, R.gens.trans hg, R.os.trans ho, R.dr.trans hr⟩
theorem off_L {b : Addr} {o : Obj} {env : Env} (hf : env.frame = some L) (hLs : s.heap.get? L = none) (q : s.heap.get? b = some o) (h2 : b ∉ frs outer) : b ∉ frs (env :: outer) := fun hm => by
  rcases frs_cons hf hm with z | z
  · rw [z, hLs] at q
    cases q
  · exact h2 z
theorem rw_new (G2 : Gd w (envOf name scope L a cd :: outer) h) (up : ∀ b o, s.heap.get? b = some o → h.get? b = some o) (hLs : s.heap.get? L = none) (hx : Heap.NewExcOf h s'.heap e "AttributeError") (hg : s'.gens = s.gens) (ho : s'.os = s.os) (hr : s'.drawn = s.drawn)
    (hQ : ∀ s'', Rw outer s e s'' → Q () s'') : wpAny M ((AT d u outer).deeper (envOf name scope L a cd)) (leaving (envOf name scope L a cd) (.ref e)) Q E s' := by
  obtain ⟨ob, vs, he, hcls, hdt, h1⟩ := hx.there
  have hs : 0 < vs.size := Nat.lt_of_succ_lt (Array.getElem?_eq_some_iff.mp h1).1
  have hen : (hideAll h (frs (envOf name scope L a cd :: outer))).get? e = none := by
    cases q : (hideAll h (frs (envOf name scope L a cd :: outer))).get? e with
    | none => rfl
    | some o => have := of_hideAll _ q; rw [hx.new] at this; cases this
  refine wpAny_leaving_firstW (base := hideAll h (frs (envOf name scope L a cd :: outer))) (a0 := vs[0]) rfl ((below_of (d := d) (u := u) G2).frames.of_keeps fun b o hb _ => ⟨o, hx.keeps b o hb, rfl⟩) rfl he (fun b o hb => hx.keeps b o (of_hideAll _ hb)) hen hdt h1 (Array.getElem?_eq_getElem hs) fun h' hL => ?_
  obtain ⟨k1, ⟨_, _, k2⟩, k3, k4⟩ := hL
  rw [hcls] at k3
  exact hQ _ ⟨⟨_, _, fun b o _ h2 q => hideAll_get _ (up b o q) (off_L rfl hLs q h2), k1, hen, k2, k3⟩, fun b o _ q hn => k4 b o (hx.keeps b o (up b o q)) hn, hg, ho, hr⟩
theorem rw_on (up : ∀ b o, s.heap.get? b = some o → s₁.heap.get? b = some o) (hLs : s.heap.get? L = none) (R : Rw (envOf name scope L a cd :: outer) s₁ e s') (hg : s₁.gens = s.gens) (ho : s₁.os = s.os) (hr : s₁.drawn = s.drawn)
    (hQ : ∀ s'', Rw outer s e s'' → Q () s'') : wpAny M ((AT d u outer).deeper (envOf name scope L a cd)) (leaving (envOf name scope L a cd) (.ref e)) Q E s' := by
  obtain ⟨B, a0, hB, hfl⟩ := R.R
  refine wpAny_leaves_onW rfl rfl hfl fun h' fl up4 => ?_
  refine hQ _ ⟨⟨B, a0, fun b o h1 h2 q => hB b o h1 (off_L rfl hLs q h2) (up b o q), fl⟩, fun b o h1 q hn => ?_, R.gens.trans hg, R.os.trans ho, R.dr.trans hr⟩
  obtain ⟨sl, z⟩ := R.U b o h1 (up b o q) hn
  obtain ⟨sl', z'⟩ := up4 b _ z hn
  exact ⟨sl', z'⟩
theorem fresh_L {g : Heap} {muts : List (Addr × Obj)} (B : Bs muts s g L) : s.heap.get? L = none := by
  cases q : s.heap.get? L with
  | none => rfl
  | some o => have := Heap.lt_size q; rw [B.at_] at this; exact absurd this (Nat.lt_irrefl _)
theorem up_all {g : Heap} {m : Str → Option Value} {muts : List (Addr × Obj)} (B : Bs muts s g L) (F : Fr g L h m) (hm : ∀ p ∈ muts, s.heap.get? p.1 = some p.2) (N : ∀ p ∈ muts, h.get? p.1 = some p.2) : ∀ b o, s.heap.get? b = some o → h.get? b = some o := fun b o q => by
  by_cases hb : b ∈ muts.map (·.1)
  · obtain ⟨p, hp, rfl⟩ := List.mem_map.mp hb
    rw [hm p hp] at q
    cases q
    exact N p hp
  · exact F.keep b o (B.into b o hb q)
end
end
section
open PySem PySem.W PySem.Calls PyProof.Rows
structure NoT (w : World) (v : Value) (th : Th) (h : Heap) : Prop where
  tv : ThV w th v h
  ns : ∀ x, th ≠ .str x
  nn : v ≠ .none
  k6 : ∀ k, th = .hvy k → k < 6
theorem NoT.keeps {w : World} {v : Value} {th : Th} {h h' : Heap} (x : NoT w v th h) (k : ∀ b o, v = .ref b → h.get? b = some o → h'.get? b = some o) : NoT w v th h' := ⟨x.tv.keeps k, x.ns, x.nn, x.k6⟩
theorem isstr_not {w : World} {A : Around} {s : Shared} {E : Value → Shared → Prop} {Q : Value → Shared → Prop} {v : Value} {th : Th} (x : NoT w v th s.heap) (h : ∀ tk, Q (.bool false) { s with toks := tk }) : wpAny (Mod w) A (call (.builtin "isinstance") [v, .type "str"]) Q E s := by
  cases th with
  | str y => exact absurd rfl (x.ns y)
  | nul k => exact isstr_nul x.tv h
  | hvy k => exact isstr_hvy x.tv h
theorem init_not {w : World} {outer : List Env} {s : Shared} {sh dsh : Nat} {v : Value} {th : Th} {R : Result → Shared → Prop} (G : Gd w outer s.heap) (h1 : s.heap.get? sh = some (instObj 732 dsh)) (h2 : s.heap.get? dsh = some emptyDict) (hne : dsh < sh) (hb : 815 ≤ dsh) (hf1 : sh ∉ frs outer) (hf2 : dsh ∉ frs outer)
    (hv : NoT w v th s.heap) (v1 : v ≠ .ref sh) (v2 : v ≠ .ref dsh)
    (hQ : ∀ s' k t ts tl tt pb fs, Mv [sh, dsh] s s' → s'.heap.get? sh = some (instObj 732 dsh) → s'.heap.get? dsh = some (dictOf (shN k t v (Str.ofString "#") wcL pb fs false (.str cSp ts) 1 tl cE tt) 19) →
      s'.heap.get? pb = some dqO → s'.heap.get? fs = some dqO → sh < pb → pb < fs → R (.ok (.ret .none)) s') :
    codeAny (Mod w) (AT 420 1500 outer) (.call (.ref 656) ⟨[.ref sh, v], [(Str.ofString "posix", .bool true)]⟩) R s := by
  refine' enterP [(sh, instObj 732 dsh), (dsh, emptyDict)] G ?hm ?k6 ?k7 ?k8 ?k9 ?kB ?_ ?c2 ?c3 ?c4 ?c5
  case hm => intro p hp; rcases List.mem_cons.mp hp with rfl | hp; exact ⟨h1, by show 815 ≤ sh; omega, hf1⟩; rcases List.mem_cons.mp hp with rfl | hp; exact ⟨h2, hb, hf2⟩; cases hp
  (((case k6 => k_is); (case k7 => k_is); (case k8 => decide); (case k9 => first | exact BindsTo.of_eq rfl | exact binds_K (Gd.X (by assumption)) rfl (by k_is) rfl rfl rfl); (case kB => exact locs rfl); (case c2 => exact rfl); (case c3 => exact rfl); (case c4 => exact rfl); (case c5 => decide)))
  intro g L' h' lo mg mb F N B X T Bz _ Gg hLb
  replace hne := ltN hne
  (try dsimp only)
  (try k_fold)
  have hv0 : NoT w v th g := hv.keeps fun b o q e => Bz.into b o (fun z => by
    rcases List.mem_cons.mp z with z | z
    · exact v1 (by rw [q, z])
    · exact v2 (by rw [q, List.mem_singleton.mp z])) e
  k_steps
  refine isstr_not (hv0.keeps fun b o _ e => Fr.keep (by assumption) _ _ e) fun tk => ?_
  k_steps
  refine isnot_none_ne hv0.nn ?_
  k_steps
  ((refine' dq_mkW ?r3 ?r4 ?_; (case r3 => k_asm); (case r4 => k_asm); k_whole; intro h'_i a'_i F'_i N'_i lt1_i; (have q0_i := ltN (lt1_i _ (.head _))); (have q1_i := ltN (lt1_i _ (.tail _ (.head _))))))
  k_steps
  ((refine' dq_mkW ?r3 ?r4 ?_; (case r3 => k_asm); (case r4 => k_asm); k_whole; intro h'_i a'_i F'_i N'_i lt1_i; (have q0_i := ltN (lt1_i _ (.head _))); (have q1_i := ltN (lt1_i _ (.tail _ (.head _)))); (have q2_i := ltN (lt1_i _ (.tail _ (.tail _ (.head _)))))))
  k_steps
  rename News _ _ _ _ => NN
  obtain ⟨k9, t9, ts9, tl9, tt9, z9⟩ := shN_conv (NN.get (.tail _ (.tail _ (.tail _ (.head _))))) (by kernel_rfl)
  exact hQ _ k9 t9 ts9 tl9 tt9 _ _ (Bz.mv (by assumption)) (NN.get (.tail _ (.tail _ (.head _)))) z9 (NN.get (.tail _ (.head _))) (NN.get (.head _)) (by assumption) (by assumption)
end
section
open PySem PySem.W PySem.Calls PyProof.Rows
structure LxN (w : World) (outer : List Env) (sh dsh pb : Nat) (v : Value) (th : Th) (D : Obj) (h : Heap) : Prop where
  g1 : h.get? sh = some (instObj 732 dsh)
  g2 : h.get? dsh = some D
  g3 : h.get? pb = some dqO
  h0 : 815 ≤ dsh
  h1 : dsh < sh
  h2 : sh < pb
  f1 : sh ∉ frs outer
  f2 : dsh ∉ frs outer
  f3 : pb ∉ frs outer
  nt : NoT w v th h
  v1 : v ≠ .ref sh
  v2 : v ≠ .ref dsh
  v3 : v ≠ .ref pb
noncomputable abbrev lexN (sh dsh pb : Nat) (D : Obj) : List (Addr × Obj) := [(sh, instObj 732 dsh), (dsh, D), (pb, dqO)]
section
variable {w : World} {outer : List Env} {sh dsh pb fs : Nat} {v : Value} {th : Th} {D : Obj} {s : Shared}
theorem LxN.hm (x : LxN w outer sh dsh pb v th D s.heap) : ∀ p ∈ lexN sh dsh pb D, s.heap.get? p.1 = some p.2 ∧ 815 ≤ p.1 ∧ p.1 ∉ frs outer := fun p hp => by
  have a0 := x.h0
  have a1 := x.h1
  have a2 := x.h2
  rcases List.mem_cons.mp hp with rfl | hp
  · exact ⟨x.g1, by show 815 ≤ sh; omega, x.f1⟩
  rcases List.mem_cons.mp hp with rfl | hp
  · exact ⟨x.g2, by show 815 ≤ dsh; omega, x.f2⟩
  rcases List.mem_cons.mp hp with rfl | hp
  · exact ⟨x.g3, by show 815 ≤ pb; omega, x.f3⟩
  cases hp
theorem LxN.into {g : Heap} {L : Addr} (x : LxN w outer sh dsh pb v th D s.heap) (B : Bs (lexN sh dsh pb D) s g L) : NoT w v th g := x.nt.keeps fun b o q e => B.into b o (fun z => by
  rcases List.mem_cons.mp z with z | z
  · exact x.v1 (by rw [q, z])
  rcases List.mem_cons.mp z with z | z
  · exact x.v2 (by rw [q, z])
  rcases List.mem_cons.mp z with z | z
  · exact x.v3 (by rw [q, z])
  cases z) e
end
theorem ownN_instream (P : Params) : ownK P 732 (Str.ofString "instream") = true := by kernel_rfl
theorem ownN_pushback (P : Params) : ownK P 732 (Str.ofString "pushback") = true := by kernel_rfl
theorem NoT.handed {w : World} {v : Value} {th : Th} {h : Heap} (x : NoT w v th h) : handedIn v = true := by
  have tv := x.tv
  cases th with
  | str y => exact absurd rfl (x.ns y)
  | nul k =>
    match k, tv with
    | 0, hv => obtain rfl := (hv : v = .none); rfl
    | 1, hv => obtain ⟨t, rfl⟩ := (hv : ∃ t, v = .int 0 t); rfl
    | 2, hv => obtain rfl := (hv : v = .bool false); rfl
    | 3, hv => obtain ⟨a, c, rfl, _⟩ := (hv : ∃ a c, v = .ref a ∧ h.get? a = some (lstO #[] c)); rfl
    | 4, hv => obtain ⟨a, o, rfl, _⟩ := (hv : ∃ a o, v = .ref a ∧ h.get? a = some o ∧ DictS w o [] ∧ a ≠ sysModules); rfl
    | 5, hv => obtain ⟨a, c, rfl, _⟩ := (hv : ∃ a c, v = .ref a ∧ h.get? a = some { cls := .type "tuple", data := .seq #[] c }); rfl
    | n + 6, hv => obtain ⟨t, rfl⟩ := (hv : ∃ t, v = .bytes #[] t); rfl
  | hvy k =>
    match k, tv with
    | 0, hv => obtain ⟨t, rfl⟩ := (hv : ∃ t, v = .int 1 t); rfl
    | 1, hv => obtain rfl := (hv : v = .bool true); rfl
    | 2, hv => obtain ⟨t, rfl⟩ := (hv : ∃ t, v = .bytes #[97] t); rfl
    | 3, hv => obtain ⟨a, c, t, rfl, _⟩ := (hv : ∃ a c t, v = .ref a ∧ h.get? a = some (lstO #[.str cA t] c)); rfl
    | 4, hv => obtain ⟨a, c, t, rfl, _⟩ := (hv : ∃ a c t, v = .ref a ∧ h.get? a = some { cls := .type "tuple", data := .seq #[.str cA t] c }); rfl
    | n + 5, hv => obtain ⟨a, o, u, rfl, _⟩ := (hv : ∃ a o u, v = .ref a ∧ h.get? a = some o ∧ DictS w o [(cA, .int 1 u)] ∧ a ≠ sysModules); rfl
theorem Bs.mv0 {s : Shared} {g h : Heap} {L : Addr} {m : Str → Option Value} {muts : List (Addr × Obj)} {tk : Nat} (B : Bs muts s g L) (F : Fr g L h m) (hm : ∀ p ∈ muts, s.heap.get? p.1 = some p.2) (N : ∀ p ∈ muts, h.get? p.1 = some p.2) : Mv [] s ⟨h, s.gens, s.drawn, tk, s.os⟩ :=
  have M := B.mv (tk := tk) F
  ⟨fun b o _ e => up_all B F hm N b o e, M.gens, M.os, M.dr, M.size⟩
theorem punct_not {w : World} {outer : List Env} {s : Shared} {sh dsh pb fs : Nat} {v : Value} {k : Nat → Int} {t : Nat → Tok} {cm : Str} {sp : Bool} {ts tl tt : Tok} {R : Result → Shared → Prop}
   (G : Gd w outer s.heap) (h1 : s.heap.get? sh = some (instObj 732 dsh)) (h2 : s.heap.get? dsh = some (dictOf (shN k t v cm wcL pb fs sp (.str cSp ts) 1 tl cE tt) 19)) (hb : 815 ≤ dsh) (hb2 : 815 ≤ sh) (hf1 : sh ∉ frs outer) (hf2 : dsh ∉ frs outer)
   (hQ : ∀ s' t, Mv [] s s' → R (.ok (.ret (.str (Str.ofString "") t))) s') :
   codeAny (Mod w) (AT 500 2000 outer) (.call (.ref 663) ⟨[.ref sh], []⟩) R s := by
  refine' enterP [(sh, instObj 732 dsh), (dsh, dictOf (shN k t v cm wcL pb fs sp (.str cSp ts) 1 tl cE tt) 19)] G ?hm ?k6 ?k7 ?k8 ?k9 ?kB ?_ ?c2 ?c3 ?c4 ?c5
  case hm => intro p hp; rcases List.mem_cons.mp hp with rfl | hp; exact ⟨h1, hb2, hf1⟩; rcases List.mem_cons.mp hp with rfl | hp; exact ⟨h2, hb, hf2⟩; cases hp
  (((case k6 => k_is); (case k7 => k_is); (case k8 => decide); (case k9 => first | exact BindsTo.of_eq rfl | exact binds_K (Gd.X (by assumption)) rfl (by k_is) rfl rfl rfl); (case kB => exact locs rfl); (case c2 => exact rfl); (case c3 => exact rfl); (case c4 => exact rfl); (case c5 => decide)))
  intro g L' h' lo mg mb F N B X T Bz _ Gg hLb
  (try dsimp only)
  (try k_fold)
  k_steps
  all_goals (dsimp only; (try (k_unfold; dsimp only)))
  all_goals exact hQ _ _ (Bz.mv0 (by assumption) (fun p hp => by rcases List.mem_cons.mp hp with rfl | hp; exact h1; rcases List.mem_cons.mp hp with rfl | hp; exact h2; cases hp) (fun p hp => News.get (by assumption) hp))
theorem LxN.push {w : World} {outer : List Env} {env : Env} {sh dsh pb : Nat} {v : Value} {th : Th} {D : Obj} {s : Shared} {g h : Heap} {L : Addr} (x : LxN w outer sh dsh pb v th D s.heap) (Gg : Gd w outer g) (N : News g L h (lexN sh dsh pb D)) (hf : env.frame = some L) (nt : NoT w v th h) : LxN w (env :: outer) sh dsh pb v th D h where
  g1 := N.get (.head _)
  g2 := N.get (.tail _ (.head _))
  g3 := N.get (.tail _ (.tail _ (.head _)))
  h0 := x.h0
  h1 := x.h1
  h2 := x.h2
  f1 := News.fr Gg N hf _ (.head _)
  f2 := News.fr Gg N hf _ (.tail _ (.head _))
  f3 := News.fr Gg N hf _ (.tail _ (.tail _ (.head _)))
  nt := nt
  v1 := x.v1
  v2 := x.v2
  v3 := x.v3
theorem rd_not {w : World} {outer : List Env} {s : Shared} {sh dsh pb fs : Nat} {v : Value} {th : Th} {k : Nat → Int} {t : Nat → Tok} {cm : Str} {sp : Bool} {ts tl tt : Tok} {R : Result → Shared → Prop} (G : Gd w outer s.heap)
    (Z : LxN w outer sh dsh pb v th (dictOf (shN k t v cm wcL pb fs sp (.str cSp ts) 1 tl cE tt) 19) s.heap)
    (hQ : ∀ s' e, Rw outer s e s' → R (.error (.ref e)) s') :
    codeAny (Mod w) (AT 480 1900 outer) (.call (.ref 700) ⟨[.ref sh], []⟩) R s := by
  have q1 := ltN Z.h1
  have q2 := ltN Z.h2
  refine' enterP (lexN sh dsh pb _) G Z.hm ?k6 ?k7 ?k8 ?k9 ?kB ?_ ?c2 ?c3 ?c4 ?c5
  (((case k6 => k_is); (case k7 => k_is); (case k8 => decide); (case k9 => first | exact BindsTo.of_eq rfl | exact binds_K (Gd.X (by assumption)) rfl (by k_is) rfl rfl rfl); (case kB => exact locs rfl); (case c2 => exact rfl); (case c3 => exact rfl); (case c4 => exact rfl); (case c5 => decide)))
  intro g L' h' lo mg mb F N B X T Bz _ Gg hLb
  have nt := Z.into Bz
  (try dsimp only)
  (try k_fold)
  k_steps
  rename Fr _ _ _ _ => FF
  rename News _ _ _ _ => NN
  have z := prop_punct w.params
  rw [Bool.and_eq_true] at z
  refine get_prop (fget := 663) FF X (InstAt.of_news NN (.head _) (.tail _ (.head _))) z.1 z.2 (by k_is) (by k_is) (by k_is) (by k_is) ?_
  have nf := fun (env : Env) (hf : env.frame = some L') => News.fr Gg NN (env := env) hf
  refine codeAny_le (punct_not (Gg.push FF hLb rfl rfl) (NN.get (.head _)) (NN.get (.tail _ (.head _))) Z.h0 (Nat.le_of_lt (Nat.lt_of_le_of_lt Z.h0 q1)) (nf _ rfl _ (.head _)) (nf _ rfl _ (.tail _ (.head _))) fun s' t' M => ?_) rfl (Nat.le_of_ble_eq_true rfl) rfl rfl (Nat.le_of_ble_eq_true rfl)
  refine handed_on (by rfl) ?_
  refine liftP M FF NN fun h2 tk2 F2 N2 k2 => ?_
  clear FF NN
  k_steps
  refine get_ownK (v := v) F2 X (InstAt.of_news N2 (.head _) (.tail _ (.head _))) (ownN_instream _) (by kernel_rfl) nt.handed ?_
  refine no_read (nt.tv.keeps fun b o _ e => F2.keep _ _ e) nt.ns nt.nn nt.k6 rfl fun h3 tk3 e hx => ?_
  exact rw_new (Gg.push F2 hLb rfl rfl) (up_all Bz F2 (fun p hp => (Z.hm p hp).1) (fun p hp => N2.get hp)) (fresh_L Bz) hx rfl rfl rfl fun s'' Rk => hQ s'' e Rk
theorem gt_not {w : World} {outer : List Env} {s : Shared} {sh dsh pb fs : Nat} {v : Value} {th : Th} {k : Nat → Int} {t : Nat → Tok} {cm : Str} {sp : Bool} {ts tl tt : Tok} {R : Result → Shared → Prop} (G : Gd w outer s.heap)
    (Z : LxN w outer sh dsh pb v th (dictOf (shN k t v cm wcL pb fs sp (.str cSp ts) 1 tl cE tt) 19) s.heap)
    (hQ : ∀ s' e, Rw outer s e s' → R (.error (.ref e)) s') :
    codeAny (Mod w) (AT 470 1800 outer) (.call (.ref 693) ⟨[.ref sh], []⟩) R s := by
  have q1 := ltN Z.h1
  have q2 := ltN Z.h2
  refine' enterP (lexN sh dsh pb _) G Z.hm ?k6 ?k7 ?k8 ?k9 ?kB ?_ ?c2 ?c3 ?c4 ?c5
  (((case k6 => k_is); (case k7 => k_is); (case k8 => decide); (case k9 => first | exact BindsTo.of_eq rfl | exact binds_K (Gd.X (by assumption)) rfl (by k_is) rfl rfl rfl); (case kB => exact locs rfl); (case c2 => exact rfl); (case c3 => exact rfl); (case c4 => exact rfl); (case c5 => decide)))
  intro g L' h' lo mg mb F N B X T Bz _ Gg hLb
  have nt := Z.into Bz
  (try dsimp only)
  (try k_fold)
  k_steps
  rename Fr _ _ _ _ => FF
  rename News _ _ _ _ => NN
  refine truthy_dq (NN.get (.tail _ (.tail _ (.head _)))) ?_
  k_steps
  refine wpAny_call (codeAny_le (rd_not (Gg.push FF hLb rfl rfl) (Z.push Gg NN rfl (nt.keeps fun b o _ e => FF.keep _ _ e)) fun s' e Rk => ?_) rfl (Nat.le_of_ble_eq_true rfl) rfl rfl (Nat.le_of_ble_eq_true rfl))
  exact rw_on (up_all Bz FF (fun p hp => (Z.hm p hp).1) (fun p hp => NN.get hp)) (fresh_L Bz) Rk rfl rfl rfl fun s'' Rk => hQ s'' e Rk
theorem nx_not {w : World} {outer : List Env} {s : Shared} {sh dsh pb fs : Nat} {v : Value} {th : Th} {k : Nat → Int} {t : Nat → Tok} {cm : Str} {sp : Bool} {ts tl tt : Tok} {R : Result → Shared → Prop} (G : Gd w outer s.heap)
    (Z : LxN w outer sh dsh pb v th (dictOf (shN k t v cm wcL pb fs sp (.str cSp ts) 1 tl cE tt) 19) s.heap)
    (hQ : ∀ s' e, Rw outer s e s' → R (.error (.ref e)) s') :
    codeAny (Mod w) (AT 460 1700 outer) (.call (.ref 729) ⟨[.ref sh], []⟩) R s := by
  have q1 := ltN Z.h1
  have q2 := ltN Z.h2
  refine' enterP (lexN sh dsh pb _) G Z.hm ?k6 ?k7 ?k8 ?k9 ?kB ?_ ?c2 ?c3 ?c4 ?c5
  (((case k6 => k_is); (case k7 => k_is); (case k8 => decide); (case k9 => first | exact BindsTo.of_eq rfl | exact binds_K (Gd.X (by assumption)) rfl (by k_is) rfl rfl rfl); (case kB => exact locs rfl); (case c2 => exact rfl); (case c3 => exact rfl); (case c4 => exact rfl); (case c5 => decide)))
  intro g L' h' lo mg mb F N B X T Bz _ Gg hLb
  have nt := Z.into Bz
  (try dsimp only)
  (try k_fold)
  k_steps
  rename Fr _ _ _ _ => FF
  rename News _ _ _ _ => NN
  refine wpAny_call (codeAny_le (gt_not (Gg.push FF hLb rfl rfl) (Z.push Gg NN rfl (nt.keeps fun b o _ e => FF.keep _ _ e)) fun s' e Rk => ?_) rfl (Nat.le_of_ble_eq_true rfl) rfl rfl (Nat.le_of_ble_eq_true rfl))
  exact rw_on (up_all Bz FF (fun p hp => (Z.hm p hp).1) (fun p hp => NN.get hp)) (fresh_L Bz) Rk rfl rfl rfl fun s'' Rk => hQ s'' e Rk
end
section
open PySem PySem.W PySem.Calls PyProof.Rows
theorem sub_AS : isSubtype (.type "AttributeError") (.type "StopIteration") = pure false := by rw [isSubtype_type]; kernel_rfl
theorem LxN.keeps {w : World} {outer : List Env} {sh dsh pb : Nat} {v : Value} {th : Th} {D : Obj} {h h' : Heap} (x : LxN w outer sh dsh pb v th D h) (k : ∀ b o, h.get? b = some o → h'.get? b = some o) : LxN w outer sh dsh pb v th D h' :=
  ⟨k _ _ x.g1, k _ _ x.g2, k _ _ x.g3, x.h0, x.h1, x.h2, x.f1, x.f2, x.f3, x.nt.keeps fun b o _ e => k b o e, x.v1, x.v2, x.v3⟩
theorem list_not {w : World} {A : Around} {outer : List Env} {s : Shared} {E : Value → Shared → Prop} {sh dsh pb fs : Nat} {v : Value} {th : Th} {k : Nat → Int} {t : Nat → Tok} {cm : Str} {sp : Bool} {ts tl tt : Tok} {D : Obj} {g : Heap} {L : Addr} {m : Str → Option Value} {Q : Value → Shared → Prop}
    (G : Gd w outer s.heap) (F : Fr g L s.heap m) (Xg : (kk.heap_1 w.params).In g) (eD : D = dictOf (shN k t v cm wcL pb fs sp (.str cSp ts) 1 tl cE tt) 19) (Z : LxN w outer sh dsh pb v th D s.heap)
    (hA : A.frames = some outer) (a1 : A.handled = none) (a2 : A.depth ≤ 440) (a3 : A.guards = some []) (a4 : A.units ≤ 1500)
    (hE : ∀ s' e, Rw outer s e s' → E (.ref e) s') : wpAny (Mod w) A (call (.type "list") [.ref sh]) Q E s := by
  have lS : ∀ b o, s.heap.get? b = some o → b < s.heap.objs.size := fun b o e => Heap.lt_size e
  refine callType_codes (Q₁ := fun obj s₁ => obj = .ref s.heap.objs.size ∧ s₁ = { s with heap := s.heap.push { cls := .type "list", data := .seq #[] } }) PySem.F.called_list (PySem.F.typeCall_list_1 _) PySem.F.entry_list_init (code_list_new _ ⟨rfl, rfl⟩) fun obj s₁ h₁ => ?_
  obtain ⟨rfl, rfl⟩ := h₁
  have hS : (s.heap.push { cls := .type "list", data := .seq #[] }).get? s.heap.objs.size = some { cls := .type "list", data := .seq #[] } := Heap.get?_push_size _ rfl
  refine ⟨⟨_, hS, rfl⟩, PySem.F.args_list_init_2 _ _, ?_⟩
  show wpAny _ A.in1.in1 (do let old ← Builtin.List.listItems (.ref s.heap.objs.size); Builtin.List.listUpdate (.ref s.heap.objs.size) (fun _ => #[]); letGo old.toList.reverse; Builtin.List.listExtendWith (.ref s.heap.objs.size) (.ref sh) .none) _ _ _
  refine wpAny_bind ?_
  unfold Builtin.List.listItems
  refine wpAny_bind (wpAny_seqItems hS rfl (wpAny_pure ?_))
  show wpAny _ A.in1.in1 (updateSeq s.heap.objs.size (fun _ => #[]) >>= fun _ => letGo (#[] : Array Value).toList.reverse >>= fun _ => Builtin.List.listExtendWith (.ref s.heap.objs.size) (.ref sh) .none) _ _ _
  refine wpAny_bind (wpAny_updateSeq hS rfl ?_)
  refine wpAny_bind (wpAny_letGo ?_)
  generalize hH : (s.heap.push { cls := .type "list", data := .seq #[] }).update s.heap.objs.size (Obj.mapSeq (fun _ => (#[] : Array Value))) = H
  have kH : ∀ b o, s.heap.get? b = some o → H.get? b = some o := fun b o e => by
    rw [← hH]
    exact (Heap.get?_update_other _ _ (Nat.ne_of_gt (lS b o e))).trans (Heap.get?_push_of_some _ e)
  have sH : ∃ c, H.get? s.heap.objs.size = some (lstO #[] c) := ⟨_, by rw [← hH]; exact Heap.get?_update_self (Obj.mapSeq (fun _ => (#[] : Array Value))) hS rfl⟩
  obtain ⟨c0, sH⟩ := sH
  have zH : s.heap.objs.size ≤ H.objs.size := Nat.le_of_lt (Heap.lt_size sH)
  have GH := G.keeps kH zH
  have FH : Fr g L H m := ⟨ns_at F.ns fun o e => kH _ o e, fun b o e => kH b o (F.keep b o e), F.above⟩
  obtain ⟨c1, c2, c3, c4⟩ := lexc_facts w.params
  have I : W.InstAt H sh (instObj 732 dsh) 732 (some D) := ⟨kH _ _ Z.g1, rfl, rfl, kH _ _ Z.g2⟩
  have ne1 : s.heap.objs.size ≠ sh := Nat.ne_of_gt (lS _ _ Z.g1)
  unfold Builtin.List.listExtendWith
  refine wpAny_bind (I.type.here ?_)
  have h1 : Builtin.List.listSameRef (.ref s.heap.objs.size) (.ref sh) = false := by simp [Builtin.List.listSameRef, ne1]
  have h2 : (Value.ref 732 == Value.type "list") = false := by decide
  have h3 : (Value.ref 732 == Value.type "tuple") = false := by decide
  simp only [h1, h2, h3, Bool.or_false, Bool.false_eq_true, if_false]
  refine wpAny_bind (owit_iter FH Xg I c1 c2 (wpAny_call ?_))
  refine codeAny_le (it_ok (s := { s with heap := H }) GH ?_) a1 (Nat.le_trans a2 (show (440 : Nat) ≤ 450 by decide)) hA a3 (Nat.le_trans (Nat.add_le_add_right (Nat.add_le_add_right a4 1) 1) (show (1500 + 1 + 1 : Nat) ≤ 1650 by decide))
  intro s2 M2
  have F2 := Fr.mvd (s := { s with heap := H }) FH M2 (fun q => nomatch q) (fun b q => nomatch q)
  have k2 : ∀ b o, H.get? b = some o → s2.heap.get? b = some o := fun b o e => M2.keep b o (fun q => nomatch q) e
  have I2 : W.InstAt s2.heap sh (instObj 732 dsh) 732 (some D) := ⟨k2 _ _ (kH _ _ Z.g1), rfl, rfl, k2 _ _ (kH _ _ Z.g2)⟩
  refine owit_it F2 Xg I2 (next_fns w.params).1 ?_
  refine wpAny_bind (wpAny_holding ?_)
  have X2 := Xg.keeps F2.keep
  unfold Builtin.List.listLengthHint
  refine wpAny_bind (wpAny_bind (I2.type.here ((looks_findIn X2 c3).here ?_)))
  show wpAny _ _ (specialOf (.ref sh) (Str.ofString "__length_hint__") >>= _) _ _ _
  refine wpAny_bind (wpAny_bind (I2.type.here ((looks_findIn X2 c4).here ?_)))
  refine wpAny_pure ?_
  show wpAny _ A.in1.in1 (rule "list.extend.makes-room" >>= fun _ => Builtin.List.listTouch (.ref s.heap.objs.size) >>= fun _ => again (.builtin "list.extend.loop" ⟨[.ref s.heap.objs.size, .ref sh, .none], []⟩)) _ _ _
  refine wpAny_bind (wpAny_rule ?_)
  refine wpAny_bind ?_
  show wpAny _ A.in1.in1 (updateSeq s.heap.objs.size (·.push .none) >>= fun _ => updateSeq s.heap.objs.size (·.pop)) _ _ _
  have hS2 := k2 _ _ sH
  refine wpAny_bind (wpAny_updateSeq hS2 rfl ?_ (Nat.le_of_ble_eq_true rfl) (Nat.le_of_ble_eq_true rfl))
  have hS3 := Heap.get?_update_self (Obj.mapSeq (·.push Value.none)) hS2 rfl
  refine wpAny_updateSeq hS3 rfl ?_ (Nat.le_of_ble_eq_true rfl) (Nat.le_of_ble_eq_true rfl)
  have hS4 := Heap.get?_update_self (Obj.mapSeq (·.pop)) hS3 rfl
  generalize hJ : (s2.heap.update s.heap.objs.size (Obj.mapSeq (·.push Value.none))).update s.heap.objs.size (Obj.mapSeq (·.pop)) = J at hS4 ⊢
  have kJ : ∀ b o, s.heap.get? b = some o → J.get? b = some o := fun b o e => by
    rw [← hJ]
    exact (Heap.get?_update_other _ _ (Nat.ne_of_gt (lS b o e))).trans ((Heap.get?_update_other _ _ (Nat.ne_of_gt (lS b o e))).trans (k2 b o (kH b o e)))
  have zJ : s.heap.objs.size ≤ J.objs.size := Nat.le_of_lt (Heap.lt_size hS4)
  subst eD
  have GJ := G.keeps kJ zJ
  have ZJ := Z.keeps kJ
  refine wpAny_pure ⟨plainId_quiet PySem.F.plain_extend_loop _, codeAny_builtin PySem.F.entry_extend_loop ?_⟩
  rw [Around.under_plainId PySem.F.plain_extend_loop _]
  show wpAny _ A.in1.in1 (pyNext (.ref sh) >>= _) _ _ _
  refine wpAny_bind (nextOwn (s := { s2 with heap := J }) GJ.X (.inr ⟨_, ⟨ZJ.g1, rfl, rfl, ZJ.g2⟩⟩) (wpAny_call ?_))
  refine codeAny_le (nx_not (s := { s2 with heap := J }) GJ ZJ fun s' e Rk => ?_) a1 (Nat.le_trans a2 (show (440 : Nat) ≤ 460 by decide)) hA a3 (Nat.le_trans (Nat.add_le_add_right (Nat.add_le_add_right a4 1) 1) (show (1500 + 1 + 1 : Nat) ≤ 1700 by decide))
  obtain ⟨B, a0, hB, fl⟩ := Rk.R
  obtain ⟨ob, hob, hcl⟩ := fl.there
  refine wpAny_isInstance (T := "AttributeError") (b := false) ⟨ob, hob, hcl⟩ sub_AS ?_
  simp only [Bool.false_eq_true, if_false]
  exact hE s' e (Rk.after kJ M2.gens M2.os M2.dr)
end
section
open PySem PySem.W PySem.Calls PyProof.Rows
theorem NoT.lt {w : World} {v : Value} {th : Th} {h : Heap} (x : NoT w v th h) : ∀ b : Nat, v = .ref b → b < h.objs.size := fun b e => thv_lt (th := th) (e ▸ x.tv)
theorem lex_not {w : World} {outer : List Env} {s : Shared} {v : Value} {th : Th} {R : Result → Shared → Prop} (G : Gd w outer s.heap) (nt : NoT w v th s.heap)
    (hQ : ∀ s' sh dsh k t ts tl tt pb fs, Mv [] s s' → s'.heap.get? sh = some (instObj 732 dsh) → s'.heap.get? dsh = some (dictOf (shN k t v (Str.ofString "#") wcL pb fs false (.str cSp ts) 1 tl cE tt) 19) →
      s'.heap.get? pb = some dqO → s'.heap.get? fs = some dqO → s.heap.objs.size ≤ dsh → dsh < sh → sh < pb → pb < fs → R (.ok (.ret (.ref sh))) s') :
    codeAny (Mod w) (AT 418 1490 outer) (.call (.ref 732) ⟨[v], [(Str.ofString "posix", .bool true)]⟩) R s := by
  obtain ⟨m1, m2, m3⟩ := lex_facts w.params
  obtain ⟨hh, gg, dd, tt, os⟩ := s
  have X : (kk.heap_1 w.params).In hh := G.X
  refine make_core (makes_of X m1) (looks_findIn X m2) (fun self => bind_fn X self m3) (.inl rfl) ?_
  have k2 : ∀ b o, hh.get? b = some o → ((hh.push emptyDict).push (instObj 732 hh.objs.size)).get? b = some o := fun b o e => Heap.get?_push_of_some _ (Heap.get?_push_of_some _ e)
  have hz : hh.objs.size ≤ ((hh.push emptyDict).push (instObj 732 hh.objs.size)).objs.size := by rw [Heap.size_push, Heap.size_push]; omega
  have G1 := G.keeps k2 hz
  have g1 : ((hh.push emptyDict).push (instObj 732 hh.objs.size)).get? (hh.objs.size + 1) = some (instObj 732 hh.objs.size) := by
    have z : ((hh.push emptyDict).push (instObj 732 hh.objs.size)).get? (hh.push emptyDict).objs.size = some (instObj 732 hh.objs.size) := Heap.get?_push_size _ rfl
    rw [Heap.size_push] at z
    exact z
  have g2 : ((hh.push emptyDict).push (instObj 732 hh.objs.size)).get? hh.objs.size = some emptyDict := Heap.get?_push_of_some _ (Heap.get?_push_size _ rfl)
  have vlt := nt.lt
  refine codeAny_le (init_not G1 g1 g2 (Nat.lt_succ_self _) G.big (nofr G _ (Nat.le_succ _)) (nofr G _ (Nat.le_refl _)) (nt.keeps fun b o _ e => k2 b o e) (fun q => absurd (vlt _ q) (Nat.not_lt.mpr (Nat.le_succ _))) (fun q => absurd (vlt _ q) (Nat.lt_irrefl _)) ?_) rfl (Nat.le_of_ble_eq_true rfl) rfl rfl (Nat.le_of_ble_eq_true rfl)
  intro s' k t ts tl tt pb fs M z1 z2 z5 z6 o1 o2
  refine ⟨rfl, hQ s' _ _ k t ts tl tt pb fs ⟨fun b o _ e => M.keep b o (fun q => ?_) (k2 b o e), M.gens, M.os, M.dr, Nat.le_trans hz M.size⟩ z1 z2 z5 z6 (Nat.le_refl _) (Nat.lt_succ_self _) o1 o2⟩
  have hb := Heap.lt_size e
  rcases List.mem_cons.mp q with q | q
  · exact absurd hb (Nat.not_lt.mpr (q ▸ Nat.le_succ _))
  · exact absurd hb (Nat.not_lt.mpr (List.mem_singleton.mp q ▸ Nat.le_refl _))
section
variable {w : World} {A : Around} {env : Env} {outer : List Env} {s : Shared} {g : Heap} {L : Addr} {m : Str → Option Value} {news : List (Addr × Obj)} {E : Value → Shared → Prop}
theorem lex_notW {v : Value} {th : Th} {R : Result → Shared → Prop} (Gg : Gd w outer g) (hL : 815 ≤ L) (F : Fr g L s.heap m) (N : News g L s.heap news) (hA : A.frames = some (env :: outer)) (hf : env.frame = some L) (hk : env.scope.kind = .function)
    (a1 : A.handled = none) (a2 : A.depth ≤ 418) (a3 : A.guards = some []) (a4 : A.units ≤ 1490) (nt : NoT w v th s.heap)
    (hQ : ∀ h' tk sh dsh k t ts tl tt pb fs, Fr g L h' m → News g L h' ((sh, instObj 732 dsh) :: (dsh, dictOf (shN k t v (Str.ofString "#") wcL pb fs false (.str cSp ts) 1 tl cE tt) 19) :: (pb, dqO) :: (fs, dqO) :: news) →
      L < dsh → dsh < sh → sh < pb → pb < fs → R (.ok (.ret (.ref sh))) { s with heap := h', toks := tk }) :
    codeAny (Mod w) A (.call (.ref 732) ⟨[v], [(Str.ofString "posix", .bool true)]⟩) R s := by
  refine codeAny_le (lex_not (Gg.push F hL hf hk) nt ?_) a1 a2 hA a3 a4
  intro s' sh dsh k t ts tl tt pb fs M z1 z2 z5 z6 o0 o1 o2 o3
  have l0 := frLt F
  have gs : g.objs.size ≤ L := F.above
  have fresh : ∀ b : Nat, s.heap.objs.size ≤ b → b ≠ L ∧ g.get? b = none := fun b hb => by
    refine ⟨fun q => absurd l0 (Nat.not_lt.mpr (q ▸ hb)), ?_⟩
    cases e : g.get? b with
    | none => rfl
    | some o => exact absurd (Heap.lt_size e) (Nat.not_lt.mpr (Nat.le_trans gs (Nat.le_trans (Nat.le_of_lt l0) hb)))
  rw [M.eq]
  refine hQ _ _ sh dsh k t ts tl tt pb fs (Fr.mvd F M (fun q => nomatch q) (fun b q => nomatch q)) ?_ (Nat.lt_of_lt_of_le l0 o0) o1 o2 o3
  have p1 := Nat.le_trans o0 (Nat.le_of_lt o1)
  have p2 := Nat.le_trans p1 (Nat.le_of_lt o2)
  have p3 := Nat.le_trans p2 (Nat.le_of_lt o3)
  intro p hp
  rcases List.mem_cons.mp hp with rfl | hp
  · exact ⟨z1, fresh _ p1⟩
  rcases List.mem_cons.mp hp with rfl | hp
  · exact ⟨z2, fresh _ o0⟩
  rcases List.mem_cons.mp hp with rfl | hp
  · exact ⟨z5, fresh _ p2⟩
  rcases List.mem_cons.mp hp with rfl | hp
  · exact ⟨z6, fresh _ p3⟩
  · exact ⟨M.keep _ _ (fun q => nomatch q) (N p hp).1, (N p hp).2⟩
end
noncomputable abbrev shM (k : Nat → Int) (t : Nat → Tok) (u : Tok) (v : Value) (cm wc : Str) (pb fs : Nat) (sp : Bool) (st : Value) (ln : Int) (tl : Tok) (tok : Str) (tt : Tok) : List DictEntry :=
  [⟨k 0, .str (Str.ofString "instream") (t 0), v⟩, ⟨k 1, .str (Str.ofString "infile") (t 1), .none⟩, ⟨k 2, .str (Str.ofString "posix") (t 2), .bool true⟩, ⟨k 3, .str (Str.ofString "eof") (t 3), .none⟩, ⟨k 4, .str (Str.ofString "commenters") (t 4), .str cm u⟩, ⟨k 5, .str (Str.ofString "wordchars") (t 5), .str wc (t 21)⟩, ⟨k 6, .str (Str.ofString "whitespace") (t 6), .str (Str.ofString " \t\r\n") (t 22)⟩, ⟨k 7, .str (Str.ofString "whitespace_split") (t 7), .bool sp⟩, ⟨k 8, .str (Str.ofString "quotes") (t 8), .str (Str.ofString "'\"") (t 23)⟩, ⟨k 9, .str (Str.ofString "escape") (t 9), .str (Str.ofString "\\") (t 24)⟩, ⟨k 10, .str (Str.ofString "escapedquotes") (t 10), .str (Str.ofString "\"") (t 25)⟩, ⟨k 11, .str (Str.ofString "state") (t 11), st⟩, ⟨k 12, .str (Str.ofString "pushback") (t 12), .ref pb⟩, ⟨k 13, .str (Str.ofString "lineno") (t 13), .int ln tl⟩, ⟨k 14, .str (Str.ofString "debug") (t 14), .int 0 (t 26)⟩, ⟨k 15, .str (Str.ofString "token") (t 15), .str tok tt⟩, ⟨k 16, .str (Str.ofString "filestack") (t 16), .ref fs⟩, ⟨k 17, .str (Str.ofString "source") (t 17), .none⟩, ⟨k 18, .str (Str.ofString "_punctuation_chars") (t 18), .str (Str.ofString "") (t 27)⟩]
theorem list_notW {w : World} {outer : List Env} {env : Env} {s : Shared} {E : Value → Shared → Prop} {sh dsh pb fs : Nat} {v : Value} {th : Th} {k : Nat → Int} {t : Nat → Tok} {cm : Str} {sp : Bool} {u ts tl tt : Tok} {A : Around} {g : Heap} {L : Addr} {m : Str → Option Value} {Q : Value → Shared → Prop}
    (Gg : Gd w outer g) (hL : 815 ≤ L) (F : Fr g L s.heap m) (N : News g L s.heap [(sh, instObj 732 dsh), (dsh, dictOf (shM k t u v cm wcL pb fs sp (.str cSp ts) 1 tl cE tt) 19), (pb, dqO), (fs, dqO)]) (hA : A.frames = some (env :: outer)) (hf : env.frame = some L) (hk : env.scope.kind = .function)
    (a1 : A.handled = none) (a2 : A.depth ≤ 440) (a3 : A.guards = some []) (a4 : A.units ≤ 1500) (nt : NoT w v th s.heap) (vlt : ∀ b : Nat, v = .ref b → b < L) (l0 : L < dsh) (l1 : dsh < sh) (l2 : sh < pb)
    (hE : ∀ s' e, Rw (env :: outer) s e s' → E (.ref e) s') : wpAny (Mod w) A (call (.type "list") [.ref sh]) Q E s := by
  have nf := News.fr Gg N hf
  have v0 : ∀ b : Nat, L < b → v ≠ .ref b := fun b hb q => absurd (vlt b q) (Nat.not_lt.mpr (Nat.le_of_lt hb))
  exact list_not (t := fun i => if i = 20 then u else t i) (Gg.push F hL hf hk) F Gg.X rfl ⟨N.get (.head _), N.get (.tail _ (.head _)), N.get (.tail _ (.tail _ (.head _))), Nat.le_trans hL (Nat.le_of_lt l0), l1, l2, nf _ (.head _), nf _ (.tail _ (.head _)), nf _ (.tail _ (.tail _ (.head _))), nt, v0 _ (Nat.lt_trans l0 l1), v0 _ l0, v0 _ (Nat.lt_trans l0 (Nat.lt_trans l1 l2))⟩ hA a1 a2 a3 a4 hE
theorem split_not {w : World} {outer : List Env} {s : Shared} {v : Value} {th : Th} {R : Result → Shared → Prop} (G : Gd w outer s.heap) (nt : NoT w v th s.heap)
    (hQ : ∀ s' e, Rw outer s e s' → R (.error (.ref e)) s') : codeAny (Mod w) (AT 410 1400 outer) (.call (.ref 744) ⟨[v], []⟩) R s := by
  refine' enterP [] G ?hm ?k6 ?k7 ?k8 ?k9 ?kB ?_ ?c2 ?c3 ?c4 ?c5
  case hm => intro p hp; cases hp
  (((case k6 => k_is); (case k7 => k_is); (case k8 => decide); (case k9 => first | exact BindsTo.of_eq rfl | exact binds_K (Gd.X (by assumption)) rfl (by k_is) rfl rfl rfl); (case kB => exact locs rfl); (case c2 => exact rfl); (case c3 => exact rfl); (case c4 => exact rfl); (case c5 => decide)))
  intro g L' h' lo mg mb F N B X T Bz _ Gg hLb
  have ntg := nt.keeps (h' := g) fun b o _ e => Bz.into b o (fun q => nomatch q) e
  (try dsimp only)
  (try k_fold)
  k_steps
  refine is_none_ne nt.nn ?_
  k_steps
  rename Fr _ _ _ _ => FF
  have nt1 := ntg.keeps (h' := _) fun b o _ e => FF.keep _ _ e
  refine wpAny_call (lex_notW Gg hLb FF News.nil rfl rfl rfl rfl (Nat.le_of_ble_eq_true rfl) rfl (Nat.le_of_ble_eq_true rfl) nt1 fun h2 tk2 sh dsh k t ts tl tt pb fs F2 N2 l0 l1 l2 l3 => ?_)
  (try dsimp only)
  clear FF
  have q0 := ltN l0
  have q1 := ltN l1
  have q2 := ltN l2
  have q3 := ltN l3
  k_steps
  rename Fr _ _ _ _ => F9
  rename News _ _ _ _ => N9
  refine list_notW Gg hLb F9 N9 rfl rfl rfl rfl (Nat.le_of_ble_eq_true rfl) rfl (Nat.le_of_ble_eq_true rfl) (ntg.keeps fun b o _ e => F9.keep _ _ e) (fun b e => by have := nt.lt b e; rw [Bz.at_]; exact this) q0 q1 q2 fun s' e Rk => ?_
  exact rw_on (fun b o q => F9.keep b o (Bz.into b o (fun z => nomatch z) q)) (fresh_L Bz) Rk rfl rfl rfl fun s'' Rk => hQ s'' e Rk
theorem refused_not {w : World} {outer : List Env} {s : Shared} {v : Value} {th : Th} {R : Result → Shared → Prop} (G : Gd w outer s.heap) (nt : NoT w v th s.heap)
    (hQ : ∀ s' t, Mx outer [] s s' → R (.ok (.ret (.str (Str.ofString "no text") t))) s') : codeAny (Mod w) (AT 400 1300 outer) (.call (.ref 797) ⟨[v], []⟩) R s := by
  refine' enterP [] G ?hm ?k6 ?k7 ?k8 ?k9 ?kB ?_ ?c2 ?c3 ?c4 ?c5
  case hm => intro p hp; cases hp
  (((case k6 => k_is); (case k7 => k_is); (case k8 => decide); (case k9 => first | exact BindsTo.of_eq rfl | exact binds_K (Gd.X (by assumption)) rfl (by k_is) rfl rfl rfl); (case kB => exact locs rfl); (case c2 => exact rfl); (case c3 => exact rfl); (case c4 => exact rfl); (case c5 => decide)))
  intro g L' h' lo mg mb F N B X T Bz _ Gg hLb
  have ntg := nt.keeps (h' := g) fun b o _ e => Bz.into b o (fun q => nomatch q) e
  (try dsimp only)
  (try k_fold)
  k_steps
  rename Fr _ _ _ _ => FF
  refine wpAny_call (codeAny_le (split_not (Gg.push FF hLb rfl rfl) (ntg.keeps fun b o _ e => FF.keep _ _ e) fun s' e Rk => ?_) rfl (Nat.le_of_ble_eq_true rfl) rfl rfl (Nat.le_of_ble_eq_true rfl))
  obtain ⟨B', a0, hB, hfl⟩ := Rk.R
  refine passed_x (X := "AttributeError") (T' := "ValueError") (wr := []) Gg FF hLb (fun q => nomatch q) (fun b q => nomatch q) T (Bs.bt Bz) hB hfl Rk.U (gx_eq Rk.gens) Rk.os Rk.dr (by k_is) PyProof.Rows.Boot.«ValueError» (by decide) PySem.F.isExc_ValueError PySem.F.notTuple_ValueError (by rw [isSubtype_type]; kernel_rfl) fun s₃ e3 M3 hfl3 => ?_
  have U3 : ∀ b o, b ∉ ([] : List Addr) → h'.get? b = some o → (∀ vs, o.data ≠ .fields vs) → ∃ sl, s₃.heap.get? b = some { o with slots := sl } := fun b o h1 e hn => by
    by_cases hf : b ∈ frs (envOf (Str.ofString "_law_split_refused") { kind := ScopeKind.function, names := [(Str.ofString "thing", NameKind.local), (Str.ofString "error", NameKind.local), (Str.ofString "split", NameKind.globalImplicit), (Str.ofString "ValueError", NameKind.globalImplicit), (Str.ofString "str", NameKind.globalImplicit), (Str.ofString "AttributeError", NameKind.globalImplicit)], isGenerator := false, isCoroutine := false } L' 797 (Value.ref 796) :: outer)
    · exact M3.slot b o h1 hf e hn
    · exact ⟨o.slots, M3.keep b o h1 hf e⟩
  refine handled_x (X := "AttributeError") (T' := "AttributeError") (wr := []) Gg FF hLb (fun q => nomatch q) (fun b q => nomatch q) T (Bs.bt Bz) hB hfl3 U3 M3.gens M3.os M3.dr (by k_is) PyProof.Rows.Boot.«AttributeError» (by decide) (by rw [isSubtype_type]; kernel_rfl) (by rw [isSubtype_type]; kernel_rfl) (by rw [isSubtype_type]; kernel_rfl) fun s₄ e4 M4 => ?_
  obtain ⟨g4, G4, F4, T4, B4, n4⟩ := rebase Gg FF rfl M4 (fun q => nomatch q) (fun b q => nomatch q) T (Bs.bt Bz)
  clear FF B X T Bz Gg
  k_steps
  exact (show R (.ok (.ret (.str (Str.ofString "no text") _))) _ from hQ _ _ (B4.mx' F4 hLb M4.gens M4.os M4.dr))
end
section
open PySem PySem.W PySem.Calls PyProof.Rows
structure ThG (w : World) (th : Th) (v : Value) (h : Heap) : Prop where
  tv : ThV w th v h
  wd : ∀ x, th = .str x → Wd x
  k6 : ∀ k, th = .hvy k → k < 6
theorem ThG.keeps {w : World} {th : Th} {v : Value} {h h' : Heap} (x : ThG w th v h) (k : ∀ b o, v = .ref b → h.get? b = some o → h'.get? b = some o) : ThG w th v h' := ⟨x.tv.keeps k, x.wd, x.k6⟩
theorem wd_cE : Wd cE := ⟨fun c hc => (by cases hc), by decide⟩
theorem thing_any {w : World} {outer : List Env} {s : Shared} {n : Int} {t : Tok} {R : Result → Shared → Prop} (G : Gd w outer s.heap) (h0 : 0 ≤ n) (h1 : n < 100000)
    (hQ : ∀ s' v th, Mv [] s s' → ThG w th v s'.heap → th.heavy = decide (n.fmod 6 = 5) → Hi s v → R (.ok (.ret v)) s') :
    codeAny (Mod w) (AT 440 1400 outer) (.call (.ref 764) ⟨[.int n t], []⟩) R s := by
  have m0 : 0 ≤ n.fmod 6 := Int.fmod_nonneg_of_pos _ (by decide)
  have m1 : n.fmod 6 < 6 := Int.fmod_lt_of_pos _ (by decide)
  have k0 : 0 ≤ (n.fdiv 6).fmod 6 := Int.fmod_nonneg_of_pos _ (by decide)
  have k1 : (n.fdiv 6).fmod 6 < 6 := Int.fmod_lt_of_pos _ (by decide)
  by_cases c1 : n.fmod 6 < 3
  · refine thing_word G h0 h1 c1 fun s' x t hx M => hQ s' _ (.str x) M ⟨⟨t, rfl⟩, fun y e => (by cases e; exact hx), fun k e => (by cases e)⟩ ?_ fun a e => by cases e
    show false = _
    rw [decide_eq_false (by omega)]
  by_cases c2 : n.fmod 6 = 3
  · refine thing_empty G h0 h1 c2 fun s' t M => hQ s' _ (.str cE) M ⟨⟨t, rfl⟩, fun y e => (by cases e; exact wd_cE), fun k e => (by cases e)⟩ ?_ fun a e => by cases e
    show false = _
    rw [decide_eq_false (by omega)]
  by_cases c3 : n.fmod 6 = 4
  · refine thing_nul G h0 h1 c3 fun s' v M hv hi => hQ s' v _ M ⟨hv, fun y e => (by cases e), fun k e => (by cases e)⟩ ?_ hi
    show false = _
    rw [decide_eq_false (by omega)]
  · have c4 : n.fmod 6 = 5 := by omega
    refine thing_hvy G h0 h1 c4 fun s' v M hv hi => hQ s' v _ M ⟨hv, fun y e => (by cases e), fun k e => (by cases e; omega)⟩ ?_ hi
    show true = _
    rw [decide_eq_true c4]
theorem spelled_any {w : World} {outer : List Env} {s : Shared} {v : Value} {th : Th} {R : Result → Shared → Prop} (G : Gd w outer s.heap) (x : ThG w th v s.heap) (hl : th.heavy = false)
    (hQ : ∀ s' t', Mv [] s s' → R (.ok (.ret (.str (spell th.word) t'))) s') : codeAny (Mod w) (AT 440 1400 outer) (.call (.ref 769) ⟨[v], []⟩) R s := by
  cases th with
  | str y =>
    obtain ⟨t, rfl⟩ := (x.tv : ∃ t, v = .str y t)
    exact spelled_str G (x.wd y rfl) hQ
  | nul k => exact spelled_nul G x.tv hQ
  | hvy k => cases hl
theorem quoted_any {w : World} {outer : List Env} {s : Shared} {v : Value} {th : Th} {R : Result → Shared → Prop} (G : Gd w outer s.heap) (x : ThG w th v s.heap)
    (h1 : th.heavy = false → ∀ s' t', Mv [] s s' → R (.ok (.ret (.str (spell th.word) t'))) s') (h2 : th.heavy = true → ∀ s', Mx outer [] s s' → R (.ok (.ret .none)) s') : codeAny (Mod w) (AT 440 1400 outer) (.call (.ref 790) ⟨[v], []⟩) R s := by
  cases th with
  | str y => exact quoted_th G x.tv rfl x.wd (h1 rfl)
  | nul k => exact quoted_th G x.tv rfl x.wd (h1 rfl)
  | hvy k => exact quoted_hvy G (x.k6 k rfl) x.tv (h2 rfl)
theorem due_tail {ths : List Th} : ∀ n k, (due ths n).1 ≤ k → k < n → (ths.getD k (.nul 0)).heavy = false
  | 0, k, _, h => absurd h (Nat.not_lt_zero _)
  | n + 1, k, h1, h2 => by
    rw [due] at h1
    by_cases c : (due ths n).1 ≤ n ∧ (ths.getD n (.nul 0)).heavy = true
    · rw [if_pos c] at h1
      simp only at h1
      omega
    · rw [if_neg c] at h1
      rcases Nat.lt_or_ge k n with q | q
      · exact due_tail n k h1 q
      · have e : k = n := by omega
        subst e
        simpa using fun hh => c ⟨h1, hh⟩
end
section
open PySem PySem.W PySem.Calls PyProof.Rows
theorem enterJC {w : World} {d u : Nat} {outer : List Env} {s : Shared} {f : Addr} {args : Args} {R : Result → Shared → Prop} {name qual : Str} {params : Arguments} {body : List Stmt} {scope : Scope} {dV kV doc pm cdv ct oc : Value}
    {an od : Option Addr} {osl : Array (Option Value)} {binds : List (Str × Value)} (muts : List (Addr × Obj))
    (G : Gd w outer s.heap) (hm : ∀ p ∈ muts, s.heap.get? p.1 = some p.2 ∧ (815 ≤ p.1 ∨ p.1 = 746) ∧ p.1 ∉ frs outer)
    (ho : (kk.heap_1 w.params).lookup f = some ⟨oc, od, .func (fnOf name qual params body scope dV kV doc pm an cdv ct), osl⟩) (hcd : codeIn (kk.heap_1 w.params) cdv qual = true) (hroom : d < recursionLimit)
    (hbind : BindsTo s (fnOf name qual params body scope dV kV doc pm an cdv ct) args binds)
    (hkind : ∀ n, ∀ x ∈ binds, scope.names.lookup x.1 = some .local ∨ (scope.names.lookup x.1 = some .cell ∧ ((cellsFrom n scope.names []).lookup x.1).isSome = true))
    (hnd : ((cellsFrom 0 scope.names []).map (·.1)).Nodup)
    (h : ∀ g L' h₁ tk cells lo mg mb, Fr g L' h₁ (bindL (envOfC qual scope L' f cdv).kindOf binds fun _ => none) → News g L' h₁ (cells ++ muts) →
      CellsAre (bindC (envOfC qual scope L' f cdv).kindOf binds fun _ => none) (cellsFrom (L' + 1) scope.names []) cells → (kk.heap_1 w.params).In g → TopRead vw lo mg mb g → Bs muts s g L' → (∀ p ∈ muts, p.1 < L') → Gd w outer g → 815 ≤ L' →
      wpAny (Mod w) ((AT d u outer).deeper (envOfC qual scope L' f cdv)) (execs body (envOfC qual scope L' f cdv)) (fun fl s' => R (.ok (.ret (match fl with | .ret v => v | _ => .none))) s')
        (fun e s' => wpAny (Mod w) ((AT d u outer).deeper (envOfC qual scope L' f cdv)) (leaving (envOfC qual scope L' f cdv) e) (fun _ s'' => R (.error e) s'') (fun e' s'' => R (.error e') s'') s')
        { s with heap := h₁, toks := tk })
    (hco : scope.isCoroutine = false) (hgen : scope.isGenerator = false) (hk : scope.kind = .function) :
    codeAny (Mod w) (AT d u outer) (.call (.ref f) args) R s := by
  obtain ⟨lo, mg, mb, T⟩ := G.T
  refine codeAny_call_function (fd := fnOf name qual params body scope dV kV doc pm an cdv ct) (body := body) hroom (G.X _ _ ho) rfl hco hgen rfl (codeRec_of G.X hcd) (hbind _ _ _ _ ?_)
  refine wpAny_newFunctionEnv_cells hk (hkind _) fun env' he s' x => ?_
  subst he
  refine ⟨T.nolimit.keeps x.toInCall.keep, codeAny_func ?_⟩
  obtain ⟨h₁, tk, rfl, _⟩ := x.done
  have hk₁ := x.toInCall.keep
  obtain ⟨cells, NC, Y⟩ := Cl.news (h₀ := s.heap) (Nat.le_refl _) fun n c hm => ⟨x.cell n c (lookup_of_mem_nodup (cellsFrom_names scope.names 0 (s.heap.objs.size + 1) [] [] rfl ▸ hnd) hm), x.above n c hm⟩
  have into : ∀ b o, b ∉ muts.map (·.1) → s.heap.get? b = some o → (hideAll s.heap (muts.map (·.1))).get? b = some o := fun b o n e => hideAll_get _ e n
  have lowM : ∀ b o, b < 815 → b ≠ 746 → s.heap.get? b = some o → (hideAll s.heap (muts.map (·.1))).get? b = some o := fun b o hb hne e => into b o (fun q => by
    obtain ⟨p, hp, rfl⟩ := List.mem_map.mp q
    rcases (hm p hp).2.1 with z | z
    · exact absurd hb (Nat.not_lt.mpr z)
    · exact hne z) e
  have frM : ∀ b ∈ frs outer, b ∉ muts.map (·.1) := fun b hb q => by
    obtain ⟨p, hp, rfl⟩ := List.mem_map.mp q
    exact (hm p hp).2.2 hb
  have T' : TopRead vw lo mg mb (hideAll s.heap (muts.map (·.1))) := by
    obtain ⟨mc, h1, h2⟩ := T.nolimit
    exact ⟨ns_at T.g fun o => lowM _ o (by decide) (by decide), ns_at T.b fun o => lowM _ o (by decide) (by decide), ⟨mc, ns_at h1 fun o => lowM _ o (by decide) (by decide), h2⟩, T.builtins, T.free⟩
  refine h _ s.heap.objs.size h₁ tk cells lo mg mb ⟨x.toInCall.ns, fun b o e => hk₁ b o (of_hideAll _ e), Nat.le_of_eq (hideAll_size _ _)⟩ (fun p hp => ?_) Y
    (fun a o e => lowM a o (key_lt e) (key_ne e) (G.X a o e)) T' ⟨into, fun b o e => of_hideAll _ e, rfl, hideAll_size _ _⟩ (fun p hp => Heap.lt_size (hm p hp).1)
    (G.mv (fun b o hb hne e => lowM b o hb hne e) (fun b o hb e => ⟨o, into b o (frM b hb) e, rfl⟩) (Nat.le_of_eq (hideAll_size _ _).symm)) G.big
  rcases List.mem_append.mp hp with hp | hp
  · exact ⟨(NC p hp).1, (NC p hp).2.1, kts_none (fun b o e => of_hideAll _ e) (NC p hp).2.2⟩
  · exact ⟨hk₁ _ _ (hm p hp).1, Nat.ne_of_lt (Heap.lt_size (hm p hp).1), hideAll_none _ (List.mem_map_of_mem hp)⟩
end
section
open PySem PySem.W PySem.Calls PyProof.Rows
structure RowI (w : World) (ns : List Int) (i : Nat) (ys : List Value) (th : List (Addr × Obj)) : Prop where
  ex : ∃ ths : List Th, ths.length = i ∧ ys.length = i ∧ (∀ k, k < i → (ths.getD k (.nul 0)).heavy = decide ((ns.getD k 0).fmod 6 = 5)) ∧
    (∀ h : Heap, (∀ p ∈ th, h.get? p.1 = some p.2) → ∀ (k : Nat) v t, ys[k]? = some v → ths[k]? = some t → ThG w t v h) ∧ (∀ (k : Nat) b, ys[k]? = some (.ref b) → ∃ o, (b, o) ∈ th)
theorem thv_get {w : World} {th : Th} {b : Addr} {h : Heap} (x : ThV w th (.ref b) h) : ∃ o, h.get? b = some o := by
  cases th with
  | str y => obtain ⟨t, q⟩ := (x : ∃ t, Value.ref b = .str y t); cases q
  | nul k =>
    match k, x with
    | 0, x => cases (x : Value.ref b = .none)
    | 1, x => obtain ⟨t, q⟩ := (x : ∃ t, Value.ref b = .int 0 t); cases q
    | 2, x => cases (x : Value.ref b = .bool false)
    | 3, x => obtain ⟨a, c, q, e⟩ := (x : ∃ a c, Value.ref b = .ref a ∧ h.get? a = some (lstO #[] c)); cases q; exact ⟨_, e⟩
    | 4, x => obtain ⟨a, o, q, e, _⟩ := (x : ∃ a o, Value.ref b = .ref a ∧ h.get? a = some o ∧ DictS w o [] ∧ a ≠ sysModules); cases q; exact ⟨_, e⟩
    | 5, x => obtain ⟨a, c, q, e⟩ := (x : ∃ a c, Value.ref b = .ref a ∧ h.get? a = some { cls := .type "tuple", data := .seq #[] c }); cases q; exact ⟨_, e⟩
    | n + 6, x => obtain ⟨t, q⟩ := (x : ∃ t, Value.ref b = .bytes #[] t); cases q
  | hvy k =>
    match k, x with
    | 0, x => obtain ⟨t, q⟩ := (x : ∃ t, Value.ref b = .int 1 t); cases q
    | 1, x => cases (x : Value.ref b = .bool true)
    | 2, x => obtain ⟨t, q⟩ := (x : ∃ t, Value.ref b = .bytes #[97] t); cases q
    | 3, x => obtain ⟨a, c, t, q, e⟩ := (x : ∃ a c t, Value.ref b = .ref a ∧ h.get? a = some (lstO #[.str cA t] c)); cases q; exact ⟨_, e⟩
    | 4, x => obtain ⟨a, c, t, q, e⟩ := (x : ∃ a c t, Value.ref b = .ref a ∧ h.get? a = some { cls := .type "tuple", data := .seq #[.str cA t] c }); cases q; exact ⟨_, e⟩
    | n + 5, x => obtain ⟨a, o, u, q, e, _⟩ := (x : ∃ a o u, Value.ref b = .ref a ∧ h.get? a = some o ∧ DictS w o [(cA, .int 1 u)] ∧ a ≠ sysModules); cases q; exact ⟨_, e⟩
theorem row_of {w : World} {ys : List Value} {ths : List Th} {th : List (Addr × Obj)} {h : Heap} (e : ys.length = ths.length) (e4 : ∀ h : Heap, (∀ p ∈ th, h.get? p.1 = some p.2) → ∀ (k : Nat) v t, ys[k]? = some v → ths[k]? = some t → ThG w t v h)
    (N : ∀ p ∈ th, h.get? p.1 = some p.2) : TRow w ys.toArray ths h := by
  have at_ : ∀ t ∈ ths, ∃ v, ThG w t v h := fun t ht => by
    obtain ⟨k, hk, q⟩ := List.getElem_of_mem ht
    have hk' : k < ys.length := by rw [e]; exact hk
    exact ⟨_, e4 h N k ys[k] t (List.getElem?_eq_getElem hk') (by rw [List.getElem?_eq_getElem hk, q])⟩
  refine ⟨by rw [List.size_toArray]; exact e.symm, fun k v t q1 q2 => (e4 h N k v t (by simpa using q1) q2).tv, fun x hx => ?_, fun k hk => ?_⟩
  · obtain ⟨v, hv⟩ := at_ _ hx
    exact hv.wd x rfl
  · obtain ⟨v, hv⟩ := at_ _ hk
    exact hv.k6 k rfl
theorem RowI.nil {w : World} {ns : List Int} : RowI w ns 0 [] [] := ⟨[], rfl, rfl, fun k h => absurd h (Nat.not_lt_zero _), fun h _ k v th e => (by simp at e), fun k b e => (by simp at e)⟩
theorem getD_snoc_lt {α : Type} {l : List α} {x d : α} {k : Nat} (h : k < l.length) : (l ++ [x]).getD k d = l.getD k d := by
  simp [List.getD_eq_getElem?_getD, List.getElem?_append_left h]
theorem getD_snoc_eq {α : Type} {l : List α} {x d : α} {k : Nat} (h : k = l.length) : (l ++ [x]).getD k d = x := by
  subst h
  simp [List.getD_eq_getElem?_getD]
theorem RowI.snoc {w : World} {ns : List Int} {i : Nat} {ys : List Value} {th : List (Addr × Obj)} {v : Value} {t : Th} {h' : Heap} (x : RowI w ns i ys th) (hv : ThG w t v h') (hh : t.heavy = decide ((ns.getD i 0).fmod 6 = 5)) :
    ∃ cell : List (Addr × Obj), (∀ p ∈ cell, v = .ref p.1 ∧ h'.get? p.1 = some p.2) ∧ RowI w ns (i + 1) (ys ++ [v]) (cell ++ th) := by
  obtain ⟨ths, e1, e2, e3, e4, e5⟩ := x.ex
  have key : ∀ cell : List (Addr × Obj), (∀ b o, v = .ref b → h'.get? b = some o → (b, o) ∈ cell) → RowI w ns (i + 1) (ys ++ [v]) (cell ++ th) := fun cell hc => by
    refine ⟨ths ++ [t], by rw [List.length_append, e1]; rfl, by rw [List.length_append, e2]; rfl, fun k hk => ?_, fun h hn k v' t' q1 q2 => ?_, fun k b q1 => ?_⟩
    · rcases Nat.lt_or_ge k i with q | q
      · rw [getD_snoc_lt (by omega)]
        exact e3 k q
      · have : k = i := by omega
        subst this
        rw [getD_snoc_eq e1.symm]
        exact hh
    · rcases Nat.lt_or_ge k i with q | q
      · rw [List.getElem?_append_left (by omega)] at q1 q2
        exact e4 h (fun p hp => hn p (List.mem_append_right _ hp)) k v' t' q1 q2
      · have kl : k < (ys ++ [v]).length := (List.getElem?_eq_some_iff.mp q1).1
        rw [List.length_append, List.length_singleton, e2] at kl
        have : k = i := by omega
        subst this
        rw [List.getElem?_append_right (by omega), e2, Nat.sub_self] at q1
        rw [List.getElem?_append_right (by omega), e1, Nat.sub_self] at q2
        cases q1
        cases q2
        exact hv.keeps fun b o q e => by
          have := hn _ (List.mem_append_left _ (hc b o q e))
          exact this
    · rcases Nat.lt_or_ge k i with q | q
      · rw [List.getElem?_append_left (by omega)] at q1
        obtain ⟨o, ho⟩ := e5 k b q1
        exact ⟨o, List.mem_append_right _ ho⟩
      · have kl : k < (ys ++ [v]).length := (List.getElem?_eq_some_iff.mp q1).1
        rw [List.length_append, List.length_singleton, e2] at kl
        have : k = i := by omega
        subst this
        rw [List.getElem?_append_right (by omega), e2, Nat.sub_self] at q1
        have q2 : v = .ref b := by simpa using q1
        obtain ⟨o, ho⟩ := thv_get (q2 ▸ hv.tv)
        exact ⟨o, List.mem_append_left _ (hc b o q2 ho)⟩
  by_cases hr : ∃ b o, v = .ref b ∧ h'.get? b = some o
  · obtain ⟨b, o, rfl, e⟩ := hr
    refine ⟨[(b, o)], fun p hp => ?_, key _ fun b' o' q e' => ?_⟩
    · rw [List.mem_singleton.mp hp]
      exact ⟨rfl, e⟩
    · cases q
      rw [e] at e'
      cases e'
      exact .head _
  · exact ⟨[], (fun p hp => nomatch hp), key _ fun b o q e => absurd ⟨b, o, q, e⟩ hr⟩
theorem store_cell {M : Model} {A : Around} {E : Value → Shared → Prop} {s : Shared} {g : Heap} {L a : Addr} {m : Str → Option Value} {cn : Str} {cs : Scope} {ccd : Value} {x : Str} {v : Value} {Q : Unit → Shared → Prop} {rest : List (Addr × Obj)} {c : Addr} {o : Obj} {v₀ : Option Value}
    (F : Fr g L s.heap m) (N : News g L s.heap ((c, o) :: rest)) (hr : ∀ p ∈ rest, p.1 ≠ c) (hc : (cellsFrom (L + 1) cs.names []).lookup x = some c) (hdt : o.data = .cell v₀)
    (h : ∀ h' o', Fr g L h' m → News g L h' ((c, o') :: rest) → o'.data = .cell (some v) → Q () { s with heap := h' })
    (hk : cs.kind = .function := by rfl) (hx : (envOfC cn cs L a ccd).kindOf x = some .cell := by rfl) : wpAny M A (storeName (envOfC cn cs L a ccd) x v) Q E s := by
  have hmem := N (c, o) (.head _)
  refine wpAny_storeName_cell hk hx hc ⟨o, hmem.1, hdt⟩ fun h' hv hs => ?_
  obtain ⟨o', ho', hd'⟩ := hv
  refine h h' o' (F.change hs hmem.2.1 hmem.2.2) (fun p hp => ?_) hd'
  rcases List.mem_cons.mp hp with rfl | hp
  · exact ⟨ho', hmem.2⟩
  · exact ⟨hs.extBut _ _ (hr p hp) (N p (.tail _ hp)).1, (N p (.tail _ hp)).2⟩
theorem ints_at {vs : List Value} {ns : List Int} (h : IntsAre vs ns) : ∀ {i : Nat} {v : Value}, vs[i]? = some v → ∃ n t, v = .int n t ∧ ns[i]? = some n := by
  induction h with
  | nil => intro i v e; simp at e
  | cons n t r ih =>
    intro i v e
    cases i with
    | zero =>
      simp at e
      exact ⟨n, t, e.symm, rfl⟩
    | succ i => exact ih (by simpa using e)
theorem off1_mem {D : Addr} {l : List (Addr × Obj)} : LCg.Off1 D l → ∀ p ∈ l, p.1 ≠ D := by
  induction l with
  | nil => intro _ p h; cases h
  | cons a r ih =>
    intro x p h
    have x' : (@Ne Nat a.1 D) ∧ LCg.Off1 D r := x
    rcases List.mem_cons.mp h with rfl | h
    · exact x'.1
    · exact ih x'.2 p h
theorem comp_cell {s₀ s s' : Shared} {g : Heap} {L I C D : Addr} {m : Str → Option Value} {oI oC oD : Obj} {news cell : List (Addr × Obj)} {v : Value} {S : List (Addr × Obj) → Prop} {rest : Value → List (Addr × Obj) → Prop} (M : Mv [] s s') (hs : s = { s₀ with heap := s.heap, toks := s.toks }) (F : Fr g L s.heap m) (N : News g L s.heap ((I, oI) :: (C, oC) :: (D, oD) :: news))
    (off : LCg.Off3 I C D news) (hc : ∀ p ∈ cell, v = .ref p.1 ∧ s'.heap.get? p.1 = some p.2) (hi : Hi s v) (hS : S (cell ++ news)) (r : rest v (cell ++ news)) : LCg.CompEnd g L m s₀ I oI C oC D oD S rest v s' := by
  have F' := Fr.mvd F M (fun q => nomatch q) (fun b q => nomatch q)
  have N' := News.mvd N M fun p _ q => nomatch q
  have cf : ∀ p ∈ cell, s.heap.get? p.1 = none := fun p hp => hi p.1 (hc p hp).1
  have cn : ∀ p ∈ cell, ∀ b o, s.heap.get? b = some o → p.1 ≠ b := fun p hp b o e q => by
    have z := cf p hp
    rw [q, e] at z
    cases z
  obtain ⟨oL, _, _, hoL, _⟩ := F.ns
  have e : s' = { s₀ with heap := s'.heap, toks := s'.toks } := by
    have q := M.eq
    rw [hs] at q
    exact q
  rw [e]
  refine LCg.CompEnd.intro (all := (I, oI) :: (C, oC) :: (D, oD) :: (cell ++ news)) F' (fun p hp => ?_) (cell ++ news) (fun p hp => hp) (LCg.Off3.of fun p hp => ?_) hS r
  · rcases List.mem_cons.mp hp with rfl | hp
    · exact N' _ (.head _)
    rcases List.mem_cons.mp hp with rfl | hp
    · exact N' _ (.tail _ (.head _))
    rcases List.mem_cons.mp hp with rfl | hp
    · exact N' _ (.tail _ (.tail _ (.head _)))
    rcases List.mem_append.mp hp with hp | hp
    · exact ⟨(hc p hp).2, cn p hp L oL hoL, kts_none F.keep (cf p hp)⟩
    · exact N' _ (.tail _ (.tail _ (.tail _ hp)))
  · rcases List.mem_append.mp hp with hp | hp
    · exact ⟨cn p hp _ _ (N _ (.head _)).1, cn p hp _ _ (N _ (.tail _ (.head _))).1, cn p hp _ _ (N _ (.tail _ (.tail _ (.head _)))).1⟩
    · exact off.mem p hp
theorem iter_list {prog : Program} {w : World} {A : Around} {E : Value → Shared → Prop} {s : Shared} {l : Addr} {items : Array Value} {Q : Value → Shared → Prop} (hl : s.heap.IsList l items)
    (h : Q (.ref s.heap.objs.size) { s with heap := s.heap.push { cls := .type "list_iterator", data := .fields #[.ref l, .int 0 0] } }) : wpAny (model prog w) A (call (.builtin "iter") [.ref l]) Q E s := by
  refine call_function_entry (by decide +kernel) (by decide +kernel) kdk_entry_iter (kdk_args_iter _) ?_
  unfold Builtin.«iter»
  refine wpAny_bind (m := someArgs "iter" 1 2 _) (wpAny_of_eq (a := [Value.ref l]) (by first | rfl | kernel_rfl!) ?_)
  show wpAny _ _ (pyIter (.ref l) >>= _) _ _ _
  exact wpAny_bind (wpAny_pyIter_list hl (wpAny_pure ⟨_, rfl, h⟩))
theorem heavy_map {ns : List Int} {ths : List Th} (e1 : ths.length = ns.length) (e3 : ∀ k, k < ns.length → (ths.getD k (.nul 0)).heavy = decide ((ns.getD k 0).fmod 6 = 5)) :
    (ns.map fun n => Value.bool (decide (n.fmod 6 = 5))) = ths.map fun t => Value.bool t.heavy := by
  refine List.ext_getElem (by rw [List.length_map, List.length_map, e1]) fun k h1 h2 => ?_
  rw [List.getElem_map, List.getElem_map]
  have k1 : k < ns.length := by rwa [List.length_map] at h1
  have k2 : k < ths.length := by rw [e1]; exact k1
  have := e3 k k1
  rw [List.getD_eq_getElem?_getD, List.getD_eq_getElem?_getD, List.getElem?_eq_getElem k1, List.getElem?_eq_getElem k2] at this
  simp only [Option.getD_some] at this
  rw [this]
theorem news_cons {g h : Heap} {L a : Addr} {o : Obj} {news : List (Addr × Obj)} (x : h.get? a = some o ∧ a ≠ L ∧ g.get? a = none) (N : News g L h news) : News g L h ((a, o) :: news) := fun p hp => by
  rcases List.mem_cons.mp hp with rfl | hp
  · exact x
  · exact N p hp
theorem name_base {g h : Heap} {L : Addr} {news : List (Addr × Obj)} (N : News g L h news) : ∃ base, base = news ∧ News g L h base := ⟨news, rfl, N⟩
theorem drop_at {α : Type} {l : List α} {d i : Nat} {x : α} (h : (l.drop d)[i]? = some x) : l[d + i]? = some x := by rw [List.getElem?_drop] at h; exact h
theorem fresh_in {h h' g g' : Heap} {L : Addr} {m : Str → Option Value} (F : Fr g L h m) (n : ∀ b, g.get? b = none → g'.get? b = none) : ∀ b o, h'.get? b = some o → h.get? b = none → h'.get? b = some o ∧ b ≠ L ∧ g'.get? b = none := fun b o e q =>
  ⟨e, (fun z => by
    obtain ⟨oL, _, _, hoL, _⟩ := F.ns
    rw [z, hoL] at q
    cases q), n _ (kts_none F.keep q)⟩
end
section
open PySem PySem.W PySem.Calls PyProof.Rows
noncomputable abbrev dmap (m : Str → Option Value) (a : Int) (ta : Tok) (kk : Option Value) : Str → Option Value := fun y => if y = Str.ofString "k" then kk else if y = Str.ofString "at" then some (.int a ta) else m y
theorem name_news {g h : Heap} {L T : Addr} {o : Obj} (_ : News g L h [(T, o)]) : ∃ T', T' = T := ⟨T, rfl⟩
theorem dmap_0 {m : Str → Option Value} {t : Tok} (h : m (Str.ofString "at") = some (.int 0 t)) : ∀ y, m y = dmap m 0 t (m (Str.ofString "k")) y := fun y => by
  unfold dmap
  by_cases e1 : y = Str.ofString "k"
  · rw [if_pos e1, e1]
  · rw [if_neg e1]
    by_cases e2 : y = Str.ofString "at"
    · rw [if_pos e2, e2, h]
    · rw [if_neg e2]
theorem dmap_k {m : Str → Option Value} {a : Int} {ta : Tok} {kk v : Option Value} : ∀ y, (if y = Str.ofString "k" then v else dmap m a ta kk y) = dmap m a ta v y := fun y => by
  unfold dmap
  by_cases e1 : y = Str.ofString "k"
  · rw [if_pos e1, if_pos e1]
  · rw [if_neg e1, if_neg e1, if_neg e1]
theorem dmap_at {m : Str → Option Value} {a b : Int} {ta tb : Tok} {kk v : Option Value} : ∀ y, (if y = Str.ofString "at" then some (.int b tb) else if y = Str.ofString "k" then v else dmap m a ta kk y) = dmap m b tb v y := fun y => by
  unfold dmap
  by_cases e1 : y = Str.ofString "k"
  · have e2 : ¬ (y = Str.ofString "at") := by rw [e1]; decide +kernel
    rw [if_neg e2, if_pos e1, if_pos e1]
  · rw [if_neg e1]
    by_cases e2 : y = Str.ofString "at"
    · rw [if_pos e2, if_neg e1, if_pos e2]
    · rw [if_neg e2, if_neg e1, if_neg e2, if_neg e1, if_neg e2]
noncomputable abbrev hvys (ths : List Th) : Array Value := (ths.map fun t => Value.bool t.heavy).toArray
theorem hvys_at {ths : List Th} {i : Nat} (h : i < ths.length) : (hvys ths)[((i : Nat) : Int).toNat]? = some (.bool (ths.getD i (.nul 0)).heavy) := by
  simp [List.getD_eq_getElem?_getD, h]
theorem list_keeps {h h' : Heap} {l : Addr} {vs : Array Value} (x : h.IsList l vs) (k : ∀ b o, h.get? b = some o → h'.get? b = some o) : h'.IsList l vs := by
  obtain ⟨o, e, r⟩ := x
  exact ⟨o, k _ _ e, r⟩
theorem pick_from (vs : Array Value) (d : Nat) : slicePick vs (some (d : Int)) none none = (vs.toList.drop d).toArray := by
  have e : sliceBounds (some (d : Int)) none none vs.size = (((min d vs.size : Nat) : Int), ((vs.size : Nat) : Int), 1) := by
    unfold sliceBounds
    simp
    omega
  rw [kmk_pick_nat vs e]
  congr 1
  rcases Nat.le_total d vs.size with h | h
  · rw [Nat.min_eq_left h]
    exact List.take_of_length_le (by rw [List.length_drop, Array.length_toList]; exact Nat.le_refl _)
  · rw [Nat.min_eq_right h, Nat.sub_self, List.take_zero]
    exact (List.drop_eq_nil_of_le (by rw [Array.length_toList]; exact h)).symm
structure DueJ (g : Heap) (L : Addr) (m : Str → Option Value) (I T : Addr) (n : Nat) (ths : List Th) (s : Shared) (i : Nat) (s₁ : Shared) : Prop where
  ex : ∃ ta kk ys c, Fr g L s₁.heap (dmap m (due ths i).1 ta kk) ∧ News g L s₁.heap [(I, ritO (i : Nat) ((n : Int) - (i : Nat))), (T, lstO ys c)] ∧ StrsAre ys.toList (due ths i).2 ∧ ys.size ≤ i ∧ s₁.gens = s.gens ∧ s₁.os = s.os ∧ s₁.drawn = s.drawn
theorem due_line {w : World} {outer : List Env} {s : Shared} {l hv : Nat} {vs : Array Value} {ths : List Th} {R : Result → Shared → Prop} (G : Gd w outer s.heap) (hl : s.heap.IsList l vs) (row : TRow w vs ths s.heap) (hh : s.heap.IsList hv (hvys ths)) (hn : vs.size ≤ 1000)
    (hQ : ∀ s' P T Lf ys c c' c'', Mv [] s s' → s'.heap.get? P = some { cls := .type "tuple", data := .seq #[.ref T, .ref Lf] c } → s'.heap.get? T = some (lstO ys c') → StrsAre ys.toList (due ths ths.length).2 → s'.heap.get? Lf = some (lstO (vs.toList.drop (due ths ths.length).1).toArray c'') →
      s.heap.get? P = none → s.heap.get? T = none → s.heap.get? Lf = none → R (.ok (.ret (.ref P))) s') :
    codeAny (Mod w) (AT 420 1300 outer) (.call (.ref 783) ⟨[.ref l, .ref hv], []⟩) R s := by
  refine' enterP [] G ?hm ?k6 ?k7 ?k8 ?k9 ?kB ?_ ?c2 ?c3 ?c4 ?c5
  case hm => intro p hp; cases hp
  (((case k6 => k_is); (case k7 => k_is); (case k8 => decide); (case k9 => first | exact BindsTo.of_eq rfl | exact binds_K (Gd.X (by assumption)) rfl (by k_is) rfl rfl rfl); (case kB => exact locs rfl); (case c2 => exact rfl); (case c3 => exact rfl); (case c4 => exact rfl); (case c5 => decide)))
  intro g L' h' lo mg mb F N B X T Bz _ Gg hLb
  have hlg : g.IsList l vs := by
    obtain ⟨o, ho', r⟩ := hl
    exact ⟨o, Bz.into l o (fun q => nomatch q) ho', r⟩
  have rowg : TRow w vs ths g := row.keeps fun a b o _ e => Bz.into b o (fun q => nomatch q) e
  have hhg : g.IsList hv (hvys ths) := by
    obtain ⟨o, ho', r⟩ := hh
    exact ⟨o, Bz.into hv o (fun q => nomatch q) ho', r⟩
  (try dsimp only)
  (try k_fold)
  iterate 12 walk1
  refine wpAny_For ?_
  k_steps
  rename IsRange _ _ _ _ _ _ _ _ => hr
  rename Fr _ _ _ _ => FF
  rename News _ _ _ _ => NN
  rename ∀ b o, _ → _ = some o => kk
  have hvs : (((vs.size : Nat) : Int)) ≤ 1000 := by omega
  have hrs : Builtin.Range.rangeSize 0 (vs.size : Int) 1 = (vs.size : Int) := by rw [rangeSize_one]; split <;> omega
  refine wpAny_pyIter_range hr (small_one (by omega) (by omega) (by omega) (by omega)) ?_
  dsimp only at NN ⊢
  obtain ⟨TT, eTT⟩ := name_news NN
  subst eTT
  obtain ⟨m0, em, F0⟩ := fr_ex FF
  have hat : ∃ t, m0 (Str.ofString "at") = some (.int 0 t) := ⟨_, by rw [em]; rfl⟩
  obtain ⟨ta0, hat⟩ := hat
  rw [hrs]
  obtain ⟨II, eI, lI, l2I, F1, N1⟩ := with_it' (x := 0) (left := (vs.size : Int)) (Fr.cg F0 (dmap_0 hat)) NN
  rw [eI]
  refine for_rng (n := vs.size) rfl (DueJ g L' m0 II TT vs.size ths s) ?_ ?_ ?_ ?_
  · rintro i s₁ ⟨ta, kk, ys, c, F2, N2, _⟩
    exact N2.get (.head _)
  · rintro i s₁ hi ⟨ta, kk, ys, c, F2, N2, hy, hyn, hg, ho, hr2⟩ h1 e1 hs1
    have lTI : @LT.lt Nat _ TT II := lI _ (.head _)
    have hsz : ys.size ≤ sizeLine := Nat.le_trans hyn (Nat.le_trans (Nat.le_of_lt hi) (Nat.le_trans hn (by decide)))
    have F3 := F2.change hs1 (N2 _ (.head _)).2.1 (N2 _ (.head _)).2.2
    have N3 : News g L' h1 [(II, ritO ((i + 1 : Nat) : Int) ((vs.size : Int) - ((i + 1 : Nat) : Int))), (TT, lstO ys c)] := by
      intro p hp
      rcases List.mem_cons.mp hp with rfl | hp
      · exact ⟨e1, (N2 _ (.head _)).2⟩
      rw [List.mem_singleton.mp hp]
      exact ⟨hs1.extBut _ _ (Nat.ne_of_lt lTI) (N2 _ (.tail _ (.head _))).1, (N2 _ (.tail _ (.head _))).2⟩
    clear F2 N2 FF NN F0 F1 N1 hr
    generalize ha : (due ths i).1 = a at F3
    subst em
    have hit : i < ths.length := by rw [row.len]; exact hi
    have idle : ¬ (a ≤ i ∧ (ths.getD i (.nul 0)).heavy = true) → due ths (i + 1) = due ths i := fun q => by
      rw [due, if_neg (by rw [ha]; exact q)]
    k_steps
    · rename Fr _ _ _ _ => F5
      rename News _ _ _ _ => N5
      refine item_list (x := .bool (ths.getD i (.nul 0)).heavy) (list_keeps hhg F5.keep) (by omega) (by omega) (hvys_at hit) ?_
      cases hb : (ths.getD i (.nul 0)).heavy with
      | false =>
        k_steps
        have hd := idle fun q => by rw [hb] at q; exact Bool.false_ne_true q.2
        exact ⟨_, _, ys, c, by rw [hd, ha]; exact Fr.cg F5 dmap_k, N5, by rw [hd]; exact hy, Nat.le_succ_of_le hyn, hg, ho, hr2⟩
      | true =>
        k_steps
        · rename (_ : Int) < _ => hlt
          have hlt' : i + 1 < vs.size := by omega
          have e1 : ((i : Int) + 1).toNat = i + 1 := by omega
          have hv : vs[i + 1]? = some (vs.getD (i + 1) .none) := by simp [Array.getD_eq_getD_getElem?, hlt']
          have ht : ths[i + 1]? = some (ths.getD (i + 1) (.nul 0)) := by
            have : i + 1 < ths.length := by rw [row.len]; exact hlt'
            simp [List.getD_eq_getElem?_getD, this]
          have hd : due ths (i + 1) = (i + 2, (due ths i).2 ++ [rp (ths.getD (i + 1) (.nul 0))]) := by
            rw [due, if_pos ⟨by rw [ha]; omega, hb⟩, behind, if_pos (by rw [row.len]; exact hlt')]
          rename Fr _ _ _ _ => F6
          rename News _ _ _ _ => N6
          refine item_list (x := vs.getD (i + 1) .none) (list_keeps hlg F6.keep) (by omega) (by omega) (by rw [e1]; exact hv) ?_
          k_steps
          have row6 := rowg.keeps (h' := _) fun a b o _ e => F6.keep _ _ e
          refine repr_th (row6.th _ _ _ hv ht) (fun k q => rowg.hv k (q ▸ List.mem_of_getElem? ht)) (fun x q => rowg.wd x (q ▸ List.mem_of_getElem? ht)) rfl (Nat.le_of_ble_eq_true rfl) fun h7 t7 k7 up7 => ?_
          have F7 := F6.keeps up7
          have N7 := N6.grown up7
          clear F6 N6
          k_steps
          rename Fr _ _ _ _ => F9
          rename News _ _ _ _ => N9
          exact ⟨_, _, ys.push _, c + 1, by rw [hd, show (((i + 2 : Nat) : Int)) = (i : Int) + 2 by omega]; exact Fr.cg F9 dmap_at, N9, by rw [hd, Array.toList_push]; exact kct_snoc hy, by rw [Array.size_push]; omega, hg, ho, hr2⟩
        · rename ¬ _ => hlt
          have hlt' : ¬ (i + 1 < vs.size) := by omega
          have hd : due ths (i + 1) = (i + 2, (due ths i).2 ++ [rp (.str cNone)]) := by
            rw [due, if_pos ⟨by rw [ha]; omega, hb⟩, behind, if_neg (by rw [row.len]; exact hlt')]
          refine P.repr_of_str ?_ (by decide +kernel)
          k_steps
          rename Fr _ _ _ _ => F9
          rename News _ _ _ _ => N9
          exact ⟨_, _, ys.push _, c + 1, by rw [hd, show (((i + 2 : Nat) : Int)) = (i : Int) + 2 by omega]; exact Fr.cg F9 dmap_at, N9, by rw [hd, Array.toList_push]; exact kct_snoc hy, by rw [Array.size_push]; omega, hg, ho, hr2⟩
    · rename Fr _ _ _ _ => F5
      rename News _ _ _ _ => N5
      rename ¬ _ => hna
      have hd := idle fun q => hna (by omega)
      exact ⟨_, _, ys, c, by rw [hd, ha]; exact Fr.cg F5 dmap_k, N5, by rw [hd]; exact hy, Nat.le_succ_of_le hyn, hg, ho, hr2⟩
  · rintro s₁ ⟨ta, kk, ys, c, F2, N2, hy, hyn, hg, ho, hr2⟩ h1 he1
    have lTI : @LT.lt Nat _ TT II := lI _ (.head _)
    have F3 := LCg.fr_but F2 (fun b o q e => he1 b o (fun z => q (z ▸ .head _)) e) (Nat.ne_of_lt l2I) (N2 _ (.head _)).2.2
    have N3 : News g L' h1 [(TT, lstO ys c)] := by
      intro p hp
      rw [List.mem_singleton.mp hp]
      exact ⟨he1 _ _ (Nat.ne_of_lt lTI) (N2 _ (.tail _ (.head _))).1, (N2 _ (.tail _ (.head _))).2⟩
    clear F2 N2 FF NN F0 F1 N1 hr
    subst em
    dsimp only
    k_steps
    rename Fr _ _ _ _ => F9
    rename News _ _ _ _ => N9
    rw [pick_from, ← row.len] at N9
    rw [← row.len] at hy
    have fresh := fun p hp => kts_none (fun b o e => Bz.into b o (fun q => nomatch q) e) (N9 p hp).2.2
    have Mz := Bz.mv (tk := 0) F9
    refine hQ _ _ TT _ ys _ c _ ?_ (N9.get (.head _)) (N9.get (.tail _ (.tail _ (.head _)))) hy (N9.get (.tail _ (.head _))) (fresh _ (.head _)) (fresh _ (.tail _ (.tail _ (.head _)))) (fresh _ (.tail _ (.head _)))
    exact ⟨Mz.keep, hg, ho, hr2, Mz.size⟩
  · exact ⟨ta0, _, #[], 0, F1, by simpa using N1, .nil, Nat.le_refl _, rfl, rfl, rfl⟩
end
section
open PySem PySem.W PySem.Calls PyProof.Rows
theorem strOk_of {x : Str} (h : ∀ c ∈ x.cps.toList, c < 0x110000) : PyData.strOk x = true := by
  unfold PyData.strOk
  rw [← Array.all_toList, List.all_eq_true]
  exact fun c hc => decide_eq_true (h c hc)
theorem fold_ok {q : Nat} : ∀ (l : List Nat) (acc : Array Nat), (∀ d ∈ acc.toList, d < 0x110000) → (∀ c ∈ l, ∀ d ∈ PySem.Builtin.Str.reprChar q c, d < 0x110000) → ∀ d ∈ (l.foldl (fun out c => out ++ (PySem.Builtin.Str.reprChar q c).toArray) acc).toList, d < 0x110000
  | [], acc, h, _ => h
  | c :: r, acc, h, h2 => by
    rw [List.foldl_cons]
    refine fold_ok r _ (fun d hd' => ?_) fun c' hc' => h2 c' (.tail _ hc')
    rw [Array.toList_append] at hd'
    rcases List.mem_append.mp hd' with z | z
    · exact h d z
    · exact h2 c (.head _) d (by simpa using z)
theorem quote_two (x : Str) : reprQuote x = 34 ∨ reprQuote x = 39 := by
  unfold reprQuote
  split
  · exact .inl rfl
  · exact .inr rfl
theorem alph_repr : ∀ c ∈ alph, (∀ d ∈ PySem.Builtin.Str.reprChar 34 c, d < 0x110000) ∧ ∀ d ∈ PySem.Builtin.Str.reprChar 39 c, d < 0x110000 := by decide +kernel
theorem reprText_ok {x : Str} (h : ∀ c ∈ x.cps.toList, ∀ d ∈ PySem.Builtin.Str.reprChar (reprQuote x) c, d < 0x110000) : PyData.strOk (reprText x) = true := by
  have q : reprQuote x < 0x110000 := by rcases quote_two x with e | e <;> rw [e] <;> decide
  refine strOk_of fun c hc => ?_
  unfold reprText at hc
  rw [Array.toList_push, ← Array.foldl_toList] at hc
  rcases List.mem_append.mp hc with z | z
  · exact fold_ok _ _ (fun d hd' => by have := List.mem_singleton.mp hd'; rw [this]; exact q) h c z
  · rw [List.mem_singleton.mp z]
    exact q
theorem rp_ok {th : Th} (hx : ∀ x, th = .str x → Wd x) (hk : ∀ k, th = .hvy k → k < 6) : PyData.strOk (rp th) = true := by
  cases th with
  | str x =>
    refine reprText_ok fun c hc => ?_
    have := alph_repr c ((hx x rfl).al c hc)
    rcases quote_two x with e | e
    · rw [e]; exact this.1
    · rw [e]; exact this.2
  | nul k =>
    by_cases h : k < 6
    · have : k = 0 ∨ k = 1 ∨ k = 2 ∨ k = 3 ∨ k = 4 ∨ k = 5 := by omega
      rcases this with rfl | rfl | rfl | rfl | rfl | rfl <;> decide +kernel
    · show PyData.strOk (if k < 6 then (nulD k).shown else Str.ofString "b''") = true
      rw [if_neg h]
      decide +kernel
  | hvy k =>
    have h := hk k rfl
    have : k = 0 ∨ k = 1 ∨ k = 2 ∨ k = 3 ∨ k = 4 ∨ k = 5 := by omega
    rcases this with rfl | rfl | rfl | rfl | rfl | rfl <;> decide +kernel
theorem none_ok : PyData.strOk (rp (.str cNone)) = true := by decide +kernel
theorem due_ok {ths : List Th} (h : ∀ th ∈ ths, PyData.strOk (rp th) = true) : ∀ n, OkL (due ths n).2
  | 0 => fun y hy => by cases hy
  | n + 1 => by
    rw [due]
    split
    · intro y hy
      rcases List.mem_append.mp hy with z | z
      · exact due_ok h n y z
      · rw [List.mem_singleton.mp z]
        unfold behind
        split
        · rename_i hlt
          rw [List.getD_eq_getElem?_getD, List.getElem?_eq_getElem hlt]
          exact h _ (List.getElem_mem hlt)
        · exact none_ok
    · exact due_ok h n
theorem word_ok {th : Th} (hx : ∀ x, th = .str x → Wd x) : PyData.strOk th.word = true := by
  cases th with
  | str x => exact strOk_of fun c hc => Nat.lt_of_lt_of_le (alph_lt ((hx x rfl).al c hc)) (by decide)
  | nul k => show PyData.strOk cE = true; decide +kernel
  | hvy k => show PyData.strOk cE = true; decide +kernel
end
section
open PySem PySem.W PySem.Calls PyProof.Rows
section
variable {prog : Program} {w : World} {A : Around} {s : Shared} {a b : Addr} {xs ys : List Value} {ns ms : List Str} {Q : Value → Shared → Prop} {E : Value → Shared → Prop}
theorem ne_same (ha : s.heap.IsList a xs.toArray) (hb : s.heap.IsList b ys.toArray) (hi : StrsAre xs ns) (hj : StrsAre ys ns) (o1 : OkL ns) (hu : A.units + 64 < cLine) (h : Q (.bool false) s) :
    wpAny (model prog w) A (compareOp .NotEq (.ref a) (.ref b)) Q E s :=
  ne_strs ha hb hi hj o1 o1 hu (by rw [decide_eq_true rfl]; exact h)
theorem eq_same (ha : s.heap.IsList a xs.toArray) (hb : s.heap.IsList b ys.toArray) (hi : StrsAre xs ns) (hj : StrsAre ys ns) (o1 : OkL ns) (hu : A.units + 64 < cLine) (h : Q (.bool true) s) :
    wpAny (model prog w) A (compareOp .Eq (.ref a) (.ref b)) Q E s :=
  eq_strs ha hb hi hj o1 o1 hu (by rw [decide_eq_true rfl]; exact h)
end
noncomputable def spW (t : Th) : Str := spell t.word
theorem outL_drop {ths : List Th} : ∀ n i, n = ths.length - i → outL ths i n = (ths.drop i).map spW
  | 0, i, h => by rw [List.drop_eq_nil_of_le (by omega)]; rfl
  | n + 1, i, h => by
    have hi : i < ths.length := by omega
    rw [List.drop_eq_getElem_cons hi, outL, List.map_cons, outL_drop n (i + 1) (by omega), List.getD_eq_getElem?_getD, List.getElem?_eq_getElem hi]
    rfl
theorem word_le {t : Th} (h : ∀ x, t = .str x → Wd x) : t.word.length ≤ 3 := by
  cases t with
  | str x => exact (h x rfl).len
  | nul k => show cE.length ≤ 3; decide
  | hvy k => show cE.length ≤ 3; decide
theorem word_wd {t : Th} (h : ∀ x, t = .str x → Wd x) : Wd t.word := by
  cases t with
  | str x => exact h x rfl
  | nul k => exact wd_cE
  | hvy k => exact wd_cE
theorem sum_spw : ∀ l : List Th, (∀ x, Th.str x ∈ l → Wd x) → ((l.map spW).map (·.length)).sum ≤ 17 * l.length
  | [], _ => Nat.le_refl _
  | t :: r, h => by
    have h1 := sum_spw r fun x hx => h x (.tail _ hx)
    have h2 : (spW t).length ≤ 17 := spell_len (word_le fun x e => h x (e ▸ .head _))
    rw [List.map_cons, List.map_cons, List.sum_cons, List.length_cons]
    omega
theorem join_fits {l : List Th} (h : ∀ x, Th.str x ∈ l → Wd x) (hn : l.length ≤ 1000) : ((l.map spW).map (·.length)).sum + (l.map spW).length * cSp.length ≤ 16777216 := by
  have h1 := sum_spw l h
  have h2 : cSp.length = 1 := by decide
  rw [h2, List.length_map]
  omega
theorem words_wd {l : List Th} (h : ∀ x, Th.str x ∈ l → Wd x) : ∀ x ∈ l.map Th.word, Wd x := fun x hx => by
  obtain ⟨t, ht, rfl⟩ := List.mem_map.mp hx
  exact word_wd fun x e => h x (e ▸ ht)
theorem words_ok {l : List Th} (h : ∀ x, Th.str x ∈ l → Wd x) : OkL (l.map Th.word) := fun y hy => by
  obtain ⟨t, ht, rfl⟩ := List.mem_map.mp hy
  exact word_ok fun x e => h x (e ▸ ht)
theorem spw_words (l : List Th) : l.map spW = (l.map Th.word).map spell := by rw [List.map_map]; rfl
theorem tks_spw {l : List Th} (h : ∀ x, Th.str x ∈ l → Wd x) : Tks (Str.join cSp (l.map spW)).cps.toList (some cSp) (l.map Th.word) := by
  rw [spw_words]
  exact tks_join _ (words_wd h)
theorem len_spw {l : List Th} (h : ∀ x, Th.str x ∈ l → Wd x) : (Str.join cSp (l.map spW)).length ≤ 18 * l.length := by
  rw [spw_words]
  refine Nat.le_trans (join_len _ fun x hx => (words_wd h x hx).len) ?_
  rw [List.length_map]
  exact Nat.le_refl _
theorem rps_ok {l : List Th} (h : ∀ x, Th.str x ∈ l → Wd x) (hk : ∀ k, Th.hvy k ∈ l → k < 6) : ∀ t ∈ l, PyData.strOk (rp t) = true := fun t ht => rp_ok (fun x e => h x (e ▸ ht)) fun k e => hk k (e ▸ ht)
theorem rpl_ok {l : List Th} (h : ∀ x, Th.str x ∈ l → Wd x) (hk : ∀ k, Th.hvy k ∈ l → k < 6) : OkL (l.map rp) := fun y hy => by
  obtain ⟨t, ht, rfl⟩ := List.mem_map.mp hy
  exact rps_ok h hk t ht
theorem wd_drop {l : List Th} {d : Nat} (h : ∀ x, Th.str x ∈ l → Wd x) : ∀ x, Th.str x ∈ l.drop d → Wd x := fun x hx => h x (List.mem_of_mem_drop hx)
theorem join_named {prog : Program} {w : World} {A : Around} {s : Shared} {D : Addr} {items : Array Value} {x y : Str} {t : Tok} {ys : List Str} {Q : Value → Shared → Prop} {E : Value → Shared → Prop} (hl : s.heap.IsList D items) (hi : StrsAre items.toList ys) (hok : (ys.map (·.length)).sum + ys.length * x.length ≤ 16777216) (e : Str.join x ys = y)
    (h : ∀ t' k, Q (.str y t') { s with toks := k }) : wpAny (model prog w) A (call (.builtin "str.join") [.str x t, .ref D]) Q E s :=
  join_list hl hi hok fun t' k => by
    have e' : Txt.join x ys = y := (StrLaws.glued_eq_join _ _).trans e
    rw [e']
    exact h t' k
theorem ne_line {prog : Program} {w : World} {A : Around} {s : Shared} {x : Str} {t u : Tok} {Q : Value → Shared → Prop} {E : Value → Shared → Prop} (h : Q (.bool false) s) : wpAny (model prog w) A (compareOp .NotEq (.str x t) (.str x u)) Q E s :=
  ne_str (by
    have e : (!decide (x = x)) = false := by rw [decide_eq_true rfl]; rfl
    first
    | (rw [e]; exact h)
    | simpa using h)
theorem not_nil {a : Addr} : a ∉ ([] : List Addr) := fun q => nomatch q
theorem none_of_le {h : Heap} {a : Addr} (l : h.objs.size ≤ a) : h.get? a = none := by
  cases e : h.get? a with
  | none => rfl
  | some o => exact absurd (Heap.lt_size e) (Nat.not_lt.mpr l)
theorem drop_line {ths : List Th} {d : Nat} {line : Str} (h : Str.join cSp (outL ths d (ths.length - d)) = line) : Str.join cSp ((ths.drop d).map spW) = line := by
  rw [← outL_drop _ d rfl]
  exact h
theorem line_ok {ths : List Th} {d : Nat} {line : Str} (h : Str.join cSp (outL ths d (ths.length - d)) = line) (tw : ∀ x, Th.str x ∈ ths → Wd x) (hn : ths.length ≤ 50) :
    line.length ≤ 1000 ∧ Tks line.cps.toList (some cSp) ((ths.drop d).map Th.word) ∧ ((ths.drop d).map Th.word).length ≤ 1000 := by
  have jl := drop_line h
  have wdd : ∀ x, Th.str x ∈ ths.drop d → Wd x := wd_drop tw
  refine ⟨?_, jl ▸ tks_spw wdd, by rw [List.length_map, List.length_drop]; omega⟩
  have q := len_spw wdd
  rw [jl, List.length_drop] at q
  exact Nat.le_trans q (by omega)
end
section
open PySem PySem.W PySem.Calls PyProof.Rows
section
variable {w : World} {outer : List Env} {wr wr' : List Addr} {s s₁ s₂ : Shared} {g g' h h' : Heap} {env : Env} {L : Addr} {m m' : Str → Option Value} {lo : List Str} {mg mb : Str → Option Value} {news : List (Addr × Obj)} {ps ps' : Array Value}
structure J4 (w : World) (s : Shared) (h : Heap) (ps : Array Value) : Prop where
  J : Jc h ps
  X : (kk.heap_1 w.params).In h
  four : ∃ o, s.heap.get? 4 = some o ∧ h.get? 4 = some o
theorem four_up (G : Gd w outer g) (B : Bt outer [746] s g L) (F : Fr g L h m) {o : Obj} (e : s.heap.get? 4 = some o) : h.get? 4 = some o :=
  F.keep 4 o (B.into 4 o (fun q => by cases List.mem_singleton.mp q) (fun q => absurd (frg_big G 4 q).1 (by decide)) e)
theorem J4.of (J0 : Jc s.heap ps') (G : Gd w outer g) (B : Bt outer [746] s g L) (F : Fr g L h m) (J : Jc h ps) : J4 w s h ps := by
  obtain ⟨o, e, _⟩ := J0.bm
  exact ⟨J, G.X.keeps F.keep, o, e, four_up G B F e⟩
theorem J4.again (J : J4 w s h ps) (G : Gd w outer g) (B : Bt outer [746] s g L) (F : Fr g L h' m) (k : h'.get? 746 = some (tabO ps)) : Jc h' ps := by
  obtain ⟨o, e, e'⟩ := J.four
  refine J.J.move J.X (G.X.keeps F.keep) k fun o' q => ?_
  rw [e'] at q
  cases q
  exact four_up G B F e
theorem base0 (G : Gd w outer g) (F : Fr g L s₁.heap m) (M : Mx (env :: outer) [] s₁ s₂) (T : TopRead vw lo mg mb g) (B : Bt outer wr' s g L) (N : News g L s₁.heap news) (hf : env.frame = some L) :
    ∃ g', Gd w outer g' ∧ Fr g' L s₂.heap m ∧ TopRead vw lo mg mb g' ∧ Bt outer wr' s g' L ∧ News g' L s₂.heap news ∧ ∀ b o, s₂.heap.get? b = some o → s₁.heap.get? b = none → s₂.heap.get? b = some o ∧ b ≠ L ∧ g'.get? b = none := by
  obtain ⟨g', G', F', T', B', n'⟩ := rebase G F hf M not_nil (fun b q => absurd q not_nil) T B
  exact ⟨g', G', F', T', B', News.rebase N G hf M n' (fun p _ => not_nil), fresh_in F n'⟩
theorem base7 (G : Gd w outer g) (F : Fr g L s₁.heap m) (M : Mx (env :: outer) [746] s₁ s₂) (T : TopRead vw lo mg mb g) (B : Bt outer [746] s g L) (N : News g L s₁.heap ((746, tabO ps) :: news)) (hn : ∀ p ∈ news, p.1 ≠ 746) (J : Jc s₂.heap ps') (hf : env.frame = some L) :
    ∃ g', Gd w outer g' ∧ Fr g' L s₂.heap m ∧ TopRead vw lo mg mb g' ∧ Bt outer [746] s g' L ∧ News g' L s₂.heap ((746, tabO ps') :: news) ∧ ∀ b o, s₂.heap.get? b = some o → s₁.heap.get? b = none → s₂.heap.get? b = some o ∧ b ≠ L ∧ g'.get? b = none := by
  have n7 := N _ (.head _)
  obtain ⟨g', G', F', T', B', n'⟩ := rebase G F hf M (fun q => n7.2.1 (List.mem_singleton.mp q).symm) (fun b q => by rw [List.mem_singleton.mp q]; exact n7.2.2) T B
  have NK : News g L s₁.heap news := fun p hp => N p (.tail _ hp)
  exact ⟨g', G', F', T', B', news_cons ⟨J.get, n7.2.1, n' _ n7.2.2⟩ (News.rebase NK G hf M n' (fun p hp q => hn p hp (List.mem_singleton.mp q))), fresh_in F n'⟩
theorem base7j (G : Gd w outer g) (F : Fr g L s₁.heap m) (hL : 815 ≤ L) (M : Mj [] s₁ s₂) (T : TopRead vw lo mg mb g) (B : Bt outer [746] s g L) (N : News g L s₁.heap ((746, tabO ps) :: news)) (hn : ∀ p ∈ news, p.1 ≠ 746) (J : Jc s₂.heap ps') :
    ∃ g', Gd w outer g' ∧ Fr g' L s₂.heap m ∧ TopRead vw lo mg mb g' ∧ Bt outer [746] s g' L ∧ News g' L s₂.heap ((746, tabO ps') :: news) :=
  let ⟨g', a, b, c, d, e, _⟩ := base7 (env := { (default : Env) with frame := some L }) G F (M.mx (Nat.le_of_lt (Nat.lt_of_le_of_lt hL (frLt F)))) T B N hn J rfl
  ⟨g', a, b, c, d, e⟩
theorem Bt.mx_of {s' : Shared} (B : Bt outer wr s g L) (F : Fr g L s'.heap m) (hL : 815 ≤ L) (hg : Gx s.gens s'.gens) (ho : s'.os = s.os) (hr : s'.drawn = s.drawn) : Mx outer wr s s' :=
  ⟨fun b o h1 h2 e => F.keep b o (B.into b o h1 h2 e), fun b o h1 h2 e _ => by
    obtain ⟨sl, z⟩ := B.frm b o h1 h2 e
    exact ⟨sl, F.keep b _ z⟩, hg, ho, hr, by
    obtain ⟨o, _, _, ho, _⟩ := F.ns
    exact Nat.le_of_lt (Nat.lt_of_le_of_lt hL (Heap.lt_size ho))⟩
end
theorem heavy_is {t : Th} (h : t.heavy = true) : ∃ k, t = .hvy k := by
  cases t with
  | hvy k => exact ⟨k, rfl⟩
  | str x => cases h
  | nul k => cases h
theorem stop0 {ths : List Th} (h : (ths.getD 0 (.nul 0)).heavy = true) : Stop ths 0 0 :=
  ⟨fun k _ q => absurd q (Nat.not_lt_zero _), Nat.zero_le _, fun q => by
    rw [List.getD_eq_getElem?_getD, List.getElem?_eq_getElem q] at h
    obtain ⟨k, e⟩ := heavy_is h
    exact ⟨k, by rw [List.getElem?_eq_getElem q]; exact congrArg some e⟩⟩
end
section
open PySem PySem.W PySem.Calls PyProof.Rows
section
variable {prog : Program} {w : World} {A : Around} {E : Value → Shared → Prop} {s : Shared} {h₀ : Heap} {L : Addr} {m : Str → Option Value} {env : Env}
theorem rest_invT {ct elt : Expr} {x : Str} {scope : Scope} {cl : List (Str × Addr)} {S : List (Addr × Obj) → Prop} {P : Nat → Value → Prop} {Fin : List Value → List (Addr × Obj) → Prop} {n : Nat} (Inv : Nat → List Value → List (Addr × Obj) → Prop)
    (turn : ∀ i ys news v I oI C oC D m₂ h tk (E' : Value → Shared → Prop), i < n → Inv i ys news → P i v → LCg.NsObj oC m₂ → m₂ x = some v → Fr h₀ L h m → News h₀ L h ((I, oI) :: (C, oC) :: (D, LCg.lst ys) :: news) → LCg.Off3 I C D news → ((@Ne Nat I C) ∧ (@Ne Nat I D) ∧ (@Ne Nat C D)) →
      wpAny (model prog w) A (isTrue ct (compEnvC scope cl C env) (eval ct (compEnvC scope cl C env))) (fun ok s' => if ok = true then
        wpAny (model prog w) A (eval elt (compEnvC scope cl C env)) (LCg.CompEnd h₀ L m { s with heap := h, toks := tk } I oI C oC D (LCg.lst ys) S (fun y news' => Inv (i + 1) (ys ++ [y]) news')) E' s'
        else LCg.CompEnd h₀ L m { s with heap := h, toks := tk } I oI C oC D (LCg.lst ys) S (fun _ news' => Inv (i + 1) ys news') Value.none s') E' { s with heap := h, toks := tk })
    (fin : ∀ ys news, Inv n ys news → Fin ys news) : ∀ j i ys news, i + j = n → Inv i ys news → LCt.CompRestT prog w A h₀ L m env ct elt x scope cl s S P Fin j i ys news
  | 0, i, ys, news, hi, h => LCt.CompRestT.zero (fin ys news (by
      have e : i = n := hi
      rw [← e]; exact h))
  | j + 1, i, ys, news, hi, h => LCt.CompRestT.succ fun v I oI C oC D m₂ h₁ tk E' hv hC hx F N off ne =>
      wpAny_mono (turn i ys news v I oI C oC D m₂ h₁ tk E' (by omega) h hv hC hx F N off ne) (fun ok s₂ hq => by
        cases ok with
        | true =>
          simp only [if_true] at hq ⊢
          refine wpAny_mono hq (fun y s₃ hq => ?_) fun _ _ e => e
          obtain ⟨h', tk', nw, e, F', N', off', hS, hI⟩ := hq
          exact ⟨h', tk', nw, e, F', N', off', hS, rest_invT Inv turn fin j (i + 1) _ _ (by omega) hI⟩
        | false =>
          simp only [Bool.false_eq_true, if_false] at hq ⊢
          obtain ⟨h', tk', nw, e, F', N', off', hS, hI⟩ := hq
          exact ⟨h', tk', nw, e, F', N', off', hS, rest_invT Inv turn fin j (i + 1) _ _ (by omega) hI⟩) fun _ _ e => e
end
structure LightI (ys : List Value) (ths : List Th) (i : Nat) (xs : List Value) : Prop where
  ex : ∃ lths : List Th, xs.length = lths.length ∧ xs.length ≤ i ∧ (∀ t ∈ lths, t.heavy = false ∧ t ∈ ths) ∧ ∀ (j : Nat) v t, xs[j]? = some v → lths[j]? = some t → ∃ k : Nat, ys[k]? = some v ∧ ths[k]? = some t
theorem LightI.nil {ys : List Value} {ths : List Th} : LightI ys ths 0 [] := ⟨[], rfl, Nat.le_refl _, fun t h => (by cases h), fun j v t e => (by simp at e)⟩
theorem LightI.skip {ys : List Value} {ths : List Th} {i : Nat} {xs : List Value} (x : LightI ys ths i xs) : LightI ys ths (i + 1) xs := by
  obtain ⟨lths, e1, e2, e3, e4⟩ := x.ex
  exact ⟨lths, e1, Nat.le_succ_of_le e2, e3, e4⟩
theorem LightI.snoc {ys : List Value} {ths : List Th} {i : Nat} {xs : List Value} {v : Value} {t : Th} (x : LightI ys ths i xs) (hv : ys[i]? = some v) (ht : ths[i]? = some t) (hl : t.heavy = false) : LightI ys ths (i + 1) (xs ++ [v]) := by
  obtain ⟨lths, e1, e2, e3, e4⟩ := x.ex
  refine ⟨lths ++ [t], by rw [List.length_append, List.length_append, e1]; rfl, by rw [List.length_append, List.length_singleton]; omega, fun t' h => ?_, fun j v' t' q1 q2 => ?_⟩
  · rcases List.mem_append.mp h with h | h
    · exact e3 t' h
    · rw [List.mem_singleton.mp h]
      exact ⟨hl, List.mem_of_getElem? ht⟩
  · rcases Nat.lt_or_ge j xs.length with q | q
    · rw [List.getElem?_append_left q] at q1
      rw [List.getElem?_append_left (by omega)] at q2
      exact e4 j v' t' q1 q2
    · have kl : j < (xs ++ [v]).length := (List.getElem?_eq_some_iff.mp q1).1
      rw [List.length_append, List.length_singleton] at kl
      have ej : j = xs.length := by omega
      subst ej
      rw [List.getElem?_append_right (Nat.le_refl _), Nat.sub_self] at q1
      rw [List.getElem?_append_right (by omega), e1, Nat.sub_self] at q2
      cases q1
      cases q2
      exact ⟨i, hv, ht⟩
theorem bools_at {ths : List Th} {i : Nat} (h : i < ths.length) : (ths.map fun t => Value.bool t.heavy).toArray[i]? = some (.bool (ths.getD i (.nul 0)).heavy) := by
  simp [List.getD_eq_getElem?_getD, h]
theorem size_one {n : Nat} : Builtin.Range.rangeSize 0 (n : Int) 1 = (n : Int) := by rw [rangeSize_one]; split <;> omega
theorem fin_one {n : Nat} (h : n ≤ 50) : Builtin.Range.small 0 (n : Int) 1 = true := small_one (by omega) (by omega) (by omega) (by omega)
theorem zero_add_nat {i : Nat} : ((0 : Int) + (i : Int)).toNat = i := by omega
theorem stop_all {ths : List Th} (h : ∀ t ∈ ths, t.heavy = false) : Stop ths ths.length 0 :=
  ⟨fun k _ q => by
    rw [List.getD_eq_getElem?_getD, List.getElem?_eq_getElem q]
    exact h _ (List.getElem_mem q), Nat.le_refl _, fun q => absurd q (Nat.lt_irrefl _)⟩
theorem outL_all (ths : List Th) : outL ths 0 ths.length = ths.map spW := outL_drop ths.length 0 rfl
structure LightR (w : World) (th : List (Addr × Obj)) (xs : List Value) (lths : List Th) : Prop where
  len : xs.length = lths.length
  light : ∀ t ∈ lths, t.heavy = false
  wd : ∀ x, Th.str x ∈ lths → Wd x
  row : ∀ h : Heap, (∀ p ∈ th, h.get? p.1 = some p.2) → TRow w xs.toArray lths h
  any : ∀ h : Heap, (∀ p ∈ th, h.get? p.1 = some p.2) → ∀ (j : Nat) v t, xs[j]? = some v → lths[j]? = some t → ThG w t v h
theorem LightI.all {w : World} {ys xs : List Value} {ths : List Th} {n : Nat} {th : List (Addr × Obj)} (x : LightI ys ths n xs) (e4 : ∀ h : Heap, (∀ p ∈ th, h.get? p.1 = some p.2) → ∀ (k : Nat) v t, ys[k]? = some v → ths[k]? = some t → ThG w t v h)
    (tw : ∀ x, Th.str x ∈ ths → Wd x) (tk : ∀ k, Th.hvy k ∈ ths → k < 6) : ∃ lths, LightR w th xs lths ∧ lths.length ≤ n := by
  obtain ⟨lths, e1, e2, e3, e5⟩ := x.ex
  have any : ∀ h : Heap, (∀ p ∈ th, h.get? p.1 = some p.2) → ∀ (j : Nat) v t, xs[j]? = some v → lths[j]? = some t → ThG w t v h := fun h hn j v t q1 q2 => by
    obtain ⟨k, z1, z2⟩ := e5 j v t q1 q2
    exact e4 h hn k v t z1 z2
  refine ⟨lths, ⟨e1, fun t h => (e3 t h).1, fun x h => tw x (e3 _ h).2, fun h hn => ⟨by rw [List.size_toArray]; exact e1.symm, fun k v t q1 q2 => (any h hn k v t (by simpa using q1) q2).tv, fun x h => tw x (e3 _ h).2, fun k h => tk k (e3 _ h).2⟩, any⟩, by rw [← e1]; exact e2⟩
theorem join_all (lths : List Th) : Str.join cSp (outL lths 0 lths.length) = Str.join cSp (lths.map spW) := by rw [outL_all]
end
section
open PySem PySem.W PySem.Calls PyProof.Rows
abbrev cWon : Str := Str.ofString "words_of_none"
noncomputable abbrev kmap (m : Str → Option Value) (ko wo : Option Value) : Str → Option Value := fun y => if y = Str.ofString "k" then ko else if y = cWon then wo else m y
theorem kmap_0 {m : Str → Option Value} : ∀ y, m y = kmap m (m (Str.ofString "k")) (m cWon) y := fun y => by
  unfold kmap
  by_cases e1 : y = Str.ofString "k"
  · rw [if_pos e1, e1]
  · rw [if_neg e1]
    by_cases e2 : y = cWon
    · rw [if_pos e2, e2]
    · rw [if_neg e2]
theorem kmap_k {m : Str → Option Value} {ko wo v : Option Value} : ∀ y, (if y = Str.ofString "k" then v else kmap m ko wo y) = kmap m v wo y := fun y => by
  unfold kmap
  by_cases e1 : y = Str.ofString "k"
  · rw [if_pos e1, if_pos e1]
  · rw [if_neg e1, if_neg e1, if_neg e1]
theorem kmap_w {m : Str → Option Value} {ko wo v u : Option Value} : ∀ y, (if y = cWon then u else if y = Str.ofString "k" then v else kmap m ko wo y) = kmap m v u y := fun y => by
  unfold kmap
  by_cases e1 : y = Str.ofString "k"
  · have e2 : ¬ (y = cWon) := by rw [e1]; decide +kernel
    rw [if_neg e2, if_pos e1, if_pos e1]
  · rw [if_neg e1]
    by_cases e2 : y = cWon
    · rw [if_pos e2, if_neg e1, if_pos e2]
    · rw [if_neg e2, if_neg e1, if_neg e2, if_neg e1, if_neg e2]
structure LoopJ (w : World) (outer : List Env) (s : Shared) (L I : Addr) (lo : List Str) (mg mb m : Str → Option Value) (n : Nat) (base : List (Addr × Obj)) (i : Nat) (s₁ : Shared) : Prop where
  ex : ∃ g ko wo, Gd w outer g ∧ Fr g L s₁.heap (kmap m ko wo) ∧ TopRead vw lo mg mb g ∧ Bt outer [746] s g L ∧ News g L s₁.heap ((I, ritO (i : Nat) ((n : Int) - (i : Nat))) :: base) ∧ Gx s.gens s₁.gens ∧ s₁.os = s.os ∧ s₁.drawn = s.drawn
theorem to_front {g h : Heap} {L : Addr} {a b c d e x : Addr × Obj} {K : List (Addr × Obj)} (N : News g L h (a :: b :: c :: d :: e :: x :: K)) : News g L h (x :: a :: b :: c :: d :: e :: K) := fun p hp => by
  refine N p ?_
  rcases List.mem_cons.mp hp with q | hp
  · exact q ▸ .tail _ (.tail _ (.tail _ (.tail _ (.tail _ (.head _)))))
  rcases List.mem_cons.mp hp with q | hp
  · exact q ▸ .head _
  rcases List.mem_cons.mp hp with q | hp
  · exact q ▸ .tail _ (.head _)
  rcases List.mem_cons.mp hp with q | hp
  · exact q ▸ .tail _ (.tail _ (.head _))
  rcases List.mem_cons.mp hp with q | hp
  · exact q ▸ .tail _ (.tail _ (.tail _ (.head _)))
  rcases List.mem_cons.mp hp with q | hp
  · exact q ▸ .tail _ (.tail _ (.tail _ (.tail _ (.head _))))
  · exact .tail _ (.tail _ (.tail _ (.tail _ (.tail _ (.tail _ hp)))))
theorem not_of_nul {w : World} {k : Nat} {v : Value} {h : Heap} (x : ThG w (.nul (k + 1)) v h) : NoT w v (.nul (k + 1)) h := by
  refine ⟨x.tv, fun y q => (by cases q), ?_, x.k6⟩
  have tv : NulV w (k + 1) v h := x.tv
  match k, tv with
  | 0, tv => obtain ⟨t, rfl⟩ := (tv : ∃ t, v = .int 0 t); exact fun q => by cases q
  | 1, tv => obtain rfl := (tv : v = .bool false); exact fun q => by cases q
  | 2, tv => obtain ⟨a, c, rfl, _⟩ := (tv : ∃ a c, v = .ref a ∧ h.get? a = some (lstO #[] c)); exact fun q => by cases q
  | 3, tv => obtain ⟨a, o, rfl, _⟩ := (tv : ∃ a o, v = .ref a ∧ h.get? a = some o ∧ DictS w o [] ∧ a ≠ sysModules); exact fun q => by cases q
  | 4, tv => obtain ⟨a, c, rfl, _⟩ := (tv : ∃ a c, v = .ref a ∧ h.get? a = some { cls := .type "tuple", data := .seq #[] c }); exact fun q => by cases q
  | n + 5, tv => obtain ⟨t, rfl⟩ := (tv : ∃ t, v = .bytes #[] t); exact fun q => by cases q
theorem not_of_hvy {w : World} {k : Nat} {v : Value} {h : Heap} (x : ThG w (.hvy k) v h) : NoT w v (.hvy k) h := by
  refine ⟨x.tv, fun y q => (by cases q), ?_, x.k6⟩
  have tv : HvyV w k v h := x.tv
  match k, tv with
  | 0, tv => obtain ⟨t, rfl⟩ := (tv : ∃ t, v = .int 1 t); exact fun q => by cases q
  | 1, tv => obtain rfl := (tv : v = .bool true); exact fun q => by cases q
  | 2, tv => obtain ⟨t, rfl⟩ := (tv : ∃ t, v = .bytes #[97] t); exact fun q => by cases q
  | 3, tv => obtain ⟨a, c, t, rfl, _⟩ := (tv : ∃ a c t, v = .ref a ∧ h.get? a = some (lstO #[.str cA t] c)); exact fun q => by cases q
  | 4, tv => obtain ⟨a, c, t, rfl, _⟩ := (tv : ∃ a c t, v = .ref a ∧ h.get? a = some { cls := .type "tuple", data := .seq #[.str cA t] c }); exact fun q => by cases q
  | n + 5, tv => obtain ⟨a, o, u, rfl, _⟩ := (tv : ∃ a o u, v = .ref a ∧ h.get? a = some o ∧ DictS w o [(cA, .int 1 u)] ∧ a ≠ sysModules); exact fun q => by cases q
theorem none_of_nul {w : World} {v : Value} {h : Heap} (x : ThG w (.nul 0) v h) : v = .none := x.tv
end
section
open PySem PySem.W PySem.Calls PyProof.Rows
theorem holds_a {w : World} {outer : List Env} {s : Shared} {Nm : Nat} {vals : List Value} {ns : List Int} {ps : Array Value} {R : Result → Shared → Prop} (G : Gd w outer s.heap) (hN : s.heap.IsList Nm vals.toArray) (hi : IntsAre vals ns) (hb : ∀ n ∈ ns, 0 ≤ n ∧ n < 100000)
    (hlen : ns.length ≤ 50) (hf5 : ns[0]? = some 5) (J : Jc s.heap ps) (f7 : 746 ∉ frs outer)
    (hQ : ∀ s', Mx outer [746] s s' → (∃ ps, Jc s'.heap ps) → R (.ok (.ret (.bool true))) s') :
    codeAny (Mod w) (AT 390 1200 outer) (.call (.ref 809) ⟨[.ref Nm], []⟩) R s := by
  have hl : vals.length = ns.length := hi.length
  have n7 : Nm ≠ 746 := fun q => by
    obtain ⟨o, ho', hc', _⟩ := hN
    rw [q, J.get] at ho'
    cases ho'
    cases hc'
  refine' enterJC [(746, tabO ps)] G ?hm ?k6 ?k7 ?k8 ?k9 ?kB ?kN ?_ ?c2 ?c3 ?c4
  case hm =>
    intro p hp
    rcases List.mem_cons.mp hp with rfl | hp
    · exact ⟨J.get, .inr rfl, f7⟩
    cases hp
  case k6 => k_is
  case k7 => k_is
  case k8 => decide
  case k9 => first | exact BindsTo.of_eq rfl | exact binds_K (Gd.X (by assumption)) rfl (by k_is) rfl rfl rfl
  case kB => exact kindsX (by rfl)
  case kN => decide
  case c2 => exact rfl
  case c3 => exact rfl
  case c4 => exact rfl
  intro g L' h' tk0 cells lo mg mb F N CA X T Bz hlt Gg hLb
  have hNg : g.IsList Nm vals.toArray := by
    obtain ⟨o, ho', r⟩ := hN
    exact ⟨o, Bz.into Nm o (fun q => n7 (List.mem_singleton.mp q)) ho', r⟩
  (try dsimp only)
  (try k_fold)
  obtain ⟨o1, o2, ec, d1, d2⟩ := CellsAre.two (n := Str.ofString "heavy") (n' := Str.ofString "row") (c := L' + 2) (c' := L' + 1) CA
  subst ec
  clear CA
  have dd1 : o1.data = .cell none := d1
  have dd2 : o2.data = .cell none := d2
  clear d1 d2
  have F1 : Fr g L' h' (fun y => if y = Str.ofString "numbers" then some (.ref Nm) else none) := F
  clear F
  have N1 : News g L' h' [(L' + 2, o1), (L' + 1, o2), (746, tabO ps)] := N
  clear N
  iterate 2 walk1
  refine LCg.ListComp_U F1 (by with_unfolding_all rfl) (by decide) (by rfl) (by decide) (by rfl) ?_
  walk1
  refine LCg.CompSrc.base rfl F1 N1 hNg (by rw [List.size_toArray, hl]; exact Nat.le_trans hlen (by decide)) fun gg => ?_
  refine rest_inv (fun i ys nw => ∃ th, nw = th ++ [(L' + 2, o1), (L' + 1, o2), (746, tabO ps)] ∧ RowI w ns i ys th ∧ ∀ p ∈ th, ∀ q ∈ [(L' + 2, o1), (L' + 1, o2), (746, tabO ps)], p.1 ≠ q.1) ?_ ?_ _ 0 [] _ (Nat.zero_add _) ⟨[], rfl, RowI.nil, fun p hp => nomatch hp⟩
  · intro i ys news v I oI C oC D m₂ hp tk' E' hin hinv hP hC hm2 F₃ N₃ off ne
    obtain ⟨th, rfl, hR, hap⟩ := hinv
    obtain ⟨n, t, rfl, hn⟩ := ints_at hi (by simpa using hP)
    have hnb := hb n (List.mem_of_getElem? hn)
    have hgd : ns.getD i 0 = n := getD_some hn
    iterate 8 walk1
    refine wpAny_call (codeAny_le (thing_any (Gg.push F₃ hLb rfl rfl) hnb.1 hnb.2 fun s' v th' M hv hh hfr => ?_) rfl (Nat.le_of_ble_eq_true rfl) rfl rfl (Nat.le_of_ble_eq_true rfl))
    obtain ⟨cell, hcell, hR'⟩ := hR.snoc hv (by rw [hgd]; exact hh)
    refine comp_cell (cell := cell) M rfl F₃ N₃ off hcell hfr (.inl hNg) ⟨cell ++ th, (List.append_assoc _ _ _).symm, hR', fun p hp q hq => ?_⟩
    rcases List.mem_append.mp hp with hp | hp
    · intro z
      have z1 := hfr p.1 (hcell p hp).1
      rw [z] at z1
      rw [(N₃ q (.tail _ (.tail _ (.tail _ (List.mem_append_right _ hq))))).1] at z1
      cases z1
    · exact hap p hp q hq
  · intro ys news hinv
    obtain ⟨th, rfl, hR, hap⟩ := hinv
    intro RR hR2 tkR FA NA offR
    have l7 : @LT.lt Nat _ 746 L' := Nat.lt_of_lt_of_le (by decide) hLb
    have mem : ∀ p ∈ [(L' + 1, o2), (L' + 2, o1), (746, tabO ps), (RR, LCg.lst ys)] ++ th, p ∈ (RR, LCg.lst ys) :: (th ++ [(L' + 2, o1), (L' + 1, o2), (746, tabO ps)]) := fun p hp => by
      rcases List.mem_append.mp hp with hp | hp
      · rcases List.mem_cons.mp hp with rfl | hp
        · exact .tail _ (List.mem_append_right _ (.tail _ (.head _)))
        rcases List.mem_cons.mp hp with rfl | hp
        · exact .tail _ (List.mem_append_right _ (.head _))
        rcases List.mem_cons.mp hp with rfl | hp
        · exact .tail _ (List.mem_append_right _ (.tail _ (.tail _ (.head _))))
        rw [List.mem_singleton.mp hp]
        exact .head _
      · exact .tail _ (List.mem_append_left _ hp)
    have offR' := off1_mem offR
    have N2 : News g L' hR2 ([(L' + 1, o2), (L' + 2, o1), (746, tabO ps), (RR, LCg.lst ys)] ++ th) := fun p hp => NA p (mem p hp)
    have r1 : RR ≠ L' + 1 := fun q => offR' _ (List.mem_append_right _ (.tail _ (.head _))) q.symm
    have r2 : RR ≠ L' + 2 := fun q => offR' _ (List.mem_append_right _ (.head _)) q.symm
    have r7 : RR ≠ 746 := fun q => offR' _ (List.mem_append_right _ (.tail _ (.tail _ (.head _)))) q.symm
    clear NA F1 N1 mem
    refine store_cell FA N2 (fun p hp => ?_) (by rfl) dd2 (fun h3 oR F3 N3 dR => ?_)
    · rcases List.mem_cons.mp hp with rfl | hp
      · exact Nat.ne_of_gt (Nat.lt_succ_self (L' + 1))
      rcases List.mem_cons.mp hp with rfl | hp
      · exact Nat.ne_of_lt (Nat.lt_trans l7 (Nat.lt_succ_self _))
      rcases List.mem_cons.mp hp with rfl | hp
      · exact r1
      · exact hap p hp _ (.tail _ (.head _))
    clear FA N2
    dsimp only
    iterate 2 walk1
    refine LCg.ListComp_U F3 (by with_unfolding_all rfl) (by decide) (by rfl) (by decide) (by rfl) ?_
    walk1
    refine LCg.CompSrc.base rfl F3 N3 hNg (by rw [List.size_toArray, hl]; exact Nat.le_trans hlen (by decide)) fun g2 => ?_
    refine rest_inv (fun i zs nw => nw = (L' + 1, oR) :: ([(L' + 2, o1), (746, tabO ps), (RR, LCg.lst ys)] ++ th) ∧ zs = (ns.take i).map fun n => Value.bool (decide (n.fmod 6 = 5))) ?_ ?_ _ 0 [] _ (Nat.zero_add _) ⟨rfl, by simp⟩
    · intro i zs news v I oI C oC D m₂ hp tk' E' hin hinv hP hC hm2 F₅ N₅ off ne
      obtain ⟨rfl, rfl⟩ := hinv
      obtain ⟨n, t, rfl, hn⟩ := ints_at hi (by simpa using hP)
      k_steps
      exact LCg.CompEnd.intro F₅ N₅ _ (fun p hp => hp) off (.inl hNg) ⟨rfl, by rw [List.take_succ, hn, List.map_append]; rfl⟩
    · intro zs news hinv
      obtain ⟨rfl, rfl⟩ := hinv
      intro HV hV2 tkV FA NA offV
      have offV' := off1_mem offV
      have ez : (ns.take vals.toArray.size).map (fun n => Value.bool (decide (n.fmod 6 = 5))) = ns.map fun n => Value.bool (decide (n.fmod 6 = 5)) := by
        rw [List.take_of_length_le (by rw [List.size_toArray, hl]; exact Nat.le_refl _)]
      rw [ez] at NA
      have v1 : HV ≠ L' + 1 := fun q => offV' _ (.head _) q.symm
      have v2 : HV ≠ L' + 2 := fun q => offV' _ (.tail _ (.head _)) q.symm
      have v7 : HV ≠ 746 := fun q => offV' _ (.tail _ (.tail _ (.head _))) q.symm
      have vR : HV ≠ RR := fun q => offV' _ (.tail _ (.tail _ (.tail _ (.head _)))) q.symm
      have vT : ∀ p ∈ th, p.1 ≠ HV := fun p hp => offV' p (.tail _ (.tail _ (.tail _ (.tail _ hp))))
      have N4 : News g L' hV2 ([(L' + 2, o1), (L' + 1, oR), (746, tabO ps), (RR, LCg.lst ys), (HV, LCg.lst (ns.map fun n => Value.bool (decide (n.fmod 6 = 5))))] ++ th) := fun p hp => by
        rcases List.mem_cons.mp hp with rfl | hp
        · exact NA _ (.tail _ (.tail _ (.head _)))
        rcases List.mem_cons.mp hp with rfl | hp
        · exact NA _ (.tail _ (.head _))
        rcases List.mem_cons.mp hp with rfl | hp
        · exact NA _ (.tail _ (.tail _ (.tail _ (.head _))))
        rcases List.mem_cons.mp hp with rfl | hp
        · exact NA _ (.tail _ (.tail _ (.tail _ (.tail _ (.head _)))))
        rcases List.mem_cons.mp hp with rfl | hp
        · exact NA _ (.head _)
        · exact NA _ (.tail _ (.tail _ (.tail _ (.tail _ (.tail _ hp)))))
      clear NA F3 N3
      refine store_cell FA N4 (fun p hp => ?_) (by rfl) dd1 (fun h5 oH F5 N5 dH => ?_)
      · rcases List.mem_cons.mp hp with rfl | hp
        · exact Nat.ne_of_lt (Nat.lt_succ_self (L' + 1))
        rcases List.mem_cons.mp hp with rfl | hp
        · exact Nat.ne_of_lt (Nat.lt_trans l7 (Nat.lt_trans (Nat.lt_succ_self _) (Nat.lt_succ_self _)))
        rcases List.mem_cons.mp hp with rfl | hp
        · exact r2
        rcases List.mem_cons.mp hp with rfl | hp
        · exact v2
        · exact hap p hp _ (.head _)
      clear FA N4
      dsimp only
      walk1
      refine LCg.Assign_ListComp_U F5 rfl (by with_unfolding_all rfl) (by with_unfolding_all rfl) (by decide) (by rfl) (by decide) (by rfl) (by rfl) (by rfl) ?_
      walk1
      obtain ⟨ths, e1, e2, e3, e4, e5⟩ := hR.ex
      have ey : vals.toArray.size = ns.length := by rw [List.size_toArray, hl]
      refine LCg.CompSrc.ledger rfl F5 N5 (.tail _ (.tail _ (.tail _ (.head _)))) (by rw [List.size_toArray, e2, ey]; exact Nat.le_trans hlen (by decide)) fun g3 => ?_
      refine rest_inv (fun i zs nw => nw = (L' + 2, oH) :: ([(L' + 1, oR), (746, tabO ps), (RR, LCg.lst ys), (HV, LCg.lst (ns.map fun n => Value.bool (decide (n.fmod 6 = 5))))] ++ th) ∧ StrsAre zs ((ths.take i).map rp)) ?_ ?_ _ 0 [] _ (Nat.zero_add _) ⟨rfl, .nil⟩
      · intro i zs news v I oI C oC D m₂ hp tk' E' hin hinv hP hC hm2 F₅ N₅ off ne
        obtain ⟨rfl, hz⟩ := hinv
        have hP' : ys[i]? = some v := by simpa using hP
        have hit : i < ths.length := by rw [e1]; rw [List.size_toArray, e2] at hin; exact hin
        have ht : ths[i]? = some (ths.getD i (.nul 0)) := by simp [List.getD_eq_getElem?_getD, hit]
        have tg := e4 hp (fun p q => (N₅ p (.tail _ (.tail _ (.tail _ (.tail _ (.tail _ (.tail _ (.tail _ (.tail _ q))))))))).1) i v _ hP' ht
        iterate 7 walk1
        refine repr_th tg.tv tg.k6 tg.wd rfl (Nat.le_of_ble_eq_true rfl) fun h6 t6 k6 up6 => ?_
        refine LCg.CompEnd.intro (F₅.keeps up6) (N₅.grown up6) _ (fun p hp => hp) off (.inr ⟨_, .tail _ (.tail _ (.tail _ (.head _))), rfl, _, rfl⟩) ⟨rfl, ?_⟩
        rw [List.take_succ, ht, List.map_append]
        exact kct_snoc hz
      · intro zs news hinv
        obtain ⟨rfl, hz⟩ := hinv
        intro SN hS2 tkS F6 N6 offS
        have ethn : (ths.take ys.toArray.size) = ths := List.take_of_length_le (by rw [List.size_toArray, e1, e2]; exact Nat.le_refl _)
        rw [ethn] at hz
        clear F5 N5
        dsimp only
        iterate 12 walk1
        clear hb hi hNg hN hR hlt
        have X6 := Gg.X.keeps F6.keep
        refine iter_list (items := ys.toArray) ⟨_, (N6 _ (.tail _ (.tail _ (.tail _ (.tail _ (.head _)))))).1, rfl, _, rfl⟩ ?_
        dsimp only
        have up : ∀ b o, hS2.get? b = some o → (hS2.push { cls := .type "list_iterator", data := .fields #[.ref RR, .int 0 0] }).get? b = some o := fun b o e => Heap.get?_push_of_some _ e
        have F7 := F6.keeps up
        have N7 := N6.grown up
        have IL : L' < hS2.objs.size := frLt F6
        have lt6 := fun p hp => Heap.lt_size (N6 p hp).1
        have GL6 := fun (env : Env) (hf : env.frame = some L') (hk : env.scope.kind = .function) => Gg.push F6 hLb (env := env) hf hk
        have nfr := fun (env : Env) (hf : env.frame = some L') => News.fr Gg N7 (env := env) hf
        have mT : ∀ p ∈ th, p ∈ (SN, LCg.lst zs) :: (L' + 2, oH) :: ([(L' + 1, oR), (746, tabO ps), (RR, LCg.lst ys), (HV, LCg.lst (ns.map fun n => Value.bool (decide (n.fmod 6 = 5))))] ++ th) := fun p hp => .tail _ (.tail _ (.tail _ (.tail _ (.tail _ (.tail _ hp)))))
        have rowS := row_of (h := hS2.push { cls := .type "list_iterator", data := .fields #[.ref RR, .int 0 0] }) (e2.trans e1.symm) e4 (fun p hp => (N7 p (mT p hp)).1)
        have tw := rowS.wd
        have tk6 := rowS.hv
        have mR : (RR, LCg.lst ys) ∈ (SN, LCg.lst zs) :: (L' + 2, oH) :: ([(L' + 1, oR), (746, tabO ps), (RR, LCg.lst ys), (HV, LCg.lst (ns.map fun n => Value.bool (decide (n.fmod 6 = 5))))] ++ th) := .tail _ (.tail _ (.tail _ (.tail _ (.head _))))
        have m7 : (746, tabO ps) ∈ (SN, LCg.lst zs) :: (L' + 2, oH) :: ([(L' + 1, oR), (746, tabO ps), (RR, LCg.lst ys), (HV, LCg.lst (ns.map fun n => Value.bool (decide (n.fmod 6 = 5))))] ++ th) := .tail _ (.tail _ (.tail _ (.head _)))
        have J7 : Jc (hS2.push { cls := .type "list_iterator", data := .fields #[.ref RR, .int 0 0] }) ps := J.move G.X (Gg.X.keeps F7.keep) (N7 _ m7).1 (fun o e => F7.keep 4 o (Bz.into 4 o (fun q => by cases List.mem_singleton.mp q) e))
        have big6 : 815 ≤ hS2.objs.size := Nat.le_of_lt (Nat.lt_of_le_of_lt hLb IL)
        have GL7 := fun (env : Env) (hf : env.frame = some L') (hk : env.scope.kind = .function) => Gg.push F7 hLb (env := env) hf hk
        iterate 2 walk1
        refine wpAny_call (codeAny_le (told_line (l := RR) (vs := ys.toArray) (ths := ths) (ps := ps) ?tG ?t1 ?t2 ?t3 ?tn ?tJ ?t7 ?t8 ?tI ?t9 ?tv ?tl ?tf fun s8 P TT zs2 c8 c9 t8 M8 jc8 hP8 hT8 hz8 fP8 fT8 => ?tQ) rfl (Nat.le_of_ble_eq_true rfl) rfl rfl (Nat.le_of_ble_eq_true rfl))
        case t1 => exact ⟨.inl ⟨Nat.zero_le _, _, Heap.get?_push_size _ rfl, rfl, rfl⟩⟩
        case t2 => exact ⟨_, (N7 _ mR).1, rfl, _, rfl⟩
        case t3 => exact rowS
        case tJ => exact J7
        case t8 => exact big6
        case t9 => exact Nat.ne_of_lt (lt6 _ mR)
        case tG => exact GL7 _ rfl rfl
        case tn => rw [List.size_toArray, e2, ey]; omega
        case t7 => exact nfr _ rfl _ m7
        case tI => exact nofr (GL6 _ rfl rfl) _ (Nat.le_refl _)
        case tv =>
          intro k q
          obtain ⟨o, ho⟩ := e5 k _ (by simpa using q)
          exact absurd (lt6 _ (mT _ ho)) (Nat.lt_irrefl _)
        case tl => exact nfr _ rfl _ mR
        case tf =>
          intro k b q
          obtain ⟨o, ho⟩ := e5 k b (by simpa using q)
          exact nfr _ rfl _ (mT _ ho)
        dsimp only
        have offS' := off1_mem offS
        have nS7 : SN ≠ 746 := fun q => offS' _ (.tail _ (.tail _ (.head _))) q.symm
        have wII : ∀ b, b ≠ 746 → b ≠ hS2.objs.size → b ∉ ([746, hS2.objs.size] : List Addr) := fun b q1 q2 q => by
          rcases List.mem_cons.mp q with q | q
          · exact q1 q
          · exact q2 (List.mem_singleton.mp q)
        have wL8 : L' ∉ ([746, hS2.objs.size] : List Addr) := wII _ (Nat.ne_of_gt l7) (Nat.ne_of_lt IL)
        have wg8 : ∀ b ∈ ([746, hS2.objs.size] : List Addr), g.get? b = none := fun b q => by
          rcases List.mem_cons.mp q with q | q
          · rw [q]; exact (N7 _ m7).2.2
          · rw [List.mem_singleton.mp q]; exact next_is_new F6
        obtain ⟨g8, G8, F8, T8, B8, n8⟩ := rebase Gg F7 rfl M8 wL8 wg8 T (Bs.bt Bz)
        obtain ⟨ps8, J8⟩ := jc8
        have j8 : J4 w s s8.heap ps8 := J4.of J G8 B8 F8 J8
        have K8 : ∀ p ∈ [(L' + 2, oH), (L' + 1, oR), (RR, LCg.lst ys), (HV, LCg.lst (ns.map fun n => Value.bool (decide (n.fmod 6 = 5)))), (SN, LCg.lst zs)] ++ th, p ∈ (SN, LCg.lst zs) :: (L' + 2, oH) :: ([(L' + 1, oR), (746, tabO ps), (RR, LCg.lst ys), (HV, LCg.lst (ns.map fun n => Value.bool (decide (n.fmod 6 = 5))))] ++ th) ∧ p.1 ≠ 746 := fun p hp => by
          rcases List.mem_cons.mp hp with rfl | hp
          · exact ⟨.tail _ (.head _), Nat.ne_of_gt (Nat.lt_trans l7 (Nat.lt_trans (Nat.lt_succ_self _) (Nat.lt_succ_self _)))⟩
          rcases List.mem_cons.mp hp with rfl | hp
          · exact ⟨.tail _ (.tail _ (.head _)), Nat.ne_of_gt (Nat.lt_trans l7 (Nat.lt_succ_self _))⟩
          rcases List.mem_cons.mp hp with rfl | hp
          · exact ⟨mR, r7⟩
          rcases List.mem_cons.mp hp with rfl | hp
          · exact ⟨.tail _ (.tail _ (.tail _ (.tail _ (.tail _ (.head _))))), v7⟩
          rcases List.mem_cons.mp hp with rfl | hp
          · exact ⟨.head _, nS7⟩
          · exact ⟨mT p hp, hap p hp _ (.tail _ (.tail _ (.head _)))⟩
        have NK := News.rebase (fun p hp => N7 p (K8 p hp).1) Gg rfl M8 n8 (fun p hp => wII _ (K8 p hp).2 (Nat.ne_of_lt (lt6 p (K8 p hp).1)))
        have fresh8 : ∀ b o, s8.heap.get? b = some o → (hS2.push { cls := .type "list_iterator", data := .fields #[.ref RR, .int 0 0] }).get? b = none → s8.heap.get? b = some o ∧ b ≠ L' ∧ g8.get? b = none := fun b o e q => ⟨e, (fun z => by
          obtain ⟨oL, _, _, hoL, _⟩ := F7.ns
          rw [z, hoL] at q
          cases q), n8 _ (kts_none F7.keep q)⟩
        have N8 : News g8 L' s8.heap ((P, { cls := .type "tuple", data := .seq #[.ref TT, .str (Str.join cSp (outL ths (due ths ths.length).1 (ths.length - (due ths ths.length).1))) t8] c8 }) :: (TT, lstO zs2 c9) :: (746, tabO ps8) :: ([(L' + 2, oH), (L' + 1, oR), (RR, LCg.lst ys), (HV, LCg.lst (ns.map fun n => Value.bool (decide (n.fmod 6 = 5)))), (SN, LCg.lst zs)] ++ th)) := fun p hp => by
          rcases List.mem_cons.mp hp with rfl | hp
          · exact fresh8 _ _ hP8 fP8
          rcases List.mem_cons.mp hp with rfl | hp
          · exact fresh8 _ _ hT8 fT8
          rcases List.mem_cons.mp hp with rfl | hp
          · exact ⟨J8.get, (N7 _ m7).2.1, n8 _ (N7 _ m7).2.2⟩
          · exact NK p hp
        have X8 := G8.X
        have bl8 : T8 = T8 := rfl
        clear bl8 fresh8 NK N7 N6 F7 F6 mR m7 mT rowS J7 lt6 nfr GL7 GL6 X6 X Gg Bz T K8 wg8
        iterate 20 walk1
        rename Fr _ _ _ _ => F9
        rename News _ _ _ _ => N9
        have eH := heavy_map (by rw [e1, ey]) (fun k hk => e3 k (by rw [ey]; exact hk))
        refine wpAny_call (codeAny_le (due_line (l := RR) (hv := HV) (vs := ys.toArray) (ths := ths) ?dG ?d1 ?d2 ?d3 ?dn fun s9 P2 T2 LF zs3 k1 k2 k3 M9 hP9 hT9 hz9 hL9 fP9 fT9 fL9 => ?dQ) rfl (Nat.le_of_ble_eq_true rfl) rfl rfl (Nat.le_of_ble_eq_true rfl))
        case dG => exact G8.push F9 hLb rfl rfl
        case d1 => exact ⟨_, (N9 _ (.tail _ (.tail _ (.tail _ (.tail _ (.tail _ (.head _))))))).1, rfl, _, rfl⟩
        case d2 => exact row_of (e2.trans e1.symm) e4 fun p hp => (N9 p (.tail _ (.tail _ (.tail _ (.tail _ (.tail _ (.tail _ (.tail _ (.tail _ hp))))))))).1
        case d3 => exact ⟨_, (N9 _ (.tail _ (.tail _ (.tail _ (.tail _ (.tail _ (.tail _ (.head _)))))))).1, rfl, _, by rw [eH]⟩
        case dn => rw [List.size_toArray, e2, ey]; omega
        dsimp only
        have F10 := Fr.mvd F9 M9 (fun q => nomatch q) (fun b q => nomatch q)
        have N10 := News.mvd N9 M9 (fun p _ q => nomatch q)
        have fr9 := fresh_in (h' := s9.heap) F9 (fun b e => e)
        have N11 := news_cons (fr9 _ _ hP9 fP9) (news_cons (fr9 _ _ hT9 fT9) (news_cons (fr9 _ _ hL9 fL9) N10))
        have hg9 := M9.gens
        have ho9 := M9.os
        have hr9 := M9.dr
        clear N10 fr9 F9 N9 hP9 hT9 hL9 fP9 fT9 fL9
        iterate 10 walk1
        rename Fr _ _ _ _ => F12
        rename News _ _ _ _ => N12
        generalize hd0 : (due ths ths.length).1 = d at *
        generalize hln : Str.join cSp (outL ths d (ths.length - d)) = line at *
        obtain ⟨base, ebs, N13⟩ := name_base N12
        have mTh : ∀ p ∈ th, p ∈ base := fun p hp => by rw [ebs]; exact .tail _ (.tail _ (.tail _ (.tail _ (.tail _ (.tail _ (.tail _ (.tail _ (.tail _ (.tail _ (.tail _ hp))))))))))
        have mLF : (LF, lstO (ys.drop d).toArray k3) ∈ base := by rw [ebs]; exact .tail _ (.tail _ (.head _))
        refine LCg.Assign_ListComp_U F12 rfl (by with_unfolding_all rfl) (by with_unfolding_all rfl) (by decide) (by rfl) (by decide) (by rfl) (by rfl) (by rfl) ?_
        walk1
        refine LCg.CompSrc.ledger rfl F12 N13 mLF (by rw [List.size_toArray, List.length_drop, e2, ey]; exact Nat.le_trans (Nat.sub_le _ _) (Nat.le_trans hlen (by decide))) fun g9 => ?_
        refine rest_inv (fun i ws nw => nw = base ∧ StrsAre ws (((ths.drop d).take i).map Th.word)) ?_ ?_ _ 0 [] _ (Nat.zero_add _) ⟨rfl, .nil⟩
        · intro i ws news v I oI C oC D m₂ hp tk' E' hin hinv hP hC hm2 F₅ N₅ off ne
          obtain ⟨rfl, hw⟩ := hinv
          have hP' : (ys.drop d)[i]? = some v := by simpa using hP
          have hit : i < (ths.drop d).length := by
            rw [List.length_drop, e1]; rw [List.size_toArray, List.length_drop, e2] at hin; exact hin
          have ht : (ths.drop d)[i]? = some ((ths.drop d).getD i (.nul 0)) := by rw [List.getD_eq_getElem?_getD, List.getElem?_eq_getElem hit]; rfl
          have tg := e4 hp (fun p q => (N₅ p (.tail _ (.tail _ (.tail _ (mTh p q))))).1) (d + i) v _ (drop_at hP') (drop_at ht)
          have fin : ∀ (y : Str) (u : Tok), y = ((ths.drop d).getD i (.nul 0)).word → StrsAre (ws ++ [.str y u]) (((ths.drop d).take (i + 1)).map Th.word) := fun y u e => by
            rw [List.take_succ, ht, List.map_append, e]
            exact kct_snoc hw
          generalize (ths.drop d).getD i (.nul 0) = t0 at tg fin
          cases t0 with
          | str x =>
            obtain ⟨u, rfl⟩ := (tg.tv : ∃ t, v = .str x t)
            k_steps
            exact LCg.CompEnd.intro F₅ N₅ _ (fun p hp => hp) off (.inr ⟨_, mLF, rfl, _, rfl⟩) ⟨rfl, fin _ _ rfl⟩
          | nul k =>
            k_steps
            refine isstr_nul tg.tv fun tk => ?_
            k_steps
            exact LCg.CompEnd.intro F₅ N₅ _ (fun p hp => hp) off (.inr ⟨_, mLF, rfl, _, rfl⟩) ⟨rfl, fin _ _ rfl⟩
          | hvy k =>
            k_steps
            refine isstr_hvy tg.tv fun tk => ?_
            k_steps
            exact LCg.CompEnd.intro F₅ N₅ _ (fun p hp => hp) off (.inr ⟨_, mLF, rfl, _, rfl⟩) ⟨rfl, fin _ _ rfl⟩
        · intro ws news hinv
          obtain ⟨rfl, hw⟩ := hinv
          intro WD hW2 tkW F14 N14 offW
          have ewd : ((ths.drop d).take (ys.drop d).toArray.size) = ths.drop d := List.take_of_length_le (by rw [List.size_toArray, List.length_drop, List.length_drop, e1, e2]; exact Nat.le_refl _)
          rw [ewd] at hw
          dsimp only
          iterate 6 walk1
          have mTT : (TT, lstO zs2 c9) ∈ news := by rw [ebs]; exact .tail _ (.tail _ (.tail _ (.tail _ (.head _))))
          have mT2 : (T2, lstO zs3 k2) ∈ news := by rw [ebs]; exact .tail _ (.head _)
          refine ne_same (xs := zs2.toList) (ys := zs3.toList) ⟨_, (N14 _ (.tail _ mTT)).1, rfl, _, rfl⟩ ⟨_, (N14 _ (.tail _ mT2)).1, rfl, _, rfl⟩ hz8 hz9 (due_ok (rps_ok tw tk6) _) (Nat.le_of_ble_eq_true rfl) ?_
          iterate 10 walk1
          have mL2 : (LF, lstO (ys.drop d).toArray k3) ∈ news := by rw [ebs]; exact .tail _ (.tail _ (.head _))
          have mTn : ∀ p ∈ th, p ∈ news := fun p hp => by rw [ebs]; exact .tail _ (.tail _ (.tail _ (.tail _ (.tail _ (.tail _ (.tail _ (.tail _ (.tail _ (.tail _ (.tail _ hp))))))))))
          have lt14 := frLt F14
          refine LCg.ListComp_U F14 (by with_unfolding_all rfl) (by decide) (by rfl) (by decide) (by rfl) ?_
          walk1
          refine LCg.CompSrc.ledger rfl F14 N14 (.tail _ mL2) (by rw [List.size_toArray, List.length_drop, e2, ey]; exact Nat.le_trans (Nat.sub_le _ _) (Nat.le_trans hlen (by decide))) fun g9 => ?_
          generalize hbs : (WD, LCg.lst ws) :: news = base at *
          have mB : (LF, lstO (ys.drop d).toArray k3) ∈ base := by rw [← hbs]; exact .tail _ mL2
          have mTB : ∀ p ∈ th, p ∈ base := fun p hp => by rw [← hbs]; exact .tail _ (mTn p hp)
          refine rest_inv (fun i ws nw => nw = base ∧ StrsAre ws (((ths.drop d).take i).map spW)) ?_ ?_ _ 0 [] _ (Nat.zero_add _) ⟨rfl, .nil⟩
          · intro i ws nw v I oI C oC D m₂ hp tk' E' hin hinv hP hC hm2 F₅ N₅ off ne
            obtain ⟨e6, hw⟩ := hinv
            subst e6
            have hP' : (ys.drop d)[i]? = some v := by simpa using hP
            have hit : i < (ths.drop d).length := by
              rw [List.length_drop, e1]; rw [List.size_toArray, List.length_drop, e2] at hin; exact hin
            have ht : (ths.drop d)[i]? = some ((ths.drop d).getD i (.nul 0)) := by rw [List.getD_eq_getElem?_getD, List.getElem?_eq_getElem hit]; rfl
            have tg := e4 hp (fun p q => (N₅ p (.tail _ (.tail _ (.tail _ (mTB p q))))).1) (d + i) v _ (drop_at hP') (drop_at ht)
            have hdl : ((ths.drop d).getD i (.nul 0)).heavy = false := by
              have := due_tail ths.length (d + i) (by rw [hd0]; exact Nat.le_add_right _ _) (by rw [List.length_drop] at hit; omega)
              rw [List.getD_eq_getElem?_getD] at this ⊢
              rw [List.getElem?_drop]
              exact this
            iterate 8 walk1
            refine wpAny_call (codeAny_le (spelled_any (G8.push F₅ hLb rfl rfl) tg hdl fun s' t' M => ?_) rfl (Nat.le_of_ble_eq_true rfl) rfl rfl (Nat.le_of_ble_eq_true rfl))
            exact comp_cell (cell := []) M rfl F₅ N₅ off (fun p hp => nomatch hp) (fun a e => by cases e) (.inr ⟨_, mB, rfl, _, rfl⟩) ⟨rfl, by rw [List.take_succ, ht, List.map_append]; exact kct_snoc hw⟩
          · intro spl nw hinv
            obtain ⟨e6, hsp⟩ := hinv
            subst e6
            intro SP hP2 tkP F15 N15 offP
            rw [ewd] at hsp
            dsimp only
            walk1
            refine join_named (items := spl.toArray) ⟨LCg.lst spl, (N15 _ (.head _)).1, rfl, _, rfl⟩ (by simpa using hsp) (join_fits (wd_drop tw) (by rw [List.length_drop, e1, ey]; omega)) (drop_line hln) fun t' k => ?_
            refine ne_line ?_
            iterate 16 walk1
            obtain ⟨K, hK⟩ : ∃ K, K = [(RR, LCg.lst ys), (HV, LCg.lst (ns.map fun n => Value.bool (decide (n.fmod 6 = 5)))), (SN, LCg.lst zs), (WD, LCg.lst ws)] ++ th := ⟨_, rfl⟩
            have N17 : News g8 L' hP2 ((746, tabO ps8) :: (L' + 2, oH) :: (L' + 1, oR) :: K) := fun p hp => N15 p (.tail _ (by
              rw [← hbs, ebs]
              rcases List.mem_cons.mp hp with rfl | hp
              · exact .tail _ (.tail _ (.tail _ (.tail _ (.tail _ (.tail _ (.head _))))))
              rcases List.mem_cons.mp hp with rfl | hp
              · exact .tail _ (.tail _ (.tail _ (.tail _ (.tail _ (.tail _ (.tail _ (.head _)))))))
              rcases List.mem_cons.mp hp with rfl | hp
              · exact .tail _ (.tail _ (.tail _ (.tail _ (.tail _ (.tail _ (.tail _ (.tail _ (.head _))))))))
              rw [hK] at hp
              rcases List.mem_cons.mp hp with rfl | hp
              · exact .tail _ (.tail _ (.tail _ (.tail _ (.tail _ (.tail _ (.tail _ (.tail _ (.tail _ (.head _)))))))))
              rcases List.mem_cons.mp hp with rfl | hp
              · exact .tail _ (.tail _ (.tail _ (.tail _ (.tail _ (.tail _ (.tail _ (.tail _ (.tail _ (.tail _ (.head _))))))))))
              rcases List.mem_cons.mp hp with rfl | hp
              · exact .tail _ (.tail _ (.tail _ (.tail _ (.tail _ (.tail _ (.tail _ (.tail _ (.tail _ (.tail _ (.tail _ (.head _)))))))))))
              rcases List.mem_cons.mp hp with rfl | hp
              · exact .head _
              · exact .tail _ (.tail _ (.tail _ (.tail _ (.tail _ (.tail _ (.tail _ (.tail _ (.tail _ (.tail _ (.tail _ (.tail _ hp)))))))))))))
            have hK7 : ∀ p ∈ (L' + 2, oH) :: (L' + 1, oR) :: K, p.1 ≠ 746 := fun p hp => by
              rcases List.mem_cons.mp hp with rfl | hp
              · exact Nat.ne_of_gt (Nat.lt_trans (Nat.lt_of_lt_of_le (by decide) hLb) (Nat.lt_trans (Nat.lt_succ_self _) (Nat.lt_succ_self _)))
              rcases List.mem_cons.mp hp with rfl | hp
              · exact Nat.ne_of_gt (Nat.lt_trans (Nat.lt_of_lt_of_le (by decide) hLb) (Nat.lt_succ_self _))
              rw [hK] at hp
              rcases List.mem_cons.mp hp with rfl | hp
              · exact r7
              rcases List.mem_cons.mp hp with rfl | hp
              · exact v7
              rcases List.mem_cons.mp hp with rfl | hp
              · exact nS7
              rcases List.mem_cons.mp hp with rfl | hp
              · intro q
                refine off1_mem offW (746, tabO ps8) ?_ q.symm
                rw [ebs]
                exact .tail _ (.tail _ (.tail _ (.tail _ (.tail _ (.head _)))))
              · exact hap p hp _ (.tail _ (.tail _ (.head _)))
            have mRR : (RR, LCg.lst ys) ∈ K := by rw [hK]; exact .head _
            have mHV : (HV, LCg.lst (ns.map fun n => Value.bool (decide (n.fmod 6 = 5)))) ∈ K := by rw [hK]; exact .tail _ (.head _)
            have mSN : (SN, LCg.lst zs) ∈ K := by rw [hK]; exact .tail _ (.tail _ (.head _))
            have mWD : (WD, LCg.lst ws) ∈ K := by rw [hK]; exact .tail _ (.tail _ (.tail _ (.head _)))
            have mT : ∀ p ∈ th, p ∈ K := fun p hp => by rw [hK]; exact .tail _ (.tail _ (.tail _ (.tail _ hp)))
            rw [eH] at mHV
            have hgA : Gx s.gens s9.gens := M8.gens.trans (gx_eq hg9)
            have hoA : s9.os = s.os := ho9.trans M8.os
            have hrA : s9.drawn = s.drawn := hr9.trans M8.dr
            clear offR offR' offV offV' hK hbs ebs mTh mLF F12 N12 N13 F14 N14 mTT mT2 mL2 mTn mB mTB N15 hT8 hz8 hz9 M8 M9 wII wL8 fP8 fT8 offS offS' offW offP v1 v2 v7 vR vT r1 r2 r7 nS7 n8 up big6 ez eH hap hg9 ho9 hr9 lt14 J8 hP8 hsp IL dd1 dd2
            refine wpAny_call (codeAny_le (sp_f (toks := (ths.drop d).map Th.word) ?sG ?s1 ?s2 ?s3 fun s10 A1 vs1 c10 M10 hv10 hA10 fA10 => ?sQ) rfl (Nat.le_of_ble_eq_true rfl) rfl rfl (Nat.le_of_ble_eq_true rfl))
            case sG => exact G8.push F15 hLb rfl rfl
            case s1 => exact (line_ok hln tw (by rw [e1, ey]; exact hlen)).1
            case s2 => exact (line_ok hln tw (by rw [e1, ey]; exact hlen)).2.1
            case s3 => exact (line_ok hln tw (by rw [e1, ey]; exact hlen)).2.2
            dsimp only
            obtain ⟨g10, G10, F16, T10, B10, N18, f10⟩ := base0 G8 F15 (Ms.mx M10) T8 B8 N17 rfl
            have N19 := news_cons (f10 _ _ hA10 (none_of_le fA10)) N18
            have hgB : Gx s.gens s10.gens := hgA.trans (gx_eq M10.gens)
            have hoB : s10.os = s.os := M10.os.trans hoA
            have hrB : s10.drawn = s.drawn := M10.dr.trans hrA
            have X10 := G10.X
            clear N17 N18 F15 X8 fA10 hA10 M10 f10 hgA hoA hrA G8 T8 B8
            walk1
            refine ne_same (xs := vs1) (ys := ws) ⟨_, (N19 _ (.head _)).1, rfl, _, rfl⟩ ⟨_, (N19 _ (.tail _ (.tail _ (.tail _ (.tail _ mWD))))).1, rfl, _, rfl⟩ hv10 hw (words_ok (wd_drop tw)) (Nat.le_of_ble_eq_true rfl) ?_
            k_steps
            refine wpAny_call (codeAny_le (sp_t (toks := (ths.drop d).map Th.word) ?uG ?u1 ?u2 ?u3 fun s11 A2 vs2 c11 M11 hv11 hA11 fA11 => ?uQ) rfl (Nat.le_of_ble_eq_true rfl) rfl rfl (Nat.le_of_ble_eq_true rfl))
            case uG => exact G10.push F16 hLb rfl rfl
            case u1 => exact (line_ok hln tw (by rw [e1, ey]; exact hlen)).1
            case u2 => exact (line_ok hln tw (by rw [e1, ey]; exact hlen)).2.1
            case u3 => exact (line_ok hln tw (by rw [e1, ey]; exact hlen)).2.2
            dsimp only
            have N20 : News g10 L' s10.heap ((746, tabO ps8) :: (L' + 2, oH) :: (L' + 1, oR) :: K) := fun p hp => N19 p (.tail _ hp)
            obtain ⟨g11, G11, F17, T11, B11, N21, f11⟩ := base0 G10 F16 (Ms.mx M11) T10 B10 N20 rfl
            have N22 := news_cons (f11 _ _ hA11 (none_of_le fA11)) N21
            have hgC : Gx s.gens s11.gens := hgB.trans (gx_eq M11.gens)
            have hoC : s11.os = s.os := M11.os.trans hoB
            have hrC : s11.drawn = s.drawn := M11.dr.trans hrB
            have X11 := G11.X
            clear N19 N20 N21 F16 X10 fA11 hA11 M11 f11 hgB hoB hrB G10 T10 B10 hv10
            walk1
            refine ne_same (xs := vs2) (ys := ws) ⟨_, (N22 _ (.head _)).1, rfl, _, rfl⟩ ⟨_, (N22 _ (.tail _ (.tail _ (.tail _ (.tail _ mWD))))).1, rfl, _, rfl⟩ hv11 hw (words_ok (wd_drop tw)) (Nat.le_of_ble_eq_true rfl) ?_
            have N23 : News g11 L' s11.heap ((746, tabO ps8) :: (L' + 2, oH) :: (L' + 1, oR) :: K) := fun p hp => N22 p (.tail _ hp)
            clear N22 hv11
            k_steps
            refine wpAny_call (codeAny_le (joined_whole (l := RR) (vs := ys.toArray) (ths := ths) (e0 := 0) (ps := ps8) ?jG ?j1 ?j2 ?j3 ?j4 ?j5 ?j6 ?j7 fun s12 M12 jc12 => ?jQ) rfl (Nat.le_of_ble_eq_true rfl) rfl rfl (Nat.le_of_ble_eq_true rfl))
            case jG => exact G11.push F17 hLb rfl rfl
            case j1 => exact ⟨_, (N23 _ (.tail _ (.tail _ (.tail _ mRR)))).1, rfl, _, rfl⟩
            case j2 => exact row_of (e2.trans e1.symm) e4 fun p hp => (N23 p (.tail _ (.tail _ (.tail _ (mT p hp))))).1
            case j3 => exact stop0 (by rw [e3 0 (by rw [ey]; exact (List.getElem?_eq_some_iff.mp hf5).1), List.getD_eq_getElem?_getD, hf5]; decide)
            case j4 => rw [List.size_toArray, e2, ey]; exact (List.getElem?_eq_some_iff.mp hf5).1
            case j5 => rw [List.size_toArray, e2, ey]; omega
            case j6 => exact j8.again G11 B11 F17 (N23 _ (.head _)).1
            case j7 => exact News.fr G11 N23 rfl _ (.head _)
            dsimp only
            obtain ⟨ps12, J12⟩ := jc12
            obtain ⟨g12, G12, F18, T12, B12, N24, f12⟩ := base7 G11 F17 M12 T11 B11 N23 hK7 J12 rfl
            have j12 := J4.of J G12 B12 F18 J12
            have hgD : Gx s.gens s12.gens := hgC.trans M12.gens
            have hoD : s12.os = s.os := M12.os.trans hoC
            have hrD : s12.drawn = s.drawn := M12.dr.trans hrC
            have X12 := G12.X
            clear N23 F17 X11 M12 f12 hgC hoC hrC G11 T11 B11 J12 j8
            have N25 : News g12 L' s12.heap ((746, tabO ps12) :: (L' + 2, oH) :: (L' + 1, oR) :: (RR, LCg.lst ys) :: (HV, LCg.lst (ths.map fun t => Value.bool t.heavy)) :: K) := fun p hp => by
              rcases List.mem_cons.mp hp with rfl | hp
              · exact N24 _ (.head _)
              rcases List.mem_cons.mp hp with rfl | hp
              · exact N24 _ (.tail _ (.head _))
              rcases List.mem_cons.mp hp with rfl | hp
              · exact N24 _ (.tail _ (.tail _ (.head _)))
              rcases List.mem_cons.mp hp with rfl | hp
              · exact N24 _ (.tail _ (.tail _ (.tail _ mRR)))
              rcases List.mem_cons.mp hp with rfl | hp
              · exact N24 _ (.tail _ (.tail _ (.tail _ mHV)))
              · exact N24 _ (.tail _ (.tail _ (.tail _ hp)))
            clear N24
            iterate 5 walk1
            walk1
            refine LCt.Assign_ListComp_T F18 rfl (by with_unfolding_all rfl) (by with_unfolding_all rfl) (by decide) (by rfl) (by decide) (by rfl) (by rfl) (by rfl) ?_
            iterate 10 walk1
            have esz : ys.toArray.size = ths.length := by rw [List.size_toArray, e1, e2]
            have esl : ths.length ≤ 50 := by rw [e1, ey]; exact hlen
            refine len_list (l := RR) (items := ys.toArray) ⟨_, (N25 _ (.tail _ (.tail _ (.tail _ (.head _))))).1, rfl, _, rfl⟩ (by rw [esz]; omega) ?_
            rw [esz]
            iterate 2 walk1
            rename IsRange _ _ _ _ _ _ _ _ => hr
            rename Fr _ _ _ _ => F19
            rename News _ _ _ _ => N26
            refine LCt.CompSrcT.range rfl F19 N26 hr (fin_one esl) size_one (Nat.le_trans esl (by decide)) fun gl => ?_
            clear hr
            refine rest_invT (fun i xs nw => nw = (746, tabO ps12) :: (L' + 2, oH) :: (L' + 1, oR) :: (RR, LCg.lst ys) :: (HV, LCg.lst (ths.map fun t => Value.bool t.heavy)) :: K ∧ LightI ys ths i xs) ?_ ?_ _ 0 [] _ (Nat.zero_add _) ⟨rfl, LightI.nil⟩
            · intro i xs nw v I oI C oC D m₂ hp tk' E' hin hinv hP hC hm2 F₅ N₅ off ne
              obtain ⟨e6, hx⟩ := hinv
              subst e6
              obtain ⟨tv, rfl⟩ := hP
              have hiy : i < ys.length := by rw [e2, ← e1]; exact hin
              have hv : ys[i]? = some (ys.getD i .none) := by simp [List.getD_eq_getElem?_getD, hiy]
              have ht : ths[i]? = some (ths.getD i (.nul 0)) := by simp [List.getD_eq_getElem?_getD, hin]
              iterate 5 walk1
              refine item_list (x := .bool (ths.getD i (.nul 0)).heavy) ⟨_, (N₅ _ (.tail _ (.tail _ (.tail _ (.tail _ (.tail _ (.tail _ (.tail _ (.head _)))))))) ).1, rfl, _, rfl⟩ (by omega) (by omega) (by rw [zero_add_nat]; exact bools_at hin) ?_
              cases hb : (ths.getD i (.nul 0)).heavy with
              | true =>
                iterate 2 walk1
                exact LCg.CompEnd.intro F₅ N₅ _ (fun p hp => hp) off trivial ⟨rfl, hx.skip⟩
              | false =>
                iterate 5 walk1
                refine item_list (x := ys.getD i .none) ⟨_, (N₅ _ (.tail _ (.tail _ (.tail _ (.tail _ (.tail _ (.tail _ (.head _)))))))).1, rfl, _, rfl⟩ (by omega) (by omega) (by rw [zero_add_nat]; simpa using hv) ?_
                exact LCg.CompEnd.intro F₅ N₅ _ (fun p hp => hp) off trivial ⟨rfl, hx.snoc hv ht hb⟩
            · intro xs nw hinv
              obtain ⟨e6, hx⟩ := hinv
              subst e6
              intro LI hL2 tkL F20 N27 offL
              clear F19 N26
              dsimp only
              iterate 10 walk1
              obtain ⟨lths, hL, hLn⟩ := hx.all e4 tw tk6
              have nL7 : LI ≠ 746 := fun q => off1_mem offL _ (.head _) q.symm
              have N28 : News g12 L' hL2 ((746, tabO ps12) :: (LI, LCg.lst xs) :: (L' + 2, oH) :: (L' + 1, oR) :: (RR, LCg.lst ys) :: (HV, LCg.lst (ths.map fun t => Value.bool t.heavy)) :: K) := fun p hp => by
                rcases List.mem_cons.mp hp with rfl | hp
                · exact N27 _ (.tail _ (.head _))
                rcases List.mem_cons.mp hp with rfl | hp
                · exact N27 _ (.head _)
                · exact N27 _ (.tail _ (.tail _ hp))
              have hK8 : ∀ p ∈ (LI, LCg.lst xs) :: (L' + 2, oH) :: (L' + 1, oR) :: (RR, LCg.lst ys) :: (HV, LCg.lst (ths.map fun t => Value.bool t.heavy)) :: K, p.1 ≠ 746 := fun p hp => by
                rcases List.mem_cons.mp hp with rfl | hp
                · exact nL7
                rcases List.mem_cons.mp hp with rfl | hp
                · exact hK7 _ (.head _)
                rcases List.mem_cons.mp hp with rfl | hp
                · exact hK7 _ (.tail _ (.head _))
                rcases List.mem_cons.mp hp with rfl | hp
                · exact hK7 _ (.tail _ (.tail _ mRR))
                rcases List.mem_cons.mp hp with rfl | hp
                · exact hK7 _ (.tail _ (.tail _ mHV))
                · exact hK7 _ (.tail _ (.tail _ hp))
              have thL : ∀ p ∈ th, hL2.get? p.1 = some p.2 := fun p hp => (N28 p (.tail _ (.tail _ (.tail _ (.tail _ (.tail _ (.tail _ (mT p hp)))))))).1
              have szL : lths.length = xs.toArray.size := by rw [List.size_toArray]; exact hL.len.symm
              clear N27 offL hx
              refine wpAny_call (codeAny_le (join_ls (l := LI) (vs := xs.toArray) (ths := lths) (e0 := lths.length) (ps := ps12) ?bG ?b1 ?b2 ?b3 ?b4 ?b5 ?b6 (fun _ s13 t13 M13 => ?bQ) (fun q => absurd q ?b7)) rfl (Nat.le_of_ble_eq_true rfl) rfl rfl (Nat.le_of_ble_eq_true rfl))
              case bG => exact G12.push F20 hLb rfl rfl
              case b1 => exact ⟨_, (N28 _ (.tail _ (.head _))).1, rfl, _, rfl⟩
              case b2 => exact hL.row _ thL
              case b3 => exact stop_all hL.light
              case b4 => rw [← szL]; exact Nat.le_trans hLn (Nat.le_trans esl (by decide))
              case b5 => exact j12.again G12 B12 F20 (N28 _ (.head _)).1
              case b6 => exact News.fr G12 N28 rfl _ (.head _)
              case b7 => rw [szL]; exact Nat.lt_irrefl _
              dsimp only
              obtain ⟨ps13, J13⟩ := M13.jc
              obtain ⟨g13, G13, F21, T13, B13, N29⟩ := base7j G12 F20 hLb M13 T12 B12 N28 hK8 J13
              have j13 := J4.of J G13 B13 F21 J13
              have hgE : Gx s.gens s13.gens := hgD.trans M13.gens
              have hoE : s13.os = s.os := M13.os.trans hoD
              have hrE : s13.drawn = s.drawn := M13.dr.trans hrD
              have X13 := G13.X
              clear N28 F20 X12 M13 hgD hoD hrD G12 T12 B12 J13 j12 thL
              generalize hl2 : Str.join cSp (outL lths 0 lths.length) = ln2
              iterate 5 walk1
              refine LCg.ListComp_U F21 (by with_unfolding_all rfl) (by decide) (by rfl) (by decide) (by rfl) ?_
              walk1
              refine LCg.CompSrc.ledger rfl F21 N29 (.tail _ (.head _)) (by rw [← szL]; exact Nat.le_trans hLn (Nat.le_trans esl (by decide))) fun g9 => ?_
              generalize hbs : (746, tabO ps13) :: (LI, LCg.lst xs) :: (L' + 2, oH) :: (L' + 1, oR) :: (RR, LCg.lst ys) :: (HV, LCg.lst (ths.map fun t => Value.bool t.heavy)) :: K = base at *
              have mB : (LI, LCg.lst xs) ∈ base := by rw [← hbs]; exact .tail _ (.head _)
              have mTB : ∀ p ∈ th, p ∈ base := fun p hp => by rw [← hbs]; exact .tail _ (.tail _ (.tail _ (.tail _ (.tail _ (.tail _ (mT p hp))))))
              refine rest_inv (fun i ws nw => nw = base ∧ StrsAre ws ((lths.take i).map spW)) ?_ ?_ _ 0 [] _ (Nat.zero_add _) ⟨rfl, .nil⟩
              · intro i ws nw v I oI C oC D m₂ hp tk' E' hin hinv hP hC hm2 F₅ N₅ off ne
                obtain ⟨e6, hw⟩ := hinv
                subst e6
                have hP' : xs[i]? = some v := by simpa using hP
                have hit : i < lths.length := by rw [szL]; exact hin
                have ht : lths[i]? = some (lths.getD i (.nul 0)) := by rw [List.getD_eq_getElem?_getD, List.getElem?_eq_getElem hit]; rfl
                have tg := hL.any hp (fun p q => (N₅ p (.tail _ (.tail _ (.tail _ (mTB p q))))).1) i v _ hP' ht
                have hdl : (lths.getD i (.nul 0)).heavy = false := hL.light _ (List.mem_of_getElem? ht)
                iterate 8 walk1
                refine wpAny_call (codeAny_le (spelled_any (G13.push F₅ hLb rfl rfl) tg hdl fun s' t' M => ?_) rfl (Nat.le_of_ble_eq_true rfl) rfl rfl (Nat.le_of_ble_eq_true rfl))
                exact comp_cell (cell := []) M rfl F₅ N₅ off (fun p hp => nomatch hp) (fun a e => by cases e) (.inr ⟨_, mB, rfl, _, rfl⟩) ⟨rfl, by rw [List.take_succ, ht, List.map_append]; exact kct_snoc hw⟩
              · intro spl nw hinv
                obtain ⟨e6, hsp⟩ := hinv
                subst e6
                intro SP hP2 tkP F22 N30 offP
                rw [List.take_of_length_le (Nat.le_of_eq szL)] at hsp
                dsimp only
                walk1
                refine join_named (items := spl.toArray) ⟨LCg.lst spl, (N30 _ (.head _)).1, rfl, _, rfl⟩ (by simpa using hsp) (join_fits hL.wd (Nat.le_trans hLn (Nat.le_trans esl (by decide)))) ((join_all lths).symm.trans hl2) fun t' k => ?_
                refine ne_line ?_
                have N31 : News g13 L' hP2 ((746, tabO ps13) :: (L' + 2, oH) :: (L' + 1, oR) :: (RR, LCg.lst ys) :: (HV, LCg.lst (ths.map fun t => Value.bool t.heavy)) :: K) := fun p hp => N30 p (.tail _ (by
                  rw [← hbs]
                  rcases List.mem_cons.mp hp with hp | hp
                  · exact hp ▸ .head _
                  · exact .tail _ (.tail _ hp)))
                clear N30 hbs offP hsp hl2 mB mTB F21 N29
                iterate 4 walk1
                refine wpAny_For ?_
                iterate 10 walk1
                refine len_list (l := RR) (items := ys.toArray) ⟨_, (N31 _ (.tail _ (.tail _ (.tail _ (.head _))))).1, rfl, _, rfl⟩ (by rw [esz]; omega) ?_
                rw [esz]
                iterate 2 walk1
                rename IsRange _ _ _ _ _ _ _ _ => hr
                rename Fr _ _ _ _ => F23
                rename News _ _ _ _ => N32
                refine wpAny_pyIter_range hr (fin_one esl) ?_
                dsimp only at F23 N32 ⊢
                rw [size_one]
                obtain ⟨m0, em, F24⟩ := fr_ex F23
                obtain ⟨II, eI, lI, l2I, F25, N33⟩ := with_it' (x := 0) (left := (ths.length : Int)) (Fr.cg F24 kmap_0) N32
                rw [eI]
                refine for_rng (n := ths.length) rfl (LoopJ w outer s L' II lo mg mb m0 ths.length ((746, tabO ps13) :: (L' + 2, oH) :: (L' + 1, oR) :: (RR, LCg.lst ys) :: (HV, LCg.lst (ths.map fun t => Value.bool t.heavy)) :: K)) ?_ ?_ ?_ ?_
                · rintro i s₁ ⟨g', ko, wo, _, _, _, _, N2, _⟩
                  exact N2.get (.head _)
                · rintro i s₁ hit ⟨g14, ko, wo, G14, F26, T14, B14, N34, hgF, hoF, hrF⟩ h1 eh1 hs1
                  have hiy : i < ys.length := by rw [e2, ← e1]; exact hit
                  have hv : ys[i]? = some (ys.getD i .none) := by simp [List.getD_eq_getElem?_getD, hiy]
                  have ht : ths[i]? = some (ths.getD i (.nul 0)) := by simp [List.getD_eq_getElem?_getD, hit]
                  have hbi := bools_at hit
                  have F27 := F26.change hs1 (N34 _ (.head _)).2.1 (N34 _ (.head _)).2.2
                  have N35 : News g14 L' h1 ((746, tabO ps13) :: (L' + 2, oH) :: (L' + 1, oR) :: (RR, LCg.lst ys) :: (HV, LCg.lst (ths.map fun t => Value.bool t.heavy)) :: (II, ritO ((i + 1 : Nat) : Int) ((ths.length : Int) - ((i + 1 : Nat) : Int))) :: K) := fun p hp => by
                    have old : p ∈ (746, tabO ps13) :: (L' + 2, oH) :: (L' + 1, oR) :: (RR, LCg.lst ys) :: (HV, LCg.lst (ths.map fun t => Value.bool t.heavy)) :: K → h1.get? p.1 = some p.2 ∧ p.1 ≠ L' ∧ g14.get? p.1 = none := fun q =>
                      ⟨hs1.extBut _ _ (Nat.ne_of_lt (lI p q)) (N34 _ (.tail _ q)).1, (N34 _ (.tail _ q)).2⟩
                    rcases List.mem_cons.mp hp with q | hp
                    · exact old (q ▸ .head _)
                    rcases List.mem_cons.mp hp with q | hp
                    · exact old (q ▸ .tail _ (.head _))
                    rcases List.mem_cons.mp hp with q | hp
                    · exact old (q ▸ .tail _ (.tail _ (.head _)))
                    rcases List.mem_cons.mp hp with q | hp
                    · exact old (q ▸ .tail _ (.tail _ (.tail _ (.head _))))
                    rcases List.mem_cons.mp hp with q | hp
                    · exact old (q ▸ .tail _ (.tail _ (.tail _ (.tail _ (.head _)))))
                    rcases List.mem_cons.mp hp with q | hp
                    · exact q ▸ ⟨eh1, (N34 _ (.head _)).2⟩
                    · exact old (.tail _ (.tail _ (.tail _ (.tail _ (.tail _ hp)))))
                  have X14 := G14.X
                  clear F26 N34 F23 F24 F25 N32 N33 G13 T13 B13 X13 hgE hoE hrE hr hs1 eh1 eI
                  generalize ths.getD i (.nul 0) = t0 at *
                  generalize ys.getD i .none = v0 at *
                  subst em
                  iterate 12 walk1
                  rename Fr _ _ _ _ => F28
                  rename News _ _ _ _ => N36
                  refine item_list (x := v0) ⟨_, (N36 _ (.tail _ (.tail _ (.tail _ (.head _))))).1, rfl, _, rfl⟩ (by omega) (by omega) (by simpa using hv) ?_
                  iterate 2 walk1
                  have tg := e4 _ (fun p hp => (N36 p (.tail _ (.tail _ (.tail _ (.tail _ (.tail _ (.tail _ (mT p hp)))))))).1) i v0 t0 hv ht
                  refine wpAny_call (codeAny_le (quoted_any (G14.push F28 hLb rfl rfl) tg (fun hb s14 t14 M14 => ?qL) (fun hb s14 M14 => ?qH)) rfl (Nat.le_of_ble_eq_true rfl) rfl rfl (Nat.le_of_ble_eq_true rfl))
                  case qL =>
                    dsimp only
                    rw [hb] at hbi
                    have F29 := Fr.mvd F28 M14 not_nil (fun b q => absurd q not_nil)
                    have N37 := News.mvd N36 M14 (fun p _ => not_nil)
                    have hgG : Gx s.gens s14.gens := hgF.trans (gx_eq M14.gens)
                    have hoG : s14.os = s.os := M14.os.trans hoF
                    have hrG : s14.drawn = s.drawn := M14.dr.trans hrF
                    clear F28 N36 M14 tg hgF hoF hrF
                    iterate 5 walk1
                    refine item_list (x := .bool false) ⟨_, (N37 _ (.tail _ (.tail _ (.tail _ (.tail _ (.head _)))))).1, rfl, _, rfl⟩ (by omega) (by omega) (by simpa using hbi) ?_
                    iterate 9 walk1
                    refine item_list (x := v0) ⟨_, (N37 _ (.tail _ (.tail _ (.tail _ (.head _))))).1, rfl, _, rfl⟩ (by omega) (by omega) (by simpa using hv) ?_
                    iterate 2 walk1
                    have tg := e4 _ (fun p hp => (N37 p (.tail _ (.tail _ (.tail _ (.tail _ (.tail _ (.tail _ (mT p hp)))))))).1) i v0 t0 hv ht
                    refine wpAny_call (codeAny_le (spelled_any (G14.push F29 hLb rfl rfl) tg hb fun s15 t15 M15 => ?qM) rfl (Nat.le_of_ble_eq_true rfl) rfl rfl (Nat.le_of_ble_eq_true rfl))
                    dsimp only
                    refine ne_line ?_
                    have F30 := Fr.mvd F29 M15 not_nil (fun b q => absurd q not_nil)
                    have N38 := News.mvd N37 M15 (fun p _ => not_nil)
                    have hgH : Gx s.gens s15.gens := hgG.trans (gx_eq M15.gens)
                    have hoH : s15.os = s.os := M15.os.trans hoG
                    have hrH : s15.drawn = s.drawn := M15.dr.trans hrG
                    clear F29 N37 M15 tg hgG hoG hrG
                    iterate 14 walk1
                    refine item_list (x := v0) ⟨_, (N38 _ (.tail _ (.tail _ (.tail _ (.head _))))).1, rfl, _, rfl⟩ (by omega) (by omega) (by simpa using hv) ?_
                    iterate 3 walk1
                    have tg := e4 _ (fun p hp => (N38 p (.tail _ (.tail _ (.tail _ (.tail _ (.tail _ (.tail _ (mT p hp)))))))).1) i v0 t0 hv ht
                    cases t0 with
                    | hvy k => cases hb
                    | str x =>
                      obtain ⟨u, rfl⟩ := (tg.tv : ∃ t, v0 = .str x t)
                      iterate 5 walk1
                      exact ⟨g14, _, _, G14, Fr.cg F30 kmap_k, T14, B14, to_front N38, hgH, hoH, hrH⟩
                    | nul k =>
                      refine isstr_nul tg.tv fun tk => ?_
                      iterate 16 walk1
                      rename Fr _ _ _ _ => F31
                      rename News _ _ _ _ => N39
                      have tg := e4 _ (fun p hp => (N39 p (.tail _ (.tail _ (.tail _ (.tail _ (.tail _ (.tail _ (mT p hp)))))))).1) i v0 _ hv ht
                      refine item_list (x := v0) ⟨_, (N39 _ (.tail _ (.tail _ (.tail _ (.head _))))).1, rfl, _, rfl⟩ (by omega) (by omega) (by simpa using hv) ?_
                      iterate 2 walk1
                      cases k with
                      | zero =>
                        obtain rfl := none_of_nul tg
                        refine wpAny_call (codeAny_le (refused_none (G14.push F31 hLb rfl rfl) fun s16 t16 M16 => ?qT) rfl (Nat.le_of_ble_eq_true rfl) rfl rfl (Nat.le_of_ble_eq_true rfl))
                        dsimp only
                        obtain ⟨g16, G16, F32, T16, B16, N40, _⟩ := base0 G14 F31 M16 T14 B14 N39 rfl
                        have hgI : Gx s.gens s16.gens := hgH.trans M16.gens
                        have hoI : s16.os = s.os := M16.os.trans hoH
                        have hrI : s16.drawn = s.drawn := M16.dr.trans hrH
                        have X16 := G16.X
                        clear F31 N39 M16 G14 T14 B14 X14 hgH hoH hrH
                        iterate 5 walk1
                        refine item_list (x := .none) ⟨_, (N40 _ (.tail _ (.tail _ (.tail _ (.head _))))).1, rfl, _, rfl⟩ (by omega) (by omega) (by simpa using hv) ?_
                        iterate 5 walk1
                        refine ne_line ?_
                        iterate 5 walk1
                        exact ⟨g16, _, _, G16, Fr.cg F32 kmap_w, T16, B16, to_front N40, hgI, hoI, hrI⟩
                      | succ k =>
                        have nt := not_of_nul tg
                        refine wpAny_call (codeAny_le (refused_not (G14.push F31 hLb rfl rfl) nt fun s16 t16 M16 => ?qR) rfl (Nat.le_of_ble_eq_true rfl) rfl rfl (Nat.le_of_ble_eq_true rfl))
                        dsimp only
                        obtain ⟨g16, G16, F32, T16, B16, N40, _⟩ := base0 G14 F31 M16 T14 B14 N39 rfl
                        have hgI : Gx s.gens s16.gens := hgH.trans M16.gens
                        have hoI : s16.os = s.os := M16.os.trans hoH
                        have hrI : s16.drawn = s.drawn := M16.dr.trans hrH
                        have X16 := G16.X
                        clear F31 N39 M16 G14 T14 B14 X14 hgH hoH hrH
                        iterate 5 walk1
                        refine item_list (x := v0) ⟨_, (N40 _ (.tail _ (.tail _ (.tail _ (.head _))))).1, rfl, _, rfl⟩ (by omega) (by omega) (by simpa using hv) ?_
                        walk1
                        refine is_none_ne nt.nn ?_
                        iterate 3 walk1
                        refine ne_line ?_
                        iterate 6 walk1
                        exact ⟨g16, _, _, G16, Fr.cg F32 kmap_w, T16, B16, to_front N40, hgI, hoI, hrI⟩
                  case qH =>
                    dsimp only
                    rw [hb] at hbi
                    obtain ⟨g15, G15, F29, T15, B15, N37, f15⟩ := base0 G14 F28 M14 T14 B14 N36 rfl
                    have hgG : Gx s.gens s14.gens := hgF.trans M14.gens
                    have hoG : s14.os = s.os := M14.os.trans hoF
                    have hrG : s14.drawn = s.drawn := M14.dr.trans hrF
                    have X15 := G15.X
                    clear F28 N36 M14 tg hgF hoF hrF G14 T14 B14 X14 f15
                    iterate 5 walk1
                    refine item_list (x := .bool true) ⟨_, (N37 _ (.tail _ (.tail _ (.tail _ (.tail _ (.head _)))))).1, rfl, _, rfl⟩ (by omega) (by omega) (by simpa using hbi) ?_
                    iterate 18 walk1
                    refine item_list (x := v0) ⟨_, (N37 _ (.tail _ (.tail _ (.tail _ (.head _))))).1, rfl, _, rfl⟩ (by omega) (by omega) (by simpa using hv) ?_
                    iterate 3 walk1
                    have tg := e4 _ (fun p hp => (N37 p (.tail _ (.tail _ (.tail _ (.tail _ (.tail _ (.tail _ (mT p hp)))))))).1) i v0 t0 hv ht
                    obtain ⟨k, rfl⟩ := heavy_is hb
                    refine isstr_hvy tg.tv fun tk => ?_
                    iterate 16 walk1
                    rename Fr _ _ _ _ => F31
                    rename News _ _ _ _ => N39
                    have tg := e4 _ (fun p hp => (N39 p (.tail _ (.tail _ (.tail _ (.tail _ (.tail _ (.tail _ (mT p hp)))))))).1) i v0 _ hv ht
                    refine item_list (x := v0) ⟨_, (N39 _ (.tail _ (.tail _ (.tail _ (.head _))))).1, rfl, _, rfl⟩ (by omega) (by omega) (by simpa using hv) ?_
                    iterate 2 walk1
                    have nt := not_of_hvy tg
                    refine wpAny_call (codeAny_le (refused_not (G15.push F31 hLb rfl rfl) nt fun s16 t16 M16 => ?qS) rfl (Nat.le_of_ble_eq_true rfl) rfl rfl (Nat.le_of_ble_eq_true rfl))
                    dsimp only
                    obtain ⟨g16, G16, F32, T16, B16, N40, _⟩ := base0 G15 F31 M16 T15 B15 N39 rfl
                    have hgI : Gx s.gens s16.gens := hgG.trans M16.gens
                    have hoI : s16.os = s.os := M16.os.trans hoG
                    have hrI : s16.drawn = s.drawn := M16.dr.trans hrG
                    have X16 := G16.X
                    clear F31 N39 M16 G15 T15 B15 X15 hgG hoG hrG
                    iterate 5 walk1
                    refine item_list (x := v0) ⟨_, (N40 _ (.tail _ (.tail _ (.tail _ (.head _))))).1, rfl, _, rfl⟩ (by omega) (by omega) (by simpa using hv) ?_
                    walk1
                    refine is_none_ne nt.nn ?_
                    iterate 3 walk1
                    refine ne_line ?_
                    iterate 6 walk1
                    exact ⟨g16, _, _, G16, Fr.cg F32 kmap_w, T16, B16, to_front N40, hgI, hoI, hrI⟩
                · rintro s₁ ⟨g14, ko, wo, G14, F26, T14, B14, N34, hgF, hoF, hrF⟩ h1 he1
                  have F27 := LCg.fr_but F26 (fun b o q e => he1 b o (fun z => q (z ▸ .head _)) e) (Nat.ne_of_lt l2I) (N34 _ (.head _)).2.2
                  have N35 : News g14 L' h1 ((746, tabO ps13) :: (L' + 2, oH) :: (L' + 1, oR) :: (RR, LCg.lst ys) :: (HV, LCg.lst (ths.map fun t => Value.bool t.heavy)) :: K) := fun p hp =>
                    ⟨he1 _ _ (Nat.ne_of_lt (lI p hp)) (N34 _ (.tail _ hp)).1, (N34 _ (.tail _ hp)).2⟩
                  have X14 := G14.X
                  clear F26 N34 F23 F24 F25 N32 N33 G13 T13 B13 X13 hgE hoE hrE hr he1 eI
                  subst em
                  dsimp only
                  iterate 3 walk1
                  refine LCg.ListComp_U F27 (by with_unfolding_all rfl) (by decide) (by rfl) (by decide) (by rfl) ?_
                  walk1
                  refine LCg.CompSrc.ledger rfl F27 N35 (.tail _ (.tail _ (.tail _ (.head _)))) (by rw [esz]; exact Nat.le_trans esl (by decide)) fun g9 => ?_
                  generalize hbs : (746, tabO ps13) :: (L' + 2, oH) :: (L' + 1, oR) :: (RR, LCg.lst ys) :: (HV, LCg.lst (ths.map fun t => Value.bool t.heavy)) :: K = base at *
                  have mB : (RR, LCg.lst ys) ∈ base := by rw [← hbs]; exact .tail _ (.tail _ (.tail _ (.head _)))
                  have m7 : (746, tabO ps13) ∈ base := by rw [← hbs]; exact .head _
                  have mSB : (SN, LCg.lst zs) ∈ base := by rw [← hbs]; exact .tail _ (.tail _ (.tail _ (.tail _ (.tail _ mSN))))
                  have mTB : ∀ p ∈ th, p ∈ base := fun p hp => by rw [← hbs]; exact .tail _ (.tail _ (.tail _ (.tail _ (.tail _ (mT p hp)))))
                  refine rest_inv (fun i zs nw => nw = base ∧ StrsAre zs ((ths.take i).map rp)) ?_ ?_ _ 0 [] _ (Nat.zero_add _) ⟨rfl, .nil⟩
                  · intro i zs nw v I oI C oC D m₂ hp tk' E' hin hinv hP hC hm2 F₅ N₅ off ne
                    obtain ⟨e6, hz9⟩ := hinv
                    subst e6
                    have hP' : ys[i]? = some v := by simpa using hP
                    have hit : i < ths.length := by rw [← esz]; exact hin
                    have ht : ths[i]? = some (ths.getD i (.nul 0)) := by simp [List.getD_eq_getElem?_getD, hit]
                    have tg := e4 hp (fun p q => (N₅ p (.tail _ (.tail _ (.tail _ (mTB p q))))).1) i v _ hP' ht
                    iterate 7 walk1
                    refine repr_th tg.tv tg.k6 tg.wd rfl (Nat.le_of_ble_eq_true rfl) fun h6 t6 k6 up6 => ?_
                    refine LCg.CompEnd.intro (F₅.keeps up6) (N₅.grown up6) _ (fun p hp => hp) off (.inr ⟨_, mB, rfl, _, rfl⟩) ⟨rfl, ?_⟩
                    rw [List.take_succ, ht, List.map_append]
                    exact kct_snoc hz9
                  · intro zs9 nw hinv
                    obtain ⟨e6, hz9⟩ := hinv
                    subst e6
                    intro S9 hS9 tkS F28 N36 offS
                    rw [List.take_of_length_le (Nat.le_of_eq esz.symm)] at hz9
                    dsimp only
                    walk1
                    refine eq_same (xs := zs9) (ys := zs) ⟨_, (N36 _ (.head _)).1, rfl, _, rfl⟩ ⟨_, (N36 _ (.tail _ mSB)).1, rfl, _, rfl⟩ hz9 hz (rpl_ok tw tk6) (Nat.le_of_ble_eq_true rfl) ?_
                    exact hQ _ (Bt.mx_of B14 F28 hLb hgF hoF hrF) ⟨_, j13.again G14 B14 F28 (N36 _ (.tail _ m7)).1⟩
                · exact ⟨g13, _, _, G13, F25, T13, B13, by simpa using N33, hgE, hoE, hrE⟩
end
section
open PySem PySem.W PySem.Calls PyProof.Rows
theorem six {g h : Heap} {L l : Addr} {t1 t2 t3 t4 t5 t6 : Tok} {k : Nat} {rest : List (Addr × Obj)} (N : News g L h ((l, listOf #[.int 5 t1, .int 8 t2, .int 23 t3, .int 4 t4, .int 3 t5, .int 126 t6] k) :: rest)) :
    ∃ (l₀ : Addr) (fx : List Value), l₀ = l ∧ IntsAre fx [5, 8, 23, 4, 3, 126] ∧ News g L h ((l, { cls := .type "list", data := .seq fx.toArray k }) :: rest) :=
  ⟨l, [.int 5 t1, .int 8 t2, .int 23 t3, .int 4 t4, .int 3 t5, .int 126 t6], rfl, .cons _ _ (.cons _ _ (.cons _ _ (.cons _ _ (.cons _ _ (.cons _ _ .nil))))), N⟩
theorem law_true {w : World} {outer : List Env} {s : Shared} {Sc : Nat} {vals : List Value} {ns : List Int} {ps : Array Value} {R : Result → Shared → Prop} (G : Gd w outer s.heap) (hN : s.heap.IsList Sc vals.toArray) (hi : IntsAre vals ns) (hlen : ns.length ≤ 63) (J : Jc s.heap ps) (f7 : 746 ∉ frs outer)
    (hQ : ∀ s', Mx outer [746] s s' → (∃ ps, Jc s'.heap ps) → R (.ok (.ret (.bool true))) s') :
    codeAny (Mod w) (AT 380 1100 outer) (.call (.ref 814) ⟨[.ref Sc], []⟩) R s := by
  have hl : vals.length = ns.length := hi.length
  have n7 : Sc ≠ 746 := fun q => by
    obtain ⟨o, ho', hc', _⟩ := hN
    rw [q, J.get] at ho'
    cases ho'
    cases hc'
  refine' enterJ [(746, tabO ps)] G ?hm ?k6 ?k7 ?k8 ?k9 ?kB ?_ ?c2 ?c3 ?c4 ?c5
  case hm =>
    intro p hp
    rcases List.mem_cons.mp hp with rfl | hp
    · exact ⟨J.get, .inr rfl, f7⟩
    cases hp
  (((case k6 => k_is); (case k7 => k_is); (case k8 => decide); (case k9 => first | exact BindsTo.of_eq rfl | exact binds_K (Gd.X (by assumption)) rfl (by k_is) rfl rfl rfl); (case kB => exact locs rfl); (case c2 => exact rfl); (case c3 => exact rfl); (case c4 => exact rfl); (case c5 => decide)))
  intro g L' h' lo mg mb F N B X T Bz hlt Gg hLb
  have hNg : g.IsList Sc vals.toArray := by
    obtain ⟨o, ho', r⟩ := hN
    exact ⟨o, Bz.into Sc o (fun q => n7 (List.mem_singleton.mp q)) ho', r⟩
  (try dsimp only)
  (try k_fold)
  iterate 18 walk1
  rename Fr _ _ _ _ => F1
  rename News _ _ _ _ => N1
  obtain ⟨l0, fx, el0, hfx, N2⟩ := six N1
  clear N1
  subst el0
  refine LCg.ListComp_U F1 (by with_unfolding_all rfl) (by decide) (by rfl) (by decide) (by rfl) ?_
  iterate 8 walk1
  rename Fr _ _ _ _ => F2
  rename News _ _ _ _ => N3
  rename IntsAre _ (List.take 12 ns) => hms
  rename (_ : Nat) < _ ∧ _ => lD
  rename List Value => ms
  generalize hmm : List.take 12 ns = m12 at *
  have hm12 : m12.length ≤ 12 := by rw [← hmm, List.length_take]; exact Nat.min_le_left _ _
  have hml : ms.length = m12.length := hms.length
  refine LCg.CompSrc.ledger rfl F2 N3 (.head _) (by rw [List.size_toArray, hml]; exact Nat.le_trans hm12 (by decide)) fun g3 => ?_
  obtain ⟨base, ebs, N4⟩ := name_base N3
  refine rest_inv (fun i zs nw => nw = base ∧ IntsAre zs ((m12.take i).map fun n => n.fmod 100000)) ?_ ?_ _ 0 [] _ (Nat.zero_add _) ⟨ebs.symm, .nil⟩
  · intro i zs news v I oI C oC D m₂ hp tk' E' hin hinv hP hC hm2 F₅ N₅ off ne
    obtain ⟨e6, hz⟩ := hinv
    subst e6
    obtain ⟨n, t, rfl, hn⟩ := ints_at hms (by simpa using hP)
    k_steps
    refine LCg.CompEnd.intro F₅ N₅ _ (fun p hp => hp) off (.inr ⟨_, by rw [ebs]; exact .head _, rfl, _, rfl⟩) ⟨rfl, ?_⟩
    rw [List.take_succ, hn, List.map_append]
    exact hz.append (.cons _ _ .nil)
  · intro zs news hinv
    obtain ⟨e6, hz⟩ := hinv
    subst e6
    intro D h4 tk4 F5 N5 off5
    dsimp only
    rw [List.size_toArray, List.take_of_length_le (Nat.le_of_eq hml.symm)] at hz
    rw [ebs] at N5 off5
    have dD7 : D ≠ 746 := fun q => off1_mem off5 _ (.tail _ (.tail _ (.head _))) q.symm
    clear off5 N4 ebs N3 F2
    refine kmk_add_ints F5 N5 ⟨_, (N5 _ (.tail _ (.tail _ (.head _)))).1, rfl, _, rfl⟩ ⟨_, (N5 _ (.head _)).1, rfl, _, rfl⟩ hfx hz (fun Nm us h5 F6 N6 lt6 hus => ?_) (by rw [List.length_map]; exact Nat.le_trans (Nat.add_le_add_left hm12 _) (by decide))
    dsimp only
    iterate 11 walk1
    rename Fr _ _ _ _ => F7
    rename News _ _ _ _ => N7
    refine wpAny_call (codeAny_le (holds_a (Nm := Nm) (vals := us) (ns := [5, 8, 23, 4, 3, 126] ++ m12.map fun n => n.fmod 100000) (ps := ps) ?aG ?a1 hus ?a2 ?a3 rfl ?a4 ?a5 fun s8 M8 j8 => ?aQ) rfl (Nat.le_of_ble_eq_true rfl) rfl rfl (Nat.le_of_ble_eq_true rfl))
    case aG => exact Gg.push F7 hLb rfl rfl
    case a1 => exact ⟨_, (N7 _ (.head _)).1, rfl, _, rfl⟩
    case a2 =>
      intro n hn
      rcases List.mem_append.mp hn with q | q
      · have six : ∀ n ∈ ([5, 8, 23, 4, 3, 126] : List Int), 0 ≤ n ∧ n < 100000 := by decide
        exact six n q
      · obtain ⟨z, _, rfl⟩ := List.mem_map.mp q
        exact ⟨Int.fmod_nonneg_of_pos _ (by decide), Int.fmod_lt_of_pos _ (by decide)⟩
    case a3 => rw [List.length_append, List.length_map]; exact Nat.le_trans (Nat.add_le_add_left hm12 _) (by decide)
    case a4 => exact J.move G.X (Gg.X.keeps F7.keep) (N7 _ (.tail _ (.tail _ (.tail _ (.tail _ (.head _)))))).1 (fun o e => F7.keep 4 o (Bz.into 4 o (fun q => by cases List.mem_singleton.mp q) e))
    case a5 => exact News.fr Gg N7 rfl _ (.tail _ (.tail _ (.tail _ (.tail _ (.head _)))))
    dsimp only
    obtain ⟨ps8, J8⟩ := j8
    have N8 : News g L' _ [(746, tabO ps)] := fun p hp => N7 p (by rw [List.mem_singleton.mp hp]; exact .tail _ (.tail _ (.tail _ (.tail _ (.head _)))))
    obtain ⟨g8, G8, F8, T8, B8, N9, _⟩ := base7 Gg F7 M8 T (Bs.bt Bz) N8 (fun p hp => nomatch hp) J8 rfl
    exact hQ _ (Bt.mx_of B8 F8 hLb M8.gens M8.os M8.dr) ⟨ps8, J8⟩
end
section
open PySem PySem.W PySem.Calls PyProof.Rows
theorem joinRec : ((recsOf vw).any fun d => d.name == Str.ofString "join") = true := by decide +kernel
theorem join_at (P : Params) : nsIn (kk.heap_1 P) mainGlobals (Str.ofString "join") = some (some (.ref 751)) := by k_is
theorem law_at (P : Params) : nsIn (kk.heap_1 P) mainGlobals (Str.ofString "law") = some (some (.ref 814)) := by k_is
theorem join_code (P : Params) : ∃ oc od fd os, (kk.heap_1 P).lookup 751 = some ⟨oc, od, .func fd, os⟩ ∧ fd.code = .ref 750 := ⟨_, _, _, _, by k_is, rfl⟩
theorem code_tab (P : Params) : ∃ oc od vs os, (kk.heap_1 P).lookup 750 = some ⟨oc, od, .fields vs, os⟩ ∧ vs[11]? = some (.ref 746) := ⟨_, _, _, _, by k_is, rfl⟩
theorem law_there (P : Params) : ∃ o, (kk.heap_1 P).lookup 814 = some o := ⟨_, by k_is⟩
section
variable {w : World} {loose : List Str} {mean : ExcName → Option Value} {mg mb : Str → Option Value} {h : Heap} {s s' : Shared} {ps : Array Value}
theorem jc_top (T : Top vw loose mean mg mb h) (X : (kk.heap_1 w.params).In h) : Jc h #[] := by
  obtain ⟨d, hd', hn⟩ := List.any_eq_true.mp joinRec
  have hn' := beq_iff_eq.mp hn
  obtain ⟨a, o, fd, c, P, h1, h2, h3, h4, h5, h6⟩ := T.tab d hd'
  rw [hn', mg_of X T.g (join_at w.params)] at h1
  cases h1
  obtain ⟨_, _, fd', _, e1, e2⟩ := join_code w.params
  rw [X _ _ e1] at h2
  cases h2
  cases h3
  rw [e2] at h4
  cases h4
  obtain ⟨_, _, vs, _, e3, e4⟩ := code_tab w.params
  obtain ⟨⟨oc, vs', g1, g2, g3, g4⟩, g5⟩ := id h6
  rw [X _ _ e3] at g1
  cases g1
  cases g3
  rw [e4] at g4
  cases g4
  refine ⟨h5, h6, ?_⟩
  obtain ⟨bm, ob, q1, q2, q3, q4, q5, q6⟩ := T.bmain
  rw [mg_of X T.g (built_at w.params)] at q1
  cases q1
  exact ⟨ob, q3, q4, q5, q6⟩
theorem gd_top (T : Top vw loose mean mg mb h) (X : (kk.heap_1 w.params).In h) : Gd w [] h := by
  obtain ⟨o, e⟩ := law_there w.params
  exact ⟨X, ⟨_, _, _, topRead_of T⟩, fun _ he => (nomatch he), Heap.lt_size (X _ _ e)⟩
theorem old_mx (M : Mx [] [746] s s') (J : Jc s.heap #[]) (J' : Jc s'.heap ps) : OldK s.heap s'.heap :=
  (OldK.refl _).step_table (more := ps) J.tab J.tab (by rw [Array.empty_append]; exact J'.tab) (fun b o hb e => M.keep b o (fun q => hb (List.mem_singleton.mp q)) (fun q => nomatch q) e) (by decide)
end
end
end
end Mine
set_option maxRecDepth 100000 in
set_option maxHeartbeats 8000000 in
theorem PySem.Challenge.cw_mj0334_01_holds : PySem.Challenge.rw_mj0334_01.Holds := by
  w_on
  refine holds_law Mine.said fun said => ?_
  refine holds_open (q := Mine.vw) (loose := Mine.lw) (Xt := Mine.xt) (XP := XL Mine.vw []) (Yf := Mine.hk.obs) (Ya := Mine.hk.val) (YP := Mine.hk.says) (N := 10462) Mine.left Mine.hk.of Mine.hk.keeps (fun s e => xl_of s (Bool.and_eq_true_iff.mp e).1) XL.keeps (by rfl) (by rfl) (by rfl) (fun s e => recFacts_of (Bool.and_eq_true_iff.mp e).2) (by rfl) (by assumption) (by decide +kernel) ⟨rfl, rfl, rfl, rfl, rfl, by decide +kernel⟩ ?hw ?hc
  case hw => w_witness2
  case hc =>
    intro w s₀ s₁ mg mb G Y fa o pm cd doc dV kV ho hd' hcd hD hmg hg args vals as hpre hlay hrd hwl hlo
    have KX : (Mine.kk.heap_1 w.params).In s₁.heap := kIn_of (K := Mine.kk.heap_1) (as := Mine.as1) (e := Mine.as1_ok) Y
    have T := G.T
    have J := Mine.jc_top T KX
    have Gg := Mine.gd_top T KX
    have fa7 : fa = 814 := by
      have q := mg_of KX T.g (Mine.law_at w.params)
      have hmg' : mg (Str.ofString "law") = _ := hmg
      rw [hmg'] at q
      cases q
      rfl
    subst fa7
    clear hd' hcd hD hmg ho
    wrow_args hpre hlay hrd hwl hlo
    rename List Int => ns
    rename Heap.IsList _ _ _ => hL
    rename IntsAre _ _ => hI
    rename ¬ _ => hlt
    refine enter_call ?_
    refine Mine.codeAny_le (Mine.law_true (ps := #[]) Gg hL hI (by omega) J (fun q => nomatch q) fun s' M j => ?_) rfl (by decide) rfl rfl (by decide)
    obtain ⟨ps', J'⟩ := j
    exact ⟨.inl ⟨_, .bool true, [], rfl, raisesW_false allW_false_nil, .bool true, by wrow_post, fun _ => ⟨.nil, fun _ ha => nomatch ha⟩⟩, Mine.old_mx M J J', M.os, M.gens.2 (by rw [hg]; exact AllBare.empty)⟩
