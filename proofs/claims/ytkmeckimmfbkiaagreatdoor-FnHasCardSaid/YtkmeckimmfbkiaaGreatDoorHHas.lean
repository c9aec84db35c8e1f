/- Has of every container, and the thin package's Has. Conditions: the package variables karatsubaThreshold and CompareLimit hold 40 and 10. -/
import Derived.Test.YtkmeckimmfbkiaaGreatDoorHInt
import Derived.Test.YtkmeckimmfbkiaaGreatDoorHErrs
import Derived.Test.YtkmeckimmfbkiaaGreatDoorKCmp
namespace Go.Proofs.YtkmeckimmfbkiaaGreatDoor
open Go Go.RowKit
set_option maxRecDepth 10000 in
theorem strHas_yes (a b : ByteArray) (w : World) (ha : a.size ≤ 60) (hb : b.size ≤ 60) : Calls Tryz.prog 294 #[.string a, .iface 98 (.string b)] w (HasC w (some (partB a b))) := by
  have T : ∀ w, (Instr.typeAssert (.iface 98 (.string b)) 43 98 true).run Tryz.prog w = .ok (.tuple #[.string b, .bool true]) w := fun w => by kernel_rfl
  have H := Lib.hid (zzContains_any a b w ha hb)
  clear ha hb
  go_enter Tryz.func294, Tryz.ntmps294
  go_wp2_with fail
  refine H.out.mono ?_
  rintro e w1 ⟨rfl, hB⟩
  have HB := Lib.hid hB
  clear hB H
  go_wp2
  go_ret2
  exact ⟨rfl, HB.out⟩
set_option maxRecDepth 10000 in
theorem strHas_no (a : ByteArray) (v : Value) (w : World) (T : ∀ w, (Instr.typeAssert v 43 98 true).run Tryz.prog w = .ok (.tuple #[.string ⟨#[]⟩, .bool false]) w) : Calls Tryz.prog 294 #[.string a, v] w (HasC w none) := by
  go_enter Tryz.func294, Tryz.ntmps294
  go_wp2_with fail
  refine (errorsNew_any _ w).mono ?_
  rintro e w1 ⟨⟨T, x, rfl⟩, hB⟩
  have HB := Lib.hid hB
  clear hB
  go_wp2
  go_ret2
  exact ⟨⟨_, _, rfl⟩, HB.out⟩
set_option maxRecDepth 10000 in
theorem bytesHas_bytes (a b : ByteArray) (w : World) (ha : a.size ≤ 60) (hb : b.size ≤ 60) : Calls Tryz.prog 308 #[.string a, .iface 99 (.string b)] w (HasC w (some (partB a b))) := by
  have T : ∀ w, (Instr.typeAssert (.iface 99 (.string b)) 43 99 true).run Tryz.prog w = .ok (.tuple #[.string b, .bool true]) w := fun w => by kernel_rfl
  have H := Lib.hid (zzContains_any a b w ha hb)
  clear ha hb
  go_enter Tryz.func308, Tryz.ntmps308
  go_wp2_with fail
  refine H.out.mono ?_
  rintro e w1 ⟨rfl, hB⟩
  have HB := Lib.hid hB
  clear hB H
  go_wp2
  go_ret2
  exact ⟨rfl, HB.out⟩
set_option maxRecDepth 10000 in
theorem bytesHas_no (a : ByteArray) (v : Value) (w : World) (T : ∀ w, (Instr.typeAssert v 43 99 true).run Tryz.prog w = .ok (.tuple #[.string ⟨#[]⟩, .bool false]) w) (T2 : ∀ w, (Instr.typeAssert v 43 94 true).run Tryz.prog w = .ok (.tuple #[.agg #[.int .i64 0, .pointer none], .bool false]) w) :
    Calls Tryz.prog 308 #[.string a, v] w (HasC w none) := by
  go_enter Tryz.func308, Tryz.ntmps308
  go_wp2_with fail
  refine (errorsNew_any _ w).mono ?_
  rintro e w1 ⟨⟨T, x, rfl⟩, hB⟩
  have HB := Lib.hid hB
  clear hB
  go_wp2
  go_ret2
  exact ⟨⟨_, _, rfl⟩, HB.out⟩
set_option maxRecDepth 10000 in
set_option maxHeartbeats 1000000 in
theorem bytesHas_int (s : ByteArray) (x a : Int) (p : Option Addr) (w : World) (hx : SInt w w.heap.size x a p) (hs : (limbs x.natAbs).length ≤ 2147483640) :
    Calls Tryz.prog 308 #[.string s, .iface 94 (.agg #[.int .i64 a, .pointer p])] w (HasC w (if 0 ≤ x ∧ x < 256 then some (partB s (oneB x)) else none)) := by
  have T : ∀ w, (Instr.typeAssert (.iface 94 (.agg #[.int .i64 a, .pointer p])) 43 99 true).run Tryz.prog w = .ok (.tuple #[.string ⟨#[]⟩, .bool false]) w := fun w => by kernel_rfl
  have T2 : ∀ w, (Instr.typeAssert (.iface 94 (.agg #[.int .i64 a, .pointer p])) 43 94 true).run Tryz.prog w = .ok (.tuple #[.agg #[.int .i64 a, .pointer p], .bool true]) w := fun w => by kernel_rfl
  obtain ⟨o, ho⟩ : ∃ o, o = (if 0 ≤ x ∧ x < 256 then some (partB s (oneB x)) else none) := ⟨_, rfl⟩
  rw [← ho]
  have HO := Lib.hid ho
  have HX := Lib.hid (And.intro hx hs)
  have HP := Lib.hid (part_one s (UInt8.ofNat x.toNat))
  clear hx hs ho
  go_enter Tryz.func308, Tryz.ntmps308
  go_wp2_with fail
  refine gen2 (M := fun W => Calls _ _ _ W _) fun W hB b1 b2 hz => ?_
  have hz1 : w.heap.size + 1 < W.heap.size := by omega
  have HB := Lib.hid (And.intro hB b2)
  refine (asByte_any x a p (w.heap.size + 1) W ((HX.out.1.below hB).more (by omega)) HX.out.2 b2).mono ?_
  clear hB b1 b2 hz
  rintro e w1 ⟨hg, h | h⟩
  · obtain ⟨h0, h1, rfl, hb⟩ := h
    obtain ⟨k0, f0⟩ := hb.c1
    have HG := Lib.hid (And.intro h0 (And.intro h1 (below_grown HB.out.1 hg (by omega) HB.out.1.size)))
    clear hg hb h0 h1
    go_wp2_with fail
    refine (Tryz.strings_IndexByte s x w1).mono ?_
    rintro e w2 ⟨rfl, rfl⟩
    have hp := HP.out
    rw [show UInt8.ofNat x.toNat = x.toNat.toUInt8 from rfl] at hp
    have HP2 := Lib.hid hp
    clear hp
    go_wp2
    go_ret2
    refine ⟨?_, HG.out.2.2⟩
    rw [HO.out, if_pos ⟨HG.out.1, HG.out.2.1⟩]
    show _ = Ending.returned (.tuple #[.bool (partB s (oneB x)), .nilIface])
    rw [show partB s (oneB x) = decide (0 ≤ Lib.indexByte s.data.toList x.toNat.toUInt8) from HP2.out.symm]
    rfl
  · obtain ⟨hno, T, z, rfl⟩ := h
    have HG := Lib.hid (And.intro hno (below_grown HB.out.1 hg (by omega) HB.out.1.size))
    clear hg hno
    go_wp2_with fail
    refine (errorsNew_any _ w1).mono ?_
    rintro e w2 ⟨⟨T', z', rfl⟩, hB2⟩
    have HB2 := Lib.hid (HG.out.2.trans (hB2.mono HG.out.2.size))
    clear hB2
    go_wp2
    go_ret2
    refine ⟨?_, HB2.out⟩
    rw [HO.out, if_neg HG.out.1]
    exact ⟨_, _, rfl⟩
set_option maxRecDepth 10000 in
theorem notBytesV {w : World} {B : Nat} (s : S) (hs : kindN s ≠ 5) (u : Value) (h : SAt w B s u) : ∀ w, (Instr.typeAssert u 43 99 true).run Tryz.prog w = .ok (.tuple #[.string ⟨#[]⟩, .bool false]) w := by
  cases s
  case bytes => exact absurd rfl hs
  case none => simp only [SAt] at h; subst h; exact fun w => by kernel_rfl
  case bool => simp only [SAt] at h; subst h; exact fun w => by kernel_rfl
  case int => simp only [SAt] at h; obtain ⟨a, b, rfl, _⟩ := h; exact fun w => by kernel_rfl
  case float => simp only [SAt] at h; obtain ⟨rfl, _⟩ := h; exact fun w => by kernel_rfl
  case str => simp only [SAt] at h; obtain ⟨rfl, _⟩ := h; exact fun w => by kernel_rfl
  case list l => simp only [SAt] at h; obtain ⟨g, A, c, rfl, _⟩ := h; exact fun w => by kernel_rfl
  case dict l => simp only [SAt] at h; obtain ⟨g, rfl, _⟩ := h; exact fun w => by kernel_rfl
  case set l => simp only [SAt] at h; obtain ⟨g, rfl, _⟩ := h; exact fun w => by kernel_rfl
  case tuple l => simp only [SAt] at h; obtain ⟨A, c, xs, rfl, _⟩ := h; exact fun w => by kernel_rfl
theorem hasC_str (v : Value) : HasM (.iface 98 v) "Has" 294 v := ⟨_, _, rfl, fun w => by kernel_rfl, fun args w => by kernel_rfl⟩
theorem hasC_bytes (v : Value) : HasM (.iface 99 v) "Has" 308 v := ⟨_, _, rfl, fun w => by kernel_rfl, fun args w => by kernel_rfl⟩
theorem hasC_tuple (v : Value) : HasM (.iface 73 v) "Has" 226 v := ⟨_, _, rfl, fun w => by kernel_rfl, fun args w => by kernel_rfl⟩
theorem hasC_list (v : Value) : HasM (.iface 71 v) "Has" 218 v := ⟨_, _, rfl, fun w => by kernel_rfl, fun args w => by kernel_rfl⟩
theorem hasC_set (v : Value) : HasM (.iface 77 v) "Has" 242 v := ⟨_, _, rfl, fun w => by kernel_rfl, fun args w => by kernel_rfl⟩
/-- A value that can be asked what it holds. -/
def IsCon (u : Value) : Prop := ∀ w, (Instr.typeAssert u 43 47 true).run Tryz.prog w = .ok (.tuple #[u, .bool true]) w
theorem isCon_str (v : Value) : IsCon (.iface 98 v) := fun w => run_typeAssert_hasB Tryz.underlying47 (by kernel_rfl) v _ w
theorem isCon_bytes (v : Value) : IsCon (.iface 99 v) := fun w => run_typeAssert_hasB Tryz.underlying47 (by kernel_rfl) v _ w
theorem isCon_tuple (v : Value) : IsCon (.iface 73 v) := fun w => run_typeAssert_hasB Tryz.underlying47 (by kernel_rfl) v _ w
theorem isCon_list (v : Value) : IsCon (.iface 71 v) := fun w => run_typeAssert_hasB Tryz.underlying47 (by kernel_rfl) v _ w
theorem isCon_set (v : Value) : IsCon (.iface 77 v) := fun w => run_typeAssert_hasB Tryz.underlying47 (by kernel_rfl) v _ w
/-- The kinds that hold others. -/
def conS : S → Bool
  | .str _ => true
  | .bytes _ => true
  | .list _ => true
  | .tuple _ => true
  | .set _ => true
  | _ => false
theorem limbs_good {x : Int} (h : good (.int x)) : (limbs x.natAbs).length ≤ 2147483640 := by
  have := good_fit (.int x) h
  simp only [fitS] at this
  omega
theorem elems_any (l : List S) (t : S) (xs : List Value) (v : Value) (w : World) (hl : levL l ≤ 10) (gl : goodL l) (gt : good t) (hkt : KT w) (hkl : KL w) (he : DElems w w.heap.size l xs) (hv : DAt w w.heap.size t v) (k : Nat) (u : Value) (hu : xs[k]? = some u) (W : World) (hW : Below w.heap.size w W) :
    ∃ a, l[k]? = some a ∧ Calls Tryz.prog 80 #[u, v] W (Eqd W (eqV a t)) := by
  have hlen := (DElems.brief l xs he).len
  obtain ⟨hk, _⟩ := List.getElem?_eq_some_iff.1 hu
  have ha := List.getElem?_eq_getElem (show k < l.length by omega)
  obtain ⟨u', hu', su⟩ := he.get l xs k _ ha
  rw [hu] at hu'
  injection hu' with hu'
  subst hu'
  have hla := lev_get l k _ ha
  exact ⟨_, ha, equalV_any _ t u v W (by omega) (goodL_get l k _ ha gl) gt (hkt.below hW) (hkl.below hW) ((su.below hW).more hW.size) ((hv.below hW).more hW.size)⟩
theorem has_any (s t : S) (u v : Value) (w : World) (hc : conS s = true) (hl : lev s ≤ 10) (hl2 : lev t ≤ 10) (gs : good s) (gt : good t) (hkt : KT w) (hkl : KL w) (hu : DAt w w.heap.size s u) (hv : DAt w w.heap.size t v) :
    IsCon u ∧ ∃ f r, HasM u "Has" f r ∧ Calls Tryz.prog f #[r, v] w (HasC w (hasV s t)) := by
  have bu := DAt.brief s u hu
  have bv := DAt.brief t v hv
  cases s with
  | str a =>
    simp only [SAt] at bu
    obtain ⟨rfl, ha⟩ := bu
    refine ⟨isCon_str _, _, _, hasC_str _, ?_⟩
    by_cases hk : kindN t = 4
    · cases t <;> first | (simp [kindN] at hk; done) | skip
      simp only [SAt] at bv
      obtain ⟨rfl, hb⟩ := bv
      exact strHas_yes a _ w ha hb
    · have e : hasV (.str a) t = none := by cases t <;> first | rfl | (exact absurd rfl hk)
      rw [e]
      exact strHas_no a v w (notStrV t hk v bv)
  | bytes a =>
    simp only [SAt] at bu
    obtain ⟨rfl, ha⟩ := bu
    refine ⟨isCon_bytes _, _, _, hasC_bytes _, ?_⟩
    by_cases hk : kindN t = 5
    · cases t <;> first | (simp [kindN] at hk; done) | skip
      simp only [SAt] at bv
      obtain ⟨rfl, hb⟩ := bv
      exact bytesHas_bytes a _ w ha hb
    · by_cases hk2 : kindN t = 2
      · cases t <;> first | (simp [kindN] at hk2; done) | skip
        rename_i n
        simp only [SAt] at bv
        obtain ⟨sm, p, rfl, hn⟩ := bv
        exact bytesHas_int a n sm p w hn (limbs_good gt)
      · have e : hasV (.bytes a) t = none := by cases t <;> first | rfl | (exact absurd rfl hk) | (exact absurd rfl hk2)
        rw [e]
        exact bytesHas_no a v w (notBytesV t hk v bv) (notIntV t hk2 v bv)
  | list l =>
    simp only [lev] at hl
    simp only [DAt] at hu
    obtain ⟨g, A, c, xs, rfl, a1, a2, a3, a4, a5, a6⟩ := hu
    refine ⟨isCon_list _, _, _, hasC_list _, ?_⟩
    have hlen := (DElems.brief l xs a6).len
    refine listHas_any g A l.length c xs v (fun k => match l[k]? with | some a => eqV a t | none => false) (l.any fun a => eqV a t) w a3 a2 a5 (fun k u hu W hW => ?_) (fun k hk hR => ?_) (fun hall => ?_)
    · obtain ⟨a, ha, h⟩ := elems_any l t xs v w (by omega) gs.2 gt hkt hkl a6 hv k u hu W hW
      simp only [ha]
      exact h
    · have ha := List.getElem?_eq_getElem hk
      simp only [ha] at hR
      exact any_at ha hR
    · refine any_none fun k a ha => ?_
      have h := hall k (List.getElem?_eq_some_iff.1 ha).1
      simp only [ha] at h
      exact h
  | tuple l =>
    simp only [lev] at hl
    simp only [DAt] at hu
    obtain ⟨A, c, xs, rfl, a3, a4, a5, a6⟩ := hu
    refine ⟨isCon_tuple _, _, _, hasC_tuple _, ?_⟩
    have hlen := (DElems.brief l xs a6).len
    refine tupleHas_any A l.length c xs v (fun k => match l[k]? with | some a => eqV a t | none => false) (l.any fun a => eqV a t) w a3 a5 (fun k u hu W hW => ?_) (fun k hk hR => ?_) (fun hall => ?_)
    · obtain ⟨a, ha, h⟩ := elems_any l t xs v w (by omega) gs.2 gt hkt hkl a6 hv k u hu W hW
      simp only [ha]
      exact h
    · have ha := List.getElem?_eq_getElem hk
      simp only [ha] at hR
      exact any_at ha hR
    · refine any_none fun k a ha => ?_
      have h := hall k (List.getElem?_eq_some_iff.1 ha).1
      simp only [ha] at h
      exact h
  | set l =>
    simp only [lev] at hl
    simp only [DAt] at hu
    obtain ⟨g, es, xs, rfl, a1, a2, a3, a4, a5, a6⟩ := hu
    obtain ⟨_, kl, dl, gl⟩ := gs
    refine ⟨isCon_set _, _, _, hasC_set _, ?_⟩
    rcases hk : keyS t with _ | _
    · have e : hasV (.set l) t = none := by simp [hasV, hk]
      rw [e]
      exact setHasE_any g v w (hashME_any 10 t v w hl2 bv hk)
    · have e : hasV (.set l) t = some (l.any fun a => eqV a t) := by simp [hasV, hk]
      rw [e]
      refine (setHas_any g v es (fun j => match l[1 * j]? with | some b => eqS t b | none => false) w (lookV_any 1 g 120 es t v l _ w a3 (by omega) hk hl2 (good_fit t gt) bv hkt hkl ?_ ?_)).mono ?_
      · intro i e' he'
        have hi : i < es.length := (List.getElem?_eq_some_iff.1 he').1
        obtain ⟨b, hb⟩ : ∃ b, l[1 * i]? = some b := ⟨_, List.getElem?_eq_getElem (by omega)⟩
        obtain ⟨y1, y2, _⟩ := a5 i e' he'
        obtain ⟨z, hz, sz⟩ := a6.get l xs _ b hb
        rw [y2] at hz
        injection hz with hz
        subst hz
        exact ⟨b, hb, by rw [y1, hsOf_some hb], kl i b hb, good_fit b (goodL_get l _ b hb gl), DAt.brief b _ sz⟩
      · intro j b hb
        simp only [hb]
      · rintro e w' ⟨h, hB⟩
        refine ⟨?_, hB⟩
        rcases h with ⟨j, en, h1, h2, rfl⟩ | ⟨h1, rfl⟩
        · have hj : j < es.length := (List.getElem?_eq_some_iff.1 h1).1
          have hb := List.getElem?_eq_getElem (show 1 * j < l.length by omega)
          simp only [hb] at h2
          have hkb := kl j _ hb
          rw [any_at (k := 1 * j) hb (by rw [eqV_key _ _ hkb hk, eqS_symm]; exact h2)]
        · rw [any_none fun k a ha => ?_]
          have hkl2 : k < l.length := (List.getElem?_eq_some_iff.1 ha).1
          have h := h1 k (by omega)
          simp only [Nat.one_mul, ha] at h
          rw [eqV_key _ _ (kl k a (by rw [Nat.one_mul]; exact ha)) hk, eqS_symm]
          exact h
  | none => simp [conS] at hc
  | bool a => simp [conS] at hc
  | int a => simp [conS] at hc
  | float a => simp [conS] at hc
  | dict a => simp [conS] at hc
/-- What the thin package's Has answers. -/
def HasI (w : World) (o : Option Bool) (e : Ending) (w' : World) : Prop := (match o with | some b => e = .returned (.tuple #[.bool b, .bool true, .bool true]) | none => e = .returned (.tuple #[.bool false, .bool false, .bool true])) ∧ Below w.heap.size w w'
set_option maxRecDepth 10000 in
set_option maxHeartbeats 1000000 in
theorem implHas_any (s t : S) (x y : Value) (w : World) (hc : conS s = true) (hl : lev s ≤ 10) (hl2 : lev t ≤ 10) (gs : good s) (gt : good t) (hkt : KT w) (hkl : KL w) (hx : VAt w w.heap.size s x) (hy : VAt w w.heap.size t y) :
    Calls Tryz.prog 8 #[x, y] w (HasI w (hasV s t)) := by
  have HV := Lib.hid (And.intro hl (And.intro hl2 (And.intro gs (And.intro gt (And.intro hkt (And.intro hkl (And.intro hx hy)))))))
  obtain ⟨neg, A, n, c, b, u, K, m, d, rfl⟩ := hx.shape
  obtain ⟨neg', A', n', c', b', u', K', m', d', rfl⟩ := hy.shape
  generalize hR : hasV s t = R
  generalize kindN s = kd at HV ⊢
  generalize kindN t = kd' at HV ⊢
  have HR := Lib.hid (And.intro hR hc)
  clear hl hl2 gs gt hkt hkl hx hy hR hc
  go_enter Tryz.func8, Tryz.ntmps8
  go_wp2_with fail
  refine gen2 (M := fun W => Calls _ _ _ W _) fun W hB b1 b2 hz => ?_
  have hz1 : w.heap.size + 1 < W.heap.size := by omega
  clear hz b1
  refine (valueD_any 10 s _ W (by omega) HV.out.1 HV.out.2.2.1 (HV.out.2.2.2.2.1.below hB) (HV.out.2.2.2.2.2.1.below hB) ((HV.out.2.2.2.2.2.2.1.below hB).more (by omega))).mono ?_
  rintro e w1 ⟨v, rfl, hB1, hF⟩
  have b3 := b2.below hB1 (by omega)
  obtain ⟨k0, k1, k2, k3, k4, k5, _, _, _, _, _, _⟩ := b3.c6
  have HB := Lib.hid (hB.trans (hB1.mono (by omega)))
  have HF := Lib.hid hF.self
  clear hB hB1 hF b2 b3
  go_wp2_with fail
  refine (valueD_any 10 t _ w1 (by omega) HV.out.2.1 HV.out.2.2.2.1 (HV.out.2.2.2.2.1.below HB.out) (HV.out.2.2.2.2.2.1.below HB.out) ((HV.out.2.2.2.2.2.2.2.below HB.out).more HB.out.size)).mono ?_
  rintro e w2 ⟨v', rfl, hB2, hF2⟩
  have HB2 := Lib.hid (HB.out.trans (hB2.mono HB.out.size))
  obtain ⟨hcon, f, r, ⟨tt, xx, rfl, m1, q1⟩, hcall⟩ := has_any s t v v' w2 HR.out.2 HV.out.1 HV.out.2.1 HV.out.2.2.1 HV.out.2.2.2.1 (HV.out.2.2.2.2.1.below HB2.out) (HV.out.2.2.2.2.2.1.below HB2.out) ((HF.out.below hB2).more hB2.size) hF2.self
  have HE := Lib.hid hcall
  unfold IsCon at hcon
  clear hB2 hF2 HF k0 k1 k2 k3 k4 k5 HV hcall
  go_wp2_with fail
  refine HE.out.mono ?_
  rw [HR.out.1]
  rintro e w3 ⟨h, hB3⟩
  have HB3 := Lib.hid (HB2.out.trans (hB3.mono HB2.out.size))
  clear hB3 HE HR
  cases R with
  | none =>
    obtain ⟨T, z, rfl⟩ := h
    go_wp2_with fail
    go_quiet (fail)
    go_wp2
    go_ret3
    exact ⟨rfl, HB3.out.drewN_ _⟩
  | some R =>
    obtain rfl := h
    cases R
    · go_wp2_with fail
      go_quiet (fail)
      go_wp2
      go_ret3
      exact ⟨rfl, HB3.out.drewN_ _⟩
    · go_wp2_with fail
      go_quiet (fail)
      go_wp2
      go_ret3
      exact ⟨rfl, HB3.out.drewN_ _⟩
end Go.Proofs.YtkmeckimmfbkiaaGreatDoor
