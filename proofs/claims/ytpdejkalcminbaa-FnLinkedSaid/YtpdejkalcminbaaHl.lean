/- hasLinkHelper: the names at a distance, level by level. -/
import Derived.Test.YtpdejkalcminbaaFm
import Derived.IntWalk
namespace Go.Proofs.Ytpdejkalcminbaa.Hl
open Go.RowKit Go.ChangeMaps Go.Proofs.Ytpdejkalcminbaa.Hm Go.Proofs.Ytpdejkalcminbaa.Hp Go.Proofs.Ytpdejkalcminbaa.Zm Go.Proofs.Ytpdejkalcminbaa.Mk Go.Proofs.Ytpdejkalcminbaa.Rg Go.Proofs.Ytpdejkalcminbaa.Ro Go.Proofs.Ytpdejkalcminbaa.Rm Go.Proofs.Ytpdejkalcminbaa.Gr Go.Proofs.Ytpdejkalcminbaa.Us Go.Proofs.Ytpdejkalcminbaa.Gu Go.Proofs.Ytpdejkalcminbaa.Fm

/-- One comes from a to b by so many links. -/
def Reach (L : List (ByteArray × ByteArray)) : Nat → ByteArray → ByteArray → Prop
  | 0, a, b => a = b
  | j + 1, a, b => ∃ m ∈ up L a, Reach L j m b

/-- The names so far: those of before, and the first i of the list. -/
def Got (R : ByteArray → Nat) (T0 : List ByteArray) (l : List (ByteArray × Nat)) (i : Nat) (o : Ob) : Prop := ∃ es c T, o = .raw (.map es c) ∧ FM R es c T ∧ ∀ x, x ∈ T ↔ x ∈ T0 ∨ x ∈ (l.take i).map (·.1)

set_option maxHeartbeats 1000000 in
set_option maxRecDepth 100000 in
/-- hasLinkHelper$1. -/
theorem adds {w0 w : World} {H : Heap} {nv mb c : Nat} {es : Array MapEntry} {R : ByteArray → Nat} {S : List ByteArray} (k : ByteArray) (h : Rep w0 w H) (hv : H nv = some (.raw (.cells #[.map (some mb)] 88 (0, 0)))) (hm : H mb = some (.raw (.map es c))) (F : FM R es c S) :
    Calls Try.prog 76 #[.iface 9 (.string k), .iface 78 (pt (R k)), pt nv] w fun e w' => e = .returned (.bool true) ∧ ∃ es' c' S', FM R es' c' S' ∧ (∀ x, x ∈ S' ↔ x ∈ S ∨ x = k) ∧ Rep w0 w' (upd H mb (.raw (.map es' c'))) := by
  have c0 : w.cell? ⟨nv, 0, none⟩ = some (.map (some mb)) := cell_of (h.at hv) 0 rfl
  obtain ⟨es', c', S', hrun, F', hS'⟩ := put (h.drew.at hm) F k
  have h2 := rep_setBlock h.drew hm (.map es' c')
  have hta : ∀ (v : Value) (W : World), (Instr.typeAssert (.iface 9 v) 20 9 false).run Try.prog W = .ok v W := fun v W => by rfl
  have htb : ∀ (v : Value) (W : World), (Instr.typeAssert (.iface 78 v) 20 78 false).run Try.prog W = .ok v W := fun v W => by rfl
  have E := hid (show ∃ es' c' S', FM R es' c' S' ∧ (∀ x, x ∈ S' ↔ x ∈ S ∨ x = k) ∧ Rep w0 _ (upd H mb (.raw (.map es' c'))) from ⟨es', c', S', F', hS', h2⟩)
  clear h hv hm F F' hS' h2
  go_enter Try.func76, Try.ntmps76
  go_wp2
  go_still_tail 5, (by kernel_rfl)
  change wpList _ _ _ _ _ w.drew
  generalize w.drew = W at hrun E ⊢
  go_wp2
  go_ret
  exact ⟨rfl, E.out⟩

theorem enters76 : ∀ args w, (callFunc 76 args).run Try.prog w = .ok (.enter 76 args) w := enters_of Try.func76 (by kernel_rfl) rfl

theorem adds_body {w0 : World} {nv mb : Nat} {R : ByteArray → Nat} {T0 : List ByteArray} {l : List (ByteArray × Nat)} {B : Heap} (hl : ∀ x ∈ l, x.2 = R x.1) (hB : B nv = some (.raw (.cells #[.map (some mb)] 88 (0, 0)))) : Body w0 l 78 76 mb #[pt nv] (Got R T0 l) B := by
  intro i x hx w H o h he hv ho
  obtain ⟨es, c, T, rfl, F, hT⟩ := ho
  have := adds x.1 h (he _ _ hB) hv F
  rw [← hl x (List.mem_of_getElem? hx)] at this
  refine this.mono ?_
  rintro e w' ⟨rfl, es', c', S', F', hS', h'⟩
  refine ⟨rfl, _, ⟨es', c', S', rfl, F', fun y => ?_⟩, h'⟩
  rw [hS', hT, List.take_add_one, hx]
  simp [or_assoc]

/-- An entry that the loop has met. -/
def Met (es : Array MapEntry) (seen : Array Nat) (n : ByteArray) : Prop := ∃ e ∈ es.toList, seen.contains e.born = true ∧ e.key = .string n

/-- Between two rounds of the loop over the names of a level. -/
structure LoopSt (w0 : World) (H : Heap) (P : Ptr) (L : List (ByteArray × ByteArray)) (b : ByteArray) (rb mb nv it c : Nat) (es : Array MapEntry) (S : List ByteArray) (wr : World) (H' : Heap) (seen : Array Nat) (c0 : Nat) (es' : Array MapEntry) (c' : Nat) (T : List ByteArray) : Prop where
  rep : Rep w0 wr H'
  ext : Ext H H'
  nv_ : H' nv = some (.raw (.cells #[.map (some mb)] 88 (0, 0)))
  mb_ : H' mb = some (.raw (.map es' c'))
  it_ : H' it = some (.raw (.mapIter (some rb) c seen c0))
  fm : FM P.ro es' c' T
  le : c ≤ c0
  cov : ∀ x, x ∈ T ↔ ∃ n ∈ S, Met es seen n ∧ x ∈ up L n
  no : ∀ n ∈ S, Met es seen n → n ≠ b

theorem met_push {R : ByteArray → Nat} {es : Array MapEntry} {c : Nat} {S : List ByteArray} (F : FM R es c S) {seen : Array Nat} {e : MapEntry} {n : ByteArray} (he : e ∈ es.toList) (hk : e.key = .string n) (x : ByteArray) : Met es (seen.push e.born) x ↔ Met es seen x ∨ x = n := by
  unfold Met
  constructor
  · rintro ⟨e', h1, h2, h3⟩
    simp only [Array.contains_push, Bool.or_eq_true, beq_iff_eq] at h2
    rcases h2 with h2 | h2
    · exact .inl ⟨e', h1, h2, h3⟩
    · right
      have := born_inj F.st.2.1 h1 he h2
      subst this
      rw [hk] at h3
      cases h3
      rfl
  · rintro (⟨e', h1, h2, h3⟩ | rfl)
    · exact ⟨e', h1, by simp only [Array.contains_push, h2, Bool.true_or], h3⟩
    · exact ⟨e, he, by simp, hk⟩

theorem reach_step {L : List (ByteArray × ByteArray)} {b : ByteArray} {k : Nat} {S T : List ByteArray} (cov : ∀ x, x ∈ T ↔ ∃ n ∈ S, x ∈ up L n) (no : ∀ n ∈ S, n ≠ b) :
    (∃ j, j < k ∧ ∃ n ∈ T, Reach L j n b) ↔ ∃ j, j < k + 1 ∧ ∃ n ∈ S, Reach L j n b := by
  constructor
  · rintro ⟨j, hj, x, hx, hr⟩
    obtain ⟨n, hn, hm⟩ := (cov x).mp hx
    exact ⟨j + 1, by omega, n, hn, x, hm, hr⟩
  · rintro ⟨j, hj, n, hn, hr⟩
    cases j with
    | zero => exact absurd hr (no n hn)
    | succ j =>
      obtain ⟨m, hm, hr⟩ := hr
      exact ⟨j, by omega, m, (cov m).mpr ⟨n, hn, hm⟩, hr⟩

theorem all_met {R : ByteArray → Nat} {es : Array MapEntry} {c : Nat} {S : List ByteArray} (F : FM R es c S) {seen : Array Nat} (h : leftOf es seen = #[]) {n : ByteArray} (hn : n ∈ S) : Met es seen n := by
  obtain ⟨e, he, hk, _⟩ := F.of hn
  refine ⟨e, he, ?_, hk⟩
  cases hc : seen.contains e.born with
  | true => rfl
  | false =>
    have : e ∈ (leftOf es seen).toList := by
      simp only [leftOf, Array.toList_filter, List.mem_filter]
      exact ⟨he, by rw [hc]; rfl⟩
    rw [h] at this
    simp at this

theorem str_inj {a b : ByteArray} (h : a.toList = b.toList) : a = b := by
  rw [Go.ByteArray.toList_eq, Go.ByteArray.toList_eq] at h
  cases a with | mk x => cases b with | mk y => congr 1; exact Array.toList_inj.mp h

/-- What is left of the loop. -/
def leftIn (es : Array MapEntry) (it : Nat) (w : World) : Nat := match w.heap[it]? with
  | some (.mapIter _ _ seen _) => (leftOf es seen).size
  | _ => 0
theorem leftIn_eq {es : Array MapEntry} {it : Nat} {w : World} {m : Option Nat} {s c : Nat} {seen : Array Nat} (h : w.heap[it]? = some (.mapIter m s seen c)) : leftIn es it w = (leftOf es seen).size := by simp [leftIn, h]

/-- What hasLinkHelper answers. -/
def Post (w0 : World) (H : Heap) (L : List (ByteArray × ByteArray)) (b : ByteArray) (k : Nat) (S : List ByteArray) (e : Ending) (w' : World) : Prop := ∃ v H', e = .returned (.bool v) ∧ (v = true ↔ ∃ j, j < k ∧ ∃ n ∈ S, Reach L j n b) ∧ Rep w0 w' H' ∧ Ext H H'

set_option maxHeartbeats 2000000 in
set_option maxRecDepth 100000 in
/-- hasLinkHelper. -/
theorem helper {w0 : World} {P : Ptr} {r : Nat} {names : List ByteArray} {L : List (ByteArray × ByteArray)} {b : ByteArray} (hL : L.length < 100000) : ∀ (k : Nat) (lv : Int) (w : World) (H : Heap) (rb c : Nat) (es : Array MapEntry) (S : List ByteArray),
    lv = (k : Int) - 1 → k ≤ 11 → Rep w0 w H → RMp P H r names L → H rb = some (.raw (.map es c)) → FM P.ro es c S → (∀ n ∈ S, n ∈ names) →
    Calls Try.prog 54 #[pt r, .string b, .map (some rb), .int .i64 lv] w (Post w0 H L b k S) := by
  intro k
  induction k with
  | zero =>
    intro lv w H rb c es S hlv _ h _ _ _ _
    obtain rfl : lv = -1 := by omega
    clear hlv
    have HR := hid h
    clear h
    go_enter Try.func54, Try.ntmps54
    go_wp2
    go_ret
    exact ⟨false, H, rfl, by simp, HR.out, Ext.refl H⟩
  | succ k ih =>
    intro lv w H rb c es S hlv hk h R hb F hS
    obtain rfl : lv = (k : Int) := by omega
    clear hlv
    have hlen := len88 (h.at hb) 3
    have hk0 : ¬ ((k : Int) < 0) := by omega
    by_cases h0 : es.size = 0
    · have hS0 : S = [] := List.eq_nil_of_length_eq_zero (by rw [← F.size]; exact h0)
      subst hS0
      simp only [h0, Int.ofNat_zero] at hlen
      have HR := hid h
      clear h R hb F hS h0 ih
      go_enter Try.func54, Try.ntmps54
      go_wp2
      go_ret
      exact ⟨false, H, rfl, by simp, HR.out, Ext.refl H⟩
    · have f0 := h.fresh (Nat.le_refl w.heap.size)
      have f1 := h.fresh (show w.heap.size ≤ w.heap.size + 1 by omega)
      have f2 := h.fresh (show w.heap.size ≤ w.heap.size + 1 + 1 by omega)
      have hbl := lt_of_block (h.at hb)
      have r1 := ((h.raw (.map #[] 0) (n := w.heap.size) rfl).raw (.cells #[.map (some w.heap.size)] 88 (0, 0)) (n := w.heap.size + 1) (by simp))
      have hW := r1.at (b := rb) (o := .map es c) (by rw [upd_ne (by omega), upd_ne (by omega)]; exact hb)
      have hrange := run_range_map (P := Try.prog) _ 88 9 78 rb es c Try.underlying88 hW
      have r2 := r1.raw (.mapIter (some rb) c #[] c) (n := w.heap.size + 1 + 1) (by simp)
      have ST := hid (show LoopSt w0 H P L b rb w.heap.size (w.heap.size + 1) (w.heap.size + 1 + 1) c es S _ _ #[] c #[] 0 [] from
        ⟨r2, (((Ext.refl H).upd f0 _).upd f1 _).upd f2 _, by rw [upd_ne (by omega), upd_at], by rw [upd_ne (by omega), upd_ne (by omega), upd_at], upd_at _ _ _, FM.empty _, Nat.le_refl _, fun x => by simp [Met], fun n _ hm => by simp [Met] at hm⟩)
      have h0' : (es.size : Int) ≠ 0 := by omega
      have hmm := @run_makeMap Try.prog
      have HH := hid h
      have HRM := hid R
      have HB := hid hb
      have HF := hid F
      have HS := hid hS
      have FR := hid (And.intro f0 (And.intro f1 f2))
      clear h R hb F hS f0 f1 f2 r1 r2 hbl h0 hW
      go_enter Try.func54, Try.ntmps54
      go_wp2
      clear hlen hrange
      generalize hmbq : w.heap.size = mb at ST FR ⊢
      generalize (((w.alloc (.map #[] 0)).alloc (.cells #[.map (some mb)] 88)).alloc (.mapIter (some rb) c #[] c)) = W1 at ST ⊢
      go_loopw [11] (fun _ wr => ∃ H' seen c0 es' c' T, LoopSt w0 H P L b rb mb (mb + 1) (mb + 1 + 1) c es S wr H' seen c0 es' c' T) (fun _ wr => leftIn es (mb + 1 + 1) wr)
      case atStart => exact ⟨_, _, _, _, _, _, ST.out⟩
      case round =>
        obtain ⟨H', seen, c0, es', c', T, hst⟩ := hrel
        have ST' := hid hst
        clear hst ST
        have HNE : ∀ {x y : Nat}, H' x ≠ H' y → x ≠ y := fun h e => h (by rw [e])
        go_wp2_with (at_next; refine wpList_next_fm (R := P.ro) (S := S) rfl _ rfl rfl ST'.out.rep ST'.out.it_ (ST'.out.ext _ _ HB.out) HF.out (Nat.le_refl _) ST'.out.le ?_ ?_)
        · intro hleft
          have hcov : ∀ x, x ∈ T ↔ ∃ n ∈ S, x ∈ up L n := fun x => by
            rw [ST'.out.cov]
            exact ⟨fun ⟨n, h1, _, h2⟩ => ⟨n, h1, h2⟩, fun ⟨n, h1, h2⟩ => ⟨n, h1, all_met HF.out hleft h1, h2⟩⟩
          have hno : ∀ n ∈ S, n ≠ b := fun n hn => ST'.out.no n hn (all_met HF.out hleft hn)
          have RS := hid (reach_step (k := k) hcov hno)
          have R' := HRM.out.ext ST'.out.ext
          have hT : ∀ n ∈ T, n ∈ names := fun x hx => by
            obtain ⟨n, _, hm⟩ := (hcov x).mp hx
            exact (HRM.out.lk _ (mem_up.mp hm)).2
          have CH := hid (ih ((k : Int) - 1) wr H' mb c' es' T rfl (by omega) ST'.out.rep R' ST'.out.mb_ ST'.out.fm hT)
          have v0 : wr.cell? ⟨mb + 1, 0, none⟩ = some (.map (some mb)) := cell_of (ST'.out.rep.at ST'.out.nv_) 0 rfl
          have hsub : IntKind.i64.wrap ((k : Int) - 1) = (k : Int) - 1 := IntWalk.i64_in _ (by omega)
          clear hleft hcov hno R' hT ih h0' hk0 HNE
          go_wp2_with fail
          refine CH.out.mono ?_
          rintro e w' ⟨v, H2, rfl, hv, h2, x2⟩
          have FIN := hid (show Post w0 H L b (k + 1) S (.returned (.bool v)) w' from ⟨v, H2, rfl, hv.trans RS.out, h2, ST'.out.ext.trans x2⟩)
          clear hv h2 x2 CH
          go_wp2
          go_ret
          exact FIN.out
        · intro n e w2 hstep hen
          have SP := hid hstep
          have hel : e ∈ es.toList := by
            have := hstep.mem
            simp only [leftOf, Array.toList_filter, List.mem_filter] at this
            exact this.1
          have hmeas := left_less hstep.mem
          have hnn := HS.out n hstep.name
          have R1 := HRM.out.ext ST'.out.ext
          have ne_it : ∀ {q o}, H' q = some o → (∀ m s x c, o ≠ .raw (.mapIter m s x c)) → q ≠ mb + 1 + 1 := fun hq ho e => by
            rw [e, ST'.out.it_] at hq; cases hq; exact ho _ _ _ _ rfl
          have K : ∀ {q o}, H' q = some o → (∀ m s x c, o ≠ .raw (.mapIter m s x c)) → upd H' (mb + 1 + 1) (.raw (.mapIter (some rb) c (seen.push e.born) c)) q = some o := fun hq ho => by
            rw [upd_ne (ne_it hq ho)]; exact hq
          have hext : Ext H (upd H' (mb + 1 + 1) (.raw (.mapIter (some rb) c (seen.push e.born) c))) := ST'.out.ext.upd FR.out.2.2 _
          have R2 := HRM.out.ext hext
          have hmb2 := K ST'.out.mb_ (fun _ _ _ _ e => by cases e)
          have hnv2 := K ST'.out.nv_ (fun _ _ _ _ e => by cases e)
          have hit2 : upd H' (mb + 1 + 1) (.raw (.mapIter (some rb) c (seen.push e.born) c)) (mb + 1 + 1) = _ := upd_at _ _ _
          have hrep := hstep.rep
          generalize upd H' (mb + 1 + 1) (.raw (.mapIter (some rb) c (seen.push e.born) c)) = H2 at hrep hext R2 hmb2 hnv2 hit2
          have n0 : w2.cell? ⟨P.ro n, 0, none⟩ = some (.string n) := cell_of (hrep.at (R2.ro_ n hnn)) 0 rfl
          have q2 : w2.cell? ⟨r, 2, none⟩ = some .nilFunc := cell_of (hrep.at R2.r_) 2 rfl
          have hnf := neq_nilFunc
          have HEL := hid hel
          have HK := hid hstep.key
          have HX := hid hext
          have HR2 := hid R2
          have HMB := hid hmb2
          have HNV := hid hnv2
          have HIT := hid hit2
          have HREP := hid hrep
          have HNN := hid hnn
          have HME := hid hmeas
          have HNA := hid hstep.name
          clear hstep hel hmeas hnn R1 ne_it K hext R2 hmb2 hnv2 hit2 hrep ih h0' HNE
          by_cases hbn : b = n
          · subst hbn
            have FIN := hid (show Post w0 H L b (k + 1) S (.returned (.bool true)) w2 from ⟨true, H2, rfl, by simp only [true_iff]; exact ⟨0, by omega, b, HNA.out, rfl⟩, HREP.out, HX.out⟩)
            go_wp2
            go_ret
            exact FIN.out
          · have hbq : (b.toList == n.toList) = false := beq_eq_false_iff_ne.mpr (fun e => hbn (str_inj e))
            have hmf : ∀ (fn : Fn) (first cap : Array Value) (w : World), (Instr.makeFunc fn first cap).run Try.prog w = .ok (.func fn first cap) w := fun _ _ _ _ => rfl
            have HBN := hid hbn
            clear hbn
            have hlen : ((up L n).map fun m => (m, P.ro m)).length < 1000000 := by have := up_le L n; simp; omega
            have hnd : (((up L n).map fun m => (m, P.ro m)).map (·.1)).Nodup := by simpa [Function.comp_def] using up_nodup HR2.out.ndL n
            have ne : ∀ {q o}, H2 q = some o → (∀ es c, o ≠ .raw (.map es c)) → q ≠ mb := fun hq ho e => by
              rw [e, HMB.out] at hq; cases hq; exact ho _ _ rfl
            have CU := hid (rangeRoles (B := fun x => if x = mb + 1 then some (.raw (.cells #[.map (some mb)] 88 (0, 0))) else none) (C := #[pt (mb + 1)]) (S := Got P.ro T ((up L n).map fun m => (m, P.ro m))) (o := .raw (.map es' c')) (nv := mb)
              enters76 HREP.out (HR2.out.ro_ n HNN.out) (HR2.out.a_ n HNN.out) (HR2.out.d_ n HNN.out) hnd hlen
              (fun z hz => by
                obtain ⟨m, hm, rfl⟩ := List.mem_map.mp hz
                have hmn := (HR2.out.lk _ (mem_up.mp hm)).2
                exact ⟨m, _, _, _, _, _, _, _, HR2.out.ro_ m hmn, HR2.out.c_ m hmn, ne (HR2.out.ro_ m hmn) (fun _ _ e => by cases e), ne (HR2.out.c_ m hmn) (fun _ _ e => by cases e)⟩)
              (fun x o hx => by
                by_cases e : x = mb + 1
                · simp only [e, if_true, Option.some.injEq] at hx
                  rw [e, ← hx]; exact HNV.out
                · simp [e] at hx)
              (by simp) (ne (HR2.out.ro_ n HNN.out) (fun _ _ e => by cases e)) (ne (HR2.out.a_ n HNN.out) (fun _ _ e => by cases e)) (ne (HR2.out.d_ n HNN.out) (fun _ _ e => by cases e)) HMB.out ⟨es', c', T, rfl, ST'.out.fm, fun x => by simp⟩
              (adds_body (fun x hx => by obtain ⟨m, _, rfl⟩ := List.mem_map.mp hx; rfl) (by simp)))
            clear hlen hnd ne
            go_wp2_with fail
            refine CU.out.mono ?_
            rintro e3 w3 ⟨rfl, o', ho', h3⟩
            obtain ⟨es3, c3, T3, rfl, F3, hT3⟩ := ho'
            have NX : LoopSt w0 H P L b rb mb (mb + 1) (mb + 1 + 1) c es S w3 (upd H2 mb (.raw (.map es3 c3))) (seen.push e.born) c es3 c3 T3 :=
              ⟨h3, HX.out.upd FR.out.1 _, by rw [upd_ne (by omega)]; exact HNV.out, upd_at _ _ _, by rw [upd_ne (by omega)]; exact HIT.out, F3, Nat.le_refl _, fun x => by
                rw [hT3, ST'.out.cov, List.take_of_length_le (Nat.le_refl _), List.map_map]
                simp only [Function.comp_def, List.map_id']
                constructor
                · rintro (⟨n', h1, h2, h4⟩ | h1)
                  · exact ⟨n', h1, (met_push HF.out HEL.out HK.out n').mpr (.inl h2), h4⟩
                  · exact ⟨n, HNA.out, (met_push HF.out HEL.out HK.out n).mpr (.inr rfl), h1⟩
                · rintro ⟨n', h1, h2, h4⟩
                  rcases (met_push HF.out HEL.out HK.out n').mp h2 with h2 | rfl
                  · exact .inl ⟨n', h1, h2, h4⟩
                  · exact .inr h4,
              fun n' h1 h2 => by
                rcases (met_push HF.out HEL.out HK.out n').mp h2 with h2 | rfl
                · exact ST'.out.no n' h1 h2
                · exact fun e => HBN.out e.symm⟩
            have NX' := hid NX
            clear h3 F3 hT3 NX CU
            go_wp2
            go_roundw
            case rel => exact ⟨_, _, _, _, _, _, NX'.out⟩
            case measure =>
              rw [leftIn_eq (NX'.out.rep.at NX'.out.it_), leftIn_eq (ST'.out.rep.at ST'.out.it_)]
              exact HME.out

end Go.Proofs.Ytpdejkalcminbaa.Hl
