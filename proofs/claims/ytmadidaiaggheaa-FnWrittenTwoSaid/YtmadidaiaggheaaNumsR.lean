/- Slices of numbers that read as lists, and the contracts of slices.Clone at them. -/
import Derived.Test.YtmadidaiaggheaaNums
import Derived.Test.YtmadidaiaggheaaFrame
namespace Go.Proofs.Ytmadidaiaggheaa
open Go.RowKit
set_option linter.unusedVariables false

section
variable {w w' : World} {B B' n c : Nat} {k : IntKind} {A : Option Addr} {zs : List Int}
theorem SlN.keep (h : SlN w B k A n c zs) (hB : B ≤ B') (hk : ∀ b o, b < B → w'.cell? ⟨b, o, none⟩ = w.cell? ⟨b, o, none⟩) : SlN w' B' k A n c zs := ⟨h.len, h.cap, h.mx, h.nil, h.rd.keep hB hk, h.wf⟩
theorem SlN.below (h : SlN w B k A n c zs) (hb : Below B w w') : SlN w' B k A n c zs := h.keep (Nat.le_refl _) fun b o hlt => hb.cell (p := ⟨b, o, none⟩) hlt
theorem SlN.more (h : SlN w B k A n c zs) (hB : B ≤ B') : SlN w B' k A n c zs := h.keep hB fun _ _ _ => rfl
theorem SlN.at_ (h : SlN w B k A n c zs) (hn : 0 < n) : ∃ b o, A = some ⟨b, o, none⟩ ∧ b < B ∧ ∀ j (hj : j < zs.length), w.cell? ⟨b, o + j, none⟩ = some (.int k (zs[j])) := by
  rcases h.rd with e | ⟨b, o, e, hb, hc⟩
  · have h1 := congrArg List.length e
    have := h.len
    simp at h1
    simp [h1] at this
    omega
  · exact ⟨b, o, e, hb, fun j hj => hc j _ (by rw [List.getElem?_map, List.getElem?_eq_getElem hj]; rfl)⟩
theorem OwnN.sl {base : Nat} {e : TypeId} {v : Value} (h : OwnN w base e k v zs) (hw : ∀ z ∈ zs, (Lit.int k z).wf = true) : ∃ A n c, v = .slice A n c ∧ SlN w w.heap.size k A n c zs := by
  rcases h.2 with ⟨rfl, hn⟩ | ⟨g, cap, cur, rfl, hb, hh, hnc, hcm, hs, hx⟩
  · have hl : zs = [] := List.eq_nil_of_length_eq_zero hn
    subst hl
    exact ⟨none, 0, 0, rfl, rfl, Nat.le_refl _, by omega, fun _ => rfl, .inl rfl, by simp⟩
  · refine ⟨_, _, _, rfl, rfl, hnc, by simpa [maxLen] using hcm, fun e => (by cases e), .inr ⟨g, 0, rfl, (h.lt g rfl).2, fun j u hu => ?_⟩, hw⟩
    have := World.ownsRow.cells h (g := g) rfl j u hu
    rwa [Addr.add_lit] at this
end

/-- append onto a row of numbers of the call's own, whatever the source is. -/
theorem wpList_apN {w : World} {ops : Array Oper} {rest : List Oper} {o : Oper} {a : Act} {Q : Exit → Act → World → Prop} (T e : TypeId) (kd : IntKind) (by_ : Nat) (hT : Try.prog.underlying T = some (.slice e))
    (hinfo : (Try.prog.info? e).map (fun i => (i.zero, i.size, i.bytes)) = some (some (.int kd 0), 1, by_)) (hby : by_ ≤ 8) (hgd : o.guard = none) (s x : Operand)
    (ho : o.op = .call { callee := .builtin .append, args := #[s, x], argTypes := #[T, T] })
    (base : Nat) (v : Value) (l : List Int) (hs : a.eval s = v) (hown : OwnN w base e kd v l) (B : Nat) (A : Option Addr) (m c : Nat) (l2 : List Int) (hx : a.eval x = .slice A m c) (hr : SlN w B kd A m c l2)
    (hlen : l.length + l2.length ≤ 4294967296) (hbase : base ≤ w.heap.size)
    (h : ∀ v' w', OwnN w' base e kd v' (l ++ l2) → w.grownBy w' v.ownBlock → (v'.ownBlock = v.ownBlock ∨ v'.ownBlock = some w.heap.size) → wpList Try.prog ops Q rest (a.put o.dst v') w') :
    wpList Try.prog ops Q (o :: rest) a w := by
  obtain ⟨i0, hi0, hz0, hz1, hz2⟩ := info_parts hinfo
  have hm := hr.len
  subst hm
  rcases A with _ | ad
  · have hc := hr.nil rfl
    subst hc
    have h0 : l2 = [] := List.eq_nil_of_length_eq_zero (by have := hr.cap; omega)
    subst h0
    refine wpList_append_own_none hgd s x T ho base e i0 1 hT hi0 v l.length _ hs hown hx ?_
    exact h v w (by rw [List.append_nil]; exact hown) (World.grownBy.refl w _) (.inl rfl)
  · refine wpList_append_own_at w hgd s x T ho base e i0 (.int kd 0) 1 by_ hT hi0 hz0 hz1 hz2 rfl (by omega) v l.length _ hs hown ad l2.length c (l2.map (Value.int kd)) hx (by rw [List.length_map, Nat.mul_one]) ?_ (fun u hu => by simp at hu; obtain ⟨z, _, rfl⟩ := hu; rfl) (by unfold maxLen; omega) (Nat.le_trans (Nat.mul_le_mul_left _ hby) (by omega)) hbase ?_
    · intro j u hu
      rcases hr.rd with e | ⟨b, o, e, hb, hc⟩
      · rw [e] at hu; simp at hu
      · cases e
        rw [Addr.add_lit]; exact hc j u hu
    · intro v' w' h1 h2 _ h3
      refine h v' w' ?_ h2 h3
      unfold OwnN
      rw [List.length_append, List.map_append]; exact h1

def ReadsN (w : World) (k : IntKind) (zs : List Int) (e : Ending) (w' : World) : Prop := ∃ A n c, e = .returned (.slice A n c) ∧ SlN w' w'.heap.size k A n c zs ∧ Below w.heap.size w w'
theorem info64 : (Try.prog.info? 2).map (fun i => (i.zero, i.size, i.bytes)) = some (some (.int .i64 0), 1, 8) := by kernel_rfl

theorem clone64_any (A : Option Addr) (n c B : Nat) (zs : List Int) (w : World) (hs : Hid (SlN w B .i64 A n c zs)) (hB : B ≤ w.heap.size) (hn : n ≤ 2147483647) :
    Calls Try.prog 23 #[.slice A n c] w (ReadsN w .i64 zs) := by
  rcases A with _ | ad
  · have hq := fun (W : World) => Lib.run_eql_slice_nil (P := Try.prog) W 26 2 none n c 0 0 Try.underlying26
    have h0 : zs = [] := List.eq_nil_of_length_eq_zero (by have := hs.out.nil rfl; have := hs.out.cap; have := hs.out.len; omega)
    go_enter Try.func23, Try.ntmps23
    go_wp2
    go_ret
    exact ⟨none, 0, 0, rfl, by subst h0; exact ⟨rfl, Nat.le_refl _, by omega, fun _ => rfl, .inl rfl, by simp⟩, Below.refl _ _⟩
  · have hq := fun (W : World) => Lib.run_eql_slice_nil (P := Try.prog) W 26 2 (some ad) n c 0 0 Try.underlying26
    go_enter Try.func23, Try.ntmps23
    go_wp2_with (at_builtin; refine wpList_apN 26 2 .i64 8 Try.underlying26 info64 (by omega) rfl _ _ rfl w.heap.size (.slice (some ⟨w.heap.size, 0, none⟩) 0 0) [] rfl (World.ownsRow_made w #[] 0 (Nat.le_refl _) (by unfold maxLen; omega) rfl) B (some ad) n c zs rfl (hs.out.below ((Below.refl _ _).alloc hB _)) (by have := hs.out.len; simp; omega) (by simp) ?_; intro v1 w1 hown1 hg1 _)
    go_ret
    obtain ⟨A', n', c', rfl, h⟩ := OwnN.sl (zs := [] ++ zs) hown1 (by simpa using hs.out.wf)
    exact ⟨A', n', c', rfl, h, ((Below.refl _ _).alloc (Nat.le_refl _) _).grown hg1 (by simp) (fun k hk => by simp [Value.ownBlock] at hk; omega)⟩
theorem clone32_any (A : Option Addr) (n c B : Nat) (zs : List Int) (w : World) (hs : Hid (SlN w B .i32 A n c zs)) (hB : B ≤ w.heap.size) (hn : n ≤ 2147483647) :
    Calls Try.prog 24 #[.slice A n c] w (ReadsN w .i32 zs) := by
  rcases A with _ | ad
  · have hq := fun (W : World) => Lib.run_eql_slice_nil (P := Try.prog) W 27 21 none n c 0 0 Try.underlying27
    have h0 : zs = [] := List.eq_nil_of_length_eq_zero (by have := hs.out.nil rfl; have := hs.out.cap; have := hs.out.len; omega)
    go_enter Try.func24, Try.ntmps24
    go_wp2
    go_ret
    exact ⟨none, 0, 0, rfl, by subst h0; exact ⟨rfl, Nat.le_refl _, by omega, fun _ => rfl, .inl rfl, by simp⟩, Below.refl _ _⟩
  · have hq := fun (W : World) => Lib.run_eql_slice_nil (P := Try.prog) W 27 21 (some ad) n c 0 0 Try.underlying27
    go_enter Try.func24, Try.ntmps24
    go_wp2_with (at_builtin; refine wpList_apN 27 21 .i32 4 Try.underlying27 infoI (by omega) rfl _ _ rfl w.heap.size (.slice (some ⟨w.heap.size, 0, none⟩) 0 0) [] rfl (World.ownsRow_made w #[] 0 (Nat.le_refl _) (by unfold maxLen; omega) rfl) B (some ad) n c zs rfl (hs.out.below ((Below.refl _ _).alloc hB _)) (by have := hs.out.len; simp; omega) (by simp) ?_; intro v1 w1 hown1 hg1 _)
    go_ret
    obtain ⟨A', n', c', rfl, h⟩ := OwnN.sl (zs := [] ++ zs) hown1 (by simpa using hs.out.wf)
    exact ⟨A', n', c', rfl, h, ((Below.refl _ _).alloc (Nat.le_refl _) _).grown hg1 (by simp) (fun k hk => by simp [Value.ownBlock] at hk; omega)⟩
end Go.Proofs.Ytmadidaiaggheaa
